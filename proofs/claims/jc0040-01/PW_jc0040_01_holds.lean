import PyProof.Rows.All
import KE.KRevSl
import KE.KSuperObj
import OpenK.AllK
import PyProof.AttrMissHeap
import PyProof.CallStr
import PyProof.InstSpecial
import PyProof.Rows.StrCountLaw
import PyProof.Rows.StrStrike
import PyProof.StrLawsTight
import PyProof.SumWalkG
import PyProof.WalkInts
import Wide.All
import Wide.FinOn
import Lean
import PySem.Challenge.RW_jc0040_01
set_option Elab.async false
set_option maxRecDepth 100000
set_option maxHeartbeats 0
set_option linter.all false
set_option hygiene false
open Array.Perm renaming refl→Ph
open Array renaming any_toList→Pj,eraseIdxIfInBounds→Pk,getD_eq_getD_getElem?→Ea,getElem?_eq_getElem→rq,getElem?_eq_none→yi,getElem?_eq_some_iff→rr,getElem?_push→Pl,getElem?_toList→ke,length_toList→gI,mem_toList_iff→Pm,replicate→pE,size_append→Pn,size_extract→Eb,toList_append→yj,toList_push→pF,toList_setIfInBounds→Po
open Bool renaming and_eq_true→fF,and_false→Ec,eq_false_iff→yk,eq_iff_iff→mM,false→ag,false_eq_true→gc,false_ne_true→fG,not_eq_true→Pq,not_eq_true'→yl,not_true→tR,or_eq_false_iff→tS,or_eq_true→rt,or_false→tT,or_true→tU,true→ae
open Eq renaming mp→tW,ndrec→yo,refl→pG,symm→mN,trans→Ee
open Exists renaming casesOn→Pr,elim→Eh,intro→Pt
open ForInStep renaming yield→lK
open HAdd renaming hAdd→Ei
open HSub renaming hSub→Ej
open IO renaming Ref→pH,getNumHeartbeats→Ek,mkRef→yr
open Id renaming run→ys
open Iff renaming rfl→yt
open Int renaming emod_lt_of_pos→yu,emod_nonneg→El,eq_ofNat_of_zero_le→Py,fdiv_eq_ediv_of_nonneg→Em,fmod_eq_emod_of_nonneg→En,le_total→Pz,mul_add→Eo,mul_comm→PA,natAbs_natCast→yv,natCast_mul→PB,natCast_nonneg→nY,toNat_natCast→PC
open LE renaming le→rv
open LT renaming lt→rx
open Lean renaming ConstantInfo→fS,Declaration→Ep,Expr→eC,LocalDecl→yz,MVarId→fq,Name→bJ,instantiateMVars→dN,logInfo→yD,mkApp→fT,mkApp2→dV,mkApp3→iE,mkApp4→ub,mkAppN→eu,mkConst→Ew,mkFVar→Ey,mkFreshFVarId→Ez,mkNatLit→mS,mkRawNatLit→od
open Lean.Core renaming transform→yy
open Lean.Elab.Tactic renaming TacticM→il,evalTactic→FQ,getMainGoal→mQ,getUnsolvedGoals→PD,run→PE,withMainContext→JW,withoutRecover→PF
open Lean.Elab.Term renaming TermElabM→Er,elabType→PG,synthesizeSyntheticMVarsNoPostponing→PH
open Lean.Expr renaming proj→ry
open Lean.Meta renaming MetaM→bO,evalNat→yA,forallMetaTelescope→yB,forallTelescope→Es,getLocalDeclFromUserName→Eu,inferType→mR,isDefEq→hP,isProp→oa,mkAppM→ho,mkEqRefl→oc,mkFreshExprSyntheticOpaqueMVar→yC,mkLambdaFVars→pI,mkListLit→rz,unfoldDefinition?→PI,whnf→cc,whnfR→vb,withLocalDeclD→pJ,withReducible→jx
open Lean.Name renaming mkSimple→PJ
open Lean.Parser renaming runParserCategory→PK
open List renaming Nodup→PL,all_eq_true→fe,any_nil→PM,append_assoc→du,append_nil→gy,cons→rA,cons_append→fH,cons_lt_cons_iff→PN,contains_cons→uc,contains_iff_mem→EC,count_le_length→PO,dropLast_eq_take→PQ,drop_append_of_le_length→oe,drop_drop→kJ,drop_eq_getElem_cons→og,drop_eq_nil_of_le→ud,drop_left→PR,drop_length→rB,drop_of_length_le→ED,drop_sublist→yE,drop_take→yF,drop_zero→oh,eq_nil_of_length_eq_zero→PS,filter_append→yG,filter_congr→ue,filter_cons→uf,filter_eq_nil_iff→EE,filter_eq_self→oi,filter_sublist→EF,findIdx?_eq_some_iff_getElem→PT,flatMap→PU,flatMap_cons→mU,flatMap_nil→PV,flatten_cons→PW,foldl_append→mV,foldl_cons→ee,foldl_map→PX,foldr_cons→PY,forIn_cons→lM,forIn_nil→rC,getD_eq_getElem?_getD→ef,getElem?_append_left→cL,getElem?_append_right→ew,getElem?_drop→jz,getElem?_eq_getElem→bD,getElem?_eq_none→rD,getElem?_eq_some_iff→bw,getElem?_map→cg,getElem?_range→rE,getElem?_reverse→PZ,getElem?_set_ne→oj,getElem?_set_self→pK,getElem?_take_of_lt→eD,getElem?_zip_eq_some→pL,getElem_idxOf→EG,getElem_mem→kg,getElem_range→yH,getLast?→Qa,headD_cons→Qb,idxOf_cons→Qc,idxOf_lt_length_iff→pM,isEmpty_nil→Qd,le_antisymm→Qe,le_of_lt→Qf,le_refl→yI,length→hq,length_append→aY,length_cons→cq,length_drop→dj,length_eq_zero_iff→om,length_filter_le→ug,length_flatten→EH,length_map→aQ,length_nil→eI,length_pos_of_mem→EI,length_range→gz,length_reverse→uh,length_set→yJ,length_singleton→EJ,length_tail→ui,length_take→bI,lookup→mW,lookup_cons→gj,lt_of_le_of_lt→Qg,map_append→hr,map_congr_left→mX,map_cons→dk,map_drop→uj,map_id→uk,map_map→gA,map_nil→pN,map_reverse→Qh,map_set→um,map_take→yK,mem_append→cZ,mem_append_left→yL,mem_append_right→uo,mem_cons→bg,mem_cons_of_mem→dO,mem_cons_self→fU,mem_filter→jA,mem_flatMap→EK,mem_iff_getElem→EL,mem_iff_getElem?→gK,mem_map→bK,mem_of_getElem?→bz,mem_of_mem_drop→fI,mem_of_mem_tail→Qi,mem_of_mem_take→eJ,mem_range→eN,mem_reverse→rF,mem_singleton→aZ,mem_singleton_self→EM,nil→pO,nil_append→ja,nil_prefix→EN,nil_suffix→EO,nodup_append→uq,nodup_cons→jB,nodup_iff_pairwise_ne→Qj,not_lt→Qk,not_mem_nil→gL,of_mem_zip→Ql,pairwise_cons→yM,pairwise_iff_getElem→yN,pairwise_map→ur,perm_middle→Qm,prefix_append→ff,prefix_refl→kK,range→aR,range_succ→Qn,range_succ_eq_map→Qo,rec→iF,replicate→cO,replicate_succ→rG,reverse_cons→yO,set_append_right→Qp,set_eq_take_append_cons_drop→Qq,singleton_append→uu,size_toArray→yP,suffix_cons→jC,suffix_refl→yQ,sum_append→EP,sum_cons→Qr,take_add_one→rH,take_append→ER,take_append_drop→hQ,take_append_of_le_length→lN,take_left→pP,take_length→hs,take_of_length_le→iG,take_prefix→Qs,take_sublist→lO,take_succ→yR,take_succ_eq_append_getElem→lP,take_zero→Qt
open List.Pairwise renaming imp_of_mem→EA
open List.Perm renaming nodup_iff→EB
open Nat renaming add→yS,add_assoc→rI,add_comm→yT,add_le_add_left→Qv,add_lt_add_left→Qw,add_mul→pQ,add_mul_div_right→Qx,add_mul_mod_self_right→Qy,add_right_comm→rJ,add_sub_cancel'→Qz,add_sub_cancel_left→yU,add_zero→rK,and_one_is_mod→QA,and_two_pow_sub_one_eq_mod→yV,beq→fg,ble→pR,cast→ES,div_add_mod→kh,div_div_eq_div_mul→QB,div_eq_of_lt→ET,div_le_self→QC,div_lt_iff_lt_mul→mZ,eq_zero_or_pos→EU,le_add_left→yX,le_add_right→ip,le_max_left→QD,le_max_right→QE,le_min→EV,le_mul_of_pos_left→QF,le_mul_of_pos_right→QG,le_of_ble_eq_true→bx,le_of_eq→eK,le_of_lt→eh,le_refl→aP,le_succ→dP,le_succ_of_le→eO,le_total→lQ,le_trans→aI,le_zero→EW,log2_lt→EX,lt_irrefl→ft,lt_log2_self→EY,lt_of_le_of_lt→ki,lt_of_lt_of_le→ey,lt_or_ge→gk,lt_succ_of_lt→kL,lt_succ_self→hR,lt_trans→jD,lt_trichotomy→EZ,max_eq_left→uv,max_eq_right→uw,min→ux,min_eq_left→kM,min_eq_right→uy,mod_eq_of_lt→yY,mod_lt→ht,mod_two_eq_zero_or_one→Fb,mul_add→yZ,mul_add_div→QH,mul_add_mod→QI,mul_assoc→oo,mul_comm→hS,mul_le_mul→nc,mul_le_mul_left→QJ,mul_le_mul_right→pS,mul_lt_mul_of_pos_right→Fc,mul_one→rL,mul_succ→Fe,mul_zero→za,ne_of_gt→hu,ne_of_lt→cB,not_le→zb,not_lt→bP,not_lt_zero→Ff,one_le_two_pow→zc,one_mul→QK,one_pos→QL,pow→zU,pow_add→kj,pow_le_pow_right→ei,pow_lt_pow_right→zd,pow_mul→QM,pow_pos→ze,pow_succ→pT,pow_succ'→Fg,pow_zero→QN,rec→pU,strongRecOn→QO,sub_le→Fh,sub_self→kN,sub_zero→zf,succ→jE,succ_mul→lR,succ_ne_zero→QP,two_mul→zg,two_pow_pos→jb,zero_add→gM,zero_le→aV,zero_mul→uz
open Nat.le renaming dest→yW
open Ne renaming symm→kO
open OfNat renaming ofNat→oq
open Option renaming elim→pV,isSome_iff_exists→zh,map_eq_some_iff→dW,none→ab,some→aa
open Option.some renaming inj→hv
open PUnit renaming unit→Fk
open Prod renaming mk→Fl
open Prod.mk renaming injEq→Fm
open Pure renaming pure→aw
open PyProof.Rows renaming AllBare→rM,SortedToK→Fo,add_int→QR,arrOf→lT,assignInOrder_cons→lU,assignInOrder_nil→uC,get?_update_seq→Fp,listUpdate_at→zi,mod_int'→QT,seqObj→dn,size_push'→uD,sub_int→QU
open PyProof.Rows.AllBare renaming moved→QQ
open PyProof renaming noPylong_of_log2→QV,noPylong_small→Fq
open PySem renaming Addr→ao,Arguments→lV,Around→aS,BindsTo→rN,Builtin→uE,Data→lX,Drawn→hU,Env→aO,Expr→aT,Fin→kR,Flow→hW,FuncBody→uK,FuncData→gN,GenEnd→uL,GenState→fw,Heap→bo,IntMulOk→ng,IsPair→gm,IsPart→ou,IsZip→jc,Keyword→rQ,NameKind→hX,Obj→cp,OsState→gB,Params→iK,PlainAttrs→zB,Pos→ba,Program→ni,Protocol→rR,Result→nj,Scope→bt,Seg→fy,Sem→dF,Shared→au,Slot→ox,Stmt→aN,StoreFacts→zD,Str→aq,Tok→gn,TriplesOk→FY,Value→ai,World→aD,am_entry_list_getattribute→Su,argBest→jd,argsOk→kU,args_list_getitem→Sv,args_listiter_next→Sw,arm_assign_Tuple→Gc,arm_eval_Attribute→uT,arm_eval_Call→uU,assignEach→rU,attributeBase→ej,backTo→kk,backToKw→ma,binaryOp→bM,bindArgs→uV,boundAndCalled→Gd,builtinKind→qd,builtinLookup_eq_fast→cE,builtinsNs→cU,cStatics→iq,call→dX,callEnv→cP,callGetattribute→Ge,callWith→mb,callWith_type→rV,call_meets→kV,calleeOf→uW,cellsFrom→oB,checkBoundCall→qe,checkBuiltinCall→md,classOwn→qf,clipAt→je,clipAt_nat→uX,codeAmong→jI,codeAny→jJ,codeAny_builtin→zF,codeAny_call_builtin→zG,codeAny_call_builtin_code→zH,codeAny_call_def→zI,codeAny_forLoop_any→Gf,codeAny_obj_new→Gg,codeAny_of_tree→Sx,codeAny_sum_loopAnyB→Sy,compEnvC→rW,compareOp→dp,defaultsOf→zJ,entryFor→kW,entryFor_of_tree→uY,entry_list_getitem→Sz,entry_listiter_next→SA,eval→aW,evalArgs→zK,excClassObj→eE,exec→me,execs→gp,execs_cons→Gh,fastTable_eq_tree→JX,field→rX,find?_eq_fast→BM,firstArgMember→Gi,fitsIndex_of→Gj,foldedSetIterable→mf,getAttr→mg,getAttrBy→uZ,getAttrByItsOwn→zL,getItem→zM,getMethod→rY,handedOut→rZ,holding→va,hookBefore→Gk,inplaceOp→ek,instanceDict→sb,isInstance→zN,isSubtype_stop→zO,isSubtype_type→zP,keywordEach→mh,ks_codeAny_call_bound→Gn,ks_wpAny_isType_cls→Gp,ks_wpAt_Return_some→SD,ks_wpAt_execs_cons→vc,letOwnedTupleGo→Gq,letTemporaryGo→sd,listSliceParts_eq→SE,mainGlobals→el,makeFunction→Gr,methodCall→vd,methodCallForm→se,methodCallPos→ve,model→aE,mroOf→jK,name_of_addr→Gs,newFields→Gu,notIterableAtAll→SF,nsFind→vf,onTheHeap→zQ,opaqueClassAbove→SG,partValue→gq,plainId→vg,plainId_quiet→zR,plainObj_wpAny_Assign_Attribute→Gv,post_val_or_str→SH,preSum→kX,pyIter→kY,pyNext→kl,rawInt→cF,recursionLimit→zS,richCompare_gives→SI,seg_again→zT,seg_bind_wrap→kZ,seqIndex?→la,setItem→vh,sizeLine→aC,sizeLine_eq→dw,sliceBounds→jL,sliceIndices_raw→SJ,slicePick_plain→SK,slot_list_getitem→qg,slot_list_iter→Gw,slot_listiter_next→sf,starEach→jM,storeName→Gx,strIterType→Gy,strValues→zV,sub_int_bytearray→SM,sub_int_str→SN,swappedStores→lb,swapsWith→jN,swapsWithSole→vi,table→lg,typeIs_int→nk,typeIs_str→jf,typeLookup→bh,typeLookup_type→cG,typeOf→jg,wpAny→ax,wpAny_Assign_Name→zW,wpAny_Assign_Subscript→SO,wpAny_Assign_stores→SP,wpAny_Call_NameR→ir,wpAny_Call_method_late→qh,wpAny_Constant_bool→SQ,wpAny_Constant_int→sg,wpAny_Constant_str→oC,wpAny_For→zX,wpAny_GeneratorExp_walksQTD→SR,wpAny_Name→hy,wpAny_Return_some→zY,wpAny_Slice→qi,wpAny_Tuple_spliced→zZ,wpAny_assign_Name→km,wpAny_attempt→iM,wpAny_bind→af,wpAny_bindName→Gz,wpAny_builtinsFor→GA,wpAny_call→gr,wpAny_callSpecial?_own→SS,wpAny_callSpecial?_slot→mi,wpAny_call_entry→iN,wpAny_check_obj_new→GB,wpAny_collect_seq→SU,wpAny_eqBool_str→SV,wpAny_execs_cons→mj,wpAny_execs_nil→SW,wpAny_field→dY,wpAny_fieldsOf→Aa,wpAny_getItem_list→GC,wpAny_getItem_list_slice→GD,wpAny_getItem_str_slice→SX,wpAny_handled→GF,wpAny_holding→cj,wpAny_isInstance→ml,wpAny_isNot_plain→SY,wpAny_isSubtype_exc→kn,wpAny_isTrue_Compare1→GG,wpAny_letGo→vj,wpAny_letTemporaryGo→Tb,wpAny_listItems→Tc,wpAny_listPart→sh,wpAny_listSubscript_int→Td,wpAny_load→lh,wpAny_loadName_cell→GI,wpAny_loadName_free→Ab,wpAny_loadName_local→iu,wpAny_loadPart_at→gP,wpAny_madeBy_exc→Te,wpAny_mkText→vk,wpAny_mono→dq,wpAny_newFunctionEnv→GJ,wpAny_newList→GK,wpAny_newObj_type→jO,wpAny_nextOf_list_item→Tf,wpAny_nsGet→nq,wpAny_of_eq→cQ,wpAny_onRaise→si,wpAny_operating→Tg,wpAny_point→GL,wpAny_pure→aA,wpAny_pyIter_list→sj,wpAny_pyIter_listiter→GN,wpAny_pyIter_revIter→Th,wpAny_pyNext_list_end→Ti,wpAny_pyNext_list_item→GO,wpAny_rule→hY,wpAny_runValue→GP,wpAny_seqItemAt→Tj,wpAny_seqItems→lj,wpAny_setField_rec→oD,wpAny_specialOf→jh,wpAny_standAt→dR,wpAny_storeName_local→Tn,wpAny_throw→GQ,wpAny_truthy_bool→sk,wpAny_typeLookup_exc→ji,wpAny_typeOf→oE,wpAny_typeOf_ref→lk,wpAny_unpackItems_tuple→Ac,wpAny_updateSeq→Ad,wpAny_updateSeq_pair→To,wpAny_with_toks→ll
open PySem.Around renaming under_plainId→QW
open PySem.Bind renaming checkArgs→pW,lastOf→Fs
open PySem.BindsTo renaming of_defaults→zj
open PySem.BoolOp renaming And→QX
open PySem.Builtin.Builtins renaming bindParams→agi
open PySem.Builtin.Generator renaming genWake→QY
open PySem.Builtin.Int renaming intBits→bX
open PySem.Builtin.List renaming listItems→QZ,listSameRef→Ra,listSubscript?→uF,listTooLong→Rb
open PySem.Builtin.ObjectAttr renaming copiedAttributeGuard→agj,find→Ft,inDict→agk,inOwnDict→Rc,ownDict→Rd,ownThenClass→Rf,storeInDict→agl,storeInOwnDict→agm
open PySem.Builtin.Range renaming rangeFitsLong→Rg,rangeSize→pX,small→uG
open PySem.Builtin.Re renaming ReTarget→Rh,reDrive→Ri,reMachineGroup→Rj,reNextFound→zk,reSlice→Fu
open PySem.Builtin.SmallTypes renaming nextOf→Rk,ownedTupleHandOut→Rl,ownedTupleIsFree→Rm
open PySem.Builtin.Str renaming strKind→Rn,strOf→Ro,strSub→Rp,tooLong→Rq
open PySem.Builtin renaming bitAnd→Fv,bitNot→uH,bitOr→zl,bitXor→zm,divisionGoesByPylong→pY
open PySem.Calls renaming Name_function_global→Rr,callWith_builtin→kQ,callWith_function→Fw,call_function_entry→Rt,loadGlobal_builtin→zo,loadGlobal_global→Fy,spliced_cons→iJ,spliced_nil→lW
open PySem.Challenge renaming pw_jc0040_01→Ru,rw_jc0040_01→Rv
open PySem.Code renaming builtin→zp,quiet_builtin→zq
open PySem.EqBoolInt renaming of_rcne→Fz
open PySem.Expr renaming Attribute→zr,Call→FA,Compare→Rw,ListComp→Rx,Name→hV,Subscript→FC,Tuple→FD,UnaryOp→Ry
open PySem.F renaming args_int_rmul_2→agn,args_list_add_2→ago,args_list_append_2→Rz,args_list_getattribute_2→RA,args_list_index_2→agp,args_list_mul_2→agq,args_list_pop_2→ags,args_list_reverse_1→agt,args_list_setitem_3→RB,args_object_getattribute_2→aha,args_object_init_3→ahb,args_str_gt_2→ahc,args_str_join_2→ahd,args_str_lt_2→ahe,args_str_split_2→FE,args_zip_next_1→RC,called_str→FF,called_zip→ahf,canon_object_ga→FG,entry_int_rmul→ahg,entry_list_add→ahh,entry_list_append→RD,entry_list_index→ahi,entry_list_len→ahj,entry_list_mul→ahk,entry_list_new→ahl,entry_list_pop→FH,entry_list_reverse→ahm,entry_list_setitem→RE,entry_object_getattribute→ahn,entry_object_sa→FI,entry_str_gt→aho,entry_str_join→ahp,entry_str_lt→ahq,entry_str_split→FJ,entry_sum→ahr,entry_zip_new→ahs,entry_zip_next→RF,fills_int_mul→aht,kind_sum→aia,ks_canon_super_ga→aib,ks_entry_super_ga→aid,ks_gaArgs_super→aie,ks_slot_function_get→RG,ks_slot_super_ga→RH,lk_object_ga→RI,lk_object_getattr→RJ,mro_object→uI,newCall_zip_2→aih,objNew→FK,plainAttrs_int→aii,plainAttrs_list→zt,plainAttrs_str→lY,plainObj_entry_getattr_hooked→RK,plain_sum→aij,plain_sum_loop→RL,slot_int_bit_length→aik,slot_int_index→ail,slot_int_rmul→RM,slot_list_add→aim,slot_list_append→zu,slot_list_getattribute→zv,slot_list_index→RN,slot_list_iter→RO,slot_list_mul→ain,slot_list_pop→zw,slot_list_reverse→RP,slot_list_setitem→zx,slot_str_count→aio,slot_str_getitem→FL,slot_str_gt→aip,slot_str_isspace→RQ,slot_str_join→zy,slot_str_lt→aiq,slot_str_replace→RR,slot_str_split→uJ,slot_tuple_getitem→RS,slot_zip_next→zz,store_object→RT,typeCall_zip_2→air,type_int_bit_length→ais,type_list_append→RU,type_list_index→ait,type_list_pop→aja,type_list_reverse→ajb,type_str_count→ajc,type_str_isspace→RV,type_str_join→FN,type_str_replace→RW,type_str_split→RX
open PySem.Heap renaming ExtBut→zA,Ns→rO,SameBut→pZ,get?_push_ne→RY,get?_push_of_some→bN,get?_push_size→ct,get?_update_ne→rP,get?_update_self→uN,lt_size→bk,size_push→da,size_update→FO
open PySem.Heap.IsSliceOf renaming new→uM
open PySem.Heap.SameBut renaming update→qa
open PySem.Made renaming takes→RZ
open PySem.Manifest renaming canonical→nh,signature?→ov
open PySem.NameKind renaming cell→uO,free→jG,globalImplicit→ow
open PySem.Obj renaming data→uP,data_mapFields→Sa,isFreed_of_fields→Sb,mapFields→FP,mapSeq→dQ
open PySem.P renaming add_str→ajd,eq_int→aje,eq_str→ajf,ge_int→ajg,getItem_tuple→FR,gt_int→ajh,gt_str→aji,iadd_str→ajj,imul_int→ajk,in_str→ajl,le_int→ajm,len_str→Sd,lt_int→ajn,mul_int→ajo,ne_int→ajp,ne_str→ajq,neg_int→ajr,notIn_str→ajs,truthy_int→ajt,truthy_str→aka
open PySem.Scope renaming names→Se
open PySem.Sem renaming wp→uQ,wp_bind'→Sf,wp_mono→FT,wrap_congr→FU
open PySem.SeqAt renaming EqAt→Sg
open PySem.SeqAt.EqAt renaming str_str→FV
open PySem.SeqAt.RcNeAt renaming tuples→Sh
open PySem.SeqRoads2.EqGives renaming str→akb
open PySem.Sre renaming M→kS,Seen→gO,forSearch→Si,run→zC
open PySem.Sre.M renaming runFor→kT
open PySem.Sre.Seen renaming add→FW
open PySem.Stmt renaming ClassDef→Sj,FunctionDef→Sk
open PySem.Str renaming join→oy,length→FX,ofString→ak
open PySem.StrLaws renaming dbl→lZ,found_one→Sl,glued_eq_join→Sm
open PySem.Txt renaming isspace→oz,join→FZ,replace→qb,slice_le→Sn,split→oA
open PySem.Value renaming bool→So,builtin→zE,int→Ga,none→rS,ref→iL,str→rT,type→jH
open PySem.W.Frag renaming In→Sp
open PySem.W.X renaming AllIn→akc,script_at→akd,script_obj→ake,z_facts→akf
open PySem.W renaming fn_get→Sq,kla_callFunE→akg,kla_codeExpr→akh,kla_eval→aki,ks_loadName_global→uR,typeIn→Sr
open PySem.Walks renaming list→Gb
open PySem.WalksS renaming of_in1→uS
open PySem.WalksT renaming enumerateD→Ss
local macro_rules
|`(#[om,$a])=>`([b0,o0,m0,#[T,#[eG]],d,l0,n0,p0,q0,s0,f0,t0,v0,c,y,A,I,k0,$a,N,.list r])
|`(#[ol])=>`([f0,h0,k0,m0,o0,p0,q0,s0,t0,v0,n0,x0,y0,A0,E0,F0,N0,O0,L0,G0,H0,I0])
|`(#[ok])=>`(#[P,by rw[<-C.rel.len];simp])
|`(#[oj])=>`(#[cD,((f0.take A).drop i).map])
|`(#[oi])=>`(∀z∈c,A z=ae->bU (f z)=ae)
|`(#[oh])=>`(#[aa,i.contains (p+bp l),fa l (bp l),l])
|`(#[og])=>`(2^(h0+(n+1)*l.length)*2^n)
|`(#[of,$a])=>`(([[40],[41]]:#[bB]).contains (ay M $a))
|`(#[oe,$a])=>`(∀b e0,#[bv,b,e0]->($a).get? b=aa e0)
|`(#[od])=>`(λb Z n0=>#[bC,F.slt.tab b n0,Z])
local macro_rules
|`(#[oc,$a])=>`(($a).get? h.objs.size=aa #[aj,"dict",.dict,#[]])
|`(#[ob])=>`(⟨#[h6],ab,.seq Y n,#[]⟩)
|`(#[oa])=>`(s.TypeIs (.ref I) "callable_iterator")
|`(#[n9,$a])=>`((iL C::$a).contains (.type "list")=ae)
|`(#[n8,$a])=>`(md "wrapper_descriptor.__get__" #[ai,[$a,a,b]]=aw ())
|`(#[n7])=>`((S.take C.length++[S[C.length+1]]))
|`(#[n6])=>`(cS [] (j0.names.map λ_=>ab) z=T)
|`(#[n5,$a,$b])=>`(se ($a+([]:List rQ).length) $b (ma i0 (mh [] J))=ae)
|`(#[n4])=>`(f0.closure=[(ak "__class__",124)])
|`(#[n3,$a,$b])=>`(⟨($a),λb Z=>⟨λn0=>#[bC,$b b n0,Z.1],Z.2⟩,λo e=>?_⟩)
local macro_rules
|`(#[n2,$a])=>`(#[c2]->#[a6,H,.raw,$a]->gg B #[eY] s.heap a)
|`(#[n1,$a,$b])=>`(aj.cutAt $a 1 $b (λ_ _ _ h=>h.1) (λv s h=>?_))
|`(#[n0,$a,$b])=>`(aj.seq (R:=$a) (λA J S s Q E G M q=>$b) (λv s h=>h) λo v s g h=>vp h g)
|`(#[nZ,$a,$b])=>`(#[ic,λo X L=>#[eI,X=U,$a],$b,λX L h=>#[Y],λo X L g h=>#[ac,h.1,g]])
|`(#[nY])=>`(P::O::#[K,aU M f]::i0::b0::Q::#[dx]::#[ad,24]::Y)
|`(#[nX])=>`(⟨f.os,f.drawn,f.gens,f.size,f.keep⟩)
|`(#[nW])=>`(λq0=>q0.eraseIdxIfInBounds (Y.size-1))
|`(#[nV])=>`(λgW L=>∃v,gW=.done (.ret v)/\Q v L)
|`(#[nU])=>`((h++#[cF i0.line,cF i0.col,.ref C]))
|`(#[nT])=>`((f0.qualname++ak ".<locals>."))
local macro_rules
|`(#[nS,$a])=>`(#[G,O.sc.names,(ak $a,.globalImplicit)])
|`(#[nR])=>`(o0.set i (kv (o0.length+1) o0.length))
|`(#[nQ,$a,$b,$c])=>`(∀z∈c,nr B w n #[d3,$a,O.fz] $b $c T b0 r (A z) (f z) i (g z))
|`(#[nP])=>`(V.str (gU (cV b 6 j)++[u.getD i 0]))
|`(#[nO])=>`(#[el,aW e J,λv k0=>#[dT,kY v,k0],s])
|`(#[nN,$a,$b])=>`(E::#[ar]::$a ::#[v,g]::R::J::l0::c0::$b)
|`(#[nM])=>`((x.cps.extract p t).toList)
|`(#[nL])=>`([.ob H.length,.ob H.length])
|`(#[nK,$a])=>`(#[gC,∀v,s.heap.IsCell p.2 v->$a p.2 v])
|`(#[nJ])=>`((#[eF,x.1].set j (aa x.2)))
local macro_rules
|`(#[nI,$a])=>`(q _ _ (S++[s.heap.objs.size]) ($a) #[P,by rw[<-M.len];simp])
|`(#[nH])=>`(((bc r).drop (m+1)).map (λZ=>#[d2,Z]))
|`(#[nG])=>`((fW #[aT,c])[1]?=aa (.str #[ei].qualname (rk (fW #[aT,c])[1]?)))
|`(#[nF])=>`((kd.contains f||kd.contains c)=ag)
|`(#[nE,$a])=>`((($a).trans (jC _ _)).trans (jC _ _))
|`(#[nD,$a,$b])=>`(X A _ _ $a _ Q E G C.rel $b λz m R t i=>#[fN,t,i])
|`(#[nC,$a,$b,$c])=>`(∀x∈b0,$a/\$b/\($c++".<locals>.")++x.name=x.qual)
|`(#[nB,$a])=>`(∀a∈j.drop O.fz,a∈S.drop O.fz\/$a)
|`(#[nA])=>`(#[cF x.pos.line,cF x.pos.col,.ref g])
|`(#[nz])=>`(B.heap.objs.size<=t/\B.lo<=t)
local macro_rules
|`(#[ny,$a,$b])=>`(∃o,$a a=aa o/\OR [a] o (.list (dc $b)))
|`(#[nx,$a,$b,$c,$d])=>`([40]++az f ($a (bp l)) p $b++[$c (bp l) 0]++$d++[41])
|`(#[nw])=>`(ck B w n O #[cU,#[aL,"range",p],[e,f,g]] U H X #[fO] w0)
|`(#[nv])=>`((f0.params.posonlyargs++f0.params.args).head?=aa n)
|`(#[nu,$a])=>`(aj B w n #[d3,j0,$a] r0 T H (dd L r m0))
|`(#[nt,$a,$b,$c,$d,$e])=>`(fp B w n #[d3,$a,O.fz] $b #[eF,z] s b $c/\if b then$d else gR O.fz (r+1) (c #[u] q0) #[eF,z] $e)
|`(#[ns,$a])=>`(_root_.PySem.wpAt #[aE] A (.func r0 (cP f0 L f)) (aW $a (cP f0 L f)) Q E #[bw])
|`(#[nr,$a,$b,$c,$d])=>`((M.code j a $a I Z).keep (λo e=>($b).symm.trans e) λb o e X _=>(($c).2 b λG=>$d).trans e)
|`(#[nq])=>`((max #[kz].1 #[kz].2.1).toNat)
|`(#[np,$a,$b,$c,$d,$e,$f])=>`(Ev B w n #[d3,$a,O.fz] $b #[eF,z] $c y $d/\#[aR,$e,r,q0]/\gR O.fz (r+1) (c #[u] (q0++[y])) #[eF,z] ($f r (.list (q0++[y]))))
local macro_rules
|`(#[no])=>`(o=.ret r\/(o=.next/\r=.none))
|`(#[nn,$a,$b,$c])=>`(.of (owner:="object") (n:=$a) ($b) $c #[p] #[p] (.inl (by rw[BM];kernel_rfl)) (by rw[zP];kernel_rfl))
|`(#[nm])=>`({cls:=.type "super",dict:=ab,data:=.fields #[.ref f,#[az],.ref C],slots:=#[]})
|`(#[nl])=>`(#[om,#[bk,u.map,λp=>V.int (p:Nat)]])
|`(#[nk,$a])=>`((dS P $a).params.args.headD default)
|`(#[nj])=>`(∀v s,h0 (.ret (.bool ae)) v s)
|`(#[ni])=>`((x.cps.extract t (t+r)).toList)
|`(#[nh])=>`(λr L=>∃z t,r=.str z t/\Q r L)
|`(#[ng])=>`(∀k q0 v s,c k q0 v s->C s/\i<v.length/\#[aR,s,r,q0]/\q0.length<=k)
|`(#[nf])=>`(∀q0 v s,c X.length q0 v s->s=m0)
local macro_rules
|`(#[ne,$a])=>`(".".intercalate ($a '.').dropLast="list")
|`(#[nd])=>`(.inr ⟨j,by simpa using N,a0⟩)
|`(#[nc])=>`([c,y,A,I,.list O,#[gD],.list (u.map #[aV]).reverse])
|`(#[nb,$a])=>`(fy $a A R Y n d c (h0 .next) j0 L)
|`(#[na])=>`(λc=>(ij l k).getD (#[eD].idxOf c) 0)
|`(#[m9])=>`(.inl (#[g9,h,(by cases d;cases v),(by cases d)]))
|`(#[m8,$a])=>`(#[kV,Bool,∀L j,#[ej]->Q b L,$a])
|`(#[m7,$a])=>`(⟨R.len,R.nodup,R.high,λi a e0 I Z=>$a⟩)
|`(#[m6])=>`([V.str [40],V.str [41]]=ah [[40],[41]])
|`(#[m5])=>`(#[aj,"list_iterator",.fields,#[#[az],.int 0 0]])
local macro_rules
|`(#[m4])=>`(af (m:=Gi _ _) (cQ (a:=rS) #[ak] ?_))
|`(#[m3,$a])=>`(⟨"list",_,td,($a).typeIs,?_⟩)
|`(#[m2,$a,$b,$c])=>`(ax #[cS] (A.over #[g8] j0) $a ($b) (#[fP]) $c)
|`(#[m1])=>`((W.kA .nil rfl #[aC] rfl rfl))
|`(#[m0,$a])=>`(af (cQ (a:=(iL x,[rT $a t])) rfl ?_))
|`(#[mZ])=>`(((ij l k).getD (#[eD].idxOf c) 0))
|`(#[mY])=>`(d0 (ak "len")=ab/\g0 (ak "len")=aa (.builtin "len"))
|`(#[mX,$a])=>`(cN B w (n+1) $a #[aL,"_iter_escaped_chars",p] #[M,246])
|`(#[mW])=>`(t.length+(t.length+1)*z.length<=16777216)
|`(#[mV])=>`(q _ _ _ _ _ _ (g _ _ _ #[z] A0) C T)
local macro_rules
|`(#[mU,$a,$b,$c,$d,$e,$f,$g,$h])=>`((oU (A:=#[hg]) (v0:=#[gt]) (a:=$a) (Y:=$b) O $c $d $e rfl #[aD,10] rfl $f $g #[f] #[aS] $h rfl #[an] #[j] #[j]))
|`(#[mT,$a])=>`(∀(g f:bo)(o:cp),($a)->T g o->T f o)
|`(#[mS,$a,$b])=>`([⟨aa "key",.Lambda z r0 d $a,$b⟩])
|`(#[mR])=>`(λY=>if(jI i0 Y.toList).isSome=ae then Y else Y++#[cF i0.line,cF i0.col,.ref C])
|`(#[mQ,$a,$b])=>`(∀{c0:bo}{t:Nat}{A:aS},#[ha]->(∀b e0,#[bv,b,e0]->c0.get? b=aa e0)->#[el,$a #[gv],$b,#[a7,c0,t]])
|`(#[mP])=>`((gR O.fz b0.length (c #[u])))
|`(#[mO])=>`((c0.push #[aj,"function",.func,f0]))
|`(#[mN,$a,$b])=>`(#[bP,kK _,λ_ h=>.inl h,{M with gh:=?_,ns:=$a,store:=λj a e0 I Z=>?_,code:=$b,cw:=λr g=>?_}])
|`(#[mM])=>`(((bc (bf L.length #[au])).getD m []))
|`(#[mL,$a])=>`($a (l.idxOf (eX l)) (l.idxOf (eW l)))
local macro_rules
|`(#[mK])=>`(.Constant .none 0 ⟨0,0,0,0⟩)
|`(#[mJ,$a,$b,$c,$d])=>`(⟨$a,ab,if f.start !=$b then f.res++[cJ a $c $d]else f.res⟩)
|`(#[mI])=>`(#[ol]++[Ob.list (aK (I.set (er J0 g) (#[jn]+1)))]++([]++w0))
|`(#[mH,$a])=>`($a (P.new a) λq=>.inr (aI P.fx.size q))
|`(#[mG,$a,$b])=>`(af (iM (mi $a px (iN px $b Bm ?_ (An _)))))
|`(#[mF,$a,$b,$c])=>`(Ev.iU g (.inl (let⟨_,h⟩:=N;#[P,h])) zt $a $b u #[bn,I] $c L P #[z])
|`(#[mE,$a,$b,$c,$d,$e])=>`({R with ns:=?_,len:=$a,cY:=$b,store:=?_,code:=?_,nodup:=$c,high:=$d,dZ:=$e,cw:=?_})
|`(#[mD])=>`(∀L c X,aB B O J S U H C S L->L.heap.get? a=aa (dn "list" X c)->#[a1,X.toList,ah r]->P (.done (.ret .none)) L)
|`(#[mC,$a])=>`(∀c o,c≠z->c≠r->c≠i->#[kw]->$a)
|`(#[mB,$a])=>`(∀(A:aS)(S:#[t])(Z:#[L])(s:au)(R:#[aI,nj]),$a)
local macro_rules
|`(#[mA,$a])=>`(∃A a0,v=[#[bi],A,#[ar],#[eZ],#[K,[g]],#[K,[b]],#[K,bC $a],a0,ab,ab,ab,ab,ab,ab,ab,ab,ab,ab])
|`(#[mz])=>`(#[cU,#[c4,ak "replace",y0],[.Constant #[ao,y] A0 F0,.Constant #[ao,z] t0 E0]])
|`(#[my,$a,$b,$c,$d])=>`(ah (($a++[41]).map (ay M))=[V.str [40]]++ah (($b).map (ay M))++[#[en,$c k 0]]++ah (($d).map (ay M))++[V.str [41]])
|`(#[mx,$a,$b])=>`(kH B w 6 309 [.str $a] (.ob 7) (dz 1 $b []))
|`(#[mw,$a])=>`(kH B w $a 116 [#[ay,C],#[ay,N],.str p0,.str j0] (.ob 1) (#[bj,j0,[],C,[]]))
|`(#[mv,$a,$b,$c])=>`(#[ic,λo X L=>$a,#[dc,$b,q _ _ _ _ s _ #[cc] #[ek] $c],(λX L h=>nomatch h.1),λo X L g h=>#[Y]])
|`(#[mu,$a,$b,$c,$d])=>`($a h0.Cf $b rfl cA.dg rfl #[j] rfl $c $d #[an] #[am])
|`(#[mt])=>`(∃c O0 Y t,#[gu,c]/\#[aq,c]/\B.heap.get? c=aa O0/\O0.data=.fields Y/\Y[1]?=aa (.str f0.qualname t))
|`(#[ms,$a,$b])=>`(aj.ite (B:=B) (w:=w) (n:=n) (O:=bB) (t:=$a) $b ?_)
|`(#[mr,$a,$b,$c,$d])=>`(fy #[aE] A.in1 $a $b $c s (.func fK J) $d [] s)
local macro_rules
|`(#[mq,$a,$b,$c])=>`(⟨_,$a,aV _,#[],0,rfl,$b,tP,λy _=>rfl,$c⟩)
|`(#[mp])=>`(iC T #[jq]->c 0 [] T #[jq])
|`(#[mo,$a,$b])=>`(#[a8,c,λu0 k0 F C T=>#[h5,Z,λC0 m R t i=>h A _ _ _ _ _ $a E G t.rel (T.pre t.pre) i λz N u e d=>$b]])
|`(#[mn])=>`((.BinOp (.List [.Call #[aL,"iter",E0] [a] [] N0] M) .Mult (.Constant #[U,2] d S0) T))
|`(#[mm,$a])=>`(∀I f L j,#[aQ,b0,j,L]->hl B w n X I b0.length $a f->f 0 j L.heap->#[R,I]->I∉j->#[bs,I,L])
|`(#[ml])=>`(∀c0,fE #[dP] w d0 g0 s0 L)
|`(#[mk,$a,$b])=>`([#[ar],$a,#[K,s],#[K,cH],#[ad,5],$b,ab,ab,ab])
|`(#[mj,$a,$b,$c,$d,$e])=>`(zj (T:=$a) (n:=xK #[aT,$b]) (items:=#[Bv #[aT,$c]]) $d (vX J k $e rfl) #[p] rfl rfl)
|`(#[mi,$a])=>`([c,y,A,I,.list P,f,N,$a,#[T,#[eH,Z.map]]])
|`(#[mh,$a,$b,$c,$d,$e])=>`($a $b (q _ _ _ _ #[dg,aB.heap C.rel (#[z]) #[e0]] ($c #[V,P]) ⟨l,y,cB (bk g),$d⟩ C.fx.size $e))
local macro_rules
|`(#[mg])=>`([b0,o0,m0,#[T,#[eG]],d,t0,v0,x0,y0,A0,n0,E0,F0,c,y,A,I,s0,#[gD],N,.list r])
|`(#[mf])=>`([f0,h0,k0,m0,o0,p0,q0,s0,t0,v0,j0,n0,x0,y0,A0,E0,I0,J0,G0,F0,#[T,(aR N).map #[hd]],.list [#[ay,0]]])
|`(#[me])=>`([f0,#[dC],k0,m0,o0,p0,q0,s0,t0,v0,x0,A0,C0,E0,G0,H0,O0,Q0,M0,I0,J0,L0,#[aN,I],#[aN,j0],#[kv],#[aN,j0.drop #[u]]])
|`(#[md])=>`(#[kx,f0.scope.names.lookup])
|`(#[mc,$a,$b,$c])=>`(.inr ⟨q,c,v,F,$a _ (mem_of_lookup F) _ $b,$c⟩)
|`(#[mb])=>`([bS 0 [],dg 2 116 0 ab])
|`(#[ma,$a,$b])=>`(hh a #[h9,P.length,$a,f]=F $b)
|`(#[l9,$a])=>`(([[40],[41]]:#[bB]).contains (ay (aF M) $a))
|`(#[l8,$a,$b])=>`(Fn B w n $a #[hc,a] (.atom $b))
|`(#[l7])=>`(⟨#[fW],ab,.seq Y k,#[]⟩)
local macro_rules
|`(#[l6,$a])=>`((d0.2 a λe=>$a (e▸bz I)))
|`(#[l5])=>`(#[dd,L.take,j,aF (dI a b)])
|`(#[l4])=>`(jg (.builtin e)=aw (.type "method_descriptor"))
|`(#[l3,$a])=>`((er (($a).filter #[gx]) L.length))
|`(#[l2,$a])=>`($a++[#[fR,#[aH].flatMap λc=>[c.1,c.2]]])
|`(#[l1])=>`((E0.endLine==N0.line)=ae)
|`(#[l0])=>`((nh M !="object.__getattribute__")=ag)
|`(#[lZ])=>`(jc s.heap z u r .none)
|`(#[lY])=>`(#[aP,#[cU,#[cy],j],r,o0])
|`(#[lX,$a,$b,$c,$d])=>`(aH w (m+1) (bM $a) #[be,$b] $c #[be,$d])
local macro_rules
|`(#[lW,$a,$b])=>`(($a #[aj,"list_iterator",.fields,#[$b,.int 0 0]]))
|`(#[lV,$a,$b])=>`(u0::C0::$a ::R::J::l0::c0::S::$b)
|`(#[lU])=>`(gm s.heap u #[M,i] #[M,i])
|`(#[lT,$a,$b,$c,$d])=>`(#[cb,t,40,$a,#[cb,t,41,#[aa,$b,ag,$c],$d]])
|`(#[lS])=>`(e0.length=f0.length)
|`(#[lR,$a])=>`(∀t,#[kW,$a,"function"])
|`(#[lQ,$a])=>`(λ⟨Y,n,e,h⟩=>#[Q,n,e,$a h])
|`(#[lP])=>`(λ⟨_,a0⟩=>⟨by omega,a0⟩)
|`(#[lO])=>`((wX λ_ _ _=>by kernel_rfl))
|`(#[lN])=>`((F0++[a0.objs.size]))
local macro_rules
|`(#[lM])=>`((ah ((aR #[fQ]).map #[h7])))
|`(#[lL,$a])=>`(#[cT,#[aa,($a !="object.__getattribute__")=ae,_,_]])
|`(#[lK])=>`(([t]++bj [] (r.map (eL M))))
|`(#[lJ,$a,$b,$c,$d])=>`(#[bS,bM,.Mod,#[U,$a/#[I,$b]],#[be,$c],#[be,$d]])
|`(#[lI,$a])=>`(eP (dI a b) (cV c 12) 0 $a)
|`(#[lH])=>`(f.gD I λb o e X n0 _=>k b o e X n0)
|`(#[lG])=>`(bS (j+1) [(ak "read",.ob j)])
|`(#[lF])=>`(∀y∈X,∀j,y≠.ob j)
|`(#[lE])=>`(∃a,S[d]?=aa a/\o.dict=aa a)
|`(#[lD])=>`(∀c,br (M c) (-#[bt])=aa c)
local macro_rules
|`(#[lC])=>`(ec B w n O c0 U b0 i o0)
|`(#[lB])=>`(#[gy,g,H[b+i]?=aa (aX b e0)])
|`(#[lA,$a,$b,$c])=>`($a #[aE] A.in1 (oO B (hF t C z)) (oP B (cf C z) (hF t C z) #[di,t]) $b (.send .none) $c)
|`(#[lz,$a,$b])=>`(R2 _ _ $a $b (j2 _ (o2 _ #[z])))
|`(#[ly,$a,$b])=>`(zD $a $b "object.__setattr__" "object")
|`(#[lx,$a,$b,$c,$d,$e])=>`(∀O U H,#[aR,H,$a,ah (l.map #[cp])]->bZ B w $b O #[c5,$c] $d U H #[ao,[$e]] H)
|`(#[lw,$a,$b,$c])=>`(λO U H h=>$a h rfl (bK.mpr #[P,$b]) $c)
|`(#[lv,$a,$b])=>`(Fn B w n 329 [#[T,#[eG]],#[cB,#[bh]],#[bk,$a,#[jo]]] $b)
|`(#[lu,$a])=>`(∀k,k∈aR L.length->$a)
|`(#[lt,$a,$b])=>`((uP #[aj,"callable_iterator",.fields,$a])=.fields $b)
local macro_rules
|`(#[ls,$a])=>`(et B $a d.gens.size d s)
|`(#[lr,$a])=>`(#[jp,$a,[#[gA],#[az],.ref C]])
|`(#[lq])=>`(h.push #[aj,"list_iterator",.fields,#[#[az],.int 0 0]])
|`(#[lp])=>`(_=e0.set k (ix f0 L A k))
|`(#[lo])=>`(∀b o,#[de]->bu h b->#[aq,b]->#[gE])
|`(#[ln])=>`(∀J,zJ z J=([],[]))
|`(#[lm,$a])=>`(∀l0,(l0,jG)∈j0.names->l0∈f0.closure.map (·.1)/\(l0==$a)=ag)
|`(#[ll])=>`(∀q0,C (b0++[#[bQ,q0]]))
|`(#[lk,$a])=>`([#[fm],#[bk,c0.map,#[cR]],#[T,(c0.map #[ib]).map M],#[T,L.map M],$a])
|`(#[lj,$a,$b,$c])=>`(qv (w:=w) (n:=n) $a (b:=$b) $c #[f])
local macro_rules
|`(#[li,$a])=>`(.inl ⟨_,e0.set k (L.getD ($a%L.length) 0),rfl,?_,?_⟩)
|`(#[lh])=>`(b0[t]?=aa (.tup [u,v]))
|`(#[lg,$a])=>`(#[dA,.AugAssign $a I a i0])
|`(#[lf])=>`(bh (.type T) "__getattribute__"=aw (aa (.builtin M)))
|`(#[le])=>`(k1 e0 k _ (u0 _ a0))
|`(#[ld])=>`([A,#[dC],.list u,.list E,.list [.str #[gw],.str [34,101,110,100],.str [101,110,100,10]]])
|`(#[lc])=>`(Ev B w n g q v d y f)
|`(#[lb,$a])=>`([#[fm],.list X,#[bk,c0.map,#[cR]],#[T,(c0.map #[ib]).map M],#[T,L.map M],$a])
|`(#[la,$a])=>`(∀H∈bc (bf l.length #[bK]),$a)
|`(#[k9])=>`(∃v0 e0,#[dt,"__builtins__",v0]/\v0≠cU/\#[bv,v0,e0]/\e0.cls=.type "module"/\e0.dict=aa cU/\e0.data=.plain)
local macro_rules
|`(#[k8,$a,$b])=>`(f0.getD (jd (#[fl,$a,$b]) #[gz]) [])
|`(#[k7,$a,$b,$c,$d,$e])=>`(($a $b).at' λo e=>$c _ (eN.mpr (bk e)) ($d) o ($e _ _ e))
|`(#[k6,$a,$b])=>`(aj.set $a $b rfl #[aU] #[aS] #[am] ?_)
|`(#[k5,$a,$b,$c,$d,$e])=>`(Q::#[dx]::U::$a ::L::#[c3]::$b ::$c ::$d ::$e ::Y)
|`(#[k4])=>`(λA S Z s R G=>h A _ _ s R (G.le Y))
|`(#[k3,$a,$b,$c,$d,$e,$f,$g])=>`(aj.gX (i:=3) (X:=c0.map #[cR]) (C:=λs=>#[aR,s,$a,c0.map #[cR]]) (b0:=$b) (c:=λm v s=>∃y e0,v=[#[bi],#[v,A],#[v,n],y,$c,$d,#[ct,$e],$f,ab,ab,ab,ab,ab]/\e0=(c0.take m).foldl (λo k=>o.set k (ix f0 L A k)) f0/\s=$g) ?_ rfl #[aU] #[du,ab,f0,rfl,rfl] ?_ ?_ ?_ #[am])
|`(#[k2,$a])=>`(#[cz]::P::O::j::i0::b0::Q::T0::U::#[v,bW c g]::#[v,2^bW c g]::$a ::Y)
|`(#[k1])=>`([144,160,167,174,182,189,197,152,64,78,106,113])
|`(#[k0,$a])=>`([f0,h0,k0,m0,o0,p0,q0,s0,t0,v0,j0,n0,x0,y0,A0,E0,I0,J0,G0,F0,#[T,(aR N).map #[hd]],.list [#[ay,0]],#[aN,ib L l $a]])
|`(#[kZ,$a])=>`((eE l0 q C N J0 $a ae i P j I0 G0 H0 A0 t0 x0 M0 F))
local macro_rules
|`(#[kY])=>`([.Name x F0,.Name y E0])
|`(#[kX])=>`({cls:=.ref 298,dict:=aa X.objs.size,data:=.plain})
|`(#[kW,$a,$b])=>`((#[bw]:au).TypeIs (.ref $a) $b)
|`(#[kV,$a,$b,$c])=>`(∀(A:aS)(J:aO)(S:#[t])(s:au)(Q:#[aI,$a])(E:#[C]),#[bc]->#[ah]->($b)->#[as,$c])
|`(#[kU])=>`((by rw[z.size];exact y))
|`(#[kT])=>`(((I[i]?.getD ([],[])).1))
|`(#[kS])=>`(((I[i]?.getD ([],[])).2))
|`(#[kR])=>`((f0.closure.map (·.1)).Nodup)
|`(#[kQ,$a,$b,$c])=>`($a/\$b/\f0.globals=el/\f0.builtins=cU/\$c)
|`(#[kP])=>`((s.heap.objs.size+1))
local macro_rules
|`(#[kO,$a])=>`((Ev.name $a rfl rfl #[ak]))
|`(#[kN])=>`((A++(dz j g l).map (aX A.length)++v0))
|`(#[kM])=>`([c,y,A,I,.list k0,f,N])
|`(#[kL,$a,$b])=>`({s with heap:=($a).push (dn "list" $b 0)})
|`(#[kK])=>`(o.cls=.type "function")
|`(#[kJ])=>`(∀a∈S,a<s.heap.objs.size)
|`(#[kI,$a,$b])=>`(#[bS,dp,$a,#[cr],#[U,j],.bool ($b)])
|`(#[kH,$a])=>`(hx O J S B s.heap.objs.size $a)
|`(#[kG])=>`(f0.kwdefaults=.none)
|`(#[kF])=>`(f0.scope.names.lookup _=_)
local macro_rules
|`(#[kE])=>`(#[h8,"object.__getattribute__"])
|`(#[kD])=>`(#[hb,#[df],#[aN,u.map (ep (bW c g) f)]])
|`(#[kC,$a,$b])=>`(O.sc.names[$a]?=aa (ak $b,.globalImplicit))
|`(#[kB])=>`(#[bk,(bG f).map,#[aV]])
|`(#[kA])=>`((jW λ_=>by kernel_rfl))
|`(#[kz])=>`((jL c0 a ab f.size))
|`(#[ky,$a])=>`(∀(A:aS)(J:aO)(S:#[t])(s:au)(Q E:#[C]),$a)
|`(#[kx,$a])=>`($a (ak "self")=aa .local)
|`(#[kw])=>`(s.heap.get? c=aa o)
|`(#[kv])=>`(.list [#[ay,0],#[ay,1],#[ay,f-1]])
local macro_rules
|`(#[ku,$a])=>`(λA J S s Q E G M q=>h A _ _ s Q E G M $a)
|`(#[kt,$a])=>`(λp C v⟨o,N,a0⟩=>#[aY,$a,a0])
|`(#[ks])=>`(λb o e=>bN _ (bN _ e))
|`(#[kr])=>`(λx e=>by cases e;rfl)
|`(#[kq])=>`(#[s,bC,I]<=2^20)
|`(#[kp,$a])=>`(#[a9,$a,#[P,by rw[<-M.len];simp]])
|`(#[ko,$a])=>`($a=s.heap.objs.size+1)
|`(#[kn])=>`(("__classdict__":aq))
|`(#[km,$a])=>`(#[aY,($a).trans N,a0])
|`(#[kl])=>`(#[d4,T,"__getattr__"])
local macro_rules
|`(#[kk])=>`((ah (f.map #[b5])))
|`(#[kj,$a])=>`(#[ac,C.rel.fX _ $a,ft _])
|`(#[ki])=>`(bj [] (f0.map (eL M)))
|`(#[kh,$a])=>`($a∈j0.names.take k)
|`(#[kg,$a])=>`(#[#[az],.str #[dw] $a,#[dv]])
|`(#[kf])=>`(#[aa,H.contains (p+bp l),fa l (bp l),l])
|`(#[ke,$a])=>`((fW #[aT,c]).getD $a .none)
|`(#[kd])=>`(∀x∈L,97<=x/\x<=101)
|`(#[kc,$a])=>`(c0.CodeRec (.ref $a) x.qual)
|`(#[kb])=>`((x=="__debug__")=ag)
local macro_rules
|`(#[ka,$a,$b])=>`(bH.dU h0.F u $a rfl rfl rfl $b rfl rfl rfl ?_)
|`(#[j9])=>`(f0.body=.stmts r0)
|`(#[j8])=>`((.Slice c0 P ab p))
|`(#[j7])=>`(cy B w n O j U b0 Y o0)
|`(#[j6])=>`(∀i,i<n->j[i]?=S[i]?)
|`(#[j5,$a])=>`((h.push #[aj,"dict",.dict,#[]]).push $a)
|`(#[j4,$a])=>`(($a).mono λo v s h=>?_)
|`(#[j3,$a])=>`(⟨ff _ _,λb Z=>?_,?_,$a⟩)
|`(#[j2])=>`(#[dh,_::[],_,_,_])
|`(#[j1,$a,$b])=>`(#[ky,#[bc]->#[ah]->(∀X L j,$a)->#[as,$b]])
local macro_rules
|`(#[jZ,$a,$b])=>`(fy $a A R Y n d c ((me $b J).wrap h0 H a g) j0 s)
|`(#[jY,$a,$b])=>`(∀x:V,D.atom ($a $b)=D.atom x->bU x=ae)
|`(#[jX])=>`((A++(#[bj,j0,d,C,I]).map (aX A.length)))
|`(#[jW])=>`(k+1+r.length=k+(r.length+1))
|`(#[jV,$a,$b])=>`(∀l:#[bB],l.Perm f0->l.Pairwise (λa b=>$a a<=$b b)->l=r)
|`(#[jU,$a,$b,$c,$d,$e,$f])=>`($a ::$b ::g::R::J::l0::c0::S::X::$c ::$d ::$e ::$f)
|`(#[jT,$a,$b,$c,$d,$e,$f,$g])=>`(aj.gX (B:=B) (w:=w) (n:=n) (O:=bB) (i:=$a) (X:=$b) (C:=$c) (b0:=$d) (c:=λm v s=>$e) $f rfl #[aU] $g ?_ ?_ ?_ ?_)
|`(#[jS,$a])=>`(∀n R P T M k,e0=.hp n R P T M k->$a)
|`(#[jR])=>`(λe=>(ag,aW e J))
|`(#[jQ,$a])=>`(∀{j:Nat},j<=$a->j<=aC)
local macro_rules
|`(#[jP,$a,$b])=>`($a=.free->(J.cells.lookup $b).isSome=ae)
|`(#[jO,$a,$b])=>`($a (λk=>V.int ($b :Nat))=X)
|`(#[jN,$a])=>`((#[dS,#[cA,$a]]++v0))
|`(#[jM])=>`(kB (k:=k+1) (by simpa using h))
|`(#[jL])=>`([.ob 1,.str f,.str p])
|`(#[jK,$a,$b,$c,$d])=>`(fA B w n O (dp $a) $b $c U H $d H)
|`(#[jJ])=>`((cS U (eQ O.sc.names j0.names) Y))
|`(#[jI])=>`((lq.take (eM a)))
|`(#[jH])=>`(#[t]->bo->ai->Prop)
|`(#[jG])=>`(cN B w n O #[aL,"range",p] (.type "range"))
local macro_rules
|`(#[jF])=>`(dh d.text (d.text.size-p) p)
|`(#[jE])=>`(ec B w n O P U o0 j w0)
|`(#[jD])=>`([#[T,l.map M],#[T,l.map #[cp]],T,L,.list f0])
|`(#[jC])=>`(#[aj,"function",.func,f0])
|`(#[jB])=>`(#[fS,vi #[eC] a i0.line J=aw ag])
|`(#[jA])=>`((S.drop b).take g.length)
|`(#[jz])=>`(bb B 113 hL 3 lr)
|`(#[jy,$a,$b,$c,$d])=>`(#[.str ($a j).2.1.1 ($b j).2.1.2,.str ($c j).2.2.1 ($d j).2.2.2])
|`(#[jx])=>`(fP (j0.getD k 0) r)
|`(#[jw])=>`(((N.update f (dQ λ_=>(#[]:#[bb]))).push (dn "tuple" Y.toList.toArray 0)))
local macro_rules
|`(#[jv])=>`(∀b o,#[de]->bu h b->#[aq,b]->Yg B b o->#[gE])
|`(#[ju,$a])=>`([f0,#[dC],k0,m0,o0,p0,q0,s0,t0,v0,x0,A0,G0,H0,I0,J0,$a,#[kB],#[gD],L0,N0,O0,Y0])
|`(#[jt,$a])=>`((az L.length L 0 $a))
|`(#[js,$a,$b])=>`(Ob.raw (gi z ($a r0) d $b))
|`(#[jr,$a])=>`(∀p∈$a,J.cells.lookup p.1=aa p.2)
|`(#[jq])=>`((b0++[#[bQ,[]]]))
|`(#[jp,$a,$b])=>`((dX (.builtin $a) $b))
|`(#[jo])=>`(λq=>V.int (q:Nat))
|`(#[jn])=>`(I.getD (er J0 g) 0)
|`(#[jm,$a])=>`($a=s.heap.objs.size)
local macro_rules
|`(#[jl,$a])=>`($a (by simpa[dy]using h))
|`(#[jk])=>`(List (Option Nat))
|`(#[jj])=>`(#[R,L.heap.objs.size])
|`(#[ji,$a,$b])=>`(B.heap.objs.size<=$a/\$b)
|`(#[jh,$a])=>`(($a (ay (aF (iR M)))))
|`(#[jg])=>`((n0.reverse.take k))
|`(#[jf])=>`(r0 "__getattr__"=ab)
|`(#[je,$a])=>`((.list (ah ($a #[b5]))))
|`(#[jd])=>`((bW c L.length))
|`(#[jc,$a,$b])=>`($a=.local\/($b=.cell/\x∈O.mc))
local macro_rules
|`(#[jb])=>`((cP f0 L 174))
|`(#[ja])=>`((bj [] #[eH,f0.map]))
|`(#[i9,$a,$b,$c])=>`(Ev B w (n+1) O $a U H $b $c)
|`(#[i8,$a])=>`(hx O J S B C.heap.objs.size $a)
|`(#[i7])=>`(ei #[f] #[f])
|`(#[i6])=>`(#[jr,f0.closure])
|`(#[i5])=>`((bf l.length #[bK]))
|`(#[i4,$a])=>`(s.heap.IsListIter i l $a)
|`(#[i3])=>`(#[cU,#[c4,G,y0],j])
|`(#[i2,$a])=>`($a b o (by simpa using Z) e)
local macro_rules
|`(#[i1,$a])=>`(#[Q,rfl,λ_ _ x=>x,$a])
|`(#[i0])=>`(A.depth+1+n<_)
|`(#[iZ])=>`(J0.getD #[u] 0)
|`(#[iY])=>`((s.heap.update x (dQ f)))
|`(#[iX,$a])=>`(az l.length l 0 $a)
|`(#[iW])=>`(b0[d]?=aa (bS k j0))
|`(#[iV,$a])=>`(ck B w n O $a U H X C b0)
|`(#[iU,$a,$b,$c])=>`(n1.mono _ _ _ _ _ $a $b λo e=>$c)
|`(#[iT,$a,$b,$c])=>`(E::#[ar]::$a ::$b ::R::J::l0::c0::S::X::$c)
|`(#[iS])=>`([j0,#[df],b,#[df],.list P,.list u])
local macro_rules
|`(#[iR,$a])=>`(k A _ _ _ Q E G C.rel $a)
|`(#[iQ])=>`(ir (v A _ _ _ _ s _ E G M ?_))
|`(#[iP,$a])=>`([9,10]++eP M $a 0 L)
|`(#[iO])=>`([#[bk,A.map,V.int],#[bk,u.map,V.int]])
|`(#[iN])=>`(∀c∈L,iI c)
|`(#[iM])=>`(gG (az L.length L 0 []))
|`(#[iL,$a])=>`(bu.no U (λp0 q t c=>#[Y]) $a)
|`(#[iK])=>`(#[e1,#[eE],#[aq,b]])
|`(#[iJ])=>`((dn "list" #[] F))
|`(#[iI])=>`(bh (.type T) G=aw y)
local macro_rules
|`(#[iH])=>`([#[bQ,j],.list a,.list u,#[T,#[eG]],.list i])
|`(#[iG])=>`(((S.drop b).take g.length))
|`(#[iF])=>`(∃i,h.Ns iq i/\i (ak "thirdparty.any")=ab)
|`(#[iE])=>`((h.push #[aj,"dict",.dict,#[]]))
|`(#[iD])=>`(h.objs.size=335)
|`(#[iC,$a,$b])=>`(⟨P.pre,P.new,$a,$b⟩)
|`(#[iB])=>`(T.length<=10000)
|`(#[iA])=>`([h.objs.size,h.objs.size+1])
|`(#[iz])=>`(∀c,o.data≠.cls c)
|`(#[iy,$a])=>`(∀Z,Z.length=$a->p Z)
local macro_rules
|`(#[ix])=>`((A.over c j0))
|`(#[iw])=>`(((X.push #[aj,"dict",.dict,#[]]).push #[kX]))
|`(#[iv])=>`(((h.push #[aj,"dict",.dict,#[]]).push #[fV,200,.seq #[]]))
|`(#[iu])=>`(B.heap.get? f=aa q0)
|`(#[it])=>`(∀b,#[aK,b]->#[aq,b])
|`(#[is])=>`(if#[ia]then[92]++[c]else[c])
|`(#[ir,$a])=>`(af (kc S a Y z X $a ?_))
|`(#[iq])=>`(λZ=>[#[d2,Z],#[d2,h0::Z]])
|`(#[ip])=>`((aF (dI a b) L[j]))
|`(#[io,$a,$b])=>`(aG B eS J [] $a [] $b)
local macro_rules
|`(#[im])=>`(h.Inst x C s0)
|`(#[il,$a,$b])=>`(#[aP,.Constant $a k i0,$b,H])
|`(#[ik,$a])=>`((af (ml (T:="int") (b:=ag) (nk _ _ _) $a ?_)))
|`(#[ij])=>`([E0,X,J,S,v0])
|`(#[ii])=>`(bb B f j0 k r0 b0)
|`(#[ih,$a,$b,$c])=>`((show mW (ak $a) [(ak ".0",NameKind.local),(ak "fws",NameKind.local),(ak "part",NameKind.local),(ak $b,ow)]=aa $c from by decide+kernel))
|`(#[ig,$a,$b,$c,$d])=>`(aj.ps v $a #[aD,0] rfl cA.dg rfl #[j] #[aC] #[aC] $b $c ($d) #[an] rfl rfl rfl ?_)
|`(#[ie])=>`([f0,h0,k0,m0,o0,p0,q0,s0,t0,v0,f,j,k,m,q,y,z,A,C,M,.list r])
|`(#[id,$a])=>`(∀b o,$a b=aa o->#[gE])
|`(#[ic,$a,$b,$c,$d])=>`(aj.seq (R:=$a) ($b) ($c) ($d))
local macro_rules
|`(#[ib])=>`(λk=>f0.getD k 0)
|`(#[ia])=>`(#[aB,c∈[92,34]])
|`(#[h9,$a,$b,$c])=>`(((be $a ag $b).foldl (eZ a) $c))
|`(#[h8,$a])=>`(hj B C T v0 F $a r0)
|`(#[h7])=>`(λm=>aU M #[jt,#[mM]])
|`(#[h6])=>`(.type "tuple")
|`(#[h5,$a,$b])=>`(#[cs,$a,_,G,C.rel,$b])
|`(#[h4])=>`((by have:=G.depth;omega))
|`(#[h3,$a,$b])=>`(⟨$a,λo f0 U B1=>$b⟩)
|`(#[h2,$a])=>`(∀t∈$a,t=40\/t=41\/(97<=t/\t<=101))
local macro_rules
|`(#[h1])=>`(λ_ _ _ _ _ _ h=>nomatch h)
|`(#[h0])=>`(λ_ _ h=>h.elim)
|`(#[hZ])=>`(λ_ _ r=>r.pre (ff _ _))
|`(#[hY,$a,$b])=>`((hdz.heap_328 P).lookup $a=aa $b)
|`(#[hX])=>`(#[v,L.length])
|`(#[hW,$a,$b])=>`((.cons $a #[bn,$b]))
|`(#[hV,$a])=>`(#[a5,$a,l.length])
|`(#[hU,$a,$b])=>`(#[a5,$a,($b).length])
|`(#[hT])=>`(#[di,dK a])
|`(#[hS,$a,$b])=>`((∀x∈$a,eV x=ae)/\$b)
local macro_rules
|`(#[hR])=>`(#[a6,b0,.list,X])
|`(#[hQ])=>`(#[e2,d.kind])
|`(#[hP])=>`(r0 "__getattribute__"=ab)
|`(#[hO])=>`((λc=>#[en,c]))
|`(#[hN])=>`(q0.data=.func f0)
|`(#[hM])=>`(cM B S H s.heap)
|`(#[hL,$a,$b])=>`(⟨$a,aa L0,.seq Y $b,#[]⟩)
|`(#[hK,$a,$b,$c,$d])=>`(#[ic,$a,λA J S s Q E G M q=>$b,$c,$d])
|`(#[hJ])=>`({s with heap:=c0})
|`(#[hI])=>`((cP f0 L 167))
local macro_rules
|`(#[hH])=>`(b+g.length<=H.length)
|`(#[hG,$a])=>`([#[ay,#[gB]],#[ay,$a]])
|`(#[hF,$a])=>`((C.G.gl $a _ _ rfl))
|`(#[hE])=>`(λQ E p s Y h=>j _ Q E p s Y h)
|`(#[hD,$a,$b,$c])=>`(($a hq).sum+$b *#[fT,$c]<=aC)
|`(#[hC,$a,$b,$c,$d,$e,$f])=>`(aB B O J $a U $b $c $d {$e with heap:=$f})
|`(#[hB])=>`((b0++[#[js,.expr,d1]]))
|`(#[hA])=>`(oi.mpr #[dj])
|`(#[hz])=>`(f0.globals=el)
|`(#[hy])=>`(f0.builtins=cU)
local macro_rules
|`(#[hx,$a,$b,$c])=>`(λn0=>#[bC,$a $b n0,$c])
|`(#[hw])=>`(#[cE,l,U,m0,h0])
|`(#[hv,$a])=>`(#[dy,.tail _ $a,by kernel_rfl])
|`(#[hu,$a])=>`(jN a (aa $a) i0.line J=aw ag)
|`(#[ht,$a,$b,$c])=>`(λe=>$a (iy R.nodup $b (e▸$c)))
|`(#[hs])=>`(eQ O.sc.names d.names=G)
|`(#[hr])=>`(∀R,e0≠.raw R)
|`(#[hq])=>`(λs0=>Z (by simp[s0]))
|`(#[hp,$a,$b])=>`(qf (.type "list") $a=aw (aa #[c5,$b]))
|`(#[ho])=>`(((h.push #[aj,"dict",.dict,#[]]).push #[fV,116,.plain]))
local macro_rules
|`(#[hn])=>`(λp=>[p.1,p.2])
|`(#[hm])=>`(bL->#[o]->#[em])
|`(#[hl,$a,$b])=>`(bZ B w n O $a ($b ::Y) U o0 r w0)
|`(#[hk])=>`(d0 (ak "super")=ab/\g0 (ak "super")=aa (.type "super"))
|`(#[hj,$a,$b])=>`(mD (w:=w) (n:=n) $a $b #[f] #[f])
|`(#[hi,$a,$b])=>`(eF J #[ax] #[ak] #[ax] rfl $a (λx h=>$b))
|`(#[hh])=>`([f0,#[dC],k0,m0,o0,p0,q0,s0,t0,v0,u0,x0,y0,A0,E0,F0,N0,O0,L0,G0,I0,J0,#[aN,I],#[aN,j0]])
|`(#[hg])=>`([b0,o0,m0,C,d])
|`(#[hf,$a])=>`(#[cE,$a,U,H,h0])
|`(#[he])=>`((aB.refl M))
local macro_rules
|`(#[hd])=>`(λm=>aU M (l m))
|`(#[hc,$a])=>`([.atom (.str $a)])
|`(#[hb,$a,$b])=>`([f0,#[dC],k0,m0,o0,p0,q0,s0,t0,v0,x0,A0,G0,H0,I0,J0,$a,#[kB],#[gD],L0,N0,O0,Y0,$b])
|`(#[ha])=>`(h.objs.size<=c0.objs.size)
|`(#[g9,$a,$b,$c])=>`(bu.no $a (λY q t d v=>$b) λY n d=>$c)
|`(#[g8])=>`((.forLoop i C r0 z J))
|`(#[g7])=>`(GH B L.heap)
|`(#[g6,$a,$b])=>`($a (ak $b)=aa .globalImplicit)
|`(#[g5])=>`(A.handled=ab)
|`(#[g4])=>`(List (aq×hX))
local macro_rules
|`(#[g3])=>`(#[bv,C,#[kZ,v0]])
|`(#[g2,$a,$b,$c])=>`(#[cj,bZ,#[c5,$a],$b,$c,m0])
|`(#[g1])=>`(#[a1,Y,ah f0])
|`(#[g0])=>`(I.length-1-k)
|`(#[gZ,$a])=>`(#[fn,$a,#[ax],#[kA]])
|`(#[gY])=>`(Y.size=I.length)
|`(#[gX])=>`(.inr (by cases e;rfl))
|`(#[gW])=>`((q _ _ #[bu]))
|`(#[gV,$a])=>`(#[cU,#[c4,ak $a,y0],[e]])
|`(#[gU])=>`(q0.cls=.type "function")
local macro_rules
|`(#[gT])=>`(af (dR (af (cj ?_))))
|`(#[gS,$a,$b])=>`(#[bS,dp,$a,#[cr],#[U,j],.bool (decide ($b))])
|`(#[gR,$a,$b,$c])=>`(($a λo e=>#[aZ,$b,e,$c]))
|`(#[gQ,$a])=>`(q _ _ _ _ _ _ #[cc] $a rfl)
|`(#[gP])=>`(1+T.count 10)
|`(#[gO,$a])=>`(#[av,O.sc.names,(y,$a)])
|`(#[gN,$a,$b,$c])=>`((Et.hD $a $b $c (by rfl)))
|`(#[gM,$a,$b])=>`(⟨kK _,λ_ h=>.inl h,$a,$b⟩)
|`(#[gL])=>`((nH λ_ _=>by kernel_rfl))
|`(#[gK,$a,$b])=>`(aj.expr ($a) (#[dj]) $b)
local macro_rules
|`(#[gJ,$a,$b,$c,$d])=>`((.ListComp $a [⟨.Name x $b,$c,$d,0⟩] d i0))
|`(#[gI,$a])=>`((cv M (bR l) [] $a))
|`(#[gH])=>`(∀c∈I,#[fp,c.1]/\#[fp,c.2])
|`(#[gG,$a,$b,$c])=>`(∀(i:Nat)(a:ao)(e0:Ob),$a->#[cC,$b]->$c)
|`(#[gF,$a,$b,$c,$d,$e])=>`(Mine.W.set (B:=B) (w:=w) (n:=n) (O:=bB) (v:=$a) (b0:=$b) (x0:=$c) $d $e rfl #[aU] #[aS] #[am] rfl ?_)
|`(#[gE])=>`(c0.get? b=aa o)
|`(#[gD])=>`(#[bk,u.map,#[aV]])
|`(#[gC,$a])=>`(∀p∈J.cells,$a)
|`(#[gB])=>`(bF (j0.drop #[u]))
|`(#[gA])=>`(.builtin e)
local macro_rules
|`(#[gz])=>`((Y.size-1))
|`(#[gy,$a,$b])=>`(∀(i:Nat)(e0:Ob),#[cC,$a]->$b)
|`(#[gx])=>`(λt=>! eb t)
|`(#[gw])=>`([101,110,100])
|`(#[gv])=>`(#[ai,[#[az]]])
|`(#[gu,$a])=>`(f0.code=.ref $a)
|`(#[gt])=>`([c,y,A,I,.list P,f,N])
|`(#[gs,$a])=>`(⟨trivial,$a⟩)
|`(#[gr,$a])=>`(∀x J,mf $a J x=aw x)
|`(#[gq,$a])=>`(B.heap.get? $a=aa o)
local macro_rules
|`(#[gp])=>`(#[d3,j0,O.fz])
|`(#[go])=>`(L.length<=5)
|`(#[gn,$a,$b,$c])=>`(br $a #[I,$b]=#[K,$c])
|`(#[gm,$a,$b])=>`(((C.trans $a).trans $b))
|`(#[gl])=>`(R.store i a _ I Z)
|`(#[gk])=>`(#[a7,h,t+1])
|`(#[gj])=>`((s.setGen g .running))
|`(#[gi])=>`((ct _ rfl))
|`(#[gh,$a])=>`(#[as,#[cP,kl,$a]])
|`(#[gg,$a])=>`((eK ($a).1.symm))
local macro_rules
|`(#[gf])=>`((i.add 17))
|`(#[ge])=>`(h.Ns cU g0)
|`(#[gd])=>`(h.Ns el d0)
|`(#[gc])=>`(#[a1,Y.toList,X])
|`(#[gb,$a])=>`((if$a then _ else _)=_)
|`(#[ga])=>`(λx z=>h x #[bo,z])
|`(#[f9,$a])=>`(λb o Z e=>(($a).2 b Z).trans e)
|`(#[f8])=>`(#[a6,H,.tup,X])
|`(#[f7,$a,$b,$c,$d])=>`(Fn B w n $a [$b,#[cB,#[I,$c]]] $d)
|`(#[f6,$a])=>`(∀(l:#[g])(a:Nat),$a)
local macro_rules
|`(#[f5])=>`(#[o]->#[l]->Prop)
|`(#[f4,$a,$b,$c])=>`(#[aP,.Subscript a $a i0,$b,$c])
|`(#[f3,$a])=>`((kk i0 (jM $a J)))
|`(#[f2,$a,$b])=>`(∀(i:Nat)(x:V),#[fU,$a]->$b)
|`(#[f1,$a,$b])=>`(R (.ok (.ret $a)) $b)
|`(#[f0,$a])=>`(∀x∈$a,x≠40/\x≠41)
|`(#[fZ])=>`(jK (.type T)=aw v0)
|`(#[fY])=>`((fV J d.names []))
|`(#[fX])=>`([34,92,34,41,34])
|`(#[fW])=>`(.type "list")
local macro_rules
|`(#[fV,$a,$b])=>`({cls:=.ref $a,dict:=aa h.objs.size,data:=$b})
|`(#[fU,$a])=>`(#[a6,$a,aa,x])
|`(#[fT,$a])=>`(($a :Tx).length)
|`(#[fS,$a])=>`(∀J,J.scope=O.sc->$a)
|`(#[fR,$a])=>`(Ob.list (ah $a))
|`(#[fQ])=>`(#[s,bc,#[a4]])
|`(#[fP])=>`(λ_ _=>False)
|`(#[fO])=>`((λ_=>True))
|`(#[fN,$a,$b])=>`(#[a9,#[dg,$a],$b])
|`(#[fM,$a,$b])=>`(($a).cps.toList=$b)
local macro_rules
|`(#[fL])=>`(λh=>nomatch h)
|`(#[fK])=>`(λc=>#[dR])
|`(#[fJ])=>`(t.length<=aC)
|`(#[fI])=>`(bW c L.length)
|`(#[fH])=>`(b0.length=r)
|`(#[fG,$a,$b,$c])=>`(∀b o,$a->$b->$c b=aa o)
|`(#[fF,$a,$b])=>`(s0 $a=aa (.ref $b))
|`(#[fE,$a])=>`($a (q _ _ #[bu]))
|`(#[fD])=>`(#[b6,o,#[ci]])
|`(#[fC,$a,$b,$c])=>`(#[cj,bZ,#[c5,$a],$b,$c,H])
local macro_rules
|`(#[fB])=>`((#[dQ,A,l]++[dJ]))
|`(#[fA,$a])=>`(#[a9,#[he].toks _,$a])
|`(#[fz,$a,$b])=>`(o.data=.seq $a $b)
|`(#[fy,$a])=>`($a (f0.getD k 0))
|`(#[fx,$a,$b,$c,$d])=>`(#[bS,bM,$a,#[be,$b],#[be,$c],#[be,$d]])
|`(#[fw,$a,$b])=>`(($a%#[I,$b]).toNat)
|`(#[fv])=>`({s with toks:=p0})
|`(#[fu,$a,$b,$c])=>`(($a #[aj,"tuple",.seq,#[$b,$c]]))
|`(#[ft])=>`(∀o,#[dz,a]->#[cq])
|`(#[fs])=>`(#[bZ,cy,j,Y])
local macro_rules
|`(#[fr,$a,$b,$c])=>`(aj.cutAt $a $b ($c) (λ_ _ _ h=>h.1) (λv s h=>?_))
|`(#[fq,$a])=>`(Fn.dU F u rfl rfl rfl rfl $a ?_)
|`(#[fp,$a])=>`(($a).length<=2^20)
|`(#[fo,$a,$b])=>`((λo v s=>#[eI,$a,$b]))
|`(#[fn,$a,$b,$c])=>`(eF J (c:=$a) #[ax] #[ak] $b rfl $c #[aO])
|`(#[fm])=>`(#[T,#[cD,f0.map]])
|`(#[fl,$a,$b])=>`(λi j=>#[aB,$a<$b])
|`(#[fk,$a])=>`(∀x∈$a,bU x=ae)
|`(#[fj])=>`(#[D,if_neg])
|`(#[fi,$a,$b])=>`(aM (VR []) $a $b)
local macro_rules
|`(#[fh,$a])=>`(#[d4,"list",$a])
|`(#[fg,$a,$b])=>`(#[bS,ek,$a,#[cr],#[U,j],$b])
|`(#[ff,$a])=>`((U.set i (aa $a)))
|`(#[fe])=>`(#[d3,fC d O.sc,O.fz])
|`(#[fd])=>`(List (aq×V))
|`(#[fc])=>`(f0.getD j [])
|`(#[fb])=>`(#[id,s.heap.get?])
|`(#[fa])=>`(#[cQ,c0,p0])
|`(#[e9,$a,$b])=>`([.str $a,.str $b])
|`(#[e8,$a,$b,$c,$d,$e])=>`($a ::$b ::$c ::R::J::l0::c0::S::X::$d ::$e)
local macro_rules
|`(#[e7])=>`((G0++[k0.heap.objs.size]))
|`(#[e6,$a,$b])=>`($a A J S s _ E G M $b)
|`(#[e5])=>`((I++[(f,p)]))
|`(#[e4])=>`((az l.length l 0 H))
|`(#[e3,$a])=>`(h.get? $a=aa o)
|`(#[e2,$a])=>`($a=.function)
|`(#[e1,$a,$b])=>`(∀b o,$a->$b->#[gE])
|`(#[e0])=>`(λb o e=>bN _ e)
|`(#[eZ])=>`(#[v,l.length])
|`(#[eY])=>`((cP f0 s.heap.objs.size f))
local macro_rules
|`(#[eX])=>`(#[a2,Int])
|`(#[eW])=>`(#[aM,if_neg])
|`(#[eV])=>`(j0.isCoroutine=ag)
|`(#[eU])=>`(j0.isGenerator=ag)
|`(#[eT,$a,$b])=>`(r0 $a=aa (.ref $b))
|`(#[eS])=>`(bF (j0.drop k))
|`(#[eR])=>`(#[bv,C,#[kZ,#[eo]]])
|`(#[eQ,$a])=>`((.list (ah $a)))
|`(#[eP])=>`(Cx (n+1) A)
|`(#[eO])=>`(cA e0 C d)
local macro_rules
|`(#[eN])=>`(jn O.mc d=ae)
|`(#[eM])=>`(cV c 12 j)
|`(#[eL,$a,$b])=>`(λG=>$a (G▸$b))
|`(#[eK])=>`([34,40,34])
|`(#[eJ,$a])=>`(#[dA,.Assign $a a i0])
|`(#[eI,$a,$b])=>`(o=.next/\$a/\$b)
|`(#[eH,$a])=>`(($a (ay (aF M))))
|`(#[eG])=>`((L.map (aF M)))
|`(#[eF,$a])=>`((v.set i (aa $a)))
|`(#[eE])=>`(s.heap.get? b=aa o)
local macro_rules
|`(#[eD])=>`((gb l k))
|`(#[eC])=>`([.Tuple #[kY] L0 N0])
|`(#[eB,$a])=>`(∀l:#[g],$a)
|`(#[eA])=>`(#[a2,Bool])
|`(#[ez])=>`(i<U.length)
|`(#[ey])=>`(I.length<=2^20)
|`(#[ex])=>`(Array Nat)
|`(#[ew])=>`(#[bj,cH,d,C,I])
|`(#[ev,$a,$b])=>`(∀b o,$a b=aa o->$b b=aa o)
|`(#[eu])=>`(#[e2,j0.kind])
local macro_rules
|`(#[et,$a])=>`(#[G,O.sc.names,(x,$a)])
|`(#[es,$a])=>`(#[G,O.sc.names,(l0,$a)])
|`(#[er])=>`(f0.getD i [])
|`(#[eq,$a])=>`(ax M A $a Q E s)
|`(#[ep,$a])=>`(ax #[cS] A $a Q E #[bw])
|`(#[eo])=>`([#[fW],.type "object"])
|`(#[en,$a])=>`(V.str (M $a))
|`(#[em])=>`(#[l]->Prop)
|`(#[el,$a,$b,$c])=>`(ax #[aE] A $a ($b) E $c)
|`(#[ek])=>`((.refl M))
local macro_rules
|`(#[ej])=>`(#[aQ,m0,j,L])
|`(#[ei])=>`((dS P f))
|`(#[eh])=>`(λ_ _ _ h=>nomatch h)
|`(#[eg])=>`((bp l+1))
|`(#[ef])=>`(#[R,c0.objs.size])
|`(#[ee])=>`(cD [e]=ae)
|`(#[ed,$a])=>`(#[cT,$a>>=_])
|`(#[ec])=>`(∀J,ej o G J (aW o J)=aW o J)
|`(#[eb,$a])=>`(∀J,ej o (ak $a) J (aW o J)=aW o J)
|`(#[ea,$a])=>`($a++[#[bQ,q0]]=m0)
local macro_rules
|`(#[d9,$a,$b])=>`(#[dS,(cu T j $a)]++$b)
|`(#[d8])=>`((f0.getD k 0))
|`(#[d7])=>`(M c++[e c])
|`(#[d6,$a,$b,$c,$d,$e,$f])=>`(#[dh,(en.drop $a).take $b,$c,$d,#[fo,$e,s=$f]])
|`(#[d5])=>`(l.length%2)
|`(#[d4,$a,$b])=>`(bh (.type $a) $b=aw ab)
|`(#[d3,$a,$b])=>`(⟨$a,$b,[],[]⟩)
|`(#[d2,$a])=>`(aU M (n0 $a))
|`(#[d1,$a])=>`(#[dT,$a,#[bw]])
|`(#[d0,$a,$b])=>`(#[cE,l,$a,$b,h0])
local macro_rules
|`(#[dZ,$a,$b,$c])=>`($a λo e=>#[aZ,$b,e,$c])
|`(#[dY,$a,$b])=>`(⟨_,$a,rfl,$b,rfl⟩)
|`(#[dX])=>`(o.data=.func f0)
|`(#[dW,$a,$b,$c])=>`($a=.local\/($b=.cell/\$c∈O.mc))
|`(#[dV,$a,$b])=>`(($a $b).isNone=ae)
|`(#[dU])=>`(h.Ns N r0)
|`(#[dT,$a,$b])=>`(ax #[aE] A $a Q E $b)
|`(#[dS,$a])=>`(#[hg]++($a).map (aX 5))
|`(#[dR])=>`(V.str [c])
|`(#[dQ,$a,$b])=>`(cv M (bR l) $a $b)
local macro_rules
|`(#[dP])=>`((B.at_ c0))
|`(#[dO,$a,$b])=>`(s.heap.Ns $a $b)
|`(#[dN,$a])=>`(λb o e _=>$a b o e)
|`(#[dM,$a,$b,$c,$d])=>`(.inl ⟨$a,$b,$c,$d⟩)
|`(#[dL,$a,$b,$c])=>`((.Attribute $a (ak $b) $c))
|`(#[dK])=>`(#[eH,f.map])
|`(#[dJ,$a])=>`(#[gC,p.2≠$a])
|`(#[dI,$a,$b,$c])=>`(af (dY $a $b (x:=$c) rfl ?_))
|`(#[dH,$a])=>`(aj.nil (aj.nil $a))
|`(#[dG])=>`(dt _ _ u)
local macro_rules
|`(#[dF,$a])=>`(∀t∈$a,hI t)
|`(#[dE])=>`(⟨#[c]⟩)
|`(#[dD,$a])=>`(V.int #[I,$a])
|`(#[dC])=>`(.list [.int a,.int b,.int c,.int d])
|`(#[dB,$a,$b])=>`($a/\cb (B0 h c0) $b)
|`(#[dA,$a])=>`(#[hf,$a ::l])
|`(#[dz,$a])=>`(c0.get? $a=aa o)
|`(#[dy,$a,$b])=>`(⟨$a,rfl,$b⟩)
|`(#[dx])=>`(#[ad,22])
|`(#[dw])=>`(⟨#[]⟩)
local macro_rules
|`(#[dv])=>`(.bool ag)
|`(#[du,$a,$b,$c,$d])=>`(⟨$a,$b,$c,$d,rfl⟩)
|`(#[dt,$a,$b])=>`(d0 (ak $a)=aa (.ref $b))
|`(#[ds])=>`(#[di,t].length)
|`(#[dr,$a])=>`(∀b∈M,$a)
|`(#[dq])=>`(.inl rfl)
|`(#[dp,$a])=>`(#[ac,rfl,$a])
|`(#[dn])=>`((#[bj,j0,d,C,I]++v0))
|`(#[dm])=>`(o.cls=.ref C)
|`(#[dl,$a,$b,$c])=>`((cz.cons $a $b #[aO] $c))
local macro_rules
|`(#[dk,$a,$b,$c])=>`(aG B O J $a U $b $c)
|`(#[dj])=>`(λ_ _=>rfl)
|`(#[di,$a])=>`((be 0 ag $a))
|`(#[dh,$a,$b,$c,$d])=>`(aj B w n bB $a $b $c $d)
|`(#[dg,$a])=>`((C.trans $a))
|`(#[df])=>`(#[T,f.map #[b5]])
|`(#[de])=>`(h.get? b=aa o)
|`(#[dd,$a,$b,$c])=>`(ah (($a $b).map $c))
|`(#[dc,$a,$b])=>`(λA J S s Q E G M q=>$a ($b))
|`(#[db,$a])=>`(af (aA $a))
local macro_rules
|`(#[da])=>`(Array fw)
|`(#[c9])=>`(GH B s.heap)
|`(#[c8])=>`(cD j=ae)
|`(#[c7])=>`(if_neg fG)
|`(#[c6])=>`(fE B w d0 g0 s0 L)
|`(#[c5,$a])=>`((.builtin $a))
|`(#[c4,$a,$b])=>`((.Attribute o $a $b))
|`(#[c3])=>`(#[ad,23])
|`(#[c2])=>`(#[G,S,a])
|`(#[c1])=>`(λi x e=>?_)
local macro_rules
|`(#[c0,$a,$b])=>`((.str ($a $b)))
|`(#[cZ])=>`(#[ad,20])
|`(#[cY])=>`(Nat->Tx)
|`(#[cX,$a])=>`(#[bd,cQ,$a])
|`(#[cW,$a,$b,$c])=>`((($a).2.1 _ _ $b $c))
|`(#[cV,$a])=>`(#[Q,$a,rfl,rfl])
|`(#[cU,$a,$b])=>`(#[bR,$a,$b,i0])
|`(#[cT,$a])=>`(ax _ _ $a _ _ _)
|`(#[cS])=>`((aE k w))
|`(#[cR])=>`(λk=>#[dD,k])
local macro_rules
|`(#[cQ,$a,$b])=>`({s with heap:=$a,toks:=$b})
|`(#[cP,$a,$b])=>`(($a (.ref $b)))
|`(#[cO,$a])=>`((.bool $a))
|`(#[cN])=>`(#[ad,16])
|`(#[cM,$a])=>`(($a).length<=aC)
|`(#[cL])=>`(k<l.length)
|`(#[cK,$a])=>`((bG $a).getD k 0)
|`(#[cJ,$a])=>`(#[d4,"object",$a])
|`(#[cI,$a,$b,$c])=>`(bh (.type $a) $b=aw (aa #[c5,$c]))
|`(#[cH])=>`(([t]++R))
local macro_rules
|`(#[cG,$a])=>`(⟨_,g,rfl,$a,rfl⟩)
|`(#[cF,$a,$b,$c,$d,$e])=>`(#[dB,bb #[bD] $a $b $c $d,$e])
|`(#[cE,$a,$b,$c,$d])=>`(aj B w n O $a $b $c $d)
|`(#[cD,$a])=>`(($a (ay M)))
|`(#[cC,$a])=>`(#[G,$a,e0])
|`(#[cB,$a])=>`(.atom (.int $a))
|`(#[cA,$a])=>`((cu T $a []))
|`(#[cz])=>`(#[ad,18])
|`(#[cy])=>`((.Name x p))
|`(#[cx])=>`(#[dk,S,H,h])
local macro_rules
|`(#[cw])=>`(if_pos rfl)
|`(#[cv])=>`((aA ?_))
|`(#[cu,$a])=>`(cx 0 $a=[])
|`(#[ct,$a])=>`(aa (.int $a))
|`(#[cs,$a,$b,$c,$d,$e])=>`($a A _ _ $b _ E $c $d $e)
|`(#[cr])=>`(#[U,i])
|`(#[cq])=>`(#[e3,a])
|`(#[cp])=>`(λc=>[c])
|`(#[co,$a])=>`(show$a from rfl)
|`(#[cn])=>`((.ob j))
local macro_rules
|`(#[cm])=>`(#[M,f])
|`(#[cl])=>`(#[e3,x])
|`(#[ck])=>`(λ_ h=>nomatch h)
|`(#[cj,$a,$b,$c,$d,$e])=>`($a B w n O $b $c U H $d $e)
|`(#[ci])=>`((.ob i))
|`(#[ch,$a,$b])=>`(s.heap.get? $a=aa $b)
|`(#[cg,$a])=>`(#[aw,rfl,$a])
|`(#[cf,$a,$b])=>`(#[bS,bM,$a,#[cr],#[U,j],$b])
|`(#[ce,$a])=>`(.inl ⟨e,r $a y e⟩)
|`(#[cd,$a,$b,$c,$d])=>`(aB B O J S $a $b s $c $d)
local macro_rules
|`(#[cc])=>`(#[aA,rfl,rfl])
|`(#[cb,$a,$b,$c,$d])=>`(if$a==$b then$c else$d)
|`(#[ca,$a,$b])=>`(∀x∈$a,bA $b x)
|`(#[b9,$a])=>`(af (cj $a))
|`(#[b8,$a])=>`((Ev.name $a rfl rfl #[p]))
|`(#[b7])=>`((y0.endLine==i0.line)=ae)
|`(#[b6,$a,$b])=>`(#[aP,$a,$b,b0])
|`(#[b5])=>`((ay (aF M)))
|`(#[b4])=>`(#[I,k])
|`(#[b3,$a,$b,$c])=>`(($a (.ref $b) $c))
local macro_rules
|`(#[b2])=>`((dA l k))
|`(#[b1])=>`(#[a6,H,.list,X])
|`(#[b0])=>`((bY B C I))
|`(#[bZ,$a,$b,$c])=>`($a B w n O $b U H $c b0)
|`(#[bY])=>`(#[ad,17])
|`(#[bX,$a])=>`((ah ($a M)))
|`(#[bW,$a])=>`(af (af $a))
|`(#[bV])=>`(#[bE,rfl])
|`(#[bU])=>`(es B s0)
|`(#[bT])=>`(#[a2,ai])
local macro_rules
|`(#[bS,$a,$b,$c,$d,$e])=>`(aH w n ($a $b) $c $d $e)
|`(#[bR,$a,$b,$c])=>`((.Call $a $b [] $c))
|`(#[bQ,$a])=>`(Ob.list $a)
|`(#[bP,$a,$b,$c])=>`(⟨$a,$b,$c,?_⟩)
|`(#[bO,$a])=>`((λx z=>$a))
|`(#[bN,$a,$b])=>`(⟨$a,$b,?_⟩)
|`(#[bM,$a])=>`(⟨_,$a⟩)
|`(#[bL])=>`((.head _))
|`(#[bK])=>`((az l.length l 0 []))
|`(#[bJ,$a])=>`(if_neg ($a))
local macro_rules
|`(#[bI])=>`(Array _)
|`(#[bH])=>`(#[ad,12])
|`(#[bG,$a])=>`(aI $a #[j])
|`(#[bF,$a,$b,$c])=>`(af ($a $b $c ?_))
|`(#[bE,$a])=>`(⟨$a,rfl⟩)
|`(#[bD])=>`((B0 h c0))
|`(#[bC,$a,$b])=>`(absurd $a (bP.mpr $b))
|`(#[bB])=>`(List Tx)
|`(#[bA])=>`(List aq)
|`(#[bz,$a])=>`(#[U,($a :Nat)])
local macro_rules
|`(#[bx,$a,$b])=>`(Ev B w n O $a U b0 $b o0)
|`(#[bw])=>`(#[a7,h,t])
|`(#[bv,$a,$b])=>`(h.get? $a=aa $b)
|`(#[bu])=>`(#[bE,_])
|`(#[bt])=>`(#[I,1])
|`(#[bs,$a,$b])=>`(Q (.ref $a) $b)
|`(#[br])=>`(List S)
|`(#[bq])=>`(.ref i)
|`(#[bp])=>`(X.length<=aC)
|`(#[bo,$a])=>`((.tail _ $a))
local macro_rules
|`(#[bn,$a])=>`((.cons $a .nil))
|`(#[bm])=>`(#[ao,t])
|`(#[bl,$a])=>`(VR S v $a)
|`(#[bk,$a,$b])=>`(.list ($a $b))
|`(#[bj,$a,$b,$c,$d])=>`(bq B N p0 $a $b $c $d)
|`(#[bi])=>`(#[ad,0])
|`(#[bh])=>`(#[I,0])
|`(#[bg])=>`((1:Nat))
|`(#[bf])=>`(#[a2,V])
|`(#[be,$a])=>`(#[U,#[I,$a]])
local macro_rules
|`(#[bd,$a,$b])=>`(af ($a $b ?_))
|`(#[bc])=>`(Cx n A)
|`(#[bb])=>`(Array ai)
|`(#[ba,$a,$b])=>`(#[s,$a,$b]<=aC)
|`(#[a9,$a,$b])=>`(q _ _ _ $a $b)
|`(#[a8,$a,$b])=>`(#[cs,$a,s,G,M,$b])
|`(#[a7,$a,$b])=>`(⟨$a,g,d,$b,h0⟩)
|`(#[a6,$a,$b,$c])=>`(($a)[i]?=aa ($b $c))
|`(#[a5,$a,$b])=>`(($a).length=$b)
|`(#[a4])=>`((bf L.length #[au]))
local macro_rules
|`(#[a3,$a])=>`(⟨$a,?_⟩)
|`(#[a2,$a])=>`(Option $a)
|`(#[a1,$a,$b])=>`(aM (VR S) $a $b)
|`(#[a0,$a])=>`(af ($a ?_))
|`(#[aZ,$a,$b,$c])=>`(($a).2.1 _ _ $b $c)
|`(#[aY,$a,$b])=>`(⟨o,$a,$b⟩)
|`(#[aX,$a,$b])=>`(($a).length<=$b)
|`(#[aW])=>`(ct _ rfl)
|`(#[aV])=>`(λp=>#[dD,p])
|`(#[aU])=>`((.inl rfl))
local macro_rules
|`(#[aT,$a])=>`((bE P $a).data)
|`(#[aS])=>`((bx rfl))
|`(#[aR,$a,$b,$c])=>`(($a)[$b]?=aa (.list $c))
|`(#[aQ,$a,$b,$c])=>`(#[cd,U,$a,$b,$c])
|`(#[aP,$a,$b,$c])=>`(Ev B w n O $a U H $b $c)
|`(#[aO])=>`((#[ck]))
|`(#[aN,$a])=>`(#[bk,aK,$a])
|`(#[aM,$a])=>`($a (by decide))
|`(#[aL,$a,$b])=>`((.Name (ak $a) $b))
|`(#[aK,$a])=>`(B.heap.objs.size<=$a)
local macro_rules
|`(#[aJ])=>`((aP _))
|`(#[aI,$a])=>`($a->au->Prop)
|`(#[aH])=>`((I++[c]))
|`(#[aG,$a])=>`(⟨rfl,$a⟩)
|`(#[aF,$a])=>`(#[b6,a,$a])
|`(#[aE])=>`((aE P0 w))
|`(#[aD,$a])=>`((Ev.name $a rfl rfl #[E]))
|`(#[aC])=>`((aV _))
|`(#[aB,$a])=>`(decide ($a))
|`(#[aA,$a,$b])=>`(⟨$a,$b,rfl⟩)
local macro_rules
|`(#[az])=>`(.ref x)
|`(#[ay,$a])=>`(.int #[I,$a])
|`(#[ax])=>`((by kernel_rfl))
|`(#[aw,$a,$b])=>`(⟨_,$a,$b⟩)
|`(#[av,$a,$b])=>`(($a)[j]?=aa $b)
|`(#[au])=>`((az L.length L 0 []))
|`(#[as,$a])=>`(#[dT,$a,s])
|`(#[ar])=>`(#[ad,1])
|`(#[aq,$a])=>`($a∉B.tabs)
|`(#[ap,$a])=>`((by decide:$a))
local macro_rules
|`(#[ao,$a])=>`((.str $a))
|`(#[an])=>`((λ_=>rfl))
|`(#[am])=>`((#[dj]))
|`(#[al])=>`(bL->#[o]->#[l]->Prop)
|`(#[ak])=>`((#[p]))
|`(#[aj,$a,$b,$c])=>`({cls:=.type $a,data:=$b $c})
|`(#[ai,$a])=>`(⟨$a,[]⟩)
|`(#[ah])=>`(#[dk,S,H,s.heap])
|`(#[ag])=>`(List (Tx×Tx))
|`(#[af])=>`(HZ h P)
local macro_rules
|`(#[ae])=>`(Nat->Nat)
|`(#[ad,$a])=>`(aa (.ob $a))
|`(#[ac,$a,$b])=>`(absurd $a $b)
|`(#[aa,$a,$b,$c])=>`((if$a then$b else$c))
|`(#[Y])=>`((by simp_all))
|`(#[W])=>`(Gl B d0 g0)
|`(#[V,$a])=>`((bw.mp $a).1)
|`(#[U,$a])=>`((.int $a))
|`(#[T,$a])=>`(#[bk,ah,$a])
|`(#[R,$a])=>`(s.heap.objs.size<=$a)
local macro_rules
|`(#[Q,$a,$b,$c])=>`(⟨_,$a,$b,$c⟩)
|`(#[P,$a])=>`(#[aA,_,$a])
|`(#[M,$a])=>`((.ref $a))
|`(#[L])=>`(List ai)
|`(#[K,$a])=>`(aa (.str $a))
|`(#[J])=>`(.inl e)
|`(#[I,$a])=>`((($a :Nat):Int))
|`(#[G,$a,$b])=>`(($a)[i]?=aa $b)
|`(#[E])=>`((by decide+kernel))
|`(#[D,$a])=>`($a (by omega))
local macro_rules
|`(#[C])=>`(#[aI,ai])
|`(#[B])=>`(List V)
|`(#[z])=>`((by simp))
|`(#[y])=>`(List aN)
|`(#[w])=>`(aL B d0 g0)
|`(#[v,$a])=>`(#[ct,#[I,$a]])
|`(#[u])=>`((k+1))
|`(#[t])=>`(List ao)
|`(#[s,$a,$b])=>`(($a $b).length)
|`(#[p])=>`((rfl))
local macro_rules
|`(#[o])=>`(List (Option V))
|`(#[n])=>`(aq->#[bT])
|`(#[l])=>`(List Ob)
|`(#[j])=>`((by decide))
|`(#[i])=>`(List Nat)
|`(#[g])=>`(List _)
|`(#[f])=>`((by omega))
namespace Mine
namespace mT
inductive N where|v(i:Nat)|k(n:Nat)|a(x y:N)|l(n:Nat)(x:N)|r(x:N)(n:Nat)
inductive Z where|c(x:N)|v(i:Nat)|k(n:Int)|a(x y:Z)|s(x y:Z)|neg(x:Z)|l(n:Int)(x:Z)|r(x:Z)(n:Int)
inductive F where|mz(x y:N)|mA(x y:N)|ti(x y:N)|pe(x y:N)|pf(x y:N)|mK(x y:Z)|mL(x y:Z)|tQ(x y:Z)|pC(x y:Z)|pD(x y:Z)
def at_{S:Type}(d:S):List S->Nat->S|[],_=>d|x::_,0=>x|_::l,i+1=>at_ d l i
def N.d(X:List Nat):N->Nat|.v i=>at_ 0 X i|.k n=>n|.a x y=>x.d X+y.d X|.l n x=>n*x.d X|.r x n=>x.d X*n
def Z.d(X:List Nat)(Y:List Int):Z->Int|.c x=>((x.d X:Nat):Int)|.v i=>at_ 0 Y i|.k n=>n|.a x y=>x.d X Y+y.d X Y|.s x y=>x.d X Y-y.d X Y|.neg x=>-x.d X Y|.l n x=>n*x.d X Y|.r x n=>x.d X Y*n
def F.d(X:List Nat)(Y:List Int):F->Prop|.mz x y=>x.d X<=y.d X|.mA x y=>x.d X<y.d X|.ti x y=>x.d X=y.d X|.pe x y=>¬x.d X<=y.d X|.pf x y=>¬x.d X<y.d X|.mK x y=>x.d X Y<=y.d X Y|.mL x y=>x.d X Y<y.d X Y|.tQ x y=>x.d X Y=y.d X Y|.pC x y=>¬x.d X Y<=y.d X Y|.pD x y=>¬x.d X Y<y.d X Y
structure L where
 c:Int
 n:List Int
 z:List Int
def add:List Int->List Int->List Int|[],m=>m|x::l,[]=>x::l|x::l,y::m=>(x+y)::add l m
def unit(q:Int):Nat->List Int|0=>[q]|i+1=>0::unit q i
def dC(X:List Int):List Int->Int|[]=>0|k::l=>match X with|[]=>0|x::X=>k*x+dC X l
def L.add(f g:L):L:=⟨f.c+g.c,mT.add f.n g.n,mT.add f.z g.z⟩
def L.mul(q:Int)(f:L):L:=⟨q*f.c,f.n.map (q*·),f.z.map (q*·)⟩
def L.d(X:List Nat)(Y:List Int)(f:L):Int:=f.c+dC (X.map λ(x:Nat)=>(x:Int)) f.n+dC Y f.z
theorem Bg:∀(X l m:List Int),dC X (add l m)=dC X l+dC X m|[],[],[]=>rfl|[],[],_::_=>rfl|[],_::_,[]=>rfl|[],_::_,_::_=>rfl|x::X,[],m=>by simp[add,dC]|x::X,k::l,[]=>by simp[add,dC]|x::X,k::l,j::m=>by simp only[add,dC,Bg X l m,Int.add_mul];omega
theorem Bh(q:Int):∀(X l:List Int),dC X (l.map (q*·))=q*dC X l|[],[]=>by simp[dC]|[],_::_=>by simp[dC]|x::X,[]=>by simp[dC]|x::X,k::l=>by simp only[dk,dC,Bh q X l,Eo,Int.mul_assoc]
theorem Bi(q:Int):∀(X:List Int)(i:Nat),dC X (unit q i)=q*at_ 0 X i|[],0=>by simp[dC,unit,at_]|[],i+1=>by simp[dC,unit,at_]|x::X,0=>by cases X<;>simp[dC,unit,at_]|x::X,i+1=>by simp[dC,unit,at_,Bi q X i]
theorem Hp:∀(X:List Nat)(i:Nat),at_ (0:Int) (X.map λ(x:Nat)=>(x:Int)) i=((at_ 0 X i:Nat):Int)|[],_=>by simp[at_]|x::X,0=>by simp[at_]|x::X,i+1=>by simp[at_,Hp X i]
theorem qw(X:List Int):dC X []=0:=by cases X<;>rfl
variable(X:List Nat)(Y:List Int)
theorem L.qt(f g:L):(f.add g).d X Y=f.d X Y+g.d X Y:=by show(f.c+g.c)+dC (X.map λ(x:Nat)=>(x:Int)) (mT.add f.n g.n)+dC Y (mT.add f.z g.z)=_;rw[Bg,Bg];unfold L.d;omega
theorem L.nB(q:Int)(f:L):(f.mul q).d X Y=q*f.d X Y:=by unfold L.mul L.d;rw[Bh,Bh,Eo,Eo]
def N.cm:N->L|.v i=>⟨0,unit 1 i,[]⟩|.k n=>⟨(n:Int),[],[]⟩|.a x y=>x.cm.add y.cm|.l n x=>x.cm.mul (n:Int)|.r x n=>x.cm.mul (n:Int)
theorem N.hG:∀x:N,x.cm.d X Y=((x.d X:Nat):Int)|.v i=>by simp[N.cm,L.d,N.d,Bi,Hp,qw]|.k n=>by simp[N.cm,L.d,N.d,qw]|.a x y=>by rw[N.cm,L.qt,N.hG x,N.hG y,N.d];omega|.l n x=>by rw[N.cm,L.nB,N.hG x,N.d,PB]|.r x n=>by rw[N.cm,L.nB,N.hG x,N.d,PB,PA]
def Z.cm:Z->L|.c x=>x.cm|.v i=>⟨0,[],unit 1 i⟩|.k n=>⟨n,[],[]⟩|.a x y=>x.cm.add y.cm|.s x y=>x.cm.add (y.cm.mul (-1))|.neg x=>x.cm.mul (-1)|.l n x=>x.cm.mul n|.r x n=>x.cm.mul n
theorem Z.hG:∀x:Z,x.cm.d X Y=x.d X Y|.c x=>N.hG X Y x|.v i=>by simp[Z.cm,L.d,Z.d,Bi,qw]|.k n=>by simp[Z.cm,L.d,Z.d,qw]|.a x y=>by rw[Z.cm,L.qt,Z.hG x,Z.hG y,Z.d]|.s x y=>by rw[Z.cm,L.qt,L.nB,Z.hG x,Z.hG y,Z.d];omega|.neg x=>by rw[Z.cm,L.nB,Z.hG x,Z.d];omega|.l n x=>by rw[Z.cm,L.nB,Z.hG x,Z.d]|.r x n=>by rw[Z.cm,L.nB,Z.hG x,Z.d,PA]
def jT(x y:L)(q:Int):L:=(y.add (x.mul (-1))).add ⟨-q,[],[]⟩
theorem Wd(x y:L)(q:Int):(jT x y q).d X Y=y.d X Y-x.d X Y-q:=by
 unfold jT;rw[L.qt,L.qt,L.nB];have:(⟨-q,[],[]⟩:L).d X Y=-q:=by simp[L.d,qw]
 rw[this];omega
def F.cm:F->L×Bool|.mz x y=>(jT x.cm y.cm 0,ag)|.mA x y=>(jT x.cm y.cm 1,ag)|.ti x y=>(jT x.cm y.cm 0,ae)|.pe x y=>(jT y.cm x.cm 1,ag)|.pf x y=>(jT y.cm x.cm 0,ag)|.mK x y=>(jT x.cm y.cm 0,ag)|.mL x y=>(jT x.cm y.cm 1,ag)|.tQ x y=>(jT x.cm y.cm 0,ae)|.pC x y=>(jT y.cm x.cm 1,ag)|.pD x y=>(jT y.cm x.cm 0,ag)
theorem F.hG(f:F)(h:f.d X Y):0<=f.cm.1.d X Y/\(f.cm.2=ae->f.cm.1.d X Y=0):=by cases f<;>simp only[F.d]at h<;>simp only[F.cm,Wd,N.hG,Z.hG]<;>constructor<;>first|omega|(intro e;cases e)|(intro _;omega)
def imp:List F->Prop|[]=>False|f::j0=>f.d X Y->imp j0
def sum:List F->List Int->L×Bool|[],_=>(⟨0,[],[]⟩,ae)|f::j0,[]=>let s:=sum j0 [];s|f::j0,m::j=>let s:=sum j0 j;let q:=f.cm;(s.1.add (q.1.mul m),s.2&&(q.2||decide (0<=m)))
def ro:List Int->Bool|[]=>ae|k::l=>k==0&&ro l
def xl:List Int->Bool|[]=>ae|k::l=>decide (k<=0)&&xl l
def AV(j0:List F)(j:List Int):Bool:=let s:=sum j0 j;s.2&&decide (s.1.c<0)&&xl s.1.n&&ro s.1.z
theorem IE:∀(X:List Nat)(l:List Int),xl l=ae->dC (X.map λ(x:Nat)=>(x:Int)) l<=0|[],[],_=>by simp[dC]|[],_::_,_=>by simp[dC]|_::_,[],_=>by simp[dC]|x::X,k::l,h=>by simp only[xl,fF,decide_eq_true_eq]at h;have N:=IE X l h.2;have a0:k*(x:Int)<=0:=Int.mul_nonpos_of_nonpos_of_nonneg h.1 (nY x);simp only[dk,dC];omega
theorem IF:∀(Y:List Int)(l:List Int),ro l=ae->dC Y l=0|[],[],_=>by simp[dC]|[],_::_,_=>by simp[dC]|_::_,[],_=>by simp[dC]|y::Y,k::l,h=>by simp only[ro,fF,beq_iff_eq]at h;simp[dC,h.1,IF Y l h.2]
def all:List F->Prop|[]=>True|f::j0=>f.d X Y/\all j0
theorem Kf:∀j0:List F,(all X Y j0->False)->imp X Y j0|[],h=>h trivial|f::j0,h=>λv=>Kf j0 λI=>h ⟨v,I⟩
theorem DM:∀(j0:List F)(j:List Int),all X Y j0->(sum j0 j).2=ae->0<=(sum j0 j).1.d X Y
 |[],_,_,_=>by simp[sum,L.d,qw]
 |f::j0,[],h,e=>DM j0 [] h.2 e
 |f::j0,m::j,h,e=>by
  simp only[sum,fF,rt,decide_eq_true_eq]at e⊢;have N:=DM j0 j h.2 e.1;have a0:=F.hG X Y f h.1;rw[L.qt,L.nB];rcases e.2 with d|d;.rw[a0.2 d];omega
  .have:=Int.mul_nonneg d a0.1;omega
theorem acb(j0:List F)(j:List Int)(h:AV j0 j=ae):imp X Y j0:=Kf X Y j0 λI=>by simp only[AV,fF,decide_eq_true_eq]at h;obtain⟨⟨⟨N,a0⟩,T⟩,E⟩:=h;have r:=DM X Y j0 j I N;have Q:=IE X _ T;have a:=IF Y _ E;unfold L.d at r;omega
theorem ya{a b:Nat}{P:Prop}(N:b<=a->a=(a-b)+b->P)(a0:a<=b->a-b=0->P):P:=by
 rcases lQ b a with h|h;.exact N h (by omega)
 .exact a0 h (by omega)
theorem LZ{a b:Nat}{P:Prop}(h:a≠b)(N:a<b->P)(a0:b<a->P):P:=(Nat.lt_or_gt_of_ne h).elim N a0
theorem Ma{a b:Int}{P:Prop}(h:a≠b)(N:a<b->P)(a0:b<a->P):P:=(Int.lt_or_gt_of_ne h).elim N a0
theorem rh(a b:Nat):a-b<=a:=Fh a b
theorem Ov(a b:Nat):a<=(a-b)+b:=by omega
theorem IC(x k:Nat):k*(x/k)<=x:=Nat.mul_div_le x k
theorem IB(x k:Nat)(h:Nat.blt 0 k=ae):x<k*(x/k)+k:=by have:=Nat.lt_mul_div_succ x (b:=k) (bx h);rwa[yZ,rL]at this
theorem LK(x k:Nat):k*(x/k)+x%k=x:=kh x k
theorem LL(x k:Nat)(h:Nat.blt 0 k=ae):x%k<k:=ht x (bx h)
noncomputable abbrev BC{S:Type}(d:S)(l:List S)(i:Nat):S:=(@iF S (λ_=>Nat->S) (λ_=>d) (λx _ f i=>@pU (λ_=>S) x (λi _=>f i) i) l) i
noncomputable abbrev N.e(X:List Nat)(x:N):Nat:=N.rec (motive:=λ_=>Nat) (λi=>BC 0 X i) (λn=>n) (λ_ _ a b=>a+b) (λn _ a=>n*a) (λ_ n a=>a*n) x
noncomputable abbrev Z.e(X:List Nat)(Y:List Int)(x:Z):Int:=Z.rec (motive:=λ_=>Int) (λx=>((x.e X:Nat):Int)) (λi=>BC 0 Y i) (λn=>n) (λ_ _ a b=>a+b) (λ_ _ a b=>a-b) (λ_ a=>-a) (λn _ a=>n*a) (λ_ n a=>a*n) x
noncomputable abbrev F.e(X:List Nat)(Y:List Int)(f:F):Prop:=F.rec (motive:=λ_=>Prop) (λx y=>x.e X<=y.e X) (λx y=>x.e X<y.e X) (λx y=>x.e X=y.e X) (λx y=>¬x.e X<=y.e X) (λx y=>¬x.e X<y.e X) (λx y=>x.e X Y<=y.e X Y) (λx y=>x.e X Y<y.e X Y) (λx y=>x.e X Y=y.e X Y) (λx y=>¬x.e X Y<=y.e X Y) (λx y=>¬x.e X Y<y.e X Y) f
noncomputable abbrev Kd(X:List Nat)(Y:List Int)(l:List F):Prop:=iF (motive:=λ_=>Prop) False (λf _ p=>f.e X Y->p) l
theorem BD{S:Type}(d:S):∀(l:List S)(i:Nat),BC d l i=at_ d l i|[],i=>by cases i<;>rfl|x::l,0=>rfl|x::l,i+1=>BD d l i
theorem N.dr(X:List Nat):∀x:N,x.e X=x.d X|.v i=>BD 0 X i|.k n=>rfl|.a x y=>by show x.e X+y.e X=x.d X+y.d X;rw[N.dr X x,N.dr X y]|.l n x=>by show n*x.e X=n*x.d X;rw[N.dr X x]|.r x n=>by show x.e X*n=x.d X*n;rw[N.dr X x]
theorem Z.dr(X:List Nat)(Y:List Int):∀x:Z,x.e X Y=x.d X Y|.c x=>by show((x.e X:Nat):Int)=((x.d X:Nat):Int);rw[N.dr X x]|.v i=>BD 0 Y i|.k n=>rfl|.a x y=>by show x.e X Y+y.e X Y=x.d X Y+y.d X Y;rw[Z.dr X Y x,Z.dr X Y y]|.s x y=>by show x.e X Y-y.e X Y=x.d X Y-y.d X Y;rw[Z.dr X Y x,Z.dr X Y y]|.neg x=>by show-x.e X Y=-x.d X Y;rw[Z.dr X Y x]|.l n x=>by show n*x.e X Y=n*x.d X Y;rw[Z.dr X Y x]|.r x n=>by show x.e X Y*n=x.d X Y*n;rw[Z.dr X Y x]
theorem F.dr(X:List Nat)(Y:List Int):∀f:F,f.e X Y=f.d X Y|.mz x y=>by show(x.e X<=y.e X)=(x.d X<=y.d X);rw[N.dr X x,N.dr X y]|.mA x y=>by show(x.e X<y.e X)=(x.d X<y.d X);rw[N.dr X x,N.dr X y]|.ti x y=>by show(x.e X=y.e X)=(x.d X=y.d X);rw[N.dr X x,N.dr X y]|.pe x y=>by show(¬x.e X<=y.e X)=(¬x.d X<=y.d X);rw[N.dr X x,N.dr X y]|.pf x y=>by show(¬x.e X<y.e X)=(¬x.d X<y.d X);rw[N.dr X x,N.dr X y]|.mK x y=>by show(x.e X Y<=y.e X Y)=(x.d X Y<=y.d X Y);rw[Z.dr X Y x,Z.dr X Y y]|.mL x y=>by show(x.e X Y<y.e X Y)=(x.d X Y<y.d X Y);rw[Z.dr X Y x,Z.dr X Y y]|.tQ x y=>by show(x.e X Y=y.e X Y)=(x.d X Y=y.d X Y);rw[Z.dr X Y x,Z.dr X Y y]|.pC x y=>by show(¬x.e X Y<=y.e X Y)=(¬x.d X Y<=y.d X Y);rw[Z.dr X Y x,Z.dr X Y y]|.pD x y=>by show(¬x.e X Y<y.e X Y)=(¬x.d X Y<y.d X Y);rw[Z.dr X Y x,Z.dr X Y y]
theorem Ke(X:List Nat)(Y:List Int):∀l:List F,imp X Y l->Kd X Y l|[],h=>h|f::l,h=>λv=>Ke X Y l (h (F.dr X Y f▸v))
theorem NV(X:List Nat)(Y:List Int)(j0:List F)(j:List Int)(h:AV j0 j=ae):Kd X Y j0:=Ke X Y j0 (acb X Y j0 j h)
theorem eX{a b:Nat}:(a<=b/\min a b=a)\/(b<=a/\min a b=b):=(lQ a b).elim (λh=>.inl ⟨h,kM h⟩) (λh=>.inr ⟨h,uy h⟩)
theorem eW{a b:Nat}:(a<=b/\max a b=b)\/(b<=a/\max a b=a):=(lQ a b).elim (λh=>.inl ⟨h,uw h⟩) (λh=>.inr ⟨h,uv h⟩)
theorem LI{a b:Int}:(a<=b/\min a b=a)\/(b<=a/\min a b=b):=(Pz a b).elim (λh=>.inl ⟨h,Int.min_eq_left h⟩) (λh=>.inr ⟨h,Int.min_eq_right h⟩)
theorem LB{a b:Int}:(a<=b/\max a b=b)\/(b<=a/\max a b=a):=(Pz a b).elim (λh=>.inl ⟨h,Int.max_eq_right h⟩) (λh=>.inr ⟨h,Int.max_eq_left h⟩)
theorem OH{x:Int}:(0<=x/\(x.toNat:Int)=x)\/(x<=0/\x.toNat=0):=by omega
theorem GV{x:Int}:(0<=x/\(x.natAbs:Int)=x)\/(x<=0/\(x.natAbs:Int)=-x):=by omega
theorem wO{S:Type}{c:Prop}[Decidable c]{a b:S}:(c/\(if c then a else b)=a)\/(¬c/\(if c then a else b)=b):=by by_cases h:c<;>simp[h]
theorem LP{a b:Prop}(h:¬(a/\b)):¬a\/¬b:=Classical.not_and_iff_not_or_not.mp h
theorem LQ{a b:Prop}(h:¬(a↔b)):(a/\¬b)\/(¬a/\b):=by by_cases I:a<;>by_cases Z:b<;>simp_all
theorem Ka{a b:Prop}(h:a↔b):(a/\b)\/(¬a/\¬b):=by by_cases I:a<;>by_cases Z:b<;>simp_all
theorem akr{a b:Prop}(h:a->b):¬a\/b:=by by_cases I:a<;>simp_all
theorem ale{a b:Prop}(h:¬(a->b)):a/\¬b:=by by_cases I:a<;>by_cases Z:b<;>simp_all
theorem LR{a:Prop}(h:¬¬a):a:=Classical.byContradiction h
end mT
section
open Lean Meta Elab Tactic
namespace mT
structure Tp where
 k:Array Int
 c:Int
 m:Array Int deriving Inhabited
structure Pu where
 f:Expr
 p:Expr
 n:Array (Nat×Int)
 z:Array (Nat×Int)
 c:Int
 eq:Bool deriving Inhabited
structure S where
 X:Array Expr:=#[]
 Y:Array Expr:=#[]
 facts:Array Pu:=#[]
 subs:Array (Expr×Expr):=#[]
 jY:Array Expr:=#[]
 nK:Array (Expr×Expr×Expr×Bool):=#[]
abbrev M:=StateT S bO
abbrev jy:=Array (Nat×Int)×Array (Nat×Int)×Int
def He(a b:Array (Nat×Int)):Array (Nat×Int):=b.foldl (λa(i,k)=>match a.findIdx? (·.1==i)with|aa j=>a.modify j (λ(i,q)=>(i,q+k))|ab=>a.push (i,k)) a
def jy.add(a b:jy):jy:=(He a.1 b.1,He a.2.1 b.2.1,a.2.2+b.2.2)
def jy.mul(q:Int)(a:jy):jy:=(a.1.map λ(i,k)=>(i,q*k),a.2.1.map λ(i,k)=>(i,q*k),q*a.2.2)
def LX:Expr:=mkConst ``Nat
def Km:Expr:=mkConst ``Int
def qI(n:Nat):Expr:=od n
def xa(n:Int):Expr:=match n with|.ofNat k=>fT (mkConst ``Int.ofNat) (od k)|.negSucc k=>fT (mkConst ``Int.negSucc) (od k)
def pb(e:Expr):Option Nat:=match e with
 |.lit (.natVal n)=>aa n
 |_=>match e.getAppFnArgs with
  |(``oq,#[_,.lit (.natVal n),_])=>aa n
  |(``HPow.hPow,#[_,_,_,_,a,b])=>do
   let x<-(match a.getAppFnArgs with|(``oq,#[_,.lit (.natVal n),_])=>aa n|_=>ab);let y<-(match b.getAppFnArgs with|(``oq,#[_,.lit (.natVal n),_])=>aa n|_=>ab);if y<=200 then aa (x^y)else ab
  |_=>ab
def BQ(e:Expr):Option Int:=match e.getAppFnArgs with
 |(``oq,#[_,.lit (.natVal n),_])=>aa n
 |(``Neg.neg,#[_,_,a])=>match a.getAppFnArgs with|(``oq,#[_,.lit (.natVal n),_])=>aa (-(n:Int))|(``ES,#[_,_,a])=>(pb a).map λn=>-(n:Int)|_=>ab
 |(``ES,#[_,_,a])=>(pb a).map λn=>(n:Int)
 |(``HPow.hPow,#[_,_,_,_,a,b])=>do
  let x<-(match a.getAppFnArgs with|(``oq,#[_,.lit (.natVal n),_])=>aa n|_=>ab);let y<-(match b.getAppFnArgs with|(``oq,#[_,.lit (.natVal n),_])=>aa n|_=>ab);if y<=200 then aa ((x:Int)^y)else ab
 |_=>ab
mutual def mF:Nat->Expr->M (Expr×jy)
 |0,e=>jQ e
 |g+1,e=>do
  let e:=e.consumeMData;if let aa n:=pb e then return(fT (mkConst ``N.k) (qI n),(#[],#[],n))
  match e.getAppFnArgs with
   |(``Ei,#[_,_,_,_,a,b])=>
    let(x,l)<-mF g a;let(y,m)<-mF g b;return(dV (mkConst ``N.a) x y,l.add m)
   |(``jE,#[a])=>
    let(x,l)<-mF g a;return(dV (mkConst ``N.a) x (fT (mkConst ``N.k) (qI 1)),l.add (#[],#[],1))
   |(``HMul.hMul,#[_,_,_,_,a,b])=>
    if let aa n:=pb a then
     let(y,m)<-mF g b;return(dV (mkConst ``N.l) (qI n) y,m.mul n)
    if let aa n:=pb b then
     let(x,m)<-mF g a;return(dV (mkConst ``N.r) x (qI n),m.mul n)
    jQ e
   |(``Ej,#[_,_,_,_,a,b])=>
    if !(<-get).X.contains e then
     let r<-jQ e;modify λs=>{s with subs:=s.subs.push (a,b)};jl g (dV (mkConst ``rh) a b);jl g (dV (mkConst ``Ov) a b);return r
    jQ e
   |(``HDiv.hDiv,#[_,_,_,_,a,b])=>
    if let aa n:=pb b then
     if n>0&&!(<-get).X.contains e then
      let r<-jQ e;jl g (dV (mkConst ``IC) a b);jl g (iE (mkConst ``IB) a b (dV (mkConst ``pG [1]) (mkConst ``Bool) (mkConst ``ae)));return r
    jQ e
   |(``HMod.hMod,#[_,_,_,_,a,b])=>
    if let aa n:=pb b then
     if n>0&&!(<-get).X.contains e then
      let r<-jQ e;jl g (dV (mkConst ``LK) a b);jl g (iE (mkConst ``LL) a b (dV (mkConst ``pG [1]) (mkConst ``Bool) (mkConst ``ae)));return r
    jQ e
   |(``min,#[_,_,a,b])=>bp g e (dV (mkConst ``eX) a b)
   |(``max,#[_,_,a,b])=>bp g e (dV (mkConst ``eW) a b)
   |(``Int.toNat,#[x])=>bp g e (fT (mkConst ``OH) x)
   |(``Int.natAbs,#[x])=>bp g e (fT (mkConst ``GV) x)
   |(``ite,#[S,c,d,a,b])=>bp g e (eu (mkConst ``wO) #[S,c,d,a,b])
   |_=>jQ e def bp:Nat->Expr->Expr->M (Expr×jy)
 |0,e,_=>jQ e
 |g+1,e,p=>do
  if !(<-get).X.contains e then
   let r<-jQ e;jl g p;return r
  jQ e def DD:Nat->Expr->Expr->M (Expr×jy)
 |0,e,_=>ql e
 |g+1,e,p=>do
  if !(<-get).Y.contains e then
   let r<-ql e;jl g p;return r
  ql e def jQ(e:Expr):M (Expr×jy):=do
 let s<-get;let i:=(s.X.findIdx? (·==e)).getD s.X.size;if i==s.X.size then set {s with X:=s.X.push e}
 return(fT (mkConst ``N.v) (qI i),(#[(i,1)],#[],0))def mG:Nat->Expr->M (Expr×jy)
 |0,e=>ql e
 |g+1,e=>do
  let e:=e.consumeMData;if let aa n:=BQ e then return(fT (mkConst ``Z.k) (xa n),(#[],#[],n))
  match e.getAppFnArgs with
   |(``Ei,#[_,_,_,_,a,b])=>
    let(x,l)<-mG g a;let(y,m)<-mG g b;return(dV (mkConst ``Z.a) x y,l.add m)
   |(``Ej,#[_,_,_,_,a,b])=>
    let(x,l)<-mG g a;let(y,m)<-mG g b;return(dV (mkConst ``Z.s) x y,l.add (m.mul (-1)))
   |(``Neg.neg,#[_,_,a])=>
    let(x,l)<-mG g a;return(fT (mkConst ``Z.neg) x,l.mul (-1))
   |(``HMul.hMul,#[_,_,_,_,a,b])=>
    if let aa n:=BQ a then
     let(y,m)<-mG g b;return(dV (mkConst ``Z.l) (xa n) y,m.mul n)
    if let aa n:=BQ b then
     let(x,m)<-mG g a;return(dV (mkConst ``Z.r) x (xa n),m.mul n)
    ql e
   |(``ES,#[_,_,a])=>
    let(x,l)<-mF g a;return(fT (mkConst ``Z.c) x,l)
   |(``Int.ofNat,#[a])=>
    let(x,l)<-mF g a;return(fT (mkConst ``Z.c) x,l)
   |(``Min.min,#[_,_,a,b])=>DD g e (dV (mkConst ``LI) a b)
   |(``Max.max,#[_,_,a,b])=>DD g e (dV (mkConst ``LB) a b)
   |(``ite,#[S,c,d,a,b])=>DD g e (eu (mkConst ``wO) #[S,c,d,a,b])
   |_=>ql e def ql(e:Expr):M (Expr×jy):=do
 let s<-get;let i:=(s.Y.findIdx? (·==e)).getD s.Y.size;if i==s.Y.size then set {s with Y:=s.Y.push e}
 return(fT (mkConst ``Z.v) (qI i),(#[],#[(i,1)],0))def jl:Nat->Expr->M Unit
 |0,_=>aw ()
 |g+1,p=>do
  let T<-dN (<-mR p);qA g p T.consumeMData.headBeta def qA:Nat->Expr->Expr->M Unit
 |0,_,_=>aw ()
 |g+1,p,T=>do
  let R(N:Bool)(a b:Expr)(I C:bJ)(q:Int)(E:Bool)(h:Bool):M Unit:=do
   let(x,l)<-(if N then mF g a else mG g a);let(y,m)<-(if N then mF g b else mG g b);let d:=if h then(l.add (m.mul (-1)))else(m.add (l.mul (-1)));let d:=d.add (#[],#[],-q);modify λs=>{s with facts:=s.facts.push {f:=dV (mkConst (if N then I else C)) x y,p:=p,n:=d.1,z:=d.2.1,c:=d.2.2,eq:=E}}
  let f(S:Expr):Option Bool:=if S.isConstOf ``Nat then aa ae else if S.isConstOf ``Int then aa ag else ab
  match T.getAppFnArgs with
   |(``rv,#[S,_,a,b])=>if let aa k:=f S then R k a b ``F.mz ``F.mK 0 ag ag
   |(``rx,#[S,_,a,b])=>if let aa k:=f S then R k a b ``F.mA ``F.mL 1 ag ag
   |(``GE.ge,#[S,_,a,b])=>if let aa k:=f S then R k b a ``F.mz ``F.mK 0 ag ag
   |(``GT.gt,#[S,_,a,b])=>if let aa k:=f S then R k b a ``F.mA ``F.mL 1 ag ag
   |(``Nat.le,#[a,b])=>R ae a b ``F.mz ``F.mK 0 ag ag
   |(``Nat.lt,#[a,b])=>R ae a b ``F.mA ``F.mL 1 ag ag
   |(``Eq,#[S,a,b])=>if let aa k:=f S then R k a b ``F.ti ``F.tQ 0 ae ag
   |(``And,#[a,b])=>
    qA g (iE (mkConst ``And.left) a b p) a.consumeMData;qA g (iE (mkConst ``And.right) a b p) b.consumeMData
   |(``Or,#[_,_])=>modify λs=>{s with jY:=s.jY.push p}
   |(``Ne,#[S,a,b])=>if let aa k:=f S then modify λs=>{s with nK:=s.nK.push (p,a,b,k)}
   |(``Iff,#[a,b])=>modify λs=>{s with jY:=s.jY.push (iE (mkConst ``Ka) a b p)}
   |(``Not,#[q])=>
    let q:=q.consumeMData
    match q.getAppFnArgs with
     |(``rv,#[S,_,a,b])=>if let aa k:=f S then R k a b ``F.pe ``F.pC 1 ag ae
     |(``rx,#[S,_,a,b])=>if let aa k:=f S then R k a b ``F.pf ``F.pD 0 ag ae
     |(``GE.ge,#[S,_,a,b])=>if let aa k:=f S then R k b a ``F.pe ``F.pC 1 ag ae
     |(``GT.gt,#[S,_,a,b])=>if let aa k:=f S then R k b a ``F.pf ``F.pD 0 ag ae
     |(``Eq,#[S,a,b])=>if let aa k:=f S then modify λs=>{s with nK:=s.nK.push (p,a,b,k)}
     |(``Or,#[a,b])=>
      qA g (mkLambda `h .default a (fT p (iE (mkConst ``Or.inl) a b (.bvar 0)))) (fT (mkConst ``Not) a);qA g (mkLambda `h .default b (fT p (iE (mkConst ``Or.inr) a b (.bvar 0)))) (fT (mkConst ``Not) b)
     |(``Not,#[r])=>qA g (dV (mkConst ``LR) r p) r
     |(``And,#[a,b])=>modify λs=>{s with jY:=s.jY.push (iE (mkConst ``LP) a b p)}
     |(``Iff,#[a,b])=>modify λs=>{s with jY:=s.jY.push (iE (mkConst ``LQ) a b p)}
     |_=>aw ()
   |_=>aw ()end
def VG(s:S):Option (Array Int):=ys do
 let C:=s.X.size;let n:=C+s.Y.size;let E:=s.facts.size;let mut R:Array Tp:=#[]
 for i in[0:E]do
  let f:=s.facts[i]!;let mut k:Array Int:=pE n 0;for(j,q)in f.n do k:=k.modify j (·+q)
  for(j,q)in f.z do k:=k.modify (C+j) (·+q)
  let m:=(pE E (0:Int)).set! i 1;R:=R.push ⟨k,f.c,m⟩;if f.eq then R:=R.push ⟨k.map (-·),-f.c,m.map (-·)⟩
 for j in[0:C]do R:=R.push ⟨(pE n (0:Int)).set! j 1,0,pE E 0⟩
 let mut t:=(aR n)
 for _ in[0:n+1]do
  for r in R do if r.c<0&&r.k.all (·==0)then return aa r.m
  if t.isEmpty then return ab
  let mut B:=0;let mut d:=1000000000
  for j in t do
   let p:=(R.filter λr=>r.k[j]!>0).size;let q:=(R.filter λr=>r.k[j]!<0).size
   if p*q<d then
    d:=p*q;B:=j
  t:=t.filter (·!=B);let j:=B;let S:=R.filter λr=>r.k[j]!>0;let o:=R.filter λr=>r.k[j]!<0;let mut X:=R.filter λr=>r.k[j]! ==0;if S.size*o.size+X.size>300 then return ab
  for p in S do
   for q in o do
    let a:=p.k[j]!;let b:=-q.k[j]!;let g:Nat:=Nat.gcd a.toNat b.toNat;let(a,b):=(a/g,b/g);let k:=(p.k.zip q.k).map λ(x,y)=>b*x+a*y;let c:=b*p.c+a*q.c;if k.all (·==0)&&c>=0 then continue
    X:=X.push ⟨k,c,(p.m.zip q.m).map λ(x,y)=>b*x+a*y⟩
  R:=X
 return ab
def xh(S:Expr)(l:List Expr):Expr:=l.foldr (λa r=>iE (mkConst ``rA [0]) S a r) (fT (mkConst ``pO [0]) S)
def Ie(s:S):Option Expr:=do
 let m<-VG s;let U:=(aR s.facts.size).filter λi=>m[i]! !=0;let g:=U.foldl (λg i=>Nat.gcd g (m[i]!).natAbs) 0;let j0:=U.map λi=>s.facts[i]!;let j:=U.map λi=>xa (m[i]!/g);let X:=xh LX s.X.toList;let Y:=xh Km s.Y.toList;let F:=xh (mkConst ``F) (j0.map (·.f));let M:=xh Km j;let H:=eu (mkConst ``NV) #[X,Y,F,M,dV (mkConst ``pG [1]) (mkConst ``Bool) (mkConst ``ae)];return eu H (j0.map (·.p)).toArray
def Bw:Expr:=mkConst ``False
def tH:Nat->S->bO (Option Expr)
 |0,s=>return Ie s
 |d+1,s=>do
  if let aa p:=Ie s then return aa p
  let g(A:Expr)(k:Expr->M Unit):bO (Option Expr):=pJ `h A λh=>do
   let(_,L)<-(k h).run s
   let aa p<-tH d L|return ab
   return aa (<-pI #[h] p)
  if h:0<s.jY.size then
   let p:=s.jY[0];let T<-dN (<-mR p);let T:=T.consumeMData;let(a,b):=(T.getArg! 0,T.getArg! 1);let s:={s with jY:=s.jY.eraseIdx 0}
   let g(A:Expr):bO (Option Expr):=pJ `h A λh=>do
    let(_,L)<-(jl 30 h).run s
    let aa p<-tH d L|return ab
    return aa (<-pI #[h] p)
   let aa x<-g a|return ab
   let aa y<-g b|return ab
   return aa (eu (mkConst ``Or.elim) #[a,b,Bw,p,x,y])
  if h:0<s.nK.size then
   let(p,a,b,k):=s.nK[0];let s:={s with nK:=s.nK.eraseIdx 0}
   let g(A:Expr):bO (Option Expr):=pJ `h A λh=>do
    let(_,L)<-(jl 30 h).run s
    let aa p<-tH d L|return ab
    return aa (<-pI #[h] p)
   let aa x<-g (<-ho ``rx #[a,b])|return ab
   let aa y<-g (<-ho ``rx #[b,a])|return ab
   return aa (eu (mkConst (if k then``LZ else``Ma)) #[a,b,Bw,p,x,y])
  if h:0<s.subs.size then
   let(a,b):=s.subs[0];let s:={s with subs:=s.subs.eraseIdx 0};let e<-ho ``Ej #[a,b];let F<-ho ``Ei #[e,b]
   let g(A B:Expr):bO (Option Expr):=pJ `h A λN=>pJ `h B λa0=>do
    let(_,L)<-(do
     jl 30 N;jl 30 a0:M Unit).run s
    let aa p<-tH d L|return ab
    return aa (<-pI #[N,a0] p)
   let aa x<-g (<-ho ``rv #[b,a]) (<-mkEq a F)|return ab
   let aa y<-g (<-ho ``rv #[a,b]) (<-mkEq e (iE (mkConst ``oq [0]) LX (od 0) (fT (mkConst ``instOfNatNat) (od 0))))|return ab
   return aa (eu (mkConst ``ya) #[a,b,Bw,x,y])
  return ab
def ZA(T:Expr):bO (Option Expr):=Es T λX g=>do
 unless g.isConstOf ``False do return ab
 let mut s:S:={}
 for x in X do
  let t<-dN (<-mR x);if<-oa t then s:=(<-(jl 60 x).run s).2
 let aa p<-tH 7 s|return ab
 return aa (<-pI X p)
end mT
end
section
open Lean Meta Elab Tactic
namespace Z
def cn(s:String)(k:Nat):bJ:=(`Mine.Q).str s!"{s}{k}"
def js(k:Nat)(f:Nat->String)(s:String:=" "):String:=s.intercalate ((aR k).map λi=>f (i+1))
def Ou(s:String):Er Syntax:=do
 let .ok x:=PK (<-getEnv) `term s|throwError s
 return x
def vv(n:bJ)(k:Nat)(o H:String):Er Unit:=do
 let Z:=(aR k).map λi=>PJ s!"u{i+1}"
 Term.withLevelNames Z do
  let T<-PG (<-Ou o);PH;let T<-dN T;let v<-Term.elabTermEnsuringType (<-Ou H) T;PH;addDecl (.thmDecl {name:=n,levelParams:=Z,type:=T,value:=<-dN v})
def TU:Er Unit:=do
 for j in[0:11]do
  let k:=j+2;let c:=js k (s!"a{·}");let g:=js k (λi=>"{α"++s!"{i}:Sort u{i}"++"}");let p:="{p:"++js k (s!"α{·}→")++"Prop}";vv (cn "e" k) k s!"∀{g}{p}\{G:Prop}(h:∃{c},p {c})(k:∀{c},p {c}→G),G" (if k==2 then"fun h k=>h.elim fun a h=>h.elim (k a)"else s!"fun h k=>h.elim fun a h=>{cn "e" (k-1)} h (k a)");vv (cn "i" k) k s!"∀{g}{p}{js k (λi=>s!"(a{i}:α{i})")}(h:p {c}),∃{c},p {c}" s!"fun {c} h=>⟨{js k (s!"a{·}") ","},h⟩";if k>2 then vv (cn "a" k) 0 s!"∀\{{js k (s!"A{·}")}:Prop}{js k (λi=>s!"(a{i}:A{i})")},{js k (s!"A{·}") "∧"}" s!"fun {c}=>⟨{js k (s!"a{·}") ","}⟩"
  if k<8 then
   let k:=k-1;vv (cn "r" k) k s!"∀{js k (λi=>"{α"++s!"{i}:Sort u{i}"++"}")}\{f:{js k (s!"α{·}→")}Prop}{js k (λi=>"{x"++s!"{i}:α{i}"++"}")}{js k (λi=>"{y"++s!"{i}:α{i}"++"}")}{js k (λi=>s!"(h{i}:x{i}=y{i})")}(m:f {js k (s!"y{·}")}),f {js k (s!"x{·}")}" s!"fun {js k (s!"h{·}")} m=>by subst {js k (s!"h{·}")};exact m"
end Z
end
section
open Lean Meta Elab Tactic
namespace Z
abbrev HM:=Std.HashMap
abbrev HS:=Std.HashSet
def tl:Nat->Expr->Nat->StateM (HM (Expr×Nat) Nat) Nat
 |0,_,_=>return 2
 |g+1,e,i=>do
  if e.looseBVarRange<=i then return 0
  if let .bvar j:=e then return if i==j then 1 else 0
  if let aa r:=(<-get)[(e,i)]? then return r
  let p(a:Expr)(i:Nat)(b:Expr)(j:Nat):StateM (HM (Expr×Nat) Nat) Nat:=do
   let k<-tl g a i;if k>=2 then return 2 else return ux 2 (k+(<-tl g b j))
  let r<-match e with
   |.app f a=>p f i a i
   |.lam _ d b _|.forallE _ d b _=>p d i b (i+1)
   |.letE _ d v b _=>
    do
     let k<-p d i v i;if k>=2 then aw 2 else aw (ux 2 (k+(<-tl g b (i+1))))
   |.mdata _ b|.proj _ _ b=>tl g b i
   |_=>aw 0
  modify λm=>m.insert (e,i) r;return r
def Mk(e:Expr)(i:Nat):Nat:=if e.looseBVarRange<=i then 0 else((tl 100000 e i).run {}).1
def OD:Expr->Bool|.bvar _|.fvar _|.const ..|.sort _|.lit _=>ae|_=>ag
def UU(e:Expr):Option (Array Expr×Level):=do
 let e:=if e.isAppOfArity ``id 2 then e.appArg! else e;guard (e.isAppOfArity ``congrArg 6)
 let .const _ [u,_]:=e.getAppFn|ab
 return(e.getAppArgs,u)
def kE(l:Nat):Nat->Expr->Nat->Nat|0,_,_=>l|g+1,e,n=>if n>=l then n else match e with|.app f a=>kE l g a (kE l g f (n+32))|.lam _ d b _|.forallE _ d b _=>kE l g b (kE l g d (n+48))|.letE _ d v b _=>kE l g b (kE l g v (kE l g d (n+56)))|.mdata _ b=>kE l g b n|.proj _ _ b=>kE l g b (n+40)|_=>n
def ku(j:Nat):Nat->Expr->Nat->StateM (HS (Expr×Nat)×Array Nat) Unit
 |0,_,_=>return
 |g+1,e,i=>do
  if e.looseBVarRange<=i then return
  if let .bvar q:=e then
   if q<i+j then modify λ(s,m)=>(s,m.modify (j-1-(q-i)) (·+1))
   return
  let k:=(e,j*1000+i);if(<-get).1.contains k then return
  modify λ(s,m)=>(s.insert k,m)
  match e with
   |.app f a=>
    ku j g f i;ku j g a i
   |.lam _ d b _|.forallE _ d b _=>
    ku j g d i;ku j g b (i+1)
   |.letE _ d v b _=>
    ku j g d i;ku j g v i;ku j g b (i+1)
   |.mdata _ b|.proj _ _ b=>ku j g b i
   |_=>return
def xA:Nat->Expr->Array (Expr×Expr)->Array (Expr×Expr)×Expr|0,e,l=>(l,e)|g+1,e,l=>match e with|.letE _ T v b _=>xA g b (l.push (T,v))|.app (.lam _ T b _) a=>xA g b (l.push (T,a))|.mdata _ b=>xA g b l|e=>(l,e)
def OT(i:pH (HS Expr))(e:Expr):bO Expr:=do
 let(l,b):=xA 100000 e #[]
 let((),(_,m)):=(do
  for h:j in[0:l.size]do
   ku j 100000 l[j].1 0;ku j 100000 l[j].2 0
  ku l.size 100000 b 0:StateM (HS (Expr×Nat)×Array Nat) Unit).run ({},pE l.size 0)
 let mut P:Array Expr:=#[];let mut a:Array (Expr×Expr×Expr):=#[]
 for h:j in[0:l.size]do
  let(T,v):=l[j];let c:=m[j]!;let s:=kE 400 1000 v 0;let X:=v.instantiateRev P
  if c<=1||OD v||(s<400&&(c-1)*s<=28+kE 2000 1000 T 0/2)then P:=P.push X else
   let x:=Expr.fvar (<-Ez);a:=a.push (x,T.instantiateRev P,X);P:=P.push x
 let mut r:=b.instantiateRev P
 for(x,T,v)in a.reverse do
  r:=.letE `x T v ((r.liftLooseBVars 0 1).abstract #[x]) ag;i.modify (·.insert r)
 return r
def head(i:pH (HS Expr)):Nat->Expr->bO Expr
 |0,e=>return e
 |g+1,e=>match e with
  |.letE ..=>do
   if(<-i.get).contains e then return e
   let r<-OT i e;if r.isLet then return r else head i g r
  |.mdata _ b=>head i g b
  |.app O _=>do
   match e.getAppFn with
    |.lam _ T b _=>
     if O.isLambda then
      let r<-OT i e;if r.isLet then return r else head i g r else
      let z:=e.getAppArgs;let a:=z[0]!;let _:=T;if OD a||Mk b 0<=1 then head i g (mkAppRange (b.instantiate1 a) 1 z.size z)else return e
    |.const c _=>
     if(c==``Eq.mpr||c==``tW)&&e.getAppNumArgs==4 then
      let a:=e.getAppArgs
      match UU a[2]! with
       |aa (q,u)=>
        let(S,x,y,f,h):=(q[0]!,q[2]!,q[3]!,q[4]!,q[5]!);return if !f.isLambda then e else if c==``tW then eu (mkConst ``yo [.zero,u]) #[S,x,f,a[3]!,y,h]else eu (mkConst ``yo [.zero,u]) #[S,y,f,a[3]!,x,ub (mkConst ``mN [u]) S x y h]
       |ab=>return e else if c==``mN&&e.getAppNumArgs==4&&e.appArg!.isAppOfArity ``mN 4 then return e.appArg!.appArg! else if c==``id&&e.getAppNumArgs==2 then head i g e.appArg! else return e
    |_=>return e
  |_=>return e
def KR(e:Expr):Expr:=match e with|.lam _ d b _=>.lam `x d b .default|.forallE _ d b _=>.forallE `x d b .default|.letE _ d v b _=>.letE `x d v b ag|e=>e
def abl(e:Expr):bO Expr:=do
 let i<-yr {}
 yy e (pre:=λe=>do match e with|.letE ..|.mdata ..|.app ..=>return .continue (<-head i 1000 e)|_=>return .continue) (post:=λe=>do
  match e with
   |.app ..=>
    let r<-head i 1000 e;if r==e then return .done e else return .visit r
   |_=>return .done (KR e))
def CL(R:pH (HM bJ (Option (Nat×Nat))))(f:bJ):bO (Option (Nat×Nat)):=do
 if let aa r:=(<-R.get)[f]? then return r
 let J<-getEnv
 let r<-(do
  let aa (.inductInfo i):=J.find? f|return ab
  let[c]:=i.ctors|return ab
  if i.numIndices !=0||i.isRec then return ab
  let aa (.ctorInfo C):=J.find? c|return ab
  let M<-(Es i.type λ_ b=>return b.isProp:bO Bool);unless M do return ab
  let M<-(Es C.type λX _=>do
   for x in X[i.numParams:]do unless<-oa (<-mR x)do return ag
   return ae:bO Bool)
  unless M do return ab
  return aa (i.numParams,C.numFields):bO (Option (Nat×Nat)))
 R.modify (·.insert f r);return r
def oT:Nat->Expr->Option (Array Expr×Expr)
 |0,e=>aa (#[],e)
 |k+1,.lam _ d b _=>do
  let(a,e)<-oT k b;return(#[d]++a,e)
 |_,_=>ab
def CJ:Nat->Expr->Option (Array Expr×Expr)
 |0,e=>aa (#[],e)
 |k+1,.forallE _ d b _=>do
  let(a,e)<-CJ k b;return(#[d]++a,e)
 |_,_=>ab
def sO(e:Expr):Expr:=e.lowerLooseBVars 1 1
def tb(s:String)(n:bJ):Option Nat:=match n with|.str (.str _ "Q") t=>if t.startsWith s then(t.drop 1).toNat? else ab|_=>ab
def Ue(e:Expr):Option (List Level×Array Expr×Expr×Expr×Expr×Expr):=do
 let .const c Z:=e.getAppFn|ab
 let a:=e.getAppArgs
 if c==``Eh then
  guard (a.size==5);return(Z,#[a[0]!],a[1]!,a[2]!,a[3]!,a[4]!)
 let k<-tb "e" c;guard (a.size==k+4);return(Z,a.extract 0 k,a[k]!,a[k+1]!,a[k+2]!,a[k+3]!)
def Ug(e:Expr):Option (List Level×Nat×Array Expr×Expr):=do
 let .const c Z:=e.getAppFn|ab
 let a:=e.getAppArgs
 if c==``Pt then
  guard (a.size==4);return(Z,1,#[a[2]!],a[3]!)
 let k<-tb "i" c;guard (a.size==2*k+2);return(Z,k,a.extract (k+1) (2*k+1),a[2*k+1]!)
def Hn(e:Expr):Option (Array Expr×Array Expr):=do
 let .const c _:=e.getAppFn|ab
 let a:=e.getAppArgs
 if c==``And.intro then
  guard (a.size==4);return(#[a[0]!,a[1]!],#[a[2]!,a[3]!])
 let k<-tb "a" c;guard (a.size==2*k);return(a.extract 0 k,a.extract k (2*k))
def OS:Nat->Expr->Option (Array Expr×Expr)
 |0,b=>aa (#[],b)
 |k+1,b=>do
  guard (b.isAppOfArity ``Exists 2)
  let .lam _ _ X _:=b.appArg!|ab
  let(f0,r)<-OS k X;return(#[b.appFn!.appArg!]++f0,r)
def LJ(f0:Array Expr)(b:Expr):Expr:=f0.foldr (λt b=>.lam `x t b .default) b
def Wn(f0:Array Expr):Option (Array Expr):=ys do
 let mut X:=#[]
 for h:i in[0:f0.size]do
  let t:=f0[i];for j in[0:i]do if t.hasLooseBVar j then return ab
  X:=X.push (t.lowerLooseBVars i i)
 return aa X
def Uh(e:Expr):Option (List Level×Array Expr×Expr×Array Expr×Array Expr×Array Expr×Expr):=do
 let .const c Z:=e.getAppFn|ab
 let k<-tb "r" c;let a:=e.getAppArgs;guard (a.size==4*k+2);return(Z,a.extract 0 k,a[k]!,a.extract (k+1) (2*k+1),a.extract (2*k+1) (3*k+1),a.extract (3*k+1) (4*k+1),a[4*k+1]!)
def LN(k:Nat)(y:Expr)(X:Array Expr):Nat->Nat->Expr->Expr->Option Expr
 |0,_,_,_=>ab
 |g+1,d,p,q=>do
  if p==q then return p
  if p==.bvar (k+d)then
   if q==y.liftLooseBVars 0 (1+k+d)then return p
   ab
  if let .bvar i:=q then
   if i>=d&&i<k+d then
    if p==(X[k-1-(i-d)]!).liftLooseBVars 0 (1+k+d)then return q
    ab
  let m:=LN k y X g;match p,q with|.app f a,.app N b=>return .app (<-m d f N) (<-m d a b)|.lam n t b i,.lam _ r A _=>return .lam n (<-m d t r) (<-m (d+1) b A) i|.forallE n t b i,.forallE _ r A _=>return .forallE n (<-m d t r) (<-m (d+1) b A) i|.proj s i b,.proj L e A=>if s==L&&i==e then return .proj s i (<-m d b A)else ab|_,_=>ab
def vl(R:pH (HM bJ (Option (Nat×Nat)))):Nat->Expr->bO (Option Expr)
 |0,_=>return ab
 |g+1,e=>match e with
  |.bvar _|.fvar _=>return aa e
  |.proj f i b=>return(<-vl R g b).map (ry f i)
  |.app ..=>do
   let .const c _:=e.getAppFn|return ab
   let aa p:=(<-getEnv).getProjectionFnInfo? c|return ab
   unless !p.fromClass&&e.getAppNumArgs==p.numParams+1 do return ab
   let f:=p.ctorName.getPrefix;unless(<-CL R f).isSome do return ab
   return(<-vl R g e.appArg!).map (ry f p.i)
  |.mdata _ b=>vl R g b
  |_=>return ab
def ar:Expr->Nat|.forallE _ _ b _=>ar b+1|_=>0
def Wt(t:Expr):Bool:=match t with|.forallE n _ _ _=>n.eraseMacroScopes==`P|_=>ag
def MC:Expr->Nat->Option Nat|t@(.forallE _ d b _),i=>if d.isSort&&b.isForall&&Wt t then aa i else MC b (i+1)|_,_=>ab
def CF:Nat->Expr->Option Expr|0,t=>aa t|i+1,.forallE _ _ b _=>CF i b|_,_=>ab
def qc(s:String)(k:Nat)(Z:List Level)(a:Array Expr):Expr:=eu (mkConst (cn s k) Z) a
def Vo(R:pH (HM bJ (Option (Nat×Nat))))(b0:Bool)(e:Expr):bO (Option Expr):=do
 match e with
  |.proj B i h=>
   if b0||B !=``And then return ab
   if let aa (_,X):=Hn h then
    if i==0 then return aa X[0]!
    if X.size==2 then return aa X[1]!
   return ab
  |.app ..=>
   let .const c Z:=e.getAppFn|return ab
   let a:=e.getAppArgs
   if b0 then
    if let .str B f:=c then
     if f=="casesOn"||f=="rec"then
      if let aa (m0,l0)<-CL R B then
       let(v,H):=if f=="casesOn"then(m0+1,m0+2)else(m0+2,m0+1)
       if a.size>=m0+3 then
        let h:=a[v]!;let w0:=a.extract (m0+3) a.size
        if let aa (_,r0):=oT l0 a[H]! then
         let A(x:Expr):Array Expr:=(Array.range l0).map λi=>ry B i x;if let aa h:=<-vl R 100 h then return aa ((r0.instantiateRev (A h)).beta w0)
         let mut G0:=0;for i in[0:l0]do G0:=G0+Mk r0 i
         if G0<=1 then return aa ((r0.instantiateRev (A h)).beta w0)
         let d0:=mkConst B (Z.drop (Z.length-(((<-getEnv).find? B).map (·.levelParams.length)).getD 0));let Q:=(r0.liftLooseBVars l0 1).instantiateRev (A (.bvar 0));return aa (.letE `x (eu d0 (a.extract 0 m0)) h (Q.beta (w0.map (·.liftLooseBVars 0 1))) ag)
    if let aa s0:=(<-getEnv).getProjectionFnInfo? c then
     if !s0.fromClass&&a.size>s0.numParams then
      let B:=s0.ctorName.getPrefix;if let aa _<-CL R B then return aa (eu (.proj B s0.i a[s0.numParams]!) (a.extract (s0.numParams+1) a.size))
   if c==``Pr||c==``Eh then
    if a.size<5||(b0&&a.size==5)then return ab
    let(S,p,h):=(a[0]!,a[1]!,a[3]!);let mut G:=a[2]!;let mut k:=a[4]!;let w0:=a.extract 5 a.size;let mut L:=ag
    if c==``Pr then
     let .lam _ _ g _:=G|return ab
     if g.hasLooseBVar 0 then return ab
     G:=sO g;L:=ae
    if w0.size>0 then
     let aa (o,r0):=oT 2 k|return ab
     let mut g:=G
     for x in w0 do
      let .forallE _ _ b _:=g|return ab
      g:=b.instantiate1 x
     G:=g;k:=LJ o (r0.beta (w0.map (·.liftLooseBVars 0 2)));L:=ae
    if let aa (o,r0):=oT 2 k then
     if let aa (Y,f0,P,_,a0,t0):=Ue r0 then
      let E0(t:Expr):Bool:=t.hasLooseBVar 0
      if a0==.bvar 0&&f0.size+1<=12&&f0.all (λt=>!E0 t&&!t.hasLooseBVar 1)&&!E0 P&&!E0 t0 then
       let R0:=#[S]++f0.map (λt=>t.lowerLooseBVars 2 2);return aa (qc "e" (f0.size+1) (Z++Y) (R0++#[.lam `x S (sO P) .default,G,h,.lam `x o[0]! (sO t0) .default]))
    if L then return aa (eu (mkConst ``Eh Z) #[S,p,G,h,k])
    return ab
   if !b0&&a.size==4 then
    if c==``Pt then
     let aa (Y,k,p0,h):=Ug a[3]!|return ab
     if k+1>12 then return ab
     let .lam _ _ l _:=a[1]!|return ab
     let aa (S0,r0):=OS k l|return ab
     let aa I0:=Wn (#[a[0]!]++S0)|return ab
     return aa (qc "i" (k+1) (Z++Y) (I0++#[LJ (I0.mapIdx λi t=>t.liftLooseBVars 0 i) r0,a[2]!]++p0++#[h]))
    if c==``And.intro then
     let aa (f0,X):=Hn a[3]!|return ab
     if f0.size+1>12 then return ab
     return aa (qc "a" (f0.size+1) [] (#[a[0]!]++f0++#[a[2]!]++X))
   if !b0&&c==``Or.casesOn&&a.size==6 then
    let .lam _ _ g _:=a[2]!|return ab
    if g.hasLooseBVar 0 then return ab
    return aa (eu (mkConst ``Or.elim) #[a[0]!,a[1]!,sO g,a[3]!,a[4]!,a[5]!])
   if c==``Eq.casesOn&&a.size>=6 then
    let .lam n d (.lam _ _ M _) _:=a[2]!|return ab
    let u:=Z.getLast!
    if a.size>=8 then
     let .forallE _ h0 (.forallE _ g0 _ _) _:=M|return ab
     unless h0.isAppOf ``Eq&&g0.isAppOf ``HEq&&a[6]!.isAppOf ``pG&&a[7]!.isAppOf ``HEq.refl do return ab
     let(S,x,y,h):=(a[0]!,a[1]!,a[3]!,a[4]!);let A0(p q:Expr):=iE (mkConst ``Eq [u]) S p q;let F:=ub (mkConst ``mN [u]) S x y h;let E:=ub (mkConst ``proof_irrel_heq) (A0 x y) (A0 x x) h (dV (mkConst ``pG [u]) S x);return aa (a[5]!.beta (#[F,E]++a.extract 8 a.size))
    if a.size>6||M.hasLooseBVar 0 then return ab
    return aa (eu (mkConst ``yo Z) #[a[0]!,a[1]!,.lam n d (sO M) .default,a[5]!,a[3]!,a[4]!])
   if !b0&&a.size==6&&tb "r" c==aa 1 then
    let aa (Y,f0,g,X,q0,w,m):=Uh a[5]!|return ab
    let k:=f0.size;if k>=6 then return ab
    let .lam _ _ L0 _:=a[1]!|return ab
    let aa (_,M0):=oT k g|return ab
    let aa b:=LN k a[3]! X 10000 0 (L0.liftLooseBVars 0 k) (M0.liftLooseBVars k 1)|return ab
    let f:=f0.mapIdx (λi t=>t.liftLooseBVars 0 (i+1))|>.foldr (λt b=>Expr.lam `x t b .default) b;return aa (qc "r" (k+1) (Z++Y) (#[a[0]!]++f0++#[.lam `x a[0]! f .default,a[2]!]++X++#[a[3]!]++q0++#[a[4]!]++w++#[m]))
   if c==``yo&&a.size>=6 then
    if a.size==6&&!b0 then if let[.zero,u]:=Z then if a[5]!.isAppOfArity ``mN 4&&a[2]!.isLambda then return aa (qc "r" 1 [u] #[a[0]!,a[2]!,a[4]!,a[1]!,a[5]!.appArg!,a[3]!])
    let .lam n d H0 v0:=a[2]!|return ab
    if a.size==6&&!H0.hasLooseBVar 0 then return aa a[3]!
    let k:=a.size-6;if k==0 then return ab
    let aa (o,r0):=oT k a[3]!|return ab
    let aa (O,G):=CJ k H0|return ab
    for t in[0:k]do
     let i:=k-1-t;if r0.hasLooseBVar t||G.hasLooseBVar t then continue
     let mut u0:=ag;for j in[i+1:k]do if O[j]!.hasLooseBVar (j-1-i)||o[j]!.hasLooseBVar (j-1-i)then u0:=ae
     if u0 then continue
     let y0(s:Nat)(e:Expr):Expr:=e.lowerLooseBVars (s+1) 1;let mut f:=y0 t r0;let mut g:=y0 t G
     for T in[0:k]do
      let j:=k-1-T;if j==i then continue
      f:=.lam `x (if j>i then y0 (j-1-i) o[j]! else o[j]!) f .default;g:=.forallE `x (if j>i then y0 (j-1-i) O[j]! else O[j]!) g .default
     return aa (eu e.getAppFn (#[a[0]!,a[1]!,.lam n d g v0,f,a[4]!,a[5]!]++(a.extract 6 (6+i))++(a.extract (7+i) a.size)))
    return ab
   if let .str C "noConfusion":=c then
    let J<-getEnv
    let aa (.ctorInfo _):=J.find? C|return ab
    let aa C0:=J.find? (C.str "inj")|return ab
    let aa k0:=J.find? c|return ab
    let aa F0:=MC k0.type 0|return ab
    let n:=ar k0.type;unless n==ar C0.type+2&&a.size>=n do return ab
    let k:=a[n-1]!
    let aa (.forallE _ j0 _ _):=CF (n-1) k0.type|return ab
    let q:=ar j0
    let aa (n0,_):=CJ q j0|return ab
    let N0:=((a.extract 0 F0)++(a.extract (F0+1) (n-2))).push a[n-2]!;let Q0:=match CF F0 k0.type with|aa (.forallE _ (.sort (.param n)) _ _)=>aa n|_=>ab
    let J0:=(k0.levelParams.zip Z).filterMap λ(x,u)=>if Q0==aa x then ab else aa u;unless J0.length==C0.levelParams.length&&q>0 do return ab
    let e0:=eu (mkConst (C.str "inj") J0) N0
    let aa (O0,r0):=oT q k|return ab
    let mut z:=#[];let mut x0:=e0
    for i in[0:q]do
     let x:=if i+1==q then x0 else ry ``And 0 x0;if i+1<q then x0:=ry ``And 1 x0
     if n0[i]!.isAppOf ``Eq then z:=z.push x else if n0[i]!.isAppOf ``HEq then
      let t:=O0[i]!;unless t.isAppOfArity ``HEq 4 do return ab
      let i0:=t.getAppArgs;if i0.any λx=>(aR i).any λj=>x.hasLooseBVar j then return ab
      let c0(x:Expr):=x.lowerLooseBVars i i;z:=z.push (eu (mkConst ``heq_of_eq t.getAppFn.constLevels!) #[c0 i0[0]!,c0 i0[1]!,c0 i0[3]!,x])else return ab
    return aa ((r0.instantiateRev z).beta (a.extract n a.size))
   if b0 then return ab
   if c==``eq_of_heq&&a.size>=4 then
    if a[3]!.isAppOfArity ``heq_of_eq 4 then return aa (eu (a[3]!.appArg!) (a.extract 4 a.size))
    return ab
   if c==``mN&&a.size==4 then
    if a[3]!.isAppOfArity ``mN 4 then return aa a[3]!.appArg!
    return ab
   if c==``of_eq_true&&a.size==2 then
    let h:=a[1]!;unless h.isAppOfArity ``Ee 6 do return ab
    let I:=h.getAppArgs;unless I[5]!.isAppOf ``eq_self&&a[0]!.isAppOfArity ``Eq 3 do return ab
    let u:=a[0]!.getAppFn.constLevels!
    let#[S,x,y]:=a[0]!.getAppArgs|return ab
    let N:=I[4]!;let o0:=N.getAppArgs
    if N.isAppOfArity ``congr 8 then
     let f:=o0[6]!;unless f.isAppOfArity ``congrArg 6 do return ab
     let U:=f.getAppArgs;unless U[4]!.isAppOfArity ``Eq 1 do return ab
     return aa (eu (mkConst ``Ee u) #[S,x,U[3]!,y,U[5]!,ub (mkConst ``mN u) S y U[3]! o0[7]!])
    if N.isAppOfArity ``congrArg 6 then
     if o0[4]!.isAppOfArity ``Eq 2 then return aa (ub (mkConst ``mN u) S y x o0[5]!)
     if let .lam _ _ (.app (.app (.app (.const ``Eq _) _) (.bvar 0)) r) _:=o0[4]! then if !r.hasLooseBVar 0 then return aa o0[5]!
    return ab
   return ab
  |_=>return ab
def DF(R:pH (HM bJ (Option (Nat×Nat))))(w:Bool):Nat->Expr->bO Expr|0,e=>return e|g+1,e=>do match<-Vo R w e with|aa r=>DF R w g r|ab=>return e
def elim(R:pH (HM bJ (Option (Nat×Nat))))(e:Expr):bO Expr:=yy e (pre:=λe=>match e with|.app ..=>return .continue (<-DF R ae 100 e)|.mdata _ b=>return .visit b|_=>return .continue) (post:=λe=>match e with|.app ..|.proj ..=>return .done (<-DF R ag 20 e.headBeta)|e=>return .done (KR e))
end Z
end
section
open Lean Meta Elab Tactic
namespace Z
def QS:Expr->Nat|.const _ _|.app _ _=>32|.lam ..|.forallE ..=>48|.letE ..=>56|.proj ..=>40|_=>24
structure Fi where
 e:Expr
 k:Nat
 a:Nat:=0
 b:Nat:=0
 c:Nat:=0
 x:Nat:=0
 kx:Nat:=0
 sz:Nat:=0 deriving Inhabited
structure Pp where
 Lu:Nat
 node:Nat
 lam:Bool
 fv:FVarId deriving Inhabited
structure Sc where
 nodes:Array Fi:=#[]
 mq:Array Pp:=#[]
 ids:HM Expr Nat:={}
 sV:HM FVarId Nat:={}
 lctx:LocalContext:={}
def inner(s:Sc)(i j:Nat):Nat:=let l(i:Nat):Nat:=if i==0 then 0 else s.mq[i-1]!.Lu;if l i<l j then j else i
def ts(n:Fi):StateT Sc bO Nat:=do
 let s<-get;let i:=s.nodes.size;set {s with nodes:=s.nodes.push n,ids:=s.ids.insert n.e i};return i
def nO:Nat->Expr->StateT Sc bO Nat
 |0,_=>throwError"scan"
 |g+1,e=>do
  if let aa i:=(<-get).ids[e]? then return i
  let B(k:Nat)(d:Expr)(v:Option Expr)(b:Expr):StateT Sc bO Nat:=do
   let i<-nO g d;let l<-match v with|aa v=>nO g v|ab=>aw 0
   let C<-get;let j0:=if e.hasFVar then(collectFVars {} e).fvarIds else#[];let T:=j0.foldl (λt f=>match C.sV[f]? with|aa j=>Nat.max t C.mq[j]!.Lu|ab=>t) 0;let f<-Ez;let x:=C.mq.size;modify λs=>{s with mq:=s.mq.push ⟨T+1,0,k==2,f⟩,sV:=s.sV.insert f x,lctx:=match v with|aa v=>s.lctx.mkLetDecl f `x d v ag|ab=>s.lctx.mkLocalDecl f `x d .default};let j<-nO g (b.instantiate1 (.fvar f));let s<-get;let u:=j0.foldl (λt f=>match s.sV[f]? with|aa q=>inner s t (q+1)|ab=>t) (if v.isSome then 0 else s.nodes[i]!.kx);let z:=s.nodes[i]!.sz+s.nodes[j]!.sz;let r<-ts (if v.isSome then{e:=e,k:=k,a:=i,b:=l,c:=j,x:=x,kx:=u,sz:=ux 1000000 (z+s.nodes[l]!.sz+56)}else{e:=e,k:=k,a:=i,b:=j,x:=x,kx:=u,sz:=ux 1000000 (z+48)});modify λs=>{s with mq:=s.mq.modify x λq=>{q with node:=r}};return r
  match e with
   |.app f a=>
    let i<-nO g f;let j<-nO g a;let s<-get;ts {e:=e,k:=1,a:=i,b:=j,kx:=inner s s.nodes[i]!.kx s.nodes[j]!.kx,sz:=ux 1000000 (s.nodes[i]!.sz+s.nodes[j]!.sz+32)}
   |.lam _ d b _=>B 2 d ab b
   |.forallE _ d b _=>B 3 d ab b
   |.letE _ d v b _=>B 4 d (aa v) b
   |.mdata _ b=>nO g b
   |.proj _ _ b=>
    let j<-nO g b;let s<-get;ts {e:=e,k:=5,a:=j,kx:=s.nodes[j]!.kx,sz:=s.nodes[j]!.sz+40}
   |.fvar f=>ts {e:=e,k:=0,kx:=match(<-get).sV[f]? with|aa q=>q+1|ab=>0,sz:=24}
   |_=>ts {e:=e,k:=0,sz:=QS e}
def Zv(n:Nat):Nat:=ys do
 let mut n:=n;let mut c:=0
 while n !=0 do
  n:=n&&&(n-1);c:=c+1
 return c
def ND(v:Expr):bO Expr:=do
 let(r,s)<-(nO 100000 v).run {}
 withReader (λc=>{c with lctx:=s.lctx}) do
  let n:=s.nodes.size;let mut A:Array Nat:=pE n 0;A:=A.set! r 1;let mut H:HM Nat (Array (Nat×Expr×FVarId)):={};let mut C:HM Nat FVarId:={};let mut R:HM Nat Bool:={}
  for t in[0:r+1]do
   let i:=r-t;let N:=s.nodes[i]!;let mut m:=A[i]!;if m==0 then continue
   if N.k !=0&&N.kx !=0&&N.sz>=100&&m&&&(m-1)!=0 then
    if(Zv m-1)*N.sz>=250 then
     let x:=N.kx-1;let j:=s.mq[x]!
     if j.lam then
      let I<-match R[x]? with
       |aa b=>aw b
       |ab=>
        do
         let b<-(try isProof s.nodes[s.nodes[j.node]!.b]!.e catch _=>aw ag);R:=R.insert x b;aw b
      if I then
       let o<-(try
        let T<-mR N.e;if<-oa T then aw ab else aw (aa T)catch _=>aw ab)
       if let aa T:=o then
        let y<-Ez;H:=H.insert x ((H.getD x #[]).push (i,T,y));C:=C.insert i y;let d:=A[j.node]!;m:=(d^^^(d&&&(d-1)))<<<1
        if let aa z:=s.ids[T]? then
         let w:=m;A:=A.modify z (·|||w)
   let w:=m;match N.k with|1=>A:=(A.modify N.a (·|||w)).modify N.b (·|||w)|2|3=>A:=(A.modify N.a (·|||w)).modify N.b (·|||(w<<<1))|4=>A:=((A.modify N.a (·|||w)).modify N.b (·|||w)).modify N.c (·|||(w<<<1))|5=>A:=A.modify N.a (·|||w)|_=>aw ()
  let mut X:Array Expr:=pE n (.bvar 0);let g(X:Array Expr)(i:Nat):Expr:=match C[i]? with|aa y=>.fvar y|ab=>X[i]!
  for i in[0:r+1]do
   if A[i]! ==0 then continue
   let N:=s.nodes[i]!;let f(e:Expr):Expr:=e.abstract #[.fvar s.mq[N.x]!.fv]
   let e:=match N.k with
    |1=>Expr.app (g X N.a) (g X N.b)
    |2|3=>ys do
     let mut r0:=g X N.b
     if let aa u:=H[N.x]? then
      let u:=u.qsort λa b=>a.1>b.1
      for(h,T,y)in u do
       let l:=match s.ids[T]? with|aa z=>if A[z]! ==0||z>=i then T else(let t:=g X z;if u.any (λq=>q.1>h&&t.hasAnyFVar (·==q.2.2))then T else t)|ab=>T
       r0:=.letE `y l X[h]! (r0.abstract #[.fvar y]) ag
     if N.k==2 then return Expr.lam `x (g X N.a) (f r0) .default else return Expr.forallE `x (g X N.a) (f r0) (match N.e with|.forallE _ _ _ b=>b|_=>.default)
    |4=>Expr.letE `x (g X N.a) (g X N.b) (f (g X N.c)) ag
    |5=>match N.e with|.proj t k _=>ry t k (g X N.a)|_=>N.e
    |_=>N.e
   X:=X.set! i e
  return X[r]!
def tn(F:bJ->Option fS):Nat->bJ->StateM (HS bJ×Array bJ) Unit
 |0,_=>return
 |g+1,n=>do
  if(<-get).1.contains n then return
  let aa c:=F n|return
  modify λ(s,o)=>(s.insert n,o);let Z(e:Expr):StateM (HS bJ×Array bJ) Unit:=do for u in e.getUsedConstants do tn F g u
  Z c.type;if let aa v:=c.value? (allowOpaque:=ae)then Z v
  match c with|.inductInfo i=>for u in i.ctors do if let aa l:=F u then Z l.type|.ctorInfo i=>tn F g i.induct|.recInfo i=>for u in i.all do tn F g u|_=>aw ()
  modify λ(s,o)=>(s,o.push n)
def inl(B:HM bJ (List bJ×Expr))(v:Expr):bO Expr:=yy v (pre:=λe=>match e with
 |.app ..=>match e.getAppFn with
  |.const n Z=>match B[n]? with|aa (S,v)=>return .visit ((v.instantiateLevelParams S Z).beta e.getAppArgs)|ab=>return .continue
  |_=>return .continue
 |.const n Z=>match B[n]? with|aa (S,v)=>return .visit (v.instantiateLevelParams S Z)|ab=>return .continue
 |_=>return .continue)
def OU(B:HS bJ)(v:Expr)(m:HM bJ (Nat×Nat)):bO (HM bJ (Nat×Nat)):=do
 let r<-yr m
 v.forEach' (m:=bO) λe=>do
  match e.getAppFn with
   |.const c _=>
    if B.contains c then
     let k:=e.getAppNumArgs;r.modify λm=>match m[c]? with|aa (a,n)=>if a==k then m.insert c (a,n+1)else if a<k then m.insert c (k,1)else m|ab=>m.insert c (k,1)
   |_=>aw ()
  return ae
 r.get
def pA(n:bJ)(l:List String):Bool:=l.any λt=>(n.toString.splitOn t).length>1
def Kt:Expr->Bool|.forallE _ _ b _=>Kt b|t=>t.isConstOf ``False
def BU:bJ->Bool|.str _ s=>s.startsWith "_proof_"|.num p _=>BU p|_=>ag
def YE(k:Nat)(e:Expr):bO Bool:=do
 let r<-yr 0
 e.forEach' (m:=bO) λ_=>do
  let n<-r.get;r.set (n+1);return n<=k
 return(<-r.get)<=k
def lE(c:fS)(T v:Expr):fS:=match c with|.thmInfo d=>.thmInfo {d with type:=T,value:=v}|.defnInfo d=>.defnInfo {d with type:=T,value:=v}|c=>c
def rl(c:fS):Option Expr:=c.value? (allowOpaque:=ae)
def BX:fS->Bool|.thmInfo _=>ae|_=>ag
def hz(n:bJ):Bool:=pA n ["hdz","W.Fast"]
def acj(b0:bJ->Bool)(R:bJ):bO (Array fS):=do
 let J<-getEnv;let F(n:bJ):Option fS:=if b0 n then J.find? n else ab;let o:=((tn F 100000 R).run ({},#[])).2.2;let mut I:Array fS:=#[]
 for n in o do
  let aa c:=J.find? n|continue
  let c<-match c with|.defnInfo d=>if<-oa d.type then aw (ConstantInfo.thmInfo {name:=d.name,levelParams:=d.levelParams,type:=d.type,value:=d.value})else aw c|c=>aw c
  if BU n&&Kt c.type then
   if let aa p:=<-(try withCurrHeartbeats (mT.ZA c.type)catch _=>aw ab)then
    I:=I.push (lE c c.type p);continue
  I:=I.push c
 let mut a:HM bJ Nat:={}
 for c in I do
  for u in c.type.getUsedConstants do a:=a.insert u 2
  if let aa v:=rl c then for u in v.getUsedConstants do a:=a.insert u (a.getD u 0+1)
 let mut C:HS bJ:={};for c in I do if BX c&&!hz c.name&&c.name !=R&&a.getD c.name 0==1 then C:=C.insert c.name
 let mut m:HM bJ (Nat×Nat):={};for c in I do if let aa v:=rl c then if v.getUsedConstants.any C.contains then m<-OU C v m
 let mut B:HM bJ (List bJ×Expr):={};let mut w:Array fS:=#[]
 for c in I do
  if BX c&&!hz c.name then
   let aa v:=rl c|continue
   let u0<-if v.getUsedConstants.any B.contains then inl B v else aw v
   if C.contains c.name&&(m.getD c.name (0,0)).2<=1&&(BU c.name||(<-YE 6000 u0))then B:=B.insert c.name (c.levelParams,u0)else w:=w.push (lE c c.type u0)else match c with|.defnInfo d=>w:=w.push (lE c d.type (<-if d.value.getUsedConstants.any B.contains then inl B d.value else aw d.value))|c=>w:=w.push c
 let mut i:HS bJ:={};let mut b:HM bJ Nat:={}
 for c in w do
  for u in c.type.getUsedConstants do i:=i.insert u
  if let aa v:=rl c then for u in v.getUsedConstants do if BX c then b:=b.insert u (b.getD u 0+1)else i:=i.insert u
 C:={};for c in w do if let .defnInfo d:=c then if !i.contains d.name&&b.getD d.name 0<=1&&pA d.name ["match_","_f","_sparseCasesOn","._unary","else_eq"]&&!hz d.name then C:=C.insert d.name
 m:={};for c in w do if let aa v:=rl c then if v.getUsedConstants.any C.contains then m<-OU C v m
 B:={};let mut r:Array fS:=#[];for c in w do match c with|.defnInfo d=>if C.contains d.name&&(m.getD d.name (0,0)).2<=1 then B:=B.insert d.name (d.levelParams,<-inl B d.value)else r:=r.push c|.thmInfo d=>r:=r.push (lE c d.type (<-if d.value.getUsedConstants.any B.contains then inl B d.value else aw d.value))|c=>r:=r.push c
 return r
def kA(e:Expr):Nat->List Expr|0=>[]|k+1=>if e.isAppOfArity ``rA 3 then e.appFn!.appArg!::kA e.appArg! k else[]
def YD(e:Expr):bO Expr:=yy e (pre:=λe=>match e with|.letE _ _ v b _=>return .visit (b.instantiate1 v)|_=>return .continue)
def acn(I:Array fS):bO (Array fS):=do
 let B:HM bJ fS:=I.foldl (λm c=>m.insert c.name c) {};let mut j:HM bJ bJ:={};let mut s:HM bJ Expr:={}
 for c in I do
  unless pA c.name ["W.Fast.te"]do continue
  let aa (S,a,b):=c.type.eq?|continue
  if a.isConst&&b.isConst&&pA a.constName! ["hdz."]then
   j:=j.insert a.constName! b.constName!;s:=s.insert c.name (dV (mkConst ``pG c.type.getAppFn.constLevels!) S b)
 let aa f:=B[`Mine.hdz.heap_1005]?|throwError"heap"
 let aa y:=B[`Mine.hdz.heap_328]?|throwError"heap"
 let x(h:fS):bO (List Expr):=do
  let v<-YD h.value!;return kA ((v.find? λe=>e.isAppOfArity ``rA 3).getD v) 100000
 let E:=(<-x f).toArray
 for p in<-x y do
  let a:=p.getAppArgs;unless p.isAppOfArity ``Fl 4 do continue
  let aa i:=(match a[2]!.nat? with|aa i=>aa i|ab=>a[2]!.rawNatLit?)|continue
  let z:=a[3]!.getAppFn;let o:=E[i]!.getAppFn;if z.isConst&&o.isConst then j:=j.insert z.constName! (j.getD o.constName! o.constName!)
 let C(e:Expr):Expr:=e.replace λe=>match e with
  |.const n Z=>match j[n]? with|aa g=>aa (.const g Z)|ab=>s[n]?
  |_=>ab
 let mut w:Array fS:=#[]
 for c in I do
  if j.contains c.name||s.contains c.name then continue
  let T:=C c.type
  match c with
   |.thmInfo d=>
    if pA c.name ["W.Fast.te"]then
     let aa (S,_,b):=T.eq?|continue
     w:=w.push (lE c T (dV (mkConst ``pG T.getAppFn.constLevels!) S b))else w:=w.push (lE c T (C d.value))
   |.defnInfo d=>w:=w.push (lE c T (C d.value))
   |_=>w:=w.push c
 let G:List bJ:=[1035,1040,1010,1064,1043,1063,1069,1055].map λ(k:Nat)=>`Mine.hdz++PJ s!"thread_{k}";let mut L:HM bJ Expr:={}
 for c in w do
  unless pA c.name ["hdz._proof_"]do continue
  let .forallE n d b q:=c.type|continue
  let aa (_,l,r):=b.eq?|continue
  let .lam Y Q R _:=l|continue
  let .lam _ _ u _:=r|continue
  unless u.isAppOfArity ``aa 2 do continue
  let p:=u.appArg!;unless p.isAppOfArity ``Fl 4 do continue
  let t:=p.appArg!.getAppFn;unless t.isConst&&G.contains t.constName!&&!L.contains t.constName! do continue
  unless pA (R.getAppFn.constName?.getD .anonymous) ["W.Fast"]do continue
  let A:=u.appFn!.appArg!;let N:=p.getAppArgs;let F(e:Expr):Expr:=e.liftLooseBVars 0 1;let v:=eu (mkConst ``Option.rec [1,0]) #[A,.lam `x (fT (mkConst ``Option [0]) A) (F N[1]!) .default,dV (mkConst `Mine.hdz.thread_1011) (.bvar 1) (.bvar 0),.lam `p A (iE (mkConst ``Prod.snd [0,0]) (F N[0]!) (F N[1]!) (.bvar 0)) .default,R];L:=L.insert t.constName! (.lam n d (.lam Y Q v .default) q)
 return w.map λc=>match L[c.name]? with|aa v=>lE c c.type v|ab=>c
def ack(I:Array fS):bO (Array fS):=do
 let R<-yr {};let mut w:Array fS:=#[]
 for c in I do
  match c with
   |.thmInfo d=>
    if hz d.name then
     w:=w.push (lE c d.type (<-ND d.value));continue
    let u0<-elim R d.value;let C0<-abl u0;let C0<-elim R C0;let g<-try ND C0 catch _=>aw C0
    w:=w.push (lE c d.type g)
   |_=>w:=w.push c
 return w
def acm(I:Array fS)(b0:bJ->Bool)(R:bJ):bO (Array Ep×bJ):=do
 let J<-getEnv;let B:HM bJ fS:=I.foldl (λm c=>m.insert c.name c) {};let F(n:bJ):Option fS:=match B[n]? with|aa c=>aa c|ab=>if b0 n then J.find? n else ab
 let o:=((tn F 100000 R).run ({},#[])).2.2;let mut m:HM bJ bJ:={};let mut k:Nat:=0
 for n in o do
  match F n with
   |aa (.thmInfo _)|aa (.defnInfo _)=>
    m:=m.insert n ((`Mine).str s!"a{k}");k:=k+1
   |_=>aw ()
 let r(e:Expr):Expr:=e.replace λe=>match e with
  |.const n Z=>match m[n]? with|aa f=>aa (.const f Z)|ab=>ab
  |_=>ab
 let mut j:Array Expr:=#[];let mut A:Array fS:=#[]
 for n in o do
  let aa c:=F n|continue
  j:=j.push (r c.type)|>.push (match rl c with|aa v=>r v|ab=>.bvar 0);A:=A.push c
 j:=ShareCommon.shareCommon' j;let mut w:Array Ep:=#[]
 for h:i in[0:A.size]do
  let c:=A[i];let T:=j[2*i]!;let v:=j[2*i+1]!;let l0:=m.getD c.name c.name
  match c with
   |.thmInfo d=>w:=w.push (.thmDecl {d with name:=l0,type:=T,value:=v,all:=[l0]})
   |.defnInfo d=>w:=w.push (.defnDecl {d with name:=l0,type:=T,value:=v,all:=[l0]})
   |.inductInfo d=>
    let mut l:List Constructor:=[]
    for u in d.ctors do
     let aa (.ctorInfo C):=F u|throwError"constructor"
     l:=l++[{name:=u,type:=r C.type}]
    w:=w.push (.inductDecl d.levelParams d.numParams [{name:=c.name,type:=T,ctors:=l}] ag)
   |_=>aw ()
 return(w,m.getD R R)
def TS(J:Environment)(n0:Array Ep):bO Environment:=do
 let mut J:=J;for d in n0 do match J.addDeclCore 0 0 d ab with|.ok e=>J:=e|.error w0=>throwError w0.toMessageData {}
 return J
end Z
end
section
open Lean Meta Elab Tactic
def agr:il Unit:=JW do
 let o<-vb (<-dN (<-getMainTarget));unless o.isAppOfArity `PySem.wpAny 7 do throwError"wp"
 let t<-vb o.getAppArgs[3]!;let n:=t.getAppFn.constName?.getD .anonymous;let p(s:String):=mkIdent (.str `PySem s);let a(s:String):il (TSyntax `tactic):=`(tactic|with_reducible refine$(p s) ?_);let mut L:Array (TSyntax `tactic):=#[];let B:List (bJ×String):=[(``aw,"wpAny_pure"),(``bind,"wpAny_bind"),(`PySem.holding,"wpAny_holding"),(`PySem.standAt,"wpAny_standAt"),(`PySem.point,"wpAny_point"),(`PySem.rule,"wpAny_rule"),(`PySem.letGo,"wpAny_letGo"),(`PySem.mkInt,"wpAny_mkInt'"),(`PySem.mkStr,"wpAny_mkStr'"),(`PySem.fresh,"wpAny_fresh'"),(`PySem.alloc,"wpAny_alloc'"),(`PySem.Sem.attempt,"wpAny_attempt"),(``throw,"wpAny_throw")];if let aa s:=B.lookup n then L:=L.push (<-a s)
 for d in<-getLCtx do
  unless L.isEmpty do break
  if let aa (_,l,_):=(<-dN d.type).eq? then if l.getAppFn.constName?==aa n then L:=L.push (<-`(tactic|with_reducible refine$(p "wpAny_of_eq") (by assumption) ?_))
 let c(s:String):il (TSyntax `tactic):=`(tactic|with_reducible refine$(p s) (by assumption) (by assumption) ?_);if n==`PySem.typeOf then L:=L.push (<-`(tactic|with_reducible refine$(p "wpAny_typeOf") (by assumption) ?_))
 if n==`PySem.specialOf then L:=(L.push (<-c "wpAny_specialOf_val")).push (<-c "wpAny_specialOf")
 if n==`PySem.isInstance then L:=(L.push (<-c "wpAny_isInstance_val")).push (<-c "wpAny_isInstance")
 if let aa s:=[(`PySem.call,"wpAny_call"),(`PySem.runValue,"wpAny_runValue"),(`PySem.run,"wpAny_run")].lookup n then L:=L.push (<-a s)
 if let aa s:=[(`PySem.load,"wpAny_load'"),(`PySem.update,"wpAny_update'"),(`PySem.loadPart,"wpAny_loadPart'"),(`PySem.updatePart,"wpAny_updatePart'")].lookup n then L:=L++#[<-`(tactic|((with_reducible apply$(p s));focus with_reducible assumption)),<-`(tactic|((with_reducible apply$(p s));focus(heap_get;done)))]
 if n==`PySem.handled then L:=L.push (<-`(tactic|((with_reducible apply$(p "wpAny_handled_none"));focus(assumption;done))))
 if n==``ite then for k in[(<-`(tactic|rfl)),(<-`(tactic|simp[*]))]do for s in["wpAny_ite_false","wpAny_ite_true"]do L:=L.push (<-`(tactic|((with_reducible apply$(p s));focus($k;done))))
 L:=L++#[<-`(tactic|wp_delta),<-`(tactic|with_reducible_and_instances refine$(p "wpAny_pure") ?_),<-`(tactic|with_reducible_and_instances refine$(p "wpAny_bind") ?_)];for s in L do if<-(tryTactic (FQ s))then return
 throwError"wp"
def BJ(n:bJ):il Unit:=JW do
 let o<-vb (<-dN (<-getMainTarget));unless o.isAppOfArity `PySem.wpAny 7 do throwError"head"
 unless(<-vb o.getAppArgs[3]!).getAppFn.constName?==aa n do throwError"head"
end
local macro_rules |`(tactic|wp_step)=>`(tactic|run_tac Mine.agr)
open PySem PyProof.Rows PySem.W
abbrev P0:ni:=Ru
abbrev Tx:=#[i]
inductive V where|none|bool(b:Bool)|int(i:Int)|str(t:Tx)|ob(i:Nat)deriving DecidableEq,Inhabited
inductive aM{S c:Type}(R:S->c->Prop):#[br]->List c->Prop where|nil:aM R [] []|cons{a b l m}:R a b->aM R l m->aM R (a::l) (b::m)
theorem aM.mono{R y:S->c->Prop}(h:∀a b,R a b->y a b)(x:aM R l m):aM y l m:=by induction x with|nil=>exact .nil|cons a _ Q=>exact .cons (h _ _ a) Q
theorem aM.length{l:#[br]}{m:List c}(x:aM R l m):l.length=m.length:=by induction x with|nil=>rfl|cons _ _ Q=>simp[Q]
theorem aM.append{l L:#[br]}{m Z:List c}(x:aM R l m)(y:aM R L Z):aM R (l++L) (m++Z):=by induction x with|nil=>exact y|cons a _ Q=>exact .cons a Q
theorem aM.get{l:#[br]}{m:List c}(x:aM R l m):∀{i:Nat}{b:c},#[G,m,b]->∃a,#[G,l,a]/\R a b:=by induction x with|nil=>intro i b h;simp at h|cons a _ Q=>intro i b h;cases i with|zero=>simp at h;subst h;exact#[cg,a]|succ i=>simp_all
theorem aM.get'{l:#[br]}{m:List c}(x:aM R l m):∀{i:Nat}{a:S},#[G,l,a]->∃b,#[G,m,b]/\R a b:=by induction x with|nil=>intro i b h;simp at h|cons a _ Q=>intro i b h;cases i with|zero=>simp at h;subst h;exact#[cg,a]|succ i=>simp_all
theorem aM.set{R:S->c->Prop}(x:aM R l m)(r:R a b):∀(i:Nat),aM R (l.set i a) (m.set i b):=by induction x with|nil=>intro i;exact .nil|cons e h Q=>intro i;cases i with|zero=>exact .cons r h|succ i=>exact .cons e (Q i)
theorem aM.take{l:#[br]}{m:List c}(x:aM R l m):∀(i:Nat),aM R (l.take i) (m.take i):=by induction x with|nil=>intro i;simp;exact .nil|cons e h Q=>intro i;cases i with|zero=>exact .nil|succ i=>exact .cons e (Q i)
theorem aM.drop{l:#[br]}{m:List c}(x:aM R l m):∀(i:Nat),aM R (l.drop i) (m.drop i):=by induction x with|nil=>intro i;simp;exact .nil|cons e h Q=>intro i;cases i with|zero=>exact .cons e h|succ i=>exact Q i
theorem aM.rev{l:#[br]}{m:List c}(x:aM R l m):aM R l.reverse m.reverse:=by induction x with|nil=>exact .nil|cons e h Q=>rw[yO,yO];exact Q.append (.cons e .nil)
def VR(S:#[t])(v:ai):V->Prop|.none=>v=.none|.bool b=>v=.bool b|.int i=>∃t,v=.int i t|.str t=>∃s k,v=.str s k/\s.cps.toList=t|.ob i=>∃a,#[c2]/\v=.ref a
theorem gY{S:Type}{l L:#[g]}(h:l<+:L){i:Nat}{a:S}(e:#[G,l,a]):#[G,L,a]:=by
 obtain⟨t,rfl⟩:=h;rw[cL];.exact e
 .exact#[V,e]
theorem VR.pre(h:S<+:j)(r:#[bl,x]):VR j v x:=by cases x with|ob i=>obtain⟨a,e,rfl⟩:=r;exact#[aA,a,gY h e]|none=>exact r|bool b=>exact r|int i=>exact r|str t=>exact r
def bu(h:bo)(a:ao):Prop:=∃o,#[cq]/\((∃Y q t,o.data=.fields Y/\Y[1]?=aa (.str q t)/\q.cps.size≠0)\/(o.cls=.type "tuple"/\∃Y n,#[fz,Y,n]))
theorem bu.no(e:#[cq])(N:∀Y q t,o.data=.fields Y->Y[1]?=aa (.str q t)->q.cps.size=0)(a0:∀Y n,#[fz,Y,n]->o.cls≠#[h6]):¬bu h a:=λ⟨A,_,k⟩=>by grind
inductive Ob where|list(X:#[B])|tup(X:#[B])|raw(R:cp->Prop)|rel(n:Nat)(R:#[t]->cp->Prop)(h:∀(S j:#[t])(o:cp),(#[j6])->R S o->R j o)|hp(n:Nat)(R:#[t]->cp->Prop)(P:ao->Prop)(T:bo->cp->Prop)(h:∀(S j:#[t])(o:cp),(#[j6])->R S o->R j o)(k:#[mT,∀b e0,g.get? b=aa e0->bu g b->P b->f.get? b=aa e0])deriving Inhabited
def OR(S:#[t])(o:cp):Ob->Prop|.list X=>∃Y n,o=⟨#[fW],ab,.seq Y n,#[]⟩/\#[gc]|.tup X=>∃Y n,o=#[ob]/\#[gc]|.raw R=>R o|.rel n R _=>n<=S.length/\R S o|.hp n R _ _ _ _=>n<=S.length/\R S o
theorem OR.pre(h:S<+:j)(r:OR S o x):OR j o x:=by cases x with|list X=>obtain⟨Y,n,e,a⟩:=r;exact#[Q,n,e,a.mono λ_ _ q=>q.pre h]|tup X=>obtain⟨Y,n,e,a⟩:=r;exact#[Q,n,e,a.mono λ_ _ q=>q.pre h]|raw R=>exact r|rel n R k=>exact⟨aI r.1 h.length_le,k _ _ o (λi b=>by obtain⟨t,rfl⟩:=h;exact cL (ey b r.1)) r.2⟩|hp n R P T k _=>exact⟨aI r.1 h.length_le,k _ _ o (λi b=>by obtain⟨t,rfl⟩:=h;exact cL (ey b r.1)) r.2⟩
structure fJ where
 c:ao
 P:ao
 pos:ba
 name:aq
 qual:aq
structure Bs where
 heap:bo
 fl:List fJ
 lo:ao:=0
def Bs.tabs(B:Bs):#[t]:=B.fl.map (·.P)
abbrev nS(S:#[bb]):cp:={cls:=.none,data:=.fields S}
def vo(B:Bs)(h:bo):Prop:=∀x∈B.fl,x.qual.cps.size≠0/\∃S,h.IsCode x.c x.P S/\(h.get? x.P=aa (nS S)/\∃p L,B.heap.get? x.P=aa (nS p)/\S=p++L)/\(jI x.pos S.toList=ab\/∃C,jI x.pos S.toList=aa (.ref C)/\h.CodeRec (.ref C) x.qual/\#[aq,C])
def lS(B:Bs)(h:bo)(a:ao):Prop:=¬bu h a\/(a<B.lo/\∃o Y n,#[cq]/\#[fz,Y,n])
def Yg(B:Bs)(b:ao)(o:cp):Prop:=∀Y n,#[fz,Y,n]->B.lo<=b
theorem lS.ne(x:lS B h a)(e:#[de])(X:bu h b)(m:Yg B b o):b≠a:=λG=>by
 subst G;obtain x|⟨x,A,Y,n,F,d⟩:=x;.exact x X
 .rw[e]at F;cases F;exact absurd (m _ n d) (zb.mpr x)
theorem vo.keep(t:vo B h)(X:#[g])(k:#[e1,#[de],b∉X])(G:∀x∈X,lS B h x/\∀y∈B.fl,x≠y.c/\x≠y.P):vo B c0:=λx z=>by
 obtain⟨n,S,⟨o,Y,m,p,N,j,s,f,L,I,a,T,i,d,v,F,R,b,r⟩,g,O⟩:=t x z;refine⟨n,_,⟨o,_,_,_,_,_,_,_,_,_,k _ _ a (λl=>((G _ l).2 x z).1 rfl),T,i,d,v,F,R,k _ _ b (λl=>((G _ l).2 x z).2 rfl),r⟩,⟨k _ _ g.1 (λl=>((G _ l).2 x z).2 rfl),g.2⟩,?_⟩;obtain O|⟨C,O,⟨c,A,M,Q,e,U,q,w⟩,n0⟩:=O;.exact .inl O
 .cases e;exact .inr #[Q,O,⟨_,_,_,_,rfl,k _ _ U (λl=>(G _ l).1.ne U #[aw,U,.inl ⟨_,_,_,q,w,n⟩] (λ_ _ e=>by simp_all) rfl),q,w⟩,n0]
def GH(B:Bs)(h:bo):Prop:=#[ji,h.objs.size,(∀b o,B.heap.get? b=aa o->#[aq,b]->#[de])/\vo B h/\B.lo<=h.objs.size]
def hA(B:Bs):Prop:=∀x∈B.fl,x.c<B.heap.objs.size/\x.P<B.heap.objs.size/\∀y∈B.fl,x.c≠y.P/\(x.P=y.P->x.c=y.c/\(x=y\/¬((x.pos.line:Int)=y.pos.line/\(x.pos.col:Int)=y.pos.col)))
theorem hA.tab(h:hA B):∀t∈B.tabs,t<B.heap.objs.size:=λt n0=>by obtain⟨x,z,rfl⟩:=bK.mp n0;exact(h x z).2.1
theorem hA.ne(h:hA B){a:ao}(I:#[aK,a]):∀y∈B.fl,a≠y.c/\a≠y.P:=λy m=>⟨hu (ey (h y m).1 I),hu (ey (h y m).2.1 I)⟩
theorem GH.one(g:GH B h)(s:hA B){a:ao}(I:#[aK,a])(Y:¬bu h a)(u:#[ha])(k:#[e1,b≠a,#[de]]):GH B c0:=⟨aI g.1 u,λb o e n0=>k b o (cB (ey (bk e) I)) (g.2.1 b o e n0),g.2.2.1.keep [a] (λb o e Z=>#[i2,k]) #[bO,by rw[aZ.mp z];exact⟨.inl Y,s.ne I⟩],aI g.2.2.2 u⟩
theorem GH.grow(g:GH B h)(u:#[ha])(k:#[id,h.get?]):GH B c0:=⟨aI g.1 u,λb o e n0=>k b o (g.2.1 b o e n0),g.2.2.1.keep [] (#[dN,k]) #[aO],aI g.2.2.2 u⟩
structure Gm where
 sc:bt
 fz:Nat:=0
 mc:#[bA]:=[]
 own:List fJ:=[]
def gg(B:Bs)(J:aO)(h:bo)(a:ao):Prop:=∀o f0,#[cq]->#[dX]->(∃c,#[gu,c]/\#[aq,c]/\h.CodeRec (.ref c) f0.qualname/\f0.qualname.cps.size≠0)/\#[i6]
theorem gg.gD(f:gg B J h a)(I:#[ft])(k:#[jv]):gg B J c0 a:=λo f0 g d=>by obtain⟨⟨c,N,a0,⟨P,m0,Y,t,e,U,q,w⟩,n⟩,Q⟩:=f o _ (I o g) d;cases e;refine⟨⟨c,N,a0,⟨c,_,_,t,rfl,k c _ U #[aw,U,.inl ⟨_,_,t,q,w,n⟩] a0 (λ_ _ e=>#[Y]),q,w⟩,n⟩,Q⟩
def gJ(B:Bs)(h:bo)(a:ao):Prop:=∀o f0,#[cq]->#[dX]->∃c,#[gu,c]/\#[aq,c]/\h.CodeRec (.ref c) f0.qualname/\f0.qualname.cps.size≠0
theorem gJ.gD(f:gJ B h a)(I:#[ft])(k:#[jv]):gJ B c0 a:=λo f0 g d=>by obtain⟨c,N,a0,⟨P,m0,Y,t,e,U,q,w⟩,n⟩:=f o _ (I o g) d;cases e;exact⟨c,N,a0,⟨c,_,_,t,rfl,k c _ U #[aw,U,.inl ⟨_,_,t,q,w,n⟩] a0 (λ_ _ e=>#[Y]),q,w⟩,n⟩
structure hk(B:Bs)(h:bo)(a:ao)(P:ao->Prop)(T:bo->cp->Prop):Prop where
 fn:gJ B h a
 low:∀b,P b->#[aq,b]/\B.lo<=b
 at_:∀o,#[cq]->T h o
theorem hk.gD(x:hk B h a P T)(m:#[mT,∀b e0,g.get? b=aa e0->bu g b->P b->f.get? b=aa e0])(I:#[ft])(k:#[jv]):hk B c0 a P T:=⟨x.fn.gD I k,x.low,λo e=>m h _ o (λb e0 F d t=>k b _ F d (x.low b t).1 λ_ _ _=>(x.low b t).2) (x.at_ o (I o e))⟩
def iX(B:Bs)(h:bo)(a:ao):Ob->Prop|.rel _ _ _=>gJ B h a|.hp _ _ P T _ _=>hk B h a P T|_=>True
theorem iX.gD(f:iX B h a ob)(I:#[ft])(k:#[jv]):iX B c0 a ob:=by cases ob with|rel n R M=>exact gJ.gD f I k|hp n R P T M m=>exact hk.gD f m I k|_=>trivial
def dM(B:Bs)(J:aO)(h:bo)(a:ao):Ob->Prop|.raw _=>gg B J h a|.rel _ _ _=>gJ B h a|.hp _ _ P T _ _=>hk B h a P T|_=>True
theorem dM.gD(f:dM B env h a e0)(I:#[ft])(k:#[jv]):dM B env c0 a e0:=by cases e0 with|raw R=>exact gg.gD f I k|rel n R M=>exact gJ.gD f I k|hp n R P T M m=>exact hk.gD f m I k|list X=>trivial|tup X=>trivial
theorem gg.keep(f:gg B J h a)(I:#[ft])(k:#[lo]):gg B J c0 a:=#[lH]
theorem gJ.keep(f:gJ B h a)(I:#[ft])(k:∀b o,#[de]->bu h b->#[aq,b]->#[gE]):gJ B c0 a:=#[lH]
theorem hk.keep(x:hk B h a P T)(m:#[mT,∀b e0,g.get? b=aa e0->bu g b->P b->f.get? b=aa e0])(I:#[ft])(k:#[lo]):hk B c0 a P T:=x.gD m I λb o e X n0 _=>k b o e X n0
theorem iX.keep(f:iX B h a ob)(I:#[ft])(k:#[lo]):iX B c0 a ob:=#[lH]
theorem dM.keep(f:dM B env h a e0)(I:#[ft])(k:#[lo]):dM B env c0 a e0:=#[lH]
theorem dM.DV(f:dM B env h a e0):iX B h a e0:=by cases e0<;>first|trivial|exact f
theorem iX.ob{e0:Ob}(f:iX B h a e0)(r:∀R,e0=.raw R->gg B J h a):dM B J h a e0:=by cases e0<;>first|exact r _ rfl|trivial|exact f
theorem dM.of(f:∀R,e0=.raw R->gg B env h a)(g:∀n R M,e0=.rel n R M->gJ B h a)(p:#[jS,hk B h a P T]:=by exact#[h1]):dM B env h a e0:=by cases e0 with|raw R=>exact f R rfl|rel n R M=>exact g n R M rfl|hp n R P T M k=>exact p n R P T M k rfl|list X=>trivial|tup X=>trivial
theorem dM.env{J t:aO}(f:dM B J h a e0)(g:gg B J h a->gg B t h a):dM B t h a e0:=by cases e0 with|raw R=>exact g f|rel n R M=>exact f|hp n R P T M k=>exact f|list X=>trivial|tup X=>trivial
def Tr(J:aO)(S:#[t])(m:#[n])(h:bo)(l0:aq)(k:hX)(x:V):Prop:=(k=.local/\∃v,m l0=aa v/\#[bl,x])\/((k=.cell\/(k=.free/\(l0==#[kn])=ag))/\∃c v,J.cells.lookup l0=aa c/\h.IsCell c (aa v)/\#[bl,x])
structure aG(B:Bs)(O:Gm)(J:aO)(S:#[t])(U:#[o])(H:#[l])(h:bo):Prop where
 scope:J.scope=O.sc
 kind:#[e2,O.sc.kind]
 kb:∀x∈O.own,x∈B.fl/\J.code=.ref x.c/\J.qual++x.name=x.qual
 nd:(O.sc.names.map (·.1)).Nodup
 glob:J.globals=el
 fh:J.builtins=cU
 gh:GH B h
 slt:hA B
 ns:∃m,h.Ns J.locals m/\#[f2,U,∃l0 k,#[es,k]/\Tr J S m h l0 k x]
 lu:∀l0∈O.mc,(J.cells.lookup l0).isSome=ae
 len:S.length=H.length
 cY:O.fz<=S.length
 store:#[gG,#[c2],H,∃o,#[cq]/\OR S o e0]
 code:#[gG,#[c2],H,dM B J h a e0]
 nodup:S.Nodup
 high:∀a∈S,#[aK,a]
 dZ:J.locals∉S
 ic:#[aK,J.locals]
 cw:#[gC,p.2∉S/\p.2≠J.locals/\#[ji,p.2,∃v,h.IsCell p.2 v]]
 kr:J.cells.Pairwise λx y=>x.2≠y.2
theorem aG.lG{H:#[g]}(R:#[cx]):∀t∈B.tabs,t<B.heap.objs.size:=R.slt.tab
structure Cx(n:Nat)(A:aS):Prop where
 handled:#[g5]
 depth:A.depth+n<zS
 units:A.units+8*n+8<cLine
def kI(g f:#[da]):Prop:=(∀(i:Nat)(x:fw),#[G,g,x]->#[G,f,x])/\(rM g->rM f)
structure Fx(B:Bs)(X:#[t])(s L:au):Prop where
 os:L.os=s.os
 drawn:L.drawn=s.drawn
 gens:kI s.gens L.gens
 size:#[jj]
 keep:∀b o,#[eE]->b∉X->#[aq,b]->L.heap.get? b=aa o
theorem kI.refl(g:#[bI]):kI g g:=⟨λ_ _ h=>h,id⟩
theorem kI.trans(h:kI a b)(k:kI b c):kI a c:=⟨λi x e=>k.1 i x (h.1 i x e),λx=>k.2 (h.2 x)⟩
section
variable{B:Bs}
theorem Fx.refl(X:#[g])(s:au):Fx B X s s:=⟨rfl,rfl,.refl _,aP _,λ_ _ e _ _=>e⟩
theorem Fx.toks(f:Fx B X s L)(t:Nat):Fx B X s {L with toks:=t}:=#[nX]
theorem Fx.trans(f:Fx B X a b)(g:Fx B Y b c)(H:∀y∈Y,y∈X\/a.heap.objs.size<=y):Fx B X a c:=⟨g.os.trans f.os,g.drawn.trans f.drawn,f.gens.trans g.gens,aI f.size g.size,λb o e z n0=>g.keep b o (f.keep b o e z n0) (λm=>(H b m).elim z λq=>absurd (bk e) (bP.mpr q)) n0⟩
theorem Fx.widen(f:Fx B X s L)(h:∀x∈X,x∈Y\/#[R,x]):Fx B Y s L:=⟨f.os,f.drawn,f.gens,f.size,λb o e m n0=>f.keep b o e (λz=>(h b z).elim m λq=>absurd (bk e) (bP.mpr q)) n0⟩
theorem Fx.fY(u:#[ef])(k:#[e1,#[eE],b∉X]):Fx B X s #[cQ,c0,t]:=⟨rfl,rfl,.refl _,u,λb o e z _=>k b o e z⟩
def fj(O:Gm)(J:aO)(S:#[t]):#[t]:=J.locals::(((J.cells.filter λp=>O.mc.contains p.1).map (·.2))++S.drop O.fz)
theorem oY(h:a∈S.drop O.fz):a∈fj O J S:=dO _ (uo _ h)
structure aB(B:Bs)(O:Gm)(J:aO)(S:#[t])(U:#[o])(H:#[l])(s:au)(j:#[t])(L:au):Prop where
 pre:S<+:j
 new:#[nB,#[R,a]]
 rel:#[dk,j,H,L.heap]
 fx:Fx B (fj O J S) s L
theorem JS{S j:#[t]}{n:Nat}(h:#[nB,n<=a]):∀y∈fj O J j,y∈fj O J S\/n<=y:=λy m=>by
 obtain rfl|m:=bg.mp m;.exact .inl (.head _)
 .obtain m|m:=cZ.mp m;.exact .inl (dO _ (yL _ m))
  .exact(h y m).imp oY id
theorem aB.refl{H:#[g]}(R:#[ah]):#[aQ,H,S,s]:=#[gM,R,.refl _ _]
theorem aB.toks{H:#[g]}(P:#[aQ,H,j,L])(t:Nat):#[aQ,H,j,{L with toks:=t}]:=#[iC,P.rel,P.fx.toks t]
theorem aB.trans{H m0:#[g]}(P:#[aQ,H,j,L])(R:aB B O J j x0 m0 L b f):#[cd,x0,m0,b,f]:=⟨P.pre.trans R.pre,λa h=>#[mH,(R.new a h).elim],R.rel,P.fx.trans R.fx (JS P.new)⟩
theorem mv{l:#[g]}(h:(l.map (·.1)).Nodup):∀{i:Nat}{l0:aq}{k:hX},#[G,l,(l0,k)]->l.lookup l0=aa k:=by induction l with
|nil=>intro i l0 k e;simp at e
|cons p l Q=>intro i l0 k e;obtain⟨f,G0⟩:=p;cases i with
|zero=>simp at e;obtain⟨rfl,rfl⟩:=e;simp
|succ i=>
 simp at e;rw[dk,jB]at h;have n:(l0==f)=ag:=by rw[beq_eq_false_iff_ne];rintro rfl;exact h.1 (bK.mpr #[P,bz e])
 rw[gj,n];exact Q h.2 e
theorem aG.kindOf{H:#[g]}(R:#[cx]){i:Nat}(e:#[es,k]):J.kindOf l0=aa k:=by show J.scope.names.lookup _=aa k;rw[R.scope];exact mv R.nd e
theorem aG.gV{H:#[g]}(R:#[cx]):#[e2,J.scope.kind]:=R.scope▸R.kind
def Ev(B:Bs)(w:aD)(n:Nat)(O:Gm)(e:aT)(U:#[o])(H:#[l])(v:V)(m0:#[l]):Prop:=#[j1,#[ej]->VR j X v->Q X L,aW e J]
inductive bL where|next|brk|cont|ret(v:V)
def uA(S:#[t])(f:hW):bL->Prop|.next=>f=.next|.brk=>f=.brk|.cont=>f=.cont|.ret v=>∃u,f=.ret u/\VR S u v
def Ex(B:Bs)(w:aD)(n:Nat)(O:Gm)(c:aN)(U:#[o])(H:#[l])(h0:#[al]):Prop:=#[kV,hW,∀o x0 m0 f L j,h0 o x0 m0->#[cd,x0,m0,j,L]->uA j f o->Q f L,me c J]
def aj(B:Bs)(w:aD)(n:Nat)(O:Gm)(c:#[y])(U:#[o])(H:#[l])(h0:#[al]):Prop:=#[kV,hW,∀o x0 m0 f L j,h0 o x0 m0->#[cd,x0,m0,j,L]->uA j f o->Q f L,gp c J]
def Et(B:Bs)(w:aD)(n:Nat)(O:Gm)(e:aT)(U:#[o])(H:#[l])(b:Bool)(m0:#[l]):Prop:=#[m8,isTrue e J (aW e J)]
end
section
variable{B:Bs}{w:aD}{n:Nat}{O:Gm}{U:#[o]}{H b0 o0 w0:#[l]}{a b c:aT}{i0:ba}
theorem Ev.ny:#[il,#[cr],#[cr]]:=λA J S s Q E _ M q=>sg (#[fA,#[bu]])
theorem Ev.nz:#[il,#[ao,x],#[ao,x.cps.toList]]:=λA J S s Q E _ M q=>oC (#[fA,⟨x,_,rfl,rfl⟩])
theorem Ev.AL{b:Bool}:#[il,#[cO,b],#[cO,b]]:=λA J S s Q E _ M q=>SQ (#[a9,#[he],rfl])
theorem Ev.sE:#[il,.none,.none]:=λA J S s Q E _ M q=>wpAny_Constant_none (#[a9,#[he],rfl])
theorem Ev.name(i:Nat){v:V}(p:#[a6,U,aa,v])(z:#[et,k])(a:#[kb]):#[aP,.Name x i0,v,H]:=λA J S s Q E _ M q=>by
 obtain⟨m,l,f⟩:=M.ns;obtain⟨l0,G0,N,a0⟩:=f i v p;have R:=M.kindOf N;rw[z]at N;cases N;refine hy ?_ a;obtain⟨rfl,u,e,r⟩|⟨k,c,u,F,b,r⟩:=a0;.exact iu M.gV R l e (#[a9,#[he],r])
 .obtain rfl|⟨rfl,d⟩:=k;.exact GI M.gV R F b (#[a9,#[he],r])
  .exact Ab M.gV R F b (#[a9,#[he],r]) d
def aH(w:aD)(n:Nat)(t:ai->ai->dF ai)(x y r:V):Prop:=∀(A:aS)(S:#[t])(u v:ai)(s:au)(Q E:#[C]),#[bc]->VR S u x->#[bl,y]->(∀z p0,VR S z r->Q z #[fv])->#[as,t u v]
def fA(B:Bs)(w:aD)(n:Nat)(O:Gm)(t:ai->ai->dF ai)(x y:V)(U:#[o])(H:#[l])(r:V)(m0:#[l]):Prop:=∀(A:aS)(J:aO)(S:#[t])(u v:ai)(s:au)(Q E:#[C]),#[bc]->#[ah]->VR S u x->#[bl,y]->(∀z L j,#[ej]->VR j z r->Q z L)->#[as,t u v]
theorem aH.up(h:aH w n t x y r):fA B w n O t x y U H r H:=λA J S u v s Q E G M e p q=>h A _ u v s Q E G e p λz p0 b=>#[fA,b]
theorem Ev.nx(c:#[aF,x])(Z:#[bx,b,y])(h:fA B w n O (bM I) x y U o0 r w0):#[aP,.BinOp a I b i0,r,w0]:=#[dc,wpAny_BinOp,#[mo,Q,#[a9,#[gm,t,e],d]]]
theorem Ev.hD(c:#[aF,x])(Z:#[bx,b,y])(h:fA B w n O (dp I) x y U o0 r w0)(l:behindInMarks I b=ag):#[aP,.Compare a [I] [b] i0,r,w0]:=λA J S s Q E G M q=>wpAny_Compare1 (#[mo,Q,#[a9,#[gm,t,e],d]]) l
theorem Et.hD(c:#[aF,x])(Z:#[bx,b,y])(h:fA B w n O (dp I) x y U o0 (.bool r) w0)(l:behindInMarks I b=ag):Et B w n O (.Compare a [I] [b] i0) U H r w0:=λA J S s Q E G M q=>GG (#[mo,_,by cases d;exact sk (q _ _ #[gm,t,e])]) l
theorem Ev.ite(h:#[bZ,Et,c,t])(k:#[bx,#[aa,t,a,b],r]):#[aP,.IfExp c a b i0,r,o0]:=#[dc,wpAny_IfExp,#[a8,h,λk0 F C=>by
 cases t;.exact#[iR,λv m R d i=>q v _ _ #[dg,d] i]
 .exact#[iR,λv m R d i=>q v _ _ #[dg,d] i]]]
end
theorem YF{S:Type}{l:#[br]}(h:l.Nodup)(P:i<l.length)(f:j<l.length)(e:l[i]=l[j]):i=j:=by
 have c0:=yN.mp h;obtain q|q|q:=EZ i j;.exact#[ac,e,c0 i j _ _ q]
 .exact q
 .exact#[ac,e.symm,c0 j i _ _ q]
theorem iy{S:Type}{l:#[g]}(h:l.Nodup){i j:Nat}{a:S}(P:#[G,l,a])(f:#[av,l,a]):i=j:=by obtain⟨N,F⟩:=bw.mp P;obtain⟨a0,d⟩:=bw.mp f;exact YF h _ _ (F.trans d.symm)
theorem jX(b:h.Ns a m):¬bu h a:=by obtain⟨A,j,s,G,J,_⟩:=b;exact bu.no G (λY q t d=>#[Y]) λY n d=>by grind
theorem Mi(b:h.IsCell a v):¬bu h a:=by obtain⟨A,G,J⟩:=b;exact bu.no G (λY q t d=>#[Y]) λY n d=>by grind
theorem Mj(e:#[bv,a,⟨c,d,.seq X n,s⟩])(b:c≠#[h6]:=by exact#[fL]):¬bu h a:=bu.no e (λY q t d=>by cases d) λ_ _ _=>b
theorem nC{S:Type}{l m:#[br]}(h:k<=l.length):(l++m).drop k=l.drop k++m:=by rw[oe h]
section
variable{B:Bs}{w:aD}{n:Nat}{O:Gm}{J:aO}{S:#[t]}{U:#[o]}{H:#[l]}
theorem aG.gD(R:#[cx])(u:#[ha])(X:#[g])(k:∀b o,#[de]->b∉X->#[aq,b]->#[gE])(G:∀x∈X,#[aK,x]/\x≠J.locals/\x∉S/\(#[dJ,x])/\lS B h x)(n:GH B c0):#[dk,S,H,c0]:=by
 have Y:#[it]:=λb Z n0=>#[bC,R.lG b n0,Z];have t:#[gC,∀v,h.IsCell _ v->c0.IsCell _ v]:=#[kt,k _ _ N (λz=>(G _ z).2.2.2.1 p C rfl) (Y _ (R.cw p C).2.2.1)];refine{R with gh:=n,ns:=?_,store:=?_,code:=?_,cw:=?_}
 .obtain⟨m,l,f⟩:=R.ns;refine⟨m,l.at' λo e=>k _ o e (λz=>(G _ z).2.1 rfl) (Y _ R.ic),#[c1]⟩;obtain⟨l0,s,N,a0⟩:=f i x e;refine#[Q,_,N,?_];obtain q|⟨q,c,v,F,j,r⟩:=a0;.exact .inl q
  .exact#[mc,t,j,r]
 .intro i a e0 I Z;obtain⟨o,N,a0⟩:=#[gl];exact#[aY,k _ _ N (λz=>(G _ z).2.2.1 (bz I)) (Y _ (R.high a (bz I))),a0]
 .intro i a y I Z;obtain⟨o,N,_⟩:=#[gl];have a0:=k _ _ N (λz=>(G _ z).2.2.1 (bz I)) (Y _ (R.high a (bz I)));exact(R.code i a _ I Z).gD (λA e=>#[Y]) λb A e d n0 g=>k b _ e (λz=>(G b z).2.2.2.2.ne e d g rfl) n0
 .intro p C;obtain⟨N,a0,T,v,E⟩:=R.cw p C;exact⟨N,a0,T,v,t p C v E⟩
theorem aG.keep(R:#[cx])(u:#[ha])(X:#[g])(k:∀b o,#[de]->b∉X->#[aq,b]->#[gE])(G:∀x∈X,#[aK,x]/\x≠J.locals/\x∉S/\(#[dJ,x])/\¬bu h x)(a:GH B c0):#[dk,S,H,c0]:=R.gD u X k (λx z=>⟨(G x z).1,(G x z).2.1,(G x z).2.2.1,(G x z).2.2.2.1,.inl (G x z).2.2.2.2⟩) a
theorem aG.pa{h c0:bo}{l:#[t]}(R:#[dk,S,H,c0])(u:#[ha])(M:J.locals<h.objs.size)(n:#[gC,p.2<h.objs.size])(G:∀a∈S,a<h.objs.size)(y:∀a∈l,h.objs.size<=a)(g:l.Nodup)(Y:l.length=j.length)(s:#[aK,h.objs.size])(A:#[gG,#[G,l,a],j,∃o,#[dz,a]/\OR (S++l) o e0])(z:#[gG,#[G,l,a],j,dM B J c0 a e0]):#[dk,S++l,H++j,c0]:=by
 refine#[mE,by simp[R.len,Y],by rw[aY];exact aI R.cY (ip _ _),?_,?_,?_]
 .obtain⟨m,f,d⟩:=R.ns;refine⟨m,f,#[c1]⟩;obtain⟨l0,w,N,a0⟩:=d i x e;refine#[bP,l0,w,N];obtain⟨q,v,F,r⟩|⟨q,c,v,F,k,r⟩:=a0;.exact#[dM,q,v,F,r.pre (ff _ _)]
  .exact .inr ⟨q,c,v,F,k,r.pre (ff _ _)⟩
 .intro i a e0 I Z;by_cases P:i<S.length;.rw[cL P]at I;rw[cL (R.len▸P)]at Z;obtain⟨o,N,a0⟩:=R.store i a e0 I Z;exact#[aY,N,a0.pre (ff _ _)]
  .rw[ew (bP.mp P)]at I;rw[ew (R.len▸bP.mp P),<-R.len]at Z;exact A _ a e0 I Z
 .intro i a t I Z;by_cases P:i<S.length;.rw[cL P]at I;rw[cL (R.len▸P)]at Z;exact R.code i a t I Z
  .rw[ew (bP.mp P)]at I;rw[ew (R.len▸bP.mp P),<-R.len]at Z;exact z _ a t I Z
 .rw[uq];exact⟨R.nodup,g,λa I b Z e=>by subst e;exact#[bC,G a I,y a Z]⟩
 .intro a I;rcases cZ.mp I with N|N;.exact R.high a N
  .exact aI s (y a N)
 .intro I;rcases cZ.mp I with N|N;.exact R.dZ N
  .exact#[bC,M,y _ N]
 .intro p C;obtain⟨N,a0,T,E⟩:=R.cw p C;refine⟨λI=>?_,a0,T,E⟩;grind
theorem aG.ju(R:#[cx]):J.locals<h.objs.size:=by obtain⟨m,⟨o,_,_,e,_⟩,_⟩:=R.ns;exact bk e
theorem aG.jt(R:#[cx]):#[gC,p.2<h.objs.size]:=λp C=>by obtain⟨_,_,_,v,o,e,_⟩:=R.cw p C;exact bk e
theorem aG.fX(R:#[cx]):∀a∈S,a<h.objs.size:=λa I=>by obtain⟨i,P,e⟩:=EL.mp I;have Z:=R.len▸P;obtain⟨o,N,_⟩:=R.store i a H[i] (by rw[bD P,e]) (bD _);exact bk N
theorem aB.alloc{s:au}{t:Nat}{a:ao}(R:#[ah])(u:#[ef])(k:#[fb])(I:#[R,a])(g:∃o,#[dz,a]/\OR (S++[a]) o e0)(X:∀R,e0=.raw R->gg B J c0 a)(w:∀n R M,e0=.rel n R M->gJ B c0 a:=by exact#[eh])(d:#[jS,hk B c0 a P T]:=by exact#[h1]):#[aQ,H++[e0],S++[a],#[cQ,c0,t]]:=by
 refine#[j3,.fY u #[dN,k]]
 .rw[nC R.cY]at Z;rcases cZ.mp Z with q|q;.exact .inl q
  .rw[aZ.mp q];exact .inr I
 .refine aG.pa (R.keep u [] (λb o e _ _=>k b o e) #[aO] (R.gh.grow u k)) u R.ju R.jt R.fX (λb Z=>by rw[aZ.mp Z];exact I) #[z] rfl R.gh.1 (λi b v c Z=>?_) λi b y c Z=>?_;.cases i with|zero=>simp at c Z;subst c;subst Z;exact g|succ i=>simp at c
  .cases i with|zero=>simp at c Z;subst c Z;exact dM.of X w d|succ i=>simp at c
theorem aB.push{s:au}{t:Nat}(R:#[ah])(v:o.isFreed=ag)(g:OR (S++[s.heap.objs.size]) o e0)(X:∀R,e0=.raw R->gg B J (s.heap.push o) s.heap.objs.size:=by exact#[ck])(w:∀n R M,e0=.rel n R M->gJ B (s.heap.push o) s.heap.objs.size:=by exact#[eh])(d:#[jS,hk B (s.heap.push o) s.heap.objs.size P T]:=by exact#[h1]):#[aQ,H++[e0],S++[s.heap.objs.size],#[cQ,s.heap.push o,t]]:=aB.alloc R (#[z]) (#[e0]) #[aJ] #[aY,ct _ v,g] X w d
theorem aB.heap(R:#[ah])(u:#[ef])(k:#[fb]):#[aQ,H,S,#[cQ,c0,t]]:=#[gM,R.keep u [] (λb o e _ _=>k b o e) (#[ck]) (R.gh.grow u k),.fY u #[dN,k]]
theorem qJ{S:Type}{l:#[g]}{a:S}(h:#[G,l,a])(R:k<=i):a∈l.drop k:=by have:(l.drop k)[i-k]?=aa a:=#[Y];exact bz this
theorem aB.Cy{s:au}{t:Nat}(R:#[ah])(d:#[c2])(I:O.fz<=i)(w:pZ a s.heap c0)(Y:¬bu s.heap a)(g:∃o,#[dz,a]/\OR S o e0)(E:#[hr]:=by exact#[ck])(m0:∀n R M,e0=.rel n R M->gJ B c0 a:=by exact#[eh])(k0:#[jS,hk B c0 a P T]:=by exact#[h1]):#[aQ,H.set i e0,S,#[cQ,c0,t]]:=by
 have L:#[dJ,a]:=λp C e=>(R.cw p C).1 (e▸bz d);have g0:J.locals≠a:=λe=>R.dZ (e▸bz d);refine#[gM,{R with gh:=?_,ns:=?_,len:=by simp[R.len],store:=?_,code:=?_,cw:=?_},.fY (eK w.1.symm) λb o e z=>?_];.exact R.gh.one R.slt (R.high a (bz d)) Y #[gg,w] #[f9,w]
 .obtain⟨m,u,l⟩:=R.ns;refine⟨m,u.sameBut w g0,λj x e=>?_⟩;obtain⟨l0,h0,N,a0⟩:=l j x e;refine#[bP,l0,h0,N];rcases a0 with q|⟨q,c,v,F,y,r⟩;.exact .inl q
  .exact .inr ⟨q,c,v,F,y.sameBut w (L _ (mem_of_lookup F)),r⟩
 .intro j b i0 Z d0;by_cases A:j=i
  .subst A;rw[d]at Z;cases Z;have Q:j<H.length:=by rw[<-R.len];exact#[V,d]
   rw[pK Q]at d0;cases d0;exact g
  .rw[oj (kO A)]at d0;obtain⟨o,N,a0⟩:=R.store j b i0 Z d0;exact#[km,(w.2 b #[ht,A,Z,d])]
 .intro j b f0 Z d0;by_cases A:j=i
  .subst A;rw[d]at Z;cases Z;have Q:j<H.length:=by rw[<-R.len];exact#[V,d]
   rw[pK Q]at d0;cases d0;exact dM.of (λR e=>absurd e (E R)) m0 k0
  .rw[oj (kO A)]at d0;have L:b≠a:=#[ht,A,Z,d];exact(R.code j b f0 Z d0).keep (λo e=>(w.2 b L).symm.trans e) λj0 o e X _=>(w.2 j0 λb0=>Y (b0▸X)).trans e
 .intro p C;obtain⟨N,a0,f,v,G⟩:=R.cw p C;exact⟨N,a0,f,v,G.sameBut w (L p C)⟩
 .exact(w.2 b λb0=>z (oY (b0▸qJ d I))).trans e
theorem aG.Ny{A:aS}{E:#[C]}{s:au}{i:Nat}{l0:aq}{k:hX}{v:ai}{x:V}{Q:#[aI,Unit]}(M:#[ah])(P:#[es,k])(R:#[dW,k,k,l0])(Y:#[ez])(p:#[bl,x])(q:∀L,#[cd,#[ff,x],H,S,L]->#[jm,L.heap.objs.size]->Q () L):#[as,Gx J l0 v]:=by
 obtain⟨m,l,f0⟩:=M.ns;have i0:=M.kindOf P;have s0:∀(j:Nat)(n0:aq)(o0:hX),#[av,O.sc.names,(n0,o0)]->j≠i->n0≠l0:=λj n0 o0 f t e=>by subst e;exact t (iy M.nd (a:=n0) (by rw[cg,f];rfl) (by rw[cg,P];rfl))
 rcases R with rfl|⟨rfl,X⟩
 .refine Tn i0 l (λc0 q0 d0=>q _ #[mN,#[aw,q0,λj y f=>?_],λj a b0 I Z=>#[nr,b0,#[l6,M.dZ],d0,jX l (G▸X)]] d0.1) (by rw[M.gV];rfl);.exact M.gh.one M.slt M.ic (jX l) #[gg,d0] #[f9,d0]
  .by_cases p0:j=i;.subst p0;rw[pK Y]at f;cases f;exact⟨l0,_,P,#[dM,rfl,v,by simp,p]⟩
   .rw[oj (kO p0)]at f;obtain⟨n0,o0,N,a0⟩:=f0 j y f;refine#[bP,n0,o0,N];rcases a0 with⟨k,u,e,r⟩|⟨k,c,u,F,d,r⟩;.exact#[dM,k,u,by(simp);rw[#[bJ,s0 j n0 o0 N p0]];exact e,r]
    .exact .inr ⟨k,c,u,F,d.sameBut d0 (M.cw _ (mem_of_lookup F)).2.1,r⟩
  .obtain⟨o,N,a0⟩:=M.store j a e0 I Z;exact#[km,#[l6,M.dZ]]
  .obtain⟨N,a0,T,u,n⟩:=M.cw r g;exact⟨N,a0,T,u,n.sameBut d0 a0⟩
  .exact .fY (eK d0.1.symm) λb o e z=>(d0.2 b λh=>z (h▸.head _)).trans e
 .have r0:=X;obtain⟨c,X⟩:=zh.mp (M.lu l0 X);have k0:=mem_of_lookup X;obtain⟨h0,g0,j0,t0,m0⟩:=M.cw _ k0;refine wpAny_storeName_cell M.gV i0 X m0 (λc0 q0 d0=>q _ #[mN,⟨m,l.sameBut d0 (kO g0),λj y f=>?_⟩,λj a b0 I Z=>#[nr,b0,#[l6,h0],d0,Mi m0 (G▸X)]] d0.1);.exact M.gh.one M.slt j0 (Mi m0) #[gg,d0] #[f9,d0]
  .by_cases p0:j=i;.subst p0;rw[pK Y]at f;cases f;exact⟨l0,_,P,.inr ⟨#[dq],c,v,X,q0,p⟩⟩
   .rw[oj (kO p0)]at f;obtain⟨n0,o0,N,a0⟩:=f0 j y f;refine#[bP,n0,o0,N];rcases a0 with⟨k,u,e,r⟩|⟨k,C,u,F,d,r⟩;.exact#[dM,k,u,e,r]
    .exact .inr ⟨k,C,u,F,d.sameBut d0 (λe=>s0 j n0 o0 N p0 (Gs M.kr (mem_of_lookup F) (e▸k0))),r⟩
  .obtain⟨o,N,a0⟩:=M.store j a e0 I Z;exact#[km,#[l6,h0]]
  .obtain⟨N,a0,T,u,n⟩:=M.cw r g;by_cases e:r.2=c;.exact⟨N,a0,T,aa v,by rw[e];exact q0⟩
   .exact⟨N,a0,T,u,n.sameBut d0 e⟩
  .refine Fx.fY (t:=s.toks) #[gg,d0] λb o e z=>(d0.2 b λh=>z ?_).trans e;rw[h];refine dO _ (yL _ (bK.mpr #[aA,(l0,c),jA.mpr #[a3,k0]]));simpa using r0
theorem aG.hg(M:#[ah])(a:#[es,k])(R:#[dW,k,k,l0])(Y:#[ez])(p:#[bl,x])(q:∀L,#[cd,#[ff,x],H,S,L]->Q () L):#[as,Gx J l0 v]:=M.Ny a R Y p λL P _=>q _ P
def bA(j:Nat):V->Prop|.ob i=>i<j|_=>True
def fu(j:Nat):Ob->Prop|.list X=>#[ca,X,j]|.tup X=>#[ca,X,j]|.raw _=>True|.rel n _ _=>n<=j|.hp n _ _ _ _ _=>n<=j
theorem VR.take(h:#[bl,x])(b:bA j x):VR (S.take j) v x:=by cases x with|ob i=>obtain⟨a,e,rfl⟩:=h;exact#[aA,a,by rw[eD b];exact e]|none=>exact h|bool _=>exact h|int _=>exact h|str _=>exact h
theorem aM.rn(h:#[a1,Y,X])(b:#[ca,X,j]):aM (VR (S.take j)) Y X:=by induction h with|nil=>exact .nil|cons a _ Q=>exact .cons (a.take (b _ fU)) (Q λy m=>b y (dO _ m))
theorem OR.take(h:OR S o e0)(b:fu j e0):OR (S.take j) o e0:=by cases e0 with|list X=>obtain⟨Y,n,e,a⟩:=h;exact#[Q,n,e,a.rn b]|tup X=>obtain⟨Y,n,e,a⟩:=h;exact#[Q,n,e,a.rn b]|raw R=>exact h|rel n R k=>exact⟨by rw[bI];exact EV.mpr ⟨b,h.1⟩,k _ _ o (λi c=>eD (ey c b)) h.2⟩|hp n R P T k _=>exact⟨by rw[bI];exact EV.mpr ⟨b,h.1⟩,k _ _ o (λi c=>eD (ey c b)) h.2⟩
theorem aG.take(R:#[cx])(g:O.fz<=j)(d:#[f2,U,bA j x])(u:∀(i:Nat)(e0:Ob),i<j->#[cC,H]->fu j e0):#[dk,S.take j,H.take j,h]:=by
 have P:∀a∈S.take j,a∈S:=λa I=>eJ I;refine#[mE,by simp[R.len],?_,(lO _ _).nodup R.nodup,λa I=>R.high a (P a I),λI=>R.dZ (P _ I)]
 .obtain⟨m,l,k⟩:=R.ns;refine⟨m,l,#[c1]⟩;obtain⟨l0,s,N,a0⟩:=k i x e;refine#[Q,_,N,?_];obtain⟨q,v,F,r⟩|⟨q,c,v,F,f,r⟩:=a0;.exact#[dM,q,v,F,r.take (d i x e)]
  .exact .inr ⟨q,c,v,F,f,r.take (d i x e)⟩
 .rw[bI];exact EV.mpr ⟨g,R.cY⟩
 .intro i a e0 I Z;have b:i<j:=by have:=#[V,I];rw[bI]at this;omega
  rw[eD b]at I Z;obtain⟨o,N,a0⟩:=#[gl];exact#[aY,N,a0.take (u i _ b Z)]
 .intro i a y I Z;have b:i<j:=by have:=#[V,I];rw[bI]at this;omega
  rw[eD b]at I Z;exact R.code i a _ I Z
 .intro p C;obtain⟨N,a0,T,E⟩:=R.cw p C;exact⟨λI=>N (P _ I),a0,T,E⟩
theorem aG.forget(R:#[cx])(k:#[f2,x0,#[fU,U]]):aG B O J S x0 H h:={R with ns:=let⟨m,l,p⟩:=R.ns;⟨m,l,λi x e=>p i x (k i x e)⟩}
end
section
variable{B:Bs}{w:aD}{n:Nat}{O:Gm}{U d e:#[o]}{H b0 o0 w0:#[l]}{a b c:aT}{x y:aN}{l:#[y]}{i0:ba}{h0:#[al]}
theorem aj.nil(h:h0 .next U H):#[hf,[]]:=λA J S s Q E _ M q=>SW (q _ _ _ _ _ _ h #[ek] rfl)
theorem aj.seq(h:Ex B w n O x U H R)(k:∀v s,R .next v s->#[d0,v,s])(G0:∀o v s,o≠.next->R o v s->h0 o v s):#[dA,x]:=#[dc,mj,#[a8,h,( λo X c f k0 F b C T=>by cases o with|next=>cases T;exact k _ _ b A _ _ _ Q E G C.rel λm0 C0 d f m a j t i=>q _ _ _ f _ _ j #[dg,t] i|brk=>cases T;exact q _ _ _ _ _ _ (G0 _ _ _ #[z] b) C rfl|cont=>cases T;exact q _ _ _ _ _ _ (G0 _ _ _ #[z] b) C rfl|ret v=>obtain⟨u,rfl,r⟩:=T;exact q _ _ _ _ _ _ (G0 _ _ _ #[z] b) C #[dy,u,r])]]
theorem aj.set(i:Nat)(h:#[aF,v])(P:#[es,k])(R:#[dW,k,k,l0])(Y:#[ez])(u:#[fS,#[hu,.Name l0 L]])(c:#[d0,#[ff,v],b0]):#[eJ,[.Name l0 L]]:=#[hK,λo X b=>#[eI,X=U.set i _,b=b0],zW (#[a8,h,λu0 k0 F C T=>aG.hg C.rel P R Y T λm t=>#[gQ,#[dg,t]]]) (u _ M.scope),λX b h=>#[Y],λo X b g h=>#[ac,h.1,g]]
theorem aj.su(i:Nat)(p:#[a6,U,aa,u])(h:#[aF,v])(m0:fA B w n O (ek I) u v U b0 r o0)(P:#[es,k])(R:#[dW,k,k,l0])(Y:#[ez])(t:#[d0,#[ff,r],o0]):#[lg,.Name l0 L]:=#[hK,λo X b=>#[eI,X=U.set i _,b=o0],by
 obtain⟨m,f,f0⟩:=M.ns;obtain⟨r0,G0,N,a0⟩:=f0 i u p;rw[P]at N;cases N;have q0:∀n0,VR _ n0 u->ax _ A _ (λv j0=>ax _ A _ (λr p0=>ax (aE _ w) A _ (λ_=>Q _) E _) E _) E s:=λn0 g=>#[a8,h,λu0 k0 z C T=>m0 A _ _ _ _ _ _ E G C.rel (g.pre C.pre) T λd0 y e0 x t=>aG.hg x.rel P R Y t λc0 Z=>#[gQ,#[gm,x,Z]]];refine wpAny_AugAssign_Name ?_;have g0:=M.kindOf P;obtain⟨rfl,n0,e,r⟩|⟨k,c,n0,F,j,r⟩:=a0;.exact iu M.gV g0 f e (q0 _ r)
 .obtain rfl|⟨rfl,d⟩:=k;.exact GI M.gV g0 F j (q0 _ r)
  .exact Ab M.gV g0 F j (q0 _ r) d,λX b h=>#[Y],λo X b g h=>#[ac,h.1,g]]
theorem aj.ret(h:#[aF,v])(j:h0 (.ret v) U b0):#[dA,.Return (aa a) i0]:=#[ic,λo X L=>o=.ret v/\X=U/\L=b0,#[dc,zY,#[a8,h,λu0 k0 F C T=>q _ _ _ _ _ _ #[cc] C #[cg,T]]],(λX L h=>nomatch h.1),λo X L g h=>#[Y]]
theorem aj.brk(j:h0 .brk U H):#[dA,.Break i0]:=#[mv,o=.brk/\X=U/\L=H,wpAny_Break,rfl]
theorem aj.cont(j:h0 .cont U H):#[dA,.Continue i0]:=#[mv,o=.cont/\X=U/\L=H,wpAny_Continue,rfl]
theorem aG.inter(R:#[cx]):interactive J=ag:=by unfold interactive;rw[R.gV];rfl
theorem aj.expr(h:#[aF,v])(u:#[fS,jN a ab i0.line J=aw ag])(b:#[cE,l,U,b0,h0]):#[dA,.Expr a i0]:=#[nZ,L=b0,λA J S s Q E G M q=>wpAny_Expr_any (#[a8,h,λu0 k0 F C T=>#[gQ,C]]) M.inter (u _ M.scope)]
def hZ(B:Bs)(w:aD)(n:Nat)(O:Gm)(l:#[y])(h0:#[al]):#[al]:=λo v s=>match o with|.next=>#[d0,v,s]|o=>h0 o v s
theorem aj.ite{t:Bool}(h:#[bZ,Et,a,t])(k:#[cE,#[aa,t,j,p],U,b0,hZ B w n O l h0]):#[dA,.If a j p i0]:=#[ic,hZ B w n _ l h0,#[dc,wpAny_If,#[a8,h,λk0 F C=>by
 cases t;.exact#[iR,λo X r f m R b c i=>q o _ _ f _ _ b #[dg,c] i]
 .exact#[iR,λo X r f m R b c i=>q o _ _ f _ _ b #[dg,c] i]]],λv s h=>h,(λo v s g h=>by cases o with|next=>exact#[dp,g]|brk=>exact h|cont=>exact h|ret v=>exact h)]
theorem aj.mono(h:#[hf,l])(k:∀o v s,h0 o v s->m o v s):#[cE,l,U,H,m]:=#[ku,λo X r f L j R=>q o _ _ f _ _ (k _ _ _ R)]
end
structure aL(B:Bs)(d0 g0:#[n]):Prop where
 g:B.heap.Ns el d0
 b:B.heap.Ns cU g0
 nolimit:B.heap.NoLimit
 gT:#[aq,el]
 bT:#[aq,cU]
 cT:#[aq,iq]
 slt:hA B
 bm:∃v0 o,#[dt,"__builtins__",v0]/\v0≠cU/\#[aq,v0]/\#[gq,v0]/\o.cls=.type "module"/\o.dict=aa cU/\o.data=.plain
section
variable{B:Bs}{w:aD}{n:Nat}{O:Gm}{d0 g0:#[n]}{U:#[o]}{H b0 o0 w0:#[l]}{a b c:aT}{i0:ba}{J:aO}{S:#[t]}
theorem aL.gs(F:#[w])(g:GH B h):#[gd]:=F.g.at' λo e=>g.2.1 _ o e F.gT
theorem aL.bs(F:#[w])(g:GH B h):#[ge]:=F.b.at' λo e=>g.2.1 _ o e F.bT
theorem aL.nl(F:#[w])(g:GH B h):h.NoLimit:=F.nolimit.at λo e=>g.2.1 _ o e F.cT
def cN(B:Bs)(w:aD)(n:Nat)(O:Gm)(e:aT)(u:ai):Prop:=∀(A:aS)(J:aO)(S:#[t])(U:#[o])(H:#[l])(s:au)(Q E:#[C]),#[bc]->#[ah]->Q u s->#[as,aW e J]
theorem cN.glob(F:#[w])(i:Nat)(z:#[et,.globalImplicit])(p:d0 x=aa u)(c:#[kb]):cN B w n O (.Name x i0) u:=λA J S U H s Q E G M q=>Rr M.gV (M.kindOf z) (Fy (M.glob▸F.gs M.gh) p q) c
theorem cN.fh(F:#[w])(i:Nat)(z:#[et,.globalImplicit])(l:d0 x=ab)(p:g0 x=aa u)(c:#[kb]):cN B w n O (.Name x i0) u:=λA J S U H s Q E G M q=>Rr M.gV (M.kindOf z) (zo (M.glob▸F.gs M.gh) l (M.fh▸F.bs M.gh) p q) c
theorem Ev.BF(h:cN B w n O a (.int i t)):#[aP,a,#[cr],H]:=λA J S s Q E G M q=>h A _ _ _ _ s Q E G M (q _ s _ #[ek] #[bE,t])
def cy(B:Bs)(w:aD)(n:Nat)(O:Gm)(a:List aT)(U:#[o])(H:#[l])(Y:#[B])(m0:#[l]):Prop:=#[kV,#[L],∀Z L j,#[ej]->aM (VR j) Z Y->Q Z L,spliced (a.map #[jR])]
theorem cy.nil:cy B w n O [] U H [] H:=#[dc,lW,q _ s _ #[ek] .nil]
theorem cy.cons(h:#[aF,v])(k:#[j7]):cy B w n O (a::j) U H (v::Y) o0:=#[dc,iJ,#[a8,h,λu0 k0 F C T=>#[h5,k,λZ m R t i=>#[fN,t,.cons (T.pre t.pre) i]]]]
def Kw:aT->Bool|.Starred _ _=>ae|_=>ag
def cD(j:List aT):Bool:=j.all λe=>!Kw e
theorem aco(h:Kw e=ag)(l:#[g]):jM (e::l) J=(ag,aW e J)::jM l J:=by cases e<;>first|rfl|cases h
theorem dt(i0:ba)(J:aO):∀{j:#[g]},#[c8]->kk i0 (jM j J)=j.map #[jR]|[],_=>rfl|e::l,h=>by simp only[cD,List.all_cons,fF,yl]at h;have Q:=dt i0 J h.2;rw[aco h.1];unfold kk at Q⊢;rw[dk,Q];rfl
theorem Hm{S:Type}(l:#[br]):l.toArray.toList=l:=rfl
theorem Ev.kA(h:#[fs])(u:#[c8])(y:Y.length<=aC):#[aP,.List j i0,.ob b0.length,b0++[#[bQ,Y]]]:=λA J S s Q E G M q=>by refine wpAny_List_spliced ?_;rw[#[dG]];exact#[a8,h,λZ k0 F C T=>⟨by rw[T.length];exact y,#[fN,aB.push C.rel rfl #[Q,0,rfl,T.mono #[hZ]],#[ok]]⟩]
theorem Ev.tup(h:#[fs])(u:#[c8])(y:Y.length<=aC):#[aP,.Tuple j L0 i0,.ob b0.length,b0++[Ob.tup Y]]:=λA J S s Q E G M q=>by refine zZ ?_;rw[#[dG]];exact#[a8,h,λZ k0 F C T=>⟨by rw[T.length];exact y,#[fN,aB.push C.rel rfl #[Q,0,rfl,T.mono #[hZ]],#[ok]]⟩]
theorem aG.list{s:au}(R:#[ah])(p:#[bl,#[ci]])(P:#[b1]):∃a Y k,v=.ref a/\#[c2]/\#[ch,a,#[l7]]/\#[gc]:=by obtain⟨a,e,rfl⟩:=p;obtain⟨o,N,Y,k,rfl,a0⟩:=R.store i a _ e P;exact⟨a,_,k,rfl,e,N,a0⟩
theorem aG.tup{s:au}(R:#[ah])(p:#[bl,#[ci]])(P:#[f8]):∃a Y k,v=.ref a/\#[c2]/\#[ch,a,⟨#[h6],ab,.seq Y k,#[]⟩]/\#[gc]:=by obtain⟨a,e,rfl⟩:=p;obtain⟨o,N,Y,k,rfl,a0⟩:=R.store i a _ e P;exact⟨a,_,k,rfl,e,N,a0⟩
theorem aM.size{Y:#[bI]}(h:#[gc]):Y.size=X.length:=by rw[<-h.length,gI]
theorem aM.at{Y:#[bI]}(h:#[gc]){j:Nat}(e:#[av,X,x]):∃u,#[av,Y,u]/\VR S u x:=by obtain⟨u,N,a0⟩:=h.get e;exact⟨u,by rw[<-ke];exact N,a0⟩
def br{S:Type}(X:#[br])(i:Int):#[a2,S]:=(la i X.length).bind (X[·]?)
theorem ih(h:i<n):la i n=aa i:=by
 unfold la;have H:¬(i:Int)<0:=by omega
 simp[H,if_false];simp_all
theorem aat(H:i<0)(h:-(n:Int)<=i):la i n=aa (i+n).toNat:=by unfold la;simp only[H,if_true];rw[if_pos (by simp;omega)]
theorem Ho{i:Nat}{x:d}(h:#[G,X,x]):br X i=aa x:=by unfold br;rw[ih #[V,h]];exact h
theorem Uj{i:Nat}{x:d}(P:i<X.length)(h:X[X.length-1-i]?=aa x):br X (-i-1)=aa x:=by
 unfold br;rw[aat #[f] #[f]];have:(-(i:Int)-1+X.length).toNat=X.length-1-i:=by omega
 rw[this];exact h
theorem Ao{x:d}(h:br X i=aa x):∃j,la i X.length=aa j/\#[av,X,x]/\-X.length<=i/\i<X.length/\j=if i<0 then i+X.length else i:=by unfold br at h;cases f:la i _ with
|none=>simp_all
|some j=>
 rw[f]at h;refine#[bP,j,rfl,h];unfold la at f;by_cases H:i<0
 .simp only[H,if_true]at f⊢;by_cases a:(#[aB,0<=i+X.length]&&#[aB,i+X.length<X.length])=ae;.rw[if_pos a]at f;simp at a;cases f;omega
  simp_all
 .simp only[H,if_false]at f⊢;by_cases a:(#[aB,0<=i]&&#[aB,i<X.length])=ae;.rw[if_pos a]at f;simp at a;cases f;omega
  .rw[if_neg a]at f;cases f
theorem lH(h:#[el,aW v J,λo j=>#[el,aW d J,λi k=>SubscriptOn #[aE] A o i Q E k,j],s]):#[as,aW (.Subscript v d i0) J]:=by
 refine af (dq h (λo j C=>#[b9,dq C (λi k t=>#[a0,dR]) λ_ _ x=>x]) λ_ _ x=>x);obtain⟨T,e,y,p,U⟩:=t;refine af ?_;refine#[bF,jh,p,y];have a:∀Y,ax _ A (operate Y _) (λr Z=>#[dT,sd v o r>>=λ_=>aw r,_]) E _:=λY=>Tg (dq U (λr Z n=>af (Tb (aA n))) λ_ _ x=>x);refine aA (af ?_);unfold subscripted;split;.exact a _
 .simp_all
 .exact a _
theorem td:#[cI,"list","__getitem__","list.__getitem__"]:=qg.lookup
theorem Ev.rh(I:#[aF,#[cn]])(Z:#[bx,b,#[cr]])(f:#[aR,o0,j,X])(y:#[bp])(c:br X i=aa r):#[f4,b,r,o0]:=#[dc,lH,#[a8,I,λu0 k0 F C o=>#[h5,Z,λC0 h R e⟨t,d⟩=>by
 subst d;obtain⟨l,Y,k,rfl,_,g,z⟩:=e.rel.list (o.pre e.pre) f;have c0:h.heap.IsList l _:=#[cG,k];refine⟨_,_,td,c0.typeIs,?_⟩;obtain⟨m,N,a0,T,p,P⟩:=Ao c;obtain⟨u,v,e0⟩:=z.at a0;have x:=z.size;have d0:aC=2^24:=rfl;by_cases L:0<=i;.refine GC c0 L #[f] ?_ (#[fN,e,e0]);rw[#[fj]]at P;rw[<-P];simpa using v
 .refine wpAny_getItem_list_neg c0 #[f] #[f] #[f] ?_ (#[fN,e,e0]);rw[#[D,if_pos]]at P;rw[x,<-P];simpa using v]]]
theorem Ev.adt(I:#[aF,#[cn]])(Z:#[bx,b,#[cr]])(f:o0[j]?=aa (.tup X))(y:#[bp])(c:br X i=aa r):#[f4,b,r,o0]:=#[dc,lH,#[a8,I,λu0 k0 F C o=>#[h5,Z,λC0 h R e⟨t,d⟩=>by subst d;obtain⟨l,Y,k,rfl,_,g,z⟩:=e.rel.tup (o.pre e.pre) f;refine⟨_,_,RS.lookup,#[P,g],?_⟩;obtain⟨m,N,a0,T,p,x⟩:=Ao c;obtain⟨u,v,P⟩:=z.at a0;have L:aC=2^24:=rfl;exact FR g #[f] #[f] (by rw[z.size];exact N) v (#[fN,e,P])]]]
theorem Ev.Ow(I:#[aF,#[ao,X]])(Z:#[bx,b,#[cr]])(y:#[bp])(c:br X i=aa r):#[f4,b,#[ao,[r]],o0]:=#[dc,lH,#[e6,I,λu0 k0 F C g=>Z A J F k0 _ E G C.rel λC0 f R e⟨t,d⟩=>by
 subst d;obtain⟨x,k,rfl,z⟩:=g;refine⟨"str",_,FL.lookup,jf _ x k,?_⟩;obtain⟨m,N,a0,T,h,j⟩:=Ao c;have l:aC=2^24:=rfl;refine PyProof.Rows.getItem_str ?_ ?_ (q _ _ R (#[dg,e].toks _) #[cV,_]);.simp only[tS,decide_eq_false_iff_not];omega
 .rw[(by rw[<-z];rfl:x.length=X.length),N];show x.cps[m]?=aa r;rw[<-ke,z];exact a0]]
end
section
variable{B:Bs}{w:aD}{n:Nat}{O:Gm}{d0 g0:#[n]}{U:#[o]}{H b0 o0 w0:#[l]}{a b c:aT}{i0 y0:ba}{J:aO}{S:#[t]}
def bZ(B:Bs)(w:aD)(n:Nat)(O:Gm)(f:ai)(Y:#[B])(U:#[o])(H:#[l])(r:V)(m0:#[l]):Prop:=∀(A:aS)(J:aO)(S:#[t])(Z:#[L])(s:au)(Q E:#[C]),#[bc]->#[ah]->#[a1,Z,Y]->(∀z L j,#[ej]->VR j z r->Q z L)->#[as,dX f Z]
theorem eR{j:#[g]}(h:ax M A (spliced (j.map #[jR])) (λY L=>Q #[ai,Y] L) E s):#[eq,zK f ae (j.map #[jR]) []]:=by cases j with|nil=>exactλO p H=>PySem.evalArgs_none (h _ p H) _ p H|cons e l=>exact Calls.evalArgs_plain h
theorem sS(u:#[c8])(y:j.length<30):(#[f3,j].all (λx=>!x.1)&&(ma i0 (mh [] J)).all (λx=>x.1.isSome)&&#[aB,j.length+([]:List rQ).length+#[aa,([]:List rQ).isEmpty,0,1]<30])=ae:=by rw[#[dG]];simp[ma,mh,y]
theorem fZ(J:aO)(j:#[g]):(j.map #[jR]).any (·.1)=ag:=by simp
theorem Ev.qp{e:String}(v:cN B w n O #[cy] #[c5,e])(u:#[c8])(I:#[fs])(X:bZ B w n O #[c5,e] Y U b0 r o0):#[lY]:=λA J S s Q E G M q=>by refine#[iQ];rw[#[dG]];exact kQ (fZ _ _) (eR (#[a8,I,λZ k0 F C T=>#[nD,Z,T]]))
theorem Ev.sG(v:cN B w n O #[cy] (.type T))(u:#[c8])(I:#[fs])(X:bZ B w n O (.type T) Y U b0 r o0):#[lY]:=λA J S s Q E G M q=>by refine#[iQ];rw[#[dG]];exact rV (fZ _ _) (eR (#[a8,I,λZ k0 F C a=>#[nD,Z,a]]))
structure tZ(B:Bs)(a:ao)(f0:gN):Prop where
 at_:∃o,#[gq,a]/\#[dX]
 out:#[aq,a]
theorem Ev.vN(v:cN B w n O #[cy] #[cm])(a:tZ B f f0)(u:#[c8])(I:#[fs])(X:bZ B w n O #[cm] Y U b0 r o0):#[lY]:=λA J S s Q E G M q=>by refine#[iQ];rw[#[dG]];obtain⟨⟨o,g,c⟩,l⟩:=a;exact Fw (eR (#[a8,I,λZ k0 F C T=>⟨⟨#[aZ,C.rel.gh,g,l],c⟩,#[nD,_,T]⟩]))
def VT(H:#[l]):V->String->Prop|.int _,T=>T="int"|.str _,T=>T="str"|.ob i,T=>(∃X,#[b1]/\T="list")\/(∃X,#[f8]/\T="tuple")|_,_=>False
theorem VT.typeIs{s:au}(h:VT H x T)(R:#[ah])(p:#[bl,x]):s.TypeIs v T/\∀a,v=.ref a->∃e0,#[ch,a,e0]/\e0.dict=ab:=by cases x with
|int i=>obtain⟨t,rfl⟩:=p;cases h;exact⟨nk s i t,#[ck]⟩
|str i=>obtain⟨x,t,rfl,_⟩:=p;cases h;exact⟨jf s x t,#[ck]⟩
|none=>exact h.elim
|bool _=>exact h.elim
|ob i=>
 obtain⟨X,N,rfl⟩|⟨X,N,rfl⟩:=h;.obtain⟨a,Y,k,rfl,_,g,_⟩:=R.list p N;exact⟨#[P,g],λb e=>by cases e;exact#[P,g]⟩
 .obtain⟨a,Y,k,rfl,_,g,_⟩:=R.tup p N;exact⟨#[P,g],λb e=>by cases e;exact#[P,g]⟩
theorem Ev.iU{G:aq}{T e:String}(g:#[b6,o,x])(p:VT b0 x T)(l:zB T)(a0:ox T G e)(v:#[l4])(u:#[c8])(I:#[j7])(X:#[hl,#[c5,e],x])(L:#[ec])(P:#[b7])(y:j.length<30):#[aP,#[i3],r,w0]:=λA J S s Q E a M q=>by refine qh (L _) (sS u y) P (dt _ _ u) (#[cs,g,s,a,M,λu0 k0 F C b=>?_]);obtain⟨k,f⟩:=p.typeIs C.rel b;refine⟨T,_,l,a0,v,k,f,(kQ (fZ _ _) (eR (#[cs,I,_,a,C.rel,λZ m R t i=>X A _ _ (u0::Z) _ Q E a t.rel (.cons (b.pre t.pre) i) λz N h c d=>#[a9,#[gm,t,c],d]])))⟩
end
inductive D where|atom(x:V)|list(X:#[B])|tup(X:#[B])
def D.ob:D->#[a2,Ob]|.atom _=>ab|.list X=>aa (.list X)|.tup X=>aa (.tup X)
def dv:Nat->List D->#[B]|_,[]=>[]|k,.atom x::r=>x::dv k r|k,.list _::r=>.ob k::dv #[u] r|k,.tup _::r=>.ob k::dv #[u] r
def dy:List D->#[l]|[]=>[]|.atom _::r=>dy r|.list X::r=>.list X::dy r|.tup X::r=>.tup X::dy r
inductive ik(h:bo):#[t]->#[L]->List D->Prop where|nil:ik h [] [] []|atom{S Z n0 v x}:VR [] v x->ik h S Z n0->ik h S (v::Z) (.atom x::n0)|list{S Z n0 a X}:(∃o,#[cq]/\OR [] o (.list X))->ik h S Z n0->ik h (a::S) (.ref a::Z) (.list X::n0)|tup{S Z n0 a X}:(∃o,#[cq]/\OR [] o (.tup X))->ik h S Z n0->ik h (a::S) (.ref a::Z) (.tup X::n0)
theorem VR.nil(S:#[g])(h:VR [] v x):#[bl,x]:=h.pre (EN)
theorem ik.vr(d:ik h S Z n0):∀(w:#[g]),aM (VR (w++S)) Z (dv w.length n0):=by induction d with|nil=>intro w;exact .nil|atom H _ Q=>intro w;exact .cons (H.nil _) (Q _)|@list S Z n0 a X H _ Q=>intro w;have:=Q (w++[a]);rw[du,aY]at this;exact .cons #[aA,a,by simp] this|@tup S Z n0 a X H _ Q=>intro w;have:=Q (w++[a]);rw[du,aY]at this;exact .cons #[aA,a,by simp] this
theorem ik.all(d:ik h S Z n0):aM (λa e0=>∃o,#[cq]/\OR [] o e0) S (dy n0):=by induction d with|nil=>exact .nil|atom H _ Q=>exact Q|list H _ Q=>exact .cons H Q|tup H _ Q=>exact .cons H Q
theorem wc:∀{n0:List D}{i:Nat},#[a6,(dy n0),.raw,R]->False|[],i,h=>by simp[dy]at h|.atom _::r,i,h=>wc (n0:=r) h|.list _::r,0,h=>by simp[dy]at h|.list _::r,i+1,h=>#[jl,wc]|.tup _::r,0,h=>by simp[dy]at h|.tup _::r,i+1,h=>#[jl,wc]
theorem wd:∀{n0:List D}{i:Nat},#[G,(dy n0),.rel n R M]->False|[],i,h=>by simp[dy]at h|.atom _::r,i,h=>wd (n0:=r) h|.list _::r,0,h=>by simp[dy]at h|.list _::r,i+1,h=>#[jl,wd]|.tup _::r,0,h=>by simp[dy]at h|.tup _::r,i+1,h=>#[jl,wd]
theorem wb:∀{n0:List D}{i:Nat},#[G,(dy n0),.hp n R P T M L]->False|[],i,h=>by simp[dy]at h|.atom _::r,i,h=>wb (n0:=r) h|.list _::r,0,h=>by simp[dy]at h|.list _::r,i+1,h=>#[jl,wb]|.tup _::r,0,h=>by simp[dy]at h|.tup _::r,i+1,h=>#[jl,wb]
theorem OR.nil(S:#[g])(h:OR [] o x):OR S o x:=h.pre (EN)
def Ed(c0:Nat)(h:bo)(u:ai):D->Prop|.atom x=>VR [] u x|.list X=>∃a o,u=.ref a/\c0<=a/\#[cq]/\OR [] o (.list X)|.tup X=>∃a o,u=.ref a/\c0<=a/\#[cq]/\OR [] o (.tup X)
def Fn(B:Bs)(w:aD)(n:Nat)(f:ao)(n0:List D)(r:D):Prop:=∀(A:aS)(S:#[t])(Z:#[L])(s:au)(Q E:#[C]),#[bc]->#[c9]->ik s.heap S Z n0->S.Nodup->(∀a∈S,#[aK,a])->(∀u L,Fx B [] s L->#[g7]->Ed s.heap.objs.size L.heap u r->Q u L)->#[as,#[b3,dX,f,Z]]
structure bb(B:Bs)(f:ao)(j0:bt)(k:Nat)(r0:#[y])(b0:List fJ:=[]):Prop where
 ex:∃f0 o,#[gq,f]/\#[dX]/\f0.scope=j0/\#[kQ,#[j9],f0.closure=[],(#[mt])/\(#[nC,x∈B.fl,#[gu,x.c],f0.qualname])/\∀Z:#[L],Z.length=k->uV f0 #[ai,Z]=aw ((j0.names.map (·.1)).zip Z)]
 out:#[aq,f]
theorem bb.at_(h:#[ii]):∃f0,tZ B f f0:=by obtain⟨f0,o,N,a0,_⟩:=h.ex;exact#[aw,#[aY,N,a0],h.out]
theorem Pf{S c:Type}{l:#[g]}{m:#[g]}{i:Nat}{a:S}{b:c}(N:#[G,l,a])(a0:#[G,m,b]):#[G,(l.zip m),(a,b)]:=by rw[pL];exact⟨N,a0⟩
theorem DZ{S c:Type}:∀(l:#[br])(m:List c),(l.zip m).map (·.1)=l.take m.length|[],_=>by simp|_::_,[]=>rfl|a::l,b::m=>by simp[DZ l m]
theorem HK:∀{b:#[g]}{m:aq->Option _},(∀p∈b,p.1≠l0)->bindL s b m l0=m l0
 |[],_,_=>rfl
 |(f,v)::r,m,h=>by
  unfold bindL;rw[HK λp C=>h p (dO _ C)];split;.show#[aa,l0=f,aa v,m _]=m _;rw[if_neg (kO (h _ fU))]
  .rfl
theorem HI:∀{b:#[g]}{m:aq->Option _},(∀p∈b,p.1≠l0)->bindC s b m l0=m l0
 |[],_,_=>rfl
 |(f,v)::r,m,h=>by
  unfold bindC;rw[HI λp C=>h p (dO _ C)];split;.rfl
  .show#[aa,l0=f,aa v,m _]=m _;rw[if_neg (kO (h _ fU))]
theorem HJ(R:s l0=aa .local):∀{b:#[g]}{m:aq->Option _}{i:Nat},(b.map (·.1)).Nodup->#[G,b,(l0,v)]->bindL s b m l0=aa v|[],_,_,_,h=>by simp at h|(f,X)::r,m,0,Y,h=>by simp at h;obtain⟨rfl,rfl⟩:=h;rw[dk,jB]at Y;unfold bindL;rw[HK λp C e=>Y.1 (bK.mpr ⟨p,C,e⟩),if_pos R];simp|(f,X)::r,m,i+1,Y,h=>by rw[dk,jB]at Y;unfold bindL;exact HJ R Y.2 (by simpa using h)
theorem HH(R:¬s l0=aa .local):∀{b:#[g]}{m:aq->Option _}{i:Nat},(b.map (·.1)).Nodup->#[G,b,(l0,v)]->bindC s b m l0=aa v|[],_,_,_,h=>by simp at h|(f,X)::r,m,0,Y,h=>by simp at h;obtain⟨rfl,rfl⟩:=h;rw[dk,jB]at Y;unfold bindC;rw[HI λp C e=>Y.1 (bK.mpr ⟨p,C,e⟩),if_neg R];simp|(f,X)::r,m,i+1,Y,h=>by rw[dk,jB]at Y;unfold bindC;exact HH R Y.2 (by simpa using h)
theorem AQ:∀(a:#[g])(n:Nat)(A:#[g])(l0:aq),(A.lookup l0).isSome=ae->((oB n a A).lookup l0).isSome=ae
 |[],_,_,_,h=>h
 |(f,k)::r,n,A,l0,h=>by
  unfold oB;split;.refine AQ r _ _ _ ?_;rw[gj];cases l0==f<;>simp[h]
  .exact AQ r _ _ _ h
theorem vO:∀(a:#[g])(n:Nat)(A:#[g])(l0:aq),(l0,uO)∈a->((oB n a A).lookup l0).isSome=ae
 |(f,k)::r,n,A,l0,h=>by
  unfold oB;obtain e|h:=bg.mp h;.cases e;refine AQ r _ _ _ ?_;simp
  .split<;>exact vO r _ _ _ h
theorem AR:∀(a:#[g])(n:Nat)(A:#[g]),(A.map (·.1)++a.map (·.1)).Nodup->((oB n a A).map (·.1)).Nodup
 |[],_,A,h=>by unfold oB;simpa using h
 |(f,k)::r,n,A,h=>by
  unfold oB;have c0:=by refine(EB Qm).mp h
  split;.exact AR r _ _ (c0)
  .exact AR r _ _ (jB.mp c0).2
theorem oW{S:Type}:∀{l:#[g]}{p:aq×S},(l.map (·.1)).Nodup->p∈l->l.lookup p.1=aa p.2
 |(f,k)::r,p,h,C=>by
  rw[dk,jB]at h;obtain rfl|C:=bg.mp C;.simp
  .have n:(p.1==f)=ag:=by rw[beq_eq_false_iff_ne];intro e;exact h.1 (bK.mpr ⟨p,C,e⟩)
   rw[gj,n];exact oW h.2 C
def Mr(j0:bt):#[bA]:=(j0.names.filter λp=>p.2==.cell).map (·.1)
theorem Yo(h:l0∈Mr j0):(l0,uO)∈j0.names:=by obtain⟨⟨f,k⟩,N,rfl⟩:=bK.mp h;obtain⟨a0,T⟩:=jA.mp N;grind
def eG(j0:bt)(U:Nat)(b0:List fJ:=[]):Gm:=⟨j0,U,Mr j0,b0⟩
def rm(j0:bt)(n0:List D):#[o]:=(dv 0 n0).map aa++cO (j0.names.length-n0.length) ab
theorem tc:∀(k:Nat)(n0:List D),#[a5,(dv k n0),n0.length]|_,[]=>rfl|k,.atom _::r=>by simp[dv,tc k r]|k,.list _::r=>by simp[dv,tc _ r]|k,.tup _::r=>by simp[dv,tc _ r]
def iA(j0:bt)(k:Nat):Bool:=decide ((j0.names.map (·.1)).Nodup)&&(j0.names.take k).all (λp=>p.2==.local||p.2==.cell)&&#[aB,k<=j0.names.length]
theorem VR.atom(h:#[bl,x])(z:∀i,x≠.ob i):VR [] v x:=by cases x with|ob i=>exact absurd rfl (z i)|none=>exact h|bool b=>exact h|int i=>exact h|str t=>exact h
theorem aM.atoms(h:#[a1,Y,X])(z:#[lF]):#[fi,Y,X]:=by induction h with|nil=>exact .nil|cons a _ Q=>exact .cons (a.atom (z _ fU)) (Q λy m=>z y (dO _ m))
def dB(U:Nat)(r:D):#[al]:=λo v st=>∃x,(o=.ret x\/(o=.next/\x=.none))/\match r with|.atom y=>x=y/\∀i,y≠.ob i|.list X=>∃i,x=.ob i/\U<=i/\#[a6,st,.list,X]/\#[lF]|.tup X=>∃i,x=.ob i/\U<=i/\#[a6,st,.tup,X]/\#[lF]
theorem IQ{B:Bs}{w:aD}{n:Nat}{d0 g0:#[n]}{f:ao}{j0:bt}{k:Nat}{r0:#[y]}{b0:List fJ}{n0:List D}(F:#[w])(O:#[ii])(j:n0.length=k)(A0:#[eu])(E0:#[eV])(H0:#[eU])(r:iA j0 k=ae){A:aS}{S:#[t]}{Z:#[L]}{s:au}{Q E:#[C]}(G:#[eP])(m0:#[c9])(H:ik s.heap S Z n0)(y0:S.Nodup)(T0:∀a∈S,#[aK,a])(h:∀(J:aO)(k0:au)(X0:#[C]),Cx n (A.deeper J)->aG B (eG j0 #[s,dy,n0] b0) J S (rm j0 n0) (dy n0) k0.heap->Fx B [] s k0->#[R,J.locals]->(#[gC,#[R,p.2]])->#[s,dy,n0]=S.length->ax #[aE] (A.deeper J) (gp r0 J) (λf L=>Q (match f with|.ret v=>v|_=>.none) L) X0 k0):#[as,#[b3,dX,f,Z]]:=by
 obtain⟨f0,o,g,j1,rfl,g1,f1,k1,Y0,⟨c,O0,Y,t,X,Z0,Q0,e1,w0⟩,a1,N0⟩:=O.ex;have l1:Z.length=k:=by rw[<-j,<-tc 0 n0];exact#[s,H.vr,[]]
 simp only[iA,fF,decide_eq_true_eq,fe]at r;obtain⟨⟨I0,R0⟩,v0⟩:=r;have i1:(((f0.scope.names.map (·.1)).zip Z).map (·.1)).Nodup:=by rw[DZ];exact(lO _ _).nodup I0
 have U0:∀x∈(f0.scope.names.map (·.1)).zip Z,f0.scope.names.lookup x.1=aa .local\/(f0.scope.names.lookup x.1=aa .cell/\((oB #[kP] f0.scope.names []).lookup x.1).isSome=ae):=by
  intro x z;obtain⟨i,d⟩:=gK.mp z;obtain⟨N,a0⟩:=pL.mp d;rw[cg]at N;obtain⟨p,C,b1⟩:=dW.mp N;have q0:i<k:=by rw[<-l1];exact#[V,a0]
  have M0:p∈f0.scope.names.take k:=bz (i:=i) (by rw[eD q0];exact C);obtain⟨l0,x0⟩:=p;have y:=mv I0 C;have C0:=R0 _ M0;simp only[rt,beq_iff_eq]at C0;rw[<-b1];rcases C0 with rfl|rfl;.exact .inl y
  .exact .inr ⟨y,vO _ _ _ _ (bz C)⟩
 refine gr (codeAny_call_cells (o:=o) (fd:=f0) (body:=r0) (binds:=(f0.scope.names.map (·.1)).zip Z) (by have:=G.depth;omega) (m0.2.1 f o g O.out) j1 (F.nl m0) ⟨c,O0,Y,t,X,m0.2.1 c O0 Q0 Z0,e1,w0⟩ g1 (N0 Z l1) f1 U0 ?_ E0 H0 A0);intro k0 x;obtain⟨N,p0,rfl⟩:=x.toInCall.same;have t0:=x.toInCall.keep;have h0:#[R,N.objs.size]:=eh x.toInCall.ns.lt;have S0:=H.all;have J0:=H.vr [];simp only[ja,eI]at J0;have q0:#[kJ]:=λa I=>by obtain⟨i,d⟩:=gK.mp I;obtain⟨e0,_,u0,a0,_⟩:=S0.get' d;exact bk a0
 have h1:aG B (eG f0.scope #[s,dy,n0] b0) (callEnvC f0 s.heap.objs.size f) S (rm f0.scope n0) (dy n0) N:=by
  refine{scope:=rfl,kind:=A0,kb:=a1,nd:=I0,glob:=k1,fh:=Y0,gh:=m0.grow h0 t0,slt:=F.slt,ns:=#[aw,x.toInCall.ns,λi v e=>?_],lu:=λl0 h=>?_,len:=S0.length,cY:=eK S0.length.symm,store:=λi a e0 N a0=>?_,code:=λi a e0 _ a0=>dM.of (λR e=>(wc (e▸a0)).elim) (λn R o0 e=>(wd (e▸a0)).elim) λn R P T o0 k e=>(wb (e▸a0)).elim,nodup:=y0,high:=T0,dZ:=λI=>#[ac,q0 _ I,ft _],ic:=m0.1,cw:=λp C=>?_,kr:=x.apart}
  .unfold rm at e;by_cases d:i<(dv 0 n0).length
   .rw[cL (by simpa using d),cg]at e;obtain⟨i0,q,M⟩:=dW.mp e;cases M;obtain⟨u,c0,m⟩:=J0.get q;have d1:i<k:=by rw[<-j,<-tc 0 n0];exact d
    have F0:i<f0.scope.names.length:=ey d1 v0;obtain⟨⟨l0,x0⟩,C⟩:∃p,#[G,f0.scope.names,p]:=#[bM,bD F0];have M0:(l0,x0)∈f0.scope.names.take k:=bz (i:=i) (by rw[eD d1];exact C);have C0:=R0 _ M0;simp only[rt,beq_iff_eq]at C0;have U:#[G,((f0.scope.names.map (·.1)).zip Z),(l0,u)]:=Pf (by rw[cg,C];rfl) c0;have y:(callEnvC f0 s.heap.objs.size f).kindOf l0=aa x0:=mv I0 C;refine#[bP,l0,x0,C];rcases C0 with rfl|rfl;.exact#[dM,rfl,u,HJ y i1 U,m]
    .obtain⟨l,c1⟩:=zh.mp (vO f0.scope.names #[kP] [] l0 (bz C));refine .inr ⟨#[dq],l,u,c1,?_,m⟩;have:=x.cell l0 l c1;rwa[HH (by rw[y];decide) i1 U]at this
   .rw[ew (by simpa using d)]at e;have:=bz e;cases(List.mem_replicate.mp this).2
  .exact vO _ _ _ _ (Yo h)
  .obtain⟨G0,q,u0,M,s0⟩:=S0.get' N;rw[a0]at q;cases q;exact⟨u0,t0 _ _ M,s0.nil _⟩
  .have L0:s.heap.objs.size<p.2:=x.above p.1 p.2 C;exact⟨λI=>#[ac,q0 _ I,bP.mpr (eh L0)],hu L0,aI m0.1 (eh L0),_,x.cell p.1 p.2 (oW (AR _ _ _ (by simpa using I0)) C)⟩
 refine h _ _ _ ⟨G.handled,by have:=G.depth;show#[i0];omega,by have:=G.units;show A.units+3+8*n+8<_;omega⟩ h1 (Fx.fY h0 #[dN,t0]) #[aJ] (λp C=>eh (x.above p.1 p.2 C)) S0.length.symm
theorem Fn.dU(F:#[w])(e:#[ii])(R:n0.length=k)(N:#[eu])(c0:#[eV])(h0:#[eU])(Y:iA j0 k=ae)(h:aj B w n (eG j0 #[s,dy,n0] b0) r0 (rm j0 n0) (dy n0) (dB #[s,dy,n0] r)):Fn B w (n+1) f n0 r:=by
 intro A S Z s Q E G l c M m0 q;refine IQ F e R N c0 h0 Y G l c M m0 λJ k0 p0 l0 v0 U u0 x0 t=>?_;refine h _ _ _ _ _ _ l0 v0 ?_;rintro y0 v H q0 L j⟨o0,z,d⟩P f0
 have w0:∀y∈fj (eG j0 #[s,dy,n0] b0) J _,#[R,y]:=λy m=>by
  obtain rfl|m:=bg.mp m;.exact u0
  .obtain m|m:=cZ.mp m;.obtain⟨p,C,rfl⟩:=bK.mp m;exact x0 p (jA.mp C).1
   .rw[show S.drop (eG _ _ _).fz=[]from ud (eK t.symm)]at m;cases m
 have O:=U.trans P.fx λy m=>.inr (w0 y m);have e0:∀i a,#[aX,(dy _),i]->#[G,j,a]->#[R,a]:=λi a b I=>(P.new a (qJ I b)).elim (λh=>by rw[show S.drop (eG _ _ _).fz=[]from ud (eK t.symm)]at h;cases h) (aI U.size);have t0:∀u,VR j u o0->Ed s.heap.objs.size L.heap u r:=λu g=>by cases r with|atom y=>obtain⟨rfl,m⟩:=d;exact VR.atom g m|list X=>obtain⟨i,rfl,b,o,i0⟩:=d;obtain⟨a,I,rfl⟩:=g;obtain⟨x,a0,s0,G0,rfl,T⟩:=P.rel.store i a _ I o;exact⟨a,_,rfl,e0 i a b I,a0,_,_,rfl,T.atoms i0⟩|tup X=>obtain⟨i,rfl,b,o,i0⟩:=d;obtain⟨a,I,rfl⟩:=g;obtain⟨x,a0,s0,G0,rfl,T⟩:=P.rel.store i a _ I o;exact⟨a,_,rfl,e0 i a b I,a0,_,_,rfl,T.atoms i0⟩
 have A0:=P.rel.gh;obtain rfl|⟨rfl,rfl⟩:=z;.obtain⟨u,rfl,g⟩:=f0;exact q u _ O A0 (t0 u g)
 .cases f0;exact q .none _ O A0 (t0 _ rfl)
def D.val(k:Nat):D->V|.atom x=>x|.list _=>.ob k|.tup _=>.ob k
def D.obs:D->#[l]|.atom _=>[]|.list X=>[.list X]|.tup X=>[.tup X]
def bU:V->Bool|.ob _=>ag|_=>ae
theorem tk(h:bU x=ae):∀i,x≠.ob i:=λi e=>by subst e;cases h
inductive fc(H:#[l]):#[B]->#[i]->List D->Prop where|nil:fc H [] [] []|atom{Y c n0 x}:bU x=ae->fc H Y c n0->fc H (x::Y) c (.atom x::n0)|list{Y c n0 i X}:#[b1]->(#[fk,X])->fc H Y c n0->fc H (.ob i::Y) (i::c) (.list X::n0)|tup{Y c n0 i X}:#[f8]->(#[fk,X])->fc H Y c n0->fc H (.ob i::Y) (i::c) (.tup X::n0)
theorem Ak{X:#[B]}(h:X.all bU=ae):#[lF]:=λy m=>tk (fe.mp h y m)
theorem dB.tup{H:#[g]}(h:#[f8])(P:U<=i)(z:X.all bU=ae):dB U (.tup X) (.ret (.ob i)) v H:=⟨_,#[dq],i,rfl,P,h,Ak z⟩
theorem dB.list{H:#[g]}(h:#[b1])(P:U<=i)(z:X.all bU=ae):dB U (.list X) (.ret (.ob i)) v H:=⟨_,#[dq],i,rfl,P,h,Ak z⟩
theorem dB.atom{H:#[g]}(z:bU x=ae):dB U (.atom x) (.ret x) v H:=#[Q,#[dq],rfl,tk z]
theorem dB.none{H:#[g]}:dB U (.atom .none) .next v H:=#[Q,.inr #[bV],rfl,#[ck]]
section
variable{B:Bs}{w:aD}{n m:Nat}{O:Gm}{U:#[o]}{H b0 o0 w0:#[l]}{J:aO}{S:#[t]}
theorem fc.Vl{s:au}(R:#[ah])(d:fc H Y c n0):∀{Z:#[g]},#[a1,Z,Y]->∃j,ik s.heap j Z n0/\aM (λa i=>#[c2]) j c:=by induction d with
|nil=>intro Z h;cases h;exact#[aw,.nil,.nil]
|atom z _ Q=>intro Z h;cases h with|cons N a0=>obtain⟨j,T,E⟩:=Q a0;exact#[aw,.atom (N.atom (tk z)) T,E]
|list P z _ Q=>intro Z h;cases h with|cons N a0=>obtain⟨j,T,E⟩:=Q a0;obtain⟨a,M,k,rfl,b,g,v⟩:=R.list N P;exact#[aw,.list ⟨_,g,_,k,rfl,v.atoms λy m=>tk (z y m)⟩ T,.cons b E]
|tup P z _ Q=>intro Z h;cases h with|cons N a0=>obtain⟨j,T,E⟩:=Q a0;obtain⟨a,M,k,rfl,b,g,v⟩:=R.tup N P;exact#[aw,.tup ⟨_,g,_,k,rfl,v.atoms λy m=>tk (z y m)⟩ T,.cons b E]
theorem YG(n:S.Nodup){c:#[i]}(h:aM (λa i=>#[c2]) b c)(Y:c.Nodup):b.Nodup:=by induction h with|nil=>exact .nil|@cons a i l m N a0 Q=>rw[jB]at Y⊢;refine⟨λI=>?_,Q Y.2⟩;obtain⟨j,f⟩:=gK.mp I;obtain⟨e,F,d⟩:=a0.get' f;have:=iy n N d;subst this;exact Y.1 (bz F)
theorem Cx.le(h:Cx m A)(Y:n<=m):#[bc]:=⟨h.handled,by have:=h.depth;omega,by have:=h.units;omega⟩
theorem Fn.call(h:Fn B w n f n0 r)(v:n<=m)(d:fc H Y g0 n0)(c:g0.Nodup)(z:∀x,r=.atom x->bU x=ae):bZ B w m O #[cm] Y U H (r.val H.length) (H++r.obs):=λA J S l s Q E G M p q=>by
 obtain⟨t,N,a0⟩:=d.Vl M p;refine h A t l s Q E (G.le v) M.gh N (YG M.nodup a0 c) (λa I=>?_) λu L d0 C g=>?_;.obtain⟨j,y⟩:=gK.mp I;obtain⟨i,_,e⟩:=a0.get' y;exact M.high a (bz e)
 have i0:=M.keep d0.size [] d0.keep (#[ck]) C;have k0:#[aQ,H,S,L]:=#[gM,i0,d0.widen #[ck]]
 have j0:∀a o e0,#[R,a]->L.heap.get? a=aa o->OR [] o e0->(#[hr])->(∀n R F,e0≠.rel n R F)->(∀n R P T F k,e0≠.hp n R P T F k)->#[aQ,H++[e0],S++[a],L]:=λa o e0 I g h0 o0 l0 m0=>by
  refine#[j3,d0.widen #[ck]]
  .rw[nC M.cY]at Z;rcases cZ.mp Z with q|q;.exact .inl q
   .rw[aZ.mp q];exact .inr I
  .refine aG.pa i0 d0.size M.ju M.jt M.fX (λb Z=>by rw[aZ.mp Z];exact I) #[z] rfl M.gh.1 (λi b f0 c Z=>?_) λi b c0 c Z=>?_;.cases i with|zero=>simp at c Z;subst c;subst Z;exact#[aY,g,h0.nil _]|succ i=>simp at c
   .cases i with|zero=>simp at c Z;subst c Z;exact dM.of (λR e=>absurd e (o0 R)) (λn R F e=>#[ac,e,l0 n R F]) λn R P T F k e=>#[ac,e,m0 n R P T F k]|succ i=>simp at c
 cases r with|atom x=>rw[show H++D.obs (.atom x)=H from gy H]at q;exact q u L S k0 (g.nil _)|list X=>obtain⟨a,o,rfl,I,b0,h0⟩:=g;exact q _ L (S++[a]) (j0 a o _ I b0 h0 #[aO] (#[eh]) (#[h1])) #[aA,a,by rw[<-M.len];simp]|tup X=>obtain⟨a,o,rfl,I,b0,h0⟩:=g;exact q _ L (S++[a]) (j0 a o _ I b0 h0 #[aO] (#[eh]) (#[h1])) #[aA,a,by rw[<-M.len];simp]
theorem Fn.le(h:Fn B w n f n0 r)(Y:n<=m):Fn B w m f n0 r:=λA S Z s Q E G=>h A _ _ s Q E (G.le Y)
end
theorem Dh(h:Runs M O p t j0 s e L):#[jj]:=by induction h<;>(try simp[Shared.setGen,da,FO]at*)<;>first|omega|skip
theorem aae(h:Returns M O p s r L):#[jj]:=Dh h
theorem agb(h:Wakes M O p g r s w L):#[jj]:=by
 unfold Wakes at h;split at h;.exact h.elim
 .split at h;.obtain⟨_,_,b,_,_,rfl⟩:=h;exact(Dh b:(s.setGen g _).heap.objs.size<=_)
  all_goals(rw[h.2];exact aP _)
 .obtain⟨_,_,b,_,_,rfl⟩:=h;exact(Dh b:(s.setGen g _).heap.objs.size<=_)
 all_goals(rw[h.2];exact aP _)
theorem agf(M:Model)(O:Ctx)(n:Nat)(t:dF _):∀(Q:S->#[aI,ba])(E:ai->#[aI,ba])(p:ba)(s:au),n<=s.heap.objs.size->uQ M O t Q E p s->uQ M O t (λa P L=>n<=L.heap.objs.size/\Q a P L) (λe P L=>n<=L.heap.objs.size/\E e P L) p s:=by induction t with|pure a=>exactλQ E p s Y h=>⟨Y,h⟩|raise e=>exactλQ E p s Y h=>⟨Y,h⟩|rule _ k j=>exact#[hE]|«at» P k j=>exactλQ E p s Y h=>j _ Q E _ s Y h|load a _ k j=>exactλQ E p s Y⟨o,b,h⟩=>#[aY,b,j o Q E p s Y h]|update a _ f k j=>exactλQ E p s Y h=>⟨h.1,j _ Q E p _ (#[Y]) h.2⟩|loadIfAlive a k j=>exact#[hE]|point _ k j=>exact#[hE]|alloc o k j=>exactλQ E p s Y h=>j _ Q E p _ (by rw[da];exact eO Y) h|fresh k j=>exactλQ E p s Y h=>j _ Q E p _ Y h|ask k j=>exact#[hE]|choose l m k j=>exactλQ E p s Y h=>⟨h.1,j _ Q E p _ Y h.2⟩|os q _ k j=>exactλQ E p s Y h=>j _ Q E p _ Y h|call c d _ _ k j=>exactλQ E p s Y⟨r,_,i,h⟩=>⟨r,_,i,j r Q E p _ (aI Y (aae i)) h⟩|handled b0 k j=>exact#[hE]|genState g k j=>exactλQ E p s Y⟨st,u,h⟩=>#[aw,u,j _ Q E p s Y h]|newGen c k j=>exactλQ E p s Y h=>j _ Q E p _ Y h|resume g r _ k j=>exactλQ E p s Y⟨w,_,I,h⟩=>#[Q,_,I,j _ Q E p _ (aI Y (agb I)) h]|stack k j=>exact#[hE]|thread k j=>exact#[hE]|_=>exactλQ E p s Y h=>h
theorem fb{Q:#[aI,S]}(h:ax M A t (λa L=>#[jj]->Q a L) E s):#[eq,t]:=λO p H=>FT M _ t (λ_ _ _ x=>x.2 x.1) (λ_ _ _ x=>x.2) p s (agf M _ _ t _ _ p s #[aJ] (h _ p H))
structure hl(B:Bs)(w:aD)(n:Nat)(X:#[B])(I:ao)(L:Nat)(C:#[em])(f:Nat->#[t]->bo->Prop):Prop where
 next:∀(k:Nat)(x:V)(A:aS)(O:Gm)(J:aO)(S:#[t])(U:#[o])(H:#[l])(s:au)(Q:#[aI,#[bT]])(E:#[C]),X[k]?=aa x->f k S s.heap->C H->#[bc]->#[ah]->(∀v c0 p0,#[bl,x]->f #[u] S c0->(#[e1,b≠I,#[eE]])->Q (aa v) #[fa])->#[gh,I]
 done:∀(A:aS)(O:Gm)(J:aO)(S:#[t])(U:#[o])(H:#[l])(s:au)(Q:#[aI,#[bT]])(E:#[C]),f X.length S s.heap->C H->#[bc]->#[ah]->(∀c0 p0,(#[e1,b≠I,#[eE]])->Q ab #[fa])->#[gh,I]
 mono:∀k S j h c0,f k S h->(∀i,i<L->j[i]?=S[i]?)->(∀o,#[e3,I]->#[dz,I])->f k j c0
 live:∀k S h,f k S h->∃o,#[e3,I]
 hH:∀k S h,f k S h->¬bu h I
 self:∀k S(A:aS)(s:au)(Q E:#[C]),#[g5]->f k S s.heap->#[bs,I,s]->#[as,#[cP,kY,I]]
section
variable{B:Bs}{w:aD}{n:Nat}{O:Gm}{d0 g0:#[n]}{U:#[o]}{H b0 o0 w0:#[l]}{a b c:aT}{i0 y0:ba}{J:aO}{S:#[t]}{l:#[y]}{h0:#[al]}
def ck(B:Bs)(w:aD)(n:Nat)(O:Gm)(e:aT)(U:#[o])(H:#[l])(X:#[B])(C:#[em])(b0:#[l]):Prop:=#[ky,#[bc]->#[ah]->(#[mm,C])->#[nO]]
theorem hl.list(T:i<L):hl B w n X I L (λH=>#[b1]) (λk S h=>∃a,#[c2]/\a≠I/\h.IsListIter I a k)where
 next:=λk x A O J S U H s Q E z⟨a,c,y,N⟩l G M q=>by obtain⟨o,g,Y,m,rfl,F⟩:=M.store i a _ c l;obtain⟨u,r,p⟩:=F.at z;exact GO N #[cG,m] r λc0 P f=>q u _ _ p ⟨a,c,y,P⟩ λb o Z e=>f.extBut b o Z e
 done:=λA O J S U H s Q E⟨a,c,_,N⟩l G M q=>by obtain⟨o,g,Y,m,rfl,F⟩:=M.store i a _ c l;exact Ti G.handled N #[cG,m] (by simp[F.size]) λc0 f=>q _ _ λb o Z e=>f b o Z e
 mono:=λk S j h c0⟨a,c,y,N⟩C R=>⟨a,(C i T).trans c,y,N.at R⟩
 live:=λk S h⟨a,_,_,o,g,_⟩=>⟨o,g⟩
 hH:=λk S h⟨a,_,_,o,g,_,_⟩=>#[g9,g,by simp_all,#[Y]]
 self:=λk S A s Q E _⟨a,_,_,N⟩q=>GN N q
theorem ck.list(h:#[aF,#[ci]])(P:#[hR]):ck B w n O a U H X (λH=>#[b1]) b0:=λA J S s Q E G M q=>#[a8,h,λv k0 F C T=>by obtain⟨l,Y,k,rfl,y,g,z⟩:=C.rel.list T P;refine#[mh,sj,#[cG,k],hl.list,#[cV,#[aW]],λc=>#[kj,c]]]
theorem hl.aJ{d:Nat->bo->Prop}(f:∀k v,P k v->∀x,X[k]?=aa x->VR [] v x)(M:∀A:aS,A.handled=ab->Walks P0 w A I [I] [I] X.length P d)(l:∀k h,d k h->∃o,#[e3,I])(u:∀k h,d k h->¬bu h I):hl B w n X I L #[fO] (λk _ h=>d k h)where
 next:=λk x A O J S U H s Q E z i c G a q=>(M A G.handled).item k s Q E #[V,z] i λv c0 p0 p g R=>q v _ _ ((f k v p x z).nil _) g λb o Z e=>#[i2,R]
 done:=λA O J S U H s Q E i c G a q=>(M A G.handled).done s Q E i λc0 p0 R=>q _ _ λb o Z e=>#[i2,R]
 mono:=λk S j h c0 i C R=>by refine(M {} rfl).frame k h _ i λb Z o e=>?_;rw[aZ.mp Z]at e⊢;exact R o e
 live:=λk S h i=>l k h i
 hH:=λk S h i=>u k h i
 self:=λk S A s Q E G i q=>(M A G).self k s Q E i q
theorem ck.str{t:Tx}(h:#[aF,#[bm]]):ck B w n O a U H (t.map λc=>.str [c]) #[fO] b0:=λA J S s Q E G f q=>h A J S s _ E G f λv k0 F C⟨x,k,e,z⟩=>by
 subst e;have r:#[s,t.map,#[fK]]=x.cps.size:=by rw[aQ,<-z,gI]
 have L:∀(T:String)(P:(k0.heap.push #[aj,T,.fields,#[.str x k,.int 0 0]]).IsStrIter k0.heap.objs.size T x k 0)(M:∀A:aS,A.handled=ab->Walks P0 w A k0.heap.objs.size [k0.heap.objs.size] [k0.heap.objs.size] x.cps.size (SignAt x) (λi h=>h.IsStrIter k0.heap.objs.size T x k i)),#[bs,k0.heap.objs.size,{k0 with heap:=k0.heap.push #[aj,T,.fields,#[.str x k,.int 0 0]]}]:=λT P M=>by refine q _ (λG0 _ h=>h.IsStrIter k0.heap.objs.size T x k G0) _ F (C.trans (aB.heap C.rel (t:=k0.toks) (#[z]) #[e0])) (hl.aJ (P:=SignAt x) (λi v⟨l,u,N,a0⟩y m=>?_) (λR X=>by rw[r];exact M R X) (λG0 c0⟨o,g,_⟩=>⟨o,g⟩) (λG0 c0⟨o,g,_,p⟩=>#[g9,g,by simp_all,by grind])) P C.fx.size λj=>#[kj,j];rw[cg,<-z,ke,N]at m;cases m;exact#[Q,u,a0,rfl]
 cases I:x.cps.all (·<128);.exact wpAny_pyIter_wide I (L _ #[cV,#[aW]] λR X=>Walks.strWide X _ x k)
 .exact wpAny_pyIter_ascii I (L _ #[cV,#[aW]] λR X=>Walks.strAscii X _ x k)
def mY(B:Bs)(w:aD)(n:Nat)(O:Gm)(l:#[y])(h0:#[al])(c:#[f5]):#[al]:=λo v s=>match o with|.next=>c v s|.cont=>c v s|.brk=>#[d0,v,s]|.ret r=>h0 (.ret r) v s
theorem vp(h:hZ B w n O l h0 o v s)(g:o≠.next):h0 o v s:=by cases o with|next=>exact#[dp,g]|brk=>exact h|cont=>exact h|ret v=>exact h
theorem nv{s:au}{I:ao}(R:#[ah])(h:#[R,I]):I≠J.locals/\(#[dJ,I])/\#[aK,I]:=⟨hu (ey R.ju h),λp C=>cB (ey (R.jt p C) h),aI R.gh.1 h⟩
theorem nL(N:I≠J.locals)(a0:#[dJ,I])(T:I∉S):I∉fj O J S:=λh=>by
 obtain e|h:=bg.mp h;.exact N e
 grind
theorem aG.other(R:#[cx])(u:#[ha])(k:#[e1,b≠I,#[de]])(a:#[ji,I,I≠J.locals/\I∉S/\#[dJ,I]])(Y:¬bu h I):#[dk,S,H,c0]:=R.keep u [I] (λb o e Z _=>#[i2,k]) (λx z=>by rw[aZ.mp z];exact⟨a.1,a.2.1,a.2.2.1,a.2.2.2,Y⟩) (R.gh.one R.slt a.1 Y u k)
theorem aB.other(P:#[cd,x0,b0,j,k0])(u:k0.heap.objs.size<=c0.objs.size)(k:#[e1,b≠I,k0.heap.get? b=aa o])(h:I≠J.locals/\I∉j/\#[dJ,I])(Y:#[R,I])(l:#[aK,I])(X:¬bu k0.heap I):#[cd,x0,b0,j,{k0 with heap:=c0,toks:=t}]:=#[iC,P.rel.other u k ⟨l,h⟩ X,P.fx.trans (Fx.fY (X:=[I]) u λb o e Z=>#[i2,k]) λy m=>by rw[aZ.mp m];exact .inr Y]
theorem VR.below(h:#[bl,x]):bA S.length x:=by cases x with|ob i=>obtain⟨a,e,_⟩:=h;exact#[V,e]|none=>trivial|bool _=>trivial|int _=>trivial|str _=>trivial
theorem Hf(h:#[a1,Y,X]):#[ca,X,S.length]:=by induction h with
|nil=>simp
|cons N _ Q=>
 intro x z;obtain rfl|z:=bg.mp z;.exact N.below
 .exact Q x z
def iC(v:#[o])(s:#[l]):Prop:=(#[f2,v,bA s.length x])/\#[gy,s,fu s.length e0]
theorem aG.below(R:#[cx]):iC U H:=by
 refine⟨#[c1],λi e0 e=>?_⟩
 .obtain⟨m,_,p⟩:=R.ns;obtain⟨l0,k,_,a0⟩:=p i x e;rw[<-R.len];obtain⟨_,v,_,r⟩|⟨_,c,v,_,_,r⟩:=a0;.exact r.below
  .exact r.below
 .have b:i<S.length:=by rw[R.len];exact#[V,e]
  obtain⟨o,_,a0⟩:=R.store i S[i] _ (bD _) e;rw[<-R.len];cases e0 with|list X=>obtain⟨Y,n,_,a⟩:=a0;exact Hf a|tup X=>obtain⟨Y,n,_,a⟩:=a0;exact Hf a|raw R=>trivial|rel n R M=>exact a0.1|hp n R P T M k=>exact a0.1
def yn(U j:Nat)(v:#[o])(s:#[l]):Prop:=U<=j/\(#[f2,v,bA j x])/\∀(i:Nat)(e0:Ob),i<j->#[cC,s]->fu j e0
def gR(U L:Nat)(c:#[f5])(v:#[o])(s:#[l]):Prop:=c v s\/∃j,L<=j/\yn U j v s/\c v (s.take j)
theorem aB.trim(P:#[cd,x0,b0,e,d])(M:S.length<=L)(h:gR O.fz L k x0 b0):∃g t,k x0 t/\#[cd,x0,t,g,d]/\(∀a∈g,a∈e)/\∀i,i<L->g[i]?=e[i]?:=by
 obtain h|⟨j,f,⟨N,a0,T⟩,h⟩:=h;.exact⟨_,_,h,P,λ_ h=>h,#[dj]⟩
 .refine⟨_,_,h,⟨?_,λa I=>?_,P.rel.take N a0 T,P.fx⟩,λa I=>eJ I,λi b=>eD (ey b f)⟩;.obtain⟨v0,rfl⟩:=P.pre;rw[ER];rw[iG (aI M f)];simp
  .refine P.new a ?_;rw[yF]at I;exact eJ I
theorem aj.gX{l0:aq}{c1:ba}{O0:aT}{r0 T0:#[y]}{X:#[B]}{C:#[em]}{c:Nat->#[f5]}(i:Nat){L0:hX}(x0:#[iV,O0])(a:#[es,L0])(R:#[dW,L0,L0,l0])(m0:c 0 U b0)(Y:∀k v s,c k v s->C s/\i<v.length)(U0:∀k x v s,X[k]?=aa x->c k v s->iC v s->bA s.length x->#[cE,r0,#[eF,x],s,mY B w n O l h0 #[mP]])(N0:∀v s,c X.length v s->#[cE,T0,v,s,hZ B w n O l h0])(Z0:#[gr,O0]):#[dA,.For (.Name l0 c1) O0 r0 T0 i0]:=#[n0,hZ B w n O l h0,by
 refine zX (#[e6,x0,λI p k0 f0 b Q0 h1 i1 o1=>?_]) (λx=>Z0 x J);obtain⟨f1,e1,a1⟩:=nv M i1;refine Gf (λm L=>∃k v t j,m=X.length+1-k/\k<=X.length/\c k v t/\#[cd,v,t,j,L]/\p k j L.heap/\I∉j/\f0.length<=j.length) ?_ (X.length+1) ⟨0,U,b0,f0,rfl,aV _,m0,b,h1,o1,aP _⟩;have n1:S.length<=b0.length:=by rw[<-b.rel.len];exact b.pre.length_le
 rintro m L⟨k,v,t,j,rfl,I0,b1,P,G0,d1,j1⟩;obtain⟨E0,j0⟩:=Y k v t b1;by_cases u0:k<X.length
 .refine fb (Q0.next k X[k] A O J j v t L _ _ (bD u0) G0 E0 G P.rel λu c0 p0 a0 m1 g1 d0=>?_);have N:#[cd,v,t,j,{L with heap:=c0,toks:=p0}]:=P.other d0 g1 ⟨f1,d1,e1⟩ i1 a1 (Q0.hH _ _ _ G0);refine aA (km (aG.hg N.rel a R j0 a0 λT q0=>?_));have k1:p #[u] j T.heap:=Q0.mono _ _ _ _ _ m1 #[am] λo e=>q0.fx.keep I o e (nL f1 e1 d1) #[hx,P.rel.lG,I,a1];refine U0 k X[k] v t (bD u0) b1 P.rel.below (P.rel.len▸a0.below) A J j T _ _ G q0.rel λo e0 C0 f s0 H0 g A0 Z=>?_;have J0:=(N.trans q0).trans A0
  have q1:I∉H0:=λd=>by
   by_cases y:I∈H0.drop O.fz
   .rcases A0.new I y with h|h;.exact d1 (fI h)
    .obtain⟨F0,w0⟩:=Q0.live _ _ _ k1;exact absurd (bk w0) (bP.mpr h)
   .have S0:I∈H0.take O.fz:=by have:=hQ O.fz H0;rw[<-this]at d;exact(cZ.mp d).resolve_right y
    obtain⟨v0,rfl⟩:=A0.pre;rw[lN P.rel.cY]at S0;exact d1 (eJ S0)
  have p1:b0.length<=j.length:=by rw[<-b.rel.len];exact j1
  have r1:p #[u] H0 s0.heap:=Q0.mono _ _ _ _ _ k1 (λi a=>by obtain⟨v0,rfl⟩:=A0.pre;exact cL (ey a p1)) λo e=>A0.fx.keep I o e (nL f1 e1 d1) #[hx,P.rel.lG,I,a1]
  cases o with
  |next=>cases Z;obtain⟨Y0,l1,g0,t0,y0,M0⟩:=J0.trim n1 g;exact⟨X.length+1-#[u],by omega,k+1,e0,l1,Y0,rfl,u0,g0,t0,Q0.mono _ _ _ _ _ r1 M0 (λ_ e=>e),λh=>q1 (y0 _ h),by
   have:Y0.length>=b0.length:=by
    rcases gk Y0.length b0.length with o0|o0;.have F:=M0 _ o0;rw[rD (aP _)]at F;obtain⟨v0,rfl⟩:=A0.pre;rw[bD (by rw[aY];omega)]at F;cases F
    .exact o0
   rw[b.rel.len];exact this⟩
  |cont=>cases Z;obtain⟨Y0,l1,g0,t0,y0,M0⟩:=J0.trim n1 g;exact⟨X.length+1-#[u],by omega,k+1,e0,l1,Y0,rfl,u0,g0,t0,Q0.mono _ _ _ _ _ r1 M0 (λ_ e=>e),λh=>q1 (y0 _ h),by
   have:Y0.length>=b0.length:=by
    rcases gk Y0.length b0.length with o0|o0;.have F:=M0 _ o0;rw[rD (aP _)]at F;obtain⟨v0,rfl⟩:=A0.pre;rw[bD (by rw[aY];omega)]at F;cases F
    .exact o0
   rw[b.rel.len];exact this⟩
  |brk=>cases Z;exact q .next _ _ _ s0 H0 g J0 rfl
  |ret r=>obtain⟨X0,rfl,z⟩:=Z;exact q (.ret r) _ _ _ s0 H0 g J0 #[dy,X0,z]
 .have R0:k=X.length:=by omega
  subst R0;refine fb (Q0.done A O J j v t L _ _ G0 E0 G P.rel λc0 p0 g1 d0=>?_);have N:#[cd,v,t,j,{L with heap:=c0,toks:=p0}]:=P.other d0 g1 ⟨f1,d1,e1⟩ i1 a1 (Q0.hH _ _ _ G0);exact N0 v t b1 A J j _ _ _ G N.rel λo e0 C0 f s0 H0 g A0 Z=>q o _ _ _ s0 H0 g (N.trans A0) Z]
theorem aj.age{c:Nat->#[g]->#[g]->Prop}(m:Nat)(p:c m U H)(Y:∀k v s,c k v s->∃b k0,Et B w n O e0 v s b k0/\if b then#[cE,r0,v,k0,mY B w n O l h0 λX L=>∃G0,G0<k/\c G0 X L]else#[cE,T,v,k0,hZ B w n O l h0]):#[dA,.While e0 r0 T i0]:=#[n0,hZ B w n _ l h0,(by refine wpAny_While (codeAny_whileLoop (λk L=>∃v t j,c k v t/\aB B _ _ _ v t s j L) ?_ m ⟨_,_,_,p,.refl M⟩);rintro k L⟨v,t,j,c0,P⟩;obtain⟨b,I,Z,u⟩:=Y k v t c0;refine Z A _ _ _ _ _ G P.rel λe R d=>?_;cases b with
|true=>refine u A _ _ _ _ _ G d.rel λo X z f x C g y i=>?_;have F:=(P.trans d).trans y;cases o with|next=>cases i;obtain⟨G0,N,a0⟩:=g;exact⟨_,N,_,_,_,a0,F⟩|cont=>cases i;obtain⟨G0,N,a0⟩:=g;exact⟨_,N,_,_,_,a0,F⟩|brk=>cases i;exact q .next _ _ _ _ _ g F rfl|ret r=>obtain⟨b0,rfl,a⟩:=i;exact q (.ret r) _ _ _ _ _ g F #[cg,a]
|false=>exact u A _ _ _ _ _ G d.rel λo X z f x C g y i=>q o _ _ _ _ _ g ((P.trans d).trans y) i)]
theorem aj.xM{x y:aq}{F0 E0 N0:ba}{L0}{r0 t0:hX}{u v:V}{t:Nat}(i j:Nat)(h:#[aF,.ob t])(n0:#[lh])(P:#[et,r0])(x0:#[jc,r0,r0])(f:#[gO,t0])(A0:#[dW,t0,t0,y])(C0:i≠j)(w0:#[ez])(y0:j<U.length)(s0:#[jB])(g0:(#[fS,lb #[eC] a J=aw ab])\/(#[fS,lb #[eC] a J=aw (aa [x,y])]))(p:#[d0,#[ff,u].set j (aa v),b0]):#[eJ,#[eC]]:=aj.seq (R:=λo X L=>#[eI,X=#[ff,u].set j (aa v),L=b0]) (λA J S s Q E G M q=>by
 have G0:∀{k0:au}{Z:List ao}{p0:ai},aG B O J Z U b0 k0.heap->VR Z p0 (.ob t)->∃a Y k l0 m0,p0=.ref a/\k0.heap.get? a=aa ⟨.type "tuple",ab,.seq Y k,#[]⟩/\Y.size=2/\Y.toList=[l0,m0]/\VR Z l0 u/\VR Z m0 v:=λ{k0 Z p0}R T=>by obtain⟨p0,Y,k,rfl,c,g,z⟩:=R.tup T n0;obtain⟨l0,F,o0⟩:=z.at (j:=0) rfl;obtain⟨m0,d,q0⟩:=z.at (j:=1) rfl;have N:Y.size=2:=z.size;refine⟨p0,Y,k,l0,m0,rfl,g,N,?_,o0,q0⟩;apply List.ext_getElem?;intro m;match m with|0=>rw[ke,F];rfl|1=>rw[ke,d];rfl|m+2=>rw[rD ((by simp_all))];rfl
 rcases g0 with g0|g0;.refine SP (h A J S s _ E G M λu0 k0 Z C T=>?_) (s0 J M.scope) (g0 J M.scope);obtain⟨p0,Y,k,l0,m0,rfl,g,N,j0,o0,q0⟩:=G0 C.rel T;show ax _ A (assign (.Tuple [.Name x F0,.Name y E0] L0 N0) J (.ref p0)) _ E k0;rw[Gc];refine af (dR ?_);unfold unpack;rw[show(rU [hV x F0,hV y E0] J).length=Y.size from N.symm,show(rU [hV x F0,hV y E0] J).findIdx? (·.1)=ab from rfl];refine af (cj (fb (Ac G.handled ⟨_,g,rfl,k,rfl⟩ λc0 f0 v0=>?_)));have r:aB B O J Z U b0 k0 Z {k0 with heap:=c0}:=aB.heap C.rel v0 λb o e=>f0 b o (cB (bk e)) e;rw[j0];refine lU (km (aG.hg r.rel P x0 w0 o0 λI a0=>lU (km (aG.hg a0.rel f A0 (by simpa using y0) q0 λd0 e0=>uC ?_))));exact q .next _ _ _ d0 Z ⟨rfl,rfl,rfl⟩ (((C.trans r).trans a0).trans e0) rfl
 .rw[exec_Assign_arm];refine af (dR ?_);rw[s0 J M.scope];refine af (aA ?_);rw[if_neg (by decide)];refine af (h A J S s _ E G M λu0 k0 Z C T=>?_);rw[g0 J M.scope];obtain⟨p0,Y,k,l0,m0,rfl,g,N,j0,o0,q0⟩:=G0 C.rel T;refine af (aA ?_);refine af (hY (af ?_));rw[show([x,y]:List aq).length=Y.size from N.symm];refine fb (Ac G.handled ⟨_,g,rfl,k,rfl⟩ λc0 f0 v0=>?_);have r:aB B O J Z U b0 k0 Z {k0 with heap:=c0}:=aB.heap C.rel v0 λb o e=>f0 b o (cB (bk e)) e;rw[j0];refine af (lU (Gz (aG.hg r.rel f A0 y0 q0 λI a0=>lU (Gz (aG.hg a0.rel P x0 (by simpa using w0) o0 λd0 e0=>uC (aA ?_))))));refine q .next _ _ _ d0 Z ⟨rfl,rfl,rfl⟩ ?_ rfl;rw[List.set_comm _ _ C0];exact((C.trans r).trans a0).trans e0) (λX L h=>by obtain⟨_,rfl,rfl⟩:=h;exact p) (λo X L g h=>#[ac,h.1,g])
end
namespace St
section
variable{B:Bs}{w:aD}{n:Nat}{i j:Int}
theorem add:#[cf,.Add,#[U,i+j]]:=by rintro A S u v s Q E G⟨t,rfl⟩⟨k,rfl⟩q;exact#[fE,QR]
theorem wI:#[fg,.Add,#[U,i+j]]:=by rintro A S u v s Q E G⟨t,rfl⟩⟨k,rfl⟩q;exact#[fE,PyProof.Rows.iadd_int]
theorem sub:#[cf,.Sub,#[U,i-j]]:=by rintro A S u v s Q E G⟨t,rfl⟩⟨k,rfl⟩q;exact#[fE,QU]
theorem Ky:#[fg,.Sub,#[U,i-j]]:=by rintro A S u v s Q E G⟨t,rfl⟩⟨k,rfl⟩q;exact#[fE,PyProof.Rows.isub_int]
theorem mod(h:j≠0):#[cf,.Mod,.int (i.fmod j)]:=by rintro A S u v s Q E G⟨t,rfl⟩⟨k,rfl⟩q;exact QT h #[gW]
theorem Az:#[cf,.BitAnd,#[U,Fv i j]]:=by rintro A S u v s Q E G⟨t,rfl⟩⟨k,rfl⟩q;exact#[fE,PyProof.Rows.and_int]
theorem AG:#[cf,.BitOr,#[U,zl i j]]:=by rintro A S u v s Q E G⟨t,rfl⟩⟨k,rfl⟩q;exact#[fE,PyProof.Rows.or_int]
theorem AJ:#[cf,.BitXor,#[U,zm i j]]:=by rintro A S u v s Q E G⟨t,rfl⟩⟨k,rfl⟩q;exact#[fE,PyProof.Rows.xor_int]
theorem De(h:0<=j):#[cf,.RShift,.int (i.fdiv (2^j.toNat))]:=by rintro A S u v s Q E G⟨t,rfl⟩⟨k,rfl⟩q;exact PyProof.Rows.rshift_int h #[gW]
theorem BS(h:0<=j):#[fg,.RShift,.int (i.fdiv (2^j.toNat))]:=by rintro A S u v s Q E G⟨t,rfl⟩⟨k,rfl⟩q;exact PyProof.Rows.irshift_int h #[gW]
theorem Cs(h:0<=j)(Z:bX i+j<=2^27):#[cf,.LShift,#[U,i*2^j.toNat]]:=by rintro A S u v s Q E G⟨t,rfl⟩⟨k,rfl⟩q;exact PyProof.Rows.lshift_int h Z #[gW]
theorem BL(h:0<=j)(Z:bX i+j<=2^27):#[fg,.LShift,#[U,i*2^j.toNat]]:=by rintro A S u v s Q E G⟨t,rfl⟩⟨k,rfl⟩q;exact PyProof.Rows.ilshift_int h Z #[gW]
theorem pow(h:0<=j)(Z:bX i*j<=2^27):#[cf,.Pow,#[U,i^j.toNat]]:=by rintro A S u v s Q E G⟨t,rfl⟩⟨k,rfl⟩q;exact PyProof.Rows.pow_int h Z #[gW]
theorem mul(h:ng i j):#[cf,.Mult,#[U,i*j]]:=by rintro A S u v s Q E G⟨t,rfl⟩⟨k,rfl⟩q;exact#[fE,ajo]
theorem BN(h:ng i j):#[fg,.Mult,#[U,i*j]]:=by rintro A S u v s Q E G⟨t,rfl⟩⟨k,rfl⟩q;exact#[fE,ajk]
theorem fdiv(h:j≠0)(C:pY i j=ag):#[cf,.FloorDiv,.int (i.fdiv j)]:=by rintro A S u v s Q E G⟨t,rfl⟩⟨k,rfl⟩q;exact PyProof.Rows.floordiv_int h #[gW] (.inl C)
theorem wK(h:j≠0)(C:pY i j=ag):#[fg,.FloorDiv,.int (i.fdiv j)]:=by rintro A S u v s Q E G⟨t,rfl⟩⟨k,rfl⟩q;exact PyProof.Rows.ifloordiv_int h #[gW] (.inl C)
theorem eq:#[kI,.Eq,i==j]:=by rintro A S u v s Q E G⟨t,rfl⟩⟨k,rfl⟩q;exact aje (q _ _ rfl)
theorem ne:#[kI,.NotEq,i !=j]:=by rintro A S u v s Q E G⟨t,rfl⟩⟨k,rfl⟩q;exact ajp (q _ _ rfl)
theorem lt:#[gS,.Lt,i<j]:=by rintro A S u v s Q E G⟨t,rfl⟩⟨k,rfl⟩q;exact ajn (q _ _ rfl)
theorem le:#[gS,.LtE,i<=j]:=by rintro A S u v s Q E G⟨t,rfl⟩⟨k,rfl⟩q;exact ajm (q _ _ rfl)
theorem gt:#[gS,.Gt,i>j]:=by rintro A S u v s Q E G⟨t,rfl⟩⟨k,rfl⟩q;exact ajh (q _ _ rfl)
theorem ge:#[gS,.GtE,i>=j]:=by rintro A S u v s Q E G⟨t,rfl⟩⟨k,rfl⟩q;exact ajg (q _ _ rfl)
section
variable{B:Bs}{w:aD}{n:Nat}{i j:Nat}
theorem aH.cast(h:aH w n t x y #[U,r])(e:r=z):aH w n t x y #[U,z]:=e▸h
theorem aH.qr(h:aH w n t x y (.bool r))(e:r=z):aH w n t x y #[cO,z]:=e▸h
theorem CB(a b:Nat):zl a b=a|||b:=by
 unfold zl;rw[bitAnd_nn (by unfold uH;omega) (by unfold uH;omega)];have e:∀c,(uH (uH c))=c:=λc=>by unfold uH;omega
 rw[e,e,e];simp
theorem Cz(a b:Nat):Fv a b=a&&&b:=#[p]
theorem LY(a b:Nat):zm a b=(a|||b)-(a&&&b):=by unfold zm;rw[CB,Cz];have N:a&&&b<=a:=Nat.and_le_left;have a0:a<=a|||b:=Nat.left_le_or;omega
theorem th(a b:Nat):(a:Int).fdiv b=(a/b:Nat):=by rw[Em _ (nY b)];rfl
theorem CA(a b:Nat):(a:Int).fmod b=(a%b:Nat):=by rw[En _ (nY b)];rfl
theorem sr:#[cf,.Add,#[bz,i+j]]:=aH.cast (add) #[p]
theorem wJ:#[fg,.Add,#[bz,i+j]]:=aH.cast (wI) #[p]
theorem iW(h:j<=i):#[cf,.Sub,#[bz,i-j]]:=aH.cast sub #[f]
theorem xj(h:ng i j):#[cf,.Mult,#[bz,i*j]]:=aH.cast (mul h) #[p]
theorem wL(h:ng i j):#[fg,.Mult,#[bz,i*j]]:=aH.cast (BN h) #[p]
theorem LM(h:j≠0):#[cf,.Mod,#[bz,i%j]]:=aH.cast (mod #[f]) (CA i j)
theorem wu(h:j≠0)(C:pY i j=ag):#[cf,.FloorDiv,#[bz,i/j]]:=aH.cast (fdiv #[f] C) (th i j)
theorem JZ(h:j≠0)(C:pY i j=ag):#[fg,.FloorDiv,#[bz,i/j]]:=aH.cast (wK #[f] C) (th i j)
theorem tx:#[cf,.RShift,#[bz,i/2^j]]:=aH.cast (De #[f]) (by rw[<-th];simp)
theorem Kr:#[fg,.RShift,#[bz,i/2^j]]:=aH.cast (BS #[f]) (by rw[<-th];simp)
theorem xf(Z:(bX i:Int)+j<=2^27):#[cf,.LShift,#[bz,i*2^j]]:=aH.cast (Cs #[f] Z) #[ak]
theorem Kb(Z:(bX i:Int)+j<=2^27):#[fg,.LShift,#[bz,i*2^j]]:=aH.cast (BL #[f] Z) #[ak]
theorem xt(Z:(bX i:Int)*j<=2^27):#[cf,.Pow,#[bz,i^j]]:=aH.cast (pow #[f] Z) #[ak]
theorem vG:#[cf,.BitAnd,#[U,i&&&j]]:=aH.cast (Az) (Cz i j)
theorem HQ:#[cf,.BitOr,#[U,i|||j]]:=aH.cast (AG) (CB i j)
theorem AK:#[cf,.BitXor,#[U,(i|||j)-(i&&&j)]]:=aH.cast (AJ) (LY i j)
theorem Bo:#[kI,.Eq,i==j]:=aH.qr eq (by rw[mM];simp<;>omega)
theorem CC:#[kI,.NotEq,i !=j]:=aH.qr ne (by rw[mM];simp<;>omega)
theorem Ls:#[gS,.Lt,i<j]:=aH.qr lt (#[z])
theorem KS:#[gS,.LtE,i<=j]:=aH.qr le (#[z])
theorem wG:#[gS,.Gt,i>j]:=aH.qr gt (#[z])
theorem JV:#[gS,.GtE,i>=j]:=aH.qr ge (#[z])
end
variable{x y:Tx}
theorem pz{x:aq}{t:Tx}(h:x.cps.toList=t):x.length=t.length:=by rw[<-h];rfl
theorem Nn{x y:aq}{t u:gn}(a:x.cps.toList.length+y.cps.toList.length<=aC)(q:∀z p0,VR S z #[ao,x.cps.toList++y.cps.toList]->Q z #[fv]):#[aa,x.length==0,Made.val (.str y u),#[cb,y.length,0,Made.val (.str x t),Made.str (x++y)]].post Q s:=by
 by_cases N:(x.length==0)=ae;.rw[if_pos N];refine q _ _ #[bP,y,u,rfl];have:=PS (eq_of_beq N);rw[this];rfl
 .rw[if_neg N];by_cases a0:(y.length==0)=ae;.rw[if_pos a0];refine q _ _ #[bP,x,t,rfl];have:=PS (eq_of_beq a0);rw[this,gy]
  .rw[if_neg a0];have e:(x++y).cps.toList=x.cps.toList++y.cps.toList:=by show(x.cps++y.cps).toList=_;simp
   refine⟨?_,q _ _ #[Q,_,rfl,e]⟩;rw[pz e,aY];exact a
theorem Dm(h:x.length+y.length<=aC):#[bS,bM,.Add,#[ao,x],#[ao,y],#[ao,x++y]]:=by rintro A S u v s Q E G⟨a,t,rfl,rfl⟩⟨b,k,rfl,rfl⟩q;exact ajd (Nn h q)
theorem Kx(h:x.length+y.length<=aC):#[bS,ek,.Add,#[ao,x],#[ao,y],#[ao,x++y]]:=by rintro A S u v s Q E G⟨a,t,rfl,rfl⟩⟨b,k,rfl,rfl⟩q;exact ajj (Nn h q)
theorem seq:#[bS,dp,.Eq,#[ao,x],#[ao,y],.bool (x==y)]:=by rintro A S u v s Q E G⟨a,t,rfl,rfl⟩⟨b,k,rfl,rfl⟩q;exact ajf (q _ _ rfl)
theorem rb:#[bS,dp,.NotEq,#[ao,x],#[ao,y],.bool (x !=y)]:=by rintro A S u v s Q E G⟨a,t,rfl,rfl⟩⟨b,k,rfl,rfl⟩q;exact ajq (q _ s.toks rfl)
theorem Ds:#[bS,dp,.Gt,#[ao,x],#[ao,y],.bool (decide (x>y))]:=by rintro A S u v s Q E G⟨a,t,rfl,rfl⟩⟨b,k,rfl,rfl⟩q;exact aji (q _ _ rfl)
end
end St
section
variable{B:Bs}{w:aD}{n m:Nat}{O:Gm}{d0 g0:#[n]}{U x0:#[o]}{H b0 o0 w0 m0:#[l]}{a b c:aT}{i0 y0:ba}{l:#[y]}{h0:#[hm]}
theorem W.kA(h:#[fs])(u:#[c8])(y:Y.length<=aC)(R:b0.length=k)(Z:b0++[#[bQ,Y]]=m0):#[aP,.List j i0,.ob k,m0]:=by subst R Z;exact Ev.kA h u y
theorem W.tup(h:#[fs])(u:#[c8])(y:Y.length<=aC)(R:b0.length=k)(Z:b0++[Ob.tup Y]=m0):#[aP,.Tuple j L0 i0,.ob k,m0]:=by subst R Z;exact Ev.tup h u y
theorem W.set(i:Nat)(h:#[aF,v])(P:#[es,k])(R:#[dW,k,k,l0])(Y:#[ez])(u:#[fS,#[hu,.Name l0 L]])(p:U.set i (aa v)=x0)(b:#[d0,x0,b0]):#[eJ,[.Name l0 L]]:=by subst p;exact aj.set i h P R Y u b
theorem W.su(i:Nat)(e:#[a6,U,aa,u])(h:#[aF,v])(j:fA B w n O (ek I) u v U b0 r o0)(P:#[es,k])(R:#[dW,k,k,l0])(Y:#[ez])(p:U.set i (aa r)=x0)(b:#[d0,x0,o0]):#[lg,.Name l0 L]:=by subst p;exact aj.su i e h j P R Y b
theorem W.xM(i j:Nat)(h:#[aF,.ob t])(n0:#[lh])(P:#[et,d])(r:#[jc,d,d])(f:#[gO,G])(A:#[dW,G,G,y])(M:i≠j)(Y:#[ez])(k:j<U.length)(Q:#[jB])(I:(#[fS,lb #[eC] a J=aw ab])\/(#[fS,lb #[eC] a J=aw (aa [x,y])]))(p:#[ff,u].set j (aa v)=x0)(b:#[d0,x0,b0]):#[eJ,#[eC]]:=by subst p;exact aj.xM i j h n0 P r f A M Y k Q I b
theorem W.vN(v:cN B w n O #[cy] #[cm])(c:tZ B f f0)(u:#[c8])(I:#[fs])(d:fc b0 Y e n0)(X:Fn B w m f n0 r)(l:m<=n)(P:e.Nodup)(b:∀x,r=.atom x->bU x=ae)(a:r.val b0.length=T)(Z:b0++r.obs=m0):#[aP,#[cU,#[cy],j],T,m0]:=by subst a Z;exact Ev.vN v c u I (X.call l d P b)
theorem W.BF(F:#[w])(i:Nat)(a:#[et,.globalImplicit])(p:d0 x=aa (.int z t))(c:#[kb]):#[aP,.Name x i0,#[U,z],H]:=Ev.BF (cN.glob F i a p c)
theorem W.step(h:aH w n t x y r)(Z:H=m0):fA B w n O t x y U H r m0:=by subst Z;exact h.up
theorem aef(h:J.scope=t.scope):lb f0 v J=lb f0 v t:=by unfold lb Env.kindOf Env.blockKind;rw[h]
def Us(j0:bt):aO:={scope:=j0,locals:=0,globals:=0,cells:=[]}
theorem W.Nr(i j:Nat)(h:#[aF,.ob t])(n0:#[lh])(P:#[et,d])(r:#[jc,d,d])(f:#[gO,G])(A:#[dW,G,G,y])(M:i≠j)(Y:#[ez])(k:j<U.length)(Q:#[jB])(I:∀J,lb #[eC] a J=aw ab)(p:#[ff,u].set j (aa v)=x0)(b:#[d0,x0,b0]):#[eJ,#[eC]]:=W.xM i j h n0 P r f A M Y k Q (.inl λJ _=>I _) p b
theorem W.Nt(i j:Nat)(h:#[aF,.ob t])(n0:#[lh])(P:#[et,d])(r:#[jc,d,d])(f:#[gO,G])(A:#[dW,G,G,y])(M:i≠j)(Y:#[ez])(k:j<U.length)(Q:#[jB])(I:lb #[eC] a (Us O.sc)=aw (aa [x,y]))(p:#[ff,u].set j (aa v)=x0)(b:#[d0,x0,b0]):#[eJ,#[eC]]:=W.xM i j h n0 P r f A M Y k Q (.inr λJ h=>(aef h).trans I) p b
theorem W.kq{i:Int}{k q:Nat}(h:i=q):#[il,#[cr],#[U,q]]:=by subst h;exact Ev.ny
end
section
variable{B:Bs}{w:aD}{n m:Nat}{O:Gm}{d0 g0:#[n]}{U x0:#[o]}{H b0 o0 w0 m0:#[l]}{a b c o:aT}{i0 y0:ba}{l:#[y]}{h0:#[al]}{J:aO}{S:#[t]}
def dx(H:#[l])(x:V)(b:Bool):Prop:=match x with|.none=>b=ag|.bool x=>b=x|.int i=>b=(i !=0)|.str t=>#[fJ]/\b=!t.isEmpty|.ob i=>(∃X,#[b1]/\#[bp]/\b=!X.isEmpty)\/(∃X,#[f8]/\#[bp]/\b=!X.isEmpty)
theorem dx.none:dx H .none ag:=rfl
theorem dx.bool:dx H #[cO,x] x:=rfl
theorem dx.int:dx H #[cr] (i !=0):=rfl
theorem dx.LS{i:Nat}:dx H #[cr] (i !=0):=by show(i !=0)=((i:Int)!=0);rw[mM];simp
theorem dx.str(h:#[fJ]):dx H #[bm] (!t.isEmpty):=#[bE,h]
theorem dx.list(h:#[b1])(y:#[bp]):dx H #[ci] (!X.isEmpty):=.inl #[Q,h,y,rfl]
theorem dx.tup(h:#[f8])(y:#[bp]):dx H #[ci] (!X.isEmpty):=.inr #[Q,h,y,rfl]
theorem Ks{Y:#[bb]}{X:#[B]}(h:Y.size=X.length):Y.isEmpty=X.isEmpty:=by cases X with
|nil=>simp at h;subst h;rfl
|cons x l=>
 have:Y.size≠0:=by rw[h];simp
 simp;intro e;subst e;exact this rfl
theorem afc{A:aS}{s:au}{v:ai}{x:V}{t:Bool}{Q:#[aI,Bool]}{E:#[C]}(R:#[ah])(p:#[bl,x])(n0:dx H x t)(h:∀p0,Q t #[fv]):#[as,truthy v]:=by have u:aC=2^24:=rfl;cases x with
|none=>cases p;cases n0;exact PyProof.Rows.truthy_none (h s.toks)
|bool b=>cases p;cases n0;exact sk (h s.toks)
|int i=>obtain⟨k,rfl⟩:=p;cases n0;exact ajt (h s.toks)
|str t=>
 obtain⟨y,k,rfl,e⟩:=p;obtain⟨n0,rfl⟩:=n0;have c:=St.pz e;refine aka #[f] ?_;have:((y.length:Int)!=0)=!t.isEmpty:=by rw[c];cases t<;>simp<;>omega
 rw[this];exact h _
|ob i=>
 rcases n0 with⟨X,N,a0,rfl⟩|⟨X,N,a0,rfl⟩;.obtain⟨a,Y,k,rfl,_,g,z⟩:=R.list p N;refine wpAny_truthy_list #[cG,k] (by rw[z.size];omega) ?_;rw[Ks z.size];exact h _
 .obtain⟨a,Y,k,rfl,_,g,z⟩:=R.tup p N;refine PyProof.Rows.truthy_tuple #[cG,k] (by rw[z.size];omega) ?_;rw[Ks z.size];exact h _
theorem Et.val(h:#[aF,x])(n0:dx b0 x t)(I:∀J d,isTrue a J d=(do
 let v<-d;standAt a.pos;va [v] (truthy v))):#[bZ,Et,a,t]:=λA J S s Q E G M q=>wpAny_isTrue_value (#[a8,h,λu0 k0 F C T=>afc C.rel T n0 λp0=>q _ _ (C.toks _)]) (I _ _)
theorem Et.Mh(h:#[bZ,Et,a,t])(n0:(!t)=r):#[bZ,Et,.UnaryOp .Not a i0,r]:=λA J S s Q E G M q=>by subst n0;exact wpAny_isTrue_Not (#[a8,h,q])
def dE(B:Bs)(w:aD)(n:Nat)(O:Gm)(I:BoolOp)(a:List aT)(U:#[o])(H:#[l])(b:Bool)(m0:#[l]):Prop:=#[m8,allTrue I a J]
def di(B:Bs)(w:aD)(n:Nat)(O:Gm)(I:BoolOp)(t:Bool)(j:List aT)(U:#[o])(H:#[l])(b:Bool)(m0:#[l]):Prop:=if I=.And then#[aa,t,#[cj,dE,I,j,b,m0],b=ag/\m0=H]else#[aa,t,b=ae/\m0=H,#[cj,dE,I,j,b,m0]]
theorem di.qk{b:Bool}(n0:t=ae)(h:#[cj,dE,.And,j,b,m0]):di B w n O .And t j U H b m0:=by subst n0;simpa[di]using h
theorem di.vw(n0:t=ag):di B w n O .And t j U H ag H:=by subst n0;simp[di]
theorem di.Mq(n0:t=ae):di B w n O .Or t j U H ae H:=by subst n0;simp[di]
theorem di.mC{b:Bool}(n0:t=ag)(h:#[cj,dE,.Or,j,b,m0]):di B w n O .Or t j U H b m0:=by subst n0;simpa[di]using h
theorem dE.Al:#[cj,dE,.And,[],ae,H]:=#[dc,wpAny_allTrue_And_nil,q s _ #[ek]]
theorem dE.xp:#[cj,dE,.Or,[],ag,H]:=#[dc,wpAny_allTrue_Or_nil,q s _ #[ek]]
theorem dE.cons(h:#[bZ,Et,a,t])(k:di B w n O I t j U b0 r o0):#[cj,dE,I,a::j,r,o0]:=λA J S s Q E G M q=>by cases I with
|And=>refine wpAny_allTrue_And_cons (#[a8,h,λk0 F C=>?_]);cases t with|true=>exact#[iR,λm R b=>q _ _ #[dg,b]]|false=>obtain⟨rfl,rfl⟩:=k;exact q _ _ C
|Or=>refine wpAny_allTrue_Or_cons (#[a8,h,λk0 F C=>?_]);cases t with|true=>obtain⟨rfl,rfl⟩:=k;exact q _ _ C|false=>exact#[iR,λm R b=>q _ _ #[dg,b]]
theorem Et.qo(h:#[cj,dE,I,j,r,b0]):#[bZ,Et,.BoolOp I j i0,r]:=#[dc,wpAny_isTrue_BoolOp,h A _ _ s Q E G M q]
theorem Ev.neg(h:#[aF,#[cr]]):#[b6,.UnaryOp .USub a i0,#[U,-i]]:=#[dc,wpAny_UnaryOp,#[a8,h,λu0 k0 F C⟨t,e⟩=>by subst e;exact ajr (#[a9,C.toks _,#[bu]])]]
theorem W.iU{T e:String}(g:#[b6,o,x])(p:VT b0 x T)(N:zB T)(f:ox T G e)(b:#[l4])(u:#[c8])(I:#[j7])(X:#[hl,#[c5,e],x])(L:#[ec])(P:#[b7])(y:j.length<30):#[aP,#[i3],r,w0]:=Ev.iU g p N f b u I X L P y
theorem bZ.YN(h:∀(A:aS)(t:gn)(s:au)(Q E:#[C]),(∀z p0,VR [] z r->Q z #[fv])->#[as,dX f [.int i t]]):#[cj,bZ,f,[.int i],r,H]:=λA J S Z s Q E G M p q=>by cases p with|cons N a0=>cases a0;obtain⟨t,rfl⟩:=N;exact h A t s Q E λz p0 b=>#[fA,b.nil _]
theorem W.HL(g:#[b6,o,#[cr]])(L:#[eb,"bit_length"])(P:#[b7]):#[b6,#[cU,#[c4,ak "bit_length",y0],[]],.int (bX i)]:=Ev.iU g #[p] aii aik ais rfl .nil (bZ.YN λA t s Q E q=>#[fE,PyProof.Rows.call_int_bit_length]) L P #[j]
theorem Cl.ID{i j:Nat}(f:j≠0)(C:pY i j=ag)(R:H.length=k)(a:H++[Ob.tup [.int (i/j:Nat),.int (i%j:Nat)]]=m0):#[g2,"divmod",[.int i,.int j],.ob k]:=λA J S Z s Q E G M p q=>by subst R a;cases p with|cons N a0=>cases a0 with|cons a0 T=>cases T;obtain⟨t,rfl⟩:=N;obtain⟨u,rfl⟩:=a0;refine divmod_int #[f] ?_ (.inl C);refine#[kp,aB.push M rfl #[Q,0,rfl,.cons #[bM,by rw[St.th]] #[bn,#[bM,by rw[St.CA]]]]]
end
section
variable{B:Bs}{w:aD}{n m:Nat}{O:Gm}{d0 g0:#[n]}{U x0:#[o]}{H b0 o0 w0 m0:#[l]}{a b c o:aT}{i0 y0:ba}{l:#[y]}{h0:#[al]}{J:aO}{S:#[t]}
theorem aM.push{Y:#[bI]}(h:#[gc])(p:VR S u v):#[a1,(Y.push u).toList,X++[v]]:=by rw[pF];exact h.append (.cons p .nil)
theorem aB.list{a:ao}{q0:#[B]}(R:#[ah])(P:#[c2])(r:O.fz<=i)(g:#[ch,a,#[l7]])(m:#[a1,(f Y).toList,q0])(t:Nat):#[aQ,H.set i (.list q0),S,#[cQ,s.heap.update a (dQ f),t]]:=aB.Cy R P r (qa ..) (Mj g) ⟨_,IsL.update g f,_,_,rfl,m⟩
theorem Cl.append(h:#[b1])(r:O.fz<=i)(y:#[bp])(b:H.set i (.list (X++[v]))=m0):#[g2,"list.append",[.ob i,v],.none]:=λA J S Z s Q E G M p q=>by subst b;cases p with|cons N a0=>cases a0 with|cons a0 T=>cases T;obtain⟨a,Y,k,rfl,P,g,z⟩:=M.list N h;refine kV zu #[P,g] RD (Rz _ _) (list_append a _ k _ #[kU]) ⟨g,(#[a9,aB.list M P r g (z.push a0) _,rfl])⟩
theorem Cl.reverse(h:#[b1])(r:O.fz<=i)(y:#[bp])(b:H.set i (.list X.reverse)=m0):#[g2,"list.reverse",[.ob i],.none]:=λA J S Z s Q E G M p q=>by subst b;cases p with|cons N a0=>cases a0;obtain⟨a,Y,k,rfl,P,g,z⟩:=M.list N h;refine kV RP #[P,g] ahm (agt _) (AutoSeq1.list_reverse_list_0 a _ k #[kU]) ⟨g,(#[a9,aB.list M P r g (by rw[Array.toList_reverse];exact z.rev) _,rfl])⟩
theorem Cl.KU(h:#[b1])(y:#[bp])(b:X.length=r):#[fC,"len",[.ob i],#[bz,r]]:=λA J S Z s Q E G M p q=>by subst b;have u:aC=2^24:=rfl;cases p with|cons N a0=>cases a0;obtain⟨a,Y,k,rfl,P,g,z⟩:=M.list N h;refine Calls.call_len_list #[cG,k] (by rw[z.size];omega) (#[fA,#[bM,by rw[z.size]]])
theorem Cl.Cg(y:#[fJ])(b:t.length=r):#[fC,"len",[.str t],#[bz,r]]:=λA J S Z s Q E G M p q=>by subst b;have u:aC=2^24:=rfl;cases p with|cons N a0=>cases a0;obtain⟨x,k,rfl,e⟩:=N;have z:=St.pz e;refine Sd (#[f]) (#[fA,#[bM,by rw[z]]])
theorem W.append(g:#[fD])(I:#[bx,e,v])(N:∃q0,#[a6,b0,.list,q0])(h:#[a6,o0,.list,X])(r:O.fz<=i)(y:#[bp])(Z:o0.set i (.list (X++[v]))=m0)(u:#[ee])(L:#[eb,"append"])(P:#[b7]):#[aP,#[gV,"append"],.none,m0]:=#[mF,zu,RU,Cl.append h r y Z]
theorem W.reverse(g:#[fD])(h:#[hR])(r:O.fz<=i)(y:#[bp])(Z:b0.set i (.list X.reverse)=m0)(L:#[eb,"reverse"])(P:#[b7]):#[aP,#[cU,#[c4,ak "reverse",y0],[]],.none,m0]:=Ev.iU g (.inl #[P,h]) zt RP ajb rfl .nil (Cl.reverse h r y Z) L P #[j]
end
section
variable{B:Bs}{w:aD}{n m:Nat}{O:Gm}{d0 g0:#[n]}{U x0:#[o]}{H b0 o0 w0 m0:#[l]}{a b c o:aT}{i0 y0:ba}{l:#[y]}{h0:#[al]}{J:aO}{S:#[t]}
def tu(a c:Int)(n:Nat):#[B]:=(aR n).map λk=>V.int (a+(k:Nat)*c)
theorem hl.range{a c:Int}:hl B w n (tu a c k) I L #[fO] (λi _ h=>IsRangeIter h I (a+i*c) (k-i) c):=by refine hl.aJ (P:=λi v=>∃t,v=.int (a+i*c) t) (λi v⟨t,e⟩x z=>?_) (λA G=>by rw[(by simp[tu]:#[a5,(tu a c k),k])];exact Walks.range G I a c k) (λi h b=>#[bM,b]) λi h b=>#[g9,b,(by cases d;cases v),(by cases d)];.unfold tu at z;rw[cg]at z;obtain⟨j,N,rfl⟩:=dW.mp z;obtain⟨a0,T⟩:=bw.mp N;rw[yH]at T;subst T;exact⟨t,e⟩
theorem CQ{k:Nat}(C:#[aQ,b0,F,k0])(a:uG x y z=ae)(R:pX x y z=k)(c:tu x z k=X)(q:#[mm,#[fO]]):#[dT,#[cP,kY,k0.heap.objs.size],{k0 with heap:=k0.heap.push #[aj,"range",.fields,#[.int x t,.int y u,.int z v]],toks:=p0}]:=by
 subst c;refine wpAny_pyIter_range (IsRange.new ..) a ?_;refine q _ _ _ _ #[dg,aB.heap C.rel ?_ ((λo0 m0 b o e=>bN _ (bN _ e):∀o0 m0 b o,k0.heap.get? b=aa o->((k0.heap.push o0).push m0).get? b=aa o) _ _)] hl.range ?_ ?_ λl=>?_;.rw[da,da];exact aI (dP _) (dP _)
 .rw[(by simp:(x+(0:Nat)*z)=x),(by simp_all:(k-(0:Nat))=pX x y z)];exact#[aW]
 .rw[da];exact eO C.fx.size
 .refine#[ac,C.rel.fX _ l,?_];simp
theorem ck.MK{N:Nat}(v:#[jG])(u:#[ee])(h:#[b6,e,#[U,N]])(b:N<2^62)(c:#[jO,(aR N).map,k]):ck B w n O #[cU,#[aL,"range",p],[e]] U H X #[fO] b0:=λA J S s Q E G M q=>by refine#[iQ];rw[#[dG]];refine rV (fZ _ _) (eR (#[a8,(cy.cons h .nil),λZ k0 F C T=>?_]));cases T with
|cons T i=>
 cases i;obtain⟨t,rfl⟩:=T;refine call_range_1 (CQ C (small_one #[j] #[j] #[f] #[f]) (k:=N) ?_ ?_ q);.rw[rangeSize_one];split<;>omega
 .rw[<-c];apply mX;intro k _;simp
theorem ck.ML{M N:Nat}(v:#[jG])(u:cD [e,f]=ae)(h:#[b6,e,#[U,M]])(c0:#[bx,f,#[U,N]])(l:M<2^62)(b:N<2^62)(c:#[jO,(aR (N-M)).map,M+k]):ck B w n O #[cU,#[aL,"range",p],[e,f]] U H X #[fO] o0:=λA J S s Q E G a q=>by refine ir (v A _ _ _ _ s _ E G a ?_);rw[#[dG]];refine rV (fZ _ _) (eR (#[cs,(cy.cons h #[bn,c0]),s,G,a,λZ k0 F C T=>?_]));cases T with
|cons T i=>cases i with
|cons i x=>
 cases x;obtain⟨t,rfl⟩:=T;obtain⟨r,rfl⟩:=i;refine call_range_2 (CQ C (small_one #[f] #[f] #[f] #[f]) (k:=N-M) ?_ ?_ q);.rw[rangeSize_one];split<;>omega
 .rw[<-c];apply mX;intro k _;simp
end
section
variable{B:Bs}{w:aD}{n m:Nat}{O:Gm}{d0 g0:#[n]}{U x0:#[o]}{H b0 o0 w0 m0:#[l]}{a b c o:aT}{i0 y0:ba}{l:#[y]}{h0:#[al]}{J:aO}{S:#[t]}
theorem hl.rev(a0:i<L):hl B w n X.reverse I L (λH=>#[b1]) (λk S h=>∃a,#[c2]/\a≠I/\h.IsRevIter I a (X.length-1-k))where
 next:=λk x A O J S U H s Q E z⟨a,c,F,P⟩r G M q=>by
  obtain⟨o,g,Y,m,rfl,N⟩:=M.store i a _ c r;have R:=by simpa using#[V,z]
  rw[PZ R]at z;obtain⟨u,y,p⟩:=N.at z;have e:(X.length:Int)-1-k=(X.length-1-k:Nat):=by omega
  rw[e]at P;refine wpAny_pyNext_rev_item P #[cG,m] y λc0 T f=>q u c0 s.toks p #[bP,a,c,F] λb o Z e=>f.extBut b o Z e;rw[(by omega:(X.length:Int)-1-(k+1:Nat)=(X.length-1-k:Nat)-1)];exact T
 done:=λA O J S U H s Q E⟨a,c,F,P⟩r G M q=>by
  have e:(X.length:Int)-1-X.reverse.length=-1:=by rw[uh];omega
  rw[e]at P;exact wpAny_pyNext_rev_end G.handled P λc0 f=>q c0 s.toks λb o Z e=>f b o Z e
 mono:=λk S j h c0⟨a,c,F,P⟩C R=>⟨a,(C i a0).trans c,F,P.at R⟩
 live:=λk S h⟨a,_,_,o,g,_⟩=>⟨o,g⟩
 hH:=λk S h⟨a,_,_,o,g,_,l⟩=>#[g9,g,(by rw[l]at d;cases d;cases v),#[Y]]
 self:=λk S A s Q E _⟨a,_,_,P⟩q=>Th P q
theorem ck.rev(v:cN B w n O #[aL,"reversed",p] (.type "reversed"))(u:#[ee])(h:#[b6,e,#[ci]])(P:#[hR])(m:X.reverse=q0):ck B w n O #[cU,#[aL,"reversed",p],[e]] U H q0 (λH=>#[b1]) b0:=λA J S s Q E G M q=>by subst m;refine#[iQ];rw[#[dG]];refine rV (fZ _ _) (eR (#[a8,(cy.cons h .nil),λZ k0 F C T=>?_]));cases T with|cons T c=>cases c;obtain⟨l,Y,k,rfl,y,g,z⟩:=C.rel.list T P;refine call_reversed_list #[cG,k] ?_;have t:(k0.heap.push (revObj l #[gz])).IsRevIter _ l (X.length-1-(0:Nat)):=#[Q,#[aW],rfl,by rw[<-z.size];simp[revObj]];refine#[mh,Th,t,hl.rev,t,λa=>#[kj,a]]
end
theorem UR(n:¬(a=i0.line/\b=i0.col))(l:#[g])(h:FY l):jI i0 (l++[cF a,cF b,c])=jI i0 l:=by fun_induction FY l with
|case1=>
 have:(a==i0.line&&b==i0.col)=ag:=by rw[yk];intro c0;grind
 simp[ja,cF,jI,this,gc,if_false]
|case2 e t A u x m Q=>
 simp only[fH,jI];split;.rfl
 .exact Q h
|case3 l N a0=>exact h.elim
section
variable{B:Bs}{w:aD}{n m:Nat}{O:Gm}{d0 g0:#[n]}{U x0:#[o]}{H b0 o0 w0 m0:#[l]}{a b c o:aT}{i0 y0:ba}{l:#[y]}{h0:#[al]}{J:aO}{S:#[t]}
theorem US{s:au}{c P:ao}(X:J.code=.ref c)(u:s.heap.IsCode c P h)(d:s.heap.get? P=aa (nS h))(r:jI i0 h.toList=ab)(l:∀z(Q:#[C]),(∀C c0 p0,(#[fb])->#[R,C]->C<c0.objs.size->c0.CodeRec (.ref C) t->#[bs,C,#[fa]])->#[eq,F z])(H:∀C c0 p0,zA P s.heap c0->#[R,C]->C<c0.objs.size->c0.IsCode c P #[nU]->c0.get? P=aa (nS #[nU])->c0.CodeRec (.ref C) t->#[bs,C,#[fa]]):#[eq,codeAt J i0 F]:=by
 obtain⟨o,Y,G,v,U,k,f0,j,L,I,g,a,d0,a0,m,S,b0,q,T,x,n⟩:=id u;unfold codeAt;rw[X];refine#[bF,Aa,g,a];rw[d0];refine#[bF,Aa,d,rfl];rw[r,a0,m,S,b0];refine af (l _ _ λC c0 p0 R O f B=>?_);have e0:=R _ _ d;have y:(h++#[cF i0.line,cF i0.col,iL C]).toList=h.toList++[cF i0.line,cF i0.col,.ref C]:=by simp
 have p:FP (#[mR]) (nS h)=nS #[nU]:=by show nS (if(jI i0 h.toList).isSome=ae then h else h++#[cF i0.line,cF i0.col,.ref C])=_;rw[r];rfl
 refine#[bF,wpAny_updateFieldsOfTheText,e0,rfl];have w:=uN (λo=>FP (#[mR]) o) e0 (Sb #[p]);rw[p]at w;have N:zA P c0 (c0.update P λo=>FP (#[mR]) o):=(qa ..).extBut;refine#[bF,Aa,w,rfl];rw[y,codeAmong_snoc _ x r];refine aA (H _ _ _ (λb i Z e=>N b i Z (R b i e)) O (#[Y]) ?_ w ?_);.exact⟨o,Y,G,v,U,k,f0,j,L,_,N _ _ n (R _ _ g),a,d0,a0,m,S,b0,w,rfl,by rw[y];exact TriplesOk_snoc _ _ _ _ x,n⟩
 .obtain⟨n0,j0,m0,l0,g0,h0,k0⟩:=B;cases g0;exact⟨_,j0,m0,l0,rfl,N _ _ (hu (ey (bk d) O)) h0,k0⟩
theorem NG{s:au}{x:fJ}{k0:CodeContext->dF ai}{Q:#[C]}(z:x∈B.fl)(X:J.code=.ref x.c)(k:#[c9])(u:hA B)(l:∀f0(Q:#[C]),(∀g c0 p0,(#[fb])->#[R,g]->g<c0.objs.size->#[kc,g]->#[bs,g,#[fa]])->#[eq,k0 f0])(H:∀g c0 p0,#[ef]->(#[iK])->GH B c0->#[kc,g]->#[aq,g]->#[bs,g,#[fa]]):#[eq,codeAt J x.pos k0]:=by
 obtain⟨v0,S,a,f,O⟩:=k.2.2.1 x z;rcases O with Y|⟨g,v,a0,n0⟩
 .refine US X a f.1 Y l λg c0 p0 R L c j0 r0 a0=>?_;have I:=aI L (eh c);have g0:x.P∈B.tabs:=bK.mpr #[aA,x,z];have i:#[iK]:=λb o e Z=>R b o (#[eL,Z,g0]) e;have U:#[aq,g]:=λh=>#[bC,u.tab g h,aI k.1 L];refine H g c0 p0 I i ⟨aI k.1 I,λb o e Z=>i b o (k.2.1 b o e Z) Z,λy m=>?_,aI k.2.2.2 I⟩ a0 U;obtain⟨t0,d0,s0,l0,q0⟩:=k.2.2.1 y m;refine#[a3,t0];by_cases j:y.P=x.P
  .obtain⟨e0,u0⟩:=((u y m).2.2 x z).2 j;have o0:d0=S:=#[Y];subst o0;refine#[Q,by rw[e0,j];exact j0,#[a3,by rw[j];exact r0],?_];.obtain⟨_,i0,h0,F,d⟩:=l0;exact⟨i0,h0++#[nA],F,by simp_all⟩
   have b0:FY d0.toList:=by obtain⟨_,_,_,_,_,_,_,_,_,_,_,_,_,_,_,_,_,_,_,h,_⟩:=a;exact h
   rcases u0 with rfl|n;.refine .inr ⟨g,?_,a0,U⟩;rw[show(d0++#[cF y.pos.line,cF y.pos.col,.ref g]).toList=d0.toList++[cF y.pos.line,cF y.pos.col,.ref g]by simp];exact codeAmong_snoc _ b0 Y
   .have e:jI y.pos (d0++#[nA]).toList=jI y.pos d0.toList:=by rw[show(d0++#[nA]).toList=d0.toList++[cF x.pos.line,cF x.pos.col,.ref g]by simp];exact UR (λh=>n ⟨h.1.symm,h.2.symm⟩) _ b0
    rw[e];rcases q0 with h|⟨P,N,⟨q,C,m0,r,t,w,p⟩,T⟩;.exact .inl h
    .cases t;exact .inr ⟨P,N,⟨P,C,m0,r,rfl,i _ _ w T,p⟩,T⟩
  .refine#[bP,d0,s0.extBut R (((u y m).2.2 x z).1) j,⟨R _ _ j l0.1,l0.2⟩];rcases q0 with h|⟨P,N,⟨q,C,m0,r,t,w,p⟩,T⟩;.exact .inl h
   .cases t;exact .inr ⟨P,N,⟨P,C,m0,r,rfl,i _ _ w T,p⟩,T⟩
 .exact wpAny_codeAt_hit X a v (H g s.heap s.toks #[aJ] (λ_ _ e _=>e) k a0 n0)
theorem abm(z:x∈B.fl)(X:J.code=.ref x.c)(k:#[c9])(u:hA B)(H:∀C c0 p0,#[ef]->(#[iK])->GH B c0->#[kc,C]->#[aq,C]->#[bs,C,#[fa]]):#[eq,functionCode J x.pos e G x.qual p d r0]:=NG z X k u (λr Q q=>wpAny_newCodeX λC _ c0 p0 R O _ a _ h=>q _ _ _ R O a.lt.1 h) H
end
def fV(J:aO):#[g4]->List (aq×ao)->List (aq×ao)|[],A=>A|(n,k)::r,A=>#[cb,k,.free,fV J r ((n,(J.cells.lookup n).getD 0)::A),fV J r A]
theorem vR:fV J ((n,k)::r) A=if(k==.free)=ae then fV J r ((n,(J.cells.lookup n).getD 0)::A)else fV J r A:=rfl
theorem UH(h:J.cells.lookup n=aa c):cellOf J n=aw c:=by unfold cellOf;rw[h]
theorem Ig(h:∀p∈d.names,#[jP,p.2,p.1]):closureFor d J=aw #[fY]:=by
 have o:∀l A,(∀p∈l,#[jP,p.2,p.1])->(forIn l A λx I=>match x with
  |(G,a)=>if(a==jG)=ae then do
   let c<-cellOf J G;aw (lK ((G,c)::I))else aw (lK I):dF _)=aw (fV J l A):=by intro l;induction l with
 |nil=>intro A _;rfl
 |cons p l Q=>
  intro A y;obtain⟨n,k⟩:=p;rw[lM];by_cases R:(k==jG)=ae;.obtain⟨c,X⟩:=zh.mp (y _ fU #[Y]);simp only[R,if_true,UH X,pure_bind];rw[Q _ λp C=>y p (dO _ C)];rw[vR,if_pos R,X];rfl
  .simp only[R,if_false,pure_bind,gc];rw[Q _ λp C=>y p (dO _ C)];rw[vR,if_neg R]
 exact(bind_pure _).trans (o _ _ h)
section
variable{B:Bs}{w:aD}{n m:Nat}{O:Gm}{d0 g0:#[n]}{U x0:#[o]}{H b0 o0 w0 m0:#[l]}{i0 y0:ba}{J:aO}{S:#[t]}
theorem Yk(F:#[w])(R:#[ah])(z:x∈O.own)(M:∀q∈d.names,#[jP,q.2,q.1])(j0:∀b,r0=.stmts b->docOf b=ab)(h:∀f0 c0 p0,f0.params=p->f0.body=r0->f0.scope=d->#[hz]->#[hy]->f0.closure=fV J d.names []->f0.defaults=.none->#[kG]->f0.qualname=x.qual->#[ef]->(#[iK])->GH B c0->(∃c,#[gu,c]/\#[aq,c]/\#[kc,c])->#[bs,c0.objs.size,#[cQ,c0.push #[aj,"function",.func,f0],p0]]):#[as,Gr x.name x.qual p r0 d J [] [] [] x.pos l0]:=by
 obtain⟨j,k,a⟩:=R.kb x z;simp only[Gr,List.zip_nil_right,List.filterMap_nil,Qd,if_true,pure_bind,Ig M]
 have r:∀u N k0,#[R,N.objs.size]->(#[ev,s.heap.get?,N.get?])->#[dT,do
  let m<-functionCode J x.pos l0 x.name x.qual p d r0;let h0<-builtinsFor J.globals J.builtins;let m0<-nsGet J.globals "__name__";let i0<-match r0 with|.stmts b=>(match docOf b with|aa s=>mkText s|ab=>aw .none)|.expr _=>aw .none
  newObj (.type "function") (.func {name:=x.name,qualname:=x.qual,params:=p,body:=r0,scope:=d,globals:=J.globals,closure:=fV J d.names [],closureTuple:=u,code:=m,builtins:=h0,defaults:=.none,kwdefaults:=.none,annotations:=ab,pyModule:=m0.getD .none,doc:=i0}),#[cQ,N,k0]]:=by
  intro u N k0 L n;have P:=R.gh.grow L n;refine af (abm j k P R.slt λC c0 p0 y v T G l=>?_);obtain⟨v0,o,i,X,I,t,a0,b0,e0⟩:=F.bm;have f:c0.Ns J.globals d0:=by rw[R.glob];exact F.gs T
  refine af (GA f i X #[cW,T,t,I] a0 b0 e0 ?_);refine#[bd,nq,f];have Y:∀i0,#[dT,newObj (.type "function") (.func {name:=x.name,qualname:=x.qual,params:=p,body:=r0,scope:=d,globals:=J.globals,closure:=fV J d.names [],closureTuple:=u,code:=.ref C,builtins:=cU,defaults:=.none,kwdefaults:=.none,annotations:=ab,pyModule:=(d0 "__name__").getD .none,doc:=i0}),#[fa]]:=λi0=>af (wpAny_alloc (aA (h _ c0 p0 rfl rfl rfl R.glob rfl rfl rfl rfl rfl (aI L y) (λb o e Z=>v b o (n b o e) Z) T ⟨C,rfl,l,G⟩)));cases r0 with|stmts b=>dsimp;rw[j0 b rfl];exact#[db,Y _]|expr e=>dsimp;exact#[db,Y _]
 by_cases g:#[fY].isEmpty=ae;.simp[g,if_true,pure_bind];exact r .none s.heap s.toks #[aJ] λ_ _ e=>e
 .simp only[g,if_false,gc];refine af ?_;refine wpAny_newObjAsIs_type ?_;exact r _ _ s.toks (by rw[da];exact dP _) #[e0]
end
def gi(p:lV)(r0:uK)(j0:bt)(I:#[bA])(o:cp):Prop:=∃f0,o=#[jC]/\f0.params=p/\f0.body=r0/\f0.scope=j0/\f0.globals=el/\f0.builtins=cU/\f0.closure.map (·.1)=I/\f0.defaults=.none/\f0.kwdefaults=.none
def iQ:#[g4]->#[bA]->#[bA]|[],A=>A|(n,k)::r,A=>#[cb,k,.free,iQ r (n::A),iQ r A]
theorem vS:∀(l:#[g4])(A:List (aq×ao)),(fV J l A).map (·.1)=iQ l (A.map (·.1))
 |[],A=>rfl
 |(n,k)::r,A=>by
  rw[vR];unfold iQ;split;.exact vS r _
  .exact vS r _
theorem sI:∀(l:#[g4])(A:List (aq×ao)),(∀q∈l,#[jP,q.2,q.1])->(#[jr,A])->#[jr,fV J l A]
 |[],A,_,h=>h
 |(n,k)::r,A,y,h=>by
  rw[vR];split
  .have x:k=.free:=#[Y];obtain⟨c,X⟩:=zh.mp (y (n,k) fU x);refine sI r _ (λq O=>y q (dO _ O)) λp C=>?_;rcases bg.mp C with rfl|C;.rw[X];rfl
   .exact h p C
  .exact sI r _ (λq O=>y q (dO _ O)) h
def jn(i:#[bA])(j0:bt):Bool:=j0.names.all λq=>#[cb,q.2,.free,i.contains q.1,ae]
section
variable{B:Bs}{w:aD}{n m:Nat}{O:Gm}{d0 g0:#[n]}{U x0:#[o]}{H b0 o0 w0 m0:#[l]}{i0 y0:ba}{J:aO}{S:#[t]}{l:#[y]}{h0:#[al]}
theorem aB.TV{s:au}{t:Nat}{a:ao}(R:#[ah])(u:#[ef])(k:#[iK])(d:GH B c0)(I:#[R,a])(g:∃o,#[dz,a]/\OR (S++[a]) o e0)(X:∀R,e0=.raw R->gg B J c0 a)(w:∀n R M,e0=.rel n R M->gJ B c0 a:=by exact#[eh])(f:#[jS,hk B c0 a P T]:=by exact#[h1]):#[aQ,H++[e0],S++[a],#[cQ,c0,t]]:=by
 refine#[j3,⟨rfl,rfl,.refl _,u,λb o e _ n0=>k b o e n0⟩]
 .rw[nC R.cY]at Z;rcases cZ.mp Z with q|q;.exact .inl q
  .rw[aZ.mp q];exact .inr I
 .refine aG.pa (R.keep u [] (λb o e _ n0=>k b o e n0) #[aO] d) u R.ju R.jt R.fX (λb Z=>by rw[aZ.mp Z];exact I) #[z] rfl R.gh.1 (λi b v c Z=>?_) λi b y c Z=>?_;.cases i with|zero=>simp at c Z;subst c;subst Z;exact g|succ i=>simp at c
  .cases i with|zero=>simp at c Z;subst c Z;exact dM.of X w f|succ i=>simp at c
theorem wC(h:jn O.mc j0=ae)(R:#[dk,S,H,C]):∀q∈j0.names,#[jP,q.2,q.1]:=λq b a=>by have:=fe.mp h q b;rw[a]at this;exact R.lu q.1 (by simpa using this)
theorem made(F:#[w])(R:#[ah])(z:x∈O.own)(M:#[eN])(q0:∀b,r0=.stmts b->docOf b=ab)(j0:iQ d.names []=G)(C:∀a L,#[aQ,H++[Ob.raw (gi p r0 d G)],S++[a],L]->VR (S++[a]) #[M,a] (.ob H.length)->#[bs,a,L]):#[as,Gr x.name x.qual p r0 d J [] [] [] x.pos s0]:=by
 subst j0;have v:=wC M R;refine Yk F R z v q0 λf0 c0 p0 i k n N Z T i0 h0 o0 u f l⟨c,X,k0,l0⟩=>?_;have I:c0.objs.size<=#[mO].objs.size:=#[z];have b0:∀b o,#[gE]->#[mO].get? b=aa o:=#[e0];have a0:#[mO].get? c0.objs.size=aa #[jC]:=#[aW];refine C _ _ (aB.TV R (aI u I) (λb o e n0=>b0 b o (f b o e n0)) (l.grow I b0) u #[aw,a0,?_] λy _=>?_) ?_;.refine⟨f0,rfl,i,k,n,N,Z,?_,i0,h0⟩;rw[T];exact vS _ _
 .intro o e0 g j;rw[a0]at g;cases g;cases j;refine#[a3,#[bP,c,X,k0]];.rw[o0];obtain⟨P,m0,Y,t,e,m,q,r⟩:=l0;exact⟨⟨P,m0,Y,t,e,b0 _ _ m,q,r⟩,(R.gh.2.2.1 x (R.kb x z).1).1⟩
  .rw[T];exact sI _ _ v #[ck]
 .exact#[P,by rw[<-R.len];simp]
theorem aj.It(F:#[w])(i j:Nat)(c:#[av,O.own,x])(Y:x.name=G)(m:x.pos=i0)(P:#[G,O.sc.names,(G,k)])(R:#[dW,k,k,G])(y:#[ez])(I:#[eN])(e0:docOf r0=ab)(c0:#[ln])(f0:∀J,annTrees z ab J=[])(a0:iQ d.names []=N)(Z:H++[#[js,.stmts,N]]=m0)(u:H.length=q)(p:U.set i (aa (.ob q))=x0)(r:#[d0,x0,m0]):#[dA,.FunctionDef G z r0 [] ab [] d ab G i0]:=by
 refine#[ic,λo X L=>#[eI,X=U.set i (aa (.ob H.length)),L=H++[#[js,.stmts,N]]],λA J S s Q E f M q=>?_,λX L h=>#[Y],λo X L g h=>#[ac,h.1,g]];rw[exec_def];refine#[gT];rw[c0 J,f0 J];refine#[a0,wpAny_evalAll_nil];refine#[a0,cj];refine aA ?_
 have b0:qualnameIn J G G=x.qual:=by
  unfold qualnameIn;rw[M.kindOf P];have:(aa k==aa NameKind.globalExplicit)=ag:=by rcases R with rfl|⟨rfl,_⟩<;>rfl
  rw[this,#[eW],<-(M.kb x (bz c)).2.2,Y]
 rw[b0];subst Y m;refine made F M (bz c) I (λb e=>by cases e;exact e0) a0 λa k0 C T=>?_;refine af (dR (af (Gz (aG.hg C.rel P R y T λv t=>?_))));exact aA (q .next _ _ _ v _ #[cc] #[dg,t] rfl)
end
def eQ(n:#[g4]):#[g4]->#[jk]|[]=>[]|(l0,k)::r=>#[aa,k==.free,n.findIdx? (λq=>q.1==l0&&(q.2==.cell||q.2==.free)),ab]::eQ n r
def cS(U:#[o]):#[jk]->#[B]->#[o]|[],_=>[]|_::r,v::Y=>aa v::cS U r Y|aa j::r,[]=>(match U[j]? with|aa (aa x)=>aa x|_=>ab)::cS U r []|ab::r,[]=>ab::cS U r []
theorem AP:∀{l:#[g]}{i j:Nat},#[a6,(eQ n l),aa,j]->∃l0 k,#[G,l,(l0,.free)]/\#[av,n,(l0,k)]/\(k=.cell\/k=.free)
 |[],_,_,h=>by simp[eQ]at h
 |(l0,k)::r,0,j,h=>by
  have c0:#[aa,k==.free,n.findIdx? (λq=>q.1==l0&&(q.2==.cell||q.2==.free)),ab]=aa j:=by simpa[eQ]using h
  split at c0;.rename_i R;have x:=beq_iff_eq.mp R;subst x;obtain⟨f,N,_⟩:=PT.mp c0;simp at N;refine⟨_,_,rfl,?_,N.2⟩;rw[bD _,<-N.1]
  .cases c0
 |_::r,i+1,j,h=>by obtain⟨l0,k,N,a0⟩:=AP (by simpa[eQ]using h);exact#[Q,k,by simpa using N,a0]
theorem qq{U:#[o]}:∀{l:#[jk]}{Y:#[B]}{i:Nat}{x:V},#[fU,(cS U l Y)]->#[G,Y,x]\/∃j,#[a6,l,aa,j]/\U[j]?=aa (aa x)
 |[],_,_,_,h=>by simp[cS]at h
 |_::r,v::Y,0,x,h=>by simp[cS]at h;subst h;exact .inl (rfl)
 |_::r,v::Y,i+1,x,h=>by
  have c0:#[fU,(cS U r Y)]:=by simpa[cS]using h
  rcases qq c0 with N|⟨j,N,a0⟩;.exact .inl (by simpa using N)
  .exact#[nd]
 |aa j::r,[],0,x,h=>by
  have c0:(match U[j]? with|aa (aa x)=>aa x|_=>ab)=aa x:=by simpa[cS]using h
  refine .inr #[bN,j,rfl];split at c0;.grind
  .cases c0
 |ab::r,[],0,x,h=>by simp[cS]at h
 |aa j::r,[],i+1,x,h=>by
  have c0:#[fU,(cS U r [])]:=by simpa[cS]using h
  rcases qq c0 with N|⟨j,N,a0⟩;.simp at N
  .exact#[nd]
 |ab::r,[],i+1,x,h=>by
  have c0:#[fU,(cS U r [])]:=by simpa[cS]using h
  rcases qq c0 with N|⟨j,N,a0⟩;.simp at N
  .exact#[nd]
def gQ(r:V)(m0:#[l]):#[al]:=λo _ s=>(#[no])/\s=m0
theorem gQ.ret:gQ r s (.ret r) v s:=#[bE,#[dq]]
theorem gQ.next:gQ .none s .next v s:=#[bE,.inr #[bV]]
def iB(j0:bt)(k:Nat):Bool:=decide ((j0.names.map (·.1)).Nodup)&&(j0.names.take k).all (λp=>p.2==.local)&&#[aB,k<=j0.names.length]&&j0.names.all (λp=>!(p.2==.cell))
section
variable{B:Bs}{w:aD}{n m:Nat}{O:Gm}{d0 g0:#[n]}{U x0:#[o]}{H b0 o0 w0 m0:#[l]}{i0 y0:ba}{J:aO}{S:#[t]}{l:#[y]}{h0:#[al]}
theorem Pg{a:#[bA]}{Z:#[L]}(Y:a.Nodup){i:Nat}(N:#[G,a,l0])(a0:#[G,Z,u]):(a.zip Z).reverse.lookup l0=aa u:=by refine oW ?_ (rF.mpr (bz (Pf N a0)));rw[Qh];refine(EB (List.reverse_perm _)).mpr ?_;rw[DZ];exact(lO _ _).nodup Y
structure tV(B:Bs)(h:bo)(f:ao)(f0:gN)(j0:bt)(r0:uK)(k:Nat)(Z:#[L]):Prop where
 at_:∃o,#[e3,f]/\#[dX]
 Dn:f0.scope=j0
 HP:f0.body=r0
 g:#[hz]
 b:#[hy]
 code:h.CodeRec f0.code f0.qualname
 bind:uV f0 #[ai,Z]=aw ((j0.names.map (·.1)).zip Z)
 ok:iB j0 k=ae
 len:Z.length=k
 kind:#[eu]
theorem HX{s:au}{f:ao}{f0:gN}{j0:bt}{r0:uK}{k:Nat}{t:#[L]}{Y:#[B]}{c0:bo}(R:#[ah])(C:tV B s.heap f f0 j0 r0 k t)(l:#[a1,t,Y])(m0:#[i6])(y0:∀(i:Nat)(a:ao)(p0:cp->Prop),#[n2,p0])(v0:#[kR])(A0:#[lm,#[kn]])(w0:c0.Ns s.heap.objs.size (λx=>((j0.names.map (·.1)).zip t).reverse.lookup x))(n0:#[fb]):aG B #[gp] #[eY] S #[jJ] H c0:=by
 have M:#[ef]:=by obtain⟨o,_,_,e,_⟩:=w0;exact eh (bk e)
 have b0:=C.ok;simp only[iB,fF,decide_eq_true_eq,fe]at b0;obtain⟨⟨⟨I0,L0⟩,s0⟩,C0⟩:=b0;have N0:#[eY].cells=f0.closure:=rfl;have R0:#[jm,#[eY].locals]:=rfl;refine{scope:=C.Dn,kind:=C.kind,kb:=?_,nd:=I0,glob:=C.g,fh:=C.b,gh:=R.gh.grow M n0,slt:=R.slt,ns:=#[aw,w0,#[c1]],lu:=?_,len:=R.len,cY:=R.cY,store:=?_,code:=?_,nodup:=R.nodup,high:=R.high,dZ:=?_,ic:=R.gh.1,cw:=?_,kr:=?_};.simp
 .rcases qq e with h|⟨j,d,o0⟩
  .obtain⟨u,L,E⟩:=l.get h;have Q0:i<k:=by rw[<-C.len];exact#[V,L]
   have E0:i<j0.names.length:=ey Q0 s0;obtain⟨⟨l0,u0⟩,w⟩:∃p,#[G,j0.names,p]:=#[bM,bD E0];have J0:#[kh,(l0,u0)]:=bz (i:=i) (by rw[eD Q0];exact w);have x0:=L0 _ J0;simp only[beq_iff_eq]at x0;subst x0;exact⟨l0,_,w,#[dM,rfl,u,Pg I0 (by rw[cg,w];rfl) L,E]⟩
  .obtain⟨l0,u0,N,Q,h0⟩:=AP d;obtain⟨G,a0⟩:=A0 l0 (bz N);refine⟨l0,.free,N,.inr #[a3,.inr #[aG,a0]]⟩;obtain⟨p,w,rfl⟩:=bK.mp G;obtain⟨m,r,t0⟩:=R.ns;obtain⟨S0,T0,F,A⟩:=t0 j x o0;rw[Q]at F;cases F;have g:=m0 p w;rcases A with⟨rfl,_⟩|⟨_,c,v,k0,⟨o,F0,H0⟩,G0⟩;.rcases h0 with h|h<;>cases h
   .rw[g]at k0;cases k0;exact⟨p.2,v,oW v0 w,#[aY,n0 _ _ F0,H0],G0⟩
 .intro _ h;cases h
 .intro i a e0 I Z;obtain⟨o,N,a0⟩:=R.store i a e0 I Z;exact#[aY,n0 _ _ N,a0]
 .intro i a e0 I Z;obtain⟨o,N,_⟩:=#[gl];have c0:dM B #[eY] s.heap a e0:=by have a0:=R.code i a e0 I Z;cases e0 with|raw p0=>exact y0 i a p0 I Z|rel n p0 d0=>exact a0|hp n R P T d0 k=>exact a0|list X=>trivial|tup X=>trivial
  exact c0.keep (λq0 e=>by rw[n0 _ _ N]at e;cases e;exact N) λb q0 e _ _=>n0 _ _ e
 .exactλI=>#[ac,R.fX _ I,ft _]
 .intro p w;have g:=mem_of_lookup (m0 p w);obtain⟨N,a0,d,v,o,G,i0⟩:=R.cw _ g;exact⟨N,λe=>absurd (bk G) (by rw[e,R0];exact ft _),d,v,o,n0 _ _ G,i0⟩
 .have E0:=R.kr;rw[Qj,ur]at v0;refine EA (R:=λx y=>x.1≠y.1) (λ{x y}z q g0 e=>g0 ?_) v0;have M0:=mem_of_lookup (m0 x z);have O0:=mem_of_lookup (m0 y q);exact Gs E0 M0 (by rw[e];exact O0)
theorem aeb{d:#[o]}(R:#[ah])(o0:#[R,p0.locals])(Q:#[jr,p0.cells])(b0:#[R,k0.heap.objs.size])(w:#[ev,s.heap.get?,k0.heap.get?])(g0:k0.os=s.os)(h0:k0.drawn=s.drawn)(c0:k0.gens=s.gens)(P:aB B #[gp] p0 S q0 m0 k0 t L):#[aQ,m0,t,L]:=by
 have t0:fj #[gp] p0 S=p0.locals::S.drop O.fz:=by unfold fj;rw[EE.mpr (λp _=>by simp)];rfl
 have r0:Fx B [] s k0:=⟨g0,h0,c0▸.refl _,b0,λb o e _ _=>w b o e⟩;have i0:=(r0.widen #[ck]).trans (t0▸P.fx) λy k=>.inl k
 have s0:Fx B (fj O J S) s L:=i0.widen λx z=>by
  rcases bg.mp z with rfl|z;.exact .inr o0
  .exact .inl (oY z)
 have Y:∀a∈t,a∈S\/#[R,a]:=λa I=>by
  by_cases n:a∈t.drop O.fz;.exact(P.new a n).imp fI (aI b0)
  .have X:=by have:=hQ O.fz t;rw[<-this]at I;exact(cZ.mp I).resolve_right n
   obtain⟨v0,rfl⟩:=P.pre;rw[lN R.cY]at X;exact .inl (eJ X)
 have M:∀a,a∉S->a<s.heap.objs.size->a∉p0.locals::S.drop O.fz:=λa N a0 h=>by grind
 have d0:#[it]:=λb Z n0=>#[bC,R.lG b n0,Z];have e0:#[nK,L.heap.IsCell]:=#[kt,i0.keep _ _ N (M _ (R.cw p C).1 (R.jt p C)) (d0 _ (R.cw p C).2.2.1)];refine⟨P.pre,λa I=>(P.new a I).imp id (aI b0),?_,s0⟩;refine{R with gh:=P.rel.gh,ns:=?_,len:=P.rel.len,cY:=P.rel.cY,store:=P.rel.store,code:=λi a A I Z=>?_,nodup:=P.rel.nodup,high:=P.rel.high,dZ:=λI=>?_,cw:=λp C=>?_}
 .obtain⟨m,l,j⟩:=R.ns;refine⟨m,l.at' λo e=>i0.keep _ o e (M _ R.dZ R.ju) (d0 _ R.ic),#[c1]⟩;obtain⟨l0,G,N,a0⟩:=j i x e;refine#[bP,l0,G,N];rcases a0 with⟨q,v,F,r⟩|⟨q,c,v,F,u,r⟩;.exact#[dM,q,v,F,r.pre P.pre]
  .exact#[mc,e0,u,r.pre P.pre]
 .exact(P.rel.code i a A I Z).env λf o f0 g n=>by obtain⟨N,a0⟩:=f o f0 g n;exact⟨N,λp C=>by have:=mem_of_lookup (a0 p C);exact Q _ this⟩
 .rcases Y _ I with h|h;.exact R.dZ h
  .exact#[bC,R.ju,h]
 .obtain⟨N,a0,T,v,E⟩:=R.cw p C;refine⟨λI=>?_,a0,T,v,e0 p C v E⟩;rcases Y _ I with h|h;.exact N h
  .exact#[bC,R.jt p C,h]
theorem HY{d:#[o]}(R:#[ah])(Q:#[i6])(a:#[R,k0.heap.objs.size])(g:#[ev,s.heap.get?,k0.heap.get?])(k:k0.os=s.os)(X:k0.drawn=s.drawn)(c:k0.gens=s.gens)(P:aB B #[gp] #[eY] S e m0 k0 j L):#[ej]:=aeb (d:=d) R #[aJ] Q a g k X c P
theorem HU{F:#[w]}(G:#[eP])(R:#[ah])(C:tV B s.heap f f0 j0 (.stmts r0) k Z)(c:#[a1,Z,Y])(Q:#[i6])(m0:∀(i:Nat)(a:ao)(X:cp->Prop),#[c2]->#[a6,H,.raw,X]->gg B #[eY] s.heap a)(e0:#[kR])(n0:#[lm,"__classdict__"])(p0:#[eV])(t0:#[eU])(h:aj B w n #[gp] r0 #[jJ] H (gQ r o0))(q:∀M L j,#[aQ,o0,j,L]->VR j M r->X (.ok (.ret M)) L):jJ #[aE] A #[b3,.call,f,#[ai,Z]] X s:=by
 obtain⟨o,g,l⟩:=C.at_;have t:=C.ok;simp only[iB,fF,decide_eq_true_eq,fe]at t;obtain⟨⟨⟨u0,x0⟩,b0⟩,q0⟩:=t;have h0:=C.Dn;refine(zI #[h4] g l (F.nl R.gh) C.code C.HP (.of_eq C.bind) (λx z e=>?_) #[bO,?_] (λy i0 T=>?_) (by rw[h0];exact p0) (by rw[h0];exact t0) (by rw[h0];exact C.kind));.grind
 .rw[h0];obtain⟨i,b⟩:=gK.mp z;obtain⟨N,a0⟩:=pL.mp b;rw[cg]at N;obtain⟨p,d,C0⟩:=dW.mp N;have E:i<k:=by rw[<-C.len];exact#[V,a0]
  have v0:=bz (by rw[eD E];exact d);have k0:=x0 _ v0;simp[beq_iff_eq]at k0;obtain⟨l0,c0⟩:=p;cases k0;rw[<-C0];exact mv u0 d
 .have E0:=HX R C c Q m0 e0 n0 i0 T;have I:#[R,y.objs.size]:=by obtain⟨o,_,_,e,_⟩:=i0;exact eh (bk e)
  refine h (A.deeper _) _ S _ _ _ #[bN,G.handled,?_] E0 ?_;.have:=G.depth;show#[i0];omega
  .have:=G.units;show A.units+3+8*n+8<_;omega
  rintro F0 v w0 A0 L j⟨z,rfl⟩P s0;have y0:=HY (d:=[]) R Q (k0:=#[cQ,y,s.toks+((j0.names.map (·.1)).zip Z).length]) I T rfl rfl rfl P;rcases z with rfl|⟨rfl,rfl⟩;.obtain⟨u,rfl,m⟩:=s0;exact q u L j y0 m
  .cases s0;exact q .none L j y0 rfl
theorem UC{F:#[w]}(G:#[eP])(R:#[ah])(C:tV B s.heap f f0 j0 (.stmts r0) k Z)(b:#[a1,Z,Y])(c:#[i6])(d:∀(i:Nat)(a:ao)(y:cp->Prop),#[n2,y])(o:#[kR])(M:#[lm,"__classdict__"])(m:#[eV])(e:#[eU])(h:aj B w n #[gp] r0 #[jJ] H (gQ r o0))(q:∀z L j,#[aQ,o0,j,L]->VR j z r->Q z L):#[as,#[b3,dX,f,Z]]:=gr (HU (F:=F) G R C b c d o M m e h q)
end
structure iD(N:lV)(r0:#[y])(j0:bt)(I:#[bA])(k:Nat):Prop where
 bind:∀(f0:gN)(Z:#[L]),f0.params=N->f0.defaults=.none->#[kG]->Z.length=k->uV f0 #[ai,Z]=aw ((j0.names.map (·.1)).zip Z)
 ok:iB j0 k=ae
 kind:#[eu]
 co:#[eV]
 gen:#[eU]
 nA:I.Nodup
 qF:(j0.names.all λq=>#[cb,q.2,.free,I.contains q.1&&!(q.1==#[kn]),ae])=ae
def cx:Nat->#[l]->#[i]|_,[]=>[]|k,.raw _::r=>k::cx #[u] r|k,.list _::r=>cx #[u] r|k,.tup _::r=>cx #[u] r|k,.rel _ _ _::r=>cx #[u] r|k,.hp _ _ _ _ _ _::r=>cx #[u] r
theorem kB:∀{H:#[l]}{k j:Nat}{R:cp->Prop},H[j]?=aa (.raw R)->k+j∈cx k H|[],_,_,_,h=>by simp at h|.raw _::r,k,0,_,h=>by unfold cx;exact fU|.list _::r,k,0,_,h=>by simp at h|.tup _::r,k,0,_,h=>by simp at h|.rel _ _ _::r,k,0,_,h=>by simp at h|.hp _ _ _ _ _ _::r,k,0,_,h=>by simp at h|.raw _::r,k,j+1,R,h=>by have:=#[jM];refine dO _ ?_;rw[rJ]at this;exact this|.list _::r,k,j+1,R,h=>by have:=#[jM];rw[rJ]at this;exact this|.tup _::r,k,j+1,R,h=>by have:=#[jM];rw[rJ]at this;exact this|.rel _ _ _::r,k,j+1,R,h=>by have:=#[jM];rw[rJ]at this;exact this|.hp _ _ _ _ _ _::r,k,j+1,R,h=>by have:=#[jM];rw[rJ]at this;exact this
section
variable{B:Bs}{w:aD}{n m:Nat}{O:Gm}{d0 g0:#[n]}{U x0:#[o]}{H b0 o0 w0 m0:#[l]}{i0 y0:ba}{J:aO}{S:#[t]}{l:#[y]}{h0:#[al]}
theorem AN(C:z.any (·.1)=ag)(h:ax M A (zK #[M,a] ae z []) (λx k0=>(∃o f0,k0.heap.get? a=aa o/\#[dX])/\ax M A (dX #[M,a] x.pos x.kw) Q E k0) E s):#[eq,mb i0 #[M,a] [] z []]:=by
 refine#[b9,dq h (λx k0 N=>#[a0,dR]) λ_ _ x=>x];obtain⟨⟨o,f0,g,c⟩,X⟩:=N
 have Y:∀{t:dF _},ax M A t Q E k0->ax M A (do
  let r<-t;va [r] _;aw r) Q E _:=λn0=>af (dq n0 (λr m b=>#[b9,GL (aA b)]) λ_ _ x=>x)
 simp only[C,PM,tT,ja];refine af ?_;refine#[bd,lh,g];rw[c];refine aA ?_;dsimp only;split;.exact Y X
 .exact Y (Calls.wpAny_keep X)
theorem Ev.HT(F:#[w])(h0:#[i9,#[cy],#[ci],H])(u:cD e0=ae)(I:cy B w (n+1) O e0 U H Y b0)(P:#[a6,b0,.raw,gi U0 (.stmts r0) j0 L0])(t:iD U0 r0 j0 L0 k)(d1:cx 0 b0=[i])(R:Y.length=k)(X0:eQ O.sc.names j0.names=G)(d:cS U G Y=x0)(h:aj B w n #[gp] r0 x0 b0 (gQ r o0)):#[i9,#[cU,#[cy],e0],r,o0]:=λA J S s Q E b M q=>by
 subst X0 d;refine ir (h0 A J S s _ E b M λu0 k0 n0 C c0=>?_);obtain⟨f,f1,rfl⟩:=c0;rw[dt i0 _ u]
 have C0:∀Z X y0,aB B _ _ _ _ _ _ y0 X->aM (VR _) Z _->∃o f0,X.heap.get? f=aa o/\#[dX]/\ax (aE _ w) A (dX _ _) Q E _:=λZ X y0 L m0=>by
  have Z0:=gY L.pre f1;obtain⟨o,g,f0,rfl,e,v,w0,O0,R0,Q0,b1,a1⟩:=L.rel.store i f _ Z0 P;refine⟨_,_,g,rfl,?_⟩;obtain⟨⟨c,J0,I0,M0,S0⟩,A0⟩:=L.rel.code i f _ Z0 P _ _ g rfl;have p0:=m0.length.trans R;refine UC (F:=F) b L.rel ⟨#[P,g],w0,v,O0,R0,J0▸M0,t.bind _ _ e b1 a1 p0,t.ok,p0,t.kind⟩ m0 A0 (λj a E0 y z=>?_) (Q0▸t.nA) (λl0 l=>?_) t.co t.gen h λv0 s0 H0 q0 G0=>#[a9,#[gm,L,q0],G0]
  .have e1:=by have:=kB (k:=0) z;rw[d1,gM]at this;exact aZ.mp this
   subst e1;rw[Z0]at y;cases y;intro F0 Y0 N0 T0;rw[g]at N0;cases N0;cases T0;refine⟨⟨c,J0,I0,M0,S0⟩,λc1 m=>(oW (Q0▸t.nA) m)⟩
  .rw[Q0];have:=fe.mp t.qF _ l;simp only[BEq.rfl,if_true,fF,yl,EC]at this;exact this
 exact AN (fZ _ _) (eR (#[cs,I,_,b,C.rel,λZ X y0 L t0=>by obtain⟨o,f0,N,a0,T⟩:=C0 _ _ _ L t0;exact⟨⟨o,_,N,a0⟩,T⟩]))
end
section
variable{B:Bs}{w:aD}{n m:Nat}{O:Gm}{d0 g0:#[n]}{U x0:#[o]}{H b0 o0 w0 m0:#[l]}{i0 y0:ba}{J:aO}{S:#[t]}{l:#[y]}{h0:#[al]}{a b c:aT}
theorem Nv{A:aS}{E:#[C]}{s:au}{l:ao}{f:#[bb]}{m:Nat}{k:Nat}{t:gn}{v:ai}{Q:#[aI,Unit]}(g:#[ch,l,⟨#[fW],ab,.seq f m,#[]⟩])(R:k<f.size)(F:k<2^62)(q:Q () {s with heap:=s.heap.update l (dQ λX=>X.setIfInBounds k v)}):#[as,vh #[M,l] (.int (k:Nat) t) v]:=by
 have y:s.heap.IsList l f:=#[cG,m];have c:(⟨#[fW],ab,.seq f m,#[]⟩:cp).data=.seq f m:=rfl;have H:0<=#[b4]:=by omega
 have e:#[b4]<2^63:=by omega
 obtain⟨x,z⟩:∃x:Int,x=#[b4]:=#[bu];rw[<-z]at H e;rw[<-z];unfold vh;try with_reducible refine cj ?_
 refine af (wpAny_sequenceKey y.typeIs (#[p]) ?_);refine af (mi (name:=ak "__setitem__") y.typeIs zx (iN zx y.typeIs RE ?_ (RB _ _ _)));show ax _ _ (uF (.int x t)>>=_) _ _ s;refine#[bd,Td,Gj H e];clear e;subst z;refine#[bW,Tj g c #[cv]];rw[rq R];refine#[bF,wpAny_setSeqItemAt,g,c];first|exact#[db,aA #[dy,.none,aA q]]|exact aA #[dy,.none,aA q]
theorem aj.Nx(p:#[aF,v])(c:#[bx,o,#[cn]])(P:Ev B w n O i U o0 #[bz,k] w0)(f:#[aR,w0,j,X])(r:O.fz<=j)(R:k<X.length)(l0:k<2^62)(u:∀J,#[hu,.Subscript o i L])(Z:w0.set j (.list (X.set k v))=m0)(d:#[hw]):#[eJ,[.Subscript o i L]]:=by refine#[hK,λo x b=>#[eI,x=U,b=w0.set j (.list (X.set k v))],?_,λx b h=>#[Y],λo x b c h=>#[ac,h.1,c]];refine SO (#[a8,p,λu0 k0 F C T=>#[h5,c,λC0 m e0 e c0=>#[cs,P,_,G,e.rel,λg N g0 I f0=>?_]]]) (u _);obtain⟨t,rfl⟩:=f0;obtain⟨j0,Y,a0,rfl,y,d0,z⟩:=I.rel.list (c0.pre I.pre) f;refine Nv d0 (by rw[z.size];exact R) l0 ?_;refine#[gQ,((C.trans e).trans I).trans (aB.list (t:=N.toks) I.rel y r d0 ?_)];rw[Po];exact z.set ((T.pre e.pre).pre I.pre) k
theorem aj.MY(j:h0 (.ret .none) U H):#[dA,.Return ab i0]:=#[mv,o=.ret .none/\X=U/\L=H,wpAny_Return_none,#[P,rfl]]
theorem W.nz{x:aq}{t:Tx}(h:x.cps.toList=t):#[il,#[ao,x],#[bm]]:=by subst h;exact Ev.nz
inductive iP(H:#[l]):V->Int->V->Prop where|list{j:Nat}{X:#[B]}{i:Int}{r:V}:#[aR,H,j,X]->#[bp]->br X i=aa r->iP H #[cn] i r|tup{j:Nat}{X:#[B]}{i:Int}{r:V}:H[j]?=aa (.tup X)->#[bp]->br X i=aa r->iP H #[cn] i r|str{X:Tx}{i:Int}{r:Nat}:#[bp]->br X i=aa r->iP H #[ao,X] i #[ao,[r]]
theorem Ev.sub(I:#[aF,x])(Z:#[bx,b,#[cr]])(h:iP o0 x i r):#[f4,b,r,o0]:=by cases h with|list N a0 T=>exact Ev.rh I Z N a0 T|tup N a0 T=>exact Ev.adt I Z N a0 T|str N a0=>exact Ev.Ow I Z N a0
theorem MW{f:#[bb]}:∀(k:Nat)(A:#[bI]),(List.foldl (λL0 y=>L0++y) A (cO k f)).toList=A.toList++(cO k f.toList).flatten|0,A=>by simp|k+1,A=>by rw[rG,ee,MW k];simp[rG]
theorem MV(h:#[a1,Y,X]):∀(k:Nat),#[a1,(cO k Y).flatten,(cO k X).flatten]|0=>.nil|k+1=>h.append (MV h k)
theorem St.tf{j k:Nat}{X q0:#[B]}{r:Nat}(f:#[aR,H,j,X])(R:X.length*k<=2^24)(o:k<2^62)(m:(cO k X).flatten=q0)(b:H.length=r)(Z:#[ea,H]):fA B w n O (bM .Mult) #[cn] #[bz,k] U H (.ob r) m0:=by
 subst m b Z;intro A J S u v s Q E G M a p q;obtain⟨t,rfl⟩:=p;obtain⟨i,Y,c,rfl,y,d,z⟩:=M.list a f;have N:(Y.size*(k:Int).toNat)<=2^24:=by rw[z.size];simpa using R
 have I:#[b4].toNat=k:=rfl;have l:-(2^63:Int)<=#[b4]:=by omega
 have C:#[b4]<2^63:=by omega
 generalize F:#[b4]=x at*;refine wpAny_binaryOp_repeat_ref (T:="list") (U:="int") #[p] #[P,d] (λL=>nk L _ t) noFill_list_mul aht RM repeat_list ail.lookup (kV RM (nk s _ t) ahg (agn _ _) (int___rmul___int_list _ t i Y c) ⟨d,rfl,#[P,d],kV ain #[P,d] ahk (agq _ _) (AutoListH.list___mul___list_int_3 i Y c x t (by simp[Builtin.List.listFitsIndex];omega) #[f] (by simp[Rb,aC];omega)) #[a3,d]⟩);refine#[nI,aB.push (t:=s.toks) M rfl #[Q,0,rfl,?_]];rw[MW];simp only[ja];have:=MV (z.mono λ_ _ r=>r.pre (ff S [s.heap.objs.size])) k;rw[I];by_cases g:Y.isEmpty=ae
 .rw[if_pos g];have:Y=#[]:=by simpa using g
  subst this;have h:X=[]:=by have:=z.size;simp at this;exact om.mp this.symm
  subst h;have e:∀k,(cO k ([]:#[B])).flatten=[]:=λk=>by induction k<;>simp_all[rG]
  rw[e];simp;exact .nil
 .rw[if_neg g];simpa using this
end
structure et(B:Bs)(M:#[t])(G:Nat)(s L:au):Prop where
 os:L.os=s.os
 drawn:L.drawn=s.drawn
 gens:(∀(i:Nat)(x:fw),i<G->#[G,s.gens,x]->#[G,L.gens,x])/\(rM s.gens->rM L.gens)
 size:#[jj]
 keep:∀b o,#[eE]->b∉M->#[aq,b]->L.heap.get? b=aa o
 gh:#[g7]
structure mP(B:Bs)(w:aD)(n:Nat)(A:aS)(X:List (V×V))(I:ao)(G L:Nat)(C:#[em])(f:Nat->#[t]->#[aI,#[t]]):Prop where
 next:∀(k:Nat)(x:V×V)(M:#[t])(O:Gm)(J:aO)(S:#[t])(U:#[o])(H:#[l])(s:au)(Q:#[C])(E:#[C])(e:List aT)(L0:Nat)(i0:ba)(R:#[aI,#[bT]]),X[k]?=aa x->f k S M s->C H->#[ah]->(∀v k0,#[el,Gq (.Tuple e L0 i0) #[M,I] v,λ_ m=>Q v m,k0]->R (aa v) k0)->(∀T Z d c m p,m.heap.get? T=aa ⟨#[h6],ab,.seq #[Z,d] c,#[]⟩->VR S Z x.1->VR S d x.2->f #[u] S p m->et B M.tail G s m->(∀b∈p,b∈M\/#[R,b])->#[bs,T,m])->ax #[aE] A #[cP,kl,I] R E s
 done:∀(M:#[t])(O:Gm)(J:aO)(S:#[t])(U:#[o])(H:#[l])(s:au)(Q:#[aI,#[bT]])(E:#[C]),f X.length S M s->C H->#[ah]->(∀a,et B M.tail G s a->Q ab a)->#[gh,I]
 mono:∀k S j M s a,f k S M s->(∀i,i<L->j[i]?=S[i]?)->(#[dr,∀o,s.heap.get? b=aa o->a.heap.get? b=aa o])->kI s.gens a.gens->#[R,a.heap.objs.size]->GH B a.heap->f k j M a
 live:∀k S M s,f k S M s->#[dr,∃o,#[eE]]
 hH:∀k S M s,f k S M s->∀b∈M.tail,lS B s.heap b
section
variable{B:Bs}{w:aD}{n m:Nat}{O:Gm}{d0 g0:#[n]}{U x0:#[o]}{H b0 o0 w0 m0:#[l]}{i0 y0:ba}{J:aO}{S:#[t]}{l:#[y]}{h0:#[al]}{a b c:aT}
theorem GH.many{M:#[t]}(g:GH B h)(s:hA B)(E:#[dr,#[ji,b,lS B h b]])(u:#[ha])(k:#[e1,#[de],b∉M]):GH B c0:=⟨aI g.1 u,λb o e n0=>k b o (g.2.1 b o e n0) (λZ=>absurd (bk e) (bP.mpr (E b Z).1)),g.2.2.1.keep M #[f] #[bO,⟨(E x z).2,s.ne (E x z).1⟩],aI g.2.2.2 u⟩
theorem et.trans{a b c:au}(f:et B M a.gens.size a b)(g:et B p b.gens.size b c)(h:∀x∈p,x∈M\/a.heap.objs.size<=x):et B M a.gens.size a c:=by
 have L:∀{s:au}{i:Nat}{x:fw},#[G,s.gens,x]->i<s.gens.size:=λ{s i x}e=>by
  obtain h|h:=gk i _;.exact h
  simp_all
 exact⟨g.os.trans f.os,g.drawn.trans f.drawn,⟨λi x P e=>have F:=f.gens.1 i x P e;g.gens.1 i x (L F) F,λh=>g.gens.2 (f.gens.2 h)⟩,aI f.size g.size,λb o e Z n0=>g.keep b o (f.keep b o e Z n0) (λl=>(h b l).elim Z λq=>absurd (bk e) (bP.mpr q)) n0,g.gh⟩
def ru(B:Bs)(w:aD)(n:Nat)(O:Gm)(e:aT)(U:#[o])(H:#[l])(X:List (V×V))(C:#[em])(b0:#[l]):Prop:=#[ky,#[bc]->#[ah]->(∀I M f L j,#[aQ,b0,j,L]->mP B w n A X I s.gens.size b0.length C f->f 0 j M L->(#[dr,#[R,b]/\b∉j])->#[bs,I,L])->#[nO]]
theorem aG.chg(R:#[ah])(C:et B M G s L)(E:#[dr,b≠J.locals/\b∉S/\(#[dJ,b])/\#[aK,b]])(Y:#[dr,lS B s.heap b]):#[dk,S,H,L.heap]:=R.gD C.size M (λb o e Z n0=>C.keep b o e Z n0) (λx z=>⟨(E x z).2.2.2,(E x z).1,(E x z).2.1,(E x z).2.2.1,Y x z⟩) C.gh
theorem aB.chg(P:#[cd,x0,b0,j,k0])(C:et B M s.gens.size k0 d)(E:#[dr,b≠J.locals/\b∉j/\(#[dJ,b])/\#[aK,b]/\#[R,b]])(Y:#[dr,lS B k0.heap b]):#[cd,x0,b0,j,d]:=by
 refine#[iC,P.rel.chg C (λb Z=>⟨(E b Z).1,(E b Z).2.1,(E b Z).2.2.1,(E b Z).2.2.2.1⟩) Y,⟨C.os.trans P.fx.os,C.drawn.trans P.fx.drawn,⟨#[c1],λh=>C.gens.2 (P.fx.gens.2 h)⟩,aI P.fx.size C.size,λb o e z n0=>?_⟩]
 .have a:i<s.gens.size:=by
   obtain h|h:=gk i _;.exact h
   simp_all
  exact C.gens.1 i x a (P.fx.gens.1 i x e)
 .refine C.keep b o (P.fx.keep b o e z n0) (λZ=>(absurd (bk e) (bP.mpr (E b Z).2.2.2.2))) n0
theorem xm{b:ao}(P:aB B O J j X d s u L)(r:O.fz<=j.length)(Z:b∉j)(y:∃o,#[eE]):b∉u:=λl=>by
 by_cases c:b∈u.drop O.fz
 .obtain h|h:=P.new b c;.exact Z (fI h)
  .obtain⟨A,G⟩:=y;exact absurd (bk G) (bP.mpr h)
 .have n:=by have:=hQ O.fz u;rw[<-this]at l;exact(cZ.mp l).resolve_right c
  obtain⟨v0,rfl⟩:=P.pre;rw[lN r]at n;exact Z (eJ n)
def Qu(R:#[al])(c:#[f5]):#[al]:=λo v s=>match o with|.next=>c v s|.cont=>c v s|.brk=>R .next v s|.ret r=>R (.ret r) v s
theorem Lp{R:#[al]}{x y:aq}{F0 E0 N0:ba}{L0:Nat}{r0 Y0:#[y]}{X:List (V×V)}{C:#[em]}{c:Nat->#[f5]}(i j:Nat){b1 d1:hX}{A:aS}{g0:#[t]}{s k0:au}{I:ao}{M:#[t]}{z:Nat->#[t]->#[aI,#[t]]}{Q:#[aI,hW]}{E:#[C]}(G:#[bc])(f1:∀b,#[R,b]->b≠J.locals/\(#[dJ,b])/\#[aK,b])(d:#[aQ,b0,g0,k0])(R0:mP B w n A X I s.gens.size b0.length C z)(q1:z 0 g0 M k0)(s0:#[dr,#[R,b]/\b∉g0])(a:#[et,b1])(n1:#[jc,b1,b1])(H:#[gO,d1])(p1:#[dW,d1,d1,y])(i0:c 0 U b0)(d0:∀k v s,c k v s->C s/\i<v.length/\j<v.length)(Z0:∀k x v s,X[k]?=aa x->c k v s->iC v s->bA s.length x.1->bA s.length x.2->#[cE,r0,#[nJ],s,Qu R #[mP]])(O0:∀v s,c X.length v s->#[cE,Y0,v,s,R])(q:∀o f0 A0 f L u,R o f0 A0->#[cd,f0,A0,u,L]->uA u f o->Q f L):jJ #[aE] A (.forLoop (.Tuple #[kY] L0 N0) #[M,I] r0 Y0 J) (λr L=>match r with|.ok f=>Q f L|.error e=>cameBackBy #[aE] A J E e L) k0:=by
 have B1:S.length<=b0.length:=by rw[<-d.rel.len];exact d.pre.length_le
 refine Gf (λm L=>∃k v t u M,m=X.length+1-k/\k<=X.length/\c k v t/\#[cd,v,t,u,L]/\z k u M L/\(#[dr,#[R,b]/\b∉u])/\g0.length<=u.length) ?_ (X.length+1) ⟨0,U,b0,g0,M,rfl,aV _,i0,d,q1,s0,aP _⟩;clear s0 q1 M;rintro m L⟨k,v,t,u,M,rfl,H0,j1,P,y0,s0,s1⟩;have m1:#[dr,b≠J.locals/\(#[dJ,b])/\#[aK,b]]:=λb Z=>f1 b (s0 b Z).1;have l1:#[dr,b∉u]:=λb Z=>(s0 b Z).2;obtain⟨x0,h1,o1⟩:=d0 k v t j1;have G1:#[dr,b≠J.locals/\b∉u/\(#[dJ,b])/\#[ji,b,#[R,b]]]:=λb Z=>⟨(m1 b Z).1,l1 b Z,(m1 b Z).2.1,(m1 b Z).2.2,(s0 b Z).1⟩;by_cases q0:k<X.length
 .refine R0.next k X[k] M O J u v t L _ _ #[kY] L0 N0 _ (bD q0) y0 x0 P.rel (λI1 k0 N=>N) λT T0 U0 p0 a0 r1 t0 X0 a1 v1 t1 M1=>?_
  .have Y:#[cd,v,t,u,a0]:=P.chg t1 (λb Z=>G1 b (Qi Z)) (R0.hH _ _ _ _ y0);rw[Gc];refine#[a0,dR];unfold unpack;rw[#[co,#[a5,(rU [hV x F0,hV y E0] J),(#[T0,U0]:#[bb]).size]],#[co,(rU [hV x F0,hV y E0] J).findIdx? (·.1)=ab]];refine#[b9,fb (Ac G.handled #[dY,t0,p0] λc0 I0 g1=>?_)];have l0:aB B O J u v t a0 u {a0 with heap:=c0}:=aB.heap Y.rel g1 λb o e=>I0 b o (cB (bk e)) e;refine lU (km (aG.hg l0.rel a n1 h1 X0 λm0 w0=>lU (km (aG.hg w0.rel H p1 (by simpa using o1) a1 λQ0 J0=>uC ?_))));have u1:aB B O J u _ t a0 u Q0:=(l0.trans w0).trans J0;have A1:∀b∈r1,#[R,b]/\b∉u:=λb Z=>(M1 b Z).elim (s0 b) λh=>⟨aI P.fx.size h,λl=>#[bC,P.rel.fX b l,h]⟩;have C1:∀b∈r1,b≠J.locals/\(#[dJ,b])/\#[aK,b]:=λb Z=>f1 b (A1 b Z).1;have F1:∀b∈r1,b∉fj O J u:=λb Z=>nL (C1 b Z).1 (C1 b Z).2.1 (A1 b Z).2;have H1:∀b∈r1,#[aq,b]:=λb Z n0=>#[bC,P.rel.lG b n0,(C1 b Z).2.2];have y1:z #[u] u r1 Q0:=R0.mono _ _ _ _ _ _ v1 #[am] (λb Z o e=>u1.fx.keep b o e (F1 b Z) (H1 b Z)) u1.fx.gens u1.fx.size u1.rel.gh;refine Z0 k X[k] v t (bD q0) j1 P.rel.below (P.rel.len▸X0.below) (P.rel.len▸a1.below) A J u Q0 _ _ G u1.rel λo f0 A0 f k1 z1 g c1 e0=>?_;have i1:=(Y.trans u1).trans c1;have J1:∀b∈r1,b∉z1:=λb Z=>xm c1 P.rel.cY (A1 b Z).2 (R0.live _ _ _ _ y1 b Z);have E1:b0.length<=u.length:=by rw[<-d.rel.len];exact s1
   have L1:z #[u] z1 r1 k1:=R0.mono _ _ _ _ _ _ y1 (λi a=>by obtain⟨v0,rfl⟩:=c1.pre;exact cL (ey a E1)) (λb Z o e=>c1.fx.keep b o e (F1 b Z) (H1 b Z)) c1.fx.gens c1.fx.size c1.rel.gh
   have x1:gR O.fz b0.length (c #[u]) f0 A0->∃m,m<X.length+1-k/\∃G0 v t u M,m=X.length+1-G0/\G0<=X.length/\c G0 v t/\#[cd,v,t,u,k1]/\z G0 u M k1/\(#[dr,#[R,b]/\b∉u])/\g0.length<=u.length:=λg=>by
    obtain⟨w1,N1,h0,o0,u0,M0⟩:=i1.trim B1 g;refine⟨X.length+1-#[u],by omega,k+1,f0,N1,w1,r1,rfl,q0,h0,o0,R0.mono _ _ _ _ _ _ L1 M0 (λ_ _ _ e=>e) (.refl _) #[aJ] o0.rel.gh,λb Z=>⟨(A1 b Z).1,λh=>J1 b Z (u0 _ h)⟩,?_⟩
    have:w1.length>=b0.length:=by
     rcases gk w1.length b0.length with j0|j0;.have F:=M0 _ j0;rw[rD (aP _)]at F;obtain⟨v0,rfl⟩:=c1.pre;rw[bD (by rw[aY];omega)]at F;cases F
     .exact j0
    rw[d.rel.len];exact this
   cases o with|next=>cases e0;exact x1 g|cont=>cases e0;exact x1 g|brk=>cases e0;exact q .next _ _ _ k1 z1 g i1 rfl|ret r=>obtain⟨e1,rfl,N⟩:=e0;exact q (.ret r) _ _ _ k1 z1 g i1 #[dy,e1,N]
 .have S0:k=X.length:=by omega
  subst S0;refine R0.done M O J u v t L _ _ y0 x0 P.rel λa0 t1=>?_;have Y:#[cd,v,t,u,a0]:=P.chg t1 (λb Z=>G1 b (Qi Z)) (R0.hH _ _ _ _ y0);exact O0 v t j1 A J u _ _ _ G Y.rel λo f0 A0 f m0 C0 g w0 e0=>q o _ _ _ m0 C0 g (Y.trans w0) e0
theorem aj.JQ{c:Nat->#[g]->#[g]->Prop}(i j:Nat)(z:ru B w n O L U H X C b0)(P:#[et,e0])(j0:#[jc,e0,e0])(e:#[gO,f0])(l0:#[dW,f0,f0,y])(r:c 0 U b0)(m:∀k v s,c k v s->C s/\i<v.length/\j<v.length)(d0:∀k x v s,X[k]?=aa x->c k v s->iC v s->bA s.length x.1->bA s.length x.2->#[cE,r0,#[nJ],s,mY B w n O l h0 #[mP]])(Y:∀v s,c X.length v s->#[cE,c0,v,s,hZ B w n O l h0])(g0:#[gr,L]):#[dA,.For (.Tuple #[kY] L0 N0) L r0 c0 i0]:=aj.seq (R:=hZ B w n _ l h0) (λA J S s Q E G a q=>by refine zX (#[cs,z,s,G,a,λI M f k0 F d R m0 u=>(Lp i j G (λb Z=>nv a Z) d R m0 u P j0 e l0 r m (λk x v s N a0 T p t=>aj.mono (d0 k x v s N a0 T p t) λo v s h=>by cases o<;>exact h) Y q)]) (λx=>g0 x _)) (λv s h=>h) λo v s g h=>vp h g
end
section
open PySem.Builtin.Str(strSliceIndices)
def cI(t:Tx):aq:=⟨t.toArray⟩
theorem lx{x:aq}{t:Tx}(h:x.cps.toList=t):x=cI t:=by subst h;rfl
theorem Ys(t:Tx):#[fM,(cI t),t]:=#[p]
def cJ{S:Type}(l:#[br])(c0 P:#[eX]):#[br]:=(l.drop (c0.elim 0 (je l.length))).take (P.elim l.length (je l.length)-c0.elim 0 (je l.length))
theorem pw(l:#[br])(i:Nat):cJ l (aa i) ab=l.drop i:=by
 unfold cJ;simp[pV,uX];obtain h|h:=lQ i _;.rw[kM h,iG (by simp)]
 simp_all
theorem NJ(l:#[br])(i j:Nat):cJ l (aa i) (aa j)=(l.drop i).take (j-i):=by
 unfold cJ;simp[pV,uX];obtain h|h:=lQ i _
 .rw[kM h];obtain a0|a0:=lQ j _;.rw[kM a0]
  .rw[uy a0,iG (by simp),iG (by simp;omega)]
 .rw[uy h,ud h];simp
theorem NK(l:#[br])(j:Nat):cJ l ab (aa j)=l.take j:=by unfold cJ;simp only[pV,uX,oh,zf];simp
theorem NI(l:#[br]):cJ l ab (aa (-1))=l.dropLast:=by unfold cJ;have:je _ (-1)=l.length-1:=clipAt_neg _ 1 #[aJ];simp[pV,this,oh,zf];rw[PQ]
theorem abn(l:#[br]):cJ l (aa #[bg]) (aa (-1))=(l.drop 1).dropLast:=by
 unfold cJ;have:je _ (-1)=l.length-1:=clipAt_neg _ 1 #[aJ];simp only[pV,this,uX];rw[PQ,dj];obtain h|h:=gk l.length 1;.have:l=[]:=#[D,om.mp];subst this;rfl
 .rw[kM h]
theorem Dy(l:#[br])(c0 P:Option _):#[aX,(cJ l c0 P),l.length]:=by unfold cJ;rw[bI,dj];omega
theorem UQ(n:Nat)(i:Int):je n i<=n:=by have:=clipAt_cast n i;omega
theorem Oj(x:aq)(c0 P:Option _):strSliceIndices c0 P 1 x.length=(aR (P.elim x.length (je x.length)-c0.elim 0 (je x.length))).map (c0.elim 0 (je x.length)+·):=by
 have e:strSliceIndices c0 P 1 x.length=sliceRange (c0.elim 0 (je x.length):Nat) (P.elim x.length (je x.length):Nat) 1:=by cases c0<;>cases P<;>simp[pV,show 1>0 by decide,if_true,clipAt_cast]<;>rfl
 rw[e,sliceRange_one]
theorem Ol(x:aq)(c0 P:#[eX]):#[fM,(Txt.slice x c0 P),cJ x.cps.toList c0 P]:=by
 have Y:x.cps.toList.length=x.length:=#[p];have u:((strSliceIndices c0 P 1 x.length).filterMap (x.cps[·]?))=cJ x.cps.toList c0 P:=by rw[Oj,pick_run];rfl
 unfold Txt.slice;split
 .rename_i X;have O:=by simpa using X
  rw[Oj,aQ,gz]at O;have Z:P.elim x.length (je x.length)<=x.length:=by cases P;exact aP _;exact UQ _ _
  unfold cJ;rw[Y];rcases EU x.length with H|H;.have:=om.mp (Y.trans H);rw[this];simp
  .have F:c0.elim 0 (je x.length)=0:=by omega
   have d:P.elim x.length (je x.length)=x.length:=by omega
   rw[F,d,zf,oh,<-Y,hs]
 .rw[<-u]
section
variable{B:Bs}{w:aD}{n m:Nat}{O:Gm}{d0 g0:#[n]}{U x0:#[o]}{H b0 o0 w0 m0:#[l]}{i0 y0 p:ba}{J:aO}{S:#[t]}{l:#[y]}{h0:#[al]}{a b c o:aT}
def ec(B:Bs)(w:aD)(n:Nat)(O:Gm)(e:#[a2,aT])(U:#[o])(H:#[l])(i:#[eX])(m0:#[l]):Prop:=#[j1,#[ej]->(∃p0,X=gq (i.map λk=>(k,p0)))->Q X L,evalPart e J]
theorem ec.none:ec B w n O none U H none H:=#[dc,aA,q _ s _ #[ek] #[bE,0]]
theorem ec.some(h:#[aF,#[cr]]):#[bZ,ec,some a,some i]:=#[ku,λv k0 F C⟨t,e⟩=>q v _ _ C ⟨t,e⟩]
theorem Ev.xS{c0 P:#[a2,aT]}{t u:Tx}{i j:#[eX]}(I:#[aF,#[bm]])(y:#[lC])(h:#[jE])(Y:#[fJ])(c:cJ t i j=u):#[f4,#[j8],#[ao,u],w0]:=λA J S s Q E G M q=>lH (I A J S s _ E G M λu0 k0 l C T=>qi (y A J l k0 _ E G C.rel λC0 m R f v=>h A J R m _ E G f.rel λg N d0 r a0=>by
 obtain⟨x,k,rfl,z⟩:=T;obtain⟨t0,rfl⟩:=v;obtain⟨x0,rfl⟩:=a0;refine aA ⟨"str",_,FL.lookup,jf _ x k,?_⟩;refine SX (l:=i.map λq=>(q,t0)) (u:=j.map λq=>(q,x0)) (st:=ab) ⟨_,ct _ rfl,rfl,rfl⟩ rfl ?_;have Z:=((C.trans f).trans r).trans (aB.heap r.rel (t:=N.toks) (c0:=N.heap.push {cls:=.type "slice",data:=.fields #[gq (i.map λq=>(q,t0)),gq (j.map λq=>(q,x0)),.none]}) ((by simp)) λb o e=>bN _ e);have F:(i.map λq=>(q,t0)).map (·.1)=i:=by cases i<;>rfl
 have d:(j.map λq=>(q,x0)).map (·.1)=j:=by cases j<;>rfl
 unfold sliceMade slicePicked;rw[F,d];have e0:x.length=t.length:=by rw[<-z];rfl
 refine SH ⟨?_,λX L=>q _ _ d0 (Z.toks L) ⟨_,X,rfl,?_⟩⟩;.refine aI (Sn x i j) ?_;rw[e0];exact Y
 .subst c;rw[<-z];exact Ol x i j))
theorem Ev.xR{c0 P:#[a2,aT]}(I:#[aF,.ob k])(y:#[lC])(h:#[jE])(R:#[aR,w0,k,X])(l:#[bp])(f:cJ X i j=q0)(d:w0.length=r)(Z:#[ea,w0]):#[f4,#[j8],.ob r,m0]:=λA J S s Q E G M q=>by subst d Z;exact lH (#[e6,I,λu0 k0 F C T=>qi (y A J F k0 _ E G C.rel λC0 m a0 t v=>h A J a0 m _ E G t.rel λg N h0 u g0=>by
 obtain⟨t0,rfl⟩:=v;obtain⟨x0,rfl⟩:=g0;obtain⟨j0,Y,L,rfl,y,x,c⟩:=u.rel.list ((T.pre t.pre).pre u.pre) R;have e0:N.heap.IsList j0 Y:=#[dY,x,L];refine aA #[m3,(e0.push _)];have d0:#[hC,h0,w0,N,h0,N,N.heap.push #[aj,"slice",.fields,#[gq (i.map λq=>(q,t0)),gq (j.map λq=>(q,x0)),.none]]]:=aB.heap u.rel (#[z]) #[e0];have p0:∀z n0,ou (gq (z.map λq=>(q,n0))) z:=λz n0=>by cases z;exact .none;exact .int _ _
 refine GD (e0.push _) (uM ..) (p0 i t0) (p0 j x0) .none #[z] ?_ (by rw[c.size];exact l);have f0:=((C.trans t).trans u).trans d0;refine q _ _ (h0++[_]) (f0.trans (aB.push d0.rel rfl #[Q,0,rfl,?_])) #[P,by rw[<-d0.rel.len];simp];subst f;rw[SK];have l0:=c.length;rw[gI]at l0;rw[l0];exact((c.drop _).take _).mono #[hZ])])
theorem St.Kj{c:Nat}:#[bS,dp,.In,#[ao,[c]],#[bm],.bool (decide (c∈t))]:=by
 rintro A S u v s Q E G⟨x,k,rfl,z⟩⟨y,j,rfl,m⟩q;have:x=#[dE]:=by rw[lx z];rfl
 subst this;refine ajl ?_;rw[Sl,m];exact q _ _ rfl
theorem St.Me{c:Nat}:#[bS,dp,.NotIn,#[ao,[c]],#[bm],#[cO,!#[aB,c∈t]]]:=by
 rintro A S u v s Q E G⟨x,k,rfl,z⟩⟨y,j,rfl,m⟩q;have:x=#[dE]:=by rw[lx z];rfl
 subst this;refine ajs ?_;rw[Sl,m];exact q _ _ rfl
def ls:V->Bool|.none=>ae|_=>ag
theorem Kv(h:#[bl,x]):(v==rS)=ls x/\plainIs v .none=ae:=by cases x with|none=>cases h;exact#[bV]|bool b=>cases h;exact#[bV]|int i=>obtain⟨t,rfl⟩:=h;exact#[bV]|str t=>obtain⟨x,k,rfl,_⟩:=h;exact#[bV]|ob i=>obtain⟨a,_,rfl⟩:=h;exact#[bV]
theorem St.ls:#[bS,dp,.Is,x,.none,.bool (Mine.ls x)]:=by rintro A S u v s Q E G e rfl q;obtain⟨N,a0⟩:=Kv e;exact wpAny_is_plain a0 (by rw[N];exact q _ _ rfl)
theorem St.BV:#[bS,dp,.IsNot,x,.none,#[cO,!Mine.ls x]]:=by rintro A S u v s Q E G e rfl q;obtain⟨N,a0⟩:=Kv e;exact SY a0 (by rw[N];exact q _ _ rfl)
theorem St.Ku:#[bS,dp,.IsNot,#[cO,x],#[cO,y],.bool (x !=y)]:=by
 rintro A S u v s Q E G rfl rfl q;refine SY rfl ?_;have:(!(So x==So y))=(x !=y):=by cases x<;>cases y<;>rfl
 rw[this];exact q _ _ rfl
def bj(f:Tx):#[bB]->Tx|[]=>[]|[x]=>x|x::y::r=>x++f++bj f (y::r)
def ah(f0:#[bB]):#[B]:=f0.map V.str
theorem ads(h:#[g1]):∃l:#[g],Y=zV l/\l.map (·.1)=f0.map cI:=by induction f0 generalizing Y with|nil=>cases h;exact#[aA,[],rfl]|cons t r Q=>cases h with|cons N a0=>obtain⟨x,k,rfl,z⟩:=N;obtain⟨l,rfl,y⟩:=Q a0;exact#[dy,(x,k)::l,by simp[lx z,y]]
theorem wR(f:Tx):∀(f0:#[g]),(oy (cI f) (f0.map cI)).cps.toList=bj f f0
 |[]=>rfl
 |[x]=>by simp[oy,bj,cI]
 |x::y::r=>by
  have Q:=wR f (y::r);simp at Q⊢;have e:oy (cI f) (cI x::cI y::r.map cI)=cI x++cI _++oy _ _:=rfl;rw[e];have h:∀a b:aq,(a++b).cps.toList=a.cps.toList++b.cps.toList:=λa b=>by show(a.cps++b.cps).toList=_;simp
  rw[h,h,Q];rfl
theorem Cl.join(h:#[b1])(m:X=ah f0)(Z:(f0.map hq).sum+f0.length*f.length<=aC)(d:bj f f0=u):#[fC,"str.join",[.str f,.ob i],#[ao,u]]:=λA J S c s Q E G M b q=>by subst m d;cases b with
|cons N a0=>cases a0 with
|cons a0 T=>
 cases T;obtain⟨x,k,rfl,z⟩:=N;obtain⟨t,Y,L,rfl,y,j,v⟩:=M.list a0 h;obtain⟨l,o,F⟩:=ads v;have I:=lx z;subst I;have P:(l.map (·.1)).toArray.foldl (λa p=>a+p.length+#[s,cI,f]) 0<=aC:=by rw[StrLaws.joinTotal,F,aQ,gA];exact Z
 have C:Rq ((l.map (·.1)).toArray.foldl (·+·.length+(cI f).length) 0)=ag:=by unfold Rq;simp only[decide_eq_false_iff_not];omega
 refine kV zy rfl ahp (ahd _ _) (meets_str_join_list _ k _ l C) #[a3,⟨_,j,rfl,L,?_⟩];.rw[<-o]
 .have e:FZ (cI f) (l.map (·.1))=oy _ _:=Sm _ _;refine post_join l ⟨?_,by rw[e];exact(λr g=>#[fA,#[Q,_,rfl,by rw[F];exact wR _ _]]:∀r g,Q (.str (oy _ (l.map _)) _) _)⟩;rw[e];refine aI (StrLaws.join_length_le _ _) ?_;rw[F,aQ,gA];exact Z
inductive ko(H:#[l]):V->#[eX]->#[eX]->V->#[em]where|str{t u:Tx}{i j:#[eX]}:#[fJ]->cJ t i j=u->ko H #[bm] i j #[ao,u] H|list{k r:Nat}{X q0:#[B]}{i j:#[eX]}{m0:#[l]}:#[aR,H,k,X]->#[bp]->cJ X i j=q0->H.length=r->H++[#[bQ,q0]]=m0->ko H (.ob k) i j (.ob r) m0
theorem Ev.slice{c0 P:Option _}(I:#[aF,x])(y:#[lC])(e:#[jE])(h:ko w0 x i j r m0):#[f4,#[j8],r,m0]:=by cases h with|str N a0=>exact Ev.xS I y e N a0|list N a0 T E b=>exact Ev.xR I y e N a0 T E b
theorem W.join(g:#[b6,o,#[ao,f]])(I:#[bx,e,#[ci]])(h:#[a6,o0,.list,X])(c:X=ah f0)(Z:(f0.map hq).sum+f0.length*f.length<=aC)(b:bj f f0=u)(a:#[ee])(L:#[eb,"join"])(P:#[b7]):#[aP,#[gV,"join"],#[ao,u],o0]:=Ev.iU g #[p] lY zy FN a #[bn,I] (Cl.join h c Z b) L P #[z]
end
end
def fC(d j0:bt):bt:={d with names:=d.names.map λ(n,k)=>if(k==.free&&j0.kind==.function&&j0.names.lookup n==aa .cell)then(n,.cell)else(n,k)}
def mB(d:bt):Bool:=decide ((d.names.map (·.1)).Nodup)&&d.names.all (λp=>!(p.2==.cell))&&d.names.all (λp=>!(p.1==#[kn]))
theorem ZV(d j0:bt):((fC d j0).names.map (·.1))=d.names.map (·.1):=by unfold fC;simp only[gA];apply mX;rintro⟨n,k⟩_;show#[aa,_,(n,uO),(n,k)].1=n;split<;>rfl
theorem ZU{i:Nat}{n:aq}(h:#[G,d.names,(n,k)]):#[G,(fC d j0).names,#[aa,k==.free&&j0.kind==.function&&j0.names.lookup n==aa .cell,(n,.cell),(n,k)]]:=by unfold fC;simp only[cg,h,Option.map_some]
section
variable{B:Bs}{w:aD}{n m:Nat}{O:Gm}{d0 g0:#[n]}{U x0 T:#[o]}{H b0 o0 w0 m0:#[l]}{i0 y0 p:ba}{J:aO}{S:#[t]}{l:#[y]}{h0:#[al]}{a b c o:aT}
theorem ZT(R:#[cx])(d:bt):relabel d J=fC d O.sc:=by unfold relabel fC Env.kindOf;rw[R.scope]
theorem UT{d:bt}{s:au}{c0:bo}{G:#[jk]}(R:#[ah])(b0:mB d=ae)(f:#[hQ])(v0:#[eN])(J0:#[hs])(t0:#[cu,H])(s0:c0.Ns s.heap.objs.size (λ_=>ab))(k0:#[fb]):aG B #[fe] (rW d #[fY] s.heap.objs.size J) S (cS U G []) H c0:=by
 subst J0;have L:#[ef]:=by obtain⟨o,_,_,e,_⟩:=s0;exact eh (bk e)
 simp only[mB,fF,decide_eq_true_eq,fe]at b0;obtain⟨⟨r0,w0⟩,H0⟩:=b0;have I0:=wC v0 R;have j0:=sI (J:=J) d.names [] I0 #[aO];have N0:=vS (J:=J) d.names []
 have R0:((fV J d.names []).map (·.1)).Nodup:=by
  rw[N0]
  have:∀(l:#[g4])(M:#[bA]),(l.map (·.1)++M).Nodup->(iQ l M).Nodup:=by intro l;induction l with
  |nil=>intro M h;show M.Nodup;simpa using h
  |cons q r Q=>
   intro M h;obtain⟨y0,G0⟩:=q;unfold iQ;split;.refine Q _ ?_;exact(EB (by simp only[dk,fH];exact Qm.symm)).mp h
   .refine Q _ ?_;simp only[dk,fH]at h;exact(jB.mp h).2
  exact this _ _ (#[Y])
 refine{scope:=ZT R d,kind:=f,kb:=?_,nd:=by rw[ZV];exact r0,glob:=R.glob,fh:=R.fh,gh:=R.gh.grow L k0,slt:=R.slt,ns:=#[aw,s0,#[c1]],lu:=?_,len:=R.len,cY:=R.cY,store:=?_,code:=?_,nodup:=R.nodup,high:=R.high,dZ:=?_,ic:=R.gh.1,cw:=?_,kr:=?_};.intro _ h;cases h
 .rcases qq e with h|⟨j,p,m0⟩;.simp at h
  .obtain⟨l0,q0,N,Y,g0⟩:=AP p;have M0:=ZU (j0:=O.sc) N;obtain⟨m,w,p0⟩:=R.ns;obtain⟨S0,X0,F,A⟩:=p0 j x m0;rw[Y]at F;cases F;have T0:(l0==#[kn])=ag:=by have:=H0 _ (bz N);simpa using this
   rcases A with⟨rfl,_⟩|⟨_,c,v,i0,⟨o,C0,F0⟩,E0⟩;.rcases g0 with h|h<;>cases h
   .have A0:l0∈#[fY].map (·.1):=by
     rw[N0]
     have:∀(l:#[g4])(M:#[bA]),(l0,jG)∈l\/l0∈M->l0∈iQ l M:=by intro l;induction l with
     |nil=>intro M h;rcases h with h|h;cases h;exact h
     |cons q r Q=>
      intro M h;obtain⟨y0,G0⟩:=q;unfold iQ;split
      .rename_i u0;refine Q _ ?_;rcases h with h|h
       .rcases bg.mp h with h|h;.cases h;exact .inr (.head _)
        .exact .inl h
       .exact .inr #[bo,h]
      .rename_i u0;refine Q _ ?_;rcases h with h|h
       .rcases bg.mp h with h|h;.cases h;exact#[dp,u0]
        .exact .inl h
       .exact .inr h
     exact this _ _ (.inl (bz N))
    obtain⟨q,C,rfl⟩:=bK.mp A0;have t:=j0 q C;rw[t]at i0;cases i0;have U0:(rW d #[fY] s.heap.objs.size J).cells.lookup q.1=aa q.2:=oW R0 C;have Q0:∃c v,(rW d #[fY] s.heap.objs.size J).cells.lookup q.1=aa c/\c0.IsCell c (aa v)/\#[bl,x]:=⟨q.2,v,U0,#[aY,k0 _ _ C0,F0],E0⟩;by_cases g:(jG==jG&&O.sc.kind==.function&&O.sc.names.lookup q.1==aa .cell)=ae;.rw[if_pos g]at M0;exact⟨q.1,.cell,M0,.inr ⟨#[dq],Q0⟩⟩
    .rw[if_neg g]at M0;exact⟨q.1,.free,M0,.inr ⟨.inr #[aG,T0],Q0⟩⟩
 .intro _ h;cases h
 .intro i a e0 I Z;obtain⟨o,N,a0⟩:=R.store i a e0 I Z;exact#[aY,k0 _ _ N,a0]
 .intro i a e0 I Z;have a0:=R.code i a e0 I Z;obtain⟨o,N,_⟩:=#[gl];cases e0 with|raw n0=>have:=kB (k:=0) Z;rw[t0]at this;cases this|rel n n0 d0=>exact gJ.keep a0 (λo0 e=>by rw[k0 _ _ N]at e;cases e;exact N) λb o0 e _ _=>k0 _ _ e|hp n R P T d0 k=>exact hk.keep a0 k (λo0 e=>by rw[k0 _ _ N]at e;cases e;exact N) λb o0 e _ _=>k0 _ _ e|list X=>trivial|tup X=>trivial
 .exactλI=>#[ac,R.fX _ I,ft _]
 .intro q C;have t:=mem_of_lookup (j0 q C);obtain⟨N,a0,p,v,o,E,h0⟩:=R.cw _ t;exact⟨N,λe=>absurd (bk E) (by rw[e];exact ft _),p,v,o,k0 _ _ E,h0⟩
 .have x0:=R.kr;rw[Qj,ur]at R0;refine EA (R:=λx y=>x.1≠y.1) (λ{x y}z u f0 e=>f0 ?_) R0;have L0:=mem_of_lookup (j0 x z);have O0:=mem_of_lookup (j0 y u);exact Gs x0 L0 (by rw[e];exact O0)
theorem pk:∀(k:Nat)(a b:#[g]),cx k (a++b)=cx k a++cx (k+a.length) b|k,[],b=>#[p]|k,.raw _::r,b=>by have:=pk #[u] r b;simp only[fH,cx,cq,this];rw[show#[jW]by omega]|k,.list _::r,b=>by have:=pk #[u] r b;simp only[fH,cx,cq,this];rw[show#[jW]by omega]|k,.tup _::r,b=>by have:=pk #[u] r b;simp only[fH,cx,cq,this];rw[show#[jW]by omega]|k,.rel _ _ _::r,b=>by have:=pk #[u] r b;simp only[fH,cx,cq,this];rw[show#[jW]by omega]|k,.hp _ _ _ _ _ _::r,b=>by have:=pk #[u] r b;simp only[fH,cx,cq,this];rw[show#[jW]by omega]
def fp(B:Bs)(w:aD)(n:Nat)(O:Gm)(I:List aT)(U:#[o])(H:#[l])(b:Bool)(m0:#[l]):Prop:=#[m8,forIn I ae λc r=>if r=ae then do
 let M<-isTrue c J (aW c J);aw (lK M)else aw (lK r)]
theorem fp.nil:fp B w n O [] U H ae H:=#[dc,aA,q s _ #[ek]]
theorem fp.one(h:#[bZ,Et,a,t]):#[bZ,fp,[a],t]:=λA J S s Q E G M q=>by rw[lM];refine#[bW,#[a8,h,λk0 F C=>aA (aA (q _ _ C))]]
structure jF(B:Bs)(O:Gm)(J:aO)(I:ao)(S:#[t])(U:#[o])(H:#[l])(s:au)(j:#[t])(L:au):Prop where
 pre:S<+:j
 new:#[nB,#[R,a]]
 rel:#[dk,j,H,L.heap]
 fx:Fx B (I::fj O J S) s L
theorem jF.step(P:jF B O J I S U H s j L)(R:aB B O J j X r L d f):jF B O J I S X r s d f:=⟨P.pre.trans R.pre,λa h=>#[mH,(R.new a h).elim],R.rel,P.fx.trans R.fx λy m=>(JS P.new y m).imp (λh=>.tail _ h) id⟩
theorem jF.other(P:jF B O J I S U H s j L)(u:L.heap.objs.size<=c0.objs.size)(k:#[e1,b≠I,L.heap.get? b=aa o])(h:#[ji,I,I≠J.locals/\I∉j/\#[dJ,I]])(Y:¬bu L.heap I):jF B O J I S U H s j {L with heap:=c0,toks:=p0}:=#[iC,P.rel.other u k h Y,P.fx.trans (Fx.fY (X:=[I]) u λb o e Z=>#[i2,k]) λy m=>by rw[aZ.mp m];exact .inl (.head _)]
theorem jF.trim(P:jF B O J I S U b0 s e d)(M:S.length<=L)(h:gR O.fz L k U b0):∃g t,k U t/\jF B O J I S U t s g d/\(∀a∈g,a∈e)/\(∀i,i<L->g[i]?=e[i]?)/\(L<=e.length->L<=g.length):=by
 obtain h|⟨j,f,⟨N,a0,T⟩,h⟩:=h;.exact⟨_,_,h,P,λ_ h=>h,#[dj],id⟩
 .refine⟨_,_,h,⟨?_,λa b=>?_,P.rel.take N a0 T,P.fx⟩,λa b=>eJ b,λi c=>eD (ey c f),λh=>by rw[bI];omega⟩;.obtain⟨v0,rfl⟩:=P.pre;rw[ER];rw[iG (aI M f)];simp
  .refine P.new a ?_;rw[yF]at b;exact eJ b
structure GR(B:Bs)(J:aO)(S:#[t])(H:#[l])(h:bo):Prop where
 gh:GH B h
 len:S.length=H.length
 store:#[gG,#[c2],H,∃o,#[cq]/\OR S o e0]
 code:#[gG,#[c2],H,dM B J h a e0]
 nodup:S.Nodup
 high:∀a∈S,#[aK,a]
theorem aG.Kq(R:#[cx])(u:pZ J.locals h c0):GR B J S H c0:=by
 obtain⟨m,l,_⟩:=R.ns;have n:∀a∈S,a≠J.locals:=λa I e=>R.dZ (e▸I);refine⟨R.gh.one R.slt R.ic (jX l) #[gg,u] #[f9,u],R.len,λi a e0 I Z=>?_,λi a T I Z=>?_,R.nodup,R.high⟩;.obtain⟨o,N,a0⟩:=#[gl];exact#[km,(u.2 a (n a (bz I)))]
 .exact(R.code i a _ I Z).keep (λo e=>(u.2 a (n a (bz I))).symm.trans e) λb o e X _=>(u.2 b λG=>jX l (G▸X)).trans e
theorem Wy(M:#[ah])(P:#[aQ,o0,G,A])(p0:Fx B X A d)(g0:∀x∈X,x∈G.drop O.fz\/#[R,x])(e0:G<+:t)(L:∀a∈t.drop O.fz,a∈G.drop O.fz\/A.heap.objs.size<=a)(w:GR B j0 t m0 d.heap)(r0:O.fz<=t.length)(Q:#[jr,j0.cells]):#[aQ,m0,t,d]:=by
 have n:∀x∈G.drop _,x∈fj _ J _\/#[R,x]:=λx z=>(P.new x z).imp oY id;have R:=P.rel
 have d0:∀a∈t,a∈G\/A.heap.objs.size<=a:=λa I=>by
  by_cases n:a∈t.drop O.fz;.exact(L a n).imp fI id
  .have c0:=by have:=hQ O.fz t;rw[<-this]at I;exact(cZ.mp I).resolve_right n
   obtain⟨v0,rfl⟩:=e0;rw[lN R.cY]at c0;exact .inl (eJ c0)
 have b0:∀a,a∉G->a<s.heap.objs.size->a∉X:=λa N a0 h=>(g0 a h).elim (λq=>N (fI q)) λq=>bP.mpr q a0;have h0:#[it]:=λb Z n0=>#[bC,R.lG b n0,Z];have i0:#[gC,∀v,A.heap.IsCell _ v->d.heap.IsCell _ v]:=#[kt,p0.keep _ _ N (b0 _ (R.cw p C).1 (M.jt p C)) (h0 _ (R.cw p C).2.2.1)];refine⟨P.pre.trans e0,λa I=>#[mH,(L a I).elim],?_,(P.fx.trans p0 λy k=>(g0 y k).elim (n y) .inr)⟩;refine{R with gh:=w.gh,ns:=?_,len:=w.len,cY:=r0,store:=w.store,code:=λi a q0 I Z=>?_,nodup:=w.nodup,high:=w.high,dZ:=λI=>?_,cw:=λp C=>?_}
 .obtain⟨m,l,j⟩:=R.ns;refine⟨m,l.at' λo e=>p0.keep _ o e (b0 _ R.dZ M.ju) (h0 _ R.ic),#[c1]⟩;obtain⟨l0,Y,N,a0⟩:=j i x e;refine#[Q,_,N,?_];obtain⟨q,v,F,r⟩|⟨q,c,v,F,u,r⟩:=a0;.exact#[dM,q,v,F,r.pre e0]
  .exact#[mc,i0,u,r.pre e0]
 .exact(w.code i a _ I Z).env λf o k0 g f0=>by obtain⟨N,a0⟩:=f o _ g f0;exact⟨N,λp C=>Q _ (mem_of_lookup (a0 p C))⟩
 .obtain h|h:=d0 _ I;.exact R.dZ h
  .exact#[bC,R.ju,h]
 .obtain⟨N,a0,T,v,E⟩:=R.cw p C;refine⟨λI=>?_,a0,T,v,i0 p C v E⟩;obtain h|h:=d0 _ I;.exact N h
  .exact#[bC,R.jt p C,h]
def Eg(B:Bs)(w:aD)(n:Nat)(O:Gm)(e:aT)(U:#[o])(H:#[l])(X:#[B])(C:#[em])(b0:#[l])(A:aS)(J:aO)(S:#[t])(s:au):Prop:=∀(Q E:#[C]),(#[mm,C])->#[nO]
def nX(N:Nat)(B:Bs)(w:aD)(n:Nat)(O:Gm)(e:aT)(U:#[o])(H:#[l])(X:#[B])(C:#[em])(b0:#[l]):Prop:=∀(A:aS)(J:aO)(S:#[t])(s:au),N<=s.toks->#[bc]->#[ah]->Eg B w n O e U H X C b0 A J S s
def ed(N:Nat)(B:Bs)(w:aD)(n:Nat)(O:Gm)(c:#[y])(U:#[o])(H:#[l])(h0:#[al]):Prop:=∀(A:aS)(J:aO)(S:#[t])(s:au)(Q:#[aI,hW])(E:#[C]),N<=s.toks->#[bc]->#[ah]->(∀o x0 m0 f L j,h0 o x0 m0->#[cd,x0,m0,j,L]->uA j f o->Q f L)->#[as,gp c J]
theorem ed.of{c:#[g]}(h:#[hf,c]):ed N B w n O c U H h0:=λA J S s Q E _ G M q=>h A _ _ s Q E G M q
theorem aj.xn{c:#[g]}(h:ed 0 B w n O c U H h0):#[hf,c]:=λA J S s Q E G M q=>h A _ _ s Q E #[aC] G M q
theorem ck.N(h:#[iV,y])(N:Nat):nX N B w n O y U H X C b0:=λA J S s _ G M Q E q=>h A _ _ s Q E G M q
theorem Im(F:#[w]){u1 l1:aT}{x:aq}{M1:ba}{s1:List aT}{d:bt}{z1:bt}{X:#[B]}{C:#[em]}{c:Nat->#[B]->#[f5]}{r:Nat}(i:Nat){G:#[jk]}(g1:fC d O.sc=z1)(L0:mB d=ae)(Y:#[hQ])(p1:#[eN])(L1:#[hs])(k1:#[cu,b0])(h0:cS U G []=T)(u0:#[fH])(R:#[G,z1.names,(x,.local)])(J0:#[bp])(M0:#[mp])(y0:#[ng])(t1:∀k z q0 v s,X[k]?=aa z->c k q0 v s->iC v s->bA s.length z->∃b A0,#[nt,z1,s1,A0,∃y N0,#[np,z1,u1,A0,N0,N0,N0.set],A0])(j1:#[nf])(F1:#[gr,l1]){A:aS}{s:au}{Q E:#[C]}{I2:Option (ai->dF Unit)}{b3:ba}(l:#[bc])(M:#[ah])(S0:Eg B w n O l1 U H X C b0 A J S s)(Y0:∀T1 f r0 N1,#[aQ,m0,r0,N1]->VR r0 #[cm] (.ob r)->(∃m,N1.heap.Ns T1 m)->#[R,T1]->T1∉r0->compPost #[aE] A E I2 Q #[cm] T1 (.ok .next) N1):#[as,comprehension #[gJ,u1,M1,l1,s1] d J b3 (newList []) ag (aW l1 J) I2]:=by
 subst g1 u0 h0;have x2:=L0;simp only[mB,fF,decide_eq_true_eq,fe]at x2;obtain⟨⟨f1,q1⟩,C1⟩:=x2;have k3:=Ig (J:=J) (d:=d) (wC p1 M);have T0:=sI (J:=J) d.names [] (wC p1 M) #[aO];refine wpAny_comprehension_free (g:=⟨.Name x M1,l1,s1,0⟩) (gs:=[]) rfl (λx=>F1 x J) k3 Y (λy j0 e0=>?_) (S0 _ E λI s0 k0 G0 f0 n1 d2 f2 A2=>?_);.obtain⟨j,t0⟩:=gK.mp j0;obtain⟨l0,e1⟩:=y;cases e0;exact mv f1 t0
 refine jO ?_ (by show 0<=aC;exact aV _);have w0:#[hC,G0,#[jq],k0,#[e7],k0,k0.heap.push #[aj,"list",.seq,([]:#[L]).toArray]]:=aB.push (t:=k0.toks) f0.rel rfl ⟨#[],0,rfl,.nil⟩;have N2:I<k0.heap.objs.size:=by obtain⟨o,N⟩:=n1.live _ _ _ d2;exact bk N
 generalize R1:({k0 with heap:=k0.heap.push #[aj,"list",.seq,([]:#[L]).toArray]}:au)=A0 at*;have v1:A0.heap.objs.size=k0.heap.objs.size+1:=by rw[<-R1];exact da ..
 have B1:#[ev,k0.heap.get?,A0.heap.get?]:=λb o e=>by rw[<-R1];exact bN _ e
 have n3:#[cu,#[jq]]:=by rw[pk,k1];rfl
 have m2:s0 0 #[e7] A0.heap:=#[iU,d2,λi R=>by rw[cL (by rw[f0.rel.len];exact R)],B1 I o e];refine GJ (λy j0=>?_) #[aO] (λc0 h1 b2=>?_) Y;.have:=q1 y j0;intro e;rw[e]at this;cases this
 have G2:c0.objs.size=A0.heap.objs.size+1:=by rw[b2.1,da]
 have U0:#[id,A0.heap.get?]:=λb o e=>b2.extBut b o (cB (bk e)) (bN _ e);have u2:=UT (c0:=c0) w0.rel L0 Y p1 L1 n3 h1 U0;generalize h2:({A0 with heap:=c0,toks:=A0.toks+([]:List (aq×ai)).length}:au)=m1;have u2:aG B #[fe] (rW d #[fY] A0.heap.objs.size J) #[e7] (cS U G []) #[jq] m1.heap:=by rw[<-h2];exact u2
 have U2:A0.heap.objs.size<=m1.heap.objs.size:=by rw[<-h2];show _<=c0.objs.size;omega
 have X2:#[ev,A0.heap.get?,m1.heap.get?]:=by rw[<-h2];exact U0
 have E2:m1.os=A0.os/\m1.drawn=A0.drawn/\m1.gens=A0.gens:=by rw[<-h2];exact#[cc]
 have s2:s0 0 #[e7] m1.heap:=#[iU,m2,#[am],X2 I o e];have e3:I≠A0.heap.objs.size:=cB (ey N2 (by rw[v1];exact dP _));have y2:G0.length=b0.length:=f0.rel.len;have r1:#[e7][b0.length]?=aa k0.heap.objs.size:=by rw[<-y2];simp
 have h3:I∉G0++[k0.heap.objs.size]:=λo0=>by
  rcases cZ.mp o0 with h|h;.exact A2 h
  .exact absurd (aZ.mp h) (cB N2)
 have w1:O.fz<=b0.length:=by rw[<-y2];exact f0.rel.cY
 have E0:#[aK,I]:=aI M.gh.1 f2;have Y1:∀q∈(rW d #[fY] A0.heap.objs.size J).cells,q.2≠I:=λq x0 e=>by have e0:=mem_of_lookup (T0 q x0);have:=M.jt _ e0;exact#[bC,(e▸this:I<s.heap.objs.size),f2]
 generalize C2:rW d #[fY] A0.heap.objs.size J=A1 at*;have q2:A1.locals=A0.heap.objs.size:=by rw[<-C2];rfl
 have j3:#[jr,A1.cells]:=by rw[<-C2];exact T0
 have m3:fj #[fe] A1 #[e7]=A1.locals::#[e7].drop O.fz:=by unfold fj;congr 1;rw[EE.mpr (λp _=>by simp)];rfl
 have t2:jJ #[aE] A (.compLoop #[gJ,u1,M1,l1,s1] 0 #[M,I] #[M,k0.heap.objs.size] A1) (compPost #[aE] A E I2 Q #[M,k0.heap.objs.size] A0.heap.objs.size) m1:=by
  refine codeAny_compLoop_tests (λm L=>∃k q0 v t r0,m=X.length+1-k/\k<=X.length/\c k q0 v t/\jF B #[fe] A1 I #[e7] v t m1 r0 L/\s0 k r0 L.heap/\I∉r0/\b0.length+1<=r0.length) ?_ (X.length+1) ⟨0,[],_,_,_,rfl,aV _,M0 u2.below,#[gM,u2,.refl _ _],s2,h3,by simp[y2]⟩;rintro m L⟨k,q0,v,t,r0,rfl,c1,J1,P,a1,O1,g2⟩;obtain⟨Z0,G1,c2,e2⟩:=y0 k q0 v t J1;have Z1:I≠A1.locals:=by rw[q2];exact e3
  by_cases Q0:k<X.length
  .refine fb (n1.next k X[k] A _ _ r0 v t L _ _ (bD Q0) a1 Z0 l P.rel λu a0 p0 C0 r2 a2 F0=>?_);have d1:=P.other (p0:=p0) F0 a2 ⟨E0,Z1,O1,Y1⟩ (n1.hH _ _ _ a1);refine km (aG.hg d1.rel R #[aU] G1 C0 λX1 x1=>?_);have Z2:=d1.step x1;have O2:I∉fj #[fe] A1 r0:=nL Z1 Y1 O1;have l2:#[aq,I]:=#[hx,P.rel.lG,I,E0];have Q2:s0 #[u] r0 X1.heap:=#[iU,r2,#[am],x1.fx.keep I o e O2 l2];obtain⟨b,b1,Z,I0⟩:=t1 k X[k] q0 v t (bD Q0) J1 P.rel.below (P.rel.len▸C0.below);refine Z A A1 r0 X1 _ _ l x1.rel λi2 k2 I1=>?_;have J2:=Z2.step I1;have z2:I∉k2:=xm I1 x1.rel.cY O1 (n1.live _ _ _ Q2);have B2:s0 #[u] k2 i2.heap:=#[iU,Q2,λi R=>by obtain⟨v0,rfl⟩:=I1.pre;exact#[D,cL],I1.fx.keep I o e O2 l2];have P2:b0.length+1<=k2.length:=aI g2 I1.pre.length_le;have p2:∀{j2 H2 P1 H1},gR O.fz (b0.length+1) (c #[u] j2) #[eF,X[k]] H2->jF B #[fe] A1 I #[e7] #[eF,X[k]] H2 m1 P1 H1->s0 #[u] P1 H1.heap->I∉P1->b0.length+1<=P1.length->∃m,m<X.length+1-k/\∃k q0 v t r0,m=X.length+1-k/\k<=X.length/\c k q0 v t/\jF B #[fe] A1 I #[e7] v t m1 r0 H1/\s0 k r0 H1.heap/\I∉r0/\b0.length+1<=r0.length:=λ{j2 H2 P1 H1}F2 Q1 w2 v2 i3=>by obtain⟨Y2,q3,H0,O0,X0,i1,y1⟩:=Q1.trim (L:=b0.length+1) (by simp[y2]) F2;exact⟨X.length+1-#[u],by omega,k+1,j2,_,q3,Y2,rfl,Q0,H0,O0,n1.mono _ _ _ _ _ w2 (λi R=>i1 i #[f]) (λ_ e=>e),λh=>v2 (X0 _ h),y1 i3⟩
   cases b with|false=>simp only[gc,if_false]at I0⊢;exact p2 I0 J2 B2 z2 P2|true=>simp only[if_true]at I0⊢;obtain⟨y,E1,l3,T2,F2⟩:=I0;refine l3 A A1 k2 i2 _ _ l I1.rel λs3 H1 P1 Q1 o3=>?_;have L2:=J2.step Q1;have f3:I∉fj #[fe] A1 k2:=nL Z1 Y1 z2;have w2:s0 #[u] P1 H1.heap:=#[iU,B2,λi R=>by obtain⟨v0,rfl⟩:=Q1.pre;exact#[D,cL],Q1.fx.keep I o e f3 l2];have v2:I∉P1:=xm Q1 I1.rel.cY z2 (n1.live _ _ _ B2);have n2:VR P1 #[M,k0.heap.objs.size] (.ob b0.length):=#[P,gY L2.pre r1];refine(Cl.append (O:=#[fe]) (n:=n) (U:=v.set i (aa X[k])) T2 w1 #[f] rfl) A A1 P1 _ H1 _ _ l Q1.rel #[hW,n2,o3] λR0 r3 Y2 o2 _=>?_;have g3:I∉fj #[fe] A1 P1:=nL Z1 Y1 v2;have a3:=L2.step o2;exact p2 F2 a3 (#[iU,w2,λi R=>by obtain⟨v0,rfl⟩:=o2.pre;exact cL (by have:=Q1.pre.length_le;omega),o2.fx.keep I o e g3 l2]) (xm o2 Q1.rel.cY v2 (n1.live _ _ _ w2)) (aI P2 (aI Q1.pre.length_le o2.pre.length_le))
  .have o1:k=X.length:=by omega
   subst o1;have U1:=j1 q0 v t J1;subst U1;refine fb (n1.done A _ _ r0 v t L _ _ a1 Z0 l P.rel λa0 p0 a2 F0=>?_);have d1:=P.other (p0:=p0) F0 a2 ⟨E0,Z1,O1,Y1⟩ (n1.hH _ _ _ a1);obtain⟨p3,R2,_⟩:=d1.rel.ns;rw[q2]at R2;have c3:Fx B (I::fj #[fe] A1 #[e7]) A0 m1:=⟨E2.1,E2.2.1,by rw[E2.2.2];exact .refl _,U2,λb o e _ _=>X2 b o e⟩;have d3:=c3.trans d1.fx λy j0=>.inl j0;have M2:#[R,A1.locals]:=by rw[q2,v1];exact eO f0.fx.size
   refine Y0 _ _ r0 _ (Wy M (f0.trans w0) d3 (λy j0=>?_) d1.pre (λa g=>(d1.new a g).imp id (aI U2)) (d1.rel.Kq (.refl ..)) d1.rel.cY j3) #[P,gY d1.pre r1] ⟨p3,R2⟩ (q2▸M2) (q2▸d1.rel.dZ);rcases bg.mp j0 with rfl|j0;.exact .inr f2
   .rw[m3]at j0;rcases bg.mp j0 with rfl|j0;.exact .inr M2
    .exact .inl j0
 rw[<-C2]at t2;exact codeAny_compStart_list t2 (n1.self 0 _ A m1 _ _ l.handled s2 t2)
theorem Ev.comp(F:#[w]){c:Nat->#[B]->#[f5]}(i:Nat)(L:#[iV,j0])(e0:fC d O.sc=r0)(u:mB d=ae)(R:#[hQ])(k0:#[eN])(u0:#[hs])(h0:#[cu,b0])(p:cS U G []=T)(g:#[fH])(f:#[G,r0.names,(x,.local)])(Y:#[bp])(I:#[mp])(t:#[ng])(o0:∀k z q0 v s,X[k]?=aa z->c k q0 v s->iC v s->bA s.length z->∃b h,#[nt,r0,n0,h,∃y N,#[np,r0,p0,h,N,N,N.set],h])(f0:#[nf])(t0:#[gr,j0]):#[aP,#[gJ,p0,v0,j0,n0],.ob r,m0]:=λA J S s Q E a M q=>by refine Im F i e0 u R k0 u0 h0 p g f Y I t o0 f0 t0 a M (λQ E q=>L A J S s Q E a M q) λx0 D j w0 P l0⟨m,l⟩y0 A0=>⟨m,l,λc0 a0=>?_⟩;have s0:=nv M y0;exact#[a9,P.other #[gg,a0] (#[f9,a0]) ⟨s0.1,A0,s0.2.1⟩ y0 s0.2.2 (jX l),l0]
theorem ed.Nu{N:Nat}(F:#[w]){I0 C0:aT}{x:aq}{Y0:ba}{G0:List aT}{d:bt}{M0:bt}{X:#[B]}{C:#[em]}{c:Nat->#[B]->#[f5]}{r:Nat}(i:Nat){G:#[jk]}(o0:nX N B w n O C0 U H X C b0)(v0:fC d O.sc=M0)(f0:mB d=ae)(R:#[hQ])(E0:#[eN])(U0:#[hs])(A0:#[cu,b0])(p:cS U G []=T)(u:#[fH])(j:#[G,M0.names,(x,.local)])(e0:#[bp])(j0:#[mp])(Q:#[ng])(H0:∀k z q0 v s,X[k]?=aa z->c k q0 v s->iC v s->bA s.length z->∃b I,#[nt,M0,G0,I,∃y k0,#[np,M0,I0,I,k0,k0,k0.set],I])(y0:#[nf])(R0:#[gr,C0]){l0:aq}{L i1:ba}(a:Nat)(N0:#[fS,jN #[gJ,I0,Y0,C0,G0] (aa (.Name l0 L)) i1.line J=aw ae])(d1:O.sc.names[a]?=aa (l0,.local))(O0:a<U.length)(f1:U.set a (aa (.ob r))=x0)(X0:ed N B w n O l x0 m0 h0):ed N B w n O (.Assign [.Name l0 L] #[gJ,I0,Y0,C0,G0] i1::l) U H h0:=by subst f1;intro A J S s k1 j1 p0 h M J0;refine mj (ll p0 ?_);rw[exec_Assign_Name_used _ _ _ _ (N0 J M.scope)];refine af (dR (af ?_));refine af (dq (Im F (Q:=λ_ g=>N<=g.toks->ax #[aE] A (gp l J) k1 j1 g) (c:=c) i v0 f0 R E0 U0 A0 p u j e0 j0 Q H0 y0 R0 h M (o0 A J S s p0 h M) λc1 D t Z0 P F0 w0 g1 h1=>?_) (λ_ g E=>aA (aA E)) λ_ _ e=>e);obtain⟨m,q⟩:=w0;refine km (aG.hg P.rel d1 #[aU] O0 F0 λe1 L0=>?_);have Q0:=nv M g1;have m1:c1∉fj O J t:=nL Q0.1 Q0.2.1 h1;have s0:#[aq,c1]:=#[hx,M.lG,c1,Q0.2.2];have l1:e1.heap.Ns c1 m:=q.at' λo e=>L0.fx.keep c1 o e m1 s0;refine⟨m,l1,λc0 t0=>?_⟩;intro n1;have T0:=(P.trans L0).other (t:=e1.toks) #[gg,t0] (#[f9,t0]) ⟨Q0.1,h1,Q0.2.1⟩ g1 Q0.2.2 (jX l1);exact X0 A J t _ k1 j1 n1 h T0.rel λo a0 r0 f S0 a1 u0 b1 Y=>J0 o a0 r0 f S0 a1 u0 (T0.trans b1) Y
end
theorem IU(Y:#[bb])(k:Nat):(Y.eraseIdxIfInBounds k).toList=Y.toList.eraseIdx k:=#[z]
theorem aM.eraseIdx{l:#[br]}{m:List c}(x:aM R l m):∀(i:Nat),aM R (l.eraseIdx i) (m.eraseIdx i):=by induction x with|nil=>intro i;exact .nil|cons e h Q=>intro i;cases i with|zero=>exact h|succ i=>exact .cons e (Q i)
theorem Hh:∀{l:#[g]}{m:#[g]},l.length=m.length->(∀(j:Nat)(a:S)(b:d),#[av,l,a]->#[av,m,b]->R a b)->aM R l m|[],[],_,_=>.nil|a::l,b::m,h,k=>.cons (k 0 a b rfl rfl) (Hh (by simpa using h) λj x y z c=>k (j+1) x y (by simpa using z) (by simpa using c))
theorem DG{x y:aq}{a b:Tx}(z:x.cps.toList=a)(m:y.cps.toList=b)(t u:gn):MeetsSeq.EqGives (.str x t) (.str y u) (a==b):=by subst z m;exact akb x y t u
section
variable{B:Bs}{w:aD}{n m:Nat}{O:Gm}{d0 g0:#[n]}{U x0 T:#[o]}{H b0 o0 w0 m0:#[l]}{i0 y0 p:ba}{J:aO}{S:#[t]}{l:#[y]}{h0:#[al]}{a b c o:aT}
theorem Cl.nM(h:#[b1])(r:O.fz<=i)(y:#[bp])(R:X[k]?=aa v)(c:k<2^62)(m:X.eraseIdx k=q0)(a:H.set i (.list q0)=m0):#[g2,"list.pop",[.ob i,.int (k:Nat)],v]:=λA J S Z s Q E G M p q=>by subst m a;cases p with
|cons N a0=>cases a0 with
|cons a0 T=>
 cases T;obtain⟨b,Y,L,rfl,P,g,z⟩:=M.list N h;obtain⟨t,rfl⟩:=a0;obtain⟨u,e,d⟩:=z.at R;have f:0<=(k:Int):=by omega
 have F:=Gj f #[f];have j:=ih (by rw[z.size];exact#[V,R]:k<Y.size);generalize(k:Int)=x at F j f⊢;refine kV zw #[P,g] FH (ags _ _) (MeetsSeq.list_pop_at _ _ _ x t k u F j e #[kU]) ⟨g,(#[a9,aB.list (t:=s.toks) M P r g (by rw[IU];exact z.eraseIdx k),d])⟩
theorem Cl.wM(h:#[b1])(k:X=ah f0)(a:X.length<2^62)(f:f0.findIdx? (·==t)=aa j):#[fC,"list.index",[.ob i,.str t],#[U,j]]:=λA J S Z s Q E G M p q=>by subst k;cases p with
|cons N a0=>cases a0 with
|cons a0 T=>
 cases T;obtain⟨o,Y,L,rfl,P,g,z⟩:=M.list N h;obtain⟨y,u,rfl,b⟩:=a0;obtain⟨R,c,r⟩:=PT.mp f;have I:Y.size=f0.length:=by rw[z.size];simp[ah]
 have d0:(j:Int)<2^63-1:=by
  have:=by simpa[ah]using a
  omega
 let e:ai->Bool:=λv=>match v with|.str x _=>x.cps.toList==t|_=>ag
 have c0:∀m(l:m<Y.size),∃x C,Y[m]=.str x C/\x.cps.toList=f0[m]'(I▸l):=λm l=>by
  have:(ah f0)[m]?=aa (.str (f0[m]'(I▸l))):=by simp[ah]
  obtain⟨C,b0,x,G0,rfl,g0⟩:=z.at this;rw[rq l]at b0;exact⟨x,G0,by simpa using b0,g0⟩
 refine kV RN #[P,g] ahi (agp _ _) (MeetsSeq.list_index o Y L (.str y u) e (λv p=>?_) j (by rw[I];exact R) d0 ?_ λm l e0=>?_) #[a3,g];.obtain⟨m,l,rfl⟩:=Array.mem_iff_getElem.mp p;obtain⟨x,C,F,d⟩:=c0 m _;rw[F];exact DG rfl b _ _
 .obtain⟨x,C,F,d⟩:=c0 j _;rw[F];show(x.cps.toList==t)=ae;rw[d];exact c
 .obtain⟨x,C,F,d⟩:=c0 m _;rw[F];show(x.cps.toList==t)=ag;rw[d];have:=r m e0;simpa using this
 .exact#[fA,#[bu]]
theorem Cl.Lb(a:#[fJ])(m:(t.map λc=>#[dR])=q0)(b:H.length=r)(d:#[ea,H]):#[cj,bZ,.type "list",[.str t],.ob r,m0]:=λA J S Z s Q E G M p q=>by subst m b d;cases p with
|cons N a0=>
 cases a0;obtain⟨x,k,rfl,z⟩:=N;have Y:x.cps.size=t.length:=by rw[<-z,gI]
 refine fb (call_list_str G.handled x k (λc0 p0 g C R e f I=>?_) (by rw[Y];exact a));refine#[nI,aB.alloc M I R #[aJ] ⟨_,e,g,C,rfl,?_⟩ #[aO]];refine Hh (by rw[gI,f.1,Y,aQ]) λj v y p m=>?_;rw[ke]at p;obtain⟨c,u,T,rfl⟩:=f.2 j v p;rw[cg,<-z,ke,T]at m;cases m;exact#[cV,u]
theorem Cl.La(h:#[b1])(y:#[bp])(b:H.length=r)(a:H++[#[bQ,X]]=m0):#[cj,bZ,.type "list",[.ob i],.ob r,m0]:=λA J S Z s Q E G M p q=>by subst b a;cases p with|cons N a0=>cases a0;obtain⟨d,Y,L,rfl,P,g,z⟩:=M.list N h;refine fb (call_list_seq _ #[aU] g rfl rfl (λc0 C R c I=>(#[kp,aB.alloc M I R #[aJ] ⟨_,c,_,_,rfl,z.mono #[hZ]⟩ #[aO]])) #[kU])
end
theorem Ye{a b c:Tx}(h:a<b)(k:b<=c):a<c:=by
 by_cases X:a<c;.exact X
 .exact absurd (Qg #[f] h) #[f]
theorem HG(f:#[cY]):∀k j,j<=k->f (jd (#[fl,f i,f j]) k)<=f j
 |0,j,h=>by
  have:j=0:=by omega
  subst this;exact yI _
 |k+1,j,h=>by
  have Q:=HG f k;unfold jd;by_cases X:f (k+1)<f (jd (#[fl,f i,f j]) k)
  .rw[if_pos (by simpa using X)];obtain a|a:=gk j #[u];.exact Qf (Ye X (Q j #[f]))
   .have:j=k+1:=by omega
    subst this;exact yI _
  .rw[#[bJ,by simpa using X]];obtain a|a:=gk j #[u];.exact Q j #[f]
   .have:j=k+1:=by omega
    simp_all
theorem HF(f:#[cY]):∀k j,j<=k->f j<=f (jd (#[fl,f j,f i]) k)
 |0,j,h=>by
  have:j=0:=by omega
  subst this;exact yI _
 |k+1,j,h=>by
  have Q:=HF f k;unfold jd;by_cases X:f (jd (#[fl,f j,f i]) k)<f (k+1)
  .rw[if_pos (by simpa using X)];obtain a|a:=gk j #[u];.exact Qf (Qg (Q j #[f]) X)
   .have:j=k+1:=by omega
    subst this;exact yI _
  .rw[#[bJ,by simpa using X]];obtain a|a:=gk j #[u];.exact Q j #[f]
   .have:j=k+1:=by omega
    simp_all
theorem AD(b:Nat->Nat->Bool):∀k,jd b k<=k|0=>aP _|k+1=>by unfold jd;split;exact aP _;exact eO (AD _ k)
section
variable{B:Bs}{w:aD}{n m:Nat}{O:Gm}{d0 g0:#[n]}{U x0 T:#[o]}{H b0 o0 w0 m0:#[l]}{i0 y0 p:ba}{J:aO}{S:#[t]}{l:#[y]}{h0:#[al]}{a b c o:aT}
theorem rg{Y:#[bI]}(z:#[a1,Y.toList,ah f0]){i:Nat}(h:#[G,Y,v]):∃x u,v=.str x u/\x.cps.toList=f0.getD i []:=by rw[<-ke]at h;obtain⟨y,m,b⟩:=z.get' h;unfold ah at m;rw[cg]at m;obtain⟨t,n0,rfl⟩:=dW.mp m;obtain⟨x,u,rfl,e⟩:=b;exact⟨x,u,rfl,#[Y]⟩
theorem Kz{s:au}{l:ao}(y:s.heap.IsList l f)(h:∀k:au,k={s with heap:=s.heap.push #[aj,"list_iterator",.fields,#[.ref l,.int 0 0]]}->(k.heap.IsListIter s.heap.objs.size l 0/\k.heap.IsList l f)->(∀b∈[s.heap.objs.size,l],b<k.heap.objs.size)->#[bs,s.heap.objs.size,k]):#[as,#[cP,kY,l]]:=by
 refine sj y (h _ rfl ⟨#[cV,#[aW]],y.push _⟩ (λb Z=>?_));rw[da];obtain rfl|Z:=bg.mp Z;.exact hR _
 .rw[aZ.mp Z];exact kL (by obtain⟨_,e,_⟩:=y;exact bk e)
theorem KE{s:au}{c0:bo}(R:#[e1,b∉[s.heap.objs.size],(s.heap.push d).get? b=aa o]):#[fb]:=λb o e=>by refine R b o (λl=>(absurd ((aZ.mp l)▸bk e) (ft _))) (bN _ e)
theorem Cl.LH{i:Nat}{f0:#[bB]}{X:#[B]}{t:Tx}(h:#[b1])(r:X=ah f0)(l:t∈f0)(T:∀x∈f0,t<=x):#[fC,"min",[.ob i],#[bm]]:=λA J S c s Q E G a p q=>by subst r;cases p with
|cons N a0=>
 cases a0;obtain⟨C,Y,L,rfl,P,g,z⟩:=a.list N h;have I:Y.size=f0.length:=by rw[z.size];simp[ah]
 refine fb (call_min_walk (Kz (f:=Y) #[cG,L] λg0 e e0 l0=>?_));subst e;have M:=Gb (prog:=P0) (w:=w) (A:=A.in1) G.handled s.heap.objs.size C (cB (bk g)) Y;have k0:0<Y.size:=by rw[I];exact EI l
 refine⟨_,_,_,_,_,_,#[fl,#[er],#[fc]],rfl,M,e0,l0,k0,λi j i0 b0 s Q E P f h=>?_,λv c0 p0 m R m0=>?_⟩;.obtain⟨x,t,rfl,F⟩:=rg z P;obtain⟨y,u,rfl,d⟩:=rg z f;refine SI (T:="str") (jf s x t) (jf s y u) aiq ahq (ahe _ _) (PySem.gives_str_lt x y t u) (by unfold RZ;first|trivial|exact .bool _|simp) ?_;show Q _ s;rw[F,d];exact h
 .have j0:Y[jd (#[fl,#[er],#[fc]]) #[gz]]?=aa v:=m;obtain⟨x,u,rfl,F⟩:=rg z j0;have h0:#[fb]:=λb o e=>KE R b o e;refine q _ _ S (aB.heap (t:=p0) a m0 h0) #[bP,x,u,rfl];rw[F];have k:=AD (#[fl,#[er],#[fc]]) #[gz];have Z:∀x∈f0,#[k8,#[er],#[fc]]<=x:=λx z=>by obtain⟨j,f,rfl⟩:=EL.mp z;have:=HG (λi=>#[er]) #[gz] j #[f];rw[ef (i:=j),bD f]at this;exact this
  have d0:#[k8,#[er],#[fc]]∈f0:=by rw[ef,#[D,bD]];exact kg _
  exact Qe (Z t l) (T _ d0)
theorem Cl.LA{i:Nat}{f0:#[bB]}{X:#[B]}{t:Tx}(h:#[b1])(r:X=ah f0)(l:t∈f0)(T:∀x∈f0,x<=t):#[fC,"max",[.ob i],#[bm]]:=λA J S c s Q E G a p q=>by subst r;cases p with
|cons N a0=>
 cases a0;obtain⟨C,Y,L,rfl,P,g,z⟩:=a.list N h;have I:Y.size=f0.length:=by rw[z.size];simp[ah]
 refine fb (call_max_walk (Kz (f:=Y) #[cG,L] λg0 e e0 l0=>?_));subst e;have M:=Gb (prog:=P0) (w:=w) (A:=A.in1) G.handled s.heap.objs.size C (cB (bk g)) Y;have k0:0<Y.size:=by rw[I];exact EI l
 refine⟨_,_,_,_,_,_,#[fl,#[fc],#[er]],rfl,M,e0,l0,k0,λi j i0 b0 s Q E P f h=>?_,λv c0 p0 m R m0=>?_⟩
 .obtain⟨x,t,rfl,F⟩:=rg z P;obtain⟨y,u,rfl,d⟩:=rg z f;refine SI (T:="str") (jf s x t) (jf s y u) aip aho (ahc _ _) (PySem.gives_str_gt x y t u) (by unfold RZ;first|trivial|exact .bool _|simp) ?_;show Q _ s;have:(decide (y.cps.toList<x.cps.toList))=decide (#[fc]<#[er]):=by rw[F,d]
  rw[this];exact h
 .have j0:Y[jd (#[fl,#[fc],#[er]]) #[gz]]?=aa v:=m;obtain⟨x,u,rfl,F⟩:=rg z j0;have h0:#[fb]:=λb o e=>KE R b o e;refine q _ _ S (aB.heap (t:=p0) a m0 h0) #[bP,x,u,rfl];rw[F];have k:=AD (#[fl,#[fc],#[er]]) #[gz];have Z:∀x∈f0,x<=#[k8,#[fc],#[er]]:=λx z=>by obtain⟨j,f,rfl⟩:=EL.mp z;have:=HF (λi=>#[er]) #[gz] j #[f];rw[ef (i:=j),bD f]at this;exact this
  have d0:#[k8,#[fc],#[er]]∈f0:=by rw[ef,#[D,bD]];exact kg _
  exact Qe (T _ d0) (Z t l)
theorem Cl.Ly(b:max x y=r):#[fC,"max",[.int (x:Nat),.int y],#[U,r]]:=λA J S Z s Q E G M p q=>by subst b;cases p with
|cons N a0=>cases a0 with
|cons a0 T=>
 cases T;obtain⟨t,rfl⟩:=N;obtain⟨u,rfl⟩:=a0;refine fb (max_two_ints G.handled λc0 p0 R I=>#[a9,aB.heap M I R,?_]);split;.exact⟨u,by rw[#[D,uw]]⟩
 .exact⟨t,by rw[#[D,uv]]⟩
theorem St.Kg{C:#[g]}{X:#[B]}(h:#[b1])(c:X=C.map V.int):#[jK,.In,#[U,k],#[ci],(.bool (C.any (·==k)))]:=λA J S u v s Q E G M e p q=>by
 subst c;obtain⟨t,rfl⟩:=e;obtain⟨b,Y,L,rfl,P,g,z⟩:=M.list p h;have o:∀{Z:#[g]}{j:#[g]},#[a1,Z,j.map V.int]->IntsAre Z j:=by intro Z j;induction j generalizing Z with|nil=>intro h;cases h;exact .nil|cons m r a=>intro h;cases h with|cons N a0=>obtain⟨t,rfl⟩:=N;exact .cons _ _ (a a0)
 refine in_list_ints #[cG,_] (o z) (#[a9,#[ek],rfl])
theorem St.KN(P:#[b1])(f:#[aR,H,j,q0])(a:X++q0=d)(y:d.length<=aC)(b:H.length=r)(Z:H++[#[bQ,d]]=m0):fA B w n O (bM .Add) #[ci] #[cn] U H (.ob r) m0:=λA J S u v s Q E G M e p q=>by subst a b Z;obtain⟨c,Y,L,rfl,l,g,z⟩:=M.list e P;obtain⟨R,p0,o,rfl,k,h,m⟩:=M.list p f;rw[aY]at y;refine concat_meets #[P,g] #[P,h] noFill_list_add seq_list_add aim ahh (ago _ _) (list_addW _ _ _ _ L _ _ _ _ _ (by rw[z.size,m.size];exact y)) #[bN,g,h];refine#[kp,aB.push M rfl #[Q,0,rfl,?_]];rw[yj];exact(z.append m).mono #[hZ]
end
section
variable{B:Bs}{w:aD}{n m:Nat}{O:Gm}{d0 g0:#[n]}{U x0 T:#[o]}{H b0 o0 w0 m0:#[l]}{i0 y0 p:ba}{J:aO}{S:#[t]}{l:#[y]}{h0:#[al]}{a b c o:aT}
theorem Ev.lam(F:#[w])(j:Nat)(c:#[av,O.own,x])(Y:x.name="<lambda>")(f:x.pos=i0)(h:#[eN])(i:#[ln])(N:iQ d.names []=I)(g:H.length=q)(Z:H++[#[js,.expr,I]]=m0):#[aP,.Lambda z r0 d i0,.ob q,m0]:=λA J S s Q E G M k=>by
 subst Z g;refine aki (i _) ?_;have m:=by have:=(M.kb x (bz c)).2.2;rw[Y]at this;exact this
 rw[m,<-Y];subst f;exact made F M (bz c) h (λb e=>nomatch e) N λa k0 C T=>k _ _ _ C T
theorem Uy(F:#[w])(G:#[eP])(R:#[ah])(C:tV B s.heap f f0 j0 (.expr r0) k Z)(d:#[a1,Z,Y])(T:#[i6])(n0:∀(i:Nat)(a:ao)(c0:cp->Prop),#[n2,c0])(h0:#[kR])(p0:#[lm,"__classdict__"])(q0:#[eV])(t0:#[eU])(h:Ev B w n #[gp] r0 #[jJ] H r o0)(q:∀M L t,#[aQ,o0,t,L]->VR t M r->Q M L):#[as,#[b3,dX,f,Z]]:=by
 obtain⟨o,g,l⟩:=C.at_;have u:=C.ok;simp only[iB,fF,decide_eq_true_eq,fe]at u;obtain⟨⟨⟨u0,w0⟩,b0⟩,s0⟩:=u;have i0:=C.Dn;refine gr (akg #[h4] g l (by rw[i0];exact q0) (by rw[i0];exact t0) C.HP C.code ?_);rw[C.bind];refine aA (GJ (λx z e=>?_) #[bO,?_] (λv k0 A0=>?_) (by rw[i0];exact C.kind));.grind
 .rw[i0];obtain⟨i,c⟩:=gK.mp z;obtain⟨N,a0⟩:=pL.mp c;rw[cg]at N;obtain⟨p,j,y0⟩:=dW.mp N;have y:i<k:=by rw[<-C.len];exact#[V,a0]
  have v0:=bz (by rw[eD y];exact j);have m0:=w0 _ v0;simp[beq_iff_eq]at m0;obtain⟨l0,e0⟩:=p;cases m0;rw[<-y0];exact mv u0 j
 .have X:=λb o e=>A0.extBut b o (cB (bk e)) (bN _ e);refine#[a3,(F.nl R.gh).fresh _ A0];have C0:=HX R C d T n0 h0 p0 k0 X;have I:#[R,v.objs.size]:=by obtain⟨o,_,_,e,_⟩:=k0;exact eh (bk e)
  refine akh ?_;refine h (A.deeper _) _ S _ _ _ #[bN,G.handled,?_] C0 ?_;.have:=G.depth;show#[i0];omega
  .have:=G.units;show A.units+3+8*n+8<_;omega
  intro M L t P m;have x0:=HY (d:=[]) R T (k0:=#[cQ,v,s.toks+((j0.names.map (·.1)).zip Z).length]) I X rfl rfl rfl P;exact q M L t x0 m
theorem bZ.VU(F:#[w])(P:#[a6,b0,.raw,gi n0 (.expr r0) j0 X])(e:iD n0 [] j0 X k)(v0:cx 0 b0=[i])(R:Y.length=k)(h:Ev B w n #[gp] r0 #[jJ] b0 r o0)(G:#[eP])(M:#[dk,S,b0,s.heap])(q0:#[G,S,f])(u:#[a1,Z,Y])(q:∀z L d,#[aQ,o0,d,L]->VR d z r->Q z L):#[as,#[b3,dX,f,Z]]:=by
 obtain⟨o,g,f0,rfl,b,m,x,e0,i0,h0,t0,s0⟩:=M.store i f _ q0 P;obtain⟨⟨c,T,N,a0,k0⟩,y⟩:=M.code i f _ q0 P _ _ g rfl;have v:=u.length.trans R;refine Uy F G M ⟨#[P,g],x,m,e0,i0,T▸a0,e.bind _ _ b t0 s0 v,e.ok,v,e.kind⟩ u y (λj a H p t=>?_) (h0▸e.nA) (λl0 l=>?_) e.co e.gen h q
 .have w0:=by have:=kB (k:=0) t;rw[v0,gM]at this;exact aZ.mp this
  subst w0;rw[q0]at p;cases p;intro I p0 c0 m0;rw[g]at c0;cases c0;cases m0;exact⟨⟨c,T,N,a0,k0⟩,λu0 C=>oW (h0▸e.nA) C⟩
 .rw[h0];have:=fe.mp e.qF _ l;simp only[BEq.rfl,if_true,fF,yl,EC]at this;exact this
end
def gS:ai->Tx|.str x _=>x.cps.toList|_=>[]
def jo:ai->Prop|.str _ _=>True|_=>False
theorem Wu(h:jo v):#[bl,#[c0,gS,v]]:=by cases v with|str x t=>exact⟨x,t,rfl,rfl⟩|_=>exact h.elim
theorem BW(h:#[bl,#[bm]]):jo v/\gS v=t:=by obtain⟨x,k,rfl,e⟩:=h;exact#[gs,e]
theorem vW:∀{Y:#[g]}{f0:#[g]},#[g1]->Y.map gS=f0/\∀v∈Y,jo v
 |Y,[],h=>by cases h;simp
 |Y,t::r,h=>by cases h with
 |cons N a0=>
  obtain⟨F,d⟩:=vW a0;obtain⟨U,q⟩:=BW N;refine⟨#[Y],λv p=>?_⟩;obtain rfl|p:=bg.mp p;.exact U
  .exact d v p
theorem Aj:∀{Y:#[g]},(∀v∈Y,jo v)->#[a1,Y,ah (Y.map gS)]|[],_=>.nil|v::r,h=>.cons (Wu (h v fU)) (Aj λu e=>h u (dO _ e))
theorem LD{f:S->ai}:∀{l:#[g]}{k:#[g]}{R:ai->S->Prop}{p:ai×S},aM R k l->p∈k.zip l->R p.1 p.2
 |[],k,R,p,h,C=>#[Y]
 |a::l,k,R,p,h,C=>by cases h with
 |cons N a0=>
  obtain rfl|C:=bg.mp C;.exact N
  .exact LD (f:=f) a0 C
theorem WA{Y:#[g]}(h:∀v∈Y,jo v)(a0:2<=Y.length):keyKind' Y.toArray=aw oneType':=by
 have o:∀l,(∀v∈l,jo v)->∃S,StrsAre l S:=λl=>by induction l with|nil=>exactλ_=>#[bM,.nil]|cons v r Q=>intro h;obtain⟨S,a⟩:=Q λu e=>h u (dO _ e);cases v with|str x t=>exact#[bM,.cons x t a]|_=>exact(h _ fU).elim
 obtain⟨S,a⟩:=o _ h;match Y,a0,a with|b::c::r,_,a=>exact keyKind_strs a
theorem aca{o:Tx->Tx}{t:#[bI]}(c:#[g1])(R:aM (λk v=>jo k/\gS k=o (gS v)) t.toList Y)(C:X.Perm (t.zip Y.toArray))(u:Fo strKind X X.size):∃r:#[g],#[a1,(X.map (·.2)).toList,ah r]/\r.Perm f0/\r.Pairwise λa b=>o a<=o b:=by
 obtain⟨F,d⟩:=vW c;have y:X.toList.Perm (t.toList.zip Y):=by rw[<-ksk_zip];exact Array.perm_iff_toList_perm.mp C
 have n:=R.length;have s:∀p∈X.toList,(jo _/\gS _=o _)/\jo _:=λp C=>by have g:=y.mem_iff.mp C;exact⟨LD (f:=λv=>v) R g,d _ (Ql (g)).2⟩
 refine#[bP,X.toList.map λp=>gS p.2,?_,?_]
 .have:(X.map (·.2)).toList=X.toList.map (·.2):=by simp
  rw[this];have h:=Aj (S:=S) λv c=>by obtain⟨p,C,rfl⟩:=bK.mp c;exact(s p C).2
  rw[gA]at h;exact h
 .have h:=y.map (λp=>gS p.2)
  have e:(t.toList.zip Y).map (λp:Keyed=>gS p.2)=f0:=by
   have:(t.toList.zip Y).map (λp:Keyed=>gS p.2)=((t.toList.zip Y).map Prod.snd).map gS:=by rw[gA];rfl
   rw[this,#[D,List.map_snd_zip],F]
  rw[e]at h;exact h
 .rw[ur,yN];intro i j P f M;have q:=u i j (eh M) #[f];have E:∀m l,KK strKind _ m=o _:=λm l=>by have z:=(s X[m] #[z]).1;unfold KK;rw[rq l];show(strKind.keyOf _).getD _=_;rw[<-z.2];have N:=z.1;revert N;cases(X[m]).1<;>intro N<;>first|rfl|exact N.elim
  rw[E i _,E j _]at q;have:=Qk.mp (of_decide_eq_false (q));simpa using this
section
variable{B:Bs}{w:aD}{n m:Nat}{O:Gm}{d0 g0:#[n]}{U x0 T:#[o]}{H b0 o0 w0 m0:#[l]}{i0 y0 p:ba}{J:aO}{S:#[t]}{l:#[y]}{h0:#[al]}{a b c o:aT}
structure hx(O:Gm)(J:aO)(S:#[t])(B:Bs)(c0:Nat)(I:ao):Prop where
 ge:c0<=I
 loc:I≠J.locals
 out:I∉S
 cell:#[dJ,I]
 base:#[aK,I]
theorem hx.new{s:au}(R:#[ah]){I:ao}(h:#[R,I]):#[kH,I]:=⟨h,(nv R h).1,λl=>#[bC,R.fX _ l,h],(nv R h).2.1,(nv R h).2.2⟩
theorem hx.nf{c0:Nat}(h:hx O J S B c0 I):I∉fj O J S:=nL h.loc h.cell h.out
theorem hx.kept{c0:Nat}(h:hx O J S B c0 I)(R:#[ah])(P:#[cd,x0,m0,S,L])(e:#[ch,I,e0]):L.heap.get? I=aa e0:=P.fx.keep I _ e h.nf #[hx,R.lG,I,h.base]
theorem aB.upd(P:#[aQ,H,S,k0])(h:#[kH,I])(g:k0.heap.get? I=aa ⟨d,ab,.seq X k,#[]⟩)(f:#[bb]->#[bb])(a:d≠#[h6]:=by exact#[fL]):#[aQ,H,S,{k0 with heap:=k0.heap.update I (dQ f)}]:=P.other (#[z]) (λb o Z e=>(rP _ _ _ _ Z).trans e) ⟨h.loc,h.out,h.cell⟩ h.ge h.base (Mj g a)
theorem NT{A:aS}{C s:au}{a x:ao}{f0 r:#[bB]}{Y:#[L]}{q:#[bb]}{e F:Nat}{o:Tx->Tx}{f:SortSt}{P:#[aI,kR]}{E:#[C]}(d0:aB B O J S U H C S s)(d:#[i8,a])(M:#[i8,x])(G:x≠a)(Q:#[ch,x,dn "list" q e])(I:#[ch,a,#[iJ]])(p:#[g1])(R:aM (λk v=>jo k/\gS k=o (gS v)) q.toList Y)(y:Y.length<64)(i:(lT f).Perm (q.zip Y.toArray))(u:Fo strKind (lT f) (lT f).size)(n:failedOf f=ab)(b0:#[jV,o,o])(h:#[mD]):ax #[aE] A (ksk_tail a ag F #[M,x] f) P E s:=by
 obtain⟨z,N,a0,T⟩:=aca p R i u;have:=b0 z a0 T;subst this;have j:=R.length;rw[gI]at j;have m:(lT f).size=Y.length:=by rw[i.size_eq,Array.size_zip,j,yP,Nat.min_self]
 have g:=d0.upd M Q (λ_=>(#[]:#[bb]));have c0:(s.heap.update x (dQ λ_=>(#[]:#[bb]))).get? a=aa #[iJ]:=(rP _ _ _ _ G.symm).trans I;have t:=g.upd d c0 (λ_=>(lT f).map (·.2));unfold ksk_tail;try dsimp only
 refine af (zi Q rfl ?_ (by rw[j,dw];omega) #[aC]);refine#[a0,vj];refine#[bF,seqEpoch_at,c0,rfl];refine af (zi c0 rfl ?_ #[aC] (by simp only[gc,if_false,Array.size_map];rw[m,dw];omega));rw[n];simp only[bne_self_eq_false,gc,if_false];have Z:=Fp c0 λ_=>(lT f).map (·.2);exact aA (h _ _ _ t Z N)
theorem abr{A:aS}{C s:au}{a T:ao}{f0 r:#[bB]}{Y:#[L]}{Q:#[bb]}{e F:Nat}{q:Tx->Tx}{P:#[aI,kR]}{E:#[C]}(i0:aB B O J S U H C S s)(d:#[i8,a])(M:#[i8,T])(c0:T≠a)(e0:#[ch,T,dn "list" Q e])(I:#[ch,a,#[iJ]])(g:#[g1])(R:aM (λk v=>jo k/\gS k=q (gS v)) Q.toList Y)(b0:Y.length<64)(g0:#[jV,q,q])(h:#[mD]):ax #[aE] A (ksk_end a ag Y.toArray F #[M,T] Q) P E s:=by
 have t:=R.length;rw[gI]at t;have h0:(Q.zip Y.toArray).size=Y.length:=#[Y];unfold ksk_end;try dsimp only
 by_cases a0:Y.toArray.size<2
 .rw[if_pos a0,if_pos a0];refine NT (f:=SortSt.mk' general' (Q.zip Y.toArray) #[] 7 ab) i0 d M c0 e0 I g R b0 (Ph _) ?_ rfl g0 h;intro i j d0 n;have j0:j<(Q.zip Y.toArray).size:=n;rw[yP]at a0;have:i=j:=by omega
  subst this;exact KeyOrd.kle_refl _
 .rw[if_neg a0,if_neg a0];rw[yP]at a0;have k0:∀k∈Q.toList,jo k:=λk y=>by obtain⟨i,f⟩:=gK.mp y;obtain⟨b,_,Z⟩:=R.get' f;exact Z.1
  rw[show keyKind' Q=aw oneType' by exact WA k0 (by rw[gI,t];omega)];refine#[a0,aA];refine af (dq (wpS_sortRunsK strKind_oneLt (a₀:=Q.zip Y.toArray) (Q:=λ_ m0=>(lT m0).Perm (Q.zip Y.toArray)/\failedOf m0=ab/\Fo strKind (lT m0) (Q.zip Y.toArray).size) (λp m=>?_) ⟨Ph _,rfl,rfl,rfl⟩ (by rw[h0];omega) (by rw[h0];exact b0) λm0 G z x=>⟨G,z,x⟩) ?_ λ_ _ e=>e);.have N:=k0 _ (Ql ((by simp_all:p∈Q.toList.zip Y))).1;revert N;obtain⟨k,v⟩:=p;cases k<;>intro N<;>first|exact#[bu]|exact N.elim
  .rintro⟨⟨⟩,m0⟩L⟨rfl,m,o,u⟩;exact NT i0 d M c0 e0 I g R b0 m (by rw[m.size_eq];exact u) o g0 h
def yw(B:Bs)(w:aD)(n:Nat)(O:Gm)(J:aO)(S:#[t])(U:#[o])(H:#[l])(f:ai)(f0:#[bB])(o:Tx->Tx):Prop:=∀(A:aS)(u:ai)(t:Tx)(s:au)(Q E:#[C]),#[bc]->#[ah]->VR S u #[bm]->t∈f0->(∀a L,#[aQ,H,S,L]->VR S a #[c0,o,t]->Q a L)->#[as,dX f [u]]
theorem abt{C s:au}{a b0:ao}(G:#[bc])(r0:yw B w n O J S U H f f0 key)(o0:aB B O J S U H C S s)(d:#[i8,a])(R:#[i8,b0])(e0:b0≠a)(k0:#[ch,b0,dn "list" #[] 0])(I:#[ch,a,#[iJ]])(p:#[g1])(d0:Y.length<64)(l0:#[jV,key,key])(h:#[mD]):ax #[aE] A (ksk_rest a f ag Y.toArray F #[M,b0]) P E s:=by
 refine#[a0,hY];first|rw[List.forIn_toArray]|rfl|rfl
 refine af (ksk_fold (λi L=>∃q0 e,aB B O J S U H C S L/\L.heap.get? b0=aa (dn "list" q0 e)/\L.heap.get? a=aa #[iJ]/\aM (λk v=>jo k/\gS k=key (gS v)) q0.toList (Y.take i)) Y 0 s ⟨#[],0,o0,k0,I,.nil⟩ ?T ?c0)
 case T=>
  rintro j x L z⟨q0,e,g,i0,m0,g0⟩;simp only[gM]at g0⊢;have u:=by have N:=g0.length;rw[gI,bI]at N;omega
  obtain⟨y,m,p0⟩:=p.get' z;unfold ah at m;rw[cg]at m;obtain⟨t,n0,rfl⟩:=dW.mp m;refine af (iM (r0 A x t L _ _ G g.rel p0 (bz n0) λZ q o M=>?_));obtain⟨s0,t0⟩:=BW M;obtain⟨_,j0⟩:=BW p0;have a0:=R.kept g.rel o i0;obtain⟨Q,h0⟩:∃Q,(q.heap.update b0 (dQ (·.push Z))).get? b0=aa (dn "list" (q0.push Z) Q):=#[bM,Fp a0 (·.push Z)];refine af (zi a0 rfl ?_ (by rw[dw];omega) (aI (eK (Array.size_push ..)) (by rw[dw];omega)));refine aA ⟨rfl,q0.push Z,Q,((g.trans o).upd R a0 (·.push Z)),h0,(rP _ _ _ _ e0.symm).trans (d.kept g.rel o m0),?_⟩;rw[pF,rH,z];exact g0.append (.cons ⟨s0,by rw[t0,j0]⟩ .nil)
 case c0=>rintro L⟨q0,e,g,i0,m0,g0⟩;rw[gM,hs]at g0;refine af (listItems_at i0 rfl (abr g d R e0 i0 m0 p g0 d0 l0 h))
theorem abq{A:aS}{s:au}{b0 c0:ao}{k:Nat}{f0 r:#[bB]}{Y:#[bb]}{y:Tx->Tx}{Q E:#[C]}(G:#[eP])(p0:yw B w n O J S U H #[M,c0] f0 y)(M:#[ah])(g:#[ch,b0,#[l7]])(p:#[a1,Y.toList,ah f0])(h0:f0.length<64)(l0:#[jV,y,y])(h:∀f L,#[aQ,H++[#[fR,r]],S++[f],L]->#[bs,f,L]):#[as,dX #[c5,"sorted"] [.ref b0] [(ak "key",.ref c0)]]:=by
 have i0:Y.toList.length<64:=by rw[p.length];simpa[ah]using h0
 have a0:Y.toList.toArray=Y:=by simp
 refine call_function_entry_kw kind_sorted plain_sorted entry_sorted (ksk_s1 _ _) ?_;unfold uE.«sorted»;refine af (m:=checkCount "sorted" 1 1 _) #[cv];refine af (collect_list (vs:=Y.toList) ⟨_,g,rfl,k,by simp⟩ ?_ (by rw[dw];omega));refine af (GK ?_ (by rw[dw];omega));have I:#[ko,((s.heap.push (dn "list" #[] 0)).update s.heap.objs.size (dQ (·++Y.toList.toArray))).objs.size]:=by rw[FO,uD]
 have n0:(((s.heap.push (dn "list" #[] 0)).update s.heap.objs.size (dQ (·++Y.toList.toArray))).push (dn "list" Y.toList.toArray 0)).get? (s.heap.objs.size+1)=aa (dn "list" Y.toList.toArray 0):=by rw[<-I];exact#[aW]
 have v:#[ev,s.heap.get?,(((s.heap.push (dn "list" #[] 0)).update s.heap.objs.size (dQ (·++Y.toList.toArray))).push (dn "list" Y.toList.toArray 0)).get?]:=λb o q=>by have u:b<s.heap.objs.size:=bk q;rw[RY _ _ _ (by rw[I];exact cB (kL u)),rP _ _ _ _ (cB u),RY _ _ _ (cB u)];exact q
 have g0:#[R,(((s.heap.push (dn "list" #[] 0)).update s.heap.objs.size (dQ (·++Y.toList.toArray))).push (dn "list" Y.toList.toArray 0)).objs.size]:=by rw[uD,I];omega
 show ax _ _ _ _ _ #[kL,((s.heap.push (dn "list" #[] 0)).update s.heap.objs.size (dQ (·++Y.toList.toArray))),Y.toList.toArray];rw[I];have C:#[aQ,H,S,#[kL,((s.heap.push (dn "list" #[] 0)).update s.heap.objs.size (dQ (·++Y.toList.toArray))),Y.toList.toArray]]:=aB.heap (t:=s.toks) M g0 v;generalize q0:((s.heap.push (dn "list" #[] 0)).update s.heap.objs.size (dQ (·++Y.toList.toArray))).push (dn "list" Y.toList.toArray 0)=N at*;have t0:s.heap.objs.size+1<N.objs.size:=bk n0;refine#[b9,wpAny_call_entry_kw slot_list_sort #[P,n0] entry_list_sort ?r0 (ksk_l1 _ _)]
 case r0=>
  show ax #[aE] A.in1.in1 (Builtin.«list.sort» ⟨[.ref (s.heap.objs.size+1)],[(ak "key",.ref c0)]⟩) _ _ _;rw[ksk_t1];generalize d0:s.heap.objs.size+1=f at*;have o0:#[kH,f]:=hx.new M #[f];obtain⟨F,j0⟩:∃F,(N.update f (dQ λ_=>(#[]:#[bb]))).get? f=aa #[iJ]:=#[bM,Fp n0 λ_=>#[]];have t:=C.upd o0 n0 (λ_=>(#[]:#[bb]));have k0:#[jw].objs.size=N.objs.size+1:=by rw[uD,FO]
  have u0:#[kH,#[jw].objs.size]:=by rw[k0];exact hx.new M #[f]
  have s0:#[jw].objs.size≠f:=by rw[k0];exact hu (kL t0)
  unfold ksk_tree;refine#[bF,listItems_at,n0,rfl];refine af (zi n0 rfl ?_ (by rw[yP,dw];omega) #[aC]);refine#[bF,seqEpoch_at,j0,rfl];refine af (wpAny_newTuple ?_ (by show Y.toList.toArray.toList.length<=_;rw[List.toList_toArray,dw];omega));refine af (GK ?_ #[aC]);refine cj ?_;have j:#[aQ,H,S,#[kL,#[jw],#[]]]:=t.trans (aB.heap (t:=s.toks) t.rel (by show(N.update f _).objs.size<=_;rw[uD,uD];omega) #[ks]);have m0:Cx n A.in1.in1:=⟨G.handled,by have:=G.depth;show A.depth+n<_;omega,by have:=G.units;show A.units+1+1+8*n+8<_;omega⟩;rw[a0];refine abt (s:=#[kL,#[jw],#[]]) m0 p0 j o0 u0 s0 #[gi] (bN _ (bN _ j0)) p i0 l0 λL c X T d m=>#[cg,?_];refine aA #[cg,h f L #[j3,T.fx]]
  .rw[nC M.cY]at Z;rcases cZ.mp Z with q|q;.exact .inl q
   .rw[aZ.mp q];exact .inr o0.ge
  .have v0:f<L.heap.objs.size:=bk d;have:=aG.pa (h:=s.heap) (l:=[f]) (j:=[#[T,r]]) T.rel T.fx.size M.ju M.jt M.fX #[bO,by rw[aZ.mp z];exact o0.ge] #[z] rfl M.gh.1 (λi x e0 P Z=>?_) (λi x R P Z=>?_);.exact this
   .cases i with|zero=>simp at P Z;subst P;subst Z;exact⟨_,d,X,c,rfl,m.mono λ_ _ q=>q.pre (ff _ _)⟩|succ i=>simp at P
   .cases i with|zero=>simp at Z;subst Z;trivial|succ i=>simp at P
end
section
variable{B:Bs}{w:aD}{n m:Nat}{O:Gm}{d0 g0:#[n]}{U x0 T:#[o]}{H b0 o0 w0 m0:#[l]}{i0 y0 p:ba}{J:aO}{S:#[t]}{l:#[y]}{h0:#[hm]}{a b c o:aT}
theorem Ev.xU(F:#[w]){x:aq}{e:aT}{z:lV}{r0:aT}{d:bt}{t1 B1:ba}{y:fJ}(j:Nat){i q:Nat}{d1:#[bA]}{f0 r:#[bB]}{X q0:#[B]}{O0:Tx->Tx}(s0:cN B w (n+2) O #[cy] #[c5,"sorted"])(g:#[ee])(I:Ev B w (n+2) O e U H #[ci] b0)(P:#[hR])(U0:X=ah f0)(c:#[av,O.own,y])(c0:y.name="<lambda>")(R:y.pos=t1)(c1:#[eN])(s1:#[ln])(m1:iQ d.names []=d1)(T:iD z [] d d1 1)(a1:#[cu,b0])(Z:∀t∈f0,Ev B w n #[d3,d,O.fz] r0 (cS U (eQ O.sc.names d.names) [.str t]) #[hB] #[c0,O0,t] #[hB])(k1:f0.length<64)(n1:#[jV,O0,O0])(m:ah r=q0)(l0:b0.length=q)(A0:#[ea,b0]):Ev B w (n+2) O (.Call #[cy] [e] #[mS,t1,B1] i0) U H (.ob q) m0:=λA J S s Q E G M k=>by subst U0 m l0 A0;show ax _ A (do mb i0 (<-aW (.Name x p) J) [] #[f3,[e]] (ma i0 (mh #[mS,t1,B1] J))) Q E s;refine af (s0 A J S U H s _ E G M ?_);rw[dt i0 J g];refine callWith_builtin_kwB #[p] (#[p]) ?_;simp only[dk,pN];refine evalArgs_kwB (by simp[ma,mh]) ?_;have w0:=(cy.cons I cy.nil:cy B w (n+2) O [e] U H [.ob i] b0);refine#[e6,w0,λo k0 x0 C p0=>?_];refine evalAll_cons (af (?_:ax _ A (aW (.Lambda z r0 d t1) J) _ E k0));refine(Ev.lam (w:=w) (n:=n+2) F j c c0 R c1 s1 m1 rfl rfl) A J x0 k0 _ E G C.rel λv o0 N0 j0 I0=>?_;refine af (dR (aA (evalAll_nil ?_)));cases p0 with
|cons N a0=>
 cases a0;have r1:=N.pre j0.pre;have q1:#[a6,#[hB],.list,ah f0]:=by rw[cL #[V,P]];exact P
 obtain⟨b1,Y,H0,rfl,Z0,J0,T0⟩:=j0.rel.list r1 q1;obtain⟨e1,p1,rfl⟩:=I0;have x1:cx 0 #[hB]=[b0.length]:=by rw[pk,a1];simp[cx]
 have S0:#[hB][b0.length]?=aa (.raw (gi z (.expr r0) d d1)):=by simp
 have w1:N0.length=b0.length+1:=by rw[j0.rel.len];simp
 have v1:yw B w (n+1) O J N0 U #[hB] #[M,e1] f0 O0:=λi1 u t L y1 l1 o1 Q0 t0 n0 G0=>by
  refine bZ.VU F S0 T x1 rfl (Z t n0) o1 Q0 p1 #[bn,t0] λL0 E0 X0 C0 R0=>?_;have:X0=N0:=by obtain⟨v0,M0⟩:=C0.pre;have E1:=C0.rel.len;rw[<-M0,aY,w1]at E1;simp at E1;rw[<-M0,E1,gy]
  subst this;exact G0 L0 E0 C0 R0
 have j1:aM (VR N0) Y.toList (ah f0):=T0;refine abq G v1 j0.rel J0 j1 k1 n1 λD E0 C0=>?_;have h1:=C0.rel;have A1:x0.length=b0.length:=C.rel.len;have L1:x0<+:N0:=j0.pre;have u0:=C.rel.below
 have C1:#[dk,x0,b0,E0.heap]:=by
  have N:=h1.take (j:=b0.length) (by rw[<-A1];exact C.rel.cY) u0.1 λi e0 P J0=>?_
  .obtain⟨v0,rfl⟩:=L1;have f:((x0++v0)++[D]).take b0.length=x0:=by rw[du,<-A1,pP]
   have h0:(#[hB]++[#[fR,r]]).take b0.length=b0:=by rw[du,pP]
   rw[f,h0]at N;exact N
  .rw[du,cL P]at J0;exact u0.2 i e0 J0
 have I1:(N0++[D])[b0.length+1]?=aa D:=by rw[<-w1];simp
 obtain⟨u1,F1,J1⟩:=h1.store (b0.length+1) D #[eQ,r] I1 #[z]
 have G1:k0.heap.objs.size<=D:=by
  have f1:D∈(N0++[D]).drop O.fz:=by rw[nC j0.rel.cY];exact uo _ (aZ.mpr rfl)
  rcases C0.new D f1 with h|h;.exfalso;have Y0:=h1.nodup;rw[uq]at Y0;exact Y0.2.2 D (fI h) D (aZ.mpr rfl) rfl
  .exact aI j0.fx.size h
 have z1:#[dk,x0++[D],b0++[#[fR,r]],E0.heap]:=by
  refine aG.pa (h:=k0.heap) (l:=[D]) (j:=[#[fR,r]]) C1 (aI j0.fx.size C0.fx.size) C.rel.ju C.rel.jt C.rel.fX (λx c=>by rw[aZ.mp c];exact G1) #[z] rfl C.rel.gh.1 (λi x e0 P Z=>?_) (λi x Q0 P Z=>?_);.cases i with|zero=>simp at P Z;subst P;subst Z;obtain⟨o,g1,f,h0⟩:=J1;obtain⟨y0,F0⟩:=vW h0;exact⟨_,F1,o,g1,f,by rw[<-y0];exact Aj F0⟩|succ i=>simp at P
  .cases i with|zero=>simp at Z;subst Z;trivial|succ i=>simp at P
 have H1:=j0.trans C0;refine k #[M,D] E0 (x0++[D]) #[dg,⟨ff _ _,λx c=>?_,z1,H1.fx⟩] #[aA,D,by rw[<-A1];simp];rw[nC C.rel.cY]at c;rcases cZ.mp c with h|h;.exact .inl h
 .rw[aZ.mp h];exact .inr G1
end
theorem qL(h:bU x=ae):bA k x:=by cases x with|ob i=>cases h|_=>trivial
section
variable{B:Bs}{w:aD}{n m:Nat}{O:Gm}{d0 g0:#[n]}{U x0 T:#[o]}{H b0 o0 w0 m0:#[l]}{i0 y0 p:ba}{J:aO}{S:#[t]}{l:#[y]}{h0:#[al]}{a b c o:aT}
def DP(j0 d:bt)(t:aq)(i0 v:ba):Bool:=#[aa,j0.kind.isAnnotationScope,ScopeKind.function,j0.kind]==.function&&j0.names.lookup t==aa .local&&i0.line==v.line&&!(d.names.any λ(n,k)=>n==t&&(k==.local||k==.cell))
theorem DQ{b:Bool}(Z:DP j0 d t L v=b):∀J:aO,J.scope=j0->jN (.ListComp e q d v) (aa (.Name t L)) f J=aw b:=λJ h=>by subst h Z;rfl
def ua{S:Type}(T:#[o])(b0:#[l])(X:#[br])(A:S->Bool)(f:S->V)(i:Nat)(k:Nat)(q0:#[B])(v:#[o])(s:#[l]):Prop:=(v=T\/∃z,bU z=ae/\v=T.set i (aa z))/\s=b0++[#[bQ,q0]]/\q0=((X.take k).filter A).map f/\iC T #[jq]
def nr(B:Bs)(w:aD)(n:Nat)(c:Gm)(q:aT)(I:List aT)(T:#[o])(b0:#[l])(r:Nat)(b:Bool)(y:V)(i:Nat)(z:V):Prop:=∀q0,∃m,fp B w n c I (T.set i (aa z)) (b0++[#[bQ,q0]]) b m/\#[aa,b,∃N,Ev B w n c q (T.set i (aa z)) m y N/\N.take (r+1)=b0++[#[bQ,q0]],m.take (r+1)=b0++[#[bQ,q0]]]
theorem Of{S:Type}{g:S->V}{c0:Gm}{M:aT}{I:List aT}{r U:Nat}{X:#[br]}{A:S->Bool}{f:S->V}{i:Nat}(e:#[fH])(O:U<=r)(Y:∀z∈X,bU (g z)=ae)(l:∀z∈X,A z=ae->bU (f z)=ae)(F:i<T.length)(H:∀z∈X,nr B w n c0 M I T b0 r (A z) (f z) i (g z)):∀k z q0 v s,(X.map g)[k]?=aa z->ua T b0 X A f i k q0 v s->iC v s->bA s.length z->∃b q,fp B w n c0 I #[eF,z] s b q/\if b then∃y u,Ev B w n c0 M #[eF,z] q y u/\#[aR,u,r,q0]/\gR U (r+1) (ua T b0 X A f i #[u] (q0++[y])) #[eF,z] (u.set r (.list (q0++[y])))else gR U (r+1) (ua T b0 X A f i #[u] q0) #[eF,z] q:=by
 rintro k t0 q0 v s h0⟨p,rfl,P,t⟩_ _;rw[cg]at h0;obtain⟨z,R,rfl⟩:=dW.mp h0;have o:z∈X:=bz R
 have k0:v.set i (aa (g z))=T.set i (aa (g z)):=by
  rcases p with rfl|⟨y,_,rfl⟩;.rfl
  .rw[List.set_set]
 rw[k0];obtain⟨q,N,a0⟩:=H z o q0;have G:X.take (k+1)=X.take k++[z]:=by rw[rH,R];rfl
 have m0:#[fk,q0]:=λx a=>by rw[P]at a;obtain⟨y,m,rfl⟩:=bK.mp a;obtain⟨i0,l0⟩:=jA.mp m;exact l y (eJ i0) l0
 have r0:∀(j:Nat)(x:V),(T.set i (aa (g z)))[j]?=aa (aa x)->bA (r+1) x:=λj x d=>by
  by_cases d0:i=j;.subst d0;rw[pK F]at d;cases d;exact qL (Y z o)
  .rw[oj d0]at d;have:=t.1 j x d;rw[aY,e]at this;exact this
 have o0:∀(j0:#[B])(L:#[l]),(#[fk,j0])->L.take (r+1)=b0++[#[bQ,j0]]->∀(j:Nat)(e0:Ob),j<r+1->#[av,L,e0]->fu (r+1) e0:=λj0 L f0 n0 j e0 d Q=>by
  rw[<-eD d,n0]at Q;rcases gk j r with J|Z;.rw[#[D,cL]]at Q;have:=t.2 j e0 (by rw[#[D,cL]];exact Q);rw[aY,e]at this;exact this
  .have:j=r:=by omega
   subst this;rw[#[D,ew],e]at Q;simp at Q;subst Q;exactλx a=>qL (f0 x a)
 refine#[bP,A z,q,N]
 cases C:A z with
 |false=>rw[C]at a0;simp only[gc,if_false]at a0⊢;refine .inr ⟨r+1,aP _,⟨by omega,r0,o0 q0 q m0 a0⟩,.inr #[aA,g z,Y z o],a0,?_,t⟩;rw[G,yG,uf,C];simpa using P
 |true=>
  rw[C]at a0;simp only[if_true]at a0⊢;obtain⟨u,c,E⟩:=a0;have g0:#[aR,u,r,q0]:=by rw[<-eD (hR r),E,#[D,ew],e];simp
  have s0:#[fk,q0++[f z]]:=λx a=>by
   rcases cZ.mp a with h|h;.exact m0 x h
   .rw[aZ.mp h];exact l z o C
  have p0:(u.set r (.list (q0++[f z]))).take (r+1)=b0++[Ob.list (q0++[f z])]:=by rw[List.take_set,E,Qp _ _ #[f],e];simp
  refine⟨f z,u,c,g0,.inr ⟨r+1,aP _,⟨by omega,r0,o0 _ _ s0 p0⟩,.inr #[aA,g z,Y z o],p0,?_,t⟩⟩;rw[G,yG,uf,C,P];simp
theorem Kp{C:#[g]->Prop}{X:List d}(b:#[fH])(E:i<T.length)(a:#[ll]):∀k q0 v s,ua T b0 X A f i k q0 v s->C s/\i<v.length/\#[aR,s,r,q0]/\q0.length<=k:=by
 rintro k q0 v s⟨p,rfl,m,_⟩;refine#[bP,a _,?_,?_]
 .obtain rfl|⟨z,_,rfl⟩:=p;.exact E
  simp_all
 .rw[#[D,ew],b];simp
 .rw[m,aQ];exact aI (ug _ _) (List.length_take_le _ _)
theorem Ev.Il{S:Type}{c:#[br]}(F:#[w])(g:S->V)(A:S->Bool)(f:S->V)(i:Nat)(k:#[iV,y])(t:fC d O.sc=Q)(u:mB d=ae)(R:#[hQ])(M:#[eN])(e0:#[hs])(o:#[cu,b0])(p:cS U G []=T)(b:#[fH])(P:#[G,Q.names,(x,.local)])(j:#[bp])(a:#[ll])(E:i<T.length)(N:O.fz<=r)(m:X=c.map g)(Y:∀z∈c,bU (g z)=ae)(e:#[oi])(q:#[nQ,Q,L,I])(c0:#[gr,y])(a0:(c.filter A).map f=q0)(Z:#[ea,b0]):#[aP,#[gJ,L,f0,y,I],.ob r,m0]:=by subst a0 Z m;exact Ev.comp F i k t u R M e0 o p b P j (λl=>⟨#[dq],rfl,rfl,l⟩) (Kp b E a) (Of b N Y e E q) (λq0 v s⟨_,h,_,_⟩=>#[Y]) c0
theorem ed.qV{S:Type}{c:#[br]}(F:#[w]){X q0:#[B]}{r:Nat}(g:S->V)(A:S->Bool)(f:S->V)(i:Nat)(o:nX N B w n O I U H X C b0)(t:fC d O.sc=f0)(u:mB d=ae)(R:#[hQ])(M:#[eN])(p0:#[hs])(y:#[cu,b0])(p:cS U G []=T)(b:#[fH])(P:#[G,f0.names,(x,.local)])(m:#[bp])(e:#[ll])(E:i<T.length)(e0:O.fz<=r)(q:X=c.map g)(Y:∀z∈c,bU (g z)=ae)(j:#[oi])(a0:#[nQ,f0,c0,Q])(o0:#[gr,I])(n0:(c.filter A).map f=q0)(Z:#[ea,b0])(a:Nat)(j0:DP O.sc d l0 L i0=ae)(t0:O.sc.names[a]?=aa (l0,.local))(k0:a<U.length)(u0:U.set a (aa (.ob r))=x0)(r0:ed N B w n O l x0 m0 h0):ed N B w n O (.Assign [.Name l0 L] #[gJ,c0,s0,I,Q] v0::l) U H h0:=by subst n0 Z q;exact ed.Nu F i o t u R M p0 y p b P m (λk=>⟨#[dq],rfl,rfl,k⟩) (Kp b E e) (Of b e0 Y j E a0) (λq0 v s⟨_,h,_,_⟩=>#[Y]) o0 a (DQ j0) t0 k0 u0 r0
theorem aj.qV{S:Type}{c:#[br]}(F:#[w])(g:S->V)(A:S->Bool)(f:S->V)(i:Nat)(j:#[iV,y])(t:fC d O.sc=N)(u:mB d=ae)(R:#[hQ])(M:#[eN])(f0:#[hs])(m:#[cu,b0])(p:cS U G []=T)(b:#[fH])(P:#[G,N.names,(x,.local)])(h:#[bp])(e:#[ll])(E:i<T.length)(s:O.fz<=r)(k:X=c.map g)(Y:∀z∈c,bU (g z)=ae)(v:#[oi])(o:#[nQ,N,q,I])(e0:#[gr,y])(c0:(c.filter A).map f=q0)(Z:#[ea,b0])(a:Nat)(Q:DP O.sc d l0 L i0=ae)(n0:O.sc.names[a]?=aa (l0,.local))(a0:a<U.length)(o0:U.set a (aa (.ob r))=x0)(j0:#[d0,x0,m0]):#[dA,.Assign [.Name l0 L] #[gJ,q,k0,y,I] p0]:=aj.xn (ed.qV F g _ f i (j.N 0) t u R M f0 m p b P h e E s k Y v o e0 c0 Z _ Q n0 a0 o0 (.of j0))
end
section
variable{B:Bs}{w:aD}{n m:Nat}{O:Gm}{d0 g0:#[n]}{U x0 T:#[o]}{H b0 o0 w0 m0:#[l]}{i0 y0 p:ba}{J:aO}{S:#[t]}{l:#[y]}{h0:#[hm]}{a b c o e:aT}
theorem W.wM(g:#[fD])(I:#[bx,e,#[bm]])(N:∃q0,#[a6,b0,.list,q0])(h:#[a6,o0,.list,X])(c:X=ah f0)(y:X.length<2^62)(f:f0.findIdx? (·==t)=aa j)(u:#[ee])(L:#[eb,"index"])(P:#[b7]):#[aP,#[gV,"index"],#[U,j],o0]:=#[mF,RN,ait,Cl.wM h c y f]
theorem W.nM(g:#[fD])(I:#[bx,e,#[bz,k]])(N:∃q0,#[a6,b0,.list,q0])(h:#[a6,o0,.list,X])(r:O.fz<=i)(y:#[bp])(R:X[k]?=aa v)(a:k<2^62)(m:X.eraseIdx k=q0)(Z:o0.set i (.list q0)=m0)(u:#[ee])(L:#[eb,"pop"])(P:#[b7]):#[aP,#[gV,"pop"],v,m0]:=#[mF,zw,aja,Cl.nM h r y R a m Z]
theorem Hi(h:#[g1])(m:y∈Y):∃x u,y=.str x u:=by have:=(vW h).2 y m;cases y with|str x u=>exact#[aA,x,u]|_=>exact this.elim
theorem Hl{t:Tx}(h:#[g1]):Y.any (λv=>match v with|.str x _=>x.cps.toList==t|_=>ag)=f0.contains t:=by induction f0 generalizing Y with|nil=>cases h;rfl|cons a r Q=>cases h with|cons N a0=>obtain⟨x,u,rfl,e⟩:=N;rw[List.any_cons,Q a0,uc];show((x.cps.toList==t)||_)=_;rw[e,Bool.beq_comm]
theorem St.Ki(h:#[f8])(c:X=ah f0):#[jK,.In,#[bm],#[ci],.bool (f0.contains t)]:=λA J S u v s Q E G M e p q=>by
 subst c;obtain⟨y,k,rfl,m⟩:=e;obtain⟨b,Y,L,rfl,P,g,a⟩:=M.tup p h;refine SeqAt.in_tupleAt (λv=>match v with|.str x _=>x.cps.toList==t|_=>ag) #[cG,_] (λz r=>?_) ?_;.obtain⟨x,u,rfl⟩:=Hi a (Pm.mpr r);exact(DG rfl m _ _).at _ _
 .rw[<-Pj,Hl a];exact#[a9,#[ek],rfl]
theorem St.Md(h:#[f8])(c:X=ah f0):#[jK,.NotIn,#[bm],#[ci],#[cO,!f0.contains t]]:=λA J S u v s Q E G M e p q=>by
 subst c;obtain⟨y,k,rfl,m⟩:=e;obtain⟨b,Y,L,rfl,P,g,a⟩:=M.tup p h;refine SeqAt.notIn_tupleAt (λv=>match v with|.str x _=>x.cps.toList==t|_=>ag) #[cG,_] (λz r=>?_) ?_;.obtain⟨x,u,rfl⟩:=Hi a (Pm.mpr r);exact(DG rfl m _ _).at _ _
 .rw[<-Pj,Hl a];exact#[a9,#[ek],rfl]
def sm{S:Type}(c:#[br])(g s:S->Tx)(r:#[bB]):Prop:=∃o:Tx->Tx,(∀a∈c,o (g a)=s a)/\∀l:#[bB],l.Perm (c.map g)->l.Pairwise (λa b=>o a<=o b)->l=r
theorem W.xU(F:#[w]){S:Type}{c:#[br]}{g T:S->Tx}{x:aq}{z:lV}{r0:aT}{d:bt}{Q c0:ba}(j:Nat)(w0:sm c g T r)(v:cN B w (n+2) O #[cy] #[c5,"sorted"])(u:#[ee])(I:Ev B w (n+2) O e U H #[ci] b0)(P:#[hR])(l:X=ah (c.map g))(b:#[av,O.own,y])(Y:y.name="<lambda>")(C:y.pos=Q)(M:#[eN])(L:#[ln])(E:iQ d.names []=A)(f:iD z [] d A 1)(s:#[cu,b0])(Z:∀a∈c,Ev B w n #[d3,d,O.fz] r0 (cS U (eQ O.sc.names d.names) [.str (g a)]) (b0++[#[js,.expr,A]]) #[c0,T,a] (b0++[#[js,.expr,A]]))(R:c.length<64)(m:ah r=q0)(h:b0.length=q)(k:#[ea,b0]):Ev B w (n+2) O (.Call #[cy] [e] #[mS,Q,c0] i0) U H (.ob q) m0:=by obtain⟨o,N,a0⟩:=w0;refine Ev.xU F j v u I P l b Y C M L E f s (λt n0=>?_) (by rw[aQ];exact R) a0 m h k;obtain⟨a,G,rfl⟩:=bK.mp n0;rw[N a G];exact Z a G
def hO(l I0:Nat){S:Type}(c:#[br])(g:S->V)(A:S->Bool)(f:S->V):Prop:=True
theorem Og(N:fp B w n g I v s ae d)(a0:#[lc])(T:f.take k=t):∃d,fp B w n g I v s ae d/\#[aa,ae,∃f,#[lc]/\f.take k=t,d.take k=t]:=#[aw,N,#[aw,a0,T]]
theorem Oe{b:Bool}(N:fp B w n g I v s b d)(a0:b=ae->#[lc])(T:f.take k=t)(E:d.take k=t):∃d,fp B w n g I v s b d/\#[aa,b,∃f,#[lc]/\f.take k=t,d.take k=t]:=#[aw,N,(by cases b with|true=>exact#[aw,a0 rfl,T]|false=>exact E)]
end
theorem MO{M:Nat}:pX M (-#[bg]) (-#[bg])=(M+1:Nat):=by unfold pX;have:((M:Int)- -#[bg]-1)/(- -#[bg])=M:=#[z];omega
theorem abp{M:Nat}(h:M<2^62):uG M (-#[bg]) (-#[bg])=ae:=by unfold uG;rw[MO];simp[Rg,fF,rt,decide_eq_true_eq,beq_iff_eq,by omega,if_false];omega
section
variable{B:Bs}{w:aD}{n m:Nat}{O:Gm}{d0 g0:#[n]}{U x0:#[o]}{H b0 o0 w0 m0:#[l]}{a b c o:aT}{i0 y0:ba}{l:#[y]}{h0:#[hm]}{J:aO}{S:#[t]}
theorem ck.MN{M N:Nat}(v:#[jG])(u:cD [e,f,g]=ae)(h:#[b6,e,#[U,M]])(c0:#[bx,f,#[U,z]])(o:Ev B w n O g U o0 #[U,-#[bg]] w0)(r:-1<=z/\z<=0)(m:M<2^62)(b:N<=M+1)(l:uG M z (-#[bg])=ae)(R:pX M z (-#[bg])=N)(d:#[jO,(aR N).map,M-k]):#[nw]:=λA J S s Q E G a q=>by refine ir (v A _ _ _ _ s _ E G a ?_);rw[#[dG]];refine rV (fZ _ _) (eR (#[cs,(cy.cons h #[hW,c0,o]),s,G,a,λZ k0 F C T=>?_]));cases T with|cons T i=>cases i with|cons i x=>cases x with|cons x j=>cases j;obtain⟨t,rfl⟩:=T;obtain⟨c,rfl⟩:=i;obtain⟨y,rfl⟩:=x;refine call_range_3 #[f] (CQ C l R ?_ q) (Or.inl rfl);rw[<-d];apply mX;intro k R;rw[eN]at R;refine congrArg _ ?_;omega
theorem ck.MM{M:Nat}(v:#[jG])(u:cD [e,f,g]=ae)(h:#[b6,e,#[U,M]])(c0:#[bx,f,#[U,-#[bg]]])(d:Ev B w n O g U o0 #[U,-#[bg]] w0)(l:M<2^62)(c:#[jO,(aR (M+1)).map,M-k]):#[nw]:=ck.MN v u h c0 d #[f] l #[aJ] (abp l) MO c
theorem MP{M:Nat}:pX M (0:Nat) (-#[bg])=M:=by unfold pX;simp_all
theorem ck.ZN{M:Nat}(v:#[jG])(u:cD [e,f,g]=ae)(h:#[b6,e,#[U,M]])(c0:#[bx,f,#[bz,0]])(d:Ev B w n O g U o0 #[U,-#[bg]] w0)(l:M<2^62)(c:#[jO,(aR M).map,M-k]):#[nw]:=ck.MN v u h c0 d #[f] l (dP _) (by unfold uG;rw[MP];simp[Rg,fF,rt,decide_eq_true_eq,beq_iff_eq,by omega,if_false];omega) MP c
inductive kf(b0:#[l]):V->#[B]->(#[em])->Prop where|list{i:Nat}{X:#[B]}:#[hR]->kf b0 #[ci] X (λH=>#[b1])|str{t:Tx}{X:#[B]}:(t.map λc=>#[dR])=X->kf b0 #[bm] X #[fO]
theorem ck.seq(h:#[aF,x])(z:kf b0 x X C):#[iV,a]:=by cases z with|list N=>exact ck.list h N|str N=>subst N;exact ck.str h
theorem Ev.split(N:t=ae->#[aF,u0])(a0:t=ag->#[b6,b,C0]):#[b6,#[aa,t,a,b],#[aa,t,u0,C0]]:=by cases t with|true=>exact N rfl|false=>exact a0 rfl
end
noncomputable def qG:List (String×ai):=[("law",.ref 334),("_div2n1n",.ref 211),("_div3n2n",.ref 218),("_int2digits",.ref 225),("_digits2int",.ref 232),("_divmod_pos",.ref 239),("_iter_escaped_chars",.ref 246),("_strip_quoted_realnames",.ref 253),("_check_parenthesis",.ref 260),("_netrclex",.ref 298),("_law_lexer",.ref 309),("_law_spelled",.ref 314),("_law_tree",.ref 319),("_law_traded",.ref 324),("_law_due",.ref 329),("_ValueFormatter",.ref 116),("_Accumulator",.ref 200),("_twin_re_1",.ref 43)]
noncomputable def qn:List (String×ai):=[("len",.builtin "len"),("range",.type "range"),("list",#[fW]),("min",.builtin "min"),("max",.builtin "max"),("sorted",.builtin "sorted"),("sum",.builtin "sum"),("reversed",.type "reversed"),("divmod",.builtin "divmod"),("zip",.type "zip"),("iter",.builtin "iter"),("str",.type "str"),("enumerate",.type "enumerate"),("super",.type "super")]
noncomputable def wB:#[t]:=[334,211,218,225,232,239,246,253,260,309,314,319,324,329]
structure Gl(B:Bs)(d0 g0:#[n]):Prop where
 gl:∀(j:Nat)(x:String)(u:ai),#[av,qG,(x,u)]->d0 (ak x)=aa u
 bl:∀(j:Nat)(x:String)(u:ai),#[av,qn,(x,u)]->d0 (ak x)=ab/\g0 (ak x)=aa u
 fn:∀a∈wB,∃f0,tZ B a f0
 nb:(∃i,B.heap.Ns iq i/\i sharingNotToldKey=ab)/\#[aq,iq]
 lim:∃t,d0 (ak "_DIV_LIMIT")=aa (.int 4000 t)
section
variable{B:Bs}{w:aD}{n m:Nat}{O:Gm}{d0 g0:#[n]}{U x0:#[o]}{H b0 o0 w0 m0:#[l]}{a b c:aT}{i0 y0:ba}{l:#[y]}{h0:#[al]}
theorem W.glob(F:#[w])(G:#[W])(i j:Nat)(f:#[av,qG,(x,u)])(z:#[nS,x])(c:(ak x=="__debug__")=ag):cN B w n O #[aL,x,i0] u:=cN.glob F i z (G.gl j x u f) c
theorem W.fh(F:#[w])(G:#[W])(i j:Nat)(f:#[av,qn,(x,u)])(z:#[nS,x])(c:(ak x=="__debug__")=ag):cN B w n O #[aL,x,i0] u:=cN.fh F i z (G.bl j x u f).1 (G.bl j x u f).2 c
theorem W.lim(F:#[w])(G:#[W])(i:Nat)(z:#[nS,"_DIV_LIMIT"]):#[aP,#[aL,"_DIV_LIMIT",i0],#[bz,4000],H]:=by obtain⟨t,n0⟩:=G.lim;exact Ev.BF (cN.glob F i z n0 #[ak])
theorem W.HW(G:#[W])(v:cN B w n O #[cy] #[cm])(c:f∈wB)(u:#[c8])(I:#[fs])(X:Fn B w m f n0 r)(d:fc b0 Y e n0)(l:m<=n)(P:e.Nodup)(b:∀x,r=.atom x->bU x=ae)(a:r.val b0.length=T)(Z:b0++r.obs=m0):#[aP,#[cU,#[cy],j],T,m0]:=by obtain⟨f0,h⟩:=G.fn f c;exact W.vN v h u I d X l P b a Z
end
section
variable{B:Bs}{w:aD}{n m:Nat}{O:Gm}{d0 g0:#[n]}{U x0:#[o]}{H b0 o0 w0 m0:#[l]}{i0 y0 p:ba}{J:aO}{S:#[t]}{l:#[y]}{h0:#[al]}{a b c o:aT}
def fQ(B:Bs)(w:aD)(n:Nat)(O:Gm)(e:aT)(U:#[o])(H:#[l])(v:V)(m0:#[l]):Prop:=#[j1,1<=L.toks->#[ej]->VR j X v->Q X L,aW e J]
def eH(B:Bs)(w:aD)(n:Nat)(O:Gm)(e:aT)(U:#[o])(H:#[l])(v:V)(m0:#[l]):Prop:=#[ky,1<=s.toks->#[bc]->#[ah]->(∀X L j,1<=L.toks->#[ej]->VR j X v->Q X L)->#[as,aW e J]]
def lJ(B:Bs)(w:aD)(n:Nat)(O:Gm)(e:#[a2,aT])(U:#[o])(H:#[l])(i:#[eX])(m0:#[l]):Prop:=#[j1,1<=L.toks->#[ej]->(∃p0,X=gq (i.map λk=>(k,p0)))->Q X L,evalPart e J]
theorem Ev.Ml(h:#[bZ,fQ,a,v]):#[aF,v]:=#[ku,λX L j _=>q _ _ _]
theorem eH.of(h:#[aF,v]):#[bZ,eH,a,v]:=λA J S s Q E n0 G M q=>ll n0 (h A _ _ s _ _ G M λX L j P r N=>q _ _ _ N P r)
theorem eH.Ml(h:#[bZ,fQ,a,v]):#[bZ,eH,a,v]:=λA J S s Q E n0 G M q=>h A _ _ s _ _ G M q
theorem lJ.int:lJ B w n O (aa (.Constant #[cr] k i0)) U H (aa i) H:=λA J S s Q E G M q=>sg (k:=k) (pos:=i0) (q _ _ _ (yX 1 _) (#[he].toks _) #[bu])
theorem fQ.xS{c0 P:#[a2,aT]}{t u:Tx}{i j:#[eX]}(I:#[aF,#[bm]])(y:lJ B w n O c0 U b0 i o0)(h:#[jE])(Y:#[fJ])(c:cJ t i j=u):fQ B w n O (.Subscript a #[j8] i0) U H #[ao,u] w0:=λA J S s Q E G M q=>lH (I A J S s _ E G M λu0 k0 l C T=>qi (y A J l k0 _ E G C.rel λC0 m X g0 f R=>ll g0 (h A J X m _ _ G f.rel λg v e0 r d0 h0=>by
 obtain⟨x,k,rfl,z⟩:=T;obtain⟨t0,rfl⟩:=R;obtain⟨x0,rfl⟩:=d0;refine aA ⟨"str",_,FL.lookup,jf _ x k,ll h0 ?_⟩;refine SX (l:=i.map λq=>(q,t0)) (u:=j.map λq=>(q,x0)) (st:=ab) ⟨_,ct _ rfl,rfl,rfl⟩ rfl ?_;have a0:=((C.trans f).trans r).trans (aB.heap r.rel (t:=v.toks) (c0:=v.heap.push {cls:=.type "slice",data:=.fields #[gq (i.map λq=>(q,t0)),gq (j.map λq=>(q,x0)),.none]}) ((by simp)) λb o e=>bN _ e);have F:(i.map λq=>(q,t0)).map (·.1)=i:=by cases i<;>rfl
 have d:(j.map λq=>(q,x0)).map (·.1)=j:=by cases j<;>rfl
 unfold sliceMade slicePicked;rw[F,d];have f0:x.length=t.length:=by rw[<-z];rfl
 refine SH ⟨?_,λZ L N=>q _ _ e0 N (a0.toks L) ⟨_,Z,rfl,?_⟩⟩;.refine aI (Sn x i j) ?_;rw[f0];exact Y
 .subst c;rw[<-z];exact Ol x i j)))
theorem Mg(G:#[W])(g:GH B h):NoneBooked h:=by obtain⟨⟨i,N,a0⟩,T⟩:=G.nb;exact#[aw,N.at' λo e=>g.2.1 _ o e T,a0]
theorem OG{x y:aq}(h:x.cps.toList=y.cps.toList):x=y:=by cases x;congr 1;exact Array.ext' h
theorem eH.replace(G:#[W]){F0 E0:ba}{t u:Tx}(g:#[bZ,eH,o,#[bm]])(Z:#[mW])(c:#[fM,(qb (cI t) y z),u])(d:#[eb,"replace"])(P:#[b7]):#[bZ,eH,#[mz],#[ao,u]]:=λA J S s Q E n0 b M q=>by refine qh (d _) rfl P (dt _ _ rfl) (g A _ _ s _ E n0 b M λu0 k0 F i C T=>?_);obtain⟨f,e⟩:=(#[co,VT _ #[bm] _]).typeIs C.rel T;refine⟨_,_,lY,RR,RW,f,e,?_⟩;refine kQ #[p] (eR (iJ (oC (iJ (oC (lW ?_))))));obtain⟨x,k,rfl,a⟩:=T;have j:=lx a;subst j;have h:#[s,cI,t]=t.length:=#[p];refine ll (by show 1<=k0.toks+1+1;omega) ?_;refine SC.replaceA (hu i) (QP _) (cB (hR _)) (Z) (λr L N=>(q _ _ _ N (C.toks _) #[Q,_,rfl,c])) (Mg G C.rel.gh)
theorem fQ.replace(G:#[W]){F0 E0:ba}{t u:Tx}(g:#[bZ,fQ,o,#[bm]])(Z:#[mW])(c:#[fM,(qb (cI t) y z),u])(d:#[eb,"replace"])(P:#[b7]):#[bZ,fQ,#[mz],#[ao,u]]:=λA J S s Q E b M q=>by refine qh (d _) rfl P (dt _ _ rfl) (#[cs,g,s,b,M,λu0 k0 F i C T=>?_]);obtain⟨f,e⟩:=(#[co,VT _ #[bm] _]).typeIs C.rel T;refine⟨_,_,lY,RR,RW,f,e,?_⟩;refine kQ #[p] (eR (iJ (oC (iJ (oC (lW ?_))))));obtain⟨x,k,rfl,a⟩:=T;have j:=lx a;subst j;have h:#[s,cI,t]=t.length:=#[p];refine ll (by show 1<=k0.toks+1+1;omega) ?_;refine SC.replaceA (hu i) (QP _) (cB (hR _)) (Z) (λr L N=>(q _ _ _ N (C.toks _) #[Q,_,rfl,c])) (Mg G C.rel.gh)
theorem W.CW(G:#[W]){t u:Tx}(g:#[bZ,fQ,o,#[bm]])(Z:#[mW])(b:#[fM,(qb (cI t) y z),u])(L:#[eb,"replace"])(P:#[b7]):#[b6,#[mz],#[ao,u]]:=Ev.Ml (fQ.replace G g Z b L P)
end
namespace av
open Lean Meta Elab Tactic
def jw(e:eC):bO (Option String):=do
 let e<-dN e
 match e.getAppFnArgs with
  |(``ak,#[.lit (.strVal v)])=>return aa v
  |_=>
   let e<-vb e;match e.getAppFnArgs with|(``ak,#[.lit (.strVal v)])=>return aa v|_=>return ab
def gH:Nat->eC->bO (Option (List eC))
 |0,_=>return ab
 |k+1,e=>do
  let e<-cc e
  match e.getAppFnArgs with
   |(``pO,_)=>return aa []
   |(``rA,#[_,a,l])=>
    do
     let aa r<-gH k l|return ab
     return aa (a::r)
   |_=>return ab
def xk(e:eC):bO (List (String×bJ)):=do
 let C<-cc e
 let aa l<-gH 200 C|throwError"names"
 l.mapM λp=>do
  let p<-cc p
  match p.getAppFnArgs with
   |(``Fl,#[_,_,x,k])=>
    do
     let aa s<-jw x|throwError"name {x}"
     return(s,(<-cc k).getAppFn.constName?.getD .anonymous)
   |_=>throwError"pair"
def qK(O:eC):bO (List (String×bJ)):=do xk (<-ho ``Se #[<-ho ``Gm.sc #[O]])
def bV(g:fq)(l0:bJ)(S:List (bJ×eC):=[])(r:Bool:=ag):bO (List fq):=g.withContext do
 let c<-mkConstWithFreshMVarLevels l0;let C<-mR c;let(j,B,o)<-yB C;let mut t:=C
 for i in[0:j.size]do
  match t with
   |.forallE a _ b _=>
    for(f,v)in S do if f==a then unless<-hP j[i]! v do throwError"argument {a}"
    t:=b
   |_=>aw ()
 let G<-g.getType;unless<-(if r then jx (hP G o)else hP G o)do throwError"rule {l0} does not fit {<-g.getType}"
 g.assign (eu c j);let mut X:=#[]
 for i in[0:j.size]do
  if B[i]!.isExplicit then
   let m:=j[i]!.mvarId!;unless<-m.isAssigned do if<-oa (<-m.getType)then X:=X.push m
 return X.toList
def fM(g:fq)(d:String):il Bool:=do
 let .ok S:=PK (<-getEnv) `tactic ("("++d++")")|throwError"byTac"
 let s<-saveState
 try
  let q<-Term.withoutErrToSorry<|PE g (PF (FQ S));if q.isEmpty then return ae
  s.restore;return ag catch _=>
  s.restore;return ag
def natVal:Nat->eC->bO (Option Nat)
 |0,_=>return ab
 |k+1,e=>do
  if let aa n<-yA e then return aa n
  let e<-cc e;match e with|.lit (.natVal n)=>return aa n|_=>match e.getAppFnArgs with|(``Nat.zero,_)=>return aa 0|(``jE,#[a])=>return(<-natVal k a).map (·+1)|_=>yA e
def YH(g:fq):bO Bool:=g.withContext do
 let o<-dN (<-g.getType)
 let aa (S,l,r):=o.eq?|return ag
 unless r.isMVar do
  if<-hP l r then
   g.assign (<-oc l);return ae
  return ag
 let a<-vb S
 let v<-match a.getAppFnArgs with
  |(``List,#[c])=>
   do
    let aa j<-gH 500 l|return ag
    let j<-j.mapM dN
    let j<-if c.isAppOf ``Option then
     j.mapM λe=>do
      let G<-cc e;if G.isAppOf ``aa&&(G.getArg! 1).isMVar then aw e else aw G else aw j
    rz c j
  |(``Nat,_)=>do match<-natVal 200 l with|aa k=>aw (mS k)|ab=>cc l
  |(``Bool,_)=>
   do
    let e<-cc l;if e.isConstOf ``ae||e.isConstOf ``ag then aw e else aw l
  |_=>
   do
    let e<-cc l;if e.isAppOf ``V.ob then match<-natVal 200 (e.getArg! 0)with|aa n=>aw (fT (mkConst ``V.ob) (mS n))|ab=>aw e else aw e
 unless<-hP r v do return ag
 g.assign (<-oc v);return ae
def cW(e:eC):bJ:=e.getAppFn.constName?.getD .anonymous
def wi(g:fq):bO Bool:=g.withContext do
 let n0:=(<-getLCtx).foldl (λ(l:List yz)d=>d::l) []
 for d in n0 do
  if d.isImplementationDetail then continue
  let t<-dN d.type;unless t.isForall do continue
  let s<-saveState;let(j,B,o)<-yB t
  if o.eq?.isSome||cW o==``rv||cW o==``rx then
   if<-jx (hP (<-g.getType) o)then
    let mut M:=ae
    for m in j do
     if M then
      unless<-m.mvarId!.isAssigned do
       if<-oa (<-mR m)then
        M<-(try
         do
          jx m.mvarId!.assumption;aw ae catch _=>aw ag)
    for m in j do if M then M<-m.mvarId!.isAssigned
    if M then
     g.assign (eu d.toExpr j);return ae
  s.restore
 return ag
def NF(g:fq):il Bool:=do
 if<-g.isAssigned then return ae
 let o<-dN (<-g.getType)
 if<-(try
  (do
   jx g.assumption;return ae)catch _=>aw ag)then return ae
 if let aa (S,l,r):=o.eq? then
  if cW l==``eQ then
   let C<-xk (l.getArg! 0);let I<-xk (l.getArg! 1);let O:=fT (mkConst ``Option [levelZero]) (mkConst ``Nat);let G<-I.mapM λ(x,k)=>do match(if k==``jG then C.findIdx? (λ(y,G0)=>y==x&&(G0==``uO||G0==``jG))else ab)with|aa j=>ho ``aa #[mS j]|ab=>aw (fT (mkConst ``ab [levelZero]) (mkConst ``Nat))
   let v<-rz O G
   if<-hP r v then
    g.assign (<-oc v);return ae
   return ag
  if cW l==``lb then return<-fM g "kernel_rfl"
  if<-(try wi g catch _=>aw ag)then return ae
  unless r.hasExprMVar do
   let s<-saveState;let q<-yC (<-mkEq r l)
   let M<-(try
    do
     (jx q.mvarId!.assumption);aw ae catch _=>(try wi q.mvarId! catch _=>aw ag))
   if M then
    g.assign (<-mkEqSymm q);return ae
   s.restore
  if<-(try YH g catch _=>aw ag)then return ae
  if<-(try
   (g.withContext do
    g.refl;return ae)catch _=>aw ag)then return ae
  if(<-vb S).isConstOf ``Bool then if<-fM g "decide +kernel"then return ae
  if<-fM g "omega"then return ae
  return<-fM g "simp"
 match cW o with
  |``Or=>
   if<-fM g "exact .inl rfl"then return ae
   if<-fM g "exact .inr rfl"then return ae
   if<-fM g "exact .inr ⟨rfl, by decide +kernel⟩"then return ae
   fM g "exact .inr ⟨rfl, List.elem_iff.mp (by kernel_rfl)⟩"
  |``rx|``rv=>
   if(<-vb (o.getArg! 0)).isConstOf ``Nat then
    if(o.find? (·.isConstOf ``hq)).isSome then if<-fM g "exact Nat.le_of_ble_eq_true rfl"then return ae
    unless(o.hasFVar)do if<-fM g "decide +kernel"then return ae
   if<-fM g "omega"then return ae
   if<-(try wi g catch _=>aw ag)then return ae
   fM g "exact Nat.le_of_ble_eq_true rfl"
  |``Ne|``Not|``GT.gt|``GE.ge=>
   if<-fM g "omega"then return ae
   fM g "decide +kernel"
  |``Exists=>fM g "exact ⟨_, rfl⟩"
  |``PL|``Membership.mem=>fM g "decide +kernel"
  |_=>
   if o.isForall then
    if<-fM g "intros; rfl"then return ae
    if<-fM g "intros; trivial"then return ae
    if<-fM g "(intro x e; cases e; rfl)"then return ae
    if<-fM g "exact DQ (by first | rfl | decide +kernel)"then return ae
    if<-fM g "intro x e; cases e"then return ae
    let s<-saveState;let(_,f)<-g.intros;if<-(try wi f catch _=>aw ag)then return ae
    s.restore;return ag else return ag
def iw(h:bJ):bO (Option eC):=do
 for d in<-getLCtx do
  if d.isImplementationDetail then continue
  let t<-dN d.type;if cW t==h then return aa d.toExpr
 return ab
def nV(g:fq)(h:bJ):bO (Option (List fq)):=g.withContext do
 let n0:=(<-getLCtx).foldl (λ(l:List yz)d=>d::l) []
 for d in n0 do
  if d.isImplementationDetail then continue
  let t<-dN d.type;let s<-saveState;let(j,B,o)<-yB t
  if cW o==h then
   if<-(try hP (<-g.getType) o catch _=>aw ag)then
    g.assign (eu d.toExpr j);let mut X:=#[];for i in[0:j.size]do unless<-j[i]!.mvarId!.isAssigned do if<-oa (<-mR j[i]!)then X:=X.push j[i]!.mvarId!
    return aa X.toList
  s.restore
 return ab
def Vw(a b:eC):bO Bool:=do
 if<-jx (hP a b)then return ae
 let aa l<-gH 100 a|return ag
 let aa m<-gH 100 b|return ag
 unless l.length==m.length do return ag
 for(x,y)in l.zip m do
  let x<-dN x;let y<-dN y;let X<-jx (cc x);let Y<-jx (cc y);let M<-if X.isAppOf ``Ob.raw&&Y.isAppOf ``Ob.raw then hP x y else jx (hP x y)
  unless M do return ag
 return ae
def aft(g:fq):bO (Option (List fq)):=g.withContext do
 let G:=(<-dN (<-g.getType)).consumeMData;let n0:=(<-getLCtx).foldl (λ(l:List yz)d=>d::l) []
 for d in n0 do
  if d.isImplementationDetail then continue
  let t<-dN d.type;let s<-saveState;let(j,B,o)<-yB t
  if cW o==``aj then
   let M<-(try
    do
     if<-hP (G.getArg! 4) (o.getArg! 4)<&&>hP (G.getArg! 3) (o.getArg! 3)then
      jx do
       let mut M:=ae;for i in[0,1,2,5,7]do if M then M<-hP (G.getArg! i) (o.getArg! i)
       if M then M<-withDefault (Vw (G.getArg! 6) (o.getArg! 6))
       return M else return ag catch _=>aw ag)
   if M then
    g.assign (eu d.toExpr j);let mut X:=#[];for i in[0:j.size]do unless<-j[i]!.mvarId!.isAssigned do if<-oa (<-mR j[i]!)then X:=X.push j[i]!.mvarId!
    return aa X.toList
  s.restore
 return ab
def ie(e:Nat):eC:=mS e
def Ik(e:eC):bO (List fq×List (bJ×eC)):=do
 let aa [g]<-gH 5 (e.getArg! 1)|throwError"one clause"
 let g<-cc g;let t<-cc (g.getArg! 0)
 let aa x<-jw (t.getArg! 0)|throwError"name"
 let C<-xk (<-ho ``Se #[e.getArg! 2])
 let aa i:=C.findIdx? (·.1==x)|throwError"clause's name"
 let n0:=(<-getLCtx).foldl (λ(l:List yz)d=>d::l) []
 for d in n0 do
  if d.isImplementationDetail then continue
  let t<-dN d.type
  if cW t==``hO then
   let p<-cc (e.getArg! 3);if(<-natVal 100 (t.getArg! 0))==(<-natVal 100 (p.getArg! 0))&&(<-natVal 100 (t.getArg! 1))==(<-natVal 100 (p.getArg! 1))then return([],[(`c,t.getArg! 3),(`g,t.getArg! 4),(`A,t.getArg! 5),(`f,t.getArg! 6),(`i,ie i)])
 throwError"no CompSpec"
def ade:List bJ:=[``St.sr,``St.xj,``St.LM,``St.wu,``St.tx,``St.xf,``St.xt,``St.vG,``St.HQ,``St.AK,``St.wJ,``St.wL,``St.JZ,``St.Kr,``St.Kb,``St.Bo,``St.CC,``St.Ls,``St.KS,``St.wG,``St.JV,``St.add,``St.sub,``St.mul,``St.Az,``St.AG,``St.AJ,``St.De,``St.Cs,``St.pow,``St.fdiv,``St.mod,``St.wI,``St.Ky,``St.BN,``St.BS,``St.BL,``St.wK,``St.eq,``St.ne,``St.lt,``St.le,``St.gt,``St.ge,``St.Dm,``St.Kx,``St.seq,``St.rb,``St.Ds,``St.Kj,``St.Me,``St.ls,``St.BV,``St.Ku]
def adg:List bJ:=[``St.tf,``St.KN,``St.Kg,``St.Ki,``St.Md]
def jm(g:fq)(l:List bJ)(r:Bool:=ag):bO (List fq):=do
 for l0 in l do
  let s<-saveState;try return<-bV g l0 [] r catch _=>s.restore
 throwError"no rule for {<-g.getType}"
def UB:List bJ:=[``Cl.ID,``Cl.KU,``Cl.Cg,``Cl.append,``Cl.reverse,``Cl.Ly,``Cl.Lb,``Cl.La,`Mine.Cl.Wx]
def Yq:List (String×List bJ):=[("bit_length",[``W.HL]),("append",[``W.append]),("reverse",[``W.reverse]),("join",[``W.join]),("index",[``W.wM]),("pop",[``W.nM]),("split",[`Mine.W.split])]
def KI(t:eC):il (Option (Bool×eC)):=do
 let t<-dN t;let z<-(jx (cc t):bO _);if z.isConstOf ``ae then return aa (ae,<-oc t)
 if z.isConstOf ``ag then return aa (ag,<-oc t)
 for d in<-getLCtx do
  if d.isImplementationDetail then continue
  let e<-dN d.type
  let aa (_,l,r):=e.eq?|continue
  unless r.isConstOf ``ae||r.isConstOf ``ag do continue
  if<-jx (hP l t)then return aa (r.isConstOf ``ae,d.toExpr)
 unless t.hasFVar do
  let z<-(whnfD t:bO _);if z.isConstOf ``ae then return aa (ae,<-oc t)
  if z.isConstOf ``ag then return aa (ag,<-oc t)
 for b in[ae,ag]do
  let m<-yC (<-mkEq t (mkConst (if b then``ae else``ag)));if<-fM m.mvarId! "first | exact decide_eq_true (by omega) | exact decide_eq_false (by omega) | exact beq_iff_eq.mpr (by omega) | exact beq_eq_false_iff_ne.mpr (by omega) | exact bne_iff_ne.mpr (by omega) | exact bne_eq_false_iff_eq.mpr (by omega)"then return aa (b,<-dN m)
 return ab
def sT(g:fq)(l0:bJ)(S:List (bJ×eC):=[]):bO (List fq):=g.withContext do
 for d in<-getLCtx do
  if d.isImplementationDetail then continue
  let t<-dN d.type
  if cW t==`Mine.hj then
   let s<-saveState;try return<-bV g l0 ((`m,d.toExpr)::S)catch _=>s.restore
 throwError"no class for {l0}"
def one(g:fq):il (List fq):=g.withContext do
 let o<-dN (<-g.getType);let o:=o.consumeMData.headBeta
 match cW o with
  |``hZ|``mY=>
   do
    let aa t<-PI o|throwError"unfold"
    return[<-g.change (<-whnfCore t)]
  |``cy=>
   do
    let d<-cc (o.getArg! 4);if cW d==``pO then bV g ``cy.nil else bV g ``cy.cons
  |``fp=>
   do
    let d<-cc (o.getArg! 4);if cW d==``pO then bV g ``fp.nil else bV g ``fp.one
  |``nr=>
   do
    let aa t<-PI o|throwError"unfold"
    let g<-g.change (<-whnfCore t);let(_,g)<-g.intro `q0
    g.withContext do
     let b<-cc (o.getArg! 8)
     if b.isConstOf ``ae then bV g ``Og else
      let q<-bV g ``Oe
      q.mapM λh=>do
       let n0<-dN (<-h.getType)
       if n0.isArrow then
        do
         let(_,h)<-h.intro `Z;return h else return h
  |``fQ=>
   do
    let e<-cc (o.getArg! 4)
    match cW e with
     |``FC=>bV g ``fQ.xS
     |``FA=>
      let aa G<-iw ``Gl|throwError"no Gl"
      bV g ``fQ.replace [(`G,G)]
     |_=>throwError"Ev1 {cW e}"
  |``lJ=>bV g ``lJ.int
  |`Mine.cA=>jm g [`Mine.cA.dg,`Mine.cA.acc]
  |``kf=>jm g [``kf.list,``kf.str]
  |``iP=>jm g [``iP.list,``iP.tup,``iP.str]
  |``ko=>jm g [``ko.str,``ko.list]
  |``ec=>
   do
    let e<-cc (o.getArg! 4);bV g (if e.isAppOf ``ab then``ec.none else``ec.some)
  |``gQ=>jm g [``gQ.ret,``gQ.next]
  |``iD=>
   do
    if let aa q<-nV g ``iD then return q
    throwError"no FnSt"
  |``dB=>jm g [``dB.tup,``dB.list,``dB.atom,``dB.none]
  |``fc=>jm g [``fc.nil,``fc.atom,``fc.list,``fc.tup]
  |``fA=>
   do
    if let aa q<-nV g ``fA then return q
    let x<-cc (o.getArg! 5);let y<-cc (o.getArg! 6);if x.isAppOf ``V.ob||y.isAppOf ``V.ob then try return<-jm g adg ae catch _=>aw ()
    try bV g ``W.step catch _=>throwError"step"
  |``aH=>
   do
    if let aa q<-jx (nV g ``aH)then return q
    jm g ade ae
  |``cN=>
   do
    let e<-cc (o.getArg! 4);let O:=o.getArg! 3
    let aa x<-jw (e.getArg! 0)|throwError"global's name"
    let C<-qK O
    let aa i:=C.findIdx? (·.1==x)|throwError"not a name of the frame: {x}"
    let aa F<-iw ``aL|throwError"no Found"
    let aa G<-iw ``Gl|throwError"no Gl"
    let B(c:bJ):bO (Option Nat):=do
     let aa l<-gH 100 (mkConst c)|return ab
     let mut k:=0
     for p in l do
      let p<-cc p;if p.getArg! 2==.lit (.strVal x)then return aa k
      k:=k+1
     return ab
    if let aa j<-B ``qG then return<-bV g ``W.glob [(`F,F),(`G,G),(`i,ie i),(`j,ie j)]
    if let aa j<-B ``qn then return<-bV g ``W.fh [(`F,F),(`G,G),(`i,ie i),(`j,ie j)]
    throwError"global {x}"
  |``Fn=>
   do
    if let aa q<-nV g ``Fn then return q
    throwError"no contract"
  |``bZ=>
   do
    if let aa q<-nV g ``bZ then return q
    jm g UB ae
  |``dx=>jm g [``dx.LS,``dx.int,``dx.bool,``dx.none,``dx.str,``dx.list,``dx.tup] ae
  |``dE=>
   do
    let I<-cc (o.getArg! 4);let d<-cc (o.getArg! 5);if cW d==``pO then bV g (if cW I==``QX then``dE.Al else``dE.xp)else bV g ``dE.cons
  |``di=>
   do
    let I<-cc (o.getArg! 4);let t:=o.getArg! 5
    let aa (b,H)<-KI t|throwError"test not known: {t}"
    let l0:=if cW I==``QX then(if b then``di.qk else``di.vw)else(if b then``di.Mq else``di.mC);bV g l0 [(`n0,H)]
  |``Et=>
   do
    if let aa q<-nV g ``Et then return q
    let e<-cc (o.getArg! 4);match cW e with|``Rw=>bV g ``Et.hD|``PySem.Expr.BoolOp=>bV g ``Et.qo|``Ry=>do if cW (<-cc (e.getArg! 0))==``PySem.UnaryOp.Not then bV g ``Et.Mh else bV g ``Et.val|_=>bV g ``Et.val
  |``Ev=>
   do
    if(o.getArg! 4).isAppOf ``ite then return<-bV g ``Ev.split
    if let aa q<-nV g ``Ev then return q
    let e<-cc (o.getArg! 4);let O:=o.getArg! 3
    match cW e with
     |``PySem.Expr.Constant=>
      do
       let c<-cc (e.getArg! 0);if c.isAppOf ``PySem.Const.int then if let aa v:=(c.getArg! 0).int? then if v>=0 then return<-bV g ``W.kq [(`q,ie v.toNat)]
       if c.isAppOf ``PySem.Const.str then
        if let aa v<-jw (c.getArg! 0)then
         let t<-rz (mkConst ``Nat) (v.toList.map λE=>mS E.toNat);let s<-saveState
         try
          let q<-bV g ``W.nz [(`t,t)]
          for h in q do
           let o<-dN (<-h.getType)
           let aa (_,l,_):=o.eq?|throwError"W.cStr"
           h.assign (<-oc l)
          return[]catch _=>s.restore
       jm g [``Ev.ny,``Ev.nz,``Ev.AL,``Ev.sE]
     |``hV=>
      do
       let aa x<-jw (e.getArg! 0)|throwError"name"
       let C<-qK O
       let aa i:=C.findIdx? (·.1==x)|throwError"not a name of the frame: {x}"
       let aa (_,k):=C[i]?|throwError"name"
       if k==``ow then
        if x=="_DIV_LIMIT"then
         let aa F<-iw ``aL|throwError"no Found"
         let aa G<-iw ``Gl|throwError"no Gl"
         return<-bV g ``W.lim [(`F,F),(`G,G),(`i,ie i)]
        throwError"a global as a value"
       bV g ``Ev.name [(`i,ie i)]
     |``PySem.Expr.BinOp=>bV g ``Ev.nx
     |``Rw=>bV g ``Ev.hD
     |``PySem.Expr.List=>bV g ``W.kA
     |``FD=>bV g ``W.tup
     |``FA=>
      do
       let f<-cc (e.getArg! 0)
       match cW f with
        |``hV=>
         do
          let aa G<-iw ``Gl|throwError"no Gl"
          let s<-saveState
          let aa x<-jw (f.getArg! 0)|throwError"name"
          let C<-qK O
          if(match C.find? (·.1==x)with|aa (_,k)=>k !=``ow|ab=>ag)then
           let aa F<-iw ``aL|throwError"no Found"
           return<-bV g ``Ev.HT [(`F,F)]
          if x=="sorted"then
           let aa F<-iw ``aL|throwError"no Found"
           let aa P<-iw ``sm|throwError"no SortSpec"
           let aa [m]<-gH 5 (e.getArg! 2)|throwError"sorted's keyword"
           let m<-cc m;let L<-cc (m.getArg! 1)
           let aa r<-gH 20 (<-ho ``Gm.own #[O])|throwError"sites"
           let mut j:=0
           for st in r do
            if<-hP (<-ho ``fJ.pos #[st]) (L.getArg! 3)then return<-bV g ``W.xU [(`F,F),(`j,ie j),(`w0,P)]
            j:=j+1
           throwError"no site"
          let w:=!["len","range","list","min","max","sorted","sum","reversed","divmod","zip","iter","str","enumerate"].contains x;if w then bV g ``W.HW [(`G,G)]else if["range","list","reversed","zip","str","enumerate"].contains x then bV g ``Ev.sG else bV g ``Ev.qp
        |``zr=>
         do
          let aa x<-jw (f.getArg! 1)|throwError"method"
          if x=="replace"then
           let aa G<-iw ``Gl|throwError"no Gl"
           return<-bV g ``W.CW [(`G,G)]
          match Yq.lookup x with
           |aa l=>try jm g l catch _=>sT g `Mine.Ev.mx
           |ab=>
            if x=="read"then
             let aa F<-iw ``aL|throwError"no Found"
             let aa G<-iw ``Gl|throwError"no Gl"
             return<-bV g `Mine.Ev.UA [(`F,F),(`G,G)]
            sT g `Mine.Ev.mx
        |_=>throwError"call"
     |``zr=>sT g `Mine.Ev.oG
     |``Ry=>bV g ``Ev.neg
     |``Rx=>
      do
       let aa F<-iw ``aL|throwError"no Found"
       let(q,S)<-Ik e;return<-bV g ``Ev.Il (S++[(`F,F)])
     |``PySem.Expr.IfExp=>bV g ``Ev.ite
     |``FC=>
      do
       let i<-cc (e.getArg! 1);if cW i==``PySem.Expr.Slice then return<-bV g ``Ev.slice
       bV g ``Ev.sub
     |_=>throwError"expression {cW e}"
  |``ck=>
   do
    if let aa q<-nV g ``ck then return q
    let e<-cc (o.getArg! 4)
    if cW e==``FA then
     let f<-cc (e.getArg! 0)
     if cW f==``hV then
      if(<-jw (f.getArg! 0))==aa "range"then
       let aa z<-gH 5 (e.getArg! 1)|throwError"range"
       return<-bV g (if z.length==1 then``ck.MK else if z.length==2 then``ck.ML else``ck.MM)
      if(<-jw (f.getArg! 0))==aa "reversed"then return<-bV g ``ck.rev
    bV g ``ck.seq
  |``aj=>
   do
    if(o.getArg! 5).isAppOf ``List.set then
     if let aa Y<-gH 300 (o.getArg! 5)then
      let u<-ho ``Option #[mkConst ``V];return[<-g.change (eu o.getAppFn (o.getAppArgs.set! 5 (<-rz u (<-Y.mapM dN))))]
    if let aa q<-aft g then return q
    let c<-cc (o.getArg! 4);let O:=o.getArg! 3;if cW c==``pO then return<-bV g ``aj.nil
    if cW c !=``rA then throwError"block"
    let x<-cc (c.getArg! 1)
    let n(e:eC):bO Nat:=do
     let e<-cc e
     let aa x<-jw (e.getArg! 0)|throwError"name"
     let C<-qK O
     let aa i:=C.findIdx? (·.1==x)|throwError"not a name of the frame: {x}"
     return i
    match cW x with
     |``PySem.Stmt.Assign=>
      do
       let aa [t]<-gH 5 (x.getArg! 0)|throwError"targets"
       let t<-cc t
       match cW t with
        |``hV=>
         do
          if cW (<-cc (x.getArg! 1))==``Rx then
           let aa l0<-jw (t.getArg! 0)|throwError"name"
           if((<-qK O).lookup l0)==aa ``PySem.NameKind.local then
            let aa F<-iw ``aL|throwError"no Found"
            let(_,S)<-Ik (<-cc (x.getArg! 1));return<-bV g ``aj.qV (S++[(`F,F),(`a,ie (<-n t))])
          bV g ``W.set [(`i,ie (<-n t))]
        |``FC=>bV g ``aj.Nx
        |``zr=>sT g `Mine.aj.ps
        |``FD=>
         do
          let aa [a,b]<-gH 5 (t.getArg! 0)|throwError"two names"
          let v<-cc (x.getArg! 1);bV g (if cW v==``FD then``W.Nt else``W.Nr) [(`i,ie (<-n a)),(`j,ie (<-n b))]
        |_=>throwError"target"
     |``PySem.Stmt.AugAssign=>
      do
       let t<-cc (x.getArg! 0);match cW t with|``hV=>bV g ``W.su [(`i,ie (<-n t))]|``zr=>sT g `Mine.aj.Uo|_=>throwError"target"
     |``PySem.Stmt.Return=>
      do
       let v<-cc (x.getArg! 0);bV g (if v.isAppOf ``ab then``aj.MY else``aj.ret)
     |``Sk=>
      do
       let aa l0<-jw (x.getArg! 0)|throwError"name"
       let C<-qK O
       let aa i:=C.findIdx? (·.1==l0)|throwError"not a name of the frame: {l0}"
       let aa F<-iw ``aL|throwError"no Found"
       let aa r<-gH 20 (<-ho ``Gm.own #[O])|throwError"sites"
       let mut j:=0
       for st in r do
        if<-hP (<-ho ``fJ.pos #[st]) (x.getArg! 9)then return<-bV g ``aj.It [(`F,F),(`i,ie i),(`j,ie j)]
        j:=j+1
       throwError"no site"
     |``PySem.Stmt.If=>bV g ``aj.ite
     |``PySem.Stmt.Break=>bV g ``aj.brk
     |``PySem.Stmt.Continue=>bV g ``aj.cont
     |``PySem.Stmt.Expr=>bV g ``aj.expr
     |_=>throwError"statement {cW x}"
  |h=>throwError"goal {h}"
def OC(g:fq):bO fq:=g.withContext do
 let o:=(<-dN (<-g.getType)).consumeMData;unless cW o==``aj do return g
 let U:=o.getArg! 5;unless U.isAppOf ``rm do return g
 let O:=o.getArg! 3
 let b<-(match O.getAppFnArgs with
  |(``eG,#[j0,k,b0])=>do
   let G0<-cc k
   let aa a<-yA G0|match G0 with|.lit (.natVal v)=>return iE (mkConst ``eG) j0 (mS v) b0|_=>return O
   return iE (mkConst ``eG) j0 (mS a) b0
  |_=>aw O:bO eC)
 let aa Y<-gH 200 U|return g
 let aa H<-gH 200 (o.getArg! 6)|return g
 let Y<-Y.mapM λv=>do
  let v<-cc v;match v.getAppFnArgs with|(``aa,#[S,x])=>return dV v.getAppFn S (<-cc x)|_=>return v
 let H<-H.mapM cc;let h0:=o.getArg! 7
 let m<-(match h0.getAppFnArgs with
  |(``dB,#[k,r])=>do match<-cc k with|.lit (.natVal v)=>return dV (mkConst ``dB) (mS v) r|G0=>match<-yA G0 with|aa v=>return dV (mkConst ``dB) (mS v) r|ab=>return h0
  |_=>aw h0:bO eC)
 let u<-ho ``Option #[mkConst ``V];g.change (eu o.getAppFn ((((o.getAppArgs.set! 3 b).set! 5 (<-rz u Y)).set! 6 (<-rz (mkConst ``Ob) H)).set! 7 m))
def OV:List bJ:=[``Ev,``cy,``aj,``Et,``fA,``aH,``cN,``Fn,``bZ,``fc,``hZ,``mY,``dB,``gQ,``iP,``ko,``ec,``iD,``dx,``dE,``di,``ck,``fp,``nr,``fQ,``lJ,``kf,`Mine.cA]
def Zp(g:fq):il (Option fq):=g.withContext do
 let o:=(<-dN (<-g.getType)).consumeMData;unless cW o==``aj||cW o==``Ev do return ab
 let i:=4;let c:=o.getArg! i;unless c.isAppOf ``ite do return ab
 let p:=c.getArg! 1
 let aa (_,t,_):=p.eq?|return ab
 let aa (b,H)<-KI t|return ab
 let a:=if b then c.getArg! 3 else c.getArg! 4;let n:=eu o.getAppFn (o.getAppArgs.set! i a);let m<-yC n
 let M<-pJ `b (mkConst ``Bool) λb=>do
  let I<-mkAppOptM ``ite #[ab,<-mkEq b (mkConst ``ae),ab,c.getArg! 3,c.getArg! 4];pI #[b] (eu o.getAppFn (o.getAppArgs.set! i I))
 g.assign (<-mkEqNDRec M m (<-mkEqSymm H));return aa m.mvarId!
def NP(w:MessageData)(t:Nat):il Unit:=do
 let r<-Ek;if r-t>20000000 then yD m!"slow {(r-t)/1000000}: {w}"
def run:Nat->List fq->List fq->il (List fq)
 |0,q,L=>return q++L
 |_,[],[]=>return[]
 |k+1,[],L=>do
  let mut X:=#[];for g in L do unless<-g.isAssigned do unless<-NF g do X:=X.push g
  return X.toList
 |k+1,g::q,L=>do
  if<-g.isAssigned then return<-run k q L
  let o:=(<-dN (<-g.getType)).consumeMData.headBeta
  if o.isForall&&OV.contains (cW o.getForallBody)then
   let(_,f)<-g.intros;return<-run k (f::q) L
  if OV.contains (cW o)then
   if let aa f<-tryCatchRuntimeEx (Zp g) (λe=>do
    yD m!"arm: {e.toMessageData}";return ab)then return<-run k (f::q) L
   let s<-saveState;let j0<-Ek
   let r<-tryCatchRuntimeEx (Except.ok<$>one g) λe=>do
    let m<-e.toMessageData.toString;aw (Except.error m)
   NP m!"{o}" j0
   match r with
    |.ok l=>run k (l++q) L
    |.error m=>
     do
      s.restore;yD m!"walk stops: {m}";return g::(q++L)else if o.hasExprMVar&&o.eq?.isNone then run k q (L++[g])else
   let j0<-Ek;let s<-saveState
   let r<-tryCatchRuntimeEx (NF g) λe=>do
    s.restore;yD m!"side goal: {o}: {e.toMessageData}";aw ag
   NP m!"{o}" j0
   if r then run k q L else
    do
     let r<-run k q L;return g::r
def ael:il Unit:=do
 let q<-PD;setGoals (<-q.mapM λg=>(OC g:bO _))
def aJ:il Unit:=do
 let q<-PD;let q<-q.mapM λg=>(OC g:bO _);let r<-run 5000 q [];let r<-r.filterM λg=>return !(<-g.isAssigned);setGoals r
end av
namespace av
open Lean Meta Elab Tactic
def VK(l:eC)(l0:String):bO (Option eC):=do
 let aa S<-gH 400 l|return ab
 for s in S do
  let s<-cc s;if s.isAppOf ``Sk||s.isAppOf ``Sj then if(<-jw (s.getArg! 0))==aa l0 then return aa s
 return ab
def sU:List String->eC->bO eC
 |[],_=>throwError"path"
 |l0::r,l=>do
  let aa s<-VK l l0|throwError"not found: {l0}"
  match r with|[]=>return s|r=>sU r (if s.isAppOf ``Sj then s.getArg! 3 else s.getArg! 2)
def yf:bO eC:=do
 let e<-ho ``PySem.Module.body #[<-ho ``PySem.Program.main #[mkConst ``Ru]];cc e
def de(p:List String):il Unit:=do
 let s<-sU p (<-yf);(<-mQ).assign (s.getArg! 2)
def df(p:List String):il Unit:=do
 let s<-sU p (<-yf);(<-mQ).assign (s.getArg! 6)
end av
noncomputable def sv:List aN:=by run_tac av.de ["_div2n1n"]
noncomputable def qR:bt:=by run_tac av.df ["_div2n1n"]
noncomputable def sx:List aN:=by run_tac av.de ["_div3n2n"]
noncomputable def qS:bt:=by run_tac av.df ["_div3n2n"]
theorem Mm:iA qR 3=ae:=(rfl)
theorem YR:iA qS 6=ae:=(rfl)
theorem aH.iv{r z:Nat}(h:aH w n t x y (.int r))(e:r=z):aH w n t x y (.int z):=e▸h
theorem tm(h:y<2^k):x*2^k|||y=x*2^k+y:=by have:=Nat.two_pow_add_eq_or_of_lt h x;rw[hS]at this;exact this.symm
theorem gZ{x k:Nat}(h:x<2^k):bX x<=k:=by
 unfold bX;split;.exact aV _
 .have:=(EX ((by simp_all))).mpr h;simp only[yv];omega
theorem tg{x y k l:Nat}(z:x<2^k)(m:y<2^l)(R:k<=2^20)(a:l<=2^20):ng x y:=IntMulOk.of_bits (aI (gZ z) R) (aI (gZ m) a)
theorem Vc(O X P d S:Nat):(P:Int)*(O*(P+1)+X:Nat)+(((d+O)*(P+1)+S:Nat)-(P*X:Nat))=((O*(P+1)+d)*(P+1)+S:Nat):=by push_cast;grind
section
variable{B:Bs}{w:aD}{d0 g0:aq->Option ai}
theorem Vf(F:aL B d0 g0)(G:Gl B d0 g0)(u:bb B 218 qS 6 sx)(A S b p X k:Nat)(n:Nat)(Z:b=p*2^k+X)(Q:X<2^k)(j0:S<2^k)(I:A<b)(M:0<p)(l0:p<2^k)(R:k<=8000)(a0:A<p*2^k->Fn B w n 211 [.atom (.int A),.atom (.int p),.atom (.int k)] (.tup [.int (A/p:Nat),.int (A%p:Nat)])):Fn B w (n+1) 218 [.atom (.int A),.atom (.int S),.atom (.int b),.atom (.int p),.atom (.int X),.atom (.int k)] (.tup [.int ((A*2^k+S)/b:Nat),.int ((A*2^k+S)%b:Nat)]):=by
 refine Fn.dU F u rfl rfl rfl rfl YR ?_;run_tac av.ael
 have i0:0<2^k:=jb k
 have m0:A<2^(2*k+1):=by
  have:p*2^k<=2^k*2^k:=pS _ (eh l0);have e:2^(2*k+1)=2^k*2^k*2:=by rw[pT,zg,kj]
  have:2^k<=2^k*2^k:=QF _ i0;omega
 have h0:∀(q r:Int)(H:List Ob),q*b+r=(A*2^k+S:Nat)->r<b->aj B w n (eG qS 0) (sx.drop 2) [aa (.int A),aa (.int S),aa (.int b),aa (.int p),aa (.int X),aa (.int k),aa (.int q),aa (.int r),ab] H (dB 0 (.tup [.int ((A*2^k+S)/b:Nat),.int ((A*2^k+S)%b:Nat)])):=by
  intro q r H f0 g;refine aj.age (c:=λm v s=>∃q r:Int,v=[aa (.int A),aa (.int S),aa (.int b),aa (.int p),aa (.int X),aa (.int k),aa (.int q),aa (.int r),ab]/\s=H/\q*b+r=(A*2^k+S:Nat)/\r<b/\m=(-r).toNat) (-r).toNat ⟨q,r,rfl,rfl,f0,g,rfl⟩ ?_;rintro m v s⟨q,r,rfl,rfl,f0,g,rfl⟩;refine⟨_,_,by run_tac av.aJ,?_⟩;by_cases h:r<0
  .rw[if_pos (by simpa using h)];run_tac av.aJ
   exact⟨_,by omega,_,_,rfl,rfl,by push_cast at f0⊢;rw[<-f0,Int.sub_mul];omega,by omega,rfl⟩
  .rw[if_neg (by simpa using h)];have e0:0<b:=by omega
   obtain⟨z,rfl⟩:=Py (Int.not_lt.mp h)
   have c0:0<=q:=by
    rcases Int.lt_or_le q 0 with j|j;.have:q*b<=(-1)*b:=Int.mul_le_mul_of_nonneg_right (by omega) (by omega);omega
    .exact j
   obtain⟨Y,rfl⟩:=Py c0;have e:Y*b+z=A*2^k+S:=by exact_mod_cast f0
   have b0:z<b:=by omega
   have a:(A*2^k+S)/b=Y:=by rw[<-e,yT,Qx _ _ e0,ET b0,gM]
   have f:(A*2^k+S)%b=z:=by rw[<-e,yT,Qy,yY b0]
   rw[a,f];run_tac av.aJ
 cases h:(A/2^k==p)
 .have J:A<p*2^k:=by
   have N:A/2^k≠p:=by simpa using h
   have T:A/2^k<=p:=by apply Nat.le_of_lt_succ;rw[mZ i0,lR];omega
   have:A/2^k<p:=by omega
   exact(mZ i0).mp this
  have a0:=a0 J;have O:A/p<2^k:=(mZ M).mpr (by rw[hS];exact J);have l:A%p<p:=ht _ M;have y:(bX ((A%p:Nat):Int):Int)+(k:Int)<=2^27:=by have:=gZ (x:=A%p) (k:=k) (by omega);omega
  have x:ng ((A/p:Nat):Int) X:=tg O Q (by omega) (by omega);run_tac av.aJ
  all_goals rw[tm j0]
  .have e:=kh A p;generalize A/p=q at*;generalize A%p=r at*;generalize 2^k=P at*;subst Z;subst e;push_cast;grind
  .have e:(A%p+1)*2^k<=p*2^k:=pS _ l;rw[lR]at e;omega
 .have N:A/2^k=p:=by simpa using h
  have E:p*2^k<=A:=by rw[<-N];exact Nat.div_mul_le_self _ _
  have k0:=St.iW (w:=w) (n:=n) E;have i:=St.iW (w:=w) (n:=n) (i:=1*2^k) (j:=1) (by omega);have y:(bX ((A-p*2^k+p:Nat):Int):Int)+(k:Int)<=2^27:=by have:=gZ (x:=A-p*2^k+p) (k:=k+1) (by rw[pT];omega);omega
  have x:ng ((1*2^k-1:Nat):Int) X:=tg (k:=k) (by omega) Q (by omega) (by omega);have C:(bX ((1:Nat):Int):Int)+(k:Int)<=2^27:=by have:=gZ (x:=1) (k:=1) (by omega);omega
  have L:(bX (p:Int):Int)+(k:Int)<=2^27:=by have:=gZ l0;omega
  run_tac av.aJ
  all_goals rw[tm j0]
  all_goals have t:(2^k-1)*X+X=2^k*X:=by rw[<-lR];congr 1;omega
  all_goals
   obtain⟨d,c⟩:=Nat.exists_eq_add_of_le E;have U:A-p*2^k=d:=by omega
   rw[U,QK]
  .have:=Vc p X (2^k-1) d S;rw[show 2^k-1+1=2^k by omega,<-Z,<-c]at this;exact this
  .have o:(d+1)*2^k<=X*2^k:=pS _ (by omega);rw[lR,hS X]at o;rw[pQ];omega
theorem IA(F:aL B d0 g0)(G:Gl B d0 g0)(u:bb B 211 qR 3 sv)(a b k:Nat)(n:Nat)(Z:0<b)(N:b<2^8000)(R:bX a<=k+4000):Fn B w (n+1) 211 [.atom (.int a),.atom (.int b),.atom (.int k)] (.tup [.int (a/b:Nat),.int (a%b:Nat)]):=by
 refine Fn.dU F u rfl rfl rfl rfl Mm ?_;have C:pY a b=ag:=by refine QV ?_;have:(b:Int).natAbs=b:=yv b;rw[this];have:=(EX (by omega)).mpr N;omega
 run_tac av.aJ
theorem Ve(F:aL B d0 g0)(G:Gl B d0 g0)(u:bb B 211 qR 3 sv)(m0:bb B 218 qS 6 sx)(a b k:Nat)(R:k<=6000)(Z:0<b)(C:2^k<=b*2)(E:b<2^k)(I:a<b*2^k):Fn B w 3 211 [.atom (.int a),.atom (.int b),.atom (.int k)] (.tup [.int (a/b:Nat),.int (a%b:Nat)]):=by
 have n:b<2^8000:=ey E (ei (by omega) (by omega));by_cases L:bX (a:Int)<=k+4000;.exact(IA F G u a b k 0 Z n L).le (by omega)
 have T:∀(h b:Nat),h<=4000->1<=h->b<2^(2*h)->2^(2*h)<=b*2->∀A S:Nat,A<b->S<2^h->Fn B w 2 218 [.atom (.int A),.atom (.int S),.atom (.int b),.atom (.int (b/2^h:Nat)),.atom (.int (b&&&(2^h-1):Nat)),.atom (.int h)] (.tup [.int ((A*2^h+S)/b:Nat),.int ((A*2^h+S)%b:Nat)]):=by
  intro h b M a0 E C A S Y T;have f:0<2^h:=jb h;have d:2^(2*h)=2^h*2^h:=by rw[zg,kj]
  have k0:b&&&(2^h-1)=b%2^h:=yV b h;rw[k0];have O:b/2^h<2^h:=(mZ f).mpr (d▸E);have p:0<b/2^h:=Nat.div_pos (by have:2^1<=2^h:=ei (by omega) a0;have:2^h*2<=2^h*2^h:=QJ _ this;omega) f;refine Vf F G m0 A S b (b/2^h) (b%2^h) h 1 ?_ (ht _ f) T Y p O (by omega) λJ=>?_;.rw[hS];exact(kh b (2^h)).symm
  .refine IA F G u A (b/2^h) h 0 p (ey O (ei (by omega) (by omega))) ?_;have:A<2^(2*h):=jD J (d▸Fc O f);have:=gZ this;omega
 have H:a<2^(2*k):=by rw[zg,kj];exact jD I (Fc E (jb k))
 have l0:4000<k:=by have:=gZ H;omega
 have s:∀(a b h t:Nat),h<=4000->1<=h->b<2^(2*h)->2^(2*h)<=b*2->a<b*2^(2*h)->(t=0\/t=1)->aj B w 2 (eG qR 0) (sv.drop 3) [aa (.int a),aa (.int b),aa (.int ((2*h:Nat):Int)),aa (.int t),ab,ab,ab,ab,ab,ab,ab,ab,ab,ab] [] (dB 0 (.tup [.int (a/b:Nat),.int (a%b/2^t:Nat)])):=by
  intro a b h t M a0 E C I n0;have f:=jb h;have o:0<b:=by have:=jb (2*h);omega
  have d:2^(2*h)=2^h*2^h:=by rw[zg,kj]
  have c:aH w 2 (bM .RShift) (.int ((2*h:Nat):Int)) (.int ((1:Nat):Int)) (.int (h:Int)):=aH.iv St.tx (by omega);have i:aH w 2 (bM .LShift) (.int ((1:Nat):Int)) (.int (h:Int)) (.int ((2^h:Nat):Int)):=aH.iv (St.xf (by have:=gZ (x:=1) (k:=1) (by omega);omega)) (by omega);have x:=St.iW (w:=w) (n:=2) (i:=2^h) (j:=1) (by omega);have T:=T h b (by omega) (by omega) E C;have N:a/2^(2*h)*2^h+(a/2^h&&&2^h-1)=a/2^h:=by rw[yV,d,<-QB,hS];exact kh _ _
  have X:a&&&2^h-1=a%2^h:=yV a h;have z:(a/2^h%b*2^h+a%2^h)/b<2^h:=by rw[mZ o];have r:(a/2^h%b+1)*2^h<=b*2^h:=pS _ (ht _ o);have Q:=ht a f;rw[lR]at r;rw[hS (2^h) b];omega
  have U:(bX (((a/2^(2*h)*2^h+(a/2^h&&&2^h-1))/b:Nat):Int):Int)+(h:Int)<=2^27:=by
   have l:a<2^(4*h):=by
    have:2^(4*h)=2^(2*h)*2^(2*h):=by rw[<-kj];congr 1;omega
    rw[this];exact jD I (Fc E (jb _))
   have y:(a/2^(2*h)*2^h+(a/2^h&&&2^h-1))/b<2^(4*h):=by rw[N];exact ki (aI (QC _ _) (QC _ _)) l
   have:=gZ y;omega
  have q:a/2^(2*h)<b:=by rw[mZ (jb _)];exact I
  have e:a/2^h&&&2^h-1<2^h:=by rw[yV];exact ht _ f
  have j:(a/2^(2*h)*2^h+(a/2^h&&&2^h-1))%b<b:=ht _ o;have m:a&&&2^h-1<2^h:=by rw[X];exact ht _ f
  have h0:=kh (a/2^h) b;have i0:=kh a (2^h)
  have c0:a=b*(a/2^h/b*2^h)+(a/2^h%b*2^h+a%2^h):=by
   conv=>lhs;rw[<-i0,<-h0,hS,pQ]
   rw[oo,rI]
  have e0:(a/2^h/b)*2^h+(a/2^h%b*2^h+a%2^h)/b=a/b:=by conv=>rhs;rw[c0,QH o]
  have f0:(a/2^h%b*2^h+a%2^h)%b=a%b:=by conv=>rhs;rw[c0,QI]
  rcases n0 with rfl|rfl
  .run_tac av.aJ
   rw[N,X,tm z,e0,f0];simp
  .run_tac av.aJ
   rw[N,X,tm z,e0,f0];simp
 refine Fn.dU F u rfl rfl rfl rfl Mm ?_;obtain⟨h,rfl|rfl⟩:∃h,k=2*h\/k=2*h+1:=⟨k/2,by omega⟩;.have b0:aH w 2 (bM .BitAnd) (.int ((2*h:Nat):Int)) (.int ((1:Nat):Int)) (.int ((0:Nat):Int)):=aH.iv St.vG (by rw[QA];omega);have:=s a b h 0 (by omega) (by omega) E C I (.inl rfl);rw[QN,Nat.div_one]at this;clear s T;run_tac av.aJ
 .have b0:aH w 2 (bM .BitAnd) (.int ((2*h+1:Nat):Int)) (.int ((1:Nat):Int)) (.int ((1:Nat):Int)):=aH.iv St.vG (by rw[QA];omega);have j0:decide (((bX (a:Int):Nat):Int)-((2*h+1:Nat):Int)<=((4000:Nat):Int))=ag:=by clear n s T H I C E;exact decide_eq_false (by omega)
  have d:2^(2*(h+1))=2^(2*h+1)*2:=by rw[<-pT];congr 1
  have:=s (a*2^1) (b*2^1) (h+1) 1 (by omega) (by omega) (by omega) (by omega) (by rw[d];have:=I;rw[show b*2^1*(2^(2*h+1)*2)=(b*2^(2*h+1))*4 by grind];omega) (.inr rfl);rw[Nat.mul_div_mul_right _ _ (by omega),Nat.mul_mod_mul_right,Nat.mul_div_cancel _ (by omega)]at this;have v:aH w 2 (ek .Add) (.int ((2*h+1:Nat):Int)) (.int ((1:Nat):Int)) (.int ((2*(h+1):Nat):Int)):=aH.iv St.wJ (by omega);have g:(bX (a:Int):Int)+((1:Nat):Int)<=2^27:=by have:=gZ H;omega
  have P:(bX (b:Int):Int)+((1:Nat):Int)<=2^27:=by have:=gZ E;omega
  clear s T;run_tac av.aJ
end
section
variable{M:Model}{A:aS}{R:uL}{Y:rR}{n:Nat}{d:au}{c:Code}{j0:List Frame}{s:au}{J:aO}{h0:hW->dF Fin}{H:ai->dF Fin}{a:Bool->Bool}{g:#[L]->#[L]}
theorem VB(x:aN)(J:aO):gp [x] J=me x J:=by rw[Gh];refine Ee ?_ (bind_pure _);congr 1;funext f;cases f<;>rfl
def CX(J:aO)(m:#[y])(h0:hW->dF Fin)(H:ai->dF Fin)(a:Bool->Bool)(g:#[L]->#[L]):hW->dF Fin|.next=>(gp m J).wrap h0 H a g|f=>h0 f
theorem kC(h:fy M A R Y n d c ((me x J).wrap (CX J m h0 H a g) H a g) j0 s):fy M A R Y n d c ((gp (x::m) J).wrap h0 H a g) j0 s:=by refine seg_execs_cons (tW (congrArg (λt=>fy M A R Y n _ c t _ s) (FU _ _ _ (λf=>#[p]) #[an])) h)
theorem NC(h:ax M #[ix] (me x J) (λf L=>f=.next/\#[nb,M]) (#[fP]) s):#[jZ,M,x]:=by refine seg_wrap (dq h (λf L v=>?_) #[h0]);simp_all
theorem Dr(h:ax M #[ix] (isTrue T J (aW T J)) (λb L=>fy M A R Y n d c ((gp #[aa,b,r0,z] J).wrap h0 H a g) j0 L) (#[fP]) s):#[jZ,M,.If T r0 z i0]:=by refine kZ (dR (kZ (dq h (λb L Z=>?_) #[h0])));cases b<;>exact Z
def xc(J:aO)(h0:hW->dF Fin)(H:ai->dF Fin)(a:Bool->Bool)(g:#[L]->#[L]):nj->dF Fin:=λr=>((match r with|.ok f=>(.pure f:dF hW)|.error e=>.raise e).onRaise λ(x:ai)=>do
 if(<-rX x 1)==rS then unsupported "frame.own-activation:exception-without-traceback"
 setFlight x J.frame).wrap h0 H a g
theorem alc:xc J h0 H a g (.ok .next)=h0 .next:=rfl
theorem abj(h:ax M #[ix] (aW y J) (λv k0=>ax M #[ix] (kY v) (λC m=>∀(p:ba),fy M A R Y n d #[g8] (M.den #[g8]) (.ret (xc J h0 H a g) ab (a ag) (g []) c p []::j0) m) (#[fP]) k0) (#[fP]) s)(u:∀x,mf y J x=aw x):#[jZ,M,.For i y r0 z i0]:=by refine kZ (dR (kZ (dq h (λv k0 N=>?_) #[h0])));rw[u v];refine kZ (aA (kZ (dR (kZ (cj (dq N (λC m a0=>(seg_call λp=>a0 p)) #[h0]))))))
def afi(i:aT)(C:ai)(r0 z:#[y])(J:aO):hW->dF Fin|.next|.cont=>.pure (.again #[g8])|.brk=>.pure (.done .next)|.ret v=>.pure (.done (.ret v))
end
section
variable{k:ni}{w:aD}{A:aS}{R:uL}{Y:rR}{n:Nat}{d:au}{j0:List Frame}{s:au}{J:aO}
theorem NB(h:#[m2,kl C,λr k0=>match r with|ab=>fy #[cS] A R Y n d #[g8] (.pure (.again (.block z J))) j0 k0|aa v=>#[m2,Gq i C v,λ_ m=>#[m2,assign i J v,λ_ N=>∀H,fy #[cS] A R Y n d #[g8] ((gp r0 J).wrap (afi i C r0 z J) H id id) j0 N,m],k0],s]):fy #[cS] A R Y n d #[g8] (#[cS].den #[g8]) j0 s:=by show fy _ A R Y n _ _ ((forTurn _ _ _ _ _).onRaise _) _ s;rw[Sem.onRaise_eq_wrap];refine kZ (dR (kZ (si (dq h (λr k0 b=>?_) #[h0]))));cases r with|none=>exact b|some v=>refine kZ (dq b (λ_ m a0=>kZ (dq a0 (λ_ N T=>?_) #[h0])) #[h0]);rw[Sem.bind_eq_wrap',Sem.wrap_wrap];exact tW (congrArg (λt=>fy _ A R Y n _ _ t _ _) (FU _ _ _ (λf=>by cases f<;>rfl) #[an])) (T (λe=>(Sem.raise e).wrap _ _ _ _))
end
noncomputable def fK:#[y]:=by run_tac av.de ["_iter_escaped_chars"]
noncomputable def jZ:bt:=by run_tac av.df ["_iter_escaped_chars"]
def be:Nat->Bool->Tx->List (Nat×Tx)|_,ag,[]=>[]|i,ae,[]=>[(i-1,[92])]|i,ae,c::r=>(i,[92,c])::be (i+1) ag r|i,ag,c::r=>if c=92 then be (i+1) ae r else(i,[c])::be (i+1) ag r
noncomputable def eS:Gm:=#[d3,jZ,0]
noncomputable def wD(C f:ao)(q:aq)(d:ai):aO:=newEnv jZ C el [] q (aa f) d ab cU
def cf(C z:ao):#[t]:=[C,z,z+1]
structure lI(B:Bs)(M:#[t])(s f:au):Prop where
 keep:#[dr,∀o,s.heap.get? b=aa o->f.heap.get? b=aa o]
 size:#[R,f.heap.objs.size]
 gh:GH B f.heap
def oO(B:Bs)(M:#[t]):uL:=λn d r s=>r=.ok (.ret .none)/\(n=0/\#[ls,M])
def oP(B:Bs)(M e:#[t])(g:List (Nat×Tx)):rR:=λm d v s r=>(∃p y T Z R L,g[g.length-1-m]?=aa (p,y)/\v=.ref T/\#[ch,T,⟨#[h6],ab,.seq #[Z,R] L,#[]⟩]/\VR [] Z #[bz,p]/\VR [] R #[ao,y])/\#[ls,M]/\(∀b∈#[aa,m=0,e,M],(∃o,#[eE])/\¬bu s.heap b)/\∀f,lI B #[aa,m=0,e,M] s f->r (.send .none) f
def hE:Bool->Tx->Bool|e,[]=>e|ae,_::r=>hE ag r|ag,c::r=>hE (c==92) r
theorem Bk:∀(r:Tx)(i:Nat)(e:Bool),hE e r=ae->1<=(be i e r).length
 |[],i,ae,_=>by simp[be]
 |c::r,i,ae,h=>by simp[be]
 |c::r,i,ag,h=>by
  unfold be;split;.rename_i X;subst X;exact Bk r _ _ (by simpa[hE]using h)
  .simp
theorem et.refl(h:#[c9]):et B M G s s:=⟨rfl,rfl,⟨λ_ _ _ e=>e,id⟩,aP _,λ_ _ e _ _=>e,h⟩
theorem tp{S:Type}{g l:#[g]}{a:S}(h:g.drop (g.length-(m+1))=a::l)(b:m+1<=g.length):g[g.length-1-m]?=aa a/\g.drop (g.length-m)=l:=by
 refine#[a3,?_];.rw[(by omega:g.length-1-m=g.length-(m+1))];have:=congrArg (·[0]?) h;simpa using this
 .rw[(by omega:g.length-m=(g.length-(m+1))+1),<-kJ,h];rfl
theorem Ir(h:#[eP])(J:aO)(b:#[g]):Cx n (A.in1.over (.func b J) []):=by
 refine#[bN,h.handled,?_];.have:=h.depth;show A.depth+0+(1+0+0+0)+n<_;omega
 .have:=h.units;show A.units+1+0+3+8*n+8<_;omega
theorem UZ(h:#[eP])(J:aO)(b:#[g]):Cx n (A.in1.over (.forLoop t C j e J) [.ret k ab ag [] (.func b J) p []]):=by
 refine#[bN,h.handled,?_];.have:=h.depth;show A.depth+((1+0+0+0)+0)+0+n<_;omega
 .have:=h.units;show A.units+1+(3+0)+0+8*n+8<_;omega
section
variable{B:Bs}{w:aD}{d0 g0:#[n]}{A:aS}{m n:Nat}{R:uL}{Y:rR}{d s:au}{c:Code}{j0:List Frame}{J:aO}{h0:hW->dF kR}{H:ai->dF kR}{a:Bool->Bool}{g:#[L]->#[L]}{U x0:#[o]}
def tj(U:#[o]):Prop:=#[f2,U,bA 0 x]
theorem aG.bare{H:#[g]}(R:#[cx])(r:O.fz=0)(p:tj U):#[dk,[],[],h]:=by have:=R.take #[f] p #[f];simpa using this
theorem aB.nT{S j:#[g]}{H:#[g]}(P:#[aQ,H,j,L])(h:∀b∈fj O J S,b∈M):et B M s.gens.size s L:=⟨P.fx.os,P.fx.drawn,⟨λi x _ e=>P.fx.gens.1 i x e,P.fx.gens.2⟩,P.fx.size,λb o e Z n0=>P.fx.keep b o e (λz=>Z (h b z)) n0,P.rel.gh⟩
theorem nE(h:O.mc=[]):fj O J []=[J.locals]:=by unfold fj;rw[h];rw[EE.mpr (λp _=>by simp)];simp
theorem NA(G:Cx m #[ix])(M:#[io,U,s.heap])(z:aj B w m eS [x] U [] (λo v st=>o=.next/\v=x0))(p:tj x0)(k:∀L,#[io,x0,L.heap]->et B [J.locals] s.gens.size s L->#[nb,#[aE]]):#[jZ,#[aE],x]:=by refine NC ?_;rw[<-VB];refine z _ _ _ s _ _ G M λo X m0 f L j e P h=>?_;obtain⟨rfl,rfl⟩:=e;refine⟨h,k _ (P.rel.bare rfl p) (P.nT λb Z=>by rw[nE rfl]at Z;exact Z)⟩
end
namespace av
open Lean Meta Elab Tactic
def CI:eC->List Nat->bO eC
 |e,[]=>return e
 |e,k::r=>do
  let e<-cc e
  if e.isAppOf ``rA||e.isAppOf ``pO then
   let aa l<-gH 200 e|throwError"list"
   let aa x:=l[k]?|throwError"place"
   CI x r else CI (e.getArg! k) r
def gC(p:List String)(k:List Nat):il Unit:=do
 let s<-sU p (<-yf);(<-mQ).assign (<-dN (<-CI (s.getArg! 2) k))
end av
def pB:Expr:=by run_tac av.gC ["_iter_escaped_chars"] [2,0]
def Wv:Expr:=by run_tac av.gC ["_iter_escaped_chars"] [2,1]
noncomputable def vM:List aN:=by run_tac av.gC ["_iter_escaped_chars"] [2,2]
noncomputable def Zw:ba:=by run_tac av.gC ["_iter_escaped_chars"] [2,4]
noncomputable def aam:aN:=by run_tac av.gC ["_iter_escaped_chars"] [0]
noncomputable def aan:aN:=by run_tac av.gC ["_iter_escaped_chars"] [1]
def Ce:aN:=by run_tac av.gC ["_iter_escaped_chars"] [3]
def aff:Expr:=by run_tac av.gC ["_iter_escaped_chars"] [3,0]
def yE1:Expr:=by run_tac av.gC ["_iter_escaped_chars"] [3,1,0,0,0,1]
def afd:Expr:=by run_tac av.gC ["_iter_escaped_chars"] [2,2,0,0]
def yE2:Expr:=by run_tac av.gC ["_iter_escaped_chars"] [2,2,0,1,0,0,0,1]
noncomputable def stF:aN:=by run_tac av.gC ["_iter_escaped_chars"] [2,2,0,1,1]
def afe:Expr:=by run_tac av.gC ["_iter_escaped_chars"] [2,2,0,2,0,0]
noncomputable def stT:aN:=by run_tac av.gC ["_iter_escaped_chars"] [2,2,0,2,0,1,0]
def yE3:Expr:=by run_tac av.gC ["_iter_escaped_chars"] [2,2,0,2,0,2,0,0,0,1]
theorem Up:fK=[aam,aan,.For pB Wv vM [] Zw,Ce]:=rfl
def BZ:hW->dF kR:=λf=>.pure (.done (.ret (match f with|.ret v=>v|_=>.none)))
section
variable{B:Bs}{w:aD}{d0 g0:aq->Option ai}{A:aS}{J:aO}{t:Tx}{x:aq}{p0:gn}{z:ao}{g:List (Nat×Tx)}
abbrev WS(B:Bs)(w:aD)(A:aS)(M e:List ao)(g:List (Nat×Tx))(n:Nat)(d:au)(c:Code)(H:dF kR)(j0:List Frame)(s:au):Prop:=fy (aE P0 w) A.in1 (oO B e) (oP B M e g) n d c H j0 s
theorem Bq{h0:hW->dF kR}{p:Nat}(y0:splitAtGen j0=ab)(E0:j0.any Frame.guarded=ag)(x0:J.cells=[])(G:Cx 0 (A.in1.over c j0))(f:aG B eS J [] U [] s.heap)(t:tj U)(m0:Ev B w 0 eS e U [] (.ob 0) [.tup [.int p,.str y]])(l:g[g.length-1-n]?=aa (p,y))(Q:J.locals∈M)(w0:J.locals∈(if n=0 then v0 else M))(x:et B M d.gens.size d s)(g0:∀L,et B [J.locals] s.gens.size s L->aG B eS J [] U [] L.heap->∀b∈(if n=0 then v0 else M),(∃o,L.heap.get? b=aa o)/\¬bu L.heap b)(k:∀L r0,et B [J.locals] s.gens.size s L->lI B (if n=0 then v0 else M) L r0->aG B eS J [] U [] r0.heap->WS B w A M v0 g n r0 c (h0 .next) j0 r0):WS B w A M v0 g (n+1) d c ((me (.Expr (.Yield (aa e) G0) i0) J).wrap h0 H id id) j0 s:=by
 refine seg_Expr_Yield y0 rfl E0 (m0 (A.in1.over c j0) J [] s _ _ G f λv L C P I F0 C0=>?_) (by rw[f.scope];rfl) f.inter;have u0:=P.nT λb Z=>by rw[nE rfl]at Z;exact Z
 obtain⟨T,Y,d0,rfl,k0,f0,z⟩:=P.rel.tup I rfl;obtain⟨s0,F,N⟩:=z.at (j:=0) rfl;obtain⟨t0,E,a0⟩:=z.at (j:=1) rfl;have p0:Y=#[s0,t0]:=by have R:Y.size=2:=z.size;apply Array.ext_getElem?;intro j;match j with|0=>rw[F];rfl|1=>rw[E];rfl|j+2=>rw[yi (by omega),yi (by simp)]
 subst p0;refine⟨⟨p,y,T,s0,t0,d0,l,rfl,f0,N.atom λi=>by simp,a0.atom λi=>by simp⟩,x.trans u0 (λb Z=>.inl (by rw[aZ.mp Z];exact Q)),g0 L u0 (P.rel.bare rfl t),λr0 X=>?_⟩;refine C0 .none r0 (k L r0 u0 X ?_);have o0:=P.rel.bare rfl t;obtain⟨m,u,A0⟩:=o0.ns;refine{o0 with gh:=X.gh,ns:=⟨m,u.at' λo l=>X.keep _ w0 o l,λi v r=>?_⟩,store:=λi a e0 h=>by simp at h,code:=λi a e0 h=>by simp at h,cw:=λq O=>?_}
 .obtain⟨l0,q0,b0,c0⟩:=A0 i v r;refine⟨l0,q0,b0,?_⟩;rcases c0 with c0|⟨_,c,S,n0,_⟩;.exact .inl c0
  .rw[x0]at n0;cases n0
 .rw[x0]at O;cases O
def gf(x:aq)(p0:gn)(z:ao)(i:Nat)(h:bo):Prop:=(∃f,IsEnum h (z+1) z i f)/\h.IsStrIter z (Gy x) x p0 i
theorem gf.keep(e:gf x p0 z i h)(A0:∀o,h.get? (z+1)=aa o->c0.get? (z+1)=aa o)(t0:∀o,h.get? z=aa o->c0.get? z=aa o):gf x p0 z i c0:=by obtain⟨⟨f,N⟩,o,a0,T⟩:=e;exact⟨⟨_,A0 _ N⟩,o,t0 _ a0,T⟩
theorem gf.aJ(b:A.handled=ab)(a:x.cps.toList=t):∃(k:Nat->Array _->Prop)(l:Nat->ao->bo->Prop),WalksT P0 w A (z+1) [z+1,z] [z+1,z] t.length k (gf x p0 z) l/\∀i d,k i d->∃L c u,t[i]?=aa c/\d=#[.int i L,.str ⟨#[c]⟩ u]:=by
 have y:x.cps.size=t.length:=by rw[<-a,gI]
 have Y:∀(i:Nat)d,(∃L v,(∃c u,x.cps[i]?=aa c/\v=rT ⟨#[c]⟩ u)/\d=#[.int i L,v])->∃L c u,t[i]?=aa c/\d=#[.int i L,.str ⟨#[c]⟩ u]:=by rintro i d⟨L,v,⟨c,u,N,rfl⟩,rfl⟩;exact⟨_,c,u,by rw[<-a,ke];exact N,rfl⟩
 have n:=Nat.succ_ne_self z;have j:=λh=>n (aZ.mp h);cases I:x.cps.all (·<128)
 .have M:=Ss (Draws.strWide (prog:=P0) (w:=w) (A:=A.in1) b z x p0) (z+1) n j (by simp);rw[y]at M;have e:(λ(i:Nat)h=>(∃f,IsEnum h (z+1) z i f)/\h.IsStrIter z "str_iterator" x p0 i)=gf x p0 z:=by funext i h;unfold gf;simp[Gy,I]
  rw[e]at M;exact⟨_,_,M,Y⟩
 .have M:=Ss (Draws.strAscii (prog:=P0) (w:=w) (A:=A.in1) b z x p0) (z+1) n j (by simp);rw[y]at M;have e:(λ(i:Nat)h=>(∃f,IsEnum h (z+1) z i f)/\h.IsStrIter z "str_ascii_iterator" x p0 i)=gf x p0 z:=by funext i h;unfold gf;simp[Gy,I]
  rw[e]at M;exact⟨_,_,M,Y⟩
theorem gf.hH(e:gf x p0 z i h):∀b∈[z+1,z],(∃o,h.get? b=aa o)/\¬bu h b:=by
 obtain⟨⟨f,N⟩,o,a0,X,T⟩:=e;intro b Z;obtain rfl|Z:=bg.mp Z;.exact⟨⟨_,N⟩,bu.no N (λY q u d t=>by cases d;cases t) λY n d=>by cases d⟩
 .rw[aZ.mp Z];exact⟨⟨_,a0⟩,bu.no a0 (λY q u d t=>(by simp_all)) λY n d=>by grind⟩
theorem aao(h:fy (aE P0 w) A R Y n d (.block [] J) (.pure (.done .next)) j0 s):fy (aE P0 w) A R Y n d (.block [] J) ((aE P0 w).den (.block [] J)) j0 s:=h
theorem Vx(F:aL B d0 g0)(G:Gl B d0 g0){f:ao}{q:aq}{q1:ai}{C:ao}(x1:J=wD C f q q1)(y:Cx 1 A)(a:x.cps.toList=t)(C0:C≠z/\C≠z+1)(f1:∀b∈cf C z,B.heap.objs.size<=b){H:ai->dF kR}{p:ba}(j0:t.length<=aC){S0:List ao}:∀(r:Tx)(i:Nat)(d1:Bool)(E:Option V)(d s:au)(n:Nat),t.drop i=r->g.drop (g.length-n)=be i d1 r->n=(be i d1 r).length->n<=g.length->(d1=ae->1<=i)->i<=t.length->S0=(if hE d1 r then[C]else cf C z)->gf x p0 z i s.heap->aG B eS J [] [aa (.str t),aa (.int ((i-1:Nat):Int)),aa (.bool d1),E,ab] [] s.heap->(∀v,E=aa v->bA 0 v)->et B (cf C z) d.gens.size d s->WS B w A (cf C z) S0 g n d (.forLoop pB (.ref (z+1)) vM [] J) ((aE P0 w).den (.forLoop pB (.ref (z+1)) vM [] J)) [.ret (xc J (CX J [Ce] BZ H id id) H id id) ab ag [] (.func fK J) p []] s:=by
 intro r;have j1:J.cells=[]:=by rw[x1];rfl
 have T0:J.locals=C:=by rw[x1];rfl
 have a1:∀{Z0:List aN}{k:nj->dF kR},Cx 0 (A.in1.over (.forLoop pB (.ref (z+1)) Z0 [] J) [.ret k ab ag [] (.func fK J) p []]):=UZ y J fK;have o2:∀b∈cf C z,b∉B.tabs:=λb Z n0=>absurd (F.slt.tab b n0) (bP.mpr (f1 b Z))
 have k1:∀{s L:au}{i:Nat},gf x p0 z i s.heap->et B [J.locals] s.gens.size s L->gf x p0 z i L.heap:=λ{s L i}e X=>by
  refine e.keep (λo I=>X.keep _ o I ?_ (o2 _ (by simp[cf]))) (λo I=>X.keep _ o I ?_ (o2 _ (by simp[cf])));.rw[T0];simp;exact C0.2.symm
  .rw[T0];simp;exact C0.1.symm
 have b2:∀{L:au}{i:Nat}{U:List (Option V)},gf x p0 z i L.heap->aG B eS J [] U [] L.heap->∀b∈cf C z,(∃o,L.heap.get? b=aa o)/\¬bu L.heap b:=λ{L i U}e R b Z=>by
  obtain⟨m,S,_⟩:=R.ns;have y2:=S;obtain⟨o,_,_,I,_⟩:=S;simp only[cf,bg,gL,or_false]at Z;rcases Z with rfl|rfl|rfl;.rw[<-T0];exact⟨⟨o,I⟩,jX y2⟩
  .exact e.hH _ (by simp)
  .exact e.hH _ (by simp)
 have d2:∀{s L:au}{i:Nat},gf x p0 z i s.heap->lI B (cf C z) s L->gf x p0 z i L.heap:=λ{s L i}e X=>e.keep (λo I=>X.keep _ (by simp[cf]) o I) (λo I=>X.keep _ (by simp[cf]) o I);have c2:∀{s:au}{c0:bo}{i1 i:Nat}{U:List (Option V)},gf x p0 z i s.heap->aG B eS J [] U [] s.heap->s.heap.objs.size<=c0.objs.size->(∀b o,b∉[z+1,z]->s.heap.get? b=aa o->c0.get? b=aa o)->et B [z+1,z] s.gens.size s {s with heap:=c0,toks:=i1}:=λ{s c0 i1 i U}e R i0 O=>⟨rfl,rfl,⟨λ_ _ _ e=>e,id⟩,i0,λb o e Z _=>O b o Z e,R.gh.many F.slt (λb Z=>⟨f1 b (by simp[cf]at Z⊢;rcases Z with h|h<;>simp[h]),.inl (e.hH b Z).2⟩) i0 λb o e Z=>O b o Z e⟩;have q2:∀{s L:au}{i:Nat}{U:List (Option V)},gf x p0 z i s.heap->aG B eS J [] U [] s.heap->et B [z+1,z] s.gens.size s L->aG B eS J [] U [] L.heap:=λ{s L i U}e R X=>R.chg X (λb Z=>⟨λh=>by rw[T0]at h;simp at Z;rcases Z with c0|c0;exact C0.2 (h.symm.trans c0);exact C0.1 (h.symm.trans c0),by simp,by rw[j1];simp,f1 b (by simp[cf]at Z⊢;rcases Z with h|h<;>simp[h])⟩) λb Z=>.inl (e.hH b Z).2;have p2:∀{d:au},∀b∈[z+1,z],b∈cf C z\/d.heap.objs.size<=b:=λ{d}b Z=>.inl (by simp[cf]at Z⊢;rcases Z with h|h<;>simp[h]);have L1:∀{d:au},∀b∈[J.locals],b∈cf C z\/d.heap.objs.size<=b:=λ{d}b Z=>.inl (by rw[aZ.mp Z,T0];simp[cf]);have r2:∀{s L:au},et B [J.locals] s.gens.size s L->et B (cf C z) s.gens.size s L:=λ{s L}h=>⟨h.os,h.drawn,h.gens,h.size,λb o e Z n0=>h.keep b o e (λS=>Z (by rw[aZ.mp S,T0];simp[cf])) n0,h.gh⟩;have u1:∀{E:Option V}{i:Nat}{e:Bool},(∀v,E=aa v->bA 0 v)->tj [aa (.str t),aa (.int (i:Int)),aa (.bool e),E,ab]:=λ{E i e}A0 j v b0=>by match j with|0=>cases b0;trivial|1=>cases b0;trivial|2=>cases b0;trivial|3=>exact A0 v (by simpa using b0)|4=>cases b0|j+5=>cases b0
 have H1:Cx 0 (A.in1.over (.func fK J) []):=Ir y J fK;obtain⟨v1,a2,M,P1⟩:=gf.aJ (w:=w) (A:=A.in1.over (.forLoop pB (.ref (z+1)) vM [] J) [.ret (xc J (CX J [Ce] BZ H id id) H id id) ab ag [] (.func fK J) p []]) (x:=x) (p0:=p0) (z:=z) (t:=t) a1.handled a
 induction r with
 |nil=>
  intro i d1 E d s n e1 t1 Y Q0 b1 N g1 X0 l A0 w1
  have x0:i=t.length:=by
   rcases gk i t.length with h|h;.have:=List.drop_eq_nil_iff.mp e1;omega
   .omega
  subst x0;refine NB (fb (M.done s _ _ X0 λc0 i1 O i0=>?_));have s1:et B [z+1,z] s.gens.size s {s with heap:=c0,toks:=i1}:=c2 X0 l i0 λb o Z=>O b o Z;have Q1:=q2 X0 l s1;have n1:=w1.trans s1 p2;refine zT rfl (aao (seg_leaf (.ok .next) (kC (Dr ?_))));have n0:Et B w 0 eS aff [aa (.str t),aa (.int ((t.length-1:Nat):Int)),aa (.bool d1),E,ab] [] d1 []:=by run_tac av.aJ
  refine n0 _ J [] _ _ _ H1 Q1 λh0 s0 e0=>?_;have l1:=e0.nT (M:=[J.locals]) λb Z=>by rw[nE rfl]at Z;exact Z
  have z1:=e0.rel.bare rfl (u1 A0);have J1:=n1.trans l1 L1
  cases d1 with
  |false=>subst Y;rw[show S0=cf C z from g1];exact seg_end (.ok (.ret .none)) ⟨rfl,rfl,J1⟩
  |true=>
   subst Y;have v2:S0=[C]:=g1;subst v2;refine kC (Bq (p:=t.length-1) (y:=[92]) rfl rfl j1 H1 z1 (u1 A0) ?_ (tp t1 Q0).1 ?_ ?_ J1 ?_ ?_);.run_tac av.aJ
   .rw[T0];simp[cf]
   .rw[T0];simp
   .intro m0 U1 J0 b Z;have O0:b∈[C]:=Z;rw[aZ.mp O0];obtain⟨m,S,_⟩:=J0.ns;rw[T0]at S;obtain⟨o,_,_,I,_⟩:=id S;exact⟨⟨o,I⟩,jX S⟩
   .intro m0 y0 U1 H0 R1;exact seg_end (.ok (.ret .none)) ⟨rfl,rfl,.refl R1.gh⟩
 |cons c r f0=>
  intro i d1 E d s n e1 t1 Y Q0 b1 N g1 X0 l A0 w1;have X:t[i]?=aa c:=by have:=congrArg (·[0]?) e1;simpa[jz]using this
  have o0:i<t.length:=(bw.mp X).1;have Y1:t.drop (i+1)=r:=by rw[<-kJ,e1];rfl
  refine NB (fb (M.item i s _ _ o0 X0 λT Y0 c0 i1 v0 q0 i2 O1 O i0=>?_));refine fb (M.go _ _ _ i T _ _ _ O1 λa0 f2 R0 I0=>?_);have n2:∀b o,b∉[z+1,z]->s.heap.get? b=aa o->a0.get? b=aa o:=λb o Z e=>R0 b o Z (O b o Z e);have s1:et B [z+1,z] s.gens.size s {s with heap:=a0,toks:=i1}:=c2 X0 l (aI i0 I0) n2;have z1:=q2 X0 l s1;have n1:=w1.trans s1 p2;have h2:a0.IsTuple T Y0:=by obtain⟨o,I,r⟩:=i2;exact⟨o,R0 T o (M.apart i T _ O1) I,r⟩
  obtain⟨G0,t0,u,h1,rfl⟩:=P1 i Y0 v0;rw[X]at h1;cases h1;obtain⟨F0,E0,L0,N0,A2⟩:∃F0 E0 L0 N0,pB=.Tuple [.Name (ak "pos") F0,.Name (ak "ch") E0] L0 N0:=⟨_,_,_,_,rfl⟩;rw[show assign pB J (.ref T)=assign (.Tuple [.Name (ak "pos") F0,.Name (ak "ch") E0] L0 N0) J (.ref T)by rw[A2],Gc];refine af (dR ?_);unfold unpack;rw[show(rU [hV (ak "pos") F0,hV (ak "ch") E0] J).length=(#[Ga i G0,.str ⟨#[c]⟩ u]:Array ai).size from rfl,show(rU [hV (ak "pos") F0,hV (ak "ch") E0] J).findIdx? (·.1)=ab from rfl];refine af (cj (fb (Ac a1.handled h2 λQ o1 z2=>?_)));have l0:aB B eS J [] _ [] {s with heap:=a0,toks:=i1} [] {s with heap:=Q,toks:=i1}:=aB.heap z1 z2 λb o e=>o1 b o (cB (bk e)) e;refine lU (km (aG.hg l0.rel (i:=1) (x:=.int (i:Nat)) rfl (.inl rfl) (by simp) ⟨G0,rfl⟩ λm0 u0=>lU (km (aG.hg u0.rel (i:=3) (x:=.str [c]) rfl (.inl rfl) (by simp) ⟨_,u,rfl,rfl⟩ λy0 w0=>uC ?_))));have P:=(l0.trans u0).trans w0;have R1:aG B eS J [] [aa (.str t),aa (.int ((i+1-1:Nat):Int)),aa (.bool d1),aa (.str [c]),ab] [] y0.heap:=P.rel;have X1:=P.nT (M:=[J.locals]) λb Z=>by rw[nE rfl]at Z;exact Z
  have s2:=k1 f2 X1;have x2:=n1.trans X1 L1;have p1:∀v,aa (V.str [c])=aa v->bA 0 v:=λv e=>by cases e;trivial
  clear P l0 u0 w0 X1 h2 f2 n2 s1 n1 z1 O1 i2 v0;intro B2;have n0:Et B w 0 eS afd [aa (.str t),aa (.int ((i+1-1:Nat):Int)),aa (.bool d1),aa (.str [c]),ab] [] d1 []:=by run_tac av.aJ
  refine kC (Dr (n0 _ J [] _ _ _ a1 R1 λc1 F1 w0=>?_));have j2:=w0.nT (M:=[J.locals]) λb Z=>by rw[nE rfl]at Z;exact Z
  have g2:=w0.rel.bare rfl (u1 p1);have M1:=k1 s2 j2;have l2:=x2.trans j2 L1
  have k2:∀m,J.locals∈(if m=0 then S0 else cf C z):=λm=>by
   rw[g1,T0];split;.split<;>simp[cf]
   .simp[cf]
  cases d1 with
  |true=>
   obtain⟨m,rfl⟩:∃m,n=m+1:=⟨(be (i+1) ag r).length,by rw[Y];simp[be]⟩;have S:m=(be (i+1) ag r).length:=by simpa[be]using Y
   have C1:(if m=0 then S0 else cf C z)=cf C z:=by
    split
    .rename_i k0
     have:hE ag r=ag:=by
      cases r0:hE ag r;.rfl
      .have:=Bk r (i+1) ag r0;omega
     rw[g1];simp[hE,this]
    .rfl
   refine kC (Bq (p:=i) (y:=[92,c]) rfl rfl j1 a1 g2 (u1 p1) ?_ (tp t1 Q0).1 (by rw[T0];simp[cf]) (k2 m) l2 (λm1 r1 I1 b Z=>b2 (k1 M1 r1) I1 b (C1▸Z)) λm1 y1 r1 H0 T1=>?_);.run_tac av.aJ
   rw[C1]at H0;have t2:=d2 (k1 M1 r1) H0;refine kC (NA (x0:=[aa (.str t),aa (.int ((i+1-1:Nat):Int)),aa (.bool ag),aa (.str [c]),ab]) a1 T1 ?_ (u1 p1) λU0 A1 E1=>?_)
   .run_tac av.aJ
    exact⟨rfl,rfl⟩
   .exact zT rfl (f0 (i+1) ag _ y1 U0 m Y1 (tp t1 Q0).2 S (by omega) (λh=>nomatch h) (by omega) (by rw[g1];rfl) (k1 t2 E1) A1 p1 (r2 E1))
  |false=>
   have Z1:Et B w 0 eS afe [aa (.str t),aa (.int ((i+1-1:Nat):Int)),aa (.bool ag),aa (.str [c]),ab] [] ([c]==[92]) []:=by run_tac av.aJ
   refine kC (Dr (Z1 _ J [] _ _ _ a1 g2 λm1 B1 M0=>?_));have r1:=M0.nT (M:=[J.locals]) λb Z=>by rw[nE rfl]at Z;exact Z
   have I1:=M0.rel.bare rfl (u1 p1);have N1:=k1 M1 r1;have m2:=l2.trans r1 L1;by_cases G1:c=92
   .subst G1;rw[show([92]==[92]:Bool)=ae from rfl,if_pos rfl];have b1:be i ag (92::r)=be (i+1) ae r:=by simp[be]
    refine kC (NA (x0:=[aa (.str t),aa (.int ((i+1-1:Nat):Int)),aa (.bool ae),aa (.str [92]),ab]) a1 I1 ?_ (u1 p1) λU0 A1 E1=>?_)
    .run_tac av.aJ
     exact⟨rfl,rfl⟩
    .exact zT rfl (f0 (i+1) ae _ d U0 n Y1 (t1.trans b1) (Y.trans (congrArg _ b1)) Q0 (λ_=>by omega) (by omega) (by rw[g1];rfl) (k1 N1 E1) A1 p1 (m2.trans (r2 E1) λ_ h=>.inl h))
   .rw[show([c]==[92]:Bool)=ag by simp[G1],if_neg (by decide)];have b1:be i ag (c::r)=(i,[c])::be (i+1) ag r:=by simp[be,G1]
    have e2:(c==92)=ag:=by simp[G1]
    rw[b1]at t1 Y;obtain⟨m,rfl⟩:∃m,n=m+1:=⟨(be (i+1) ag r).length,by rw[Y];simp⟩;have S:m=(be (i+1) ag r).length:=by simpa using Y
    have C1:(if m=0 then S0 else cf C z)=cf C z:=by
     split
     .rename_i k0
      have:hE ag r=ag:=by
       cases r0:hE ag r;.rfl
       .have:=Bk r (i+1) ag r0;omega
      rw[g1];simp[hE,this,e2]
     .rfl
    refine kC (Bq (p:=i) (y:=[c]) rfl rfl j1 a1 I1 (u1 p1) ?_ (tp t1 Q0).1 (by rw[T0];simp[cf]) (k2 m) m2 (λm1 r1 T1 b Z=>b2 (k1 N1 r1) T1 b (C1▸Z)) λy1 U0 w2 H0 A1=>?_);.run_tac av.aJ
    rw[C1]at H0;have u2:=d2 (k1 N1 w2) H0;exact zT rfl (f0 (i+1) ag _ U0 U0 m Y1 (tp t1 Q0).2 S (by omega) (λh=>nomatch h) (by omega) (by rw[g1];simp[hE,e2]) u2 A1 p1 (.refl A1.gh))
end
section
variable{B:Bs}{w:aD}{d0 g0:#[n]}{A:aS}{J:aO}{t:Tx}{x:aq}{p0:gn}{z:ao}{m n:Nat}{R:uL}{Y:rR}{d s:au}{c:Code}{j0:List Frame}{h0:hW->dF kR}{H:ai->dF kR}{a:Bool->Bool}{g:#[L]->#[L]}{U x0:#[o]}
theorem Nz(j:Nat)(M:#[io,U,s.heap])(p:∀(E:#[C])(Q:#[C]),(∀u p0,VR [] u v->Q u #[fv])->ax #[aE] #[ix] (aW (.Constant C l q) J) Q E s)(f:#[av,eS.sc.names,(l0,.local)])(y:j<U.length)(t:tj (U.set j (aa v)))(e:jN (.Constant C l q) (aa (.Name l0 o)) i0.line J=aw ag)(k:∀L,#[io,U.set j (aa v),L.heap]->et B [J.locals] s.gens.size s L->#[jm,L.heap.objs.size]->#[nb,#[aE]]):#[jZ,#[aE],.Assign [.Name l0 o] (.Constant C l q) i0]:=by
 refine NC (zW (p _ _ λu p0 i=>?_) e);refine aG.Ny M f #[aU] y i λL P r=>#[aG,?_];have h:=P.nT λb Z=>by rw[nE rfl]at Z;exact Z
 exact k _ P.rel ⟨h.os,h.drawn,h.gens,h.size,h.keep,h.gh⟩ r
theorem aG.Yt{H:#[g]}(M:#[ah])(i:Nat)(a:#[a6,U,aa,v])(z:#[es,.local])(c:(l0=="__debug__")=ag):∃u,VR S u v/\∀(A:aS)(Q E:#[C]),Q u s->#[as,aW (.Name l0 p) J]:=by
 obtain⟨m,l,d⟩:=M.ns;obtain⟨f,G0,N,a0⟩:=d i v a;have R:=M.kindOf N;rw[z]at N;cases N;obtain⟨_,u,e,r⟩|⟨h,_⟩:=a0;.exact⟨u,r,λA Q E b=>hy (iu M.gV R l e b) c⟩
 grind
theorem Vy(F:#[w])(G:#[W])(h0:J=wD C f q e0)(c:Cx 1 A)(Y:#[fJ])(M:#[io,[#[K,t],ab,ab,ab,ab],s.heap]):∃z,#[R,z]/\#[mr,oO B #[aa,hE ag t,[C],cf C z],oP B (cf C z) #[aa,hE ag t,[C],cf C z] #[di,t],#[ds],#[aE].den (.func fK J)]:=by
 refine⟨s.heap.objs.size,aP _,seg_func ?_⟩;have N:J.locals=C:=by rw[h0];rfl
 have j0:Cx 0 (A.in1.over (.func fK J) []):=Ir c J fK;suffices h:∀H,#[mr,oO B #[aa,hE ag t,[C],cf C s.heap.objs.size],oP B (cf C s.heap.objs.size) #[aa,hE ag t,[C],cf C s.heap.objs.size] #[di,t],#[ds],(gp fK J).wrap BZ H id id]by exact tW (congrArg (λL=>#[mr,_,_,_,L]) (FU (gp fK J) id id (λf=>#[p]) #[an])) (h _)
 intro H;rw[Up];refine kC (Nz (v:=#[ay,0]) 1 M (λE Q O=>sg (O _ _ #[bu])) rfl #[z] ?_ rfl λk0 m0 b0 y=>?_);.intro j v d;match j with|0=>cases d;trivial|1=>cases d;trivial|2=>cases d|3=>cases d|4=>cases d|j+5=>cases d
 refine kC (Nz (v:=#[dv]) 2 m0 (λE Q O=>SQ (O _ _ rfl)) rfl #[z] ?_ rfl λm i0 a0 T=>?_);.intro j v d;match j with|0=>cases d;trivial|1=>cases d;trivial|2=>cases d;trivial|3=>cases d|4=>cases d|j+5=>cases d
 have l0:=b0.trans a0 (λb Z=>.inl Z);have o0:#[io,[#[K,t],#[v,0-1],aa (.bool ag),ab,ab],m.heap]:=i0;have r0:#[jm,m.heap.objs.size]:=T.trans y;refine kC (abj ?_ #[an]);have U:∀p,cN B w 0 eS #[aL,"enumerate",p] (.type "enumerate"):=λp=>by run_tac av.aJ
 refine ir (U _ _ J [] _ [] m _ _ j0 o0 ?_);rw[dt _ J rfl];obtain⟨u,g,n⟩:=o0.Yt (w:=w) (p:=⟨185,29,185,33⟩) 0 rfl rfl #[p];obtain⟨x,p0,rfl,a⟩:=g;refine rV (fZ J _) (eR (iJ (n _ _ _ (lW ?_))));refine call_enumerate_str λc0 S r I R=>wpAny_pyIter_enum S λp=>?_;have P:m.heap.objs.size<=c0.objs.size:=by omega
 have k:aB B eS J [] _ [] m [] {m with heap:=c0}:=aB.heap (t:=m.toks) o0 P R;have q0:=k.nT (M:=[J.locals]) λb Z=>by rw[nE rfl]at Z;exact Z
 have X:=l0.trans q0 (λb Z=>.inl Z);have f0:J.locals<s.heap.objs.size:=M.ju;rw[r0]at S r⊢;refine Vx (x:=x) (p0:=p0) (z:=s.heap.objs.size) F G h0 c a ?_ ?_ Y t 0 ag ab s _ _ rfl ?_ rfl #[aJ] (#[fL]) #[aC] rfl ⟨#[bM,S],r⟩ k.rel (λv h=>nomatch h) ?_;.rw[<-N];exact⟨cB f0,cB (kL f0)⟩
 .intro b Z;simp only[cf,bg,gL,or_false]at Z;have i:=M.gh.1;rcases Z with rfl|rfl|rfl;.rw[<-N];exact M.ic
  .exact i
  .exact eO i
 .rw[kN];rfl
 .exact⟨X.os,X.drawn,X.gens,X.size,λb o e Z n0=>X.keep b o e (λl=>Z (by rw[aZ.mp l,N];simp[cf])) n0,X.gh⟩
end
def hF(t:Tx)(C z:ao):#[t]:=if hE ag t then[C]else cf C z
def Ef(B:Bs)(w:aD)(A:aS)(t:Tx)(C I:ao)(g G:Nat)(k:Nat)(S:#[t])(M:#[t])(s:au):Prop:=∃q c,s.gens[g]?=aa q/\G<=g/\M=I::c/\s.heap.IsGen I g/\(#[dr,(∃o,#[eE])/\(b∈c->¬bu s.heap b)/\#[aK,b]])/\C∈c/\I∉c/\((k=0/\c=[C]/\∀f,lI B c s f->∃z,f.heap.objs.size<=z/\#[lA,q.Goes,#[ds],f])\/(∃z,c=#[aa,#[ds]-k=0,hF t C z,cf C z]/\∀f,lI B c s f->#[lA,q.Goes,#[ds]-k,f]))
def iS(t:Tx):List (V×V):=#[di,t].map λq=>(#[dD,q.1],V.str q.2)
theorem IW(h:b∈hF t C z):b∈cf C z:=by
 unfold hF at h;split at h;.rw[aZ.mp h];simp[cf]
 .exact h
section
variable{B:Bs}{w:aD}{d0 g0:#[n]}{A:aS}{t:Tx}{C I:ao}{g G m n L:Nat}
theorem tE{s:au}(h:i≠g):(s.setGen g x).gens[i]?=s.gens[i]?:=by show(s.gens.setIfInBounds g x)[i]?=_;rw[Array.getElem?_setIfInBounds_ne (kO h)]
theorem Dp{s:au}(h:s.gens[g]?=aa y):(s.setGen g x).gens[g]?=aa x:=by show(s.gens.setIfInBounds g x)[g]?=_;rw[Array.getElem?_setIfInBounds_self_of_lt (rr.mp h).1]
theorem vJ{s:au}(h:rM s.gens)(a:x.bare=ae):rM (s.setGen g x).gens:=λy m=>by
 obtain⟨i,P⟩:=Array.mem_iff_getElem?.mp m;by_cases e:i=g
 .subst e
  obtain⟨z,r⟩:∃z,#[G,s.gens,z]:=by
   obtain h|h:=gk i _;.exact#[bM,rq h]
   .rw[yi (by show(s.gens.setIfInBounds i x).size<=i;simpa using h)]at P;cases P
  rw[Dp r]at P;grind
 .rw[tE e]at P;exact h y (Array.mem_of_getElem? P)
theorem Yy{A:aS}{E:#[C]}{s:au}{a:ao}{g n:Nat}{q:fw}{P:Nat->#[aI,au]}{Y:rR}{Q:#[aI,#[bT]]}(M:#[g5])(y:s.heap.NoLimit)(u:A.depth<zS)(U:s.heap.IsGen a g)(t:s.gens[g]?=aa q)(H:∀(v:ai)(j:au)(l:fw),l.bare=ae->Y (n-1) #[gj] v j (λe i=>match n with|0=>False|m+1=>l.Goes #[aE] A.in1 (λn d r j=>r=.ok (.ret .none)/\P n d j) Y m e i)->Q (aa v) (j.setGen g l))(f:∀j,P n #[gj] j->∀c0,(#[id,j.heap.get?])->Q ab {j.setGen g .finished with heap:=c0})(N:q.Goes #[aE] A.in1 (λn d r j=>r=.ok (.ret .none)/\P n d j) Y n (.send .none) #[gj]):#[gh,a]:=by unfold kl;refine af (iM (mi (name:=ak "__next__") U.typeIs slot_gen_next (iN slot_gen_next U.typeIs entry_gen_next ?_ (args_gen_next _))));show ax _ A.in1 #[b3,QY,a,.send .none] _ _ s;unfold QY;refine#[b9,wpAny_genNumber U (af (wpAny_genState t ?_))];have B:∀j,P n #[gj] j->∀c0,(#[id,j.heap.get?])->Q ab {j.setGen g .finished with heap:=c0}:=f;have F:∀{S:Type}{k:GenResult->dF S}{J:#[aI,S]}{X:#[C]},(q=.running\/q=.finished->False)->(∀j,P n #[gj] j->ax #[aE] A.in1 (k (End.ret (.ok (.ret .none))).result) J X (j.setGen g .finished))->(∀(v:ai)(j:au)(l:fw),l.bare=ae->Q (aa v) (j.setGen g l)->ax #[aE] A.in1 (k (.yielded v)) J X (j.setGen g l))->ax #[aE] A.in1 (.resume g (.send .none) [] k) J X s:=λ_ c a0=>wpAny_resumeQ t N (λx j z=>by obtain⟨rfl,C⟩:=z;exact c j C) λv j l Z p=>a0 v j l Z (H v j l Z p);cases q with|running=>exact N.elim|finished=>exact N.elim|_=>refine#[bF,wpAny_roomToWake,y,u];refine F (λh=>h.elim nofun nofun) (λj C=>?_) λv j l _ p=>aA #[dy,v,aA p];show ax _ A.in1 (newExc (.type "StopIteration") []>>=_) _ _ _;refine af ?_;simp only[newExc,newTuple];refine af (jO ?_ (by size_fits));refine#[m4];refine jO ?_ (by size_fits);simp only[raiseNew];refine#[bW,GF ?_];rw[show A.in1.handled=ab from M];refine GQ ?_;refine af (ml (T:="StopIteration") (b:=ae) #[P,#[aW]] zO ?_);exact aA (B j C _ λb o Z=>bN _ (bN _ Z))
theorem mP.wj(F:#[w])(q:#[eP])(G:Nat):mP B w (n+1) A (iS t) I G L #[fO] (λk S M s=>Ef B w A t C I g G k S M s)where
 next:=λk x M O J S U st s Q E q1 L0 i0 R a O0 q0 l w1 J0=>by
  obtain⟨M0,d1,f,a0,H,r0,C0,Q0,S0,f1⟩:=O0;have u:k<#[ds]:=by have:=#[V,a];simpa[iS]using this
  have m1:lI B d1 s #[gj]:=⟨λ_ _ _ e=>e,aP _,l.gh⟩
  obtain⟨z,s0,N,r1⟩:∃z,(∀b∈cf C z,b∈d1\/#[R,b])/\#[lA,M0.Goes,#[ds]-k,#[gj]]/\I∉cf C z:=by
   have t1:I<s.heap.objs.size:=by obtain⟨⟨o,r⟩,_⟩:=C0 I (by rw[H];exact .head _);exact bk r
   rcases f1 with⟨rfl,rfl,H0⟩|⟨z,e0,p0⟩
   .obtain⟨z,X0,Y0⟩:=H0 _ m1;have h1:#[R,z]:=X0;refine⟨z,λb Z=>?_,Y0,λb0=>?_⟩
    .simp only[cf,bg,gL,or_false]at Z;rcases Z with rfl|rfl|rfl;.exact .inl (.head _)
     .exact .inr h1
     .exact .inr (eO h1)
    .simp only[cf,bg,gL,or_false]at b0;rcases b0 with rfl|rfl|rfl;.exact S0 (.head _)
     .exact#[bC,t1,h1]
     .exact#[ac,t1,bP.mpr (eO h1)]
   .rw[#[fj]]at e0;subst e0;exact⟨z,λb Z=>.inl Z,p0 _ m1,S0⟩
  have o1:A.depth<zS:=by have:=q.depth;omega
  refine Yy (N:=N) (P:=λn d s=>n=0/\#[ls,hF t C z]) q.handled (F.nl l.gh) o1 r0 f (λv k0 g1 l1 Y=>?_) (λk0 h0=>?_)
  .obtain⟨⟨p,y,T,X0,Y0,E0,r,rfl,G0,b1,c1⟩,Z0,n1,k1⟩:=Y;have j1:#[aq,I]:=#[hx,F.slt.tab,I,(C0 I (by rw[H];exact .head _)).2.2];obtain⟨o,l0,U0,w0,A0,I0,R0⟩:=r0;have i1:k0.heap.get? I=aa o:=Z0.keep I o w0 r1 j1;refine w1 _ _ ?_;unfold Gq;refine#[bd,lh,show(k0.setGen g g1).heap.get? I=aa o from i1];rw[A0,I0];refine aA ?_;have e0:#[ds]-1-(#[ds]-k-1)=k:=by omega
   rw[e0]at r;have x1:x=(#[dD,p],V.str y):=by rw[iS,cg,r]at a;cases a;rfl
   subst x1;have u1:g<s.gens.size:=(rr.mp f).1
   have p1:∀b∈#[aa,#[ds]-#[u]=0,hF t C z,cf C z],b∈cf C z:=λb Z=>by
    split at Z;.exact IW Z
    .exact Z
   have e1:#[ds]-k-1=#[ds]-#[u]:=by omega
   rw[e1]at n1 k1;refine J0 T X0 Y0 E0 (k0.setGen g g1) (I::#[aa,#[ds]-#[u]=0,hF t C z,cf C z]) G0 (b1.nil _) (c1.nil _) ⟨g1,_,?_,a0,rfl,⟨o,l0,U0,i1,A0,I0,R0⟩,?_,?_,?_,.inr #[dy,z,λT0 X=>?_]⟩ ⟨Z0.os,Z0.drawn,⟨?_,λh=>vJ (Z0.gens.2 (vJ h rfl)) l1⟩,Z0.size,?_,Z0.gh⟩ ?_;.have:=Z0.gens.1 g .running (by show g<(s.gens.setIfInBounds g .running).size;simpa using u1) (Dp f);exact Dp this
   .intro b Z;rcases bg.mp Z with rfl|Z;.exact⟨⟨o,i1⟩,λb0=>absurd (p1 b b0) r1,(C0 _ (by rw[H];exact .head _)).2.2⟩
    .refine#[bN,(n1 b Z).1,λ_=>(n1 b Z).2];rcases s0 b (p1 b Z)with h|h;.exact(C0 b (by rw[H];exact .tail _ h)).2.2
     .exact aI l.gh.1 h
   .split;.unfold hF;split<;>simp[cf]
    .simp[cf]
   .exactλb0=>r1 (p1 I b0)
   .have:=k1 T0 ⟨X.keep,X.size,X.gh⟩;obtain⟨m,b0⟩:∃m,#[ds]-k=m+1:=⟨#[ds]-#[u],by omega⟩;have s1:#[ds]-#[u]=m:=by omega
    rw[b0]at this;rw[s1];exact this
   .intro i y P e;have y0:i≠g:=by omega
    rw[tE y0];refine Z0.gens.1 i y (by show i<(s.gens.setIfInBounds g .running).size;simp;omega) ?_;rw[tE y0];exact e
   .intro b N0 e Z n0;refine Z0.keep b N0 e (λb0=>?_) n0;rcases s0 b b0 with h|h;.exact Z (by rw[H];exact h)
    .exact absurd (bk e) (bP.mpr h)
   .intro b Z;rcases bg.mp Z with rfl|Z;.exact .inl (by rw[H];exact .head _)
    .exact(s0 b (p1 b Z)).imp (λh=>by rw[H];exact .tail _ h) id
  .exact#[ac,h0.1,#[f]]
 done:=λM O J S U st s Q E O0 q0 l J0=>by
  obtain⟨M0,d1,f,a0,H,r0,C0,Q0,S0,f1⟩:=O0;have x0:#[s,iS,t]=#[ds]:=by simp[iS]
  rw[x0]at f1;have m1:lI B d1 s #[gj]:=⟨λ_ _ _ e=>e,aP _,l.gh⟩
  obtain⟨z,s0,N⟩:∃z,(∀b∈hF t C z,b∈d1\/#[R,b])/\#[lA,M0.Goes,0,#[gj]]:=by
   rcases f1 with⟨a1,rfl,H0⟩|⟨z,e0,p0⟩
   .obtain⟨z,X0,Y0⟩:=H0 _ m1;rw[a1]at Y0;have h1:#[R,z]:=X0;refine⟨z,λb Z=>?_,Y0⟩;have Z:=IW Z;simp only[cf,bg,gL,or_false]at Z;rcases Z with rfl|rfl|rfl;.exact .inl (.head _)
    .exact .inr h1
    .exact .inr (eO h1)
   .rw[kN,#[cw]]at e0;subst e0;rw[kN]at p0;exact⟨z,λb Z=>.inl Z,p0 _ m1⟩
  have o1:A.depth<zS:=by have:=q.depth;omega
  refine fb (wpAny_pyNext_gen (P:=λn d s=>n=0/\#[ls,hF t C z]) q.handled (F.nl l.gh) o1 r0 f N (λv k0 g1 Y=>?_) (λk0 h0 c0 u u0=>?_));.obtain⟨_,Z0,_,k1⟩:=Y;exact(k1 k0 ⟨λ_ _ _ e=>e,aP _,Z0.gh⟩).elim
  .obtain⟨_,Z0⟩:=h0;have u1:g<s.gens.size:=(rr.mp f).1;refine J0 _ ⟨Z0.os,Z0.drawn,⟨λi y P e=>?_,λh=>vJ (Z0.gens.2 (vJ h rfl)) rfl⟩,u0,λb N0 e Z n0=>u b N0 (Z0.keep b N0 e (λb0=>?_) n0),⟨aI l.gh.1 u0,λb o e n0=>u b o (Z0.gh.2.1 b o e n0),Z0.gh.2.2.1.keep [] (#[dN,u]) #[aO],aI l.gh.2.2.2 u0⟩⟩
   .have y0:i≠g:=by omega
    show#[G,(k0.setGen g .finished).gens,y];rw[tE y0];refine Z0.gens.1 i y (by show i<(s.gens.setIfInBounds g .running).size;simp;omega) ?_;rw[tE y0];exact e
   .rcases s0 b b0 with h|h;.exact Z (by rw[H];exact h)
    .exact absurd (bk e) (bP.mpr h)
 mono:=λk S j0 M s j⟨M0,d1,f,a0,H,⟨o,l0,U0,w0,A0,I0,R0⟩,C0,Q0,S0,f1⟩h0 u F0 f0 v0=>by
  have v1:∀T0,lI B d1 j T0->lI B d1 s T0:=λT0 c=>⟨λb Z o e=>c.keep b Z o (u b (by rw[H];exact .tail _ Z) o e),aI f0 c.size,c.gh⟩;refine⟨M0,d1,F0.1 _ _ f,a0,H,⟨o,l0,U0,u I (by rw[H];exact .head _) o w0,A0,I0,R0⟩,λb Z=>?_,Q0,S0,?_⟩;.obtain⟨⟨o,r⟩,o0,t0⟩:=C0 b Z;exact⟨⟨o,u b Z o r⟩,λb0⟨m0,e0,p0⟩=>o0 b0 #[aY,r,by rw[u b Z o r]at e0;cases e0;exact p0],t0⟩
  .rcases f1 with⟨e0,p0,H0⟩|⟨z,e0,p0⟩;.exact .inl ⟨e0,p0,λT0 c=>H0 T0 (v1 T0 c)⟩
   .exact .inr ⟨z,e0,λT0 c=>p0 T0 (v1 T0 c)⟩
 live:=λk S M s⟨M0,d1,f,a0,H,r0,C0,Q0⟩b Z=>(C0 b Z).1
 hH:=λk S M s⟨M0,d1,f,a0,H,r0,C0,Q0⟩b Z=>by rw[H]at Z;exact .inl ((C0 b (by rw[H];exact .tail _ Z)).2.1 Z)
end
theorem kI.size(h:kI a b):a.size<=b.size:=by
 obtain q|q:=gk b.size _;.have e:=h.1 _ _ (rq q);simp_all
 .exact q
section
variable{B:Bs}{w:aD}{d0 g0:#[n]}{n:Nat}{O:Gm}{U:#[o]}{H b0:#[l]}{t:Tx}
theorem ru.wj(F:#[w])(G:#[W]){p i0:ba}{e:aT}(s0:bb B 246 jZ 1 fK)(j0:#[mX,O])(L:#[ee])(I:#[i9,e,#[bm],b0])(r0:#[fJ]){X:List (V×V)}(d:iS t=X):ru B w (n+1) O #[cU,#[aL,"_iter_escaped_chars",p],[e]] U H X #[fO] b0:=λA J S s Q E g f q=>by subst d;refine ir (j0 A J S U H s _ E g f ?_);rw[dt i0 J L];obtain⟨f0,o,j,Y0,x0,X0,T0,a1,J0,⟨c,O0,Y,F0,l,L0,H0,R0,w0⟩,N0,G0⟩:=s0.ex;refine AN (fZ J _) (eR ((cy.cons I .nil) A J S s _ E g f λT k0 q0 C h0=>?_));have M0:=#[aZ,C.rel.gh,j,s0.out];refine#[a3,⟨o,f0,M0,Y0⟩];cases h0 with
|cons h0 t0=>
 cases t0;obtain⟨x,p0,rfl,d⟩:=h0;refine gr (codeAny_call_generator (o:=o) (fd:=f0) (body:=fK) (by have:=g.depth;omega) M0 Y0 (by rw[x0];rfl) (by rw[x0];rfl) X0 ⟨c,O0,Y,F0,l,C.rel.gh.2.1 c O0 H0 L0,R0,w0⟩ ?_);rw[G0 [.str x p0] rfl];refine aA ?_;refine GJ ?_ ?_ (λc0 y0 Q0=>?_) (by rw[x0];rfl);.rw[x0];decide+kernel
 .rw[x0];intro y m;have:y=(ak "addr",.str x p0):=by have:jZ.names.map (·.1)=[ak "addr",ak "pos",ak "escape",ak "ch",ak "enumerate"]:=rfl;rw[this]at m;simpa using m
  subst this;exact(#[p]:jZ.names.lookup (ak "addr")=aa .local)
 have o0:c0.objs.size=k0.heap.objs.size+1:=by rw[Q0.1,da]
 have u0:#[id,k0.heap.get?]:=λb o e=>Q0.extBut b o (cB (bk e)) (bN _ e);have E0:GH B c0:=C.rel.gh.grow #[f] u0;refine#[a3,F.nl E0];have S0:k0.heap.objs.size<c0.objs.size:=by omega
 refine wpAny_pyIter_gen (g:=k0.gens.size) ⟨_,_,_,#[aW],rfl,rfl,rfl⟩ ?_;have C0:∀(v0:cp)b o,k0.heap.get? b=aa o->(c0.push v0).get? b=aa o:=λv0 b o e=>bN _ (u0 b o e);refine q c0.objs.size [c0.objs.size,k0.heap.objs.size] (λk S M c1=>Ef B w A t k0.heap.objs.size c0.objs.size k0.gens.size s.gens.size k S M c1) _ q0 ?_ ?_ ?_ ?_
 .refine⟨C.pre,C.new,C.rel.keep ?_ [] (λb o e _ _=>C0 _ b o e) (#[ck]) (C.rel.gh.grow ?_ (C0 _)),⟨C.fx.os,C.fx.drawn,⟨λi y e=>?_,λh=>(C.fx.gens.2 h).push rfl⟩,?_,λb o e Z n0=>C0 _ b o (C.fx.keep b o e Z n0)⟩⟩;.show k0.heap.objs.size<=(c0.push _).objs.size;rw[da];omega
  .show k0.heap.objs.size<=(c0.push _).objs.size;rw[da];omega
  .have u:=C.fx.gens.1 i y e;have P:i<k0.gens.size:=(rr.mp u).1;show#[G,(k0.gens.push _),y];rw[Array.getElem?_push_lt P];rw[<-u];exact(rq P).symm
  .show#[R,(c0.push _).objs.size];have:=C.fx.size;rw[da];omega
 .exact mP.wj F g s.gens.size
 .refine⟨_,[k0.heap.objs.size],Array.getElem?_push_size ..,C.fx.gens.size,rfl,⟨_,_,_,#[aW],rfl,rfl,rfl⟩,λb Z=>?_,.head _,λr=>?_,.inl #[dy,rfl,λA0 l=>?_]⟩
  .have l0:=C.rel.gh.1;rcases bg.mp Z with rfl|Z;.refine⟨#[bM,#[aW]],λr=>?_,by rw[o0];exact eO l0⟩;have:=aZ.mp r;exact absurd this (hu S0)
   .rw[aZ.mp Z];have Z0:(c0.push {cls:=.type "generator",data:=.fields #[.int k0.gens.size 0,.str f0.name (k0.toks+((jZ.names.map (·.1)).zip [rT x p0]).length),.str f0.qualname (k0.toks+((jZ.names.map (·.1)).zip [rT x p0]).length+1)]}).Ns k0.heap.objs.size _:=y0.push _;obtain⟨m0,_,_,I0,_⟩:=id Z0;exact⟨⟨m0,I0⟩,λ_=>jX Z0,l0⟩
  .exact absurd (aZ.mp r) (hu S0)
  .have U0:newEnv f0.scope k0.heap.objs.size f0.globals f0.closure #[nT] (aa 246) f0.code ab f0.builtins=wD k0.heap.objs.size 246 #[nT] f0.code:=by rw[x0,T0,a1,J0];rfl
   have Z0:=l.keep k0.heap.objs.size #[bL]
   have b1:aG B eS (wD k0.heap.objs.size 246 #[nT] f0.code) [] [#[K,t],ab,ab,ab,ab] [] A0.heap:=by
    refine{scope:=rfl,kind:=rfl,kb:=?_,nd:=by decide+kernel,glob:=rfl,fh:=rfl,gh:=l.gh,slt:=F.slt,ns:=#[aw,(y0.push _).at' λo j=>Z0 o j,λi v P=>?_],lu:=?_,len:=rfl,cY:=aP _,store:=?_,code:=?_,nodup:=.nil,high:=?_,dZ:=?_,ic:=C.rel.gh.1,cw:=?_,kr:=.nil};.intro _ h;cases h
    .match i with|0=>cases P;exact⟨ak "addr",.local,rfl,.inl ⟨rfl,.str x p0,rfl,x,p0,rfl,d⟩⟩|1=>cases P|2=>cases P|3=>cases P|4=>cases P|i+5=>cases P
    .intro _ h;cases h
    .intro i a e0 h;simp at h
    .intro i a R h;simp at h
    .intro a h;cases h
    .intro h;cases h
    .intro q h;cases h
   obtain⟨z,N,a0⟩:=Vy (w:=w) F G rfl ((#[D,g.le]:Cx 1 A)) r0 b1;refine#[bN,z,N];rw[U0];exact#[aG,a0]
 .intro b Z;have:=C.fx.size;rcases bg.mp Z with rfl|Z;.exact⟨aI this (eh S0),λr=>#[ac,C.rel.fX _ r,bP.mpr (eh S0)]⟩
  .rw[aZ.mp Z];exact⟨C.fx.size,λr=>#[kj,r]⟩
end
noncomputable def vD:#[y]:=by run_tac av.de ["_strip_quoted_realnames"]
noncomputable def qT:bt:=by run_tac av.df ["_strip_quoted_realnames"]
noncomputable def vy:#[y]:=by run_tac av.de ["_check_parenthesis"]
noncomputable def qQ:bt:=by run_tac av.df ["_check_parenthesis"]
theorem YW:iA qT 1=ae:=#[p]
theorem YP:iA qQ 1=ae:=#[p]
def fi:List (Nat×Tx)->Int->Bool|[],o=>o==#[bh]|q::r,o=>#[cb,q.2,[40],fi r (o+#[bt]),#[cb,q.2,[41],#[aa,o-#[bt]<#[bh],ag,fi r (o-#[bt])],fi r o]]
theorem Ic:fi (q::r) o=#[cb,q.2,[40],fi r (o+#[bg]),#[cb,q.2,[41],#[aa,o-#[bg]<(0:Nat),ag,fi r (o-#[bg])],fi r o]]:=rfl
structure lp where
 start:Nat
 hJ:#[a2,Nat]
 res:#[bB]
def eZ(a:Tx)(s:lp)(q:Nat×Tx):lp:=#[cb,q.2,[34],match s.hJ with|ab=>{s with hJ:=aa q.1}|aa p=>{start:=q.1+1,hJ:=ab,res:=if s.start !=p then s.res++[cJ a (aa (s.start:Int)) (aa (p:Int))]else s.res},s]
def hh(a:Tx)(s:lp):Tx:=bj [] #[aa,s.start<a.length,s.res++[cJ a (aa (s.start:Int)) ab],s.res]
def dK(a:Tx):Tx:=if 34∈a then hh a (#[di,a].foldl (eZ a) ⟨0,ab,[]⟩)else a
def xo:#[a2,Nat]->V|ab=>.none|aa p=>#[ay,p]
theorem IV{k:Nat}(h:(iS t)[k]?=aa x):∃p y,#[di,t][k]?=aa (p,y)/\x=(.int p,.str y):=by unfold iS at h;rw[cg]at h;obtain⟨q,N,rfl⟩:=dW.mp h;exact#[Q,_,N,rfl]
theorem Vk{S:Type}{l:#[g]}{a:S}(h:l[k]?=aa a):l.drop k=a::l.drop (k+1):=by obtain⟨N,a0⟩:=bw.mp h;rw[<-a0];exact og _
section
variable{B:Bs}{w:aD}{d0 g0:#[n]}
theorem Ib(F:#[w])(G:#[W])(u:bb B 260 qQ 1 vy)(c:bb B 246 jZ 1 fK)(a:Tx)(n:Nat)(b:a.length<=aC)(H:#[ba,dK,a])(N:#[l8,253,#[c0,dK,a]]):Fn B w (n+2) 260 #[hc,a] (.atom (.bool (fi #[hT] #[bh]))):=by
 refine#[fq,YP];run_tac av.aJ
 have h:∀p,#[mX,eG qQ 0]:=λp=>by run_tac av.aJ
 generalize j:fi #[hT] #[bh]=R at*;refine aj.JQ (i:=2) (j:=3) (X:=iS (dK a)) (C:=λ_=>True) (b0:=[]) (c:=λk v s=>∃x y o,v=[#[K,dK a],#[ct,o],x,y,ab,ab]/\s=[]/\fi (#[hT].drop k) o=R) (ru.wj F G c (h _) rfl (by run_tac av.aJ) H rfl) rfl #[aU] rfl #[aU] ⟨ab,ab,_,rfl,rfl,j⟩ ?_ ?_ ?_ #[am];.rintro k v s⟨x,y,o,rfl,rfl,_⟩;exact⟨trivial,bx rfl,bx rfl⟩
 .rintro k z v s r⟨x,y,o,rfl,rfl,X⟩_ _ _;obtain⟨p,E,U,rfl⟩:=IV r;rw[Vk U]at X;rw[Ic]at X;dsimp only at X⊢;cases L:(E==[40])with
 |true=>
  rw[L,#[cw]]at X;run_tac av.aJ
  exact .inl ⟨_,_,_,rfl,rfl,X⟩
 |false=>rw[L,#[eW]]at X;cases d:(E==[41])with
 |true=>
  rw[d,#[cw]]at X;by_cases C:o-#[bt]<#[bh];.rw[if_pos C]at X;have j0:#[aB,o-#[bt]<#[bh]]=ae:=decide_eq_true C;rw[<-X];run_tac av.aJ
  .rw[if_neg C]at X;have j0:#[aB,o-#[bt]<#[bh]]=ag:=decide_eq_false C;run_tac av.aJ
   exact .inl ⟨_,_,_,rfl,rfl,X⟩
 |false=>
  rw[d,#[eW]]at X;run_tac av.aJ
  exact .inl ⟨_,_,_,rfl,rfl,X⟩
 .rintro v s⟨x,y,o,rfl,rfl,X⟩;have:#[hU,(iS (dK a)),#[hT]]:=by simp[iS]
  rw[this,rB]at X;rw[<-X];run_tac av.aJ
theorem sQ:∀(r:Tx)(i:Nat)(e:Bool),#[aX,(be i e r),r.length+#[aa,e,1,0]]
 |[],i,e=>by cases e<;>simp[be]
 |c::r,i,ae=>by have:=sQ r (i+1) ag;simp only[be,cq,if_true]at*;simp at this;omega
 |c::r,i,ag=>by
  unfold be;split;.have:=sQ r (i+1) ae;simp at this⊢;omega
  .have:=sQ r (i+1) ag;simp_all
theorem tN{S:Type}{l:#[g]}{a:S}(h:l[k]?=aa a):l.take (k+1)=l.take k++[a]:=by rw[rH,h];rfl
theorem ri{l:#[bB]}(h:∀x∈l,x.length<=m):(l.map hq).sum<=l.length*m:=by induction l with|nil=>simp|cons x l Q=>have N:=h x fU;have a0:=Q λy a=>h y (dO _ a);simp only[dk,Qr,cq,lR];omega
theorem Oh(l:#[g])(t:Tx):ah l++[V.str t]=ah (l++[t]):=by simp[ah]
theorem DK(F:#[w])(G:#[W])(u:bb B 253 qT 1 vD)(o:bb B 246 jZ 1 fK)(a:Tx)(n:Nat)(P:a.length<=4000):Fn B w (n+2) 253 #[hc,a] (.atom #[c0,dK,a]):=by
 have b:a.length<=aC:=#[bG,P];refine#[fq,YW];by_cases Q:34∈a
 .have j0:(!#[aB,34∈a])=ag:=by simp[Q]
  have i:dK a=hh a (#[di,a].foldl (eZ a) ⟨0,ab,[]⟩):=by rw[dK,if_pos Q]
  rw[i];run_tac av.aJ
  have d:∀p,#[mX,eG qT 0]:=λp=>by run_tac av.aJ
  refine aj.JQ (i:=4) (j:=5) (X:=iS a) (C:=λ_=>True) (b0:=[.list []]) (c:=λk v s=>∃x y f,v=[#[K,a],#[v,f.start],aa (xo f.hJ),#[bi],x,y,ab,ab]/\s=[#[T,f.res]]/\f=(#[di,a].take k).foldl (eZ a) ⟨0,ab,[]⟩/\f.res.length<=k/\∀z∈f.res,z.length<=a.length) (ru.wj F G o (d _) rfl (by run_tac av.aJ) b rfl) rfl #[aU] rfl #[aU] ⟨ab,ab,⟨0,ab,[]⟩,rfl,rfl,rfl,aP _,#[ck]⟩ ?_ ?_ ?_ #[am];.rintro k v s⟨x,y,f,rfl,rfl,_⟩;exact⟨trivial,bx rfl,bx rfl⟩
  .rintro k z v s r⟨x,y,f,rfl,rfl,R,t,A⟩_ _ _;obtain⟨p,E,U,rfl⟩:=IV r;have j:k<#[di,a].length:=#[V,U];have S:=sQ a 0 ag;have c0:#[ba,ah,f.res]:=by simp only[ah,aQ];simp at S;exact#[bG,(by omega:f.res.length<=4000)]
   have L:∀g,g=eZ a f (p,E)->g=(#[di,a].take #[u]).foldl (eZ a) ⟨0,ab,[]⟩:=λg h=>by rw[tN U,mV,<-R,h];rfl
   dsimp only
   cases O:(E==[34])with
   |false=>
    run_tac av.aJ
    exact .inl ⟨_,_,f,rfl,rfl,L _ (by simp only[eZ,O];rfl),by omega,A⟩
   |true=>obtain⟨H,I,X⟩:=f;cases I with
   |none=>
    have e:Mine.ls (xo (lp.mk H ab X).hJ)=ae:=rfl;run_tac av.aJ
    exact .inl ⟨_,_,⟨H,aa p,X⟩,rfl,rfl,L _ (by simp only[eZ,O];rfl),eO t,A⟩
   |some q=>have e:Mine.ls (xo (lp.mk H (aa q) X).hJ)=ag:=rfl;dsimp only[xo]at*;cases c:(H !=q)with
   |false=>
    run_tac av.aJ
    exact .inl ⟨_,_,⟨p+1,ab,X⟩,rfl,rfl,L _ (by simp only[eZ,O,c];rfl),eO t,A⟩
   |true=>
    run_tac av.aJ
    refine .inl ⟨_,_,⟨p+1,ab,X++[cJ a (aa (H:Int)) (aa (q:Int))]⟩,rfl,by rw[Oh],L _ (by simp only[eZ,O,c];rfl),by simp;omega,λy m=>?_⟩;rcases cZ.mp m with h|h;.exact A y h
    .rw[aZ.mp h];exact Dy _ _ _
  .rintro v s⟨x,y,f,rfl,rfl,R,t,A⟩;have Y:#[s,iS,a]=#[di,a].length:=by simp[iS]
   rw[Y]at R t;rw[hs]at R;rw[<-R];have S:=sQ a 0 ag;simp at S;have b0:f.res.length<=4000:=by omega
   have c0:#[ba,ah,f.res]:=by simp only[ah,aQ];exact#[bG,b0]
   have Z:∀l:#[bB],l.length<=4001->(∀z∈l,z.length<=a.length)->#[hD,l.map,l.length,[]]:=λl N a0=>by have:=ri a0;have T:l.length*a.length<=4001*4000:=nc N P;show _<=2^24;simp;omega
   by_cases J:f.start<a.length
   .have e:#[aB,f.start<a.length]=ae:=decide_eq_true J;have e0:=Oh f.res (cJ a (aa (f.start:Int)) ab)
    have C:=Z (f.res++[cJ a (aa (f.start:Int)) ab]) (by simp;omega) λy m=>by
     rcases cZ.mp m with h|h;.exact A y h
     .rw[aZ.mp h];exact Dy _ _ _
    have M:hh a f=bj [] (f.res++[cJ a (aa (f.start:Int)) ab]):=by rw[hh,if_pos J]
    rw[M];run_tac av.aJ
   .have e:#[aB,f.start<a.length]=ag:=decide_eq_false J;have C:=Z f.res #[f] A;have M:hh a f=bj [] f.res:=by rw[hh,if_neg J]
    rw[M];run_tac av.aJ
 .have j0:(!#[aB,34∈a])=ae:=by simp[Q]
  have i:dK a=a:=by rw[dK,if_neg Q]
  rw[i];run_tac av.aJ
end
def eX(l:#[i]):Nat:=l.foldl min (l.headD 0)
def eW(l:#[i]):Nat:=l.foldl max (l.headD 0)
def nG(c:Nat):#[i]->#[i]|[]=>[c]|d::r=>if c<=d then c::d::r else d::nG c r
def lF:#[i]->#[i]|[]=>[]|c::r=>nG c (lF r)
theorem BP(c:Nat):∀l,(nG c l).Perm (c::l)
 |[]=>.refl _
 |d::r=>by
  unfold nG;split;.exact .refl _
  .exact((BP c r).cons d).trans (.swap c d r)
theorem tJ:∀l,(lF l).Perm l|[]=>.refl _|c::r=>(BP c _).trans ((tJ r).cons c)
theorem Kl(c:Nat):#[eB,l.Pairwise (·<=·)->(nG c l).Pairwise (·<=·)]
 |[],_=>by simp[nG]
 |d::r,h=>by
  rw[yM]at h;unfold nG;split
  .rename_i X;refine yM.mpr ⟨λx z=>?_,yM.mpr h⟩;obtain rfl|z:=bg.mp z;.exact X
   .exact aI X (h.1 x z)
  .refine yM.mpr ⟨λx z=>?_,Kl c r h.2⟩;obtain rfl|z:=bg.mp ((BP c r).mem_iff.mp z);.omega
   .exact h.1 x z
theorem NS:∀l,(lF l).Pairwise (·<=·)|[]=>.nil|c::r=>Kl c _ (NS r)
theorem NR(l:#[g]):#[s,lF,l]=l.length:=(tJ l).length_eq
theorem tI:x∈lF l↔x∈l:=(tJ l).mem_iff
theorem JN:#[f6,l.foldl min a<=a/\∀x∈l,l.foldl min a<=x]
 |[],a=>⟨aP _,#[ck]⟩
 |b::l,a=>by
  obtain⟨N,a0⟩:=JN l _;refine⟨aI N (Nat.min_le_left _ _),λx z=>?_⟩;obtain rfl|z:=bg.mp z;.exact aI N (Nat.min_le_right _ _)
  .exact a0 x z
theorem JL:#[f6,a<=l.foldl max a/\∀x∈l,x<=l.foldl max a]
 |[],a=>⟨aP _,#[ck]⟩
 |b::l,a=>by
  obtain⟨N,a0⟩:=JL l _;refine⟨aI (QD _ _) N,λx z=>?_⟩;obtain rfl|z:=bg.mp z;.exact aI (QE _ _) N
  .exact a0 x z
theorem JO:#[f6,l.foldl min a=a\/l.foldl min a∈l]
 |[],a=>#[dq]
 |b::l,a=>by
  obtain h|h:=JO l (min a b)
  .obtain S|S:=lQ a b;.rw[kM S]at h;exact .inl (by rw[ee,kM S];exact h)
   .rw[uy S]at h;exact .inr (by rw[ee,uy S,h];exact fU)
  .exact .inr (dO _ h)
theorem JM:#[f6,l.foldl max a=a\/l.foldl max a∈l]
 |[],a=>#[dq]
 |b::l,a=>by
  obtain h|h:=JM l (max a b)
  .obtain S|S:=lQ a b;.rw[uw S]at h;exact .inr (by rw[ee,uw S,h];exact fU)
   .rw[uv S]at h;exact .inl (by rw[ee,uv S];exact h)
  .exact .inr (dO _ h)
theorem oZ(h:l≠[]):eX l∈l/\∀x∈l,eX l<=x:=by cases l with
|nil=>exact#[dp,h]
|cons a r=>
 refine⟨?_,(JN _ a).2⟩;obtain h|h:=JO _ a;.unfold eX;rw[Qb,h];exact fU
 .exact h
theorem oX(h:l≠[]):eW l∈l/\∀x∈l,x<=eW l:=by cases l with
|nil=>exact#[dp,h]
|cons a r=>
 refine⟨?_,(JL _ a).2⟩;obtain h|h:=JM _ a;.unfold eW;rw[Qb,h];exact fU
 .exact h
def bp(l:#[i]):Nat:=#[mL,max]
theorem rd(h:l≠[]):bp l<l.length:=by unfold bp;have N:=pM.mpr (oZ h).1;have a0:=pM.mpr (oX h).1;omega
def dA(l:#[i])(k:Nat):#[i]:=lF (l.take #[u])
def hi(l:#[i])(k:Nat):Nat:=#[cb,l.getD k 0,#[b2].getD 0 0,#[b2].getD k 0,#[b2].getD 0 0]
def ij(l:#[i])(k:Nat):#[i]:=#[b2].filter (·!=hi l k)
def gb(l:#[i])(k:Nat):#[i]:=#[b2].filter (·!=l.getD k 0)
def fa(l:#[i])(k:Nat):#[i]:=((l.take k).map λc=>(ij l k).getD (#[eD].idxOf c) 0)++[hi l k]++l.drop (k+1)
def az:Nat->#[i]->Nat->#[i]->#[i]|0,_,_,_=>[]|f+1,l,p,H=>if l.isEmpty then[]else#[nx,#[kf].take,H,#[kf].getD,az f (#[kf].drop #[eg]) (p+bp l+1) H]
structure hC(M:#[cY]):Prop where
 last:∀c,∃d,M c=d++[c]
 len:∀c,#[s,M,c]<=64
theorem hC.inj(h:hC M)(e:M a=M b):a=b:=by obtain⟨d,N⟩:=h.last a;obtain⟨J,a0⟩:=h.last b;simp_all
theorem Ap(d:#[g])(c:S):br (d++[c]) (-1)=aa c:=by
 have:la (-1) (d.length+1)=aa d.length:=by
  unfold la;have e:(-1:Int)+(d.length+1:Nat)=d.length:=by omega
  simp only[show-1<0 by decide,if_true,e];rw[if_pos (by simp only[fF,decide_eq_true_eq];omega)];simp
 unfold br;rw[(by simp:#[a5,(d++[c]),d.length+1]),this];simp
theorem hC.at_(h:hC M)(c:Nat):br (M c) (-1)=aa c:=by obtain⟨d,N⟩:=h.last c;rw[N];exact Ap d c
def key(t:Tx):Tx:=match t.getLast? with|aa c=>[c]|ab=>[]
theorem hC.key(h:hC M)(c:Nat):key (M c)=[c]:=by obtain⟨d,N⟩:=h.last c;rw[N];simp[Mine.key]
theorem qM{a b:Nat}:[a]<=[b]↔a<=b:=by rw[<-Qk,PN];simp
theorem wy{M:#[cY]}(i:∀{a b},M a=M b->a=b){l:#[g]}(h:c∈l):(l.map M).findIdx? (·==M c)=aa (l.idxOf c):=by induction l with
|nil=>cases h
|cons d r Q=>
 rw[dk,List.findIdx?_cons,Qc];by_cases f:d=c;.subst f;simp
 .rw[(by rw[beq_eq_false_iff_ne];exactλe=>f (i e):(M d==M c)=ag),(by rw[beq_eq_false_iff_ne];exact f:(d==c)=ag),Q ((bg.mp h).resolve_left (λe=>f e.symm))];simp
theorem NU(E:hC M)(x:#[g])(C:x.Perm (l.map M))(u:x.Pairwise λa b=>Mine.key a<=Mine.key b):x=(lF l).map M:=by
 refine List.Perm.eq_of_pairwise (λa b I Z N a0=>?_) u ?_ #[dg,((tJ l).map M).symm];.obtain⟨c,_,rfl⟩:=bK.mp (C.mem_iff.mp I);obtain⟨d,_,rfl⟩:=bK.mp Z;rw[E.key,E.key]at N a0;rw[qM]at N a0;rw[Nat.le_antisymm N a0]
 .rw[ur];refine(NS l).imp λh=>?_;rw[E.key,E.key,qM];exact h
theorem akq(E:hC M)(l:#[g])(c:Nat):(l.map M).filter (λt=>t !=M c)=(l.filter (·!=c)).map M:=by
 rw[List.filter_map];congr 1;apply ue;intro d _;show(M d !=M c)=(d !=c);by_cases h:d=c;.subst h;simp
 .have:=λe=>h (E.inj e);rw[bne_iff_ne.mpr this,bne_iff_ne.mpr h]
theorem mu{l:#[g]}{k:Nat}(h:#[cL]):l.getD k 0∈l:=#[Y]
theorem JA{l:#[i]}(Y:l.Nodup)(z:x∈l):(l.filter (·!=x)).length+1=l.length:=by induction l with
|nil=>cases z
|cons a r Q=>
 rw[jB]at Y;by_cases h:a=x
 .subst h;have:r.filter (·!=a)=r:=oi.mpr λy m=>by rw[bne_iff_ne];rintro rfl;exact Y.1 m
  simp[this]
 .rw[uf,(bne_iff_ne.mpr h),#[cw]];have:=Q Y.2 ((bg.mp z).resolve_left (λe=>h e.symm));simp;omega
section
variable{l:#[i]}{k:Nat}
theorem wF(R:#[cL]):#[a5,#[b2],k+1]:=by unfold dA;rw[NR,bI];omega
theorem BH(Y:l.Nodup):#[b2].Nodup:=(tJ _).symm.nodup ((lO _ _).nodup Y)
theorem Mc(R:#[cL]):hi l k∈dA l k:=by
 unfold hi;have:=wF R;split;.exact#[D,mu]
 .exact#[D,mu]
theorem Uk(R:#[cL]):l.getD k 0∈dA l k:=by unfold dA;rw[tI,ef,bD R];rw[lP R];exact uo _ (aZ.mpr rfl)
theorem KG(Y:l.Nodup)(R:#[cL]):#[a5,(ij l k),k]:=by have:=JA (BH Y) (Mc R);rw[wF R]at this;unfold ij;omega
theorem Mp(Y:l.Nodup)(R:#[cL]):#[a5,#[eD],k]:=by have:=JA (BH Y) (Uk R);rw[wF R]at this;unfold gb;omega
theorem DR(Y:l.Nodup)(R:#[cL])(X:c∈l.take k):c∈gb l k:=by unfold gb dA;rw[jA,tI,rH];refine#[a3,yL _ X];rw[bne_iff_ne];rintro rfl;have:(l.take #[u]).Nodup:=(lO _ _).nodup Y;rw[rH]at this;grind
theorem wQ(Y:l.Nodup)(R:#[cL])(X:c∈l.take k):#[eD].idxOf c<(ij l k).length:=by have:=pM.mpr (DR Y R X);rw[Mp Y R]at this;rw[KG Y R];exact this
theorem OP(R:#[cL]):(fa l k).take k=(l.take k).map #[na]:=by unfold fa;rw[du,lN (by simp;omega),iG (by simp;omega)]
theorem afk(R:#[cL]):(fa l k).drop (k+1)=l.drop #[u]:=by
 unfold fa;have e:#[a5,((l.take k).map (#[na])++[hi l k]),k+1]:=by simp;omega
 grind
theorem afj(R:#[cL]):(fa l k).getD k 0=hi l k:=by
 unfold fa;rw[ef,du,ew (by simp;omega)];have:k-#[s,(l.take k).map,λc=>(ij l k).getD (#[eD].idxOf c) 0]=0:=by simp;omega
 rw[this];rfl
theorem afl(R:#[cL]):#[hV,(fa l k)]:=by unfold fa;simp;omega
theorem afm(Y:l.Nodup)(R:#[cL]):((fa l k).take k).Nodup:=by
 rw[OP R];have H:(ij l k).Nodup:=(EF).nodup (BH Y);unfold PL;rw[ur];refine EA (λ{a b}I Z S e=>S ?_) ((lO _ _).nodup Y);rw[ef,ef,bD (wQ Y R I),bD (wQ Y R Z)]at e
 have N:#[eD].idxOf a=#[eD].idxOf b:=by
  have G:=by simpa using e
  obtain h|h|h:=EZ _ _;.exact#[ac,G,yN.mp H _ _ _ _ h]
  .exact h
  .exact#[ac,G.symm,yN.mp H _ _ _ _ h]
 have F:=EG (pM.mpr (DR Y R I));simp_all
end
def ay(M:#[cY])(t:Nat):Tx:=if t=40\/t=41 then[t]else M t
noncomputable def Av:#[y]:=by run_tac av.de ["_divmod_pos"]
noncomputable def xE:bt:=by run_tac av.df ["_divmod_pos"]
theorem YS:iA xE 2=ae:=#[p]
def aK(n0:#[i]):#[B]:=n0.map λ(d:Nat)=>#[dD,d]
def fO(b P:Nat):#[i]->Nat->#[i]×Nat|[],r=>([],r)|d::l,r=>((r*P+d)/b::(fO b P l ((r*P+d)%b)).1,(fO b P l ((r*P+d)%b)).2)
theorem II(b P:Nat)(d:Nat):∀(l:#[g])(r:Nat),fO b P (l++[d]) r=((fO b P l r).1++[((fO b P l r).2*P+d)/b],((fO b P l r).2*P+d)%b)|[],r=>rfl|e::l,r=>by simp[fH,fO,II b P d l]
theorem wa(b P:Nat)(Z:0<b):∀(l:#[g])(c r:Nat),r<b->(fO b P l r).1.foldl (λx d=>x*P+d) c*b+(fO b P l r).2=l.foldl (λx d=>x*P+d) (c*b+r)/\(fO b P l r).2<b|[],c,r,a=>#[aG,a]|d::l,c,r,a=>by have Q:=wa b P Z l (c*P+(r*P+d)/b) ((r*P+d)%b) (ht _ Z);simp;refine⟨Q.1.trans ?_,Q.2⟩;rw[pQ,rI,hS ((r*P+d)/b) b,kh _ b,pQ];rw[Nat.mul_right_comm,rI]
theorem vZ(b P:Nat):∀(l:#[g])(r:Nat),#[hV,(fO b P l r).1]|[],r=>rfl|d::l,r=>by simp[fO,vZ b P l]
theorem IH(b P:Nat)(Z:0<b):∀(l:#[g])(r:Nat),(∀d∈l,d<P)->r<b->∀q∈(fO b P l r).1,q<P
 |[],r,_,_,q,h=>nomatch h
 |d::l,r,y,a,q,h=>by
  obtain rfl|h:=bg.mp h;.have c:=y d fU;rw[mZ Z];have:(r+1)*P<=b*P:=pS _ a;rw[lR]at this;rw[hS P b];omega
  .exact IH b P Z l _ (λd c=>y d (dO _ c)) (ht _ Z) q h
theorem LU(j:Nat)(n0:#[g]):∀z∈aK n0,bA j z:=λz r=>by obtain⟨d,_,rfl⟩:=bK.mp r;exact trivial
theorem Io(h:U<=j)(p:∀o∈v,∀x,o=aa x->bA j x)(u:∀e0∈s.take j,fu j e0):yn U j v s:=⟨h,λi x e=>p _ (bz e) x rfl,λi e0 P e=>u _ (bz (by rw[eD P];exact e))⟩
section
variable{B:Bs}{w:aD}{d0 g0:#[n]}
theorem Vi(F:#[w])(G:#[W])(u:bb B 239 xE 2 Av)(a b f:Nat)(m:Nat)(n0:#[i])(Z:0<b)(M:f<=8000)(E:∀d∈n0,d<2^f)(Y:n0.length<=aC)(I:n0.reverse.foldl (λx d=>x*2^f+d) 0=a)(C:bX (b:Int)=f)(N:Fn B w m 225 [#[cB,a],#[cB,(bX (b:Int):Nat)]] (.list (aK n0)))(T:∀q:#[i],(∀d∈q,d<2^f)->q.length=n0.length->Fn B w m 232 [.list (aK q).reverse,#[cB,(bX (b:Int):Nat)]] (.atom (.int #[I,q.foldl (λx d=>x*2^f+d) 0])))(a0:∀r d:Nat,r<b->d<2^f->Fn B w m 211 [#[cB,(r*2^f+d:Nat)],#[cB,b],#[cB,(bX (b:Int):Nat)]] (.tup [.int ((r*2^f+d)/b:Nat),.int ((r*2^f+d)%b:Nat)])):Fn B w (m+1) 239 [#[cB,a],#[cB,b]] (.tup [.int (a/b:Nat),.int (a%b:Nat)]):=by
 have L:b<2^f:=by rw[<-C];unfold bX;rw[#[bJ,by simp;omega]];simp only[yv];exact EY
 refine#[fq,YS];run_tac av.aJ
 refine aj.gX (i:=6) (c:=λk v s=>∃x y,v=[#[ct,a],#[ct,b],#[ct,(bX (b:Int):Nat)],#[bi],#[ct,((fO b (2^f) #[jg] 0).2:Nat)],#[ar],x,y,ab,ab,ab,ab,ab]/\s=[#[aN,n0],#[aN,(fO b (2^f) #[jg] 0).1]]) (by run_tac av.aJ) rfl #[aU] ⟨ab,ab,rfl,rfl⟩ ?_ ?_ ?_ #[am];.rintro k v s⟨x,y,rfl,rfl⟩;exact#[aG,bx rfl]
 .rintro k z v s n⟨x,y,rfl,rfl⟩_ _;obtain⟨d,g,rfl⟩:∃d,n0.reverse[k]?=aa d/\z=.int (d:Int):=by unfold aK at n;rw[<-Qh,cg]at n;obtain⟨d,h,e⟩:=dW.mp n;exact⟨d,h,e.symm⟩
  have A:n0.reverse.take (k+1)=n0.reverse.take k++[d]:=by rw[rH,g];rfl
  have o:=II b (2^f) d #[jg] 0;rw[<-A]at o;have i:(fO b (2^f) #[jg] 0).2<b:=(wa b _ Z _ 0 0 Z).2;have H:d<2^f:=E d (rF.mp (bz g));have P:#[a5,(fO b (2^f) #[jg] 0).1,k]:=by rw[vZ,bI];exact kM (eh #[V,g])
  have t:k<n0.length:=by simpa using#[V,g]
  have a0:=a0 _ d i H;generalize fO b (2^f) #[jg] 0=O at*;obtain⟨Q,R⟩:=O;have j:aH w m (bM .LShift) #[U,(R:Int)] #[bz,bX (b:Int)] #[be,R*2^f]:=aH.iv (St.xf (by have:=gZ (x:=R) (k:=f) (jD i L);omega)) (by rw[C]);have c:#[ba,aK,Q]:=by rw[aK,aQ];have:Q.length=k:=P;omega
  dsimp only at*;run_tac av.aJ
  refine .inr ⟨2,aP _,Io #[aC] ?_ ?_,_,_,by rw[o],by rw[o];simp[aK]⟩;.simp[bA]
  .intro e0 p;simp only[List.take_succ_cons,Qt,bg,gL,or_false]at p;rcases p with rfl|rfl;.exact LU _ _
   .intro z n;rcases cZ.mp n with h|h;.exact LU _ _ z h
    .rw[aZ.mp h];exact trivial
 .rintro v s⟨x,y,rfl,rfl⟩;have J:(aK n0).reverse.length=n0.reverse.length:=by simp[aK]
  rw[J,hs];have l:(fO b (2^f) n0.reverse 0).1.foldl (λx d=>x*2^f+d) 0=a/b:=by have:=wa b (2^f) Z n0.reverse 0 0 Z;rw[uz,gM,I]at this;rw[<-this.1,yT,Qx _ _ Z,ET this.2,gM]
  have U:(fO b (2^f) n0.reverse 0).2=a%b:=by have:=wa b (2^f) Z n0.reverse 0 0 Z;rw[uz,gM,I]at this;rw[<-this.1,yT,Qy,yY this.2]
  have T:=T (fO b (2^f) n0.reverse 0).1 (IH b _ Z _ 0 (λd g=>E d (rF.mp g)) Z) (by rw[vZ,uh]);rw[l]at T;rw[U];have c:#[ba,aK,(fO b (2^f) n0.reverse 0).1]:=by rw[aK,aQ,vZ,uh];exact Y
  run_tac av.aJ
  intro z n;obtain⟨d,_,rfl⟩:=bK.mp (rF.mp n);rfl
end
namespace av
open Lean Meta Elab Tactic
def nF(p:List String)(k:Nat):il Unit:=do
 let s<-sU p (<-yf);(<-mQ).assign (s.getArg! k)
end av
noncomputable def Aw:List aN:=by run_tac av.de ["_int2digits"]
noncomputable def tB:bt:=by run_tac av.df ["_int2digits"]
noncomputable def Ax:List aN:=by run_tac av.de ["_int2digits","inner"]
noncomputable def Dj:bt:=by run_tac av.df ["_int2digits","inner"]
noncomputable def GU:lV:=by run_tac av.nF ["_int2digits","inner"] 1
noncomputable def Zh:ba:=by run_tac av.nF ["_int2digits","inner"] 9
noncomputable def qY(c P:ao):fJ:=⟨c,P,Zh,"inner","_int2digits.<locals>.inner"⟩
theorem YT:iA tB 2=ae:=(rfl)
def Ii:List aq:=["n","inner","a_digits"]
theorem JU:iD GU Ax Dj Ii 3 where
 bind:=by rintro⟨⟩Z N a0 T y;dsimp at N a0 T;subst N a0 T;match Z,y with|[a,b,c],_=>rfl
 ok:=(rfl)
 kind:=rfl
 co:=rfl
 gen:=rfl
 nA:=by decide
 qF:=rfl
abbrev z0:Ob:=.list [.int ((0:Nat):Int)]
abbrev MR:Ob:=.raw (gi GU (.stmts Ax) Dj Ii)
def gu(n:Nat):Nat->Nat->List Nat|_,0=>[]|x,k+1=>x%2^n::gu n (x/2^n) k
theorem sN(n:Nat):∀(x k:Nat),(gu n x k).length=k|_,0=>rfl|x,k+1=>by simp[gu,sN n _ k]
theorem Iv(n:Nat):∀(x i j:Nat),gu n x (i+j)=gu n (x%2^(n*i)) i++gu n (x/2^(n*i)) j|x,0,j=>by simp[gu]|x,i+1,j=>by rw[(by omega:i+1+j=(i+j)+1)];simp only[gu,fH];rw[Iv n _ i j,(by rw[Fe,kj,hS]:2^(n*(i+1))=2^n*2^(n*i)),Nat.mod_mul_right_mod,Nat.mod_mul_right_div_self,QB]
theorem Iw(n:Nat):∀(x k:Nat),∀d∈gu n x k,d<2^n
 |_,0,d,h=>nomatch h
 |x,k+1,d,h=>by
  obtain rfl|h:=bg.mp h;.exact ht _ (jb n)
  .exact Iw n _ k d h
theorem JK(P:Nat):∀(l:List _)(c:Nat),l.foldl (λx d=>x*P+d) c=c*P^l.length+l.foldl (λx d=>x*P+d) 0|[],c=>by simp|d::l,c=>by simp only[ee,cq];rw[JK P l _,JK P l (0*P+d)];rw[pQ,oo,<-Fg,uz,gM,rI]
theorem Iy(n:Nat):∀(x k:Nat),x<2^(n*k)->(gu n x k).reverse.foldl (λx d=>x*2^n+d) 0=x
 |x,0,h=>by simp at h;subst h;rfl
 |x,k+1,h=>by
  have z:x/2^n<2^(n*k):=by rw[mZ (jb n),<-kj];rwa[Fe]at h
  simp only[gu,yO,mV,ee,List.foldl_nil];rw[Iy n _ k z,hS];exact kh _ _
def ka(n:Nat)(n0:List Nat)(L k x:Nat):List Nat:=n0.take L++(gu n x k++n0.drop (L+k))
theorem Nw(h:L+k<=n0.length):(ka n n0 L k x).length=n0.length:=by simp[ka,aY,bI,dj,sN];omega
theorem abd(h:L<n0.length)(z:x<2^n):n0.set L x=ka n n0 L 1 x:=by simp[ka,gu,yY z,fH,ja];rw[Qq,if_pos h]
theorem abe(h:L+(i+j)<=n0.length):ka n (ka n n0 L i (x%2^(n*i))) (L+i) j (x/2^(n*i))=ka n n0 L (i+j) x:=by
 have y:(n0.take L++gu n (x%2^(n*i)) i).length=L+i:=by rw[aY,sN,bI];omega
 simp[ka];rw[Iv,<-du (n0.take L),lN (by omega),iG (by omega)];rw[show(n0.take L++gu n _ i++n0.drop _).drop _=n0.drop (L+(i+j))by rw[List.drop_append,ud (by omega),ja,kJ];congr 1;omega];simp
theorem Yw{i x:Nat}:(aK n0).set i (.int x)=aK (n0.set i x):=by simp[aK,um]
theorem agg(x s:Nat):(x|||x/2^s*2^s)-(x&&&x/2^s*2^s)=x%2^s:=by
 have e:x=x/2^s*2^s|||x%2^s:=by rw[tm (ht _ (jb s)),hS];exact(kh x _).symm
 have F:x|||x/2^s*2^s=x:=by grind
 have d:x&&&x/2^s*2^s=x/2^s*2^s:=by
  apply Nat.eq_of_testBit_eq;intro k;rw[Nat.testBit_and];by_cases h:(x/2^s*2^s).testBit k=ae;.rw[e,Nat.testBit_or,h];rfl
  .rw[Pq]at h;rw[h,Ec]
 have:=kh x (2^s);rw[hS]at this;omega
section
variable{B:Bs}{w:aD}{d0 g0:aq->Option ai}
theorem Wk(F:aL B d0 g0)(G:Gl B d0 g0)(n:Nat)(Y:n<=8000):∀(k m:Nat),1<=k->k<=m+1->k<=1000->∀(x L R:Nat)(n0:List Nat),R=L+k->L+k<=n0.length->n0.length<=1000->x<2^(n*k)->aj B w m ⟨Dj,0,[],[]⟩ Ax [aa (.int x),aa (.int L),aa (.int R),ab,ab,ab,ab,aa (.ob 1),aa (.ob 2),aa (.int n)] [z0,.list (aK n0),MR] (gQ .none [z0,.list (aK (ka n n0 L k x)),MR]):=by intro k;induction k using QO with
|ind k Q=>
 intro m a j o x L R n0 M d p z;have f:=JU;have c:(aK n0).length=n0.length:=by simp[aK]
 by_cases N:k=1
 .subst N;have j0:(L+1==R)=ae:=by simp[M]
  rw[rL]at z;have H:=abd (n:=n) (L:=L) (n0:=n0) (by omega) z;rw[<-H,<-Yw];have y:L<(aK n0).length:=by omega
  run_tac av.aJ
 .have j0:(L+1==R)=ag:=by simp[M];omega
  obtain⟨m,rfl⟩:∃l,m=l+1:=⟨m-1,by omega⟩;have g:=jb (n*(k/2))
  have O:x/2^(n*(k/2))<2^(n*(k-k/2)):=by
   rw[mZ g,<-kj,<-yZ];have:k-k/2+k/2=k:=by omega
   rwa[this]
  have U:=Q (k/2) (by omega) m (by omega) (by omega) (by omega) (x%2^(n*(k/2))) L (L+k/2) n0 rfl (by omega) p (ht _ g);have q:=Q (k-k/2) (by omega) m (by omega) (by omega) (by omega) (x/2^(n*(k/2))) (L+k/2) R (ka n n0 L (k/2) (x%2^(n*(k/2)))) (by omega) (by rw[Nw (by omega)];omega) (by rw[Nw (by omega)];exact p) O;rw[abe (by omega),show k/2+(k-k/2)=k by omega]at q;have b:aH w (m+1) (bM .RShift) (.int ((L+R:Nat):Int)) (.int ((1:Nat):Int)) (.int ((L+k/2:Nat):Int)):=aH.iv St.tx (by omega);have i:aH w (m+1) (bM .Sub) (.int ((L+k/2:Nat):Int)) (.int (L:Int)) (.int ((k/2:Nat):Int)):=aH.iv (St.iW (by omega)) (by omega);have S:ng ((k/2:Nat):Int) n:=tg (k:=10) (l:=13) (by omega) (by omega) (by omega) (by omega);have h:aH w (m+1) (bM .Mult) (.int ((k/2:Nat):Int)) (.int (n:Int)) (.int ((n*(k/2):Nat):Int)):=aH.iv (St.xj S) (hS _ _);have e:(bX ((x/2^(n*(k/2)):Nat):Int):Int)+((n*(k/2):Nat):Int)<=2^27:=by have T:=gZ O;have E:n*(k-k/2)<=8000*1000:=nc Y (by omega);have r:n*(k/2)<=8000*1000:=nc Y (by omega);omega
  have v:aH w (m+1) (bM .BitXor) (.int (x:Int)) (.int ((x/2^(n*(k/2))*2^(n*(k/2)):Nat):Int)) (.int ((x%2^(n*(k/2)):Nat):Int)):=aH.iv St.AK (agg _ _);clear Q;run_tac av.aJ
end
section
variable{B:Bs}{w:aD}{d0 g0:aq->Option ai}
theorem Yv(k:Nat):(cO k [V.int (0:Nat)]).flatten=aK (cO k 0):=by induction k with|zero=>rfl|succ k Q=>rw[rG,PW,Q];rfl
theorem abc:ka n (cO k 0) 0 k x=gu n x k:=by simp[ka]
theorem ro(n k:Nat):gu n 0 k=cO k 0:=by induction k with|zero=>rfl|succ k Q=>simp[gu,Q,rG]
theorem Yu(n0:List _):∀x∈aK n0,bU x=ae:=λx z=>by obtain⟨d,_,rfl⟩:=bK.mp z;rfl
theorem LV(n0:List _):(aK n0).all bU=ae:=fe.mpr (Yu _)
theorem Wq(F:aL B d0 g0)(G:Gl B d0 g0)(c P:ao)(u:bb B 225 tB 2 Aw [qY c P])(a n k:Nat)(M:1<=n)(Y:n<=8000)(R:(bX (a:Int)+n-1)/n=k)(l:k<=30):Fn B w 32 225 [.atom (.int a),.atom (.int n)] (.list (aK (gu n a k))):=by
 refine Fn.dU F u rfl rfl rfl rfl YT ?_;have f:=JU;have T:aH w 31 (bM .Sub) (.int ((bX (a:Int)+n:Nat):Int)) (.int ((1:Nat):Int)) (.int ((bX (a:Int)+n-1:Nat):Int)):=St.iW (by omega);have j:bX (a:Int)<=n*k:=by have:=kh (bX (a:Int)+n-1) n;rw[R]at this;have:=ht (bX (a:Int)+n-1) (by omega:0<n);omega
 have z:a<2^(n*k):=by
  by_cases H:a=0;.subst H;exact jb _
  .refine ey EY (ei (by omega) ?_);unfold bX at j;rw[if_neg (by simp;exact H)]at j;simpa using j
 have C:pY ((bX (a:Int)+n-1:Nat):Int) (n:Int)=ag:=by refine QV ?_;rw[yv];have:Nat.log2 n<8000:=(EX (by omega)).mpr (ey (Nat.lt_pow_self (by omega:1<2)) (ei (by omega) Y));omega
 have i:aH w 31 (bM .FloorDiv) (.int ((bX (a:Int)+n-1:Nat):Int)) (.int (n:Int)) (.int (k:Int)):=aH.iv (St.wu (by omega) C) R;have x:fA B w 31 (eG tB 0 [qY c P]) (bM .Mult) (.ob 0) (.int (k:Int)) [aa (.int a),aa (.int n),ab,ab,ab] [z0] (.ob 1) [z0,.list (aK (cO k 0))]:=St.tf (X:=[.int ((0:Nat):Int)]) rfl (by simp;omega) (by omega) (Yv k) rfl rfl;have b:(aK (cO k 0)).length=k:=by simp[aK]
 by_cases H:a=0
 .have j0:(a !=0)=ag:=by simp[H]
  subst H;rw[ro];run_tac av.aJ
  exact LV _
 .have j0:(a !=0)=ae:=by simp[H]
  have d:1<=k:=by
   rcases EU k with h|h;.subst h;simp at z;omega
   .exact h
  have g:=Wk (w:=w) F G n Y k 30 d (by omega) (by omega) a 0 k (cO k 0) (by omega) (by simp) (by simp;omega) z;rw[abc]at g;have e:(aK (cO k 0)).length<=aC:=by rw[b];show k<=2^24;omega
  run_tac av.aJ
  exact LV _
end
noncomputable def Hs:#[y]:=by run_tac av.de ["_law_due"]
noncomputable def xF:bt:=by run_tac av.df ["_law_due"]
theorem Mn:iA xF 3=ae:=#[p]
def Cc:aT:=by run_tac av.gC ["_law_due"] [3,1,0,1,2,0,1]
def KP:aT->ba|.Lambda _ _ _ p=>p|e=>e.pos
def KO:aT->lV|.Lambda a _ _ _=>a|_=>⟨[],[],ab,[],[],ab,[]⟩
noncomputable def KQ:aT->bt|.Lambda _ _ s _=>s|_=>xF
def xQ(c P:ao):fJ:=⟨c,P,KP Cc,"<lambda>","_law_due.<locals>.<lambda>"⟩
theorem Wb:iD (KO Cc) [] (KQ Cc) [] 1 where
 bind:=by rintro⟨⟩Z N a0 T y;dsimp at N a0 T;subst N a0 T;match Z,y with|[a],_=>rfl
 ok:=#[p]
 kind:=rfl
 co:=rfl
 gen:=rfl
 nA:=by simp
 qF:=rfl
theorem sP:∀(f:Nat)(l:#[g])(p:Nat)(H:#[g]),(az f l p H).length+3<=3*2^f
 |0,_,_,_=>by simp[az]
 |f+1,l,p,H=>by
  have C:1<=2^f:=zc;unfold az;split;.simp;omega
  .have N:=sP f (#[kf].take (bp l)) p H;have a0:=sP f (#[kf].drop #[eg]) (p+bp l+1) H;simp only[aY,cq,eI];omega
theorem pg(f0:#[g]):#[fk,ah f0]:=λx z=>by obtain⟨t,_,rfl⟩:=bK.mp z;rfl
theorem kD(a b:#[g]):ah (a++b)=ah a++ah b:=by simp[ah]
theorem CS(M:#[cY]):ay M 40=[40]:=rfl
theorem CT(M:#[cY]):ay M 41=[41]:=rfl
theorem tw(h:c≠40/\c≠41):ay M c=M c:=by unfold ay;rw[if_neg];omega
section
variable{B:Bs}{w:aD}{d0 g0:#[n]}
theorem Vn(F:#[w])(G:#[W]){c P:ao}(u:bb B 329 xF 3 Hs [xQ c P]){M:#[cY]}(E:hC M):∀(f:Nat)(l:#[i])(p:Nat)(i:#[i]),l.length<=f->f<=5->l.Nodup->(#[f0,l])->p+l.length<=1000->i.length<=1000->Fn B w (f+3) 329 [#[T,l.map M],#[cB,(p:Nat)],#[bk,i.map,#[jo]]] #[eQ,#[cD,(az f l p i).map]]:=by intro f;induction f with
|zero=>intro l p i y v Y Z C n0;have:l=[]:=#[D,om.mp];subst this;refine#[fq,Mn];run_tac av.aJ
|succ f Q=>
 intro l p i y v Y Z C n0;refine#[fq,Mn];by_cases h0:l=[];.subst h0;run_tac av.aJ
 .have n:(!!#[bX,l.map].isEmpty)=ag:=by cases l with|nil=>exact#[dp,h0]|cons a r=>rfl
  have l0:#[cM,#[bX,l.map]]:=by simp only[ah,aQ];exact aI y (by simp only[dw];omega)
  run_tac av.aJ
  have f0:(l.map λc=>#[en,c])=ah (l.map M):=by simp[ah]
  have L:#[lD]:=E.at_;have G0:∀c,#[ba,M,c]:=λc=>aI (E.len c) #[j];have A0:(l.filter λ_=>ae).map (#[fK])=ah (l.map #[cp]):=by rw[#[hA]];simp[ah]
  have t0:hO 317 14 l #[hO] (λ_=>ae) (λc=>#[dR]):=trivial;have T0:#[lx,2,f+3,"min",[.ob 2],eX l]:=#[lw,Cl.LH,(oZ h0).1,λx b=>by obtain⟨c,X,rfl⟩:=bK.mp b;exact qM.mpr ((oZ h0).2 c X)];have S0:#[lx,2,f+3,"max",[.ob 2],eW l]:=#[lw,Cl.LA,(oX h0).1,λx b=>by obtain⟨c,X,rfl⟩:=bK.mp b;exact qM.mpr ((oX h0).2 c X)];have m1:(l.map #[cp]).findIdx? (·==[eX l])=aa (l.idxOf (eX l)):=wy (M:=#[cp]) (λh=>by simpa using h) (oZ h0).1;have l1:(l.map #[cp]).findIdx? (·==[eW l])=aa (l.idxOf (eW l)):=wy (M:=#[cp]) (λh=>by simpa using h) (oX h0).1;have o1:(ah (l.map #[cp])).length<2^62:=by simp only[ah,aQ];omega
  have u0:#[mL,max]=bp l:=rfl;have o:=rd h0;have s0:(i.map #[jo])=(i.map λq=>#[I,q]).map V.int:=by simp
  have F0:((i.map λq=>#[I,q]).any λx=>x==#[I,p+bp l])=i.contains (p+bp l):=by rw[List.any_map,List.contains_eq_any_beq];congr 1;funext x;show((x:Int)==#[I,p+bp l])=((p+bp l)==x);rw[mM];simp only[beq_iff_eq];omega
  have A:az (f+1) l p i=#[nx,#[oh].take,i,#[oh].getD,az f (#[oh].drop #[eg]) (p+bp l+1) i]:=by
   have:l.isEmpty=ag:=by cases l with|nil=>exact#[dp,h0]|cons a r=>rfl
   show#[gb,l.isEmpty];rw[this];rfl
  have e0:∀(r:#[i])(k:Nat),cJ #[bX,r.map] ab (aa #[b4])=#[dd,r.take,k,M]:=λr k=>by rw[NK];simp[ah,yK]
  have Y0:∀(r:#[i])(k:Nat),cJ #[bX,r.map] (aa #[b4]) ab=#[dd,r.drop,k,M]:=λr k=>by rw[pw];simp[ah,uj]
  have i0:∀(r:#[i])(k:Nat),k<r.length->br #[bX,r.map] #[b4]=#[K,M (r.getD k 0)]:=λr k h=>by unfold br;rw[ih (by simpa[ah]using h)];simp[ah,bD h,ef]
  cases X:i.contains (p+bp l)with
  |false=>
   rw[X]at F0 A;rw[A];simp only[gc,if_false];generalize S:bp l=k at*;have y0:#[s,l.take,k]<=f:=by rw[bI];omega
   have O0:#[s,l.drop,#[u]]<=f:=by rw[dj];omega
   have R0:(l.take k).Nodup:=(lO _ _).nodup Y;have N0:(l.drop #[u]).Nodup:=(yE _ _).nodup Y;have e1:#[f0,l.take k]:=λx b=>Z x (eJ b);have f1:#[f0,l.drop (k+1)]:=λx b=>Z x (fI b);have g1:p+#[s,l.take,k]<=1000:=by rw[bI];omega
   have h1:p+k+1+#[s,l.drop,#[u]]<=1000:=by rw[dj];omega
   have c0:=pg;have c1:#[fk,i.map #[jo]]:=λx b=>by obtain⟨t,_,rfl⟩:=bK.mp b;rfl
   have j0:∀l p i,#[aX,(az f l p i),100]:=λl p i=>by have N:=sP f l p i;have a0:2^f<=2^5:=#[i7];omega
   have v0:=j0 (l.take k) p i;have I0:=j0 (l.drop #[u]) (p+k+1) i;have p0:#[my,[40]++az f (l.take k) p i++[l.getD k 0]++az f (l.drop #[u]) (p+k+1) i,(az f (l.take k) p i),l.getD,(az f (l.drop #[u]) (p+k+1) i)]:=by simp only[hr,kD,dk,pN,CS,CT,tw (Z _ (mu o))];rfl
   rw[p0];run_tac av.aJ
   all_goals first|(simp only[dw,aY,cq,eI,ah,aQ];omega)|(rw[<-p0];simp[ah,bU])
  |true=>
   rw[X]at F0 A;rw[A];simp only[if_true];generalize S:bp l=k at*;have r0:sm (l.take #[u]) M (#[cp]) (#[b2].map M):=⟨Mine.key,λc _=>E.key c,λx N a0=>NU E x N a0⟩;have b1:=Wb;generalize g:fa l k=R at*;have k1:R.length=l.length:=by rw[<-g];exact afl o
   have E0:R.take k=(l.take k).map #[na]:=by rw[<-g];exact OP o
   have Q0:R.drop (k+1)=l.drop #[u]:=by rw[<-g];exact afk o
   have U0:R.getD k 0=hi l k:=by rw[<-g];exact afj o
   have X0:k<R.length:=by omega
   have w0:∀x∈dA l k,x∈l:=λx b=>eJ (tI.mp b);have y0:#[s,R.take,k]<=f:=by rw[bI];omega
   have O0:#[s,R.drop,#[u]]<=f:=by rw[dj];omega
   have R0:(R.take k).Nodup:=by rw[<-g];exact afm Y o
   have N0:(R.drop #[u]).Nodup:=by rw[Q0];exact(yE _ _).nodup Y
   have e1:#[f0,R.take k]:=λx b=>by rw[E0]at b;obtain⟨c,k0,rfl⟩:=bK.mp b;exact Z _ (w0 _ ((jA.mp (mu (wQ Y o k0))).1))
   have f1:#[f0,R.drop (k+1)]:=λx b=>by rw[Q0]at b;exact Z x (fI b)
   have g1:p+#[s,R.take,k]<=1000:=by rw[bI];omega
   have h1:p+k+1+#[s,R.drop,#[u]]<=1000:=by rw[dj];omega
   have c0:=pg;have c1:#[fk,i.map #[jo]]:=λx b=>by obtain⟨t,_,rfl⟩:=bK.mp b;rfl
   have j0:∀l p i,#[aX,(az f l p i),100]:=λl p i=>by have N:=sP f l p i;have a0:2^f<=2^5:=#[i7];omega
   have v0:=j0 (R.take k) p i;have I0:=j0 (R.drop #[u]) (p+k+1) i;have p0:#[my,[40]++az f (R.take k) p i++[R.getD k 0]++az f (R.drop #[u]) (p+k+1) i,(az f (R.take k) p i),R.getD,(az f (R.drop #[u]) (p+k+1) i)]:=by simp only[hr,kD,dk,pN,CS,CT,tw (show R.getD k 0≠40/\R.getD k 0≠41 by rw[U0];exact Z _ (w0 _ (Mc o)))];rfl
   rw[p0];have m0:hO 322 15 #[b2] #[hO] (λc=>M c !=M (hi l k)) #[hO]:=trivial;have i1:hO 323 14 #[b2] #[hO] (λc=>M c !=M (l.getD k 0)) #[hO]:=trivial;have j1:hO 324 14 (l.take k) #[hO] (λ_=>ae) (λc=>#[en,#[mZ]]):=trivial;have d1:∀r:#[i],(r.map λc=>#[en,c])=ah (r.map M):=λr=>by simp[ah]
   have a1:∀(r:#[i])(c:Nat),(r.filter λd=>M d !=M c).map (λd=>#[en,d])=ah ((r.filter (·!=c)).map M):=λr c=>by rw[<-d1,show(λd=>M d !=M c)=λd=>d !=c from funext λd=>by
    by_cases h:d=c;.subst h;simp
    .rw[bne_iff_ne.mpr h,bne_iff_ne.mpr λe=>h (E.inj e)]]
   have M0:(#[b2].filter λd=>M d !=M (hi l k)).map (λd=>#[en,d])=ah ((ij l k).map M):=a1 _ _;have Z0:(#[b2].filter λd=>M d !=M (l.getD k 0)).map (λd=>#[en,d])=ah (#[eD].map M):=a1 _ _;have q1:((l.take k).filter λ_=>ae).map (λc=>#[en,#[mZ]])=#[dd,R.take,k,M]:=by rw[#[hA],E0];unfold ah;rw[gA,gA];rfl
   have C0:∀c,c∈l.take k->(#[eD].map M).findIdx? (·==M c)=aa (#[eD].idxOf c):=λc h=>wy (λe=>E.inj e) (DR Y o h);have J0:∀c,c∈l.take k->#[gn,#[bX,(ij l k).map],#[eD].idxOf c,M #[mZ]]:=λc h=>i0 _ _ (wQ Y o h);have I:#[dd,R.take,k,M]++[#[en,hi l k]]=#[dd,R.take,#[u],M]:=by rw[lP X0,hr,kD,<-U0,ef,bD X0];rfl
   have T:#[dd,R.take,#[u],M]++ah ((l.drop #[u]).map M)=ah (R.map M):=by rw[<-kD,<-hr,<-Q0,hQ]
   have n1:=wF o;have b0:#[cM,#[bX,(R.take #[u]).map]]:=by simp only[dw,ah,aQ,bI];omega
   have o0:#[cM,#[bX,R.map]]:=by simp only[dw,ah,aQ];omega
   have q0:#[cM,#[bX,#[b2].map]]:=by simp only[dw,ah,aQ];omega
   have x0:#[cM,#[bX,(ij l k).map]]:=by simp only[dw,ah,aQ,KG Y o];omega
   have L0:#[bX,#[eD].map].length<2^62:=by simp only[ah,aQ,Mp Y o];omega
   have p1:#[s,l.take,#[u]]<64:=by rw[bI];omega
   cases J:(l.getD k 0==#[b2].getD 0 0)with
   |true=>
    have m:hi l k=#[b2].getD k 0:=by unfold hi;rw[J];rfl
    have s:(M (l.getD k 0)==M (#[b2].getD 0 0))=ae:=by rw[beq_iff_eq]at J⊢;rw[J]
    have H0:=i0 #[b2] 0 #[f]
    have j:br #[bX,#[b2].map] (-#[bt])=#[K,M (hi l k)]:=by
     have e:dA l k=#[b2].take k++[#[b2].getD k 0]:=by have N:#[b2].take (k+1)=dA l k:=#[D,iG];rw[#[D,lP]]at N;rw[ef,#[D,bD]];exact N.symm
     rw[m];generalize#[b2].getD k 0=z at e;rw[e,hr,kD];exact Ap _ _
    run_tac av.aJ
    all_goals first|(simp only[dw,aY,cq,eI,ah,aQ,bI];omega)|(rw[<-p0];simp[ah,bU])
   |false=>
    have m:hi l k=#[b2].getD 0 0:=by unfold hi;rw[J];rfl
    have s:(M (l.getD k 0)==M (hi l k))=ag:=by rw[beq_eq_false_iff_ne]at J⊢;rw[m];exactλe=>J (E.inj e)
    have H0:br #[bX,#[b2].map] #[bh]=#[K,M (hi l k)]:=by rw[m];exact i0 #[b2] 0 #[f]
    run_tac av.aJ
    all_goals first|(simp only[dw,aY,cq,eI,ah,aQ,bI];omega)|(rw[<-p0];simp[ah,bU])
end
def eb(t:Nat):Bool:=t==40||t==41
def cR:#[i]->Int->Bool|[],o=>o==#[bh]|t::r,o=>#[lT,cR r (o+#[bt]),o-#[bt]<#[bh],cR r (o-#[bt]),cR r o]
def hN(f0:#[i])(p:Nat):#[ae]|0=>0|i+1=>if f0.getD i 0==40&&cR ((f0.take p).drop i) #[bh]then i else hN f0 p i
def nR(f0:#[i])(s p:Nat):#[i]:=((aR (p+1-s)).map (s+·)).filter λk=>!#[fy,eb]
def sX(f0:#[i])(s p:Nat):#[i]:=lF ((nR f0 s p).map #[ib])
def ix(f0 g:#[i])(p k:Nat):Nat:=g.getD (#[aa,f0.getD p 0==g.getD 0 0,#[fy,g.idxOf]+g.length-1,#[fy,g.idxOf]+1]%g.length) 0
def mI(f0:#[i])(p:Nat):#[i]:=(nR f0 (hN f0 p p) p).foldl (λo k=>o.set k (ix f0 (sX f0 (hN f0 p p) p) p k)) f0
theorem Oc(f0:#[g])(p:Nat):∀i,hN f0 p i<=i|0=>aP _|i+1=>by unfold hN;split;exact dP _;exact eO (Oc _ _ i)
theorem CV(E:hC M)(t:Nat):(ay M t==[40])=(t==40):=by
 unfold ay;by_cases h:t=40;.subst h;simp
 .by_cases a0:t=41;.subst a0;simp
  .rw[#[fj]];obtain⟨d,c⟩:=E.last t;rw[(by rw[beq_eq_false_iff_ne];exact h:(t==40)=ag),beq_eq_false_iff_ne,c];intro e;have:=congrArg Qa e;simp at this;exact h this
theorem MU(E:hC M)(t:Nat):(ay M t==[41])=(t==41):=by
 unfold ay;by_cases h:t=40;.subst h;simp
 .by_cases a0:t=41;.subst a0;simp
  .rw[#[fj]];obtain⟨d,c⟩:=E.last t;rw[(by rw[beq_eq_false_iff_ne];exact a0:(t==41)=ag),beq_eq_false_iff_ne,c];intro e;have:=congrArg Qa e;simp at this;exact a0 this
theorem CU(E:hC M)(t:Nat):(!#[of,t])=!eb t:=by rw[uc,uc,CV E,MU E];unfold eb;simp
theorem xy(E:hC M)(t:Nat):#[aX,(ay M t),64]:=by
 unfold ay;split;.simp
 .exact E.len t
theorem aci{s p k:Nat}(h:k∈nR f0 s p):s<=k/\k<=p/\eb #[d8]=ag:=by obtain⟨N,a0⟩:=jA.mp h;obtain⟨j,f,rfl⟩:=bK.mp N;rw[eN]at f;exact⟨by omega,by omega,by grind⟩
theorem HR(h:eb t=ag):t≠40/\t≠41:=by unfold eb at h;simpa using h
noncomputable section
def fN{S:Type}(a:Nat)(k:Nat->S):S:=pU (k 0) (λn _=>k (jE n)) a
theorem oQ(a:Nat)(k:Nat->S):fN a k=k a:=by cases a<;>rfl
def fL{S:Type}(l:#[i]):(#[i]->S)->S:=iF (λk=>k []) (λa _ Q k=>fN a λa=>Q λr=>k (a::r)) l
theorem qz:∀(l:#[g])(k:#[g]->S),fL l k=k l|[],_=>rfl|a::l,k=>by show fN a (λa=>fL l λr=>k _)=_;rw[oQ,qz]
theorem qm(a b:Nat):fg a b=(a==b):=by rw[mM,Nat.beq_eq];exact beq_iff_eq.symm
theorem qs(a b:Nat){S:Type}(x y:S):(bif fg a b then x else y)=#[cb,a,b,x,y]:=#[z]
theorem sL(a b:Nat){S:Type}(x y:S):(bif pR a b then x else y)=if a<=b then x else y:=#[z]
def Cw(l:#[i]):#[ae]:=iF (λa=>a) (λc _ Q a=>Q (bif pR a c then a else c)) l
def Cu(l:#[i]):#[ae]:=iF (λa=>a) (λc _ Q a=>Q (bif pR a c then c else a)) l
theorem LG:#[f6,Cw l a=l.foldl min a]|[],_=>rfl|c::l,a=>by show Cw l _=l.foldl _ _;rw[LG,sL];rfl
theorem Lz:#[f6,Cu l a=l.foldl max a]|[],_=>rfl|c::l,a=>by show Cu l _=l.foldl _ _;rw[Lz,sL];rfl
def oS(c:Nat)(l:#[i]):Nat:=iF 0 (λd _ Q=>bif fg d c then 0 else jE Q) l
theorem sZ(c:Nat):#[eB,oS c l=l.idxOf c]|[]=>rfl|d::l=>by show(bif fg d c then 0 else jE (oS c l))=_;rw[qs,sZ c l,Qc];cases d==c<;>rfl
def eT(l:#[i]):#[ae]:=iF (λ_=>0) (λa _ Q i=>pU a (λn _=>Q n) i) l
theorem jU:∀(l:#[g])(i:Nat),eT l i=l.getD i 0|[],_=>rfl|a::l,0=>rfl|a::l,i+1=>jU l i
def DC(l:#[i]):Nat:=fN (oS (Cw l (l.headD 0)) l) λa=>fN (oS (Cu l (l.headD 0)) l) λb=>bif pR a b then b else a
theorem acf(l:#[g]):DC l=bp l:=by unfold DC;rw[oQ,oQ,sL,sZ,sZ,LG,Lz];rfl
def wN(c:Nat)(l:#[i]):#[i]:=iF [c] (λd r Q=>bif pR c d then c::d::r else d::Q) l
theorem Kk(c:Nat):#[eB,wN c l=nG c l]|[]=>rfl|d::r=>by show(bif pR c d then c::d::r else d::wN c r)=_;rw[sL,Kk c r];rfl
def xT(l:#[i]):#[i]:=iF [] (λc _ Q=>wN c Q) l
theorem Dz:#[eB,xT l=lF l]|[]=>rfl|c::r=>by show wN c (xT r)=_;rw[Kk,Dz r];rfl
def sM(c:Nat)(l:#[i]):#[i]:=iF [] (λd _ Q=>bif fg d c then Q else d::Q) l
theorem Iu(c:Nat):#[eB,sM c l=l.filter (·!=c)]|[]=>rfl|d::l=>by show(bif fg d c then sM c l else d::sM c l)=_;rw[Iu c l,uf];simp
def DX(l:#[i])(k:Nat):#[i]:=fL (xT (l.take (jE k))) λg=>fN (eT l k) λx=>fN (bif fg x (eT g 0)then eT g k else eT g 0) λy=>fL (sM y g) λa=>fL (sM x g) λf=>(l.take k).map (λc=>eT a (oS c f))++(y::l.drop (jE k))
theorem afh(l:#[g])(k:Nat):DX l k=fa l k:=by unfold DX;simp only[qz,oQ,qs,jU,Dz,Iu,sZ];unfold fa ij gb hi dA;rw[du];rfl
def Cv(c:Nat)(l:#[i]):Bool:=iF ag (λd _ Q=>bif fg c d then ae else Q) l
theorem LC(c:Nat):#[eB,Cv c l=l.contains c]|[]=>rfl|d::l=>by show(bif fg c d then ae else Cv c l)=_;rw[LC c l,uc,qm];cases c==d<;>rfl
def we(f:Nat):#[i]->Nat->#[i]->#[i]->#[i]:=pU (λ_ _ _ A=>A) (λ_ Q l p H A=>bif l.isEmpty then A else fN (DC l) λk=>fL (bif Cv (yS p k) H then DX l k else l) λr=>fL (r.take k) λT=>fL (r.drop (jE k)) λi=>fN (jE (yS p k)) λq=>40::Q T p H (eT r k::Q i q H (41::A))) f
theorem IJ:∀(f:Nat)(l:#[g])(p:Nat)(H A:#[g]),we f l p H A=az f l p H++A|0,_,_,_,_=>rfl|f+1,l,p,H,A=>by show(bif l.isEmpty then A else fN _ λk=>fL _ λr=>fL _ λT=>fL _ λi=>fN _ λq=>40::we f _ p _ (eT r k::we f _ q _ _))=_;simp only[qz,oQ,acf,LC,afh,jU,IJ f];show _=#[aa,l.isEmpty,[],_]++A;cases l.isEmpty with|true=>rfl|false=>rw[#[c7]];simp only[du,fH,ja];cases X:H.contains (p+bp l)with|true=>rfl|false=>rfl
def oN(f:Nat)(l:#[i])(H:#[i]):#[i]:=we f l 0 H []
theorem IK(f:Nat)(l H:#[g]):oN f l H=az f l 0 H:=by unfold oN;rw[IJ,gy]
def oI(l:#[i]):Nat->Bool:=iF (λo=>fg o 0) (λt _ Q o=>bif fg t 40 then Q (jE o)else bif fg t 41 then pU ag (λn _=>Q n) o else Q o) l
theorem sC:∀(l:#[g])(o:Nat),oI l o=cR l o
 |[],o=>by show fg o 0=((o:Int)==0);rw[mM];simp
 |t::l,o=>by
  show(bif fg t _ then oI l _ else bif fg t _ then pU _ (λn _=>oI l n) o else oI l o)=#[lT,cR l _,(o:Int)-#[bg]<0,cR l _,cR l o];rw[qs,qs];split;.rw[sC l];rfl
  .split;.cases o with|zero=>rfl|succ n=>rw[show#[I,n+1]-#[bg]=n by omega];exact sC l n
   .exact sC l o
def oK(t:Nat):Bool:=bif fg t 40 then ae else fg t 41
theorem AI(t:Nat):oK t=eb t:=by unfold oK eb;rw[qm,qm];cases t==40<;>rfl
def xV(f0:#[i])(p:Nat)(i:Nat):Nat:=pU 0 (λi Q=>bif fg (eT f0 i) 40 then bif oI ((f0.take p).drop i) 0 then i else Q else Q) i
theorem Oa(f0:#[g])(p:Nat):∀i,xV f0 p i=hN f0 p i|0=>rfl|i+1=>by show(bif fg _ _ then bif oI _ 0 then i else xV _ _ i else xV _ _ i)=if f0.getD i 0==40&&cR _ _ then i else hN _ _ i;rw[qs,Oa _ _ i,sC,jU];cases f0.getD i 0==40 with|true=>cases cR _ _<;>rfl|false=>rfl
def yg(f0:#[i])(p:Nat):#[i]:=fN (xV f0 p p) λs=>fL (((aR (p+1-s)).map (s+·)).filter λk=>!oK (eT f0 k)) λP=>fL (xT (P.map (eT f0))) λg=>P.foldl (λo k=>o.set k (eT g (Nat.mod (bif fg (eT f0 p) (eT g 0)then Nat.sub (yS (oS (eT f0 k) g) g.length) 1 else jE (oS (eT f0 k) g)) g.length))) f0
theorem aeo(f0:#[g])(p:Nat):yg f0 p=mI f0 p:=by unfold yg;simp only[oQ,qz,Oa,AI,funext (jU f0),Dz,jU,qs,sZ];rfl
def qx(l:#[i]):#[i]->Bool:=iF (λm=>m.isEmpty) (λa _ Q m=>iF ag (λb r _=>bif fg a b then Q r else ag) m) l
theorem Bn:∀l m:#[g],qx l m=(l==m)|[],[]=>rfl|[],_::_=>rfl|_::_,[]=>rfl|a::l,b::m=>by show(bif fg a b then qx l m else ag)=_;rw[Bn l m,qm];simp
end
def bG(U:#[i]):#[i]:=(aR U.length).filter λp=>!eb (U.getD p 0)
def bf(n:Nat)(U:#[i]):#[i]:=(aR n).filter λk=>U.getD (#[cK,U]-1) 0==41
def bc:#[i]->List (List Nat)|[]=>[[]]|k::r=>(bc r).flatMap λH=>[H,k::H]
def nU(l U:#[i]):#[i]->Bool|[]=>ae|k::r=>nU l U r&&(bc r).all λH=>mI #[e4] ((bG U).getD k 0)==#[iX,k::H]
def er(o:#[i])(n:Nat):Nat:=((aR (n-1)).map λk=>if o.getD #[u] 0<o.getD k 0 then 2^k else 0).foldl (·+·) 0
def oM(l U:#[i]):#[i]:=(bc (bf l.length U)).foldl (λc H=>c.set (er (#[e4].filter #[gx]) l.length) (c.getD (er (#[e4].filter #[gx]) l.length) 0+1)) (cO (2^(l.length-1)) 0)
def vu:#[i]->#[i]->#[i]|[],m=>m|a::l,[]=>a::l|a::l,b::m=>(a+b)::vu l m
def xi(c:#[i])(a b:Nat):#[i]:=vu (cO a 0++c) (cO b 0++c)
def nN(l U:#[i]):#[i]:=(bf l.length U).foldl (λc k=>xi c (2^(k-1)) #[aa,U.getD (#[cK,U]+1) 0==40,2^k,0]) [1]
def jR(U:#[i])(k:Nat):Nat:=#[cb,U.getD (#[cK,U]+1) 0,40,2^k,2^(k-1)]
def pn:Nat->#[i]->List (List Nat)|0,_=>[[]]|n+1,u=>(aR (n+1)).flatMap λd=>(pn n (u.eraseIdx d)).map λr=>u.getD d 0::r
def mw(u:#[i])(m:Nat):#[i]:=((aR u.length).filter λb=>(m>>>b)&&&1 !=0).map λb=>u.getD b 0
def Dc(l:#[i]):Bool:=nU l #[bK] #[i5]&&(oM l #[bK]==nN l #[bK]++cO (2^(l.length-1)-(nN l #[bK]).length) 0)&&(#[i5].all λk=>#[aB,1<=k/\jR #[bK] k<=8])&&cR #[bK] #[bh]&&decide ((bG (az l.length l 0 [])).length=l.length/\(az l.length l 0 []).length=3*l.length/\(az l.length l 0 []).getD 0 0=40/\((bf l.length (az l.length l 0 [])).map (jR (az l.length l 0 []))).foldr (·+·) 0<=15)&&((bG #[bK]).all λp=>#[aB,1<=p/\p+1<#[bK].length])&&((bc (bf l.length #[bK])).all λH=>(#[e4].all λt=>t==40||t==41||#[aB,97<=t/\t<=101])&&((bG #[bK]).all λp=>!eb (#[e4].getD p 0))&&#[aB,#[e4].length=3*l.length/\#[s,#[e4].filter,#[gx]]=l.length])&&((aR #[s,bc,#[i5]]).all λm=>(bc (bf l.length #[bK])).getD m []==mw (bf l.length #[bK]) m)
noncomputable section
def DA(U:#[i]):#[i]:=(aR U.length).filter λp=>!oK (eT U p)
theorem acd(U:#[g]):DA U=bG U:=by unfold DA;simp only[AI,jU];rfl
def BO(n:Nat)(U P:#[i]):#[i]:=(aR n).filter λk=>fg (eT U (Nat.sub (eT P k) 1)) 41
theorem Wo(n:Nat)(U:#[g]):BO n U (bG U)=bf n U:=by unfold BO;simp only[qm,jU];rfl
def DW(n:Nat)(l P:#[i]):#[i]->Bool:=iF ae λk r Q=>bif Q then(bc r).all (λH=>fL (oN n l H) λf0=>qx (yg f0 (eT P k)) (oN n l (k::H)))else ag
theorem OK(l U:#[g]):∀r,DW l.length l (bG U) r=nU l U r|[]=>rfl|k::r=>by show(bif DW _ l _ r then(bc r).all (λH=>fL _ λf0=>qx (yg _ (eT _ k)) _)else ag)=(nU l _ r&&_);rw[OK l _ r];simp only[qz,Bn,aeo,jU,IK];cases nU l _ r<;>rfl
def Ct(o:#[i])(n:Nat):Nat:=(aR (n-1)).foldl (λs k=>yS s (bif pR (eT o k) (eT o (jE k))then 0 else zU 2 k)) 0
theorem Yl(o:#[g])(n:Nat):Ct o n=er o n:=by
 unfold Ct er;rw[PX];congr 1;funext s k;rw[sL,jU,jU];by_cases h:o.getD k 0<=o.getD #[u] 0;.rw[if_pos h,if_neg (bP.mpr h)]
 .rw[if_neg h,if_pos (zb.mp h)];rfl
def BI(U P:#[i])(k:Nat):Nat:=bif fg (eT U (jE (eT P k))) 40 then zU 2 k else zU 2 (Nat.pred k)
theorem JY(U:#[g]):BI U (bG U)=jR U:=by funext k;unfold BI jR;rw[qs,jU,jU];rfl
def BR(U P u:#[i]):#[i]:=u.foldl (λc k=>xi c (zU 2 (Nat.pred k)) (bif fg (eT U (jE (eT P k))) 40 then zU 2 k else 0)) [1]
theorem Kc(l U:#[g]):BR U (bG U) (bf l.length U)=nN l U:=by unfold BR nN;simp only[qs,jU];rfl
def xB(l:#[i]):Bool:=fL l λl=>fN l.length λn=>fL (oN n l []) λU=>fL (DA U) λP=>fL (BO n U P) λu=>DW n l P u&&qx ((bc u).foldl (λc H=>fN (Ct ((oN n l H).filter λt=>!oK t) n) λm=>fL (c.set m (jE (eT c m))) λc=>c) (cO (2^(n-1)) 0)) (fL (BR U P u) λA=>A++cO (2^(n-1)-A.length) 0)&&(u.all λk=>#[aB,1<=k/\BI U P k<=8])&&oI U 0&&decide (P.length=n/\U.length=3*n/\U.getD 0 0=40/\(u.map (BI U P)).foldr (·+·) 0<=15)&&(P.all λp=>#[aB,1<=p/\p+1<U.length])&&((bc u).all λH=>fL (oN n l H) λf0=>(f0.all λt=>fg t 40||fg t 41||#[aB,97<=t/\t<=101])&&(P.all λp=>!oK (eT f0 p))&&#[aB,f0.length=3*n/\#[s,f0.filter,λt=>!oK t]=n])&&((aR #[s,bc,u]).all λm=>qx ((bc u).getD m []) (mw u m))
theorem aaf(l:#[g]):xB l=Dc l:=by unfold xB;simp only[qz,oQ,IK,acd,Wo,Kc,JY,OK,Bn,Yl,AI,sC,qm,jU];rfl
end
theorem aah:(pn 4 [97,98,99,100]).all xB=ae:=by kernel_rfl
theorem aai:(pn 5 [97,98,99,100,101]).all xB=ae:=by kernel_rfl
noncomputable def vE:#[y]:=by run_tac av.de ["_law_traded"]
noncomputable def tD:bt:=by run_tac av.df ["_law_traded"]
theorem YX:iA tD 2=ae:=#[p]
def Cd:aT:=by run_tac av.gC ["_law_traded"] [2,1,2,0,1]
def ra(c P:ao):fJ:=⟨c,P,KP Cd,"<lambda>","_law_traded.<locals>.<lambda>"⟩
theorem Wc:iD (KO Cd) [] (KQ Cd) [] 1 where
 bind:=by rintro⟨⟩Z N a0 T y;dsimp at N a0 T;subst N a0 T;match Z,y with|[a],_=>rfl
 ok:=#[p]
 kind:=rfl
 co:=rfl
 gen:=rfl
 nA:=by simp
 qF:=rfl
section
variable{B:Bs}{w:aD}{d0 g0:#[n]}
theorem aep(F:#[w])(G:#[W]){c P:ao}(u:bb B 324 tD 2 vE [ra c P]){M:#[cY]}(E:hC M)(f0:#[i])(A:Nat)(v1:1<=A)(k0:A<f0.length)(O0:f0.length<=30)(p0:eb (f0.getD A 0)=ag)(R0:∀i,Fn B w 4 260 #[hc,bj [] #[oj]] (.atom (.bool (cR ((f0.take A).drop i) #[bh])))):Fn B w 5 324 [#[fm],#[cB,(A:Nat)]] #[eQ,#[cD,(mI f0 A).map]]:=by
 refine#[fq,YX];have q0:aH w 4 (bM .Sub) #[be,A] #[be,1] #[be,A-1]:=by have:=St.sub (w:=w) (n:=4) (i:=(A:Int)) (j:=#[bt]);rwa[show((A:Int)-#[bt])=#[I,A-1]by omega]at this
 have F1:#[ba,ah,#[cD,f0.map]]:=by simp only[dw,ah,aQ];omega
 have x0:∀(r:#[i])(k:Nat),k<r.length->br (ah (r.map (ay M))) #[b4]=#[K,ay M (r.getD k 0)]:=λr k h=>by unfold br;rw[ih (by simpa[ah]using h)];simp[ah,bD h,ef]
 run_tac av.aJ
 have i0:∀(X:#[B])(H:#[l]),(H=[#[fm]]\/H=[#[fm],.list X])->aj B w 4 (eG tD #[s,dy,[D.list (ah #[cD,f0.map]),D.atom (V.int #[I,A])]] [ra c P]) (vE.drop 1) [#[bi],#[v,A],#[v,hN f0 A A],ab,ab,ab,ab,ab,ab,ab,ab,ab,ab] H (dB #[s,dy,[D.list (ah #[cD,f0.map]),D.atom (V.int #[I,A])]] #[eQ,#[cD,(mI f0 A).map]]):=by
  intro X H Z;have I:mI f0 A=(nR f0 (hN f0 A A) A).foldl (λo k=>o.set k (ix f0 (sX f0 (hN f0 A A) A) A k)) f0:=rfl;have B1:=Oc f0 A A;rw[I];generalize hN f0 A A=n at*;generalize c1:nR f0 n A=c0;have b1:c0.length<=30:=by rw[<-c1];unfold nR;exact aI (ug _ _) (by simp;omega)
  have w0:∀k∈c0,n<=k/\k<=A/\eb #[d8]=ag:=λk R=>by rw[<-c1]at R;exact aci R
  have w1:A∈c0:=by rw[<-c1];unfold nR;rw[jA];exact⟨bK.mpr ⟨A-n,#[D,eN.mpr],by omega⟩,by rw[p0];rfl⟩
  have f1:sX f0 n A=lF (c0.map #[ib]):=by unfold sX;rw[c1]
  generalize sX f0 n A=L at*;have r1:∀k∈c0,f0.getD k 0∈L:=λk R=>by rw[f1,tI];exact bK.mpr #[aA,k,R]
  have z1:∀x∈L,eb x=ag:=λx z=>by rw[f1,tI]at z;obtain⟨k,R,rfl⟩:=bK.mp z;exact(w0 k R).2.2
  have S0:L.length=c0.length:=by rw[f1,NR,aQ]
  have e1:0<L.length:=EI (r1 A w1);generalize p1:(aR (A+1-n)).map (n+·)=t0;have j0:∀k∈t0,k<f0.length:=λk R=>by rw[<-p1]at R;obtain⟨j,p,rfl⟩:=bK.mp R;rw[eN]at p;omega
  have s0:(t0.map #[cR])=(aR (A+1-n)).map λk=>#[dD,n+k]:=by rw[<-p1,gA];rfl
  have l1:∀k,k∈t0->br (ah (f0.map (ay M))) #[b4]=#[K,ay M #[d8]]:=λk R=>x0 f0 k (j0 k R);have A1:∀k,k∈c0->ay M #[d8]=M #[d8]:=λk R=>tw (HR (w0 k R).2.2);have Z0:∀k,k∈c0->br (ah #[cD,f0.map]) #[b4]=#[K,M (f0.getD k 0)]:=λk R=>by rw[<-A1 k R];exact x0 f0 k (by have:=w0 k R;omega)
  have x1:=Z0 A w1;have Y0:#[m6]:=rfl;have J0:hO 307 12 t0 (#[cR]) (λk=>!#[of,#[d8]]) (#[cR]):=trivial;have U0:(t0.filter λk=>!#[of,#[d8]]).map (#[cR])=c0.map #[cR]:=by rw[<-c1,<-p1];unfold nR;congr 1;apply ue;intro k _;exact CU E _
  have C0:hO 308 19 c0 (#[cR]) (λ_=>ae) (λk=>#[en,#[d8]]):=trivial;have n1:(c0.filter λ_=>ae).map (λk=>#[en,#[d8]])=#[dd,c0.map,#[ib],M]:=by rw[#[hA]];unfold ah;rw[gA,gA];rfl
  have m0:#[lD]:=E.at_;have a1:∀c,#[ba,M,c]:=λc=>aI (E.len c) #[j];have I0:sm (c0.map #[ib]) M (#[cp]) (L.map M):=⟨Mine.key,λc _=>E.key c,λx N a0=>by rw[f1];exact NU E x N a0⟩;have y1:=Wc;have o0:#[ba,c0.map,#[cR]]:=by simp only[dw,aQ];omega
  have E0:#[ba,(aR (A+1-n)).map,λk=>#[dD,n+k]]:=by simp only[dw,aQ,gz];omega
  have H0:#[cM,#[bX,L.map]]:=by simp only[dw,ah,aQ];omega
  have T0:#[s,c0.map,#[ib]]<64:=by rw[aQ];omega
  have q1:br #[bX,L.map] #[bh]=#[K,M (L.getD 0 0)]:=by unfold br;rw[ih (by simpa[ah]using e1)];simp[ah,bD e1,ef]
  have b0:(M (f0.getD A 0)==M (L.getD 0 0))=(f0.getD A 0==L.getD 0 0):=by rw[mM,beq_iff_eq,beq_iff_eq];exact⟨λe=>E.inj e,λe=>by rw[e]⟩
  have k1:∀(o:#[i])(k x:Nat),eb x=ag->(ah #[cD,o.map]).set k #[c0,M,x]=ah ((o.set k x).map (ay M)):=λo k x z=>by rw[<-tw (M:=M) (HR z)];unfold ah;rw[um,um]
  have n0:∀(l:#[i])(o:#[i]),#[a5,(l.foldl (λo k=>o.set k (ix f0 L A k)) o),o.length]:=λl=>by induction l with|nil=>intro o;rfl|cons a r Q=>intro o;rw[ee,Q,yJ]
  have g1:∀k,k∈c0->#[fy,L.idxOf]<L.length:=λk R=>pM.mpr (r1 k R);have G0:∀k,k∈c0->(L.map M).findIdx? (·==M (f0.getD k 0))=aa (L.idxOf #[d8]):=λk R=>wy (λe=>E.inj e) (r1 k R);have j1:#[bX,L.map].length<2^62:=by simp only[ah,aQ];omega
  have G1:#[a5,#[bX,L.map],L.length]:=by simp[ah]
  have C1:∀j,j<L.length->#[gn,#[bX,L.map],j,M (L.getD j 0)]:=λj p=>by unfold br;rw[ih (by simpa[ah]using p)];simp[ah,bD p,ef]
  have u0:∀j,j<L.length->eb (L.getD j 0)=ag:=λj p=>z1 _ (mu p);have E1:∀o:#[i],o.length=f0.length->#[ba,ah,#[cD,o.map]]:=λo g=>by simp only[dw,ah,aQ];omega
  have d1:∀(Y J:#[l])(L1:Int)(q S J1:Nat),True:=λ_ _ _ _ _ _=>trivial
  cases m1:(f0.getD A 0==L.getD 0 0)with
  |true=>
   rw[m1]at b0
   have H1:∀i,i<L.length->aH w 4 (bM .Mod) #[U,#[I,i]+-#[bt]] #[be,L.length] #[be,(i+L.length-1)%L.length]:=λi b=>by
    have h:=St.mod (w:=w) (n:=4) (i:=#[I,i]+-#[bt]) (j:=#[I,L.length]) #[f]
    have e:(#[I,i]+-#[bt]).fmod #[I,L.length]=#[I,(i+L.length-1)%L.length]:=by
     rw[En _ #[f]];have:(#[I,i]+-#[bt])=#[I,i+L.length-1]-#[I,L.length]:=by omega
     rw[this,Int.sub_emod_right];rfl
    rw[e]at h;exact h
   have N0:∀k,ix f0 L A k=L.getD ((#[fy,L.idxOf]+L.length-1)%L.length) 0:=λk=>by unfold ix;rw[m1];rfl
   have y0:∀i,(i+L.length-1)%L.length<L.length:=λi=>ht _ e1;rcases Z with rfl|rfl
   .run_tac av.aJ
    refine#[k3,1,#[lk,#[fm]],#[ar],#[ad,3],-#[bt],#[ad,4],#[lk,#[T,#[cD,e0.map]]]];.run_tac av.aJ
    .rintro k v s⟨y,e0,rfl,_,rfl⟩;exact#[aG,bx rfl]
    .rintro m x v s z⟨y,e0,rfl,l0,rfl⟩_ _;rw[cg]at z;obtain⟨k,R,rfl⟩:=dW.mp z;have A0:k∈c0:=bz R;have o1:#[lS]:=by rw[l0];exact n0 _ _
     have i1:=w0 k A0;have s1:k<#[s,ah,#[cD,e0.map]]:=by simp only[ah,aQ];omega
     have N:=g1 k A0;have a0:=y0 (L.idxOf #[d8]);have T:=#[le];run_tac av.aJ
     refine#[li,#[fy,L.idxOf]+L.length-1];.rw[tN R,mV,<-l0];show#[lp];rw[N0]
     .rw[<-T]
    .rintro v s⟨y,e0,rfl,l0,rfl⟩;rw[aQ,hs]at l0;rw[<-l0];run_tac av.aJ
     all_goals simp[ah,bU]
   .run_tac av.aJ
    refine#[k3,2,#[lb,#[fm]],#[ad,2],#[ad,4],-#[bt],#[ad,5],#[lb,#[T,#[cD,e0.map]]]];.run_tac av.aJ
    .rintro k v s⟨y,e0,rfl,_,rfl⟩;exact#[aG,bx rfl]
    .rintro m x v s z⟨y,e0,rfl,l0,rfl⟩_ _;rw[cg]at z;obtain⟨k,R,rfl⟩:=dW.mp z;have A0:k∈c0:=bz R;have o1:#[lS]:=by rw[l0];exact n0 _ _
     have i1:=w0 k A0;have s1:k<#[s,ah,#[cD,e0.map]]:=by simp only[ah,aQ];omega
     have N:=g1 k A0;have a0:=y0 (L.idxOf #[d8]);have T:=#[le];run_tac av.aJ
     refine#[li,#[fy,L.idxOf]+L.length-1];.rw[tN R,mV,<-l0];show#[lp];rw[N0]
     .rw[<-T]
    .rintro v s⟨y,e0,rfl,l0,rfl⟩;rw[aQ,hs]at l0;rw[<-l0];run_tac av.aJ
     all_goals simp[ah,bU]
  |false=>
   rw[m1]at b0;have N0:∀k,ix f0 L A k=L.getD ((#[fy,L.idxOf]+1)%L.length) 0:=λk=>by unfold ix;rw[m1];rfl
   have y0:∀i,(i+1)%L.length<L.length:=λi=>ht _ e1;rcases Z with rfl|rfl
   .run_tac av.aJ
    refine#[k3,1,#[lk,#[fm]],#[ar],#[ad,3],#[bt],#[ad,4],#[lk,#[T,#[cD,e0.map]]]];.run_tac av.aJ
    .rintro k v s⟨y,e0,rfl,_,rfl⟩;exact#[aG,bx rfl]
    .rintro m x v s z⟨y,e0,rfl,l0,rfl⟩_ _;rw[cg]at z;obtain⟨k,R,rfl⟩:=dW.mp z;have A0:k∈c0:=bz R;have o1:#[lS]:=by rw[l0];exact n0 _ _
     have i1:=w0 k A0;have s1:k<(ah (e0.map (ay M))).length:=by simp only[ah,aQ];omega
     have N:=g1 k A0;have a0:=y0 (L.idxOf #[d8]);have T:=#[le];run_tac av.aJ
     refine#[li,#[fy,L.idxOf]+1];.rw[tN R,mV,<-l0];show#[lp];rw[N0]
     .rw[<-T]
    .rintro v s⟨y,e0,rfl,l0,rfl⟩;rw[aQ,hs]at l0;rw[<-l0];run_tac av.aJ
     all_goals simp[ah,bU]
   .run_tac av.aJ
    refine#[k3,2,#[lb,#[fm]],#[ad,2],#[ad,4],#[bt],#[ad,5],#[lb,#[T,#[cD,e0.map]]]];.run_tac av.aJ
    .rintro k v s⟨y,e0,rfl,_,rfl⟩;exact#[aG,bx rfl]
    .rintro m x v s z⟨y,e0,rfl,l0,rfl⟩_ _;rw[cg]at z;obtain⟨k,R,rfl⟩:=dW.mp z;have A0:k∈c0:=bz R;have o1:#[lS]:=by rw[l0];exact n0 _ _
     have i1:=w0 k A0;have s1:k<#[s,ah,#[cD,e0.map]]:=by simp only[ah,aQ];omega
     have N:=g1 k A0;have a0:=y0 (L.idxOf #[d8]);have T:=#[le];run_tac av.aJ
     refine#[li,#[fy,L.idxOf]+1];.rw[tN R,mV,<-l0];show#[lp];rw[N0]
     .rw[<-T]
    .rintro v s⟨y,e0,rfl,l0,rfl⟩;rw[aQ,hs]at l0;rw[<-l0];run_tac av.aJ
     all_goals simp[ah,bU]
 refine aj.gX (i:=2) (X:=(aR (A-1+1)).map λk=>#[dD,A-1-k]) (C:=λ_=>True) (b0:=[#[fm]]) (c:=λk v s=>∃y,v=[#[bi],#[v,A],y,ab,ab,ab,ab,ab,ab,ab,ab,ab,ab]/\(0<k->y=aa (.int #[I,A-k]))/\s=[#[fm]]/\hN f0 A A=hN f0 A (A-k)) ?_ rfl #[aU] #[du,ab,rfl,λh=>absurd h #[f],rfl] ?_ ?_ ?_ #[am];.run_tac av.aJ
 .rintro k v s⟨y,rfl,_⟩;exact#[gs,bx rfl]
 .rintro k x v s z⟨y,rfl,_,rfl,Z⟩_ _;rw[cg]at z;obtain⟨j,p,rfl⟩:=dW.mp z;obtain⟨X0,h1⟩:=bw.mp p;rw[yH]at h1;subst h1;rw[gz]at X0;have b:A-k=(A-1-k)+1:=by omega
  have M0:A-#[u]=A-1-k:=by omega
  generalize u1:A-1-k=i at*;have r0:cJ (ah (f0.map (ay M))) (aa #[I,i]) (aa #[I,A])=#[dd,(f0.take A).drop,i,ay M]:=by rw[NJ];simp[ah,yK,uj,yF]
  have U:=x0 f0 i #[f];have h0:=CV E (f0.getD i 0);rw[b]at Z;have O:hN f0 A (i+1)=if f0.getD i 0==40&&cR ((f0.take A).drop i) #[bh]then i else hN f0 A i:=rfl;rw[O]at Z;have d:=R0 i;have v0:#[hD,#[oj].map,#[oj].length,[]]:=by have:=ri (l:=((f0.take A).drop i).map (ay M)) (m:=64) #[bO,by obtain⟨t,_,rfl⟩:=bK.mp z;exact xy E t];simp only[aQ,dj,bI,eI,za,rK,dw]at this⊢;omega
  cases F0:(f0.getD i 0==40)with
  |false=>
   rw[F0]at h0 Z;run_tac av.aJ
   exact .inl ⟨_,rfl,λ_=>by rw[M0],rfl,by rw[M0];exact Z⟩
  |true=>rw[F0]at h0 Z;cases Q0:cR ((f0.take A).drop i) #[bh]with
  |false=>
   rw[Q0]at Z d;run_tac av.aJ
   refine .inr ⟨1,aP _,Io #[aJ] ?_ ?_,_,rfl,λ_=>by rw[M0],rfl,by rw[M0];exact Z⟩;.simp[bA]
   .simp[fu,ah,bA]
  |true=>rw[Q0]at Z d;have t1:hN f0 A A=i:=Z;rw[t1]at i0;run_tac av.aJ
 .rintro v s⟨y,rfl,f,rfl,Z⟩;rw[aQ,gz]at Z f;have C:A-(A-1+1)=0:=by omega
  rw[C]at Z f;have t1:hN f0 A A=0:=Z;rw[t1]at i0;have L0:=#[D,f];subst L0;have I1:=i0 [] _ #[aU];clear i0;run_tac av.aJ
end
noncomputable def vC:#[y]:=by run_tac av.de ["_law_spelled"]
noncomputable def tC:bt:=by run_tac av.df ["_law_spelled"]
theorem YV:iA tC 2=ae:=#[p]
def qy(w:Tx):Tx:=w.flatMap λc=>[92]++[c]
def nD(w:Tx):Tx:=w.flatMap λc=>#[is]
def fm:Tx->Nat->Tx|w,2=>qy w|w,1=>[34]++nD w++[34]|[],_=>[]|c::r,_=>#[aa,#[ia],[92],[]]++[c]++lZ 92 r
theorem jV:#[eB,bj [] l=l.flatten]|[]=>rfl|[x]=>by simp[bj]|x::y::r=>by show x++[]++bj _ _=_;rw[jV _];simp
theorem Bp:∀w:Tx,#[s,nD,w]<=2*w.length
 |[]=>aP _
 |c::r=>by
  have Q:=Bp r;unfold nD at Q⊢;rw[mU,aY,cq];generalize(PU _ r).length=k at Q⊢;split;.show 2+k<=_;omega
  .show 1+k<=_;omega
theorem vV(c:Nat):∀w:Tx,#[aX,(lZ c w),2*w.length]|[]=>aP _|k::r=>by have Q:=vV c r;unfold lZ;split<;>simp<;>omega
section
variable{B:Bs}{w:aD}{d0 g0:#[n]}
theorem ace(F:#[w])(G:#[W])(u:bb B 314 tC 2 vC)(b:Tx)(e:Nat)(a:b≠[])(y:b.length<=64)(k:e<=2):Fn B w 2 314 [.atom (.str b),#[cB,(e:Nat)]] (.atom (.str (fm b e))):=by
 refine#[fq,YV];have n:b.length<=aC:=by rw[dw];omega
 have h:#[ba,b.map,#[fK]]:=#[Y]
 match e,k with
  |2,_=>
   have I:hO 281 23 b (λc=>#[dR]) (λ_=>ae) (λc=>V.str ([92]++[c])):=trivial;have m:(b.filter λ_=>ae).map (λc=>V.str ([92]++[c]))=ah (b.map λc=>[92]++[c]):=by rw[#[hA]];simp[ah]
   have Z:#[hD,(b.map λc=>([92]++[c]:Tx)).map,#[s,b.map,λc=>([92]++[c]:Tx)],[]]:=by have:=ri (l:=b.map λc=>([92]++[c]:Tx)) (m:=2) #[bO,by obtain⟨c,_,rfl⟩:=bK.mp z;simp];rw[dw];simp only[aQ,eI,za]at this⊢;omega
   have f:bj [] (b.map λc=>([92]++[c]:Tx))=fm b 2:=by rw[jV];simp[fm,qy,PU]
   run_tac av.aJ
  |1,_=>
   have I:hO 283 29 b (λc=>#[dR]) (λ_=>ae) (λc=>if#[ia]then V.str ([92]++[c])else#[dR]):=trivial;have m:(b.filter λ_=>ae).map (λc=>if#[ia]then V.str ([92]++[c])else#[dR])=ah (b.map λc=>#[is]):=by rw[#[hA]];unfold ah;rw[gA];apply mX;intro c _;simp only[Function.comp];split<;>rfl
   have d:∀c:Nat,bU (if#[ia]then V.str ([92]++[c])else#[dR])=ae:=λc=>by split<;>rfl
   have Z:#[hD,(b.map λc=>(#[is]:Tx)).map,#[s,b.map,λc=>(#[is]:Tx)],[]]:=by have:=ri (l:=b.map λc=>(#[is]:Tx)) (m:=2) #[bO,by obtain⟨c,_,rfl⟩:=bK.mp z;split<;>simp];rw[dw];simp only[aQ,eI,za]at this⊢;omega
   have f:bj [] (b.map λc=>(#[is]:Tx))=nD b:=by rw[jV];rfl
   have i:fm b 1=[34]++nD b++[34]:=by unfold fm;rfl
   rw[i];have g:#[s,nD,b]<=128:=by have:=Bp b;omega
   run_tac av.aJ
   all_goals(simp only[dw,aY,cq,eI];omega)
  |0,_=>
   obtain⟨c,r,rfl⟩:∃c r,b=c::r:=by cases b with|nil=>exact#[dp,a]|cons c r=>exact#[aA,c,r]
   have H:br (c::r) #[bh]=aa c:=by unfold br;rw[ih (by simp)];rfl
   have L:cJ (c::r) (aa (1:Int)) ab=r:=pw (c::r) 1;have j:∀t:Tx,(qb (cI t) (ak "\\") (ak "\\\\")).cps.toList=lZ 92 t:=λt=>by have:=StrLaws.replace_double (cI t) 92;rw[Ys]at this;exact this
   have l:r.length+(r.length+1)*#[s,ak,"\\\\"]<=16777216:=by have:#[s,ak,"\\\\"]=2:=rfl;rw[this];simp only[cq]at y;omega
   have i:fm (c::r) 0=#[aa,#[ia],[92],[]]++[c]++lZ 92 r:=by unfold fm;rfl
   rw[i];have g:#[aX,(lZ 92 r),128]:=by have:=vV 92 r;simp only[cq]at y;omega
   cases X:#[ia]with
   |true=>
    run_tac av.aJ
    all_goals(simp only[dw,aY,cq,eI];omega)
   |false=>
    run_tac av.aJ
    all_goals(simp only[dw,aY,cq,eI];omega)
end
def gU:#[cY]|0=>[]|1=>#[eK]|2=>[92,41]|3=>#[fX]|4=>[92,92,59]|_=>[92,34]
def oJ:#[cY]|0=>[]|1=>[]|2=>[92,41]|3=>[]|4=>[92,92,59]|_=>[92,34]
def aF(M:#[ae])(c:Nat):Tx:=gU (M c)++[c]
def eL(M:#[ae])(t:Nat):Tx:=if t=40\/t=41 then[t]else oJ (M t)++[t]
def hI(t:Nat):Prop:=t≠92/\t≠34
theorem kF(M:#[ae]):hC (aF M)where
 last:=λc=>#[bu]
 len:=λc=>by
  unfold aF;have:#[aX,(gU (M c)),5]:=by unfold gU;split<;>simp
  simp;omega
theorem jq(x:Tx)(l:#[g]):bj [] (x::l)=x++bj [] l:=by rw[jV,jV];rfl
theorem mr(h:c≠92)(i:Nat)(r:Tx):be i ag (c::r)=(i,[c])::be (i+1) ag r:=by simp[be,h]
theorem wk(c i:Nat)(r:Tx):be i ag (92::c::r)=(i+1,[92,c])::be (i+2) ag r:=#[p]
theorem vP(M:#[ae]):∀(f0:#[i])(i:Nat)(o:Int),(#[dF,f0])->fi (be i ag (bj [] (f0.map (eL M)))) o=cR f0 o
 |[],i,o,_=>rfl
 |t::r,i,o,h=>by
  have N:=h t fU;have a0:=λx z=>h x (dO _ z);rw[dk,jq];by_cases Z:t=40\/t=41
  .rcases Z with rfl|rfl;.exact vP M r (i+1) _ a0
   .show(if o-#[bg]<(0:Nat)then ag else fi _ _)=if o-#[bg]<(0:Nat)then ag else cR r _;split;.rfl
    .exact vP M r (i+1) _ a0
  .have I:eL M t=oJ (M t)++[t]:=by unfold eL;rw[if_neg Z]
   have n:cR (t::r) o=cR r o:=by
    have F:(t==40)=ag:=by rw[beq_eq_false_iff_ne];exactλe=>Z (.inl e)
    have d:(t==41)=ag:=by rw[beq_eq_false_iff_ne];exactλe=>Z (.inr e)
    show(#[cb,t,40,_,#[cb,t,41,_,cR r o]])=_;rw[F,d];rfl
   have a:∀j,fi (be j ag #[lK]) o=cR r o:=λj=>by
    rw[uu,mr N.1,Ic];have F:([t]==[40])=ag:=by rw[beq_eq_false_iff_ne];intro e;exact Z (.inl (by simpa using e))
    have d:([t]==[41])=ag:=by rw[beq_eq_false_iff_ne];intro e;exact Z (.inr (by simpa using e))
    rw[F,d];exact vP M r (j+1) o a0
   rw[I,n,du];unfold oJ;split;.exact a i
   .exact a i
   .exact a (i+2)
   .exact a i
   .exact a (i+2+1)
   .exact a (i+2)
structure kG(a P:Tx)(f:lp)(b:Tx):Prop where
 hJ:f.hJ=ab
 le:f.start<=P.length
 val:bj [] f.res++P.drop f.start=b
theorem BY(l:#[g])(x:Tx):bj [] (l++[x])=bj [] l++x:=by rw[jV,jV];simp
theorem kG.plain(h:kG a P f b)(x:Tx):kG a (P++x) f (b++x):=⟨h.hJ,by rw[aY];exact aI h.le (ip _ _),by rw[oe h.le,<-du,h.val]⟩
theorem kG.quote(h:kG a P f b)(I:a=P++q++R):kG a (P++q) #[mJ,P.length+q.length,P.length,aa f.start,aa P.length] b:=by
 refine#[bN,rfl,#[z]];rw[ED (by simp),gy];have u:cJ a (aa f.start) (aa P.length)=P.drop f.start:=by rw[NJ,I,du,oe h.le,lN (by simp)];exact iG (by simp)
 show bj _ #[aa,f.start !=P.length,_,_]=b;by_cases S:f.start=P.length;.rw[S,bne_self_eq_false];have:=h.val;rw[S,rB,gy]at this;exact this
 .rw[bne_iff_ne.mpr S,#[cw],BY,u,h.val]
theorem mJ{q:Nat×Tx}(h:q.2≠[34]):eZ a f q=f:=by unfold eZ;simp_all
theorem DY(h:f.hJ=ab):eZ a f (i,[34])={f with hJ:=aa i}:=by unfold eZ;rw[h];rfl
theorem OO{f:lp}:eZ a {f with hJ:=aa p} (i,[34])=#[mJ,i+1,p,aa f.start,aa p]:=rfl
theorem Oq(h:kG a a f b):hh a f=b:=by
 unfold hh;by_cases y:f.start<a.length;.rw[if_pos y,BY,pw,h.val]
 .rw[if_neg y];have:=h.val;rw[#[D,ED],gy]at this;exact this
theorem DL(M:#[ae])(a J:Tx)(F:Tx->Tx)(A:∀(P:Tx)(f:lp)(e:Tx),a=P++J->kG a P f e->#[ma,J,e]):∀(f0:#[i])(P:Tx)(f:lp)(e:Tx),(#[dF,f0])->a=P++(bj [] (f0.map #[b5])++J)->kG a P f e->#[ma,bj [] (f0.map #[b5])++J,e++#[ki]]
 |[],P,f,e,_,I,h=>by rw[pN,pN,#[co,bj [] []=([]:Tx)],gy];exact A P f e I h
 |t::r,P,f,e,n0,I,h=>by
  have N:=n0 t fU;have a0:∀x∈r,hI x:=λx z=>n0 x (dO _ z);have o:∀(x:Nat),([x]:Tx)≠[34]↔x≠34:=λx=>by simp
  have s:∀(x y:Nat),([x,y]:Tx)≠[34]:=λx y=>by simp
  rw[dk,jq,du]at I;rw[dk,dk,jq,jq,du];generalize b:bj [] (r.map #[b5])++J=R at*;have L:∀(E:Tx)(p:lp)(g:Tx),a=E++#[cH]->kG a E p g->hh a #[h9,E.length,#[cH],p]=F (g++#[lK]):=λE p g k l=>by have Q:=DL M a J F A r (E++[t]) p (g++[t]) a0 (by rw[b,k];simp) (l.plain [t]);rw[b,aY]at Q;rw[uu,mr N.1,ee,mJ ((o t).mpr N.2)];rw[<-du g];exact Q
  by_cases Z:t=40\/t=41
  .have c:ay (aF M) t=[t]:=by unfold ay;rw[if_pos Z]
   have d:eL M t=[t]:=by unfold eL;rw[if_pos Z]
   rw[c]at I⊢;rw[d];exact L P f e I h
  .have c:ay (aF M) t=gU (M t)++[t]:=by unfold ay;rw[if_neg Z];rfl
   have d:eL M t=oJ (M t)++[t]:=by unfold eL;rw[if_neg Z]
   rw[c,du]at I⊢;rw[d,du];have m:∀q:Tx,a=P++(q++#[cH])->hh a #[h9,(P++q).length,#[cH],#[mJ,P.length+q.length,P.length,aa #[I,f.start],aa #[I,P.length]]]=F (e++#[lK]):=λq O=>L (P++q) _ e (by rw[O];simp) (h.quote (R:=[t]++R) (by rw[O];simp));have j:∀q:Tx,a=P++(q++#[cH])->hh a #[h9,(P++q).length,#[cH],f]=F (e++(q++#[lK])):=λq O=>by rw[<-du e];exact L (P++q) f (e++q) (by rw[O];simp) (h.plain q)
   have i:f={f with hJ:=ab}:=by have:=h.hJ;cases f;simp at this;subst this;rfl
   unfold gU at I⊢;unfold oJ;split at I;.exact L P f e I h
   .have O:=m #[eK] I;show#[ma,34::40::34::#[cH],e++([]++_)];rw[#[aM,mr],#[aM,mr],#[aM,mr],ee,DY h.hJ,ee,mJ ((o 40).mpr #[j]),ee,OO];rw[aY]at O;exact O
   .have O:=j [92,41] I;show hh a #[h9,P.length,92::41::#[cH],f]=_;rw[wk,ee,mJ (s _ _)];rw[aY]at O;exact O
   .have O:=m #[fX] I;show#[ma,34::92::34::41::34::#[cH],e++([]++_)];rw[#[aM,mr],wk,#[aM,mr],#[aM,mr],ee,DY h.hJ,ee,mJ (s _ _),ee,mJ ((o 41).mpr #[j]),ee,OO];rw[aY]at O;exact O
   .have O:=j [92,92,59] I;show hh a #[h9,P.length,92::92::59::#[cH],f]=_;rw[wk,#[aM,mr],ee,mJ (s _ _),ee,mJ ((o 59).mpr #[j])];rw[aY]at O;exact O
   .have O:=j [92,34] I;show hh a #[h9,P.length,92::34::#[cH],f]=_;rw[wk,ee,mJ (s _ _)];rw[aY]at O;exact O
theorem wm:∀(a:Tx)(i:Nat)(e:Bool),∀q∈be i e a,q.2=[34]->34∈a
 |[],i,e,q,O,h=>by cases e<;>simp[be]at O;subst O;simp at h
 |c::r,i,ae,q,O,h=>by
  obtain rfl|O:=bg.mp O;.simp at h
  .exact dO _ (wm r _ _ q O h)
 |c::r,i,ag,q,O,h=>by
  unfold be at O;split at O;.exact dO _ (wm r _ _ q O h)
  .obtain rfl|O:=bg.mp O;.simp_all
   .exact dO _ (wm r _ _ q O h)
theorem JP:∀l:List (Nat×Tx),(∀q∈l,q.2≠[34])->l.foldl (eZ a) f=f|[],_=>rfl|q::l,h=>by rw[ee,mJ (h q fU)];exact JP l λx z=>h x (dO _ z)
theorem xZ(M:#[ae])(f0:#[g])(h:#[dF,f0]):dK #[ja]=#[ki]:=by
 have o:=DL M (bj _ (f0.map (ay _))) _ _ (λP f b I h=>by rw[gy]at I;subst I;exact Oq h) _ [] ⟨0,_,[]⟩ _ h (gy _).symm #[aA,rfl,aP _];rw[gy]at o;unfold dK;split;.exact o
 .rename_i A;rw[JP _ λq O e=>A (wm _ _ _ q O e)]at o;rw[Oq #[aA,rfl,aV _]]at o;exact o
theorem adp(M:#[ae])(f0:#[g])(h:#[dF,f0]):dK (bj [] (f0.map #[b5])++[34])=#[ki]++[34]:=by have o:=DL M (bj _ (f0.map (ay _))++[34]) _ _ (λP f b I h=>by rw[#[co,be _ _ _=[(P.length,[34])]],ee,DY h.hJ];have g:=h.le;rw[I];show bj _ #[aa,f.start<(P++[34]).length,f.res++[cJ _ (aa f.start) _],f.res]=_;rw[if_pos (by rw[aY];exact Nat.lt_succ_of_le g),BY,pw,oe g,<-du,h.val]) _ [] ⟨0,_,[]⟩ _ h rfl #[aA,rfl,aP _];unfold dK;rw[if_pos (uo _ (aZ.mpr rfl))];exact o
theorem Mb(M:#[ae])(f0:#[g])(h:#[dF,f0]):fi #[di,dK (bj [] #[eH,f0.map])] (0:Nat)=cR f0 (0:Nat):=by rw[xZ _ _ h];exact vP _ _ 0 _ h
theorem wU(M:#[ae])(f0:#[g]):#[aX,#[ja],f0.length*64]:=by rw[jV,EH];have:=ri (l:=f0.map (ay (aF M))) #[bO,by obtain⟨t,_,rfl⟩:=bK.mp z;exact xy (kF _) t];rw[aQ]at this;exact this
theorem AB(M:#[ae])(f0:#[g]):#[aX,(bj [] (f0.map (eL M))),f0.length*64]:=by
 rw[jV,EH]
 have:=ri (l:=f0.map (eL M)) (m:=64) #[bO,by
  obtain⟨t,_,rfl⟩:=bK.mp z;unfold eL;split;.simp
  .unfold oJ;split<;>simp]
 rw[aQ]at this;exact this
section
variable{B:Bs}{w:aD}{d0 g0:#[n]}
theorem UI(F:#[w])(G:#[W])(a:bb B 260 qQ 1 vy)(H:bb B 253 qT 1 vD)(b:bb B 246 jZ 1 fK)(M:#[ae])(f0:#[g])(h:#[dF,f0])(y:f0.length<=60):Fn B w 4 260 #[hc,bj [] (f0.map #[b5])] (.atom (.bool (cR f0 (0:Nat)))):=by have N:=wU M f0;have a0:=AB M f0;have u:=dw;have X:=Ib F G a b (w:=w) #[ja] 2 #[f] (by rw[xZ _ _ h];omega) (DK F G H b _ 0 #[f]);rw[Mb _ _ h]at X;exact X
theorem aeq(F:#[w])(G:#[W])(u:bb B 324 tD 2 vE [ra c P])(a:bb B 260 qQ 1 vy)(H:bb B 253 qT 1 vD)(b:bb B 246 jZ 1 fK)(M:#[ae])(f0:#[g])(h:#[dF,f0])(p:Nat)(e:1<=p)(q:p<f0.length)(O:f0.length<=30)(z:eb (f0.getD p 0)=ag):Fn B w 5 324 [#[T,f0.map #[b5]],#[cB,p]] #[eQ,(mI f0 p).map #[b5]]:=aep F G u (kF _) _ _ e q O z λi=>UI F G a H b _ _ (λt n0=>h t (eJ (fI n0))) (by rw[dj,bI];omega)
end
theorem VR.same(h:#[j6])(r:#[bl,x])(b:bA n x):VR j v x:=by cases x with|ob i=>obtain⟨a,e,rfl⟩:=r;exact#[aA,a,(h i b).trans e]|none=>exact r|bool _=>exact r|int _=>exact r|str _=>exact r
theorem bA.le(h:bA n x)(k:n<=m):bA m x:=by cases x with|ob i=>exact ey h k|none=>trivial|bool _=>trivial|int _=>trivial|str _=>trivial
theorem aM.same(h:#[j6])(r:#[a1,Y,X]):(∀x∈X,bA n x)->aM (VR j) Y X:=by induction r with|nil=>exactλ_=>.nil|cons a _ Q=>exactλb=>.cons (a.same h (b _ fU)) (Q λy m=>b y (dO _ m))
def kP(n:Nat)(j0:#[fd])(S:#[t])(o:cp):Prop:=∃j s,o.data=.dict j s/\StrKeys j/\UniqKeys j/\(∀y,#[dV,j0.lookup,y]->vf j y=ab)/\∀y x,j0.lookup y=aa x->∃v,vf j y=aa v/\#[bl,x]/\bA n x
def bS(n:Nat)(j0:#[fd]):Ob:=.rel n (kP n j0) λS j o h⟨a,s,T,E,r,Q,b⟩=>⟨a,s,T,E,r,Q,λy x e=>let⟨v,U,q,w⟩:=b y x e;⟨v,U,q.same h w,w⟩⟩
def lL(n:Nat)(S:#[t]):Option (List V)->lX->Prop|ab,d=>d=.plain|aa X,d=>∃Y k,d=.seq Y k/\#[gc]/\∀x∈X,bA n x
theorem lL.same(h:#[j6])(r:lL n S X d):lL n j X d:=by cases X with|none=>exact r|some X=>obtain⟨Y,k,N,a0,T⟩:=r;exact⟨_,k,N,a0.same h T,T⟩
theorem lL.free(r:lL n S X d):(∀c,d≠.cls c)/\(∀f,d≠.func f)/\(∀f,d≠.fields f)/\(∀j s,d≠.dict j s):=by cases X with|none=>cases r;simp|some X=>obtain⟨Y,k,rfl,a0,T⟩:=r;simp
def Px(n:Nat)(C:ao)(d:Nat)(X:Option (List V))(S:#[t])(o:cp):Prop:=#[dm]/\lL n S X o.data/\d<n/\#[lE]
def dg(n:Nat)(C:ao)(d:Nat)(X:Option (List V)):Ob:=.rel n (Px n C d X) λS j o h⟨N,a0,H,a,T,E⟩=>⟨N,a0.same h,H,a,(h d H).trans T,E⟩
structure cA(e0:Ob)(C:ao)(d:Nat):Prop where
 h:∀(S:#[t])(o:cp),OR S o e0->#[dm]/\(#[iz])/\(∀f,o.data≠.func f)/\(∀f,o.data≠.fields f)/\#[lE]
theorem cA.dg:cA (dg n C d X) C d:=⟨λS o⟨_,N,a0,_,a,T,E⟩=>⟨N,a0.free.1,a0.free.2.1,a0.free.2.2.1,a,T,E⟩⟩
structure hj(B:Bs)(C:ao)(T:String)(v0:#[L])(F M:String)(r0:#[n]):Prop where
 ex:∃l0 q N J0 I0 G0 H0 A0 t0 x0 M0,B.heap.get? C=aa (eE l0 q C N J0 v0 ae [] [] ag I0 G0 H0 A0 t0 x0 M0 F)/\B.heap.Ns N r0/\#[aq,C]/\#[aq,N]
 mro:#[fZ]
 ga:#[lf]
 AO:#[l0]
 ha:#[kl]
 sa:#[ly,T,v0]
 ly:#[hP]
 pd:#[jf]
 YK:r0 "__setattr__"=ab
section
variable{k:ni}{w:aD}{A:aS}{E:#[C]}{h:bo}{g:#[da]}{d:hU}{t:Nat}{h0:gB}
variable{l0 q:aq}{C N x:ao}{J0 v0:#[L]}{i:#[bA]}{P:#[L]}{j:Bool}{I0:#[eA]}{G0:#[a2,ao]}{H0 A0 t0 x0 M0:#[bT]}{F:String}{r0 s0:#[n]}{G:aq}{v:ai}{T:String}
theorem Ya{p0:gn}{Q:#[aI,Fin]}(S:#[fZ])(a:#[g3])(Y:#[dU])(f:r0 G=ab)(l:#[d4,T,G])(I:#[im])(p:s0 G=aa v)(O:Q (.done (.ret v)) #[bw]):#[ep,Builtin.«proto.getattr_hooked» #[ai,[#[az],.str G p0]]]:=by
 obtain⟨o,z,X,u,⟨_,H⟩|⟨L0,J,n,B⟩⟩:=I;.grind
 unfold Builtin.«proto.getattr_hooked»;repeat(first|(with_reducible refine gP z ?_;rw[X])|(with_reducible refine ji a Y S l ?_;rw[f])|wp_step)
 split;.rename_i c b;exact absurd b (u c)
 unfold sb;repeat(first|(with_reducible refine gP z ?_;rw[X])|with_reducible refine gP a ?_|wp_step)
 rw[J];repeat(first|(with_reducible refine nq B.ns ?_;rw[p])|wp_step)
 exact O
theorem Cp(S:#[fZ])(m:#[cI,T,"__getattribute__","object.__getattribute__"])(a:#[g3])(Y:#[dU])(n:#[hP])(f:r0 G=ab)(l:#[d4,T,G])(I:#[im])(p:s0 G=aa v)(M:rZ v=aw v)(O:Q v #[gk]):#[ep,mg #[M,x] G s]:=by
 obtain⟨o,z,X,_⟩:=id I;unfold mg uZ;repeat(first|(with_reducible rw[X])|(with_reducible refine ji a Y S m ?_;rw[n])|wp_step)
 refine si (GP (zF RK (Ya S a Y f l I p ?_)));show#[cT,_];rw[M];exact aA O
theorem kc(S:#[fZ])(a:#[g3])(Y:#[dU])(z:#[cl])(X:#[dm])(l:#[iI])(O:Q (match r0 G with|aa v=>aa v|ab=>y) #[bw]):ax M A #[b3,specialOf,x,G] Q E #[bw]:=by refine#[bd,lk,z];rw[X];exact ji a Y S l O
theorem LF(S:#[fZ])(m:#[lf])(Z:#[l0])(r:#[kl])(a:#[g3])(Y:#[dU])(n:#[hP])(U:#[jf])(v:#[eT,G,f])(C0:#[bv,f,q0])(p:#[gU])(l:#[iI])(I:#[im])(s:s0 G=ab)(O:Q (.ref f,[#[az]]) #[bw]):#[ep,rY #[M,x] G R]:=by
 obtain⟨o,z,X,u,c⟩:=I;refine#[ir,m];rw[n];show#[lL,nh _];rw[Z];refine#[ir,r];rw[U];refine#[ir,l];rw[v];refine#[bd,lk,C0];rw[p];refine#[bd,gP,z];obtain⟨H,_⟩|⟨L0,J,_,B⟩:=c;.rw[H];exact af (hY (aA O))
 .rw[J];refine#[bd,nq,B.ns];rw[s];exact af (hY (aA O))
theorem Yr{e M:String}(S:#[fZ])(m:#[lf])(Z:#[l0])(r:#[kl])(a:#[g3])(Y:#[dU])(n:#[hP])(U:#[jf])(v:r0 G=ab)(l:#[cI,T,G,e])(b:#[l4])(I:#[im])(s:s0 G=ab)(O:Q (#[gA],[#[az]]) #[bw]):#[ep,rY #[M,x] G R]:=by
 obtain⟨o,z,X,u,c⟩:=I;refine#[ir,m];rw[n];show#[lL,nh _];rw[Z];refine#[ir,r];rw[U];refine#[ir,l];rw[v];refine#[cX,b];refine#[bd,gP,z];obtain⟨H,_⟩|⟨L0,J,_,B⟩:=c;.rw[H];exact af (hY (aA O))
 .rw[J];refine#[bd,nq,B.ns];rw[s];exact af (hY (aA O))
end
section
variable{B:Bs}{w:aD}{n m k G0:Nat}{O:Gm}{U:#[o]}{H b0:#[l]}{J:aO}{S:#[t]}{a b c o:aT}{i0 y0 p:ba}
theorem aG.inst(R:#[cx])(a:#[G,S,x])(P:#[cC,H])(l:#[eO])(c:H[d]?=aa (bS k j0))(I:i≠d):∃s0 L0,#[im]/\S[d]?=aa L0/\(∃o,#[cl]/\#[dm]/\o.dict=aa L0/\(∀f,o.data≠.func f)/\(∀f,o.data≠.fields f)/\OR S o e0)/\(∀y,#[dV,j0.lookup,y]->s0 y=ab)/\∀y z,j0.lookup y=aa z->∃v,s0 y=aa v/\#[bl,z]/\bA k z:=by obtain⟨o,N,g⟩:=R.store i x _ a P;obtain⟨a0,T,Q,m,L0,E,r⟩:=l.h S o g;obtain⟨w,b,_,j,s,Z,n,p,q,u⟩:=R.store d _ _ E c;refine⟨_,_,⟨o,N,a0,T,.inr #[Q,r,#[ht,I,a,E],⟨_,_,_,b,Z,n,p,λ_=>rfl⟩]⟩,E,⟨o,N,a0,r,Q,m,g⟩,q,λy z e=>?_⟩;simp_all
theorem wH(h:#[bl,x]):rZ v=aw v:=by cases x with|ob i=>obtain⟨a,_,rfl⟩:=h;rfl|none=>cases h;rfl|bool b=>cases h;rfl|int i=>obtain⟨t,rfl⟩:=h;rfl|str t=>obtain⟨y,k,rfl,_⟩:=h;rfl
theorem Ev.oG{G:aq}(m:#[kE])(g:#[fD])(P:#[cC,b0])(y:#[eO])(f:#[iW])(X:i≠d)(c:j0.lookup G=aa x)(Y:r0 G=ab)(l:#[d4,T,G])(L:#[ec])(Z:∀g0 r,sd o g0 r=aw ()):#[b6,#[c4,G,y0],x]:=λA J S s Q E a M q=>by rw[uT,L _];refine af (#[cs,g,s,a,M,λu0 k0 t b h=>?_]);obtain⟨d0,f0,rfl⟩:=h;obtain⟨s0,L0,c0,_,_,_,h0⟩:=b.rel.inst f0 P y f X;obtain⟨v,p,a0,_⟩:=h0 _ x c;obtain⟨l0,R,N,J0,I0,G0,H0,A0,t0,x0,M0,j,u,z,I⟩:=m.ex;refine#[gT];refine Cp m.mro m.ga #[cW,b.rel.gh,j,z] #[gR,u.at',b.rel.gh,I] m.ly Y l c0 p (wH a0) ?_;rw[Z];exact#[db,aA (q v _ _ (b.toks _) a0)]
variable{d0 g0:#[n]}{o0 w0:#[l]}
def tX(B:Bs)(w:aD)(n:Nat)(O:Gm)(e:aT)(U:#[o])(H:#[l])(T:#[jH])(m0:#[l]):Prop:=#[j1,#[ej]->T j L.heap X->Q X L,aW e J]
def ym(B:Bs)(w:aD)(n:Nat)(O:Gm)(f:ai)(Y:#[B])(U:#[o])(H:#[l])(T:#[jH])(m0:#[l]):Prop:=∀(A:aS)(J:aO)(S:#[t])(Z:#[L])(s:au)(Q E:#[C]),#[bc]->#[ah]->#[a1,Z,Y]->(∀z L j,#[ej]->T j L.heap z->Q z L)->#[as,dX f Z]
theorem tX.mx(m:#[h8,Y0])(g:#[fD]){e0:Ob}(P:#[cC,b0])(m0:#[eO])(h:#[iW])(R0:i≠d)(U0:#[dV,j0.lookup,G])(v:#[eT,G,f])(C0:∃q0,#[iu]/\#[gU]/\#[hN])(T0:#[aq,f])(x:#[iI])(u:cD r=ae)(I:cy B w n O r U b0 Y o0)(X:ym B w n O #[cm] (.ob i::Y) U o0 R w0)(E0:#[ec])(F0:#[b7])(b:r.length<30):tX B w n O #[cU,#[c4,G,y0],r] U H R w0:=λA J S s Q E a M q=>by
 rw[uU,E0 J];refine af (g A J S s _ E a M λu0 k0 z c l=>#[a0,dR]);have e1:=l;obtain⟨a1,b1,rfl⟩:=l;obtain⟨s0,L0,X0,_,_,d1,_⟩:=c.rel.inst b1 P m0 h R0;obtain⟨l0,Q0,N,J0,I0,G0,H0,A0,t0,x0,M0,p,h0,n0,O0⟩:=m.ex;obtain⟨q0,S0,Z0,c1⟩:=C0;have g1:#[n5,r.length,#[f3,r]]:=by rw[#[dG]];simp[se,ma,mh,b]
 have f1:#[dT,mb i0 #[cm] [.ref a1] #[f3,r] [],k0]:=by rw[#[dG]];exact Fw (eR (#[cs,I,_,a,c.rel,λZ j g0 t c0=>⟨⟨#[aZ,t.rel.gh,S0,T0],c1⟩,X A _ _ (.ref _::Z) _ Q E a t.rel (.cons (e1.pre t.pre) c0) λd0 a0 N0 L p0=>#[a9,(c.trans t).trans L,p0]⟩]))
 unfold vd uW ve;simp only[g1,F0,if_true,tR,tU];refine#[b9,LF m.mro m.ga m.AO m.ha #[cW,c.rel.gh,p,n0] #[gR,h0.at',c.rel.gh,O0] m.ly m.pd v #[cW,c.rel.gh,S0,T0] Z0 x X0 (d1 _ U0) (af (aA f1))]
theorem Ev.mx{G:aq}(m:#[h8,M])(g:#[fD])(P:#[cC,b0])(h:#[eO])(c:#[iW])(p:i≠d)(s:#[dV,j0.lookup,G])(b:#[eT,G,f])(C0:∃q0,#[iu]/\#[gU]/\#[hN])(q:#[aq,f])(l:#[iI])(u:#[c8])(I:#[j7])(X:#[hl,#[cm],.ob i])(L:#[ec])(e:#[b7])(a:j.length<30):#[aP,#[i3],r,w0]:=tX.mx (R:=λS _ v=>VR _ v r) m g P h c p s b C0 q l u I X L e a
theorem Ev.Yp{C:ao}{T F R0 a0:String}{G:aq}(m:#[h8,R0])(g:#[fD])(P:#[cC,b0])(g0:#[eO])(c:#[iW])(F0:i≠d)(O0:#[dV,j0.lookup,G])(v:r0 G=ab)(p:#[cI,T,G,a0])(T0:jg (.builtin a0)=aw (.type "method_descriptor"))(u:cD l=ae)(I:cy B w n O l U b0 Y o0)(X:#[hl,#[c5,a0],.ob i])(n0:#[ec])(p0:#[b7])(y:l.length<30):#[aP,#[cU,#[c4,G,y0],l],r,w0]:=λA J S s Q E a M q=>by
 rw[uU,n0 J];refine af (g A J S s _ E a M λu0 k0 x b h=>#[a0,dR]);have Y0:=h;obtain⟨S0,U0,rfl⟩:=h;obtain⟨s0,L0,Q0,_,_,X0,_⟩:=b.rel.inst U0 P g0 c F0;obtain⟨l0,E0,N,J0,I0,G0,H0,A0,t0,x0,M0,j,f0,h0,C0⟩:=m.ex;have N0:=#[dZ,f0.at',b.rel.gh,C0];have a1:#[n5,l.length,#[f3,l]]:=by rw[#[dG]];simp[se,ma,mh,y]
 have Z0:#[dT,mb i0 #[c5,a0] [.ref S0] #[f3,l] [],k0]:=by rw[#[dG]];exact kQ (fZ _ _) (eR (#[cs,I,_,a,b.rel,λZ f d0 t R=>X A _ _ (.ref _::Z) _ Q E a t.rel (.cons (Y0.pre t.pre) R) λc0 L q0 z m0=>#[a9,(b.trans t).trans z,m0]]))
 unfold vd uW ve;simp only[a1,p0,if_true,tR,tU];refine#[b9,Yr m.mro m.ga m.AO m.ha #[cW,b.rel.gh,j,h0] N0 m.ly m.pd v p T0 Q0 (X0 _ O0) (af (aA Z0))]
end
section
variable{B:Bs}{w:aD}{n m k:Nat}{O:Gm}{U x0:#[o]}{H b0 o0 w0 m0:#[l]}{J:aO}{S:#[t]}
theorem aB.OQ{a b:ao}(R:#[ah])(P:#[c2])(n:#[av,S,b])(h0:i≠j)(g0:O.fz<=i)(t0:O.fz<=j)(u:#[ef])(f:∀c o,c≠a->c≠b->#[kw]->#[dz,c])(Y:¬bu s.heap a)(b0:¬bu s.heap b)(m0:∃o,#[dz,a]/\OR S o d)(Q:∃o,#[gE]/\OR S o e0)(r0:dM B J c0 a d)(s0:dM B J c0 b e0):#[aQ,(H.set i d).set j e0,S,#[cQ,c0,t]]:=by
 have j0:=bz P;have k0:=bz n;have d0:#[nK,c0.IsCell]:=#[kt,f _ _ (λe=>(R.cw p C).1 (e▸j0)) (λe=>(R.cw p C).1 (e▸k0)) N];have u0:∀q c,S[q]?=aa c->q≠i->q≠j->c≠a/\c≠b:=λq c X N a0=>⟨#[ht,N,X,P],#[ht,a0,X,n]⟩;have Z:i<H.length:=by rw[<-R.len];exact#[V,P]
 have f0:j<H.length:=by rw[<-R.len];exact#[V,n]
 have q0:GH B c0:=⟨aI R.gh.1 u,λc o e n0=>f c o (λG=>ft _ (ey (G▸bk e) (R.high a j0))) (λG=>ft _ (ey (G▸bk e) (R.high b k0))) (R.gh.2.1 c o e n0),R.gh.2.2.1.keep [a,b] (λc o e X=>f c o (#[eL,X,.head _]) (#[eL,X,.tail _ #[bL]]) e) #[bO,by
  rcases bg.mp z with rfl|z;.exact⟨.inl Y,R.slt.ne (R.high _ j0)⟩
  .rw[aZ.mp z];exact⟨.inl b0,R.slt.ne (R.high _ k0)⟩],aI R.gh.2.2.2 u⟩
 have i0:∀q c x,S[q]?=aa c->((H.set i d).set j e0)[q]?=aa x->(c=a/\x=d)\/(c=b/\x=e0)\/(c≠a/\c≠b/\H[q]?=aa x):=λq c x X z=>by
  by_cases o0:q=j;.subst o0;rw[pK (by simpa using f0)]at z;rw[n]at X;simp_all
  .rw[oj (kO o0)]at z;by_cases p0:q=i;.simp_all
   .rw[oj (kO p0)]at z;obtain⟨N,a0⟩:=u0 q c X p0 o0;exact .inr (.inr ⟨N,a0,z⟩)
 refine#[gM,{R with gh:=q0,ns:=?_,len:=by simp[R.len],store:=λq c x X z=>?_,code:=λq c x X z=>?_,cw:=λp C=>?_},.fY u λc o e z=>f c o (#[eL,z,oY (qJ P g0)]) (#[eL,z,oY (qJ n t0)]) e]
 .obtain⟨m,l,g⟩:=R.ns;refine⟨m,l.at' λo e=>f _ o (#[eL,R.dZ,j0]) (#[eL,R.dZ,k0]) e,λq x e=>?_⟩;obtain⟨l0,M,N,a0⟩:=g q x e;refine#[bP,l0,M,N];rcases a0 with q|⟨q,c,v,F,k,r⟩;.exact .inl q
  .exact#[mc,d0,k,r]
 .rcases i0 q c x X z with⟨rfl,rfl⟩|⟨rfl,rfl⟩|⟨N,a0,T⟩;.exact m0
  .exact Q
  .obtain⟨o,w,y⟩:=R.store q c x X T;exact#[aY,f _ _ N a0 w,y]
 .rcases i0 q c x X z with⟨rfl,rfl⟩|⟨rfl,rfl⟩|⟨N,a0,T⟩;.exact r0
  .exact s0
  .obtain⟨o,w,_⟩:=R.store q c x X T;refine(R.code q c x X T).keep (λL e=>by have:=f _ _ N a0 w;rw[this]at e;cases e;exact w) λA L e I _=>f A L (#[eL,Y,I]) (#[eL,b0,I]) e
 .obtain⟨N,a0,T,v,E⟩:=R.cw p C;exact⟨N,a0,T,v,d0 p C v E⟩
end
def jv:#[fd]->aq->V->#[fd]|[],y,v=>[(y,v)]|(z,u)::r,y,v=>#[cb,y,z,(z,v)::r,(z,u)::jv r y v]
theorem CN:∀(j0:#[g])(y:aq)(v:V)(z:aq),(jv j0 y v).lookup z=if z=y then aa v else j0.lookup z
 |[],y,v,z=>by
  unfold jv;rw[gj];by_cases h:z=y;.subst h;simp
  .rw[if_neg h,beq_eq_false_iff_ne.mpr h]
 |(x,u)::r,y,v,z=>by
  unfold jv;by_cases m:y=x
  .subst m;rw[beq_self_eq_true,#[cw],gj,gj];by_cases a:z=y;.subst a;simp
   .rw[if_neg a,beq_eq_false_iff_ne.mpr a]
  .rw[beq_eq_false_iff_ne.mpr m,#[eW],gj,gj,CN r y v z];by_cases a:z=x;.subst a;simp[show¬z=y fromλe=>m e.symm]
   .rw[beq_eq_false_iff_ne.mpr a]
section
variable{B:Bs}{w:aD}{n m k G0 t0:Nat}{O:Gm}{U x0:#[o]}{H b0 o0 w0 m0:#[l]}{J:aO}{S:#[t]}{a b c o:aT}{i0 y0 p:ba}{l:#[y]}{h0:#[al]}
theorem CE{a:ao}{o:cp}(e:#[cq])(d:o.data=.dict j s):¬bu h a:=bu.no e (λY q t J=>#[Y]) λY n J=>by grind
theorem lL.YC{a C:ao}{o:cp}(e:#[cq])(d:lL k S X o.data)(b:#[dm]):¬bu h a:=bu.no e (λY q t J=>#[ac,J,d.free.2.2.1 _]) λY n J e=>#[Y]
theorem abi{S:Type}{l:#[g]}{x:S}(h:#[G,l,x]):l.set i x=l:=by obtain⟨y,a⟩:=bw.mp h;rw[<-a];exact List.set_getElem_self _
theorem aG.setAttr(R:#[ah])(m:#[h8,m1])(a:#[G,S,x])(P:#[cC,H])(E0:#[eO])(p:H[d]?=aa (bS k j0))(h1:i≠d)(u1:O.fz<=i)(H1:O.fz<=d)(Z:VR S u v)(f:t0<=S.length)(k1:k<=t0)(M1:bA t0 v)(j1:r0 G=ab)(a0:#[d4,T,G])(h0:j0.length+1<=aC)(q:∀L,#[aQ,H.set d (bS t0 (jv j0 G v)),S,L]->Q () L):#[as,setAttr #[M,x] G u]:=by
 obtain⟨s0,L0,l1,b1,⟨w0,r1,e2,O1,f2,b2,a2⟩,A1,F1⟩:=R.inst a P E0 p h1;obtain⟨l0,g1,N,J0,I0,G0,H0,A0,G1,x0,M0,M,C0,N0,T0⟩:=m.ex;have e1:=#[aZ,R.gh,M,N0];have i1:=#[dZ,C0.at',R.gh,T0];have w1:x≠C:=λe=>absurd (bk M) (bP.mpr (e▸R.high x (bz a)));have u0:Within s0 (j0.map (·.1)):=λy l=>by cases j:j0.lookup y with|none=>exact absurd (A1 y (by rw[j];rfl)) l|some z=>exact bK.mpr #[aA,(y,z),mem_of_lookup j]
 obtain⟨q1,g0,_,X,f1,Y0,_⟩:=R.store d L0 _ b1 p;have E1:=bu.no r1 (λY q t d=>#[ac,d,b2 _]) λY n _ e=>#[Y];have L1:=R.code i x e0 a P;refine fb ?_;refine store_attr m.sa e1 i1 m.YK j1 a0 w1 l1 (λc0 s1 Z1 z1 c2 d0=>?_) u0 (by rw[aQ];omega);obtain⟨o0,c1,o1,t1,C1,N1⟩:=c2 w0 r1;have R1:=N1 L0 O1;obtain⟨m0,I,_,_,n1⟩:=Z1;have Q1:o0=w0:=by obtain⟨X0,B1,a1,k0⟩:=o0;obtain⟨U0,x1,S0,r⟩:=w0;grind
 rw[c1]at I;cases I;rcases n1 with⟨I1,_⟩|⟨P1,I1,_,d2,Y1,X1,k0,r,p0,d1,p1⟩;.rw[R1]at I1;cases I1
 .rw[R1]at I1;cases I1;have Q0:=aB.OQ (t:=s1) (c0:=c0) (e0:=bS t0 (jv j0 G v)) R a b1 h1 u1 H1 d0 (λc o y1 v1 e=>z1 c o y1 (λb0 U1 i0 J1=>by rw[r1]at i0;cases i0;rw[O1]at J1;cases J1;exact v1) e) E1 (CE g0 Y0) ⟨o0,c1,Q1▸a2⟩ ⟨d2,k0,f,Y1,X1,r,p0,d1,λy l=>?_,λy z l=>?_⟩ (L1.keep (λo e=>by rw[c1]at e;cases e;rw[Q1];exact r1) λb o e F0 n0=>z1 b o (λq0=>E1 (q0▸F0)) (λb0 U1 i0 J1=>by rw[r1]at i0;cases i0;rw[O1]at J1;cases J1;exactλq0=>CE g0 Y0 (q0▸F0)) e) (λo f0 g Z0=>by rw[k0]at g;cases g;rw[r]at Z0;cases Z0);.rw[abi P]at Q0;exact q _ Q0
  .rw[p1];rw[CN]at l;by_cases h:y=G;.rw[if_pos h]at l;cases l
   .rw[if_neg h]at l;exact(if_neg h).trans (A1 y l)
  .rw[CN]at l;rw[p1];by_cases h:y=G;.rw[if_pos h]at l;cases l;exact⟨u,if_pos h,Z,M1⟩
   .rw[if_neg h]at l;obtain⟨T1,y0,O0,R0⟩:=F1 y z l;exact⟨T1,(if_neg h).trans y0,O0,R0.le k1⟩
theorem aj.setAttr(t0:Nat)(m:#[h8,q0])(e:#[aF,v])(g:#[bx,o,#[ci]])(P:#[cC,o0])(g0:#[eO])(f:o0[d]?=aa (bS k j0))(l0:i≠d)(s0:O.fz<=i)(x0:O.fz<=d)(R:t0<=o0.length)(p0:k<=t0)(y0:bA t0 v)(n0:r0 G=ab)(I:#[d4,T,G])(Y:j0.length+1<=aC)(u:∀J,#[hu,#[c4,G,p]])(w0:jv j0 G v=A0)(Z:o0.set d (bS t0 A0)=m0)(j:#[hw]):#[eJ,[.Attribute o G p]]:=by refine#[nZ,L=o0.set d (bS t0 (jv j0 G v)),λA J S s Q E b M q=>?_];refine Gv (#[cs,e,s,b,M,λu0 k0 N c y=>#[cs,g,_,b,c.rel,λC0 r f0 t d0=>?_]]) (u _);obtain⟨x,z,rfl⟩:=d0;exact aG.setAttr t.rel m z P g0 f l0 s0 x0 (y.pre t.pre) (t.rel.len▸R) p0 y0 n0 I Y λc0 a0=>#[gQ,(c.trans t).trans a0]
theorem aj.Uo(m:#[kE])(g:#[fD])(P:#[cC,b0])(E0:#[eO])(x:#[iW])(t:j0.lookup G=aa u)(j:Ev B w n O a U b0 v b0)(d1:fA B w n O (ek I) u v U b0 r b0)(Z0:i≠d)(f1:O.fz<=i)(l1:O.fz<=d)(m1:bA k r)(a1:r0 G=ab)(Z:#[d4,T,G])(g0:j0.length+1<=aC)(g1:jv j0 G r=i1)(f0:b0.set d (bS k i1)=m0)(y:#[hw]):#[lg,#[c4,G,p]]:=by
 refine#[ic,λo a0 L=>#[eI,a0=U,L=b0.set d (bS k (jv j0 G r))],λA J S s Q E c M q=>?_,λa0 L h=>#[Y],λo a0 L g h=>#[ac,h.1,g]];refine wpAny_AugAssign_AttributeAny (#[cs,g,s,c,M,λu0 k0 c0 f X=>?_]);obtain⟨c1,e1,rfl⟩:=X;obtain⟨s0,L0,b1,U0,_,_,j1⟩:=f.rel.inst e1 P E0 x Z0;obtain⟨q1,p1,n1,_⟩:=j1 _ u t;obtain⟨l0,Y0,N,J0,I0,G0,H0,A0,t0,x0,M0,Y,y0,N0,S0⟩:=m.ex;obtain⟨b,d0,h1,T0,o1⟩:=k0;refine Cp m.mro m.ga #[cW,f.rel.gh,Y,N0] #[gR,y0.at',f.rel.gh,S0] m.ly a1 Z b1 p1 (wH n1) ?_;have k1:=f.toks (T0+1);refine#[cs,j,_,c,k1.rel,λC0 R w0 z p0=>d1 A _ _ _ _ _ _ E c z.rel (n1.pre z.pre) p0 λq0 o0 Q0 n0 O0=>?_];have R0:k<=Q0.length:=by obtain⟨o,_,h,_⟩:=f.rel.store d _ _ U0 x;exact aI h (z.pre.trans n0.pre).length_le
 exact aG.setAttr n0.rel m (gY (z.pre.trans n0.pre) e1) P E0 x Z0 f1 l1 O0 R0 #[aJ] m1 a1 Z g0 λX0 F0=>#[gQ,((k1.trans z).trans n0).trans F0]
end
theorem Ld:#[cI,"function","__get__","function.__get__"]:=RG.lookup
theorem Lf:#[d4,"function","__set__"]:=by rw[cG,cE];kernel_rfl
theorem Lc:#[d4,"function","__delete__"]:=by rw[cG,cE];kernel_rfl
def qO(G:aq):Bool:=!(["__module__","__name__","__qualname__","__doc__","__annotations__"]:#[bA]).contains G
abbrev my(f x:ao):cp:=#[aj,"method",.fields,#[.ref f,#[az]]]
section
variable{k:ni}{w:aD}{A:aS}{E:#[C]}{h:bo}{g:#[da]}{d:hU}{t:Nat}{h0:gB}
variable{l0 q:aq}{C N x:ao}{J0 v0:#[L]}{i:#[bA]}{P:#[L]}{j:Bool}{I0:#[eA]}{G0:#[a2,ao]}{H0 A0 t0 x0 M0:#[bT]}{F:String}{r0 s0:#[n]}{G:aq}{v:ai}{T:String}
theorem Uw{f:ao}{q0:cp}{j0:Bool}{Q:#[C]}(S:#[fZ])(i0:#[cI,T,"__getattribute__","object.__getattribute__"])(k0:#[kl])(s:#[g3])(Y:#[dU])(e0:#[hP])(f0:#[jf])(v:#[eT,G,f])(C0:#[bv,f,q0])(c0:#[gU]){y:#[bT]}(u:#[iI])(m:qO G=ae)(I:#[im])(U:s0 G=ab)(O:#[bs,h.objs.size,#[a7,h.push (my f x),t+1]]):#[ep,mg #[M,x] G j0]:=by
 obtain⟨o,b,l,M,n⟩:=I;have m0:#[lR,f]:=λ_=>#[aw,C0,c0];have u0:=Ld;have R0:=Lf;have g0:=Lc;unfold mg uZ;repeat(first|(with_reducible refine gP b ?_;rw[l])|(with_reducible refine ji s Y S i0 ?_;rw[e0])|wp_step)
 show#[cT,(runValue (.builtin "proto.getattr_hooked" #[ai,[#[az],.str G t]])).onRaise (noteIf ae #[M,x] (.str G t))];refine si (GP (zF RK ?_));unfold Builtin.«proto.getattr_hooked»;have n0:=m0 (t+1)
 have b0:∀(R:aS)(G0:#[a2,ao]),G0=o.dict->ax #[cS] R (agk G G0) (λr L=>r=ab/\L=#[gk]) (#[fP]) #[gk]:=λR G0 e=>by
  subst e;rcases n with⟨d0,_⟩|⟨L0,J,_,H⟩;.rw[d0];exact aA #[bV]
  .rw[J];exact nq H.ns #[bE,U]
 have B:∀R,ax #[cS] R (sb x ag) (λr L=>r=o.dict/\L=#[gk]) (#[fP]) #[gk]:=λR=>by
  unfold sb;repeat(first|(with_reducible refine gP b ?_;rw[l])|with_reducible refine gP s ?_|wp_step)
  rcases n with⟨d0,_⟩|⟨L0,J,_,H⟩
  .rw[d0];repeat wp_step
   exact#[bV]
  .rw[J];repeat wp_step
   exact#[bV]
 repeat(first|(with_reducible refine gP b ?_;rw[l])|(with_reducible refine ji s Y S u ?_;rw[v])|(with_reducible refine ji s Y S k0 ?_;rw[f0])|wp_step)
 split;.rename_i c a0;exact absurd a0 (M c)
 refine dq (B _) (λr L p=>?_) λ_ _ z=>z.elim;obtain⟨rfl,rfl⟩:=p;refine dq (b0 _ _ rfl) (λr L p=>?_) λ_ _ z=>z.elim;obtain⟨rfl,rfl⟩:=p;unfold agj;dsimp only;rw[#[bJ,show¬(([ak "__module__",ak "__name__",ak "__qualname__",ak "__doc__",ak "__annotations__"]:#[bA]).contains G=ae)from by unfold qO at m;simpa using m]];repeat(first|(with_reducible refine ji s Y S k0 ?_;rw[f0])|wp_step)
 have X:Sp [(f,q0)] h:=λa o e=>by
  rw[gj]at e;split at e;.rename_i Z;cases e;rw[beq_iff_eq.mp Z];exact C0
  .cases e
 refine Sq (K:=[(f,q0)]) X (by simp[Sr,c0]) ?_;exact aA (aA O)
end
section
variable{B:Bs}{w:aD}{n m k:Nat}{O:Gm}{d0 g0:#[n]}{U x0 T:#[o]}{H b0 o0 w0 m0:#[l]}{i0 y0 p:ba}{J:aO}{S:#[t]}{l:#[y]}{h0:#[al]}{a b c o:aT}
def gd(B:Bs)(w:aD)(n:Nat)(O:Gm)(f:ai)(Y:#[B])(U:#[o])(H:#[l])(r:V)(m0:#[l]):Prop:=∀(A:aS)(J:aO)(S:#[t])(Z:#[L])(s:au)(R:#[aI,nj]),#[bc]->#[ah]->#[a1,Z,Y]->(∀z L j,#[ej]->VR j z r->#[f1,z,L])->jJ #[aE] A (.call f #[ai,Z]) R s
theorem gd.s(h:#[cj,gd,f,Y,r,m0]):#[cj,bZ,f,Y,r,m0]:=λA J S Z s Q E G M e q=>gr (h A _ _ _ s _ G M e q)
end
theorem px:ox "callable_iterator" "__next__" "callable_iterator.__next__":=.of (owner:="callable_iterator") (n:="__next__") #[p] #[ak] #[p] #[p] #[j] #[p]
theorem Bm:kW lg "callable_iterator.__next__"=aa Builtin.«callable_iterator.__next__»:=uY (#[p])
theorem An(a:ai):kU "callable_iterator.__next__" #[ai,[a]]:=by kernel_rfl
theorem NM:ox "callable_iterator" "__iter__" "callable_iterator.__iter__":=.of (owner:="callable_iterator") (n:="__iter__") #[p] #[ak] #[p] #[p] #[j] #[p]
theorem TZ(a:ai):kU "callable_iterator.__iter__" #[ai,[a]]:=by kernel_rfl
theorem Vr:kW lg "callable_iterator.__iter__"=aa Builtin.«dict_keyiterator.__iter__»:=entryFor_alias (id':="dict_keyiterator.__iter__") (by rw[JX];kernel_rfl) #[ax] #[ax] (by rw[JX];kernel_rfl)
def nI(n:Nat)(f:ao)(i:Nat):Ob:=.rel n (λS o=>i<n/\∃x,#[G,S,x]/\o=my f x) λS j o h⟨N,x,a0,T⟩=>⟨N,x,(h i N).trans a0,T⟩
def ks(n:Nat)(j:Nat)(f:Bool):Ob:=.rel n (λS o=>j<n/\if f then∃x k,#[av,S,x]/\o=#[aj,"callable_iterator",.fields,#[kg,k]]else o=#[aj,"callable_iterator",.fields,#[.none,.none,.bool ae]]) λS a o h⟨N,T⟩=>by refine#[a3,N];cases f with|true=>obtain⟨x,k,E,r⟩:=T;exact⟨x,k,(h j N).trans E,r⟩|false=>exact T
section
variable{B:Bs}{w:aD}{n m k G0 t0:Nat}{O:Gm}{U x0:#[o]}{H b0 o0 w0 m0:#[l]}{J:aO}{S:#[t]}{a b c o:aT}{i0 y0 p:ba}{l:#[y]}{h0:#[al]}
theorem Cx.in1(h:#[eP]):Cx n A.in1:=⟨h.handled,by have:=h.depth;show A.depth+n<_;omega,by have:=h.units;show A.units+1+8*n+8<_;omega⟩
theorem Pa(X:jJ M A (.call f #[ai,Z]) (λr L=>match r with|.ok (.ret v)=>Q v L|.ok _=>False|.error e=>E e L) s):#[eq,callBorrowed f Z]:=λO p H=>by obtain⟨r,L,N,a0⟩:=X (O.enter (.call f _) ab p) p rfl (H.enter _ _ p #[j]);refine#[bP,r,_,N];cases r with|error e=>exact a0|ok f=>cases f<;>first|exact a0|exact a0.elim
theorem AH(h:#[ch,I,#[aj,"method",.fields,#[.ref f,x]]])(v:#[ch,f,q0])(J:#[hN])(q:Q ae s):#[eq,#[cP,borrowsExactly,I]]:=by refine#[bd,lh,h];refine#[bd,lh,v];rw[J];exact aA q
def iH(B:Bs)(w:aD)(n:Nat)(O:Gm)(C:Nat)(U:#[o])(H:#[l])(r:#[bf])(m0:#[l]):Prop:=∀(A:aS)(J:aO)(S:#[t])(s:au)(I:ao)(Q:#[aI,#[bT]])(E:#[C]),#[bc]->#[ah]->S[C]?=aa I->(∀v L j,#[ej]->(match r with|aa x=>∃u,v=aa u/\VR j u x|ab=>v=ab)->Q v L)->#[gh,I]
theorem adl{t:Tx}{x:aq}(h:x.cps.toList=t)(n:t≠[]):#[aB,#[dw]=x]=ag:=by refine decide_eq_false λe=>n ?_;rw[<-h,<-e]
theorem adk{x:aq}(h:x.cps.toList=[]):#[aB,#[dw]=x]=ae:=by refine decide_eq_true ?_;obtain⟨a⟩:=x;simp_all
theorem iH.item(M:H[C]?=aa (ks X j ae))(d:#[av,H,nI Y f i])(C0:#[iu])(c0:#[hN])(Z:#[aq,f])(a:#[cj,gd,#[cm],[.ob i],#[bm],b0])(l0:b0[C]?=aa (ks X j ae))(l:t≠[]):iH B w (n+1) O C U H (aa (.str t)) b0:=λA J S s I Q E G R v q=>by obtain⟨o,g,j0,g0,x,h0,z,rfl⟩:=R.store C I _ v M;have c:#[lt,#[kg,h0],#[kg,h0]]:=rfl;obtain⟨n0,i0,m0,N,y,m,rfl⟩:=R.store j x _ z d;have r:#[oa]:=#[P,g];refine#[mG,r,r];refine#[cX,rfl];refine#[dI,g,c,.bool _];refine#[dI,g,c,#[az]];refine#[a0,iM];refine af (AH i0 #[cW,R.gh,C0,Z] c0 ?_);refine Pa (Gn i0 ?_);refine a _ _ _ [.ref y] s _ G.in1 R #[bn,#[aA,y,m]] λp L b P e=>?_;obtain⟨F,T,_,_,e0,k0,d0,rfl⟩:=P.rel.store _ I _ (gY P.pre v) l0;have a0:#[lt,#[.ref e0,.str #[dw] k0,#[dv]],#[.ref _,.str ⟨_⟩ _,.bool _]]:=rfl;obtain⟨u,k,rfl,h⟩:=e;refine#[dI,T,a0,.bool _];refine#[dI,T,a0,.str ⟨_⟩ _];refine#[b9,SV ?_];rw[adl h l];exact aA #[cg,aA (#[a9,P,⟨_,rfl,u,k,rfl,h⟩])]
end
def eA(b:Nat):V->V|.ob i=>.ob (b+i)|x=>x
def aX(b:Nat):Ob->Ob|.list X=>#[bk,X.map,eA b]|.tup X=>.tup (X.map (eA b))|.raw R=>.raw R|.rel n R h=>.rel (b+n) (λS o=>R (S.drop b) o) λS j o M r=>h _ _ o (λi a=>by rw[jz,jz];exact M _ (Qw a b)) r|.hp n R P T h k=>.hp (b+n) (λS o=>R (S.drop b) o) P T (λS j o M r=>h _ _ o (λi a=>by rw[jz,jz];exact M _ (Qw a b)) r) k
theorem pv:#[bl,eA b x]↔VR (S.drop b) v x:=by
 cases x<;>first|exact yt|skip
 show(∃a,S[b+_]?=aa a/\_)↔∃a,(S.drop b)[_]?=aa a/\_;rw[jz]
theorem mn:#[a1,Y,X.map (eA b)]↔aM (VR (S.drop b)) Y X:=by
 constructor;.intro h;induction X generalizing Y with|nil=>cases h;exact .nil|cons x r Q=>cases h with|cons N a0=>exact .cons (pv.mp N) (Q a0)
 .intro h;induction h with|nil=>exact .nil|cons N _ Q=>exact .cons (pv.mpr N) Q
theorem tF(Z:b<=S.length):OR S o (aX b e0)↔OR (S.drop b) o e0:=by cases e0 with|list X=>exact⟨#[lQ,mn.mp],#[lQ,mn.mpr]⟩|tup X=>exact⟨#[lQ,mn.mp],#[lQ,mn.mpr]⟩|raw R=>exact yt|rel n R M=>show(b+n<=S.length/\_)↔(n<=#[s,S.drop,b]/\_);rw[dj];exact⟨#[lP],#[lP]⟩|hp n R P T M k=>show(b+n<=S.length/\_)↔(n<=#[s,S.drop,b]/\_);rw[dj];exact⟨#[lP],#[lP]⟩
theorem xN:iX B h a (aX b e0)↔iX B h a e0:=by cases e0<;>exact yt
theorem VR.drop_take(h:VR (S.take L) v x):#[bl,x]:=h.pre (Qs _ _)
theorem OR.YO(h:OR (S.take L) o e0):OR S o e0:=h.pre (Qs _ _)
def iV(e0:Ob):Prop:=∀(S:#[t])(o:cp),OR S o e0->∀h a,#[cq]->¬bu h a
structure cz(L:Nat)(g:#[l]):Prop where
 len:g.length=L
 ok:#[gy,g,fu L e0/\iV e0/\#[hr]]
structure cM(B:Bs)(S:#[t])(H:#[l])(h:bo):Prop where
 len:S.length=H.length
 nodup:S.Nodup
 high:∀a∈S,#[aK,a]
 store:#[gG,#[c2],H,(∃o,#[cq]/\OR S o e0)/\iX B h a e0]
def bH(B:Bs)(w:aD)(n:Nat)(f:ao)(z:#[B])(H:#[l])(r:V)(m0:#[l]):Prop:=#[mB,#[bc]->#[c9]->#[hM]->#[a1,Z,z]->(∀u L,Fx B S s L->#[g7]->cM B S m0 L.heap->VR S u r->#[f1,u,L])->jJ #[aE] A #[b3,.call,f,#[ai,Z]] R s]
theorem bH.le{H m0:#[g]}(h:bH B w n f z H r m0)(Y:n<=m):bH B w m f z H r m0:=#[k4]
def dd(L:Nat)(r:V)(m0:#[l]):#[hm]:=λo _ s=>(#[no])/\bA L r/\L<=s.length/\(∀(i:Nat)(e0:Ob),i<L->#[cC,s]->fu L e0)/\s.take L=m0
def dH(j0:bt):Gm:=#[d3,j0,0]
def eB(B:Bs)(w:aD)(n:Nat)(f:ao)(z:#[B])(U:Nat)(H:#[l])(r:V)(m0:#[l]):Prop:=#[mB,#[bc]->#[c9]->#[hM]->#[a1,Z,z]->(∀u L j,S<+:j->(∀a∈j,a∈S\/#[R,a])->Fx B (S.drop U) s L->#[g7]->cM B j m0 L.heap->VR j u r->#[f1,u,L])->jJ #[aE] A #[b3,.call,f,#[ai,Z]] R s]
theorem eB.run{B:Bs}{w:aD}{n k T0 L:Nat}{d0 g0:#[n]}{f:ao}{j0:bt}{r0:#[y]}{z:#[B]}{T:#[o]}{H m0:#[l]}{r:V}{f0:gN}{o:cp}{G1 b0:#[L]}{A:aS}{S:#[t]}{s:au}{R:#[aI,nj]}(F:#[w])(z1:#[aq,f])(N:#[gq,f])(a0:#[dX])(E:f0.scope=j0)(o0:#[j9])(C0:f0.closure=[])(Q0:#[hz])(Y0:#[hy])(l1:#[mt])(o1:rN s f0 #[ai,G1] ((j0.names.map (·.1)).zip b0))(v1:iB j0 k=ae)(r1:#[eu])(e1:#[eV])(h1:#[eU])(b1:#[cu,H])(m:z.length=k)(O:#[n6])(i1:T0<=H.length)(J0:H.length<=L)(h:#[nu,T0])(G:#[eP])(t0:#[c9])(q0:#[hM])(p0:#[a1,b0,z])(q:∀u g h0,S<+:h0->(∀a∈h0,a∈S\/#[R,a])->Fx B (S.drop T0) s g->GH B g.heap->cM B h0 m0 g.heap->VR h0 u r->#[f1,u,g]):jJ #[aE] A #[b3,.call,f,#[ai,G1]] R s:=by
 subst O;obtain⟨c,O0,X,t,X0,R0,d1,j1,w1⟩:=l1;have x0:b0.length=k:=p0.length.trans m;have A1:=v1;simp only[iB,fF,decide_eq_true_eq,fe]at A1;obtain⟨⟨⟨m1,p1⟩,N0⟩,f1⟩:=A1;have E1:=#[aZ,t0,N,z1];have C:=#[aZ,t0,d1,R0];refine zI (o:=o) (fd:=f0) (body:=r0) (binds:=(j0.names.map (·.1)).zip b0) #[h4] E1 a0 (F.nl t0) ⟨c,O0,X,t,X0,C,j1,w1⟩ o0 o1 (λx d e=>?_) (λx d=>?_) (λy0 U0 I0=>?_) (by rw[E];exact e1) (by rw[E];exact h1) (by rw[E];exact r1);.rw[E]at d;have:=f1 x d;rw[e]at this;cases this
 .rw[E];obtain⟨i,l⟩:=gK.mp d;obtain⟨U,k0⟩:=pL.mp l;rw[cg]at U;obtain⟨p,c0,u1⟩:=dW.mp U;have E0:i<k:=by rw[<-x0];exact#[V,k0]
  have n1:#[kh,p]:=bz (i:=i) (by rw[eD E0];exact c0);have a1:=p1 _ n1;simp only[beq_iff_eq]at a1;obtain⟨l0,S0⟩:=p;cases a1;rw[<-u1];exact mv m1 c0
 have s0:#[R,y0.objs.size]:=by obtain⟨o,_,_,e,_⟩:=U0;exact eh (bk e)
 have E0:#[kJ]:=λa I=>by
  obtain⟨i,l⟩:=gK.mp I;have J:i<H.length:=by rw[<-q0.len];exact#[V,l]
  obtain⟨⟨o,e,_⟩,_⟩:=q0.store i a _ l (bD J);exact bk e
 have M:aG B #[d3,j0,T0] #[eY] S (cS [] (j0.names.map λ_=>ab) z) H y0:=by
  refine{scope:=E,kind:=r1,kb:=?_,nd:=m1,glob:=Q0,fh:=Y0,gh:=t0.grow s0 I0,slt:=F.slt,ns:=#[aw,U0,#[c1]],lu:=?_,len:=q0.len,cY:=q0.len▸i1,store:=?_,code:=?_,nodup:=q0.nodup,high:=q0.high,dZ:=?_,ic:=t0.1,cw:=?_,kr:=?_};.intro _ h;cases h
  .rcases qq e with A0|⟨j,H0,_⟩
   .obtain⟨u,s1,n0⟩:=p0.get A0;have y1:i<k:=by rw[<-x0];exact#[V,s1]
    obtain⟨⟨l0,S0⟩,c0⟩:∃p,#[G,j0.names,p]:=#[bM,bD (ey y1 N0)];have a1:=p1 _ (bz (i:=i) (by rw[eD y1];exact c0):#[kh,(l0,S0)]);simp only[beq_iff_eq]at a1;subst a1;exact⟨l0,_,c0,#[dM,rfl,u,Pg m1 (by rw[cg,c0];rfl) s1,n0]⟩
   .rw[cg]at H0;cases A0:j0.names[i]?<;>rw[A0]at H0<;>cases H0
  .intro _ h;cases h
  .intro i a e0 I Z;obtain⟨⟨o,U,k0⟩,_⟩:=q0.store i a e0 I Z;exact#[aY,I0 _ _ U,k0]
  .intro i a e0 I Z;obtain⟨⟨o,U,_⟩,k0⟩:=q0.store i a e0 I Z;refine(k0.keep (λL0 F0=>by rw[I0 _ _ U]at F0;cases F0;exact U) λb L0 F0 _ _=>I0 _ _ F0).ob λR e=>?_;have:=kB (k:=0) (e▸Z);rw[b1]at this;cases this
  .exactλI=>#[ac,E0 _ I,ft _]
  .intro p c0;have:#[eY].cells=f0.closure:=rfl;rw[this,C0]at c0;cases c0
  .show f0.closure.Pairwise _;rw[C0];exact .nil
 refine h (A.deeper _) _ S _ _ _ ⟨G.handled,by have:=G.depth;show#[i0];omega,by have:=G.units;show A.units+3+8*n+8<_;omega⟩ M ?_;rintro C1 v w0 t1 g h0⟨d,Z,J,G0,u0⟩P g1;have B1:S<+:h0.take L:=by obtain⟨v0,rfl⟩:=P.pre;rw[ER,iG (by rw[q0.len];exact J0)];exact ff _ _
 have q1:∀a∈h0,a∈S\/#[R,a]:=λa I=>by
  by_cases i0:a∈h0.drop T0;.exact(P.new a i0).imp fI (aI s0)
  .have c1:a∈h0.take T0:=by have:=hQ T0 h0;rw[<-this]at I;exact(cZ.mp I).resolve_right i0
   obtain⟨v0,rfl⟩:=P.pre;rw[lN (by rw[q0.len];exact i1)]at c1;exact .inl (eJ c1)
 have M0:Fx B (S.drop T0) s g:=by
  have Z0:Fx B (S.drop T0) s #[cQ,y0,s.toks+((j0.names.map (·.1)).zip b0).length]:=Fx.fY s0 #[dN,I0];refine Z0.trans P.fx λy Q=>?_;rcases bg.mp Q with rfl|Q;.exact .inr (aP _)
  .rcases cZ.mp Q with Q|Q;.obtain⟨p,c0,_⟩:=bK.mp Q;have:=(jA.mp c0).2;simp at this
   .exact .inl Q
 have F1:cM B (h0.take L) m0 g.heap:=by
  refine⟨by rw[<-u0,bI,bI,P.rel.len],(lO _ _).nodup P.rel.nodup,λa I=>P.rel.high a (eJ I),λi a e0 I k1=>?_⟩;have l:i<L:=by have:=#[V,I];rw[bI]at this;omega
  rw[eD l]at I;rw[<-u0,eD l]at k1;obtain⟨o,U,k0⟩:=P.rel.store i a e0 I k1;exact⟨#[aY,U,k0.take (G0 i e0 l k1)],(P.rel.code i a e0 I k1).DV⟩
 have x1:∀u,VR h0 u r->VR (h0.take L) u r:=λu p0=>p0.take Z;rcases d with rfl|⟨rfl,rfl⟩;.obtain⟨u,rfl,s1⟩:=g1;exact q u g _ B1 (λa I=>q1 a (eJ I)) M0 P.rel.gh F1 (x1 u s1)
 .cases g1;exact q .none g _ B1 (λa I=>q1 a (eJ I)) M0 P.rel.gh F1 rfl
theorem eB.dU{H m0:#[g]}(F:#[w])(u:#[ii])(J:iB j0 k=ae)(x:#[eu])(m:#[eV])(j:#[eU])(y:(j0.names.all λq=>!(q.2==.free))=ae)(i:#[cu,H])(a:z.length=k)(p:#[n6])(t:U<=H.length)(M:H.length<=L)(h:#[nu,U]):eB B w (n+1) f z U H r m0:=λA S Z s R G c l e q=>by obtain⟨f0,o,N,a0,b,E,d,Q,g,v,_,C⟩:=u.ex;exact eB.run F u.out N a0 b E d Q g v (.of_eq (C _ (e.length.trans a))) J x m j i a p t M h G c l e q
theorem eB.DU{H m0:#[g]}(h:eB B w n f z 0 H r m0)(Y:m0.length=H.length):bH B w n f z H r m0:=λA S Z s R G k l e q=>h A _ _ s R G k l e λu L j C _ O o m p=>by have:=(C.eq_of_length (by rw[m.len,Y,l.len])).symm;simp_all
theorem bH.dU{H m0:#[l]}(F:#[w])(u:#[ii])(J:iB j0 k=ae)(c:#[eu])(m:#[eV])(i:#[eU])(j:(j0.names.all λq=>!(q.2==.free))=ae)(d:#[cu,H])(R:z.length=k)(p:#[n6])(h:aj B w n (dH j0) r0 T H (dd H.length r m0))(Y:m0.length=H.length:=by rfl):bH B w (n+1) f z H r m0:=(eB.dU F u J c m i j d R p #[aC] #[aJ] h).DU Y
section
variable{B:Bs}{w:aD}{n m k:Nat}{O:Gm}{U x0:#[o]}{H b0 o0 w0 m0:#[l]}{J:aO}{S:#[t]}
def hc(H:#[l])(b:Nat)(g:#[l]):#[l]:=H.take b++(g.map (aX b)++H.drop (b+g.length))
theorem ZF(y:#[hH])(P:i<g.length):(hc H b g)[b+i]?=aa (aX b g[i]):=by unfold hc;rw[ew (by rw[bI];omega),bI,#[D,kM],yU,cL (by simpa using P),cg,bD _];rfl
theorem ZI(y:#[hH])(P:i<b\/b+g.length<=i):(hc H b g)[i]?=H[i]?:=by
 unfold hc;obtain P|P:=P;.rw[cL (by rw[bI];omega),eD P]
 .rw[ew (by rw[bI];omega),bI,ew (by rw[aQ];omega),aQ,jz];congr 1;omega
theorem ZG(y:#[hH]):#[a5,(hc H b g),H.length]:=by unfold hc;simp;omega
theorem HN(I:#[G,((S.drop b).take L),a]):i<L/\S[b+i]?=aa a:=by
 have P:i<L:=by have:=#[V,I];rw[bI]at this;omega
 rw[eD P,jz]at I;exact⟨P,I⟩
theorem aG.ia{s:au}{g:#[g]}(b:Nat)(M:#[ah])(y:#[hH])(c:#[lB])(j:cz g.length g):cM B #[iG] g s.heap:=by
 have h:b+g.length<=S.length:=by rw[M.len];exact y
 refine⟨by rw[bI,dj];omega,((lO _ _).trans (yE _ _)).nodup M.nodup,λa I=>M.high a (fI (eJ I)),λi a e0 I Q=>?_⟩;obtain⟨P,k⟩:=HN I;have u:=c i _ Q;obtain⟨o,F,d⟩:=M.store _ a _ k u;exact⟨#[aY,F,((tF #[f]).mp d).take (j.ok i _ Q).1],xN.mp (M.code _ a _ k u).DV⟩
theorem aB.ia{s L:au}{g l:#[l]}(b:Nat)(M:#[ah])(t:O.fz<=b)(y:#[hH])(g0:cz g.length g)(v0:cz g.length l)(u:cM B #[iG] g s.heap)(d0:Fx B #[iG] s L)(w:#[g7])(k0:cM B #[iG] l L.heap):#[aQ,hc H b l,S,L]:=by
 have s0:=v0.len;have y0:b+g.length<=S.length:=by rw[M.len];exact y
 have A0:b<=S.length:=by omega
 have u0:∀(i:Nat)(a:ao),#[G,#[iG],a]->i<g.length/\S[b+i]?=aa a:=λi a I=>HN I;have p0:∀a∈#[jA],a∈S:=λa I=>fI (eJ I);have f0:∀(q:Nat)(a:ao),S[q]?=aa a->(q<b\/b+g.length<=q)->a∉#[jA]:=λq a n d j=>by obtain⟨i,P⟩:=gK.mp j;obtain⟨N,a0⟩:=u0 i a P;have:=iy M.nodup n a0;omega
 have q0:∀c,#[aK,c]->#[aq,c]:=λc X n0=>#[bC,M.lG c n0,X];have x0:#[gC,p.2∉#[jA]]:=λp C j=>(M.cw p C).1 (p0 _ j);have r0:#[nK,L.heap.IsCell]:=#[kt,d0.keep _ _ N (x0 p C) (q0 _ (M.cw p C).2.2.1)];have t0:b+l.length<=H.length:=by rw[s0];exact y
 have w0:∀(q:Nat)(a:ao)(e0:Ob),S[q]?=aa a->(hc H b l)[q]?=aa e0->(∃i o0,#[G,l,o0]/\#[G,#[iG],a]/\e0=aX b o0)\/(a∉#[jA]/\H[q]?=aa e0):=λq a e0 I Q=>by
  by_cases n:q<b\/b+g.length<=q;.rw[ZI t0 (by rw[s0];exact n)]at Q;exact .inr ⟨f0 q a I n,Q⟩
  .obtain⟨i,rfl⟩:∃i,q=b+i:=⟨q-b,by omega⟩;have P:i<l.length:=by rw[s0];omega
   rw[ZF t0 P]at Q;cases Q;exact .inl #[du,i,_,bD P,by rw[#[D,eD],jz];exact I]
 refine#[gM,{M with gh:=w,ns:=?_,len:=by rw[ZG t0];exact M.len,store:=λq a e0 I Q=>?_,code:=λq a e0 I Q=>?_,cw:=λp C=>?_},d0.widen λx z=>.inl (oY ?_)]
 .obtain⟨m,j,h0⟩:=M.ns;refine⟨m,j.at' λo e=>d0.keep _ o e (λj=>M.dZ (p0 _ j)) (q0 _ M.ic),λq x e=>?_⟩;obtain⟨l0,i0,N,a0⟩:=h0 q x e;refine#[bP,l0,i0,N];rcases a0 with h|⟨h,c,v,F,k,r⟩;.exact .inl h
  .exact .inr ⟨h,c,v,F,r0 _ (mem_of_lookup F) _ k,r⟩
 .rcases w0 q a e0 I Q with⟨i,o0,N,a0,rfl⟩|⟨N,a0⟩;.obtain⟨⟨o,F,k⟩,_⟩:=k0.store i a o0 a0 N;exact#[aY,F,(tF A0).mpr k.YO]
  .obtain⟨o,F,k⟩:=M.store q a e0 I a0;exact#[aY,d0.keep _ _ F N (q0 _ (M.high a (bz I))),k]
 .rcases w0 q a e0 I Q with⟨i,o0,N,a0,rfl⟩|⟨N,a0⟩;.obtain⟨_,G⟩:=k0.store i a o0 a0 N;refine(xN.mpr G).ob λR e=>?_;cases o0 with|raw b0=>exact absurd rfl ((v0.ok i _ N).2.2 b0)|_=>cases e
  .obtain⟨o,F,_⟩:=M.store q a e0 I a0;have f:=d0.keep _ _ F N (q0 _ (M.high a (bz I)));refine(M.code q a e0 I a0).keep (λc0 e=>by rw[f]at e;cases e;exact F) λc c0 e Y n0=>d0.keep _ _ e (λj=>?_) n0;obtain⟨i,P⟩:=gK.mp j;obtain⟨A,_⟩:=u0 i c P;obtain⟨⟨m0,Z,j0⟩,_⟩:=u.store i c _ P (bD A);exact(g0.ok i _ (bD A)).2.1 _ _ j0 _ _ Z Y
 .obtain⟨N,a0,T,v,E⟩:=M.cw p C;exact⟨N,a0,T,v,r0 p C v E⟩
 .obtain⟨i,P⟩:=gK.mp z;obtain⟨N,a0⟩:=u0 i x P;exact qJ a0 #[f]
theorem bH.call(b:Nat)(h:bH B w n f z g r l)(a:O.fz<=b)(y:#[hH])(C:#[lB])(o:cz g.length g)(F:cz g.length l)(E:#[ca,z,g.length])(t:z.map (eA b)=Y)(I:eA b r=T)(d:hc H b l=m0):#[cj,gd,#[cm],Y,T,m0]:=λA J S Z s j G M e q=>by subst t I d;have c:=M.ia b y C o;refine h A _ _ s _ G M.gh c ((mn.mp e).rn E) λu L m k v p=>(q u _ _ (aB.ia b M a y o F c m k v) (pv.mpr p.drop_take))
end
section
variable{B:Bs}{w:aD}{n m k G0 t0:Nat}{O:Gm}{d0 g0:#[n]}{U x0:#[o]}{H b0 o0 w0 m0:#[l]}{J:aO}{S:#[t]}{a b c o:aT}{i0 y0 p:ba}{l:#[y]}{h0:#[al]}
theorem Pc{Q:#[aI,#[bT]]}(M:#[g5])(q:∀c0 p0,(#[fb])->#[ef]->Q ab #[fa]){T:dF d}(p:T=(do raiseNew (<-newExc (.type "StopIteration") []))):ax #[aE] A.in1 T R (λe L=>#[dT,do if<-zN e (.type "StopIteration")then aw ab else throw e,L]) s:=by subst p;refine af ?_;refine#[m4];refine jO ?_ (by size_fits);refine#[a0,GF];rw[M];refine#[db,GQ ?_];refine#[bF,ml,#[P,#[aW]],zO];refine aA (q _ _ (#[ks]) ?_);simp;omega
theorem iH.over(r:H[C]?=aa (ks X j ag)):iH B w n O C U H ab H:=λA J S s I Q E G R h q=>by obtain⟨o,g,M,Z,rfl⟩:=R.store _ I _ h r;have p:s.TypeIs (.ref I) _:=#[P,g];refine#[mG,p,p];refine#[cX,rfl];refine#[dI,g,(rfl:(uP {cls:=.type _,data:=.fields _})=.fields _),.bool _];refine#[a0,hY];refine af (Pc G.handled (λc0 p0 a u=>#[a9,aB.heap R u a,rfl]) rfl)
theorem iH.last(l0:H[C]?=aa (ks X j ae))(r:#[av,H,nI u0 f i])(L0:O.fz<=C)(C0:#[iu])(y0:#[hN])(w0:#[aq,f])(c:#[cj,gd,#[cm],[.ob i],#[ao,[]],b0])(Y0:b0[C]?=aa (ks X j ae))(T0:#[av,b0,nI u0 f i])(Z:b0.set C (ks X j ag)=m0):iH B w (n+1) O C U H ab m0:=λA J S s I Q E G R j0 q=>by subst Z;obtain⟨o,a,U0,N0,x,R0,z,rfl⟩:=R.store C I _ j0 l0;have l:#[lt,#[kg,R0],#[kg,R0]]:=rfl;obtain⟨a1,S0,Z0,r0,y,m,rfl⟩:=R.store j x _ z r;have h0:#[oa]:=#[P,a];refine#[mG,h0,h0];refine#[cX,rfl];refine#[dI,a,l,#[dv]];refine#[dI,a,l,#[az]];refine#[a0,iM];refine af (AH S0 #[cW,R.gh,C0,w0] y0 ?_);refine Pa (Gn S0 ?_);refine c _ J S [.ref y] s _ G.in1 R #[bn,#[aA,y,m]] λg0 L e P t=>?_;have A0:=gY P.pre j0;obtain⟨k0,s0,b1,_,G0,X0,F0,rfl⟩:=P.rel.store C I _ A0 Y0;have x0:#[lt,#[.ref G0,.str #[dw] X0,#[dv]],#[.ref G0,.str #[dw] X0,#[dv]]]:=rfl;obtain⟨d1,c1,_,_,M0,O0,rfl⟩:=P.rel.store j G0 _ F0 T0;obtain⟨u,k,rfl,N⟩:=t;refine#[dI,s0,x0,#[dv]];refine#[dI,s0,x0,.str #[dw] X0];refine#[b9,SV ?_];rw[adk N];refine#[a0,hY];refine af ?_;refine#[dI,s0,x0,.ref G0];refine af ?_;refine af (AH c1 #[cW,P.rel.gh,C0,w0] y0 ?_);refine aA ?_;refine af (oD s0 (by simp) λa0 p F=>?_);refine af (oD p (by simp) λT i0 e0=>?_);refine oD i0 (by simp) λM v0 o0=>?_;have E0:pZ I L.heap M:=⟨o0.1.trans (e0.1.trans F.1),λy m=>(o0.2 y m).trans ((e0.2 y m).trans (F.2 y m))⟩;have v:aB B O J e U (b0.set C (ks X j ag)) L e {L with heap:=M,toks:=L.toks}:=aB.Cy P.rel A0 L0 E0 (bu.no s0 (λY Q0 t0 H0 I0=>by cases H0;cases I0;rfl) λY n g=>by cases g) ⟨_,v0,b1,N0,rfl⟩ #[aO] λn R d0 _ o f0 J0 n0=>#[Y];refine Pc G.handled (λc0 p0 b d=>q ab _ e ((P.trans v).trans (aB.heap v.rel d b)) rfl) rfl
theorem aj.Bz{c:Nat->#[o]->#[em]}(i m:Nat)(m0:#[b6,A0,.ob C])(M0:∀(A:aS)(J:aO)(S:#[t])(s:au)(I:ao)(Q E:#[C]),#[bc]->#[dk,S,b0,s.heap]->S[C]?=aa I->#[bs,I,s]->#[as,#[cP,kY,I]])(a:#[es,v0])(R:#[dW,v0,v0,l0])(f0:c m U b0)(x0:∀k v s,c k v s->∃r k0,iH B w n O C v s r k0/\match r with|aa x=>i<v.length/\#[cE,r0,#[eF,x],k0,mY B w n O l h0 λc0 L=>∃G0,G0<k/\c G0 c0 L]|ab=>#[cE,C0,v,k0,hZ B w n O l h0])(H0:#[gr,A0]):#[dA,.For (.Name l0 J0) A0 r0 C0 i0]:=#[n0,hZ B w n O l h0,(by refine zX (#[e6,m0,λu0 k0 d0 b T=>?_]) (λx=>H0 x J);obtain⟨I,o0,rfl⟩:=T;refine M0 A J d0 k0 I _ E G b.rel o0 ?_;refine Gf (λk L=>∃v t j,c k v t/\#[cd,v,t,j,L]/\j[C]?=aa I) ?_ m ⟨U,b0,d0,f0,b,o0⟩;rintro k L⟨v,t,j,I0,P,E0⟩;obtain⟨r,t0,Y,d⟩:=x0 k v t I0;refine Y A J j L I _ _ G P.rel E0 λL0 z n0 y p=>?_;cases r with
|some x=>obtain⟨u,rfl,X⟩:=p;obtain⟨e0,Z⟩:=d;refine aA (km (aG.hg y.rel a R e0 X λj0 g0=>?_));refine Z A J n0 j0 _ _ G g0.rel λo c0 q0 f w0 F0 g p0 F=>?_;have s0:=((P.trans y).trans g0).trans p0;have N0:=gY p0.pre (gY y.pre E0);cases o with|next=>cases F;obtain⟨G0,N,a0⟩:=g;exact⟨G0,N,c0,q0,F0,a0,s0,N0⟩|cont=>cases F;obtain⟨G0,N,a0⟩:=g;exact⟨G0,N,c0,q0,F0,a0,s0,N0⟩|brk=>cases F;exact q .next _ _ _ w0 F0 g s0 rfl|ret r=>obtain⟨y0,rfl,e⟩:=F;exact q (.ret r) _ _ _ w0 F0 g s0 #[dy,y0,e]
|none=>cases p;exact d A _ n0 z _ _ G y.rel λo c0 q0 f w0 F0 g p0 F=>q o _ _ _ w0 F0 g ((P.trans y).trans p0) F)]
theorem AW{C j X:Nat}(r:H[C]?=aa (ks X j f)):∀(A:aS)(J:aO)(S:#[g])(s:au)(I:ao)(Q E:#[C]),#[bc]->#[ah]->S[C]?=aa I->#[bs,I,s]->#[as,#[cP,kY,I]]:=λA J S s I Q E G M h q=>by
 obtain⟨o,g,a,Z,z⟩:=M.store _ I _ h r;have p:#[oa]:=by cases f with|true=>obtain⟨x,k,_,rfl⟩:=z;exact#[P,g]|false=>cases z;exact#[P,g]
 refine wpAny_pyIter_slot p NM (iN NM p Vr (aA ⟨_,rfl,_,_,p,px.lookup,q⟩) (TZ _))
end
theorem LO:jK (.type "function")=aw [.type "function",.type "object"]:=by rw[mroOf_type];kernel_rfl
theorem XD:#[cI,"function","__getattribute__","object.__getattribute__"]:=by rw[cG,cE];kernel_rfl
theorem XE:#[d4,"function","__getattr__"]:=by rw[cG,cE];kernel_rfl
theorem Le:#[d4,"function","read"]:=by rw[cG,cE];kernel_rfl
theorem XN:#[cI,"method","__call__","method.__call__"]:=by rw[cG,cE];kernel_rfl
theorem xW:#[ly,"function",[.type "function",.type "object"]]where
 mro:=LO
 slot:=#[nn,"__setattr__",by rw[cG,cE];kernel_rfl,RT.split]
 entry:=FI
 kind:=RT.kind
 split:=RT.split
 hasOwner:=rfl
 args:=RT.args
 passes:=λs=>by kernel_rfl
theorem NN:ox "function" "__getattribute__" "object.__getattribute__":=#[nn,"__getattribute__",by rw[cG,cE];kernel_rfl,#[ak]]
section
variable{k:ni}{w:aD}{A:aS}{E:#[C]}{h:bo}{g:#[da]}{d:hU}{t:Nat}{h0:gB}{x:ao}{v:ai}{o:cp}{f0:gN}
theorem VV{L0:ao}{m:#[n]}{R:dF Bool}{Q:#[aI,ai×#[L]]}(z:#[cl])(X:#[kK])(l:#[dX])(c:o.dict=aa L0)(Y:h.Ns L0 m)(p:m "read"=aa v)(M:rZ v=aw v)(O:Q (v,[]) #[gk]):#[ep,rY #[M,x] "read" R]:=by have a:#[lR,x]:=λ_=>#[aw,z,X];have e:=a t;have H:=a (t+1);have u0:=XD;have R0:=XE;have b:=Le;have Z:=FG;unfold rY;refine#[bF,jh,e,u0];show#[lL,nh "object.__getattribute__"];rw[Z];refine#[bF,jh,e,R0];refine#[bF,jh,e,b];dsimp only;refine af ?_;unfold mg uZ;refine af (vk (cj (af (oE H (af (cQ u0 ?_))))));show#[cT,zL #[M,x] (.str "read" t) (.type "function") #[c5,"object.__getattribute__"] ae ag];unfold zL Gk Ge Gd;refine#[cX,#[co,#[aa,zQ (.type "function"),bh (.type "function") "__getattr__",aw ab]=aw ab]];refine af (iM (cj ?_));show#[ed,bindSpecial (.builtin "object.__getattribute__") #[M,x]];refine#[cX,NN.bind _];refine iN NN H ahn ?_ (aha _ _);unfold Builtin.«object.__getattribute__»;refine#[m0,"read"];dsimp only;refine#[db,af (oE H (af ?_))];unfold Ft;refine af (cQ b (af (aA (af (aA ?_)))));dsimp only;unfold Rf Rc Rd;refine#[bW,af (gP z ?_)];rw[l];refine#[bd,gP,z];rw[X];rw[c];refine aA (nq Y ?_);rw[p];refine af (hY (aA (aA #[cg,?_])));rw[M];exact aA (aA O)
theorem VW{A:aS}{Q:#[aI,Unit]}(z:#[cl])(X:#[kK])(l:#[dX])(c:o.dict=ab)(O:∀c0 p0,(∀b e0,b≠x->b≠h.objs.size->#[iE].get? b=aa e0->c0.get? b=aa e0)->c0.get? x=aa {o with dict:=aa h.objs.size}->c0.Ns1 h.objs.size (λy=>if y="read"then aa v else ab)->Q () #[a7,c0,p0]):#[ep,setAttr #[M,x] "read" v]:=by
 have p:#[lR,x]:=λ_=>#[aw,z,X];unfold setAttr;refine#[a0,vk];refine af (mi (name:=ak "__setattr__") (p _) xW.slot (iN xW.slot (p _) FI ?_ (xW.args _ _ _)));unfold Builtin.«object.__setattr__»;have H:=p (t+1);have P:∀q,(#[a7,h,q]:au).toks=q:=λ_=>rfl;simp only[Qd,tR,gc,if_false];refine af ?_;rw[refuse_eq];refine af (oE (p _) (af (cQ LO ?_)));rw[xW.passes];refine aA (af (aA (af (oE (p _) (af (cQ Le (af (aA ?_))))))));dsimp only;unfold agm;refine af (m:=ownStreamTells _ _) #[cv];rw[#[eW]];refine af ?_;show#[cT,sb x ae];unfold sb;refine#[bd,gP,z];rw[X];dsimp only;rw[c];dsimp only;rw[#[bJ,#[j]],l];have a:x≠h.objs.size:=cB (bk z);have m:#[iE].get? x=aa o:=bN _ z;refine af (wpAny_alloc' (af (wpAny_update' m ?_)));show#[cT,aw (aa h.objs.size)];refine aA ?_;have Y:#[oc,(#[iE].update x λo=>{cls:=o.cls,dict:=aa h.objs.size,data:=o.data,slots:=o.slots})]:=(rP _ _ _ _ a.symm).trans (Heap.get?_push_at rfl rfl);have f:(#[iE].update x λo=>{cls:=o.cls,dict:=aa h.objs.size,data:=o.data,slots:=o.slots}).Ns h.objs.size (λ_=>ab):=⟨_,#[],_,Y,rfl,λe S=>#[ac,S,#[z]],λ_=>rfl⟩;show#[cT,agl h.objs.size _ _ v];refine#[db,af (wpAny_nsSet1 (Heap.Ns1.of_empty f) λc0 F u=>?_)];obtain⟨G,B,s,j,r,n⟩:=F.count (Within.cons "read" v Within.nil);refine af (wpAny_lookBehind j (by rw[r];exact pastItsLine_dict (aI n (by rw[cq,eI,dw];omega))) ?_);refine aA #[cg,aA (O c0 _ (λb e0 Z i e=>?_) ?_ F)];.exact(u.2 b i).trans ((rP _ _ _ _ Z).trans e)
 .refine(u.2 x a).trans (uN _ m ?_);rw[l];rfl
end
noncomputable def sA:#[y]:=by run_tac av.de ["_law_lexer","read"]
noncomputable def pq:bt:=by run_tac av.df ["_law_lexer","read"]
noncomputable def Af:lV:=by run_tac av.nF ["_law_lexer","read"] 1
def sH(n i:Nat):Ob:=.rel n (λS o=>i<n/\∃a,#[c2]/\o.data=.cell (aa #[M,a])) λS j o h⟨N,a,a0,T⟩=>⟨N,a,(h i N).trans a0,T⟩
def kv(n d:Nat):Ob:=.rel n (λS o=>d<n/\#[kK]/\(∃f0,#[dX])/\#[lE]) λS j o h⟨N,a0,T,a,E,r⟩=>⟨N,a0,T,a,(h d N).trans E,r⟩
def tv(n c:Nat):Ob:=.rel n (λS o=>c<n/\∃f0 a,S[c]?=aa a/\o=#[jC]/\f0.params=Af/\#[kQ,f0.body=.stmts sA,f0.scope=pq,f0.closure=[(ak "signs",a)]/\f0.defaults=.none/\#[kG]]) λS j o h⟨N,f0,a,a0,T⟩=>⟨N,f0,a,(h c N).trans a0,T⟩
def dc(t:Tx):#[B]:=t.map λc=>.str [c]
theorem dd.of(N:bA L r)(a0:L<=s.length)(T:∀(i:Nat)(e0:Ob),i<L->#[cC,s]->fu L e0)(E:s.take L=m0):dd L r m0 (.ret r) v s:=⟨#[dq],N,a0,T,E⟩
theorem AU:#[ca,dc t,L]:=λx z=>by obtain⟨c,_,rfl⟩:=bK.mp z;trivial
theorem ZQ(B:Bs)(w:aD)(F:#[w])(G:#[W])(g:Tx)(y:g.length<=aC):aj B w 2 (dH pq) sA [#[ct,#[bg]],#[bi]] [#[bk,dc,g]] (dd 1 #[c0,g.take,1] [#[bk,dc,g.tail]]):=by cases g with
|nil=>
 run_tac av.aJ
 refine dd.of trivial #[z] (λi e0 P Z=>?_) rfl;obtain rfl:i=0:=by omega
 cases Z;intro x z;cases z
|cons c I=>
 have e:(dc (c::I))=.str _::dc _:=rfl;rw[e];have N:#[cM,(#[dR]::dc I)]:=by simpa[dc]using y
 have a0:(!(#[dR]::dc I).isEmpty)=ae:=rfl;have T:(#[dR]::dc I).eraseIdx 0=dc _:=rfl;run_tac av.aJ
 refine dd.of trivial #[z] (λi e0 P Z=>?_) rfl;obtain rfl:i=0:=by omega
 cases Z;exact AU
theorem ZR{B:Bs}{w:aD}{d0 g0:#[n]}(F:#[w])(G:#[W]){A:aS}{s:au}{f c a:ao}{f0:gN}{g:Tx}{p0:gn}{R:#[aI,nj]}(l:g.length<=aC)(k:Cx 3 A)(O:#[c9])(H:#[ch,f,#[jC]])(j0:f0.params=Af/\#[kQ,f0.body=.stmts sA,f0.scope=pq,f0.closure=[(ak "signs",c)]/\f0.defaults=.none/\#[kG]])(k0:s.heap.CodeRec f0.code f0.qualname)(X:s.heap.IsCell c #[cP,aa,a])(y0:a≠c)(I:#[aK,a])(u0:#[aK,c])(H0:#[ny,s.heap.get?,g])(q:∀u L,Fx B [a] s L->#[g7]->(#[ny,L.heap.get?,g.tail])->VR [] u #[c0,g.take,1]->#[f1,u,L]):jJ #[aE] A #[b3,.call,f,#[ai,[.int 1 p0]]] R s:=by
 obtain⟨F0,E0,N0,M,S0,T,T0,U0⟩:=j0;have m0:uV f0 #[ai,[.int 1 p0]]=aw [(ak "count",.int 1 p0)]:=by obtain⟨⟩:=f0;dsimp only at F0 T0 U0;subst F0 T0 U0;rfl
 refine zI (fd:=f0) (body:=sA) (binds:=[(ak "count",.int 1 p0)]) (by have:=k.depth;omega) H rfl (F.nl O) k0 E0 (.of_eq m0) (λx z e=>?_) #[bO,?_] (λS c0 Y=>?_) (by rw[N0];rfl) (by rw[N0];rfl) (by rw[N0];rfl)
 .rw[N0]at z;have:(pq.names.all λq=>!(q.2==.cell))=ae:=by decide+kernel
  have:=fe.mp this x z;rw[e]at this;cases this
 .rw[aZ.mp z,N0];exact(by decide+kernel:mW (ak "count") pq.names=aa NameKind.local)
 have J:#[R,S.objs.size]:=by obtain⟨o,_,_,e,_⟩:=c0;exact eh (bk e)
 obtain⟨d,A0,x0⟩:=H0;obtain⟨O0,n0,l0⟩:=X;have o0:#[eY].cells=[(ak "signs",c)]:=T
 have j:aG B (dH pq) #[eY] [a] [#[v,1],#[bi]] [#[bk,dc,g]] S:=by
  refine{scope:=N0,kind:=rfl,kb:=#[aO],nd:=by decide+kernel,glob:=M,fh:=S0,gh:=O.grow J Y,slt:=F.slt,ns:=#[aw,c0,#[c1]],lu:=#[aO],len:=rfl,cY:=aV _,store:=λi b e0 Z U=>?_,code:=λi b e0 Z U=>?_,nodup:=by simp,high:=λb Z=>by rw[aZ.mp Z];exact I,dZ:=λn=>?_,ic:=O.1,cw:=λp C=>?_,kr:=by rw[o0];exact List.pairwise_singleton _ _};.match i,e with|0,e=>cases e;exact⟨ak "count",.local,by rfl,.inl #[du,rfl,.int 1 p0,by simp[mW],p0]⟩|1,e=>cases e;exact⟨ak "signs",.free,by rfl,.inr ⟨.inr #[aG,by decide+kernel],c,.ref a,by rw[o0];rfl,⟨O0,Y _ _ n0,l0⟩,a,rfl,rfl⟩⟩|i+2,e=>simp at e
  .match i,Z,U with|0,Z,U=>cases Z;cases U;exact⟨d,Y _ _ A0,x0⟩|i+1,Z,U=>simp at Z
  .match i,Z,U with|0,Z,U=>cases U;trivial|i+1,Z,U=>simp at Z
  .have:=aZ.mp n;have N:=bk A0;have a0:#[jm,#[eY].locals]:=rfl;rw[a0]at this;exact#[ac,N,by rw[this];exact ft _]
  .rw[o0]at C;rw[aZ.mp C];refine⟨λn=>y0 (aZ.mp n).symm,?_,u0,_,O0,Y _ _ n0,l0⟩;exact cB (bk n0)
 refine ZQ B w F G g l (A.deeper _) _ [a] _ _ _ ⟨k.handled,by have:=k.depth;show A.depth+1+2<_;omega,by have:=k.units;show A.units+3+8*2+8<_;omega⟩ j ?_;rintro C0 v w0 r0 L t⟨z,Z,s0,U,Q⟩P i0
 have b0:Fx B [a] s L:=by
  have h0:Fx B [a] s #[cQ,S,s.toks+[(ak "count",Ga 1 p0)].length]:=Fx.fY J #[dN,Y];refine h0.trans P.fx λy m=>?_;rcases bg.mp m with rfl|m;.exact .inr (aP _)
  .rcases cZ.mp m with m|m;.obtain⟨p,C,_⟩:=bK.mp m;have:=(jA.mp C).2;simp[dH]at this
   .exact .inl (fI m)
 have G0:#[ny,L.heap.get?,g.tail]:=by
  have t0:t[0]?=aa a:=gY P.pre rfl
  have I0:#[aR,w0,0,dc g.tail]:=by
   have:#[aR,(w0.take 1),0,dc g.tail]:=by rw[Q];rfl
   rwa[#[D,eD]]at this
  obtain⟨o,r,E⟩:=P.rel.store 0 a _ t0 I0;have:t.take 1=[a]:=by obtain⟨v0,rfl⟩:=P.pre;rfl
  exact#[aY,r,this▸E.take (U 0 _ #[f] I0)]
 rcases z with rfl|⟨_,z⟩;.obtain⟨u,rfl,q0⟩:=i0;exact q u L b0 P.rel.gh G0 (q0.atom #[ck])
 .cases z
section
variable{B:Bs}{w:aD}{n m k G0 t0:Nat}{O:Gm}{d0 g0:#[n]}{U x0:#[o]}{H b0 o0 w0 m0:#[l]}{J:aO}{S:#[t]}{a b c o:aT}{i0 y0 p:ba}{l:#[y]}{h0:#[al]}
theorem Ia{b:Nat}:(dc t).map (eA b)=dc t:=by unfold dc;rw[gA];rfl
theorem ZH{b:Nat}(h:b<H.length):hc H b [x]=H.set b (aX b x):=by rw[Qq,if_pos h];rfl
theorem iV.list:iV (.list X):=λS o⟨Y,k,e,_⟩h a U=>#[iL,λp0 n _ b=>by grind]
theorem cz.dc:cz 1 [#[bk,dc,t]]:=#[aG,λi e0 h=>by match i,h with|0,h=>cases h;exact⟨AU,.list,#[ck]⟩|i+1,h=>simp at h]
theorem Ev.UA(F:#[w])(G:#[W]){j l y1 Q1 g X m1 T1 U1:Nat}{j0:#[fd]}{t:Tx}{e:aT}(m:#[fJ])(d:Ev B w (n+4) O o U H #[cn] b0)(c0:#[av,b0,kv X l])(Y:b0[l]?=aa (bS m1 j0))(A1:j0.lookup (ak "read")=#[ad,y1])(h0:b0[y1]?=aa (tv T1 Q1))(k:b0[Q1]?=aa (sH U1 g))(R:#[aR,b0,g,dc t])(q1:g≠Q1)(t0:O.fz<=g)(I:Ev B w (n+4) O e U b0 #[be,1] b0)(H0:b0.set g (.list (dc t.tail))=m0)(c1:#[ee])(Y0:#[eb,"read"])(Z0:#[b7]):Ev B w (n+4) O #[gV,"read"] U H #[c0,t.take,1] m0:=λA J S s Q E c b q=>by
 subst H0;rw[uU,Y0 J];refine af (d A J S s _ E c b λu0 k0 C0 C o0=>#[a0,dR]);obtain⟨x,z,rfl⟩:=o0;obtain⟨w0,x1,_,Z1,P1,⟨i2,g1⟩,L0,d2,e2⟩:=C.rel.store j x _ z c0;obtain⟨u1,C1,_,r0,i1,e1,n1,v1,w1,s1⟩:=C.rel.store l L0 _ d2 Y;obtain⟨v,p,⟨f,s0,rfl⟩,_⟩:=s1 _ _ A1;obtain⟨q0,l1,_,R0,f0,Y1,O1,rfl,F0,E0,N0,M,S0,T,T0,U0⟩:=C.rel.store y1 f _ s0 h0;have J1:#[n5,[e].length,#[f3,[e]]]:=by rw[dt i0 J c1];rfl
 have H1:∀p0,#[dT,mb i0 #[cm] [] #[f3,[e]] [],{k0 with toks:=p0}]:=λp0=>by rw[dt i0 J c1];have I1:=C.toks p0;refine AN (fZ J [e]) (eR ((cy.cons I .nil) A J C0 _ _ E c I1.rel λZ n0 Q0 l0 M0=>?_));have c2:=I1.trans l0;have t1:=gY l0.pre s0;obtain⟨q0,l1,_,R0,f0,Y1,O1,rfl,F0,E0,N0,M,S0,T,T0,U0⟩:=l0.rel.store y1 f _ t1 h0;have o1:=l0.rel.code y1 f _ t1 h0;obtain⟨N1,d1,b1,j1,_⟩:=o1 _ f0 l1 rfl;obtain⟨O0,r1,_,j2,M1,R1,p1⟩:=l0.rel.store Q1 Y1 _ O1 k;obtain⟨L1,E1,F1⟩:=l0.rel.store g M1 _ R1 R;refine#[a3,#[Q,f0,l1,rfl]];cases M0 with
 |cons M0 X0=>
  cases X0;obtain⟨X1,rfl⟩:=M0;have z1:g+[Ob.list (dc t)].length<=b0.length:=by have:=#[V,R];simp only[EJ];omega
  have k1:#[gy,[Ob.list (dc t)],b0[g+i]?=aa (aX g e0)]:=λi e0 h=>by match i,h with|0,h=>cases h;rw[rK,R];show _=aa (Ob.list ((dc t).map (eA g)));rw[Ia]|i+1,h=>simp at h
  have x0:=l0.rel.ia g z1 k1 cz.dc
  have G1:(Q0.drop g).take [Ob.list (dc t)].length=[M1]:=by
   have N:(Q0.drop g)[0]?=aa M1:=by rw[jz];exact R1
   match I0:Q0.drop g,N with|y::r,N=>cases N;rfl
  rw[G1]at x0;obtain⟨⟨h2,f2,g2⟩,_⟩:=x0.store 0 M1 _ rfl rfl;refine gr (ZR F G (c:=Y1) (a:=M1) m (c.le #[f]) l0.rel.gh l1 ⟨F0,E0,N0,M,S0,T,T0,U0⟩ (d1▸j1) ⟨O0,r1,p1⟩ (λh=>q1 (iy l0.rel.nodup R1 (h▸O1))) (l0.rel.high _ (bz R1)) (l0.rel.high _ (bz O1)) ⟨h2,f2,g2⟩ λu L a1 A0 a2 v0=>?_);have h1:cM B [M1] [#[bk,dc,t.tail]] L.heap:=⟨rfl,by simp,x0.high,λi a e0 N a0=>by match i,N,a0 with|0,N,a0=>cases N;cases a0;exact⟨a2,trivial⟩|i+1,N,a0=>simp at N⟩;have J0:=aB.ia g l0.rel t0 z1 cz.dc cz.dc (by rw[G1];exact x0) (by rw[G1];exact a1) A0 (by rw[G1];exact h1);rw[ZH (by simp only[EJ]at z1;omega)]at J0;have P:aX g (.list (dc t.tail))=#[bk,dc,t.tail]:=by show Ob.list ((dc t.tail).map (eA g))=_;rw[Ia]
  rw[P]at J0;exact q u L Q0 (c2.trans J0) (v0.nil _)
 obtain⟨N,G0,B1,f1,b2⟩:=k0;unfold vd uW ve;simp only[J1,Z0,if_true,tR,tU];refine#[b9,VV x1 P1 g1 e2 ⟨u1,r0,i1,C1,e1,n1,λ_=>rfl⟩ p rfl ?_];exact#[db,H1 _]
end
section
variable{B:Bs}{w:aD}{n m k G0 t0:Nat}{O:Gm}{d0 g0:#[n]}{U x0:#[o]}{H b0 o0 w0 m0:#[l]}{J:aO}{S:#[t]}{a b c o:aT}{i0 y0 p:ba}{l:#[y]}{h0:#[al]}
theorem aj.ps(m:#[h8,s0])(e:#[aF,v])(g:#[bx,o,#[ci]])(P:#[cC,o0])(g0:#[eO])(f:o0[d]?=aa (bS k j0))(l0:i≠d)(x0:O.fz<=i)(E0:O.fz<=d)(n0:r0 G=ab)(N:#[d4,T,G])(Y:j0.length+1<=aC)(u:∀J,#[hu,#[c4,G,p]])(y0:jv j0 G v=A0)(q0:o0.length=t0)(Z:o0.set d (bS t0 A0)=m0)(j:#[hw]):#[eJ,[.Attribute o G p]]:=by
 refine#[nZ,L=o0.set d (bS o0.length (jv j0 G v)),λA J S s Q E b M q=>?_];refine Gv (#[cs,e,s,b,M,λu0 k0 R c I=>#[cs,g,_,b,c.rel,λC0 r f0 t d0=>?_]]) (u _);obtain⟨x,z,rfl⟩:=d0;have y:=t.rel.len
 have p0:k<=o0.length:=by
  rw[<-y];have w0:d<f0.length:=by rw[y];exact#[V,f]
  obtain⟨o,_,h,_⟩:=t.rel.store d f0[d] _ (bD _) f;exact h
 exact aG.setAttr t.rel m z P g0 f l0 x0 E0 (I.pre t.pre) (eK y.symm) p0 (y▸(I.pre t.pre).below) n0 N Y λc0 a0=>#[gQ,(c.trans t).trans a0]
theorem Ev.Um{G:aq}(m:#[kE])(g:#[fD])(P:#[cC,b0])(X:#[eO])(j:#[iW])(n0:i≠d)(p0:#[dV,j0.lookup,G])(v:#[eT,G,f])(C0:#[iu])(F0:#[gU])(o0:#[aq,f])(u:#[iI])(U0:qO G=ae)(a0:#[ec])(w0:∀Q0 r,sd o Q0 r=aw ())(Z:b0++[nI (i+1) f i]=m0)(l:#[fH]):#[aP,#[c4,G,y0],.ob r,m0]:=λA J S s Q E b M q=>by subst Z l;rw[uT,a0 J];refine af (g A J S s _ E b M λu0 k0 x c p=>?_);obtain⟨N0,O0,rfl⟩:=p;obtain⟨s0,L0,E0,_,_,R0,_⟩:=c.rel.inst O0 P X j n0;obtain⟨l0,i0,N,J0,I0,G0,H0,A0,t0,x0,M0,t,L,Y,c0⟩:=m.ex;have g0:=#[V,O0];refine#[gT];obtain⟨a,z,S0,h0,T0⟩:=k0;refine Uw m.mro m.ga m.ha #[cW,c.rel.gh,t,Y] #[gR,L.at',c.rel.gh,c0] m.ly m.pd v #[cW,c.rel.gh,C0,o0] F0 u U0 E0 (R0 _ p0) ?_;rw[w0];refine#[db,aA (#[a9,c.trans (aB.push c.rel rfl #[du,by rw[aY];omega,hR _,_,by rw[cL g0];exact O0] #[aO] λn R I _ o f0 g d0=>?_),#[P,by rw[<-c.rel.len];simp]])];rw[#[aW]]at g;grind
theorem KH:qd "iter"=ab:=#[p]
theorem MA:vg "iter"=ae:=#[p]
theorem IS:kW lg "iter"=aa uE.«iter»:=uY (#[p])
theorem Ub(a b:ai):kU "iter" #[ai,[a,b]]:=#[p]
theorem Cl.Wx(b:#[av,H,nI Y f i])(e:H++[ks (j+1) j ae]=m0)(c:H.length=r):#[g2,"iter",[.ob j,.str []],.ob r]:=λA J S Z s Q E G M p q=>by subst e c;cases p with
|cons N a0=>cases a0 with
|cons a0 T=>
 cases T;obtain⟨x,a,rfl⟩:=N;obtain⟨y,p0,rfl,m⟩:=a0;obtain⟨C,F,_,u,z,d,rfl⟩:=M.store j x _ a b;have v:=#[V,a];refine Rt KH MA IS (Ub _ _) ?_;refine#[cX,#[ak]];refine#[bF,jh,#[P,F],XN];refine#[a0,hY];refine af (jO ?_ (by size_fits));obtain⟨⟨l⟩⟩:=y;have:=by simpa using m
 subst this;refine aA #[cg,#[kp,aB.push M rfl ⟨by rw[aY];omega,hR _,x,_,by rw[cL v];exact a,rfl⟩ #[aO] λn R k _ o f0 g t=>?_]];rw[#[aW]]at g;grind
end
section
noncomputable def HA:#[y]:=by run_tac av.de ["_netrclex","_read_char"]
noncomputable def Nm:bt:=by run_tac av.df ["_netrclex","_read_char"]
noncomputable def vA:#[y]:=by run_tac av.de ["_netrclex","get_token"]
noncomputable def lC:bt:=by run_tac av.df ["_netrclex","get_token"]
noncomputable def Hy:#[y]:=by run_tac av.de ["_netrclex","push_token"]
noncomputable def Nk:bt:=by run_tac av.df ["_netrclex","push_token"]
theorem DS:#[cJ,"lineno"]:=by rw[cG,cE];kernel_rfl
theorem OE:#[cJ,"instream"]:=by rw[cG,cE];kernel_rfl
theorem yd:#[cJ,"whitespace"]:=by rw[cG,cE];kernel_rfl
theorem yc:#[cJ,"pushback"]:=by rw[cG,cE];kernel_rfl
theorem DT:#[cJ,"_read_char"]:=by rw[cG,cE];kernel_rfl
structure cb(B:Bs)(f:ao):Prop where
 ex:∃q0 f0,#[iu]/\#[gU]/\#[hN]
 out:#[aq,f]
structure fs(B:Bs)(r0:#[n]):Prop where
 cl:hj B 298 "object" [.type "object"] "object.__new__" "object.__getattribute__" r0
 n1:r0 "lineno"=ab
 n2:r0 "instream"=ab
 n3:r0 "whitespace"=ab
 n4:r0 "pushback"=ab
 m1:#[eT,"_read_char",281]
 m2:#[eT,"get_token",288]
 m3:#[eT,"push_token",295]
 o1:cb B 281
 o2:cb B 288
 o3:cb B 295
 f1:bb B 281 Nm 1 HA
 f2:bb B 288 lC 1 vA
 f3:bb B 295 Nk 2 Hy
abbrev jr(j:Nat):#[fd]:=[(ak "lineno",#[ay,j]),(ak "instream",.ob 4),(ak "whitespace",.str [10,9,13,32]),(ak "pushback",.ob 5)]
abbrev dz(j:Nat)(g:Tx)(l:#[bB]):#[l]:=[#[bk,dc,g],sH 1 0,tv 2 1,bS 3 [(ak "read",.ob 2)],kv 4 3,#[T,l],bS 6 (jr j),dg 7 298 6 ab]
theorem Xn:(jr j).lookup (ak "lineno")=aa (.int j):=by rfl
theorem alb:(jr j).lookup (ak "instream")=#[ad,4]:=by rfl
theorem Cj:(jr j).lookup (ak "whitespace")=aa (.str [10,9,13,32]):=by rfl
theorem Xp:(jr j).lookup (ak "pushback")=#[ad,5]:=by rfl
theorem Xq{j r:Nat}:jv (jr j) (ak "lineno") #[U,r]=jr r:=by rfl
theorem ph:iV (bS n j0):=λS o⟨_,j,_,h,_⟩g a U=>#[iL,λp0 n c=>by grind]
theorem Kh:iV (dg n C d X):=λS o⟨_,b,h,_⟩g a U=>h.YC U b
theorem UG:iV (sH n i):=λS o⟨_,_,a,_,h⟩g a U=>#[iL,λp0 n c=>by grind]
theorem VJ:iV (kv n d):=λS o⟨_,_,_,_,_⟩g a U=>#[iL,λp0 n c=>by grind]
theorem ZO:iV (tv n c):=λS o⟨_,_,f0,a,_,h,_⟩g a U=>bu.no U (λp0 q t b=>#[Y]) λp0 n b=>by grind
theorem rf:#[ca,ah l,L]:=λx z=>by obtain⟨c,_,rfl⟩:=bK.mp z;trivial
theorem cz.cons(h:fu L e0)(k:iV e0)(r:#[hr])(t:#[gy,l,fu L e0/\iV e0/\#[hr]]):∀(i:Nat)(x:Ob),#[G,(e0::l),x]->fu L x/\iV x/\∀R,x≠.raw R|0,x,e=>by cases e;exact⟨h,k,r⟩|i+1,x,e=>t i x (by simpa using e)
theorem kz:cz 8 (dz j g l):=#[aG,cz.cons AU .list #[aO] #[dl,#[ap,1<=8],UG,#[dl,#[ap,2<=8],ZO,#[dl,#[ap,3<=8],ph,#[dl,#[ap,4<=8],VJ,#[dl,rf,.list,#[dl,#[ap,6<=8],ph,#[dl,#[ap,7<=8],Kh,λi e0 h=>by simp at h]]]]]]]]
theorem dd.ia(h:cz L s)(k:bA L r):dd L r s (.ret r) v s:=dd.of k (eK h.len.symm) (λi e0 _ e=>(h.ok i _ e).1) (iG (eK h.len))
theorem dd.AE(h:cz L s):dd L .none s .next v s:=⟨.inr #[bV],trivial,eK h.len.symm,λi e0 _ e=>(h.ok i _ e).1,iG (eK h.len)⟩
variable{B:Bs}{w:aD}{d0 g0 r0:#[n]}
theorem ZS(F:#[w])(G:#[W])(L:fs B r0)(j:Nat)(g:Tx)(l:#[bB])(y:g.length<=aC)(Z:j<2^40):bH B w 5 281 [.ob 7] (dz j g l) #[c0,g.take,1] (dz (j+if g.head?=aa 10 then 1 else 0) g.tail l):=by refine bH.dU F L.f1 #[ak] rfl rfl rfl #[p] rfl rfl rfl ?_;have m:=L.cl;have X:=L.n1;have Y:=L.n2;have d:=DS;have b:=OE;have t:=@Xq j;cases g with
|nil=>
 run_tac av.aJ
 exact dd.ia kz trivial
|cons c I=>
 by_cases a:c=10
 .subst a;run_tac av.aJ
  .trivial
  .exact dd.ia kz trivial
 .have y0:(List.take 1 (c::I)==[10])=ag:=by simpa using a
  have e:(j+if(c::I).head?=aa 10 then 1 else 0)=j:=by simp[a]
  rw[e];run_tac av.aJ
  exact dd.ia kz trivial
end
theorem Dw(x:V):eA 0 x=x:=by cases x<;>first|rfl|simp[eA]
theorem Dv(e0:Ob):aX 0 e0=e0:=by have h:=funext Dw;cases e0 with|list X=>simp[aX,h]|tup X=>simp[aX,h]|raw R=>rfl|rel n R M=>have e:=gM n;simp only[aX,oh];congr 1|hp n R P T M k=>have e:=gM n;simp only[aX,oh];congr 1
theorem gd.le{H m0:#[g]}(h:#[cj,gd,f,Y,r,m0])(a:n<=m):gd B w m O f Y U H r m0:=λA J S Z s R G=>h A _ _ _ s R (G.le a)
theorem bH.sF(h:bH B w n f z g r l)(a:O.fz=0)(j:cz L g)(c:cz L l)(E:#[ca,z,L]):gd B w n O #[cm] z U (g++v0) r (l++v0):=by
 have M:=j.len;subst M;refine bH.call 0 h (eK a) (#[z]) (λi e0 e=>?_) j c E ?_ (Dw r) ?_;.rw[Dv,gM,cL #[V,e]];exact e
 .rw[show eA 0=id from funext Dw,uk]
 .unfold hc;rw[show aX 0=id from funext Dv,uk,Qt,ja,gM,c.len,PR]
def eV(c:Nat):Bool:=#[aB,c∈([10,9,13,32]:Tx)]
def ea:Tx->Tx->Tx×Tx|a,[]=>(a,[])|a,c::r=>if eV c then(a,r)else#[cb,c,92,match r with|[]=>(a,[])|d::z=>ea (a++[d]) z,ea (a++[c]) r]
def fB:Tx->Tx->Tx×Tx|a,[]=>(a,[])|a,c::r=>#[cb,c,34,(a,r),#[cb,c,92,match r with|[]=>(a,[])|d::z=>fB (a++[d]) z,fB (a++[c]) r]]
def cC:Tx->Tx×Tx|[]=>([],[])|c::r=>if eV c then cC r else#[cb,c,34,fB [] r,#[cb,c,92,match r with|[]=>([],[])|d::z=>ea [d] z,ea [c] r]]
abbrev eU(T:Nat)(g:Tx)(f:Bool):#[l]:=[#[bk,dc,g],sH 1 0,tv 2 1,bS 3 [(ak "read",.ob 2)],kv 4 3,#[T,[]],bS 6 (jr (T-g.count 10)),dg 7 298 6 ab,nI 8 281 7,ks 9 8 f]
theorem aea{r:Tx}(h:(c::r).count 10<=T):(T-(c::r).count 10+if(c::r).head?=aa 10 then 1 else 0)=T-r.count 10:=by
 rw[List.count_cons]at h⊢;by_cases X:c=10;.simp at h⊢;omega
 simp_all
section
variable{B:Bs}{w:aD}{d0 g0 r0:#[n]}
theorem CR(F:#[w])(G:#[W])(L:fs B r0)(p:T<2^40){g:Tx}(y:g.length<=aC)(X:g.count 10<=T)(U:#[g])(f:Bool):gd B w 5 (dH lC) #[M,281] [.ob 7] U (eU T g f) #[c0,g.take,1] (eU T g.tail f):=by
 have h:=ZS (w:=w) F G L (T-g.count 10) _ [] y (ki (Fh _ _) p);have e:(T-g.count 10+if g.head?=aa 10 then 1 else 0)=T-g.tail.count 10:=by cases g with|nil=>rfl|cons c r=>exact aea X
 rw[e]at h;exact bH.sF h rfl kz kz #[bO,by rw[aZ.mp z];exact#[ap,7<8]]
theorem sY:dd 8 #[bm] (dz (T-g.count 10) g []) (.ret (.str t)) v (eU T g f):=dd.of trivial #[z] (λi e0 P e=>(kz).ok i _ (by
 have:(eU T g f)[i]?=(dz (T-g.count 10) g [])[i]?:=by rw[#[co,eU T _ _=dz _ _ _++[nI 8 _ 7,ks 9 8 _]],cL (#[f])]
 rw[<-this];exact e)|>.1) rfl
end
theorem Ck:∀(p0 r:Tx),(∀x∈p0,eV x=ae)->cC (p0++r)=cC r|[],_,_=>rfl|c::p0,r,h=>by show(if eV c then cC (p0++r)else _)=_;rw[if_pos (h c #[bL]),Ck _ r #[ga]]
structure iI(c:Nat):Prop where
 ws:eV c=ag
 q:(c==34)=ag
 b:(c==92)=ag
def Nq(b:Nat)(f:Tx):Prop:=#[hS,f,f=[]->b=1]
theorem aks(c:Nat):eV c=(#[aB,c=10]||#[aB,c=9]||#[aB,c=13]||#[aB,c=32]):=by unfold eV;grind
theorem HE{a f r:Tx}(u:∀x∈f,eV x=ae)(n:f≠[]):∃p0,#[hS,p0,ea a (f++r)=(a,p0++r)]:=by cases f with|nil=>exact#[dp,n]|cons s f=>refine#[aw,λx z=>u x #[bo,z],?_];rw[ea.eq_def];simp[u s #[bL]]
theorem vH{a r:Tx}{c:Nat}(h:iI c):ea a (c::r)=ea (a++[c]) r:=by rw[ea.eq_def];simp[h.ws,h.b]
theorem xw{a r:Tx}{c:Nat}(h:iI c):fB a (c::r)=fB (a++[c]) r:=by rw[fB.eq_def];simp[h.q,h.b]
theorem HD{a r:Tx}:ea a (92::d::r)=ea (a++[d]) r:=#[p]
theorem ZL{a r:Tx}:fB a (92::d::r)=fB (a++[d]) r:=#[p]
theorem ZM{a r:Tx}:fB a (34::r)=(a,r):=by rw[fB.eq_def];simp
theorem Xt{r:Tx}(h:iI c):cC (c::r)=ea [c] r:=by rw[cC.eq_def];simp[h.ws,h.b,h.q]
theorem KX{r:Tx}:cC (92::d::r)=ea [d] r:=#[p]
theorem Xv{r:Tx}:cC (34::r)=fB [] r:=#[p]
theorem Mw:iI 40:=#[cc]
theorem Mx:iI 41:=#[cc]
theorem My:iI 59:=#[cc]
theorem Ut{a r:Tx}:ea a (34::r)=ea (a++[34]) r:=by rw[ea.eq_def];simp[eV]
theorem Xx(M:#[ae]){c b:Nat}(h:iI c)(I:b<=2){f r:Tx}(u:Nq b f):∃p0,#[hS,p0,cC (fm (aF M c) b++f++r)=(aF M c,p0++r)]:=by
 have O:c≠34:=by have:=h.q;simpa using this
 have Z:c≠92:=by have:=h.b;simpa using this
 have o:∀d,d∈([[],#[eK],[92,41],#[fX],[92,92,59],[92,34]]:#[bB])->∃p0,#[hS,p0,cC (fm (d++[c]) b++f++r)=(d++[c],p0++r)]:=by
  intro d a;rcases(show b=0\/b=1\/b=2 by omega)with rfl|rfl|rfl
  .have n:f≠[]:=λe=>by have:=u.2 e;cases this
   simp only[bg,gL,or_false]at a;rcases a with rfl|rfl|rfl|rfl|rfl|rfl;all_goals simp only[fm,lZ,ja,fH,du];simp[O,Z,lZ,Xt h,KX,vH h,vH Mw,vH Mx,vH My,HD,Ut];exact HE u.1 n
  .refine#[bN,f,u.1];simp only[bg,gL,or_false]at a;rcases a with rfl|rfl|rfl|rfl|rfl|rfl;all_goals simp only[fm,nD,mU,PV,ja,fH,du];simp[O,Z,Xv,xw h,xw Mw,xw Mx,xw My,ZL,ZM]
  .have n:f≠[]:=λe=>by have:=u.2 e;cases this
   simp only[bg,gL,or_false]at a;rcases a with rfl|rfl|rfl|rfl|rfl|rfl;all_goals simp only[fm,qy,mU,PV,ja,fH,du];simp[KX,HD];exact HE u.1 n
 refine o (gU (M c)) ?_;generalize M c=k;match k with|0=>decide|1=>decide|2=>decide|3=>decide|4=>decide|k+5=>show[92,34]∈_;decide
def ig(f:Nat):Tx:=if f/3=0 then[32]else if f/3=1 then[9]else if f/3=2 then[13,10]else if f=10 then[]else[10]
theorem aap(h:f<12):Nq (f%3) (ig f):=by
 have:∀f<12,#[hS,ig f,ig f=[]->f%3=1]:=by decide
 exact this f h
def eP(M b:#[ae]):Nat->#[i]->Tx|_,[]=>[]|k,c::r=>fm (aF M c) (b k%3)++ig (b k)++eP M b #[u] r
theorem HO(M b:#[ae]):∀(k:Nat)(l:#[g])(c:Nat),eP M b k (l++[c])=eP M b k l++(fm (aF M c) (b (k+l.length)%3)++ig (b (k+l.length)))|k,[],c=>by simp[eP]|k,d::r,c=>by show fm _ _++ig _++eP _ _ _ (r++[c])=_;rw[HO _ _ _ r c,show k+1+r.length=k+(d::r).length by simp;omega];show _=fm _ _++ig _++eP _ _ _ r++_;simp only[du]
theorem KZ(M b:#[ae]){r v0 p0:Tx}(h:iI c)(v:b k<12)(d:∀x∈p0,eV x=ae):∃w,#[hS,w,cC (p0++(eP M b k (c::r)++v0))=(aF M c,w++(eP M b #[u] r++v0))]:=by rw[Ck _ _ d];show∃w,_/\cC (fm _ _++ig _++eP _ _ _ r++v0)=_;rw[du _ _];exact Xx _ h #[f] (aap v)
def jk:#[cY]|0=>#[gw]|1=>[34,101,110,100]|_=>[101,110,100,10]
theorem Xw(d:∀x∈p0,eV x=ae):cC (p0++jk t)=(#[gw],[]):=by rw[Ck _ _ d];match t with|0=>decide|1=>decide|t+2=>rfl
theorem vI:∀(n:Nat)(r a:Tx),r.length<=n->(ea a r).2<:+r
 |_,[],_,_=>yQ _
 |0,c::r,_,h=>absurd h #[z]
 |n+1,c::r,a,h=>by
  have b:=by simpa using h
  rw[ea.eq_def];dsimp;split;.exact jC _ _
  .split;.cases r with|nil=>exact EO|cons d z=>exact#[nE,(vI n _ _ (by simp at b;omega))]
   .exact(vI n r _ b).trans (jC _ _)
theorem CP:∀(n:Nat)(r a:Tx),r.length<=n->(fB a r).2<:+r
 |_,[],_,_=>yQ _
 |0,c::r,_,h=>absurd h #[z]
 |n+1,c::r,a,h=>by
  have b:=by simpa using h
  rw[fB.eq_def];dsimp;split;.exact jC _ _
  .split;.cases r with|nil=>exact EO|cons d z=>exact#[nE,(CP n _ _ (by simp at b;omega))]
   .exact(CP n r _ b).trans (jC _ _)
theorem KY:∀r:Tx,(cC r).2<:+r
 |[]=>yQ _
 |c::r=>by
  rw[cC.eq_def];dsimp;split;.exact(KY r).trans (jC _ _)
  .split;.exact(CP _ r _ #[aJ]).trans (jC _ _)
   .split;.cases r with|nil=>exact EO|cons d z=>exact#[nE,(vI _ _ _ #[aJ])]
    .exact(vI _ r _ #[aJ]).trans (jC _ _)
def gF:Nat->Tx->Tx|0,t=>t|k+1,t=>(cC (gF k t)).2
theorem CZ(t:Tx):∀k,gF k t<:+t|0=>yQ _|k+1=>(KY _).trans (CZ t k)
theorem aac(t:Tx)(k:Nat):#[aX,(gF k t),t.length]:=(CZ t k).length_le
theorem aaa(t:Tx)(k:Nat):(gF k t).count 10<=t.count 10:=(CZ t k).sublist.count_le _
theorem CY(M b:#[ae])(v:∀k,b k<12)(C:#[iN])(v0:Tx):∀k,k<=L.length->∃p0,#[hS,p0,gF k (#[iP,b]++v0)=p0++(eP M b k (L.drop k)++v0)]|0,_=>⟨[9,10],by decide,#[p]⟩|k+1,h=>by obtain⟨p0,N,a0⟩:=CY _ _ v C _ k #[f];rw[og h]at a0;obtain⟨w,T,E⟩:=KZ _ _ (C _ (kg _)) (v k) N;refine#[aw,T,?_];show(cC _).2=_;rw[a0,E]
theorem aad(M b:#[ae])(v:∀k,b k<12)(C:#[iN])(v0:Tx)(R:k<L.length):(cC (gF k (#[iP,b]++v0))).1=aF M L[k]:=by obtain⟨p0,N,a0⟩:=CY _ _ v C _ k (eh R);rw[og _]at a0;obtain⟨w,T,E⟩:=KZ _ _ (C _ (kg _)) (v k) N;rw[a0,E]
theorem aab(M b:#[ae])(v:∀k,b k<12)(C:#[iN])(e:Nat):cC (gF L.length (#[iP,b]++jk e))=(#[gw],[]):=by obtain⟨p0,N,a0⟩:=CY _ _ v C _ _ #[aJ];rw[a0,rB];exact Xw N
namespace av
open Lean Meta Elab Tactic
def sub:List Nat->eC->bO eC
 |[],_=>throwError"path"
 |k::r,l=>do
  let aa S<-gH 400 l|throwError"block"
  let aa s:=S[k]?|throwError"place"
  let s<-cc s
  match r with
   |[]=>return s
   |q::r=>
    let b:=if s.isAppOf ``PySem.Stmt.For then(if q==0 then 2 else 3)else if q==0 then 1 else 2;sub r (s.getArg! b)
def sW(c:bJ)(p:List Nat):il Unit:=do(<-mQ).assign (<-sub p (mkConst c))
end av
noncomputable def VF:aN:=by run_tac av.sW `Mine.vA [3,0,1,0,0]
noncomputable def VD:aN:=by run_tac av.sW `Mine.vA [3,0,1,1,2]
theorem CO{r:Tx}:fB a (c::r)=if c==34 then(a,r)else if c==92 then fB (a++r.take 1) r.tail else fB (a++[c]) r:=by cases r<;>simp[fB]
theorem AA{r:Tx}:ea a (c::r)=if eV c then(a,r)else if c==92 then ea (a++r.take 1) r.tail else ea (a++[c]) r:=by cases r<;>simp[ea]
theorem Xu{r:Tx}:cC (c::r)=if eV c then cC r else if c==34 then fB [] r else if c==92 then ea (r.take 1) r.tail else ea [c] r:=by rw[cC.eq_def];cases r<;>simp[ea]
section
variable{B:Bs}{w:aD}{d0 g0 r0:aq->Option ai}
theorem ZD(F:aL B d0 g0)(G:Gl B d0 g0)(L:fs B r0)(j:Nat)(g:Tx)(l:List _)(t:Tx)(y:l.length<2^20):bH B w 3 295 [.ob 7,.str t] (dz j g l) .none (dz j g (l++[t])):=by
 refine bH.dU F L.f3 ((rfl)) rfl rfl rfl (rfl) rfl rfl rfl ?_;have m:=L.cl;have X:=L.n4;have d:=yc;have N:(ah l).length<=aC:=by simp[ah,aC];omega
 run_tac av.aJ
 rw[(by simp[ah]:ah _++[.str t]=ah (l++[t]))];exact dd.AE kz
theorem Zt(F:aL B d0 g0)(G:Gl B d0 g0)(L:fs B r0)(j:Nat)(g:Tx)(l:List _)(t:Tx)(y:l.length<2^20):bH B w 3 288 [.ob 7] (dz j g (t::l)) (.str t) (dz j g l):=by
 refine bH.dU F L.f2 ((rfl)) rfl rfl rfl ((rfl)) rfl rfl rfl ?_;have m:=L.cl;have X:=L.n4;have d:=yc;have N:(ah (t::l)).length<=aC:=by simp[ah,aC];omega
 run_tac av.aJ
 exact dd.ia kz trivial
theorem dD(h:n<=2^20):n<=aC:=aI h (by decide)
theorem rj{r:Tx}(h:r.count 10<=T):r.tail.count 10<=T:=by cases r with|nil=>exact h|cons c r=>exact aI (List.count_le_count_cons ..) h
theorem ZK(F:aL B d0 g0)(G:Gl B d0 g0)(L:fs B r0){T:Nat}(p:T<2^40){h0:bL->List (Option V)->List Ob->Prop}{e r:Tx}{E:Option V}(Y:e.length+r.length<=2^20)(M:r.count 10<=T)(P:∀t z v,fB e r=(t,z)->h0 (.ret (.str t)) v (eU T z ae))(x:∀t E,fB e r=(t,[])->h0 .next [aa (.ob 7),aa (.str t),aa (.ob 9),E,ab] (eU T [] ag)):aj B w 6 (dH lC) [VF] [aa (.ob 7),aa (.str e),aa (.ob 9),E,ab] (eU T r ae) h0:=by have m:=L.cl;have i:=L.n3;have S:=L.m1;have h:=yd;have n:=DT;have b:=λj=>@Cj j;obtain⟨⟨b0,J,o0,m0,C⟩,d⟩:=L.o1;have Q:∃q0,B.heap.get? 281=aa q0/\q0.cls=.type "function"/\q0.data=.func J:=⟨_,o0,m0,C⟩;have R:=λ(g:Tx)(y:g.length<=aC)(X:g.count 10<=T)U f=>(CR (w:=w) F G L p y X U f);have c0:=λ(g:Tx)(y:g.length<=aC)(X:g.count 10<=T)U f=>((R g y X U f).le (by decide:5<=6)).s;refine aj.Bz (C:=9) 3 (r.length+1) (c:=λk v s=>∃H q E,k=H.length+1/\q.length+H.length<=2^20/\H.count 10<=T/\fB q H=fB e r/\v=[aa (.ob 7),aa (.str q),aa (.ob 9),E,ab]/\s=eU T H ae) (Ev.name 2 rfl rfl (by decide+kernel)) (AW rfl) rfl (.inl rfl) ⟨r,e,E,rfl,Y,M,rfl,rfl,rfl⟩ ?_ (λ_ _=>rfl);rintro k v s⟨g,q,A,rfl,N,a0,a,rfl,rfl⟩;cases g with
|nil=>refine⟨ab,eU T [] ag,iH.last rfl rfl (aV _) o0 C d (R [] (dD (by simp)) a0 _ ae) rfl rfl rfl,?_⟩;have:=x q A (by rw[<-a,fB]);show aj B w 6 (dH lC) [] _ _ _;exact aj.nil (aj.nil this)
|cons c g=>
 have I:(c::g).length<=aC:=dD (by omega);refine⟨aa (.str [c]),eU T g ae,iH.item rfl rfl o0 C d (R (c::g) I a0 _ ae) rfl (by simp),by simp,?_⟩;have l:g.count 10<=T:=rj a0;have o:g.length<=aC:=aI (dP _) I;simp only[cq]at N;by_cases O:c=34
 .subst O;run_tac av.aJ
  exact P _ _ _ (by rw[<-a,CO,if_pos (by decide)])
 .have y0:(([c]:Tx)==[34])=ag:=by simpa using O
  by_cases Z:c=92
  .subst Z;have u:q.length+(g.take 1).length<=aC:=dD (by rw[bI];omega);run_tac av.aJ
   exact⟨g.tail.length+1,by rw[ui,cq];omega,g.tail,_,_,rfl,by rw[aY,bI,ui];omega,rj l,by rw[<-a,CO,if_neg (by decide),if_pos (by decide)],rfl,rfl⟩
  .have O0:(([c]:Tx)==[92])=ag:=by simpa using Z
   have u:q.length+([c]:Tx).length<=aC:=dD (by simp;omega);run_tac av.aJ
   exact⟨g.length+1,by simp,g,_,_,rfl,by simp;omega,l,by rw[<-a,CO,if_neg (by simpa using O),if_neg (by simpa using Z)],rfl,rfl⟩
theorem HC(F:aL B d0 g0)(G:Gl B d0 g0)(L:fs B r0){T:Nat}(p:T<2^40){h0:bL->List (Option V)->List Ob->Prop}{e r:Tx}{E:Option V}(Y:e.length+r.length<=2^20)(M:r.count 10<=T)(P:∀t z v,ea e r=(t,z)->h0 (.ret (.str t)) v (eU T z ae))(x:∀t E,ea e r=(t,[])->h0 .next [aa (.ob 7),aa (.str t),aa (.ob 9),E,ab] (eU T [] ag)):aj B w 6 (dH lC) [VD] [aa (.ob 7),aa (.str e),aa (.ob 9),E,ab] (eU T r ae) h0:=by have m:=L.cl;have i:=L.n3;have S:=L.m1;have h:=yd;have n:=DT;have b:=λj=>@Cj j;obtain⟨⟨b0,J,o0,m0,C⟩,d⟩:=L.o1;have Q:∃q0,B.heap.get? 281=aa q0/\q0.cls=.type "function"/\q0.data=.func J:=⟨_,o0,m0,C⟩;have R:=λ(g:Tx)(y:g.length<=aC)(X:g.count 10<=T)U f=>(CR (w:=w) F G L p y X U f);have c0:=λ(g:Tx)(y:g.length<=aC)(X:g.count 10<=T)U f=>((R g y X U f).le (by decide:5<=6)).s;refine aj.Bz (C:=9) 3 (r.length+1) (c:=λk v s=>∃H q E,k=H.length+1/\q.length+H.length<=2^20/\H.count 10<=T/\ea q H=ea e r/\v=[aa (.ob 7),aa (.str q),aa (.ob 9),E,ab]/\s=eU T H ae) (Ev.name 2 rfl rfl (by decide+kernel)) (AW rfl) rfl (.inl rfl) ⟨r,e,E,rfl,Y,M,rfl,rfl,rfl⟩ ?_ (λ_ _=>rfl);rintro k v s⟨g,q,A,rfl,N,a0,a,rfl,rfl⟩;cases g with
|nil=>refine⟨ab,eU T [] ag,iH.last rfl rfl (aV _) o0 C d (R [] (dD (by simp)) a0 _ ae) rfl rfl rfl,?_⟩;have:=x q A (by rw[<-a,ea]);show aj B w 6 (dH lC) [] _ _ _;exact aj.nil (aj.nil this)
|cons c g=>
 have I:(c::g).length<=aC:=dD (by omega);refine⟨aa (.str [c]),eU T g ae,iH.item rfl rfl o0 C d (R (c::g) I a0 _ ae) rfl (by simp),by simp,?_⟩;have l:g.count 10<=T:=rj a0;have o:g.length<=aC:=aI (dP _) I;simp only[cq]at N;by_cases O:eV c=ae
 .have y0:(decide (c∈([10,9,13,32]:Tx)))=ae:=O;run_tac av.aJ
  exact P _ _ _ (by rw[<-a,AA,if_pos O])
 .have y0:(decide (c∈([10,9,13,32]:Tx)))=ag:=by simpa[eV]using O
  by_cases Z:c=92
  .subst Z;have u:q.length+(g.take 1).length<=aC:=dD (by rw[bI];omega);run_tac av.aJ
   exact⟨g.tail.length+1,by rw[ui,cq];omega,g.tail,_,_,rfl,by rw[aY,bI,ui];omega,rj l,by rw[<-a,AA,if_neg (by decide),if_pos (by decide)],rfl,rfl⟩
  .have O0:(([c]:Tx)==[92])=ag:=by simpa using Z
   have u:q.length+([c]:Tx).length<=aC:=dD (by simp;omega);run_tac av.aJ
   exact⟨g.length+1,by simp,g,_,_,rfl,by simp;omega,l,by rw[<-a,AA,if_neg O,if_neg (by simpa using Z)],rfl,rfl⟩
theorem We(F:aL B d0 g0)(G:Gl B d0 g0)(L:fs B r0)(T:Nat)(g:Tx)(y:g.length<=2^20)(p:T<2^40)(a:g.count 10<=T):bH B w 7 288 [.ob 7] (dz (T-g.count 10) g []) (.str (cC g).1) (dz (T-(cC g).2.count 10) (cC g).2 []):=by
 refine bH.dU F L.f2 (by decide+kernel) rfl rfl rfl (by decide+kernel) rfl rfl rfl ?_;have m:=L.cl;have X:=L.n4;have Y:=L.n3;have S:=L.m1;have q:=yc;have o:=yd;have x:=DT;have h:=λj=>@Xp j;have l:=λj=>@Cj j;obtain⟨⟨b0,P,o0,m0,C⟩,d⟩:=L.o1;have Q:∃q0,B.heap.get? 281=aa q0/\q0.cls=.type "function"/\q0.data=.func P:=⟨_,o0,m0,C⟩;have R:=λ(g:Tx)(y:g.length<=aC)(a:g.count 10<=T)U f=>(CR (w:=w) F G L p y a U f);have c0:=λ(g:Tx)(y:g.length<=aC)(a:g.count 10<=T)U f=>((R g y a U f).le (by decide:5<=6)).s;have J:∀F0 E0,Ev B w 6 (dH lC) (.Attribute (.Name (ak "self") F0) (ak "_read_char") E0) [aa (.ob 7),aa (.str []),ab,ab,ab] (dz (T-g.count 10) g []) (.ob 8) (dz (T-g.count 10) g []++[nI 8 281 7]):=λF0 E0=>Ev.Um m (Ev.name 0 rfl rfl (by decide+kernel)) (i:=7) (d:=6) (j0:=jr (T-g.count 10)) (e0:=dg 7 298 6 ab) rfl cA.dg rfl (by decide) rfl S o0 m0 d x (by decide+kernel) (λ_=>rfl) (λ_ _=>rfl) rfl rfl;run_tac av.aJ
 refine aj.Bz (C:=9) 3 (g.length+1) (c:=λk v s=>(∃H E,k=H.length+1/\H.length<=2^20/\H.count 10<=T/\cC H=cC g/\v=[aa (.ob 7),aa (.str []),aa (.ob 9),E,ab]/\s=eU T H ae)\/∃E t,k=0/\cC g=(t,[])/\v=[aa (.ob 7),aa (.str t),aa (.ob 9),E,ab]/\s=eU T [] ag) (Ev.name 2 rfl rfl (by decide+kernel)) (AW (X:=9) (j:=8) (f:=ae) rfl) rfl (.inl rfl) (.inl ⟨g,ab,rfl,y,a,rfl,rfl,rfl⟩) ?_ (λ_ _=>rfl);rintro k v s(⟨H,M,rfl,N,a0,b,rfl,rfl⟩|⟨M,t,rfl,N,rfl,rfl⟩)
 .cases H with
 |nil=>
  refine⟨ab,eU T [] ag,iH.last rfl rfl (aV _) o0 C d (R [] (dD (by simp)) a0 _ ae) rfl rfl rfl,?_⟩;have n:cC g=([],[]):=by rw[<-b,cC]
  rw[n];show aj B w 6 (dH lC) [] _ _ _;run_tac av.aJ
  exact sY
 |cons c H=>
  have I:(c::H).length<=aC:=dD (by omega);refine⟨aa (.str [c]),eU T H ae,iH.item rfl rfl o0 C d (R (c::H) I a0 _ ae) rfl (by simp),by simp,?_⟩;have A:H.count 10<=T:=rj a0;have r:H.length<=aC:=aI (dP _) I;simp only[cq]at N;rw[Xu]at b;by_cases O:eV c=ae
  .have y0:(decide (c∈([10,9,13,32]:Tx)))=ae:=O;rw[if_pos O]at b;run_tac av.aJ
   exact⟨H.length+1,by simp,.inl ⟨H,_,rfl,by omega,A,b,rfl,rfl⟩⟩
  .have y0:(decide (c∈([10,9,13,32]:Tx)))=ag:=by simpa[eV]using O
   rw[if_neg O]at b;by_cases Z:c=34
   .subst Z;rw[if_pos (by decide)]at b;run_tac av.aJ
    refine ZK F G L p (by simp;omega) A (λt z v e=>?_) λt E e=>?_;.show dd 8 (.str (cC g).1) (dz (T-(cC g).2.count 10) (cC g).2 []) (.ret (.str t)) v (eU T z ae);rw[b.symm.trans e];exact sY
    .exact aj.nil ⟨0,by simp,.inr ⟨E,t,rfl,b.symm.trans e,rfl,rfl⟩⟩
   .have O0:(([c]:Tx)==[34])=ag:=by simpa using Z
    rw[if_neg (by simpa using Z)]at b;by_cases i:c=92
    .subst i;rw[if_pos (by decide)]at b;have u:([]:Tx).length+(H.take 1).length<=aC:=dD (by rw[bI];simp;omega);run_tac av.aJ
     case C0=>exact Q
     refine HC F G L p (by rw[aY,bI,ui];simp;omega) (rj A) (λt z v e=>?_) λt E e=>?_;.show dd 8 (.str (cC g).1) (dz (T-(cC g).2.count 10) (cC g).2 []) (.ret (.str t)) v (eU T z ae);rw[b.symm.trans e];exact sY
     .exact aj.nil ⟨0,by simp,.inr ⟨E,t,rfl,b.symm.trans e,rfl,rfl⟩⟩
    .have R0:(([c]:Tx)==[92])=ag:=by simpa using i
     rw[if_neg (by simpa using i)]at b;have u:([]:Tx).length+([c]:Tx).length<=aC:=dD (by simp);run_tac av.aJ
     refine HC F G L p (by simp;omega) A (λt z v e=>?_) λt E e=>?_;.show dd 8 (.str (cC g).1) (dz (T-(cC g).2.count 10) (cC g).2 []) (.ret (.str t)) v (eU T z ae);rw[b.symm.trans e];exact sY
     .exact aj.nil ⟨0,by simp,.inr ⟨E,t,rfl,b.symm.trans e,rfl,rfl⟩⟩
 .refine⟨ab,eU T [] ag,iH.over rfl,?_⟩;rw[N];show aj B w 6 (dH lC) [] _ _ _;run_tac av.aJ
  exact sY
end
section
variable{k:ni}{w:aD}{E:#[C]}{h a0:bo}{g:#[da]}{d:hU}{t:Nat}{h0:gB}
variable{l0 q:aq}{C N x:ao}{J0 v0:#[L]}{i:#[bA]}{P:#[L]}{I0:#[eA]}{G0:#[a2,ao]}{H0 A0 t0 x0 M0:#[bT]}{F T:String}{w0:cp}
theorem vQ{A:aS}{r0:#[n]}{m:#[L]}{I:ao}{c0:cp}{y:#[bT]}{Q:#[C]}(S:#[fZ])(B:bh (.type T) "__init__"=aw y)(f:#[bv,C,eE l0 q C N J0 v0 ae i P ag I0 G0 H0 A0 t0 x0 M0 F])(Y:#[dU])(a:#[eT,"__init__",I])(d0:#[bv,I,c0])(u:c0.cls=.type "function")(Z:#[ev,h.get?,a0.get?])(z:a0.get? x=aa w0)(b0:w0.cls=.ref C)(l:∀(n:aS)(R:#[aI,nj]),#[f1,#[M,x],#[a7,a0,t]]->jJ #[cS] n (.call (.builtin F) #[ai,.ref C::m]) R #[bw])(O:ax #[cS] (A.under (.builtin "type.__call__" #[ai,.ref C::m])) #[b3,dX,I,#[az]::m] (λr L=>r=.none/\#[bs,x,L]) E #[a7,a0,t]):#[ep,#[b3,dX,C,m]]:=by
 have U:=tc_lookup;have v:=tc_bind (.ref C);have p:#[kW,C,"type"]:=#[P,f];have J:=Z _ _ f;have M:a0.Ns N r0:=let⟨o,j,s,e,r⟩:=Y;⟨o,j,s,Z _ _ e,r⟩;have X:=Z _ _ d0;have G:(iL C::v0).contains (.ref C)=ae:=by simp
 refine gr (Sx ?_);show#[cT,#[b3,callAny,C,_]];repeat(any_goals(first|with_reducible assumption|with_reducible rfl|wp_step))
 refine#[aG,?_];refine codeAny_call_builtin_at (zq _ #[E]) entry_typeCall (wpAny_check_type_call_sub f ?_);unfold Builtin.«type.__call__»;repeat(first|with_reducible refine gP f ?_|with_reducible refine Te f ?_|wp_step)
 refine l _ _ ?_;show#[cT,_];unfold zN;repeat(first|with_reducible refine gP z ?_|(with_reducible refine kn J ?_;rw[G])|wp_step)
 rw[b0];repeat(first|(with_reducible refine kn J ?_;rw[G])|wp_step)
 rw[b0];refine ji J M S B ?_;rw[a];refine cj (af ?_);unfold bindSpecial;refine af (oE (T:="function") #[aw,X,u] ?_);rw[#[aM,if_pos]];refine aA (af (dq O (λr L c=>?_) λ_ _ x=>x));obtain⟨rfl,H⟩:=c;wp_walk;exact H
end
section
variable{B:Bs}{w:aD}{n m k G0 t0:Nat}{O:Gm}{d0 g0:#[n]}{U x0:#[o]}{H b0 o0 w0 m0:#[l]}{J:aO}{S:#[t]}{a b c o:aT}{i0 y0 p:ba}{l:#[y]}{h0:#[al]}
theorem agd(C:ao)(m:#[g]):(zp "type.__call__" #[ai,.ref C::m]).weight=1:=#[p]
theorem afr(C:ao)(m:#[g]):(zp "type.__call__" #[ai,.ref C::m]).cUnits=1:=#[p]
theorem Cx.typeCall(h:#[eP]):Cx n (A.under (.builtin "type.__call__" #[ai,.ref C::d])):=by
 refine#[bN,h.handled,?_];.have:=h.depth;show A.depth+(zp _ _).weight+n<_;rw[agd];omega
 .have:=h.units;show A.units+(zp _ _).cUnits+8*n+8<_;rw[afr];omega
theorem AM(a:z.any (·.1)=ag)(h:ax M A (zK #[M,C] ae z []) (λx k0=>(∃o d,k0.heap.get? C=aa o/\o.cls=.type "type"/\o.data=.cls d)/\ax M A (dX #[M,C] x.pos x.kw) Q E k0) E s):#[eq,mb i0 #[M,C] [] z []]:=by refine#[b9,dq h (λx k0 N=>#[a0,dR]) λ_ _ x=>x];obtain⟨⟨o,d,g,T,c⟩,X⟩:=N;simp only[a,PM,tT,ja];refine af ?_;refine#[bd,lh,g];rw[c];refine#[bF,jh,#[aw,g,T],tc_lookup];refine aA (af (dq X (λr m b=>#[b9,GL (aA b)]) λ_ _ x=>x))
theorem tP:UniqKeys #[]:=.nil
end
theorem Pd:∀(u0:#[g])(p:ba)(s:au),uQ M O (gp u0 J) (λf p L=>match f with|.next=>uQ M O (gp R0 J) Q E p L|f=>Q f p L) E p s->uQ M O (gp (u0++R0) J) Q E p s|[],p,s,h=>h|x::u0,p,s,h=>by rw[Gh,Sf]at h;rw[fH,Gh,Sf];refine FT M _ _ (λf P L c0=>?_) (λ_ _ _ c0=>c0) p s h;cases f with|next=>exact Pd _ _ _ c0|brk=>exact c0|cont=>exact c0|ret v=>exact c0
theorem Pb(h:ax M A (gp u0 J) (λf L=>match f with|.next=>ax M A (gp R0 J) Q E L|f=>Q f L) E s):#[eq,gp (u0++R0) J]:=λO p H=>Pd _ p s (FT M _ _ (λf P L c0=>by cases f with|next=>exact c0 _ _ H|brk=>exact c0|cont=>exact c0|ret v=>exact c0) (λ_ _ _ c0=>c0) p s (h _ p H))
def Am:Ob:=.rel 0 (λ_ _=>True) λ_ _ _ _ h=>h
section
variable{B:Bs}{w:aD}{n m k G0 t0:Nat}{O:Gm}{d0 g0:#[n]}{U x0:#[o]}{H b0 o0 w0 m0:#[l]}{J:aO}{S:#[t]}{a b c o:aT}{i0 y0 p:ba}{l:#[y]}{h0:#[al]}
theorem aj.abb{i j:Nat}{e1:lV}{r0:uK}{j0:bt}{R0:#[bA]}(m:#[aF,#[cn]])(g:#[bx,o,#[ci]])(P:#[a6,o0,.raw,gi e1 r0 j0 R0])(g0:O.fz<=i)(v:∀J,#[hu,#[c4,ak "read",p]])(t0:#[nR]++[#[lG]]=m0)(N:#[hw]):#[eJ,[.Attribute o (ak "read") p]]:=by
 subst t0;refine#[hK,λo n0 L=>#[eI,n0=U,L=#[nR]++[#[lG]]],?_,λn0 L h=>#[Y],λo n0 L g h=>#[ac,h.1,g]];refine Gv (#[e6,m,λu0 k0 s0 C d0=>g A J s0 k0 _ E G C.rel λC0 Z F0 T y0=>?_]) (v J);obtain⟨x,b,rfl⟩:=y0;have p1:=d0.pre T.pre;obtain⟨y,r,rfl⟩:=p1;obtain⟨q0,U0,f0,rfl,F,I,E0,Y0,a1,Z0,j1,i1⟩:=T.rel.store i x _ b P;have k:=T.rel.len;have Q0:i<o0.length:=#[V,P];have d1:j<o0.length:=by rw[<-k];exact#[V,r]
 refine fb ?_;obtain⟨a0,x0,m1,H0,A1⟩:=Z;refine VW U0 rfl rfl rfl λc0 p0 f f1 L0 l0=>?_;have w0:aB B O J F0 U (o0++[bS 0 []]) ⟨a0,x0,m1,H0,A1⟩ #[lN] ⟨a0.push #[aj,"dict",.dict,#[]],x0,m1,H0,A1⟩:=aB.push (t:=H0) T.rel rfl ⟨aV _,#[],0,rfl,λe A0=>#[ac,A0,#[z]],tP,λy _=>rfl,λy x r=>by cases r⟩ #[aO] λn R v0 _ o f0 g N0=>by rw[#[aW]]at g;grind
 have B1:#[G,#[lN],x]:=by rw[#[D,cL]];exact b
 have x1:#[lN][o0.length]?=aa a0.objs.size:=by simp_all
 have y1:#[av,#[lN],y]:=by rw[#[D,cL]];exact r
 have c1:gg B J a0 x:=T.rel.code i x _ b P;obtain⟨h1,e0,S0,X,X0,t1,u1,z1⟩:=L0;have T0:a0.objs.size<c0.objs.size:=bk X;have o1:∀v0:bo,v0.get? x=aa #[jC]->¬bu v0 x:=λv0 e=>bu.no e (λY q t d=>by cases d) λY n d=>by cases d
 have G0:=aB.OQ (t:=p0) (c0:=c0) (d:=kv (o0.length+1) o0.length) (e0:=#[lG]) w0.rel B1 x1 (cB Q0) g0 #[f] (by rw[da];exact T0) (λc o n1 k1 e=>f c o n1 k1 e) (o1 _ (bN _ U0)) (CE #[gi] rfl) ⟨_,f1,by simp[k],hR _,rfl,#[bE,f0],_,x1,rfl⟩ ⟨h1,X,by rw[aY];omega,e0,S0,X0,t1,u1,λz g0=>?_,λz u g0=>?_⟩ ?_ ?_
 .have I0:=w0.trans G0;have e:((o0++[bS 0 []]).set i (kv (o0.length+1) o0.length)).set o0.length (bS (j+1) [(ak "read",.ob j)])=#[nR]++[#[lG]]:=by rw[List.set_append_left _ _ Q0,Qp _ _ #[z]];simp
  rw[e]at I0;exact q .next _ _ _ _ _ #[cc] #[gm,T,I0] rfl
 .have:z≠ak "read":=λe=>by subst e;simp[mW]at g0
  exact(z1 z).trans (if_neg this)
 .have:z=ak "read":=by
   by_cases h:z=ak "read";.exact h
   .rw[gj,beq_eq_false_iff_ne.mpr h]at g0;cases g0
  subst this;cases g0;exact⟨.ref y,(z1 _).trans (if_pos rfl),#[aA,y,y1],hR j⟩
 .intro o g1 g N0;rw[f1]at g;cases g;cases N0;obtain⟨⟨c,M0,J0,⟨q1,O0,Y,v1,w1,b1,l1,r1⟩,s1⟩,_⟩:=c1 _ f0 U0 rfl;cases w1;exact⟨c,M0,J0,⟨c,O0,Y,v1,rfl,f _ _ (λe=>o1 a0 U0 ⟨O0,e▸b1,.inl ⟨Y,_,v1,l1,r1,s1⟩⟩) (cB (bk b1)) (bN _ b1),l1,r1⟩,s1⟩
 .intro o g1 g N0;rw[X]at g;cases g;rw[X0]at N0;cases N0
end
noncomputable def Ay:#[y]:=by run_tac av.de ["_netrclex","__init__"]
noncomputable def Dl:bt:=by run_tac av.df ["_netrclex","__init__"]
noncomputable def oH:#[y]:=by run_tac av.de ["_law_lexer"]
noncomputable def xH:bt:=by run_tac av.df ["_law_lexer"]
noncomputable def akj:lV:=by run_tac av.nF ["_law_lexer","stream"] 1
noncomputable def akl:#[y]:=by run_tac av.de ["_law_lexer","stream"]
noncomputable def ali:bt:=by run_tac av.df ["_law_lexer","stream"]
noncomputable def Zj:ba:=by run_tac av.nF ["_law_lexer","stream"] 9
noncomputable def Zi:ba:=by run_tac av.nF ["_law_lexer","read"] 9
noncomputable def nQ(c P:ao):fJ:=⟨c,P,Zj,"stream","_law_lexer.<locals>.stream"⟩
noncomputable def nP(c P:ao):fJ:=⟨c,P,Zi,"read","_law_lexer.<locals>.read"⟩
abbrev KW:#[fd]:=[(ak "lineno",#[ay,1]),(ak "instream",.ob 0),(ak "whitespace",.str [10,9,13,32]),(ak "pushback",.ob 3)]
section
variable{B:Bs}{w:aD}{d0 g0 r0:#[n]}
theorem Xr(F:#[w])(G:#[W])(L:fs B r0)(u:bb B 274 Dl 2 Ay):eB B w 3 274 [.ob 2,.ob 0] 1 [Am,bS 0 [],dg 2 298 1 ab] .none [Am,bS 4 KW,dg 2 298 1 ab,.list []]:=by
 refine eB.dU (L:=4) F u #[ak] rfl rfl rfl #[p] rfl rfl rfl #[j] #[j] ?_;have m:=L.cl;have X:=L.n1;have Y:=L.n2;have N:=L.n3;have o:=L.n4;have d:=DS;have a:=OE;have n:=yd;have Q:=yc;run_tac av.aJ
 refine#[du,.inr #[bV],trivial,by simp,λi e0 P Z=>?_];match i,Z with|0,Z=>cases Z;exact aV _|1,Z=>cases Z;exact aP _|2,Z=>cases Z;exact#[ap,2<=4]|3,Z=>cases Z;intro x z;cases z|i+4,Z=>simp at Z
theorem XQ(F:#[w])(G:#[W])(y:i.length<=aC)(g C P t:ao):aj B w 3 (eG xH 0 [nQ g C,nP P t]) (oH.take 4) [#[K,i],ab,ab,ab,ab,ab] [] #[fo,v=[#[K,i],#[ar],#[ad,2],#[bi],ab,ab],s=[#[bk,dc,i],kv 4 3,.raw (gi Af (.stmts sA) pq [ak "signs"]),bS 3 [(ak "read",.ob 2)]]]:=by
 run_tac av.aJ
 refine aj.abb #[kO,2] #[b8,1] rfl #[aC] #[an] rfl (aj.nil #[cc])
end
def kH(B:Bs)(w:aD)(n:Nat)(f:ao)(z:#[B])(r:V)(g:#[l]):Prop:=∀(A:aS)(Z:#[L])(s:au)(Q E:#[C]),#[bc]->#[c9]->#[fi,Z,z]->(∀u L j,Fx B [] s L->#[g7]->cM B j g L.heap->(∀a∈j,#[R,a])->VR j u r->Q u L)->#[as,#[b3,dX,f,Z]]
section
variable{B:Bs}{w:aD}{n m k G0 t0:Nat}{O:Gm}{d0 g0 r0:#[n]}{U x0:#[o]}{H b0 o0 w0 m0:#[l]}{J:aO}{S:#[t]}{a b c o:aT}{i0 y0 p:ba}{l:#[y]}{h0:#[al]}
theorem kH.call(h:kH B w n f z r g)(Y:n<=m)(I:z.all bU=ae)(X:∀e0∈g,#[hr])(k:eA H.length r=f0)(x:H++g.map (aX H.length)=m0):bZ B w m O #[cm] z U H f0 m0:=λA J S c s Q E G M l q=>by
 subst k x;refine h A _ s Q E (G.le Y) M.gh (l.atoms (Ak I)) λu L d0 T v t a0 p=>?_;have y:=M.len;have d:(S++d0).drop _=d0:=PR;refine q u _ (S++d0) #[j3,T.widen #[ck]] ?_;.rw[nC M.cY]at Z;exact(cZ.mp Z).imp id λq=>a0 b q
 .refine aG.pa (M.keep T.size _ T.keep #[aO] v) T.size M.ju M.jt M.fX a0 t.nodup (by rw[aQ];exact t.len) M.gh.1 (λi a e0 P Z=>?_) λi a e0 P Z=>?_;.rw[cg]at Z;obtain⟨b0,c0,rfl⟩:=dW.mp Z;obtain⟨⟨o,F,j⟩,_⟩:=t.store i a _ P c0;refine#[aY,F,?_];rw[<-y,tF (#[z]),d];exact j
  .rw[cg]at Z;obtain⟨b0,c0,rfl⟩:=dW.mp Z;obtain⟨_,C⟩:=t.store i a _ P c0;refine(xN.mpr C).ob λR e=>?_;cases b0 with|raw N=>exact#[dp,X _ (bz c0) _]|_=>cases e
 .rw[<-y];exact pv.mpr (by rw[d];exact p)
theorem kP.MS{o:cp}(h:kP n j0 S o)(Y:∀y,#[dV,e.lookup,y]->#[dV,j0.lookup,y])(u:∀y x,e.lookup y=aa x->∃I,j0.lookup y=aa I/\bA f x/\∀v,#[bl,I]->VR j v x):kP f e j o:=by obtain⟨a,s,N,a0,T,E,r⟩:=h;refine⟨_,_,N,a0,T,λy m=>E y (Y y m),λy x m=>?_⟩;obtain⟨I,F,d,t⟩:=u y x m;obtain⟨v,U,q,_⟩:=r y _ F;exact⟨v,U,t v q,d⟩
theorem Xm(h:(jr j).lookup y=aa x):(y=ak "lineno"/\x=.int j)\/(y=ak "instream"/\x=.ob 4)\/(y=ak "whitespace"/\x=.str [10,9,13,32])\/(y=ak "pushback"/\x=.ob 5):=by
 by_cases N:y=ak "lineno";.simp_all
 .rw[gj,beq_eq_false_iff_ne.mpr N]at h;by_cases a0:y=ak "instream";.simp_all
  .dsimp at h;rw[gj,beq_eq_false_iff_ne.mpr a0]at h;by_cases T:y=ak "whitespace";.simp_all
   .dsimp at h;rw[gj,beq_eq_false_iff_ne.mpr T]at h;by_cases E:y=ak "pushback";.subst E;simp_all
    .dsimp at h;rw[gj,beq_eq_false_iff_ne.mpr E]at h;cases h
theorem Xo(h:#[dV,(jr j).lookup,y]):#[dV,KW.lookup,y]:=#[Y]
theorem Xb(F:#[w])(G:#[W])(L:fs B r0)(y3:#[eT,"__init__",274])(b0:cb B 274)(n2:bb B 274 Dl 2 Ay){A1 h0 y1 Q0:ao}(f1:bb B 309 xH 1 oH [nQ A1 h0,nP y1 Q0]){x1:Tx}(c0:x1.length<=2^20):#[mx,x1,x1]:=λA s0 s Q E S c1 b1 q=>by
 have P1:ik s.heap [] s0 #[hc,x1]:=by cases b1 with|cons n a0=>cases a0;exact .atom n .nil
 refine IQ (n:=5) F f1 rfl rfl rfl rfl #[E] S c1 P1 .nil #[aO] λJ k0 v2 m2 c3 E1 Q2 h3 e1=>?_;rw[show oH=oH.take 4++oH.drop 4 from(hQ _ _).symm];refine Pb (XQ F G (dD c0) A1 h0 y1 Q0 _ J [] k0 _ v2 (m2.le #[j]) c3 λo v o0 f X0 m1⟨n,a0,X⟩P U=>?_);subst n a0 X;cases U;have C:=P.rel;have L3:oH.drop 4=[.Return (aa #[bR,#[aL,"_netrclex",⟨278,11,278,20⟩],[.Name (ak "stream") ⟨278,21,278,27⟩],⟨278,11,278,28⟩]) ⟨278,4,278,28⟩]:=rfl;rw[L3];refine mj (zY ?_);refine ir ((W.glob F G 5 9 rfl rfl #[E]:cN B w 5 _ #[aL,"_netrclex",_] #[M,298]) _ J m1 _ _ X0 _ v2 m2 P.rel ?_);rw[dt _ J rfl];refine AM (fZ J _) (eR ((cy.cons #[aD,1] .nil:cy B w 5 _ [.Name (ak "stream") _] _ _ [.ob 1] _) _ J m1 X0 _ v2 m2 P.rel λk4 h1 u1 g1 s1=>?_));have e3:=P.trans g1;have Z1:=e3.rel;obtain⟨g,y2,u2,T2,rfl⟩:∃a b c d,u1=[a,b,c,d]:=by match u1,Z1.len with|[a,b,c,d],_=>exact#[du,a,b,c,d]
 cases s1 with
 |cons s1 e2=>
  cases e2;obtain⟨j4,O1,rfl⟩:=s1;cases O1;obtain⟨l0,L1,N,J0,I0,G0,H0,A0,t0,x0,M0,Y0,n1,r1,w1⟩:=L.cl.ex;have H1:=#[aZ,Z1.gh,Y0,r1];have T1:h1.heap.Ns N r0:=#[dZ,n1.at',Z1.gh,w1];obtain⟨⟨q0,f0,R1,i2,A2⟩,a2⟩:=b0;have M2:=#[aZ,Z1.gh,R1,a2];refine#[a3,⟨_,_,H1,rfl,rfl⟩];obtain⟨a4,Y3,E3⟩:=Z1.store 0 g _ rfl rfl;obtain⟨i4,d3,_,_,h2,d2,d4,Q3,P3⟩:=Z1.store 1 y2 _ rfl rfl;cases Q3;obtain⟨g4,A3,f3,rfl,F0,E0,N0,M,S0,T,T0,U0⟩:=Z1.store 2 u2 _ rfl rfl;obtain⟨h4,X3,_,r3⟩:=Z1.store 3 T2 _ rfl rfl;obtain⟨⟨v3,F3,w3,G3,H3⟩,I3⟩:=Z1.code 2 u2 _ rfl rfl _ f3 A3 rfl;obtain⟨J2,Z2,v1⟩:=Z1.ns;obtain⟨a3,f4,p0,C0⟩:=v1 3 (.ob 0) rfl;have J3:(eG xH 0 [nQ A1 h0,nP y1 Q0]).sc.names[3]?=aa (ak "signs",uO):=rfl;rw[J3]at p0;cases p0
  obtain⟨l,p3,o1,⟨Z3,z3,x3⟩,O3⟩:∃l p3,J.cells.lookup (ak "signs")=aa l/\h1.heap.IsCell l (aa p3)/\VR [g,y2,u2,T2] p3 (.ob 0):=by
   rcases C0 with⟨h,_⟩|⟨_,c,v,d1,i1,p1⟩;.cases h
   .exact⟨c,v,d1,i1,p1⟩
  obtain⟨H,l1,rfl⟩:=O3;cases l1
  have P2:f3.closure=[(ak "signs",l)]:=by match a1:f3.closure,T with
   |[(x,a)],T=>
    have m:x=ak "signs":=by simpa using T
    subst m;have:=I3 (_,a) (by rw[a1];exact EM _);rw[o1]at this;cases this;rfl
  have U1:=mem_of_lookup o1;obtain⟨t3,c4,u3,_⟩:=Z1.cw _ U1;have z1:=Z1.nodup;have p2:∀a∈[g,y2,u2,T2],#[R,a]:=λa O=>aI E1.size ((e3.new a O).resolve_left #[fL]);have E2:#[R,l]:=h3 _ U1
  have g3:Fx B [] s h1:=E1.trans e3.fx λy j0=>.inr (by
   rcases bg.mp j0 with rfl|j0;.exact Q2
   .rcases cZ.mp j0 with j0|j0;.obtain⟨p,y0,rfl⟩:=bK.mp j0;exact h3 p (jA.mp y0).1
    .cases j0)
  have j1:=Z1.fX;have N3:l<h1.heap.objs.size:=bk z3;have b3:=Z1.gh.1;have M3:=Z1.gh;have o2:=Z1.high;have g2:gJ B h1.heap y2:=Z1.code 1 y2 _ rfl rfl;clear Z2 v1 C0 Z1 e3 g1 P;obtain⟨X,p1,q3,f2,s3⟩:=h1;have N2:ObjNewFacts "object.__new__":=FK;have J1:#[ev,X.get?,#[iw].get?]:=#[ks];have X1:#[iw].objs.size=X.objs.size+2:=by rw[da,da]
  have x2:#[iw].get? (X.objs.size+1)=aa #[kX]:=by have:#[iw].get? (X.push #[aj,"dict",.dict,#[]]).objs.size=aa #[kX]:=#[aW];rwa[da]at this
  have H2:#[iw].get? X.objs.size=aa #[aj,"dict",.dict,#[]]:=bN _ #[gi];refine vQ (x:=X.objs.size+1) uI (y:=aa (.builtin "object.__init__")) (by rw[cG,cE];kernel_rfl) H1 T1 y3 M2 i2 J1 x2 rfl (λb2 R C=>zH (zq _ N2.quiet) (GB N2 H1 (Gg N2 H1 T1 y3 C))) ?_;have Y2:y2<X.objs.size:=j1 y2 #[z]
  have G2:cM B [y2,X.objs.size,X.objs.size+1] [Am,bS 0 [],dg 2 298 1 ab] #[iw]:=by
   refine⟨rfl,jB.mpr ⟨λh=>?_,by simp⟩,λa O=>?_,λi a e0 n a0=>?_⟩
   .simp only[bg,gL,or_false]at h;rcases h with h|h;.exact cB Y2 h
    .exact cB (kL Y2) h
   .simp at O;rcases O with rfl|rfl|rfl;.exact o2 _ #[z]
    .exact b3
    .exact eO b3
   .match i,n,a0 with|0,n,a0=>cases n;cases a0;exact⟨#[Q,J1 _ _ d3,aV _,trivial],g2.keep (λo e=>by rw[J1 _ _ d3]at e;cases e;exact d3) λb o e _ _=>J1 b o e⟩|1,n,a0=>cases n;cases a0;exact#[h3,#[mq,H2,λe k1=>#[ac,k1,#[z]],(λy x j0=>by cases j0)],(by rw[H2]at U;cases U;cases B1)]|2,n,a0=>cases n;cases a0;exact#[h3,⟨_,x2,bx rfl,rfl,rfl,hR 1,_,rfl,rfl⟩,(by rw[x2]at U;cases U;cases B1)]|i+3,n,a0=>simp at n
  refine gr (Xr F G L n2 _ [y2,X.objs.size,X.objs.size+1] [.ref (X.objs.size+1),.ref y2] ⟨_,p1,q3,f2,s3⟩ _ ((m2.le #[ap,4<=5]).typeCall) (M3.grow (by rw[X1];exact ip _ _) J1) G2 #[hW,#[P,rfl],#[P,rfl]] λu t r2 y0 N1 t1 Q1 F1 i0=>#[a3,i0]);obtain⟨t2,rfl⟩:∃t2,r2=[y2,X.objs.size,X.objs.size+1,t2]:=by obtain⟨v0,rfl⟩:=y0;match v0,F1.len with|[t2],_=>exact#[bE,t2]
  obtain⟨⟨q2,L2,R3⟩,_⟩:=F1.store 1 _ _ rfl rfl;obtain⟨⟨w0,s2,U3⟩,_⟩:=F1.store 2 _ _ rfl rfl;obtain⟨⟨I,k2,T3⟩,_⟩:=F1.store 3 _ _ rfl rfl;have i3:=F1.nodup
  have C3:X.objs.size+2<=t2:=by
   rcases N1 t2 #[z]with h|h
   .exfalso;simp only[jB,bg,gL,or_false,not_or]at h i3;rcases h with h|h|h;.exact i3.1.2.2 h.symm
    .exact i3.2.1.2 h.symm
    .exact i3.2.2.1 h.symm
   .rw[<-X1];exact h
  have R2:∀b o,b<X.objs.size->X.get? b=aa o->#[aq,b]->t.heap.get? b=aa o:=λb o Z e n0=>t1.keep b o (J1 b o e) (λm0=>by
   rcases bg.mp m0 with h|m0;.exact cB Z h
   .exact cB (kL Z) (aZ.mp m0)) n0
  have j2:#[it]:=#[od];have u0:g<X.objs.size:=j1 g #[z];have R0:u2<X.objs.size:=j1 u2 #[z];have I2:T2<X.objs.size:=j1 T2 #[z];have j3:l<X.objs.size:=N3;refine q _ t [g,l,u2,T2,y2,t2,X.objs.size,X.objs.size+1] ?_ Q1 #[bP,rfl,?_,?_] ?_ #[P,rfl]
  .have d1:Fx B [] _ ⟨(X.push #[aj,"dict",.dict,#[]]).push #[kX],p1,q3,f2,s3⟩:=g3.trans (Fx.fY (X:=[]) (t:=f2) (by rw[X1];exact ip _ _) #[dN,J1]) λy j0=>nomatch j0;refine d1.trans t1 λy j0=>.inr ?_;rcases bg.mp j0 with rfl|j0;.exact g3.size
   .rw[aZ.mp j0];exact eO g3.size
  .simp only[jB,bg,gL,or_false,not_or,not_false_eq_true,List.nodup_nil,and_true]at z1 t3⊢;obtain⟨⟨Y1,M1,C1⟩,⟨z2,m3⟩,n3⟩:=z1;obtain⟨q1,G1,w2,O2⟩:=t3;have l2:∀x y:Nat,x<X.objs.size->X.objs.size<=y->¬x=y:=λx y n a0 e=>by omega
   exact⟨⟨λe=>q1 e.symm,M1,C1,Y1,l2 _ _ u0 #[f],l2 _ _ u0 #[aJ],l2 _ _ u0 (dP _)⟩,⟨w2,O2,G1,l2 _ _ j3 #[f],l2 _ _ j3 #[aJ],l2 _ _ j3 (dP _)⟩,⟨n3,λe=>z2 e.symm,l2 _ _ R0 #[f],l2 _ _ R0 #[aJ],l2 _ _ R0 (dP _)⟩,⟨λe=>m3 e.symm,l2 _ _ I2 #[f],l2 _ _ I2 #[aJ],l2 _ _ I2 (dP _)⟩,⟨l2 _ _ Y2 #[f],l2 _ _ Y2 #[aJ],l2 _ _ Y2 (dP _)⟩,⟨hu (show X.objs.size<t2 by omega),hu (show X.objs.size+1<t2 by omega)⟩,cB (hR _)⟩
  .intro a O;simp only[bg,gL,or_false]at O;rcases O with rfl|rfl|rfl|rfl|rfl|rfl|rfl|rfl;.exact o2 _ #[z]
   .exact u3
   .exact o2 _ #[z]
   .exact o2 _ #[z]
   .exact o2 _ #[z]
   .exact aI b3 (by show X.objs.size<=_;omega)
   .exact b3
   .exact eO b3
  .intro i a e0 O Z;match i,O,Z with
   |0,O,Z=>cases O;cases Z;obtain⟨Y,k,e,h⟩:=E3;refine⟨⟨a4,#[lz,u0,Y3],Y,k,e,(h.atoms λy j0 j e=>?_).mono λ_ _ r=>r.nil _⟩,trivial⟩;obtain⟨c,_,rfl⟩:=bK.mp j0;cases e
   |1,O,Z=>cases O;cases Z;have:=R2 _ _ j3 z3 (j2 _ u3);exact#[h3,⟨Z3,this,by simp,by decide,g,rfl,x3⟩,(by rw[this]at U;cases U;rw[x3]at B1;cases B1)]
   |2,O,Z=>cases O;cases Z;have:=#[lz,R0,A3];refine#[h3,⟨_,this,by simp,by decide,f3,l,rfl,rfl,F0,E0,N0,M,S0,P2,T0,U0⟩,?_];rw[this]at U;cases U;cases B1;obtain⟨U2,O0,Y,k3,o3,c2,C2,X2⟩:=G3;cases o3;exact⟨v3,F3,w3,⟨v3,O0,Y,k3,rfl,R2 _ _ (bk c2) c2 w3,C2,X2⟩,H3⟩
   |3,O,Z=>
    cases O;cases Z;have:=#[lz,I2,X3];refine#[h3,#[Q,this,by simp,kP.MS r3 (λy h=>h) λy x h=>⟨x,h,?_,λv i0=>?_⟩],?_]
    .rw[gj]at h;split at h;.cases h;exact#[ap,2<3]
     .cases h
    .rw[gj]at h;split at h;.cases h;obtain⟨z,e,rfl⟩:=i0;cases e;exact#[P,rfl]
     .cases h
    .obtain⟨Z0,I1,e,_⟩:=r3;rw[this]at U;cases U;rw[e]at B1;cases B1
   |4,O,Z=>cases O;cases Z;have:=#[lz,Y2,d3];exact⟨⟨_,this,by simp,by decide,h2,d2,T2,rfl,P3⟩,g2.keep (λo e=>by rw[this]at e;cases e;exact d3) λb o e _ n0=>R2 _ _ (bk e) e n0⟩
   |5,O,Z=>cases O;cases Z;obtain⟨Y,k,e,h⟩:=T3;exact⟨⟨I,k2,Y,k,e,(h.atoms λy j0 j e=>nomatch j0).mono λ_ _ r=>r.nil _⟩,trivial⟩
   |6,O,Z=>
    cases O;cases Z;obtain⟨e4,B3⟩:=R3;refine#[h3,⟨q2,L2,by simp,kP.MS B3 (λy h=>Xo h) λy x h=>?_⟩,?_]
    .rcases Xm h with⟨rfl,rfl⟩|⟨rfl,rfl⟩|⟨rfl,rfl⟩|⟨rfl,rfl⟩;.exact#[Q,rfl,trivial,λv i0=>i0]
     .exact⟨.ob 0,rfl,#[ap,4<6],λv⟨z,e,h⟩=>by cases e;exact#[cg,h]⟩
     .exact#[Q,rfl,trivial,λv i0=>i0]
     .exact⟨.ob 3,rfl,#[ap,5<6],λv⟨z,e,h⟩=>by cases e;exact#[cg,h]⟩
    .obtain⟨Z0,I1,e,_⟩:=B3;rw[L2]at U;cases U;rw[e]at B1;cases B1
   |7,O,Z=>cases O;cases Z;obtain⟨_,L0,B2,_,z,l3,b4⟩:=U3;cases l3;exact#[h3,⟨w0,s2,by simp,L0,B2,by decide,_,rfl,b4⟩,by rw[s2]at U;cases U;exact#[ac,B1,(B2:lL 2 _ ab w0.data).free.2.1 _]]
   |i+8,O,Z=>simp at O
  .intro a O;have F2:#[R,X.objs.size]:=g3.size;simp only[bg,gL,or_false]at O;rcases O with rfl|rfl|rfl|rfl|rfl|rfl|rfl|rfl;.exact p2 _ #[z]
   .exact E2
   .exact p2 _ #[z]
   .exact p2 _ #[z]
   .exact p2 _ #[z]
   .exact aI F2 #[f]
   .exact F2
   .exact eO F2
end
theorem hb:jK (.type "list")=aw #[eo]:=by rw[mroOf_type];kernel_rfl
theorem Cm:#[cI,"list","__getattribute__","list.__getattribute__"]:=by rw[cG,cE];kernel_rfl
theorem akn:(nh "list.__getattribute__"!="object.__getattribute__")=ag:=canon_list_getattribute
theorem Cn:#[fh,"__getattr__"]:=by rw[cG,cE];kernel_rfl
theorem adf:#[ly,"list",#[eo]]where
 mro:=hb
 slot:=#[nn,"__setattr__",by rw[cG,cE];kernel_rfl,RT.split]
 entry:=FI
 kind:=RT.kind
 split:=RT.split
 hasOwner:=rfl
 args:=RT.args
 passes:=λs=>by kernel_rfl
def nt(h:bo)(t:ao)(c:Tx×Tx):Prop:=∃Y n,#[bv,t,#[ob]]/\#[fi,Y.toList,#[e9,c.1,c.2]]
theorem nt.keep(x:nt h t c)(k:∀o,#[e3,t]->bu h t->#[dz,t]):nt c0 t c:=by obtain⟨Y,n,e,a⟩:=x;exact#[Q,n,k _ e #[aw,e,.inr ⟨rfl,_,n,rfl⟩],a]
def hB(B:Bs)(h:bo)(v:ai)(c:Tx×Tx):Prop:=∃t,v=.ref t/\(#[nz])/\nt h t c
def oF(B:Bs)(I:#[ag])(h:bo)(o:cp):Prop:=∃Y n,o.data=.seq Y n/\aM (hB B h) Y.toList I
theorem oF.mono{B:Bs}(g f:bo)(o:cp)(k:∀b e0,g.get? b=aa e0->bu g b->(B.heap.objs.size<=b/\B.lo<=b)->f.get? b=aa e0)(x:oF B I g o):oF B I f o:=by obtain⟨Y,n,e,a⟩:=x;exact#[Q,n,e,a.mono λv c⟨t,N,a0,T⟩=>⟨t,N,a0,T.keep λo e c=>k t o e c a0⟩]
def dG(B:Bs)(n d:Nat)(I:#[ag]):Ob:=.hp n (λS o=>o.cls=.ref 200/\o.slots=#[]/\d<n/\(∃Y k,o.data=.seq Y k/\#[gY])/\#[lE]) (λt=>#[nz]) (oF B I) (λS j o h⟨N,a0,T,E,a,r,Q⟩=>⟨N,a0,T,E,a,(h d T).trans r,Q⟩) oF.mono
def hK(B:Bs)(I:#[ag]):Ob:=.hp 0 (λS o=>∃Y k,o=#[l7]/\#[gY]) (λt=>#[nz]) (oF B I) (λS j o h r=>r) oF.mono
theorem cA.acc:cA (dG B n d I) 200 d:=⟨λS o⟨_,N,_,_,_,a,T,E⟩=>⟨N,(λc e=>#[Y]),(λc e=>by grind),(λc e=>by grind),a,T,E⟩⟩
theorem vt:iV (dG B n d I):=λS o⟨_,_,_,_,_,_⟩g a U=>#[iL,λp0 n _ X=>by grind]
section
variable{k:ni}{w:aD}{A:aS}{E:#[C]}{h:bo}{g:#[da]}{d:hU}{t:Nat}{h0:gB}
variable{l0 q:aq}{C N x:ao}{J0 v0:#[L]}{i:#[bA]}{P:#[L]}{j:Bool}{I0:#[eA]}{G0:#[a2,ao]}{H0 A0 t0 x0 M0:#[bT]}{F:String}{o:cp}
theorem UK{M:Model}{e a b:String}{m:#[L]}{Q:#[aI,Unit]}(c:#[g3])(z:#[cl])(X:#[dm])(R:qd e=aa .method\/qd e=aa .slot)(u:splitId e=aa (a,b))(Z:v0.contains (.type a)=ae)(I:kU e #[ai,#[az]::m])(O:Q () #[bw]):ax M A (md e #[ai,#[az]::m]) Q E #[bw]:=by
 have r:(iL C::v0).contains (.type a)=ae:=by rw[uc,Z,tU]
 rcases R with R|R
 all_goals
  simp only[md,R,u];unfold zN;repeat(first|(with_reducible rw[X])|(with_reducible refine kn c ?_;rw[r])|wp_step)
  cases H:ov e with|none=>exact aA O|some s=>simp only[kU,H]at I;have a0:pW e s #[ai,#[az]::m]=aw ():=I;show ax M A (pW e s #[ai,#[az]::m]) Q E _;rw[a0];exact aA O
theorem oL{l a b:String}(f:#[g3])(z:#[cl])(X:#[dm])(R:qd l=aa .method\/qd l=aa .slot)(u:splitId l=aa (a,b))(Z:v0.contains (.type a)=ae)(I:kU l #[ai,#[az]::m])(c:vg l=ae)(S:kW lg l=aa B)(O:ax #[cS] A.in1 (B #[ai,#[az]::m]) (#[nV]) E #[bw]):#[ep,#[jp,l,#[az]::m]]:=by refine gr (zG c S (UK f z X R u Z I (dq O (λgW L⟨v,e,p⟩=>?_) λ_ _ e=>e)));subst e;exact p
end
section
variable{B:Bs}{w:aD}{n m k G0 t0:Nat}{O:Gm}{d0 g0 s0:#[n]}{U x0:#[o]}{H b0 o0 w0 m0:#[l]}{J:aO}{S:#[t]}{a b c o:aT}{i0 y0 p:ba}{l:#[y]}{h0:#[al]}{I:#[ag]}
abbrev es(B:Bs)(s0:#[n]):Prop:=hj B 200 "list" #[eo] "list.__new__" "list.__getattribute__" s0
theorem aG.acc{i d:Nat}(R:#[cx])(z:#[G,S,x])(P:#[G,H,dG B k d I]):∃Y q L0,#[bv,x,#[hL,.ref 200,q]]/\S[d]?=aa L0/\aM (hB B h) Y.toList I/\k<=S.length/\d<k:=by obtain⟨o,N,a0,T,E,r,⟨Y,q,Q,_⟩,L0,b,y⟩:=R.store i x _ z P;obtain⟨_,_,p⟩:=R.code i x _ z P;obtain⟨M,e,F,a⟩:=p o N;rw[Q]at F;cases F;obtain⟨c,G0,f,s⟩:=o;dsimp at T E Q y;subst T E Q y;exact⟨_,q,_,N,b,a,a0,r⟩
theorem hB.keep{c:Tx×Tx}(x:hB B h v c)(k:∀t o,#[aK,t]->#[e3,t]->bu h t->#[dz,t]):hB B c0 v c:=by obtain⟨t,N,a0,T⟩:=x;exact⟨t,N,a0,T.keep λo e c=>k t o a0.1 e c⟩
theorem aB.acc(F:hA B)(R:#[ah])(z:#[G,S,x])(a:#[G,H,dG B k d I])(r:O.fz<=i)(g:#[ch,x,#[hL,.ref 200,q]])(A:S[d]?=aa L0)(j:k<=S.length)(l:d<k)(m:aM (hB B s.heap) (f Y).toList u)(t:Nat):#[aQ,H.set i (dG B k d u),S,#[cQ,s.heap.update x (dQ f),t]]:=by have E:=bu.no g (#[eh]) #[eh];have C:pZ x _ #[iY]:=qa ..;obtain⟨Q,w⟩:∃Q,#[iY].get? x=aa ⟨.ref _,aa _,.seq _ Q,_⟩:=#[bM,uN _ g rfl];refine aB.Cy R z r C E ⟨_,w,j,rfl,rfl,l,#[Q,_,rfl,m.length],_,A,rfl⟩ #[aO] (#[eh]) λn y P T M L e=>?_;cases e;refine#[n3,λo f0 e l=>#[Y],F.tab];rw[w]at e;cases e;exact#[Q,_,rfl,m.mono λv c p=>p.keep λt o _ e X=>(C.2 t #[eL,E,X]).trans e]
def Pe(B:Bs)(j:Nat)(c:Tx×Tx):Ob:=.rel (j+1) (λS o=>∃Y n a,o=#[ob]/\#[fi,Y.toList,#[e9,c.1,c.2]]/\#[av,S,a]/\B.lo<=a) λS b o h⟨Y,n,a,N,a0,T,E⟩=>⟨Y,n,a,N,a0,(h j (hR j)).trans T,E⟩
theorem Ev.afg{f p:Tx}(h:#[bZ,cy,d,#[e9,f,p]])(u:cD d=ae)(R:b0.length=j)(a:b0++[Pe B j (f,p)]=m0):#[aP,.Tuple d L0 i0,#[cn],m0]:=λA J S s Q E G M q=>by
 subst R a;refine zZ ?_;rw[#[dG]];refine#[a8,h,λZ k0 F C T=>#[a3,by rw[T.length];exact(show 2<=aC by decide)]];have Y:(F++[k0.heap.objs.size])[b0.length]?=aa k0.heap.objs.size:=by rw[<-C.rel.len];simp
 refine#[fN,aB.push C.rel rfl ⟨by rw[aY,C.rel.len];exact aP _,_,0,_,rfl,?_,Y,C.rel.gh.2.2.2⟩ #[aO] λ_ _ _ _ o f0 g c=>?_,#[P,Y]];.exact T.atoms λy m j e=>#[Y]
 .rw[#[aW]]at g;grind
theorem TY(a b:ai):kU "list.append" #[ai,[a,b]]:=Rz _ _
theorem Cl.Tu{i j d:Nat}{f p:Tx}(F:#[w])(m:#[bU])(h:#[G,H,dG B k d I])(l:#[av,H,Pe B j (f,p)])(r:O.fz<=i)(y:I.length<=aC)(v:H.set i (dG B k d #[e5])=m0):#[g2,"list.append",[.ob i,.ob j],.none]:=λA J S Z s Q E G M c q=>by subst v;cases c with
|cons a a0=>cases a0 with
|cons a0 T=>
 cases T;obtain⟨x,z,rfl⟩:=a;obtain⟨t,n0,rfl⟩:=a0;obtain⟨Y,Q0,L0,b,i0,c0,R,e⟩:=M.acc z h;obtain⟨r0,w0,_,f0,q0,X,rfl,u0,v0,o0⟩:=M.store j t _ n0 l;rw[n0]at v0;cases v0;obtain⟨l0,k0,N,J0,I0,G0,H0,A0,t0,x0,M0,o,L,b0,e0⟩:=m.ex;have j0:=#[aZ,M.gh,o,b0];have y0:hB B s.heap #[M,t] (f,p):=⟨t,rfl,⟨M.high t (bz n0),o0⟩,f0,q0,w0,u0⟩;have P:=aB.acc (f:=λx=>x.push (.ref t)) (u:=I++[(f,p)]) F.slt M z h r b i0 R e (by rw[pF];exact c0.append (.cons y0 .nil)) s.toks;have u:#[gY]:=by rw[<-gI];exact c0.length
 obtain⟨C,g,C0,p0,h0⟩:=s;refine oL (a:="list") (b:="append") j0 b rfl (.inl #[p]) #[E] #[E] (TY _ _) zu.plain RD ?_;show#[cT,(updateSeq x (·.push (.ref t))>>=λ_=>ret .none)];refine af (Ad b rfl (aA #[dy,.none,q _ _ S P rfl]))
end
section
noncomputable def Hz:#[y]:=by run_tac av.de ["_Accumulator","push"]
noncomputable def Nl:bt:=by run_tac av.df ["_Accumulator","push"]
theorem aem:#[cI,"list","append","list.append"]:=zu.lookup
abbrev bY(B:Bs)(C:Nat)(I:#[ag]):#[l]:=[bS 0 [(ak "_initial_size",#[ay,C])],dG B 2 0 I]
theorem mm:cz 2 #[b0]:=#[aG,cz.cons #[ap,0<=2] ph #[aO] #[dl,#[ap,2<=2],vt,λi e0 h=>by simp at h]]
theorem dd.vK{H s:#[g]}(h:cz L H)(g:#[no])(b:bA L r)(u:s.take L=H):dd L r H o v s:=⟨g,b,by have:=h.len;rw[<-u,bI]at this;omega,λi e0 P e=>(h.ok i _ (by rw[<-u,eD P];exact e)).1,u⟩
structure gx(s0:#[n]):Prop where
 append:s0 "append"=ab
 ta:s0 "_initial_size"=ab
 push:#[fF,"push",144]
 Zu:#[fF,"pop_from",152]
 pop:#[fF,"pop",160]
 len:#[fF,"__len__",167]
 str:#[fF,"__str__",174]
 reset:#[fF,"reset",182]
 Za:#[fF,"is_onlyws",189]
 count:#[fF,"part_count",197]
 init:#[fF,"__init__",137]
 bool:s0 "__bool__"=ab
 iter:s0 "__iter__"=ab
 BE:s0 "__getitem__"=ab
 Dq:s0 "__setitem__"=ab
variable{B:Bs}{w:aD}{d0 g0 s0:#[n]}{I:#[ag]}
theorem TL(F:#[w])(G:#[W])(X:#[bU])(N:gx s0)(u:bb B 144 Nl 3 Hz)(C:Nat)(f p:Tx)(y:#[ey]):bH B w 3 144 #[jL] #[b0] .none (bY B C #[e5]):=by refine bH.dU F u #[ak] rfl rfl rfl #[p] rfl rfl rfl ?_;refine#[gK,Ev.Yp X #[b8,0] rfl cA.acc rfl #[j] rfl N.append aem RU rfl #[bn,Ev.afg #[hW,#[b8,1],#[b8,2]] rfl rfl rfl] (Mine.Cl.Tu F X rfl rfl #[aC] (dD y) rfl) #[an] rfl #[j],aj.nil (dd.vK mm (.inr #[bV]) trivial rfl)]
end
theorem Zd:#[hp,"__len__","list.__len__"]:=#[p]
theorem Zc:#[hp,"__init__","list.__init__"]:=by kernel_rfl
theorem Ze:#[hp,"pop","list.pop"]:=by kernel_rfl
theorem afo:jg (.builtin "list.__len__")=aw (.type "wrapper_descriptor"):=by kernel_rfl
theorem afn:jg (.builtin "list.__init__")=aw (.type "wrapper_descriptor"):=by kernel_rfl
theorem afp:jg (.builtin "list.pop")=aw (.type "method_descriptor"):=by kernel_rfl
theorem XP:#[cI,"wrapper_descriptor","__get__","wrapper_descriptor.__get__"]:=by rw[cG,cE];kernel_rfl
theorem XM:#[cI,"method_descriptor","__get__","method_descriptor.__get__"]:=by rw[cG,cE];kernel_rfl
theorem Vu:kW lg "wrapper_descriptor.__get__"=aa Builtin.«wrapper_descriptor.__get__»:=uY (#[p])
theorem Vs:kW lg "method_descriptor.__get__"=aa Builtin.«method_descriptor.__get__»:=uY (#[p])
theorem UL(e:String)(a b:ai):#[n8,.builtin "list.__len__"]:=by kernel_rfl
theorem UM(e:String)(a b:ai):#[n8,.builtin "list.__init__"]:=by kernel_rfl
theorem UJ(e:String)(a b:ai):md "method_descriptor.__get__" #[ai,[.builtin "list.pop",a,b]]=aw ():=by kernel_rfl
section
variable{k:ni}{w:aD}{A:aS}{E:#[C]}{h:bo}{g:#[da]}{d:hU}{t:Nat}{h0:gB}
variable{l0 q:aq}{C N x:ao}{J0 v0:#[L]}{i:#[bA]}{P:#[L]}{j:Bool}{I0:#[eA]}{G0:#[a2,ao]}{H0 A0 t0 x0 M0:#[bT]}{F:String}{o:cp}
theorem Wg{e:String}{Q:#[C]}(I:#[ne,e.cutAt])(u:∀a b,md "wrapper_descriptor.__get__" #[ai,[#[gA],a,b]]=aw ())(c:#[eR])(z:#[cl])(X:#[dm])(O:#[bs,h.objs.size,#[a7,h.push #[aj,"method-wrapper",.fields,#[#[gA],#[az]]],t]]):#[ep,#[lr,"wrapper_descriptor.__get__"]]:=by
 have r:#[n9,#[eo]]:=rfl;refine gr (zG #[E] Vu (cQ (u _ _) ?_));unfold Builtin.«wrapper_descriptor.__get__»;repeat(first|(with_reducible refine gP z ?_;rw[X])|(with_reducible refine kn c ?_;rw[r])|wp_step)
 rw[I];refine kn c ?_;rw[r];refine aA (af ?_);unfold Gu;exact jO (aA O) (by size_fits)
theorem Wf{e:String}{Q:#[C]}(I:#[ne,e.cutAt])(f:Manifest.toldItsClass.contains e=ag)(u:∀a b,md "method_descriptor.__get__" #[ai,[#[gA],a,b]]=aw ())(c:#[eR])(z:#[cl])(X:#[dm])(O:#[bs,h.objs.size,#[a7,h.push #[aj,"builtin_function_or_method",.fields,#[#[gA],#[az]]],t]]):#[ep,#[lr,"method_descriptor.__get__"]]:=by
 have r:#[n9,#[eo]]:=rfl;refine gr (zG #[E] Vs (cQ (u _ _) ?_));unfold Builtin.«method_descriptor.__get__»;repeat(first|(with_reducible refine gP z ?_;rw[X])|(with_reducible refine kn c ?_;rw[r])|(rw[f])|wp_step)
 rw[I];refine kn c ?_;rw[r];refine aA (af ?_);unfold Gu;exact jO (aA O) (by size_fits)
theorem aee{j f:ao}{G:aq}{p0:gn}{a l:#[L]}{e T S:String}{Q:#[aI,Fin]}(q:#[bv,j,#[nm]])(H:Looks #[cS] h #[cP,SG,C] ab)(b:Looks #[cS] h #[cP,jK,C] a)(y:(a.dropWhile (·!=.ref f)).drop 1=#[fW]::l)(Y:(G==("__class__":aq))=ag)(I:x≠C)(r:#[hp,G,e])(i:jg (.builtin e)=aw (.type S))(o:#[cI,S,"__get__",T])(O:ax #[cS] A #[lr,T] (λv L=>Q (.done (.ret v)) L) E #[bw]):#[ep,Builtin.«super.__getattribute__» #[ai,[.ref j,.str G p0]]]:=by
 have n:(iL x==iL C)=ag:=by simp[I]
 have c:(#[nm]:cp).data=.fields #[.ref f,#[az],.ref C]:=rfl;have m:(#[.ref f,#[az],.ref C]:#[bb])[0]?=aa (.ref f):=rfl;have U:(#[.ref f,#[az],.ref C]:#[bb])[1]?=aa (.ref x):=rfl;have u:(#[.ref f,#[az],.ref C]:#[bb])[2]?=aa (.ref C):=rfl;unfold Builtin.«super.__getattribute__»;repeat(first|((run_tac BJ ``rX);first|(with_reducible refine dY q c m ?_)|(with_reducible refine dY q c U ?_)|(with_reducible refine dY q c u ?_))|((run_tac BJ ``notOfAnOpaqueClass);with_reducible refine ks_wpAny_notOpaque H ?_)|((run_tac BJ ``jK);with_reducible refine Looks.at b ?_;rw[y,lM])|(rw[n,#[c7]];refine dq O (λv L p=>?_) λ_ _ z=>z)|(simp only[Y,tT,gc,if_false])|wp_step|dsimp only)
 all_goals assumption
theorem aed{j:ao}{e T S u:String}{G:aq}{R:dF Bool}{a l:#[L]}{f:ao}{Q:#[aI,ai×#[L]]}(q:#[bv,j,#[nm]])(H:Looks #[cS] h #[cP,SG,C] ab)(b:Looks #[cS] h #[cP,jK,C] a)(y:(a.dropWhile (·!=.ref f)).drop 1=#[fW]::l)(Y:(G==("__class__":aq))=ag)(I:x≠C)(o:#[hp,G,e])(i:jg (.builtin e)=aw (.type S))(n:#[cI,S,"__get__",T])(m:∀{A:aS}{E:#[C]}{Q:#[C]},#[bs,h.objs.size,#[a7,h.push #[aj,u,.fields,#[#[gA],#[az]]],t+1]]->ax #[cS] A #[lr,T] Q E #[gk])(O:Q (.ref h.objs.size,[]) #[a7,h.push #[aj,u,.fields,#[#[gA],#[az]]],t+1]):#[ep,rY #[M,j] G R]:=by have s:=RH.lookup;have Z:=aib;have c:∀r,(#[a7,h,r]:au).TypeIs (.ref j) "super":=λ_=>#[P,q];unfold rY;refine#[bF,jh,c _,s];show#[lL,nh "super.__getattribute__"];rw[if_pos Z];refine#[bW,vk (cj (af (oE (c _) (af (cQ s ?_)))))];refine#[cX,#[co,#[aa,zQ (.type "super"),bh (.type "super") "__getattr__",aw ab]=aw ab]];refine af (iM (cj ?_));refine dq (Q:=λv L=>v=.ref h.objs.size/\L=#[a7,h.push #[aj,u,.fields,#[#[gA],#[az]]],t+1]) (E:=#[fP]) (iN RH (c _) aid (aee q H b y Y I o i n (m #[cV,rfl])) (aie _ _)) (λv L p=>?_) λ_ _ z=>z.elim;obtain⟨rfl,rfl⟩:=p;exact aA (aA O)
end
theorem Zf:(P0.main.scope.names.lookup (ak "super")).isSome=ag:=#[p]
structure jP(B:Bs)(d0 g0:#[n])(f:ao)(j0:bt)(k:Nat)(r0:#[y]):Prop where
 ex:∃f0 o,#[gq,f]/\#[kK]/\#[dX]/\f0.scope=j0/\#[kQ,#[j9],#[n4],(∃c O0 Y t p G,#[gu,c]/\#[aq,c]/\B.heap.get? c=aa O0/\O0.data=.fields Y/\Y[1]?=aa (.str f0.qualname t)/\Y[2]?=aa (.str G p)/\((P0.main.file:aq)==G)=ae)/\(∃n,#[nv]/\n.arg=ak "self")/\∀(Z:#[L])(s:au),Z.length=k->#[c9]->rN s f0 #[ai,Z] ((j0.names.map (·.1)).zip Z)]
 out:#[aq,f]
 cell:(∃o,#[gq,124]/\o.data=.cell (aa #[M,200]))/\#[aq,124]
 sup:#[hk]
 Zb:∃i,B.heap.Ns iq i/\i (ak "thirdparty.any")=ab
section
variable{k:ni}{w:aD}{A:aS}{E:#[C]}{s:au}{i0:ba}
theorem Ux{b x:ao}{T c:String}{B:uE}{Q:#[C]}(Z:#[ch,b,{cls:=.type T,dict:=ab,data:=.fields #[.builtin c,#[az]],slots:=#[]}])(d:T="method-wrapper"\/T="builtin_function_or_method")(I:∀{A:aS}{Q:#[aI,Unit]}{E:#[C]},Q () s->ax #[cS] A (qe c #[gv]) Q E s)(C:vg c=ae)(S:kW lg c=aa B)(O:ax #[cS] A.in1 (B #[gv]) (#[nV]) E s):ax #[cS] A (mb i0 #[M,b] [] [] []) Q E s:=by
 refine#[b9,aA (af (dR ?_))];refine af (m:=keeperOf (.ref b)) ?_;refine#[bd,lh,Z];have N:(jH T !=jH "method")=ae:=by rcases d with rfl|rfl<;>decide
 have a0:(jH T==jH "builtin_function_or_method"||jH T==jH "method-wrapper")=ae:=by rcases d with rfl|rfl<;>decide
 have a:(jH T==jH "method"||jH T==jH "builtin_function_or_method"||jH T==jH "method-wrapper")=ae:=by rcases d with rfl|rfl<;>decide
 simp only[N,a0,if_true];refine aA ?_;refine af (gr (Sx ?_));refine#[bd,lh,Z];dsimp only;simp only[a,if_true];have P:#[zE c,#[az]][0]?=aa (.builtin c):=rfl;have F:#[zE c,#[az]][1]?=aa (.ref x):=rfl;simp only[P,F,N,if_true];refine af (I (aA ⟨zR C _,zF S ?_⟩));rw[QW C _];refine dq O (λgW L⟨v,e,p⟩=>?_) λ_ _ z=>z;subst e;exact#[b9,GL (aA p)]
end
section
variable{w:aD}{A:aS}{E:#[C]}{h:bo}{g:#[da]}{d:hU}{t:Nat}{h0:gB}
variable{l0 q:aq}{C N x f L l:ao}{J0:#[L]}{i:#[bA]}{P:#[L]}{j:Bool}{I0:#[eA]}{G0:#[a2,ao]}{H0 A0 t0 x0 M0:#[bT]}{F:String}{o q0 O0 p:cp}{f0:gN}
theorem OA{r0:#[y]}{s1 F0 E0 N0:ba}{G:aq}{n:Arg}{Y:#[bb]}{X0:aq}{d1:gn}{m d0 g0 n0:#[n]}{T k1 j1 i1:String}{g1:uE}{Q:#[C]}(R:#[e2,f0.scope.kind])(C0:#[g6,f0.scope.names.lookup,"super"])(f1:f0.scope.names.lookup (ak "__class__")=aa .free)(U0:#[md])(M:#[bv,f,q0])(y0:#[hN])(B:#[nv])(q1:n.arg=ak "self")(n1:#[n4])(p1:#[hz])(Z0:#[hy])(s0:#[gu,l])(e1:#[bv,l,O0])(R0:O0.data=.fields Y)(m0:Y[2]?=aa (.str X0 d1))(r1:((P0.main.file:aq)==X0)=ae)(U:#[gd])(Z:#[ge])(Q0:#[hk])(S:h.Ns iq n0)(S0:n0 (ak "thirdparty.any")=ab)(w1:#[bv,124,p])(L0:p.data=.cell (aa #[M,C]))(j0:h.Ns L m)(h1:m (ak "self")=aa (.ref x))(I:#[eR])(z:#[cl])(X:#[dm])(u0:#[iz])(c1:x≠C)(k0:#[l1])(H:(G==(ak "__class__"))=ag)(b1:#[hp,G,T])(T0:jg (.builtin T)=aw (.type j1))(a1:#[cI,j1,"__get__",k1])(Y0:∀{c0:bo}{t:Nat}{A:aS}{E:#[C]}{Q:#[C]},c0.get? C=aa #[kZ,#[eo]]->#[dz,x]->#[bs,c0.objs.size,#[a7,c0.push #[aj,i1,.fields,#[.builtin T,#[az]]],t]]->#[dT,#[jp,k1,[.builtin T,#[az],.ref C]],#[a7,c0,t]])(a0:i1="method-wrapper"\/i1="builtin_function_or_method")(m1:∀{c0:bo}{t:Nat}{A:aS}{Q:#[aI,Unit]}{E:#[C]},c0.get? C=aa #[kZ,#[eo]]->#[dz,x]->Q () #[a7,c0,t]->#[dT,qe T #[gv],#[a7,c0,t]])(w0:vg T=ae)(b0:kW lg T=aa g1)(O:#[mQ,g1,λgW u=>∃v,gW=.done (.ret v)/\Q v u]):#[ns,#[bR,.Attribute #[bR,#[aL,"super",s1],[],F0] G E0,[],N0]]:=by
 have o1:se (([]:List aT).length+([]:List rQ).length) (kk N0 (jM [] (cP f0 L f))) (ma N0 (mh [] (cP f0 L f)))=ae:=#[p];refine _root_.PySem.wpAt_bind ?_;refine ks_wpAt_super_base (env:=cP f0 L f) C0 f1 H rfl M y0 B s0 e1 R0 m0 r1 Zf ?_;refine uR R C0 (zo (env:=cP f0 L f) (by show h.Ns f0.globals d0;rw[p1];exact U) Q0.1 (by show h.Ns f0.builtins g0;rw[Z0];exact Z) Q0.2 #[aG,?_]);refine Ab R f1 (by show f0.closure.lookup _=aa 124;rw[n1];rfl) #[aw,w1,L0] ?_;rw[q1];refine iu R U0 j0 h1 ?_;refine Gp I rfl #[aG,?_];have t1:(iL C::#[eo]).contains (.ref C)=ae:=by simp
 refine ks_wpAny_call_super I rfl z X u0 (λA Q E s k q=>?_) (λa y A0=>?_);.exact kn (k _ _ I) (by rw[t1];exact q)
 refine _root_.PySem.wpAt_of_wpAny (af (dR ?_));unfold vd uW ve;simp only[o1,k0,if_true,tR,tU];have u1:a.Ns iq n0:=let⟨o,J,o0,e,r⟩:=S;⟨o,J,o0,A0 _ _ e,r⟩;refine#[b9,aed (f:=C) (a:=iL C::#[eo]) (l:=[.type "object"]) y (λA Q E s k q=>?_) (λA Q E s k q=>?_) ?_ H c1 b1 T0 a1 (Y0 (A0 _ _ I) (A0 _ _ z)) ?_];.obtain⟨c0,v0,p0,i0,l1⟩:=s;have v1:c0.Ns iq n0:=let⟨o,J,o0,e,r⟩:=u1;⟨o,J,o0,k _ _ e,r⟩;refine#[bW,nq v1 ?_];rw[show n0 _=ab from S0];refine aA ?_;exact aA q
 .exact wpAny_mroOf_exc (k _ _ (A0 _ _ I)) q
 .rw[List.dropWhile_cons,#[bJ,by simp]];rfl
 have t0:#[oe,(a.push #[aj,i1,.fields,#[.builtin T,#[az]]])]:=λb e0 e=>bN _ (A0 _ _ e);exact Ux #[gi] a0 (m1 (t0 _ _ I) (t0 _ _ z)) w0 b0 (O (by rw[da];exact eO (eh (bk y))) t0)
end
structure vm(d0 g0:#[n])(f:ao)(j0:bt)(f0:gN)(h:bo):Prop where
 scope:f0.scope=j0
 fn:∃o,#[e3,f]/\#[dX]
 par:∃n,#[nv]/\n.arg=ak "self"
 AX:#[n4]
 gl:#[hz]
 bl:#[hy]
 code:∃l O0 Y G p,#[gu,l]/\#[bv,l,O0]/\O0.data=.fields Y/\Y[2]?=aa (.str G p)/\((P0.main.file:aq)==G)=ae
 g:#[gd]
 b:#[ge]
 sup:#[hk]
 st:#[iF]
 cell:∃o,#[e3,124]/\o.data=.cell (aa #[M,200])
section
variable{B:Bs}{w:aD}{n k:Nat}{d0 g0 s0:#[n]}{f:ao}{j0:bt}{r0:#[y]}{z:#[B]}{H m0:#[l]}{r:V}
theorem jP.at_(F:#[w])(u:jP B d0 g0 f j0 k r0)(b:GH B h):∃f0 o,#[e3,f]/\#[dX]/\#[j9]/\h.CodeRec f0.code f0.qualname/\(∀(Z:List _)(s:au),Z.length=k->GH B s.heap->rN s f0 ⟨Z,[]⟩ ((j0.names.map (·.1)).zip Z))/\vm d0 g0 f j0 f0 h:=by obtain⟨f0,o,N,w,a0,T,E,r,Q,j,⟨c,O0,Y,t,p,G,i,P,q,v,n,x,A⟩,H,C⟩:=u.ex;obtain⟨⟨m0,a,d⟩,g⟩:=u.cell;obtain⟨l,k0,m⟩:=u.Zb;have A0:=b.2.1;exact⟨_,o,A0 _ _ N u.out,a0,E,⟨c,_,_,t,i,A0 _ _ q P,v,n⟩,C,T,#[aY,A0 _ _ N u.out,a0],H,r,Q,j,⟨c,_,_,_,_,i,A0 _ _ q P,v,x,A⟩,F.gs b,F.bs b,u.sup,#[aw,k0.at' λo e=>A0 _ o e F.cT,m],_,A0 _ _ a g,d⟩
def fR(B:Bs)(w:aD)(n:Nat)(f:ao)(z:#[B])(H:#[l])(T:#[jH])(m0:#[l]):Prop:=#[mB,#[bc]->#[c9]->#[hM]->#[a1,Z,z]->(∀u L,Fx B S s L->#[g7]->cM B S m0 L.heap->T S L.heap u->#[f1,u,L])->jJ #[aE] A #[b3,.call,f,#[ai,Z]] R s]
theorem fR.sup{T:#[jH]}(F:#[w])(k0:jP B d0 g0 f j0 k r0)(Z0:iB j0 k=ae)(U0:#[eu])(H0:#[eV])(L0:#[eU])(g:z.length=k)(h:∀(f0:gN)(A:aS)(S:#[t])(C:#[L])(L:ao)(s:au)(Q:#[aI,hW])(E:#[C]),#[bc]->#[c9]->#[hM]->#[a1,C,z]->vm d0 g0 f j0 f0 s.heap->#[dO,L,(λx=>((j0.names.map (·.1)).zip C).reverse.lookup x)]->#[aK,L]->L∉S->(∀X0 d,Fx B (L::S) s d->GH B d.heap->cM B S m0 d.heap->T S d.heap (match X0 with|.ret v=>v|_=>.none)->Q X0 d)->_root_.PySem.wpAt #[aE] A (.func r0 (cP f0 L f)) (gp r0 (cP f0 L f)) Q E s):fR B w (n+1) f z H T m0:=λA S C s R G c0 Y X q=>by
 obtain⟨f0,o,N,a0,j,U,R0,M⟩:=k0.at_ F c0;have i0:C.length=k:=X.length.trans g;have a1:=Z0;simp only[iB,fF,decide_eq_true_eq,fe]at a1;obtain⟨⟨⟨O0,S0⟩,x0⟩,I0⟩:=a1;have A0:=M.scope;refine ks_codeAny_call_defAt (o:=o) (fd:=f0) (body:=r0) (binds:=(j0.names.map (·.1)).zip C) #[h4] N a0 (F.nl c0) U j (R0 C s i0 c0) (λx c e=>?_) (λx c=>?_) (λn0 C0 u0=>?_) (by rw[A0];exact H0) (by rw[A0];exact L0) (by rw[A0];exact U0);.rw[A0]at c;have:=I0 x c;rw[e]at this;cases this
 .rw[A0];obtain⟨i,P⟩:=gK.mp c;obtain⟨u,O⟩:=pL.mp P;rw[cg]at u;obtain⟨p,J,Y0⟩:=dW.mp u;have q0:i<k:=by rw[<-i0];exact#[V,O]
  have Q0:#[kh,p]:=bz (i:=i) (by rw[eD q0];exact J);have G0:=S0 _ Q0;simp only[beq_iff_eq]at G0;obtain⟨l0,y0⟩:=p;cases G0;rw[<-Y0];exact mv O0 J
 have b0:#[R,n0.objs.size]:=by obtain⟨o,_,_,e,_⟩:=C0;exact eh (bk e)
 have q0:#[kJ]:=λa I=>by
  obtain⟨i,P⟩:=gK.mp I;have l:i<H.length:=by rw[<-Y.len];exact#[V,P]
  obtain⟨⟨o,e,_⟩,_⟩:=Y.store i a _ P (bD l);exact bk e
 have b1:=c0.grow b0 u0;obtain⟨T0,_,_,M0,_,_,_,d1⟩:=k0.at_ F b1;have c1:cM B S H n0:=⟨Y.len,Y.nodup,Y.high,λi a e0 I Z=>by obtain⟨⟨o,u,O⟩,t0⟩:=Y.store i a e0 I Z;exact⟨#[aY,u0 _ _ u,O],t0.keep (λv0 s0=>by rw[u0 _ _ u]at s0;cases s0;exact u) λb v0 s0 _ _=>u0 _ _ s0⟩⟩;have N0:T0=f0:=by obtain⟨o0,h0,p0⟩:=d1.fn;rw[u0 _ _ N]at h0;cases h0;rw[a0]at p0;cases p0;rfl
 subst N0;refine h T0 _ S C s.heap.objs.size _ _ _ ⟨G.handled,by have:=G.depth;show#[i0];omega,by have:=G.units;show A.units+3+8*n+8<_;omega⟩ b1 c1 X d1 C0 c0.1 (λt=>#[ac,q0 _ t,ft _]) λX0 d w0 J0 F0 m=>?_;refine q _ d ?_ J0 F0 m;have E0:Fx B S s #[cQ,n0,s.toks+((j0.names.map (·.1)).zip C).length]:=Fx.fY b0 #[dN,u0];refine E0.trans w0 λy r=>?_;rcases bg.mp r with rfl|r;.exact .inr (aP _)
 .exact .inl r
end
section
variable{w:aD}{A:aS}{E:#[C]}{h:bo}{g:#[da]}{d:hU}{t:Nat}{h0:gB}
variable{B:Bs}{d0 g0 s0:#[n]}{f L x:ao}{j0:bt}{r0:#[y]}{f0:gN}{o:cp}
theorem UO(x:ai):qe "list.__len__" #[ai,[x]]=aw ():=by kernel_rfl
theorem UN(x:ai):qe "list.__init__" #[ai,[x]]=aw ():=by kernel_rfl
theorem Oz{y:String}(i:vm d0 g0 f j0 f0 h)(H:#[bU])(u:GH B h)(R:#[eu])(v0:#[g6,j0.names.lookup,"super"])(Y0:j0.names.lookup (ak "__class__")=aa .free)(Q0:#[kx,j0.names.lookup])(M:h.Ns L m)(a1:m (ak "self")=aa (.ref x))(z:#[cl])(X:o.cls=.ref 200)(o0:#[iz])(T0:x≠200)(T:#[l1])(j:(G==(ak "__class__"))=ag)(S0:#[hp,G,y])(L0:jg (.builtin y)=aw (.type "wrapper_descriptor"))(m0:#[ne,y.cutAt])(d1:∀a b,#[n8,.builtin y])(b1:∀x,qe y #[ai,[x]]=aw ())(p0:vg y=ae)(S:kW lg y=aa Z0)(O:#[mQ,Z0,λgW e=>∃v,gW=.done (.ret v)/\Q v e]):#[ns,#[bR,.Attribute #[bR,#[aL,"super",f1],[],F0] G E0,[],N0]]:=by obtain⟨l0,k0,N,J0,I0,G0,H0,A0,t0,x0,M0,r,I,P,a0⟩:=H.ex;have b0:=i.scope;obtain⟨q0,s,u0⟩:=i.fn;obtain⟨n,C,c1⟩:=i.par;obtain⟨l,O0,Y,R0,U0,n0,X0,y0,U,e1⟩:=i.code;obtain⟨i0,Z,C0⟩:=i.st;obtain⟨p,J,w0⟩:=i.cell;subst b0;exact OA R v0 Y0 Q0 s u0 C c1 i.AX i.gl i.bl n0 X0 y0 U e1 i.g i.b i.sup Z C0 J w0 M a1 #[cW,u,r,P] z X o0 T0 T j S0 L0 XP (λF k q=>Wg m0 d1 F k X q) #[aU] (λ_ _ q=>cQ (b1 _) q) p0 S O
end
noncomputable def Ar:#[y]:=by run_tac av.de ["_Accumulator","part_count"]
noncomputable def Di:bt:=by run_tac av.df ["_Accumulator","part_count"]
section
variable{B:Bs}{w:aD}{d0 g0 s0:#[n]}{I:#[ag]}
theorem cM.acc{n d i:Nat}{H:#[g]}(R:cM B S H h)(z:#[G,S,x])(P:#[G,H,dG B n d I]):∃Y q L0,#[bv,x,#[hL,.ref 200,q]]/\S[d]?=aa L0/\aM (hB B h) Y.toList I/\n<=S.length/\d<n:=by obtain⟨⟨o,N,a0,T,E,r,⟨Y,q,Q,_⟩,L0,b,y⟩,j⟩:=R.store i x _ z P;obtain⟨_,_,p⟩:=j;obtain⟨M,e,F,a⟩:=p o N;rw[Q]at F;cases F;obtain⟨c,G0,f,s⟩:=o;dsimp at T E Q y;subst T E Q y;exact⟨_,q,_,N,b,a,a0,r⟩
theorem cM.keep{H:#[g]}(R:cM B S H h)(k:#[id,h.get?]):cM B S H c0:=by refine#[m7,?_];obtain⟨⟨o,F,d⟩,t⟩:=#[gl];exact⟨#[aY,k _ _ F,d],t.keep (λA G=>#[Y]) λb A G _ _=>k _ _ G⟩
theorem abo:kW lg "list.__len__"=aa Builtin.«list.__len__»:=ahj
theorem CD(k:GH B h)(X:#[bU])(z:#[cl])(u:#[iz]):x≠200:=λe=>by obtain⟨l0,t,N,J0,I0,G0,H0,A0,t0,x0,M0,a,b,n,y⟩:=X.ex;have H:=#[aZ,k,a,n];grind
theorem GZ(F:#[w])(X:#[bU])(i:jP B d0 g0 197 Di 1 Ar)(C:Nat):bH B w 1 197 [.ob 1] #[b0] #[U,(I.length:Int)] #[b0]:=by refine fR.sup (T:=λS _ u=>VR S u #[U,(I.length:Int)]) F i #[ak] rfl rfl rfl rfl λf0 A S Z L s Q E G k l a f M H t q=>?_;cases a with|cons N a0=>cases a0;obtain⟨x,z,rfl⟩:=N;obtain⟨Y,Q0,L0,g,J,v,R,c⟩:=l.acc z rfl;have d:#[gY]:=v.length;refine vc (SD (Oz f X k rfl #[p] #[p] #[p] M (by rfl) g rfl #[aO] (CD k X g #[ck]) #[p] #[p] Zd afo #[p] (UL "") UO #[E] abo λm j=>?_));refine#[cX,rfl];dsimp;refine#[bW,gP (j _ _ g) #[cv]];refine af (wpAny_mkInt' (aA #[cg,q _ _ (Fx.fY m #[dN,j]) (k.grow m j) (l.keep j) #[bM,by rw[d]]]))
end
theorem aeg(x:ao):∀s,ov "list.pop"=aa s->pW "list.pop" {s with full:=s!"{(ak "_Accumulator").toString}.{Fs "list.pop"}"} #[gv]=aw ():=λs e=>by
 have:(match ov "list.pop"with|aa s=>pW "list.pop" {s with full:=s!"{(ak "_Accumulator").toString}.{Fs "list.pop"}"} #[gv]|ab=>aw ())=aw ():=by kernel_rfl
 rw[e]at this;exact this
def yh(B:Bs):Prop:=∃o c,#[gq,200]/\o.data=.cls c/\c.qualname=ak "_Accumulator"
section
variable{w:aD}{A:aS}{E:#[C]}{h:bo}{g:#[da]}{d:hU}{t:Nat}{h0:gB}
variable{l0 q:aq}{N x:ao}{J0:#[L]}{i:#[bA]}{P:#[L]}{j:Bool}{I0:#[eA]}{G0:#[a2,ao]}{H0 A0 t0 x0 M0:#[bT]}{F:String}{o:cp}
theorem UP{Q:#[aI,Unit]}(a:#[bv,200,eE l0 q 200 N J0 #[eo] ae i P j I0 G0 H0 A0 t0 x0 M0 F])(z:#[cl])(X:o.cls=.ref 200)(u:#[iz])(r:q=ak "_Accumulator")(O:Q () #[bw]):#[d1,qe "list.pop" #[gv]]:=by subst r;have l:(iL 200::#[eo]).contains (.type "module")=ag:=#[p];have R:qd "list.pop"=aa .method:=rfl;have p:Manifest.varargsMethods.contains "list.pop"=ag:=rfl;unfold qe;cases H:ov "list.pop"with|none=>exact aA O|some s=>simp only[R];rw[#[eW]];unfold zN;refine#[bW,lk z ?_];rw[X];refine kn a ?_;rw[l];simp only[p,tT,gc,if_false];refine#[bF,ks_wpAny_isType_inst,z,u];refine#[bd,lk,z];rw[X];refine#[bW,lh a ?_];refine aA (af (lk a ?_));exact cQ (aeg x s H) O
end
section
variable{w:aD}{A:aS}{E:#[C]}{h:bo}{g:#[da]}{d:hU}{t:Nat}{h0:gB}
variable{B:Bs}{d0 g0 s0:#[n]}{f L x:ao}{j0:bt}{r0:#[y]}{f0:gN}{o:cp}{I:#[ag]}
theorem aec{U0 F0 E0 N0:ba}{m:#[n]}{Q:#[C]}(e:vm d0 g0 f j0 f0 h)(u:#[bU])(X0:yh B)(r:GH B h)(R:#[eu])(m0:#[g6,j0.names.lookup,"super"])(Q0:j0.names.lookup (ak "__class__")=aa .free)(u0:#[kx,j0.names.lookup])(M:h.Ns L m)(R0:m (ak "self")=aa (.ref x))(z:#[cl])(X:o.cls=.ref 200)(i0:#[iz])(y0:x≠200)(P:#[l1])(O:#[mQ,Builtin.«list.pop»,λgW a=>∃v,gW=.done (.ret v)/\Q v a]):#[ns,#[bR,#[dL,#[bR,#[aL,"super",U0],[],F0],"pop",E0],[],N0]]:=by
 obtain⟨l0,a0,N,J0,I0,G0,H0,A0,t0,x0,M0,j,y,H,J⟩:=u.ex;have w0:a0=ak "_Accumulator":=by obtain⟨o,c,F,i,s⟩:=X0;grind
 have U:=#[aZ,r,j,H];have S:=e.scope;obtain⟨q0,k,k0⟩:=e.fn;obtain⟨n,C,S0⟩:=e.par;obtain⟨l,O0,Y,v0,C0,b0,L0,o0,I,T0⟩:=e.code;obtain⟨T,Z,p0⟩:=e.st;obtain⟨p,G,n0⟩:=e.cell;subst S;exact OA R m0 Q0 u0 k k0 C S0 e.AX e.gl e.bl b0 L0 o0 I T0 e.g e.b e.sup Z p0 G n0 M R0 U z X i0 y0 P #[ak] Ze afp XM (λF i q=>Wf #[p] #[E] (UJ "") F i X q) (.inr rfl) (λF i q=>UP F i X i0 w0 q) #[E] FH O
theorem cM.qj{H:#[g]}{L0:ao}{Y:#[bI]}{q:Nat}{f:#[bI]->#[bI]}(L:hA B)(y:#[c9])(R:#[hM])(z:#[G,S,x])(P:#[G,H,dG B n G0 I])(g:#[ch,x,#[hL,.ref 200,q]])(J:S[G0]?=aa L0)(k:n<=S.length)(l:G0<n)(m:aM (hB B s.heap) (f Y).toList u)(t:Nat):GH B #[iY]/\cM B S (H.set i (dG B n G0 u)) #[iY]/\Fx B S s #[cQ,s.heap.update x (dQ f),t]:=by
 have b0:=bz z;have a0:=bu.no g (#[eh]) #[eh];have O:pZ x _ #[iY]:=qa ..;obtain⟨M,U⟩:∃M,#[iY].get? x=aa ⟨.ref _,aa _,.seq (f _) M,_⟩:=#[bM,uN _ g rfl];have T:#[fG,b≠x,#[eE],(s.heap.update x _).get?]:=#[f9,O];refine⟨y.one L (R.high x b0) a0 #[gg,O] T,⟨by rw[yJ];exact R.len,R.nodup,R.high,λj a e0 d Z=>?_⟩,Fx.fY (eK O.1.symm) λb o e Z=>T b o (#[eL,Z,b0]) e⟩;by_cases w:j=i;.subst w;rw[z]at d;cases d;rw[pK (by have:=#[V,P];exact this)]at Z;cases Z;refine#[a3,⟨_,U,k,rfl,rfl,l,⟨f _,_,rfl,m.length⟩,_,J,rfl⟩];refine#[n3,λo f0 e l=>#[Y],L.tab];rw[U]at e;cases e;exact#[Q,_,rfl,m.mono λv c p=>p.keep λt o _ e X=>(O.2 t #[eL,a0,X]).trans e]
 .rw[oj (λe=>w e.symm)]at Z;have A:a≠x:=#[ht,w,d,z];obtain⟨⟨o,F,r⟩,C⟩:=R.store j a _ d Z;have N:=T a o A F;exact⟨#[aY,N,r],C.keep (λE G=>by grind) λb E G Q _=>T b _ (λe=>a0 (e▸Q)) G⟩
end
noncomputable def Hx:#[y]:=by run_tac av.de ["_Accumulator","pop"]
noncomputable def Nj:bt:=by run_tac av.df ["_Accumulator","pop"]
section
variable{B:Bs}{w:aD}{d0 g0 s0:#[n]}{I:#[ag]}
theorem cM.inst{H:#[g]}(R:cM B S H h)(a:#[G,S,x])(P:#[G,H,dG B n d I])(c:H[d]?=aa (bS k j0))(b:i≠d):∃s0,h.Inst x 200 s0/\(∀y,#[dV,j0.lookup,y]->s0 y=ab)/\∀y z,j0.lookup y=aa z->∃v,s0 y=aa v/\#[bl,z]/\bA k z:=by obtain⟨Y,q,L0,N,E,_,_,_⟩:=R.acc a P;obtain⟨⟨w,U,_,j,s,Z,f,g,o,u⟩,_⟩:=R.store d _ _ E c;refine#[Q,⟨_,N,rfl,#[aO],.inr #[Q,rfl,#[ht,b,a,E],⟨_,_,_,U,Z,f,g,λ_=>rfl⟩]⟩,o,λy z e=>?_];simp_all
theorem Lg:#[fh,"part_count"]:=by rw[cG,cE];kernel_rfl
theorem XC{h0:gB}(a:#[cl])(c:#[fz,Y,q])(y:Y.size<=aC)(p:Y[Y.size-1]?=aa v)(O:Q (.done (.ret v)) #[a7,h.update x (dQ #[nW]),t]):#[d1,Builtin.«list.pop» #[gv]]:=by
 have b:0<Y.size:=by
  obtain e|e:=EU Y.size;.simp_all
  .exact e
 refine#[cX,rfl];refine#[a0,aA];refine#[bF,Tc,a,c];have S:Y.isEmpty=ag:=by simp;intro e;rw[e]at b;cases b
 simp[S,gc,if_false];rw[(by rw[seqIndex_neg #[f] #[f]];congr 1;omega:la _ _=aa #[gz]),Option.bind_some,p];refine af (Ad a c (aA O) y (eO (aI ?_ y)));rw[Pk,#[D,dif_pos],Array.size_eraseIdx];exact Fh _ _
theorem TJ(F:#[w])(r0:#[bU])(N:gx s0)(F1:yh B)(H1:jP B d0 g0 197 Di 1 Ar)(e0:jP B d0 g0 160 Nj 1 Hx)(C:Nat){c:Tx×Tx}(j:I.length+1<=2^20):fR B w 2 160 [.ob 1] (bY B C #[aH]) (λ_ h u=>hB B h u c) #[b0]:=by refine fR.sup F e0 #[E] rfl rfl rfl rfl λf0 A S Z L s Q E G P O M n C0 t1 w1 q=>?_;have A1:=GZ (w:=w) (I:=I++[c]) F r0 H1 C;cases M with
|cons a a0=>
 cases a0;obtain⟨x,z,rfl⟩:=a;obtain⟨a2,Z1,L0,X1,U0,U1,R,r⟩:=O.acc z rfl;obtain⟨Y1,v0,u1,x1⟩:=O.inst z rfl rfl #[j];obtain⟨l0,b1,M1,J0,I0,G0,H0,A0,t0,x0,M0,J,u0,F0,T0⟩:=r0.ex;have Z0:=#[aZ,P,J,F0];have h1:#[dO,M1,s0]:=#[dZ,u0.at',P,T0];obtain⟨O1,O0,U,P1,j0,w0,_⟩:=H1.ex;have z1:=#[aZ,P,U,H1.out];show _root_.PySem.wpAt _ _ _ (gp [.If (.Compare #[bR,#[dL,#[aL,"self",_],"part_count",_],[],_] [.Eq] [.Constant #[U,0] 0 _] _) _ [] _,.Return (aa #[bR,#[dL,#[bR,#[aL,"super",_],[],_],"pop",_],[],_]) _] _) _ _ _;refine vc (ks_wpAt_If (_root_.PySem.wpAt_of_wpAny (GG ?_)));have n1:#[md]:=by rw[n.scope];decide+kernel
 have l1:#[e2,f0.scope.kind]:=by rw[n.scope];rfl
 rw[uU];refine af (m:=aW #[aL,"self",_] _) (hy (iu l1 n1 C0 rfl ?_) #[E]);refine#[a0,dR];obtain⟨h,g,d,t,h0⟩:=s;unfold vd uW ve;rw[if_pos (by rfl),if_pos (by rfl)];refine#[b9,LF r0.mro r0.ga r0.AO r0.ha Z0 h1 r0.ly r0.pd N.count z1 P1 Lg v0 (u1 _ rfl) ?_];refine#[a0,aA];refine Fw (o:=O0) (fd:=O1) ?_;unfold zK;refine aA #[a3,⟨z1,j0⟩];refine gr (A1 A S [#[az]] #[bw] _ G P O #[bn,#[aA,x,z]] λu f R0 f1 X0 p=>?_);obtain⟨p0,rfl⟩:=p;obtain⟨c0,i1,c1,y0,y1⟩:=f;refine sg ?_;refine eq_int ?_;have i0:(#[I,#[aH].length]==(0:Int))=ag:=by rw[aY];exact beq_eq_false_iff_ne.mpr (by simp only[EJ];omega)
 rw[i0];refine sk ?_;rw[#[c7]];refine _root_.PySem.wpAt_of_wpAny (aA ?_);have Q1:(160:Nat)∉S:=λl=>by obtain⟨N1,b0,e1,_⟩:=e0.ex;exact#[ac,O.high _ l,zb.mpr (bk e1)]
 obtain⟨q1,_,_,_,_,_,_,o1⟩:=e0.at_ F f1;have m1:q1=f0:=by obtain⟨o0,k1,d1⟩:=n.fn;obtain⟨m0,E0,Y0⟩:=o1.fn;rw[R0.keep _ _ k1 Q1 e0.out]at E0;cases E0;rw[d1]at Y0;cases Y0;rfl
 subst m1;have R1:c0.Ns L _:=C0.at' λo e=>R0.keep _ _ e w1 #[hx,F.slt.tab,L,t1];obtain⟨Y,Q0,I1,i,G1,S0,_,_⟩:=X0.acc z rfl;have T:Y.size=I.length+1:=by rw[<-gI,S0.length,aY];rfl
 refine vc (SD (aec o1 r0 F1 f1 rfl #[E] #[E] #[E] R1 rfl i rfl #[aO] (CD f1 r0 i #[ck]) #[j] λ{a0 N0 L1}j1 a1=>?_));have g1:=f1.grow j1 a1;have v1:=X0.keep a1;obtain⟨v,T1,p⟩:=S0.get (i:=I.length) (b:=c) #[z];have r1:Y[Y.size-1]?=aa v:=by rw[<-ke,T];exact T1
 have J1:∀{u c},hB B c0 u c->hB B a0 u c:=λM=>M.keep λt o _ e _=>a1 _ _ e
 obtain⟨E1,B1,C1⟩:=v1.qj (s:=⟨a0,i1,c1,N0,y1⟩) (f:=#[nW]) (u:=I) F.slt g1 z rfl (a1 _ _ i) G1 R r (by
  have k:=(S0.mono λu c M=>J1 M).eraseIdx (Y.size-1);have H:#[aH].eraseIdx (Y.size-1)=I:=by rw[T];simp[List.eraseIdx_append_of_length_le]
  rw[H]at k;rw[Pk,#[D,dif_pos],Array.toList_eraseIdx];exact k) N0
 refine XC (a1 _ _ i) rfl (by rw[T];exact dD j) r1 #[bN,v,rfl];refine q _ _ ((R0.trans ((Fx.fY (X:=S) (t:=N0) j1 #[dN,a1]).trans C1 λy m=>.inl m) λy m=>.inl m).widen λy m=>.inl (dO _ m)) E1 B1 ?_;have s1:¬bu a0 x:=bu.no (a1 _ _ i) (#[eh]) #[eh];have p1:pZ x a0 (a0.update x (dQ #[nW])):=qa ..;exact(J1 p).keep λt o _ e X=>(p1.2 t λk0=>s1 (k0▸X)).trans e
end
noncomputable def Aq:#[y]:=by run_tac av.de ["_Accumulator","__init__"]
noncomputable def tA:bt:=by run_tac av.df ["_Accumulator","__init__"]
def CH(f0:gN)(L f:ao):aO:={cP f0 L f with cells:=[]}
section
variable{B:Bs}{w:aD}{d0 g0 s0:#[n]}{I:#[ag]}
theorem cM.rel{H:#[g]}(F:#[w])(t:f0.scope=j0)(b:#[eu])(o:(j0.names.map (·.1)).Nodup)(q:#[hz])(n:#[hy])(k:GH B h)(l:cM B S H h)(d:#[cu,H])(M:h.Ns L m)(g:#[aK,L])(j:L∉S)(c:#[f2,U,∃l0 v,#[G,j0.names,(l0,.local)]/\m l0=aa v/\#[bl,x]]):aG B #[d3,j0,0] (CH f0 L f) S U H h:=by
 refine{scope:=t,kind:=b,kb:=?_,nd:=o,glob:=q,fh:=n,gh:=k,slt:=F.slt,ns:=⟨m,M,#[c1]⟩,lu:=?_,len:=l.len,cY:=aV _,store:=?_,code:=?_,nodup:=l.nodup,high:=l.high,dZ:=j,ic:=g,cw:=?_,kr:=?_};.simp
 .obtain⟨l0,v,N,a0,T⟩:=c i x e;exact#[Q,_,N,#[dM,rfl,v,a0,T]]
 .grind
 .intro i a e0 I Z;exact(l.store i a _ I Z).1
 .intro i a e0 I Z;refine(l.store i a _ I Z).2.ob λR e=>?_;have:=kB (k:=0) (e▸Z);grind
 .intro p C;cases C
 .exact .nil
theorem aG.Uv{H:#[g]}(R:#[cx]):cM B S H h:=#[m7,⟨#[gl],(R.code i a _ I Z).DV⟩]
theorem te:#[fh,"_initial_size"]:=by rw[cG,cE];kernel_rfl
theorem Xy{h0:gB}(a:#[cl])(c:#[fz,#[],q])(O:Q (.done (.ret .none)) #[a7,h.update x (dQ λ_=>#[]),t]):#[d1,Builtin.«list.__init__» #[gv]]:=by refine#[bF,Tc,a,c];refine af (Ad a c (aA O) #[aC] #[aC])
theorem TB(F:#[w])(X:#[bU])(N:gx s0)(I:jP B d0 g0 137 tA 2 Aq)(C:Nat):bH B w 1 137 [.ob 1,#[ay,C]] [bS 0 [],dG B 2 0 []] .none (bY B C []):=by refine fR.sup (T:=λS _ u=>VR S u .none) F I #[E] rfl rfl rfl rfl λf0 A S Z L s Q E G t r p j O L0 R0 q=>?_;cases p with
|cons a a0=>cases a0 with
|cons a0 T=>
 cases T;obtain⟨x,z,rfl⟩:=a;obtain⟨J0,rfl⟩:=a0;show _root_.PySem.wpAt _ _ _ (gp [.Assign [.Attribute #[aL,"self",_] (ak "_initial_size") _] #[aL,"initial_size",_] _,.Expr #[bR,#[dL,#[bR,#[aL,"super",_],[],_],"__init__",_],[],_] _] _) _ _ _;have E0:#[md]:=by rw[j.scope];decide+kernel
 have d1:f0.scope.names.lookup (ak "initial_size")=aa .local:=by rw[j.scope];decide+kernel
 have A0:#[e2,f0.scope.kind]:=by rw[j.scope];rfl
 refine vc (ks_wpAt_Assign_Attr (_root_.PySem.wpAt_of_wpAny (hy (iu A0 d1 O rfl ?_) #[E])) (by rfl));refine hy (iu A0 E0 O rfl ?_) #[E];have R:aG B #[d3,tA,0] (CH f0 L 137) S [#[ar],#[v,C]] [bS 0 [],dG B 2 0 []] s.heap:=r.rel F j.scope rfl #[E] j.gl j.bl t rfl O L0 R0 λi y e=>by match i,e with|0,e=>cases e;exact⟨_,_,rfl,rfl,x,z,rfl⟩|1,e=>cases e;exact⟨_,_,rfl,rfl,J0,rfl⟩|i+2,e=>simp at e
 refine R.setAttr (t0:=0) (v:=#[ay,C]) X z rfl cA.acc rfl #[j] #[aC] #[aC] #[bE,J0] #[aC] #[aJ] trivial N.ta te #[j] λc P=>?_;have l0:=P.rel.Uv;have u0:=P.rel.gh;obtain⟨F0,N0,j0⟩:=P.rel.ns;obtain⟨f1,e1,f,n⟩:=j0 0 (.ob 1) rfl;cases f
 have O0:F0 (ak "self")=aa (.ref x):=by
  rcases n with⟨_,v,U,I0,J,rfl⟩|⟨h,_⟩;.rw[z]at J;cases J;exact U
  .rcases h with h|⟨h,_⟩<;>cases h
 have c1:∀y∈fj #[d3,tA,0] (CH f0 L 137) S,#[aK,y]:=λy m=>by
  rcases bg.mp m with rfl|m;.exact L0
  .rcases cZ.mp m with m|m;.cases m
   .exact r.high y m
 obtain⟨H0,_,_,_,_,_,_,G0⟩:=I.at_ F u0;have C0:H0=f0:=by obtain⟨o0,y0,r0⟩:=j.fn;obtain⟨m0,e0,n0⟩:=G0.fn;rw[P.fx.keep _ _ y0 (λl=>by obtain⟨b1,b0,t0,_⟩:=I.ex;exact#[ac,c1 _ l,zb.mpr (bk t0)]) I.out]at e0;cases e0;rw[r0]at n0;cases n0;rfl
 subst C0;obtain⟨c0,w0,q0,M,S0⟩:=c;obtain⟨Y,Q0,Z0,g,Y0,i0,d,k⟩:=l0.acc z rfl;have H:Y=#[]:=Array.eq_empty_of_size_eq_zero (by rw[<-gI,i0.length];rfl);subst H;refine vc (ks_wpAt_Expr_any (Oz G0 X u0 rfl #[E] #[E] #[E] N0 O0 g rfl #[aO] (CD u0 X g #[ck]) #[j] #[E] Zc afn #[E] (UM "") UN #[E] PySem.F.entry_list_init λ{a0 h0 a1}x0 p0=>?_) R.inter (by rfl));have v0:=u0.grow x0 p0;have M0:=l0.keep p0;obtain⟨X0,T0,U0⟩:=M0.qj (s:=⟨a0,w0,q0,h0,S0⟩) (f:=λ_=>#[]) (u:=[]) F.slt v0 z rfl (p0 _ _ g) Y0 d k .nil h0;refine Xy (p0 _ _ g) rfl #[bN,.none,rfl];refine _root_.PySem.wpAt_of_wpAny (aA ?_);refine q _ _ ?_ X0 T0 rfl
 have k0:Fx B (L::S) s _:=P.fx.widen λy m=>.inl (by
  rcases bg.mp m with rfl|m;.exact fU
  .rcases cZ.mp m with m|m;.cases m
   .exact dO _ m)
 exact k0.trans (((Fx.fY (X:=S) (t:=h0) x0 #[dN,p0]).trans U0 λy m=>.inl m).widen λy m=>.inl (dO _ m)) λy m=>.inl m
end
section
variable{w:aD}{A:aS}{E:#[C]}{h:bo}{g:#[da]}{d:hU}{t:Nat}{h0:gB}
variable{l0 q:aq}{C N x:ao}{J0:#[L]}{i:#[bA]}{P:#[L]}{j:Bool}{I0:#[eA]}{G0:#[a2,ao]}{H0 A0 t0 x0 M0:#[bT]}{F:String}{o:cp}{r0:#[n]}{f:#[bb]}{Q0:Nat}
theorem Ah(a:#[eR])(z:#[cl])(X:#[dm])(O:Q k #[bw]):#[d1,sequenceKey #[M,x] k G]:=by refine#[bd,lk,z];rw[X];dsimp;have e:seqItemTypes=["collections.deque"]:=rfl;rw[e];refine af ?_;simp only[List.anyM];refine af (kn a (aA (aA O)))
theorem Ai{e:String}(a:#[eR])(b:#[dU])(z:#[cl])(X:#[dm])(l:r0 G=ab)(s:ox "list" G e)(O:#[el,#[jp,e,#[az]::m],λv=>Q (aa v),#[bw]]):#[d1,callSpecial? #[M,x] G m]:=by refine af (kc hb a b z X s.lookup ?_);rw[l];simp only[s.bind];exact cj (af (aA (af (dq O (λv L c0=>aA c0) λ_ _ c0=>c0))))
theorem TA{s:ao}{n y Y:ai}{c0 a H:#[eX]}{Q:#[C]}(e:#[eR])(m:#[dU])(z:#[cl])(X:#[dm])(l:r0 (ak "__getitem__")=ab)(b:#[fz,f,Q0])(u:h.IsSliceOf s n y Y)(R:ou n c0)(B:ou y a)(S:ou Y H)(k:H≠aa 0)(O:#[bs,h.objs.size,#[a7,h.push {cls:=#[fW],data:=.seq (slicePick f c0 a H)},t]])(I:f.size<=aC):#[d1,#[b3,zM,x,#[M,s]]]:=by
 obtain⟨v,r,U,p⟩:=id u;have G:#[kW,s,"slice"]:=⟨v,r,U⟩;refine cj (af (Ah e z X ?_));refine af (Ai e m z X l qg ?_);refine oL (a:="list") (b:="__getitem__") e z X (.inl #[p]) #[ak] #[p] (Sv _ _) qg.plain Sz ?_;show#[ed,uF (.ref s)];refine af ?_;refine#[bF,jh,G,slice_no_index];refine aA ?_;refine#[bd,oE,G];rw[SE]
 have J:¬((rawPart H==cF 0)=ae):=by cases H with
 |none=>exact fG
 |some c=>
  intro M;have:c=0:=by simpa[rawPart,cF]using M
  exact k (by rw[this])
 refine#[bW,dY r p (x:=Y) rfl (af (sh S ?_))];rw[if_neg J];refine af (dY r p (x:=n) rfl (af (sh R ?_)));refine af (dY r p (x:=y) rfl (af (sh B #[cv])));refine af (m:=QZ (.ref x)) ?_;refine af (lj z b #[cv]);refine#[cX,SJ c0 a H f.size k];exact af (jO (aA #[cg,aA O]) (aI (slicePick_size_le f c0 a H) I))
theorem Tz{k:Nat}{p0:gn}{v:ai}{Q:#[C]}(a:#[eR])(b:#[dU])(z:#[cl])(X:#[dm])(l:r0 (ak "__getitem__")=ab)(c:#[fz,f,Q0])(p:f[k]?=aa v)(e:k<2^62)(O:Q v #[bw]):#[d1,#[b3,zM,x,.int (k:Nat) p0]]:=by
 unfold zM;refine cj (af (Ah a z X ?_));refine af (Ai a b z X l qg ?_);refine oL (a:="list") (b:="__getitem__") a z X (.inl #[ak]) #[p] #[p] (Sv _ _) qg.plain Sz ?_;have H:0<=#[b4]:=by omega
 have n:#[b4]<2^63:=by omega
 clear e;obtain⟨y,m⟩:∃y:Int,y=#[b4]:=#[bu];rw[<-m]at H n;rw[<-m];show#[ed,uF (.int y p0)];refine#[bd,Td,Gj H n];clear n;subst m;show#[cT,((seqItemAt x k>>=λr=>aw (r.map (k,·)))>>=_)];refine#[bW,Tj z c #[cv]];rw[p];exact aA #[cg,aA O]
theorem TP{s y:ao}{n M Y:ai}{c0 a:#[eX]}{b0:cp}{L:#[bb]}{f0:Nat}{Q:#[aI,Unit]}(e:#[eR])(k:#[dU])(z:#[cl])(b:#[dm])(l:r0 (ak "__setitem__")=ab)(c:#[fz,f,Q0])(u:h.IsSliceOf s n M Y)(R:ou n c0)(B:ou M a)(S:ou Y ab)(m:#[bv,y,b0])(J:b0.cls=.type "list")(e0:b0.data=.seq L f0)(T:x≠y)(I:f.size+L.size<=aC)(O:Q () #[a7,h.update x (dQ λX=>X.extract 0 #[kz].1.toNat++L++X.extract #[nq] X.size),t]):#[d1,vh #[M,x] #[M,s] #[M,y]]:=by
 obtain⟨H,v,U,p⟩:=id u;have a0:#[kW,s,"slice"]:=⟨H,v,U⟩;unfold vh;refine cj (af (Ah e z b ?_));refine af (Ai e k z b l zx ?_);refine oL (a:="list") (b:="__setitem__") e z b (.inr (#[j])) #[ak] #[p] (RB _ _ _) zx.plain RE ?_;show#[ed,uF (.ref s)];refine af ?_;unfold uF;refine#[bF,jh,a0,slice_no_index];simp only[Option.isNone_none,if_true];refine aA ?_;show#[ed,jg (.ref s)];refine#[bd,oE,a0];rw[#[eW]];rw[SE];refine#[bW,dY v p (x:=Y) rfl (af (sh S ?_))];rw[#[bJ,show¬((rawPart ab==cF 0)=ae)from fG]];refine af (dY v p (x:=n) rfl (af (sh R ?_)));refine af (dY v p (x:=M) rfl (af (sh B #[cv])));have d0:Ra #[M,x] #[M,y]=ag:=by simp[Ra,T]
 simp only[d0,gc,if_false];unfold Builtin.List.listAllItems;refine#[bW,lk m ?_];rw[J,#[aM,if_pos]];unfold QZ;refine af (lj m e0 #[cv]);refine#[bW,lj z c #[cv]];refine#[cX,SJ c0 a ab f.size #[z]];have Z:(#[kz].2.2==1)=ae:=rfl;have G:Rb (f.size+L.size)=ag:=by exact decide_eq_false (bP.mpr I)
 simp only[Z,G,if_true,gc,if_false];refine af (m:=updateSeq x _) (Ad z c ?_ (aI (ip _ _) I) ?_);.exact af (vj (aA #[cg,aA O]))
 .have l:#[kz].1.toNat<=#[nq]:=Int.toNat_le_toNat (Int.le_max_left _ _);rw[Pn,Pn,Eb,Eb];generalize#[nq]=r at l⊢;omega
end
section
variable{B:Bs}{w:aD}{n m k G0 t0 d:Nat}{O:Gm}{d0 g0 s0:#[n]}{U x0:#[o]}{H b0 o0 w0 m0:#[l]}{J:aO}{S:#[t]}{a b c o:aT}{i0 y0 p:ba}{l:#[y]}{h0:#[al]}{I n0:#[ag]}
theorem OZ(h:#[el,aW v J,λo j=>#[el,aW f J,λi e=>∃x,o=.ref x/\#[el,#[b3,specialOf,x,ak "__getitem__"],λr Z=>r=aa (.builtin "list.__getitem__")/\#[dT,#[b3,zM,x,i],Z],e],j],s]):#[as,aW (.Subscript v f i0) J]:=by
 refine af (dq h (λo j C=>#[b9,dq C (λi e t=>#[a0,dR]) λ_ _ x=>x]) λ_ _ x=>x);obtain⟨x,rfl,U⟩:=t;refine af ?_;refine af (dq U (λr Z n=>?_) λ_ _ z=>z);obtain⟨rfl,H⟩:=n;have a:∀Y,ax _ A (operate Y _) (λr Z=>#[dT,sd v #[M,x] r>>=λ_=>aw r,_]) E _:=λY=>Tg (dq H (λr Z n=>af (Tb (aA n))) λ_ _ x=>x);refine aA (af ?_);unfold subscripted;split;.exact a _
 .simp_all
 .exact a _
theorem Ev.Tw{i j r:Nat}{c0:aT}(F0:#[bU])(F:s0 "__getitem__"=ab)(f:#[aF,#[cn]])(y:#[bx,c0,#[U,(i:Int)]])(P:#[av,o0,dG B k d I])(p0:I.length<=aC)(X:o0.length=r)(j0:o0++[hK B (I.drop i)]=m0):#[f4,.Slice (aa c0) ab ab p,.ob r,m0]:=λA J S s Q E G M q=>by
 subst X j0;refine OZ (#[e6,f,λu0 k0 h0 C e0=>qi (ec.some y A J h0 k0 _ E G C.rel λC0 d0 E0 a0 y0=>ec.none A J E0 d0 _ E G a0.rel λg v0 Y0 r0 U0=>?_)]);obtain⟨t0,rfl⟩:=y0;obtain⟨x0,rfl⟩:=U0;obtain⟨x,z,rfl⟩:=(e0.pre a0.pre).pre r0.pre;obtain⟨Y,Q0,L0,l,a1,X0,R,L⟩:=r0.rel.acc z P;obtain⟨l0,c1,N,J0,I0,G0,H0,A0,i1,m1,M0,g0,N0,T0,Z0⟩:=F0.ex;have S0:#[hC,Y0,o0,v0,Y0,v0,v0.heap.push #[aj,"slice",.fields,#[gq (aa (i:Int)|>.map λq=>(q,t0)),gq (ab.map λq=>(q,x0)),.none]]]:=aB.heap r0.rel (#[z]) #[e0];have b1:=#[aZ,S0.rel.gh,g0,T0];have d1:=#[dZ,N0.at',S0.rel.gh,Z0];have j1:=bN #[aj,"slice",.fields,#[gq (aa (i:Int)|>.map λq=>(q,t0)),gq (ab.map λq=>(q,x0)),.none]] l;obtain⟨m,O0,k1,e1,l1⟩:=v0;have h1:#[gY]:=X0.length;refine aA #[dy,x,kc hb b1 d1 j1 rfl qg.lookup ?_];rw[F];refine#[aG,TA b1 d1 j1 rfl F rfl (uM ..) (.int _ _) .none .none #[z] ?_ (by rw[h1];exact p0)];rw[slicePick_from'];have g1:#[s,Y.toList.drop,i]=#[s,I.drop,i]:=by simp_all
 refine#[a9,(((C.trans a0).trans r0).trans S0).trans (aB.push S0.rel rfl ⟨aV _,_,0,rfl,by omega⟩ #[aO] (#[eh]) λn R0 f1 T q0 w0 e=>?_),#[P,by rw[<-S0.rel.len];simp]];cases e;refine#[n3,(λo f0 e L=>by rw[#[aW]]at e;cases e;cases L),M.slt.tab];rw[#[aW]]at e;cases e;exact#[Q,_,rfl,((X0.mono λv c u=>u.keep λt o _ e _=>bN _ e:aM (hB B (m.push {cls:=.type _,data:=.fields #[gq (aa _|>.map λq=>(q,t0)),gq (ab.map _),.none]})) _ _).drop i).mono λv c u=>u.keep λt o _ e _=>bN _ e]
def Fj(B:Bs)(H:#[l])(j:Nat)(n0:#[ag]):Prop:=#[av,H,hK B n0]\/(n0=[]/\#[aR,H,j,[]])
theorem aG.pl(R:#[cx])(m:#[av,S,y])(f:Fj B H j n0):∃Y q,#[bv,y,⟨#[fW],ab,.seq Y q,#[]⟩]/\aM (hB B h) Y.toList n0:=by
 obtain f|⟨rfl,f⟩:=f;.obtain⟨o,N,_,Y,q,rfl,_⟩:=R.store j y _ m f;obtain⟨_,_,p⟩:=R.code j y _ m f;obtain⟨M,Q,F,d⟩:=p _ N;cases F;exact#[Q,q,N,d]
 .obtain⟨o,N,Y,q,rfl,z⟩:=R.store j y _ m f;refine#[Q,q,N,?_];generalize Y.toList=l at z;cases z;exact .nil
end
section
variable{B:Bs}{w:aD}{n m k G0 t0 d:Nat}{O:Gm}{d0 g0 s0:#[n]}{U x0:#[o]}{H b0 o0 w0 m0:#[l]}{J:aO}{S:#[t]}{a b c o:aT}{i0 y0 p:ba}{l:#[y]}{h0:#[al]}{I n0:#[ag]}
theorem aj.qj{c0:#[a2,aT]}(F:#[w])(a1:#[bU])(T:s0 "__setitem__"=ab)(u:#[aF,.ob y])(f:#[bx,o,#[cn]])(t:ec B w n O c0 U o0 w1 w0)(B1:w1=aa #[I,i]\/(w1=ab/\i=0))(f0:#[av,w0,dG B k d I])(v:Fj B w0 y n0)(F1:j≠y)(F0:O.fz<=j)(m:i<=I.length)(S0:I.length+n0.length<=aC)(Z:∀J,#[hu,.Subscript o (.Slice c0 ab ab p) L])(R0:w0.set j (dG B k d (I.take i++n0))=m0)(j0:#[hw]):#[eJ,[.Subscript o (.Slice c0 ab ab p) L]]:=by
 refine#[hK,λo N0 c=>#[eI,N0=U,c=w0.set j (dG B k d (I.take i++n0))],?_,λN0 c h=>#[Y],λo N0 c f h=>#[ac,h.1,f]];refine SO (#[e6,u,λu0 k0 O0 C v0=>f A J O0 k0 _ E G C.rel λC0 r0 Z0 q0 X0=>qi (t A J Z0 r0 _ E G q0.rel λg U0 h1 T0 f1=>ec.none A J h1 U0 _ E G T0.rel λR m1 t1 c1 u1=>?_)]) (Z J);obtain⟨t0,rfl⟩:=f1;obtain⟨x0,rfl⟩:=u1;obtain⟨x,z,rfl⟩:=(X0.pre T0.pre).pre c1.pre;obtain⟨e1,E1,rfl⟩:=((v0.pre q0.pre).pre T0.pre).pre c1.pre;obtain⟨l0,o1,N,J0,I0,G0,H0,A0,y1,H1,M0,y0,b1,d1,j1⟩:=a1.ex;have i1:#[hC,t1,w0,m1,t1,m1,m1.heap.push #[aj,"slice",.fields,#[gq (w1.map λq=>(q,t0)),gq (ab.map λq=>(q,x0)),.none]]]:=aB.heap c1.rel (by simp) #[e0];have P:=(((C.trans q0).trans T0).trans c1).trans i1;have n1:=#[aZ,i1.rel.gh,y0,d1];have q1:=#[dZ,b1.at',i1.rel.gh,j1];obtain⟨Y,Q0,L0,v1,l1,g1,r,a0⟩:=i1.rel.acc z f0;obtain⟨p0,M1,G1,C1⟩:=i1.rel.pl E1 v;have x1:#[gY]:=g1.length;have J1:p0.size=n0.length:=C1.length;have z1:x≠e1:=λe=>F1 (iy i1.rel.nodup z (e▸E1));obtain⟨E0,k1,I1,A1,L1⟩:=m1;refine aA ?_;refine TP (c0:=w1) n1 q1 v1 rfl T rfl (uM ..) (by cases w1;exact .none;exact .int _ _) .none .none G1 rfl rfl z1 #[Y] ?_;refine q .next _ _ _ _ t1 #[cc] (P.trans (aB.acc (t:=A1) F.slt i1.rel z f0 F0 v1 l1 r a0 ?_)) rfl
 have X:jL w1 ab ab Y.size=((i:Int),(Y.size:Int),1):=by
  rw[sliceBounds_plain];rcases B1 with rfl|⟨rfl,rfl⟩;.simp only[pV,uX];rw[kM (by rw[x1];exact m)]
  .rfl
 have e0:(max (jL w1 ab ab Y.size).1 (jL w1 ab ab Y.size).2.1).toNat=Y.size:=by rw[X];dsimp;omega
 have Y0:(jL w1 ab ab Y.size).1.toNat=i:=by rw[X];rfl
 rw[e0,Y0]
 have s1:((Y.extract 0 i)++p0++Y.extract Y.size).toList=Y.toList.take i++p0.toList:=by
  rw[yj,yj];have r1:(Y.extract 0 i).toList=Y.toList.take i:=by simp
  have p1:(Y.extract Y.size).toList=[]:=by simp
  rw[r1,p1,gy]
 rw[s1];exact(g1.take i).append C1
end
noncomputable def Hw:#[y]:=by run_tac av.de ["_Accumulator","pop_from"]
noncomputable def Ni:bt:=by run_tac av.df ["_Accumulator","pop_from"]
noncomputable def vB:#[y]:=by run_tac av.de ["_Accumulator","reset"]
noncomputable def xJ:bt:=by run_tac av.df ["_Accumulator","reset"]
section
variable{B:Bs}{w:aD}{d0 g0 s0:#[n]}{I n0:#[ag]}
structure mO(B:Bs)(f:ao)(j0:bt)(k:Nat)(r0:#[y])(v:#[L]):Prop where
 ex:∃f0 o,#[gq,f]/\#[dX]/\f0.scope=j0/\#[j9]/\f0.closure=[]/\f0.globals=el/\f0.builtins=cU/\(#[mt])/\∀(Z:#[L])(s:au),Z.length=k->#[c9]->rN s f0 #[ai,Z] ((j0.names.map (·.1)).zip (Z++v))
 out:#[aq,f]
theorem eB.CG{O:#[g]}{H m0:#[g]}(F:#[w])(u:mO B f j0 k r0 O)(c:∀S,#[a1,O,g])(J:iB j0 (k+g.length)=ae)(I:#[eu])(t:#[eV])(v:#[eU])(m:#[cu,H])(a:z.length=k)(p:cS [] (j0.names.map λ_=>ab) (z++g)=T)(x:U<=H.length)(M:H.length<=L)(h:#[nu,U]):eB B w (n+1) f z U H r m0:=λA S Z s R G d l e q=>by obtain⟨f0,o,N,a0,b,E,i,Q,j,y,C⟩:=u.ex;exact eB.run F u.out N a0 b E i Q j y (C _ s (e.length.trans a) d) J I t v m (by rw[aY,a]) p x M h G d l (e.append (c _)) q
theorem Mz:iV (hK B I):=λS o⟨_,Y,k,_,_⟩g a U=>#[iL,λp0 n _ X=>by grind]
theorem TK(F:#[w])(X:#[bU])(N:gx s0)(u:mO B 152 Ni 2 Hw [])(C i:Nat)(P:i<=I.length)(y:#[ey]):eB B w 3 152 [.ob 1,.int (i:Int)] 0 #[b0] (.ob 2) (bY B C (I.take i)++[hK B (I.drop i)]):=by refine eB.CG (L:=3) F u (λ_=>.nil) #[ak] rfl rfl rfl rfl rfl rfl #[aC] #[aS] ?_;refine#[k6,2,Ev.Tw X N.BE #[b8,0] #[b8,1] rfl (dD y) rfl rfl];refine aj.qj (y:=3) F X N.Dq #[m1] #[b8,0] (ec.some #[b8,1]) #[aU] rfl (.inr #[bV]) #[j] #[aC] P (by simpa using dD y) #[an] rfl ?_;refine aj.ret #[b8,2] ?_;rw[show I.take i++[]=I.take i from gy _];refine dd.of #[ap,2<3] #[aS] (λi e0 P e=>?_) rfl;match i,P,e with|0,_,e=>cases e;exact aV _|1,_,e=>cases e;exact#[ap,2<=3]|2,_,e=>cases e;exact aV _
end
section
variable{B:Bs}{w:aD}{d0 g0 s0:#[n]}{I n0:#[ag]}
theorem TN(F:#[w])(X:#[bU])(N:gx s0)(u:mO B 182 xJ 2 vB [])(C:Nat)(y:I.length+n0.length<=2^20):bH B w 3 182 [.ob 1,.ob 2] (bY B C I++[hK B n0]) .none (bY B 0 n0++[hK B n0]):=by refine(eB.CG F u (λ_=>.nil) #[ak] rfl rfl rfl rfl rfl rfl #[aC] #[aJ] ?_).DU rfl;refine aj.ite #[gN,#[b8,1],Ev.sE,St.ls.up] ?_;refine aj.nil ?_;refine aj.qj F X N.Dq #[b8,1] #[b8,0] ec.none (.inr #[bV]) rfl #[aU] #[j] #[aC] #[aC] (dD y) #[an] rfl ?_;refine aj.setAttr 0 X Ev.ny #[b8,0] rfl cA.acc rfl #[j] #[aC] #[aC] #[aC] #[aJ] trivial N.ta te (show 1+1<=aC by decide) #[an] rfl rfl ?_;refine aj.nil (dd.vK #[aG,#[dl,#[aC],ph,#[dl,#[ap,2<=3],vt,#[dl,#[aC],Mz,λi e0 h=>by simp at h]]]] (.inr #[bV]) trivial rfl)
theorem TO(F:#[w])(X:#[bU])(N:gx s0)(u:mO B 182 xJ 1 vB [.none])(C:Nat)(y:#[ey]):bH B w 3 182 [.ob 1] #[b0] .none (bY B 0 []):=by refine(eB.CG (L:=2) (g:=[.none]) F u (λ_=>.cons rfl .nil) #[ak] rfl rfl rfl rfl rfl rfl #[aC] #[aJ] ?_).DU rfl;refine aj.ite #[gN,#[b8,1],Ev.sE,St.ls.up] ?_;refine#[k6,1,#[m1]];refine aj.nil ?_;refine aj.qj (y:=2) F X N.Dq #[b8,1] #[b8,0] ec.none (.inr #[bV]) rfl (.inr #[bV]) #[j] #[aC] #[aC] (by simpa using dD y) #[an] rfl ?_;refine aj.setAttr 0 X Ev.ny #[b8,0] rfl cA.acc rfl #[j] #[aC] #[aC] #[aC] #[aJ] trivial N.ta te (show 1+1<=aC by decide) #[an] rfl rfl ?_;refine aj.nil ?_;refine#[du,.inr #[bV],trivial,bx rfl,λi e0 P e=>?_];match i,P,e with|0,_,e=>cases e;exact aV _|1,_,e=>cases e;exact aP 2
end
section
variable{w:aD}{A:aS}{E:#[C]}{h:bo}{g:#[da]}{d:hU}{t:Nat}{h0:gB}
variable{l0 q:aq}{C N x L0:ao}{J0:#[L]}{i:#[bA]}{P:#[L]}{j:Bool}{I0:#[eA]}{G0:#[a2,ao]}{H0 A0 t0 x0 M0:#[bT]}{F:String}{Y:#[bb]}{Q0:Nat}{r0 m:#[n]}
theorem vq{G:aq}{v:ai}{s:Bool}{Q:#[C]}(e:#[eR])(f:#[dU])(n:#[hP])(U:#[jf])(k:r0 G=ab)(l:#[fh,G])(a:#[bv,x,#[hL,.ref C,Q0]])(c:h.Ns L0 m)(p:m G=aa v)(M:rZ v=aw v)(O:Q v #[gk]):#[d1,mg #[M,x] G s]:=by
 unfold mg uZ;refine af (vk (cj (af (lk a (af (ji e f hb Cm ?_))))));rw[n];dsimp only;rw[#[bJ,by simp]];unfold zL Gk Ge Gd;refine af ?_;rw[if_pos (by rfl)];refine ji e f hb Cn ?_;rw[U];refine af (iM (cj ?_));rw[#[bJ,by rw[#[co,zQ (zE "list.__getattribute__")=ag],Ec];exact fG]];refine#[cX,zv.bind _];refine dq (oL (Q:=λr L=>r=v/\L=#[gk]) (E:=#[fP]) (a:="list") (b:="__getattribute__") e a rfl (.inr #[ak]) #[E] #[E] (RA _ _) zv.plain Su ?_) (λr L b=>?_) λ_ _ z=>z.elim;.unfold Builtin.«object.__getattribute__»;refine#[m0,G];dsimp only;refine#[db,af (lk a (af ?_))];unfold Ft;refine af (ji e f hb l ?_);rw[k];refine#[db,af (aA ?_)];dsimp only;unfold Rf Rc Rd;refine#[bW,af (gP a ?_)];dsimp only;unfold sb;refine#[bd,gP,a];dsimp only;unfold classData;refine#[bW,lh e ?_];refine aA ?_;rw[#[bJ,show¬((!ae)=ae)from fG]];refine aA ?_;show#[cT,nsGet L0 G];refine nq c ?_;rw[p];exact af (hY (aA (aA #[cV,rfl])))
 .obtain⟨rfl,rfl⟩:=b;show#[cT,rZ r];rw[M];exact aA O
end
section
variable{B:Bs}{w:aD}{n k d j:Nat}{O:Gm}{s0:#[n]}{U:#[o]}{H b0:#[l]}{o:aT}{y0:ba}{I:#[ag]}
theorem Ev.vq{G:aq}(X:#[bU])(g:#[b6,o,#[cn]])(f:#[av,b0,dG B k d I])(c:b0[d]?=aa (bS 0 j0))(q0:j≠d)(m:j0.lookup G=aa x)(c0:s0 G=ab)(l:#[fh,G])(L:#[ec])(e0:∀p0 r,sd o p0 r=aw ()):#[b6,#[c4,G,y0],x]:=λA J S s Q E a M q=>by rw[uT,L _];refine af (#[cs,g,s,a,M,λu0 k0 F C T=>?_]);obtain⟨g0,i0,rfl⟩:=T;obtain⟨Y,Q0,L0,t,P,_,_,_⟩:=C.rel.acc i0 f;obtain⟨m0,i,_,h,R,Z,d0,n0,o0,h0⟩:=C.rel.store d _ _ P c;obtain⟨v,p,f0,_⟩:=h0 _ x m;obtain⟨l0,a0,N,J0,I0,G0,H0,A0,t0,x0,M0,b,u,y,z⟩:=X.ex;refine#[gT];refine Mine.vq #[cW,C.rel.gh,b,y] #[gR,u.at',C.rel.gh,z] X.ly X.pd c0 l t ⟨_,_,_,i,Z,d0,λ_=>rfl⟩ p (wH f0) ?_;rw[e0];exact#[db,aA (q v _ _ (C.toks _) f0)]
end
def nZ(h:bo)(a:ao)(f:#[bb]):Prop:=∃o,#[cq]/\∃n,#[fz,f,n]
section
variable{w:aD}{A:aS}{E:#[C]}{s:au}
theorem YA(r:s.heap.IsListIter C l i)(y:nZ s.heap l f)(z:#[G,f,x])(H:∀c0,c0.IsListIter C l (i+1)->pZ C s.heap c0->Q (aa x) #[hJ]):#[gh,C]:=by obtain⟨o,g,X,c⟩:=id r;obtain⟨I,p,a,e⟩:=y;refine af (iM (mi r.typeIs sf (iN sf r.typeIs SA ?_ (Sw _))));show ax _ _ (rX _ 0>>=_) _ _ s;refine#[dI,g,c,.ref l];refine#[dI,g,c,.int i 0];refine#[bF,lj,p,e];simp[PC,z];refine af (wpAny_setField g c #[z] (aA #[dy,x,aA (H _ #[Q,uN _ g (Sb (Sa c _)),(Obj.cls_mapFields ..).trans X,by rw[Sa c];simp[cF]] (qa ..))]))
theorem Yz(M:#[g5])(r:s.heap.IsListIter C l i)(y:nZ s.heap l f)(z:f[i]?=ab)(H:∀c0,zA C s.heap c0->Q ab #[hJ]):#[gh,C]:=by obtain⟨o,g,X,c⟩:=id r;obtain⟨I,p,a,e⟩:=y;refine af (iM (mi r.typeIs sf (iN sf r.typeIs SA ?_ (Sw _))));show ax _ _ (rX (.ref C) 0>>=_) _ _ s;refine#[dI,g,c,.ref l];refine#[dI,g,c,.int i 0];refine#[bF,lj,p,e];simp[PC,z];refine af (hY (af (wpAny_setField g c #[z] ?_)));refine af ?_;refine#[m4];refine jO ?_ (by size_fits);refine#[a0,GF];rw[M];refine#[db,GQ ?_];refine af (ml #[P,#[aW]] zO (aA (H _ (((qa ..).extBut.push _).push _))))
end
theorem nZ.at(x:nZ h a f)(k:∀o,#[cq]->#[dz,a]):nZ c0 a f:=let⟨o,e,r⟩:=x;#[aY,k _ e,r]
theorem OW(M:#[g5])(I c:ao)(n:c≠I)(f:#[bI])(t:Nat->ao)(a:Nat->#[bI])(r:∀j,j<f.size->f[j]?=aa (.ref (t j)))(J:∀j,j<f.size->t j≠I):WalksU P0 w A I (I::c::(aR f.size).map t) [I] f.size (λj v=>v=a j) (λj h=>h.IsListIter I c j/\nZ h c f/\∀k,k<f.size->h.IsTuple (t k) (a k)) (λj T h=>(j<f.size/\T=t j)/\h.IsListIter I c (j+1)/\nZ h c f/\∀k,k<f.size->h.IsTuple (t k) (a k))where
 sub:=λb Z=>#[Y]
 frame:=λ_ _ _ st R=>⟨st.1.at λo e=>R I #[z] o e,st.2.1.at λo e=>R _ #[z] o e,λk x=>(st.2.2 k x).at λo e=>R _ (dO _ (dO _ (bK.mpr #[aA,k,eN.mpr x]))) o e⟩
 item:=λi s Q E P st H=>by refine YA st.1 st.2.1 (r i P) λc0 y g=>?_;have d:=λk x=>(st.2.2 k x).extBut g.extBut (J k x);exact H _ _ _ _ rfl (d i P) ⟨#[bE,P],y,st.2.1.at (λo e=>g.extBut _ o n e),d⟩ λb o Z e=>g.extBut b o (λh=>Z (by simp[h])) e
 go:=λ_ _ _ _ _ s Q _ l H=>wpAny_letOwnedTupleGo_listiter l.2.1 (H _ l.2 λ_ _ _ e=>e)
 apart:=λj T _ l C=>by grind
 done:=λs Q E st H=>Yz M st.1 st.2.1 #[z] λc0 m=>H _ _ λb o Z e=>m b o (λh=>Z (by simp[h])) e
 self:=λ_ _ _ _ st H=>GN st.1 H
theorem agc{c:#[aI,Nat]}(M:WalksS k w A I f m G n P c):WalksS k w A I f m G (n+1) (λj v=>match j with|0=>False|j+1=>P j v) (λj s=>match j with|0=>False|j+1=>c j s)where
 sub:=M.sub
 grefl:=M.grefl
 gtrans:=M.gtrans
 frame:=λi s c0 p0 st n0 R=>match i,st with|i+1,st=>M.frame i s _ _ st n0 R
 item:=λi s Q E a st H=>match i,st,H with|i+1,st,H=>M.item i s Q E (Nat.lt_of_succ_lt_succ a) st H
 done:=λs Q E st H=>M.done s Q E st H
 self:=λi s Q E st H=>match i,st with|i+1,st=>M.self i s Q E st H
theorem Ud(a b:ai):kU "sum" #[ai,[a,b]]:=#[p]
theorem CK(a:Int)(d:Nat->Int):∀n,kX (λj=>match j with|0=>a|j+1=>d j) (n+1)=a+kX d n|0=>by simp[kX]|n+1=>by rw[kX,CK a _ n];exact Int.add_assoc _ _ _
section
variable{w:aD}{A:aS}{E:#[C]}{s:au}
theorem UE{x:ai}{a:Int}{B:gn}{Q:#[C]}(h:ax #[aE] A.in1 (kY x) (λC k=>∃I m q G n P d f,C=.ref I/\WalksS P0 w A.in1 I m q G n P d/\d 0 k/\(∀b∈m,b<k.heap.objs.size)/\(∀i v,P i v->NumOf (f i) v)/\∀L r,Moved q G k L->Q (.int (a+kX f n) r) L) E s):#[as,#[jp,"sum",[x,.int a B]]]:=by
 refine call_function_tree aia aij ahr (Ud _ _) ?_;unfold uE.«sum»;simp only[cq,eI];rw[#[eW]];refine#[cX,#[co,agi "sum" ["start"] 0 #[ai,[.int a B]]=aw [aa (.int a B)]]];refine af (dq h (λC k t=>?_) λ_ _ e=>e);obtain⟨I,m,q,G,n,P,d,f,rfl,M,Z,T,g,H⟩:=t;dsimp only;have p:=agc M;have F:∀i v,(match i with|0=>False|j+1=>P j v)->NumOf ((λj=>match j with|0=>a|j+1=>f j) i) v:=λi v c=>match i,c with|j+1,c=>g j v c;have u:kX (λj=>match j with|0=>a|j+1=>f j) 1=a:=by rw[CK];simp[kX]
 have z:=CK a f n;have y:k.heap.objs.size∉m:=λl=>ft _ (T _ l);split;.refine af (hY (af (wpAny_mkInt (af (aA ?_)))));simp only[lM,rC];refine#[bW,#[ik,SN]];simp only[gc,if_false];refine aA (af #[ik,sub_int_bytes]);simp only[gc,if_false];refine aA (af #[ik,SM]);simp only[gc,if_false];refine aA (aA ?_);refine#[a0,jO];refine aA ⟨zR RL _,Sy p _ F k.heap.objs.size y n 1 _ k.toks 0 0 #[aU] #[f] #[f] (M.frame 0 k _ _ Z #[z] λb _ o e=>bN _ e) (by rw[u];exact#[aW]) λL r l=>?_⟩;rw[z];exact H L r (l.drop_new (by first|exact aP _|exact dP _|omega))
 .refine#[a0,aA];simp only[lM,rC];refine#[bW,#[ik,SN]];simp only[gc,if_false];refine aA (af #[ik,sub_int_bytes]);simp only[gc,if_false];refine aA (af #[ik,SM]);simp only[gc,if_false];refine aA (aA ?_);refine#[a0,jO];refine aA ⟨zR RL _,Sy p _ F k.heap.objs.size y n 1 _ B 0 2 (.inr rfl) #[f] #[f] (M.frame 0 k _ _ Z (by first|exact aP _|exact dP _|omega) λb _ o e=>bN _ e) (by rw[u];exact#[aW]) λL r l=>?_⟩;rw[z];exact H L r (l.drop_new (by first|exact aP _|exact dP _|omega))
end
section
variable{M:Model}{A:aS}{E:#[C]}{s:au}
theorem NH(z:x∈B.fl)(X:J.code=.ref x.c)(k:#[c9])(u:hA B)(H:∀C c0 p0,#[ef]->(#[iK])->GH B c0->#[kc,C]->#[aq,C]->#[bs,C,#[fa]]):#[eq,genexprCode J x.pos x.qual d]:=NG z X k u (λr Q q=>wpAny_newCodeX λC _ c0 p0 R O _ a _ h=>q _ _ _ R O a.lt.1 h) H
end
section
variable{w:aD}{A:aS}{E:#[C]}{h:bo}{g:#[da]}{d:hU}{t:Nat}{h0:gB}
variable{l0 q:aq}{C N x:ao}{J0:#[L]}{i:#[bA]}{P:#[L]}{j:Bool}{I0:#[eA]}{G0:#[a2,ao]}{H0 A0 t0 x0 M0:#[bT]}{F:String}{o:cp}{r0:#[n]}{f:#[bb]}{Q0:Nat}
theorem Ha{Q:#[C]}(a:#[eR])(b:#[dU])(z:#[cl])(X:#[dm])(l:r0 (ak "__iter__")=ab)(O:#[bs,h.objs.size,#[a7,#[lq],t]]):#[d1,#[cP,kY,x]]:=by
 have y:=Gw.lookup;refine af (kc hb a b z X y ?_);rw[l];refine af ?_;refine cj (af (af (kc hb a b z X y ?_)));rw[l];simp only[Gw.bind];refine af (wpAny_askSetting (wpAny_ite ?_));have r:∀{p:#[C]},p (.ref h.objs.size) #[a7,#[lq],t]->ax #[aE] A #[jp,"list.__iter__",[#[az]]] p E #[bw]:=λc=>by refine oL (a:="list") (b:="__iter__") a z X (.inr #[j]) #[ak] #[p] (args_list_iter _) Gw.plain entry_list_iter ?_;show#[cT,do ret (<-Gu "list_iterator" [#[az],cF 0])];exact af (jO (aA #[cg,c]))
 split;.refine#[db,#[cv]];refine af (r #[cv]);exact af (jh #[P,#[aW]] sf.lookup (aA O))
 .refine wpAny_tryCatch (af (aA (aA ?_)));refine af (r #[cv]);exact af (jh #[P,#[aW]] sf.lookup (aA O))
end
structure Pw(B:Bs)(d0 g0:#[n])(j0:bt)(b0:List fJ)(f0:gN):Prop where
 scope:f0.scope=j0
 AX:f0.closure=[]
 gl:#[hz]
 bl:#[hy]
 own:#[nC,x∈B.fl,#[gu,x.c],f0.qualname]
section
variable{B:Bs}{w:aD}{n k:Nat}{d0 g0 s0:#[n]}{f:ao}{j0:bt}{r0:#[y]}{z:#[B]}{H m0:#[l]}{b0:List fJ}
theorem fR.enter{T:#[jH]}(F:#[w])(p0:#[ii])(f1:iB j0 k=ae)(b1:#[eu])(Q0:#[eV])(T0:#[eU])(j:z.length=k)(h:∀(f0:gN)(A:aS)(S:#[t])(O:#[L])(L:ao)(s:au)(Q:#[aI,hW])(E:#[C]),#[bc]->#[c9]->#[hM]->#[a1,O,z]->Pw B d0 g0 j0 b0 f0->#[dO,L,(λx=>((j0.names.map (·.1)).zip O).reverse.lookup x)]->#[aK,L]->L∉S->(∀c1 g,Fx B (L::S) s g->GH B g.heap->cM B S m0 g.heap->T S g.heap (match c1 with|.ret v=>v|_=>.none)->Q c1 g)->#[as,gp r0 (cP f0 L f)]):fR B w (n+1) f z H T m0:=λA S O s R G n0 i0 h0 q=>by
 obtain⟨f0,o,N,a0,m,c0,s0,C0,I0,⟨c,O0,X,t,H0,E0,N0,U0,g1⟩,d1,Z0⟩:=p0.ex;have o0:O.length=k:=h0.length.trans j;have h1:=f1;simp only[iB,fF,decide_eq_true_eq,fe]at h1;obtain⟨⟨⟨X0,a1⟩,A0⟩,R0⟩:=h1;have k1:=#[aZ,n0,N,p0.out];have l:=#[aZ,n0,N0,E0];refine zI (o:=o) (fd:=f0) (body:=r0) (binds:=(j0.names.map (·.1)).zip O) #[h4] k1 a0 (F.nl n0) ⟨c,O0,X,t,H0,l,U0,g1⟩ c0 (.of_eq (Z0 O o0)) (λx d e=>?_) (λx d=>?_) (λq0 G0 w0=>?_) (by rw[m];exact Q0) (by rw[m];exact T0) (by rw[m];exact b1);.rw[m]at d;have:=R0 x d;rw[e]at this;cases this
 .rw[m];obtain⟨i,P⟩:=gK.mp d;obtain⟨M,Y⟩:=pL.mp P;rw[cg]at M;obtain⟨p,U,e1⟩:=dW.mp M;have t0:i<k:=by rw[<-o0];exact#[V,Y]
  have Y0:#[kh,p]:=bz (i:=i) (by rw[eD t0];exact U);have M0:=a1 _ Y0;simp only[beq_iff_eq]at M0;obtain⟨l0,F0⟩:=p;cases M0;rw[<-e1];exact mv X0 U
 have k0:#[R,q0.objs.size]:=by obtain⟨o,_,_,e,_⟩:=G0;exact eh (bk e)
 have t0:#[kJ]:=λa I=>by
  obtain⟨i,P⟩:=gK.mp I;have r:i<H.length:=by rw[<-i0.len];exact#[V,P]
  obtain⟨⟨o,e,_⟩,_⟩:=i0.store i a _ P (bD r);exact bk e
 have i1:=n0.grow k0 w0;have j1:cM B S H q0:=⟨i0.len,i0.nodup,i0.high,λi a e0 I Z=>by obtain⟨⟨o,M,Y⟩,v0⟩:=i0.store i a e0 I Z;exact⟨#[aY,w0 _ _ M,Y],v0.keep (λx0 u0=>by rw[w0 _ _ M]at u0;cases u0;exact M) λb x0 u0 _ _=>w0 _ _ u0⟩⟩;refine h f0 _ S O s.heap.objs.size _ _ _ ⟨G.handled,by have:=G.depth;show#[i0];omega,by have:=G.units;show A.units+3+8*n+8<_;omega⟩ i1 j1 h0 ⟨m,s0,C0,I0,d1⟩ G0 n0.1 (λJ=>#[ac,t0 _ J,ft _]) λc1 g y0 S0 L0 u=>?_;refine q _ g ?_ S0 L0 u;have J0:Fx B S s #[cQ,q0,s.toks+((j0.names.map (·.1)).zip O).length]:=Fx.fY k0 #[dN,w0];refine J0.trans y0 λy C=>?_;rcases bg.mp C with rfl|C;.exact .inr (aP _)
 .exact .inl C
end
section
variable{w:aD}{A:aS}{E:#[C]}{s:au}{J:aO}{d0 g0 m:#[n]}
theorem IX(R:#[e2,J.scope.kind])(h:J.kindOf l0=aa .local)(o:(l0=="__debug__")=ag)(c:#[g6,J.kindOf,"len"])(U:#[dO,J.globals,d0])(Z:#[dO,J.builtins,g0])(a:#[mY])(Y:#[dO,J.locals,m])(z:m l0=aa (.str x d))(y:x.length<=aC)(q:∀t p0,Q (.int x.length t) #[fv]):#[as,aW #[bR,#[aL,"len",F0],[.Name l0 E0],N0] J]:=by
 refine ir (hy (uR R c (zo U a.1 Z a.2 ?_)) #[ak]);rw[dt _ _ rfl];refine kQ (fZ _ _) (eR ?_);refine iJ (hy (iu R h Y z (lW ?_)) o);have I:aC<2^63:=by decide
 refine Sd #[f] (q _ _)
theorem Vz(R:#[e2,J.scope.kind])(N:J.kindOf (ak "fws")=aa .local)(a0:J.kindOf (ak "part")=aa .local)(g:#[g6,J.kindOf,"len"])(U:#[dO,J.globals,d0])(Z:#[dO,J.builtins,g0])(c:#[mY])(Y:#[dO,J.locals,m])(z:m (ak "fws")=aa (.str x f))(b:m (ak "part")=aa (.str y G))(a:x.length<=aC)(H:y.length<=aC):#[el,aW (.BinOp #[bR,#[aL,"len",F0],[.Name (ak "fws") E0],N0] .Add #[bR,#[aL,"len",M],[.Name (ak "part") S0],T] T0) J,λv L=>(∃t,v=.int (x.length+y.length) t)/\Keeps s L,s]:=by refine wpAny_BinOp (IX R N #[ak] g U Z c Y z a λt p0=>?_);refine IX R a0 #[p] g U Z c Y b H λd h=>(wpAny_add_int ⟨#[bu],_,_,rfl,λ_ _ e=>e⟩)
end
noncomputable def Hu:#[y]:=by run_tac av.de ["_Accumulator","__len__"]
noncomputable def Nh:bt:=by run_tac av.df ["_Accumulator","__len__"]
def qZ(c P:ao):fJ:=⟨c,P,⟨101,19,101,63⟩,ak "<genexpr>",ak "_Accumulator.__len__.<locals>.<genexpr>"⟩
def bQ(I:#[ag]):Nat:=(I.map λc=>c.1.length+c.2.length).sum
def wY(I:#[ag])(i:Nat):Int:=#[I,(I[i]?.getD ([],[])).1.length]+#[I,(I[i]?.getD ([],[])).2.length]
theorem MF(I:#[g]):∀k,k<=I.length->kX (wY I) k=bQ (I.take k)|0,_=>rfl|k+1,h=>by rw[kX,MF _ k #[f],yR,bQ,bQ,hr];unfold wY;rw[#[D,bD]];simp
theorem OM{Y:#[bI]}(v:aM (hB B h) Y.toList I):∃f:Nat->ao×(aq×gn)×(aq×gn),∀j,(j<Y.size->Y[j]?=aa (.ref (f j).1)/\#[aK,(f j).1]/\h.IsTuple (f j).1 #[jy,f,f,f,f])/\#[fM,(f j).2.1.1,(I[j]?.getD ([],[])).1]/\(f j).2.2.1.cps.toList=(I[j]?.getD ([],[])).2:=by
 refine Classical.axiomOfChoice (r:=λj(z:ao×(aq×gn)×(aq×gn))=>(j<Y.size->Y[j]?=aa (.ref _)/\#[aK,z.1]/\h.IsTuple _ #[.str z.2.1.1 z.2.1.2,.str z.2.2.1 z.2.2.2])/\#[fM,z.2.1.1,(I[j]?.getD _).1]/\z.2.2.1.cps.toList=(I[j]?.getD _).2) λj=>?_;by_cases e:j<Y.size
 .have X:j<I.length:=by rw[<-v.length];exact e
  obtain⟨u,g,t,rfl,n0,p0,n,F,d⟩:=v.get (bD _);have E:∃a k b i,p0=#[.str a k,.str b i]/\a.cps.toList=I[j].1/\b.cps.toList=I[j].2:=by obtain⟨l⟩:=p0;cases d with|cons N a0=>cases a0 with|cons a0 T=>cases T;obtain⟨a,k,rfl,c⟩:=N;obtain⟨b,i,rfl,Z⟩:=a0;exact⟨a,_,b,_,rfl,c,Z⟩
  obtain⟨a,k,b,i,rfl,c,Z⟩:=E;rw[bD X];exact⟨⟨t,(a,k),(b,i)⟩,λ_=>⟨by rw[<-ke];exact g,n0.1,#[dY,F,n]⟩,c,Z⟩
 .rw[(rD (by rw[<-v.length,gI];omega))];exact⟨⟨0,(#[dw],0),(#[dw],0)⟩,λh=>absurd h e,rfl,rfl⟩
section
variable{B:Bs}{w:aD}{d0 g0 s0:#[n]}{I:#[ag]}
theorem cM.KD{H:#[g]}(s:hA B)(R:cM B S H h)(k:#[e1,#[aq,b],#[de]]):cM B S H c0:=by refine#[m7,?_];obtain⟨⟨o,F,d⟩,t⟩:=#[gl];have y:=k a o (λn0=>#[bC,s.tab a n0,R.high a (bz I)]) F;exact⟨#[aY,y,d],t.keep (λA G=>#[Y]) λb A G _ Z=>k b _ Z G⟩
theorem xq(n:Nat):passing (λ_=>ae) n 0=aR n:=by unfold passing;simp
theorem vs(F:#[w])(Y0:#[bU])(N:gx s0){c P:ao}(N0:bb B 167 Nh 1 Hu [qZ c P])(J1:d0 (ak "sum")=ab/\g0 (ak "sum")=aa (.builtin "sum"))(F0:#[mY])(C:Nat)(r:#[gH]):fR B w 2 167 [.ob 1] #[b0] (λS _ u=>VR S u #[be,C+bQ I]) #[b0]:=by refine fR.enter F N0 #[E] rfl rfl rfl rfl λf0 A S U L s Q E G C0 y0 w0 X d1 i2 p2 q=>?_;cases w0 with
|cons l a0=>
 cases a0;obtain⟨x,f,rfl⟩:=l;obtain⟨Y,Q0,L0,p,m1,i1,R,c0⟩:=y0.acc f rfl;obtain⟨⟨Z1,E0,_,q0,r1,l1,C1,a2,b2,N1⟩,_⟩:=y0.store 0 L0 _ m1 rfl;obtain⟨i0,g3,I1,_⟩:=N1 (ak "_initial_size") #[be,C] rfl;obtain⟨d2,rfl⟩:=I1;obtain⟨l0,s1,M1,J0,I0,G0,H0,A0,t0,x0,M0,o0,Z0,g1,k1⟩:=Y0.ex;obtain⟨p1,c2⟩:=OM i1;have h2:#[gY]:=by rw[<-gI];exact i1.length
 have A1:#[e2,#[hI].scope.kind]:=by show f0.scope.kind=_;rw[X.scope];rfl
 have H1:#[kx,#[hI].kindOf]:=by show#[kF];rw[X.scope];decide+kernel
 have U1:#[g6,#[hI].kindOf,"sum"]:=by show#[kF];rw[X.scope];decide+kernel
 have N2:∀{h:bo},GH B h->h.Ns #[hI].globals d0:=λg=>by show rO _ f0.globals d0;rw[X.gl];exact F.gs g
 have e3:∀{h:bo},GH B h->h.Ns #[hI].builtins g0:=λg=>by show rO _ f0.builtins g0;rw[X.bl];exact F.bs g
 obtain⟨j1,G1,Q2⟩:=X.own _ (EM _);obtain⟨h,g,d,t,h0⟩:=s;refine mj (zY (ir (hy (uR A1 U1 (zo (N2 C0) J1.1 (e3 C0) J1.2 ?_)) #[E])));rw[dt _ _ rfl];refine kQ (fZ _ _) (eR ?_);refine iJ ?_;refine SR G.handled rfl (cl:=[]) (by rfl) #[E] #[E] #[E] #[E] #[E] rfl #[h4] ?_ #[an];refine hy (iu A1 H1 d1 rfl ?_) #[E];have q1:=#[aZ,C0,o0,g1];have v1:h.Ns M1 s0:=#[dZ,Z0.at',C0,k1];refine Ha q1 v1 p rfl N.iter ?_;have w2:#[oe,#[lW,h.push,#[az]]]:=λb e0 e=>bN _ e;have v2:=C0.grow (c0:=#[lq]) (by rw[da];exact dP _) w2;refine#[a3,F.nl v2];have j2:#[hI].qual++"<genexpr>"=(qZ c P).qual:=Q2;rw[j2];refine NH (x:=qZ c P) j1 G1 v2 F.slt λb1 a0 t2 x1 x2 u1 l2 g2=>?_;obtain⟨v0,h3,e1,n1,f2,u2,E2,F2,G2⟩:=F.bm;refine GA (N2 u1) e1 n1 #[cW,u1,u2,f2] E2 F2 G2 ?_;have a1:∀b,b<h.objs.size->b≠h.objs.size:=λb Z=>cB Z;have L1:#[it]:=#[od];have O1:#[aK,h.objs.size]:=C0.1;have U2:#[aK,x]:=y0.high x (bz f);have J2:∀j,j<Y.size->(p1 j).1<h.objs.size:=λj k0=>let⟨_,e,_⟩:=((c2 j).1 k0).2.2;bk e;have s2:#[fG,#[aK,b],#[de],a0.get?]:=λb o Z e=>x2 b o (w2 b o e) (L1 b Z);have k2:h.objs.size<a0.objs.size:=by have:=x1;rw[da]at this;exact this
 have I2:a0.get? h.objs.size=aa #[m5]:=x2 _ _ #[gi] (L1 _ O1);refine⟨h.objs.size,h.objs.size::x::(aR Y.size).map (λj=>(p1 j).1),[h.objs.size],Y.size,(λj v=>v=#[jy,p1,p1,p1,p1]),_,_,(λ_=>ae),(λi y=>∃t,y=.int (wY I i) t),rfl,(λB1 O0=>OW O0 h.objs.size x (a1 _ (bk p)) Y (λj=>(p1 j).1) (λj=>#[jy,p1,p1,p1,p1]) (λj k0=>((c2 j).1 k0).1) (λj k0=>a1 _ (J2 j k0))),(λi Q1 e=>#[aw,_,e]),?_,?_,F.nl u1,?_,?_,?_⟩;.refine⟨#[cV,I2],#[Q,s2 _ _ U2 p,_,rfl],λk R=>?_⟩;obtain⟨_,X0,B2⟩:=(c2 k).1 R;exact B2.at λo e=>s2 _ _ X0 e
 .intro b Z;rcases bg.mp Z with rfl|Z;.exact k2
  .rcases bg.mp Z with rfl|Z;.exact jD (bk p) k2
   .obtain⟨j,k0,rfl⟩:=bK.mp Z;exact jD (J2 j (eN.mp k0)) k2
 .intro O;have:iq=h.objs.size:=aZ.mp O;obtain⟨o1,P2,_⟩:=F.nolimit;exact#[bC,P2.lt,this▸O1]
 .intro Z2 O2;have Y1:∀(m0:au),(∀b∈aR a0.objs.size,b∉[h.objs.size]->∀o,Z2.get? b=aa o->m0.heap.get? b=aa o)->m0.heap.Ns el d0/\m0.heap.Ns cU g0:=λm0 X1=>⟨#[k7,F.gs,u1,X1,λO=>#[bC,F.g.lt,(aZ.mp O)▸O1],O2],#[k7,F.bs,u1,X1,λO=>#[bC,F.b.lt,(aZ.mp O)▸O1],O2]⟩;refine⟨λB1 e2 i H r0 m0 T _ _ _ _ _ _ _ _=>?_,λB1 e2 i H r0 m0 T _ _ _ h1 _ b0 q2 r2 X1=>?_⟩;.rw[rC];exact aA ⟨rfl,m0.heap,m0.toks,rfl,λ_ _ e=>e⟩
  .have R1:#[H,r0]=#[.str (p1 i).2.1.1 (p1 i).2.1.2,.str (p1 i).2.2.1 (p1 i).2.2.2]:=h1;injection R1 with R1;injection R1 with n R1;injection R1 with Z _;subst n Z;obtain⟨Y2,F1⟩:=Y1 m0 X1;have u0:#[hU,(p1 i).2.1.1,#[kT]]:=St.pz (c2 i).2.1;have R0:#[hU,(p1 i).2.2.1,#[kS]]:=St.pz (c2 i).2.2;have L2:#[fp,#[kT]]/\#[fp,#[kS]]:=by cases X2:I[i]? with|none=>exact⟨aV _,aV _⟩|some A2=>exact r A2 (bz X2)
   refine dq (Vz (d0:=d0) (g0:=g0) rfl #[ih,"fws","len",.local] #[ih,"part","len",.local] #[ih,"len","len",.globalImplicit] ?_ F1 F0 b0 q2 r2 (by rw[u0];exact dD L2.1) (by rw[R0];exact dD L2.2)) (λv m J=>?_) λ_ _ z=>z;.show rO _ f0.globals d0;rw[X.gl];exact Y2
   .obtain⟨⟨j0,e⟩,T0⟩:=J;exact⟨⟨j0,by rw[e,u0,R0];rfl⟩,T0⟩
 .intro a S0 p0 f1 M2 n o2 y2 M z1;have z2:#[fG,#[aq,b],#[de],S0.get?]:=λb o Z e=>y2 b o (x2 b o (w2 b o e) Z);have H2:GH B S0:=u1.grow (by rw[o2];exact eO (eh n)) y2;have a3:=#[aZ,H2,o0,g1];have c3:S0.Ns M1 s0:=#[dZ,Z0.at',H2,k1];have b3:S0.Ns L _:=d1.at' λo e=>z2 _ o (L1 _ i2) e;have f3:#[aK,L0]:=y0.high L0 (bz m1);refine iJ ?_;rw[uT];refine af (m:=aW #[aL,"self",_] #[hI]) (hy (iu A1 H1 b3 rfl ?_) #[E]);refine#[gT];refine Mine.vq a3 c3 Y0.ly Y0.pd N.ta te (z2 _ _ (L1 _ U2) p) (m:=λy=>vf q0 y) ⟨Z1,q0,r1,z2 _ _ (L1 _ f3) E0,l1,C1,λ_=>rfl⟩ g3 rfl ?_;refine af (cQ (a:=()) rfl #[cv]);refine lW ?_;have C2:=uS (uS (uS M));have d3:=C2.frame 0 _ S0 (p0+1) z1 (dP _) λb _ o e=>e;refine fb (UE ?_);refine C2.self 0 _ _ _ d3 ⟨a,_,_,_,_,_,_,wY I,rfl,C2,d3,?_,?_,λm c1 O R2=>?_⟩
  .intro b Z;show b<S0.objs.size;rw[o2];rcases bg.mp Z with rfl|Z;.exact hR _
   .rcases bg.mp Z with rfl|Z;.exact kL n
    .exact kL (jD (eN.mp Z) n)
  .rintro i v⟨H0,n2,j0,rfl⟩;rw[xq]at n2;have:H0=i:=by obtain⟨l,a0⟩:=bw.mp n2;rw[yH]at a0;exact a0.symm
   subst this;exact .inl #[bE,j0]
  .have T2:#[fG,#[aq,b],#[de],m.heap.get?]:=λb o Z e=>O.heap b o (λw1=>by
    have U0:=bk e;rcases bg.mp w1 with rfl|w1;.exact#[ac,U0,bP.mpr (eh k2)]
    .rw[aZ.mp w1]at U0;exact ft _ U0) (z2 b o Z e)
   have t1:GH B m.heap:=u1.one F.slt O1 (bu.no I2 (λm2 P1 c1 E1=>by cases E1;exact#[fL]) λ_ _ E1=>by cases E1) (aI (by rw[o2];exact eO (eh n)) R2) λb o Z e=>O.heap b o (λw1=>by
    rcases bg.mp w1 with rfl|w1;.exact absurd (bk e) (ft _)
    .exact Z (aZ.mp w1)) (y2 b o e)
   refine q _ m ⟨O.os,O.drawn,⟨?_,λh=>QQ (h.push M2) O.gens⟩,?_,λb o e _ Z=>T2 b o Z e⟩ t1 (y0.KD F.slt T2) #[a3,c1]
   .intro i y e;have U0:i<g.size:=(rr.mp e).1;have y1:#[G,(g.push f1),y]:=by rw[Pl,if_neg (cB U0)];exact e
    rcases O.gens with T1|⟨⟨_,T1⟩,_⟩;.rw[T1];exact y1
    .rw[T1 i (cB U0)];exact y1
   .exact aI (eh (jD k2 n)) (aI (by rw[o2];exact dP _) R2)
   .show Ga _ c1=_;rw[xq,gz,h2,MF _ _ #[aJ],hs,Int.natCast_add]
end
theorem Wz(x y:aq):(x++#[dw]++y).cps.toList=x.cps.toList++y.cps.toList:=by show(x.cps++#[]++y.cps).toList=_;simp
section
variable{w:aD}{A:aS}{E:#[C]}{s:au}{J:aO}{d0 g0 m:#[n]}
theorem VA(R:#[e2,J.scope.kind])(N:J.kindOf (ak "fws")=aa .local)(a0:J.kindOf (ak "part")=aa .local)(l:#[g6,J.kindOf,"EMPTYSTRING"])(U:#[dO,J.globals,d0])(O:d0 (ak "EMPTYSTRING")=aa (.str g p))(j:g.cps.toList=[])(Y:#[dO,J.locals,m])(c:m (ak "fws")=aa (.str x i))(f:m (ak "part")=aa (.str y G))(d:x.length<=2^20)(H:y.length<=2^20)(P:(E0.endLine==M.line)=ae):#[el,aW #[bR,#[dL,#[aL,"EMPTYSTRING",F0],"join",E0],[.Tuple [.Name (ak "fws") S0,.Name (ak "part") T] H0 N0],M] J,λv L=>(∃z t,v=.str z t/\z.cps.toList=x.cps.toList++y.cps.toList)/\Keeps s L,s]:=by have q:g=#[dw]:=lx j;subst q;refine qh rfl (sS rfl (show 1<30 by decide)) P (dt M J rfl) ?_;refine hy (uR R l (Fy U O ?_)) #[ak];refine⟨"str","str.join",lY,zy,FN,jf _ _ _,(λa h=>by cases h),?_⟩;refine kQ (fZ J _) (eR ?_);refine iJ (zZ ?_);refine iJ (hy (iu R N Y c ?_) #[p]);refine iJ (hy (iu R a0 Y f ?_) #[p]);refine lW ⟨(show 2<=aC by decide),lW ?_⟩;refine join_tuple #[dY,#[aW],_] (.cons _ _ (.cons _ _ .nil)) (by simp;have:#[a5,(#[dw]:aq),0]:=rfl;omega) λr k=>?_;refine⟨#[Q,_,rfl,Wz x y],_,k,rfl,#[e0]⟩
end
noncomputable def Hr:#[y]:=by run_tac av.de ["_Accumulator","__str__"]
noncomputable def Nd:bt:=by run_tac av.df ["_Accumulator","__str__"]
def qX(c P:ao):fJ:=⟨c,P,⟨104,32,104,85⟩,ak "<genexpr>",ak "_Accumulator.__str__.<locals>.<genexpr>"⟩
def bC(I:#[ag]):Tx:=(I.map λc=>c.1++c.2).flatten
def strVal(I:#[ag])(i:Nat):Tx:=(I[i]?.getD ([],[])).1++(I[i]?.getD ([],[])).2
theorem aek{P:Nat->ai->Prop}(a:∀i v,P i v->∃z t,v=.str z t/\z.cps.toList=strVal I i)(h:ItemsOf P (zV l).toArray I.length):l.map (·.1)=(I.map λc=>c.1++c.2).map cI:=by
 obtain⟨N,a0⟩:=h;have y:=by simpa[zV]using N
 apply List.ext_getElem (by simp[y]);intro j U q;have f:=by simpa using U
 have X:=y▸f;obtain⟨z,t,F,d⟩:=a j _ (a0 j (.str l[j].1 l[j].2) (by simp[zV,f]));cases F;simp only[List.getElem_map];have:strVal I j=I[j].1++I[j].2:=by unfold strVal;rw[bD _];rfl
 rw[<-this,<-d];exact lx rfl
section
variable{B:Bs}{w:aD}{d0 g0 s0:#[n]}{I:#[ag]}
theorem sq(F:#[w])(a1:#[bU])(N:gx s0){c P:ao}(S0:bb B 174 Nd 1 Hr [qX c P]){w1:aq}{b3:gn}(z2:d0 (ak "EMPTYSTRING")=aa (.str w1 b3))(G2:w1.cps.toList=[])(C:Nat)(J:#[gH])(q3:#[ey])(H2:#[kq]):fR B w 2 174 [.ob 1] #[b0] (λS _ u=>VR S u #[c0,bC,I]) #[b0]:=by refine fR.enter F S0 #[E] rfl rfl rfl rfl λf0 A S b0 L s Q E G N0 F0 E0 c0 f1 l2 s2 q=>?_;cases E0 with
|cons m a0=>
 cases a0;obtain⟨x,f,rfl⟩:=m;obtain⟨Y,Q0,L0,r,p1,k1,R,m0⟩:=F0.acc f rfl;obtain⟨⟨c2,O0,_,C0,u1,o1,H1,d2,e2,Q1⟩,_⟩:=F0.store 0 L0 _ p1 rfl;obtain⟨i0,p3,N1,_⟩:=Q1 (ak "_initial_size") #[be,C] rfl;obtain⟨g2,rfl⟩:=N1;obtain⟨l0,v1,P1,J0,I0,G0,H0,A0,t0,x0,M0,y0,b1,i1,m1⟩:=a1.ex;obtain⟨s1,f2⟩:=OM k1;have k2:#[gY]:=by rw[<-gI];exact k1.length
 have F1:#[e2,#[jb].scope.kind]:=by show f0.scope.kind=_;rw[c0.scope];rfl
 have M1:#[kx,#[jb].kindOf]:=by show#[kF];rw[c0.scope];decide+kernel
 have Z1:#[g6,#[jb].kindOf,"EMPTYSTRING"]:=by show#[kF];rw[c0.scope];decide+kernel
 have U2:∀{h:bo},GH B h->h.Ns #[jb].globals d0:=λg=>by show rO _ f0.globals d0;rw[c0.gl];exact F.gs g
 have n3:∀{h:bo},GH B h->h.Ns #[jb].builtins g0:=λg=>by show rO _ f0.builtins g0;rw[c0.bl];exact F.bs g
 obtain⟨l1,L1,Z2⟩:=c0.own _ (EM _);obtain⟨h,g,d,t,h0⟩:=s;have e3:w1=#[dw]:=lx G2;subst e3;refine mj (zY (qh rfl (sS rfl (show 1<30 by decide)) #[j] (dt _ _ rfl) ?_));refine hy (uR F1 Z1 (Fy (U2 N0) z2 ?_)) #[E];refine⟨"str","str.join",lY,zy,FN,jf _ _ _,(λa h=>by cases h),?_⟩;refine kQ (fZ _ _) (eR ?_);refine iJ ?_;refine SR G.handled rfl (cl:=[]) (by rfl) #[E] #[E] #[E] #[E] #[E] rfl #[h4] ?_ #[an];refine hy (iu F1 M1 f1 rfl ?_) #[E];have t1:=#[aZ,N0,y0,i1];have z1:h.Ns P1 s0:=#[dZ,b1.at',N0,m1];refine Ha t1 z1 r rfl N.iter ?_;have A2:#[oe,#[lW,h.push,#[az]]]:=λb e0 e=>bN _ e;have y2:=N0.grow (c0:=#[lq]) (by rw[da];exact dP _) A2;refine#[a3,F.nl y2];have m2:#[jb].qual++"<genexpr>"=(qX c P).qual:=Z2;rw[m2];refine NH (x:=qX c P) l1 L1 y2 F.slt λd1 a0 w2 B1 B2 y1 o2 j2=>?_;obtain⟨v0,r3,g1,q1,i2,x2,L2,M2,N2⟩:=F.bm;refine GA (U2 y1) g1 q1 #[cW,y1,x2,i2] L2 M2 N2 ?_;have c1:∀b,b<h.objs.size->b≠h.objs.size:=λb Z=>cB Z;have O1:#[it]:=#[od];have R1:#[aK,h.objs.size]:=N0.1;have d3:#[aK,x]:=F0.high x (bz f);have Q2:∀j,j<Y.size->(s1 j).1<h.objs.size:=λj q0=>let⟨_,e,_⟩:=((f2 j).1 q0).2.2;bk e;have v2:#[fG,#[aK,b],#[de],a0.get?]:=λb o Z e=>B2 b o (A2 b o e) (O1 b Z);have n2:h.objs.size<a0.objs.size:=by have:=B1;rw[da]at this;exact this
 have P2:a0.get? h.objs.size=aa #[m5]:=B2 _ _ #[gi] (O1 _ R1);refine⟨h.objs.size,h.objs.size::x::(aR Y.size).map (λj=>(s1 j).1),[h.objs.size],Y.size,(λj v=>v=#[jy,s1,s1,s1,s1]),_,_,(λ_=>ae),(λi y=>∃z t,y=.str z t/\z.cps.toList=strVal I i),rfl,(λG1 T0=>OW T0 h.objs.size x (c1 _ (bk r)) Y (λj=>(s1 j).1) (λj=>#[jy,s1,s1,s1,s1]) (λj q0=>((f2 j).1 q0).1) (λj q0=>c1 _ (Q2 j q0))),(λi U1 e=>#[aw,_,e]),?_,?_,F.nl y1,?_,?_,?_⟩;.refine⟨#[cV,P2],#[Q,v2 _ _ d3 r,_,rfl],λk R=>?_⟩;obtain⟨_,Z0,I2⟩:=(f2 k).1 R;exact I2.at λo e=>v2 _ _ Z0 e
 .intro b Z;rcases bg.mp Z with rfl|Z;.exact n2
  .rcases bg.mp Z with rfl|Z;.exact jD (bk r) n2
   .obtain⟨j,q0,rfl⟩:=bK.mp Z;exact jD (Q2 j (eN.mp q0)) n2
 .intro U;have:iq=h.objs.size:=aZ.mp U;obtain⟨r1,Y2,_⟩:=F.nolimit;exact#[bC,Y2.lt,this▸R1]
 .intro i3 X2;have b2:∀(w0:au),(∀b∈aR a0.objs.size,b∉[h.objs.size]->∀o,i3.get? b=aa o->w0.heap.get? b=aa o)->w0.heap.Ns el d0/\w0.heap.Ns cU g0:=λw0 a2=>⟨#[k7,F.gs,y1,a2,λU=>#[bC,F.g.lt,(aZ.mp U)▸R1],X2],#[k7,F.bs,y1,a2,λU=>#[bC,F.b.lt,(aZ.mp U)▸R1],X2]⟩;refine⟨λG1 h2 i H r0 w0 T _ _ _ _ _ _ _ _=>?_,λG1 h2 i H r0 w0 T _ _ _ j1 _ k0 t2 u2 a2=>?_⟩;.rw[rC];exact aA ⟨rfl,w0.heap,w0.toks,rfl,λ_ _ e=>e⟩
  .have X1:#[H,r0]=#[.str (s1 i).2.1.1 (s1 i).2.1.2,.str (s1 i).2.2.1 (s1 i).2.2.2]:=j1;injection X1 with X1;injection X1 with p X1;injection X1 with Z _;subst p Z;obtain⟨h3,J1⟩:=b2 w0 a2;have u0:#[hU,(s1 i).2.1.1,#[kT]]:=St.pz (f2 i).2.1;have R0:#[hU,(s1 i).2.2.1,#[kS]]:=St.pz (f2 i).2.2;have R2:#[fp,#[kT]]/\#[fp,#[kS]]:=by cases g3:I[i]? with|none=>exact⟨aV _,aV _⟩|some F2=>exact J F2 (bz g3)
   refine dq (VA (d0:=d0) rfl #[ih,"fws","EMPTYSTRING",.local] #[ih,"part","EMPTYSTRING",.local] #[ih,"EMPTYSTRING","EMPTYSTRING",.globalImplicit] ?_ z2 rfl k0 t2 u2 (by rw[u0];exact R2.1) (by rw[R0];exact R2.2) #[j]) (λv n O=>?_) λ_ _ z=>z;.show rO _ f0.globals d0;rw[c0.gl];exact h3
   .obtain⟨⟨z,j0,e,f3⟩,X0⟩:=O;exact⟨⟨z,j0,e,by rw[f3,(f2 i).2.1,(f2 i).2.2];rfl⟩,X0⟩
 .intro a U0 p0 h1 T2 p r2 C2 M E1;have E2:#[fG,#[aq,b],#[de],U0.get?]:=λb o Z e=>C2 b o (B2 b o (A2 b o e) Z);have O2:GH B U0:=y1.grow (by rw[r2];exact eO (eh p)) C2;have k3:=#[aZ,O2,y0,i1];have m3:U0.Ns P1 s0:=#[dZ,b1.at',O2,m1];have l3:U0.Ns L _:=f1.at' λo e=>E2 _ o (O1 _ l2) e;have o3:#[aK,L0]:=F0.high L0 (bz p1);refine lW ?_;have J2:=uS (uS M);refine fb (SC.joinGen J2 (λi n st=>st.1.typeIs) E1 ?_ fU ?_ (λn l U n1=>?_) ?_)
  .intro b Z;show b<U0.objs.size;rw[r2];rcases bg.mp Z with rfl|Z;.exact hR _
   .rcases bg.mp Z with rfl|Z;.exact kL p
    .exact kL (jD (eN.mp Z) p)
  .rintro i v⟨H0,q2,z,j0,rfl,_⟩;exact#[aA,z,j0]
  .rw[xq,gz,k2]at n1
   have j3:=aek (I:=I) (λi v O=>by
    obtain⟨H0,q2,z,j0,e,f3⟩:=O;have:H0=i:=by obtain⟨m,a0⟩:=bw.mp q2;rw[yH]at a0;exact a0.symm
    subst this;exact⟨z,j0,e,f3⟩) n1
   rw[j3];refine⟨joinOk_of ?_,λe1 k a3=>?_⟩
   .have X:(((I.map λc=>c.1++c.2).map cI).map (·.length))=(I.map λc=>c.1++c.2).map hq:=by rw[gA];exact mX λt _=>by simp[cI,FX]
    rw[X,<-EH];have o0:#[a5,(#[dw]:aq),0]:=rfl;rw[o0,za,rK];exact#[bG,H2]
   .have c3:#[fG,#[aq,b],#[de],n.heap.get?]:=λb o Z e=>U.heap b o (λA1=>by
     have Y0:=bk e;rcases bg.mp A1 with rfl|A1;.exact#[ac,Y0,bP.mpr (eh n2)]
     .rw[aZ.mp A1]at Y0;exact ft _ Y0) (E2 b o Z e)
    have x1:GH B n.heap:=y1.one F.slt R1 (bu.no P2 (λp2 T1 e1 I1=>by cases I1;exact#[fL]) λ_ _ I1=>by cases I1) (aI (by rw[r2];exact eO (eh p)) a3) λb o Z e=>U.heap b o (λA1=>by
     rcases bg.mp A1 with rfl|A1;.exact absurd (bk e) (ft _)
     .exact Z (aZ.mp A1)) (C2 b o e)
    refine q _ {n with toks:=k} ⟨U.os,U.drawn,⟨?_,λh=>QQ (h.push T2) U.gens⟩,?_,λb o e _ Z=>c3 b o Z e⟩ x1 (F0.KD F.slt c3) #[Q,e1,rfl,?_]
    .intro i y e;have Y0:i<g.size:=(rr.mp e).1;have C1:#[G,(g.push h1),y]:=by rw[Pl,if_neg (cB Y0)];exact e
     rcases U.gens with Y1|⟨⟨_,Y1⟩,_⟩;.show n.gens[i]?=_;rw[Y1];exact C1
     .show n.gens[i]?=_;rw[Y1 i (cB Y0)];exact C1
    .exact aI (eh (jD n2 p)) (aI (by rw[r2];exact dP _) a3)
    .show(FZ #[dw] _).cps.toList=_;unfold FZ;rw[Sm];refine(wR [] _).trans ?_;rw[jV];rfl
  .rw[xq,gz,k2];exact dD q3
end
theorem Lh:#[cI,"list","__len__","list.__len__"]:=by rw[cG,cE];kernel_rfl
theorem XK:#[cI,"list","__str__","object.__str__"]:=by rw[cG,cE];kernel_rfl
section
variable{B:Bs}{w:aD}{n k d j r:Nat}{O:Gm}{s0:#[n]}{U:#[o]}{H:#[l]}{I:#[ag]}
theorem Cl.vs(m:#[bU])(N:gx s0)(C0:cb B 167)(f:#[av,H,dG B k d I])(X:#[cj,gd,#[M,167],[.ob j],#[U,r],H])(h:r<2^62):bZ B w (n+1) O #[c5,"len"] [.ob j] U H #[U,r] H:=λA J S Z s Q E G M p q=>by cases p with|cons a a0=>cases a0;obtain⟨x,z,rfl⟩:=a;obtain⟨Y,Q0,L0,g,F,y,R,c⟩:=M.acc z f;obtain⟨l0,T,e0,J0,I0,G0,H0,A0,t0,x0,M0,i,t,v,C⟩:=m.ex;obtain⟨⟨q0,f0,b0,d0,g0⟩,c0⟩:=C0;refine len_own (⟨_,_,_,_,_,_,_,_,_,_,_,_,_,_,_,_,_,_,_,_,_,g,rfl,#[aZ,M.gh,i,v],#[gR,t.at',M.gh,C],N.len,#[cW,M.gh,b0,c0],d0,hb,Lh⟩) (gr (X _ _ _ _ _ _ G.in1 M #[bn,#[aA,x,z]] λu L b P l=>?_));obtain⟨h0,rfl⟩:=l;exact⟨_,_,rfl,nY _,#[f],#[a9,P.toks _,#[bu]]⟩
end
section
variable{w:aD}{A:aS}{E:#[C]}{s:au}
theorem adh(h:ax #[aE] A.in1.in1 #[cP,Ro,x] (#[nh]) E s):#[as,dX (.type "str") [#[az]]]:=by
 refine callType_codes (Q₁:=λa j=>j.TypeIs a "str"/\Q a j) FF (PySem.F.typeCall_str_1 _) PySem.F.entry_object_init (zG #[E] PySem.F.entry_str_new (cQ (PySem.F.newCall_str_1 _) ?_)) λa j O=>#[bN,O.1,PySem.F.args_object_init_2 a _];.rw[str_new_tree];refine#[a0,aA];refine#[cX,isSubtype_str_str];refine af (dq h (λr L b=>?_) λ_ _ e=>e);obtain⟨z,t,rfl,O⟩:=b;exact aA ⟨jf _ _ _,O⟩
 .exact(object_init_meets FF.init.lookup FF.made #[ak]) P0 w A.in1 _ j #[dy,O.1,O.2]
theorem adj{h0:gB}{Q:#[C]}(X:h.OwnSpecial x C f T "__str__")(e:A.units<cLine)(c:#[el,#[b3,dX,f,[#[az]]],#[nh],#[bw]]):#[el,#[cP,Ro,x],#[nh],#[bw]]:=by refine#[bd,wpAny_cRoomFor,e];refine af (SS X (dq c (λr L b=>?_) λ_ _ y=>y));obtain⟨z,t,rfl,O⟩:=b;exact aA ⟨z,t,rfl,O⟩
end
section
variable{B:Bs}{w:aD}{n k d j:Nat}{O:Gm}{s0:#[n]}{U:#[o]}{H:#[l]}{I:#[ag]}{j0:Tx}
theorem Cl.sq(m:#[bU])(N:gx s0)(C0:cb B 174)(h:#[av,H,dG B k d I])(X:#[cj,gd,#[M,174],[.ob j],#[ao,j0],H]):bZ B w (n+2) O (.type "str") [.ob j] U H #[ao,j0] H:=λA J S Z s Q E G M p q=>by cases p with|cons b a0=>cases a0;obtain⟨x,a,rfl⟩:=b;obtain⟨Y,Q0,L0,g,F,y,R,f⟩:=M.acc a h;obtain⟨l0,T,e0,J0,I0,G0,H0,A0,t0,x0,M0,i,t,v,C⟩:=m.ex;obtain⟨⟨q0,f0,b0,d0,g0⟩,c0⟩:=C0;have h0:=G.in1.in1;refine adh (adj ⟨_,_,_,_,_,_,_,_,_,_,_,_,_,_,_,_,_,_,_,_,_,g,rfl,#[aZ,M.gh,i,v],#[dZ,t.at',M.gh,C],N.str,#[aZ,M.gh,b0,c0],d0,hb,XK⟩ (by have:=h0.units;omega) (gr (X _ _ _ _ _ _ h0 M #[bn,#[aA,x,a]] λu L c P l=>?_)));obtain⟨z,i0,rfl,r⟩:=l;exact⟨z,_,rfl,#[a9,P,⟨z,_,rfl,r⟩]⟩
end
theorem XF:#[fh,"__bool__"]:=by rw[cG,cE];kernel_rfl
section
variable{w:aD}{A:aS}{E:#[C]}{h:bo}{g:#[da]}{d:hU}{t:Nat}{h0:gB}
variable{l0 q:aq}{C N x f:ao}{J0:#[L]}{i:#[bA]}{P:#[L]}{j:Bool}{I0:#[eA]}{G0:#[a2,ao]}{H0 A0 t0 x0 M0:#[bT]}{F:String}{o q0:cp}{r0:#[n]}
theorem Hd(k:#[eR])(l:#[dU])(z:#[cl])(b:#[dm])(Z:r0 (ak "__bool__")=ab)(c:r0 (ak "__len__")=aa (.ref f))(v:#[bv,f,q0])(p:#[gU])(m:ax #[aE] A.in1 #[b3,dX,f,[#[az]]] (λr L=>∃n u,r=.int n u/\0<=n/\n<2^63/\Q (n !=0) {L with toks:=L.toks+1}) E #[bw]):#[d1,#[cP,truthy,x]]:=by have X:h.OwnSpecial x C f _ _:=⟨o,_,_,q,N,_,_,_,_,_,_,_,_,_,_,_,_,_,_,_,_,z,b,k,l,c,v,p,hb,Lh⟩;refine af ?_;refine af (kc hb k l z b XF ?_);rw[Z];refine aA ?_;refine#[bd,wpAny_specialOf_own,X];refine af (GP (zF PySem.entry_len ?_));rw[QW PySem.plain_len _];refine af (m:=callSpecial? _ _) (SS X (dq m (λr L e=>?_) λ_ _ y=>y));obtain⟨n,u,rfl,H,a,O⟩:=e;refine#[b9,#[cv]];refine#[a0,vj];rw[#[fj]];rw[#[fj]];exact af (wpAny_mkInt (aA (aA O)))
end
section
variable{B:Bs}{w:aD}{n k d j r:Nat}{O:Gm}{s0:#[n]}{U:#[o]}{H b0:#[l]}{I:#[ag]}{a:aT}
end
section
variable{B:Bs}{w:aD}{n k d j r:Nat}{O:Gm}{s0:#[n]}{U:#[o]}{H b0 o0:#[l]}{I:#[ag]}{a b:aT}{i0:ba}{v:V}
theorem Ev.qk(I:#[aF,#[cO,ae]])(Z:#[bx,b,v]):#[aP,.BoolOp .And [a,b] i0,v,o0]:=λA J S s Q E G M q=>by refine af (#[a8,I,λu0 k0 F C T=>#[gT]]);cases T;refine sk (Z A _ _ _ Q E G C.rel λC0 m R t i=>#[fN,t,i])
theorem Ev.mC(I:#[aF,#[cO,ag]])(Z:#[bx,b,v]):#[aP,.BoolOp .Or [a,b] i0,v,o0]:=λA J S s Q E G M q=>by refine af (#[a8,I,λu0 k0 F C T=>#[gT]]);cases T;refine sk (Z A _ _ _ Q E G C.rel λC0 m R t i=>#[fN,t,i])
theorem Ev.YI(p:#[bU])(N:gx s0)(C0:cb B 167)(b:#[i9,a,#[cn],b0])(h:#[av,b0,dG B k d I])(X:gd B w n O #[M,167] [.ob j] U b0 #[U,r] b0)(i:r<2^62):#[i9,.UnaryOp .Not a i0,#[cO,!(r !=0)],b0]:=λA J S s Q E G M q=>by
 refine af (#[a8,b,λu0 k0 F C T=>af (dR (cj ?_))]);obtain⟨x,z,rfl⟩:=T;obtain⟨Y,Q0,L0,g,a0,y,R,f⟩:=C.rel.acc z h;obtain⟨l0,c0,h0,J0,I0,G0,H0,A0,t0,x0,M0,l,t,v,Z⟩:=p.ex;obtain⟨⟨q0,f0,d0,g0,j0⟩,e0⟩:=C0;refine cj ?_;refine af (Hd #[cW,C.rel.gh,l,v] #[gR,t.at',C.rel.gh,Z] g rfl N.bool N.len #[cW,C.rel.gh,d0,e0] g0 (gr (X _ _ _ _ _ _ G.in1 C.rel #[bn,#[aA,x,z]] λu L c P m=>?_)));obtain⟨m0,rfl⟩:=m;refine⟨_,_,rfl,nY _,by omega,aA ?_⟩;have e:(((r:Int))!=0)=(r !=0):=by rw[mM];simp
 rw[e];exact#[a9,#[dg,P].toks _,rfl]
theorem Cl.isspace:#[fC,"str.isspace",[.str t],#[cO,oz (cI t)]]:=λA J S Z s Q E G M p q=>by cases p with|cons N a0=>cases a0;obtain⟨x,d,rfl,e⟩:=N;rw[lx e];exact SC.isspace (q _ s _ #[ek] rfl)
end
noncomputable def Hv:#[y]:=by run_tac av.de ["_Accumulator","is_onlyws"]
noncomputable def xI:bt:=by run_tac av.df ["_Accumulator","is_onlyws"]
section
variable{B:Bs}{w:aD}{d0 g0 s0:#[n]}{I:#[ag]}
theorem akk:#[gy,#[b0],#[b0][0+i]?=aa (aX 0 e0)]:=λi e0 h=>by rw[gM,Dv];exact h
theorem TH(F:#[w])(G:#[W])(X:#[bU])(N:gx s0)(u:bb B 189 xI 1 Hv)(b:cb B 167)(c:cb B 174)(M:bH B w n 167 [.ob 1] (bY B 0 I) #[U,(bQ I:Int)] (bY B 0 I))(i:bH B w n 174 [.ob 1] (bY B 0 I) #[c0,bC,I] (bY B 0 I))(C:0<bQ I)(Z:bQ I<2^62)(H:d0 (ak "str")=ab/\g0 (ak "str")=aa (.type "str")):bH B w (n+3) 189 [.ob 1] (bY B 0 I) (.bool (oz (cI (bC I)))) (bY B 0 I):=by
 refine bH.dU F u #[ak] rfl rfl rfl #[p] rfl rfl rfl ?_;have j:cz 2 (bY B 0 I):=mm;have h:=by have:=bH.sF (O:=dH xI) (U:=[#[ar],ab]) (v0:=[]) (M.le (dP n)) rfl j j #[bO,by rw[aZ.mp z];exact#[ap,1<2]];omega
 have a:=by have:=bH.sF (O:=dH xI) (U:=[#[ar],ab]) (v0:=[]) i rfl j j #[bO,by rw[aZ.mp z];exact#[ap,1<2]];omega
 have d:=λF0 E0=>by have:=Ev.YI (i0:=E0) X N b (Ev.name (i0:=F0) 0 rfl rfl #[p]) rfl h Z;rwa[(by simp;omega:(!(bQ I !=0))=ag)]at this
 refine aj.ret (Ev.qk (Ev.hD (Ev.vq X #[b8,0] rfl rfl #[j] rfl N.ta te #[an] #[am]) Ev.ny St.Bo.up (by rfl)) (Ev.mC (d _ _) ?_)) (dd.ia mm trivial);refine Ev.iU (Ev.sG (cN.fh F 1 rfl H.1 H.2 #[p]) rfl #[bn,#[b8,0]] (Cl.sq X N c rfl a)) rfl lY RQ RV rfl .nil Cl.isspace #[an] #[p] #[j]
end
section
variable{B:Bs}{w:aD}{n k d j i c:Nat}{O:Gm}{s0:#[n]}{U:#[o]}{H b0 o0 w0:#[l]}{I:#[ag]}{a b e:aT}{i0 L:ba}{p:Tx×Tx}
theorem Ev.TC(g0:#[bU])(N:gx s0)(c:#[aF,#[cn]])(Z:#[bx,b,#[cr]])(h:#[av,o0,dG B k d I])(P:#[G,I,p])(T0:i<2^62)(X:(O0=0/\r=p.1)\/(O0=1/\r=p.2)):#[aP,.Subscript (.Subscript a b i0) (.Constant #[U,O0] c0 Z0) L,#[ao,r],o0]:=λA J S s Q E G M q=>by refine lH (OZ (#[a8,c,λu0 k0 a0 C v=>#[h5,Z,λC0 m f0 t d0=>?_]]));obtain⟨n0,rfl⟩:=d0;obtain⟨x,z,rfl⟩:=v.pre t.pre;obtain⟨Y,Q0,L0,g,w0,q0,R,f⟩:=t.rel.acc z h;obtain⟨l0,E0,N0,J0,I0,G0,H0,A0,t0,x0,M0,y,h0,j0,v0⟩:=g0.ex;have y0:=#[aZ,t.rel.gh,y,j0];have F0:=#[dZ,h0.at',t.rel.gh,v0];obtain⟨u,F,T,rfl,e0,p0,Y0,R0,r0⟩:=q0.get P;have m0:=C.trans t;refine#[dy,x,kc hb y0 F0 g rfl qg.lookup ?_];rw[N.BE];refine#[aG,Tz y0 F0 g rfl N.BE rfl (by rw[<-ke];exact F) T0 ?_];refine sg ?_;refine⟨_,_,RS.lookup,#[P,R0],?_⟩;obtain⟨l⟩:=p0;cases r0 with
|cons U0 S0=>cases S0 with
|cons S0 X0=>
 cases X0;obtain⟨rfl,rfl⟩|⟨rfl,rfl⟩:=X;.exact FR R0 #[f] #[f] rfl rfl (#[a9,m0.toks _,U0.nil _])
 .exact FR R0 #[f] #[f] rfl rfl (#[a9,m0.toks _,S0.nil _])
end
section
variable{w:aD}{A:aS}{E:#[C]}{h:bo}{g:#[da]}{d:hU}{t:Nat}{h0:gB}
variable{l0 q:aq}{C N:ao}{J0:#[L]}{i:#[bA]}{P:#[L]}{I0:#[eA]}{G0:#[a2,ao]}{H0 A0 t0 x0 M0:#[bT]}
theorem Xz(a:#[bv,C,eE l0 q C N J0 #[eo] ae i P ag I0 G0 H0 A0 t0 x0 M0 "list.__new__"])(O:#[f1,#[M,h.objs.size+1],#[a7,#[j5,{cls:=.ref C,dict:=aa h.objs.size,data:=.seq #[]}],t]]):jJ #[aE] A (.builtin "list.__new__" #[ai,.ref C::m]) R #[bw]:=by
 refine codeAny_builtin_stack ahl rfl λp st=>?_;simp only[(owner_list_new)];refine#[bF,Gp,a,rfl];refine#[bd,kn,a];refine#[a0,aA];refine af (jO ?_ (by size_fits));dsimp;repeat wp_step
 simp_all
theorem XA(C:ao)(v:ai):∀s,ov "list.__new__"=aa s->pW "list.__new__" s #[ai,[.ref C,v]]=aw ():=λs e=>by have:(match ov "list.__new__"with|aa s=>pW "list.__new__" s #[ai,[.ref C,v]]|ab=>aw ())=aw ():=rfl;rw[e]at this;exact this
theorem XB{v:ai}{Q:#[aI,Unit]}(a:#[bv,C,eE l0 q C N J0 #[eo] ae i P ag I0 G0 H0 A0 t0 x0 M0 "list.__new__"])(O:Q () #[bw]):#[d1,md "list.__new__" #[ai,[.ref C,v]]]:=by have M:#[n9,[jH "list",.type "object"]]:=rfl;have R:qd "list.__new__"=aa .builtinFn:=#[p];have u:splitId "list.__new__"=aa ("list","__new__"):=rfl;simp only[md,R,u];rw[#[aM,if_pos]];refine#[bF,Gp,a,rfl];rw[#[eW]];refine#[bd,kn,a];rw[M,#[eW]];refine#[bd,wpAny_staticBase_exc,a];refine#[bd,Te,a];dsimp only;rw[#[bJ,by rw[bne_self_eq_false];exact fG]];cases H:ov "list.__new__"with|none=>exact aA O|some s=>exact cQ (XA C v s H) O
end
theorem XG:#[cI,"list","__init__","list.__init__"]:=by rw[cG,cE];kernel_rfl
section
variable{B:Bs}{w:aD}{d0 g0 s0:#[n]}
theorem TG(F:#[w])(X:#[bU])(N:gx s0)(v:jP B d0 g0 137 tA 2 Aq)(C0:cb B 137)(C:Nat):kH B w 2 200 [#[ay,C]] (.ob 1) (bY B C []):=λA j s Q E G r n q=>by cases n with
|cons c a0=>
 cases a0;obtain⟨w0,rfl⟩:=c;obtain⟨l0,c0,v0,J0,I0,G0,H0,A0,t0,x0,M0,l,z,H,J⟩:=X.ex;have Y:=#[aZ,r,l,H];have m0:#[dO,v0,s0]:=#[dZ,z.at',r,J];obtain⟨⟨q0,f0,j0,u0,E0⟩,p0⟩:=C0;have N0:=#[aZ,r,j0,p0];obtain⟨h,g,d,t,h0⟩:=s;have b0:#[ev,h.get?,#[iv].get?]:=#[ks];have o0:#[iv].objs.size=h.objs.size+2:=by rw[da,da]
 have y0:#[iv].get? (h.objs.size+1)=aa #[fV,200,.seq #[]]:=by have:#[iv].get? #[iE].objs.size=aa #[fV,200,.seq #[]]:=#[aW];rwa[da]at this
 have L0:#[oc,#[iv]]:=bN _ #[gi];refine vQ (x:=h.objs.size+1) hb XG Y m0 N.init N0 u0 b0 y0 rfl (λr0 R M=>zH (zR PySem.F.plain_list_new _) (XB Y (Xz Y M))) ?_;have k0:=r.grow (c0:=#[j5,#[fV,200,.seq #[]]]) (by rw[o0];exact ip _ _) b0
 have F0:cM B #[iA] [bS 0 [],dG B 2 0 []] #[iv]:=by
  refine⟨rfl,by simp,λa I=>?_,λi a e0 c a0=>?_⟩
  .simp at I;rcases I with rfl|rfl;.exact r.1
   .exact eO r.1
  .match i,c,a0 with|0,c,a0=>cases c;cases a0;exact⟨#[mq,L0,λe S=>#[ac,S,#[z]],(λy x m=>by cases m)],λo f0 f P=>by rw[L0]at f;cases f;cases P⟩|1,c,a0=>cases c;cases a0;refine⟨⟨_,y0,aP 2,rfl,rfl,#[j],⟨#[],0,rfl,rfl⟩,_,rfl,rfl⟩,(λo f0 e k=>by rw[y0]at e;cases e;cases k),λb Z=>⟨λn0=>#[bC,F.slt.tab b n0,Z.1],Z.2⟩,λo e=>?_⟩;rw[y0]at e;cases e;exact⟨#[],0,rfl,.nil⟩|i+2,c,a0=>simp at c
 refine gr (TB F X N v C _ #[iA] [.ref (h.objs.size+1),.int #[I,C] w0] #[a7,_,t] _ (G.typeCall) k0 F0 #[hW,#[P,rfl],#[bE,w0]] λu L O i0 T p=>#[a3,p]);refine q _ L #[iA] ?_ i0 T (λa I=>?_) #[P,rfl]
 .have U:Fx B [] #[bw] #[a7,#[j5,#[fV,200,.seq #[]]],t]:=Fx.fY (X:=[]) (s:=#[bw]) (t:=t) (by rw[o0];exact ip _ _) #[dN,b0];refine U.trans O λy m=>.inr ?_;simp at m;rcases m with rfl|rfl;.exact aP _
  .exact dP _
 .simp at I;rcases I with rfl|rfl;.exact aP _
  .exact dP _
end
section
variable{B:Bs}{w:aD}{n:Nat}{O:Gm}{s0:#[n]}{U:#[o]}{H b0 o0:#[l]}{i0 p:ba}
theorem Ev.HV(m:hj B C T v0 F k s0)(v:cN B w n O #[cy] #[M,C])(u:#[c8])(I:#[fs])(X:bZ B w n O #[M,C] Y U b0 r o0):#[lY]:=λA J S s Q E G M q=>by refine#[iQ];rw[#[dG]];refine AM (fZ _ _) (eR (#[a8,I,λZ k0 e a c=>?_]));obtain⟨l0,h,l,J0,I0,G0,H0,A0,t0,x0,M0,d,f,g,y⟩:=m.ex;exact⟨⟨_,_,#[aZ,a.rel.gh,d,g],rfl,rfl⟩,X A _ _ _ _ Q E G a.rel c λz b R t i=>#[a9,a.trans t,i]⟩
end
noncomputable def Ht:#[y]:=by run_tac av.de ["_ValueFormatter","__init__"]
noncomputable def Ng:bt:=by run_tac av.df ["_ValueFormatter","__init__"]
abbrev tY(B:Bs)(L:#[n]):Prop:=hj B 116 "object" [.type "object"] "object.__new__" "object.__getattribute__" L
structure yp(L:#[n]):Prop where
 a1:L "_maxlen"=ab
 a2:L "_continuation_ws"=ab
 a3:L "_continuation_ws_len"=ab
 a4:L "_splitchars"=ab
 a5:L "_lines"=ab
 a6:L "_current_line"=ab
abbrev wz(N:Nat)(p0 j0:Tx):#[fd]:=[(ak "_maxlen",#[ay,N]),(ak "_continuation_ws",.str p0),(ak "_continuation_ws_len",#[ay,p0.length]),(ak "_splitchars",.str j0),(ak "_lines",.ob 2),(ak "_current_line",.ob 4)]
abbrev bq(B:Bs)(N:Nat)(p0 j0:Tx)(d:#[B])(C:Nat)(I:#[ag]):#[l]:=[bS 5 (wz N p0 j0),dg 2 116 0 ab,.list d]++#[b0].map (aX 3)
theorem Lk:#[cJ,"_maxlen"]:=by rw[cG,cE];kernel_rfl
theorem XT:#[cJ,"_continuation_ws"]:=by rw[cG,cE];kernel_rfl
theorem XU:#[cJ,"_continuation_ws_len"]:=by rw[cG,cE];kernel_rfl
theorem Ll:#[cJ,"_splitchars"]:=by rw[cG,cE];kernel_rfl
theorem Lm:#[cJ,"_lines"]:=by rw[cG,cE];kernel_rfl
theorem Ln:#[cJ,"_current_line"]:=by rw[cG,cE];kernel_rfl
section
variable{B:Bs}{w:aD}{d0 g0 s0 L:#[n]}
theorem VN(F:#[w])(G:#[W])(v:tY B L)(n:yp L)(X:#[bU])(k:∀C,kH B w 2 200 [#[ay,C]] (.ob 1) (bY B C []))(a:#[dt,"_Accumulator",200])(u:bb B 57 Ng 5 Ht)(C N:Nat)(p0 j0:Tx)(I:p0.length<=2^20):eB B w 3 57 [.ob 1,#[ay,C],#[ay,N],.str p0,.str j0] 0 #[mb] .none (#[bj,j0,[],C,[]]):=by
 refine eB.dU (L:=5) F u #[E] rfl rfl rfl #[E] rfl rfl rfl #[aC] #[j] ?_;refine#[ig,#[aD,2],n.a1,Lk,show 0+1<=aC by decide];refine#[ig,#[aD,3],n.a2,XT,show 1+1<=aC by decide];refine#[ig,Ev.qp (W.fh F G 5 0 rfl rfl #[E]) rfl #[bn,#[aD,3]] (Cl.Cg (dD I) rfl),n.a3,XU,show 2+1<=aC by decide];refine#[ig,#[aD,4],n.a4,Ll,show 3+1<=aC by decide];refine#[ig,#[m1],n.a5,Lm,show 4+1<=aC by decide];refine#[ig,Ev.HV X (cN.glob F 6 rfl a #[E]) rfl #[bn,#[aD,1]] ((k C).call #[aJ] rfl (λe0 Q R=>?_) rfl rfl),n.a6,Ln,show 5+1<=aC by decide]
 .rcases bg.mp Q with rfl|Q;.exact#[fL]
  .rw[aZ.mp Q];exact#[fL]
 refine aj.nil #[du,.inr #[bV],trivial,bx rfl,λi e0 P e=>?_];match i,P,e with|0,_,e=>cases e;exact aP 5|1,_,e=>cases e;exact#[ap,2<=5]|2,_,e=>cases e;exactλx h=>nomatch h|3,_,e=>cases e;exact#[ap,3<=5]|4,_,e=>cases e;exact aP 5
end
section
variable{B:Bs}{w:aD}{n f:Nat}{O:Gm}{U:#[o]}{N:Nat}{p0 j0:Tx}{d:#[B]}{C b:Nat}{I u:#[ag]}{z:#[B]}{r:V}{v0:#[l]}
theorem qB(h:bH B w n f z #[b0] r (bY B b u))(a:O.fz<=3)(E:#[ca,z,2]):gd B w n O #[cm] (z.map (eA 3)) U #[dn] (eA 3 r) (#[bj,j0,d,b,u]++v0):=by
 refine bH.call 3 h a ?_ (λi e0 e=>?_) mm mm E rfl rfl ?_;.rw[aY];exact ip 5 _
 .match i,e with|0,e=>cases e;rfl|1,e=>cases e;rfl|i+2,e=>simp at e
 .rfl
end
theorem Li:#[fh,"push"]:=by rw[cG,cE];kernel_rfl
section
variable{w:aD}{A:aS}{E:#[C]}{h:bo}{g:#[da]}{d:hU}{t:Nat}{h0:gB}
variable{l0 q:aq}{C N x L0 f:ao}{J0:#[L]}{i:#[bA]}{P:#[L]}{j:Bool}{I0:#[eA]}{G0:#[a2,ao]}{H0 A0 t0 x0 M0:#[bT]}{F:String}{Y:#[bb]}{Q0:Nat}{r0 m:#[n]}{q0:cp}
theorem Tv{G:aq}{H:Bool}{Q:#[C]}(n:#[eR])(u:#[dU])(B:#[hP])(U:#[jf])(v:#[eT,G,f])(s:#[fh,G])(C0:#[bv,f,q0])(y:#[gU])(c:qO G=ae)(b:#[bv,x,#[hL,.ref C,Q0]])(k:h.Ns L0 m)(p:m G=ab)(O:#[bs,h.objs.size,#[a7,h.push (my f x),t+1]]):#[d1,mg #[M,x] G H]:=by
 have M:#[lR,f]:=λ_=>#[aw,C0,y];have u0:=Ld;have R0:=Lf;have R:=Lc;unfold mg uZ;refine af (vk (cj (af (lk b (af (ji n u hb Cm ?_))))));rw[B];dsimp only;rw[#[bJ,by simp]];unfold zL Gk Ge Gd;refine af ?_;rw[if_pos (by rfl)];refine ji n u hb Cn ?_;rw[U];refine af (iM (cj ?_));rw[#[bJ,by rw[#[co,zQ (zE "list.__getattribute__")=ag],Ec];exact fG]];refine#[cX,zv.bind _];refine dq (oL (Q:=λr L=>r=.ref h.objs.size/\L=#[a7,h.push (my f x),t+1]) (E:=#[fP]) (a:="list") (b:="__getattribute__") n b rfl (.inr #[E]) #[E] #[E] (RA _ _) zv.plain Su ?_) (λr L l=>?_) λ_ _ z=>z.elim
 .unfold Builtin.«object.__getattribute__»;refine#[m0,G];dsimp only;have I:=M (t+1);refine#[db,af (lk b (af ?_))];unfold Ft;refine af (ji n u hb s ?_);rw[v];repeat(first|(with_reducible refine nq k ?_;rw[p])|wp_step)
  rw[#[bJ,show¬(([ak "__module__",ak "__name__",ak "__qualname__",ak "__doc__",ak "__annotations__"]:#[bA]).contains G=ae)from by unfold qO at c;simpa using c]];repeat wp_step
  have X:Sp [(f,q0)] h:=λa o e=>by
   rw[gj]at e;split at e;.rename_i Z;cases e;rw[beq_iff_eq.mp Z];exact C0
   .cases e
  refine Sq (K:=[(f,q0)]) X (by simp[Sr,y]) ?_;exact aA #[cV,rfl]
 .obtain⟨rfl,rfl⟩:=l;show#[cT,rZ _];exact aA O
end
section
variable{B:Bs}{w:aD}{n k d j:Nat}{O:Gm}{d0 g0 s0:#[n]}{U:#[o]}{H b0:#[l]}{J:aO}{S:#[t]}{I:#[ag]}{i0:ba}
theorem aG.abg{i:Nat}(M:#[ah])(P:#[es,.local])(p:#[G,U,ab])(q:∀L,#[aQ,H,S,L]->(#[fG,b≠J.locals,#[eE],L.heap.get?])->(∃m,L.heap.Ns J.locals m/\m l0=aa v)->Q () L):#[as,Gx J l0 v]:=by
 obtain⟨m,l,R⟩:=M.ns;have Y:=M.kindOf P;have h0:∀j b0 d0,#[av,O.sc.names,(b0,d0)]->j≠i->b0≠l0:=λj b0 d0 f t e=>by subst e;exact t (iy M.nd (a:=b0) (by rw[cg,f];rfl) (by rw[cg,P];rfl))
 refine Tn Y l (λc0 g0 C=>q _ #[mN,#[aw,g0,λj y f=>?_],λj a x I Z=>#[nr,x,(C.2 a λe=>M.dZ (e▸bz I)),C,jX l (G▸X)]] (#[f9,C]) #[aw,g0,by simp]) (by rw[M.gV];rfl);.exact M.gh.one M.slt M.ic (jX l) #[gg,C] #[f9,C]
 .have f0:j≠i:=λe=>#[Y];obtain⟨b0,d0,N,a0⟩:=R j y f;refine#[bP,b0,d0,N];rcases a0 with⟨k,u,e,r⟩|⟨k,c,u,F,d,r⟩;.exact#[dM,k,u,by(simp);rw[#[bJ,h0 j b0 d0 N f0]];exact e,r]
  .exact .inr ⟨k,c,u,F,d.sameBut C (M.cw _ (mem_of_lookup F)).2.1,r⟩
 .obtain⟨o,N,a0⟩:=M.store j a e0 I Z;exact#[km,(C.2 a λe=>M.dZ (e▸bz I))]
 .obtain⟨N,a0,T,u,n⟩:=M.cw r g;exact⟨N,a0,T,u,n.sameBut C a0⟩
 .exact .fY (eK C.1.symm) λb o e z=>(C.2 b λh=>z (h▸.head _)).trans e
theorem fR.UD{T:bo->ai->Prop}(b:Nat)(h:fR B w n f z g (λ_ h u=>T h u) l)(r:O.fz<=b)(y:#[hH])(t:#[lB])(j:cz g.length g)(C:cz g.length l)(v:#[ca,z,g.length])(m:z.map (eA b)=Y)(c:hc H b l=m0):#[cj,ym,#[cm],Y,λ_ h u=>T h u,m0]:=λA J S Z s Q E G M e q=>by subst m c;have a:=M.ia b y t j;refine gr (h A _ _ s _ G M.gh a ((mn.mp e).rn v) λu L d k o p=>(q u _ _ (aB.ia b M r y j C a d k o) p))
theorem Zk(f:A.units<cLine)(n0:nt s.heap t c)(I:nt s.heap a e)(n:c≠e)(q:Q (.bool ae) s):#[as,dp .NotEq #[M,t] #[M,a]]:=by obtain⟨Y,X,N,a0⟩:=n0;obtain⟨Z,i,T,b⟩:=I;obtain⟨Y⟩:=Y;obtain⟨Z⟩:=Z;cases a0 with
|cons L0 a0=>cases a0 with
|cons y a0=>cases a0;cases b with
|cons h0 b=>cases b with
|cons k0 b=>
 cases b;obtain⟨F0,A0,rfl,F⟩:=L0;obtain⟨E0,t0,rfl,d⟩:=y;obtain⟨y0,u0,rfl,h⟩:=h0;obtain⟨O0,R0,rfl,u⟩:=k0;refine Fz (Sh (e:=λj=>if j=0 then F0==y0 else E0==O0) #[dY,N,_] #[dY,T,_] f λj U g=>?_) ?_;.match j,U with|0,_=>exact FV _ _ _ _|1,_=>exact FV _ _ _ _|j+2,U=>exact#[ac,U,#[z]]
 .have:(!((aR (min 2 2)).all (λj=>if j=0 then F0==y0 else E0==O0)&&2==2))=ae:=by show(!((F0==y0)&&((E0==O0)&&ae)&&ae))=ae;grind
  show Q (.bool (!((aR (min 2 2)).all _&&2==2))) s;rw[this];exact q
end
section
variable{B:Bs}{w:aD}{n k d j:Nat}{O:Gm}{d0 g0 s0:#[n]}{U:#[o]}{H b0:#[l]}{J:aO}{S:#[t]}{I:#[ag]}{i0:ba}
def iY(B:Bs)(w:aD)(n:Nat)(O:Gm)(e:aT)(U:#[o])(H:#[l])(v:V):Prop:=#[ky,#[bc]->#[ah]->(∀X p0,VR S X v->Q X #[fv])->#[as,aW e J]]
theorem iY.ev(h:iY B w n O e U H v):#[aP,e,v,H]:=#[ku,λX p0 r=>#[fA,r]]
theorem iY.name{k:hX}(i:Nat){v:V}(p:#[a6,U,aa,v])(z:#[et,k])(a:#[kb]):iY B w n O (.Name x i0) U H v:=λA J S s Q E _ M q=>by
 obtain⟨m,l,f⟩:=M.ns;obtain⟨l0,G0,N,a0⟩:=f i v p;have R:=M.kindOf N;rw[z]at N;cases N;refine hy ?_ a;obtain⟨rfl,u,e,r⟩|⟨k,c,u,F,b,r⟩:=a0;.exact iu M.gV R l e (q _ _ r)
 .obtain rfl|⟨rfl,d⟩:=k;.exact GI M.gV R F b (q _ _ r)
  .exact Ab M.gV R F b (q _ _ r) d
theorem iY.oG{G:aq}(m:#[kE])(g:iY B w n O o U H #[ci])(P:#[cC,H])(t:#[eO])(c:H[d]?=aa (bS k j0))(I:i≠d)(b:j0.lookup G=aa x)(R:r0 G=ab)(l:#[d4,T,G])(L:#[ec])(X:∀c0 r,sd o c0 r=aw ()):iY B w n O #[c4,G,y0] U H x:=λA J S s Q E a M q=>by rw[uT,L _];refine af (#[cs,g,s,a,M,λu0 p0 f=>?_]);obtain⟨a0,b0,rfl⟩:=f;obtain⟨s0,L0,Z,_,_,_,d0⟩:=M.inst b0 P t c I;obtain⟨v,p,Y,_⟩:=d0 _ x b;obtain⟨l0,z,N,J0,I0,G0,H0,A0,t0,x0,M0,h,j,u,y⟩:=m.ex;refine#[gT];refine Cp m.mro m.ga #[cW,M.gh,h,u] #[gR,j.at',M.gh,y] m.ly R l Z p (wH Y) ?_;rw[X];exact#[db,aA (q v _ Y)]
theorem Zq:qO (ak "push")=ae:=#[p]
theorem acp{A:aS}{s:au}{Q E:#[C]}{t x:ao}{L0:ao}{c:Tx×Tx}{m T:#[n]}{Y:#[bb]}{Q0:Nat}{u0:aq}{F0 E0:ba}(F:#[w])(X:#[bU])(N:gx s0)(C0:cb B 144)(R:#[ah])(z:#[ch,x,#[hL,.ref 200,Q0]])(i:#[dO,L0,T])(T0:T "push"=ab)(d:J.kindOf u0=aa .local)(G:(u0==("__debug__":aq))=ag)(l:#[dO,J.locals,m])(O0:m u0=aa (.ref t))(n0:nt s.heap t c)(j:∀Z c0 p0,#[fi,Z,#[e9,c.1,c.2]]->(#[fb])->#[ef]->jJ #[aE] A #[b3,.call,144,#[ai,#[az]::Z]] (λr L=>match r with|.ok (.ret v)=>Q v L|.ok _=>False|.error e=>E e L) #[fa]):#[as,do
 let(f,u)<-va [#[az]] (do aw (<-mg #[M,x] (ak "push") ae,([]:#[L])));let U0<-(aw i0:dF ba);mb U0 f u #[f3,[.Starred (.Name u0 F0) E0]] []]:=by
 obtain⟨l0,b0,o0,J0,I0,G0,H0,A0,t0,x0,M0,k,n,q,y⟩:=X.ex;have P:=#[aZ,R.gh,k,q];have j0:#[dO,o0,s0]:=#[dZ,n.at',R.gh,y];obtain⟨q0,f0,e0,m0,w0⟩:=C0.ex;have y0:=#[aZ,R.gh,e0,C0.out];obtain⟨h,g,M,p0,h0⟩:=s;refine#[b9,af (Tv P j0 X.ly X.pd N.push Li y0 m0 Zq z i T0 #[cv])];refine#[a0,aA];have p:(h.push (my 144 x)).get? h.objs.size=aa (my 144 x):=#[aW];have r0:#[ev,h.get?,(h.push (my 144 x)).get?]:=#[e0]
 show#[cT,mb i0 #[M,h.objs.size] [] [(ae,(do
  let v<-aW (.Name u0 F0) J;standAt i0;aw v))] []]
 refine ks_call rfl (P:=λa0=>a0.get? h.objs.size=aa (my 144 x)/\a0.get? 144=aa q0) (λa0 C=>#[aw,.inr (.inr rfl),λk0 S0 v0 L R0 X0=>?_]) (ks_lone ?_);.unfold keeperOf;refine#[bd,lh,R0 _ _ C.1];dsimp only;rw[#[eW]];refine#[bd,lh,R0 _ _ C.2];rw[w0];exact aA X0
 .refine hy (iu R.gV d (l.at' λo e=>r0 _ _ e) O0 ?_) G;obtain⟨Z,Y0,a,a0⟩:=n0;have N0:=r0 _ _ a;unfold StarOf SF;refine af (jh #[P,N0] PySem.F.slot_tuple_iter.lookup (aA #[aG,?_]));refine SU t (.inr rfl) N0 rfl rfl (λc0 I=>#[a3,⟨I _ _ p,I _ _ (r0 _ _ y0)⟩]) (by rw[<-gI,a0.length];exact(show 2<=aC by decide));refine gr (Gn (I _ _ p) ?_);refine j Z.toList c0 _ a0 (λb o e=>I _ _ (r0 _ _ e)) ?_;refine aI (dP _) ?_;have:=bk (I _ _ p);exact this
end
theorem XJ:#[cI,"list","pop","list.pop"]:=zw.lookup
section
variable{B:Bs}{w:aD}{n k G0 g d j:Nat}{O:Gm}{d0 g0 s0:#[n]}{U:#[o]}{H b0:#[l]}{J:aO}{S:#[t]}{I:#[ag]}{l:#[y]}{h0:#[al]}
theorem aj.Zs{i:Nat}{c:Tx×Tx}{j0:#[fd]}{C1:aq}{o e1:aT}{p1 m1 F0 E0 N0 M S0 T T0 U0 k2 y0 O0 R0 X1:ba}{A0 t0 x0:Nat}(F:#[w])(a1:#[bU])(N:gx s0)(Z1:cb B 160)(C0:cb B 144)(p:#[i9,o,#[cn],H])(i0:#[av,H,dG B k d #[aH]])(a0:H[d]?=aa (bS G0 j0))(a2:j≠d)(j2:(j0.lookup (ak "pop")).isNone=ae)(c2:(j0.lookup (ak "push")).isNone=ae)(b2:ym B w (n+1) O #[M,160] [.ob j] U H (λ_ h u=>hB B h u c) b0)(o1:iY B w (n+1) O e1 U b0 #[cn])(P1:#[av,b0,dG B k d I])(L1:b0[d]?=aa (bS g j0))(Y1:gd B w (n+1) O #[M,144] [.ob j,.str c.1,.str c.2] U b0 .none H)(M0:c≠([32],[]))(P:#[G,O.sc.names,(C1,.local)])(v:#[G,U,ab])(h1:(C1==("__debug__":aq))=ag)(s1:#[eb,"pop"])(H1:(p1.endLine==E0.line)=ae)(u1:∀J,ej e1 (ak "push") J (aW e1 J)=aW e1 J)(t1:∀J,jN #[bR,#[c4,ak "pop",p1],[],E0] (aa (.Name C1 F0)) N0.line J=aw ag)(G1:∀J,jN #[bR,#[dL,e1,"push",m1],[.Starred (.Name C1 y0) O0],R0] ab X1.line J=aw ag)(l0:aj B w (n+1) O l U H h0):aj B w (n+1) O (.Assign [.Name C1 F0] #[bR,#[c4,ak "pop",p1],[],E0] N0::.If (.Compare (.Name C1 M) [.NotEq] [.Tuple [.Constant #[c0,ak," "] A0 S0,.Constant #[c0,ak,""] t0 T] x0 T0] U0) [.Expr #[bR,#[dL,e1,"push",m1],[.Starred (.Name C1 y0) O0],R0] X1] [] k2::l) U H h0:=λA J S s Q E G a q=>by obtain⟨q0,f0,n1,x1,I1⟩:=Z1.ex;refine mj (zW (tX.mx (j0:=j0) (k:=G0) (Y:=[]) (o0:=H) a1 p i0 cA.acc a0 a2 j2 N.pop ⟨q0,n1,x1,I1⟩ Z1.out XJ rfl .nil b2 s1 H1 #[j] A J S s _ E G a λu0 k0 H0 C Z0=>?_) (t1 J));obtain⟨t,rfl,n2,M1⟩:=Z0;refine aG.abg C.rel P v λn0 m0 v1 L=>?_;obtain⟨m,L,Q1⟩:=L;have d2:nt n0.heap t c:=M1.keep λo e X=>v1 _ _ (λX0=>by subst X0;obtain⟨T1,I0,_⟩:=C.rel.ns;exact jX I0 X) e;have f2:=C.trans m0;have k1:=a.kindOf P;refine mj (wpAny_If (GG (hy (iu a.gV k1 L Q1 ?_) h1) rfl));refine zZ ?_;rw[dt T0 J rfl];refine iJ (oC (iJ (oC (lW #[a3,show 2<=aC by decide]))));have A1:∀b e0,n0.heap.get? b=aa e0->#[fu,n0.heap.push,.str (ak " ") n0.toks,.str (ak "") (n0.toks+1)].get? b=aa e0:=λb e0 e=>bN _ e;have J0:=aB.heap (t:=n0.toks+1+1) m0.rel (c0:=n0.heap.push #[aj,"tuple",.seq,#[.str (ak " ") n0.toks,.str (ak "") (n0.toks+1)]]) (by rw[da];exact dP _) A1;refine Zk (c:=c) (e:=([32],[])) (ki #[f] G.units) (d2.keep λo e _=>A1 _ _ e) #[Q,0,#[aW],.cons #[cV,_] #[bn,#[cV,_]]] M0 ?_;refine sk ?_;rw[#[cw]];refine mj (wpAny_Expr_any ?_ a.inter (G1 J));rw[uU,u1 J];refine af (o1 A J H0 _ _ E G J0.rel λR m2 w1=>#[a0,dR]);obtain⟨x,z,rfl⟩:=w1;have c1:=J0.toks m2;obtain⟨Y,Q0,L0,U1,j1,_,_,_⟩:=c1.rel.acc z P1;obtain⟨B1,i1,r1⟩:=c1.rel.store d L0 _ j1 L1;obtain⟨_,o0,l1,E1,F1,z1,i2,_⟩:=r1;have g2:=f2.trans c1;refine acp F a1 N C0 c1.rel U1 (T:=λy=>vf o0 y) ⟨B1,o0,l1,i1,E1,F1,λ_=>rfl⟩ (i2 _ c2) k1 h1 (L.at' λo e=>A1 _ _ e) Q1 (d2.keep λo e _=>A1 _ _ e) λZ c0 p0 r0 b1 v0=>?_;have g1:=aB.heap (t:=p0) c1.rel v0 b1;have h2:=g2.trans g1;refine Y1 A J H0 (#[az]::Z) _ _ G g1.rel (.cons #[aA,x,z] (r0.mono λ_ _ r=>VR.nil _ r)) λY0 J1 R1 q1 e2=>?_;refine SW (l0 A J R1 J1 Q E G q1.rel λo w0 d1 f N1 O1 f1 y1 l2=>q o w0 d1 f N1 O1 f1 ((h2.trans q1).trans y1) l2)
end
theorem qW:aX 3 (dG B 2 0 I)=dG B 5 3 I:=by refine(λR y e P T h c0 k=>by subst e;rfl:∀R y e P T h c0 k,Ob.hp 5 R P T h k=Ob.hp 5 y P T c0 k) _ _ (funext λS=>funext λo=>?_) _ _ _ _ _;simp
theorem Dt:aX 3 (bS 0 [(y,.int i)])=bS 3 [(y,.int i)]:=by
 have b:∀S o,kP 0 [(y,.int i)] (S.drop 3) o=kP 3 _ S o:=λS o=>by
  have:∀z x,[(y,V.int i)].lookup z=aa x->x=.int i:=λz x r=>by
   rw[gj]at r;split at r;.cases r;rfl
   .cases r
  refine propext ⟨λ⟨j,s,T,E,a,Q,d⟩=>⟨_,_,T,E,a,Q,λz x e=>?_⟩,λ⟨j,s,T,E,a,Q,d⟩=>⟨_,_,T,E,a,Q,λz x e=>?_⟩⟩;all_goals obtain⟨v,U,q,w⟩:=d z x e;have:=this z x e;subst this;exact⟨v,U,q,trivial⟩
 exact(λR c e h c0=>by subst e;rfl:∀R c e h c0,Ob.rel 3 R h=Ob.rel 3 c c0) _ _ (funext λS=>funext λo=>b S o) _ _
structure fE(B:Bs)(w:aD)(d0 g0 s0 L:#[n]):Prop where
 F:#[w]
 G:#[W]
 Ca:#[bU]
 N:gx s0
 Cf:tY B L
 Nf:yp L
 push:∀(C:Nat)(I:#[ag])(f p:Tx),#[ey]->bH B w 6 144 #[jL] #[b0] .none (bY B C #[e5])
 pop:∀(C:Nat)(I:#[ag])(c:Tx×Tx),I.length+1<=2^20->fR B w 6 160 [.ob 1] (bY B C #[aH]) (λ_ h u=>hB B h u c) #[b0]
 count:∀(C:Nat)(I:#[ag]),bH B w 6 197 [.ob 1] #[b0] #[be,I.length] #[b0]
 len:∀(C:Nat)(I:#[ag]),(#[gH])->bH B w 6 167 [.ob 1] #[b0] #[be,C+bQ I] #[b0]
 str:∀(C:Nat)(I:#[ag]),(#[gH])->#[ey]->#[kq]->bH B w 6 174 [.ob 1] #[b0] #[c0,bC,I] #[b0]
 only:∀(I:#[ag]),(#[gH])->#[ey]->#[kq]->0<bQ I->bQ I<2^62->bH B w 6 189 [.ob 1] (bY B 0 I) (.bool (oz (cI (bC I)))) (bY B 0 I)
 ZY:∀(C:Nat)(I:#[ag]),#[ey]->bH B w 6 182 [.ob 1] #[b0] .none (bY B 0 [])
 reset:∀(C:Nat)(I n0:#[ag]),I.length+n0.length<=2^20->bH B w 6 182 [.ob 1,.ob 2] (bY B C I++[hK B n0]) .none (bY B 0 n0++[hK B n0])
 Zr:∀(C i:Nat)(I:#[ag]),i<=I.length->#[ey]->eB B w 6 152 [.ob 1,#[ay,i]] 0 #[b0] (.ob 2) (bY B C (I.take i)++[hK B (I.drop i)])
 fo:∀a∈(#[k1]:#[t]),cb B a
 Yx:L "newline"=aa (.ref 78)
 TX:L "_append_chunk"=aa (.ref 113)
 Ui:L "_ascii_split"=aa (.ref 106)
 adq:L "_str"=aa (.ref 64)
theorem XH:#[fh,"is_onlyws"]:=by rw[cG,cE];kernel_rfl
theorem Lj:#[fh,"reset"]:=by rw[cG,cE];kernel_rfl
theorem fR.le{H m0:#[g]}(h:fR B w n f z H T m0)(Y:n<=m):fR B w m f z H T m0:=#[k4]
theorem jS(y:#[ca,d,0]):cz 5 (#[bj,j0,d,C,I]):=#[aG,cz.cons (aP 5) ph #[aO] #[dl,#[ap,2<=5],Kh,#[dl,#[bO,(y x z).le (aV _)],iV.list,#[dl,#[ap,3<=5],λS o h=>ph _ o ⟨aV _,h.2⟩,#[dl,aP 5,λS o h=>vt (B:=B) _ o ⟨by have:=h.1;rw[dj];exact#[D,Nat.le_sub_of_add_le],h.2⟩,λi x e=>by simp at e]]]]]
section
variable{B:Bs}{w:aD}{n:Nat}{O:Gm}{d0 g0 s0 L:#[n]}{U:#[o]}{N:Nat}{p0 j0:Tx}{d:#[B]}{C b:Nat}{I u:#[ag]}{v0:#[l]}{a:aT}{p i0 y0:ba}
theorem wA(h0:#[c6])(a:U[0]?=aa (aa (.ob 1)))(z:O.sc.names[0]?=aa (x,k))(c:(x==("__debug__":aq))=ag):iY B w n O #[dL,#[cy],"_current_line",y0] U #[dn] (.ob 4):=#[mu,iY.oG,iY.name 0 a z c,h0.Nf.a6,Ln]
theorem By(h0:#[c6])(a:U[0]?=aa (aa (.ob 1)))(z:O.sc.names[0]?=aa (x,k))(c:(x==("__debug__":aq))=ag):Ev B w n O #[dL,#[cy],"_lines",y0] U #[dn] (.ob 2) #[dn]:=#[mu,Ev.oG,Ev.name 0 a z c,h0.Nf.a5,Lm]
theorem qC(h0:#[c6])(v:#[fF,G,f])(C0:f∈#[k1])(l:bh (.type "list") G=aw y)(s:#[dV,([(ak "_initial_size",.int C)]:#[fd]).lookup,G])(g:Ev B w n O o U #[dn] (.ob 4) #[dn])(u:#[c8])(b:cy B w n O j U #[dn] Y o0)(X:#[hl,#[cm],.ob 4])(e:#[ec])(P:#[b7])(c:j.length<30):Ev B w n O #[i3] U #[dn] r w0:=by obtain⟨q0,f0,a,a0,T⟩:=(h0.fo f C0).ex;exact Ev.mx h0.Ca g (congrArg _ qW) cA.acc (congrArg _ Dt) #[j] s v #[Q,a,a0,T] (h0.fo f C0).out l u b X e P c
theorem JE(h0:#[c6])(r:O.fz<=3)(S:#[gH])(Z:C+bQ I<2^62)(l:6<=m):bZ B w (m+1) O #[c5,"len"] [.ob 4] U #[dn] #[bz,C+bQ I] #[dn]:=Cl.vs h0.Ca h0.N (h0.fo _ #[j]) (congrArg _ qW) ((qB (h0.len _ _ S) r λx z=>by rw[aZ.mp z];exact#[ap,1<2]).le l) Z
theorem JH(h0:#[c6])(r:O.fz<=3)(S:#[gH])(y:#[ey])(Z:#[kq])(l:6<=m):bZ B w (m+2) O (.type "str") [.ob 4] U #[dn] #[c0,bC,I] #[dn]:=Cl.sq h0.Ca h0.N (h0.fo _ #[j]) (congrArg _ qW) ((qB (h0.str _ _ S y Z) r λx z=>by rw[aZ.mp z];exact#[ap,1<2]).le l)
end
noncomputable def sy:#[y]:=by run_tac av.de ["_ValueFormatter","newline"]
noncomputable def lD:bt:=by run_tac av.df ["_ValueFormatter","newline"]
section
variable{B:Bs}{w:aD}{n:Nat}{d0 g0 s0 L:#[n]}{N:Nat}{p0 j0:Tx}{d:#[B]}{I:#[ag]}
structure hT(I:#[ag]):Prop where
 each:#[gH]
 len:I.length+1<=2^20
 sum:#[kq]
theorem ky(I:#[g]):#[s,bC,I]=bQ I:=by induction I with|nil=>rfl|cons c r Q=>unfold bC bQ at*;simp[Q,rI]
theorem VP(h0:#[c6])(u:bb B 78 lD 1 sy)(c:Tx×Tx)(g:c≠([32],[]))(P:hT (I++[c]))(C:0<bQ (I++[c]))(w0:oz (cI (bC #[aH]))=ag)(y:#[ca,d,0])(X:d.length+1<=2^20):bH B w 10 78 [.ob 1] (#[bj,j0,d,0,#[aH]]) .none (#[bj,j0,d++[.str (bC #[aH])],0,[]]):=by
 have Y:I.length+1<=2^20:=by have:=P.len;rw[aY]at this;simp at this;omega
 have k:bQ (I++[c])<2^62:=by have:=P.sum;rw[ky]at this;omega
 have E:#[ca,([.ob 1]:#[B]),2]:=λx z=>by rw[aZ.mp z];exact#[ap,1<2]
 have a:(dH lD).fz<=3:=aV _;refine#[ka,#[E],#[E]];have j:∀{f:ao}{r:V}{b:Nat}{t A:#[ag]}{d:#[B]}{U:#[o]},bH B w 6 f [.ob 1] (bY B 0 t) r (bY B b A)->gd B w 6 (dH lD) #[cm] [.ob 4] U (#[bj,j0,d,0,t]) (eA 3 r) (#[bj,j0,d,b,A]):=λ{f r b t A d U}h=>qB (U:=U) (N:=N) (p0:=p0) (j0:=j0) (d:=d) (v0:=[]) (O:=dH lD) h a E;have l:∀{n:Nat}{p y0:ba}{d:#[B]}{I:#[ag]},iY B w n (dH lD) #[dL,#[aL,"self",p],"_current_line",y0] [#[ar],ab,ab,ab] (#[bj,j0,d,0,I]) (.ob 4):=λ{n p y0 d I}=>wA (N:=N) (p0:=p0) (j0:=j0) (d:=d) (C:=0) (I:=I) (v0:=[]) (U:=[#[ar],ab,ab,ab]) h0 rfl rfl #[E];refine aj.Zs (n:=8) (k:=5) (G0:=3) (g:=3) (I:=I) (b0:=#[bj,j0,d,0,I]) (c:=c) (i:=1) (d:=3) (j:=4) (j0:=[(ak "_initial_size",#[ay,0])]) h0.F h0.Ca h0.N (h0.fo 160 #[j]) (h0.fo 144 #[j]) l.ev (congrArg aa qW) (congrArg aa Dt) #[j] rfl rfl (fR.UD 3 ((h0.pop 0 I c Y).le #[ap,6<=9]) a #[aS] (λi e0 e=>?_) mm mm E rfl rfl) l (congrArg aa qW) (congrArg aa Dt) ((qB (N:=N) (p0:=p0) (j0:=j0) (d:=d) (v0:=[]) (O:=dH lD) (h0.push 0 I c.1 c.2 #[f]) a λx z=>?_).le #[ap,6<=9]) g rfl rfl #[E] #[an] #[j] #[an] #[an] #[an] ?_;.match i,e with|0,e=>cases e;rfl|1,e=>cases e;rfl|i+2,e=>simp at e
 .simp at z;rcases z with rfl|rfl|rfl;.exact#[ap,1<2]
  .trivial
  .trivial
 have o:=h0.only #[aH] P.each (by have:=P.len;omega) P.sum C k;rw[w0]at o;refine aj.ite #[gN,Ev.qp (W.fh h0.F h0.G 2 0 rfl rfl #[E]) rfl #[bn,l.ev] (JE (v0:=[]) (m:=8) h0 a P.each #[f] #[j]),W.kq (q:=0) rfl,St.wG.up] ?_;rw[show#[aB,0+bQ (I++[c])>0]=ae from#[D,decide_eq_true],#[cw]];refine aj.ite (t:=ag) (Et.qo (dE.cons (t:=ag) (Et.val (x:=#[dv]) (qC (v0:=[]) (Y:=[]) h0 h0.N.Za #[j] XH rfl l.ev rfl .nil ((j o).le #[ap,6<=9]).s #[an] #[j] #[j]) rfl #[am]) (di.vw rfl))) ?_;rw[#[c7]];refine#[gK,W.append (By (v0:=[]) h0 rfl rfl #[E]) (Ev.sG (W.fh h0.F h0.G 3 11 rfl rfl #[E]) rfl #[bn,l.ev] (JH (v0:=[]) (m:=7) h0 a P.each (by have:=P.len;omega) P.sum #[j])) #[bE,d] rfl #[aC] (by have:=dD X;omega) rfl rfl #[an] #[j],?_];refine#[dH,?_];refine#[gK,qC (v0:=[]) (d:=d++[.str (bC #[aH])]) (Y:=[]) h0 h0.N.reset #[j] Lj rfl l.ev rfl .nil ((j (h0.ZY 0 _ (by have:=P.len;omega))).le #[ap,6<=9]).s #[an] #[j] #[j],?_];refine aj.nil (dd.AE (jS λx z=>?_));rcases cZ.mp z with z|z;.exact y x z
 .rw[aZ.mp z];trivial
end
noncomputable def vz:#[y]:=by run_tac av.de ["_ValueFormatter","_str"]
noncomputable def xG:bt:=by run_tac av.df ["_ValueFormatter","_str"]
theorem XY:#[cJ,"newline"]:=by rw[cG,cE];kernel_rfl
theorem XW:#[cJ,"_append_chunk"]:=by rw[cG,cE];kernel_rfl
theorem XX:#[cJ,"_ascii_split"]:=by rw[cG,cE];kernel_rfl
theorem XZ:#[cJ,"_str"]:=by rw[cG,cE];kernel_rfl
section
variable{B:Bs}{w:aD}{n:Nat}{O:Gm}{d0 g0 s0 L:#[n]}{U:#[o]}{N:Nat}{p0 j0:Tx}{d:#[B]}{C:Nat}{I:#[ag]}{v0:#[l]}{a:aT}{p i0 y0:ba}
theorem JG(h0:#[c6])(v:L G=aa (.ref f))(C0:f∈#[k1])(l:#[cJ,G])(s:#[dV,(wz N p0 j0).lookup,G])(g:Ev B w n O o U #[dn] (.ob 1) #[dn])(u:#[c8])(b:cy B w n O j U #[dn] Y o0)(X:#[hl,#[cm],.ob 1])(c:#[ec])(P:#[b7])(y:j.length<30):Ev B w n O #[i3] U #[dn] r w0:=by obtain⟨q0,f0,a,a0,T⟩:=(h0.fo f C0).ex;exact Ev.mx h0.Cf g rfl cA.dg rfl #[j] s v #[Q,a,a0,T] (h0.fo f C0).out l u b X c P y
theorem adi(o:#[g])(t:Tx):ah o++[.str t]=ah (o++[t]):=by simp[ah]
theorem VQ(h0:#[c6])(u:bb B 64 xG 2 vz)(Y:bb B 78 lD 1 sy)(c:Tx×Tx)(n:c≠([32],[]))(P:hT (I++[c]))(C:0<bQ (I++[c]))(w0:oz (cI (bC #[aH]))=ag)(X:o.length+1<=2^20)(Z:((o++[bC (I++[c])]).map hq).sum+(o++[bC (I++[c])]).length*f.length<=aC):bH B w 11 64 [.ob 1,.str f] (#[bj,j0,ah o,0,#[aH]]) (.str (bj f (o++[bC (I++[c])]))) (#[bj,j0,ah (o++[bC (I++[c])]),0,[]]):=by have y:#[ca,ah o,0]:=λx z=>rf x z;have a:=VP (N:=N) (p0:=p0) (j0:=j0) h0 Y c n P C w0 y (by simpa[ah]using X);rw[adi]at a;refine#[ka,#[ak],#[p]];refine#[gK,JG h0 h0.Yx #[j] XY rfl #[b8,0] rfl .nil (bH.sF a rfl (jS y) (jS λx z=>rf x z) #[bO,by rw[aZ.mp z];exact#[ap,1<5]]).s #[an] #[p] #[j],aj.ret (W.join #[b8,1] (By h0 rfl rfl #[p]) rfl rfl Z rfl rfl #[an] #[p]) (dd.ia (jS λx z=>rf x z) trivial)]
end
section
variable{B:Bs}{w:aD}{n:Nat}{O:Gm}{U:#[o]}{H m0:#[l]}
theorem eB.Uz{f:ao}{z Y:#[B]}{g c L:#[l]}{r v0:V}(b:Nat)(h:eB B w n f z 0 g r (c++L))(E:O.fz<=b)(y:b+g.length=H.length)(o0:#[lB])(i0:cz g.length g)(w0:cz g.length c)(l0:∀e0∈L,#[hr])(s0:#[ca,z,g.length])(j0:z.map (eA b)=Y)(x0:eA b r=v0)(b0:hc H b c++L.map (aX b)=m0):#[cj,gd,#[cm],Y,v0,m0]:=λA J S j s g0 G M Q q=>by
 subst j0 x0 b0;have T:=M.ia b (eK y) o0 i0;have A0:=M.len;have Z:#[jA]=S.drop b:=iG (by rw[dj];omega);have u0:=(mn.mp Q).rn s0;rw[Z]at T u0;refine h A _ j s g0 G M.gh T u0 λu d m k n0 h0 X k0 p=>?_;obtain⟨l,rfl⟩:=k;have c0:#[s,S.drop,b]=g.length:=by rw[dj];omega
 have t0:l.length=L.length:=by have:=k0.len;rw[aY,aY,c0,w0.len]at this;omega
 have E0:cM B (S.drop b) c d.heap:=by
  refine⟨c0.trans w0.len.symm,(uq.mp k0.nodup).1,λa I=>k0.high a (yL _ I),λi a e0 N a0=>?_⟩;have P:i<g.length:=by rw[<-c0];exact#[V,N]
  obtain⟨⟨o,F,v⟩,d0⟩:=k0.store i a e0 (gY (ff _ _) N) (gY (ff _ _) a0);refine⟨#[aY,F,?_],d0⟩;have:=v.take (j:=g.length) (w0.ok i e0 a0).1;rwa[<-c0,pP]at this
 have C:#[aQ,hc H b c,S,d]:=aB.ia b M E (eK y) i0 w0 (by rw[Z];exact T) (by rw[Z];exact h0) X (by rw[Z];exact E0);have t:(S++l).drop b=S.drop b++l:=#[D,oe];have p0:b<=(S++l).length:=by rw[aY];omega
 have C0:∀a∈l,#[R,a]:=λa I=>(n0 a (uo _ I)).elim (λq=>#[dp,(uq.mp k0.nodup).2.2 a q a I]) id;refine q u d (S++l) ⟨ff _ _,λa I=>?_,?_,C.fx⟩ (pv.mpr (by rw[t];exact p));.rw[nC M.cY]at I;exact(cZ.mp I).imp id λq=>C0 a q
 .have f0:∀(i:Nat)(a:ao)(q0:Ob),#[G,l,a]->#[G,L,q0]->(∃o,d.heap.get? a=aa o/\OR (S.drop b++l) o q0)/\iX B d.heap a q0:=λi a q0 N a0=>k0.store (g.length+i) a q0 (by rw[#[D,ew],c0,yU];exact N) (by rw[ew (by rw[w0.len];omega),w0.len,yU];exact a0);refine aG.pa (h:=s.heap) C.rel h0.size M.ju M.jt M.fX C0 (uq.mp k0.nodup).2.1 (by rw[aQ];exact t0) M.gh.1 (λi a e0 P r0=>?_) λi a e0 P r0=>?_;.rw[cg]at r0;obtain⟨q0,y0,rfl⟩:=dW.mp r0;obtain⟨⟨o,F,v⟩,_⟩:=f0 i a q0 P y0;exact#[aY,F,by rw[tF p0,t];exact v]
  .rw[cg]at r0;obtain⟨q0,y0,rfl⟩:=dW.mp r0;obtain⟨_,d0⟩:=f0 i a q0 P y0;refine(xN.mpr d0).ob λR e=>?_;cases q0 with|raw g0=>exact#[dp,l0 _ (bz y0) g0]|_=>cases e
end
noncomputable def lr:#[y]:=by run_tac av.de ["_ValueFormatter","_append_chunk"]
noncomputable def hL:bt:=by run_tac av.df ["_ValueFormatter","_append_chunk"]
noncomputable def akp:aN:=by run_tac av.sW `Mine.lr [1,0,0]
noncomputable def VE:aN:=by run_tac av.sW `Mine.lr [1,0,0,0,0]
noncomputable def Jx:aN:=by run_tac av.sW `Mine.lr [1,0,0,0,1]
theorem XI:#[fh,"pop_from"]:=by rw[cG,cE];kernel_rfl
def nW(I:#[ag])(j c:Nat):Prop:=∃x,#[av,I,x]/\x.2.getLast?=aa c
def iZ(I:#[ag])(c:Nat):#[a2,Nat]->Prop|aa i=>1<=i/\i<I.length/\nW I (i-1) c/\∀j,i<j->j<I.length->¬nW I (j-1) c|ab=>∀j,1<=j->j<I.length->¬nW I (j-1) c
section
variable{B:Bs}{w:aD}{d0 g0 s0 L:#[n]}{N:Nat}{p0:Tx}{d:#[B]}{C:Nat}{I:#[ag]}{m:#[hm]}{f p:Tx}{i A a E:#[bf]}
abbrev kp(f p:Tx)(E i A a:#[bf]):#[o]:=[#[ar],#[K,f],#[K,p],E,i,A,ab,a,ab,ab,ab]
abbrev cH:Tx:=[59,44]
theorem so(h0:#[c6]):iY B w n (dH hL) #[dL,#[aL,"self",F0],"_current_line",y0] (kp f p E i A a) #[dn] (.ob 4):=wA h0 rfl rfl #[ak]
theorem AS(h0:#[c6])(c:Nat)(X:oz (cI [c])=ag)(q:∀x∈I,x.2≠[])(P:hT I)(O:#[a2,Nat])(u:iZ I c O)(a0:2<=I.length)(o0:∀k,O=aa k->∀A,m .brk (kp f p (aa (.str [c])) (aa (.int #[b4])) A ab) (#[ew]))(j0:O=ab->∀i A,m .cont (kp f p (aa (.str [c])) i A ab) (#[ew])):aj B w 9 (dH hL) [VE,Jx] (kp f p (aa (.str [c])) i A ab) (#[ew]) m:=by
 have Y:#[ey]:=by have:=P.len;omega
 refine aj.gX (c:=λk v s=>s=#[ew]/\(∃i A,v=kp f p (aa (.str [c])) i A ab)/\∀j,1<=j->I.length-k<=j->j<I.length->¬nW I (j-1) c) 4 (ck.ZN (M:=I.length-1) (W.fh h0.F h0.G 9 1 rfl rfl #[E]) rfl (Ev.nx (qC (v0:=[]) (Y:=[]) h0 h0.N.count #[j] Lg rfl (so (v0:=[]) h0).ev rfl .nil ((qB (v0:=[]) (h0.count C I) #[aC] λx a=>by rw[aZ.mp a];exact#[ap,1<2]).le #[ap,6<=9]).s #[an] #[j] #[j]) (W.kq (q:=1) rfl) (St.iW #[f]).up) (W.kq (q:=0) rfl) (Ev.neg (W.kq (q:=1) rfl)) #[f] rfl) rfl #[aU] ⟨rfl,#[P,_],λj g T E=>by omega⟩ (λk v s⟨_,⟨_,_,e⟩,_⟩=>#[gs,by rw[e];exact bx rfl]) ?_ ?_ #[am]
 .rintro k x v s a⟨rfl,⟨i0,m0,rfl⟩,G⟩_ _;have R:k<I.length-1:=by have:=#[V,a];simpa using this
  obtain rfl:x=.int #[I,#[g0]]:=by rw[cg,rE R]at a;exact(hv a).symm
  obtain⟨y,n⟩:∃y,I[#[g0]-1]?=aa y:=#[bM,#[D,bD]];have e0:=bz n;obtain⟨z,r⟩:∃z,y.2.getLast?=aa z:=by cases h:y.2.getLast? with|some z=>exact#[bE,z]|none=>exact absurd (List.getLast?_eq_none_iff.mp h) (q y e0)
  have c0:=(P.each y e0).2;refine aj.ite (t:=ag) (Et.val (x:=#[dv]) (Ev.iU (x:=.str [c]) (Y:=[]) #[aD,3] rfl lY RQ RV rfl .nil (by rw[<-X];exact Cl.isspace) #[an] #[j] #[j]) rfl #[am]) ?_;rw[#[c7]];refine aj.nil ?_;refine#[k6,5,Ev.TC (k:=5) (d:=3) (i:=#[g0]-1) (p:=y) (r:=y.2) (o0:=#[ew]) h0.Ca h0.N (so (v0:=[]) h0).ev (Ev.nx #[aD,4] (W.kq (q:=1) rfl) (St.iW #[f]).up) (congrArg aa qW) n #[f] (.inr #[bV])];have k0:br y.2 (-#[bt])=aa z:=by have q0:y.2≠[]:=q y e0;have Q:0<y.2.length:=List.length_pos_iff.mpr q0;exact Uj (i:=0) Q (by rw[<-r,List.getLast?_eq_getElem?];rfl)
  have n0:∀{b:Bool},(([z]:Tx)==[c])=b->_:=λ{b}Z=>Et.qo (i0:=⟨65,23,65,54⟩) (dE.cons (B:=B) (w:=w) (n:=9) (O:=dH hL) (I:=.And) (r:=b) (t:=ae) (b0:=#[ew]) (H:=#[ew]) (U:=kp f p (aa (.str [c])) (aa (.int #[I,#[g0]])) (aa (.str y.2)) ab) (Et.val (x:=.str y.2) (Ev.name (x:=ak "prevpart") (i0:=⟨65,23,65,31⟩) 5 rfl rfl #[E]) ⟨dD c0,by cases h:y.2 with|nil=>exact absurd h (q y e0)|cons _ _=>rfl⟩ #[am]) (di.qk rfl (dE.cons (t:=b) (r:=b) (b0:=#[ew]) (by rw[<-Z];exact Et.hD (i0:=⟨65,36,65,54⟩) (Ev.Ow (i0:=⟨65,36,65,48⟩) (Ev.name (x:=ak "prevpart") (i0:=⟨65,36,65,44⟩) 5 rfl rfl #[E]) (Ev.neg (i0:=⟨65,45,65,47⟩) (W.kq (k:=0) (i0:=⟨65,46,65,47⟩) (q:=1) rfl)) (dD c0) k0) (Ev.name (x:=ak "ch") (i0:=⟨65,52,65,54⟩) 3 rfl rfl #[E]) St.seq.up (by rfl)) (show di B w 9 (dH hL) .And b [] _ _ b _ by cases b;exact di.vw rfl;exact di.qk rfl dE.Al))));by_cases f0:z=c
  .refine aj.ite (t:=ae) (n0 (by rw[f0];exact beq_self_eq_true _)) ?_;rw[#[cw]];refine aj.brk ?_;show aj B w 9 (dH hL) [Jx] _ _ m;refine aj.brk ?_;have M:nW I (#[g0]-1) c:=⟨y,n,f0▸r⟩;cases O with
  |none=>exact#[ac,M,u _ #[f] #[f]]
  |some i=>
   obtain⟨U,t,H,J⟩:=u
   have:i=#[g0]:=by
    rcases EZ i (I.length-1-k)with h|h|h;.exact#[ac,M,J _ h #[f]]
    .exact h
    .exact#[ac,H,G i U #[f] t]
   subst this;exact o0 _ rfl _
  .refine aj.ite (t:=ag) (n0 (beq_eq_false_iff_ne.mpr λe=>f0 (List.cons.inj e).1)) ?_;rw[#[c7]];refine#[dH,.inl ⟨rfl,#[P,_],λj g T E F=>?_⟩];by_cases o:j=#[g0];.subst o;obtain⟨S,b0,l0⟩:=F;rw[n]at b0;cases b0;rw[r]at l0;exact f0 (hv l0)
   .exact G j g #[f] E F
 .rintro v s⟨rfl,⟨i0,m0,rfl⟩,G⟩;refine aj.cont ?_;have l:#[s,(aR (I.length-1)).map,λk=>#[dD,#[g0]]]=I.length-1:=by simp
  rw[l]at G;cases O with|none=>exact j0 rfl _ _|some i=>exact#[ac,u.2.2.1,G i u.1 (by have:=u.1;omega) u.2.1]
end
section
variable{B:Bs}{w:aD}{d0 g0 s0 L:#[n]}{N:Nat}{p0:Tx}{d:#[B]}{C:Nat}{I:#[ag]}{f p:Tx}
theorem Hc:cz 3 (bY B C I++[hK B n0]):=#[aG,cz.cons #[aC] ph #[aO] #[dl,#[ap,2<=3],vt,#[dl,#[aC],Mz,λi x e=>by simp at e]]]
theorem Tt:#[ca,#[jL],2]:=λx z=>by
 simp at z;obtain rfl|rfl|rfl:=z;.exact#[ap,1<2]
 .trivial
 .trivial
noncomputable def GY:#[y]:=match lr with|_::.If _ (_::l) _ _::_=>l|_=>[]
theorem GW(h0:#[c6])(y:#[ey])(P:(n.endLine==N0.line)=ae)(h:aj B w 9 (dH hL) l (kp f p ab ab ab ab) (#[bj,cH,d,C,#[e5]]) m):aj B w 9 (dH hL) (.Expr #[bR,#[dL,#[dL,#[aL,"self",G],"_current_line",S],"push",n],[.Name (ak "fws") F0,.Name (ak "string") E0],N0] M::l) (kp f p ab ab ab ab) (#[ew]) m:=#[gK,qC h0 h0.N.push #[j] Li rfl (so h0).ev rfl #[hW,#[kO,1],#[b8,2]] ((qB (h0.push _ _ f p y) #[aC] Tt).le #[j]).s #[an] P #[aS],h]
theorem GX(h0:#[c6])(P:hT I)(O:C<=2^20):Et B w 9 (dH hL) (.Compare #[bR,#[aL,"len",F0],[.Attribute #[aL,"self",E0] (ak "_current_line") N0],M] [.Gt] [.Attribute #[aL,"self",S0] (ak "_maxlen") T] T0) (kp f p ab ab ab ab) (#[ew]) (decide (C+bQ I>N)) (#[ew]):=Et.hD (Ev.qp (W.fh h0.F h0.G 8 0 rfl rfl #[ak]) rfl #[bn,(so h0).ev] (JE h0 #[aC] P.each (by have:=P.sum;rw[ky]at this;omega) #[j])) (#[mu,Ev.oG,#[b8,0],h0.Nf.a1,Lk]) St.wG.up (by rfl)
theorem VM(h0:#[c6])(u:#[jz])(P:hT (I++[(f,p)]))(O:C<=2^20)(F:C+bQ (I++[(f,p)])<=N)(y:#[ca,d,0]):bH B w 10 113 #[jL] (#[ew]) .none (#[bj,cH,d,C,#[e5]]):=by refine#[ka,#[ak],#[p]];refine GW h0 (by have:=P.len;rw[aY]at this;omega) #[p] ?_;refine aj.ite (GX h0 P O) ?_;rw[#[D,decide_eq_false]];exact#[dH,dd.AE (jS y)]
theorem VS(h0:#[c6])(u:#[jz])(P:hT (I++[(f,p)]))(n:∀x∈I++[(f,p)],x.2≠[])(O:C<=2^20)(t:N<C+bQ (I++[(f,p)]))(i:Nat)(o:iZ #[e5] 59 (aa i)\/(iZ #[e5] 59 ab/\iZ #[e5] 44 (aa i)))(l:d.length+1<=2^20)(y:#[ca,d,0]):bH B w 10 113 #[jL] (#[ew]) .none (#[bj,cH,d++[.str (bC (#[e5].take i))],0,#[e5].drop i]):=by
 have g:#[ey]:=by have:=P.len;rw[aY]at this;omega
 have b:1<=i/\i<#[e5].length:=o.elim (λh=>⟨h.1,h.2.1⟩) λh=>⟨h.2.1,h.2.2.1⟩;refine#[ka,#[E],#[E]];refine GW h0 g #[j] ?_;generalize F:I++[(f,p)]=S at*;refine aj.ite (GX h0 P O) ?_;rw[show#[aB,C+bQ S>N]=ae from#[D,decide_eq_true],#[cw]]
 have r:hT (S.take i):=⟨λc X=>P.each c (eJ X),by have:=P.len;rw[bI];omega,by
  have a:=P.sum;rw[ky]at a⊢;refine aI ?_ a;have:bQ S=bQ (S.take i)+bQ (S.drop i):=by unfold bQ;rw[<-EP,<-hr,hQ]
  omega⟩
 have m:∀E A,aj B w 9 (dH hL) GY (kp f p E (aa (.int #[I,i])) A ab) (#[bj,cH,d,C,S]) (hZ B w 9 (dH hL) [] (dd 5 .none (#[bj,cH,d++[.str (bC (S.take i))],0,S.drop i]))):=λE A=>by
  have q:=P.len;have H:(dH hL).fz<=3:=aV _;refine aj.set (b0:=#[bj,cH,d,C,S.take i]++[aX 3 (hK B (S.drop i))]) 7 (qC (v0:=[]) (Y:=[#[ay,i]]) (r:=.ob 5) h0 h0.N.Zu #[j] XI rfl (so (v0:=[]) h0).ev rfl #[bn,#[aD,4]] ((eB.Uz (g:=bY B C S) (c:=bY B C (S.take i)) (L:=[hK B (S.drop i)]) 3 (h0.Zr C i S #[f] #[f]) H rfl (λk e0 e=>?_) mm mm (λe0 Q R=>?_) #[bO,?_] rfl rfl rfl).le #[ap,6<=9]).s #[an] #[j] #[j]) rfl #[aU] #[aS] #[am] ?_;.match k,e with|0,e=>cases e;rfl|1,e=>cases e;rfl|k+2,e=>simp at e
  .rw[aZ.mp Q];exact#[fL]
  .simp at z;rcases z with rfl|rfl;.exact#[ap,1<2]
   .trivial
  refine#[gK,W.append (o0:=#[bj,cH,d,C,S.take i]++[aX 3 (hK B (S.drop i))]) (By h0 rfl rfl #[E]) (Ev.sG (W.fh h0.F h0.G 10 11 rfl rfl #[E]) rfl #[bn,(wA h0 rfl rfl #[E]).ev] (JH (m:=7) h0 H r.each (by have:=r.len;omega) r.sum #[j])) #[bE,d] rfl #[aC] (by have:=dD l;omega) rfl rfl #[an] #[j],?_];refine aj.expr (b0:=#[bj,cH,d++[.str (bC (S.take i))],0,S.drop i]++[aX 3 (hK B (S.drop i))]) (qC (d:=d++[.str (bC (S.take i))]) (v0:=[aX 3 (hK B (S.drop i))]) (Y:=[.ob 5]) h0 h0.N.reset #[j] Lj rfl (wA h0 rfl rfl #[E]).ev rfl #[bn,#[aD,7]] ((bH.call (g:=bY B C (S.take i)++[hK B (S.drop i)]) (l:=bY B 0 (S.drop i)++[hK B (S.drop i)]) 3 (h0.reset C (S.take i) (S.drop i) (by rw[bI,dj];omega)) H #[aS] (λk e0 e=>?_) ?_ ?_ #[bO,?_] rfl rfl rfl).le #[ap,6<=9]).s #[an] #[j] #[j]) #[am] ?_;.match k,e with|0,e=>cases e;rfl|1,e=>cases e;rfl|2,e=>cases e;rfl|k+3,e=>simp at e
  .exact Hc
  .exact Hc
  .simp at z;rcases z with rfl|rfl;.exact#[ap,1<3]
   .exact#[ap,2<3]
  refine#[dH,dd.vK (jS λx z=>?_) (.inr #[bV]) trivial rfl];rcases cZ.mp z with z|z;.exact y x z
  .rw[aZ.mp z];trivial
 refine aj.gX (l:=GY) (c:=λk v s=>s=#[bj,cH,d,C,S]/\(∃E i A,v=kp f p E i A ab)/\(k=0\/(k=1/\iZ S 59 ab))) 3 (ck.str (t:=cH) (Ev.oG (k:=5) (j0:=wz N p0 cH) h0.Cf #[aD,0] rfl cA.dg rfl #[j] rfl h0.Nf.a4 Ll #[an] #[am])) rfl #[aU] ⟨rfl,#[Q,_,_,rfl],#[dq]⟩ (λk v s⟨_,⟨_,_,_,e⟩,_⟩=>#[gs,by rw[e];exact bx rfl]) ?_ ?_ #[am]
 .rintro k x v s z⟨rfl,⟨M,J,G,rfl⟩,j⟩_ _;rcases j with rfl|⟨rfl,Y⟩
  .cases z;rcases o with h|⟨h,c0⟩;.exact AS h0 59 #[E] n P (aa i) h #[f] (λk e A=>by cases e;exact m _ _) λe=>nomatch e
   .exact AS h0 59 #[E] n P ab h #[f] (λk e=>nomatch e) λ_ i A=>.inl ⟨rfl,#[Q,_,_,rfl],.inr #[aG,h]⟩
  .cases z
   have c0:iZ S 44 (aa i):=by
    rcases o with h|⟨h,c0⟩;.exact#[ac,h.2.2.1,Y i h.1 h.2.1]
    .exact c0
   exact AS h0 44 #[E] n P (aa i) c0 #[f] (λk e A=>by cases e;exact m _ _) λe=>nomatch e
 .rintro v s⟨_,_,h|⟨h,_⟩⟩<;>exact absurd h #[j]
end
namespace Re
abbrev code:#[ex]:=#[14,4,0,1,4294967295,17,0,24,11,1,4294967295,13,6,16,32,16,9,0,1,17,1,1]
def fk(c:Nat):Bool:=c==32||c==9
def ez(t:#[ex]):Nat->Nat->Nat|0,_=>0|n+1,p=>if fk (t.getD p 0)then ez t n (p+1)+1 else 0
theorem TR(c:Nat)(i:gO):∃L,Sre.accepts code 11 c i=.ok (fk c,L):=by
 by_cases h:c=32;.subst h;exact#[bu]
 .by_cases a0:c=9;.subst a0;exact#[bu]
  .refine#[a3,((i.add 16).add 16).add 0];show(if(c==32)=ae then _ else#[aa,(c==9)=ae,_,_])=_;rw[fk,(beq_eq_false_iff_ne.mpr h),(beq_eq_false_iff_ne.mpr a0)];rfl
theorem Nb(t:#[bI]):∀(n p f:Nat)(i:gO),∃L,zC code t 11 n p f i=.ok (f+ez t n p,L)|0,p,f,i=>#[bu]|n+1,p,f,i=>by obtain⟨k0,N⟩:=TR _ _;unfold zC ez;rw[N];cases Z:fk _ with|true=>obtain⟨m,a0⟩:=Nb t n _ _ _;refine#[a3,m];show zC _ t _ n _ _ _=_;rw[a0,#[cw]];congr 2;omega|false=>exact#[bu]
def St(t:#[ex])(a s:Nat)(j:Bool)(S:#[a2,Nat])(i:gO):kS:={code:=code,text:=t,lim:=a,start:=s,lastStart:=a,pc:=5,pos:=s,handed:=s,outermost:=j,marks:=#[S,ab],frames:=[{wait:=.nextStart,pc:=5,pos:=s,outermost:=j}],weight:=1,seen:=i}
theorem tz:∀(a b:Nat)(m:kS),m.runFor (a+b)=(m.runFor a).runFor b
 |0,b,m=>by rw[gM];rfl
 |a+1,b,m=>by
  rw[rJ];show(if m.outcome.isSome then m else(m.step).runFor _)=kT b #[aa,m.outcome.isSome,m,(m.step).runFor a];split;.cases b with|zero=>rfl|succ b=>show m=if m.outcome.isSome then m else _;rw[#[D,if_pos]]
  .exact tz a b _
def S1(t:#[ex])(a s:Nat)(j:Bool)(i:gO):kS:={St t a s j (aa s) i with lastmark:=0,pc:=7}
theorem Od(t:#[bI])(a s:Nat)(j:Bool)(S:Option _)(i:gO):(St t a s j S i).step=S1 t a s j #[gf]:=rfl
theorem acr(t:#[bI])(a:Nat)(j:Bool)(i:gO):(S1 t a a j i).step={S1 t a a j (i.add 24)with answer:=aa ag}:=by show#[gb,#[bg]>(a:Int)-a];rw[#[D,if_pos]];rfl
def S2(t:#[ex])(a s r:Nat)(j:Bool)(i:gO):kS:={St t a s j (aa s) i with lastmark:=0,pc:=19,pos:=s+r,handed:=s+r,weight:=2,frames:=[{wait:=.giveBack,pc:=7,pos:=s+r,outermost:=j,count:=r,kept:={lastmark:=0}},{wait:=.nextStart,pc:=5,pos:=s,outermost:=j}]}
theorem acq(t:#[bI])(a s:Nat)(j:Bool)(i:gO)(h:s<a)(y:a<=4294967295):∃L,(S1 t a s j i).step=if ez t (a-s) s<1 then{S1 t a s j L with answer:=aa ag}else S2 t a s (ez t (a-s) s) j L:=by obtain⟨L,u⟩:=Nb t _ s 0 _;refine#[a3,L];show#[gb,#[bg]>(a:Int)-s];rw[#[fj]];show(match zC code t 11 (min 4294967295 ((a:Int)-s).toNat) s 0 ((i.add 24).add 13)with|.error _=>_|.ok (n,S)=>_)=_;rw[show min _ _=a-s by omega,u,gM];rfl
def Fd(t:#[ex])(a s r:Nat)(o:Bool)(i:gO):kS:={code:=code,text:=t,lim:=a,start:=s,lastStart:=a,pc:=5,pos:=s,handed:=s+r,outermost:=o,marks:=#[aa s,aa (s+r)],lastmark:=1,lastindex:=1,seen:=i,answer:=aa ae,outcome:=aa .matched}
def S3(t:#[ex])(a s r:Nat)(j:Bool)(i:gO):kS:={S2 t a s r j #[gf]with marks:=#[aa s,aa (s+r)],lastmark:=1,lastindex:=1,pc:=21}
theorem acs(t:#[bI])(a s r:Nat)(j:Bool)(i:gO):(S2 t a s r j i).step=S3 t a s r j i:=by kernel_rfl
def S4(t:#[ex])(a s r:Nat)(j:Bool)(i:gO):kS:={S3 t a s r j i with seen:=#[gf].add 1,answer:=aa ae}
theorem ada(t:#[bI])(a s r:Nat)(j:Bool)(i:gO):(S3 t a s r j i).step=S4 t a s r j i:=by cases j<;>rfl
theorem adb(t:#[bI])(a s r:Nat)(j:Bool)(i:gO):(S4 t a s r j i).step.step={Fd t a s r j (#[gf].add 1)with outcome:=ab}:=rfl
theorem BK{m:kS}{n:Nat}(h:m.outcome.isSome=ag):m.runFor (n+1)=m.step.runFor n:=by rw[kT,h];rfl
theorem Wa(t:#[ex])(a s r:Nat)(j:Bool)(i:gO):(S2 t a s r j i).runFor 5=Fd t a s r j (#[gf].add 1):=by rw[BK rfl,acs,BK rfl,ada,BK rfl,BK rfl,adb];rfl
theorem again(t:#[bI])(a s:Nat)(j:Bool)(i:gO)(h:s<a):{S1 t a s j i with answer:=aa ag}.step=St t a (s+1) ag (aa s) i:=by show#[gb,s<a];rw[if_pos h];rfl
theorem Vq(t:#[bI])(a:Nat)(j:Bool)(i:gO):∃m,{S1 t a a j i with answer:=aa ag}.runFor 2=m/\(match m.outcome with|aa .failed=>True|_=>False):=by
 refine#[cg,?_];have e:{S1 t a a j i with answer:=aa ag}.step={S1 t a a j i with answer:=aa ag,frames:=[],weight:=0,pc:=5,outermost:=j}:=by show#[gb,a<a];rw[if_neg (ft _)];rfl
 show(match(kT 1 _).outcome with|aa .failed=>True|_=>False);rw[e];exact trivial
end Re
namespace Re
def dh(t:#[ex]):Nat->Nat->Nat|0,_=>0|n+1,p=>if fk (t.getD p 0)then 0 else dh t n (p+1)+1
def jj(t:#[ex])(a s:Nat)(m:kS):Prop:=if s+dh t (a-s) s<a then∃o i,m=Fd t a (s+dh t (a-s) s) (ez t (a-(s+dh t (a-s) s)) (s+dh t (a-s) s)) o i else(match m.outcome with|aa .failed=>True|_=>False)
theorem NZ(t:#[ex])(a:Nat)(y:a<=4294967295):∀(d s:Nat)(j:Bool)(S:#[a2,Nat])(i:gO),s+d=a->∃h0,h0<=3*d+7/\jj t a s ((St t a s j S i).runFor h0)
 |0,s,j,S,i,c=>by obtain rfl:s=a:=c;obtain⟨m,e,h⟩:=Vq t s j (#[gf].add 24);refine#[bN,4,by omega];show jj t s s (kT 3 ((St t s s j S i).step));rw[Od];show jj t s s (kT 2 ((S1 t s s j #[gf]).step));rw[acr,e];unfold jj;rw[kN,#[bJ,#[z]]];exact h
 |d+1,s,j,S,i,c=>by
  obtain⟨L,u⟩:=acq t a s j #[gf] #[f] y;have e:∀h0,(St t a s j S i).runFor (h0+2)=kT h0 #[aa,ez t (a-s) s<1,{S1 t a s j L with answer:=aa ag},S2 t a s (ez t (a-s) s) j L]:=λh0=>by show kT (h0+1) ((St t a s j S i).step)=_;rw[Od];show kT h0 ((S1 t a s j #[gf]).step)=_;rw[u]
  have l:a-s=d+1:=by omega
  cases Z:fk (t.getD s 0)with
  |true=>
   refine#[bN,5+2,by omega];have b:¬ez t (a-s) s<1:=by rw[l,ez,Z,#[cw]];omega
   rw[e,if_neg b,Wa];have H:dh t (a-s) s=0:=by rw[l,dh,Z,#[cw]]
   unfold jj;rw[H,rK,#[D,if_pos]];exact#[P,_]
  |false=>
   have b:ez t (a-s) s<1:=by rw[l,ez,Z,#[c7]];omega
   obtain⟨h0,f,h⟩:=NZ t a y d (s+1) ag (aa s) L #[f];refine#[bN,h0+1+2,by omega];rw[e,if_pos b];show jj t a s (kT h0 (Sre.M.step _));rw[again _ _ _ _ _ #[f]];have H:s+dh t (a-s) s=(s+1)+dh t (a-(s+1)) (s+1):=by rw[l,dh,Z,#[c7],show a-(s+1)=d by omega];omega
   unfold jj at h⊢;rw[H];exact h
theorem jj.ends(h:jj t a s m):m.outcome.isSome=ae:=by
 unfold jj at h;split at h;.obtain⟨o,i,rfl⟩:=h;rfl
 .cases e:m.outcome with|none=>simp_all|some _=>rfl
theorem Dg:∀(h0:Nat)(m:kS),m.outcome.isSome=ae->m.runFor h0=m|0,m,_=>rfl|h0+1,m,h=>by show(if m.outcome.isSome then m else _)=m;rw[if_pos h]
section
variable{w:aD}{A:aS}{E:#[C]}{s:au}
theorem IG:∀(t h0:Nat)(m:kS),h0<=4*t->0<t->(m.runFor h0).outcome.isSome=ae->Q (m.runFor h0) s->#[as,Ri t m]
 |0,h0,m,_,H,_,_=>absurd H (ft 0)
 |t+1,h0,m,j,_,a,q=>by
  unfold Ri;show#[cT,#[aa,(m.runFor 4).outcome.isSome,aw _,_]];by_cases b:(m.runFor 4).outcome.isSome=ae
  .rw[if_pos b]
   have e:m.runFor h0=m.runFor 4:=by
    obtain h|h:=lQ h0 4;.obtain⟨c,X⟩:=yW h;rw[<-X,tz,Dg c _ a]
    .obtain⟨c,X⟩:=yW h;rw[<-X,tz,Dg c _ b]
   exact aA (e▸q)
  .rw[if_neg b];have d:4<h0:=by refine Nat.lt_of_not_le λh=>b ?_;obtain⟨c,X⟩:=yW h;rw[<-X,tz,Dg c _ a];exact a
   obtain⟨c,rfl⟩:=yW (eh d);rw[tz]at a q;exact af (hY (IG _ c _ #[f] #[f] a q))
theorem Df{c:Nat->Bool}{x:Nat->String}(q:Q ⟨⟩ s):#[eB,#[as,forIn l Fk λi _=>if c i=ae then(do
 rule (x i);aw (lK Fk))else aw (lK Fk)]]|[]=>aA q|i::l=>by rw[lM];refine af ?_;cases X:c i with|true=>exact af (hY (aA (Df q l)))|false=>exact aA (Df q l)
theorem OF{a p h0:Nat}(j:h0<=2^60)(h:jj t a p (m.runFor h0))(y0:∀o i,p+dh t (a-p) p<a->Q (aa (Fd t a (p+dh t (a-p) p) (ez t (a-(p+dh t (a-p) p)) (p+dh t (a-p) p)) o i)) s)(O0:¬p+dh t (a-p) p<a->Q ab s):#[as,Builtin.Re.reRunToEnd m]:=by
 refine af (IG _ h0 m (aI j #[j]) #[j] h.ends ?_);refine af (Df ?_ _);unfold jj at h;split at h;.rename_i J;obtain⟨o,i,e⟩:=h;rw[e];exact aA (y0 o _ J)
 .rename_i J;split at h;.rename_i e;rw[e];exact aA (O0 J)
  .exact h.elim
theorem next{Q:#[aI,#[a2,kS]]}{d:Rh}{p:Nat}(X:d.code=code)(U:d.groups=1)(y:d.lim=d.text.size)(Z:d.text.size<=2^20)(C:p<=d.text.size)(y0:∀o i,p+#[jF]<d.text.size->Q (aa (Fd d.text d.text.size (p+#[jF]) (ez d.text (d.text.size-(p+#[jF])) (p+#[jF])) o i)) s)(O0:¬p+#[jF]<d.text.size->Q ab s):#[as,zk d p ag]:=by
 unfold zk;rw[X,U,y];by_cases S:p=d.text.size
 .have l:∃i,Si code d.text 1 p d.text.size ag={St d.text d.text.size p ae ab i with frames:=[],weight:=0,lastStart:=0,answer:=aa ag}:=by refine#[a3,FW {} 14];show#[gb,#[aB,p>d.text.size]||#[aB,d.text.size-p<1]];rw[if_pos (by simp;omega)];rfl
  obtain⟨i,l⟩:=l;rw[l];refine OF (t:=d.text) (a:=d.text.size) (p:=p) (h0:=1) #[j] ?_ y0 O0;unfold jj;rw[S,kN,#[bJ,show¬d.text.size+dh d.text 0 d.text.size<d.text.size by unfold dh;omega]];exact trivial
 .have l:Si code d.text 1 p d.text.size ag=St d.text d.text.size p ae ab (FW {} 14):=by show#[gb,#[aB,p>d.text.size]||#[aB,d.text.size-p<1]];rw[#[bJ,by simp;omega]];rfl
  rw[l];obtain⟨h0,j,h⟩:=NZ d.text d.text.size #[f] (d.text.size-p) p ae ab (FW {} 14) #[f];exact OF #[f] h y0 O0
end
end Re
namespace Re
def eo:Bool->Tx->Tx->#[bB]|ag,A,[]=>[A]|ae,A,[]=>[A,[]]|ag,A,c::r=>if fk c then A::eo ae [c] r else eo ag (A++[c]) r|ae,A,c::r=>if fk c then eo ae (A++[c]) r else A::eo ag [c] r
theorem vU:∀(a A r:Tx),(∀c∈a,fk c=ag)->eo ag A (a++r)=eo ag (A++a) r|[],A,r,_=>by simp|c::a,A,r,h=>by rw[fH,eo,h c #[bL],vU a _ r #[ga]];simp
theorem Bd:∀(b A r:Tx),(∀c∈b,fk c=ae)->eo ae A (b++r)=eo ae (A++b) r|[],A,r,_=>by simp|c::b,A,r,h=>by rw[fH,eo,h c #[bL],Bd b _ r #[ga]];simp
theorem Ip{A d:Tx}(h:∀c r,d=c::r->fk c=ag):eo ae A d=A::eo ag [] d:=by cases d with|nil=>rfl|cons c r=>rw[eo,eo,h c r rfl];rfl
theorem UY{a b d:Tx}(I:∀c∈a,fk c=ag)(Z:∀c∈b,fk c=ae)(n:b≠[])(e:∀c r,d=c::r->fk c=ag):eo ag [] (a++(b++d))=a::b::eo ag [] d:=by rw[vU a _ _ I];cases b with|nil=>exact#[dp,n]|cons c b=>rw[fH,eo,Z c #[bL],Bd b _ _ λx z=>Z x #[bo,z],Ip e];rfl
theorem BB{t:#[bI]}{p:Nat}(h:p<t.size):t.toList.drop p=t.getD p 0::t.toList.drop (p+1):=by rw[og (#[f])];simp[Array.getD,h]
theorem Dx(t:#[bI]):∀(n p:Nat),p+n=t.size->(∀c∈(t.toList.drop p).take (dh t n p),fk c=ag)/\p+dh t n p<=t.size/\(p+dh t n p<t.size->fk (t.getD (p+dh t n p) 0)=ae)
 |0,p,h=>⟨λc X=>by simp[dh]at X,by simp[dh];omega,λc0=>#[f]⟩
 |n+1,p,h=>by unfold dh;cases Z:fk _ with
 |true=>rw[#[cw]];exact⟨λc X=>by simp at X,by omega,λ_=>Z⟩
 |false=>
  rw[#[c7]];obtain⟨N,a0,T⟩:=Dx t n (p+1) #[f];refine⟨λc X=>?_,by omega,λc0=>?_⟩
  .rw[#[D,BB]]at X;obtain rfl|X:=bg.mp X;.exact Z
   .exact N c X
  .rw[show p+(dh t n _+1)=p+1+dh t n (p+1)by omega]at c0⊢;exact T c0
theorem Nc(t:#[bI]):∀(n p:Nat),p+n=t.size->(∀c∈(t.toList.drop p).take (ez t n p),fk c=ae)/\p+ez t n p<=t.size/\(p+ez t n p<t.size->fk (t.getD (p+ez t n p) 0)=ag)/\(p<t.size->fk (t.getD p 0)=ae->0<ez t n p)
 |0,p,h=>⟨λc X=>by simp[ez]at X,by simp[ez];omega,λc0=>by simp[ez]at c0;omega,λc0=>by omega⟩
 |n+1,p,h=>by unfold ez;cases Z:fk _ with
 |false=>rw[#[c7]];exact⟨λc X=>by simp at X,by omega,λ_=>Z,λ_ c0=>by cases c0⟩
 |true=>
  rw[#[cw]];obtain⟨N,a0,T,_⟩:=Nc t n (p+1) #[f];refine⟨λc X=>?_,by omega,λc0=>?_,λ_ _=>by omega⟩
  .rw[#[D,BB]]at X;obtain rfl|X:=bg.mp X;.exact Z
   .exact N c X
  .rw[show p+(ez t n _+1)=p+1+ez t n (p+1)by omega]at c0⊢;exact T c0
theorem UW(t:#[ex])(p q e:Nat)(C:p<=t.size)(O:q=p+dh t (t.size-p) p)(S:e=q+ez t (t.size-q) q)(J:q<t.size):p<=q/\q<e/\e<=t.size/\eo ag [] (t.toList.drop p)=(t.extract p q).toList::(t.extract q e).toList::eo ag [] (t.toList.drop e):=by
 obtain⟨N,a0,T⟩:=Dx t (t.size-p) p #[f];rw[<-O]at a0 T;obtain⟨U,a,w,Z⟩:=Nc t (t.size-q) q #[f];rw[<-S]at a w;have b:=Z J (T J);refine#[bP,by omega,by omega,a];have u:dh t (t.size-p) p=q-p:=by omega
 have H:ez t (t.size-q) q=e-q:=by omega
 rw[u]at N;rw[H]at U;have F:=by have:=(hQ (q-p) (t.toList.drop p)).symm;rwa[kJ,show p+(q-p)=q by omega]at this
 have d:=by have:=(hQ (e-q) (t.toList.drop q)).symm;rwa[kJ,show q+(e-q)=e by omega]at this
 have L0:(t.extract p q).toList=(t.toList.drop p).take (q-p):=#[z];have y:(t.extract q e).toList=(t.toList.drop q).take (e-q):=by simp
 rw[L0,y,F,d];have A0:((t.toList.drop p).take (q-p)++((t.toList.drop q).take (e-q)++t.toList.drop e)).take (q-p)=(t.toList.drop p).take (q-p):=by rw[<-d,<-F]
 rw[A0];have t0:((t.toList.drop q).take (e-q)++t.toList.drop e).take (e-q)=(t.toList.drop q).take (e-q):=by rw[<-d]
 rw[t0];refine UY N U (λh=>?_) λc r X=>?_;.have:=congrArg hq h;simp at this;omega
 .by_cases z:e<t.size;.rw[BB z]at X;cases X;exact w z
  .rw[ud (by simp;omega)]at X;cases X
theorem UX(t:#[bI])(p:Nat)(C:p<=t.size)(h:¬p+dh t (t.size-p) p<t.size):eo ag [] (t.toList.drop p)=[(t.extract p t.size).toList]:=by obtain⟨N,a0,T⟩:=Dx t (t.size-p) p #[f];rw[(by omega:dh t _ p=t.size-p)]at N;have e:(t.toList.drop p).take (t.size-p)=t.toList.drop p:=iG (by simp);have L0:(t.extract p t.size).toList=(t.toList.drop p).take (t.size-p):=#[z];rw[e]at L0;rw[e]at N;have:=vU _ [] [] N;rw[gy]at this;rw[this,L0];rfl
def uB(h:bo)(P:ao):Prop:=∃o j0 l Y n,#[e3,P]/\o.cls=.type "re.Pattern"/\o.dict=ab/\o.data=.fields j0/\j0[2]?=aa (cF 1)/\j0[6]?=aa (cF 0)/\j0[5]?=aa (.ref l)/\(∃I,#[bv,l,I]/\I.data=.seq Y n)/\(Y.map Builtin.Re.reRawOf).map (·.toNat)=code
section
variable{w:aD}{A:aS}{E:#[C]}{h:bo}{g:#[da]}{d:hU}{t:Nat}{h0:gB}
theorem aei(f:uB h P)(q:Q {pattern:=.ref P,string:=.str x k,code:=code,text:=x.cps,kind:=0,groups:=1,pos:=0,lim:=x.cps.size} #[bw]):#[d1,#[b3,Builtin.Re.reWholeTarget,P,.str x k]]:=by
 obtain⟨o,j0,l,Y,n,a,X,H,c,a0,b,r,⟨I,p,i⟩,e⟩:=f;refine#[bF,Aa,a,c];refine#[cX,rfl];have L:j0.getD 6 .none=cF 0:=by rw[Ea,b];rfl
 rw[L,(by rw[Ea,r];rfl:j0.getD 5 _=.ref l),(by rw[Ea,a0];rfl:j0.getD 2 _=cF 1)];refine#[cX,rfl];refine#[bW,lj p i (aA (aA ?_))];rw[#[co,((aa Y).getD _).map _=Y.map _],e];exact q
def tO(P:ao)(x:aq)(k:gn):Rh:={pattern:=.ref P,string:=.str x k,code:=code,text:=x.cps,kind:=0,groups:=1,pos:=0,lim:=x.cps.size}
def body(P:ao)(x:aq)(k:gn):Nat->#[bb]×Nat×Nat×Bool×Int×Bool->dF (ForInStep (#[bb]×Nat×Nat×Bool×Int×Bool)):=λ_ r=>if(!r.2.2.2.2.2)=ae then do
 let M<-if(0 !=0&&#[aB,r.2.2.2.2.1>=0])=ae then aw ab else zk (tO P x k) r.2.1 r.2.2.2.1
 match M with
  |ab=>aw (lK (r.1,r.2.1,r.2.2.1,r.2.2.2.1,r.2.2.2.2.1,ae))
  |aa m=>
   do
    let a<-Fu x.cps 0 r.2.2.1 m.start
    let X<-forIn (aR 1) (r.1.push a) λg o=>do
     let b<-Rj (tO P x k) m (g+1) (aw rS);aw (lK (o.push b))
    aw (lK (X,m.handed,m.handed,m.handed==m.start,r.2.2.2.2.1+1,r.2.2.2.2.2))else aw (lK (r.1,r.2.1,r.2.2.1,r.2.2.2.1,r.2.2.2.2.1,r.2.2.2.2.2))
theorem slice(p:T.size<=2^20)(q:∀v p0,VR [] v #[ao,(T.extract b e).toList]->Q v #[fv]):#[as,Fu T 0 b e]:=wpAny_mkStr (q _ _ #[cV,_]) (dD (by show(T.extract b e).size<=_;rw[Eb];omega))
theorem Wi{i:gO}{d:dF _}:Rj (tO P x k) (Fd T a b r o i) (0+1) d=Fu x.cps 0 b (b+r):=by show(if(0:Int)>=1 then _ else if b+r<b then _ else _)=_;rw[#[eW],#[fj]];rfl
theorem over:∀(l:#[g])(a:#[bI])(b c:Nat)(m:Bool)(n:Int),Q (a,b,c,m,n,ae) s->#[as,forIn l (a,b,c,m,n,ae) (body P x k)]|[],a,b,c,m,n,q=>aA q|i::l,a,b,c,m,n,q=>by rw[lM];exact#[db,over l a b c m n q]
theorem Lo{x:aq}{s:au}(Z:x.cps.size<=2^20)(q:∀a b c m n u p0,#[fi,a.toList,ah u]->e=u++[(x.cps.extract c x.cps.size).toList]->Q (a,b,c,m,n,ae) #[fv]):∀(l:#[i])(a:#[bb])(p:Nat)(n:Int)(u:#[bB])(p0:Nat),p<=x.cps.size->x.cps.size-p<l.length->#[fi,a.toList,ah u]->e=u++eo ag [] (x.cps.toList.drop p)->#[dT,forIn l (a,p,p,ag,n,ag) (body P x k),#[fv]]
 |[],a,p,n,u,p0,C,y,_,_=>#[ac,y,Ff _]
 |i::l,a,p,n,u,p0,C,y,I,n0=>by
  rw[lM];refine af ?_;show#[ed,zk (tO P x k) p ag];refine af (next rfl rfl rfl Z C (λo seen J=>?_) λJ=>?_);.rw[#[co,(tO P x k).text=x.cps]]at J⊢;obtain⟨U,g,h,j⟩:=UW x.cps p _ _ C rfl rfl J;generalize p+dh x.cps (x.cps.size-p) p=t at*;generalize f:ez x.cps (x.cps.size-t) t=r at*;refine af (slice Z λv z d=>?_);refine af ?_;rw[#[co,aR 1=[0]],lM];refine#[a0,af];rw[Wi];refine slice Z λC0 N B=>aA ?_;dsimp only;rw[rC];refine aA (aA ?_);rw[show((Fd x.cps x.cps.size t r o seen).handed==(Fd x.cps x.cps.size t r o seen).start)=ag from beq_eq_false_iff_ne.mpr (show t+r≠t by omega)];refine Lo Z q l _ (t+r) (n+1) (u++[#[nM],#[ni]]) N h (by simp at y;omega) ?_ (#[Y]);rw[pF,pF,du,show ah (u++[#[nM],#[ni]])=ah u++([.str #[nM]]++[.str #[ni]])by simp[ah]];exact I.append (.cons d #[bn,B])
  .exact aA (over l _ _ _ _ _ (q _ _ _ _ _ u p0 I (by rw[n0,UX x.cps p C J])))
theorem split(f:uB h P)(Z:x.length<=2^20)(e:#[fp,(eo ag [] x.cps.toList)])(q:∀Y p0,#[fi,Y,ah (eo ag [] x.cps.toList)]->Q (.done #[cP,.ret,h.objs.size]) #[a7,h.push #[aj,"list",.seq,Y.toArray],p0]):#[d1,Builtin.«re.Pattern.split» #[ai,[.ref P,.str x k]]]:=by
 refine af (cQ (a:=[aa _,ab]) (by rfl) ?_);refine#[db,af (aei f ?_)];show#[ed,forIn (aR (2*x.cps.size+3)) _ (body P x k)];refine af (Lo (e:=eo _ _ x.cps.toList) (s:=⟨h,g,d,t,_⟩) Z (λa b c m n u p0 I n0=>?_) _ _ 0 0 [] t #[aC] (by simp;omega) .nil #[p]);refine af (slice Z λv N p=>?_);refine#[bd,GK,#[cv]];.have:=q (a.push v).toList N (by rw[pF,n0,show ah (u++[(x.cps.extract c _).toList])=ah u++[.str (x.cps.extract c x.cps.size).toList]by simp[ah]];exact I.append (.cons p .nil));exact this
 .rw[n0]at e;have:=I.length;rw[pF,aY,this];refine dD ?_;simpa[ah]using e
end
end Re
theorem NO:ox "re.Pattern" "split" "re.Pattern.split":=.of (owner:="re.Pattern") (n:="split") (by rw[cG,cE];kernel_rfl) #[ax] #[p] #[p] (.inr (by rw[BM];kernel_rfl)) (by rw[zP];kernel_rfl)
theorem Vt:kW lg "re.Pattern.split"=aa Builtin.«re.Pattern.split»:=uY (#[p])
theorem Uc(a b:ai):kU "re.Pattern.split" #[ai,[a,b]]:=by kernel_rfl
theorem afq:jg (.builtin "re.Pattern.split")=aw (.type "method_descriptor"):=by show builtinType _=_;rw[builtinType_eq_fast];kernel_rfl
theorem Un:zB "re.Pattern":=⟨⟨"object.__getattribute__",by rw[cG,cE];kernel_rfl,FG⟩,by rw[cG,cE];kernel_rfl⟩
def ot(B:Bs)(P:ao):Prop:=Re.uB B.heap P/\#[aq,P]/\∀o j0 l,#[gq,P]->o.data=.fields j0->j0[5]?=aa (.ref l)->#[aq,l]
theorem ot.at_(f:ot B P)(k:GH B h):Re.uB h P:=by obtain⟨⟨o,j0,l,Y,n,g,X,H,c,a0,Q,r,⟨I,p,a⟩,b⟩,s,J⟩:=f;exact⟨o,_,l,_,n,#[aZ,k,g,s],X,H,c,a0,Q,r,#[aw,#[aZ,k,p,J o _ l g c r],a],b⟩
section
variable{B:Bs}{w:aD}{n:Nat}{O:Gm}{U:#[o]}{H b0 m0:#[l]}{i0 y0 p:ba}{e:aT}
theorem Ev.ZP{x:aq}{P:ao}{t:Tx}{q0:#[B]}{r:Nat}(v:cN B w n O #[cy] #[M,P])(R:ot B P)(u:#[ee])(I:#[b6,e,#[bm]])(Z:t.length<=2^20)(i:#[fp,(Re.eo ag [] t)])(m:ah (Re.eo ag [] t)=q0)(j:#[fH])(L:#[ea,b0])(a0:∀J,ej #[cy] (ak "split") J (aW #[cy] J)=aW (.Name x p) J)(c0:#[b7]):#[aP,#[cU,#[dL,#[cy],"split",y0],[e]],.ob r,m0]:=λA J S s Q E G M q=>by
 subst m j L;refine qh (a0 J) (sS u #[z]) c0 (dt i0 J u) (v A J S U H s _ E G M ?_);have l0:∀{s:au},#[c9]->s.TypeIs (.ref P) "re.Pattern"/\∀a,(iL P)=.ref a->∃e0,#[ch,a,e0]/\e0.dict=ab:=λz=>by obtain⟨o,j0,l,Y,n,b,X,d0,_⟩:=R.at_ z;exact⟨#[aY,b,X],λa e=>by cases e;exact#[aY,b,d0]⟩
 refine⟨"re.Pattern","re.Pattern.split",Un,NO,afq,(l0 M.gh).1,(l0 M.gh).2,?_⟩;refine kQ (fZ J [e]) (eR (#[e6,(cy.cons I .nil),λf k0 F C T=>?_]));cases T with|cons T N=>cases N;obtain⟨y,k,rfl,rfl⟩:=T;have g0:=R.at_ C.rel.gh;have n0:=(l0 C.rel.gh).1;obtain⟨h,g,d,p0,h0⟩:=k0;refine iN NO n0 Vt (Re.split g0 Z i λY f0 c=>#[cg,?_]) (Uc _ _);refine q _ _ (F++[h.objs.size]) (C.trans (aB.push (s:=#[a7,h,p0]) (t:=f0) C.rel rfl #[Q,0,rfl,by rw[Hm];exact c.mono λ_ _ r=>r.nil _])) #[ok]
end
namespace Re
structure yq(c:Tx×Tx):Prop where
 b:∀x∈c.1,fk x=ae
 bne:c.1≠[]
 w:∀x∈c.2,fk x=ag
 OY:c.2≠[]
theorem Iq:∀(I:#[g])(A:Tx),(∀c∈I,yq c)->eo ag A (bC I)=A::I.flatMap λc=>[c.1,c.2]
 |[],A,_=>rfl
 |c::r,A,h=>by have g:=h c #[bL];rw[(by simp[bC]:bC _=c.1++(c.2++bC r))];cases N:c.1 with
 |nil=>exact#[ac,N,g.bne]
 |cons x b=>
  have Z:=g.b;rw[N]at Z;rw[fH,eo,Z x #[bL],#[cw],Bd b _ _ λy m=>Z y #[bo,m],Ip,vU _ _ _ g.w,(Iq r _ λx a=>h x #[bo,a])];.simp[N]
  .intro y d e;cases a0:c.2 with|nil=>exact#[ac,a0,g.OY]|cons z J=>rw[a0]at e;cases e;exact g.w y (by rw[a0];exact .head _)
end Re
namespace nu
structure rp(z u r i l:ao):Prop where
 TIz:u≠z
 TOz:r≠z
 iz:i≠z
 TITO:u≠r
 Tq:u≠i
 vn:r≠i
 lz:l≠z
 WE:l≠r
 li:l≠i
section
variable{w:aD}{A:aS}{E:#[C]}{s:au}{z u r i l:ao}{k:Nat}{X:#[bb]}{x y a b:ai}
theorem item{Q:#[C]}(f:rp z u r i l)(h:#[lZ])(J:#[lU])(S:gm s.heap r a b)(N:#[i4,k])(g:s.heap.IsList l X)(d:X[k]?=aa x)(m:X[k+1]?=aa y)(H:∀c0,jc c0 z u r (cF s.heap.objs.size)->gm c0 r x y->c0.IsListIter i l (k+1+1)->gm c0 s.heap.objs.size x y->#[ko,c0.objs.size]->(∀c o,c≠z->c≠r->c≠i->#[kw]->#[dz,c])->#[bs,s.heap.objs.size,#[hJ]]):#[el,Builtin.«zip.__next__» #[ai,[.ref z]],#[nV],s]:=by
 show#[ed,rX (.ref z) 2];refine#[dI,h,rfl,#[dv]];show#[ed,rX (.ref z) 3];refine af (dY h rfl (x:=.ref u) rfl (af (lj J rfl ?_)));show#[ed,Rm (.ref z)];unfold Rm;refine#[bW,dY h rfl (x:=.none) rfl #[cv]];simp only[if_true];refine af (hY (af (dY h rfl (x:=.ref r) rfl (af (oD h #[z] λM O p=>af ?_)))));replace O:jc M z u r .ellipsis:=O;simp only[List.zipIdx_cons,List.zipIdx_nil,lM,rC];refine#[bW,si ?_];show#[ed,Rk (.ref i)];have j0:M.IsList l X:=g.extBut p.extBut f.lz;refine af (Tf (N.extBut p.extBut f.iz) j0 d λt m0 C=>aA ?_);have g0:gm t r a b:=C.extBut _ _ f.vn (p.extBut _ _ f.TOz S);refine af (lj g0 rfl (af (To g0 λB b0 G=>af (vj #[cv]))));replace b0:gm B r x b:=b0;refine#[bW,si ?_];show#[ed,Rk (.ref i)];have q0:B.IsList l X:=(j0.extBut C.extBut f.li).extBut G.extBut f.WE;refine af (Tf (m0.extBut G.extBut f.vn.symm) q0 m λs0 n0 U=>aA ?_);have h0:gm s0 r x b:=U.extBut _ _ f.vn b0;refine af (lj h0 rfl (af (To h0 λn T Y=>af (vj (aA (aA ?_))))));replace T:gm n r x y:=T;refine af (lj T rfl (af (wpAny_newTuple ?_)));have I:#[jm,n.objs.size]:=by rw[Y.1,U.1,G.1,C.1,p.1]
 have l0:jc n z u r .ellipsis:=Y.extBut _ _ f.TOz.symm (U.extBut _ _ f.iz.symm (G.extBut _ _ f.TOz.symm (C.extBut _ _ f.iz.symm O)));have p0:#[mC,n.get? c=aa o]:=λc o j P q e=>Y.extBut _ _ P (U.extBut _ _ q (G.extBut _ _ P (C.extBut _ _ q (p.extBut _ _ j e))));have o0:n.IsListIter i l (k+1+1):=n0.extBut Y.extBut f.vn.symm;have Z:z<n.objs.size:=bk l0;show#[ed,Rl (.ref z) #[M,n.objs.size]];unfold Rl;have r0:jc #[fu,n.push,x,y] z u r .ellipsis:=bN _ l0;refine#[bW,oD r0 #[z] λt0 f0 d0=>?_];replace f0:jc t0 z u r (cF n.objs.size):=f0;refine oD f0 (by simp) λR a0 e0=>?_;replace a0:jc R z u r (cF n.objs.size):=a0;have F:∀c o,c≠z->n.get? c=aa o->R.get? c=aa o:=λc o j e=>e0.extBut _ _ j (d0.extBut _ _ j (bN _ e));have i0:gm R n.objs.size x y:=e0.extBut _ _ (hu Z) (d0.extBut _ _ (hu Z) #[gi]);have k0:R.objs.size=n.objs.size+1:=by rw[e0.1,d0.1,da]
 rw[I]at a0 i0 k0;refine aA #[cg,?_];rw[I];exact H R a0 (F _ _ f.TOz T) (o0.at λo e=>F _ o f.iz e) i0 k0 λc o j P q e=>F c o j (p0 c o j P q e)
theorem next(f:rp z u r i l)(g:#[lZ])(J:#[lU])(O:gm s.heap r a b)(N:#[i4,k])(e:s.heap.IsList l X)(d:X[k]?=aa x)(m:X[k+1]?=aa y)(H:∀c0,jc c0 z u r (cF s.heap.objs.size)->gm c0 r x y->c0.IsListIter i l (k+1+1)->gm c0 s.heap.objs.size x y->#[ko,c0.objs.size]->(#[mC,#[dz,c]])->Q #[cP,aa,s.heap.objs.size] #[hJ]):#[gh,z]:=by have p:s.TypeIs (.ref z) _:=#[P,g];exact af (iM (mi p zz (iN zz p RF (item f g J O N e d m λc0 G n S h j q=>aA (H _ G n S h j q)) (RC _))))
theorem done(M:#[g5])(f:rp z u r i l)(g:#[lZ])(J:#[lU])(N:#[i4,k])(y:s.heap.IsList l X)(d:X[k]?=ab)(O:gm s.heap r a b)(H:∀c0,#[ef]->(∀c o,c≠z->c≠i->#[kw]->#[dz,c])->Q ab #[hJ]):#[gh,z]:=by
 have p:s.TypeIs (.ref z) "zip":=#[P,g];refine fb (af (iM (mi p zz (iN zz p RF ?_ (RC _)))));show#[ed,rX (.ref z) 2];refine#[dI,g,rfl,#[dv]];refine af (dY g rfl (x:=.ref u) rfl (af (lj J rfl ?_)));refine#[bW,dY g rfl (x:=.none) rfl #[cv]];refine af (hY (af (dY g rfl (x:=.ref r) rfl (af (oD g #[z] λC G j=>af ?_)))));refine#[bW,si ?_];refine af (wpAny_nextOf_list_end M (N.extBut j.extBut f.iz) (y.extBut j.extBut f.lz) d λt e m S=>?_);obtain⟨R,L,v⟩:=S;have P:jc t z u r .ellipsis:=m _ _ f.iz.symm G;have F:e≠z:=λx=>by grind
 refine oD P (by simp) λn _ B=>?_;refine#[bF,ml,⟨R,B.extBut _ _ F L,v⟩,zO];exact aA λI=>H _ I λc o h q x=>B.extBut _ _ h (m _ _ q (j.extBut _ _ h x))
end
end nu
namespace nu
theorem Yn(i l:ao):Meets (Builtin.«zip.__new__» #[ai,[.type "zip",#[bq],#[bq]]]) (λ_ R s=>#[i4,0]/\#[f1,#[M,s.heap.objs.size+2],{s with heap:=((s.heap.push #[aj,"tuple",.seq,#[#[bq],#[bq]]]).push #[aj,"tuple",.seq,#[.none,.none]]).push #[aj,"zip",.fields,#[.none,#[dv],#[dv],.ref s.heap.objs.size,.ref (s.heap.objs.size+1)]]}]):=.of_wp λk w A R s h=>by
 obtain⟨C,g,d,p0,h0⟩:=s;obtain⟨y,h⟩:=h;have f:=sub_zip;have S:Heap.IsListIter (Shared.heap #[a7,C,p0]) i l 0:=y;repeat(first|((run_tac BJ ``kY);with_reducible apply GN S)|wp_step)
 have F:#[fu,C.push,#[bq],#[bq]].objs.size=C.objs.size+1:=da ..;have a:#[fu,(C.push #[aj,"tuple",.seq,#[#[bq],#[bq]]]).push,.none,.none].objs.size=C.objs.size+2:=by rw[da,F]
 have o:∀X Y,X=C.objs.size+1->Y=C.objs.size+2->R (.ok #[cP,.ret,Y]) #[a7,((C.push #[aj,"tuple",.seq,#[#[bq],#[bq]]]).push #[aj,"tuple",.seq,#[.none,.none]]).push #[aj,"zip",.fields,#[.none,#[dv],#[dv],.ref C.objs.size,.ref X]],p0]:=by rintro _ _ rfl rfl;exact h
 exact#[cg,o _ _ F a]
theorem new{s:au}(P:#[i4,0])(h:∀c0,jc c0 (s.heap.objs.size+2) s.heap.objs.size #[kP] .none->gm c0 s.heap.objs.size #[M,i] #[M,i]->gm c0 #[kP] .none .none->c0.objs.size=s.heap.objs.size+3->(∀c o,#[kw]->#[dz,c])->#[bs,s.heap.objs.size+2,#[hJ]]):#[as,dX (.type "zip") [#[bq],#[bq]]]:=by
 refine callType_new ahf #[ak] (air _ _) (aih _ _) (λa=>ahb a _ _) ahs (Yn i l) #[a3,P];have F:#[ko,#[fu,s.heap.push,#[bq],#[bq]].objs.size]:=da ..;have d:#[fu,(s.heap.push #[aj,"tuple",.seq,#[#[bq],#[bq]]]).push,.none,.none].objs.size=s.heap.objs.size+2:=by rw[da,F]
 have U:#[fu,(s.heap.push #[aj,"tuple",.seq,#[#[bq],#[bq]]]).push,.none,.none].get? #[fu,s.heap.push,#[bq],#[bq]].objs.size=aa _:=#[aW];have q:(((s.heap.push #[aj,"tuple",.seq,#[#[bq],#[bq]]]).push #[aj,"tuple",.seq,#[.none,.none]]).push #[aj,"zip",.fields,#[.none,#[dv],#[dv],.ref s.heap.objs.size,.ref (s.heap.objs.size+1)]]).get? #[fu,(s.heap.push #[aj,"tuple",.seq,#[#[bq],#[bq]]]).push,.none,.none].objs.size=aa _:=#[aW];rw[F]at U;rw[d]at q;exact⟨#[P,q],h _ q (bN _ (bN _ (#[aW]:#[fu,s.heap.push,#[bq],#[bq]].get? s.heap.objs.size=aa _))) (bN _ U) (by rw[da,d]) λc o x=>bN _ (bN _ (bN _ x))⟩
end nu
def wZ(n j:Nat):Ob:=.rel n (λS o=>j<n/\∃x,#[av,S,x]/\o=#[m5]) λS a o h⟨N,x,a0,T⟩=>⟨N,x,(h j N).trans a0,T⟩
theorem Ua(a:ai):kU "iter" #[ai,[a]]:=#[p]
section
variable{B:Bs}{w:aD}{n:Nat}{O:Gm}{d0 g0:#[n]}{U:#[o]}{H m0:#[l]}{J:aO}{S:#[t]}
theorem Cl.Ww(f:#[aR,H,j,X])(a:H++[wZ (j+1) j]=m0)(b:H.length=r):#[g2,"iter",[.ob j],.ob r]:=λA J S Z s Q E G M p q=>by subst a b;cases p with|cons N a0=>cases a0;obtain⟨l,Y,k,rfl,y,g,_⟩:=M.list N f;have e:=#[V,y];refine Rt KH MA IS (Ua _) ?_;refine#[cX,#[ak]];refine af (sj #[cG,k] (aA #[cg,?_]));refine#[kp,aB.push M rfl #[du,by rw[aY];omega,hR _,l,by rw[cL e];exact y] #[aO] λn R c _ o f0 g d=>?_];rw[#[aW]]at g;grind
theorem agh(F:#[w])(G:#[W]){A:aS}{s:au}{Q E:#[C]}{a:aT}{F0 E0 N0 M S0 T T0 U0:ba}{d j a1 Z0:Nat}{X:#[B]}(f:#[bc])(c:#[ah])(b0:#[kC,a1,"zip"])(P:#[kC,Z0,"iter"])(I:#[aP,a,#[cn],H])(p:cD [a]=ae)(t:#[aR,H,j,X])(q:∀i l z u r L,#[aQ,H,S,L]->#[av,S,l]->nu.rp z u r i l->jc L.heap z u r .none->gm L.heap u #[M,i] #[M,i]->gm L.heap r .none .none->L.heap.IsListIter i l 0->(#[R,z]/\#[R,u]/\#[R,r]/\#[R,i])->#[bs,z,L]):#[as,aW #[bR,#[aL,"zip",F0],[.Starred #[mn] T0],U0] J]:=by
 refine ir (W.fh F G a1 9 rfl b0 #[ak] A J S U H s _ E f c ?_);have h1:#[aP,#[mn],.ob (H.length+2),((H++[wZ (j+1) j])++[#[bQ,[.ob H.length]]])++[#[bQ,#[nL]]]]:=Ev.nx (W.kA #[bn,Ev.qp (W.fh F G Z0 10 rfl P #[p]) p #[bn,I] (Cl.Ww t rfl rfl)] rfl (show 1<=aC by decide) (k:=H.length+1) #[z] rfl) (W.kq (q:=2) rfl) (St.tf (j:=H.length+1) (k:=2) (X:=[.ob H.length]) (by rw[ew (by simp)];simp) #[z] #[j] rfl #[z] rfl)
 show#[cT,mb U0 (.type "zip") [] [(ae,(do
  let v<-aW (.BinOp _ _ _ _) J;standAt U0;aw v))] []]
 refine ks_call rfl (P:=λ_=>True) (λ_ _=>#[aw,.inr (.inl rfl),Looks.of_pure rfl]) (ks_lone (h1 A J S s _ E f c λu0 k0 f0 C Z=>?_));obtain⟨n0,d1⟩:∃n0,f0[H.length+2]?=aa n0/\u0=.ref n0:=Z;obtain⟨L0,rfl⟩:=d1;have O0:S.length=H.length:=c.len;obtain⟨m0,C0,b1,t0,rfl,g1⟩:=C.rel.store (H.length+2) n0 (.list #[nL]) L0 (by rw[ew (by simp)];simp)
 obtain⟨i,X0⟩:∃i,f0[H.length]?=aa i:=by
  have:H.length<f0.length:=by rw[C.rel.len];simp
  exact#[bM,bD this]
 obtain⟨G0,R0,_,H0,l,k,rfl⟩:=C.rel.store H.length i (wZ (j+1) j) X0 (by rw[cL (by simp),cL (by simp)];simp)
 have Y0:#[av,S,l]:=by
  have e1:j<S.length:=by rw[O0];exact#[V,t]
  obtain⟨v0,rfl⟩:=C.pre;rw[cL e1]at k;exact k
 have J0:b1.toList=[#[bq],#[bq]]:=by obtain⟨r0⟩:=b1;cases g1 with|cons N a0=>cases a0 with|cons a0 g=>cases g;obtain⟨x,b,rfl⟩:=N;obtain⟨y,m,rfl⟩:=a0;rw[X0]at b m;cases b;cases m;rfl
 have q0:#[R,i]:=by refine(C.new i (qJ X0 (by rw[<-O0];exact c.cY))).elim (λo=>?_) id;obtain⟨w0,I0⟩:=gK.mp (fI o);have:=iy C.rel.nodup (gY C.pre I0) X0;have:=#[V,I0];omega
 unfold StarOf SF;refine af (jh #[P,C0] RO.lookup (aA #[aG,?_]));refine fb (SU n0 #[aU] C0 rfl rfl (λc0 l0 x0=>#[a3,trivial]) (by rw[<-gI,J0];exact(show 2<=aC by decide)));rw[J0];have R:=aB.heap (t:=k0.toks) C.rel x0 l0;show#[cT,dX (.type "zip") [#[bq],#[bq]]];refine nu.new (s:={k0 with heap:=c0}) #[cV,l0 _ _ R0] λg o0 p0 i1 j1 f1=>?_;have h0:=R.trans (aB.heap (t:=k0.toks) R.rel (by have k1:g.objs.size=c0.objs.size+3:=j1;show c0.objs.size<=g.objs.size;omega) f1);have Q0:f0.take H.length=S:=by obtain⟨v0,rfl⟩:=C.pre;rw[<-O0,pP]
 have M0:=h0.rel.take (j:=H.length) (by rw[<-O0];exact c.cY) (λq x b=>c.below.1 q x b) (λq e0 Y i0=>c.below.2 q e0 (by rw[cL (by simp;omega),cL (by simp;omega),cL Y]at i0;exact i0));rw[Q0]at M0;have c1:(((H++[wZ (j+1) j])++[#[bQ,[.ob H.length]]])++[#[bQ,#[nL]]]).take H.length=H:=by rw[du,du,pP]
 rw[c1]at M0;have s0:k0.heap.objs.size<=c0.objs.size:=x0;have j0:c0.objs.size>i:=bk (l0 _ _ R0);have A0:k0.heap.objs.size>l:=C.rel.fX l (bz (gY C.pre Y0));have y0:l≠i:=λe=>by subst e;have:=iy C.rel.nodup (gY C.pre Y0) X0;have:=#[V,t];omega
 refine q i l (c0.objs.size+2) c0.objs.size (c0.objs.size+1) _ #[gM,M0,#[dg,h0].fx] Y0 ⟨#[D,cB],#[D,cB],#[D,cB],#[D,cB],#[D,hu],#[D,hu],#[D,cB],#[D,cB],y0⟩ o0 p0 i1 #[cV,f1 _ _ (l0 _ _ R0)] ?_;have:=C.fx.size;exact⟨by omega,by omega,by omega,q0⟩
end
def Ts(B:Bs)(j:Nat)(q0:#[B])(z u r i:ao)(k:Nat)(S M:#[t])(s:au):Prop:=M=[u,z,r,i]/\(#[dr,#[aK,b]])/\r<B.lo/\∃l a b,#[av,S,l]/\nu.rp z u r i l/\#[lZ]/\#[lU]/\gm s.heap r a b/\#[i4,2*k]
section
variable{B:Bs}{w:aD}{n:Nat}{j L:Nat}{q0:#[B]}{X:List (V×V)}{z u r i:ao}
theorem JB:∀{X:#[g]}{k:Nat}{x:V×V},X[k]?=aa x->(X.flatMap #[hn])[2*k]?=aa x.1/\(X.flatMap #[hn])[2*k+1]?=aa x.2|[],k,x,h=>by simp at h|p::r,0,x,h=>by simp at h;subst h;exact#[bV]|p::r,k+1,x,h=>by obtain⟨N,a0⟩:=JB (by simpa using h);rw[show 2*#[u]=2*k+1+1 by omega];exact⟨by simpa using N,by simpa using a0⟩
theorem JC:∀X:List (V×V),#[s,X.flatMap,#[hn]]=2*X.length|[]=>rfl|p::r=>by rw[mU,aY,JC r];simp;omega
theorem mP.zip{A:aS}(H:#[bc])(G0:q0=X.flatMap #[hn])(a1:j<L)(G:Nat):mP B w n A X z G L (λst=>#[aR,st,j,q0]) (Ts B j q0 z u r i)where
 next:=λk x M O J S U st s Q E U0 L0 i0 R g v0 h0 F N q=>by
  obtain⟨rfl,k0,E0,l,a,b,b0,f,h,a0,T,j0⟩:=v0;obtain⟨o,I,Y,m,rfl,w0⟩:=F.store j l _ b0 h0;obtain⟨d0,g0⟩:=JB g;rw[<-G0]at d0 g0;obtain⟨Y0,S0,b1⟩:=w0.at d0;obtain⟨e1,R0,X0⟩:=w0.at g0;refine nu.next f h a0 T j0 #[dY,I,m] S0 R0 λc0 n0 r0 u0 A0 F0 J0=>?_;refine N _ _ (wpAny_letOwnedTupleGo_zip n0 λI0 M0 H0=>?_);have T0:z<s.heap.objs.size:=bk h;have c1:s.heap.objs.size≠z:=hu T0;have t0:#[mC,I0.get? c=aa o]:=λc o y0 x0 C0 e=>H0.extBut _ _ y0 (J0 c o y0 x0 C0 e);have l0:#[ko,I0.objs.size]:=by rw[H0.1];exact F0
  have Q0:#[fG,#[eE],b∉[z,r,i],I0.get?]:=λb o e Z=>t0 b o (#[hq]) (#[hq]) (#[hq]) e
  have d1:∀b∈[z,r,i],lS B s.heap b:=λb Z=>by
   rcases bg.mp Z with rfl|Z;.exact#[m9]
   rcases bg.mp Z with rfl|Z;.exact .inr ⟨E0,_,_,_,T,rfl⟩
   .rw[aZ.mp Z];obtain⟨N0,o0,m0,C⟩:=j0;exact .inl (#[g9,o0,(by rw[C]at d;cases d;cases v),(by rw[C]at d;cases d)])
  have Z0:GH B I0:=F.gh.many F.slt (λb Z=>⟨k0 b #[bo,Z],d1 b Z⟩) (by rw[l0];exact dP _) Q0;refine q s.heap.objs.size Y0 e1 0 _ [u,z,r,i] (H0.extBut _ _ c1 A0) b1 X0 ⟨rfl,k0,E0,l,_,_,b0,f,M0,t0 _ _ f.TIz f.TITO f.Tq a0,H0.extBut _ _ f.TOz r0,u0.extBut H0.extBut f.iz⟩ ⟨rfl,rfl,⟨λ_ _ _ e=>e,id⟩,by show _<=I0.objs.size;rw[l0];exact dP _,λb o e Z _=>Q0 b o e Z,Z0⟩ λb Z=>.inl Z
 done:=λM O J S U st s Q E v0 h0 F q=>by
  obtain⟨rfl,k0,E0,l,a,b,b0,f,h,a0,T,j0⟩:=v0;obtain⟨o,I,Y,m,rfl,w0⟩:=F.store j l _ b0 h0;have p0:q0.length=2*X.length:=by rw[G0,JC]
  refine nu.done H.handled f h a0 j0 #[dY,I,m] (yi (by rw[w0.size,p0];exact aP _)) T λc0 l0 P=>q _ ?_;refine⟨rfl,rfl,⟨λ_ _ _ e=>e,id⟩,l0,λb o e Z _=>P b o (#[hq]) (#[hq]) e,?_⟩;refine F.gh.many F.slt (M:=[z,i]) (λb Z=>?_) l0 λb o e Z=>P b o (#[hq]) (#[hq]) e;rcases bg.mp Z with rfl|Z;.exact⟨k0 _ #[z],#[m9]⟩
  .rw[aZ.mp Z];obtain⟨N0,o0,m0,C⟩:=j0;exact⟨k0 _ #[z],.inl (#[g9,o0,(by rw[C]at d;cases d;cases v),(by rw[C]at d;cases d)])⟩
 mono:=λk S f0 M s y v0 e0 P _ _ _=>by obtain⟨rfl,k0,E0,l,a,b,b0,f,h,a0,T,j0⟩:=v0;exact⟨rfl,k0,E0,l,a,b,(e0 j a1).trans b0,f,P z #[z] _ h,P u #[z] _ a0,P r #[z] _ T,j0.at λo e=>P i #[z] o e⟩
 live:=λk S M s v0 b Z=>by
  obtain⟨rfl,k0,E0,l,a,O0,b0,f,h,a0,T,j0⟩:=v0;simp at Z;rcases Z with rfl|rfl|rfl|rfl;.exact#[bM,a0]
  .exact#[bM,h]
  .exact#[bM,T]
  .obtain⟨o,I,_⟩:=j0;exact⟨o,I⟩
 hH:=λk S M s v0 b Z=>by
  obtain⟨rfl,k0,E0,l,a,O0,b0,f,h,a0,T,j0⟩:=v0;simp at Z;rcases Z with rfl|rfl|rfl;.exact#[m9]
  .exact .inr ⟨E0,_,_,_,T,rfl⟩
  .obtain⟨N0,o0,m0,C⟩:=j0;exact .inl (#[g9,o0,(by rw[C]at d;cases d;cases v),(by rw[C]at d;cases d)])
end
section
variable{B:Bs}{w:aD}{n:Nat}{O:Gm}{d0 g0:#[n]}{U:#[o]}{H:#[l]}{l r0:#[y]}{h0:#[al]}{a:aT}{x y:aq}{y0 O0 R0 i0 F0 E0 N0 M S0 T T0 U0:ba}{L0 d:Nat}
def Bs.at_(B:Bs)(c0:ao):Bs:={B with lo:=c0}
theorem Fx.at_{c0:ao}(f:Fx B X s L):Fx #[dP] X s L:=#[nX]
theorem Fx.YM{c0:ao}(f:Fx #[dP] X s L):Fx B X s L:=#[nX]
theorem aj.VZ{X:List (V×V)}{c:Bs->Nat->#[f5]}(i j o1 l1 k1:Nat){e0:Bs->#[l]}(F:#[w])(G:#[W])(s0:#[kC,l1,"zip"])(p1:#[kC,k1,"iter"])(I:#[aP,a,.ob o1,H])(f0:cD [a]=ae)(c1:#[aR,H,o1,q0])(e1:q0=X.flatMap #[hn])(N:#[et,.local])(l0:#[gO,.local])(g1:∀c0 J S h,c0<=h.objs.size->#[cx]->aG #[dP] O J S U (e0 (B.at_ c0)) h)(n1:∀c0,#[a5,(e0 (B.at_ c0)),H.length])(v0:∀c0,c #[dP] 0 U (e0 (B.at_ c0)))(o0:∀c0 k v s,c #[dP] k v s->#[aR,s,o1,q0]/\i<v.length/\j<v.length)(a1:∀c0 k x v s,X[k]?=aa x->c #[dP] k v s->aj #[dP] w n O r0 #[nJ] s λo t0 L=>o=.next/\gR O.fz H.length (c (B.at_ c0) #[u]) t0 L)(Y0:∀c0 J S h v s,B.lo<=c0->c #[dP] X.length v s->aG #[dP] O J S v s h->∃t0 L,aG B O J S t0 L h/\#[d0,t0,L]):#[dA,.For (.Tuple [.Name x y0,.Name y O0] L0 R0) #[bR,#[aL,"zip",F0],[.Starred #[mn] T0],U0] r0 [] i0]:=λA J S s Q E t m q=>by
 refine mj (zX (agh F G t m s0 p1 I f0 c1 λC Z0 z u r k0 a0 r1 D u0 A0 I0 X0 b1=>?_) #[an]);refine wpAny_pyIter_zip u0 ?_;have m1:=g1 k0.heap.objs.size J S k0.heap #[aJ] a0.rel;have h1:aB (B.at_ k0.heap.objs.size) O J S U (e0 (B.at_ k0.heap.objs.size)) s S k0:=⟨a0.pre,a0.new,m1,a0.fx.at_⟩;have d1:∀b,#[R,b]->b≠J.locals/\(#[dJ,b])/\#[aK,b]:=λb Z=>nv m Z;have q1:=#[V,c1]
 have G0:∀b∈[u,z,r,C],#[R,b]/\b∉S:=λb Z=>by
  have:#[R,b]:=by
   simp at Z;rcases Z with rfl|rfl|rfl|rfl;.exact b1.2.1
   .exact b1.1
   .exact b1.2.2.1
   .exact b1.2.2.2
  exact⟨this,λb0=>#[bC,m.fX b b0,this]⟩
 refine Lp (B:=B.at_ k0.heap.objs.size) (R:=λo v s=>o=.next/\c (B.at_ k0.heap.objs.size) X.length v s) i j t d1 h1 (mP.zip t e1 (#[Y]) _) ⟨rfl,λb Z=>(d1 b (G0 b Z).1).2.2,bk I0,Z0,_,_,r1,D,u0,A0,I0,X0⟩ G0 N #[aU] l0 #[aU] (v0 _) (λk v s h=>o0 _ k v s h) (λk x v s e H0 _ _ _=>?_) (λv s H0=>aj.nil #[aG,H0]) λo t0 J0 f L j0 Q0 P p0=>?_;.refine aj.mono (a1 _ k x v s e H0) λo t0 L h=>?_;obtain⟨rfl,h⟩:=h;rw[n1];exact h
 .obtain⟨rfl,H0⟩:=Q0;cases p0;obtain⟨C0,n0,j1,Y⟩:=Y0 _ J j0 L.heap t0 J0 a0.rel.gh.2.2.2 H0 P.rel;have m0:#[cd,C0,n0,j0,L]:=#[iC,j1,P.fx.YM];exact Y A J j0 L Q E t j1 λo g f1 f x0 M0 R w0 i1=>q o g f1 f x0 M0 R (m0.trans w0) i1
end
theorem aG.rebase{f g:Bs}{H m0:#[g]}(F:g.heap=f.heap)(d:g.fl=f.fl)(R:aG f O J S U H h)(X:g.lo<=h.objs.size)(Y:m0.length=H.length)(u:#[gy,m0,∃c,#[G,H,c]/\(∀S o,OR S o c->OR S o e0)/\∀a,dM f J h a c->dM g J h a e0]):aG g O J S U m0 h:=by
 obtain⟨N,k0,u0⟩:=f;dsimp at F d;subst F d;refine⟨R.scope,R.kind,R.kb,R.nd,R.glob,R.fh,⟨R.gh.1,R.gh.2.1,R.gh.2.2.1,X⟩,R.slt,R.ns,R.lu,R.len.trans Y.symm,R.cY,λi a e0 I Z=>?_,λi a e0 I Z=>?_,R.nodup,R.high,R.dZ,R.ic,R.cw,R.kr⟩;.obtain⟨c,b,q,_⟩:=u i _ Z;obtain⟨o,A0,t0⟩:=R.store i a _ I b;exact#[aY,A0,q _ o t0]
 .obtain⟨c,b,_,w⟩:=u i _ Z;exact w a (R.code i a _ I b)
theorem TQ(F:g.heap=f.heap)(d:g.fl=f.fl)(X:I=[]\/g.lo<=f.lo)(s:hA f)(x:dM f J h a (aX 3 (dG f 2 0 I))):dM g J h a (aX 3 (dG g 2 0 I)):=by
 obtain⟨a0,m,R0⟩:=g;dsimp at F d X;subst F d;obtain⟨L0,y,B⟩:hk _ h a _ _:=x;refine⟨L0,λb Z=>⟨λn0=>#[bC,s.tab b n0,Z.1],Z.2⟩,λo e=>?_⟩;obtain⟨Y,n,U,q⟩:=B o e;refine#[Q,n,U,?_];obtain rfl|X:=X;.cases p:Y.toList with|nil=>exact .nil|cons v r=>rw[p]at q;cases q
 .exact q.mono λv c⟨t,A0,t0,x0⟩=>⟨t,A0,⟨t0.1,aI X t0.2⟩,x0⟩
section
variable{f g:Bs}{O:Gm}{J:aO}{S:#[t]}{U:#[o]}{h:bo}{N C:Nat}{p0 j0:Tx}{d q0:#[B]}{I:#[ag]}
theorem JI(F:g.heap=f.heap)(c:g.fl=f.fl)(X:I=[]\/g.lo<=f.lo)(H:g.lo<=h.objs.size)(R:aG f O J S U (bq f N p0 j0 d C I++[#[bQ,q0]]) h):aG g O J S U (bq g N p0 j0 d C I++[#[bQ,q0]]) h:=by
 refine R.rebase F c H rfl λi e0 e=>?_;have s:∀n r M a,dM f J h a (.rel n r M)->dM g J h a (.rel n r M):=λn r M a x=>by obtain⟨b,k0,u0⟩:=f;dsimp at F c;subst F c;exact x
 match i,e with|0,e=>cases e;exact#[i1,λa=>s _ _ _ a]|1,e=>cases e;exact#[i1,λa=>s _ _ _ a]|2,e=>cases e;exact#[i1,λ_ _=>trivial]|3,e=>cases e;exact#[i1,λa=>s _ _ _ a]|4,e=>cases e;exact#[i1,λa x=>TQ F c X R.slt x]|5,e=>cases e;exact#[i1,λ_ _=>trivial]|i+6,e=>simp at e
end
theorem bb.lo{c0 f:ao}(h:bb B f j0 k r0):bb #[dP] f j0 k r0:=⟨h.ex,h.out⟩
noncomputable def vx:#[y]:=by run_tac av.de ["_ValueFormatter","_ascii_split"]
noncomputable def qP:bt:=by run_tac av.df ["_ValueFormatter","_ascii_split"]
section
variable{B:Bs}{w:aD}{d0 g0 s0 L:#[n]}{N:Nat}{p0:Tx}{C:Nat}{I:#[ag]}{c:Tx×Tx}{f s:Tx}
theorem hT.take(P:hT I)(k:Nat):hT (I.take k)/\bQ (I.take k)<=bQ I:=by
 have g:bQ (I.take k)<=bQ I:=by
  have:bQ I=bQ (I.take k)+bQ (I.drop k):=by unfold bQ;rw[<-EP,<-hr,hQ]
  omega
 exact⟨⟨λc X=>P.each c (eJ X),by have:=P.len;rw[bI];omega,by have:=P.sum;rw[ky]at this⊢;omega⟩,g⟩
theorem VL(h0:#[c6])(f0:#[ml])(u:bb B 106 qP 4 vx)(l0:#[jz])(i:ot B 43)(U:f++s=bC #[aH])(n0:∀x∈I++[c],Re.yq x)(P:hT (I++[c]))(A:2*(I.length+1)+1<=2^20)(j0:C<=2^20)(i0:C+bQ I<=N)(r0:N<C+bQ (I++[c]))(M:Nat)(T:iZ #[aH] 59 (aa M)\/(iZ #[aH] 59 ab/\iZ #[aH] 44 (aa M))):bH B w 11 106 [.ob 1,.str f,.str s,.str cH] (#[bj,cH,[],C,[]]) .none (#[bj,cH,[.str (bC (#[aH].take M))],0,#[aH].drop M]):=by
 have n:∀x∈I++[c],x.2≠[]:=λx z=>(n0 x z).OY;have b0:Re.eo ag [] (f++s)=[]::#[aH].flatMap λc=>[c.1,c.2]:=by rw[U];exact Re.Iq _ [] n0
 have o0:#[s,#[aH].flatMap,λc=>[c.1,c.2]]=2*(I.length+1):=by
  have:∀l:#[ag],#[s,l.flatMap,λc=>[c.1,c.2]]=2*l.length:=λl=>by induction l with|nil=>rfl|cons a r Q=>rw[mU,aY,Q,cq];simp;omega
  rw[this];simp
 have G:#[fp,(f++s)]:=by rw[U];exact P.sum
 have E:∀l:#[bB],#[s,ah,l]=l.length:=λl=>by simp[ah]
 have e:#[s,ah,[]::#[aH].flatMap λc=>[c.1,c.2]]<=2^20:=by rw[E,cq,o0];exact A
 refine#[ka,#[E],#[E]];refine#[k6,4,Ev.ZP (W.glob h0.F h0.G 6 17 rfl rfl #[E]) i rfl (Ev.nx #[aD,1] #[aD,2] (St.Dm (x:=f) (y:=s) (by rw[<-aY];exact dD G)).up) G (by rw[b0,cq,o0];exact A) rfl rfl rfl #[an] #[j]];rw[b0];refine aj.ite (t:=ag) (Et.val (x:=.str []) (Ev.rh (i:=#[bh]) #[aD,4] (W.kq rfl) rfl (dD e) (Ho rfl)) #[bE,aV _] #[am]) ?_;rw[#[c7]];refine#[gK,W.nM (k:=0) (q0:=ah (#[aH].flatMap λc=>[c.1,c.2])) (v:=.str []) #[aD,4] (W.kq rfl) #[bu] rfl #[aC] (dD e) rfl #[j] rfl rfl rfl #[an] #[j],aj.nil ?_]
 have F:ah (#[aH].flatMap λc=>[c.1,c.2])=(#[aH].map λc=>(V.str c.1,V.str c.2)).flatMap #[hn]:=by
  have:∀l:#[ag],ah (l.flatMap λc=>[c.1,c.2])=(l.map λc=>(V.str c.1,V.str c.2)).flatMap #[hn]:=λl=>by induction l with|nil=>rfl|cons a r Q=>simp only[mU,dk,ah,hr]at Q⊢;rw[<-Q];rfl
  exact this _
 have q0:#[ca,[V.str (bC (#[aH].take M))],0]:=λx z=>by rw[aZ.mp z];trivial
 have m0:#[a5,#[aH],I.length+1]:=by simp
 have O:∀{a b:Tx},#[ca,([.ob 1,.str a,.str b]:#[B]),5]:=λ{a b}x z=>by
  simp at z;rcases z with rfl|rfl|rfl;.exact#[ap,1<5]
  .trivial
  .trivial
 show aj B w 10 (dH qP) [.For (.Tuple [.Name (ak "fws") _,.Name (ak "part") _] _ _) #[bR,#[aL,"zip",_],[.Starred (.BinOp (.List [.Call #[aL,"iter",_] [.Name (ak "parts") _] [] _] _) .Mult (.Constant #[U,2] _ _) _) _],_] _ [] _] #[mk,#[K,f],ab] (#[bj,cH,[],C,[]]++[#[fR,#[aH].flatMap λc=>[c.1,c.2]]]) _;refine aj.VZ (B:=B) (w:=w) (n:=10) (O:=dH qP) (U:=#[mk,#[K,f],ab]) (H:=#[l2,#[bj,cH,[],C,[]]]) (e0:=λa0=>#[l2,bq a0 N p0 cH [] C []]) (X:=#[aH].map λc=>(.str c.1,.str c.2)) (c:=λa0 k v H=>H=#[l2,#[aa,k<=I.length,bq a0 N p0 cH [] C (#[aH].take k),bq a0 N p0 cH [.str (bC (#[aH].take M))] 0 (#[aH].drop M)]]/\∃a b,v=#[mk,a,b]) 1 5 5 7 8 h0.F h0.G rfl rfl #[aD,4] rfl rfl F rfl rfl (λc0 J S h X R=>JI (f:=B) (g:=B.at_ c0) rfl rfl #[aU] X R) #[an] (λc0=>⟨by rw[if_pos (aV _)];rfl,_,_,rfl⟩) ?_ ?_ ?_;.rintro c0 k v H⟨rfl,a,b,rfl⟩;refine⟨?_,bx rfl,bx rfl⟩;split<;>rfl
 .rintro c0 k x v H z⟨rfl,a,b,rfl⟩;rw[cg]at z;obtain⟨y,m,rfl⟩:=dW.mp z;have d:k<#[aH].length:=#[V,m];have q:#[aH].take k++[y]=#[aH].take #[u]:=by rw[yR,m];rfl
  rw[#[D,if_pos]]
  have Z:∃Y,cz 5 Y/\bH #[dP] w 10 113 [.ob 1,.str y.1,.str y.2] (bq #[dP] N p0 cH [] C (#[aH].take k)) .none Y/\Y=#[aa,k+1<=I.length,bq #[dP] N p0 cH [] C (#[aH].take #[u]),bq #[dP] N p0 cH [.str (bC (#[aH].take M))] 0 (#[aH].drop M)]:=by
   by_cases e0:k+1<=I.length
   .rw[if_pos e0];refine⟨bq #[dP] N p0 cH [] C (#[aH].take #[u]),jS (λx z=>nomatch z),?_,rfl⟩;have t:bQ (#[aH].take #[u])<=bQ I:=by rw[lN e0];exact(hT.take (I:=I) (by have:=(P.take I.length).1;rwa[pP]at this) #[u]).2
    have:=VM (p0:=p0) (d:=[]) (C:=C) (N:=N) (I:=#[aH].take k) (f:=y.1) (p:=y.2) (f0 c0) l0.lo (by rw[q];exact(P.take _).1) j0 (by rw[q];omega) λx z=>nomatch z;rw[q]at this;exact this
   .rw[if_neg e0];have j:k=I.length:=by omega
    subst j;have k0:y=c:=by rw[ew (aP _),kN]at m;exact(hv m).symm
    subst k0;refine#[Q,jS q0,?_,rfl];rw[pP];exact VS (d:=[]) (f0 c0) l0.lo P n j0 r0 M T #[j] λx z=>nomatch z
  obtain⟨Y,o,h,g⟩:=Z;refine aj.expr (b0:=#[l2,Y]) (JG (Y:=#[e9,y.1,y.2]) (f0 c0) (f0 c0).TX #[j] XW rfl #[aD,0] rfl #[hW,#[aD,1],#[aD,5]] (bH.sF h rfl (jS λx z=>nomatch z) o O).s #[an] #[j] #[j]) #[am] (aj.nil #[aG,#[dM,by rw[g],_,_,rfl]])
 .rintro c0 J S h v H X⟨rfl,a,b,rfl⟩R;have z:#[s,#[aH].map,λc=>(V.str c.1,V.str c.2)]=I.length+1:=by simp
  rw[z,#[fj]]at R;exact#[Q,_,JI (f:=B.at_ c0) (g:=B) rfl rfl (.inr X) (aI X R.gh.2.2.2) R,aj.nil (dd.vK (jS q0) (.inr #[bV]) trivial rfl)]
end
theorem XO:#[cI,"object","__init__","object.__init__"]:=by rw[cG,cE];kernel_rfl
section
variable{B:Bs}{w:aD}{L:#[n]}
theorem VO(o0:hA B)(N0:tY B L)(P:L "__init__"=aa (.ref 57))(C0:cb B 57){n:Nat}{C N:Nat}{p0 j0:Tx}(S0:eB B w n 57 [.ob 1,#[ay,C],#[ay,N],.str p0,.str j0] 0 #[mb] .none (#[bj,j0,[],C,[]])):#[mw,n+1]:=λA Z s Q E G F z q=>by
 obtain⟨l0,g0,w0,J0,I0,G0,H0,A0,t0,x0,M0,v,H,J,T⟩:=N0.ex;have c0:=#[aZ,F,v,J];have n0:#[dO,w0,L]:=#[dZ,H.at',F,T];obtain⟨⟨q0,f0,k0,v0,E0⟩,s0⟩:=C0;have O0:=#[aZ,F,k0,s0];have Q0:ObjNewFacts "object.__new__":=FK;obtain⟨h,g,d,t,h0⟩:=s;have d0:#[ev,h.get?,#[ho].get?]:=#[ks];have r0:#[ho].objs.size=h.objs.size+2:=by rw[da,da]
 have y0:#[ho].get? (h.objs.size+1)=aa #[fV,116,.plain]:=by have:#[ho].get? #[iE].objs.size=aa #[fV,116,.plain]:=#[aW];rwa[da]at this
 have L0:#[oc,#[ho]]:=bN _ #[gi];refine vQ (x:=h.objs.size+1) uI XO c0 n0 P O0 v0 d0 y0 rfl (λu0 R M=>zH (zq _ Q0.quiet) (GB Q0 c0 (Gg Q0 c0 n0 P M))) ?_;have m0:=F.grow (c0:=#[j5,#[fV,116,.plain]]) (by rw[r0];exact ip _ _) d0
 have F0:cM B #[iA] #[mb] #[ho]:=by
  refine⟨rfl,by simp,λa I=>?_,λi a e0 c a0=>?_⟩
  .simp at I;rcases I with rfl|rfl;.exact F.1
   .exact eO F.1
  .match i,c,a0 with|0,c,a0=>cases c;cases a0;exact⟨#[mq,L0,λe S=>#[ac,S,#[z]],(λy x m=>by cases m)],λo f0 j U=>#[Y]⟩|1,c,a0=>cases c;cases a0;exact⟨⟨_,y0,aP 2,rfl,rfl,#[j],_,rfl,rfl⟩,λo f0 j U=>by rw[y0]at j;cases j;cases U⟩|i+2,c,a0=>simp at c
 refine gr (S0 _ #[iA] (.ref (h.objs.size+1)::Z) #[a7,_,t] _ (G.typeCall) m0 F0 (.cons #[P,rfl] (z.mono λ_ _ r=>VR.nil _ r)) λu f l k Y O i0 b0 p=>#[a3,p])
 have R0:∀a∈#[iA],h.objs.size<=a:=λa I=>by
  simp at I;rcases I with rfl|rfl;.exact aP _
  .exact dP _
 refine q _ f l ?_ i0 b0 (λa I=>?_) #[P,gY k rfl];.have X:Fx B [] #[bw] #[a7,#[j5,#[fV,116,.plain]],t]:=Fx.fY (X:=[]) (s:=#[bw]) (t:=t) (by rw[r0];exact ip _ _) #[dN,d0];exact X.trans O λy m=>.inr (R0 y m)
 .rcases Y a I with c|c;.exact R0 a c
  .refine aI ?_ c;show h.objs.size<=#[ho].objs.size;rw[r0];exact ip _ _
end
def fD(c:Nat):Tx->Tx->#[bB]|A,[]=>[A]|A,x::r=>#[cb,x,c,A::fD c [] r,fD c (A++[x]) r]
theorem DB:∀(a A r:Tx),c∉a->fD c A (a++r)=fD c (A++a) r|[],A,r,_=>by simp|x::a,A,r,h=>by rw[fH,fD,#[bJ,by simp;rintro rfl;exact h (.head _)],DB a _ r λl=>h #[bo,l]];simp
theorem tK:#[eB,l≠[]->(∀a∈l,c∉a)->fD c [] (bj [c] l)=l]|[],h,_=>#[dp,h]|[a],_,h=>by have:=DB a [] [] (h a #[bL]);rw[gy]at this;show fD c _ a=[a];rw[this];rfl|a::b::r,_,h=>by show fD c _ (a++[c]++bj _ _)=_;rw[du,DB a _ _ (h a #[bL])];show#[gb,(c==c)=ae];rw[if_pos (beq_self_eq_true c)];show a::fD c _ (bj _ _)=_;rw[tK _ #[z] #[ga]]
theorem acg(x:aq)(c:Nat):(oA x #[dE]).map (·.cps.toList)=fD c [] x.cps.toList:=by
 have N:(oA x #[dE]).map (·.cps.toList)≠[]:=λe=>by have:=split_pos x #[dE];simp_all
 have a0:∀a∈(oA x #[dE]).map (·.cps.toList),c∉a:=λa I=>by obtain⟨p,C,rfl⟩:=bK.mp I;exact StrLaws.split_free x c p C
 have T:bj [c] ((oA x ⟨#[c]⟩).map (·.cps.toList))=x.cps.toList:=by
  rw[<-wR _]
  have F:((oA x ⟨#[c]⟩).map (·.cps.toList)).map cI=oA x #[dE]:=by
   rw[gA];conv=>rhs;rw[<-uk (oA x _)]
   rfl
  have d:cI [c]=⟨_⟩:=rfl;rw[F,d,StrLaws.join_split]
 rw[<-T,tK _ N a0]
theorem Ot:∀(p0:Nat)(l:#[g]),#[fi,strsFrom p0 l,(ah (l.map (·.cps.toList)))]|_,[]=>.nil|p0,x::r=>.cons ⟨x,_,rfl,rfl⟩ (Ot _ r)
section
variable{B:Bs}{w:aD}{n:Nat}{O:Gm}{U:#[o]}{H b0 o0 m0:#[l]}{i0 y0:ba}{o e:aT}
theorem Cl.split{c r:Nat}{t:Tx}{q0:#[B]}(a:t.length<=2^20)(m:ah (fD c [] t)=q0)(d:#[ea,H])(b:H.length=r):#[g2,"str.split",#[e9,t,[c]],.ob r]:=λA J S Z s Q E G M p q=>by subst m d b;cases p with
|cons N a0=>cases a0 with
|cons a0 T=>
 cases T;obtain⟨x,k,rfl,rfl⟩:=N;obtain⟨y,t0,rfl,i⟩:=a0;obtain rfl:y=#[dE]:=by obtain⟨⟨e⟩⟩:=y;have:e=[c]:=i;subst this;rfl
 have w0:=acg x c;have g:=split_le x #[dE];have f:∀Y p0,#[fi,Y,ah (fD c [] x.cps.toList)]->#[bs,s.heap.objs.size,#[cQ,s.heap.push #[aj,"list",.seq,Y.toArray],p0]]:=λY p0 h=>#[nI,aB.push (t:=p0) M rfl #[Q,0,rfl,by rw[Hm];exact h.mono λ_ _ r=>r.nil _]];have j:x.length<=2^20:=a;unfold oA at w0 g;by_cases N:(#[aB,x.length<(#[dE]:aq).length]||#[aB,Rn x<Rn #[dE]])=ae;.rw[if_pos N]at w0;exact kV uJ (jf s _ k) FJ (FE _ _) (meets_str_split_cannot_occur x #[dE] k t0 N) (f _ _ (by rw[<-w0];exact .cons ⟨x,k,rfl,rfl⟩ .nil))
 .rw[if_neg N]at w0 g;have P:=yk.mpr N;by_cases a0:(Builtin.Str.occurrences x #[dE] 0 x.length (x.length+1)).isEmpty=ae;.rw[if_pos a0]at w0;exact kV uJ (jf s _ k) FJ (FE _ _) (meets_str_split_not_found x #[dE] k t0 P rfl a0) (f _ _ (by rw[<-w0];exact .cons ⟨x,k,rfl,rfl⟩ .nil))
  .rw[if_neg a0]at w0 g;exact kV uJ (jf s _ k) FJ (FE _ _) (meets_str_split_sep x #[dE] k t0 P rfl (yk.mpr a0) (dD j) (aI g (by have v:(2:Nat)^20+2<=aC:=#[j];omega))) (f _ _ (by rw[<-w0];exact Ot _ _))
theorem W.split(g:#[b6,o,#[bm]])(I:#[bx,e,#[ao,[c]]])(y:t.length<=2^20)(m:ah (fD c [] t)=q0)(b:o0.length=r)(Z:#[ea,o0])(u:#[ee])(L:#[eb,"split"])(P:#[b7]):#[aP,#[gV,"split"],.ob r,m0]:=Ev.iU g #[p] lY uJ RX u #[bn,I] (Cl.split y m Z b) L P #[z]
end
theorem oV{j0:#[fd]}{g:V->V}:(j0.map λp=>(p.1,g p.2)).lookup y=(j0.lookup y).map g:=by induction j0 with|nil=>rfl|cons p r Q=>obtain⟨z,u⟩:=p;rw[dk,gj,gj];cases y==z with|true=>rfl|false=>exact Q
theorem xO:bA (b+n) (eA b x)↔bA n x:=by cases x with|ob i=>exact Nat.add_lt_add_iff_left|_=>exact yt
theorem Du:aX b (bS n j0)=bS (b+n) (j0.map λp=>(p.1,eA b p.2)):=by
 have a:∀S o,kP n j0 (S.drop b) o=kP (b+n) (j0.map λp=>(p.1,eA b p.2)) S o:=λS o=>by
  refine propext ⟨λ⟨j,s,T,E,r,Q,d⟩=>⟨_,_,T,E,r,λy m=>Q y ?_,λz x e=>?_⟩,λ⟨j,s,T,E,r,Q,d⟩=>⟨_,_,T,E,r,λy m=>Q y ?_,λz x e=>?_⟩⟩;.rw[oV]at m;simpa using m
  .rw[oV]at e;obtain⟨I,f,rfl⟩:=dW.mp e;obtain⟨v,U,q,w⟩:=d z _ f;exact⟨v,U,pv.mpr q,xO.mpr w⟩
  .rw[oV];simpa using m
  .obtain⟨v,U,q,w⟩:=d z _ (by rw[oV,e];rfl);exact⟨v,U,pv.mp q,xO.mp w⟩
 have t0:∀R c(e:R=c)h c0,Ob.rel (b+n) R h=Ob.rel (b+n) c c0:=λR c e h c0=>by simp_all
 exact t0 _ _ (funext λS=>funext λo=>a S o) _ _
theorem cA.sh(h:#[eO]):cA (aX b e0) C (b+d)where
 h:=λS o x=>by
  have Z:b<=S.length\/OR (S.drop b) o e0:=by cases e0 with|rel n R M=>exact .inl (aI (ip b n) x.1)|hp n R P T M k=>exact .inl (aI (ip b n) x.1)|raw R=>exact .inr x|list X=>obtain⟨Y,n,rfl,v⟩:=x;exact .inr #[Q,n,rfl,mn.mp v]|tup X=>obtain⟨Y,n,rfl,v⟩:=x;exact .inr #[Q,n,rfl,mn.mp v]
  obtain⟨N,a0,c,E,a,r,Q⟩:=h.h _ _ (Z.elim (λZ=>(tF Z).mp x) id);exact⟨N,a0,c,E,a,by rw[<-jz];exact r,Q⟩
theorem ZE{A g l:#[g]}(h:l.length=g.length):hc (A++g.map (aX A.length)) A.length l=A++l.map (aX A.length):=by unfold hc;simp_all
section
variable{w:aD}{A:aS}{E:#[C]}{s:au}
theorem afs(M:#[g5])(n0:s.heap.IsList t Y)(p:Y.toList=[u,v])(H:∀c0,zA s.heap.objs.size s.heap c0->Q [u,v] #[hJ]):#[as,unpackItems #[M,t] 2 ab]:=by
 have J:t≠s.heap.objs.size:=by obtain⟨o,g,_⟩:=n0;exact cB (bk g)
 obtain⟨Y⟩:=Y;obtain rfl:Y=[u,v]:=p;refine#[bW,jh (by obtain⟨o,g,X,_⟩:=n0;exact#[aY,g,X]) RO.lookup #[cv]];refine#[b9,sj n0 ?_];have h:#[lW,s.heap.push,.ref t].IsListIter s.heap.objs.size t 0:=#[cV,#[aW]];have a:#[lW,s.heap.push,.ref t].IsList t ⟨[u,v]⟩:=Heap.IsList.push n0 _;refine#[a0,cj];refine af (GO h a (x:=u) rfl λN c L=>?_);have f:=a.extBut L.extBut J;refine#[a0,cj];refine af (GO c f (x:=v) rfl λa0 B y=>?_);refine#[b9,aA (aA (aA ?_))];refine#[b9,Ti M B (f.extBut y.extBut J) rfl λT S=>(aA (H T λb o Z e=>S b o Z (y.extBut b o Z (L.extBut b o Z (bN _ e)))))]
end
section
variable{B:Bs}{w:aD}{n:Nat}{O:Gm}{U:#[o]}{H b0:#[l]}{a:aT}{l:#[y]}{h0:#[al]}{i0:ba}
theorem aj.aba(i j:Nat)(h:#[aF,.ob t])(n0:#[aR,b0,t,[u,v]])(P:#[et,.local])(f:#[gO,.local])(t0:#[ez])(v0:j<U.length)(r0:#[jB])(g0:#[fS,lb #[eC] a J=aw ab])(d:#[d0,#[ff,u].set j (aa v),b0]):#[eJ,#[eC]]:=#[hK,λo I L=>#[eI,I=#[ff,u].set j (aa v),L=b0],by
 refine SP (#[e6,h,λu0 k0 R C F=>?_]) (r0 J M.scope) (g0 J M.scope);obtain⟨p0,Y,k,rfl,c,g,z⟩:=C.rel.list F n0;obtain⟨l0,m0,j0,o0,q0⟩:∃l0 m0,Y.toList=[l0,m0]/\VR R l0 u/\VR R m0 v:=by cases X:Y.toList with|nil=>rw[X]at z;cases z|cons l0 r=>rw[X]at z;cases z with|cons N a0=>cases a0 with|cons a0 T=>cases T;exact⟨_,_,rfl,N,a0⟩
 refine#[a0,dR];refine#[b9,fb (afs G.handled #[cG,k] j0 λc0 f0 s0=>?_)];have m:#[hC,R,b0,k0,R,k0,c0]:=aB.heap C.rel s0 λb o e=>f0 b o (cB (bk e)) e;refine lU (km (aG.hg m.rel P #[aU] t0 o0 λp Z=>lU (km (aG.hg Z.rel f #[aU] #[Y] q0 λd0 e0=>uC (q .next _ _ _ d0 _ #[cc] (((C.trans m).trans Z).trans e0) rfl))))),λI L h=>#[Y],λo I L g h=>#[ac,h.1,g]]
end
section
def hM(A:Tx):Tx:=if A.length%2=0 then[32]else[9,32]
def bR(l:#[i])(c:Nat):Nat:=if c=eX l\/c=eW l then#[aa,#[d5]=0,59,44]else#[aa,#[d5]=0,44,58]
def cv(M:#[cY])(e:#[ae]):Tx->#[i]->#[ag]|_,[]=>[]|A,c::r=>(hM A,#[d7])::cv M e (A++(hM A++(M c++[e c]))) r
variable{M:#[cY]}{e:#[ae]}
theorem xY(a b:#[g]):bC (a++b)=bC a++bC b:=by unfold bC;simp
theorem Oi(p:Tx×Tx):bC [p]=p.1++p.2:=by simp[bC]
theorem lA:∀(l:#[g])(A:Tx),#[hV,(cv M e A l)]|[],_=>rfl|_::r,_=>congrArg _ (lA r _)
theorem Ms:∀(l:#[g])(A:Tx)(c:Nat),cv M e A (l++[c])=cv M e A l++[(hM (A++bC (cv M e A l)),#[d7])]|[],A,c=>by show[_]=[_];rw[#[co,bC _=[]],gy]|d::r,A,c=>by show _::cv M e _ (r++[c])=_::(_++_);rw[Ms r];show _::(_++[(hM _,_)])=_::(_++[(hM (A++bC ((hM _,M d++[e d])::cv M e _ r)),_)]);rw[#[co,bC ((hM _,M d++[e d])::cv M e _ r)=(hM _++(M d++[e d]))++bC (cv M e _ r)],<-du _ (hM _++(M d++[e d]))]
theorem tq:∀(l:#[g])(A:Tx),(cv M e A l).map (·.2)=l.map λc=>#[d7]|[],_=>rfl|_::r,_=>congrArg _ (tq r _)
theorem pj:∀(l:#[g])(A:Tx),∀p∈cv M e A l,p.1=[32]\/p.1=[9,32]
 |[],_,p,h=>by cases h
 |c::r,A,p,h=>by
  obtain rfl|h:=bg.mp h
  .show hM _=_\/hM _=_;unfold hM;split;.exact#[dq]
   .exact .inr rfl
  .exact pj r _ p h
theorem xr(h:p∈cv M e A l):∃c∈l,p.2=#[d7]:=by have N:p.2∈(cv M e _ l).map (·.2):=List.mem_map_of_mem h;rw[tq]at N;obtain⟨c,X,h⟩:=bK.mp N;exact⟨c,X,h.symm⟩
theorem IM(l:#[g])(c:Nat):bR l c=59\/bR l c=44\/bR l c=58:=by unfold bR;split<;>split<;>simp
structure iO(M:#[cY])(l:#[i]):Prop where
 words:hC M
 free:∀c∈l,∀x∈M c,x≠32/\x≠9/\x≠10
theorem iO.sub(h:iO M l)(u:∀x∈L,x∈l):iO M L:=⟨h.words,λc X=>h.free c (u c X)⟩
section
variable{l:#[i]}
abbrev dJ:Tx×Tx:=([32],[46])
theorem aln(h:hC M)(c:Nat):M c≠[]:=by obtain⟨d,e⟩:=h.last c;rw[e];simp
theorem Mt(h:iO M l)(A:Tx):∀x∈#[dQ,A,l]++[dJ],Re.yq x:=λx z=>by
 obtain z|z:=cZ.mp z
 .obtain⟨c,X,d⟩:=xr z;refine#[bP,?_,?_,?_];.rcases pj l _ x z with F|F<;>rw[F]<;>decide
  .rcases pj l _ x z with F|F<;>rw[F]<;>decide
  .rw[d];intro y m;obtain m|m:=cZ.mp m;.obtain⟨N,a0,T⟩:=h.free c X y m;unfold Re.fk;simp[N,a0]
   .rw[aZ.mp m];rcases IM l c with t|t|t<;>rw[t]<;>decide
  .rw[d];simp
 .rw[aZ.mp z];exact⟨by decide,by decide,by decide,by decide⟩
theorem Ci:∀I:#[g],(∀c∈I,c.1.length+c.2.length<=b)->bQ I<=I.length*b|[],_=>aV _|c::r,h=>by have N:=Ci r #[ga];have a0:=h c #[bL];show c.1.length+c.2.length+bQ r<=(r.length+1)*b;rw[lR];omega
theorem Zm(h:iO M l)(A:Tx):∀x∈#[dQ,A,l]++[dJ],x.1.length+x.2.length<=67:=λx z=>by
 obtain z|z:=cZ.mp z;.obtain⟨c,X,d⟩:=xr z;have N:=h.words.len c;rw[d];rcases pj l _ x z with F|F<;>rw[F]<;>simp<;>omega
 .rw[aZ.mp z];decide
theorem Mv(h:iO M l)(y:l.length<=5)(A:Tx):hT (#[dQ,A,l]++[dJ])/\bQ (#[dQ,A,l]++[dJ])<=402:=by
 have N:=Zm h A;have a0:=Ci _ N;rw[aY,lA]at a0;simp only[cq,eI]at a0;have T:bQ (#[dQ,A,l]++[dJ])<=402:=by omega
 refine⟨#[bN,λc X=>?_,?_],T⟩;.have:=N c X;omega
 .rw[aY,lA];simp only[cq,eI];omega
 .rw[ky];omega
theorem Bl(A:Tx)(j d:Nat):nW #[fB] j d↔(∃c,#[av,l,c]/\bR l c=d)\/(j=l.length/\d=46):=by
 unfold nW;obtain f|f:=gk j _
 .have H:j<(cv M (bR l) A l).length:=by rw[lA];exact f
  rw[cL H];have e:((cv M (bR l) A l).map (·.2))[j]?=(l.map λc=>M c++[bR l c])[j]?:=by rw[tq]
  rw[cg,cg,bD f,bD H]at e;rw[bD f,bD H];have G:(cv M _ _ l)[j].2=M _++[bR l _]:=hv e;constructor;.simp_all
  .rintro(⟨c,X,S⟩|⟨h,_⟩);.cases X;exact#[cg,#[Y]]
   .omega
 .rw[ew (by rw[lA];exact f),lA];constructor
  .rintro⟨x,z,U⟩;obtain⟨N,rfl⟩:j-l.length=0/\x=dJ:=by cases h:j-l.length with|zero=>rw[h]at z;exact#[aG,(hv z).symm]|succ k=>simp_all
   exact .inr ⟨by omega,by simp_all⟩
  simp_all
theorem Zn(n:l≠[])(Y:l.Nodup)(A:Tx):iZ #[fB] 59 (aa #[eg])\/(iZ #[fB] 59 ab/\iZ #[fB] 44 (aa #[eg])):=by
 have R:=rd n;have i:=pM.mpr (oZ n).1;have L:=pM.mpr (oX n).1;have G:l[l.idxOf (eX l)]=eX l:=EG i;have g:l[l.idxOf (eW l)]=eW l:=EG L;have a:#[a5,#[fB],l.length+1]:=by rw[aY,lA];rfl
 have b:l[bp l]=eX l\/l[bp l]=eW l:=by
  rcases#[mL,lQ]with h|h;.have e:bp l=l.idxOf (eW l):=uw h;right;simp only[e];exact g
  .have e:bp l=l.idxOf (eX l):=uv h;left;simp only[e];exact G
 have p:∀j(f:j<l.length),bp l<j->l[j]≠eX l/\l[j]≠eW l:=λj f h=>by have N:l.idxOf (eX l)<=bp l:=QD _ _;have a0:l.idxOf (eW l)<=bp l:=QE _ _;grind
 have o:∀d,(∀c,(c=eX l\/c=eW l)->bR l c=d)->(∀c,c≠eX l->c≠eW l->bR l c≠d)->d≠46->iZ #[fB] d (aa #[eg]):=λd N a0 T=>by
  refine⟨yX _ _,#[f],(Bl A _ _).mpr (.inl ⟨l[bp l],bD R,N _ b⟩),λj w z h=>?_⟩;rcases(Bl A _ _).mp h with⟨c,X,S⟩|⟨_,h⟩;.obtain⟨f,rfl⟩:=bw.mp X;obtain⟨U,q⟩:=p (j-1) f #[f];exact a0 _ U q S
  .exact T h
 rcases Fb l.length with S|S
 .left;refine o 59 (λc X=>?_) (λc N a0=>?_) #[j];.unfold bR;rw[if_pos X,if_pos S]
  .unfold bR;rw[#[bJ,by rintro(h|h);exact N h;exact a0 h],if_pos S];decide
 .right;refine⟨λj N a0 h=>?_,o 44 (λc X=>?_) (λc N a0=>?_) #[j]⟩
  .rcases(Bl A _ _).mp h with⟨c,X,h⟩|⟨_,h⟩;.unfold bR at h;rw[#[bJ,show¬#[d5]=0 by omega],#[bJ,show¬#[d5]=0 by omega]]at h;split at h<;>cases h
   .cases h
  .unfold bR;rw[if_pos X,#[fj]]
  .unfold bR;rw[#[bJ,by rintro(h|h);exact N h;exact a0 h],#[fj]];decide
theorem Na:∀I:#[ag],(∀p∈I,(p.1=[32]\/p.1=[9,32])/\32∉p.2/\9∉p.2)->fD 32 [] ((bC I).filter (·!=9))=[]::I.map (·.2):=λI h=>by
 have N:(bC I).filter (·!=9)=bj [32] ([]::I.map (·.2)):=by induction I with|nil=>rfl|cons p r Q=>have C:=h p #[bL];have F:bC (p::r)=(p.1++p.2)++bC r:=rfl;rw[F,yG,yG,Q λq O=>h q #[bo,O],filter_free 9 _ C.2.2];rw[(by rcases C.1 with e|e<;>rw[e]<;>rfl:p.1.filter _=[32])];cases r with|nil=>show _=[]++[32]++p.2;simp[bj]|cons q z=>show[32]++p.2++([]++[32]++bj _ _)=[]++[32]++(p.2++[32]++bj _ (q.2::z.map _));simp
 rw[N,tK _ #[z] λa b=>?_];obtain rfl|b:=bg.mp b;.simp
 .obtain⟨p,C,rfl⟩:=bK.mp b;exact(h p C).2.1
theorem Zo(h:iO M l)(A:Tx):∀p∈#[dQ,A,l]++[dJ],(p.1=[32]\/p.1=[9,32])/\32∉p.2/\9∉p.2:=λp C=>by
 have U:=Mt h _ p C;refine⟨?_,λa=>?_,λa=>?_⟩
 .obtain C|C:=cZ.mp C;.exact pj l _ p C
  .rw[aZ.mp C];exact#[dq]
 .have:=U.w _ a;cases this
 .have:=U.w 9 a;cases this
theorem Mu(h:iO M l)(A:Tx):∀p∈#[dQ,A,l]++[dJ],10∉p.1/\10∉p.2:=λp C=>by
 obtain C|C:=cZ.mp C
 .obtain⟨c,X,d⟩:=xr C;refine⟨by rcases pj l _ p C with F|F<;>rw[F]<;>decide,λa=>?_⟩;rw[d]at a;obtain a|a:=cZ.mp a;.exact(h.free c X _ a).2.2 rfl
  .have:=aZ.mp a;rcases IM l c with t|t|t<;>rw[t]at this<;>cases this
 .rw[aZ.mp C];decide
theorem Mf(h:∀p∈I,10∉p.1/\10∉p.2):10∉bC I:=λl=>by obtain⟨t,n0,l⟩:=List.mem_flatten.mp l;grind
theorem aal(h:iO M l)(A:Tx)(i:Nat):fD 10 [] (bj [10] [bC (#[fB].take i),bC (#[fB].drop i)])=[bC (#[fB].take i),bC (#[fB].drop i)]:=by
 refine tK _ #[z] λa I=>?_;simp at I;obtain rfl|rfl:=I;.exact Mf λp C=>Mu h _ p (eJ C)
 .exact Mf λp C=>Mu h _ p (fI C)
theorem YJ:oz (cI (t++bC (I++[dJ])))=ag:=by unfold oz;rw[Bool.and_eq_false_iff];right;rw[<-Pq,Array.all_eq_true_iff_forall_mem];intro h;have:=h 46 (by simp[cI,bC]);revert this;decide
end
end
section
variable{B:Bs}{w:aD}{n m:Nat}{O:Gm}{d0 g0:#[n]}{U x0:#[o]}{H b0 o0 w0 m0:#[l]}{i0 y0 p:ba}{J:aO}{S:#[t]}{l u0 R0:#[y]}{h0 d:#[al]}{a b c o:aT}
theorem eH.iU{T e:String}(g:#[bZ,eH,o,x])(p:VT b0 x T)(l:zB T)(a0:ox T G e)(v:#[l4])(u:#[c8])(I:#[j7])(X:#[hl,#[c5,e],x])(L:#[ec])(P:#[b7])(y:j.length<30):eH B w n O #[i3] U H r w0:=λA J S s Q E n0 a M q=>by refine ll n0 (qh (L _) (sS u y) P (dt _ _ u) (g A _ _ s _ _ n0 a M λu0 k0 F _ C b=>?_));obtain⟨k,f⟩:=p.typeIs C.rel b;refine⟨T,_,l,a0,v,k,f,(kQ (fZ _ _) (eR (I A _ _ _ _ _ a C.rel λZ m R t i=>X A _ _ (u0::Z) _ _ _ a t.rel (.cons (b.pre t.pre) i) λz N h c d c0=>q _ _ _ c0 #[gm,t,c] d)))⟩
theorem eH.split{c r:Nat}(g:#[bZ,eH,o,#[bm]])(I:#[bx,e,#[ao,[c]]])(y:t.length<=2^20)(m:ah (fD c [] t)=q0)(b:o0.length=r)(Z:#[ea,o0])(u:#[ee])(L:#[eb,"split"])(P:#[b7]):eH B w n O #[gV,"split"] U H (.ob r) m0:=eH.iU g #[p] lY uJ RX u #[bn,I] (Cl.split y m Z b) L P #[z]
theorem eH.xR{c0 P:#[a2,aT]}(I:#[bZ,eH,a,.ob k])(y:#[lC])(h:#[jE])(R:#[aR,w0,k,X])(l:#[bp])(f:cJ X i j=q0)(d:w0.length=r)(Z:#[ea,w0]):eH B w n O (.Subscript a #[j8] i0) U H (.ob r) m0:=λA J S s Q E n0 G M q=>by subst d Z;exact ll n0 (lH (I A J S s _ _ n0 G M λu0 k0 F _ C T=>qi (y A J F k0 _ _ G C.rel λC0 m a0 t v=>h A J a0 m _ _ G t.rel λg N h0 u g0=>by
 obtain⟨t0,rfl⟩:=v;obtain⟨x0,rfl⟩:=g0;obtain⟨j0,Y,L,rfl,y,x,c⟩:=u.rel.list ((T.pre t.pre).pre u.pre) R;have e0:N.heap.IsList j0 Y:=#[dY,x,L];refine aA #[m3,(e0.push _)];have d0:#[hC,h0,w0,N,h0,N,N.heap.push #[aj,"slice",.fields,#[gq (i.map λq=>(q,t0)),gq (j.map λq=>(q,x0)),.none]]]:=aB.heap u.rel (#[z]) #[e0];have r0:∀z p0,ou (gq (z.map λq=>(q,p0))) z:=λz p0=>by cases z;exact .none;exact .int _ _
 refine GD (e0.push _) (uM ..) (r0 i t0) (r0 j x0) .none #[z] ?_ (by rw[c.size];exact l);have f0:=((C.trans t).trans u).trans d0;refineλs0=>q _ _ (h0++[_]) s0 (f0.trans (aB.push d0.rel rfl #[Q,0,rfl,?_])) #[P,by rw[<-d0.rel.len];simp];subst f;rw[SK];have l0:=c.length;rw[gI]at l0;rw[l0];exact((c.drop _).take _).mono #[hZ])))
theorem nX.list(h:#[bZ,eH,a,#[ci]])(P:#[hR]):nX 1 B w n O a U H X (λH=>#[b1]) b0:=λA J S s n0 G M Q E q=>h A _ _ s _ E n0 G M λv k0 F _ C T=>by obtain⟨l,Y,k,rfl,y,g,z⟩:=C.rel.list T P;refine#[mh,sj,#[cG,k],hl.list,#[cV,#[aW]],λc=>#[kj,c]]
theorem aj.abf{y:aq}{t:Tx}(i:Nat)(P:#[es,.local])(Y:#[ez])(m:y.cps.toList=t)(b:ed 1 B w n O l (U.set i (aa (.str t))) H h0):#[dA,.Assign [.Name l0 L] (.Constant #[ao,y] H0 z) i0]:=λA J S s Q E G M q=>by subst m;have C:=#[he].toks (s.toks+1);have T:VR S (.str y s.toks) (.str _):=⟨y,_,rfl,rfl⟩;refine mj (zW (oC ?_));refine ll (yX 1 _) (aG.hg C.rel P #[aU] Y T λd c N=>(b A _ _ _ Q E N G c.rel λo X a f g u k e x=>q o _ _ f _ _ k #[gm,c,e] x))
theorem ed.app(h:#[cE,u0,U,H,d])(Y:∀v s,d .next v s->ed N B w n O R0 v s h0)(g:∀o v s,o≠.next->d o v s->h0 o v s):ed N B w n O (u0++R0) U H h0:=λA J S s Q E b G M q=>by refine Pb (ll b (h A _ _ s _ _ G M λo X L f k0 F A0 C T n0=>?_));cases f with
|next=>cases o with|next=>exact Y _ _ A0 A _ _ _ Q E n0 G C.rel λo C0 m f a i k c x=>q o _ _ f _ _ k #[dg,c] x|brk=>cases T|cont=>cases T|ret v=>obtain⟨_,e,_⟩:=T;cases e
|brk=>cases o with|next=>cases T|brk=>exact#[mV]|cont=>cases T|ret v=>obtain⟨_,e,_⟩:=T;cases e
|cont=>cases o with|next=>cases T|brk=>cases T|cont=>exact#[mV]|ret v=>obtain⟨_,e,_⟩:=T;cases e
|ret u=>cases o with|next=>cases T|brk=>cases T|cont=>cases T|ret v=>exact#[mV]
end
noncomputable def mo:#[y]:=by run_tac av.de ["_law_tree"]
noncomputable def mH:bt:=by run_tac av.df ["_law_tree"]
theorem Mo:iA mH 1=ae:=#[p]
section
variable{B:Bs}{w:aD}{d0 g0:#[n]}{M:#[cY]}{e:#[ae]}{l:#[i]}{f k p:Nat}
def eY(o:Ob):Prop:=∀k r,cx k (o::r)=cx #[u] r
theorem aes(F:#[w])(G:#[W])(i:#[dt,"_law_tree",319])(Y:l.length<=5)(E:iO M l)(Z:#[f0,l])(R:#[cL]){q y n:Tx}{A z:#[bf]}{g b:V}{o m O U N a0 e0:Ob}{f0 m0:#[B]}(X:eY o)(u:eY m)(r0:eY O)(S:eY U)(T:eY N)(l0:eY a0)(o0:eY e0)(t0:q.length<=1000)(n0:y.length<=1000)(c0:fD 32 [] (q.filter (·!=9))=[]::(l.take #[u]).map λc=>#[d7])(i0:fD 32 [] (y.filter (·!=9))=[]::(((l.drop #[u]).map λc=>#[d7])++[[46]])){G0:#[i]->#[i]}(d:∀r,#[s,G0,r]<=100){P:#[i]->Prop}(F0:P (l.take k))(E0:P (l.drop #[u]))(Q:∀r,P r->Fn B w (f+12) 319 [#[T,r.map M]] #[eQ,#[cD,(G0 r).map]]):ed 1 B w (f+12) (eG mH 1 []) (mo.drop 10) [#[bi],A,#[ar],#[eZ],aa g,aa b,#[K,n],z,#[ad,6],#[K,q],#[K,y],ab,ab,ab,ab,ab,ab,ab] [#[T,l.map M],#[T,l.map #[cp]],o,m,.list f0,O,U,N,a0,e0,.list m0] (dB 1 #[eQ,#[cD,([40]++G0 (l.take k)++[l.getD k 0]++G0 (l.drop #[u])++[41]).map]]):=by
 have h0:(-1:Int)=-#[bt]:=rfl;have C:∀c,cJ (M c++[e c]) ab (aa (-#[bt]))=M c:=λc=>by rw[<-h0,NI];simp
 have p0:∀c,#[cM,(M c++[e c])]:=λc=>by rw[aY];exact aI (Nat.add_le_add (E.words.len c) #[aJ]) (by show 64+1<=aC;decide)
 have p:(l.take #[u])=l.take k++[l.getD k 0]:=by rw[lP R,ef,bD R];rfl
 have q0:∀t:Tx,(qb (cI t) (ak "\t") (ak "")).cps.toList=t.filter (·!=9):=λt=>replace_strikes (cI t) 9;have L:∀r:#[i],ah (r.map λc=>#[d7])=r.map λc=>V.str (M c++[e c]):=λr=>by unfold ah;rw[gA];rfl
 have k0:∀r:#[i],((r.filter λ_=>ae).map λc=>#[en,c])=ah (r.map M):=λr=>by rw[#[hA]];unfold ah;rw[gA];rfl
 have u0:∀r:#[i],cJ (ah ([]::((r.map λc=>#[d7])++[[46]]))) (aa #[bt]) (aa (-#[bt]))=ah (r.map λc=>#[d7]):=λr=>by rw[<-h0,abn];show(ah ((r.map λc=>#[d7])++[[46]])).dropLast=_;rw[kD];exact List.dropLast_concat
 have I:#[jQ,1000]:=λh=>aI h #[j];refine ed.qV (c:=l.take (k+1)) F (λc=>.str (M c++[e c])) (λ_=>ae) (λc=>.str (M c)) 1 (G:=[ab,ab]) (X:=#[dd,l.take,#[u],λc=>#[d7]]) (q0:=#[dd,l.take,#[u],M]) (r:=13) (C:=λst=>#[aR,st,12,ah ((l.take #[u]).map λc=>#[d7])]) (nX.list (i:=12) (eH.xR (k:=11) (i:=aa ((1:Nat):Int)) (j:=ab) (eH.split (t:=q.filter (·!=9)) (c:=32) (eH.replace G (eH.of (Ev.name 9 rfl rfl (by decide+kernel))) (by show q.length+(q.length+1)*0<=_;omega) (q0 q) (λ_=>rfl) (by decide)) (by run_tac av.aJ) (aI (ug _ _) (aI t0 (by decide))) (by rw[c0]) rfl rfl rfl (λ_=>rfl) (by decide)) (by run_tac av.aJ) (by run_tac av.aJ) rfl (by rw[show ah ([]::(l.take (k+1)).map λc=>M c++[e c])=.str []::ah ((l.take (k+1)).map λc=>M c++[e c])from rfl];simp only[cq,ah,aQ,bI];exact I (by omega)) (pw _ 1) rfl rfl) rfl) rfl #[E] #[E] #[E] #[E] (by simp[cx,X _ _,u _ _,r0 _ _,S _ _,T _ _,l0 _ _,o0 _ _]) rfl rfl rfl (by simp only[ah,aQ,bI];exact#[D,I]) #[an] #[aS] #[aS] (L _) #[am] (λ_ _ _=>rfl) ?_ #[am] ?_ rfl 11 #[E] rfl #[aS] rfl ?_;.intro c a;run_tac av.aJ
 .exact k0 _
 refine ed.qV (c:=l.drop (k+1)) F (λc=>.str (M c++[e c])) (λ_=>ae) (λc=>.str (M c)) 1 (G:=[ab,ab]) (X:=#[dd,l.drop,#[u],λc=>#[d7]]) (q0:=#[dd,l.drop,#[u],M]) (r:=16) (C:=λst=>#[aR,st,15,ah ((l.drop #[u]).map λc=>#[d7])]) (nX.list (i:=15) (eH.xR (k:=14) (i:=aa ((1:Nat):Int)) (j:=aa (-((1:Nat):Int))) (eH.split (t:=y.filter (·!=9)) (c:=32) (eH.replace G (eH.of (Ev.name 10 rfl rfl (by decide+kernel))) (by show y.length+(y.length+1)*0<=_;omega) (q0 y) (λ_=>rfl) (by decide)) (by run_tac av.aJ) (aI (ug _ _) (aI n0 (by decide))) (by rw[i0]) rfl rfl rfl (λ_=>rfl) (by decide)) (by run_tac av.aJ) (by run_tac av.aJ) rfl (by simp only[cq,ah,aQ,aY,dj,eI];exact I (by omega)) (u0 _) rfl rfl) rfl) rfl #[E] #[E] #[E] #[E] (by simp[cx,X _ _,u _ _,r0 _ _,S _ _,T _ _,l0 _ _,o0 _ _]) rfl rfl rfl (by simp only[ah,aQ,dj];exact#[D,I]) #[an] #[aS] #[aS] (L _) #[am] (λ_ _ _=>rfl) ?_ #[am] ?_ rfl 12 #[E] rfl #[aS] rfl ?_;.intro c a;run_tac av.aJ
 .exact k0 _
 refine ed.of ?_;have v:cJ #[bX,(l.take #[u]).map] ab (aa (-#[bt]))=#[dd,l.take,k,M]:=by rw[<-h0,NI,p];simp[ah]
 have J:br #[bX,(l.take #[u]).map] (-#[bt])=#[K,M (l.getD k 0)]:=by rw[p,hr,kD,<-h0];exact Ap _ _
 have H:=pg;have s:#[cM,#[bX,(l.take #[u]).map]]:=by simp only[ah,aQ,bI];exact#[D,I]
 have b0:#[my,[40]++G0 (l.take k)++[l.getD k 0]++G0 (l.drop #[u]),(G0 (l.take k)),l.getD,(G0 (l.drop #[u]))]:=by simp only[hr,kD,dk,pN,CS,CT,tw (Z _ (mu R))];rfl
 rw[b0];have j0:=d (l.take k);have s0:=d (l.drop #[u]);run_tac av.aJ
 all_goals first|(simp only[dw,aY,cq,eI,ah,aQ];omega)|(rw[<-b0];simp[ah,bU])
end
theorem vL{A g:#[g]}(i:Nat)(e0:Ob)(h:#[cC,g]):(A++g.map (aX A.length))[A.length+i]?=aa (aX A.length e0):=by rw[ew (ip _ _),yU,cg,h];rfl
theorem xP(h:bU x=ae):eA b x=x:=by cases x<;>first|rfl|cases h
section
variable{B:Bs}{w:aD}{n m:Nat}{O:Gm}{d0 g0 s0 L:#[n]}{U:#[o]}{N:Nat}{p0 j0:Tx}{d a:#[B]}{C b:Nat}{I u:#[ag]}{A:#[l]}{i0 y0:ba}
theorem JD(h0:#[c6])(v:L G=aa (.ref f))(C0:f∈#[k1])(E:#[cJ,G])(H:#[dV,(wz N p0 j0).lookup,G])(j:Ev B w n O o U #[jX] (.ob (A.length+1)) #[jX])(k:cD s=ae)(g:cy B w n O s U #[jX] Y #[jX])(h:bH B w m f (.ob 1::Y) (#[bj,j0,d,C,I]) r (#[bj,j0,a,b,u]))(l:m<=n)(t:O.fz<=A.length)(p:#[fk,Y])(q:bU r=ae)(M:#[ca,d,0])(Q:#[ca,a,0])(F:#[ec])(P:#[b7])(y:s.length<30):Ev B w n O #[cU,#[c4,G,y0],s] U #[jX] r (A++(#[bj,j0,a,b,u]).map (aX A.length)):=by
 obtain⟨q0,f0,c,a0,T⟩:=(h0.fo f C0).ex;refine Ev.mx h0.Cf j (vL 1 _ rfl) (cA.sh cA.dg) ((vL 0 _ rfl).trans (congrArg aa Du)) #[f] (by rw[oV];simpa using H) v ⟨q0,c,a0,T⟩ (h0.fo f C0).out E k g ?_ F P y;refine((bH.call A.length h t (eK #[z]) (λi e0 e=>vL i e0 e) (jS M) (jS Q) #[bO,?_] ?_ (xP q) (ZE rfl)).le l).s
 .obtain rfl|z:=bg.mp z;.exact#[ap,1<5]
  .exact qL (p x z)
 .show eA _ _::Y.map _=_;rw[show Y.map (eA _)=Y.map id from mX λx z=>xP (p x z),uk];rfl
theorem hT.drop(P:hT I)(k:Nat):hT (I.drop k)/\bQ (I.drop k)<=bQ I:=by
 have g:bQ (I.drop k)<=bQ I:=by
  have:bQ I=bQ (I.take k)+bQ (I.drop k):=by unfold bQ;rw[<-EP,<-hr,hQ]
  omega
 exact⟨⟨λc X=>P.each c (fI X),by have:=P.len;rw[dj];omega,by have:=P.sum;rw[ky]at this⊢;omega⟩,g⟩
variable{M:#[cY]}{l:#[i]}
theorem aej(n:l≠[]):bC (#[dQ,[],l])=[32]++(bC #[gI,l]).drop 1:=by cases l with|nil=>exact#[dp,n]|cons c r=>rfl
theorem afa(h0:#[c6])(C0:#[ml])(I0:#[dt,"_ValueFormatter",116])(O:∀C N(p0 j0:Tx),p0.length<=2^20->#[mw,4])(J0:bb B 106 qP 4 vx)(G0:#[jz])(m0:bb B 64 xG 2 vz)(L0:bb B 78 lD 1 sy)(q:ot B 43)(k:iO M l)(n:l≠[])(Y:l.Nodup)(y:l.length<=5)(c:11<=m){A f0:#[bf]}{g b:V}{F U b0:Tx}{E0 X J S v0:Ob}(n0:F=bC #[gI,l])(w0:U=bC ((#[dQ,[],l]++[dJ]).take #[eg]))(A0:b0=bC ((#[dQ,[],l]++[dJ]).drop #[eg])):aj B w m (eG mH 1 []) ((mo.drop 6).take 4) [#[bi],A,#[ar],#[eZ],aa g,aa b,#[K,F],f0,ab,ab,ab,ab,ab,ab,ab,ab,ab,ab] #[ij] #[fo,v=[#[bi],A,#[ar],#[eZ],aa g,aa b,#[K,F],f0,#[ad,6],#[K,U],#[K,b0],ab,ab,ab,ab,ab,ab,ab],∃q0 H o0 t0 x0,eY q0/\eY H/\eY o0/\eY t0/\eY x0/\s=[E0,X,J,S,v0,q0,H,o0,t0,x0,#[T,[U,b0]]]]:=by
 obtain⟨d,l0⟩:=Mv k y [];have S0:=Mt k ([]:Tx);generalize k0:#[dQ,[],l]=I at*;have p:I.length=l.length:=by rw[<-k0];exact lA _ _
 have t:=rd n
 have i0:F.length+2<=402:=by
  rw[n0,ky];have:bQ (I++[dJ])=bQ I+2:=by{unfold bQ;simp}
  omega
 have U0:F.length=bQ I:=by rw[n0,ky]
 have R0:(402:Nat)<=2^20:=by decide
 have T0:bC (I++[dJ])=[32]++(F.drop 1++[32,46]):=by rw[xY,Oi];have:=aej (M:=M) n;rw[k0,<-n0]at this;rw[<-n0,this];simp
 have f:#[jQ,1000]:=λh=>aI h #[j];refine Mine.W.set (x0:=[#[bi],A,#[ar],#[eZ],aa g,aa b,#[K,F],f0,#[ad,6],ab,ab,ab,ab,ab,ab,ab,ab,ab]) 8 (Ev.HV (Y:=[#[ay,l.length],#[ay,l.length+F.length+#[d5]],.str [45],.str [59,44]]) (b0:=#[ij]) h0.Cf (cN.glob h0.F 16 rfl I0 #[E]) rfl ?_ ((O l.length (l.length+F.length+#[d5]) [45] cH #[j]).call #[f] rfl ?_ rfl rfl)) rfl #[aU] #[aS] #[am] rfl ?_;.have:=h0.F;have:=h0.G;have Q0:F.length<=aC:=#[D,f];clear U0;run_tac av.aJ
 .intro e0 Q R h;subst h;simp[bq,bY,bS,dg,dG,aX]at Q
 have r0:(I++[dJ]).drop (bp l+1)=I.drop (bp l+1)++[dJ]:=#[D,oe];have H0:bQ (I++[dJ])=bQ I+2:=by{unfold bQ;simp}
 have O0:=VL (N:=l.length+F.length+#[d5]) (p0:=[45]) (C:=l.length) h0 C0 J0 G0 q T0.symm S0 d #[f] #[f] #[f] #[f] #[eg] (by rw[<-k0];exact Zn n Y []);have M0:=d.drop (bp l+1);rw[r0]at O0 A0 M0;have u0:U++b0=F++[32,46]:=by rw[w0,A0,<-r0,<-xY,hQ,xY,<-n0];rfl
 have P:U.length+b0.length<=402:=by have:=congrArg hq u0;rw[aY,aY]at this;have e:#[a5,([32,46]:Tx),2]:=rfl;omega
 refine#[gK,JD (A:=#[ij]) (Y:=[.str [32],.str (F.drop 1++[32,46]),.str cH]) h0 h0.Ui #[j] XX rfl #[aD,8] rfl ?_ O0 c #[aS] (by simp[bU]) rfl #[aO] #[bO,by rw[aZ.mp z];trivial] #[an] #[j] #[j],?_]
 .have:=h0.F;have:=h0.G;have Q0:F.length<=aC:=#[D,f];have N0:cJ F (aa #[bt]) ab=F.drop 1:=pw _ _;run_tac av.aJ
  rw[dj];exact f (by simp;omega)
 rw[<-w0]
 have F0:=VQ (N:=l.length+F.length+#[d5]) (p0:=[45]) (j0:=cH) (o:=[U]) (f:=[10]) h0 m0 L0 dJ #[j] M0.1 (by
  have:bQ (I.drop (bp l+1)++[dJ])=bQ (I.drop #[eg])+2:=by{unfold bQ;simp}
  omega) (YJ (t:=[])) (show 2<=2^20 by decide) (by rw[<-A0];simp;exact#[D,f])
 rw[<-A0]at F0;have y0:=aal k [] #[eg];rw[k0,<-w0,r0,<-A0]at y0;refine aj.aba (U:=[#[bi],A,#[ar],#[eZ],aa g,aa b,#[K,F],f0,#[ad,6],ab,ab,ab,ab,ab,ab,ab,ab,ab]) (u:=.str U) (v:=.str b0) 9 10 (Mine.W.split (o0:=#[ij]++(bq B (l.length+F.length+#[d5]) [45] cH (ah ([U]++[b0])) 0 []).map (aX 5)) (r:=10) (q0:=ah [U,b0]) (t:=bj [10] [U,b0]) (c:=10) (JD (A:=#[ij]) (Y:=[.str [10]]) h0 h0.adq #[j] XZ rfl #[aD,8] rfl ?_ F0 c #[aS] (by simp[bU]) rfl #[bO,by rw[aZ.mp z];trivial] #[bO,rf x z] #[an] #[j] #[j]) ?_ ?_ (congrArg ah y0) rfl rfl rfl #[an] #[j]) rfl rfl rfl #[aS] #[aS] #[am] #[am] ?_;.have:=h0.F;have:=h0.G;run_tac av.aJ
 .have:=h0.F;have:=h0.G;run_tac av.aJ
 .simp[bj];omega
 have a:U.length<=aC:=#[D,f];have a0:b0.length<=aC:=#[D,f];have T:F.length<=aC:=#[D,f];have E:#[cM,(U++b0)]:=by rw[aY];exact#[D,f]
 have r:#[cM,(F++[32,46])]:=by rw[aY];exact f (aI i0 #[j])
 have Z:(U++b0 !=F++[32,46])=ag:=by rw[u0];exact bne_self_eq_false _
 refine aj.ite (t:=ag) (b0:=#[ij]++(bq B (l.length+F.length+#[d5]) [45] cH (ah ([U]++[b0])) 0 []).map (aX 5)++[#[fR,[U,b0]]]) ?_ ?_
 .have:=h0.F;have:=h0.G;have i:aH w m (dp .NotEq) #[ao,U++b0] #[ao,F++[32,46]] #[cO,ag]:=by rw[<-Z];exact St.rb
  have u:U.length+b0.length<=aC:=#[D,f];have G:F.length+#[fT,[32,46]]<=aC:=f (aI i0 #[j]);run_tac av.aJ
  all_goals first|rfl|decide
 rw[#[c7]];exact#[dH,⟨rfl,rfl,_,_,_,_,_,#[dj],#[dj],#[dj],#[dj],#[dj],rfl⟩]
end
section
variable{B:Bs}{w:aD}{n m:Nat}{d0 g0:#[n]}{M:#[cY]}{l:#[i]}{g b:Nat}
theorem aet(F:#[w])(G:#[W])(E:iO M l)(C:l≠[])(a:l.length<=5)(b0:∀c,bR l c=if c=eX l\/c=eW l then g else b){T L:Ob}{f0:#[B]}:aj B w m (eG mH 1 []) ((mo.drop 5).take 1) [#[bi],ab,#[ar],#[eZ],#[K,[g]],#[K,[b]],#[K,[]],ab,ab,ab,ab,ab,ab,ab,ab,ab,ab,ab] #[jD] #[fo,#[mA,#[gI,l]],s=#[jD]]:=by
 have I:#[jQ,1000]:=λh=>aI h #[j];have o0:#[lx,1,m,"min",[.ob 1],eX l]:=#[lw,Cl.LH,(oZ C).1,λx z=>by obtain⟨c,X,rfl⟩:=bK.mp z;exact qM.mpr ((oZ C).2 c X)];have m0:#[lx,1,m,"max",[.ob 1],eW l]:=#[lw,Cl.LA,(oX C).1,λx z=>by obtain⟨c,X,rfl⟩:=bK.mp z;exact qM.mpr ((oX C).2 c X)];have Z:#[lD]:=E.words.at_;have l0:∀c,#[ba,M,c]:=λc=>aI (E.words.len c) #[j];refine aj.gX (l:=[]) (i:=1) (X:=ah (l.map M)) (C:=λs=>#[aR,s,0,#[bX,l.map]]) (b0:=#[jD]) (c:=λk v s=>(#[mA,#[gI,l.take k]])/\s=#[jD]) (ck.list #[aD,0] rfl) rfl #[aU] #[bE,#[aA,ab,ab]] ?_ ?_ ?_ #[am];.rintro k v s⟨⟨A,a0,rfl⟩,rfl⟩;exact#[aG,bx rfl]
 .rintro k x v s z⟨⟨A,a0,rfl⟩,rfl⟩i0 _;unfold ah at z;rw[cg,cg]at z;obtain⟨y,f,rfl⟩:=dW.mp z;obtain⟨c,X,rfl⟩:=dW.mp f;have R:#[cL]:=#[V,X];have Y:l.take (k+1)=l.take k++[c]:=by rw[yR,X];rfl
  generalize n0:bC (#[dQ,[],l.take k])=t;have j0:bC (#[dQ,[],l.take #[u]])=t++(hM t++(M c++[bR l c])):=by rw[Y,Ms,xY,Oi,ja,n0]
  have c0:t.length<=402:=by
   have N:=Ci (b:=67) #[gI,l.take k] λx z=>by obtain⟨d,q,r⟩:=xr z;have N:=E.words.len d;rw[r,aY];rcases pj _ _ x z with p|p<;>rw[p]<;>simp<;>omega
   rw[lA,bI]at N;rw[<-n0,ky];omega
  have p0:#[gn,[V.str [32],V.str [9,32]],t.length%2,hM t]:=by unfold hM;rcases Fb t.length with h|h<;>rw[h]<;>rfl
  have h0:#[s,hM,t]<=2:=by unfold hM;split<;>simp
  have Q:=E.words.len c;have q0:∀{J:Tx}{w0:#[l]}(a0:#[bf]),(∃u,a0=aa (.str u))->J=bC #[gI,l.take #[u]]->gR (eG mH 1 []).fz 5 (λv s=>(#[mA,#[gI,l.take #[u]]])/\s=#[jD]) [#[bi],#[K,M c],#[ar],#[eZ],#[K,[g]],#[K,[b]],#[K,J],a0,ab,ab,ab,ab,ab,ab,ab,ab,ab,ab] (#[T,l.map M]::#[T,l.map #[cp]]::T::L::.list f0::w0):=by rintro J w0 a0⟨u,rfl⟩rfl;refine .inr #[du,5,aP _,⟨bx rfl,#[c1],λi e0 P e=>i0.2 i e0 (by rw[<-eD P]at e;exact e)⟩,#[aA,#[K,M c],#[K,u]]];have n:=bz e;simp at n;rcases n with rfl|rfl|rfl|rfl|rfl|rfl|rfl|rfl;all_goals first|trivial|exact#[ap,(0:Nat)<5]|exact#[ap,#[bg]<5]
  cases k0:([[eX l],[eW l]]:#[bB]).contains [c]with
  |true=>
   have S:bR l c=g:=by rw[b0,if_pos];simpa using k0
   run_tac av.aJ
   all_goals first|(simp only[dw,aY,cq,eI];omega)|exact q0 (aa (.str [g])) #[bu] (by rw[j0,S];simp)|rfl
  |false=>
   have S:bR l c=b:=by rw[b0,if_neg];simpa using k0
   run_tac av.aJ
   all_goals first|(simp only[dw,aY,cq,eI];omega)|exact q0 (aa (.str [b])) #[bu] (by rw[j0,S];simp)|rfl
 .rintro v s⟨⟨A,a0,rfl⟩,rfl⟩;refine#[dH,#[aA,rfl,#[bN,A,a0]]];rw[show#[hV,#[bX,l.map]]from by simp[ah],hs]
end
theorem wh:∀(f:Nat)(l:#[g])(p q:Nat),az f l p []=az f l q []|0,_,_,_=>rfl|f+1,l,p,q=>by unfold az;simp only[List.contains_nil,gc,if_false];rw[wh f _ p q,wh f _ (p+bp l+1) _]
section
variable{B:Bs}{w:aD}{n m:Nat}{d0 g0 s0 L:#[n]}{M:#[cY]}
theorem afb(h0:#[c6])(L0:#[ml])(n:#[dt,"_law_tree",319])(T0:#[dt,"_ValueFormatter",116])(e0:∀C N(p0 j0:Tx),p0.length<=2^20->#[mw,4])(Y0:bb B 106 qP 4 vx)(O0:#[jz])(w0:bb B 64 xG 2 vz)(Z0:bb B 78 lD 1 sy)(I:ot B 43)(u:bb B 319 mH 1 mo):∀(f:Nat)(l:#[i])(p:Nat),l.length<=f->f<=5->l.Nodup->iO M l->(#[f0,l])->Fn B w (f+12) 319 [#[T,l.map M]] (.list (ah ((az f l p []).map (ay M)))):=by have F:=h0.F;have G:=h0.G;intro f;induction f with
|zero=>intro l p y m Y E Z;have:l=[]:=#[D,om.mp];subst this;refine#[fq,Mo];run_tac av.aJ
|succ f Q=>
 intro l p y m Y E Z;refine#[fq,Mo];by_cases u0:l=[];.subst u0;run_tac av.aJ
 .have t:(!!#[bX,l.map].isEmpty)=ag:=by cases l with|nil=>exact#[dp,u0]|cons a r=>rfl
  have R:=rd u0;have C0:#[cM,#[bX,l.map]]:=by simp only[ah,aQ];exact aI y (by simp only[dw];omega)
  have i0:az (f+1) l p []=#[nx,l.take,[],l.getD,az f (l.drop #[eg]) (p+bp l+1) []]:=by
   have:l.isEmpty=ag:=by cases l with|nil=>exact#[dp,u0]|cons a r=>rfl
   show#[gb,l.isEmpty];rw[this];rfl
  have I0:=Zo E ([]:Tx);obtain⟨j,v0⟩:=Mv E (show l.length<=5 by omega) []
  have k0:∀(g b:Nat),(∀c,bR l c=if c=eX l\/c=eW l then g else b)->∀(U P:Ob)(f0:#[B]),eY U->eY P->aj B w (f+12) (eG mH 1 []) (mo.drop 4) [#[bi],ab,#[ar],#[eZ],#[K,[g]],#[K,[b]],ab,ab,ab,ab,ab,ab,ab,ab,ab,ab,ab,ab] [#[T,l.map M],#[T,l.map #[cp]],U,P,.list f0] (dB 1 #[eQ,#[cD,(az (f+1) l p []).map]]):=by
   intro g b r0 U P f0 X m0;refine aj.abf (t:=[]) 6 rfl #[aS] rfl ?_;show ed 1 B w (f+12) (eG mH 1 []) ((mo.drop 5).take 1++((mo.drop 6).take 4++mo.drop 10)) _ _ _;refine ed.app (aet F G E u0 #[f] r0) (λv s h=>?_) (λo v s e h=>#[ac,h.1,e]);obtain⟨_,⟨A,q0,rfl⟩,rfl⟩:=h;refine ed.app (afa h0 L0 T0 e0 Y0 O0 w0 Z0 I E u0 Y #[f] #[f] rfl rfl rfl) (λv s h=>?_) (λo v s e h=>#[ac,h.1,e]);obtain⟨_,rfl,y0,b0,x0,E0,H0,U0,n0,T,N0,R0,rfl⟩:=h;rw[i0];have l0:#[hV,#[gI,l]]:=lA _ _;have A0:∀l p H,#[aX,(az f l p H),100]:=λl p H=>by have d:=sP f l p H;have a0:2^f<=2^5:=#[i7];omega
   have J:∀i,#[aX,(bC ((#[dQ,[],l]++[dJ]).take i)),1000]:=λi=>by have:=(j.take i).2;rw[ky];omega
   have Q0:∀i,#[aX,(bC ((#[dQ,[],l]++[dJ]).drop i)),1000]:=λi=>by have:=(j.drop i).2;rw[ky];omega
   have F0:fD 32 [] ((bC ((cv M (bR l) [] l++[dJ]).take (bp l+1))).filter (·!=9))=[]::(l.take #[eg]).map λc=>M c++[bR l c]:=by rw[Na _ λq O=>I0 q (eJ O),#[D,lN],yK,tq,yK]
   have J0:fD 32 [] ((bC ((cv M (bR l) [] l++[dJ]).drop (bp l+1))).filter (·!=9))=[]::(((l.drop #[eg]).map λc=>M c++[bR l c])++[[46]]):=by rw[Na _ λq O=>I0 q (fI O),#[D,oe],hr,uj,tq,uj];rfl
   rw[wh f _ p 0,wh f _ (p+bp l+1) 0];refine aes (P:=λr=>r.length<=f/\r.Nodup/\∀x∈r,x∈l) (G0:=λr=>az f r 0 []) F G n #[f] E Z R X m0 U0 n0 T N0 R0 (J _) (Q0 _) F0 J0 (λr=>A0 r 0 []) ⟨by rw[bI];omega,(lO _ _).nodup Y,λx z=>eJ z⟩ ⟨by rw[dj];omega,(yE _ _).nodup Y,λx z=>fI z⟩ λr k=>?_;exact Q r 0 k.1 #[f] k.2.1 (E.sub k.2.2) λx z=>Z x (k.2.2 x z)
  have t0:(l.map λc=>#[en,c])=ah (l.map M):=by simp[ah]
  have o0:#[lD]:=E.words.at_;have S0:∀c,#[ba,M,c]:=λc=>aI (E.words.len c) #[j];have M0:(l.filter λ_=>ae).map (#[fK])=ah (l.map #[cp]):=by rw[#[hA]];simp[ah]
  have G0:hO 288 14 l #[hO] (λ_=>ae) (λc=>#[dR]):=trivial;have a1:#[hV,#[bX,l.map]]:=by simp[ah]
  rcases Fb l.length with S|S
  .have O:br [V.ob 2,V.ob 3] #[I,#[d5]]=#[ad,2]:=by rw[S];rfl
   have X0:=k0 59 44 (λc=>by unfold bR;rw[if_pos S,if_pos S]) (.tup #[e9,[59],[44]]) (.tup #[e9,[44],[58]]) [.ob 2,.ob 3] #[am] #[am];clear k0;run_tac av.aJ
   exact t0.symm
  .have O:br [V.ob 2,V.ob 3] #[I,#[d5]]=#[ad,3]:=by rw[S];rfl
   have X0:=k0 44 58 (λc=>by unfold bR;rw[#[bJ,show¬#[d5]=0 by omega],#[bJ,show¬#[d5]=0 by omega]]) (.tup #[e9,[59],[44]]) (.tup #[e9,[44],[58]]) [.ob 2,.ob 3] #[am] #[am];clear k0;run_tac av.aJ
   exact t0.symm
end
def qH:V->Bool|.str _=>ae|.int _=>ae|_=>ag
theorem Vv(z:qH x=ae)(e:VR S u x)(a:#[bl,x]):Sg A s u v ae:=by cases x with|str t=>obtain⟨p,k,rfl,N⟩:=e;obtain⟨q,j,rfl,a0⟩:=a;have:=OG (N.trans a0.symm);subst this;have:=FV (A:=A) (s:=s) p k p j;simp_all|int i=>obtain⟨k,rfl⟩:=e;obtain⟨j,rfl⟩:=a;have:=SeqAt.EqAt.int_int (A:=A) (s:=s) i k i j;simp_all|_=>cases z
theorem Hk(n:Nat):((aR n).all λ_=>ae)=ae:=by simp
theorem Hg(h:#[a1,Y,X]):∀(j:Nat)(f:j<Y.length),∃x∈X,VR S Y[j] x/\#[av,X,x]:=by induction h with|nil=>intro j f;exact#[ac,f,Ff _]|cons N _ Q=>intro j f;cases j with|zero=>exact#[Q,.head _,N,rfl]|succ j=>simp_all
theorem IL{Y Z:#[bI]}(z:∀x∈X,qH x=ae)(N:#[gc])(a0:#[a1,Z.toList,X]):∀j(U:j<Y.size)(q:j<Z.size),Sg A s Y[j] Z[j] ae:=λj U q=>by obtain⟨x,m,T,F⟩:=Hg N j (#[f]);obtain⟨y,_,i,d⟩:=Hg a0 j #[f];rw[F]at d;cases d;exact Vv (z x m) (by simpa using T) (by simpa using i)
section
variable{B:Bs}{w:aD}{n m:Nat}{O:Gm}{d0 g0:#[n]}{U x0:#[o]}{H b0 o0 w0 d m0:#[l]}{i0 y0 p:ba}{J:aO}{S:#[t]}{l:#[y]}{h0:#[al]}{a b c o i:aT}
theorem St.XR{i j:Nat}(P:#[b1])(f:#[aR,H,j,X])(z:X.all qH=ae):#[jK,.NotEq,#[ci],#[cn],#[cO,ag]]:=λA J S u v s Q E G M e p q=>by obtain⟨a,Y,A0,rfl,_,y,m⟩:=M.list e P;obtain⟨R,Z,t0,rfl,_,d,L⟩:=M.list p f;refine Fz (SeqAt.RcNeAt.lists #[dY,y,_] #[dY,d,_] (by rw[m.size,L.size]) (ki #[f] G.units) (IL (λx l=>fe.mp z x l) m L)) ?_;rw[Hk];exact q _ s _ #[ek] rfl
theorem St.Ta{i j:Nat}(P:#[f8])(f:H[j]?=aa (.tup X))(z:X.all qH=ae):#[jK,.NotEq,#[ci],#[cn],#[cO,ag]]:=λA J S u v s Q E G M e p q=>by obtain⟨a,Y,A0,rfl,_,y,m⟩:=M.tup e P;obtain⟨R,Z,t0,rfl,_,d,L⟩:=M.tup p f;refine Fz (Sh #[dY,y,_] #[dY,d,_] (ki #[f] G.units) (IL (λx l=>fe.mp z x l) m L)) ?_;rw[Hk,m.size,L.size,beq_self_eq_true];exact q _ s _ #[ek] rfl
theorem aj.Hq(e:#[b6,o,#[cn]])(P:#[bx,i,#[bz,k]])(F:#[aR,o0,j,X])(y:#[bp])(z:X[k]?=aa x)(m:Ev B w n O a U o0 v w0)(I0:fA B w n O (ek I) x v U w0 r d)(U0:#[aR,d,j,X])(c0:O.fz<=j)(c:∀J0 R0 L,augStore i J0 R0 L=(do
 va [L,J0,R0] (vh J0 R0 L);release [L,J0,R0] [];aw .next))(g0:d.set j (.list (X.set k r))=m0)(N:#[hw]):#[lg,.Subscript o i p]:=by have f:=#[V,z];refine#[hK,λo e0 b=>#[eI,e0=U,b=d.set j (.list (X.set k r))],?_,λe0 b h=>#[Y],λo e0 b e h=>#[ac,h.1,e]];refine wpAny_AugAssign_SubscriptAny (#[a8,e,λu0 k0 f0 C a0=>#[h5,P,λC0 Z s0 T q0=>?_]]) c;obtain⟨t,rfl⟩:=q0;have N0:=a0.pre T.pre;obtain⟨E0,Y,n0,rfl,L0,r0,x0⟩:=T.rel.list N0 F;obtain⟨u,d0,Q0⟩:=x0.at z;have G0:aC=2^24:=rfl;refine GC (#[dY,r0,_]:Z.heap.IsList _ _) (nY k) #[f] (by simpa using d0) ?_;refine#[cs,m,_,G,T.rel,λg l0 y0 j0 v0=>I0 A _ _ u _ _ _ E G j0.rel (Q0.pre j0.pre) v0 λR A0 F0 t0 H0=>?_];obtain⟨Y0,M0,X0,p0,O0,S0,T0⟩:=t0.rel.list ((N0.pre j0.pre).pre t0.pre) U0;cases p0;refine Nv S0 (by rw[T0.size];exact f) #[f] ?_;refine#[gQ,(((C.trans T).trans j0).trans t0).trans (aB.list (t:=A0.toks) t0.rel O0 c0 S0 ?_)];rw[Po];exact T0.set H0 k
end
theorem Ij(c:Nat):∀t:Tx,PyProof.Rows.cnt c t=t.count c
 |[]=>rfl
 |a::r=>by
  rw[PyProof.Rows.cnt_cons,Ij c r];by_cases h:a=c;.subst h;simp;omega
  .simp[h]
theorem Ws{C:#[g]}(h:#[a1,Y,C.map V.int]):∀(i:Nat)(v:ai),#[G,Y,v]->∃t,v=.int (C.getD i 0) t:=by induction C generalizing Y with|nil=>cases h;intro i v e;cases e|cons m r Q=>cases h with|cons N a0=>intro i v e;cases i with|zero=>cases e;obtain⟨t,rfl⟩:=N;exact#[bE,t]|succ i=>exact Q a0 i v e
theorem ME(C:#[g]):∀k,k<=C.length->kX (λi=>C.getD i 0) k=(C.take k).foldl (·+·) 0
 |0,_=>rfl
 |k+1,h=>by
  rw[kX,ME _ k #[f],yR,mV];have:C[k]?=aa (C.getD k 0):=by rw[ef,#[D,bD]];rfl
  rw[this];rfl
section
variable{B:Bs}{w:aD}{n m:Nat}{O:Gm}{d0 g0:#[n]}{U x0:#[o]}{H b0 o0 w0 d m0:#[l]}{i0 y0 p:ba}{J:aO}{S:#[t]}{l:#[y]}{h0:#[al]}{a b c o e:aT}
theorem Cl.count{c:Nat}:#[fC,"str.count",#[e9,t,[c]],.int (t.count c)]:=λA J S Z s Q E G M p q=>by cases p with|cons N a0=>cases a0 with|cons a0 T=>cases T;obtain⟨x,k,rfl,rfl⟩:=N;obtain⟨y,t0,rfl,m⟩:=a0;obtain rfl:y=#[dE]:=OG m;refine SC.count ?_;rw[count_is];refine#[fA,#[a3,s.toks]];rw[<-Ij];rfl
theorem W.count{c:Nat}(g:#[b6,o,#[bm]])(I:#[bx,e,#[ao,[c]]])(u:#[ee])(L:#[eb,"count"])(P:#[b7]):#[aP,#[gV,"count"],.int (t.count c),o0]:=Ev.iU g #[p] lY aio ajc u #[bn,I] Cl.count L P #[z]
theorem Cl.sum{C:#[g]}(P:#[b1])(z:X=C.map V.int)(c:C.foldl (·+·) 0=r):#[fC,"sum",[.ob i],#[U,r]]:=λA J S a s Q E G M p q=>by subst z c;cases p with
|cons N a0=>
 cases a0;obtain⟨l,Y,L,rfl,y,g,k⟩:=M.list N P;have j:s.heap.IsList _ _:=#[cG,_];have f:=bk g;refine fb (call_sum_walkG (sj j ?_));refine⟨_,_,_,_,_,_,_,rfl,Gb (A:=A.in1) G.handled _ _ (cB f) _,⟨#[cV,#[aW]],j.push _⟩,λb Z=>?_,λi v e=>Ws k i v (#[Y]),λc0 p0 h R I=>?_⟩
 .rw[da];obtain rfl|Z:=bg.mp Z;.exact hR _
  .rw[aZ.mp Z];exact kL f
 .refine#[a9,aB.heap M I λb o e=>old_kept R b o e,#[a3,h]];have d:=by have:=k.size;rw[aQ]at this;exact this
  rw[d,ME _ _ #[aJ],hs]
theorem Ev.NL(I:#[aF,.ob k])(u:ec B w n O (aa e) U b0 (aa (-1)) o0)(R:#[aR,o0,k,X])(f:#[bp])(d:X.reverse=q0)(c:o0.length=r)(Z:#[ea,o0]):#[f4,.Slice ab ab (aa e) p,.ob r,m0]:=λA J S s Q E G M q=>by subst c Z d;exact lH (#[e6,I,λu0 k0 F C T=>by refine qi ?_;refine aA ?_;refine aA (u A J F k0 _ E G C.rel λC0 m j t i=>?_);obtain⟨t0,rfl⟩:=i;obtain⟨v,Y,L,rfl,y,h,z⟩:=t.rel.list (T.pre t.pre) R;have l:m.heap.IsList v Y:=#[dY,h,L];refine#[m3,(l.push _)];have g:#[hC,j,o0,m,j,m,m.heap.push #[aj,"slice",.fields,#[.none,.none,gq ((aa (-1)).map λq=>(q,t0))]]]:=aB.heap t.rel (by rw[da];exact dP _) #[e0];refine GD (l.push _) (uM ..) .none .none (.int _ _) #[j] ?_ (by rw[z.size];exact f);rw[krv_pick];refine q _ _ (j++[_]) (((C.trans t).trans g).trans (aB.push g.rel rfl #[Q,0,rfl,(z.rev).mono #[hZ]])) #[P,by rw[<-g.rel.len];simp]])
end
noncomputable def en:#[y]:=by run_tac av.de ["law"]
noncomputable def Dk:bt:=by run_tac av.df ["law"]
theorem YU:iA Dk 1=ae:=#[p]
def lv(l:#[o]):#[o]:=l++cO (43-l.length) ab
noncomputable abbrev bB:Gm:=eG Dk 1 []
section
variable{B:Bs}{w:aD}{n:Nat}{d0 g0:#[n]}
theorem WG(F:#[w])(G:#[W]){A:List Int}(r:A.length<=63):#[dh,en.take 2,[#[bi]]++cO 42 ab,[#[bk,A.map,V.int]],λo v s=>o=.next/\∃(L:#[bf])(u:List Int),u.length=4/\v=[#[bi],#[ar],L]++cO 40 ab/\s=#[iO]]:=by
 have I:#[ba,A.map,V.int]:=by rw[aQ];exact#[bG,r]
 have h:#[s,A.map,V.int]=A.length:=aQ ..;run_tac av.aJ
 refine aj.gX (l:=[]) (i:=2) (X:=(aR A.length).map #[cR]) (C:=λ_=>True) (b0:=[#[bk,A.map,V.int],.list [#[ay,206],#[ay,7465],#[ay,529608],#[ay,497]]]) (c:=λ_ v s=>∃(L:#[bf])(u:List Int),u.length=4/\v=[#[bi],#[ar],L]++cO 40 ab/\s=#[iO]) ?_ rfl #[aU] #[du,ab,[206,7465,529608,497],rfl,rfl] ?_ ?_ ?_ #[am];.run_tac av.aJ
 .rintro k v s⟨L,u,_,rfl,rfl⟩;exact#[gs,bx rfl]
 .rintro k x v s z⟨L,u,E,rfl,rfl⟩_ _;rw[cg]at z;obtain⟨j,f,rfl⟩:=dW.mp z;have R:k<A.length:=by have:=#[V,f];simpa using this
  obtain rfl:j=k:=by rw[rE R]at f;exact(hv f).symm
  have l:j%4<u.length:=by rw[E];exact ht _ #[j]
  refine aj.Hq (k:=j%4) (X:=u.map V.int) (x:=.int (u[j%4])) (v:=.int (A[j])) (r:=.int (u[j%4]+A[j])) (b0:=#[iO]) (o0:=#[iO]) (w0:=#[iO]) (d:=#[iO]) #[aD,1] ?_ rfl (by rw[aQ,E];decide) (by rw[cg,bD l];rfl) (Ev.rh (j:=0) #[aD,0] #[aD,2] rfl I ?_) St.wI.up rfl #[aJ] (λ_ _ _=>rfl) rfl (aj.nil (.inl ⟨_,u.set (j%4) (u[j%4]+A[j]),by rw[yJ];exact E,rfl,by rw[um];rfl⟩));.run_tac av.aJ
  .unfold br;rw[ih (by rw[aQ];exact R)];simp
 .rintro v s⟨L,u,E,rfl,rfl⟩;exact#[dH,⟨rfl,L,u,E,rfl,rfl⟩]
end
def lB:Nat->Int->#[i]->#[i]|0,_,_=>[]|n+1,code,u=>u.getD #[fw,code,n+1] 0::lB n (code/#[I,n+1]) (u.eraseIdx #[fw,code,n+1])
theorem Dd:∀(n:Nat)(m:Int)(u:#[g]),lB n m u∈pn n u|0,_,_=>.head _|n+1,m,u=>by unfold pn lB;refine EK.mpr #[aw,eN.mpr ?_,bK.mpr #[P,Dd n _ _]];have a0:=yu m (show(0:Int)<(n+1:Nat)by omega);omega
theorem MZ:∀(n:Nat)(m:Int)(u:#[g]),#[a5,(lB n m u),n]|0,_,_=>rfl|n+1,_,_=>congrArg _ (MZ n _ _)
theorem aaj:(pn 4 [97,98,99,100]).all (λl=>decide l.Nodup&&l.all λx=>#[aB,97<=x/\x<=101])=ae:=#[p]
theorem aak:(pn 5 [97,98,99,100,101]).all (λl=>decide l.Nodup&&l.all λx=>#[aB,97<=x/\x<=101])=ae:=by decide+kernel
theorem aar(f:Nat)(h:f<12):br [V.str [32],V.str [9],V.str [13,10],if f=10 then V.str []else V.str [10]] (f/3:Nat)=#[K,ig f]:=by
 have:∀j,j<4->br [V.str [32],V.str [9],V.str [13,10],if f=10 then V.str []else V.str [10]] (j:Nat)=aa #[aa,j=0,V.str _,if j=1 then V.str _ else if j=2 then V.str _ else if f=10 then V.str _ else V.str _]:=λj a=>by rcases(show j=0\/j=1\/j=2\/j=3 by omega)with rfl|rfl|rfl|rfl<;>rfl
 rw[this _ #[f]];unfold ig;congr 1;split;.rfl
 .split;.rfl
  .split;.rfl
   .split<;>rfl
theorem Vj(d:Nat)(h:d<6):br [V.str [],V.str #[eK],V.str [92,41],V.str #[fX],V.str [92,92,59],V.str [92,34]] d=#[K,gU d]:=by rcases(show d=0\/d=1\/d=2\/d=3\/d=4\/d=5 by omega)with rfl|rfl|rfl|rfl|rfl|rfl<;>rfl
def cV(h:Int)(b k:Nat):Nat:=#[fw,h/#[I,b^k],b]
theorem wx(h:Int)(Z:0<b)(k:Nat):cV h b k<b:=by have a0:=yu (h/(b^k:Nat)) (show 0<(b:Int)by omega);unfold cV;omega
section
variable{B:Bs}{w:aD}{n:Nat}{d0 g0:#[n]}
theorem nJ(i:Int){b:Nat}(Z:0<b):#[bS,bM,.Mod,#[cr],#[U,b],#[U,((i%b).toNat:Int)]]:=by
 have h:=St.mod (w:=w) (n:=n) (i:=i) (j:=b) #[f];have e:i.fmod b=((i%b).toNat:Int):=by rw[En _ #[f]];have:=El i (show(b:Int)≠0 by omega);omega
 rw[e]at h;exact h
theorem qv(i:Int){b:Nat}(Z:0<b)(u:b<1073741824):#[bS,bM,.FloorDiv,#[cr],#[U,b],#[U,i/b]]:=by have h:=St.fdiv (w:=w) (n:=n) (i:=i) (j:=b) #[f] (Fq #[f]);rw[Em _ #[f]]at h;exact h
theorem Wl(i:Int){b:Nat}(Z:0<b)(u:b<1073741824):#[bS,ek,.FloorDiv,#[cr],#[U,b],#[U,i/b]]:=by have h:=St.wK (w:=w) (n:=n) (i:=i) (j:=b) #[f] (Fq #[f]);rw[Em _ #[f]]at h;exact h
end
abbrev lq:Tx:=[97,98,99,100,101]
def eM(a:Int):Nat:=4+#[fw,a,2]
def gE(a:Int):#[i]:=lB (eM a) (a/#[I,2]) #[jI]
def dI(a b:Int)(c:Nat):Nat:=cV b 6 ((gE a).idxOf c)
theorem wW(a:Int):4<=eM a/\eM a<=5:=by unfold eM;omega
theorem KJ(a:Int):#[s,gE,a]=eM a:=MZ _ _ _
theorem KL(a:Int):(gE a).Nodup/\∀x∈gE a,97<=x/\x<=101:=by
 have l:=Dd (eM a) (a/(2:Nat)) #[jI];obtain⟨N,a0⟩:=wW a
 have:(decide (gE a).Nodup&&(gE a).all λx=>#[aB,97<=x/\x<=101])=ae:=by
  unfold gE;obtain e|e:=(show eM a=4\/eM a=5 by omega);.rw[e]at l⊢;exact fe.mp aaj _ l
  .rw[e]at l⊢;exact fe.mp aak _ l
 rw[fF,decide_eq_true_eq,fe]at this;exact⟨this.1,λx z=>of_decide_eq_true (this.2 x z)⟩
theorem Wm{l:#[i]}(Y:l.Nodup)(R:#[cL]):l.idxOf l[k]=k:=#[Y]
theorem IT{S c:Type}(g:S->c):∀(l:#[g])(i:Nat),(l.map g).eraseIdx i=(l.eraseIdx i).map g|[],_=>rfl|_::_,0=>rfl|_::r,i+1=>congrArg _ (IT g r i)
theorem xX(l:#[g]){k:Nat}(R:#[cL]):br (ah l) k=#[K,l[k]]:=by unfold br;rw[ih (by simpa[ah]using R)];simp[ah]
theorem NY(w:Tx)(b:Nat):#[aX,(fm w b),2*w.length+2]:=by have N:=Bp w;match w,b with
 |w,2=>
  have:∀w,#[s,qy,w]<=2*w.length:=λw=>by induction w with|nil=>exact aP _|cons c r Q=>unfold qy at*;rw[mU];simp only[aY,cq,eI];omega
  have:=this w;show#[s,qy,w]<=_;omega
 |w,1=>show#[aX,([34]++nD w++[34]),_];simp_all
 |[],0=>exact aV _
 |[],n+3=>exact aV _
 |c::r,0=>have:=vV 92 r;show#[aX,(#[aa,decide _,[92],[]]++[c]++lZ _ r),_];split<;>simp only[aY,cq,eI]<;>omega
 |c::r,n+3=>have:=vV 92 r;show#[aX,(#[aa,decide _,[92],[]]++[c]++lZ _ r),_];split<;>simp only[aY,cq,eI]<;>omega
theorem Np(f:Nat):#[s,ig,f]<=2:=by
 unfold ig;split;.decide
 .split;.decide
  .split;.decide
   .split<;>decide
theorem AF(M b:#[ae]):∀(k:Nat)(l:#[g]),#[aX,(eP M b k l),140*l.length]|_,[]=>aV _|k,c::r=>by have N:=AF M b #[u] r;have a0:=NY (aF M c) (b k%3);have T:=(kF M).len c;have E:=Np (b k);show#[aX,(fm _ _++ig _++eP _ _ _ r),140*(r.length+1)];rw[aY,aY];omega
def Kn(f:Nat)(L:#[i])(M b:#[ae])(C:#[B])(A:Ob)(k:Nat)(v:#[o])(s:#[l]):Prop:=∃(G0 J N:#[bf])(m:Int)(u:#[i]),u.length=f-k/\L=L.take k++lB (f-k) m u/\v=[#[bi],#[ar],G0,#[v,f],#[ct,m],#[ad,2],#[ad,3],#[K,[9,10]++eP M b 0 (L.take k)],J,N]++cO 33 ab/\s=[A,.list C,#[bk,u.map,#[fK]],#[T,(L.take k).map (aF M)]]
theorem Ko{f j i:Nat}{L:#[i]}{M b:#[ae]}{C:#[B]}{A:Ob}{m:Int}{u:#[i]}{g:Int}{v:Tx}(r:U<=4)(N:#[s,u.eraseIdx,i]=f-(j+1))(a0:L=L.take (j+1)++lB (f-(j+1)) m (u.eraseIdx i))(n0:k=[9,10]++eP M b 0 (L.take (j+1)))(H:fu 4 A)(a:#[ca,C,4])(P:E=#[dd,L.take,j+1,aF M])(n:d=(u.eraseIdx i).map #[fK]):gR U 4 (Kn f L M b C A (j+1)) [#[bi],#[ar],#[ct,(j:Int)],#[ct,(f:Int)],#[ct,m],#[ad,2],#[ad,3],#[K,k],#[K,v],#[ct,g],ab,ab,ab,ab,ab,ab,ab,ab,ab,ab,ab,ab,ab,ab,ab,ab,ab,ab,ab,ab,ab,ab,ab,ab,ab,ab,ab,ab,ab,ab,ab,ab,ab] (A::.list C::.list d::.list E::w0):=by
 subst n0 P n;refine .inr ⟨4,aP _,⟨r,λq x e=>?_,λq e0 O e=>?_⟩,_,_,_,_,_,N,a0,rfl,rfl⟩;.have l:=bz e;simp at l;rcases l with rfl|rfl|rfl|rfl|rfl|rfl|rfl|rfl|rfl|rfl;all_goals first|trivial|exact#[ap,0<4]|exact#[ap,1<4]|exact#[ap,2<4]|exact#[ap,3<4]
 .match q,O,e with|0,_,e=>cases e;exact H|1,_,e=>cases e;exact a|2,_,e=>cases e;exactλx z=>by obtain⟨c,_,rfl⟩:=bK.mp z;trivial|3,_,e=>cases e;exactλx z=>(rf x z).le (aV _)
section
variable{B:Bs}{w:aD}{n:Nat}{d0 g0:#[n]}
theorem mD(i j:Nat)(P:i<16)(f:j<2^20):#[cf,.Pow,#[bz,i^j]]:=by
 refine St.xt ?_;have:∀i<16,bX (i:Nat)<=4:=by decide
 have:(bX i:Int)*j<=4*2^20:=by exact_mod_cast(nc (this i P) #[f])
 exact Int.le_trans this #[j]
theorem WI(F:#[w])(G:#[W])(w0:#[dt,"_law_spelled",314])(i1:bb B 314 tC 2 vC)(Y:2<=n)(a b c d:Int){O:Ob}(y:#[bf]):#[dh,(en.drop 2).take 6,[#[bi],#[ar],y]++cO 40 ab,[O,#[dC]],λo v s=>o=.next/\∃(G0 C b0 n0:#[bf])(u:#[B]),v=[#[bi],#[ar],G0,#[v,eM a],C,#[ad,2],#[ad,3],#[K,[9,10]++#[lI,gE a]],b0,n0]++cO 33 ab/\s=[O,#[dC],.list u,#[T,(gE a).map (aF (dI a b))]]]:=by
 have Y0:=wW a;have f0:=nJ (w:=w) (n:=n) a (b:=2) #[f];have T:=#[lj,a,2,#[f]];have u0:cJ lq ab (aa #[I,eM a])=lq.take (eM a):=NK _ _;have l1:4+#[fw,a,2]=eM a:=rfl;run_tac av.aJ
 .exact#[bG,Dy _ _ _]
 rw[l1,show cJ ([97,98,99,100,101]:Tx) ab (aa #[I,eM a])=lq.take (eM a)from u0];have R0:=KJ a;obtain⟨S,x0⟩:=KL a;have M0:lB (eM a) (a/#[I,2]) #[jI]=gE a:=rfl;have k1:#[jI].length=eM a:=by rw[bI];show min (eM a) 5=_;omega
 generalize M:gE a=L at*;have N0:∀k(R:k<L.length),dI a b L[k]=cV b 6 k:=λk R=>by unfold dI;rw[M,Wm S R]
 generalize E:eM a=m at*;refine aj.gX (B:=B) (w:=w) (n:=n) (O:=bB) (l:=[]) (i:=2) (X:=(aR m).map #[cR]) (C:=λ_=>True) (b0:=[O,#[dC],#[bk,(lq.take m).map,#[fK]],.list []]) (c:=Kn m L (dI a b) (cV c 12) [.int a,.int b,.int c,.int d] O) ?_ rfl #[aU] ⟨y,ab,ab,a/#[I,2],lq.take m,by rw[k1];rfl,M0.symm,rfl,rfl⟩ ?_ ?_ ?_ ?_;.run_tac av.aJ
 .rintro k v s⟨G0,b0,n0,h0,u,_,_,rfl,rfl⟩;exact#[gs,bx rfl]
 .rintro k x v s z⟨G0,b0,n0,h0,u,r0,a1,rfl,rfl⟩q0 _;rw[cg]at z;obtain⟨j,q,rfl⟩:=dW.mp z;have R:k<m:=by have:=#[V,q];simpa using this
  obtain rfl:j=k:=by rw[rE R]at q;exact(hv q).symm
  have H:j<L.length:=by omega
  obtain⟨p0,J0⟩:∃p0,m-j=p0+1:=⟨m-j-1,by omega⟩;rw[J0]at a1 r0;have s0:0<m-j:=by omega
  have T0:=nJ (w:=w) (n:=n) h0 s0;have X0:=Wl (w:=w) (n:=n) h0 s0 #[f];rw[J0]at T0 X0;obtain⟨i,P⟩:∃i,i=#[fw,h0,p0+1]:=#[bu];have X:i<u.length:=by have N:=El h0 (show#[I,p0+1]≠0 by omega);have a0:=yu h0 (show(0:Int)<#[I,p0+1]by omega);omega
  rw[<-P]at T0;have d1:L=L.take j++(u.getD i 0::lB p0 (h0/#[I,p0+1]) (u.eraseIdx i)):=by rw[P];exact a1
  have c1:L[j]=u.getD i 0:=by
   have e:#[av,L,u.getD i 0]:=by rw[d1,ew (by rw[bI];omega),bI,#[D,kM],kN];rfl
   rw[bD H]at e;exact hv e
  have Z:L.take (j+1)=L.take j++[L[j]]:=lP H;have J:gU (cV b 6 j)++[u.getD i 0]=aF (dI a b) L[j]:=by unfold aF;rw[N0 j H,c1]
  have Q:6^j<=6^5:=#[i7];have Z0:12^j<=12^5:=#[i7];have j1:0<6^j:=#[D,ze];have h1:0<12^j:=#[D,ze];have F0:=#[hj,6,j];have E0:=#[hj,12,j];have I0:=qv (w:=w) (n:=n) b j1 #[f];have A0:=qv (w:=w) (n:=n) c h1 #[f];have y0:#[lJ,b,6^j,6,cV b 6 j]:=nJ _ #[f];have O0:#[lJ,c,12^j,12,#[eM]]:=nJ _ #[f];have g:=Vj (cV b 6 j) (wx b #[f] j);have j0:#[eM]<12:=wx c #[f] j;have e1:#[a6,(u.map λc=>#[dR]),.str,[u.getD i 0]]:=by rw[cg,bD X,ef,bD X];rfl
  have m1:(u.map λc=>#[dR]).eraseIdx i=(u.eraseIdx i).map #[fK]:=IT _ _ _;have n1:i<2^62:=by omega
  have o1:#[ba,u.map,#[fK]]:=by rw[aQ,dw];omega
  have o0:#[l5]++[.str (aF (dI a b) L[j])]=#[dd,L.take,j+1,aF (dI a b)]:=by rw[Z,hr,kD];rfl
  have L0:br (ah ((L.take (j+1)).map (aF (dI a b)))) #[I,j]=#[K,#[ip]]:=by rw[xX _ (by rw[aQ,bI];omega)];simp
  have p1:#[f7,314,.atom (.str #[ip]),#[eM]%3,.atom (.str (fm #[ip] (#[eM]%3)))]:=(ace F G i1 _ _ (by unfold aF;simp) ((kF (dI a b)).len _) #[f]).le Y;have t0:#[fx,.FloorDiv,#[eM],3,#[eM]/3]:=St.wu #[f] (Fq #[f]);have g1:=aar (cV c 12 j) j0;have H0:#[fx,.Sub,m,j,p0+1]:=by have:=St.iW (w:=w) (n:=n) (i:=m) (j:=j) #[f];rwa[J0]at this
  have U0:[9,10]++#[lI,L.take j]++(fm (aF (dI a b) L[j]) (#[eM]%3)++ig (cV c 12 j))=[9,10]++#[lI,L.take (j+1)]:=by
   have e:0+#[s,L.take,j]=j:=by rw[bI];omega
   rw[Z,HO,e,du]
  have q1:=(kF (dI a b)).len L[j];have I:#[jQ,10000]:=λh=>aI h #[j];have l:#[s,gU,cV b 6 j]+#[fT,[u.getD i 0]]<=aC:=by have:=congrArg hq J;rw[aY]at this;exact#[D,I]
  have p:#[cM,(ah ((L.take j).map (aF (dI a b))))]:=by simp only[ah,aQ,bI];exact#[D,I]
  have A:#[cM,(#[l5]++[#[nP]])]:=by rw[aY];simp only[ah,aQ,bI,cq,eI];exact#[D,I]
  have c0:#[gn,#[l5]++[#[nP]],j,#[ip]]:=by rw[J,o0];exact L0
  have l0:=NY (aF (dI a b) L[j]) (#[eM]%3);have v0:=Np (cV c 12 j);have C0:=AF (dI a b) (cV c 12) 0 (L.take j);have S0:#[s,L.take,j]<=5:=by rw[bI];omega
  have i0:(fm #[ip] (#[eM]%3)).length+#[s,ig,cV c 12 j]<=aC:=#[D,I];have e0:#[fT,[9,10]++#[lI,L.take j]]+(fm (aF (dI a b) L[j]) (#[eM]%3)++ig (cV c 12 j)).length<=aC:=by rw[aY,aY];exact I (by simp only[cq,eI];omega)
  have Q0:fu 4 O:=q0.2 0 _ rfl;have U:#[s,u.eraseIdx,i]=m-(j+1):=by rw[List.length_eraseIdx_of_lt X];omega
  have t:L=L.take (j+1)++lB (m-(j+1)) (h0/#[I,p0+1]) (u.eraseIdx i):=by rw[Z,c1,du,show m-(j+1)=p0 by omega];exact d1
  have k0:#[ca,[V.int a,V.int b,V.int c,V.int d],4]:=λx z=>by simp at z;rcases z with rfl|rfl|rfl|rfl<;>trivial
  have b1:#[l5]++[#[nP]]=#[dd,L.take,j+1,aF (dI a b)]:=by rw[J];exact o0
  have m0:#[jY,.str,fm #[ip] (#[eM]%3)]:=#[kr];generalize r:#[eM]=f at*
  cases f1:(f==10)with
  |true=>
   rw[if_pos (by simpa using f1)]at g1;run_tac av.aJ
   all_goals first|assumption|exact Ko #[aS] U t U0 Q0 k0 b1 rfl
  |false=>
   rw[#[bJ,by simpa using f1]]at g1;run_tac av.aJ
   all_goals first|assumption|exact Ko #[aS] U t U0 Q0 k0 b1 rfl
 .rintro v s⟨G0,b0,n0,h0,u,r0,a1,rfl,rfl⟩;have z:#[s,(aR m).map,#[cR]]=L.length:=by rw[aQ,gz];exact R0.symm
  rw[z,hs];exact#[dH,⟨rfl,G0,_,b0,n0,_,rfl,rfl⟩]
 .exact#[dj]
end
theorem WD(a:Int):Dc (gE a)=ae:=by
 have l:=Dd (eM a) (a/(2:Nat)) #[jI];obtain⟨N,a0⟩:=wW a;unfold gE;rw[<-aaf];obtain e|e:=(show eM a=4\/eM a=5 by omega);.rw[e]at l⊢;exact fe.mp aah _ l
 .rw[e]at l⊢;exact fe.mp aai _ l
structure sl(l:#[i]):Prop where
 tL:#[s,bG,#[bK]]=l.length
 place:∀p∈bG (#[iX,[]]),1<=p/\p+1<#[bK].length
 len:#[a5,#[bK],3*l.length]
 head:#[bK].getD 0 0=40
 aer:nU l #[bK] #[i5]=ae
 counts:oM l #[bK]=nN l #[bK]++cO (2^(l.length-1)-(nN l #[bK]).length) 0
 inner:∀k∈bf l.length #[bK],1<=k/\jR #[bK] k<=8
 Vd:(#[i5].map (jR #[bK])).foldr (·+·) 0<=15
 Ur:cR #[bK] 0=ae
structure Ae(l:#[i]):Prop where
 len:#[la,#[a5,#[e4],3*l.length]]
 lets:#[la,#[s,#[e4].filter,#[gx]]=l.length]
 ok:#[la,#[h2,#[iX,H]]]
 ach:#[la,∀p∈bG (#[iX,[]]),eb (#[e4].getD p 0)=ag]
 mask:∀m,m<#[s,bc,#[i5]]->(bc (bf l.length #[bK])).getD m []=mw (bf l.length #[bK]) m
theorem Cb(a:Int):sl (gE a)/\Ae (gE a):=by have h:=WD a;unfold Dc at h;simp only[fF,decide_eq_true_eq,fe,beq_iff_eq,eN,rt,yl]at h;obtain⟨⟨⟨⟨⟨⟨⟨N,a0⟩,T⟩,E⟩,r⟩,Q⟩,b⟩,y⟩:=h;exact⟨⟨r.1,Q,r.2.1,r.2.2.1,N,a0,T,r.2.2.2,E⟩,⟨λH n0=>(b _ n0).2.1,λH n0=>(b _ n0).2.2,λH n0 t m=>(by
 obtain(h|h)|h:=(b _ n0).1.1 t m;.exact .inl h
 .exact .inr (.inl h)
 .exact .inr (.inr h)),λH n0=>(b _ n0).1.2,y⟩⟩
theorem akt(a:Int):sl (gE a):=(Cb a).1
theorem MJ(h:H∈bc r):H∈bc (k::r):=EK.mpr #[aw,h,.head _]
theorem MI:∀(u:#[g])(i:Nat){H:#[g]},H∈bc (u.drop i)->H∈bc u|_,0,_,h=>h|[],i+1,_,h=>h|k::r,i+1,_,h=>MJ (MI r i h)
theorem xv:∀r:#[g],#[s,bc,r]=2^r.length
 |[]=>rfl
 |k::r=>by
  have h:=xv r;have:∀q:#[g],#[s,q.flatMap,λH=>[H,k::H]]=2*q.length:=λq=>by induction q with|nil=>rfl|cons a q Q=>rw[mU,aY,Q];simp;omega
  show#[a5,((bc r).flatMap _),_];rw[this,cq];omega
theorem ala(a:Int):Ae (gE a):=(Cb a).2
theorem sD{A g v0:#[g]}(i:Nat)(e0:Ob)(h:#[cC,g]):(A++g.map (aX A.length)++v0)[A.length+i]?=aa (aX A.length e0):=by have P:=#[V,h];rw[cL (#[Y])];exact vL i _ h
theorem ZJ{A g l v0:#[l]}(h:l.length=g.length):hc (A++g.map (aX A.length)++v0) A.length l=A++l.map (aX A.length)++v0:=by unfold hc;grind
section
variable{B:Bs}{w:aD}{n m:Nat}{O:Gm}{d0 g0 r0:#[n]}{U:#[o]}{j c:Nat}{g H:Tx}{l b:#[bB]}{A v0 o0:#[l]}{i0 y0:ba}
theorem oU(L:fs B r0)(v:#[eT,G,f])(C0:cb B f)(C:#[cJ,G])(F:#[dV,(jr j).lookup,G])(d:Ev B w n O o U #[kN] (.ob (A.length+7)) #[kN])(u:cD s=ae)(I:cy B w n O s U #[kN] Y (A++(dz j g l).map (aX A.length)++a))(h:bH B w m f (.ob 7::Y) (dz j g l) r (dz c H b))(k:m<=n)(t:O.fz<=A.length)(p:#[fk,Y])(q:bU r=ae)(E:#[ec])(P:#[b7])(y:s.length<30):Ev B w n O #[cU,#[c4,G,y0],s] U #[kN] r (A++(dz c H b).map (aX A.length)++a):=by
 obtain⟨q0,f0,N,a0,T⟩:=C0.ex;refine Ev.mx L.cl d (sD 7 _ rfl) (cA.sh cA.dg) ((sD 6 _ rfl).trans (congrArg _ Du)) #[f] (by rw[oV];simpa using F) v #[Q,N,a0,T] C0.out C u I ?_ E P y;refine((bH.call _ h t (by rw[aY,aY];exact ip _ _) (λi e0 e=>sD i _ e) kz kz #[bO,?_] ?_ (xP q) (ZJ rfl)).le k).s
 .obtain rfl|z:=bg.mp z;.exact#[ap,7<8]
  .exact qL (p x z)
 .show eA _ _::Y.map _=_;rw[show Y.map (eA _)=Y.map id from mX λx z=>xP (p x z),uk];rfl
end
def iT(d:Int):Nat:=#[fw,d/#[I,81],3]
theorem Vp(e:Nat)(h:e<3):br [V.str #[gw],V.str [34,101,110,100],V.str [101,110,100,10]] e=#[K,jk e]:=by rcases(show e=0\/e=1\/e=2 by omega)with rfl|rfl|rfl<;>rfl
theorem WC(d:Int):iT d<3:=by unfold iT;omega
theorem IP(e:Nat):#[s,jk,e]<=4:=by match e with|0=>decide|1=>decide|e+2=>show#[aX,[101,110,100,10],4];decide
section
variable{B:Bs}{w:aD}{n:Nat}{d0 g0 r0:#[n]}
theorem WK(F:#[w])(G:#[W])(H:#[dt,"_law_lexer",309])(g:cb B 309)(k:∀i:Tx,i.length<=2^20->#[mx,i,i])(Y:6<=n)(a b c d:Int){A:Ob}{G0 C J N:#[bf]}{f:Int}{u E:#[B]}{t:Tx}(n0:t.length<=1000):#[d6,8,2,[#[bi],#[ar],G0,#[ct,f],C,#[ad,2],#[ad,3],#[K,t],J,N]++cO 33 ab,[A,#[dC],.list u,.list E],v=[#[bi],#[ar],G0,#[ct,f],C,#[ad,2],#[ad,3],#[K,t++jk (iT d)],J,N,#[bH]]++cO 32 ab,#[ld]++(dz 1 (t++jk (iT d)) []).map (aX 5)]:=by
 have x:=#[lj,d,81,#[f]];have y0:#[lJ,d,81,3,iT d]:=nJ _ #[f];have S:=Vp (iT d) (WC d);have O:=IP (iT d);have e:t.length+(jk (iT d)).length<=aC:=#[D,(λh=>aI h #[j]:#[jQ,10000])];have X:∀U,bZ B w n bB #[M,309] [.str (t++jk (iT d))] U #[ld] (.ob 12) (#[ld]++(dz 1 (t++jk (iT d)) []).map (aX 5)):=λU=>(k _ (by rw[aY];omega)).call Y rfl (λe0 Q R h=>by subst h;simp[dz,sH,tv,bS,kv,dg]at Q) rfl rfl;obtain⟨q0,f0,y,m,r⟩:=g.ex;have l:∀p q i0,Ev B w n bB #[cU,#[aL,"_law_lexer",p],[.Name (ak "text") q]] [#[bi],#[ar],G0,#[ct,f],C,#[ad,2],#[ad,3],#[K,t++jk (iT d)],J,N,ab,ab,ab,ab,ab,ab,ab,ab,ab,ab,ab,ab,ab,ab,ab,ab,ab,ab,ab,ab,ab,ab,ab,ab,ab,ab,ab,ab,ab,ab,ab,ab,ab] #[ld] (.ob 12) _:=λp q i0=>Ev.vN (f0:=f0) (cN.glob F 34 rfl H #[ak]) ⟨⟨q0,y,r⟩,g.out⟩ rfl #[bn,#[b8,7]] (X _);run_tac av.aJ
 exact#[cc]
end
theorem MB{L:#[g]}(h:#[kd]):#[iN]:=λc X=>by
 obtain⟨N,a0⟩:=h c X;have:∀c,97<=c->c<=101->eV c=ag/\(c==34)=ag/\(c==92)=ag:=λc N a0=>by rcases(show c=97\/c=98\/c=99\/c=100\/c=101 by omega)with rfl|rfl|rfl|rfl|rfl<;>decide
 exact⟨(this c N a0).1,(this c N a0).2.1,(this c N a0).2.2⟩
abbrev cu(T:Tx)(k:Nat)(l:#[bB]):#[l]:=dz (#[gP]-(gF k T).count 10) (gF k T) l
noncomputable def aga:aT:=by run_tac av.gC ["law"] [10,1,1,0]
theorem xb:#[cJ,"get_token"]:=by rw[cG,cE];kernel_rfl
theorem Co:#[cJ,"push_token"]:=by rw[cG,cE];kernel_rfl
section
variable{B:Bs}{w:aD}{n:Nat}{d0 g0 r0:#[n]}
theorem BA(F:#[w])(G:#[W])(O:fs B r0)(Q:#[iB])(k:Nat):bH B w 7 288 [.ob 7] #[cA,k] #[ao,(cC (gF k T)).1] #[cA,#[u]]:=by have N:=aac T k;have a0:=aaa T k;have a:T.count 10<=T.length:=PO;exact We F G O _ _ #[f] #[f] #[f]
theorem Xi(F:#[w])(G:#[W])(O:fs B r0)(d:7<=n){M l:#[ae]}(f:∀k,l k<12){L:#[i]}(C:#[iN])(y:#[go]){e:Nat}{T:Tx}(p:T=#[iP,l]++jk e)(Q:#[iB]){j a u:#[B]}{i:#[B]}{E u0 C0 g R J c0 S X:#[bf]}{Y:#[o]}:Ev B w n bB aga (E::u0::C0::g::R::J::#[ad,3]::c0::S::X::#[bH]::Y) (#[iH]++#[cA,0].map (aX 5)) (.ob 13) (#[iH]++#[cA,L.length].map (aX 5)++[#[fR,#[eG]]]):=by
 have Z:#[s,ah,#[eG]]=L.length:=by simp[ah]
 refine Ev.comp (r:=13) (X:=ah (L.map (aF M))) (C:=λs=>#[aR,s,3,ah #[eG]]) (b0:=#[iH]++#[cA,0].map (aX 5)) F (c:=λk q0 v s=>(∃z,v=[ab,z,#[bH]])/\q0=#[dd,L.take,k,aF M]/\s=#[iH]++#[cA,k].map (aX 5)++[#[bQ,q0]]) 1 (G:=[ab,ab,aa 10]) (T:=[ab,ab,#[bH]]) (ck.list (i:=3) #[aD,6] rfl) rfl #[E] #[E] #[E] #[E] rfl rfl rfl rfl (by rw[Z];exact#[bG,y]) (λ_=>#[aA,#[bu],rfl]) ?_ ?_ ?_ #[am];.rintro k q0 v s⟨⟨z,rfl⟩,rfl,rfl⟩;exact⟨rfl,bx rfl,rfl,by simp only[ah,aQ,bI];omega⟩
 .rintro k z q0 v s r⟨⟨m,rfl⟩,rfl,rfl⟩_ _;have b:k<L.length:=by have:=#[V,r];rwa[Z]at this
  have I:(cC (gF k T)).1=aF M L[k]:=by rw[p];exact aad M l f C _ b
  have U:=BA (w:=w) F G O Q k;rw[I]at U;refine⟨ae,_,fp.nil,.str (aF M L[k]),_,oU (A:=[.list j,.list a,.list u,#[T,#[eG]],.list i]) (a:=[#[T,(L.take k).map (aF M)]]) O O.m2 O.o2 xb rfl #[aD,2] rfl .nil U d #[aS] #[aO] rfl #[an] #[j] #[j],rfl,.inl #[aA,#[bu],?_]⟩;rw[lP b,hr,kD];rfl
 .rintro q0 v s⟨_,N,a0⟩;rw[Z,hs]at N;rw[a0,N,Z]
end
section
variable{B:Bs}{w:aD}{n:Nat}{d0 g0 r0:#[n]}
theorem WT(F:#[w])(G:#[W])(O:fs B r0)(h:17<=n)(m0:#[dt,"_law_tree",319])(y0:#[dt,"_law_due",329]){M z:#[ae]}(l:∀k,z k<12){L:#[i]}(b:sl L)(C:#[iN])(Z:∀c∈L,c≠40/\c≠41)(x:L.Nodup)(y:#[go])(p0:4<=L.length){e:Nat}{T:Tx}(r:T=#[iP,z]++jk e)(k0:#[iB])(F0:Fn B w n 319 [#[T,#[eG]]] #[je,#[au].map])(U:#[lv,([]:#[i]).map,#[eQ,#[eH,#[au].map]]]){j a u:#[B]}{i:#[B]}{G0 t H e0:#[bf]}:#[d6,10,5,[#[bi],#[ar],G0,#[hX],t,#[ad,2],#[ad,3],#[K,T],H,e0,#[bH]]++cO 32 ab,#[iH]++#[cA,0].map (aX 5),v=[#[bi],#[ar],G0,#[hX],t,#[ad,2],#[ad,3],#[K,T],H,e0,#[bH],#[ad,14],#[cN],#[bY],#[cz],#[v,1]]++cO 27 ab,#[iH]++#[cA,L.length].map (aX 5)++[#[fR,#[eG]],#[T,#[au].map #[b5]],.list [],#[T,#[eH,#[au].map]],#[bk,(bG #[au]).map,#[aV]],#[bk,#[a4].map,#[aV]]]]:=by
 have I:=λE u0 C0 g R J c0 S X Y=>Xi (w:=w) (n:=n) F G O #[f] (e:=e) l C y r k0 (j:=j) (a:=a) (u:=u) (i:=i) (E:=E) (u0:=u0) (C0:=C0) (g:=g) (R:=R) (J:=J) (c0:=c0) (S:=S) (X:=X) (Y:=Y);have b0:=pg;have m:=kF M;generalize N:az L.length L 0 []=f at*;have o0:f.length=3*L.length:=by rw[<-N];exact b.len
 have P:#[a5,#[kk],f.length]:=by simp[ah]
 have a0:#[ba,ah,#[dK]]:=by rw[P,o0];exact aI (show 3*L.length<=15 by omega) #[j]
 have f0:#[s,bG,f]=L.length:=by rw[<-N];exact b.tL
 have Q:#[lu,1<=#[cK,f]/\#[cK,f]+1<f.length]:=λk d=>by
  have A:k<#[s,bG,f]:=by rw[f0];exact eN.mp d
  have:=b.place;rw[N]at this;exact this _ (mu A)
 have h0:∀p,p<f.length->#[gn,#[kk],p,ay (aF M) (f.getD p 0)]:=λp C=>by rw[xX _ (by rw[aQ];exact C)];simp[ef,bD C]
 have w0:∀p,p∈aR f.length->br (ah #[dK]) #[I,p]=#[K,ay (aF M) (f.getD p 0)]:=λp C=>h0 p (eN.mp C)
 have t0:#[lu,br ((bG f).map #[aV]) #[b4]=#[v,#[cK,f]]]:=λk d=>by
  have A:k<#[s,bG,f]:=by rw[f0];exact eN.mp d
  unfold br;rw[ih (by simpa using A)];simp[ef,bD A]
 have E0:#[lu,br (ah #[dK]) #[I,#[cK,f]-1]=#[K,ay (aF M) (f.getD (#[cK,f]-1) 0)]]:=λk d=>h0 _ (by have:=Q k d;omega);have l0:#[lu,#[fx,.Sub,#[cK,f],1,#[cK,f]-1]]:=λk d=>St.iW (Q k d).1;have n0:hO 345 12 (aR f.length) (#[aV]) (λp=>!#[l9,f.getD p 0]) (#[aV]):=trivial;have q0:((aR f.length).filter λp=>!#[l9,f.getD p 0]).map (#[aV])=(bG f).map #[aV]:=by unfold bG;congr 1;exact ue λp _=>CU m _
 have j0:hO 346 12 (aR L.length) (#[aV]) (λk=>ay (aF M) (f.getD (#[cK,f]-1) 0)==[41]) (#[aV]):=trivial;have x0:((aR L.length).filter λk=>ay (aF M) (f.getD (#[cK,f]-1) 0)==[41]).map (#[aV])=(bf L.length f).map #[aV]:=by unfold bf;congr 1;exact ue λp _=>MU m _
 have s0:#[m6]:=rfl;have i0:#[ba,(aR f.length).map,#[aV]]:=by rw[aQ,gz,o0];exact aI (show 3*L.length<=15 by omega) #[j]
 have v0:#[ba,(bG f).map,#[aV]]:=by rw[aQ,f0];exact#[bG,y]
 have A0:#[ba,(aR L.length).map,#[aV]]:=by rw[aQ,gz];exact#[bG,y]
 run_tac av.aJ
 exact#[cc]
end
abbrev aU(M:#[ae])(f:#[i]):Tx:=bj [32] (f.map #[b5])
theorem KA(f:Tx):#[eB,#[aX,(bj f l),(l.map hq).sum+l.length*f.length]]|[]=>aV _|[x]=>by show x.length<=_;simp|x::y::r=>by have:=KA f (y::r);show#[aX,(x++f++bj _ _),_];simp at this⊢;rw[lR];omega
theorem yb(M:#[ae])(f:#[g]):(#[dK].map hq).sum<=f.length*64:=by induction f with|nil=>exact aP _|cons t r Q=>have:=xy (kF M) t;simp only[dk,Qr,cq]at Q⊢;omega
theorem ye(M:#[ae])(f:#[g]):#[aX,(aU M f),f.length*65]:=by have N:=KA [32] #[dK];have a0:=yb M f;rw[aQ]at N;simp only[cq,eI]at N;show#[aX,(bj _ (f.map (ay _))),_];omega
noncomputable def ZC:aT:=by run_tac av.gC ["law"] [15,0,1,1,0]
section
variable{B:Bs}{w:aD}{n:Nat}{d0 g0 r0:#[n]}
theorem CM(F:#[w])(G:#[W])(O:fs B r0)(k:Nat)(l:#[g])(t:Tx)(y:l.length<2^20):bH B w 3 295 [.ob 7,.str t] (cu T k l) .none (cu T k (l++[t])):=ZD F G O _ _ _ _ y
theorem WZ(F:#[w])(G:#[W])(O:fs B r0)(a:17<=n){M:#[ae]}{f:#[i]}(i:f.length<=15){T:Tx}{j:Nat}{b0 o0 m0 C d:Ob}{j0 b:Ob}{P u:#[B]}{E u0 C0 g R J l0 c0 S X:#[bf]}{Y:#[o]}:#[d6,15,1,E::#[e8,u0,C0,g,#[bH],#[ad,14]::#[cN]::Y],#[dS,#[cA,j]]++[j0,#[df],b,#[T,#[dK]],.list P,.list u],v=E::u0::C0::g::R::J::l0::c0::S::X::#[bH]::#[ad,14]::#[cN]::Y,#[d9,[aU M f],#[iS]]]:=by
 have N:=ye M f;have q:#[kk].all qH=ae:=by simp[ah,qH]
 have k:=yb M f;have e:#[hD,#[dK].map,#[s,f.map,#[b5]],[32]]:=by rw[aQ,#[co,#[a5,([32]:Tx),1]]];exact aI (show _<=2000 by omega) #[j]
 have h:Ev B w n bB ZC (E::u0::C0::g::R::J::l0::c0::S::X::#[bH]::#[ad,14]::#[cN]::Y) (#[dS,#[cA,j]]++#[iS]) .none (#[dS,(cu T j [aU M f])]++#[iS]):=by refine oU (n:=n) (m:=3) (l:=[]) (b:=[aU M f]) (A:=#[hg]) (v0:=#[iS]) (a:=[j0,#[df],b,#[T,#[dK]],.list P,.list u]) (Y:=[.str (aU M f)]) O O.m3 O.o3 Co rfl #[aD,10] rfl ?_ (CM F G O j [] _ #[j]) #[f] #[aS] #[bO,by rw[aZ.mp z];rfl] rfl #[an] #[j] #[j];refine .cons (W.join (i:=14) (f0:=f.map (ay (aF M))) (f:=[32]) ?_ #[aD,11] rfl rfl e rfl rfl #[an] #[j]) .nil;run_tac av.aJ
 refine aj.ite (B:=B) (w:=w) (n:=n) (O:=bB) (t:=ag) (b0:=#[d9,[aU M f],#[iS]]) (Et.qo (dE.cons (t:=ag) (b0:=#[dS,#[cA,j]]++#[iS]) #[gN,#[aD,11],#[aD,12],St.XR rfl rfl q] (di.mC rfl (dE.cons (t:=ag) #[gN,h,Ev.sE,St.BV.up] (di.mC rfl dE.xp))))) ?_;rw[#[c7]];exact#[dH,#[cc]]
end
noncomputable def Yh:#[y]:=match en.drop 16 with|.For _ _ (.For _ _ b _ _::_) _ _::_=>b|_=>[]
theorem ZW(M:#[ae]){t:Nat}(h:t=40\/t=41\/(97<=t/\t<=101)):32∉ay (aF M) t:=by
 have c:∀k,32∉gU k:=λk=>by match k with|0=>decide|1=>decide|2=>decide|3=>decide|4=>decide|k+5=>show 32∉[92,34];decide
 unfold ay;split;.rename_i N;rcases N with rfl|rfl<;>decide
 .intro l;obtain l|l:=cZ.mp l;.exact c _ l
  grind
theorem OI(M:#[ae])(n:f0≠[])(h:#[h2,f0]):fD 32 [] (aU M f0)=f0.map (ay (aF M)):=tK _ (by simpa using n) λa I=>by obtain⟨t,n0,rfl⟩:=bK.mp I;exact ZW _ (h t n0)
section
variable{B:Bs}{w:aD}{n:Nat}{d0 g0 r0:#[n]}
theorem nM(F:#[w])(G:#[W])(O:fs B r0)(k:Nat)(l:#[g])(t:Tx)(y:l.length<2^20):bH B w 3 288 [.ob 7] (cu T k (t::l)) #[bm] (cu T k l):=Zt F G O _ _ _ _ y
theorem Xh(F:#[w])(G:#[W])(O:fs B r0)(b:17<=n)(h0:#[dt,"_law_traded",324]){M:#[ae]}{f0 Z:#[i]}(Q:f0.length<=15)(i0:Z.length<=15)(e:f0≠[])(u:#[h2,f0]){k p:Nat}{T:Tx}{j:Nat}{l:#[bB]}(U:l.length<1000)(q0:#[f7,324,#[T,#[eH,f0.map]],p,#[je,Z.map]]){b0 o0 m0 C d c y A I f N:Ob}{P:#[B]}(w0:br P #[b4]=#[v,p])(a0:P.length<=aC){E u0 g R J l0 c0 S X L e0 x0 i j0 A0:#[bf]}{Y:#[o]}:#[dh,Yh,E::u0::#[v,k]::g::R::J::l0::c0::S::X::#[bH]::L::e0::#[bY]::x0::i::j0::A0::Y,#[dS,(cu T j (aU M f0::l))]++#[gt],#[fo,v=E::u0::#[v,k]::g::R::J::l0::c0::S::X::#[bH]::L::e0::#[bY]::x0::i::j0::#[K,aU M f0]::Y,s=#[d9,l++[aU M f0]++[aU M Z],#[mi,#[T,#[eH,f0.map]]]]]]:=by
 have r:ah (fD 32 [] (aU M f0))=ah (f0.map #[b5]):=congrArg ah (OI M e u);have a:=ye M f0;have n0:#[fp,(aU M f0)]:=aI (show _<=1000 by omega) #[j];have q:=yb M Z;have m:#[hD,(Z.map #[b5]).map,#[eH,Z.map].length,[32]]:=by rw[aQ,#[co,#[a5,([32]:Tx),1]]];exact aI (show _<=2000 by omega) #[j]
 have H:=pg;have p0:#[cM,(ah (f0.map #[b5]))]:=by simp only[ah,aQ];exact#[bG,Q]
 have k0:(1001:Nat)<2^20:=by decide
 refine Mine.W.set (B:=B) (w:=w) (n:=n) (O:=bB) (x0:=E::u0::#[v,k]::g::R::J::l0::c0::S::X::#[bH]::L::e0::#[bY]::x0::i::j0::#[K,aU M f0]::Y) 17 #[mU,#[gt],[],O.m2,O.o2,xb,.nil,nM F G O j l (aU M f0) #[f],#[aO]] rfl #[aU] #[aS] #[am] rfl ?_;refine aj.expr (B:=B) (w:=w) (n:=n) (O:=bB) #[mU,#[gt],[.str (aU M f0)],O.m3,O.o3,Co,#[bn,#[aD,17]],CM F G O j l (aU M f0) #[f],#[bO,by rw[aZ.mp z];rfl]] #[am] ?_;refine aj.expr (B:=B) (w:=w) (n:=n) (O:=bB) #[mU,#[mi,#[T,#[eH,f0.map]]],[.str (aU M Z)],O.m3,O.o3,Co,?_,CM F G O j (l++[aU M f0]) (aU M Z) (by rw[aY];simp;omega),#[bO,by rw[aZ.mp z];rfl]] #[am] ?_
 .refine .cons (W.join (i:=21) (f0:=Z.map (ay (aF M))) (f:=[32]) (b0:=#[d9,l++[aU M f0],#[gt]]) (o0:=#[d9,l++[aU M f0],#[mi,#[T,f0.map #[b5]]]]) ?_ ?_ rfl rfl m rfl rfl #[an] #[j]) .nil;.run_tac av.aJ
  .run_tac av.aJ
 exact aj.nil #[cc]
end
def iR(M:#[ae])(c:Nat):Nat:=if c=32 then 0 else M c
def gG:#[i]->#[i]|[]=>[]|[t]=>[t]|t::u::r=>t::32::gG (u::r)
theorem MT(M:#[ae])(h:t≠32):ay (aF (iR M)) t=ay (aF M) t:=by unfold ay aF iR;rw[if_neg h]
theorem ZX(M:#[ae]):ay (aF (iR M)) 32=[32]:=rfl
theorem OJ(M:#[ae]):∀f:#[g],(∀t∈f,t≠32)->aU M f=bj [] #[jh,(gG f).map]|[],_=>rfl|[t],h=>by show ay _ t=ay (aF _) t;rw[MT _ (h t #[bL])]|t::u::r,h=>by show ay _ t++[32]++bj _ ((u::r).map (ay _))=_;rw[show bj _ ((u::r).map (ay _))=bj _ ((gG _).map (ay (aF _)))from(OJ _ _ #[ga])];show _=bj _ (ay (aF _) t::ay (aF _) _::(gG _).map (ay (aF _)));rw[jq,jq,ZX,MT _ (h t #[bL]),du]
theorem NW:∀f:#[g],#[s,gG,f]<=2*f.length|[]=>aP _|[t]=>show 1<=2 by decide|t::u::r=>by have:=NW (u::r);show(gG _).length+1+1<=2*((u::r).length+1);omega
theorem NX:∀(f:#[g])(t:Nat),t∈gG f->t∈f\/t=32
 |[],t,h=>by cases h
 |[u],t,h=>.inl h
 |u::v::r,t,h=>by
  obtain rfl|h:=bg.mp h;.exact .inl (.head _)
  .obtain rfl|h:=bg.mp h;.exact .inr rfl
   .exact(NX _ t h).imp (λh=>.tail _ h) id
theorem HB:∀(f:#[g])(v0:#[g])(o:Int),cR (gG f++v0) o=cR (f++v0) o|[],_,_=>rfl|[_],_,_=>rfl|t::u::r,v0,o=>by have a:∀l o,cR (32::l) o=cR l o:=λl o=>rfl;show cR (t::32::(gG _++v0)) o=cR (t::(u::r++v0)) o;unfold cR;simp only[a,(λo=>HB (u::r) v0 o)]
def cK(y:Tx):Nat->Tx->Tx|_,[]=>[]|k+1,_::r=>cK y k r|0,c::r=>if(c::r).take y.length=y then cK y (y.length-1) r else c::cK y 0 r
theorem Om(y:Tx):∀(k:Nat)(l:Tx),cK y k l=cK y 0 (l.drop k)|0,l=>rfl|k+1,[]=>by simp[cK]|k+1,c::r=>Om y k r
theorem adn{y l:Tx}(m:1<=y.length)(h:l.take y.length=y):cK y 0 l=cK y 0 (l.drop y.length):=by cases l with|nil=>rw[List.drop_nil]|cons c r=>show(if(c::r).take _=y then cK y _ r else _)=_;rw[if_pos h,Om];obtain⟨k,R⟩:=Nat.exists_eq_succ_of_ne_zero (hu m);rw[R];rfl
theorem DI{y:Tx}{r:Tx}(h:(c::r).take y.length≠y):cK y 0 (c::r)=c::cK y 0 r:=if_neg h
theorem DH(y:Tx):∀(m:Nat)(L:Tx),m<=L.length->(∀k,k<m->(L.drop k).take y.length≠y)->cK y 0 L=L.take m++cK y 0 (L.drop m)|0,L,_,_=>rfl|m+1,[],h,_=>absurd h (Nat.not_succ_le_zero _)|m+1,c::r,h,Y=>by rw[DI (Y 0 (Nat.succ_pos _)),DH y m r (Nat.le_of_succ_le_succ h) λk R=>Y _ (Nat.succ_lt_succ R)];rfl
open PySem.StrLaws in theorem ado(x y:aq)(m:1<=y.length):∀(C:#[i])(a f:Nat),a<=x.length->ChainG x y x.length a C f->(∀k,f<=k->¬At x y x.length k)->bj [] ((partsFrom x y.length a C).map λp=>p.cps.toList)=cK y.cps.toList 0 (x.cps.toList.drop a):=by
 have G:y.cps.toList.length=y.length:=by simp[FX]
 have Z:x.cps.toList.length=x.length:=by simp[FX]
 have J:∀k,¬At x y x.length k->(x.cps.toList.drop k).take y.cps.toList.length≠y.cps.toList:=λk R e=>R ⟨by
  have N:#[s,(x.cps.toList.drop k).take,y.cps.toList.length]=y.cps.toList.length:=by rw[e]
  rw[bI,dj,G]at N;omega,by rw[subAt_eq,<-G,e];exact beq_self_eq_true _⟩
 intro C;induction C with|nil=>intro a f I h Y;have e:f=a:=h;subst e;show(Rp x f x.length).cps.toList=_;rw[strSub_toList,DH y.cps.toList (x.length-f) (x.cps.toList.drop f) (by rw[dj,Z];exact aP _) λk _=>by rw[kJ];exact J _ (Y _ #[f])];rw[show cK y.cps.toList 0 ((x.cps.toList.drop f).drop (x.length-f))=[]by rw[ED (by rw[dj,Z];exact aP _)];rfl];exact(gy _).symm|cons c r Q=>intro a f I h Y;obtain⟨N,a0,T,E⟩:=h;show bj [] ((Rp x a c).cps.toList::(partsFrom x y.length (c+y.length) r).map _)=_;have X:c<=x.length:=aI (ip _ _) a0.1;rw[jq,Q (c+y.length) f a0.1 E Y,strSub_toList];rw[DH y.cps.toList (c-a) (x.cps.toList.drop a) (by rw[dj,Z];omega) λk R=>by rw[kJ];exact J _ (T _ #[f] #[f])];rw[kJ,Qz N];have M:=a0.2;rw[subAt_eq]at M;rw[adn (l:=x.cps.toList.drop c) (by rw[G];exact m) (by rw[G];exact eq_of_beq M),kJ,G]
theorem KC:#[eB,#[fM,(oy #[dw] l),bj [] (l.map λp=>p.cps.toList)]]|[]=>rfl|[p]=>rfl|p::q::r=>by show(p++⟨_⟩++oy _ _).cps.toList=p.cps.toList++[]++bj _ ((q::r).map λp=>p.cps.toList);rw[<-KC _];simp only[Str.cps_append,yj]
open PySem.StrLaws PySem.Builtin.Str in theorem MX(t:Tx)(y:aq)(m:1<=y.length):#[fM,(qb (cI t) y #[dw]),cK y.cps.toList 0 t]:=by
 obtain⟨f,N,a0⟩:=occ_tight (cI t) y m;have o:=ado (cI t) y m _ 0 f #[aC] N a0;rw[oh,#[co,#[fM,(cI t),t]]]at o;rw[<-o];unfold qb;split;.rename_i S;rw[show(y.length==0)=ag from#[D,beq_eq_false_iff_ne.mpr],Bool.false_and,tT]at S;rw[List.isEmpty_iff.mp S];show t=(strSub (cI t) 0 #[s,cI,t]).cps.toList;rw[sub_whole];rfl
 .rw[glued_eq_join,partsBetween_eq,KC]
theorem gw{y:Tx}{r:Tx}(h:c≠f0):cK (f0::h0::y) 0 (c::r)=c::cK (f0::h0::y) 0 r:=DI λe=>h (#[Y])
theorem tM{y:Tx}{r:Tx}(h:c≠h0):cK (f0::h0::y) 0 (d::c::r)=d::cK (f0::h0::y) 0 (c::r):=DI λe=>h (#[Y])
def vY(M:#[ae])(c:Nat):Nat:=if M c=1 then 0 else M c
theorem ako(n:Nat):gU (n+5)=[92,34]:=rfl
theorem DJ(M:#[ae]):∀f0:#[g],(#[dF,f0])->cK #[eK] 0 #[ja]=bj [] (f0.map (ay (aF (vY M))))
 |[],_=>rfl
 |t::r,h=>by
  have N:=h t #[bL];have Q:=DJ M r #[ga];rw[dk,dk,jq,jq];generalize bj _ (r.map (ay _))=R at*;rw[<-Q];by_cases Z:t=40\/t=41;.rw[show ay _ t=[t]by unfold ay;rw[if_pos Z],show ay (aF _) t=[t]by unfold ay;rw[if_pos Z]];exact gw N.2
  .rw[show ay _ t=gU _++[t]by unfold ay;rw[if_neg Z];rfl,show ay (aF _) t=gU _++[t]by unfold ay;rw[if_neg Z];rfl];have y:cK #[eK] 0 #[cH]=[t]++cK _ 0 R:=gw N.2;have Y:cK #[eK] 0 _=t::cK _ 0 R:=gw N.2;have L:=λe=>Z (.inl e);unfold vY;rcases c:M t with _|_|_|_|_|n;.exact y
   .exact y
   .show cK _ 0 (92::41::#[cH])=_;rw[#[aM,gw],#[aM,gw],y];rfl
   .show cK _ 0 (34::92::34::41::34::#[cH])=_;rw[#[aM,tM],#[aM,gw],#[aM,tM],#[aM,gw],uu,tM L,Y];rfl
   .show cK _ 0 (92::92::59::#[cH])=_;rw[#[aM,gw],#[aM,gw],#[aM,gw],y];rfl
   .show cK _ 0 (92::34::#[cH])=_;rw[#[aM,gw],uu,tM L,Y];rfl
theorem Oo(M:#[ae])(B:∀t,M t≠1):∀f0:#[g],(#[dF,f0])->cK #[fX] 0 #[ja]=#[ki]
 |[],_=>rfl
 |t::r,h=>by
  have N:=h t #[bL];have Q:=Oo _ B r #[ga];rw[dk,dk,jq,jq];generalize bj _ (r.map (ay _))=R at*;rw[<-Q];by_cases Z:t=40\/t=41;.rw[show ay _ t=[t]by unfold ay;rw[if_pos Z],show eL _ t=[t]by unfold eL;rw[if_pos Z]];exact gw N.2
  .rw[show ay _ t=gU _++[t]by unfold ay;rw[if_neg Z];rfl,show eL _ t=oJ _++[t]by unfold eL;rw[if_neg Z]];have y:cK #[fX] 0 #[cH]=[t]++cK _ 0 R:=gw N.2;rcases c:M t with _|_|_|_|_|n;.exact y
   .exact absurd c (B t)
   .show cK _ 0 (92::41::#[cH])=_;rw[#[aM,gw],#[aM,gw],y];rfl
   .exact y
   .show cK _ 0 (92::92::59::#[cH])=_;rw[#[aM,gw],#[aM,gw],#[aM,gw],y];rfl
   .show cK _ 0 (92::34::#[cH])=_;rw[#[aM,gw],uu,tM (N.1),gw N.2];rfl
theorem adm(M:#[ae])(f0:#[g])(h:#[dF,f0]):cK #[fX] 0 (cK #[eK] 0 #[ja])=#[ki]:=by
 rw[DJ _ _ h,Oo _ (λt=>by unfold vY;split<;>omega) _ h];congr 1;refine mX λt _=>?_;unfold eL vY;split;.rfl
 .split;.rename_i e;rw[e];rfl
  .rfl
noncomputable def As:#[y]:=by run_tac av.de ["_digits2int"]
noncomputable def xC:bt:=by run_tac av.df ["_digits2int"]
noncomputable def Au:#[y]:=by run_tac av.de ["_digits2int","inner"]
noncomputable def xD:bt:=by run_tac av.df ["_digits2int","inner"]
noncomputable def GS:lV:=by run_tac av.nF ["_digits2int","inner"] 1
noncomputable def Zg:ba:=by run_tac av.nF ["_digits2int","inner"] 9
noncomputable def tG(c P:ao):fJ:=⟨c,P,Zg,"inner","_digits2int.<locals>.inner"⟩
theorem YQ:iA xC 2=ae:=#[p]
noncomputable def Ih:#[bA]:=iQ xD.names []
theorem JT:iD GS Au xD Ih 2 where
 bind:=by rintro⟨⟩Z N a0 T y;dsimp at N a0 T;subst N a0 T;match Z,y with|[a,b],_=>rfl
 ok:=#[p]
 kind:=rfl
 co:=rfl
 gen:=rfl
 nA:=by decide
 qF:=rfl
abbrev MQ:Ob:=.raw (gi GS (.stmts Au) xD Ih)
def cX(n:Nat)(l:#[i]):Nat:=l.foldr (λd x=>x*2^n+d) 0
theorem Cr(n:Nat):∀(l m:#[g]),cX n (l++m)=cX n m*2^(n*l.length)+cX n l|[],m=>by simp[cX]|d::l,m=>by have Q:=Cr n l m;simp only[cX,fH,PY,cq]at*;rw[Q,pQ,oo,<-kj,rI];rfl
theorem Lr(n h0:Nat):∀(l:#[g]),(∀d∈l,d<2^h0)->cX n l<2^(h0+(n+1)*l.length)
 |[],_=>jb _
 |d::l,h=>by
  have Q:=Lr n h0 l λd c=>h d (dO _ c);have c:=h d fU;simp only[cX,PY,cq]at*;generalize List.foldr _ 0 l=x at*;have e:2^(h0+(n+1)*(l.length+1))=#[og]*2:=by rw[<-kj,<-pT];congr 1;rw[Fe];omega
  have a:2^h0<=#[og]:=by rw[<-kj];exact#[i7]
  have t:x*2^n<=#[og]:=pS _ (eh Q);omega
theorem Yc(n:Nat)(o:#[g])(L i j:Nat)(h:L+(i+j)<=o.length):cX n ((o.drop (L+i)).take j)*2^(n*i)+cX n ((o.drop L).take i)=cX n ((o.drop L).take (i+j)):=by
 have e:(o.drop L).take (i+j)=(o.drop L).take i++(o.drop (L+i)).take j:=by rw[List.take_add,kJ]
 rw[e,Cr,(by rw[bI,dj];omega:#[s,(o.drop L).take,i]=i)]
theorem Ul{i d:Nat}(h:#[G,n0,d]):br (aK n0) i=#[ct,d]:=Ho (by rw[aK,cg,h];rfl)
section
variable{B:Bs}{w:aD}{d0 g0:#[n]}
theorem Vb(F:#[w])(G:#[W])(n:Nat)(Y:n<=8000)(o:#[i])(O:∀d∈o,d<2^8000)(u:o.length<=1000):∀(k m:Nat),1<=k->k<=m+1->k<=1000->∀(L R:Nat),R=L+k->L+k<=o.length->aj B w m #[d3,xD,1] Au [#[ct,L],#[ct,R],ab,ab,#[bi],#[ar],#[ct,n]] [#[aN,o],MQ] (gQ #[bz,cX n ((o.drop L).take k)] [#[aN,o],MQ]):=by intro k;induction k using QO with
|ind k Q=>
 intro m a j t L R M g;have f:=JT;have e:#[ba,aK,o]:=by simp[aK,aC];omega
 by_cases N:k=1
 .subst N;have j0:(L+1==R)=ae:=by simp[M]
  have P:o[L]?=aa (o[L]'#[f]):=#[D,bD];have J:=Ul P;have p:cX n ((o.drop L).take 1)=o[L]'#[f]:=by rw[List.take_one,List.head?_drop,P];simp[cX]
  rw[p];run_tac av.aJ
 .have j0:(L+1==R)=ag:=by simp[M];omega
  obtain⟨m,rfl⟩:∃l,m=l+1:=⟨m-1,by omega⟩;have U:=Q (k/2) #[f] m #[f] #[f] #[f] L (L+k/2) rfl #[f];have q:=Q (k-k/2) #[f] m #[f] #[f] #[f] (L+k/2) R #[f] #[f];have s:=Yc n o L (k/2) (k-k/2) #[f];rw[show k/2+(k-k/2)=k by omega]at s;have b:#[lX,.RShift,L+R,#[be,1],L+k/2]:=aH.iv St.tx #[f];have i:#[lX,.Sub,L+k/2,#[U,(L:Int)],k/2]:=aH.iv (St.iW #[f]) #[f];have S:ng #[I,k/2] n:=tg (k:=10) (l:=13) #[f] #[f] #[f] #[f];have x:#[lX,.Mult,k/2,#[U,(n:Int)],n*(k/2)]:=aH.iv (St.xj S) (hS _ _);have h:(bX #[I,cX n ((o.drop (L+k/2)).take (k-k/2))]:Int)+#[I,n*(k/2)]<=2^27:=by have T:=gZ (Lr n 8000 ((o.drop (L+k/2)).take (k-k/2)) λd c=>O d (fI (eJ c)));have E:(n+1)*#[s,(o.drop (L+k/2)).take,k-k/2]<=8001*1000:=nc #[f] (by rw[bI];omega);have r:n*(k/2)<=8000*1000:=nc Y #[f];omega
  have v:#[lX,.Add,cX n ((o.drop (L+k/2)).take (k-k/2))*2^(n*(k/2)),#[be,cX n ((o.drop L).take (k/2))],cX n ((o.drop L).take k)]:=aH.iv St.sr s;clear Q;run_tac av.aJ
theorem Iz(F:#[w])(G:#[W])(c P:ao)(u:bb B 232 xC 2 As [tG c P])(n:Nat)(Y:n<=8000)(o:#[i])(O:∀d∈o,d<2^8000)(h:o.length<=30):Fn B w 32 232 [#[aN,o],#[cB,n]] (.atom (.int (cX n o:Nat))):=by
 refine#[fq,YQ];have f:=JT;have a:#[s,aK,o]=o.length:=by simp[aK]
 have J:#[ba,aK,o]:=by rw[a];show _<=2^24;omega
 cases o with|nil=>have j0:(!(aK []).isEmpty)=ag:=rfl;run_tac av.aJ|cons d l=>have j0:(!(aK (d::l)).isEmpty)=ae:=rfl;have g:=Vb (w:=w) F G n Y (d::l) O #[f] (d::l).length 30 #[z] #[f] #[f] 0 (d::l).length #[f] #[f];rw[oh,hs]at g;generalize d::l=o at*;run_tac av.aJ
theorem VX(n:Nat)(o:#[g]):o.foldl (λx d=>x*2^n+d) 0=cX n o.reverse:=by rw[cX,List.foldr_reverse]
theorem LW(o:#[g]):(aK o).reverse=aK o.reverse:=by simp[aK]
theorem Cq{b f:Nat}(Z:0<b)(h:bX b=f):b<2^f/\2^f<=b*2/\1<=f:=by unfold bX at h;rw[#[bJ,by simp;omega]]at h;simp at h;subst h;refine⟨EY,?_,by omega⟩;have:=Nat.log2_self_le (by omega:b≠0);omega
theorem Vh(F:#[w])(G:#[W])(c P C E:ao)(e:bb B 225 tB 2 Aw [qY c P])(g:bb B 232 xC 2 As [tG C E])(a0:bb B 211 qR 3 sv)(T:bb B 218 qS 6 sx)(u:bb B 239 xE 2 Av)(a b f:Nat)(Z:0<b)(A:bX (b:Int)=f)(k:f<=6000)(R:(bX (a:Int)+f-1)/f<=30):Fn B w 33 239 [#[cB,a],#[cB,b]] (.tup [.int (a/b:Nat),.int (a%b:Nat)]):=by
 obtain⟨i,X,I⟩:=Cq Z A;have j:bX (a:Int)<=f*((bX (a:Int)+f-1)/f):=by have:=kh (bX (a:Int)+f-1) f;have:=ht (bX (a:Int)+f-1) (by omega:0<f);omega
 have z:a<2^(f*((bX (a:Int)+f-1)/f)):=by
  by_cases H:a=0;.subst H;exact jb _
  .exact ey (Cq #[f] rfl).1 (ei #[f] j)
 refine Vi F G u a b f 32 (gu f a ((bX (a:Int)+f-1)/f)) Z #[f] (Iw f a _) (by rw[sN];show _<=2^24;omega) (Iy f a _ z) A ?_ (λo O y=>?_) λr d h S=>?_;.rw[A];exact Wq F G c P e a f _ I #[f] rfl R
 .rw[A,VX,LW];refine Iz F G C E g f #[f] o.reverse (λd g=>ey (O d (rF.mp g)) (ei #[f] #[f])) ?_;rw[uh,y,sN];exact R
 .rw[A];refine#[D,(Ve F G a0 T (r*2^f+d) b f k Z X i ?_).le];have:(r+1)*2^f<=b*2^f:=pS _ h;rw[lR]at this;omega
end
def bF(l:#[i]):Nat:=l.foldr (·*·) 1
theorem tr:∀l m:#[g],bF (l++m)=bF l*bF m|[],m=>(QK _).symm|a::l,m=>by show a*bF (l++m)=a*bF l*bF m;rw[tr l m,oo]
theorem MG:#[eB,bF l.reverse=bF l]|[]=>rfl|a::l=>by rw[yO,tr,MG l,hS];show a*1*bF l=a*bF l;rw[rL]
theorem Zx{l:#[g]}{k:Nat}(h:#[cL]):bF (l.drop k)=l[k]*bF (l.drop #[u]):=by rw[og h];rfl
theorem xu:#[eB,(∀f∈l,0<f)->0<bF l]|[],_=>QL|a::l,h=>Nat.mul_pos (h a #[bL]) (xu l λf v=>h f #[bo,v])
def fP(f r:Nat):Nat:=if r=0 then 0 else if r=1 then 1 else f-1
theorem ZZ(h:3<=f)(r:Nat):fP f r<f:=by
 unfold fP;split;.omega
 .split<;>omega
theorem Vg{f p r:Nat}(h:r<f):(f*p+r)/f=p/\(f*p+r)%f=r:=by
 constructor;.rw[#[D,QH],ET h,rK]
 .rw[QI,yY h]
theorem xd(n d:Nat)(l:#[g]):cX n (d::l)=cX n l*2^n+d:=rfl
theorem Lq(n:Nat):∀l m:#[g],cX n (vu l m)=cX n l+cX n m|[],m=>(gM _).symm|a::l,[]=>rfl|a::l,b::m=>by show cX n ((a+b)::vu l m)=_;rw[xd,xd,xd,Lq n l m,pQ];omega
theorem xe(n:Nat)(c:#[g]):∀a,cX n (cO a 0++c)=cX n c*(2^n)^a|0=>#[z]|a+1=>by show cX n (0::(cO a 0++c))=_;rw[xd,xe n c a,pT,rK,oo]
theorem Yb(n:Nat)(c:#[g])(a b:Nat):cX n (xi c a b)=cX n c*((2^n)^a+(2^n)^b):=by unfold xi;rw[Lq,xe,xe,yZ]
theorem Yd(n:Nat)(l:#[g]):∀m,cX n (l++cO m 0)=cX n l:=λm=>by
 have H:cX n (cO m 0)=0:=by have:=xe n [] m;rw[gy]at this;rw[this];exact uz _
 rw[Cr,H,uz,gM]
theorem abk(h:fu n e0):fu (b+n) (aX b e0):=by cases e0 with|list X=>exactλx z=>by obtain⟨y,a,rfl⟩:=bK.mp z;exact xO.mpr (h y a)|tup X=>exactλx z=>by obtain⟨y,a,rfl⟩:=bK.mp z;exact xO.mpr (h y a)|raw R=>exact h|rel m R M=>exact Qv (h) b|hp m R P T M k=>exact Qv (h) b
theorem YL(h:fu n e0)(l:n<=m):fu m e0:=by cases e0 with|list X=>exactλx z=>(h x z).le l|tup X=>exactλx z=>(h x z).le l|raw R=>exact h|rel k R M=>exact aI (h) l|hp k R P T M q=>exact aI (h) l
theorem vT(Z:iC v (A++g++v0))(o:U<=(A++g++v0).length)(Y:l.length=g.length)(H:∀e0∈l,fu (A++g++v0).length e0)(p:#[f2,X,#[fU,v]\/bU x=ae]):yn U (A++g++v0).length X (A++l++(v0++w0)):=by
 refine#[aY,#[c1],λi e0 P e=>?_]
 .obtain h|h:=p i x e;.exact Z.1 i x h
  .exact qL h
 .rw[aY,aY]at P;obtain N|N:=gk i _;.refine Z.2 i _ ?_;rw[du,cL N]at e⊢;exact e
  .obtain a0|a0:=gk i (A.length+g.length);.rw[du,ew N,#[D,cL]]at e;exact H _ (bz e)
   .refine Z.2 i _ ?_;rw[ew (#[Y]),aY,Y]at e;rw[ew (by simp_all),aY];rwa[#[D,cL]]at e
theorem Xs(b:13<=N):∀e0∈(cu T k l).map (aX 5),fu N e0:=λe0 h=>by obtain⟨o,g,rfl⟩:=bK.mp h;obtain⟨i,P⟩:=gK.mp g;exact YL (abk (kz.ok i o P).1) b
noncomputable def Yj:#[y]:=match en.drop 16 with|.For _ _ b _ _::_=>b|_=>[]
section
variable{B:Bs}{w:aD}{n:Nat}{d0 g0 r0:#[n]}
theorem Xe(F:#[w])(G:#[W])(q0:fs B r0)(H:17<=n)(G0:#[dt,"_law_traded",324]){M:#[ae]}{n0:#[i]->#[i]}{r:#[i]}(P:r.length<=4){h0 p:Nat}(l:∀Z,#[s,n0,Z]<=15)(O:∀Z∈bc r,n0 Z≠[]/\(#[h2,n0 Z])/\#[f7,324,#[T,(n0 Z).map #[b5]],p,#[eQ,#[eH,(n0 (h0::Z)).map]]]){T:Tx}{j:Nat}{b0 o0 m0 C d c y A I f N:Ob}{k0:#[B]}(w0:br k0 #[I,h0]=#[v,p])(F0:k0.length<=aC){E u0 g R J l0 c0 S X L e0 x0 j0 A0:#[bf]}{Y:#[o]}:#[dh,Yj,E::u0::#[v,h0]::g::R::J::l0::c0::S::X::#[bH]::L::e0::#[bY]::x0::#[v,2^r.length]::j0::A0::Y,#[dS,(cu T j ((bc r).map λZ=>#[d2,Z]))]++#[kM],#[fo,∃a b,v=E::u0::#[v,h0]::g::R::J::l0::c0::S::X::#[bH]::L::e0::#[bY]::x0::#[v,2^(r.length+1)]::a::b::Y,s=#[d9,(bc (h0::r)).map λZ=>#[d2,Z],#[kM]]]]:=by
 have U:=xv r;have I0:2^r.length<=2^4:=ei #[f] P;have H0:#[bS,ek,.Mult,#[be,2^r.length],#[be,2],#[be,2^(r.length+1)]]:=by have:=St.wL (w:=w) (n:=n) (i:=2^r.length) (j:=2) (IntMulOk.of_right #[j]);rwa[<-pT]at this
 show#[dh,_::[_],_,_,_];refine#[jT,16,(aR (2^r.length)).map #[cR],λ_=>True,#[d9,(bc r).map λZ=>#[d2,Z],#[kM]],(∃a b,v=E::#[e8,u0,#[v,h0],g,#[bH],L::e0::#[bY]::x0::#[v,2^r.length]::a::b::Y])/\s=#[d9,((bc r).drop m).map (λZ=>#[d2,Z])++((bc r).take m).flatMap #[iq],#[kM]],?_,⟨#[aA,j0,A0],by simp⟩];.run_tac av.aJ
 .rintro k v s⟨⟨a,b,rfl⟩,rfl⟩;exact#[gs,by simp]
 .rintro m x v s z⟨⟨a,b,rfl⟩,rfl⟩v0 _;rw[cg]at z;obtain⟨q,y0,rfl⟩:=dW.mp z;have u:m<#[s,bc,r]:=by rw[U];have:=#[V,y0];simpa using this
  obtain⟨a0,f0,i0⟩:=O _ (kg u);have C0:(bc r).drop m=(bc r)[m]::(bc r).drop (m+1):=og u;have s0:(bc r).take (m+1)=(bc r).take m++[(bc r)[m]]:=lP u;rw[C0,dk,fH]at v0⊢
  have t0:(#[nH]++((bc r).take m).flatMap #[iq]).length<1000:=by
   have:∀q:List (List Nat),#[s,q.flatMap,#[iq]]=2*q.length:=λq=>by induction q with|nil=>rfl|cons a q Q=>rw[mU,aY,Q,cq];simp;omega
   rw[aY,this,aQ,dj,bI];omega
  refine#[j4,Xh F G q0 H G0 (l _) (l _) a0 f0 t0 i0 w0 F0];obtain⟨rfl,rfl,rfl⟩:=h;refine .inr ⟨20,aP _,vT (A:=#[hg]) (l:=(cu T j _).map (aX 5)) (w0:=[_,_]) v0 #[aS] rfl (Xs (bx rfl)) (#[c1]),#[P,_],?_⟩;.match i,e with|0,e=>exact#[J]|1,e=>exact#[J]|2,e=>exact#[J]|3,e=>exact#[J]|4,e=>exact#[J]|5,e=>exact#[J]|6,e=>exact#[J]|7,e=>exact#[J]|8,e=>exact#[J]|9,e=>exact#[J]|10,e=>exact#[J]|11,e=>exact#[J]|12,e=>exact#[J]|13,e=>exact#[J]|14,e=>exact#[J]|15,e=>exact#[J]|16,e=>exact#[gX]|17,e=>exact#[gX]|i+18,e=>exact#[J]
  .have E0:#[nH]++((bc r).take m).flatMap (#[iq])++[#[d2,(bc r)[m]]]++[#[d2,h0::(bc r)[m]]]=#[nH]++((bc r).take (m+1)).flatMap #[iq]:=by rw[s0,List.flatMap_append];simp
   rw[<-E0];rfl
 .rintro v s⟨⟨a,b,rfl⟩,rfl⟩;have z:#[s,(aR (2^r.length)).map,#[cR]]=#[s,bc,r]:=by rw[aQ,gz,U]
  have p0:(bc (h0::r)).map (λZ=>#[d2,Z])=(bc r).flatMap #[iq]:=by show((bc r).flatMap λZ=>[Z,h0::Z]).map _=_;rw[List.map_flatMap];rfl
  rw[z,rB,hs,pN,ja,p0];refine aj.nil ?_;run_tac av.aJ
  exact#[aA,rfl,#[aA,a,b]]
 .exact#[dj]
end
section
variable{B:Bs}{w:aD}{n:Nat}{d0 g0 r0:#[n]}
theorem Xg(F:#[w])(G:#[W])(Q:fs B r0)(q:17<=n)(q0:#[dt,"_law_traded",324]){M:#[ae]}{n0:#[i]->#[i]}{u:#[i]}(l:u.length<=4)(e:∀H,#[s,n0,H]<=15){O:#[B]}(p0:O.length<=aC)(r:∀(i:Nat)(P:i<u.length),∃p:Nat,br O #[I,u[i]]=#[v,p]/\∀H∈bc (u.drop (i+1)),n0 H≠[]/\(#[h2,n0 H])/\#[f7,324,#[T,(n0 H).map #[b5]],p,#[eQ,#[eH,(n0 (u[i]::H)).map]]]){T:Tx}{j:Nat}{b0 o0 m0 C d c y A I:Ob}{E u0 C0 g R J l0 c0 S X L e0 j0 A0:#[bf]}{Y:#[o]}:#[d6,16,1,E::u0::C0::g::R::J::l0::c0::S::X::#[bH]::L::e0::#[bY]::#[cz]::#[v,1]::j0::A0::Y,#[dS,(cu T j [#[d2,[]]])]++[c,y,A,I,.list O,#[gD]],∃k a b,v=E::u0::k::g::R::J::l0::c0::S::X::#[bH]::L::e0::#[bY]::#[cz]::#[v,2^u.length]::a::b::Y,#[d9,(bc u).map λH=>#[d2,H],#[nc]]]:=by
 have Z:(u.map #[aV]).reverse.length=u.length:=#[z];have U:#[ba,u.map,#[aV]]:=by rw[aQ];exact#[bG,l]
 show#[j2];refine#[jT,2,(u.map #[aV]).reverse,λs=>#[aR,s,19,(u.map #[aV]).reverse],#[d9,[#[d2,[]]],#[nc]],m<=u.length/\(∃k a b,v=E::u0::k::g::R::J::l0::c0::S::X::#[bH]::L::e0::#[bY]::#[cz]::#[v,2^m]::a::b::Y)/\s=#[d9,(bc (u.drop (u.length-m))).map λH=>#[d2,H],#[nc]],ck.list (i:=19) (Ev.NL (k:=18) (o0:=#[d9,[#[d2,[]]],[c,y,A,I,.list O,#[gD]]]) #[aD,14] ?_ rfl U rfl rfl rfl) rfl,#[bN,aV _,⟨C0,j0,A0,rfl⟩]];.run_tac av.aJ
 .rw[zf,rB];rfl
 .rintro k v s⟨_,⟨G0,a,b,rfl⟩,rfl⟩;exact#[aG,by simp]
 .rintro m x v s z⟨f0,⟨G0,a,b,rfl⟩,rfl⟩_ _;have t0:m<u.length:=by have:=#[V,z];rwa[Z]at this
  have P:u.length-1-m<u.length:=by omega
  rw[PZ (by rw[aQ];exact t0),aQ,cg,bD P]at z;obtain rfl:x=V.int #[I,u[u.length-1-m]]:=(hv z).symm;obtain⟨p,N,a0⟩:=r _ P;have f:u.length-1-m+1=u.length-m:=by omega
  rw[f]at a0;have k0:#[s,u.drop,u.length-m]=m:=by rw[dj];omega
  have s0:u.drop (u.length-(m+1))=u[u.length-1-m]::u.drop (u.length-m):=by rw[show u.length-(m+1)=u.length-1-m by omega,og P,f]
  have:=Xe F G Q q q0 (r:=u.drop (u.length-m)) #[f] e a0 (T:=T) (j:=j) (b0:=b0) (o0:=o0) (m0:=m0) (C:=C) (d:=d) (c:=c) (y:=y) (A:=A) (I:=I) (f:=#[gD]) (N:=.list (u.map #[aV]).reverse) N p0 (E:=E) (u0:=u0) (g:=g) (R:=R) (J:=J) (l0:=l0) (c0:=c0) (S:=S) (X:=X) (L:=L) (e0:=e0) (x0:=#[cz]) (j0:=a) (A0:=b) (Y:=Y);rw[k0]at this;refine this.mono λo v s h=>?_;obtain⟨rfl,⟨h0,i0,rfl⟩,rfl⟩:=h;refine .inl #[bN,t0,#[Q,h0,i0,rfl]];rw[s0]
 .rintro v s⟨_,⟨G0,a,b,rfl⟩,rfl⟩;refine#[dH,#[bN,rfl,#[bP,G0,a,b]]];.rw[Z]
  .rw[Z,kN,oh]
 .exact#[dj]
end
section
variable{B:Bs}{w:aD}{n:Nat}{d0 g0 r0:#[n]}
theorem WM(F:#[w])(G:#[W])(O:fs B r0)(i:17<=n){l:#[bB]}(u:l.length<=16){T:Tx}{j:Nat}{b0 o0 m0 C d c y A I f N:Ob}(H:eY b0)(m:eY o0)(p:eY m0)(x:eY C)(t:eY d)(M:eY c)(Q:eY y)(f0:eY A)(h0:eY I)(i0:eY f)(k0:eY N){P:#[B]}{E u0 C0 g R J l0 c0 S X L e0 b x0 j0 A0 n0:#[bf]}{Y:#[o]}:#[d6,17,1,E::#[e8,u0,C0,g,#[bH],L::e0::b::x0::#[eZ]::j0::A0::n0::Y],#[dS,(cu T j l)]++#[gt],v=E::u0::C0::g::R::J::l0::c0::S::X::#[bH]::L::e0::b::x0::#[eZ]::j0::A0::#[cZ]::Y,#[dS,#[cA,j]]++[c,y,A,I,.list P,f,N,#[T,l]]]:=by
 have Z:#[s,(aR l.length).map,#[cR]]=l.length:=#[z];refine aj.xn (ed.Nu (N:=0) (r:=20) (X:=(aR l.length).map #[cR]) (C:=λ_=>True) (b0:=#[d9,l,#[gt]]) F (c:=λk q0 v s=>k<=l.length/\(∃z,v=[ab,z,#[bH]])/\q0=ah (l.take k)/\s=#[d9,l.drop k,#[gt]]++[#[bQ,q0]]) 1 (G:=[ab,ab,aa 10]) (T:=[ab,ab,#[bH]]) (ck.N ?_ 0) rfl #[p] #[p] #[p] #[p] ?_ rfl rfl rfl (by rw[Z];exact#[bG,u]) (λ_=>⟨aV _,#[bu],rfl,rfl⟩) ?_ ?_ ?_ #[am] (l:=[]) (m0:=#[dS,#[cA,j]]++[c,y,A,I,.list P,f,N,#[T,l]]) (x0:=E::#[lV,g,X::#[bH]::L::e0::b::x0::#[eZ]::j0::A0::#[cZ]::Y]) 18 (DQ #[p]) rfl #[z] rfl (ed.of (aj.nil #[cc])));.run_tac av.aJ
 .simp[cx,H _ _,m _ _,p _ _,x _ _,t _ _,M _ _,Q _ _,f0 _ _,h0 _ _,i0 _ _,k0 _ _];show cx 13 #[gt]=[];simp[cx,M _ _,Q _ _,f0 _ _,h0 _ _,i0 _ _,k0 _ _]
 .rintro k q0 v s⟨e,⟨z,rfl⟩,rfl,rfl⟩;exact⟨trivial,bx rfl,rfl,by simp only[ah,aQ,bI];omega⟩
 .rintro k z q0 v s r⟨e,⟨p0,rfl⟩,rfl,rfl⟩_ _;have q:#[cL]:=by have:=#[V,r];rwa[Z]at this
  have U:l.drop k=l[k]::l.drop (k+1):=og q;rw[U];refine⟨ae,_,fp.nil,.str l[k],_,oU (A:=#[hg]) (v0:=[c,y,A,I,.list P,f,N,#[T,l.take k]]) (a:=[c,y,A,I,.list P,f,N,#[T,l.take k]]) O O.m2 O.o2 xb rfl #[aD,2] rfl .nil (nM F G O j (l.drop #[u]) l[k] (by rw[dj];omega)) #[f] #[aS] #[aO] rfl #[an] #[j] #[j],rfl,#[dM,q,#[bu],?_,rfl]⟩;rw[lP q,kD];rfl
 .rintro q0 v s⟨_,_,a,a0⟩;rw[Z,hs]at a;rw[a0,a,Z,rB];rfl
end
noncomputable def Yi:#[y]:=match en.drop 18 with|.For _ _ b _ _::_=>b|_=>[]
section
variable{B:Bs}{w:aD}{n:Nat}{d0 g0 r0:#[n]}
theorem WO(F:#[w])(G:#[W])(e:17<=n)(I0:#[dt,"_law_due",329]){M:#[ae]}{L f u:#[i]}(a:#[go])(k:u.length<=4)(t:f.length<=15){m:Nat}(l:m<16){r:#[B]}(f0:#[gn,r,m,aU M f])(Q:r.length<=16)(U:#[lv,(mw u m).map,#[je,f.map]]){b0 o0 m0 d t0 v0 x0 y0 A0 n0 E0 F0 c y A I s0 N:Ob}(H0:#[cu,#[mg]]){E u0 C0 g R J c0 S X H r0 T C P O j:#[bf]}{Y:#[o]}:#[dh,Yi,E::u0::C0::g::R::J::#[ad,3]::c0::S::X::H::r0::T::C::#[cz]::P::O::j::#[cZ]::#[v,m]::Y,#[mg],#[fo,v=E::u0::C0::g::R::J::#[ad,3]::c0::S::X::H::r0::T::C::#[cz]::P::O::j::#[cZ]::#[v,m]::Y,∃w0,s=#[mg]++w0]]:=by
 have j0:=pg;have a0:r.length<=aC:=#[bG,Q];have h0:#[cM,(ah (L.map (aF M)))]:=by simp only[ah,aQ];exact#[bG,a]
 have M0:#[ba,u.map,#[aV]]:=by rw[aQ];exact#[bG,k]
 have p0:#[s,u.map,#[aV]]=u.length:=aQ ..;have l0:=yb M f;have k0:#[hD,#[dK].map,#[s,f.map,#[b5]],[32]]:=by rw[aQ,#[co,#[a5,([32]:Tx),1]]];exact aI (show _<=2000 by omega) #[j]
 have h:∀b,b∈aR u.length->br (u.map #[aV]) #[I,b]=#[v,u.getD b 0]:=λb Z=>by have i0:=eN.mp Z;unfold br;rw[ih (by simpa using i0)];simp[ef,bD i0]
 have q0:hO 358 48 (aR u.length) (#[aV]) (λb=>(m/2^b&&&1 !=0)) (λb=>#[dD,u.getD b 0]):=trivial;have G0:((aR u.length).filter λb=>(m/2^b&&&1 !=0)).map (λb=>#[dD,u.getD b 0])=(mw u m).map #[jo]:=by unfold mw;rw[gA,show(λb=>(m>>>b)&&&1 !=0)=λb=>(m/2^b&&&1 !=0)from funext λb=>by rw[Nat.shiftRight_eq_div_pow]];rfl
 have J0:#[ba,(aR u.length).map,#[aV]]:=by rw[aQ,gz];exact#[bG,k]
 have L0:=ye M f;have i:(aU M f !=aU M f)=ag:=bne_self_eq_false _;have e0:#[bS,dp,.NotEq,.str (aU M f),.str (aU M f),#[cO,ag]]:=by rw[<-i];exact St.rb
 run_tac av.aJ
 .intro x z;obtain⟨q,_,rfl⟩:=bK.mp z;rfl
 .exact⟨rfl,rfl,[_,_],rfl⟩
end
section
variable{B:Bs}{w:aD}{n:Nat}{d0 g0 r0:#[n]}
theorem Xc(F:#[w])(G:#[W])(t:17<=n)(y0:#[dt,"_law_due",329]){M:#[ae]}{L u:#[i]}{l:Nat->#[i]}(b:#[go])(P:u.length<=4){r:#[B]}(Q:r.length<=16)(Z:∀m,#[s,l,m]<=15)(e0:∀m,m<r.length->#[gn,r,m,aU M (l m)]/\#[lv,(mw u m).map,#[eQ,#[eH,(l m).map]]]){b0 o0 m0 d l0 n0 p0 q0 s0 f0 t0 v0 c y A I k0 N:Ob}(x0:#[cu,#[om,#[gD]]]){E u0 C0 g R J c0 S X H r0 T C O j U:#[bf]}{Y:#[o]}:#[d6,18,1,E::u0::C0::g::R::J::#[ad,3]::c0::S::X::H::r0::T::C::#[cz]::#[v,r.length]::O::j::#[cZ]::U::Y,#[nl],∃j0,v=E::u0::C0::g::R::J::#[ad,3]::c0::S::X::H::r0::T::C::#[cz]::#[ct,(r.length:Int)]::O::j::#[cZ]::j0::Y,#[nl]]:=by
 show#[j2];refine aj.gX (i:=19) (X:=(aR r.length).map λk=>V.int (k:Nat)) (C:=λ_=>True) (c:=λ_ v s=>(∃j0,v=E::u0::C0::g::R::J::#[ad,3]::c0::S::X::H::r0::T::C::#[cz]::#[ct,(r.length:Int)]::O::j::#[cZ]::j0::Y)/\s=#[nl]) ?_ rfl (.inr #[aG,by decide]) #[bE,#[bE,U]] ?_ ?_ ?_ ?_;.run_tac av.aJ
 .rintro k v s⟨⟨j0,rfl⟩,rfl⟩;exact#[gs,by simp]
 .rintro m x v s z⟨⟨j0,rfl⟩,rfl⟩h0 _;rw[cg]at z;obtain⟨q,i0,rfl⟩:=dW.mp z;have f:=by have:=#[V,i0];simpa using this
  obtain rfl:q=m:=by rw[rE f]at i0;exact(hv i0).symm
  obtain⟨a,a0⟩:=e0 q f;refine#[j4,WO F G t y0 b P (Z q) #[f] a Q a0 x0];obtain⟨rfl,rfl,w0,rfl⟩:=h;refine .inr #[du,21,aP _,vT (A:=[]) (g:=[]) h0 #[aS] rfl #[aO] (#[c1]),#[bu]];match i,e with|0,e=>exact#[J]|1,e=>exact#[J]|2,e=>exact#[J]|3,e=>exact#[J]|4,e=>exact#[J]|5,e=>exact#[J]|6,e=>exact#[J]|7,e=>exact#[J]|8,e=>exact#[J]|9,e=>exact#[J]|10,e=>exact#[J]|11,e=>exact#[J]|12,e=>exact#[J]|13,e=>exact#[J]|14,e=>exact#[J]|15,e=>exact#[J]|16,e=>exact#[J]|17,e=>exact#[J]|18,e=>exact#[J]|19,e=>exact#[gX]|i+20,e=>exact#[J]
 .rintro v s⟨⟨j0,rfl⟩,rfl⟩;exact#[dH,#[aA,rfl,#[bE,j0]]]
 .exact#[dj]
end
section
variable{B:Bs}{w:aD}{n:Nat}{d0 g0 r0:#[n]}
theorem WU(F:#[w])(G:#[W])(O:fs B r0)(c:17<=n){T:Tx}{f:Nat}(Q:#[iB])(A:cC (gF f T)=(#[gw],[])){b0 o0 m0 C d:Ob}{v0:#[l]}{E u0 C0 g R J l0 S X:#[bf]}{Y:#[o]}:#[d6,19,1,E::u0::C0::g::R::J::l0::#[K,T]::S::X::#[bH]::Y,#[jN,f],v=E::u0::C0::g::R::J::l0::#[K,T]::S::X::#[bH]::Y,#[dS,#[cA,f+2]]++v0]:=by
 have U:=BA (w:=w) F G O Q f;have q:=BA (w:=w) F G O Q (f+1);have b:gF (f+1) T=[]:=by show(cC (gF f T)).2=_;rw[A]
 have e:gF (f+2) T=[]:=by show(cC (gF (f+1) T)).2=_;rw[b];rfl
 rw[A]at U;rw[show(cC (gF (f+1) T)).1=[]by rw[b];rfl]at q;have i:T.count 10<=T.length:=PO;have k0:#[bS,dp,.NotEq,#[ao,#[gw]],#[ao,#[gw]],#[cO,ag]]:=St.rb;have m:#[bS,dp,.NotEq,#[ao,[]],#[ao,[]],#[cO,ag]]:=St.rb;have N:#[bS,dp,.NotEq,#[be,#[gP]],#[be,#[gP]],#[cO,ag]]:=by have:=St.CC (w:=w) (n:=n) (i:=#[gP]) (j:=#[gP]);rwa[bne_self_eq_false]at this
 have l:∀(t:Tx)(k:Nat)(h:bH B w 7 288 [.ob 7] #[cA,k] #[bm] #[cA,#[u]])(F0 E0 N0:ba)(y:#[l1]),Ev B w n bB #[bR,#[dL,#[aL,"lexer",F0],"get_token",E0],[],N0] (E::u0::C0::g::R::J::l0::#[K,T]::S::X::#[bH]::Y) #[jN,k] #[bm] #[jN,#[u]]:=λt k h F0 E0 N0 y=>oU (A:=#[hg]) (v0:=v0) (a:=v0) (Y:=[]) O O.m2 O.o2 xb rfl #[kO,10] rfl .nil h #[f] #[aS] #[aO] rfl #[an] y #[j];have a:∀F0 E0,Ev B w n bB #[dL,#[aL,"lexer",F0],"lineno",E0] (E::u0::C0::g::R::J::l0::#[K,T]::S::X::#[bH]::Y) #[jN,f+2] #[be,#[gP]] #[jN,f+2]:=λF0 E0=>by refine Ev.oG (d:=11) (k:=11) (j0:=(jr (#[gP]-(gF (f+2) T).count 10)).map λp=>(p.1,eA 5 p.2)) O.cl #[aD,10] (sD (A:=#[hg]) 7 _ rfl) (cA.sh (b:=5) (d:=6) cA.dg) ((sD (A:=#[hg]) 6 _ rfl).trans (congrArg aa Du)) #[j] ?_ O.n1 DS #[an] #[am];rw[oV,Xn,e];rfl
 refine aj.ite (B:=B) (w:=w) (n:=n) (O:=bB) (t:=ag) (b0:=#[dS,#[cA,f+2]]++v0) (Et.qo (dE.cons (t:=ag) (b0:=#[dS,#[cA,f+1]]++v0) #[gN,l _ f U _ _ _ #[j],Ev.nz,k0.up] (di.mC rfl (dE.cons (t:=ag) (b0:=#[dS,#[cA,f+2]]++v0) #[gN,l _ (f+1) q _ _ _ #[j],Ev.nz,m.up] (di.mC rfl (dE.cons (t:=ag) #[gN,a _ _,?_,N.up] (di.mC rfl dE.xp))))))) ?_;.refine Ev.nx Ev.ny (W.count (c:=10) (t:=T) #[aD,7] ?_ rfl #[an] #[j]) St.sr.up;run_tac av.aJ
 exact#[dH,#[cc]]
end
section
variable{B:Bs}{w:aD}{n:Nat}{d0 g0 r0:#[n]}
theorem WN(F:#[w])(G:#[W])(u:#[dt,"_check_parenthesis",260])(n0:t.length<=2000)(Q:r.length<=16)(H:br r (0:Nat)=#[K,t]){c:Tx->Bool}{P:Tx->Prop}(l:∀a,P a->#[l8,260,.bool (c a)])(F0:P t)(E0:P ([40]++t))(e:c t=ae)(h:c ([40]++t)=ag):#[d6,20,1,E::#[lV,g,X::d::L::e0::b::x0::i::j0::A0::#[cZ]::Y],#[ie],v=E::#[jU,u0,C0,d,L,e0,b::x0::i::j0::A0::#[cZ]::Y],#[ie]]:=by
 have p:r.length<=aC:=#[bG,Q];have T:[40].length+t.length<=aC:=aI (show 1+t.length<=3000 by omega) #[j];run_tac av.aJ
 all_goals first|exact#[cc]|rfl
end
section
variable{B:Bs}{w:aD}{n:Nat}{O:Gm}{d0 g0:#[n]}{U:#[o]}{H b0:#[l]}{i0 p:ba}{a:aT}
theorem fQ.ya(I:#[aF,#[cn]])(f:#[aR,b0,j,X])(y:#[bp])(b:#[G,X,r]):#[bZ,fQ,.Subscript a (.Constant #[bz,i] k p) i0,r]:=#[dc,lH,#[a8,I,λu0 k0 F C T=>sg (by obtain⟨l,Y,L,rfl,_,g,z⟩:=C.rel.list T f;have c:k0.heap.IsList l _:=#[cG,_];refine⟨_,_,td,c.typeIs,?_⟩;obtain⟨u,e,o⟩:=z.at b;have h:aC=2^24:=rfl;have P:=#[V,b];refine ll (yX 1 _) (GC c (nY i) #[f] (by simpa using e) λn0=>q _ _ _ n0 (C.toks _) o))]]
variable{E u0 C0 g R J l0 c0 S X d L e0 b x0 i j0 A0 N r0:#[bf]}{Y:#[o]}{f0 h0 k0 m0 o0 p0 q0 s0 t0 v0 f j k m q y z A C M:Ob}
theorem WJ(F:#[w])(G:#[W])(n0:t.length<=2000)(Q:r.length<=16)(H:r[0]?=aa (.str t))(e:cK #[fX] 0 (cK #[eK] 0 t)=u)(p:#[aX,(cK #[eK] 0 t),2000]):#[d6,21,1,E::#[jU,u0,C0,d,L,e0,b::x0::i::j0::A0::#[cZ]::N::r0::Y],#[ie],v=E::u0::C0::g::R::J::l0::c0::S::X::d::L::e0::b::x0::i::j0::A0::#[cZ]::N::#[K,u]::Y,#[ie]]:=by
 have Z:∀l,l<=2000->l+(l+1)*0<=16777216:=λl h=>by omega
 refine Mine.W.set 20 (W.CW G (fQ.replace G (fQ.ya #[kO,18] rfl (aI Q #[j]) H) (Z _ n0) (MX t _ #[j]) #[an] #[p]) (Z _ p) ((MX _ _ #[j]).trans e) #[an] #[p]) rfl #[aU] #[aS] #[am] rfl (aj.nil #[cc])
end
section
variable{B:Bs}{w:aD}{n:Nat}{d0 g0 r0:#[n]}
theorem Xf(F:#[w])(G:#[W]){t u:Tx}(n0:t.length<=2000)(i0:u.length<=2000){r:#[B]}(U:r.length<=16)(O:br r #[bh]=#[K,t]){c:Tx->Bool}{h:Tx->Tx}{P Q:Tx->Prop}(l:∀a,P a->#[l8,260,.bool (c a)])(I:∀a,Q a->Fn B w n 253 #[hc,a] (.atom (.str (h a))))(F0:P ([41]++t++[40]))(y0:Q t)(O0:Q (t++[34]))(p:c ([41]++t++[40])=ag)(H:h t=u)(T:h (t++[34])=u++[34]){f0 h0 k0 m0 o0 p0 q0 s0 t0 v0 f j k m q y z A C M:Ob}{E u0 C0 g R J l0 c0 S X d L e0 b x0 i j0 A0 N:#[bf]}{Y:#[o]}:#[d6,22,2,E::u0::C0::g::R::J::l0::c0::S::X::d::L::e0::b::x0::i::j0::A0::#[cZ]::N::#[K,u]::Y,#[ie],v=E::u0::C0::g::R::J::l0::c0::S::X::d::L::e0::b::x0::i::j0::A0::#[cZ]::N::#[K,u]::Y,#[ie]]:=by
 have a0:r.length<=aC:=#[bG,U];have r0:3000<=aC:=by decide
 have b0:#[fT,[41]]+t.length<=aC:=aI (show 1+t.length<=3000 by omega) r0;have E0:#[fT,[41]++t]+#[fT,[40]]<=aC:=aI (show#[fT,[41]++t]+1<=3000 by rw[aY];show 1+t.length+1<=3000;omega) r0;have I0:t.length+#[fT,[34]]<=aC:=aI (show t.length+1<=3000 by omega) r0;have J0:u.length+#[fT,[34]]<=aC:=aI (show u.length+1<=3000 by omega) r0;have w0:#[jY,.bool,c ([41]++t++[40])]:=#[kr];have G0:#[jY,.str,h t]:=#[kr];have H0:#[jY,.str,h (t++[34])]:=#[kr];have Z:(c ([41]++t++[40])!=ag)=ag:=by rw[p];rfl
 run_tac av.aJ
 all_goals first|exact#[cc]|rfl
end
theorem mE:∀(H:#[g])(k:Nat){X:#[B]},cx k H=[]->cx k (H++[#[bQ,X]])=[]|[],_,_,_=>rfl|.raw _::r,k,_,h=>by cases h|.list _::r,k,_,h=>mE r _ h|.tup _::r,k,_,h=>mE r _ h|.rel _ _ _::r,k,_,h=>mE r _ h|.hp _ _ _ _ _ _::r,k,_,h=>mE r _ h
section
variable{B:Bs}{O:Gm}{J:aO}{S:#[t]}{U x0:#[o]}{H:#[l]}{h:bo}{w:aD}{n:Nat}{l:#[y]}{h0:#[al]}
theorem aj.forget(h:#[cE,l,U,H,λo v s=>∃X,(#[f2,X,#[fU,v]])/\h0 o X s]):#[hf,l]:=#[ku,λo v s f L j R P r=>by obtain⟨X,I,k⟩:=R;exact q o _ s f _ _ k #[iC,P.rel.forget I,P.fx] r]
end
noncomputable def Lv:#[y]:=match en.drop 25 with|.For _ _ b _ _::_=>b|_=>[]
theorem DN(p:Nat->Bool)(f:#[ae]):#[f6,((l.filter p).map f).foldl (·+·) a=(l.map λk=>if p k then f k else 0).foldl (·+·) a]|[],a=>rfl|k::r,a=>by rw[uf];cases C:p k with|true=>rw[#[cw],dk,dk,ee,ee,DN p f r,C,#[cw]]|false=>rw[#[c7],dk,DN p f r,C];rfl
theorem Ox:#[f6,(l.map λk=>#[b4]).foldl (·+·) (a:Int)=l.foldl (·+·) a]|[],a=>rfl|k::r,a=>by rw[dk,ee,ee,<-Ox r _];rfl
theorem YZ{a b:Nat}:#[aB,[a]>[b]]=decide (b<a):=by rw[decide_eq_decide];show[b]<[a]↔b<a;rw[PN];simp
section
variable{B:Bs}{w:aD}{n:Nat}{d0 g0 r0:#[n]}
theorem WX(F:#[w])(G:#[W])(A:17<=n){M:#[ae]}{f J0:#[i]}(Q0:f.length<=15)(a0:f≠[])(Z:#[h2,f])(r1:(f.filter #[gx])=J0){g:Nat}(v1:J0.length=g)(U0:1<=g)(n1:g<=5){I:#[i]}(j0:I.length=2^(g-1))(q:er J0 g<I.length){f0 h0 k0 m0 o0 p0 q0 s0 t0 v0 n0 x0 y0 A0 E0 F0 N0 O0 L0 G0 H0 I0:Ob}(j1:#[cu,#[ol]]){E u0 C0 R J l0 c0 S X H r0 T C u P O i0 b0 Q U:#[bf]}{Y:#[o]}:#[dh,Lv,E::u0::C0::#[v,g]::R::J::l0::c0::S::X::H::r0::T::C::u::P::O::#[K,aU M f]::i0::b0::Q::#[dx]::U::Y,[f0,h0,k0,m0,o0,p0,q0,s0,t0,v0,n0,x0,y0,A0,E0,F0,N0,O0,L0,G0,H0,I0,#[aN,I]],#[fo,v=E::#[e8,u0,C0,#[v,g],H,r0::T::C::u::P::O::#[K,aU M f]::i0::b0::Q::#[dx]::ab::Y],∃w0,s=#[mI]]]:=by
 have e0:=kF M;have X0:=pg;have d1:ah (fD 32 [] (aU M f))=ah (f.map #[b5]):=congrArg ah (OI M a0 Z);have N:=ye M f;have s1:#[fp,(aU M f)]:=aI (show _<=1000 by omega) #[j];have u1:#[cu,[f0,h0,k0,m0,o0,p0,q0,s0,t0,v0,n0,x0,y0,A0,E0,F0,N0,O0,L0,G0,H0,I0,#[aN,I],#[T,#[dK]]]]:=mE _ 0 (mE _ 0 j1);have w1:#[cu,[f0,h0,k0,m0,o0,p0,q0,s0,t0,v0,n0,x0,y0,A0,E0,F0,N0,O0,L0,G0,H0,I0,#[aN,I],#[T,#[dK]],#[T,J0.map #[cp]]]]:=mE _ 0 u1;have Z0:(f.map λc=>V.str (ay (aF M) c))=ah (f.map #[b5]):=by simp[ah]
 have T0:∀c,br (ay (aF M) c) (-#[bt])=aa c:=λc=>by
  unfold ay;split;.rfl
  .exact e0.at_ c
 have l1:∀c,#[cM,(ay (aF M) c)]:=λc=>aI (xy e0 c) #[j];have e1:hO 371 18 f (λc=>V.str (ay (aF M) c)) (λc=>!#[l9,c]) (λc=>#[dR]):=trivial;have g1:(f.filter λc=>!#[l9,c]).map (#[fK])=ah (J0.map #[cp]):=by rw[ue λp _=>CU e0 p,r1];simp[ah]
 have h1:#[m6]:=rfl;have R0:#[cM,#[kk]]:=by simp only[ah,aQ];exact#[bG,Q0]
 have S0:#[cM,(ah (J0.map #[cp]))]:=by simp only[ah,aQ];exact aI (show J0.length<=5 by omega) #[j]
 have p1:#[ba,(aR (g-1)).map,#[aV]]:=by rw[aQ,gz];exact aI (show g-1<=5 by omega) #[j]
 have Y0:#[fx,.Sub,g,1,g-1]:=St.iW U0;have b1:∀k,k<J0.length->br (ah (J0.map #[cp])) #[b4]=#[K,[J0.getD k 0]]:=λp y=>by rw[xX _ (by rw[aQ];exact y)];simp[ef,bD y]
 have o1:∀k,k∈aR (g-1)->br (ah (J0.map #[cp])) #[b4]=#[K,[J0.getD k 0]]:=λk m=>b1 k (by have:=eN.mp m;omega);have i1:∀k,k∈aR (g-1)->#[gn,ah (J0.map #[cp]),k+1,[#[iZ]]]:=λk m=>b1 #[u] (by have:=eN.mp m;omega);have q1:∀k,k∈aR (g-1)->#[bS,dp,.Gt,#[ao,[J0.getD k 0]],#[ao,[#[iZ]]],.bool (decide (#[iZ]<J0.getD k 0))]:=λk _=>by rw[<-YZ];exact St.Ds
 have c1:hO 372 19 (aR (g-1)) (#[aV]) (λk=>#[aB,#[iZ]<J0.getD k 0]) (λk=>#[dD,2^k]):=trivial;have t1:∀k,k∈aR (g-1)->#[fx,.Pow,2,k,2^k]:=λk m=>mD 2 k #[j] (by have:=eN.mp m;omega);have a1:∀v s,#[aR,s,25,((aR (g-1)).filter λk=>#[aB,#[iZ]<J0.getD k 0]).map λk=>#[dD,2^k]]->bZ B w n bB #[c5,"sum"] [.ob 25] v s #[be,er J0 g] s:=λv s r=>Cl.sum (C:=(((aR (g-1)).filter λk=>decide (J0.getD (k+1) 0<J0.getD k 0)).map (2^·)).map λk=>#[b4]) r (by simp[gA]) (by rw[#[co,(0:Int)=#[bh]],Ox,DN];unfold er;simp only[decide_eq_true_eq]);have f1:#[ba,aK,I]:=by simp only[aK,aQ,j0];have:2^(g-1)<=2^5:=ei #[j] #[f];exact#[bG,this]
 have k1:(aK I)[er J0 g]?=aa (.int #[I,#[jn]]):=by simp[aK,ef,bD q]
 have m1:(aK I).set (er J0 g) #[be,#[jn]+1]=aK (I.set (er J0 g) (#[jn]+1)):=by simp[aK,um]
 have M0:#[dh,Lv.drop 1,E::#[e8,u0,C0,#[v,g],H,r0::T::C::u::#[nY]],[f0,h0,k0,m0,o0,p0,q0,s0,t0,v0,n0,x0,y0,A0,E0,F0,N0,O0,L0,G0,H0,I0,#[aN,I],#[df],#[T,J0.map #[cp]]],#[fo,v=E::#[e8,u0,C0,#[v,g],H,r0::T::C::u::P::O::#[K,aU M f]::i0::b0::Q::#[dx]::#[ad,24]::Y],∃w0,s=#[mI]]]:=by
  refine aj.Hq (B:=B) (w:=w) (n:=n) (O:=bB) (j:=22) (k:=er J0 g) (X:=aK I) (r:=#[ay,#[jn]+1]) (x:=#[ay,#[jn]]) (v:=#[ay,1]) #[aD,21] (o0:=[f0,h0,k0,m0,o0,p0,q0,s0,t0,v0,n0,x0,y0,A0,E0,F0,N0,O0,L0,G0,H0,I0,#[aN,I],#[df],#[T,J0.map #[cp]],#[bk,((aR (g-1)).filter λk=>#[aB,#[iZ]<J0.getD k 0]).map,λk=>#[dD,2^k]]]) ?_ rfl f1 k1 Ev.ny St.wJ.up rfl #[aS] (λ_ _ _=>rfl) rfl ?_;.run_tac av.aJ
  .rw[m1];exact aj.nil ⟨rfl,rfl,[_,_,_],rfl⟩
 refine aj.forget ?_;refine aj.mono (h0:=λo v s=>#[eI,v=E::u0::C0::#[v,g]::R::J::l0::c0::S::X::H::r0::T::C::u::#[nY],∃w0,s=#[mI]]) ?_ λo v s h=>?_
 .refine Mine.W.set (B:=B) (w:=w) (n:=n) (O:=bB) (v:=.ob 24) (x0:=E::#[lV,#[v,g],X::H::r0::T::C::u::#[nY]]) 22 ?_ rfl (.inr #[aG,by decide+kernel]) #[aS] (DQ #[E]) rfl M0;run_tac av.aJ
  exact Z0.symm
 .obtain⟨rfl,rfl,w0,rfl⟩:=h;refine⟨_,#[c1],rfl,rfl,w0,rfl⟩;by_cases l:i=22;.subst l;cases e
  .have:∀(a b:#[o])(z:#[bf]),a.length=22->i≠22->#[fU,(a++ab::b)]->#[fU,(a++z::b)]:=λa b z d l e=>by
    rcases gk i 22 with h|h;.rw[#[D,cL]]at e⊢;exact e
    .rw[#[D,ew]]at e⊢;obtain⟨j,L⟩:=Nat.exists_eq_add_of_lt (Nat.lt_of_le_of_ne h (kO l));rw[d,show i-22=j+1 by omega]at e⊢;exact e
   exact this [E,u0,C0,#[v,g],R,J,l0,c0,S,X,H,r0,T,C,u,P,O,#[K,aU M f],i0,b0,Q,#[dx]] Y (aa (.ob 24)) rfl l e
end
def ib(L:#[i])(l:Nat->#[i])(k:Nat):#[i]:=(aR k).foldl (λc m=>c.set #[l3,(l m)] (c.getD #[l3,(l m)] 0+1)) (cO (2^(L.length-1)) 0)
theorem Bb(L:#[g])(l:Nat->#[g])(k:Nat):ib L l #[u]=(ib L l k).set #[l3,(l k)] ((ib L l k).getD #[l3,(l k)] 0+1):=by unfold ib;rw[Qn,mV];rfl
theorem Ba(L:#[g])(l:Nat->#[g]):∀k,#[a5,(ib L l k),2^(L.length-1)]|0=>List.length_replicate|k+1=>by rw[Bb,yJ,Ba L _ k]
section
variable{B:Bs}{w:aD}{n:Nat}{d0 g0 r0:#[n]}
theorem WQ(F:#[w])(G:#[W])(r:17<=n){M:#[ae]}{L:#[i]}(Q0:1<=L.length)(y:#[go]){l:Nat->#[i]}{N:Nat}(i0:N<=16)(L0:∀m,m<N->#[s,l,m]<=15/\l m≠[]/\(#[h2,l m])/\#[s,(l m).filter,#[gx]]=L.length/\er ((l m).filter #[gx]) L.length<2^(L.length-1)){f0 h0 k0 m0 o0 p0 q0 s0 t0 v0 j0 n0 x0 y0 A0 E0 I0 J0 G0 F0:Ob}(R0:#[cu,[f0,h0,k0,m0,o0,p0,q0,s0,t0,v0,j0,n0,x0,y0,A0,E0,I0,J0,G0,F0]]){E u0 C0 R J l0 c0 S X H r0 T C u P O j b0 Q M0 U:#[bf]}{Y:#[o]}:#[d6,24,2,E::u0::C0::#[hX]::R::J::l0::c0::S::X::H::r0::T::C::u::P::O::j::#[cZ]::b0::Q::M0::U::Y,[f0,h0,k0,m0,o0,p0,q0,s0,t0,v0,j0,n0,x0,y0,A0,E0,I0,J0,G0,F0,#[T,(aR N).map #[hd]]],∃a b,v=E::#[lV,#[hX],X::H::r0::T::C::u::P::O::a::#[cZ]::b0::Q::#[dx]::b::Y],#[k0,N]]:=by
 have H0:#[a5,(ah ((aR N).map #[hd])),N]:=by simp[ah]
 have N0:#[fx,.Sub,L.length,1,L.length-1]:=St.iW Q0;have U0:#[fx,.Pow,2,L.length-1,2^(L.length-1)]:=mD 2 _ #[j] #[f];have T0:2^(L.length-1)<=2^4:=ei #[j] #[f];have S0:(cO (2^(L.length-1)) [#[dD,0]]).flatten=aK (ib L l 0):=by show _=aK (cO _ 0);generalize 2^(L.length-1)=q;induction q with|zero=>rfl|succ q A=>rw[rG,PW,A];rfl
 have X0:=mE _ 0 (X:=ah ((aR N).map #[hd])) R0;have Y0:=mE _ 0 (X:=[#[ay,0]]) X0;refine#[gF,.ob 22,#[k0,0],E::u0::C0::#[hX]::R::J::l0::c0::S::X::H::r0::T::C::u::P::O::j::#[cZ]::b0::Q::#[dx]::U::Y,21,Ev.nx (x:=.ob 21) (y:=#[ay,2^(L.length-1)]) (b0:=#[mf]) (o0:=#[mf]) ?_ ?_ (St.tf (j:=21) (X:=[#[dD,0]]) rfl (by show 1*_<=2^24;omega) #[f] S0 rfl rfl)];.run_tac av.aJ
 .run_tac av.aJ
 show#[j2];refine aj.gX (B:=B) (w:=w) (n:=n) (O:=bB) (i:=17) (X:=ah ((aR N).map #[hd])) (C:=λs=>#[aR,s,20,ah ((aR N).map #[hd])]) (b0:=#[k0,0]) (c:=λk v s=>(∃a b,v=E::#[e8,u0,C0,#[hX],H,r0::T::C::u::P::O::a::#[cZ]::b0::Q::#[dx]::b::Y])/\s=#[k0,k]) (ck.list (i:=20) #[aD,18] rfl) rfl #[aU] #[bE,#[aA,j,U]] ?_ ?_ ?_ ?_;.rintro k v s⟨⟨a,b,rfl⟩,rfl⟩;exact#[aG,by simp]
 .rintro m x v s c⟨⟨a,b,rfl⟩,rfl⟩O0 _;have p:m<N:=by have:=#[V,c];rwa[H0]at this
  obtain rfl:x=.str (aU M (l m)):=by
   have:(ah ((aR N).map #[hd]))[m]?=aa (.str (aU M (l m))):=by simp[ah,p]
   rw[this]at c;exact(hv c).symm
  obtain⟨d,a0,g,I,Z⟩:=L0 m p;have f:=Ba L l m;refine#[j4,WX F G r d a0 g rfl I Q0 y f (by rw[f];exact Z) Y0 (E:=E) (u0:=u0) (C0:=C0) (R:=R) (J:=J) (l0:=l0) (c0:=c0) (S:=S) (X:=X) (H:=H) (r0:=r0) (T:=T) (C:=C) (u:=u) (P:=P) (O:=O) (i0:=#[cZ]) (b0:=b0) (Q:=Q) (U:=b) (Y:=Y)];obtain⟨rfl,rfl,w0,rfl⟩:=h;rw[<-Bb];refine .inr #[du,23,aP _,vT (A:=#[mf]) (g:=[#[aN,ib L l m]]) (l:=[#[aN,ib L l (m+1)]]) (v0:=[]) (w0:=w0) O0 #[aS] rfl (λe0 h=>?_) (#[c1]),#[P,_]];.rw[aZ.mp h];intro x c;obtain⟨z,_,rfl⟩:=bK.mp c;trivial
  .match i,e with|0,e=>exact#[J]|1,e=>exact#[J]|2,e=>exact#[J]|3,e=>exact#[J]|4,e=>exact#[J]|5,e=>exact#[J]|6,e=>exact#[J]|7,e=>exact#[J]|8,e=>exact#[J]|9,e=>exact#[J]|10,e=>exact#[J]|11,e=>exact#[J]|12,e=>exact#[J]|13,e=>exact#[J]|14,e=>exact#[J]|15,e=>exact#[J]|16,e=>exact#[J]|17,e=>exact#[gX]|18,e=>exact#[J]|19,e=>exact#[J]|20,e=>exact#[J]|21,e=>exact#[J]|22,e=>cases e|i+23,e=>exact#[J]
 .rintro v s⟨⟨a,b,rfl⟩,rfl⟩;refine#[dH,#[bN,rfl,#[aA,a,b]]];rw[H0]
 .exact#[dj]
end
section
variable{B:Bs}{O:Gm}{J:aO}{S:#[t]}{U x0:#[o]}{H C:#[l]}{h:bo}{w:aD}{n:Nat}{l:#[y]}{h0:#[al]}
theorem aG.pick{x:Ob}{X:#[B]}(R:#[dk,S,C++[x,.list X],h])(z:∀y∈X,bU y=ae)(s:O.fz<=C.length)(u:#[gy,C,fu C.length e0])(f:∀(i:Nat)(y:V),#[a6,x0,aa,y]->(#[a6,U,aa,y]/\bA C.length y)\/(y=.ob C.length/\#[a6,U,aa,.ob (C.length+1)])):∃a,S[C.length+1]?=aa a/\aG B O J (S.take C.length++[a]) x0 (C++[#[bQ,X]]) h:=by
 have d:S.length=C.length+2:=by rw[R.len,aY];rfl
 have A:C.length+1<S.length:=by omega
 have I:S[C.length+1]?=aa S[C.length+1]:=bD A;have M:#[s,S.take,C.length]=C.length:=#[Y];refine#[aw,I,?_];have Q:#[n7].Sublist S:=by have:=List.Sublist.append (List.Sublist.refl (S.take C.length)) (List.singleton_sublist.mpr (show S[C.length+1]∈S.drop C.length from bz (i:=1) (by rw[jz];exact I)));rwa[hQ]at this
 have b0:∀{v:ai}{y c0:V},#[bl,c0]->(y=c0/\bA C.length y)\/(y=.ob C.length/\c0=.ob (C.length+1))->VR #[n7] v y:=λ{v y c0}r e=>by
  rcases e with⟨rfl,b⟩|⟨rfl,rfl⟩;.exact(r.take b).pre (ff _ _)
  .obtain⟨a,F,rfl⟩:=r;refine#[aA,a,?_];rw[I]at F;rw[#[D,ew],M,kN,<-F];rfl
 have Z:#[gG,#[G,#[n7],a],(C++[#[bQ,X]]),(i<C.length/\#[c2]/\#[cC,(C++[x,.list X])]/\#[cC,C])\/(S[C.length+1]?=aa a/\e0=.list X)]:=λi a e0 F n=>by
  rcases gk i C.length with P|P;.rw[#[D,cL],eD P]at F;rw[cL P]at n;exact#[dM,P,F,by rw[cL P];exact n,n]
  .obtain rfl:i=C.length:=by have:=#[V,n];rw[aY]at this;simp at this;omega
   rw[#[D,ew],M,kN]at F;rw[ew (aP _),kN]at n;exact .inr ⟨by rw[I];exact F,(hv n).symm⟩
 refine#[mE,by rw[aY,M,aY];rfl,by rw[aY,M];exact eO s,Q.nodup R.nodup,λa I=>R.high a (Q.subset I),λI=>R.dZ (Q.subset I)]
 .obtain⟨m,l,H⟩:=R.ns;refine⟨m,l,λi y e=>?_⟩;have d0:=f i y e
  have:∃c0,#[a6,U,aa,c0]/\((y=c0/\bA C.length y)\/(y=.ob C.length/\c0=.ob (C.length+1))):=by
   rcases d0 with⟨N,a0⟩|⟨rfl,a0⟩;.exact⟨y,N,.inl #[aG,a0]⟩
   .exact#[aw,a0,.inr #[bV]]
  obtain⟨c0,N,a0⟩:=this;obtain⟨l0,L,t,w⟩:=H i c0 N;refine#[bP,l0,L,t];rcases w with⟨q,v,F,r⟩|⟨q,c,v,F,n,r⟩;.exact#[dM,q,v,F,b0 r a0]
  .exact .inr ⟨q,c,v,F,n,b0 r a0⟩
 .intro i a e0 F n;rcases Z i a e0 F n with⟨P,t,w,G⟩|⟨t,rfl⟩;.obtain⟨o,N,a0⟩:=R.store i a e0 t w;exact#[aY,N,(a0.take (u i e0 G)).pre (ff _ _)]
  .obtain⟨o,N,Y,k,rfl,T⟩:=R.store _ a (.list X) t (by rw[ew (dP _)];simp);exact⟨_,N,Y,k,rfl,(T.rn (j:=0) λy g=>qL (z y g)).mono λ_ _ r=>r.pre (EN)⟩
 .intro i a e0 F n;rcases Z i a e0 F n with⟨P,t,w,G⟩|⟨t,rfl⟩;.exact R.code i a e0 t w
  .trivial
 .intro p j;obtain⟨N,a0,T,E⟩:=R.cw p j;exact⟨λI=>N (Q.subset I),a0,T,E⟩
theorem aj.pick(g:H.length<=C.length)(d:O.fz<=C.length)(h:iC U H->#[cE,l,U,H,λo v s=>o=.next/\(h0 o v s\/∃x X e,s=C++[x,.list X]/\(∀y∈X,bU y=ae)/\((#[gy,C,fu C.length e0])/\∀(i:Nat)(y:V),#[a6,e,aa,y]->(#[a6,v,aa,y]/\bA C.length y)\/(y=.ob C.length/\#[a6,v,aa,.ob (C.length+1)]))/\h0 o e (C++[#[bQ,X]]))]):#[hf,l]:=λA J S s Q E G M q=>h M.below A J S s Q E G M λo v k0 f L j R P r=>by
 obtain⟨rfl,k|⟨x,X,e,rfl,z,Z,k⟩⟩:=R;.exact q .next v k0 f L j k P r
 .obtain⟨u,p⟩:=Z;obtain⟨a,I,m⟩:=P.rel.pick z d u p;refine q .next e _ f L _ k ⟨?_,λb Z=>?_,m,P.fx⟩ r
  .have c:=P.pre;have t:S.length<=C.length:=by rw[M.len];exact g
   refine List.IsPrefix.trans ?_ (ff _ _);rw[List.prefix_take_iff];exact⟨c,t⟩
  .refine P.new b ?_;rw[oe (by rw[bI,P.rel.len,aY];omega)]at Z;rcases cZ.mp Z with Z|Z;.rw[yF]at Z;exact eJ Z
   .rw[aZ.mp Z];refine bz (i:=C.length+1-O.fz) ?_;rw[jz,#[D,Qz]];exact I
end
noncomputable def Yf:#[y]:=match en.drop 29 with|.For _ _ b _ _::_=>b|_=>[]
def bW(c:Int)(g:Nat):Nat:=1+#[fw,c/#[I,12^g],700]
theorem OX(c:Int)(g:Nat):1<=bW c g/\bW c g<=700:=by unfold bW;omega
def ep(A:Nat)(f:#[i])(k:Nat):Nat:=(2^A)^2^(k-1)+#[aa,f.getD (#[cK,f]+1) 0==40,(2^A)^2^k,1]
section
variable{B:Bs}{w:aD}{n:Nat}{d0 g0 r0:#[n]}
theorem Uu(A:Nat):bX (2^A:Nat)<=A+1:=gZ (zd #[j] (hR _))
theorem MD{A e:Nat}(N:A<=700)(a0:e<=16):#[bS,bM,.Pow,#[bz,2^A],#[U,e],#[bz,(2^A)^e]]:=St.xt (by have T:=Uu A;have E:=nc #[f] a0;omega)
theorem WV(F:#[w])(G:#[W])(a:17<=n){M:#[ae]}{f:#[i]}(E0:f.length<=15){A k:Nat}(e:A<=700)(C0:1<=k)(O0:k<=4)(a0:k<#[s,bG,f])(w0:#[s,bG,f]<=5)(y0:#[cK,f]+1<f.length){j0:#[i]}(t:j0.length<=4){f0 h0 k0 m0 o0 p0 q0 s0 t0 v0 q b d y r c i I N h n0:Ob}{E u0 g R J l0 c0 S X H r0 u P O j i0 b0 Q l U G0:#[bf]}{Y:#[o]}:#[dh,Yf,E::u0::#[v,k]::g::R::J::l0::c0::S::X::H::r0::#[cN]::#[bY]::u::P::O::j::i0::b0::Q::l::U::G0::#[v,2^A]::#[c3]::Y,[f0,h0,k0,m0,o0,p0,q0,s0,t0,v0,q,b,d,y,r,c,#[T,#[dK]],#[kB],i,I,N,h,n0,#[aN,j0]],#[fo,v=E::#[jU,u0,#[v,k],H,r0,#[cN],#[bY]::u::P::O::j::i0::b0::Q::l::U::G0::#[v,2^A]::#[c3]::Y],s=[f0,h0,k0,m0,o0,p0,q0,s0,t0,v0,q,b,d,y,r,c,#[df],#[kB],i,I,N,h,n0,#[aN,j0++[ep A f k]]]]]:=by
 have T:#[ba,ah,#[dK]]:=by simp only[ah,aQ];exact#[bG,E0]
 have I0:#[ba,(bG f).map,#[aV]]:=by rw[aQ];exact#[bG,w0]
 have F0:br ((bG f).map #[aV]) #[b4]=#[v,#[cK,f]]:=by unfold br;rw[ih (#[Y])];simp[ef,bD a0]
 have x0:∀p,p<f.length->#[gn,#[kk],p,ay (aF M) (f.getD p 0)]:=λp C=>by rw[xX _ (by rw[aQ];exact C)];simp[ef,bD C]
 have L0:=x0 _ y0;clear x0;have e0:#[fx,.Sub,k,1,k-1]:=St.iW C0;have H0:=#[hj,2,k-1];have Q0:=#[hj,2,k];have M0:2^(k-1)<=2^4:=ei #[j] #[f];have N0:2^k<=2^4:=ei #[j] #[f];have z:=MD (w:=w) (n:=n) e (e:=2^(k-1)) M0;have L:=MD (w:=w) (n:=n) e (e:=2^k) N0;have m:#[s,aK,j0]<=100:=by simp only[aK,aQ];omega
 have S0:#[ba,aK,j0]:=#[bG,m];have R0:#[s,aK,j0]<2^62:=ki m #[j];have J0:∀x:Nat,aK j0++[#[ay,x]]=aK (j0++[x]):=λx=>by simp[aK]
 have A0:=CV (kF M) (f.getD (#[cK,f]+1) 0);unfold ep;rw[<-A0,<-J0];clear A0 J0
 cases Z:(ay (aF M) (f.getD (#[cK,f]+1) 0)==[40])with
 |true=>
  rw[#[cw]];run_tac av.aJ
  exact#[cc]
 |false=>
  rw[#[c7]];run_tac av.aJ
  exact#[cc]
end
section
variable{B:Bs}{w:aD}{n:Nat}{d0 g0 r0:#[n]}
theorem WW(F:#[w])(G:#[W])(e0:17<=n){M:#[ae]}{f u:#[i]}(d1:f.length<=15){g:Nat}(h1:g<=5)(Z0:#[s,bG,f]=g)(Q0:u.length<=4)(S0:∀k∈u,1<=k/\k<g/\#[cK,f]+1<f.length){a b c d:Int}{f0 k0 m0 o0 p0 q0 s0 t0 v0 x0 A0 G0 H0 I0 J0 L0 N0 O0 Y0:Ob}{E C0 R J l0 c0 S X H r0 P O j i0 b0 Q T0 U f1 L i1:#[bf]}{Y:#[o]}:#[d6,26,5,#[iT,C0,#[v,g],H::r0::#[cN]::#[bY]::#[cz]::P::O::j::i0::b0::Q::T0::U::f1::L::i1::Y],#[ju,#[T,#[dK]]],∃u0,v=E::#[ar]::u0::#[v,g]::R::J::l0::c0::S::X::H::r0::#[cN]::#[bY]::#[cz]::P::O::j::i0::b0::Q::T0::U::#[v,bW c g]::#[v,2^bW c g]::#[c3]::Y,#[hb,#[df],#[aN,#[aa,d%#[I,2]=1,(u.map (ep (bW c g) f)).reverse,u.map (ep (bW c g) f)]]]]:=by
 have M0:=OX c g;have j1:12^g<=12^5:=ei #[j] h1;have R0:#[s,u.map,#[aV]]=u.length:=aQ ..;have U0:#[a5,(aK (u.map (ep (bW c g) f))),u.length]:=by simp[aK]
 have X0:#[cM,(aK (u.map (ep (bW c g) f)))]:=by rw[U0];exact#[bG,Q0]
 have A:#[d6,26,3,#[nN,C0,S::X::H::r0::#[cN]::#[bY]::#[cz]::P::O::j::i0::b0::Q::T0::U::f1::L::i1::Y],#[ju,#[df]],v=E::#[ar]::C0::#[v,g]::R::J::l0::c0::S::X::H::r0::#[cN]::#[bY]::#[k2,#[c3]],#[hb,#[df],.list []]]:=by
  have F0:=#[hj,12,g];have E0:=#[hj,2,bW c g];have c1:=#[lj,c,12^g,ze #[j]];have y0:=nJ (w:=w) (n:=n) (c/#[I,12^g]) (b:=700) #[f];have j0:#[fx,.Add,1,#[fw,c/#[I,12^g],700],bW c g]:=St.sr;refine#[gF,#[ay,bW c g],#[ju,#[df]],E::#[e8,#[ar],C0,#[v,g],H,r0::#[cN]::#[bY]::#[cz]::P::O::j::i0::b0::Q::T0::U::#[v,bW c g]::L::i1::Y],23,?_];.run_tac av.aJ
  refine#[gF,#[ay,2^bW c g],#[ju,#[df]],#[iT,C0,#[v,g],H::r0::#[cN]::#[bY]::#[k2,i1]],24,?_];.run_tac av.aJ
  refine#[gF,.ob 23,#[hb,#[df],.list []],#[iT,C0,#[v,g],H::r0::#[cN]::#[bY]::#[k2,#[c3]]],25,?_];.run_tac av.aJ
  exact aj.nil #[cc]
 have C:#[d6,29,1,#[nN,C0,S::X::H::r0::#[cN]::#[bY]::#[cz]::P::O::j::i0::b0::Q::T0::U::#[v,bW c g]::#[v,2^bW c g]::#[c3]::Y],#[hb,#[df],.list []],∃u0,v=#[nN,u0,S::X::H::r0::#[cN]::#[bY]::#[cz]::P::O::j::i0::b0::Q::T0::U::#[v,bW c g]::#[v,2^bW c g]::#[c3]::Y],#[hb,#[T,#[dK]],#[aN,u.map (ep (bW c g) f)]]]:=by
  show#[j2];refine#[jT,2,u.map #[aV],λs=>#[aR,s,18,u.map #[aV]],#[hb,#[df],.list []],m<=u.length/\(∃u0,v=#[iT,u0,#[v,g],H::r0::#[cN]::#[bY]::#[cz]::P::O::j::i0::b0::Q::T0::U::#[v,bW c g]::#[v,2^bW c g]::#[c3]::Y])/\s=#[hb,#[df],#[aN,(u.take m).map (ep (bW c g) f)]],ck.list (i:=18) #[aD,14] rfl,#[aA,aV _,#[bE,C0]]];.rintro k v s⟨_,⟨u0,rfl⟩,rfl⟩;exact#[aG,by simp]
  .rintro m x v s l⟨Z,⟨u0,rfl⟩,rfl⟩_ _;have a1:m<u.length:=by have:=#[V,l];rwa[R0]at this
   rw[cg,bD a1]at l;obtain rfl:x=V.int #[I,u[m]]:=(hv l).symm;obtain⟨N,a0,T⟩:=S0 _ (kg a1);refine#[j4,WV F G e0 d1 M0.2 N #[f] #[f] #[f] T (j0:=(u.take m).map (ep (bW c g) f)) (by rw[aQ,bI];omega)];obtain⟨rfl,rfl,rfl⟩:=h;refine .inl #[bN,a1,#[bu]];rw[lP a1,hr];rfl
  .rintro v s⟨_,⟨u0,rfl⟩,rfl⟩;refine#[dH,#[bN,rfl,#[bE,u0]]];rw[R0,hs]
  .exact#[dj]
 refine aj.pick (C:=#[ju,#[T,#[dK]]]) #[aJ] #[aS] λb1=>?_;refine aj.xn (ed.app (N:=0) A (λv s h=>?_) λo v s q h=>#[ac,h.1,q]);obtain⟨_,rfl,rfl⟩:=h;refine ed.app (N:=0) C (λv s h=>?_) λo v s q h=>#[ac,h.1,q];obtain⟨_,⟨u0,rfl⟩,rfl⟩:=h;refine ed.of ?_;have Z:=nJ (w:=w) (n:=n) d (b:=2) #[f];have e1:=El d (show#[I,2]≠0 by omega);have g1:=yu d (show(0:Int)<#[I,2]by omega);have w0:∀t:Bool,(#[fw,d,2]==1)=t->Et B w n bB (match en.drop 30 with|.If e _ _ _::_=>e|_=>#[mK]) (E::#[ar]::u0::#[v,g]::R::J::l0::c0::S::X::H::r0::#[cN]::#[bY]::#[k2,#[c3]]) #[kD] t #[kD]:=λt n0=>by subst n0;run_tac av.aJ
 show#[j2];by_cases h0:d%#[I,2]=1
 .refine#[ms,ae,w0 ae (by rw[h0];rfl)];rw[#[cw]];refine#[gF,.ob 24,[f0,#[dC],k0,m0,o0,p0,q0,s0,t0,v0,x0,A0,G0,H0,I0,J0,#[df],#[kB],#[gD],L0,N0,O0,Y0,#[aN,u.map (ep (bW c g) f)],#[aN,(u.map (ep (bW c g) f)).reverse]],E::#[e8,#[ar],u0,#[v,g],H,r0::#[cN]::#[bY]::#[cz]::P::O::j::i0::b0::Q::T0::U::#[v,bW c g]::#[v,2^bW c g]::#[ad,24]::Y],25,Ev.NL (k:=23) (b0:=#[kD]) (o0:=#[kD]) #[aD,25] ?_ rfl X0 (LW _) rfl rfl];.run_tac av.aJ
  refine#[dH,#[aG,.inr ⟨_,aK (u.map (ep (bW c g) f)).reverse,E::#[ar]::ab::#[v,g]::R::J::l0::c0::S::X::H::r0::#[cN]::#[bY]::#[cz]::P::O::j::i0::b0::Q::T0::U::#[v,bW c g]::#[v,2^bW c g]::#[c3]::Y,rfl,λy I=>?_,⟨b1.2,λi y e=>?_⟩,rfl,#[bE,ab],?_⟩]];.obtain⟨z,_,rfl⟩:=bK.mp I;rfl
  .have r:=b1.1;match i,e with|2,e=>cases e|23,e=>cases e;exact .inl #[aG,trivial]|24,e=>cases e;exact .inl #[aG,trivial]|25,e=>cases e;exact .inr #[bV]|0,e=>exact#[ce,0]|1,e=>exact#[ce,1]|3,e=>exact#[ce,3]|4,e=>exact#[ce,4]|5,e=>exact#[ce,5]|6,e=>exact#[ce,6]|7,e=>exact#[ce,7]|8,e=>exact#[ce,8]|9,e=>exact#[ce,9]|10,e=>exact#[ce,10]|11,e=>exact#[ce,11]|12,e=>exact#[ce,12]|13,e=>exact#[ce,13]|14,e=>exact#[ce,14]|15,e=>exact#[ce,15]|16,e=>exact#[ce,16]|17,e=>exact#[ce,17]|18,e=>exact#[ce,18]|19,e=>exact#[ce,19]|20,e=>exact#[ce,20]|21,e=>exact#[ce,21]|22,e=>exact#[ce,22]|i+26,e=>exact#[ce,i+26]
  .rw[if_pos h0];rfl
 .refine#[ms,ag,w0 ag ?_];.rw[beq_eq_false_iff_ne];omega
  rw[#[c7]];refine#[dH,#[aG,.inl #[bN,rfl,#[bE,u0]]]];rw[if_neg h0]
end
theorem Oy(f:#[ae])(h:∀k,f k<=2^k):∀m,((aR m).map f).foldl (·+·) 0<2^m|0=>QL|m+1=>by have Q:=Oy f h m;have:=h m;rw[Qn,hr,mV];show((aR m).map f).foldl _ 0+f m<_;omega
theorem Ym(o:#[g])(n:Nat):er o n<2^(n-1):=Oy _ (λk=>by
 split;.exact aP _
 .exact aV _) _
theorem JJ{S:Type}(f:S->#[i]->S):∀(q:#[g])(a:S),q.foldl f a=(aR q.length).foldl (λc m=>f c (q.getD m [])) a|[],_=>rfl|x::q,a=>by rw[cq,Qo,ee,ee,PX,JJ f q];rfl
theorem Bc(l U:#[g]):oM l U=ib l (λm=>#[iX,(bc (bf l.length U)).getD m []]) #[s,bc,bf l.length U]:=by unfold oM ib;rw[JJ]
theorem Zy(A:Nat)(l U:#[g]):cX A (nN l U)=bF ((bf l.length U).map (ep A U)):=by
 have o:∀(r c:#[g]),cX A (r.foldl (λc k=>xi c (2^(k-1)) #[aa,U.getD (#[cK,U]+1) 0==40,2^k,0]) c)=cX _ c*bF (r.map (ep _ U)):=λr=>by induction r with
 |nil=>intro c;exact(rL _).symm
 |cons k r Q=>
  intro c;rw[ee,Q,Yb,oo];congr 1;congr 1;congr 1;split;.rfl
  .exact QN _
 unfold nN;rw[o];show(0*2^A+1)*_=_;omega
theorem Jy(I:1<=A)(f:#[g])(R:1<=k):2^A<=ep A f k/\3<=ep A f k/\ep A f k<=2*(2^A)^jR f k:=by
 have G:=by have:2^1<=2^A:=ei #[j] I;exact this
 have N:=by have:(2^A)^1<=(2^A)^2^(k-1):=ei #[f] zc;rwa[Nat.pow_one]at this
 have a0:(2^A)^2^(k-1)<=(2^A)^2^k:=ei #[f] (ei #[j] #[f]);unfold ep jR;split<;>omega
theorem MH(I:1<=A)(f:#[g]):∀r:#[g],(∀k∈r,1<=k)->bF (r.map (ep A f))<=2^(r.length+A*(r.map (jR f)).foldr (·+·) 0)|[],_=>zc|k::r,h=>by show ep _ f k*bF (r.map _)<=2^(r.length+1+A*(jR f k+(r.map _).foldr _ 0));refine aI (nc ((Jy I f (h k #[bL])).2.2) (MH I f r #[ga])) ?_;rw[<-QM,hS 2,oo,<-Fg,<-kj];refine ei #[j] ?_;rw[yZ];omega
theorem Zz(h:∀f∈l,1<=f)(k m:Nat):bF ((l.drop k).take m)<=bF l:=by
 have F:bF l=bF (l.take k)*(bF ((l.drop k).take m)*bF ((l.drop k).drop m)):=by rw[<-tr,hQ,<-tr,hQ]
 rw[F];exact aI (QG _ (xu _ λf v=>h f (fI (fI v)))) (QF _ (xu _ λf v=>h f (eJ v)))
noncomputable def xg:#[y]:=match en.drop 32 with|.For _ _ b _ _::_=>b|_=>[]
theorem VY:#[f6,l.foldl (·*·) a=a*bF l]|[],a=>(rL a).symm|x::l,a=>by rw[ee,VY l];exact oo _ _ _
section
variable{B:Bs}{w:aD}{n:Nat}{d0 g0 r0:#[n]}
theorem WR(F:#[w])(G:#[W])(Z:34<=n){a b c d:Int}{I j0:#[i]}(T0:j0.length<=4){k:Nat}(M:k<j0.length){r:Nat}(a0:cV d 3 k=r)(g1:∀m,m<=j0.length->bF ((j0.drop #[u]).take m)<2^40000)(X0:∀f∈j0,f<2^40000)(h1:∀f∈j0,3<=f)(j1:#[f7,239,#[cB,#[I,#[eS]+#[jx]]],j0.getD k 0,.tup #[hG,#[jx]]]){f0 k0 m0 o0 p0 q0 s0 t0 v0 x0 A0 C0 E0 G0 H0 O0 Q0 M0 I0 J0 L0:Ob}{E g R J l0 c0 S X H r0 T C u P O j i0 b0 Q U L A p l i:#[bf]}{Y:#[o]}:#[dh,xg,E::#[ar]::#[v,k]::g::R::J::l0::c0::S::X::H::r0::T::C::u::P::O::j::i0::b0::Q::#[dx]::U::A::L::#[c3]::#[v,#[eS]]::p::l::i::Y,[f0,#[dC],k0,m0,o0,p0,q0,s0,t0,v0,x0,A0,C0,E0,G0,H0,O0,Q0,M0,I0,J0,L0,#[aN,I],#[aN,j0]],#[fo,∃R0,(∀y,R0=aa y->i=aa y\/bU y=ae)/\v=E::#[ar]::#[v,k]::g::R::J::l0::c0::S::X::H::r0::T::C::u::P::O::j::i0::b0::Q::#[dx]::U::A::L::#[c3]::#[v,#[gB]]::#[v,#[jx]]::#[v,#[gB]]::R0::Y,∃w0,s=[f0,#[dC],k0,m0,o0,p0,q0,s0,t0,v0,x0,A0,C0,E0,G0,H0,O0,Q0,M0,I0,J0,L0,#[aN,I],#[aN,j0]]++[]++([]++w0)]]:=by
 generalize e0:j0.getD k 0=f at*;have i1:j0[k]=f:=by rw[<-e0,ef,bD M];rfl
 have e1:f∈j0:=by rw[<-i1];exact kg M
 have l1:r<3:=by rw[<-a0];exact wx d #[j] k
 have o1:3^k<=3^4:=ei #[j] #[f];have F0:=#[hj,3,k];have b1:=#[lj,d,3^k,ze #[j]];have y0:#[lJ,d,3^k,3,r]:=by rw[<-a0];exact nJ _ #[f]
 have Y0:#[fx,.Sub,f,1,f-1]:=St.iW (aI #[j] (h1 f e1));have S0:br (aK j0) #[b4]=#[v,f]:=by unfold br;rw[ih (by simpa[aK]using M)];simp[aK,bD M,i1]
 have f1:br [#[dD,0],#[ay,1],#[ay,f-1]] #[I,r]=#[v,fP f r]:=by rcases(show r=0\/r=1\/r=2 by omega)with rfl|rfl|rfl<;>rfl
 have U0:#[ba,aK,j0]:=by simp only[aK,aQ];exact#[bG,T0]
 have d1:cJ (aK j0) (aa #[I,k+1]) ab=aK (j0.drop #[u]):=by rw[pw];simp[aK,uj]
 have N0:#[a5,(aK (j0.drop #[u])),#[s,j0.drop,#[u]]]:=by simp[aK]
 have a1:#[s,j0.drop,#[u]]<=j0.length:=by rw[dj];omega
 have m1:∀x:V,D.tup #[hG,fP f r]=D.atom x->bU x=ae:=λx e=>by cases e
 refine#[gF,#[ay,fP f r],[f0,#[dC],k0,m0,o0,p0,q0,s0,t0,v0,x0,A0,C0,E0,G0,H0,O0,Q0,M0,I0,J0,L0,#[aN,I],#[aN,j0],#[kv]],E::#[ar]::#[v,k]::g::R::J::l0::c0::S::X::H::r0::T::C::u::P::O::j::i0::b0::#[k5,A,#[v,#[eS]],#[v,fP f r],l,i],27,?_];.run_tac av.aJ
 refine#[gF,#[ay,1],[f0,#[dC],k0,m0,o0,p0,q0,s0,t0,v0,x0,A0,C0,E0,G0,H0,O0,Q0,M0,I0,J0,L0,#[aN,I],#[aN,j0],#[kv]],E::#[e8,#[ar],#[v,k],g,H,r0::T::C::u::P::O::j::i0::b0::Q::#[dx]::U::A::L::#[c3]::#[v,#[eS]]::#[v,fP f r]::#[v,1]::i::Y],28,?_];.run_tac av.aJ
 refine#[jT,29,aK (j0.drop #[u]),λs=>#[aR,s,25,aK (j0.drop #[u])],#[me],m<=#[s,j0.drop,#[u]]/\(∃R0,(∀y,R0=aa y->i=aa y\/bU y=ae)/\v=E::#[ar]::#[v,k]::g::R::J::l0::c0::S::X::H::r0::T::C::u::P::O::j::i0::b0::Q::#[dx]::U::A::L::#[c3]::#[v,#[eS]]::#[v,fP f r]::#[v,bF ((j0.drop #[u]).take m)]::R0::Y)/\s=#[me],ck.list (i:=25) ?_ rfl,#[aA,aV _,#[P,λy h=>.inl h]]];.run_tac av.aJ
 .rintro m v s⟨_,⟨R0,_,rfl⟩,rfl⟩;exact#[aG,by simp]
 .rintro m x v s q⟨N,⟨R0,c1,rfl⟩,rfl⟩_ _;have Z0:m<#[s,j0.drop,#[u]]:=by have:=#[V,q];rwa[N0]at this
  obtain⟨z,h0⟩:∃z,(j0.drop #[u])[m]=z:=#[bu];have n1:z∈j0:=by rw[<-h0];exact fI (kg Z0)
  obtain rfl:x=.int #[I,z]:=by unfold aK at q;rw[cg,bD Z0,h0]at q;exact(hv q).symm
  have k1:#[bS,ek,.Mult,#[be,bF ((j0.drop #[u]).take m)],#[be,z],#[be,bF ((j0.drop #[u]).take (m+1))]]:=by have h:=St.wL (w:=w) (n:=n) (tg (g1 m #[f]) (X0 z n1) #[j] #[j]);rw[lP Z0,tr,h0,show bF [z]=z from rL z];exact h
  refine Mine.W.su (B:=B) (w:=w) (n:=n) (O:=bB) (x0:=#[iT,#[v,k],g,H::r0::T::C::u::P::O::j::i0::b0::Q::#[dx]::U::A::L::#[c3]::#[v,#[eS]]::#[v,fP f r]::#[v,bF ((j0.drop #[u]).take (m+1))]::#[v,z]::Y]) 28 rfl #[aD,29] k1.up rfl #[aU] #[aS] rfl ?_;exact aj.nil (.inl #[aA,Z0,#[P,λy h=>.inr (by cases h;rfl)]])
 .rintro v s⟨_,⟨R0,c1,rfl⟩,rfl⟩;rw[N0,hs]
  have u0:∀t,t=(#[iT,#[v,k],g,H::r0::T::C::u::P::O::j::i0::b0::Q::#[dx]::U::A::L::#[c3]::#[v,#[eS]]::#[v,fP f r]::#[v,#[gB]]::R0::Y])->Et B w n bB (match xg.drop 3 with|.If e _ _ _::_=>e|_=>#[mK]) t #[me] ag [f0,#[dC],k0,m0,o0,p0,q0,s0,t0,v0,x0,A0,C0,E0,G0,H0,O0,Q0,M0,I0,J0,L0,#[aN,I],#[aN,j0],#[kv],#[aN,j0.drop #[u]],.tup #[hG,fP f r],.tup #[hG,fP f r]]:=λt n0=>by
   subst n0;refine Et.hD (b0:=[f0,#[dC],k0,m0,o0,p0,q0,s0,t0,v0,x0,A0,C0,E0,G0,H0,O0,Q0,M0,I0,J0,L0,#[aN,I],#[aN,j0],#[kv],#[aN,j0.drop #[u]],.tup #[hG,fP f r]]) (x:=.ob 26) (y:=.ob 27) ?_ ?_ (St.Ta (X:=#[hG,fP f r]) rfl rfl rfl) (by rfl);.run_tac av.aJ
   .run_tac av.aJ
  refine aj.nil ?_;show#[dh,xg.drop 3,_,_,_];refine#[ms,ag,u0 _ rfl];rw[#[c7]];refine aj.nil ?_;show#[dh,xg.drop 4,_,_,_];refine Mine.W.set (B:=B) (w:=w) (n:=n) (O:=bB) (v:=#[ay,#[gB]]) (x0:=E::#[jU,#[ar],#[v,k],H,r0,T,C::u::P::O::j::i0::b0::#[k5,A,#[v,#[gB]],#[v,fP f r],#[v,#[gB]],R0]]) 26 #[aD,28] rfl #[aU] #[aS] #[am] rfl ?_;exact aj.nil ⟨rfl,#[aA,R0,c1],[_,_,_,_],rfl⟩
 .exact#[dj]
end
section
variable{B:Bs}{w:aD}{n:Nat}{d0 g0 r0:#[n]}
theorem Xa(F:#[w])(G:#[W])(Z:34<=n){a b c d:Int}{I j0:#[i]}(R0:j0.length<=4){A:Nat}(b1:∀k m,bF ((j0.drop k).take m)<2^40000)(S0:∀f∈j0,f<2^40000)(c1:∀f∈j0,3<=f)(U0:I.length<=16)(f1:#[f7,232,#[aN,I],A,.atom (.int #[I,bF j0])])(j1:∀k r,k<j0.length->#[f7,239,#[cB,#[I,#[eS]+#[jx]]],j0.getD k 0,.tup #[hG,#[jx]]]){f0 k0 m0 o0 p0 q0 s0 t0 v0 u0 x0 y0 A0 E0 F0 N0 O0 L0 G0 I0 J0:Ob}{E C0 g R J l0 c0 S X H r0 T C u P O j i0 b0 Q U L:#[bf]}{Y:#[o]}{h0:#[hm]}(H0:#[nj]):#[dh,en.drop 31,E::#[e8,#[ar],C0,g,H,r0::T::C::u::P::O::j::i0::b0::Q::#[dx]::U::#[v,A]::L::#[c3]::ab::ab::ab::ab::Y],#[hh],h0]:=by
 have T0:#[jY,.int,#[I,bF j0]]:=#[kr];have h1:∀l:#[i],#[fk,aK l]:=λl x p=>by obtain⟨z,_,rfl⟩:=bK.mp p;rfl
 have d1:=h1 I;have M0:#[s,(aR j0.length).map,#[cR]]=j0.length:=by rw[aQ,gz]
 have g1:#[s,aK,j0]=j0.length:=by simp[aK]
 have i1:∀t,t=(E::#[ar]::C0::g::R::J::l0::c0::S::X::H::r0::T::C::u::P::O::j::i0::b0::Q::#[dx]::U::#[v,A]::L::#[c3]::ab::ab::ab::ab::Y)->Ev B w n bB (match en.drop 31 with|.Assign _ e _::_=>e|_=>#[mK]) t #[hh] #[be,bF j0] #[hh]:=λt n0=>by subst n0;run_tac av.aJ
 refine#[gF,#[ay,bF j0],#[hh],E::#[jU,#[ar],C0,H,r0,T,C::u::P::O::j::i0::b0::#[k5,#[v,A],#[v,bF j0],ab,ab,ab]],26,i1 _ rfl];refine#[jT,2,(aR j0.length).map #[cR],λ_=>True,#[hh],(∃e0 e1 a1 Q0,(∀y,Q0=aa y->bU y=ae)/\v=E::#[ar]::e0::g::R::J::l0::c0::S::X::H::r0::T::C::u::P::O::j::i0::b0::#[k5,#[v,A],#[v,bF (j0.drop m)],e1,a1,Q0])/\s=#[hh],?_,#[bE,⟨C0,ab,ab,ab,λ_ h=>(nomatch h),rfl⟩]]
 .have a0:#[ba,aK,j0]:=by rw[g1];exact#[bG,R0]
  rw[<-g1];run_tac av.aJ
  all_goals first|exact ki (aI (eK g1) R0) #[ap,(4:Nat)<2^62]|exact ki R0 #[ap,(4:Nat)<2^62]|rw[g1]
 .rintro k v s⟨⟨e0,e1,a1,Q0,_,rfl⟩,rfl⟩;exact#[gs,by simp]
 .rintro m x v s p⟨⟨e0,e1,a1,Q0,Z0,rfl⟩,rfl⟩X0 _;rw[cg]at p;obtain⟨q,Y0,rfl⟩:=dW.mp p;have N:m<j0.length:=by have:=#[V,Y0];simpa using this
  obtain rfl:q=m:=by rw[rE N]at Y0;exact(hv Y0).symm
  refine#[j4,WR F G Z R0 N (r:=cV d 3 q) rfl (λm _=>b1 (q+1) m) S0 c1 (j1 q _ N) (I:=I) (E:=E) (g:=g) (R:=R) (J:=J) (l0:=l0) (c0:=c0) (S:=S) (X:=X) (H:=H) (r0:=r0) (T:=T) (C:=C) (u:=u) (P:=P) (O:=O) (j:=j) (i0:=i0) (b0:=b0) (Q:=Q) (U:=U) (L:=L) (A:=#[v,A]) (p:=e1) (l:=a1) (i:=Q0) (Y:=Y)];obtain⟨rfl,⟨l1,k1,rfl⟩,w0,rfl⟩:=h;refine .inr #[du,24,aP _,vT (A:=#[hh]) (g:=[]) (l:=[]) (v0:=[]) (w0:=w0) X0 #[aS] rfl #[aO] (#[c1]),⟨_,_,_,l1,λy M=>(k1 y M).elim (Z0 y) id,rfl⟩];match i,e with|0,e=>exact#[J]|1,e=>exact#[J]|2,e=>exact#[gX]|3,e=>exact#[J]|4,e=>exact#[J]|5,e=>exact#[J]|6,e=>exact#[J]|7,e=>exact#[J]|8,e=>exact#[J]|9,e=>exact#[J]|10,e=>exact#[J]|11,e=>exact#[J]|12,e=>exact#[J]|13,e=>exact#[J]|14,e=>exact#[J]|15,e=>exact#[J]|16,e=>exact#[J]|17,e=>exact#[J]|18,e=>exact#[J]|19,e=>exact#[J]|20,e=>exact#[J]|21,e=>exact#[J]|22,e=>exact#[J]|23,e=>exact#[J]|24,e=>exact#[J]|25,e=>exact#[J]|26,e=>exact#[gX]|27,e=>exact#[gX]|28,e=>exact#[gX]|29,e=>exact .inr ((k1 x (hv e)).elim (Z0 x) id)|i+30,e=>exact#[J]
 .rintro v s⟨⟨e0,e1,a1,Q0,_,rfl⟩,rfl⟩;exact aj.nil (aj.ret Ev.AL (H0 _ _))
 .exact#[dj]
end
structure yx(B:Bs)(w:aD)(n:Nat)(d0 g0 r0:#[n]):Prop where
 F:#[w]
 G:#[W]
 Lx:fs B r0
 hn:34<=n
 sp:bb B 314 tC 2 vC
 lo:cb B 309
 XS:∀i:Tx,i.length<=2^20->#[mx,i,i]
 tree:∀(M:#[ae])(L:#[i]),#[go]->L.Nodup->(#[kd])->Fn B w n 319 [#[T,#[eG]]] #[je,#[au].map]
 Vm:∀(M:#[ae])(L H:#[i]),#[go]->L.Nodup->(#[kd])->H.length<=1000->#[lv,H.map,#[je,#[jt,H].map]]
 aen:∀(M:#[ae])(f0:#[i])(p:Nat),(#[dF,f0])->1<=p->p<f0.length->f0.length<=30->eb (f0.getD p 0)=ag->Fn B w n 324 [#[T,f0.map #[b5]],#[cB,(p:Nat)]] #[je,(mI f0 p).map]
 fi:∀a:Tx,a.length<=3000->#[s,dK,a]<=3000->Fn B w n 260 #[hc,a] (.atom (.bool (fi #[hT] #[bh])))
 strip:∀a:Tx,a.length<=3000->#[l8,253,#[c0,dK,a]]
 Va:∀(A:Nat)(o:#[i]),A<=8000->(∀d∈o,d<2^8000)->o.length<=30->#[f7,232,#[aN,o],A,.atom (.int #[I,cX A o])]
 dm:∀a b:Nat,0<b->bX (b:Int)<=6000->(bX (a:Int)+bX (b:Int)-1)/bX (b:Int)<=30->#[f7,239,#[cB,#[I,a]],b,.tup [#[ay,a/b],#[ay,a%b]]]
theorem abh:∀{l:#[i]},(∀y∈l,y<=m)->v<=m->x∈l.set k v->x<=m:=λh p z=>by
 obtain N|rfl:=List.mem_or_eq_of_mem_set z;.exact h x N
 .exact p
theorem AZ(L:#[g])(l:Nat->#[g]):∀k,∀x∈ib L l k,x<=k
 |0,x,h=>by rw[List.eq_of_mem_replicate h];exact aP _
 |k+1,x,h=>by
  rw[Bb]at h;refine abh (λy m=>eO (AZ L _ k y m)) (Nat.succ_le_succ ?_) h;by_cases P:er ((l k).filter #[gx]) L.length<(ib L l k).length;.rw[ef,bD P];exact AZ L _ k _ (kg _)
  .rw[ef,rD (Nat.le_of_not_lt P)];exact aV _
theorem Lw{S:Type}(f:#[i]->S):∀q:#[g],q.map f=(aR q.length).map λm=>f (q.getD m [])|[]=>rfl|x::q=>by rw[cq,Qo,dk,dk,gA,Lw f q];rfl
theorem vF:∀(l:#[g])(o d:Int),0<d->cR l o=ae->cR l (o+d)=ag
 |[],o,d,c,h=>by have:=beq_iff_eq.mp h;show(o+d==0)=ag;rw[beq_eq_false_iff_ne];omega
 |t::r,o,d,c,h=>by have c0:(#[lT,cR r _,o-#[bg]<(0:Nat),cR r _,cR r o])=ae:=h;show(#[lT,cR r _,o+d-#[bg]<0,cR r _,cR r _])=ag;cases F:t==40 with
 |true=>rw[F]at c0;rw[show o+d+#[bg]=o+#[bg]+d by omega];exact vF r _ d c c0
 |false=>rw[F]at c0;rw[#[c7]];cases a:t==41 with
 |true=>
  rw[a]at c0;rw[#[cw]];by_cases J:o-#[bg]<(0:Nat);.rw[if_pos J]at c0;cases c0
  .rw[if_neg J]at c0;split;.rfl
   .rw[show o+d-#[bg]=o-#[bg]+d by omega];exact vF r _ d c c0
 |false=>rw[a]at c0;exact vF r o d c c0
section
variable{B:Bs}{w:aD}{n:Nat}{O:Gm}{d0 g0 r0:#[n]}{U:#[o]}{H:#[l]}{h0:#[al]}
theorem aj.cutAt{j:#[g]}(i k:Nat)(A:#[cE,(j.drop i).take k,U,H,d])(g:∀o v s,d o v s->o=.next)(Y:∀v s,d .next v s->#[cE,j.drop (i+k),v,s,h0]):#[hf,j.drop i]:=by rw[(by rw[<-kJ];exact(hQ k _).symm:j.drop i=(j.drop i).take k++j.drop _)];exact aj.xn (ed.app A (λv s h=>ed.of (Y v s h)) λo v s N h=>#[ac,g o v s h,N])
theorem Xd(C:yx B w n d0 g0 r0){a b c d:Int}{M:#[ae]}{L:#[i]}(y:#[go])(Z0:4<=L.length)(g:sl L)(P:Ae L){T:Tx}(H0:#[iB])(N0:cC (gF L.length T)=(#[gw],[]))(Z:#[nj]){j u i:#[B]}{G0 I f0 q0 w1 i1 v1 v0:#[bf]}:#[dh,en.drop 19,[#[bi],#[ar],G0,#[hX],I,#[ad,2],#[ad,3],#[K,T],f0,q0,#[bH],#[ad,14],#[cN],#[bY],#[cz],w1,i1,v1,#[cZ],v0,ab,ab,ab,ab,ab,ab,ab,ab,ab,ab,ab,ab,ab,ab,ab,ab,ab,ab,ab,ab,ab,ab,ab],[#[bQ,j],#[dC],.list u,#[T,#[eG]],.list i]++#[cA,L.length].map (aX 5)++[#[fR,#[eG]],#[T,#[au].map #[b5]],.list [],#[T,#[au].map #[b5]],#[bk,(bG #[au]).map,#[aV]],#[bk,#[a4].map,#[aV]],.list (#[a4].map #[aV]).reverse,#[T,(aR #[fQ]).map #[h7]]],h0]:=by
 have Y:=C.hn;have I0:#[s,bc,#[a4]]=2^#[a4].length:=xv _
 have b0:#[aX,#[a4],4]:=by
  have H:0∉#[a4]:=λh=>#[ac,(g.inner 0 h).1,#[j]];have p0:#[a4].Sublist (aR L.length):=EF
  have J:#[a4].length<L.length\/#[a4]=aR L.length:=by
   rcases gk #[a4].length L.length with h|h;.exact .inl h
   .exact .inr (p0.eq_of_length_le (by rw[gz];exact h))
  rcases J with h|h;.omega
  .exact absurd (by rw[h];exact#[D,eN.mpr]) H
 have b1:#[s,bc,#[a4]]<=16:=by rw[I0];exact ei #[j] b0
 have x0:1<=#[fQ]:=by rw[I0];exact zc
 have p1:∀m,m<#[fQ]->(bc (bf L.length #[au])).getD m []∈(bc (bf L.length #[au])):=λm q=>by rw[ef,bD q];exact kg q
 have Q:#[aX,#[lM],16]:=by simp only[ah,aQ,gz];exact b1
 have i0:(bc (bf L.length #[au])).getD 0 []=[]:=by rw[P.mask 0 x0];unfold mw;simp
 have k1:#[lM][0]?=aa (.str (aU M #[au])):=by simp only[ah,gA];rw[cg,rE x0];show aa (V.str (aU M #[jt,(bc (bf L.length #[au])).getD 0 []]))=_;rw[i0]
 have l1:br #[lM] #[bh]=#[K,aU M #[au]]:=by unfold br;rw[ih (by simp only[ah,aQ,gz];exact x0)];exact k1
 have R0:=g.len;have n1:=p1 0 x0;rw[i0]at n1;have F:=P.ok [] n1;have j1:∀t∈#[au],t≠32:=λt h e=>by rcases F t h with h|h|h<;>omega
 have U0:#[dF,#[iM]]:=λt h=>by
  rcases NX _ t h with h|h;.rcases F t h with h|h|h<;>exact⟨by omega,by omega⟩
  .exact⟨by omega,by omega⟩
 have t0:#[s,gG,#[au]]<=30:=aI (NW _) #[f];have J0:=OJ M #[au] j1;have d1:∀l:#[i],l.length<=32->l.length*64<=3000:=λl h=>by omega
 have g1:∀l:#[i],(#[dF,l])->fi #[di,dK (bj [] #[jh,l.map])] #[bh]=cR l #[bh]:=λl h=>Mb (iR M) l h;have X0:cR (gG #[au]) #[bh]=ae:=by have:=HB #[au] [] #[bh];rw[gy,gy]at this;rw[this];exact g.Ur
 have m0:∀l:#[i],(#[dF,l])->l.length<=32->(bj [] #[jh,l.map]).length<=3000/\#[s,dK,bj [] #[jh,l.map]]<=3000:=λl h a0=>⟨aI (wU _ l) (d1 l a0),by rw[xZ _ l h];exact aI (AB _ l) (d1 l a0)⟩;have q1:([40]++aU M #[au]:Tx)=bj [] #[jh,(40::#[iM]).map]:=by rw[J0,dk,jq];rfl
 have r1:([41]++aU M #[au]++[40]:Tx)=bj [] #[jh,(41::#[iM]++[40]).map]:=by rw[J0];show _=bj [] (ay (aF (iR M)) 41::(#[iM]++[40]).map (ay (aF (iR M))));rw[jq,hr,jV,jV,List.flatten_append];rfl
 have s1:#[dF,40::#[iM]]:=λt h=>by
  rcases bg.mp h with rfl|h;.exact⟨by decide,by decide⟩
  .exact U0 t h
 have t1:#[dF,41::#[iM]++[40]]:=λt h=>by
  rcases cZ.mp h with h|h
  .rcases bg.mp h with rfl|h;.exact⟨by decide,by decide⟩
   .exact U0 t h
  .rw[aZ.mp h];exact⟨by decide,by decide⟩
 have o0:#[aX,(aU M #[au]),2000]:=by rw[J0];exact aI (wU _ _) #[f]
 refine#[n1,19,WU C.F C.G C.Lx #[f] H0 N0];obtain⟨_,rfl,rfl⟩:=h;refine#[fr,20,1,WN C.F C.G #[hF,8] o0 Q l1 (c:=λa=>fi #[hT] #[bh]) (P:=λa=>a.length<=3000/\#[s,dK,a]<=3000) (λa h=>C.fi a h.1 h.2) ?_ ?_ ?_ ?_];.rw[J0];exact m0 _ U0 #[f]
 .rw[q1];exact m0 _ s1 (by rw[cq];omega)
 .show fi #[di,dK (aU M #[au])] #[bh]=ae;rw[J0,g1 _ U0,X0]
 .show fi #[di,dK ([40]++aU M #[au])] #[bh]=ag;rw[q1,g1 _ s1];exact vF _ _ _ #[j] X0
 obtain⟨_,rfl,rfl⟩:=h;have h1:#[aX,(cK #[eK] 0 (aU M #[au])),2000]:=by rw[J0,DJ _ _ U0];exact aI (wU _ _) #[f]
 have E:cK #[fX] 0 (cK #[eK] 0 (aU M #[au]))=bj [] ((gG #[au]).map (eL (iR M))):=by rw[J0];exact adm _ _ U0
 have e1:#[aX,(bj [] ((gG #[au]).map (eL (iR M)))),2000]:=aI (AB _ _) #[f];refine#[n1,21,WJ C.F C.G o0 Q k1 E h1];obtain⟨_,rfl,rfl⟩:=h;refine#[fr,22,2,Xf C.F C.G o0 e1 Q l1 (c:=λa=>fi #[hT] #[bh]) (h:=dK) (P:=λa=>a.length<=3000/\#[s,dK,a]<=3000) (Q:=λa=>a.length<=3000) (λa h=>C.fi a h.1 h.2) (λa h=>C.strip a h) ?_ ?_ ?_ ?_ ?_ ?_];.rw[r1];exact m0 _ t1 (by rw[aY,cq];simp;omega)
 .exact#[bG,o0]
 .rw[aY];exact aI (Nat.add_le_add_right o0 1) #[j]
 .show fi #[di,dK ([41]++aU M #[au]++[40])] #[bh]=ag;rw[r1,g1 _ t1];rfl
 .rw[J0];exact xZ _ _ U0
 .rw[J0];exact adp _ _ U0
 obtain⟨_,rfl,rfl⟩:=h;refine#[fr,24,2,WQ C.F C.G #[f] #[f] y (l:=λm=>az L.length L 0 #[mM]) b1 (λm q=>?_) ?_];.have S0:=p1 m q;have o:=P.len _ S0;exact⟨by omega,λe=>by rw[e]at o;simp at o;omega,P.ok _ S0,P.lets _ S0,Ym _ _⟩
 .rfl
 obtain⟨_,⟨L0,M0,rfl⟩,rfl⟩:=h;rw[<-Bc];have k0:∀k∈#[a4],1<=k/\k<L.length/\#[cK,#[au]]+1<#[au].length:=λk R=>by have N:=(g.inner k R).1;have a0:k<L.length:=eN.mp (jA.mp R).1;exact⟨N,a0,(g.place _ (mu (by rw[g.tL];exact a0))).2⟩
 have X:=OX c L.length;refine#[fr,26,5,WW C.F C.G #[f] (f:=#[au]) (u:=#[a4]) (g:=L.length) #[f] y g.tL b0 k0];obtain⟨_,⟨f1,rfl⟩,rfl⟩:=h;have m1:∀f∈#[a4].map (ep #[jd] #[au]),2^#[fI]<=f/\3<=f/\f<2^5602:=λf A=>by obtain⟨k,R,rfl⟩:=bK.mp A;obtain⟨N,a0⟩:=g.inner k R;obtain⟨S,e0,E0⟩:=Jy X.1 #[au] N;refine⟨S,e0,ki E0 ?_⟩;rw[<-QM,<-Fg];refine zd #[j] ?_;have:#[fI]*jR #[au] k<=700*8:=nc X.2 a0;omega
 have a1:bF (#[a4].map (ep #[jd] #[au]))<=2^(4+15*#[fI]):=by refine aI (MH X.1 #[au] _ λk R=>(g.inner k R).1) (ei #[j] ?_);have:#[fI]*(#[a4].map (jR #[au])).foldr (·+·) 0<=#[fI]*15:=QJ _ g.Vd;omega
 generalize O0:#[aa,d%#[I,2]=1,(#[a4].map (ep #[jd] #[au])).reverse,#[a4].map (ep #[jd] #[au])]=j0
 have T0:bF j0=bF (#[a4].map (ep #[jd] #[au])):=by
  rw[<-O0];split;.exact MG _
  .rfl
 have Y0:∀f∈j0,2^#[fI]<=f/\3<=f/\f<2^5602:=λf A=>by
  rw[<-O0]at A;split at A;.exact m1 f (rF.mp A)
  .exact m1 f A
 have n0:j0.length<=4:=by
  rw[<-O0];split;.rw[uh,aQ];exact b0
  .rw[aQ];exact b0
 have A0:cX (bW c L.length) (oM L #[au])=bF j0:=by rw[g.counts,Yd,Zy,T0]
 rw[<-T0]at a1;have u1:#[aX,(oM L #[au]),16]:=by rw[Bc,Ba];exact ei #[j] (show L.length-1<=4 by omega)
 have o1:∀k m,bF ((j0.drop k).take m)<=bF j0:=Zz λf A=>aI #[j] (Y0 f A).2.1;refine Xa C.F C.G Y n0 (λk m=>ki (aI (o1 k m) a1) (zd #[j] #[f])) (λf A=>jD (Y0 f A).2.2 (zd #[j] #[j])) (λf A=>(Y0 f A).2.1) u1 ?_ (λk r R=>?_) Z
 .have:=C.Va #[jd] (oM L #[au]) #[f] (λx z=>?_) #[f];.rw[A0]at this;exact this
  .refine ki (?_:x<=16) (ey #[ap,16<2^5] (ei #[j] #[j]));rw[Bc]at z;exact aI (AZ _ _ _ x z) b1
 .have c1:j0.getD k 0=j0[k]:=by rw[ef,bD R];rfl
  obtain⟨c0,w0,F0⟩:=Y0 _ (kg R);have y0:=Zx R;have C0:1<=#[gB]:=xu _ λf A=>ey #[j] (Y0 f (fI A)).2.1;have Q0:=ZZ w0 r;have l0:#[eS]<=bF j0:=by have:=o1 k j0.length;rwa[iG (by rw[dj];omega)]at this
  rw[c1];generalize j0[k]=f at*;have x1:f<=#[eS]:=by rw[y0];exact QG _ C0
  obtain⟨S,e0,E0⟩:=Cq (b:=f) (f:=bX #[I,f]) #[f] rfl;have y1:#[fI]<bX #[I,f]:=(Nat.pow_lt_pow_iff_right #[j]).mp (ki c0 S);have u0:=gZ F0;have s0:bX #[I,#[eS]+fP f r]<=5+15*#[fI]:=gZ (by rw[show 5+15*#[fI]=(4+15*#[fI])+1 by omega,pT];omega);have O:=C.dm (#[eS]+fP f r) f #[f] #[f] (Nat.div_le_of_le_mul #[f]);obtain⟨U,G⟩:=Vg (p:=#[gB]) Q0;rw[<-y0]at U G;rw[U,G]at O;exact O
end
theorem ON(h:#[cL]):#[hV,(fa l k)]:=by unfold fa;simp only[aY,aQ,bI,dj,cq,eI];omega
theorem Bj:∀(f:Nat)(l:#[g])(p:Nat)(H:#[g]),l.length<=f->#[a5,(az f l p H),3*l.length]
 |0,l,p,H,h=>by obtain rfl:=om.mp (EW.mp h);rfl
 |f+1,l,p,H,h=>by cases l with
 |nil=>rfl
 |cons x l=>
  have R:=rd (l:=x::l) #[z]
  have b:#[hU,#[aa,H.contains (p+bp (x::l)),fa (x::l) (bp (x::l)),x::l],(x::l)]:=by
   split;.exact ON R
   .rfl
  show#[a5,([40]++az f _ p _++[_]++az f _ _ _++[41]),_];generalize#[aa,H.contains _,fa _ _,x::l]=r at*;generalize bp _=k at*;rw[<-b]at R h⊢;simp only[aY,(Bj f (r.take k) p _ (by rw[bI];omega)),Bj f (r.drop #[u]) _ _ (by rw[dj];omega),bI,dj,cq,eI];omega
theorem OL:∀(r:#[g]),nU l U r=ae->∀(i:Nat)(P:i<r.length),∀H∈bc (r.drop (i+1)),mI #[e4] ((bG U).getD r[i] 0)=#[iX,r[i]::H]|[],_,i,P,_,_=>#[ac,P,Ff _]|k::r,h,i,P,H,n0=>by have c0:(nU l _ r&&(bc r).all λH=>mI _ _==az _ l 0 _)=ae:=h;rw[fF]at c0;cases i with|zero=>exact beq_iff_eq.mp (fe.mp c0.2 _ n0)|succ i=>exact OL r c0.1 i _ _ n0
theorem YB:∀r:#[g],[]∈bc r|[]=>.head _|k::r=>MJ (YB r)
theorem Wp(M:sl L)(z:4<=L.length)(y:#[go]):#[aX,#[a4],4]:=by
 have f:#[a4].Sublist _:=EF;obtain h|h:=gk #[a4].length L.length;.omega
 .exact absurd (by rw[f.eq_of_length_le (by rw[gz];exact h)];exact#[D,eN.mpr]) (λh=>#[ac,(M.inner 0 h).1,#[j]])
theorem alh(h:H∈bc r):k::H∈bc (k::r):=EK.mpr #[aw,h,.tail _ #[bL]]
section
variable{B:Bs}{w:aD}{n:Nat}{d0 g0 r0:#[n]}{h0:#[al]}
theorem WH(C:yx B w n d0 g0 r0){J:List Int}(r:J.length<=63)(G:#[nj]):#[dh,en,[#[bi]]++cO 42 ab,[#[bk,J.map,V.int]],h0]:=by
 have Y:=C.hn;show#[dh,en.drop 0,_,_,_];refine aj.cutAt 0 2 (WG C.F C.G r) (λ_ _ _ h=>h.1) (λv s h=>?_);obtain⟨_,q,g,E,rfl,rfl⟩:=h;obtain⟨a,b,c,d,rfl⟩:∃a b c d,g=[a,b,c,d]:=by match g,E with|[a,b,c,d],_=>exact#[du,a,b,c,d]
 refine#[fr,2,6,WI C.F C.G #[hF,11] C.sp #[f] a b c d q];obtain⟨_,G0,A,U,c0,u,rfl,rfl⟩:=h;obtain⟨f,F⟩:=Cb a;obtain⟨N,k0⟩:=KL a;have I:=wW a;rw[<-KJ a]at I⊢;have v0:∀k,cV c 12 k<12:=λk=>wx c #[j] k;have i0:=AF (dI a b) (cV c 12) 0 (gE a);generalize dI a b=M at*;generalize gE a=L at*;generalize cV c 12=O at*;have n0:#[aX,([9,10]++eP M O 0 L),1000]:=by rw[aY];show 2+_<=_;omega
 refine#[fr,8,2,WK C.F C.G #[hF,10] C.lo C.XS #[f] a b c d n0];obtain⟨_,rfl,rfl⟩:=h;have m0:=aab M O v0 (MB k0) (iT d);have u0:=IP (iT d);obtain⟨T,y⟩:∃T,T=#[iP,O]++jk (iT d):=#[bu];have f0:#[iB]:=by rw[y,aY];omega
 rw[<-y]at m0⊢;have q0:dz 1 T []=cu T 0 []:=by show _=dz (#[gP]-T.count 10) T [];rw[Nat.add_sub_cancel]
 rw[q0];have Z:#[f0,L]:=λx z=>by have:=k0 x z;omega
 have F0:=C.tree M L I.2 N k0;have A0:=λH h=>C.Vm M L H I.2 N k0 h;refine#[fr,10,5,WT C.F C.G C.Lx #[f] #[hF,12] #[hF,14] v0 f (MB k0) Z N I.2 I.1 y f0 F0 (A0 [] #[j])];obtain⟨_,rfl,rfl⟩:=h;have o0:=f.len;refine#[n1,15,WZ C.F C.G C.Lx #[f] #[f]];obtain⟨_,rfl,rfl⟩:=h;have j0:#[s,bc,#[a4]]=2^#[a4].length:=xv _;have S:#[aX,#[a4],4]:=Wp f I.1 I.2;have s0:#[s,bc,#[a4]]<=16:=by rw[j0];exact ei #[j] S
 have E0:#[ba,(bG #[au]).map,#[aV]]:=by rw[aQ,f.tL];exact#[bG,I.2]
 have y0:∀H,#[aX,#[jt,H],15]:=λH=>by rw[Bj _ _ _ _ #[aJ]];omega
 have b0:∀k∈#[a4],k<L.length:=λk R=>eN.mp (jA.mp R).1;refine#[fr,16,1,Xg C.F C.G C.Lx #[f] #[hF,13] (n0:=λH=>az L.length L 0 H) S y0 E0 λi P=>?_]
 .have R:=b0 _ (kg P);have a0:#[a4][i]<#[s,bG,#[au]]:=by rw[f.tL];exact R
  have e0:=mu a0;obtain⟨w0,C0⟩:=f.place _ e0;refine⟨(bG #[au]).getD #[a4][i] 0,?_,λH n0=>?_⟩;.unfold br;rw[ih (by simpa using a0)];simp[ef,bD a0]
  .have x0:=MI _ _ n0;have j:=F.len _ x0;have o:=F.ok _ x0;refine#[bN,λe=>by rw[e]at j;simp at j;omega,o];have:=C.aen M #[jt,H] ((bG #[au]).getD #[a4][i] 0) (λt h=>by rcases o t h with h|h|h<;>exact⟨by omega,by omega⟩) w0 #[f] #[f] (F.ach _ x0 _ e0);rw[OL _ f.aer i P H n0]at this;exact this
 obtain⟨_,⟨t0,L0,l0,rfl⟩,rfl⟩:=h;rw[Lw (λH=>aU M #[jt,H]) (bc #[a4])];have X:#[s,(aR #[fQ]).map,#[h7]]=#[fQ]:=by rw[aQ,gz]
 rw[show(2^#[a4].length:Nat)=#[s,(aR #[fQ]).map,#[h7]]by rw[X,j0]];refine#[fr,17,1,WM C.F C.G C.Lx #[f] (l:=((aR #[fQ]).map #[h7])) (by rw[X];exact s0) #[am] #[am] #[am] #[am] #[am] #[am] #[am] #[am] #[am] #[am] #[am]];obtain⟨_,rfl,rfl⟩:=h;have Q:#[a5,#[lM],#[s,(aR #[fQ]).map,#[h7]]]:=by simp[ah]
 rw[<-Q];refine#[fr,18,1,Xc C.F C.G #[f] #[hF,14] (M:=M) (L:=L) (u:=#[a4]) (l:=λm=>az L.length L 0 #[mM]) I.2 S (r:=ah ((aR #[fQ]).map #[h7])) (by rw[Q,X];exact s0) (λm=>y0 _) (λm l=>?_) ?_]
 .rw[Q,X]at l;constructor;.unfold br;rw[ih (by rw[Q,X];exact l)];simp[ah,l]
  .rw[F.mask m l];refine A0 _ ?_;unfold mw;rw[aQ];refine aI (ug _ _) ?_;rw[gz];omega
 .rfl
 obtain⟨_,⟨p0,rfl⟩,rfl⟩:=h;exact Xd C I.2 I.1 f F f0 m0 G
end
section
open Lean Meta Elab Tactic
namespace Z
def Wj:il Unit:=do
 let l0:=`Mine.hdz
 Term.withDeclName l0 do
  let o<-dN (<-PG (<-`((Rv).Holds)));let g<-yC o;let m<-PE g.mvarId! (PF (FQ (<-`(tactic|(w_on;o_law;z_head;(case hw=>w_witness2))))))
  let[X]:=m|throwError"head"
  let T<-dN (<-X.getType)
  let H<-pJ `walk T λh=>do
   X.assign h;pI #[h] (<-dN g)
  addDecl (.thmDecl {name:=l0,levelParams:=[],type:=<-mkArrow T o,value:=H})
end Z
theorem hd0:True:=by
 run_tac Z.Wj
 trivial
end
def HZ(h:bo)(P:iK):Prop:=∀(a:ao)(o:cp),(hdz.heap_328 P).lookup a=aa o->#[cq]
noncomputable def bE(P:iK)(a:ao):cp:=((hdz.heap_328 P).lookup a).getD default
noncomputable def dS(P:iK)(a:ao):gN:=match#[aT,a]with|.func f0=>f0|_=>default
def fW:lX->#[bb]|.fields Y=>Y|_=>#[]
def rk:#[bT]->gn|aa (.str _ t)=>t|_=>0
def kd:#[t]:=[220,227,321,326,304,304,162,169]
noncomputable def B0(h:bo)(c0:ao):Bs:={heap:=h,fl:=[qY 224 220,tG 231 227,ra 323 321,xQ 328 326,nQ 308 304,nP 308 304,qZ 166 162,qX 173 169],lo:=c0}
theorem gv{c0 a:ao}(e:kd.contains a=ag):a∉#[bD].tabs:=λl=>by have:kd.contains a=ae:=EC.mpr l;grind
noncomputable def qE(P:iK)(f c:ao):=((hdz.heap_328 P).lookup f,#[aT,f],(bE P f).cls,#[ei].scope,#[ei].body,#[ei].globals,#[ei].builtins,#[ei].code,(hdz.heap_328 P).lookup c,#[aT,c])
noncomputable def qD(P:iK)(f c:ao)(j0:bt)(r0:#[y]):#[a2,cp]×lX×ai×bt×uK×ao×ao×ai×#[a2,cp]×lX:=(aa (bE P f),.func (dS P f),.type "function",j0,.stmts r0,el,cU,.ref c,aa (bE P c),.fields (fW #[aT,c]))
section
variable{h:bo}{P:iK}{c0:ao}
theorem HZ.at_(J:#[af])(e:#[hY,a,bE P a]):#[bv,a,bE P a]:=J a _ e
theorem jW{p:#[L]->Prop}(h:∀a,p [a]):#[iy,1]:=λZ e=>match Z,e with|[_],_=>h _
theorem nH{p:#[L]->Prop}(h:∀a b,p [a,b]):#[iy,2]:=λZ e=>match Z,e with|[_,_],_=>h _ _
theorem wX{p:#[L]->Prop}(h:∀a b c,p [a,b,c]):#[iy,3]:=λZ e=>match Z,e with|[_,_,_],_=>h _ _ _
theorem Xj{p:#[L]->Prop}(h:∀a b c d,p [a,b,c,d]):#[iy,4]:=λZ e=>match Z,e with|[_,_,_,_],_=>h _ _ _ _
theorem Xk{p:#[L]->Prop}(h:∀a b c d e,p [a,b,c,d,e]):#[iy,5]:=λZ e=>match Z,e with|[_,_,_,_,_],_=>h _ _ _ _ _
theorem Xl{p:#[L]->Prop}(h:∀a b c d e f,p [a,b,c,d,e,f]):#[iy,6]:=λZ e=>match Z,e with|[_,_,_,_,_,_],_=>h _ _ _ _ _ _
theorem eF(J:#[af]){f c k:ao}(e:qE P f c=qD P f c j0 r0)(Q:#[ei].closure=[])(O:#[nG])(n0:#[nF])(Z:∀a:#[L],a.length=k->uV (dS P f) #[ai,a]=aw ((j0.names.map (·.1)).zip a))(g:#[nC,x∈#[bD].fl,c=x.c,#[ei].qualname]):#[dB,bb #[bD] f j0 k r0 b0,f]:=by unfold qE qD at e;simp at e;obtain⟨F,d,t,r,G,L,n,m,j,E⟩:=e;rw[tS]at n0;have U:=J.at_ F;refine⟨⟨⟨_,_,U,d,r,G,Q,L,n,⟨c,_,_,_,m,gv n0.2,J.at_ j,E,O⟩,λx z=>?_,Z⟩,gv n0.1⟩,⟨⟨_,_,U,t,d⟩,gv n0.1⟩⟩;obtain⟨N,a0,T⟩:=g x z;exact⟨N,by rw[m,a0],T⟩
end
section
variable{h:bo}{P:iK}{c0:ao}
theorem Jp(J:#[af]):#[cF,314,tC,2,vC,314]:=#[fn,313,#[ax],#[gL]]
theorem Jq(J:#[af]):#[cF,319,mH,1,mo,319]:=#[gZ,318]
theorem Jr(J:#[af]):#[dB,bb #[bD] 324 tD 2 vE [ra 323 321],324]:=#[hi,#[gL],by rw[aZ.mp h];exact#[hv,#[bo,#[bL]]]]
theorem Js(J:#[af]):#[dB,bb #[bD] 329 xF 3 Hs [xQ 328 326],329]:=#[hi,#[lO],by rw[aZ.mp h];exact#[hv,#[bo,#[bo,#[bL]]]]]
theorem Bt(J:#[af]):#[cF,260,qQ,1,vy,260]:=#[gZ,259]
theorem wt(J:#[af]):#[cF,253,qT,1,vD,253]:=#[gZ,252]
theorem sR(J:#[af]):#[cF,246,jZ,1,fK,246]:=#[gZ,245]
theorem Jj(J:#[af]):#[dB,bb #[bD] 225 tB 2 Aw [qY 224 220],225]:=#[hi,#[gL],by rw[aZ.mp h];exact#[dy,.head _,by kernel_rfl]]
theorem Br(J:#[af]):#[dB,bb #[bD] 232 xC 2 As [tG 231 227],232]:=#[hi,#[gL],by rw[aZ.mp h];exact#[hv,#[bL]]]
theorem Jh(J:#[af]):#[cF,211,qR,3,sv,211]:=#[fn,210,#[ax],#[lO]]
theorem Ji(J:#[af]):#[cF,218,qS,6,sx,218]:=#[fn,217,#[ax],Xl λ_ _ _ _ _ _=>by kernel_rfl]
theorem Jk(J:#[af]):#[cF,239,xE,2,Av,239]:=#[fn,238,#[ax],#[gL]]
theorem Jl(J:#[af]):#[cF,274,Dl,2,Ay,274]:=#[fn,273,#[ax],#[gL]]
theorem Jm(J:#[af]):#[cF,281,Nm,1,HA,281]:=#[gZ,280]
theorem Jn(J:#[af]):#[cF,288,lC,1,vA,288]:=#[gZ,287]
theorem Jo(J:#[af]):#[cF,295,Nk,2,Hy,295]:=#[fn,294,#[ax],#[gL]]
theorem Bu(J:#[af]):#[dB,bb #[bD] 309 xH 1 oH [nQ 308 304,nP 308 304],309]:=#[hi,#[kA],by
 obtain rfl|h:=bg.mp h;.exact#[hv,#[bo,#[bo,#[bo,#[bL]]]]]
 .rw[aZ.mp h];exact#[hv,#[bo,#[bo,#[bo,#[bo,#[bL]]]]]]]
theorem Ju(J:#[af]):#[cF,57,Ng,5,Ht,57]:=eF J #[ak] #[p] #[p] rfl (Xk λ_ _ _ _ _=>by kernel_rfl) #[aO]
theorem Jv(J:#[af]):#[cF,64,xG,2,vz,64]:=eF J #[ak] #[p] rfl rfl #[gL] #[aO]
theorem Jw(J:#[af]):#[cF,78,lD,1,sy,78]:=#[fn,77,#[p],#[kA]]
theorem IY(J:#[af]):#[cF,106,qP,4,vx,106]:=#[fn,105,#[p],Xj λ_ _ _ _=>by kernel_rfl]
theorem IZ(J:#[af]):#[cF,113,hL,3,lr,113]:=#[fn,112,#[p],#[lO]]
theorem Jb(J:#[af]):#[cF,144,Nl,3,Hz,144]:=#[fn,143,rfl,#[lO]]
theorem Jf(J:#[af]):#[cF,189,xI,1,Hv,189]:=#[gZ,188]
theorem wo(J:#[af]):#[dB,bb #[bD] 167 Nh 1 Hu [qZ 166 162],167]:=#[hi,#[kA],by rw[aZ.mp h];exact#[hv,#[bo,#[bo,#[bo,#[bo,#[bo,#[bL]]]]]]]]
theorem wq(J:#[af]):#[dB,bb #[bD] 174 Nd 1 Hr [qX 173 169],174]:=#[hi,#[kA],by rw[aZ.mp h];exact#[hv,#[bo,#[bo,#[bo,#[bo,#[bo,#[bo,#[bL]]]]]]]]]
theorem Jt(J:#[af]):#[cF,334,Dk,1,en,334]:=#[gZ,333]
end
def Bv:lX->ai|.seq Y _=>Y.getD 0 .none|_=>.none
def xK:lX->Nat|.seq _ n=>n|_=>0
def strOf:#[bT]->aq|aa (.str s _)=>s|_=>ak ""
noncomputable def VI(P:iK):gN:=by run_tac
 do
  let g<-mQ;g.withContext do g.assign (<-cc (dV (Ew ``dS) (Ey (<-Eu `P).fvarId) (od 152)))
noncomputable def Jz(P:iK):gN:=by run_tac
 do
  let g<-mQ;g.withContext do g.assign (<-cc (dV (Ew ``dS) (Ey (<-Eu `P).fvarId) (od 182)))
noncomputable def VH(P:iK):gN:=by run_tac
 do
  let g<-mQ;g.withContext do g.assign (<-cc (dV (Ew ``dS) (Ey (<-Eu `P).fvarId) (od 137)))
section
variable{h:bo}{P:iK}{c0:ao}
theorem vX(J:#[af]){s:au}(k:GH (B0 h c0) s.heap)(e:#[hY,T,bE P T])(n0:kd.contains T=ag):#[ch,T,bE P T]:=#[aZ,k,J.at_ e,gv n0]
theorem Be(J:#[af]){f c k:ao}{v:#[g]}(e:qE P f c=qD P f c j0 r0)(Q:#[ei].closure=[])(O:#[nG])(n0:#[nF])(Z:∀(a:#[g])(s:au),a.length=k->GH (B0 h c0) s.heap->rN s #[ei] #[ai,a] ((j0.names.map (·.1)).zip (a++v))):#[dB,mO #[bD] f j0 k r0 v,f]:=by unfold qE qD at e;simp at e;obtain⟨F,d,t,r,G,L,n,m,j,E⟩:=e;rw[tS]at n0;have U:=J.at_ F;exact⟨⟨⟨_,_,U,d,r,G,Q,L,n,⟨c,_,_,_,m,gv n0.2,(J.at_ j),E,O⟩,Z⟩,gv n0.1⟩,⟨⟨_,_,U,t,d⟩,gv n0.1⟩⟩
theorem Jc(J:#[af]):#[dB,mO #[bD] 152 Ni 2 Hw [],152]:=Be J #[ak] #[p] #[ax] rfl (λZ s e k=>match Z,e with|[_,_],_=>by rw[show dS P 152=VI P by kernel_rfl];exact#[mj,145,145,145,#[ax],#[ak]])
theorem Je(J:#[af]):#[dB,mO #[bD] 182 xJ 2 vB [],182]:=Be J (c:=181) #[p] #[ak] #[ax] rfl (λZ s e k=>match Z,e with|[_,_],_=>by rw[show dS P 182=Jz P by kernel_rfl];exact#[mj,175,175,175,rfl,#[ax]])
theorem VC(J:#[af]):#[dB,mO #[bD] 182 xJ 1 vB [.none],182]:=Be J (c:=181) #[ax] #[ak] #[p] rfl (λZ s e k=>match Z,e with|[_],_=>by rw[show dS P 182=Jz P by kernel_rfl];exact zj (T:=175) (n:=xK #[aT,175]) #[p] (vX J k #[p] rfl) #[ak] rfl rfl)
theorem DO(J:#[af]){f c k:ao}(e:qE P f c=qD P f c j0 r0)(Q:#[ei].closure=[(ak "__class__",124)])(O:#[nG])(n0:#[nF])(v:(fW #[aT,c])[2]?=aa (.str (strOf (fW #[aT,c])[2]?) (rk (fW #[aT,c])[2]?)))(X:(P0.main.file==strOf (fW #[aT,c])[2]?)=ae)(I:(#[ei].params.posonlyargs++#[ei].params.args).head?=aa n)(H:n.arg=ak "self")(Z:∀(a:#[L])(s:au),a.length=k->GH (B0 h c0) s.heap->rN s #[ei] #[ai,a] ((j0.names.map (·.1)).zip a))(B:#[hk])(g:#[iF]):#[dB,jP #[bD] d0 g0 f j0 k r0,f]:=by unfold qE qD at e;simp[Fm]at e;obtain⟨F,d,t,r,G,L,b,m,j,E⟩:=e;rw[tS]at n0;have U:=J.at_ F;have q:=J.at_ j;exact⟨⟨⟨_,_,U,t,d,r,G,Q,L,b,⟨c,_,_,_,_,_,m,gv n0.2,q,E,O,v,X⟩,⟨n,I,H⟩,Z⟩,gv n0.1,⟨#[aw,J.at_ (#[p]),by kernel_rfl],gv rfl⟩,B,g⟩,⟨⟨_,_,U,t,d⟩,gv n0.1⟩⟩
variable{d0 g0:#[n]}
theorem Jg(J:#[af])(B:#[hk])(g:#[iF]):#[dB,jP #[bD] d0 g0 197 Di 1 Ar,197]:=DO J (c:=196) (n:=#[nk,197]) #[ax] #[ak] #[ax] rfl #[ax] #[p] #[ax] #[ax] (λZ s e _=>.of_eq (match Z,e with|[_],_=>by kernel_rfl)) B g
theorem Jd(J:#[af])(B:#[hk])(g:#[iF]):#[dB,jP #[bD] d0 g0 160 Nj 1 Hx,160]:=DO J (n:=#[nk,160]) #[ak] #[p] #[p] rfl #[ax] #[ax] #[ax] #[ax] (λZ s e _=>.of_eq (match Z,e with|[_],_=>by kernel_rfl)) B g
theorem Ja(J:#[af])(B:#[hk])(g:#[iF]):#[dB,jP #[bD] d0 g0 137 tA 2 Aq,137]:=DO J (n:=#[nk,137]) #[ak] #[p] #[ax] rfl #[ax] #[ax] #[ak] #[ax] (λZ s e k=>match Z,e with|[_,_],_=>by rw[show dS P 137=VH P by kernel_rfl];exact#[mj,129,129,129,#[ax],#[p]]) B g
end
def qu:lX->Array DictEntry|.dict j _=>j|_=>#[]
def aas:lX->#[bb]|.seq Y _=>Y|_=>#[]
def Bf:lX->Nat|.dict _ n=>n|_=>0
def sJ:lX->ClassData|.cls c=>c|_=>default
def wV(e:DictEntry):Bool:=match e.key with|.str _ _=>ae|_=>ag
theorem WB(h:j.all wV=ae):StrKeys j:=λe S=>by
 rw[Array.all_eq_true']at h;have:=h e S;unfold wV at this;split at this;.rename_i n t R;exact⟨n,t,R⟩
 .cases this
def xx:#[bT]->ao|aa (.ref a)=>a|_=>0
noncomputable def dT(P:iK)(a:ao)(x:aq):#[bT]:=vf (qu #[aT,a]) x
section
variable{h:bo}{P:iK}{c0:ao}{d0 g0:#[n]}
theorem HZ.ns(J:#[af])(e:#[hY,a,bE P a])(c:#[aT,a]=.dict (qu #[aT,a]) (Bf #[aT,a]))(R:(qu #[aT,a]).all wV=ae):h.Ns a (dT P a):=⟨_,_,_,J.at_ e,c,WB R,λ_=>rfl⟩
theorem HZ.name(J:#[af])(e:#[hY,a,bE P a])(c:#[aT,a]=.dict (qu #[aT,a]) (Bf #[aT,a]))(Y:h.Ns a m)(x:aq):m x=dT P a x:=by obtain⟨o,j,s,N,a0,_,T⟩:=Y;rw[J.at_ e]at N;unfold dT;grind
theorem oR(J:#[af])(U:#[gd])(x:aq):d0 x=dT P 3 x:=J.name #[ak] #[p] U x
theorem Uq(J:#[af])(Z:#[ge])(x:aq):g0 x=dT P 0 x:=J.name #[ak] #[p] Z x
theorem DE(J:#[af]):h.Ns iq (dT P 2):=J.ns #[ak] #[p] #[ax]
def qU(x y:fJ):Prop:=x.c≠y.P/\(x.P=y.P->x.c=y.c/\(x=y\/¬((x.pos.line:Int)=y.pos.line/\(x.pos.col:Int)=y.pos.col)))
theorem aaq(N:x.c≠y.P)(a0:x.P≠y.P):qU x y:=⟨N,λe=>#[ac,e,a0]⟩
theorem NQ(u:#[iD]):hA (B0 h c0):=by
 have o:∀x∈#[bD].fl,x.c<335/\x.P<335/\∀y∈#[bD].fl,qU x y:=by
  have n:∀x y,(x.c !=y.P&&x.P !=y.P)=ae->qU x y:=λx y e=>by rw[fF,bne_iff_ne,bne_iff_ne]at e;exact aaq e.1 e.2
  intro x z;simp only[B0,bg,gL,or_false]at z;have m:∀y,y∈#[bD].fl->(y=qY _ _\/y=tG _ _\/y=ra _ _\/y=xQ _ _\/y=nQ _ _\/y=nP _ _\/y=qZ _ _\/y=qX _ _):=λy h=>by simpa only[B0,bg,gL,or_false]using h
  rcases z with rfl|rfl|rfl|rfl|rfl|rfl|rfl|rfl<;>refine⟨by decide,by decide,λy h=>?_⟩<;>rcases m y h with rfl|rfl|rfl|rfl|rfl|rfl|rfl|rfl<;>first|exact n _ _ rfl|exact(⟨by decide,λ_=>#[aG,.inr (#[j])]⟩:qU (nQ 308 304) (nP _ 304))|exact(⟨by decide,λ_=>#[aG,#[aM,.inr]]⟩:qU (nP 308 304) (nQ _ 304))|exact(λx e=>⟨e,λ_=>#[aG,#[dq]]⟩:∀x,x.c≠x.P->qU x x) _ #[j]
 intro x z;obtain⟨N,a0,T⟩:=o x z;exact⟨by show x.c<h.objs.size;rw[u];exact N,by show x.P<h.objs.size;rw[u];exact a0,T⟩
theorem JR(J:#[af])(u:#[iD])(U:#[gd])(Z:#[ge])(y:h.NoLimit)(l:#[k9]):aL #[bD] d0 g0:=by
 refine⟨U,Z,y,gv rfl,gv rfl,gv rfl,NQ u,?_⟩;obtain⟨v0,e0,N,a0,T,E,r,Q⟩:=l;have H:dT P 3 (ak "__builtins__")=aa (.ref (xx (dT P 3 (ak "__builtins__")))):=by kernel_rfl
 rw[oR J U,H]at N;cases N;exact⟨_,_,by rw[oR J U];exact H,a0,gv (by kernel_rfl:kd.contains (xx (dT P 3 _))=ag),T,E,r,Q⟩
theorem BG(J:#[af])(U:#[gd])(Z:#[ge]):Gl #[bD] d0 g0 where
 gl:=λj x u e=>by
  rw[oR J U];have k:qG.map (λp=>dT P 3 (ak p.1))=qG.map λp=>aa p.2:=by kernel_rfl
  have:=congrArg (λl=>l[j]?) k;simp only[cg,e]at this;exact hv this
 bl:=λj x u e=>by
  rw[oR J U,Uq J Z];have k:qn.map (λp=>(dT P 3 (ak p.1),dT P 0 (ak p.1)))=qn.map λp=>(ab,aa p.2):=by kernel_rfl
  have:=congrArg (λl=>l[j]?) k;simp only[cg,e]at this;have:=hv this;simp only[Fm]at this;exact this
 fn:=λa I=>by
  have:∀a∈wB,cb (B0 h c0) a:=λa I=>by
   simp only[wB,bg,gL,or_false]at I;rcases I with rfl|rfl|rfl|rfl|rfl|rfl|rfl|rfl|rfl|rfl|rfl|rfl|rfl|rfl;.exact(Jt J).2
   .exact(Jh J).2
   .exact(Ji J).2
   .exact(Jj J).2
   .exact(Br J).2
   .exact(Jk J).2
   .exact(sR J).2
   .exact(wt J).2
   .exact(Bt J).2
   .exact(Bu J).2
   .exact(Jp J).2
   .exact(Jq J).2
   .exact(Jr J).2
   .exact(Js J).2
  obtain⟨⟨q0,f0,N,_,a0⟩,T⟩:=this a I;exact⟨f0,⟨q0,N,a0⟩,T⟩
 nb:=⟨#[aw,DE J,by kernel_rfl],gv rfl⟩
 lim:=#[bM,(oR J U _).trans (show dT P 3 (ak "_DIV_LIMIT")=aa (.int 4000 (match dT P 3 (ak "_DIV_LIMIT")with|aa (.int _ t)=>t|_=>0))by kernel_rfl)]
theorem AY(J:#[af])(e:#[hY,C,bE P C])(g:bE P C=eE (sJ #[aT,C]).name (sJ #[aT,C]).qualname C N (sJ #[aT,C]).bases v0 ae [] [] ag (sJ #[aT,C]).collection (bE P C).dict ((bE P C).slots.getD 0 ab) ((bE P C).slots.getD 1 ab) ((bE P C).slots.getD 2 ab) ((bE P C).slots.getD 3 ab) ((bE P C).slots.getD 5 ab) F)(E:#[hY,N,bE P N])(c:#[aT,N]=.dict (qu #[aT,N]) (Bf #[aT,N]))(R:(qu #[aT,N]).all wV=ae)(n0:(kd.contains C||kd.contains N)=ag)(m:#[fZ])(G:#[lf])(a:#[l0])(I:#[kl])(s:#[ly,T,v0])(l:(dT P N "__getattribute__",dT P N "__getattr__",dT P N "__setattr__")=(ab,ab,ab)):hj #[bD] C T v0 F M (dT P N):=by rw[tS]at n0;simp at l;exact⟨⟨_,_,N,_,_,_,_,_,_,_,_,(J.at_ e).trans (congrArg _ g),J.ns E c R,gv n0.1,gv n0.2⟩,m,G,a,I,s,l.1,l.2.1,l.2.2⟩
theorem KV(J:#[af]):fs (B0 h c0) (dT P 297)where
 cl:=AY J #[ak] #[ax] #[p] #[p] #[ax] rfl uI RI FG RJ RT #[ax]
 n1:=by kernel_rfl
 n2:=by kernel_rfl
 n3:=by kernel_rfl
 n4:=by kernel_rfl
 m1:=by kernel_rfl
 m2:=by kernel_rfl
 m3:=by kernel_rfl
 o1:=(Jm J).2
 o2:=(Jn J).2
 o3:=(Jo J).2
 f1:=(Jm J).1
 f2:=(Jn J).1
 f3:=(Jo J).1
theorem Bx(J:#[af]):tY (B0 h c0) (dT P 115):=AY J #[ak] #[ax] #[p] rfl #[ax] rfl uI RI FG RJ RT #[ax]
theorem JF:yp (dT P 115):=⟨by kernel_rfl,by kernel_rfl,by kernel_rfl,by kernel_rfl,by kernel_rfl,by kernel_rfl⟩
theorem Ag(J:#[af]):es (B0 h c0) (dT P 199):=AY J #[ak] #[ak] #[ax] #[ax] #[ax] rfl hb Cm akn Cn adf #[ax]
theorem Hb:gx (dT P 199):=⟨by kernel_rfl,by kernel_rfl,by kernel_rfl,by kernel_rfl,by kernel_rfl,by kernel_rfl,by kernel_rfl,by kernel_rfl,by kernel_rfl,by kernel_rfl,by kernel_rfl,by kernel_rfl,by kernel_rfl,by kernel_rfl,by kernel_rfl⟩
theorem TM(J:#[af]):yh (B0 h c0):=⟨_,sJ #[aT,200],J.at_ (#[p]),rfl,rfl⟩
theorem Zl(J:#[af]):ot (B0 h c0) 43:=by have e:#[hY,43,_]:=#[p];refine⟨⟨_,_,_,aas #[aT,42],_,J.at_ e,rfl,rfl,rfl,rfl,rfl,(rfl:(fW #[aT,43])[5]?=aa _),#[P,J.at_ (rfl)],by kernel_rfl⟩,gv rfl,λo j0 l N a0 T=>?_⟩;rw[show(B0 h _).heap.get? _=_ from J.at_ e]at N;cases N;cases a0;cases T;exact gv rfl
end
theorem wg:∀(f g:Nat)(l:#[g])(p:Nat)(H:#[g]),l.length<=f->l.length<=g->az f l p H=az g l p H
 |0,0,_,_,_,_,_=>rfl
 |0,g+1,l,_,_,h,_=>by obtain rfl:=om.mp (EW.mp h);rfl
 |f+1,0,l,_,_,_,h=>by obtain rfl:=om.mp (EW.mp h);rfl
 |f+1,g+1,l,p,H,N,a0=>by cases l with
 |nil=>rfl
 |cons x l=>
  have R:=rd (l:=x::l) #[z]
  have b:#[hU,#[aa,H.contains (p+bp (x::l)),fa (x::l) (bp (x::l)),x::l],(x::l)]:=by
   split;.exact ON R
   .rfl
  show[40]++az f _ p _++[_]++az f _ _ _++[41]=[40]++az g _ p _++[_]++az g _ _ _++[41];rw[wg f g _ p _ (by rw[bI];omega) (by rw[bI];omega),wg f g _ _ _ (by rw[dj];omega) (by rw[dj];omega)]
theorem aag(M:#[ae])(h:#[kd]):iO (aF M) L:=⟨kF _,λc X x z=>by
 have a:∀k,∀x∈gU k,x≠32/\x≠9/\x≠10:=λk=>by match k with|0=>decide|1=>decide|2=>decide|3=>decide|4=>decide|k+5=>show∀x∈[92,34],_;decide
 obtain z|z:=cZ.mp z;.exact a _ x z
 .have:=aZ.mp z;have:=h c X;omega⟩
theorem eB.up{H m0:#[g]}(h:eB B w n f z U H r m0)(Y:n<=m):eB B w m f z U H r m0:=#[k4]
theorem bH.up{H m0:#[g]}(h:bH B w n f z H r m0)(Y:n<=m):bH B w m f z H r m0:=#[k4]
section
variable{h:bo}{P:iK}{c0:ao}{d0 g0:#[n]}{w:aD}
theorem qN(J:#[af]):#[iF]:=#[aw,DE J,#[p]]
theorem TF(J:#[af])(u:#[iD])(U:#[gd])(Z:#[ge])(y:h.NoLimit)(l:#[k9]):fE #[bD] w d0 g0 (dT P 199) (dT P 115):=by
 have F:aL #[bD] d0 g0:=JR J u U Z y l;have G:Gl #[bD] d0 g0:=BG J U Z;have X:=Ag (c0:=c0) J;have N:=Hb (P:=P);have B:=G.bl 13 "super" _ rfl;have k:=G.bl 6 "sum" _ rfl;have Y:=G.bl 0 "len" _ rfl;have H:=G.bl 11 "str" _ rfl;have O:d0 (ak "EMPTYSTRING")=aa (.str (strOf (dT P 3 (ak "EMPTYSTRING"))) (rk (dT P 3 (ak "EMPTYSTRING")))):=(oR J U _).trans (by kernel_rfl);have g:(strOf (dT P 3 (ak "EMPTYSTRING"))).cps.toList=[]:=by kernel_rfl
 have j:=(Jg (c0:=c0) J B (qN J)).1;refine⟨F,G,X,N,Bx J,JF,λC I f p y=>#[aM,(TL F G X N (Jb J).1 C f p y).up],λC I c y=>#[aM,(TJ F X N (TM J) j (Jd J B (qN J)).1 C y).le],λC I=>#[aM,(GZ F X j C).up],λC I y=>fR.le (vs F X N (wo J).1 k Y C y) #[j],λC I b a0 T=>fR.le (sq F X N (wq J).1 O g C b a0 T) #[j],λI b a0 T E r=>?_,λC I y=>#[aM,(TO F X N (VC J).1 C y).up],λC I n0 y=>#[aM,(TN F X N (Je J).1 C y).up],λC i I e y=>#[aM,(TK F X N (Jc J).1 C i e y).up],λa d=>?_,by kernel_rfl,by kernel_rfl,by kernel_rfl,by kernel_rfl⟩;.have L:=vs (w:=w) F X N (wo J).1 k Y 0 b;rw[gM]at L;exact#[aM,(TH F G X N (Jf J).1 (wo J).2 (wq J).2 L (sq F X N (wq J).1 O g 0 b a0 T) E r H).up]
 .simp[bg,gL,or_false]at d;rcases d with rfl|rfl|rfl|rfl|rfl|rfl|rfl|rfl|rfl|rfl|rfl|rfl;.exact(Jb J).2
  .exact(Jd J B (qN J)).2
  .exact(wo J).2
  .exact(wq J).2
  .exact(Je J).2
  .exact(Jf J).2
  .exact(Jg J B (qN J)).2
  .exact(Jc J).2
  .exact(Jv J).2
  .exact(Jw J).2
  .exact(IY J).2
  .exact(IZ J).2
theorem WL(J:#[af])(u:#[iD])(U:#[gd])(Z:#[ge])(y:h.NoLimit)(l:#[k9]):yx (B0 h 0) w 34 d0 g0 (dT P 297):=by
 have F:aL (B0 h 0) d0 g0:=JR J u U Z y l;have G:Gl (B0 h 0) d0 g0:=BG J U Z;have B:=G.bl 13 "super" _ rfl;have h0:=λc0=>TF (c0:=c0) (w:=w) J u U Z y l;have e:∀(L:#[i]),(#[kd])->#[f0,L]:=λL h x z=>by have:=h x z;omega
 have j:∀(C N:Nat)p0 j0,p0.length<=2^20->eB (B0 h 0) w 3 57 [.ob 1,.int (C:Int),.int (N:Int),.str p0,.str j0] 0 #[mb] .none (bq (B0 h 0) N p0 j0 [] C []):=λC N p0 j0 n=>VN F G (Bx J) JF (Ag J) (λC=>TG F (Ag J) Hb (Ja J B (qN J)).1 (Ja J B (qN J)).2 _) (G.gl 16 _ _ rfl) (Ju J).1 _ _ _ _ n;refine⟨F,G,KV J,by decide,(Jp J).1,(Bu J).2,λi n0=>Xb F G (KV J) #[ax] (Jl J).2 (Jl J).1 (Bu J).1 n0,λM L k f g=>?_,λM L H k f g m=>?_,λM f0 p O d q y Z=>#[aM,(aeq F G (Jr J).1 (Bt J).1 (wt J).1 (sR J).1 _ _ O _ d q y Z).le],λa c a0=>?_,λa I=>#[aM,(DK F G (wt J).1 (sR J).1 a 0 #[f]).le],λA o c a0 T=>#[aM,(Iz F G _ _ (Br J).1 _ c _ a0 T).le],λa b c a0 T=>#[aM,(Vh F G _ _ _ _ (Jj J).1 (Br J).1 (Jh J).1 (Ji J).1 (Jk J).1 a b _ c rfl a0 T).le]⟩;.have:=afb (h0 0) (λc0=>h0 _) (G.gl 12 _ _ rfl) (G.gl 15 _ _ rfl) (λC N p0 j0 n=>VO (NQ u) (Bx J) #[ax] (Ju J).2 (j _ _ _ _ n)) (IY J).1 (IZ J).1 (Jv J).1 (Jw J).1 (Zl J) (Jq J).1 5 L 0 k #[aJ] f (aag M g) (e L g);rw[wg 5 _ L 0 _ k #[aJ]]at this;exact#[aM,this.le]
 .have:=Vn (w:=w) F G (Js J).1 (kF M) 5 L 0 _ k #[aJ] f (e L g) #[f] m;rw[wg 5 _ L 0 _ k #[aJ]]at this;exact#[aM,this.le]
 .have r:3000<=aC:=by decide
  exact#[aM,(Ib F G (Bt J).1 (sR J).1 a 2 (aI c r) (aI a0 r) (DK F G (wt J).1 (sR J).1 a 0 #[f])).le]
end
theorem Hj:∀{h0:Frag},akc h h0->∀(a:ao)(o:cp),h0.lookup a=aa o->#[cq]
 |[],_,_,_,e=>nomatch e
 |(b,p)::h0,A,a,o,e=>by
  rw[gj]at e;by_cases Z:(a==b)=ae;.rw[Z]at e;cases e;rw[beq_iff_eq.mp Z];exact A.1
  .rw[yk.mpr Z]at e;exact Hj A.2 a o e
theorem Wr(h:IntsAre Y C):#[fi,Y,C.map V.int]:=by induction h with|nil=>exact .nil|cons _ _ _ Q=>exact .cons #[bu] Q
section
variable{h:bo}{P:iK}{c0:ao}{d0 g0:#[n]}{w:aD}
theorem aeh(J:#[af])(e:((hdz.heap_328 P).lookup c,(bE P c).cls,#[aT,c],(hdz.heap_328 P).lookup T)=(aa (bE P c),.type "code",.fields (fW #[aT,c]),aa (nS #[])))(f:((fW #[aT,c])[11]?,#[ke,11],#[ke,18],#[ke,7],#[ke,9],#[ke,10])=(aa (.ref T),.ref T,.str (strOf (aa ((fW #[aT,c]).getD 18 .none))) (rk (aa ((fW #[aT,c]).getD 18 .none))),.int 3 0,.bool ae,.int 276 0))(n:c≠T):h.IsCode c T #[]/\h.TableAt c T #[]:=by simp only[Fm]at e f;obtain⟨F,d,t,r⟩:=e;obtain⟨O,U,u,p,o,k⟩:=f;exact⟨⟨_,_,_,_,_,_,_,_,_,_,J.at_ F,t,U,u,p,o,k,J _ _ r,rfl,trivial,n⟩,⟨_,_,J.at_ F,d,t,O⟩,J _ _ r⟩
theorem OB(J:#[af]):∀x∈#[bD].fl,x.qual.cps.size≠0/\h.IsCode x.c x.P #[]/\h.TableAt x.c x.P #[]:=λx z=>by simp[B0,bg,gL,or_false]at z;rcases z with rfl|rfl|rfl|rfl|rfl|rfl|rfl|rfl<;>exact⟨#[j],aeh J #[ax] #[ax] #[j]⟩
theorem WY(J:#[af])(u:#[iD])(U:#[gd])(Z:#[ge]){A:List Int}(r:A.length<=63):Fn (B0 h 0) w 35 334 [#[bk,A.map,V.int]] (.atom (.bool ae)):=by have y:h.NoLimit:=#[P,DE J];have l:#[k9]:=⟨xx (dT P 3 (ak "__builtins__")),bE P (xx (dT P 3 (ak "__builtins__"))),(oR J U _).trans (rfl),Nat.ne_of_beq_eq_false (#[p]),J.at_ (by kernel_rfl),by kernel_rfl,by kernel_rfl,by kernel_rfl⟩;have C:=WL (w:=w) J u U Z y l;exact Fn.dU C.F (Jt J).1 rfl rfl rfl rfl YU (WH C r λv s=>dB.atom rfl)
theorem Wh(J:#[af])(u:#[iD])(R:#[ev,h.get?,N.get?])(I:N.objs.size=h.objs.size+1):GH (B0 h 0) N:=⟨by show h.objs.size<=_;omega,#[dN,R],λx z=>by obtain⟨U,q,w⟩:=OB J x z;exact⟨U,_,q.keeps R,#[du,R _ _ w.2,_,#[],w.2],#[dq]⟩,aV _⟩
theorem YY(J:#[af])(R:#[ev,h.get?,N.get?])(v:#[fG,N.get? b=aa o,b∉(B0 h 0).tabs,a0.get?])(k:GH (B0 h 0) a0):OldK N a0:=by
 have a:∀b o,N.get? b=aa o->asItWas _ _ b o:=λb o e=>by
  by_cases Z:b∈(B0 h 0).tabs;.obtain⟨x,z,rfl⟩:=bK.mp Z;obtain⟨_,S,_,⟨U,p,L,q,w⟩,_⟩:=k.2.2.1 x z;obtain⟨_,_,n⟩:=OB J x z;rw[R _ _ q]at e;cases e;exact .inr (.inl ⟨(n.keeps R).isCodeTable,rfl,_,_,rfl,by rw[U,w]⟩)
  .exact .inl (v b o e Z)
 refine⟨a,λb o e=>?_⟩;obtain h|⟨_,_,Y,L,_,h⟩|⟨_,_,⟨A,_,_,h,_⟩,_⟩:=a b o e;.exact#[bM,h]
 .exact#[bM,h]
 .exact#[bM,h]
end
theorem gW:Rv.Holds:=by
 refine hdz ?_;intro w d p d0 g0 G y q o j0 H e0 p0 q0 j l E s f0 U z x c L c0 k0 l0 h0 X;refine Ground.open G ?_;intro T B D m0 o0;wrow_args c0 k0 l0 h0 X;rename_i A _ _ _ _ _ _ _ a f _ M _ _ _ n _ Y _;obtain⟨i,_,k,_⟩:=akf (K:=hdz.heap_328) (y:=y) (e:=λ_=>#[p]);have J:HZ d.heap w.params:=Hj i;obtain⟨v,I⟩:=akd L;have Q:=ake L M;have R:=L.keeps;have i0:d.heap.Ns el d0:=T.g.at' λo e=>by have P:=J.at_ (a:=3) #[ax];have F:=R _ _ P;rw[show p.heap.get? 3=aa o from e]at F;cases F;exact P
 have b0:=T.b.at' λo e=>by have P:=J.at_ (a:=0) #[ax];have F:=R _ _ P;rw[show p.heap.get? 0=aa o from e]at F;cases F;exact P
 have r:A.length<=63:=by omega
 have C:q=334:=by have N:=f0;have a0:=(BG (c0:=0) J i0 b0).gl 0 "law" _ rfl;rw[N]at a0;cases a0;rfl
 subst C;have m:=Wh J k R I;refine WY J k i0 b0 r callerA [a] [.ref a] p _ _ ⟨rfl,by decide,by decide⟩ m (.list ⟨_,Q,_,_,rfl,Wr n⟩ .nil) #[z] (λb Z=>by rw[aZ.mp Z,v];exact aP _) λu g O t S=>?_;obtain rfl:u=.bool ae:=S;exact⟨.inl ⟨.bool ae,.bool ae,[],rfl,λ_=>rfl,.bool ae,by kernel_rfl,λ_=>⟨.nil,#[ck]⟩⟩,YY J R (λb o e n0=>O.keep b o e (#[fL]) n0) t,O.os,O.gens.2 (.of_eq U)⟩
section
open Lean Meta Elab Tactic
namespace Z
def main:il Unit:=do
 TU;let J<-getEnv;let b0(n:bJ):Bool:=J.constants.map₂.contains n;let I<-ack (<-acn (<-acj b0 ``gW));let(n0,r)<-acm I b0 ``gW
 let aa P:=J.importEnv?|throwError"env"
 let e<-TS P n0;let g<-mQ;setEnv e;g.assign (mkConst r)
end Z
end
end Mine
theorem PySem.Challenge.cw_jc0040_01_holds : PySem.Challenge.rw_jc0040_01.Holds := by
 run_tac Mine.Z.main
