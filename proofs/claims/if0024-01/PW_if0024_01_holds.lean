import PyProof.Rows.All
import Wide.All
import OpenK.AllK
import Wide.FinOn
import KE.KRevIter
import KE.KItemsList
import KE.KSuper
import KE.KLam
import KE.KSortTup
import PyProof.DictCompW
import PySem.Challenge.RW_if0024_01
set_option bootstrap.genMatcherCode false
set_option genSizeOf false
set_option genCtorIdx false
set_option genInjectivity false
set_option compiler.extract_closed false
set_option Elab.async false
set_option tactic.hygienic false
set_option linter.all false
set_option maxRecDepth 100000
set_option maxHeartbeats 0
open PySem PySem.Spec PySem.Calls PyProof.Rows PySem.W
namespace Mine
open _root_.Nat renaming le_of_ble_eq_true->Za,le_trans->Zb,le_refl->Zm,le_add_right->Zn,zero_le->Zr,succ_le_succ->Zu,mul_le_mul_left->ZC,add_le_add_left->ZJ,lt_of_le_of_lt->ZS,le_succ->ZW,le_of_eq->ZX,ne_of_lt->Z3,succ_pos->Z8,add_le_add->Yc,lt_of_lt_of_le->Ym,le_of_succ_le->Yn,lt_succ_self->Yq,add_le_add_right->Yr,lt_succ_of_lt->YW,le_add_left->Y6,le_of_lt->Y8,add_assoc->Xc,le_succ_of_le->Xm,ne_of_gt->Xr,add_comm->Xu,zero_add->Ua,not_lt->Ug,lt_irrefl->Un,min_eq_left->Ip,lt_add_of_pos_right->Zal,add_sub_cancel_left->Zam,le_of_succ_le_succ->Za7,le_add_right_of_le->Za8,add_right_comm->Za9,succ->Zbc,lt_of_succ_lt->Zbn,sub_self->Zdp,succ_ne_zero->Zec,succ_add_eq_add_succ->Zhh,le_antisymm->Ziz,succ_ne_self->Zpa,min_eq_right->Zpb,max_eq_left->Zsb,le_total->Yca,not_succ_le_zero->Yhg,mul_add->Yhh,add_lt_add_left->Yh1,sub_lt->Yk6,pos_of_ne_zero->Yk7,lt_of_lt_of_eq->Yk8,add_sub_cancel->Yk9,zero_lt_of_lt->Ym2,lt_of_sub_pos->Ym3,min_le_right->Yp8
open PySem renaming wpAny_bind->Zc,Shared->Zd,wpAny_pure->Ze,wpAny_mono->Zy,strKind->ZP,wpAny_newObj_type->Z7,Around->Yg,Seg->Yj,wpAny_holding->Yl,Params->Yu,FuncData->YF,Program->YL,wpAny_call_entry->Y9,seg_execs_nil->Xd,Expr->Xh,seg_bind_wrap->XC,DictEntry->XD,Fin->XF,wpAny_Call_ofName->XJ,wpAny_updateSeq->XS,codeAny_builtin->XX,seg_execs_cons->Ud,GenState->Uh,mainGlobals->Uj,plainId_quiet->Uw,wpAny_call->Ux,sysModules->Uy,rawInt->Uz,isInstance->UG,builtinsNs->UJ,NameKind->U8,wpAny_of_eq->Kq,wpAny_callSpecial?_slot->Kw,wpAny_assign_Name->Ky,wpAny_attempt->Ia,entryFor_of_tree->Ib,wpAny_listPart->Im,wpAny_setState_of->I9,wpAny_loadName_local->Zaa,keeperOf->Zac,getMethod_builtin->Zad,slot_list_getitem->Zag,notedBy->Zaz,pyNext->Za3,isSubtype_type->Za4,firstArgMember->Za5,wpAny_field->Zbe,wpAny_allTrue_And_cons->Zbh,Result->Zbm,seg_bind->Zbr,wpAny_standAt->Zbz,builtinLookup_eq_fast->Zb8,wpAny_loadPart->Zcp,typeIs_str->Zcq,intKind->Zdb,slot_listiter_next->Zdm,sizeLine_eq->Zdr,Spec->Zdx,wpAny_Assign_Name->Zd5,codeAny_mono->Zd8,checkBoundCall->Zd9,callWith->Zea,Operator->Zeb,isSubtype->Zex,wpAny_newFunctionEnv->Zfe,entryFor->Zfi,codeAny_call_builtin->Zfj,Heap->Zfp,typeOf->Zfu,typeLookup_type->Zfv,standAt->Zgi,compareOp->Zg2,isSubtype_stop->Zg8,argsOk->Zg9,slot_dict_getitem->Zhe,builtinKind->Zih,wpAny_newList->Zik,wpAny_getItem_list_slice->Zil,wpAny_comprehension_free->Zim,assign->Zin,wpAny_isInstance->Zi3,sizeLine->Zi8,checkBuiltinCall->Zjk,wpAny_typeOf->Zj2,wpAny_Name->Zj3,typeLookup->Zj4,ks_wpAt_mono->Zkf,getAttr->Zkj,call_meetsIn->Zkp,theTreesLotGoes->Zk4,codeAny_of_tree->Zk5,wpAny_storeName_local->Zk8,wpAt->Zlm,wpAny_Slice->Zl7,recursionLimit->Zl8,newFunctionEnv->Zl9,interactive->Zma,Protocol->Zmd,updateSeq->Zmg,operate->Zml,getItem->Zmr,wpAny_isTrue_BoolOp->Zmy,ks_wpAny_isType_cls->Zni,refuseLoop->Zn5,wpAny_handled->Zoh,assignInOrder->Zoj,wpAny_isTrue_value->Zoq,wpAny_Constant_int->Zor,wpAny_truthy_list->Zqw,wpAny_truthy_bool->Zqx,wpAny_Return_some->Zqz,holding->Zrr,callSpecial?->Zry,wpAny_getItem_of->Zsr,wpAny_execs_cons->Zss,sliceIndices_raw->Zs9,seg_again->Ztf,isTrue->Zt7,Arguments->Zva,wpAny_throw->Zvb,sliceBounds->Zvc,setGen_self->Zvd,wpAny_isNot_plain->Zvh,wpAny_execs_nil->Zvp,wpAny_seqItems->Zz0,wpAny_runValue->Zz1,wpAny_rule->Zz2,stored->Zz9,splitAtGen->Yac,slice_no_index->Yai,sliceRange_one->Yaj,pyIter->Yau,evalArgs->Ybl,wpAny_assignInOrder_none->Ycr,wpAny_assignInOrder_more->Ycs,methodCallPos->Ye1,wpAny_list_append_plain->Yhu,specialOf->Yhw,seqItems?->Yhx,seqIndex?->Yhy,noteFrame->Yhz,wpAny_pyNext_dict_item->Yid,wpAny_mkText->Yie,wpAny_Assign_Subscript->Yif,splitId->Yiq,spliced->Yir,relabel->Yi3,meets_dict_get_default->Yjk,bootBuiltins->Ykm,Ctx->Yk3,OsState->Yk4,wpAny_pyNext_dict_end->Ylx,wpAny_pyIter_listiter->Yly,wpAny_allTrue_Or_cons->Ylz,wpAny_allTrue_And_nil->Yl0,exec_Assign_Name_used->Yms,keywordEach->Yo5
open _root_.List renaming length_append->Zf,length_map->Zh,forall_mem_cons->Zi,append_assoc->Zw,map_append->ZF,getElem?_eq_getElem->ZG,append_nil->ZK,getElem?_toArray->Z0,length->Z5,mem_of_getElem?->Z9,getElem?_map->Yd,length_reverse->Yh,toArray->Yk,all_eq_true->Yo,forall_mem_nil->Yp,mem_map->Ys,getElem?_eq_some_iff->Yt,mem_map_of_mem->Y4,reverse_cons->Y7,mem_singleton->Xb,mem_append_right->Xe,flatten_append->Xf,map_reverse->Xi,length_eq_zero_iff->Xj,mem_cons->Xl,forall_mem_singleton->Xp,lookup_cons->Xw,cons->XH,getLast?_concat->XK,getElem?_append_right->XM,length_cons->XR,sum_append_nat->X4,range->Ub,map_cons->Uk,replicate->Uo,getD_eq_getElem?_getD->Up,forall_mem_append->Uq,concat_eq_append->UW,map_map->U7,length_range->Kg,nodup_cons->Kl,map_eq_nil_iff->Ks,flatten_singleton->KD,eq_nil_or_concat->K9,getElem?_eq_none->Zbf,dropLast_concat->Zb1,take_length->Zcb,map_congr_left->Zcm,forIn_cons->Zcx,lookup_append->Zc0,size_toArray->Zdf,mem_range->Zdg,dropLast_eq_take->Zdy,map_eq_cons_iff->Zee,length_take_le'->Zef,find?_cons->Zeu,flatMap_append->Ze2,drop_left->Zfs,take_add_one->Zgv,push_toArray->Zgw,mem_flatten->Zhj,length_drop->Zhk,getElem_mem->Zhl,getElem_map->Zhm,filter_cons->Zhn,take_of_length_le->Zii,mem_append->Ziq,take_append_drop->Zi0,length_replicate->Zi1,mem_cons_of_mem->Zj1,pairwise_cons->Zl3,filter_append->Zl4,take_sublist->Zmu,nodup_append->Zmv,mem_reverse->Zom,ext_getElem->Zon,drop_length->Zoo,any_eq_true->Zop,range'->Zpc,eraseIdx_length_sub_one->Zqo,take_left->Zsh,nodup_nil->Zsi,forIn_nil->Zsj,getLast?_eq_getElem?->Zu3,drop_eq_getElem_cons->Zu4,sum_cons->Zvj,map_take->Zvk,any_cons->Zvl,filter_cons_of_neg->Zxk,dropLast_replicate->Zxl,range_succ_eq_map->Zzu,eraseIdx_toArray->Ycb,contains_iff_mem->Ycc,replicate_succ'->Ycl,rec->Ycm,mem_append_left->Ycn,extract_toArray->Yco,length_take_le->Yhi,length_pos_iff->Yhj,length_flatten->Yhk,append_toArray->Yhl,sum_singleton->Yh2,mem_cons_self->Yh3,map_singleton->Yh4,findIdx?_cons->Yh5,count_pos_iff->Yh6,count_eq_zero->Yh7,flatten_cons->Yla,filter_congr->Ylb,drop_sublist->Ylc,length_take->Ym5,Perm->Ym6,sum_append->Yqa,of_mem_zip->Yqb,nil_append->Yqc,mem_filter->Yqd,length_nil->Yqe
open PySem.Heap renaming get?_push_of_some->Zg,get?_push_size->Zq,lt_size->ZL,SameBut->ZM,get?_update_self->Ye,get?_update_other->Xq,ExtBut->XN,IsRevIter->UT,size_push->Zb2,IsSliceOf->Zft,DictOf->Zpf
open PySem.Str renaming ofString->Zz,join->Zuz,length->Ykv
open PySem.Value renaming ref->ZR,none->Xo,type->Xz,str->Ue,builtin->Zd3,isStrOf_shape->Zer,int->Zn2
open PySem.Heap.SameBut renaming update->ZV
open PySem.Obj renaming mapSeq->ZZ,data_mapFields->Zf9,mapFields->Zhg,isFreed_of_fields->Ycj,cls_mapFields->Ym1
open _root_.Option.some renaming inj->Z1
open _root_.Option renaming isSome_iff_exists->Z2,some->Yv,map_eq_some_iff->Yz,bind_some->UV,getD_some->Zb0,bind_eq_some_iff->Zcw,elim_some->Zdt,map->Zql,map_some->Yk5,isSome->Yp7
open _root_.Int renaming natCast_nonneg->Z4,ofNat_le->YZ,add_sub_cancel->XQ,not_lt->U4,toNat_natCast->Km,le_trans->I4,ofNat->Zbg,max_eq_right->Zcg,toNat_of_nonneg->Zcr,lt_of_le_of_lt->Zc3,ofNat_lt->Zdq,natCast_add->Ze3,neg_le_neg->Zga,not_le->Zir,le_of_lt->Zis,le_refl->Zky,add_le_add_right->Zkz,toNat->Zk6,add_zero->Zn9,add_comm->Zoa,natCast_pos->Zse,min_eq_left->Zsf,ofNat_inj->Zxm,eq_ofNat_of_zero_le->Zzv,zero_add->Yce,fmod_nonneg_of_pos->Ycf,ediv_one->Ycg,natCast_ne_zero->Yh8,sub_add_cancel->Ylf,lt_of_lt_of_le->Ylg,min_eq_right->Yqj
open PySem.Calls renaming spliced_cons->Z6,spliced_nil->Yi,Constant_str->Zcz,loadGlobal_builtin->Zg7,Name_function_global->Zme,loadGlobal_global->Zrj
open _root_.Bool renaming noConfusion->Yw,and_eq_true->Xx,false_ne_true->U3,false_eq_true->K6,and_false->Zdh,and_eq_true_iff->Zeg,cond_self->Zsk,or_eq_false_iff->Ycp,not_eq_true'->Yln,eq_false_iff->Ylo,or_eq_true->Yqp
open _root_.Prod.mk renaming inj->YJ
open PySem.W renaming looks_findIn->YQ,emptyDict->Za6,findIn->Zb7,looks_mroIn->Zds,tabObj->Zs0,plainGet_of->Zve,looks_clsIn->Zvf,hideAll_get->Zvg,check_slot->Ybu,hasDictIn->Yh0,looks_opaque->Yjn,listOf->Yk2,plainGet->Yoc,findObj_own->Ypi,copiedNames->Ypp
open PySem.Builtin.Range renaming rangeSize->Xa,small->Zqt
open _root_.List.cons renaming inj->Xg
open _root_.Array renaming getElem?_eq_getElem->Xn,length_toList->Xy,getElem?_eq_some_iff->Zby,getElem?_eq_none->Zda,getElem?_toList->Zdu,size_push->Zij,toList_append->Zk3,eraseIdxIfInBounds->Zu9,getElem?_push_lt->Zxs,mem_iff_getElem->Zzy,toList_push->Yh9,size_empty->Ylr,any_toList->Yls
open PyProof.Rows renaming seqObj->Uc,AllBare->Ir,subscriptTail->Ze5,tail_any->Zg6,listUpdate_at->Zoi,Subscript_->Zo7,len_str->Zqj,add_int->Zqk,get?_update_seq->Zww,listItems_at->Yjq
open _root_.Prod renaming mk->Ul,fst->Um
open PySem.Manifest renaming signature?->Kc,canonical->Zet
open PySem.F renaming plainAttrs_str->Kr,slot_dict_items->Zcs,slot_str_join->Zdd,slot_dict_get->Zde,ks_slot_super_ga->Zf8,plainAttrs_list->Zgs,plainAttrs_dict->Zgt,entry_dict_get->Zhf,slot_str_ascii_iterator_next->Zjt,slot_enumerate_next->Zol,slot_list_delitem->Zqf,plain_extend_loop->Zqg,entry_extend_loop->Zqh,args_dict_items_1->Zqi,slot_str_isspace->Zr7,slot_str_getitem->Zr8,entry_dict_items->Zr9,args_dict_get_3->Zsg,slot_str_split->Zu0,slot_list_pop->Zvi,slot_list_lt->Zxn,plain_extend_loop->Yna,entry_extend_loop->Ynb
open _root_.ForInStep renaming yield->K5
open PySem.Builtin.List renaming listItems->I8,listSameRef->Zbp,listSubscript?->Zlq
open _root_.Nat.succ renaming inj->Zaj
open PySem.Builtin.Str renaming strSliceIndices->Zan,strOf->Zvm
open PySem.Unicode renaming isSpace->Zap
open PySem.Heap.IsSliceOf renaming new->Zbo
open PySem.NameKind renaming cell->Zca,free->Zju
open PySem.PyData renaming keyHash->Zc4
open PySem.Bind renaming checkArgs->Zdi,staticBase->Yqq
open PySem.SetTable renaming below->Zes,grown->Zok,fits->Zqe,standIn->Yci,fill->Ykw
open PySem.Value.ref renaming inj->Zfo
open PySem.Heap.DictOf renaming new->Zgc
open PyProof.Rows.F renaming entry_set_update_loop->Zg3
open PySem.Value.type renaming inj->Zhi
open _root_.False renaming elim->Zh3
open PySem.ScopeKind renaming function->Zjp
open PySem.Frame renaming guarded->Zk7
open PySem.StrLaws renaming found_one->Zll
open PySem.Sem renaming bind_eq_wrap'->Zn3,wrap_wrap->Zxi,wp_mono->Yhb
open PySem.Builtin renaming divisionGoesByPylong->Zoe
open _root_.Int.ofNat renaming inj->Zpe
open PySem.MeetsSeq3 renaming plain_eq_loop->Zqm,entry_eq_loop->Zqn
open PySem.SetTable.below renaming go->Zr6
open PyProof renaming noPylong_small->Zu1
open PySem.W.Looks renaming of_pure->Zu2,ld->Yp9
open _root_.Std.Legacy renaming Range->Zzo
open _root_.Ne renaming symm->Yck
open PySem.pickOrder renaming go->Yi6
open PySem.W.KatTups renaming cons->Yqi
open PySem.Builtin.Generator renaming sleptOver->Yqo
open PySem.Around renaming deeper->Yqr
open _root_.And renaming intro->Yqs
open PyProof.Rows.AllBare renaming push->Yqt
section
noncomputable def myHook (K:Yu->Frag)(as:List Addr)(e:∀ P,as=(K P).map (·.1)):Hook where
 α:=(List (Option Obj)×List (Option Obj))×Bool
 obs:=fun s=>((as.map s.heap.get?,[123,287,294,371].map s.heap.get?),(s.heap.get? Uy).isSome)
 val:=fun w=>(((K w.params).map fun p=>some p.2,[123,287,294,371].map fun (_:Addr)=>some (Zs0 #[])),true)
 says:=fun w h=>InK K w h/\(∀ P∈[123,287,294,371],h.get? P=some (Zs0 #[]))/\(h.get? Uy).isSome=true
 of:=fun w s x=>⟨InK.of e w s (YJ (YJ x).1).1,List.map_inj_left.mp (YJ (YJ x).1).2,(YJ x).2⟩
 keeps:=fun w h h' x k=>⟨InK.keeps w h h' x.1 k,fun P hP=>k _ _ (x.2.1 P hP),by
  obtain ⟨o,e⟩:=Z2.mp x.2.2
  rw [k _ _ e];rfl⟩
structure Box (K:Yu->Frag)(R:Prop):Prop where
 h:R
theorem pack {R:Prop}(K:Yu->Frag)(_:True)(x:Box K R):R:=x.1
section
local macro_rules | `(tactic| o_head ($_:ident $k $_ $_ $_)) => `(tactic| refine pack $k ?hw ?_)
local macro_rules | `(tactic| w_witness2) => `(tactic| trivial)
open_top hd0 for PySem.Challenge.rw_if0024_01.row
end
end
namespace Internal
noncomputable def nmS:List String:=["append","pop","count","join","replace","isspace","split","get","items","add","_wall","__name__","_twin_re_1","_sre","compile","_namespace_map","_raise_serialization_error","_looks_like_prefix_name","match","C14NWriterTarget","__init__","self","write","with_comments","strip_text","rewrite_prefixes","qname_aware_tags","qname_aware_attrs","exclude_attrs","exclude_tags","_write","_data","_with_comments","_strip_text","_exclude_attrs","set","_exclude_tags","_rewrite_prefixes","_qname_aware_tags","_find_qname_aware_attrs","intersection","_declared_ns_stack","_ns_stack","list","_prefix_map","_preserve_space","_pending_start","_root_seen","_root_done","_ignored_depth","_iter_namespaces","ns_stack","_reversed","reversed","namespaces","_resolve_prefix_name","_qname","qname","uri","tag","rsplit","prefixes_seen","u","prefix","len","ValueError","data","_flush","_join_text","strip","args","qname_text","_start","_escape_cdata_c14n","start_ns","start","attrs","new_namespaces","k","v","qnames","resolved_names","qattrs","attr_name","value","parse_qname","parsed_qnames","n","sorted","key","attr_list","sort","attr_qname","space_behaviour","_escape_attrib_c14n","end","comment","text","pi","TypeError","AttributeError","NL","EMPTYSTRING","_ValueFormatter","headerlen","maxlen","continuation_ws","splitchars","_maxlen","_continuation_ws","_continuation_ws_len","_splitchars","_lines","_current_line","_Accumulator","_str","linesep","newline","__str__","end_of_line","push","is_onlyws","str","reset","add_transition","feed","_maxlengths","_ascii_split","_append_chunk","fws","string","ch","i","range","part_count","prevpart","part","_initial_size","remainder","pop_from","initial_size","super","popped","__len__","sum","startval","_iter_escaped_chars","addr","pos","escape","enumerate","_strip_quoted_realnames","open_pos","result","_check_parenthesis","opens","_post_parse_validation","parsed_email_header_tuples","accepted_values","_law_units","drawn","table","units","x","_law_pairs","_law_told","width","lines","writer","piece","pile","letter","at","sign","chr","top","_law_kept","shut","kept","ahead","_law_due_pairs","due","_law_mates","still","mates","max","_law_blocks","names","spelled","blocks","loose","unit","way","j","_law_rows","rows","block","law","script","__class__",".0"]noncomputable def nmL:List Str:=nmS.map Zz
noncomputable def nm (i:Nat):Str:=(nmL[i]?).getD ⟨#[0,i]⟩
noncomputable def hsL:List Nat->Nat
 | 0::_=>0
 | l=>l.foldl (fun a c=>(a * 31 + c) % 65537) 7 + 1
noncomputable def nmH:List Nat:=[20404,57575,11216,33054,54447,29725,62714,48620,49707,42807,9631,51033,32674,37152,33984,20121,48471,9676,46080,57042,11376,29500,12677,35550,57861,55816,20099,38996,2120,52735,16000,33672,59945,37768,26515,60152,11240,1931,31751,40754,32068,43783,34664,21649,736,46107,26772,17774,39548,37878,17661,41,42060,7437,8940,28134,49524,46201,62466,60976,62806,41419,335,6524,53419,4389,37793,8855,45160,56566,29909,23363,43835,52243,28630,40512,16253,39620,325,336,56039,58398,26863,18498,27437,8756,13183,328,29869,52469,32342,39310,49999,47219,47280,46961,6381,59677,10305,43081,9736,9222,9303,17052,2705,48929,33127,2853,20868,14476,44910,48297,13887,12999,46542,37227,61589,32452,31501,43821,21259,10108,60615,63298,55512,35220,60907,30356,49216,48216,49595,9901,323,4913,11213,1036,2020,554,54148,50548,42049,18776,63534,63067,60641,50323,26794,16361,57578,64036,19202,20131,62565,11342,61101,32129,37197,45087,61892,47780,22108,5542,12595,338,23642,4497,1904,10564,65386,25851,9507,37524,9851,33197,44867,61419,54593,32676,53458,37026,59852,46218,15801,48006,46153,54266,61763,45429,16049,19620,59617,32115,63877,324,10808,9673,40798,53304,13156,43252,8202]theorem Yey:nmL.map (fun x=>hsL x.cps.toList)=nmH:=by decide +kernel
theorem Ya6:nmH.Nodup:=by decide +kernel
theorem Zym:0∉nmH:=by decide +kernel
theorem Zjf {i j:Nat}(h:nm i=nm j):i=j:=by
 have at':∀ {k x},nmL[k]? = some x->nmH[k]? = some (hsL (nm k).cps.toList):=fun {k x} e=>by
  rw [<-Yey,Yd,e];unfold nm;rw [e];rfl
 have two:∀ k,nmL[k]? = none->nm k=⟨#[0,k]⟩:=fun k hk=>by unfold nm;rw [hk];rfl
 cases hi:nmL[i]? with
 | none=>
  cases hj:nmL[j]? with
  | none=>rw [two i hi,two j hj] at h;simpa using h
  | some y=>
   have:=at' hj
   rw [<-h,two i hi] at this
   exact absurd (Z9 this) Zym
 | some x=>
  have a:=at' hi
  cases hj:nmL[j]? with
  | none=>
   rw [h,two j hj] at a
   exact absurd (Z9 a) Zym
  | some y=>
   have b:=at' hj
   rw [h,<-b] at a
   have hw0:=Yt.mp (a.trans b)
   obtain h1:=hw0.1
   obtain e1:=hw0.2
   have hw3:=Yt.mp b
   obtain h2:=hw3.1
   obtain e2:=hw3.2
   exact (List.getElem_inj Ya6).mp (e1.trans e2.symm)
section
noncomputable abbrev Tx:=List Nat
noncomputable abbrev sT (t:Tx):Str:=⟨t.toArray⟩
set_option genCtorIdx true in
inductive BI where
 | len | list | sum | chr | str | max | range | enum | sorted | rev | set
noncomputable def BI.val:BI->Value
 | .len=>.builtin "len" | .list=>.type "list" | .sum=>.builtin "sum" | .chr=>.builtin "chr" | .str=>.type "str" | .max=>.builtin "max" | .range=>.type "range"
 | .enum=>.type "enumerate" | .sorted=>.builtin "sorted" | .rev=>.type "reversed" | .set=>.type "set"
set_option genInjectivity true in
inductive V where
 | none | bool (b:Bool) | int (i:Int) | str (t:Tx) | tup (vs:List V) | ref (a:Addr) | bi (b:BI) | rng (a b c:Int)noncomputable def V.ctorIdx (v:V):Nat:=V.casesOn (motive_1:=fun J=>Nat) v 0 (fun J=>1) (fun J=>2) (fun J=>3) (fun J=>4) (fun J=>5) (fun J=>6) (fun J J J=>7)noncomputable abbrev Zq1 (l:List Value)(n:Nat):Obj:={ cls:=.type "tuple",data:=.seq l.toArray n }
inductive Zzs:Value->Prop | none:Zzs .none
inductive Zzt (b:Bool):Value->Prop | bool:Zzt b (.bool b)
inductive Yk1 (i:Int):Value->Prop | int (t):Yk1 i (.int i t)
inductive Yky (x:Tx):Value->Prop | str (t):Yky x (.str (sT x) t)
inductive Ykz (a:Addr):Value->Prop | ref:Ykz a (.ref a)
inductive RBi (b:BI):Value->Prop | bi:RBi b b.val
inductive Yb9 (h:Heap)(a b c:Int):Value->Prop | rng {r t u v}:IsRange h r a b c t u v->Yb9 h a b c (.ref r)
inductive Zxj (h:Heap)(p:List Value->Prop):Value->Prop | tup {a l n}:h.get? a=some (Zq1 l n)->p l->Zxj h p (.ref a)
inductive Yk0:List Value->Prop | nil:Yk0 []
inductive Zn4 (p:Value->Prop)(q:List Value->Prop):List Value->Prop | cons {x l}:p x->q l->Zn4 p q (x::l)def VR (h:Heap):V->Value->Prop:=@V.rec (fun J=>Value->Prop) (fun J=>List Value->Prop) Zzs Zzt Yk1 Yky (fun J q=>Zxj h q) Ykz RBi (Yb9 h) Yk0 (fun J J p q=>Zn4 p q)def VRs (h:Heap):List V->List Value->Prop:=@V.rec_1 (fun J=>Value->Prop) (fun J=>List Value->Prop) Zzs Zzt Yk1 Yky (fun J q=>Zxj h q) Ykz RBi (Yb9 h) Yk0 (fun J J p q=>Zn4 p q)
section
variable {h:Heap}
theorem VR.none:VR h .none .none:=Zzs.none
theorem VR.bool (b):VR h (.bool b) (.bool b):=Zzt.bool
theorem VR.int (i t):VR h (.int i) (.int i t):=Yk1.int t
theorem VR.str (x t):VR h (.str x) (.str (sT x) t):=Yky.str t
theorem VR.ref (a):VR h (.ref a) (.ref a):=Ykz.ref
theorem VR.bi (b):VR h (.bi b) b.val:=RBi.bi
theorem VR.rng {a b c r t u v}(e:IsRange h r a b c t u v):VR h (.rng a b c) (.ref r):=Yb9.rng e
theorem VR.tup {vs a l n}(e:h.get? a=some (Zq1 l n))(r:VRs h vs l):VR h (.tup vs) (.ref a):=Zxj.tup e r
theorem VRs.nil:VRs h [] []:=Yk0.nil
theorem VRs.cons {v vs x l}(a:VR h v x)(b:VRs h vs l):VRs h (v::vs) (x::l):=Zn4.cons a b
theorem VRs.two {v vs l}(r:VRs h (v::vs) l):Zn4 (VR h v) (VRs h vs) l:=r
section
variable {P:Value->Prop}{x:Value}
@[elab_as_elim] theorem VR.nE (r:VR h .none x) (k:P .none):P x:=r.rec k
@[elab_as_elim] theorem VR.bE {b} (r:VR h (.bool b) x) (k:P (.bool b)):P x:=r.rec k
@[elab_as_elim] theorem VR.iE {i} (r:VR h (.int i) x) (k:∀ t,P (.int i t)):P x:=r.rec k
@[elab_as_elim] theorem VR.sE {y} (r:VR h (.str y) x) (k:∀ t,P (.str (sT y) t)):P x:=r.rec k
@[elab_as_elim] theorem VR.rE {a} (r:VR h (.ref a) x) (k:P (.ref a)):P x:=r.rec k
@[elab_as_elim] theorem VR.biE {b} (r:VR h (.bi b) x) (k:P b.val):P x:=r.rec k
@[elab_as_elim] theorem VR.tE {vs} (r:VR h (.tup vs) x) (k:∀ a l n,h.get? a=some (Zq1 l n)->VRs h vs l->P (.ref a)):P x:=r.rec fun {_ _ _} a b=>k _ _ _ a b
@[elab_as_elim] theorem VR.rgE {a b c} (r:VR h (.rng a b c) x) (k:∀ r t u v,IsRange h r a b c t u v->P (.ref r)):P x:=r.rec fun {_ _ _ _} a=>k _ _ _ _ a
end
@[elab_as_elim] theorem VRs.nE {P:List Value->Prop} {l} (r:VRs h [] l) (k:P []):P l:=r.rec k
@[elab_as_elim] theorem VRs.cE {P:List Value->Prop} {v vs l} (r:VRs h (v::vs) l) (k:∀ x l,VR h v x->VRs h vs l->P (x::l)):P l:=r.rec fun {_ _} a b=>k _ _ a b
@[elab_as_elim] theorem VRs.oE {P:List Value->Prop} {v l} (r:VRs h [v] l) (k:∀ x,VR h v x->P [x]):P l:=r.cE fun J J a b=>b.nE (k _ a)
@[elab_as_elim] theorem VRs.dE {P:List Value->Prop} {v u l} (r:VRs h [v,u] l) (k:∀ x y,VR h v x->VR h u y->P [x,y]):P l:=r.cE fun J J a b=>b.oE (k _ · a ·)theorem VRs.ht {v vs x l}(r:VRs h (v::vs) (x::l)):VR h v x/\VRs h vs l:=match r.two with | .cons a b=>⟨a,b⟩theorem VR.tupe {vs x}(r:VR h (.tup vs) x):Zxj h (VRs h vs) x:=r
end
def imm (o:Obj):Prop:=match o.data with
 | .seq ..=>o.cls= .type "tuple"
 | .fields _=>o.cls= .type "range"\/o.cls= .type "code"
 | _=>False
def Imk (h h':Heap):Prop:=∀ b o,h.get? b=some o->imm o->h'.get? b=some o
section
variable {h h':Heap}
theorem VR.mono_tup (k:Imk h h'){p q:List Value->Prop}(m:∀ l,p l->q l){x}(r:Zxj h p x):Zxj h' q x:=r.rec fun e r=>.tup (k _ _ e rfl) (m _ r)theorem VRs.mono_cons {p p':Value->Prop}{q q':List Value->Prop}(f:∀ l,p l->p' l)(g:∀ l,q l->q' l){x}(r:Zn4 p q x):Zn4 p' q' x:=r.rec fun a b=>.cons (f _ a) (g _ b)theorem VR.mono_rng (k:Imk h h'){a b c x}(r:Yb9 h a b c x):Yb9 h' a b c x:=r.rec fun e=>.rng (k _ _ e (.inl rfl))
theorem VR.mono (k:Imk h h'){v x}:VR h v x->VR h' v x:=
 @V.rec (fun v=>∀ x,VR h v x->VR h' v x) (fun v=>∀ x,VRs h v x->VRs h' v x) (fun J r=>r) (fun J J r=>r) (fun J J r=>r) (fun J J r=>r) (fun J m J r=>VR.mono_tup k m r) (fun J J r=>r) (fun J J r=>r) (fun J J J J r=>VR.mono_rng k r)
  (fun J r=>r) (fun J J f g J r=>VRs.mono_cons f g r) v x
theorem VRs.mono (k:Imk h h'){vs}:∀ {l},VRs h vs l->VRs h' vs l:=@Ycm V (fun vs=>∀ {l},VRs h vs l->VRs h' vs l) (fun r=>r) (fun _ _ ih {_} r=>VRs.mono_cons (fun J=>VR.mono k) (fun J=>ih) r) vs
end
section
variable {h:Heap}{vs us:List V}{l m:List Value}
theorem VRs.length:∀ {l},VRs h vs l->vs.length=l.length:=@Ycm V (fun vs=>∀ {l},VRs h vs l->vs.length=l.length) (fun r=>r.rec rfl) (fun _ _ ih {_} r=>r.two.rec fun J b=>congrArg Zbc (ih b)) vs
inductive VRs.At (h:Heap)(v:V)(o:Option Value):Prop | at {x} (e:o=some x) (r:VR h v x)
theorem VRs.get {i:Nat}{v:V}(r:VRs h vs l)(e:vs[i]? = some v):∃ x,l[i]? = some x/\VR h v x:=by
 induction vs generalizing l i with
 | nil=>cases e
 | cons u us ih=>
  obtain ⟨a,b⟩:=r.two
  cases i with
  | zero=>cases e;exact ⟨_,rfl,a⟩
  | succ i=>exact (ih (i:=i) b e :)
theorem VRs.append (r:VRs h vs l)(r2:VRs h us m):VRs h (vs++us) (l++m):=by
 induction vs generalizing l with
 | nil=>cases r;exact r2
 | cons u ws ih=>
  obtain ⟨a,b⟩:=r.two
  exact VRs.cons a (ih b)
theorem VRs.take (r:VRs h vs l)(n:Nat):VRs h (vs.take n) (l.take n):=by
 induction n generalizing vs l with
 | zero=>exact .nil
 | succ n ih=>
  cases vs with
  | nil=>cases r;exact .nil
  | cons u us=>obtain ⟨a,b⟩:=r.two;exact .cons a (ih b)
theorem VRs.drop (r:VRs h vs l)(n:Nat):VRs h (vs.drop n) (l.drop n):=by
 induction n generalizing vs l with
 | zero=>exact r
 | succ n ih=>
  cases vs with
  | nil=>cases r;exact .nil
  | cons u us=>obtain ⟨a,b⟩:=r.two;exact ih b
theorem VRs.one {v x}(r:VR h v x):VRs h [v] [x]:=.cons r .nil
theorem VRs.reverse (r:VRs h vs l):VRs h vs.reverse l.reverse:=by
 induction vs generalizing l with
 | nil=>cases r;exact .nil
 | cons u us ih=>obtain ⟨a,b⟩:=r.two;rw [Y7,Y7];exact (ih b).append (VRs.one a)
end
set_option genInjectivity true in
inductive O where
 | list (xs:List V)
 | dI (kvs:List (Int×V))
 | dS (kvs:List (Tx×V))
 | dIf (kvs:List (Int×V)) (ep:Nat)
 | at (fs:List (Nat×V))
 | inst (c d:Addr)
 | acc (c d:Addr) (xs:List V)
 | set (S:Str->Bool) (n:Nat)
 | sset (keys:List Tx)
 | cell (v:Option V)
 | fn (fd:YF)
 | meth (f:Addr) (self:V)noncomputable def O.ctorIdx (v:O):Nat:=O.casesOn (motive:=fun J=>Nat) v (fun J=>0) (fun J=>1) (fun J=>2) (fun J J=>3) (fun J=>4) (fun J J=>5) (fun J J J=>6) (fun J J=>7) (fun J=>8) (fun J=>9) (fun J=>10) (fun J J=>11)
inductive EntR (h:Heap):Option V->Option XD->Prop
 | none:EntR h none none
 | some {v e}:VR h v e.val->EntR h (some v) (some e)def AtE (h:Heap)(fs:List (Nat×V))(es:List XD):Prop:=(es.length<=fs.length)/\((es.any (·.refKey))=false)/\(∀ i,EntR h (fs.lookup i) (es.find? (·.key.isStr (nm i))))def AtE.len (z:@AtE h fs es):=z.1
def AtE.nk (z:@AtE h fs es):=z.2.1
def AtE.ent (z:@AtE h fs es):=z.2.2
def Yhs (h:Heap)(d:Addr)(fs:List (Nat×V)):Prop:=∃ es n,h.get? d=some (dictOf es n)/\AtE h fs es
inductive Zl5 (h:Heap):Option V->Option Value->Prop
 | none:Zl5 h none none
 | some {v x}:VR h v x->Zl5 h (some v) (some x)def Zfr (h:Heap)(cv:Value):Prop:=∃ c o vs q t,cv= .ref c/\h.get? c=some o/\o.cls= .type "code"/\o.data= .fields vs/\vs[1]? = some (.str q t)theorem Yfy {o:Obj}{vs}(ed:o.data= .fields vs)(ec:o.cls= .type "code"):imm o:=by unfold imm;rw [ed];exact .inr ec
theorem Zfr.mono {h h':Heap}{cv:Value}(x:Zfr h cv)(k:Imk h h'):Zfr h' cv:=
 x.imp fun c x=>x.imp fun o x=>x.imp fun J x=>x.imp fun J x=>x.imp fun J x=>⟨x.1,k c o x.2.1 (Yfy x.2.2.2.1 x.2.2.1),x.2.2⟩
structure Zl2 (prog:YL)(w:World)(h:Heap)(a:Addr)(keys:List Tx)(o:Obj)(es:Array (Int×Value))(ep:Nat)(t:SetTable)(ks:List Tx):Prop where
 e:h.get? a=some o
 ex:o.ExactSet
 d:o.data= .set es ep t
 el:ElemsOf (strKind prog w) es.toList
 f:t.fits es.size=true/\t.dummies= #[]/\7<=t.mask
 l:t.led=true\/w.params.followText "set-order" = true
 p:t.plain=false
 s:es.size<=3
 k:ks.Perm keys
 r:VRs h (ks.map .str) (es.toList.map (·.2))
def Ze1 (prog:YL)(w:World)(h:Heap)(a:Addr)(keys:List Tx):Prop:=
 ∃ (o:Obj) (es:Array (Int×Value)) (ep:Nat) (t:SetTable) (ks:List Tx),Zl2 prog w h a keys o es ep t ks
section
variable (prog:YL)(w:World)(h:Heap)(a:Addr)
inductive DL (xs:List V):Prop | list {l}:h.PlainList a l.toArray->VRs h xs l->DL xs
inductive DDI (kvs:List (Int×V)):Prop | dI {l}:h.DictOf (Zdb prog w) a l->l.map (·.1)=kvs.map (·.1)->VRs h (kvs.map (·.2)) (l.map (·.2))->DDI kvs
inductive DDS (kvs:List (Tx×V)):Prop | dS {l}:h.DictOf (strKind prog w) a l->l.map (·.1)=kvs.map (fun p=>sT p.1)->VRs h (kvs.map (·.2)) (l.map (·.2))->DDS kvs
inductive Yql (kvs:List (Int×V))(ep:Nat):Prop | dIf {l}:h.DictAt (Zdb prog w) a l ep->l.map (·.1)=kvs.map (·.1)->VRs h (kvs.map (·.2)) (l.map (·.2))->Yql kvs ep
inductive DA (c d:Addr)(xs:List V):Prop | acc {l n}:h.get? a=some { cls:=.ref c,dict:=some d,data:=.seq l.toArray n }->VRs h xs l->DA c d xs
inductive DC (v:Option V):Prop | cell {x o}:h.get? a=some o->o.data= .cell x->Zl5 h v x->DC v
inductive DM (f:Addr)(v:V):Prop | meth {x}:h.get? a=some (methodObj (.ref f) x)->VR h v x->DM f v
inductive DF (fd:YF):Prop | fn {o}:h.get? a=some o->o.data= .func fd->Zfr h fd.code->DF fd
def Den (o:O):Prop:=o.rec (DL h a) (DDI prog w h a) (DDS prog w h a) (Yql prog w h a) (Yhs h a) (fun c d=>h.get? a=some (instObj c d)) (DA h a) (h.SetOf (strKind prog w) a) (Ze1 prog w h a) (DC h a) (DF h a) (DM h a)
variable {prog w h a}
theorem Den.list {xs l}(x:h.PlainList a l.toArray)(y:VRs h xs l):Den prog w h a (.list xs):=DL.list x y
theorem Den.dI {kvs l}(x:h.DictOf (Zdb prog w) a l)(y:l.map (·.1)=kvs.map (·.1))(z:VRs h (kvs.map (·.2)) (l.map (·.2))):Den prog w h a (.dI kvs):=DDI.dI x y z
theorem Den.dS {kvs l}(x:h.DictOf (strKind prog w) a l)(y:l.map (·.1)=kvs.map (fun p=>sT p.1))(z:VRs h (kvs.map (·.2)) (l.map (·.2))):Den prog w h a (.dS kvs):=DDS.dS x y z
theorem Den.dIf {kvs l ep}(x:h.DictAt (Zdb prog w) a l ep)(y:l.map (·.1)=kvs.map (·.1))(z:VRs h (kvs.map (·.2)) (l.map (·.2))):Den prog w h a (.dIf kvs ep):=Yql.dIf x y z
theorem Den.at {fs}(x:Yhs h a fs):Den prog w h a (.at fs):=x
theorem Den.inst {c d}(x:h.get? a=some (instObj c d)):Den prog w h a (.inst c d):=x
theorem Den.acc {c d xs l n}(x:h.get? a=some { cls:=.ref c,dict:=some d,data:=.seq l.toArray n })(y:VRs h xs l):Den prog w h a (.acc c d xs):=DA.acc x y
theorem Den.cell {v x o}(y:h.get? a=some o)(z:o.data= .cell x)(r:Zl5 h v x):Den prog w h a (.cell v):=DC.cell y z r
theorem Den.meth {f v x}(y:h.get? a=some (methodObj (.ref f) x))(z:VR h v x):Den prog w h a (.meth f v):=DM.meth y z
theorem Den.set {S n}(x:h.SetOf (strKind prog w) a S n):Den prog w h a (.set S n):=x
theorem Den.sset {keys}(x:Ze1 prog w h a keys):Den prog w h a (.sset keys):=x
theorem Den.fn {fd o}(x:h.get? a=some o)(y:o.data= .func fd)(z:Zfr h fd.code):Den prog w h a (.fn fd):=DF.fn x y z
end
end
section
section
variable {α β:Type}{M:Model}{A:Yg}{E:Value->Zd->Prop}{s:Zd}{Q:β->Zd->Prop}
theorem wbP {a:α}{f:α->Sem β}(h:wpAny M A (f a) Q E s):wpAny M A (pure a >>= f) Q E s:=Zc (Ze h)theorem K7 {c:Prop}[Decidable c]{a b:Sem β}(h:c)(k:wpAny M A a Q E s):wpAny M A (if c then a else b) Q E s:=by rw [if_pos h];exact k
theorem Y5 {c:Prop}[Decidable c]{a b:Sem β}(h : ¬c)(k:wpAny M A b Q E s):wpAny M A (if c then a else b) Q E s:=by rw [if_neg h];exact k
theorem wbR {tag:String}{f:Unit->Sem β}(h:wpAny M A (f ()) Q E s):wpAny M A (rule tag >>= f) Q E s:=Zc (Zz2 h)theorem wbS {pos:Pos}{f:Unit->Sem β}(h:wpAny M A (f ()) Q E s):wpAny M A (Zgi pos >>= f) Q E s:=Zc (Zbz h)theorem wbE {t:Sem α}{a:α}{f:α->Sem β}(h:t=pure a)(hQ:wpAny M A (f a) Q E s):wpAny M A (t >>= f) Q E s:=Zc (Kq h hQ)theorem wbH {vs:List Value}{m:Sem α}{f:α->Sem β}(h:wpAny M A m (fun a s'=>wpAny M A (f a) Q E s') E s):wpAny M A (Zrr vs m >>= f) Q E s:=Zc (Yl h)theorem wbM {t:Sem α}{f:α->Sem β}{Q':α->Zd->Prop}{E':Value->Zd->Prop}(h:wpAny M A t Q' E' s)(hQ:∀ a s,Q' a s->wpAny M A (f a) Q E s)(hE:∀ e s,E' e s->E e s):wpAny M A (t >>= f) Q E s:=Zc (Zy h hQ hE)theorem wbG {removed keep:List Value}{f:Unit->Sem β}(h:wpAny M A (f ()) Q E s):wpAny M A (letGo removed keep >>= f) Q E s:=Zc (wpAny_letGo h)theorem wbO {v:Value}{T:String}{name:Str}{r:Option Value}{f:Option Value->Sem β}(hT:s.TypeIs v T)(h:Zj4 (.type T) name=pure r)(hQ:wpAny M A (f r) Q E s):wpAny M A (Yhw v name >>= f) Q E s:=Zc (wpAny_specialOf hT h hQ)theorem wbL {a:Addr}{o:Obj}{f:Obj->Sem β}(ho:s.heap.get? a=some o)(h:wpAny M A (f o) Q E s):wpAny M A (load a >>= f) Q E s:=Zc (wpAny_load ho h)theorem wbT {v:Value}{T:String}{f:Value->Sem β}(h:s.TypeIs v T)(hQ:wpAny M A (f (.type T)) Q E s):wpAny M A (Zfu v >>= f) Q E s:=Zc (Zj2 h hQ)theorem wbI {v:Value}{T U:String}{b:Bool}{f:Bool->Sem β}(hT:s.TypeIs v T)(h:Zex (.type T) (.type U)=pure b)(hQ:wpAny M A (f b) Q E s):wpAny M A (UG v (.type U) >>= f) Q E s:=Zc (Zi3 hT h hQ)theorem wbA {f:Setting->Sem β}(h:wpAny M A (f ⟨M.prog,M.w.params⟩) Q E s):wpAny M A (ask >>= f) Q E s:=Zc (wpAny_askSetting h)theorem wbQ {a:Addr}{o:Obj}{items:Array Value}{n:Nat}{f:Option (Array Value)->Sem β}(ho:s.heap.get? a=some o)(hd:o.data= .seq items n)(h:wpAny M A (f (some items)) Q E s):wpAny M A (Yhx (.ref a) >>= f) Q E s:=Zc (Zz0 ho hd h)theorem wbF {a:Addr}{o:Obj}{vs:Array Value}{f:Array Value->Sem β}(ho:s.heap.get? a=some o)(hd:o.data= .fields vs)(h:wpAny M A (f vs) Q E s):wpAny M A (PySem.fieldsOf (.ref a) >>= f) Q E s:=Zc (wpAny_fieldsOf ho hd h)theorem wbD {a:Addr}{o:Obj}{vs:Array Value}{i:Nat}{x:Value}{f:Value->Sem β}(ho:s.heap.get? a=some o)(hd:o.data= .fields vs)(hi:vs[i]? = some x)(h:wpAny M A (f x) Q E s):wpAny M A (field (.ref a) i >>= f) Q E s:=Zc (Zbe ho hd hi h)theorem wbU {a:Addr}{o:Obj}{vs:Array Value}{i:Nat}{x:Value}{f:Unit->Sem β}(ho:s.heap.get? a=some o)(hd:o.data= .fields vs)(hi:i < vs.size)(h:wpAny M A (f ()) Q E { s with heap:=s.heap.update a (Zhg (·.setIfInBounds i x)) }):wpAny M A (setField (.ref a) i x >>= f) Q E s:=Zc (wpAny_setField ho hd hi h)
end
noncomputable abbrev upd {α:Type}(f:Nat->Option α)(a:Nat)(x:α):Nat->Option α:=fun b=>if b=a then some x else f b
section
variable {α:Type}{o:Option α}{x y:α}{p:Prop}{f:Nat->Option α}{a b:Nat}
theorem nn (h:o=none)(e:o=some x):p:=nomatch (h.symm.trans e)theorem nS (h:o=none)(e:o.isSome=true):p:=by rw [h] at e;exact Yw e
theorem iS (e:o=some x):o.isSome=true:=by rw [e];rfl
theorem Sn (h:∀ x,o=some x->False):o=none:=by cases o with | none=>rfl | some x=>exact (h x rfl).elim
theorem si (h:o=some x)(e:o=some y):x=y:=Z1 (h.symm.trans e)theorem Zcc:upd f a x a=some x:=if_pos rfl
theorem Zbq (h:b≠a):upd f a x b=f b:=if_neg h
theorem Zay (h:b≠a)(e:f b=o):upd f a x b=o:=(Zbq h).trans e
theorem Zq0 {P:Nat->α->Prop}(e:upd f a x b=some y)(h1:P a x)(h2:b≠a->f b=some y->P b y):P b y:=
 if q:b=a then by subst q;exact Z1 (Zcc.symm.trans e)▸h1 else h2 q ((Zbq q).symm.trans e)
theorem Zph {P:Nat->Prop}(e:(upd f a x b).isSome=true)(h1:P a)(h2:(f b).isSome=true->P b):P b:=
 if q:b=a then q▸h1 else h2 (Zbq (f:=f) (x:=x) q▸e)
end
structure St where
 σ:Addr->Option O
 lv:Nat->Option V
 cv:Nat->Option Addr
structure GC where
 prog:YL
 w:World
 B:Heap
 os:Yk4
 K:Frag
 T:List (Addr×Addr)
structure Tab (h:Heap)(c P:Addr)(ps:Array Value):Prop where
 hd:∃ o vs,h.get? c=some o/\o.cls= .type "code"/\o.data= .fields vs/\vs[11]? = some (.ref P)
 at_:h.get? P=some { cls:=.none,data:=.fields ps }
 codes:∀ pos cv,codeAmong pos ps.toList=some cv->Zfr h cv
theorem Tab.table {h:Heap}{c P:Addr}{ps:Array Value}(x:Tab h c P ps):h.TableAt c P ps:=⟨x.1,x.2⟩
theorem Tab.but {h h':Heap}{c P:Addr}{ps:Array Value}(x:Tab h c P ps)(ik:Imk h h')(hc:∀ o,h.get? c=some o->h'.get? c=some o)(hP:∀ o,h.get? P=some o->h'.get? P=some o):Tab h' c P ps:=
 ⟨let ⟨o,vs,a,b⟩:=x.1;⟨o,vs,hc _ a,b⟩,hP _ x.2,fun pos cv e=>(x.3 pos cv e).mono ik⟩
structure TabR (G:GC)(L:Addr)(σ:Addr->Option O)(h:Heap)(p:Addr×Addr):Prop where
 t:∃ ps,h.IsCode p.1 p.2 ps/\Tab h p.1 p.2 ps
 s0:σ p.2=none
 l0:p.2≠L
 b0:G.B.get? p.2=none
 c0:(G.B.get? p.1).isSome
structure RS (G:GC)(env:Env)(st:St)(s:Zd):Prop where
 fr:∃ m,Fr G.B env.locals s.heap m/\∀ i v,st.lv i=some v->∃ x,m (nm i)=some x/\VR s.heap v x
 den:∀ a o,st.σ a=some o->Den G.prog G.w s.heap a o/\G.B.get? a=none/\a≠env.locals
 cel:∀ i c,st.cv i=some c->env.cells.lookup (nm i)=some c
 tab:∀ p∈G.T,TabR G env.locals st.σ s.heap p
 bare:Ir s.gens
 os:s.os=G.os
structure Stp (G:GC)(env:Env)(st st':St)(s s':Zd):Prop where
 keep:∀ b o,s.heap.get? b=some o->st.σ b=none->b≠env.locals->(∀ c,(c,b)∉G.T)->s'.heap.get? b=some o
 live:∀ b o,s.heap.get? b=some o->(s'.heap.get? b).isSome
 new:∀ b,(st'.σ b).isSome->(st.σ b).isSome\/s.heap.get? b=none
 gens:∀ (g:Nat) x,s.gens[g]? = some x->s'.gens[g]? = some x
variable {G:GC}{env:Env}{st st' st'':St}{s s' s'':Zd}
theorem Stp.refl:Stp G env st st s s:=⟨fun J J e J J J=>e,fun J J e=>iS e,fun J h=>.inl h,fun J J h=>h⟩
theorem Stp.trans (a:Stp G env st st' s s')(b:Stp G env st' st'' s' s''):Stp G env st st'' s s'':=
 ⟨fun x o e h1 h2 h3=>b.keep x o (a.keep x o e h1 h2 h3) (Sn fun J q=>(a.new x (iS q)).elim (nS h1) fun r=>nn r e) h2 h3,
  fun x o e=>b.live x _ (Z2.mp (a.live x o e)).choose_spec,
  fun x h=>(b.new x h).elim (a.new x) fun r=>.inr (Sn fun o q=>nS r (a.live x o q)),fun g x h=>b.gens g x (a.gens g x h)⟩theorem Znd {o:Obj}{l n}(d:o.data= .seq l n)(h:o.cls≠.type "tuple") : ¬ imm o:=by unfold imm;rw [d];exact h
theorem Zng:Xz "list"≠.type "tuple":=by decide
theorem Ybb {f x} : ¬ imm (methodObj f x):=fun h=>h.elim (fun h=>absurd (Zhi h) (by decide)) (fun h=>absurd (Zhi h) (by decide))theorem Ya7 {l} : ¬ imm ({ cls:=.none,data:=.fields l }:Obj):=fun h=>h.elim (fun h=>nomatch h) fun h=>nomatch h
theorem Zcj {o:Obj}{l n}(d:o.data= .dict l n) : ¬ imm o:=by unfold imm;rw [d];exact id
theorem Zkd {o:Obj}{l n t}(d:o.data= .set l n t) : ¬ imm o:=by unfold imm;rw [d];exact id
theorem Ya8 {o:Obj}{l}(d:o.data= .func l) : ¬ imm o:=by unfold imm;rw [d];exact id
theorem Ya9 {o:Obj}{l}(d:o.data= .cell l) : ¬ imm o:=by unfold imm;rw [d];exact id
theorem Den.obj {h:Heap}{a:Addr}{o:O}(d:Den G.prog G.w h a o):∃ ob,h.get? a=some ob/\¬ imm ob:=by
 cases o with
 | list xs=>obtain ⟨⟨n,e⟩,_⟩:=d;exact ⟨_,e,Znd rfl Zng⟩
 | dI kvs=>obtain ⟨⟨_,_,_,e,_,y,_⟩,_,_⟩:=d;exact ⟨_,e,Zcj y⟩
 | dS kvs=>obtain ⟨⟨_,_,_,e,_,y,_⟩,_,_⟩:=d;exact ⟨_,e,Zcj y⟩
 | dIf kvs ep=>obtain ⟨⟨_,_,e,_,y,_⟩,_,_⟩:=d;exact ⟨_,e,Zcj y⟩
 | «at» fs=>obtain ⟨_,_,e,_⟩:=d;exact ⟨_,e,Zcj rfl⟩
 | inst c d'=>exact ⟨_,d,id⟩
 | acc c d' xs=>obtain ⟨e,_⟩:=d;exact ⟨_,e,Znd rfl (fun q=>nomatch q)⟩
 | set S n=>obtain ⟨_,_,_,_,e,_,y,_⟩:=d;exact ⟨_,e,Zkd y⟩
 | sset keys=>obtain ⟨_,_,_,_,_,q⟩:=d;exact ⟨_,q.e,Zkd q.d⟩
 | cell v=>obtain ⟨e,d,_⟩:=d;exact ⟨_,e,Ya9 d⟩
 | fn fd=>obtain ⟨e,d,_⟩:=d;exact ⟨_,e,Ya8 d⟩
 | meth f v=>obtain ⟨e,_⟩:=d;exact ⟨_,e,Ybb⟩theorem Zl5.mono {h h':Heap}{v x}(k:Imk h h')(r:Zl5 h v x):Zl5 h' v x:=r.rec .none fun r=>.some (r.mono k)
theorem Den.mono {h h':Heap}{a:Addr}{o:O}(d:Den G.prog G.w h a o)(k:Imk h h')(ha:∀ ob,h.get? a=some ob->h'.get? a=some ob):Den G.prog G.w h' a o:=by
 cases o with
 | list xs=>exact d.rec fun p r=>.list (p.at ha) (r.mono k)
 | dI kvs=>exact d.rec fun p e r=>.dI (p.at ha) e (r.mono k)
 | dS kvs=>exact d.rec fun p e r=>.dS (p.at ha) e (r.mono k)
 | dIf kvs ep=>exact d.rec fun p e r=>.dIf (p.at ha) e (r.mono k)
 | «at» fs=>
  exact d.imp fun J d=>d.imp fun J d=>⟨ha _ d.1,d.2.len,d.2.nk,fun i=>(d.2.ent i).rec .none fun r=>.some (r.mono k)⟩
 | inst c d'=>exact ha _ d
 | acc c d' xs=>exact d.rec fun e r=>.acc (ha _ e) (r.mono k)
 | cell v=>exact d.rec fun e d r=>.cell (ha _ e) d (r.mono k)
 | meth f v=>exact d.rec fun e r=>.meth (ha _ e) (r.mono k)
 | set S n=>exact d.imp fun J d=>d.imp fun J d=>d.imp fun J d=>d.imp fun J d=>⟨ha _ d.1,d.2⟩
 | sset keys=>exact d.imp fun J d=>d.imp fun J d=>d.imp fun J d=>d.imp fun J d=>d.imp fun J q=>⟨ha _ q.e,q.ex,q.d,q.el,q.f,q.l,q.p,q.s,q.k,q.r.mono k⟩
 | fn fd=>exact d.rec fun e d c=>.fn (ha _ e) d (c.mono k)
theorem RS.off_imm (R:RS G env st s){b:Addr}{o:Obj}(e:s.heap.get? b=some o)(hi:imm o):st.σ b=none/\b≠env.locals/\(∀ c,(c,b)∉G.T):=by
 refine ⟨Sn fun x q=>?_,fun q=>?_,fun c hT=>?_⟩
 ·refine ((R.den b x q).1.obj).elim fun ob hr50=>hr50.elim fun e' ni=>?_
  exact ni (si e e'▸hi)
 ·refine R.fr.elim fun m hr50=>hr50.elim fun F _=>?_
  refine F.ns.elim fun o' hr50=>hr50.elim fun es hr51=>hr51.elim fun ep hr52=>hr52.elim fun e' hr53=>hr53.elim fun d _=>?_
  exact Zcj d (si e (q▸e')▸hi)
 ·refine ((R.tab _ hT).t).elim fun ps hr50=>hr50.elim fun _ t=>?_
  exact Ya7 (si e t.2▸hi)
theorem RS.imk (R:RS G env st s)(S:Stp G env st st' s s'):Imk s.heap s'.heap:=fun b o e hi=>
 have q:=R.off_imm e hi
 S.keep b o e q.1 q.2.1 q.2.2
theorem RS.vr (R:RS G env st s)(S:Stp G env st st' s s'){v:V}{x:Value}(h:VR s.heap v x):VR s'.heap v x:=h.mono (R.imk S)theorem Zdc {h h':Heap}{lv:Nat->Option V}{m:Str->Option Value}(ik:Imk h h')(fl:∀ i v,lv i=some v->∃ x,m (nm i)=some x/\VR h v x)(i v)(e:lv i=some v):∃ x,m (nm i)=some x/\VR h' v x:=(fl i v e).imp fun J q=>⟨q.1,q.2.mono ik⟩
theorem RS.ext (R:RS G env st s){h':Heap}{t:Nat}{d:Drawn}(k:∀ b o,s.heap.get? b=some o->h'.get? b=some o) :
  RS G env st ⟨h',s.gens,d,t,s.os⟩/\Stp G env st st s ⟨h',s.gens,d,t,s.os⟩:=
 have ik:Imk s.heap h':=fun b o e J=>k b o e
 ⟨⟨R.fr.imp fun J F=>⟨⟨F.1.ns.keeps k,fun b o e=>k b o (F.1.keep b o e),F.1.above⟩,Zdc ik F.2⟩,fun a o e=>⟨(R.den a o e).1.mono ik fun ob=>k a ob,(R.den a o e).2⟩,R.cel,
  fun p h=>⟨(R.tab p h).t.imp fun J q=>⟨q.1.keeps k,q.2.but ik (k _) (k _)⟩,(R.tab p h).s0,(R.tab p h).l0,(R.tab p h).b0,(R.tab p h).c0⟩,R.bare,R.os⟩,
  ⟨fun b o e J J J=>k b o e,fun b o e=>iS (k b o e),fun b h=>.inl h,fun J J h=>h⟩⟩theorem Den.lt {h:Heap}{a:Addr}{o:O}(d:Den G.prog G.w h a o):a < h.objs.size:=ZL d.obj.choose_spec.1
theorem RS.put (R:RS G env st s){a:Addr}{h':Heap}{t:Nat}{d:Drawn}{o':O}(hσ:(st.σ a).isSome\/s.heap.get? a=none)
  (x:∀ b o,b≠a->s.heap.get? b=some o->h'.get? b=some o) (D:Den G.prog G.w h' a o') :
  RS G env ⟨upd st.σ a o',st.lv,st.cv⟩ ⟨h',s.gens,d,t,s.os⟩/\Stp G env st ⟨upd st.σ a o',st.lv,st.cv⟩ s ⟨h',s.gens,d,t,s.os⟩:=
 have off:∀ {b ob},s.heap.get? b=some ob->st.σ b=none->b≠a:=fun e h q=>hσ.elim (nS (q▸h)) fun n=>nn n (q▸e)
 have ik:Imk s.heap h':=fun b o e hi=>x b o (off e (R.off_imm e hi).1) e
 have hB:∀ b o,G.B.get? b=some o->b≠a:=fun b o e q=>by
  refine R.fr.elim fun m hr50=>hr50.elim fun F _=>?_
  exact off (F.keep b o e) (Sn fun J z=>nn (R.den _ _ z).2.1 e) q
 have hL:env.locals≠a:=by
  refine R.fr.elim fun m hr50=>hr50.elim fun F _=>?_
  refine F.ns.elim fun oo hr50=>hr50.elim fun es hr51=>hr51.elim fun ep hr52=>hr52.elim fun e _=>?_
  exact off e (Sn fun J z=>(R.den _ _ z).2.2 rfl)
 ⟨⟨R.fr.imp fun J F=>⟨⟨F.1.ns.extBut (b:=a) (fun b o h e=>x b o h e) hL,fun b o e=>x b o (hB b o e) (F.1.keep b o e),F.1.above⟩,Zdc ik F.2⟩,
   fun b o e=>Zq0 (P:=fun b o=>Den G.prog G.w h' b o/\G.B.get? b=none/\b≠env.locals) e ⟨D,Sn fun o q=>hB a o q rfl,hL.symm⟩ fun q e=>⟨(R.den b o e).1.mono ik fun ob eb=>x b ob q eb,(R.den b o e).2⟩,R.cel,fun p h=>by
    obtain ⟨⟨ps,i1,t1⟩,s0,l0,b0,c0⟩:=R.tab p h
    have h1:=hB p.1 _ (Z2.mp c0).choose_spec
    have h2:=off t1.2 s0
    exact ⟨⟨ps,i1.extBut (fun b o h e=>x b o h e) h1 h2,t1.but ik (fun o e=>x _ o h1 e) (fun o e=>x _ o h2 e)⟩,Zay h2 s0,l0,b0,c0⟩,R.bare,R.os⟩,
  ⟨fun b o e h1 J J=>x b o (off e h1) e,fun b o e=>if q:b=a then by obtain ⟨ob,e',_⟩:=D.obj;exact q▸iS e' else iS (x b o q e),fun b h=>Zph (P:=fun b=>(st.σ b).isSome\/s.heap.get? b=none) h hσ .inl,fun J J h=>h⟩⟩
end
section
noncomputable abbrev Hp:=Addr->Option O
variable {G:GC}{env:Env}{st:St}{s s':Zd}{A:Yg}{E:Value->Zd->Prop}
structure PVw (G:GC)(env:Env)(st:St)(s:Zd)(Q:V->Hp->Prop)(val:Value)(s':Zd)(v:V)(σ':Hp):Prop where
 R:RS G env ⟨σ',st.lv,st.cv⟩ s'
 S:Stp G env st ⟨σ',st.lv,st.cv⟩ s s'
 r:VR s'.heap v val
 q:Q v σ'
def PV (G:GC)(env:Env)(st:St)(s:Zd)(Q:V->Hp->Prop)(val:Value)(s':Zd):Prop:=∃ v σ',PVw G env st s Q val s' v σ'
structure PUw (G:GC)(env:Env)(st:St)(s:Zd)(Q:Hp->Prop)(s':Zd)(σ':Hp):Prop where
 R:RS G env ⟨σ',st.lv,st.cv⟩ s'
 S:Stp G env st ⟨σ',st.lv,st.cv⟩ s s'
 q:Q σ'
def PU (G:GC)(env:Env)(st:St)(s:Zd)(Q:Hp->Prop)(s':Zd):Prop:=∃ σ',PUw G env st s Q s' σ'
theorem PV.from {Q:V->Hp->Prop}{W0:Hp}{j0:Zd}(S:Stp G env st ⟨W0,st.lv,st.cv⟩ s j0){val:Value}(p:PV G env ⟨W0,st.lv,st.cv⟩ j0 Q val s'):PV G env st s Q val s':=
 p.imp fun J p=>p.imp fun J p=>⟨p.R,S.trans p.S,p.r,p.q⟩
theorem PU.from {Q:Hp->Prop}{W0:Hp}{j0:Zd}(S:Stp G env st ⟨W0,st.lv,st.cv⟩ s j0)(p:PU G env ⟨W0,st.lv,st.cv⟩ j0 Q s'):PU G env st s Q s':=
 p.imp fun J p=>⟨p.R,S.trans p.S,p.q⟩theorem PV.now (R:RS G env st s){Q:V->Hp->Prop}{v:V}{val:Value}(h:VR s.heap v val)(q:Q v st.σ):PV G env st s Q val s:=⟨v,st.σ,R,.refl,h,q⟩
theorem PV.ext (R:RS G env st s){Q:V->Hp->Prop}{v:V}{val:Value}{t:Nat}{d:Drawn}{h':Heap}(k:∀ b o,s.heap.get? b=some o->h'.get? b=some o)(h:VR h' v val)(q:Q v st.σ):PV G env st s Q val ⟨h',s.gens,d,t,s.os⟩:=
 have k:=R.ext (h':=h') (t:=t) (d:=d) k
 ⟨v,st.σ,k.1,k.2,h,q⟩theorem PV.tok (R:RS G env st s){Q:V->Hp->Prop}{v:V}{val:Value}{t:Nat}{d:Drawn}(h:VR s.heap v val)(q:Q v st.σ):PV G env st s Q val ⟨s.heap,s.gens,d,t,s.os⟩:=PV.ext R (fun J J e=>e) h q
theorem RS.fresh (R:RS G env st s){a:Addr}(hn:s.heap.get? a=none):st.σ a=none:=Sn fun x e=>nn hn (R.den a x e).1.obj.choose_spec.1
theorem PV.new (R:RS G env st s){Q:V->Hp->Prop}{t:Nat}{d:Drawn}{h':Heap}{a:Addr}{o:O}(hn:s.heap.get? a=none)(k:∀ b o,s.heap.get? b=some o->h'.get? b=some o)(D:Den G.prog G.w h' a o)
  (q:st.σ a=none->Q (.ref a) (upd st.σ a o)):PV G env st s Q (.ref a) ⟨h',s.gens,d,t,s.os⟩:=
 have P:=R.put (h':=h') (t:=t) (d:=d) (.inr hn) (fun b o J e=>k b o e) D
 ⟨.ref a,_,P.1,P.2,.ref a,q (R.fresh hn)⟩
theorem PU.put (R:RS G env st s){Q:Hp->Prop}{t:Nat}{d:Drawn}{h':Heap}{a:Addr}{o:O}(hs:(st.σ a).isSome)(x:XN a s.heap h')(D:Den G.prog G.w h' a o)
  (q:Q (upd st.σ a o)):PU G env st s Q ⟨h',s.gens,d,t,s.os⟩:=
 have P:=R.put (h':=h') (t:=t) (d:=d) (.inl hs) (fun b o h e=>x b o h e) D
 ⟨_,P.1,P.2,q⟩theorem Yy (h:Heap):h.get? h.objs.size=none:=Sn fun J e=>absurd (ZL e) (Un _)theorem Den.of_list {h:Heap}{a:Addr}{xs:List V}(d:Den G.prog G.w h a (.list xs)):∃ l,h.PlainList a l.toArray/\VRs h xs l:=d.rec fun p r=>⟨_,p,r⟩abbrev W (G:GC)(A:Yg){α:Type}(t:Sem α)(Q:α->Zd->Prop)(E:Value->Zd->Prop)(s:Zd):Prop:=wpAny (model G.prog G.w) A t Q E s
abbrev small (i:Int):Prop:=-(10 ^ 9)<=i/\i<=10 ^ 9
inductive Zr0 (Q:V->Hp->Prop)(σ:Hp):Zeb->V->V->Prop
 | add {i j}:Q (.int (i + j)) σ->Zr0 Q σ .Add (.int i) (.int j)
 | sub {i j}:Q (.int (i - j)) σ->Zr0 Q σ .Sub (.int i) (.int j)
 | mult {i j}:small i->small j->Q (.int (i * j)) σ->Zr0 Q σ .Mult (.int i) (.int j)
 | fdiv {i j}:small i->0 < j->j < 1000->Q (.int (i.fdiv j)) σ->Zr0 Q σ .FloorDiv (.int i) (.int j)
 | mod {i j}:j≠0->Q (.int (i.fmod j)) σ->Zr0 Q σ .Mod (.int i) (.int j)
 | addS {x y}:x.length + y.length<=100000->Q (.str (x++y)) σ->Zr0 Q σ .Add (.str x) (.str y)
 | addL {a b xs ys}:σ a=some (.list xs)->σ b=some (.list ys)->xs.length + ys.length<=100000->(∀ n,σ n=none->Q (.ref n) (upd σ n (.list (xs++ys))))->Zr0 Q σ .Add (.ref a) (.ref b)
theorem Zed (x y:Tx):(sT x++sT y:Str)=sT (x++y):=by
 apply Str.ext'
 rw [Str.cps_append]
 simp
theorem sT_length (x:Tx):(sT x).length=x.length:=rfl
theorem Zv2 {i:Int}(h:small i):Builtin.Int.intBits i<=64:=PySem.intBits_le_64 (Ylg (by decide) h.1) (Zc3 h.2 (by decide))theorem YD {n:Nat}(h:n<=100000):n<=Zi8:=Zdr▸Zb h (by decide)theorem Yah {i j:Int}(h2:0 < j)(h3:j < 1000):Zoe i j=false:=Zu1 (by omega)theorem VRs.pushed {h:Heap}{o:Obj}{vs:List V}{l:List Value}(r:VRs h vs l):VRs (h.push o) vs l:=r.mono fun J J e J=>Zg _ e
theorem PV.list (R:RS G env st s){Q:V->Hp->Prop}{t:Nat}{d:Drawn}{vs:List V}{l:Array Value}(r:VRs s.heap vs l.toList)(q:∀ n,st.σ n=none->Q (.ref n) (upd st.σ n (.list vs))) :
  PV G env st s Q (.ref s.heap.objs.size) ⟨s.heap.push { cls:=.type "list",data:=.seq l },s.gens,d,t,s.os⟩:=
 PV.new R (Yy _) (fun J J e=>Zg _ e) (Den.list (l:=l.toList) ⟨0,Zq _ rfl⟩ r.pushed) (q _)theorem Yfj {h:Heap}{vs us:List V}{l m:List Value}(r:VRs h vs l)(t:VRs h us m)(e:vs.length + us.length<=100000):l.toArray.size + m.toArray.size<=Zi8:=YD (show l.length + m.length<=_ by rw [<-r.length,<-t.length];exact e)theorem VRs.appA {h:Heap}{vs us:List V}{l m:List Value}(r:VRs h vs l)(t:VRs h us m):VRs h (vs++us) (l.toArray++m.toArray).toList:=by rw [Zk3];exact r.append t
theorem Yor (R:RS G env st s){op:Zeb}{a b:V}{x y:Value}{Q:V->Hp->Prop}(ra:VR s.heap a x)(rb:VR s.heap b y)(h:Zr0 Q st.σ op a b) :
  W G A (binaryOp op x y) (PV G env st s Q) E s:=
 h.rec (motive:=fun op a b J=>VR s.heap a x->VR s.heap b y->W G A (binaryOp op x y) (PV G env st s Q) E s)
  (fun h ra rb=>ra.iE fun J=>rb.iE fun J=>Zqk (PV.tok R (.int _ _) h))
  (fun h ra rb=>ra.iE fun J=>rb.iE fun J=>PyProof.Rows.sub_int (PV.tok R (.int _ _) h))
  (fun h1 J h ra rb=>ra.iE fun J=>rb.iE fun J=>PyProof.Rows.mul_int (PV.tok R (.int _ _) h) (.of_left (Zv2 h1)))
  (fun J h2 h3 h ra rb=>ra.iE fun J=>rb.iE fun J=>PyProof.Rows.floordiv_int (Int.ne_of_gt h2) (PV.tok R (.int _ _) h) (.inl (Yah h2 h3)))
  (fun h1 h ra rb=>ra.iE fun J=>rb.iE fun J=>PyProof.Rows.mod_int' h1 (PV.tok R (.int _ _) h))
  (fun h1 h ra rb=>ra.sE fun J=>rb.sE fun J=>PyProof.Rows.add_str (fun t tk=>Zed _ _▸PV.tok R (.str _ _) h) (YD h1))
  (fun ea eb hl q ra rb=>ra.rE<|rb.rE<|(R.den _ _ ea).1.rec fun pa va=>(R.den _ _ eb).1.rec fun pb vb=>PySem.P.add_list pa.choose_spec pb.choose_spec (PV.list R (va.appA vb) q) (Yfj va vb hl))
  ra rb
end
section
variable {G:GC}{env:Env}{st:St}{s s':Zd}{A:Yg}{E:Value->Zd->Prop}
theorem Zn0 (x y:Tx):(sT x == sT y)=decide (x=y):=by
 by_cases h:x=y
 ·subst h;simp
 ·have:sT x≠sT y:=fun e=>h (by simpa using e)
  rw [beq_eq_false_iff_ne.mpr this];simp [h]theorem Yp1 (x y:Tx):(sT x != sT y)=decide (x≠y):=by rw [bne,Zn0,decide_not]theorem dbeq (i j:Int):decide (i=j)=(i == j):=rfl
theorem dbne (i j:Int):decide (i≠j)=(i != j):=decide_not
noncomputable def cI (op:CmpOp)(i j:Int):Option Bool:=match op with
 | .Eq=>some (decide (i=j)) | .NotEq=>some (decide (i≠j)) | .Lt=>some (decide (i < j)) | .Gt=>some (decide (j < i)) | .LtE=>some (decide (i<=j)) | .GtE=>some (decide (j<=i)) | _=>none
noncomputable def cN (op:CmpOp)(r:Bool):Option Bool:=match op with
 | .Is=>some r | .IsNot=>some (!r) | _=>none
noncomputable def cS (op:CmpOp)(x y:Tx):Option Bool:=match op with
 | .Eq=>some (decide (x=y)) | .NotEq=>some (decide (x≠y))
 | .In=>(match x with | [c]=>some (decide (c∈y)) | _=>none)
 | .NotIn=>(match x with | [c]=>some (decide (c∉y)) | _=>none)
 | _=>none
noncomputable def cB (op:CmpOp)(x y:Bool):Option Bool:=match op with
 | .IsNot=>some (decide (x≠y)) | _=>none
noncomputable def Ypq (op:CmpOp)(a b:V):Option Bool:=match a with
 | .int i=>(match b with | .int j=>cI op i j | .none=>cN op false | _=>none)
 | .str x=>(match b with | .str y=>cS op x y | .none=>cN op false | _=>none)
 | .none=>(match b with | .none=>cN op true | _=>none)
 | .ref _=>(match b with | .none=>cN op false | _=>none)
 | .bool x=>(match b with | .bool y=>cB op x y | _=>none)
 | _=>none
section
variable {op:CmpOp}{x y:Value}{r:Bool}{Q:V->Hp->Prop}(tk:∀ b,some b=some r->PV G env st s Q (.bool b) s)
include tk
theorem Zyj {v:Bool}(h:cN op v=some r)(e:(x == y)=v)(p:plainIs x y=true):W G A (Zg2 op x y) (PV G env st s Q) E s:=by
 cases op with
 | Is=>exact PySem.wpAny_is_plain p (tk _ (e▸h))
 | IsNot=>exact Zvh p (tk _ (e▸h))
 | _=>exact nn rfl h
theorem op_cI {i j:Int}{t u}(h:cI op i j=some r):W G A (Zg2 op (.int i t) (.int j u)) (PV G env st s Q) E s:=by
 cases op with
 | Eq=>exact PyProof.Rows.eq_int (tk _ h)
 | NotEq=>exact PyProof.Rows.ne_int (tk _ (dbne _ _▸h))
 | Lt=>exact PyProof.Rows.lt_int (tk _ h)
 | Gt=>exact PyProof.Rows.gt_int (tk _ h)
 | LtE=>exact PyProof.Rows.le_int (tk _ h)
 | GtE=>exact PyProof.Rows.ge_int (tk _ h)
 | _=>exact nn rfl h
theorem op_cS {a b:Tx}{t u}(h:cS op a b=some r):W G A (Zg2 op (.str (sT a) t) (.str (sT b) u)) (PV G env st s Q) E s:=by
 cases op with
 | Eq=>exact PyProof.Rows.eq_str (tk _ (Zn0 a b▸h))
 | NotEq=>exact PyProof.Rows.ne_str (tk _ (Yp1 a b▸h))
 | In=>match a with
  | [c]=>exact PyProof.Rows.in_str (tk _ (Zll (sT b) c▸h))
  | [] | _::_::_=>exact nn rfl h
 | NotIn=>match a with
  | [c]=>exact PyProof.Rows.notIn_str (tk _ (Zll (sT b) c▸decide_not (p:=c∈b)▸h))
  | [] | _::_::_=>exact nn rfl h
 | _=>exact nn rfl h
theorem op_cB {a b:Bool}(h:cB op a b=some r):W G A (Zg2 op (.bool a) (.bool b)) (PV G env st s Q) E s:=by
 cases op with
 | IsNot=>exact Zvh rfl (tk _ (by rw [<-h];cases a <;> cases b <;> rfl))
 | _=>exact nn rfl h
end
theorem Yoq (R:RS G env st s){op:CmpOp}{a b:V}{x y:Value}{r:Bool}{Q:V->Hp->Prop}(ra:VR s.heap a x)(rb:VR s.heap b y)(h:Ypq op a b=some r)(q:Q (.bool r) st.σ) :
  W G A (Zg2 op x y) (PV G env st s Q) E s:=by
 have tk:∀ b,some b=some r->PV G env st s Q (.bool b) s:=fun J e=>Z1 e▸PV.now R (.bool _) q
 cases a with
 | int i=>refine ra.iE fun t=>?_;cases b with
  | int j=>exact rb.iE fun u=>op_cI tk h
  | none=>exact rb.nE (Zyj tk h rfl rfl)
  | _=>exact nn rfl h
 | str i=>refine ra.sE fun t=>?_;cases b with
  | str j=>exact rb.sE fun u=>op_cS tk h
  | none=>exact rb.nE (Zyj tk h rfl rfl)
  | _=>exact nn rfl h
 | none=>refine ra.nE ?_;cases b with
  | none=>exact rb.nE (Zyj tk h rfl rfl)
  | _=>exact nn rfl h
 | ref i=>refine ra.rE ?_;cases b with
  | none=>exact rb.nE (Zyj tk h rfl rfl)
  | _=>exact nn rfl h
 | bool i=>refine ra.bE ?_;cases b with
  | bool j=>exact rb.bE (op_cB tk h)
  | _=>exact nn rfl h
 | _=>exact nn rfl h
noncomputable def Yo4:Option O->Option Nat:=fun o=>o.elim none fun o=>match o with
 | .list xs=>some xs.length
 | .dS kvs=>some kvs.length
 | .dI kvs=>some kvs.length
 | _=>none
noncomputable def Zi6 (a:V)(σ:Hp):Option Bool:=
 match a with
 | .none=>some false
 | .bool b=>some b
 | .int i=>some (decide (i≠0))
 | .str x=>if x.length<=100000 then some (!x.isEmpty) else none
 | .ref a=>(Yo4 (σ a)).bind fun n=>if n<=100000 then some (n != 0) else none
 | _=>none
theorem Znm {α:Type}{c:Prop}[Decidable c]{x y:α}(h:(if c then some x else none)=some y):c/\x=y:=if q:c then ⟨q,Z1 ((if_pos q).symm.trans h)⟩ else nn (if_neg q) h
theorem Zy8 {α:Type}{xs:List α}{l:Nat}(h:l=xs.length):(!xs.isEmpty)=(l != 0):=h▸match xs with | []=>rfl | _::_=>rfl
theorem Yio (x:Tx):(!x.isEmpty)=(((sT x).length:Int) != 0):=match x with | []=>rfl | _::_=>rfl
theorem Yj9 {α:Type}{xs:Array α}{l:Nat}(h:l=xs.size):(l != 0)=(!xs.isEmpty):=h▸rfl
theorem VRs.size {h:Heap}{vs:List V}{l:List Value}(r:VRs h vs l):vs.length=l.toArray.size:=r.length
theorem Zab {α β γ:Type}{l:List α}{m:List β}{f:α->γ}{g:β->γ}(h:l.map f=m.map g):l.length=m.length:=by have:=congrArg Z5 h;rwa [Zh,Zh] at this
theorem Ziw {n:Nat}(h:n<=100000):(n:Int) < 2 ^ 63:=by omega
structure PBw (G:GC)(env:Env)(st:St)(s:Zd)(Q:Bool->Hp->Prop)(b:Bool)(s':Zd)(σ':Hp):Prop where
 R:RS G env ⟨σ',st.lv,st.cv⟩ s'
 S:Stp G env st ⟨σ',st.lv,st.cv⟩ s s'
 q:Q b σ'
def PB (G:GC)(env:Env)(st:St)(s:Zd)(Q:Bool->Hp->Prop)(b:Bool)(s':Zd):Prop:=∃ σ',PBw G env st s Q b s' σ'
theorem PB.from {Q:Bool->Hp->Prop}{W0:Hp}{j0:Zd}(S:Stp G env st ⟨W0,st.lv,st.cv⟩ s j0){b:Bool}(p:PB G env ⟨W0,st.lv,st.cv⟩ j0 Q b s'):PB G env st s Q b s':=p.imp fun J p=>⟨p.R,S.trans p.S,p.q⟩
theorem PB.tok (R:RS G env st s){Q:Bool->Hp->Prop}{b:Bool}{t:Nat}{d:Drawn}(q:Q b st.σ):PB G env st s Q b ⟨s.heap,s.gens,d,t,s.os⟩:=
 have k:=R.ext (h':=s.heap) (t:=t) (d:=d) fun J J e=>e
 ⟨st.σ,k.1,k.2,q⟩theorem RS.nsys (hB1:(G.B.get? Uy).isSome)(R:RS G env st s){a:Addr}{o:O}(e:st.σ a=some o):(a == Uy)=false:=beq_eq_false_iff_ne.mpr fun q=>nS (q▸(R.den _ _ e).2.1) hB1
theorem Zm9 (hB1:(G.B.get? Uy).isSome)(R:RS G env st s){a:V}{x:Value}{r:Bool}{Q:Bool->Hp->Prop}(ra:VR s.heap a x)(h:Zi6 a st.σ=some r)(q:Q r st.σ) :
  W G A (truthy x) (PB G env st s Q) E s:=by
 have tk:∀ t d,PB G env st s Q r ⟨s.heap,s.gens,d,t,s.os⟩:=fun t d=>PB.tok R q
 cases a with
 | none=>exact ra.nE (PyProof.Rows.truthy_none (Z1 h▸tk _ _))
 | bool b=>exact ra.bE (Zqx (Z1 h▸tk _ _))
 | int i=>exact ra.iE fun t=>PyProof.Rows.truthy_int (dbne _ _▸Z1 h▸tk _ _)
 | str x=>exact ra.sE fun t=>PySem.P.truthy_str (Zir.mpr (Ziw (Znm h).1)) (Yio x▸(Znm h).2▸tk _ _)
 | ref a=>
  obtain ⟨n,hn,h⟩:=Zcw.mp h
  obtain ⟨hl,rfl⟩:=Znm h
  refine ra.rE ?_
  cases e:st.σ a with
  | none=>rw [e] at hn;exact nn rfl hn
  | some o=>
   replace hn:=(e)▸hn
   have d:=(R.den _ _ e).1
   cases o with
   | list xs=>
    cases hn
    exact d.rec fun p v=>Zqw p.isList (Ziw (v.size▸hl)) (Yj9 (v.size)▸tk _ _)
   | dS kvs=>cases hn;exact d.rec fun p e1 v=>wpAny_truthy_dict (R.nsys hB1 e) p (Ziw (Zab e1▸hl)) ((Zy8 (Zab e1).symm).symm▸tk _ _)
   | dI kvs=>cases hn;exact d.rec fun p e1 v=>wpAny_truthy_dict (R.nsys hB1 e) p (Ziw (Zab e1▸hl)) ((Zy8 (Zab e1).symm).symm▸tk _ _)
   | _=>exact nn rfl hn
 | _=>exact nn rfl h
end
section
variable {G:GC}{env:Env}{st:St}{s s':Zd}{A:Yg}{E:Value->Zd->Prop}{M:Model}
section
variable {Q:Value->Zd->Prop}
theorem Zi2 {vs:List Value}{t:Sem Value}(h:wpAny M A t Q E s):wpAny M A (Zml vs t) Q E s:=fun Γ p hΓ=>by rw [Sem.wp_operate];exact h Γ p hΓ
theorem Zba {t:Sem Value}(h:wpAny M A t Q E s):wpAny M A (t >>= fun r=>Zrr [r] point >>= fun J=>pure r) Q E s:=
 (wbM h (fun J J hr=>(wbH (wpAny_point (Ze hr)))) fun J J x=>x)theorem Zmx {c:Prop}[Decidable c]{t u:Sem Value}(h1:wpAny M A t Q E s)(h2:wpAny M A u Q E s):wpAny M A (if c then t else u) Q E s:=by by_cases q:c;rw [if_pos q];exact h1;rw [if_neg q];exact h2
theorem Zge {m f:Value}{vs kw}(h:wpAny M A (call f vs kw) Q E s):wpAny M A (callMarked m f vs kw) Q E s:=by unfold callMarked;exact Calls.wpAny_keep h
theorem YT {pos:Pos}{f:Value}{first:List Value}{args:List (Bool×Sem Value)}(hp:args.any (·.1)=false)
  (h:wpAny M A (Ybl f true args []) (fun x j0=>wpAny M A (Zac f) (fun J J1=>wpAny M A (call f (first++x.pos) x.kw) Q E J1) E j0) E s) :
  wpAny M A (Zea pos f first args []) Q E s:=by
 refine (wbH (Zy h (fun x j0 Q0=>(wbS ?_)) fun J J x=>x))
 rw [hp]
 refine (wbM Q0 (fun k J1 G3=>?_) fun J J x=>x)
 have t1:=Zba G3
 cases k with
 | machine=>exact t1
 | caller=>exact Zba (Zi2 G3)
 | _=>exact Zmx t1 (Zba (Zge G3))
end
theorem YS {f:Value}{args:List (Bool×Sem Value)}{Q:Args->Zd->Prop}(hp:args.any (·.1)=false)
  (h:wpAny M A (Yir args) (fun vs s'=>Q ⟨vs,[]⟩ s') E s):wpAny M A (Ybl f true args []) Q E s:=by
 cases args with
 | nil=>
  refine Zc (m:=Yir []) (Zy h (fun vs s' h'=>?_) fun J J x=>x)
  exact (wbP (Yl ((wbP ((wbP (Ze h')))))))
 | cons a r=>
  obtain ⟨_ | _,x⟩:=a
  ·exact evalArgs_plain h
  ·exact Yw hp
structure AOK (A:Yg)(n:Nat):Prop where
 handled:A.handled=none
 depth:A.depth + 6 * n<=700
 units:A.units + 40 * n<=5000
theorem AOK.deeper {n:Nat}(h:AOK A (n + 1))(e:Env):AOK (A.deeper e) n:=⟨h.1,by have:=h.2;simp only [Yqr];omega,by have:=h.3;simp only [Yqr];omega⟩theorem AOK.mono {n m:Nat}(h:AOK A n)(hm:m<=n):AOK A m:=⟨h.1,Zb (ZJ (ZC 6 hm) _) h.2,Zb (ZJ (ZC 40 hm) _) h.3⟩theorem AOK.in1 {n:Nat}(h:AOK A (n + 1)):AOK A.in1 n:=⟨h.1,by have:=h.2;simp only [Yg.in1_depth];omega,by have:=h.3;simp only [Yg.in1_units];omega⟩theorem AOK.room {n:Nat}(h:AOK A n):A.depth < Zl8:=ZS (Zb (Zn _ _) h.2) (by decide)
theorem RS.enter (R:RS G env st s){e':Env}{h₀:Heap}{t:Nat}{m:Str->Option Value}{lv:Nat->Option V}(hL:e'.locals=s.heap.objs.size)
  (hns:h₀.Ns s.heap.objs.size m) (k:∀ b o,s.heap.get? b=some o->h₀.get? b=some o) (hlv:∀ i v,lv i=some v->∃ x,m (nm i)=some x/\VR s.heap v x) :
  RS G e' ⟨st.σ,lv,fun J=>none⟩ ⟨h₀,s.gens,s.drawn,t,s.os⟩:=
 have ik:Imk s.heap h₀:=fun b o e J=>k b o e
 ⟨R.fr.elim fun J F=>⟨m,⟨hL▸hns,fun b o e=>k b o (F.1.keep b o e),hL▸Y8 (ZS F.1.above F.1.ns.lt)⟩,Zdc ik hlv⟩,
  fun a o e=>⟨(R.den a o e).1.mono ik fun ob=>k a ob,(R.den a o e).2.1,hL▸Z3 (R.den a o e).1.lt⟩,fun i v h=>nn rfl h,fun p h=>
   ⟨(R.tab p h).t.imp fun J q=>⟨q.1.keeps k,q.2.but ik (k _) (k _)⟩,(R.tab p h).s0,(R.tab p h).t.elim fun J q=>(fun e=>hL▸Z3 (ZL e)) q.2.2,(R.tab p h).b0,(R.tab p h).c0⟩,R.bare,R.os⟩
theorem RS.back (R:RS G env st s){e':Env}{h₀:Heap}{t:Nat}{st1 st2:St}{s2:Zd}(hL:e'.locals=s.heap.objs.size)(hσ:st1.σ=st.σ)
  (k:∀ b o,s.heap.get? b=some o->h₀.get? b=some o) (R2:RS G e' st2 s2) (S2:Stp G e' st1 st2 ⟨h₀,s.gens,s.drawn,t,s.os⟩ s2) :
  RS G env ⟨st2.σ,st.lv,st.cv⟩ s2/\Stp G env st ⟨st2.σ,st.lv,st.cv⟩ s s2:=
 have kk:∀ b o,s.heap.get? b=some o->st.σ b=none->(∀ c,(c,b)∉G.T)->s2.heap.get? b=some o:=fun b o e h1 h4=>
  S2.keep b o (k b o e) (hσ▸h1) (hL▸Z3 (ZL e)) h4
 have nw:∀ b,(st2.σ b).isSome->(st.σ b).isSome\/s.heap.get? b=none:=fun b h=>(S2.new b h).imp (fun r=>hσ▸r) fun r=>Sn fun o q=>nn r (k b o q)
 have new2:∀ {b o},s.heap.get? b=some o->st.σ b=none->st2.σ b=none:=fun h1 h2=>Sn fun x q=>(nw _ (iS q)).elim (nS h2) fun r=>nn r h1
 have σL:st.σ env.locals=none:=Sn fun x q=>(R.den _ _ q).2.2 rfl
 ⟨⟨R.fr.imp fun J F=>⟨⟨F.1.ns.elim fun J q=>⟨_,q.imp fun J q=>q.imp fun J q=>⟨kk _ _ q.1 σL fun c h=>(R.tab _ h).l0 rfl,q.2⟩⟩,R2.fr.elim fun J F2=>F2.1.keep,F.1.above⟩,Zdc (fun b o e hi=>kk b o e (R.off_imm e hi).1 (R.off_imm e hi).2.2) F.2⟩,fun a o e=>⟨(R2.den a o e).1,(R2.den a o e).2.1,fun q=>R.fr.elim fun J F=>F.1.ns.elim fun J z=>z.elim fun J z=>z.elim fun J z=>nn (new2 z.1 σL) (q▸e)⟩,R.cel,
   fun p h=>⟨(R2.tab p h).t,(R.tab p h).t.elim fun J q=>new2 q.2.2 (R.tab p h).s0,(R.tab p h).l0,(R.tab p h).b0,(R.tab p h).c0⟩,R2.bare,R2.os⟩,
  ⟨fun b o e h1 J h4=>kk b o e h1 h4,fun b o e=>S2.live b o (k b o e),nw,fun g x h=>S2.gens g x h⟩⟩
end
section
variable {G:GC}{env:Env}{st:St}{s s':Zd}{A:Yg}{E:Value->Zd->Prop}
noncomputable def X3 (i:Int)(n:Nat):Nat:=if i < 0 then (i + n).toNat else min i.toNat n
noncomputable def Zbj {α:Type}(xs:List α)(lo hi:Option Int):List α:=
 (xs.drop (lo.elim 0 (X3 · xs.length))).take (hi.elim xs.length (X3 · xs.length) - lo.elim 0 (X3 · xs.length))
theorem Ybs (i:Int)(n:Nat):max 0 (min (if i < 0 then i + (n:Int) else i) n)=((X3 i n:Nat):Int):=by
 unfold X3
 by_cases h:i < 0
 ·have:i + n<=n:=by have:=Zkz (Zis h) n;rwa [Yce] at this
  rw [if_pos h,if_pos h,Zsf this,Int.toNat_eq_max,Int.max_comm]
 ·have h0:=U4.mp h
  refine (Zzv h0).elim fun k hw51=>?_
  obtain rfl:=hw51
  rw [if_neg h,if_neg h,Km]
  refine (Yca k n).elim (fun q=>?_) fun q=>?_
  ·rw [Ip q,Zsf (YZ.mpr q),Zcg h0]
  ·rw [Zpb q,Yqj (YZ.mpr q),Zcg (Z4 n)]
theorem Zmt (p:Option Int)(d n:Nat):(match p with | none=>(d:Int) | some i=>max 0 (min (if i < 0 then i + (n:Int) else i) n))=((p.elim d (X3 · n):Nat):Int):=match p with
 | none=>rfl
 | some i=>Ybs i n
section
variable (lo hi:Option Int)(n:Nat)
theorem Zyb:Zan lo hi 1 n=sliceRange (lo.elim 0 (X3 · n):Nat) (hi.elim n (X3 · n):Nat) 1:=congrFun (congr (congrArg sliceRange (Zmt lo 0 n)) (Zmt hi n n)) 1
theorem Yi0:Zvc lo hi none n=(((lo.elim 0 (X3 · n):Nat):Int),((hi.elim n (X3 · n):Nat):Int),1):=congr (congrArg Ul (Zmt lo 0 n)) (congrArg (·,1) (Zmt hi n n))
theorem Zgj (l:List Value):slicePick l.toArray lo hi none=(Zbj l lo hi).toArray:=by
 unfold slicePick
 rw [Yi0]
 rw [Yaj,pick_run]
 rfl
theorem strSl (x:Tx):(Zan lo hi 1 x.length).filterMap (x.toArray[·]?)=Zbj x lo hi:=by rw [Zyb,Yaj,pick_run];rfl
theorem Zto {α:Type}(xs:List α):(Zbj xs lo hi).length<=xs.length:=Zb (Zef _ _) (Zhk▸Nat.sub_le _ _)theorem Yas {α:Type}{xs:List α}(h:(Zbj xs lo hi).length=xs.length):Zbj xs lo hi=xs:=((Zmu _ _).trans (Ylc _ _)).eq_of_length h
theorem Ybr (i:Int):X3 i n<=n:=by
 unfold X3;by_cases h:i < 0
 ·rw [if_pos h];exact Int.toNat_le.mpr (by have:=Zkz (Zis h) n;rwa [Yce] at this)
 ·rw [if_neg h];exact Yp8 _ _
theorem Ykb (p:Option Int):p.elim n (X3 · n)<=n:=match p with
 | none=>Zm _
 | some _=>Ybr _ _
theorem Zz8 (x:Tx):(Zan lo hi 1 x.length).length=(Zbj x lo hi).length:=by
 unfold Zbj
 rw [Zyb,Yaj,Zh,Kg,Ym5,Zhk,Ip (Nat.sub_le_sub_right (Ykb _ _) _)]
theorem VRs.sl {h:Heap}{vs:List V}{l:List Value}(r:VRs h vs l):VRs h (Zbj vs lo hi) (Zbj l lo hi):=by
 unfold Zbj;rw [r.length];exact (r.drop _).take _
end
noncomputable def Zm6:V->Option (Option Int)
 | .none=>some none
 | .int i=>some (some i)
 | _=>none
inductive Ydr (Q:V->Hp->Prop)(σ:Hp):V->V->V->V->Prop
 | list {a xs lo hi l h}:Zm6 lo=some l->Zm6 hi=some h->σ a=some (.list xs)->xs.length<=100000->(∀ n,σ n=none->Q (.ref n) (upd σ n (.list (Zbj xs l h))))->Ydr Q σ (.ref a) lo hi .none
 | str {x lo hi l h}:Zm6 lo=some l->Zm6 hi=some h->x.length<=100000->Q (.str (Zbj x l h)) σ->Ydr Q σ (.str x) lo hi .none
 | rev {a xs}:σ a=some (.list xs)->xs.length<=100000->(∀ n,σ n=none->Q (.ref n) (upd σ n (.list xs.reverse)))->Ydr Q σ (.ref a) .none .none (.int (-1))def PartR (p:Option Int)(x:Value)(q:Option (Int×Tok)):Prop:=IsPart x p/\(x=partValue q)/\(q.map (·.1)=p)def PartR.i (z:@PartR p x q):=z.1
def PartR.e (z:@PartR p x q):=z.2.1
def PartR.m (z:@PartR p x q):=z.2.2
theorem Zct {v:V}{x:Value}{p:Option Int}{h:Heap}(r:VR h v x)(e:Zm6 v=some p):∃ q,PartR p x q:=by
 cases v with
 | none=>cases e;exact r.nE ⟨none,.none,rfl,rfl⟩
 | int i=>cases e;exact r.iE fun t=>⟨some (i,t),.int _ _,rfl,rfl⟩
 | _=>exact nn rfl e
theorem PV.pick (R:RS G env st s){Q:V->Hp->Prop}{t:Nat}{d:Drawn}{vs:List V}{l:List Value}{k:Array Value}(r:VRs s.heap vs l)(e:k=l.toArray)(q:∀ n,st.σ n=none->Q (.ref n) (upd st.σ n (.list vs))) :
  PV G env st s Q (.ref s.heap.objs.size) ⟨s.heap.push { cls:=.type "list",data:=.seq k },s.gens,d,t,s.os⟩:=e▸PV.list (l:=l.toArray) R r q
theorem Ydq {x:Tx}{t:Tok}{l' h':Option Int}{q1 q2:Option (Int×Tok)}(m1:q1.map (·.1)=l')(m2:q2.map (·.1)=h'){P:Value->Zd->Prop}(hl:x.length<=100000)(k:∀ t u,P (.str (sT (Zbj x l' h')) t) ⟨s.heap,s.gens,s.drawn,u,s.os⟩):(sliceMade (sT x) t q1 q2 none).post P s:=by
 have e:slicePicked (sT x) q1 q2 none=Zan l' h' 1 x.length:=by rw [<-m1,<-m2];rfl
 unfold sliceMade
 refine (e)▸?_
 split
 ·rename_i hc
  have:=Yas _ _ ((Zz8 l' h' x).symm.trans (eq_of_beq (Zeg.mp hc).2))
  have:=k t s.toks
  rwa [‹Zbj x l' h'=x›] at this
 ·rw [strSl]
  exact ⟨YD (Zb (Zto _ _ _) hl),k _ _⟩
theorem Yoj (R:RS G env st s){a lo hi sp:V}{x l h p:Value}{value slice:Expr}{Q:V->Hp->Prop}(ra:VR s.heap a x)(rl:VR s.heap lo l)(rh:VR s.heap hi h)(rp:VR s.heap sp p)
  (hs:∀ o i,∃ ops,subscripted slice false o i=Zml ops (Zmr o i)) (hq:Ydr Q st.σ a lo hi sp) :
  W G A (Ze5 value slice x (.ref s.heap.objs.size)) (PV G env st s Q) E { s with heap:=s.heap.push { cls:=.type "slice",data:=.fields #[l,h,p] } }:=by
 have hz0:=R.ext (t:=s.toks) (d:=s.drawn) (h':=s.heap.push { cls:=.type "slice",data:=.fields #[l,h,p] }) fun y z e=>Zg _ e
 have R':=hz0.1
 have S':=hz0.2
 have N:=Zbo s.heap l h p
 revert ra rl rh rp
 refine hq.rec (fun {a xs lo hi l' h'} e1 e2 ea hl q ra rl rh rp=>?_) (fun {y lo hi l' h'} e1 e2 hl q ra rl rh rp=>?_) (fun {a xs} ea hl q ra rl rh rp=>?_)
 ·exact ra.rE<|(R'.den _ _ ea).1.rec fun pl r=>(Zct rl e1).elim fun J p1=>(Zct rh e2).elim fun J p2=>(Zct rp rfl).elim fun J p3=>
   Zg6 pl.isList.typeIs Zag.lookup (Zil pl.isList N p1.i p2.i p3.i (fun h=>nomatch h) ((PV.pick R' (r.sl _ _) (Zgj ..) q).from S') (YD (r.size▸hl))) (hs _ _).choose_spec
 ·exact ra.sE fun t=>(Zct rl e1).elim fun J p1=>(Zct rh e2).elim fun J p2=>Zg6 (Zcq _ _ _) Zr8.lookup
   (PySem.wpAny_getItem_str_slice (st:=none) ⟨_,Zq _ rfl,rfl,by rw [p1.e,p2.e];exact rp.nE rfl⟩ rfl (Ydq p1.m p2.m hl fun t J=>(PV.tok R' (.str _ _) q).from S')) (hs _ _).choose_spec
 ·exact ra.rE<|(R'.den _ _ ea).1.rec fun pl r=>(Zct rl rfl).elim fun J p1=>(Zct rh rfl).elim fun J p2=>(Zct rp rfl).elim fun J p3=>
   Zg6 pl.isList.typeIs Zag.lookup (Zil pl.isList N p1.i p2.i p3.i (fun h=>nomatch h) ((PV.pick R' r.reverse (krv_pick _) q).from S') (YD (r.size▸hl))) (hs _ _).choose_spec
end
section
open PySem PySem.Spec PySem.Calls PyProof.Rows PySem.W PySem.SeqAt
variable {G:GC}{env:Env}{st:St}{s s':Zd}{A:Yg}{E:Value->Zd->Prop}
noncomputable def Yg6:V->Bool
 | .int _=>true
 | .str _=>true
 | _=>false
noncomputable def Zua:V->Bool
 | .tup vs=>vs.all Yg6
 | v=>Yg6 v
theorem eqInt (i:Int)(t u:Tok):EqAt A s (.int i t) (.int i u) true:=beq_self_eq_true i▸(MeetsSeq.EqGives.int i i t u).at A s
theorem Ymt (x y:Tx)(t u:Tok):EqAt A s (.str (sT x) t) (.str (sT y) u) (decide (x=y)):=Zn0 x y▸(eqGives_str (sT x) (sT y) t u).at A s
theorem Zy6 {v:V}{x y:Value}{h:Heap}(ha:Yg6 v=true)(r1:VR h v x)(r2:VR h v y):EqAt A s x y true:=by
 cases v with
 | int i=>exact r1.iE fun J=>r2.iE fun J=>eqInt _ _ _
 | str x=>exact r1.sE fun t=>r2.sE fun u=>decide_eq_true (rfl:x=x)▸Ymt x x t u
 | _=>exact Yw ha
def VAt (h:Heap)(vs:List V)(j:Nat)(x:Value)(v:V):Prop:=(vs[j]? = some v)/\VR h v x
def VAt.e (z:@VAt h vs j x v):=z.1
def VAt.r (z:@VAt h vs j x v):=z.2
theorem Zdk {h:Heap}{vs:List V}{l:List Value}(r:VRs h vs l){j:Nat}(h1:j < l.toArray.size):∃ v,VAt h vs j l.toArray[j] v:=by
 have e:=ZG (r.length▸h1:j < vs.length)
 have hz0:=r.get e
 have hq0:=hz0.choose_spec
 exact ⟨_,e,Z1 ((hq0.1).symm.trans (ZG h1))▸(hq0.2)⟩theorem VAt.all {h:Heap}{vs:List V}{j:Nat}{x:Value}{v:V}(a:VAt h vs j x v){p:V->Bool}(e:vs.all p=true):p v=true:=Yo.mp e v (Z9 a.e)theorem VAt.getD {h:Heap}{vs:List V}{j:Nat}{x:Value}{v:V}(a:VAt h vs j x v):vs.getD j .none=v:=by rw [Up,a.e];rfl
theorem Zdl {h:Heap}{a:Addr}{l:List Value}{n:Nat}(e:h.get? a=some (Zq1 l n)):h.IsTuple a l.toArray:=⟨_,e,rfl,n,rfl⟩theorem Zup (n:Nat):((Ub n).all fun J=>true)=true:=Yo.mpr fun J J=>rfl
theorem Zy5 {B:Yg}{f:V->Bool}{vs:List V}{l1 l2:List Value}(hf:∀ {v x y},f v=true->VR s.heap v x->VR s.heap v y->EqAt B s x y true)(ha:vs.all f=true)(q1:VRs s.heap vs l1)(q2:VRs s.heap vs l2)(j:Nat)(h1:j < l1.toArray.size)(h2:j < l2.toArray.size) :
  EqAt B s l1.toArray[j] l2.toArray[j] true:=
 (Zdk q1 h1).elim fun v a=>(Zdk q2 h2).elim fun u b=>hf (a.all ha) a.r (si b.e a.e▸b.r)
theorem Yj6 {v:V}{x y:Value}(hu:A.units < cLine)(ha:Zua v=true)(r1:VR s.heap v x)(r2:VR s.heap v y):EqAt A s x y true:=by
 cases v with
 | tup vs=>
  exact r1.tE fun a1 l1 n1 e1 q1=>r2.tE fun a2 l2 n2 e2 q2=>if hne:a1=a2 then hne▸EqAt.same _ else by
   have:=RcAt.tuples (A:=A) (e:=fun J=>true) (Zdl e1) (Zdl e2) hu (Zy5 Zy6 ha q1 q2)
   rw [(q1.size.symm.trans q2.size),Zup,beq_self_eq_true] at this
   exact EqAt.of_refs hne this
 | _=>refine Zy6 ?_ r1 r2;exact ha
noncomputable def Zmz (a b:V):Bool:=match a,b with
 | .str x,.str y=>decide (x=y)
 | _,_=>false
noncomputable def Zjg:V->Bool
 | .str _=>true
 | _=>false
theorem Zy4 {a b:V}{x y:Value}{h:Heap}(ha:Zjg a=true)(hb:Zjg b=true)(r1:VR h a x)(r2:VR h b y):EqAt A s x y (Zmz a b):=by
 cases a with
 | str a=>cases b with
  | str b=>exact r1.sE fun J=>r2.sE fun J=>Ymt _ _ _ _
  | _=>exact Yw hb
 | _=>exact Yw ha
noncomputable def Zws (t:Tx):Value->Bool
 | .str y _=>y == sT t
 | _=>false
theorem Zp6 {v:V}{x:Value}{h:Heap}{t:Tx}(hs:Zjg v=true)(r:VR h v x):Zmz v (.str t)=Zws t x:=by
 cases v with
 | str y=>exact r.sE fun J=>(Zn0 y t).symm
 | _=>exact Yw hs
theorem Zw8 {us:List V}{l:List Value}{h:Heap}{t:Tx}(hs:us.all Zjg=true)(r:VRs h us l):us.any (fun u=>Zmz u (.str t))=l.toArray.any (Zws t):=by
 rw [List.any_toArray]
 induction us generalizing l with
 | nil=>exact r.nE rfl
 | cons u us ih=>
  have hs:=Zeg.mp hs
  exact r.cE fun x l r1 r2=>congr (congrArg or (Zp6 hs.1 r1)) (ih hs.2 r2)
inductive Zo2 (σ:Hp):CmpOp->V->V->Bool->Prop
 | neL {a b xs}:σ a=some (.list xs)->σ b=some (.list xs)->xs.all Zua=true->Zo2 σ .NotEq (.ref a) (.ref b) false
 | eqN {a b xs}:σ a=some (.list xs)->σ b=some (.list [])->Zo2 σ .Eq (.ref a) (.ref b) xs.isEmpty
 | neT {vs us}:vs.all Zjg=true->us.all Zjg=true->vs.length=us.length->Zo2 σ .NotEq (.tup vs) (.tup us) (!((Ub vs.length).all fun j=>Zmz (vs.getD j .none) (us.getD j .none)))
 | inT {t us}:us.all Zjg=true->Zo2 σ .In (.str t) (.tup us) (us.any (fun u=>Zmz u (.str t)))
 | inD {i d kvs}:σ d=some (.dI kvs)->Zo2 σ .In (.int i) (.ref d) (kvs.lookup i).isSome
 | niS {t d S n}:σ d=some (.set S n)->Zo2 σ .NotIn (.str t) (.ref d) (!S (sT t))theorem Den.of_dI {h:Heap}{a:Addr}{kvs:List (Int×V)}(d:Den G.prog G.w h a (.dI kvs)):∃ l,h.DictOf (Zdb G.prog G.w) a l/\l.map (·.1)=kvs.map (·.1)/\VRs h (kvs.map (·.2)) (l.map (·.2)):=d.rec fun p e r=>⟨_,p,e,r⟩theorem Den.of_dS {h:Heap}{a:Addr}{kvs:List (Tx×V)}(d:Den G.prog G.w h a (.dS kvs)):∃ l,h.DictOf (strKind G.prog G.w) a l/\l.map (·.1)=kvs.map (fun p=>sT p.1)/\VRs h (kvs.map (·.2)) (l.map (·.2)):=d.rec fun p e r=>⟨_,p,e,r⟩
inductive Zkw (h:Heap):Option V->Option Value->Prop
 | none:Zkw h none none
 | some {v x}:VR h v x->Zkw h (some v) (some x)theorem Zkw.isSome {h:Heap}{a b}(r:Zkw h a b):b.isSome=a.isSome:=r.rec rfl fun J=>rfl
theorem Zpg {K K':Type}[BEq K][LawfulBEq K][DecidableEq K']{f:K->K'}(inj:∀ {x y},f x=f y->x=y){h:Heap}(i:K){kvs:List (K×V)}{l:List (K'×Value)}(e:l.map (·.1)=kvs.map (fun p=>f p.1))(q:VRs h (kvs.map (·.2)) (l.map (·.2))):Zkw h (kvs.lookup i) (valueAt l (f i)):=by
 induction kvs generalizing l with
 | nil=>exact Ks.mp e▸.none
 | cons p r ih=>
  obtain ⟨j,v⟩:=p
  cases l with
  | nil=>exact nomatch e
  | cons p' l=>
   obtain ⟨k,x⟩:=p'
   have e1:k=f j:=(Xg e).1
   have q:=q.ht
   unfold valueAt
   rw [Xw,Zeu]
   refine (Classical.em (i=j)).elim (fun h=>?_) fun h=>?_
   ·rw [beq_iff_eq.mpr h,decide_eq_true (e1.trans (h▸rfl))];exact Zkw.some q.1
   ·rw [beq_eq_false_iff_ne.mpr h,decide_eq_false fun z=>h (inj (z.symm.trans e1))];exact ih (Xg e).2 q.2
theorem Zgf {h:Heap}(i:Int){kvs:List (Int×V)}{l:List (Int×Value)}:l.map (·.1)=kvs.map (·.1)->VRs h (kvs.map (·.2)) (l.map (·.2))->Zkw h (kvs.lookup i) (valueAt l i):=Zpg (f:=id) id i
theorem Zm3 {x y:Tx}(h:sT x=sT y):x=y:=List.toArray_inj (congrArg Str.cps h)theorem Zi4 {h:Heap}(i:Tx){kvs:List (Tx×V)}{l:List (Str×Value)}:l.map (·.1)=kvs.map (fun p=>sT p.1)->VRs h (kvs.map (·.2)) (l.map (·.2))->Zkw h (kvs.lookup i) (valueAt l (sT i)):=Zpg Zm3 i
theorem Zkb (hB1:(G.B.get? Uy).isSome)(R:RS G env st s){a:Addr}{o:O}(e:st.σ a=some o):(a == Uy)=false:=R.nsys hB1 e
theorem Ypd {k:Int}{t}{prog w}:(Zdb prog w).is k (.int k t)=true:=beq_self_eq_true k
theorem Yjd (hB1:(G.B.get? Uy).isSome)(hA:A.units + 10 < cLine)(R:RS G env st s){op:CmpOp}{a b:V}{x y:Value}{r:Bool}{Q:V->Hp->Prop}(ra:VR s.heap a x)(rb:VR s.heap b y)(h:Zo2 st.σ op a b r)(q:Q (.bool r) st.σ) :
  W G A (Zg2 op x y) (PV G env st s Q) E s:=by
 have tk:PV G env st s Q (.bool r) s:=PV.now R (.bool _) q
 have tk2:∀ t,PV G env st s Q (.bool r) { s with toks:=t }:=fun t=>PV.tok R (.bool _) q
 clear q
 have hu:A.units < cLine:=ZS (Zn _ _) hA
 revert ra rb tk tk2
 refine h.rec ?_ ?_ ?_ ?_ ?_ ?_
 ·exact fun {a b xs} e1 e2 hf ra rb tk _=>ra.rE<|rb.rE<|(R.den _ _ e1).1.rec fun p1 r1=>(R.den _ _ e2).1.rec fun p2 r2=>
   RcNeAt.lists (A:=A) (e:=fun J=>true) p1.isList p2.isList (r1.size.symm.trans r2.size) hu (Zy5 (Yj6 (ZS (ZJ (Za rfl) _) hA)) hf r1 r2) G.prog G.w E _ (by rw [Zup];exact tk)
 ·exact fun {a b xs} e1 e2 ra rb tk _=>ra.rE<|rb.rE<|(R.den _ _ e1).1.rec fun {l1} p1 r1=>(R.den _ _ e2).1.rec fun {l2} p2 r2=>by
   obtain rfl:l2=[]:=r2.nE rfl
   cases xs with
   | nil=>
    obtain rfl:l1=[]:=r1.nE rfl
    exact eq_listAt (A:=A) (e:=fun J=>true) p1.isList p2.isList rfl hu (fun J h1=>absurd h1 (Nat.not_lt_zero _)) tk
   | cons v vs=>
    cases l1 with
    | nil=>exact nomatch r1.length
    | cons z zs=>exact eq_list_lengthsAt p1.isList p2.isList rfl hu tk
 ·exact fun {vs us} ha hb hl ra rb tk _=>ra.tE fun a1 l1 n1 e1 q1=>rb.tE fun a2 l2 n2 e2 q2=>
   RcNeAt.tuples (A:=A) (e:=fun j=>Zmz (vs.getD j .none) (us.getD j .none)) (Zdl e1) (Zdl e2) hu (fun j h1 h2=>(Zdk q1 h1).elim fun v a=>(Zdk q2 h2).elim fun u b=>by
    rw [a.getD,b.getD];exact Zy4 (a.all ha) (b.all hb) a.r b.r) G.prog G.w E _ (by
    rw [<-q1.size,<-q2.size,<-hl,Nat.min_self,beq_self_eq_true,Bool.and_true];exact tk)
 ·exact fun {t us} hb ra rb tk _=>ra.sE fun u=>rb.tE fun a2 l2 n2 e2 q2=>in_tupleAt (A:=A) (Zws t) (Zdl e2) (fun y hy=>(Zzy.mp hy).elim fun j hj=>hj.elim fun hj e=>e▸(Zdk q2 hj).elim fun v b=>
   Zp6 (b.all hb) b.r▸Zy4 (b.all hb) rfl b.r (.str t u)) (Zw8 hb q2▸tk)
 ·exact fun {i d kvs} e ra rb _ tk=>ra.iE fun t=>rb.rE<|(R.den _ _ e).1.rec fun p e1 v=>wpAny_in_of (knd:=Zdb G.prog G.w) (k:=i) Ypd (Zkb hB1 R e) p.mapOf ((Zgf i e1 v).isSome▸tk _)
 ·exact fun {t d S n} e ra rb _ tk=>ra.sE fun u=>rb.rE (wpAny_notInSet_of (knd:=ZP G.prog G.w) (k:=sT _) (beq_self_eq_true (sT t)) rfl (R.den _ _ e).1 (tk _))
end
theorem Ztd (s:Zd)(g:Nat)(x:Uh):(s.setGen g x).toks=s.toks:=rfl
theorem Zle {M:Model}{Γ:Yk3}{p:Pos}{t:Sem Fin}{fs:List Frame}{s s':Zd}{e:End}(h:Runs M Γ p t fs s e s'):s.toks<=s'.toks:=by
 induction h <;> (try simp only [Ztd] at *) <;> (try dsimp only at *) <;> omega
theorem Zvq {M:Model}{Γ:Yk3}{p:Pos}{g:Nat}{r:Resume}{s s':Zd}{res:GenResult}(h:Wakes M Γ p g r s res s'):s.toks<=s'.toks:=by
 unfold Wakes at h
 split at h
 ·exact h.elim
 ·split at h
  ·obtain ⟨V5,j0,a,_,_,rfl⟩:=h;have:=Zle a;exact this
  ·rw [h.2];exact Zm _
  ·rw [h.2];exact Zm _
 ·obtain ⟨V5,j0,a,_,_,rfl⟩:=h;have:=Zle a;exact this
 ·rw [h.2];exact Zm _
 ·rw [h.2];exact Zm _
theorem Zxz {α:Type}{M:Model}{Γ:Yk3}(t:Sem α):∀ {Q:α->Pos->Zd->Prop} {E:Value->Pos->Zd->Prop} {p:Pos} {s:Zd},Sem.wp M Γ t Q E p s->Sem.wp M Γ t (fun a p' s'=>Q a p' s'/\s.toks<=s'.toks) E p s:=by
 induction t with
 | pure a=>intro Q E p s h;exact ⟨h,Zm _⟩
 | raise e=>intro Q E p s h;exact h
 | unsupported | finish | yield | fork | await | register=>intro Q E p s h;exact h.elim
 | rule _ k ih | «at» _ k ih | alloc _ k ih | loadIfAlive _ k ih | point _ k ih | ask k ih | os _ _ k ih | handled _ k ih | newGen _ k ih | stack k ih | thread k ih=>intro Q E p s h;exact ih _ h
 | fresh k ih=>intro Q E p s h;exact Yhb M Γ _ (fun a p' s' q=>⟨q.1,by have:=q.2;dsimp only at this;omega⟩) (fun J J J e=>e) _ _ (ih _ h)
 | load a _ k ih | genState a k ih=>intro Q E p s h;obtain ⟨o,ho,h⟩:=h;exact ⟨o,ho,ih _ h⟩
 | update a _ f k ih | choose _ _ k ih=>intro Q E p s h;exact ⟨h.1,ih _ h.2⟩
 | call c h g l k ih=>
  intro Q E p s hw
  refine hw.elim fun r hr50=>hr50.elim fun s' hr51=>hr51.elim fun hr hw=>?_
  have:=Zle hr
  exact ⟨r,s',hr,Yhb M Γ _ (fun a p' s'' q=>⟨q.1,Zb this q.2⟩) (fun J J J e=>e) _ _ (ih _ hw)⟩
 | resume g r l k ih=>
  intro Q E p s hw
  refine hw.elim fun res hr50=>hr50.elim fun s' hr51=>hr51.elim fun hr hw=>?_
  have:=Zvq hr
  exact ⟨res,s',hr,Yhb M Γ _ (fun a p' s'' q=>⟨q.1,Zb this q.2⟩) (fun J J J e=>e) _ _ (ih _ hw)⟩
theorem Zsq {α:Type}{M:Model}{A:Yg}{t:Sem α}{Q:α->Zd->Prop}{E:Value->Zd->Prop}{s:Zd}(h:wpAny M A t Q E s):wpAny M A t (fun a s'=>Q a s'/\s.toks<=s'.toks) E s:=
 fun Γ p hΓ=>Zxz t (h Γ p hΓ)
theorem tk {α:Type}{M:Model}{A:Yg}{t:Sem α}{Q:α->Zd->Prop}{E:Value->Zd->Prop}{s:Zd}(ht:0 < s.toks)(h:wpAny M A t Q E s):wpAny M A t (fun a s'=>Q a s'/\0 < s'.toks) E s:=
 Zy (Zsq h) (fun J J q=>⟨q.1,Ym ht q.2⟩) fun J J e=>e
section
open PySem PySem.Spec PySem.Calls PyProof.Rows PySem.W PySem.SeqAt
variable {G:GC}{env:Env}{st:St}{s s':Zd}{A:Yg}{E:Value->Zd->Prop}
noncomputable def Zfa {α:Type}(xs:List α)(k:Int):Option α:=
 if 0<=k then xs[k.toNat]? else if -(xs.length:Int)<=k then xs[(k + xs.length).toNat]? else none
inductive Zrq (Q:V->Hp->Prop)(σ:Hp):V->V->Prop
 | list {a k xs v}:σ a=some (.list xs)->xs.length<=100000->Zfa xs k=some v->Q v σ->Zrq Q σ (.ref a) (.int k)
 | dI {a k kvs v}:σ a=some (.dI kvs)->kvs.lookup k=some v->Q v σ->Zrq Q σ (.ref a) (.int k)
 | dIf {a k kvs ep v}:σ a=some (.dIf kvs ep)->kvs.lookup k=some v->Q v σ->Zrq Q σ (.ref a) (.int k)
 | dS {a t kvs v}:σ a=some (.dS kvs)->kvs.lookup t=some v->Q v σ->Zrq Q σ (.ref a) (.str t)
 | tup {vs k v}:vs.length<=1000->0<=k->vs[k.toNat]? = some v->Q v σ->Zrq Q σ (.tup vs) (.int k)
 | str {x k c}:x.length<=100000->Zfa x k=some c->Q (.str [c]) σ->Zrq Q σ (.str x) (.int k)
theorem Zdn {h:Heap}{a:Option V}{b:Option Value}{v:V}(r:Zkw h a b)(e:a=some v):∃ x,b=some x/\VR h v x:=by
 cases r with
 | none=>exact nn rfl e
 | some q=>cases e;exact ⟨_,rfl,q⟩
theorem py_cases {α:Type}{xs:List α}{k:Int}{v:α}(h:Zfa xs k=some v):(0<=k/\k.toNat < xs.length/\xs[k.toNat]? = some v)\/(k < 0/\-(xs.length:Int)<=k/\xs[(k + xs.length).toNat]? = some v):=by
 unfold Zfa at h
 by_cases h0:0<=k
 ·rw [if_pos h0] at h;exact .inl ⟨h0,(Yt.mp h).1,h⟩
 ·rw [if_neg h0] at h
  by_cases h1 : -(xs.length:Int)<=k
  ·rw [if_pos h1] at h;exact .inr ⟨Zir.mp h0,h1,h⟩
  ·rw [if_neg h1] at h;exact nn rfl h
theorem Ye0 {k:Int}{n:Nat}(h0:0<=k)(h:k.toNat < n)(hn:n<=100000):k < 2 ^ 63:=Zcr h0▸Ziw (Zb (Y8 h) hn)theorem Ymk {k:Int}{n:Nat}(h : -(n:Int)<=k)(hn:n<=100000) : -2 ^ 63<=k:=I4 (Zga (Zis (Ziw hn))) h
theorem Yj2 {k:Int}(h0:0<=k) : -2 ^ 63<=k:=I4 (by decide) h0
theorem in63 {k:Int}(h0 : -2 ^ 63<=k)(h:k < 2 ^ 63):(decide (k < -2 ^ 63)||decide (k≥2 ^ 63))=false:=by rw [decide_eq_false (U4.mpr h0),decide_eq_false (Zir.mpr h)];rfl
theorem Zps {j:Nat}{k:Int}{n:Nat}(e:(if k < 0 then k + (n:Int) else k)=j)(h:j < n):Yhy k n=some j:=by
 unfold Yhy
 dsimp only
 rw [e,decide_eq_true (Z4 j),decide_eq_true (Zdq.mpr h)];rfl
theorem Ziu {k:Int}{n:Nat}(h0:0<=k)(hn:k.toNat < n):Yhy k n=some k.toNat:=Zps ((if_neg (U4.mpr h0)).trans (Zcr h0).symm) hn
theorem Yan {x:Tx}{k:Int}{c:Nat}(h:Zfa x k=some c):(Yhy k x.length).bind ((sT x).cps[·]?)=some c:=by
 rcases py_cases h with ⟨h0,hl,e⟩ | ⟨h0,h1,e⟩
 ·rw [Ziu h0 hl];exact (Z0 ..).trans e
 ·rw [Zps ((if_pos h0).trans (Zcr (Int.add_nonneg_iff_neg_le.mpr h1)).symm) (Yt.mp e).1];exact (Z0 ..).trans e
theorem Zpl {slice:Expr}(hns:∀ x y z q,slice≠.Slice x y z q)(o i:Value):subscripted slice false o i=Zml [o,i] (Zmr o i):=by
 cases slice with
 | Slice x y z q=>exact absurd rfl (hns x y z q)
 | _=>rfl
theorem Zrn {prog:YL}{w:World}(k:Int)(t:Tok):(Zdb prog w).is k (.int k t)=true:=beq_self_eq_true k
theorem Znn {prog:YL}{w:World}(k:Str)(t:Tok):(ZP prog w).is k (.str k t)=true:=beq_self_eq_true k
theorem Yop (R:RS G env st s){a i:V}{x y:Value}{value slice:Expr}{Q:V->Hp->Prop}(ra:VR s.heap a x)(ri:VR s.heap i y)(hns:∀ x y z q,slice≠.Slice x y z q)(h:Zrq Q st.σ a i) :
  W G A (Ze5 value slice x y) (PV G env st s Q) E s:=by
 have hsub:=Zpl hns
 revert ra ri
 refine h.rec ?_ ?_ ?_ ?_ ?_ ?_
 ·exact fun {a k xs v} e hl hv q ra ri=>ra.rE<|ri.iE fun t=>(R.den _ _ e).1.rec fun {l} p r=>Zg6 p.isList.typeIs Zag.lookup ((py_cases hv).elim
   (fun hw0=>hw0.elim fun h0 hw0=>hw0.elim fun hk e=>(r.get e).elim fun z hz=>wpAny_getItem_list p.isList h0 (Ye0 h0 hk hl) ((Z0 ..).trans hz.1) (PV.now R hz.2 q))
   (fun hw4=>hw4.elim fun h0 hw4=>hw4.elim fun hk e=>(r.get e).elim fun z hz=>wpAny_getItem_list_neg p.isList h0 (r.size▸hk) (Ymk hk hl) (r.size▸(Z0 ..).trans hz.1) (PV.now R hz.2 q))) (hsub _ _)
 ·exact fun {a k kvs v} e hv q ra ri=>ra.rE<|ri.iE fun t=>(R.den _ _ e).1.rec fun {l} p e1 r=>(Zdn (Zgf _ e1 r) hv).elim fun x hx=>Zg6 p.typeIs Zhe.lookup (Zsr (Zrn _ _) p.mapOf hx.1 (PV.tok R hx.2 q)) (hsub _ _)
 ·exact fun {a k kvs ep v} e hv q ra ri=>ra.rE<|ri.iE fun t=>(R.den _ _ e).1.rec fun {l} p e1 r=>(Zdn (Zgf _ e1 r) hv).elim fun x hx=>Zg6 p.dictOf.typeIs Zhe.lookup (Zsr (Zrn _ _) p.dictOf.mapOf hx.1 (PV.tok R hx.2 q)) (hsub _ _)
 ·exact fun {a k kvs v} e hv q ra ri=>ra.rE<|ri.sE fun t=>(R.den _ _ e).1.rec fun {l} p e1 r=>(Zdn (Zi4 _ e1 r) hv).elim fun x hx=>Zg6 p.typeIs Zhe.lookup (Zsr (Znn _ _) p.mapOf hx.1 (PV.tok R hx.2 q)) (hsub _ _)
 ·exact fun {vs k v} hl h0 hv q ra ri=>ra.tE fun a l n e q1=>ri.iE fun t=>(q1.get hv).elim fun x hx=>
   have hk:=(Yt.mp hv).1
   item_tupleT (l:=l) ⟨_,e,rfl,_,rfl⟩ (Yj2 h0) (Ye0 h0 hk (Zb hl (by decide))) (Ziu h0 (q1.length▸hk)) hx.1 (PV.now R hx.2 q) (hsub _ _)
 ·exact fun {x k c} hl hc q ra ri=>ra.sE fun t=>ri.iE fun u=>Zg6 (Zcq _ _ _) Zr8.lookup (PyProof.Rows.getItem_str (c:=c) ((py_cases hc).elim (fun hw8=>hw8.elim fun h0 hw8=>hw8.elim fun hk _=>in63 (Yj2 h0) (Ye0 h0 hk hl)) fun hw12=>hw12.elim fun h0 hw12=>hw12.elim fun hk _=>in63 (Ymk hk hl) (Int.lt_trans h0 (by decide))) (Yan hc) (PV.tok R (.str [c] _) q)) (hsub _ _)
end
section
open PySem PySem.Spec PySem.Calls PyProof.Rows PySem.W PySem.SeqAt
variable {G:GC}{env:Env}{st:St}{s s':Zd}{A:Yg}{E:Value->Zd->Prop}
set_option genCtorIdx true in
inductive BM where
 | lAppend | lCount | lPop | sJoin | sIsspace | dGet | setAdd
noncomputable def BM.typ:BM->String
 | .lAppend=>"list" | .lCount=>"list" | .lPop=>"list" | .sJoin=>"str" | .sIsspace=>"str" | .dGet=>"dict" | .setAdd=>"set"
noncomputable def BM.id:BM->String
 | .lAppend=>"list.append" | .lCount=>"list.count" | .lPop=>"list.pop" | .sJoin=>"str.join" | .sIsspace=>"str.isspace" | .dGet=>"dict.get" | .setAdd=>"set.add"
noncomputable def BM.nm:BM->Nat
 | .lAppend=>0 | .lCount=>2 | .lPop=>1 | .sJoin=>3 | .sIsspace=>5 | .dGet=>7 | .setAdd=>9
theorem Zrz (b:BM):Slot b.typ (nm b.nm) b.id/\PlainAttrs b.typ/\Zfu (.builtin b.id)=pure (.type "method_descriptor"):=by
 cases b
 ·exact ⟨PySem.F.slot_list_append,Zgs,by kernel_rfl⟩
 ·exact ⟨PySem.F.slot_list_count,Zgs,by kernel_rfl⟩
 ·exact ⟨Zvi,Zgs,by kernel_rfl⟩
 ·exact ⟨Zdd,Kr,by kernel_rfl⟩
 ·exact ⟨Zr7,Kr,by kernel_rfl⟩
 ·exact ⟨Zde,Zgt,by kernel_rfl⟩
 ·exact ⟨PySem.F.slot_set_add,PySem.F.plainAttrs_set,by kernel_rfl⟩
noncomputable def Zho:List V->Option (List Tx)
 | []=>some []
 | .str t::r=>(Zho r).map (t::·)
 | _=>none
theorem Ze6 {h:Heap}{xs l ts}(r:VRs h xs l)(e:Zho xs=some ts):StrsAre l (ts.map sT):=by
 induction xs generalizing l ts with
 | nil=>cases e;exact r.nE .nil
 | cons v xs ih=>
  cases v with
  | str t=>
   have hz0:=Yz.mp e
   have hq0:=hz0.choose_spec
   have e:=hq0.2
   exact e▸r.cE fun J J r1 r2=>r1.sE fun J=>.cons _ _ (ih r2 (hq0.1))
  | _=>exact nn rfl e
theorem Znx (t:Tx):∀ ts:List Tx,Spec.countIn (.str (sT t)) ((ts.map sT).map PyData.str)=((ts.count t:Nat):Int)
 | []=>rfl
 | u::r=>by
  rw [Uk,Uk,Spec.countIn,Znx t r,List.count_cons]
  refine (Classical.em (u=t)).elim (fun h=>?_) fun h=>?_
  ·subst h;simp [Spec.same];omega
  ·have h':(u == t)=false:=by simpa using h
   simp [Spec.same,h,h']
noncomputable def joinT (x:Tx):List Tx->Tx
 | []=>[]
 | [t]=>t
 | t::r=>t++x++joinT x r
theorem Zt6 (x:Tx):∀ ts:List Tx,Zuz (sT x) (ts.map sT)=sT (joinT x ts)
 | []=>rfl
 | [t]=>rfl
 | t::u::r=>(congrArg (sT t++sT x++·) (Zt6 x (u::r))).trans (by rw [Zed,Zed];rfl)theorem Zkg (x:Tx)(ts:List Tx):Txt.join (sT x) (ts.map sT)=sT (joinT x ts):=(StrLaws.glued_eq_join _ _).trans (Zt6 x ts)
inductive Zjb (Q:V->Hp->Prop)(σ:Hp):BM->V->List V->Prop
 | append {a xs v}:σ a=some (.list xs)->xs.length<=100000->Q .none (upd σ a (.list (xs++[v])))->Zjb Q σ .lAppend (.ref a) [v]
 | count {a xs t ts}:σ a=some (.list xs)->Zho xs=some ts->Q (.int (ts.count t)) σ->Zjb Q σ .lCount (.ref a) [.str t]
 | pop {a xs v}:σ a=some (.list xs)->xs.length<=100000->xs.getLast? = some v->Q v (upd σ a (.list xs.dropLast))->Zjb Q σ .lPop (.ref a) []
 | join {x a xs ts}:σ a=some (.list xs)->x.length<=16->Zho xs=some ts->(ts.map Z5).sum + ts.length<=100000->Q (.str (joinT x ts)) σ->Zjb Q σ .sJoin (.str x) [.ref a]
 | joinT {x us ts}:x.length<=16->Zho us=some ts->(ts.map Z5).sum + ts.length<=100000->Q (.str (Internal.joinT x ts)) σ->Zjb Q σ .sJoin (.str x) [.tup us]
 | getI {d kvs k dv}:σ d=some (.dI kvs)->Q ((kvs.lookup k).getD dv) σ->Zjb Q σ .dGet (.ref d) [.int k,dv]
 | getS2 {d kvs k dv}:σ d=some (.dS kvs)->Q ((kvs.lookup k).getD dv) σ->Zjb Q σ .dGet (.ref d) [.str k,dv]
 | getS {d kvs k}:σ d=some (.dS kvs)->Q ((kvs.lookup k).getD .none) σ->Zjb Q σ .dGet (.ref d) [.str k]
 | add {d S n k}:σ d=some (.set S n)->n<=100->Q .none (upd σ d (.set (fun k'=>S k'||decide (k'=sT k)) (if S (sT k) then n else n + 1)))->Zjb Q σ .setAdd (.ref d) [.str k]
 | space {x}:Q (.bool (decide (0 < x.length)&&x.all Zap)) σ->Zjb Q σ .sIsspace (.str x) []theorem Za1 {h h':Heap}{a:Addr}{o:O}(D:Den G.prog G.w h a o)(sb:XN a h h'):Imk h h':=fun b o' e hi=>sb b o' (fun q=>D.obj.elim fun J d=>d.2 (si (q▸e) d.1▸hi)) e
theorem PV.upd (R:RS G env st s){Q:V->Hp->Prop}{a:Addr}{o o':O}{h':Heap}{t:Nat}{d:Drawn}{v:V}{val:Value}(e:st.σ a=some o)(sb:XN a s.heap h')(D:Den G.prog G.w h' a o')(r:VR h' v val)(q:Q v (upd st.σ a o')) :
  PV G env st s Q val ⟨h',s.gens,d,t,s.os⟩:=
 have P:=R.put (h':=h') (t:=t) (d:=d) (.inl (iS e)) (fun b o h e=>sb b o h e) D
 ⟨v,_,P.1,P.2,r,q⟩theorem Zlg {h:Heap}{a:Option V}{b:Option Value}{v:V}{x:Value}(r:Zkw h a b)(e:VR h v x):VR h (a.getD v) (b.getD x):=r.rec e fun q=>q
theorem VRs.dropLast {h:Heap}{vs:List V}{l:List Value}(r:VRs h vs l):VRs h vs.dropLast l.dropLast:=by rw [Zdy,Zdy,<-r.length];exact r.take _
theorem Zvu {ts:List Tx}(h:(ts.map Z5).sum + ts.length<=100000):((ts.map sT).map (·.length)).sum + (ts.map sT).length<=1048576:=by rw [U7,Zh];exact Zb h (by decide)
theorem Yob {l:List Value}(h:0 < l.length):l.toArray.eraseIdxIfInBounds (l.toArray.size - 1)=l.dropLast.toArray:=by
 rw [Zdf,Zu9,dif_pos (show l.length - 1 < l.toArray.size from Yk6 h Nat.one_pos),Ycb,Zqo]
section
variable {self:V}{x:Value}{vs:List V}{l:List Value}{Q:V->Hp->Prop}{a:Addr}
theorem Ya3 (R:RS G env st s){xs v}(e:st.σ a=some (.list xs))(hl:xs.length<=100000)(q:Q .none (upd st.σ a (.list (xs++[v]))))(r:VR s.heap v x):W G A (call (.builtin "list.append") [.ref a,x]) (PV G env st s Q) E s:=
 have D:=(R.den _ _ e).1
 D.rec fun {l} p r'=>Yhu p (fun h' p' sb=>PV.upd R e sb.extBut (Den.list (l:=l++[_]) (Zgw ..▸p') ((r'.append (VRs.one r)).mono (Za1 D sb.extBut))) .none q) (YD (r'.size▸hl))
set_option tactic.hygienic true in
theorem Yol (R:RS G env st s){xs v}(e:st.σ a=some (.list xs))(hl:xs.length<=100000)(hv:xs.getLast? = some v)(q:Q v (upd st.σ a (.list xs.dropLast))):W G A (call (.builtin "list.pop") [.ref a]) (PV G env st s Q) E s:=by
 have D:=(R.den _ _ e).1
 obtain ⟨⟨n,pe⟩,r⟩:=id D
 rename_i l
 refine (r.get ((Zu3 (l:=xs)).symm.trans hv)).elim fun y hr50=>hr50.elim fun hy ry=>?_
 replace hy:=(r.length)▸hy
 have sb:=(ZV s.heap a (ZZ fun xs=>xs.eraseIdxIfInBounds (l.toArray.size - 1))).extBut
 refine call_meets Zvi ⟨_,pe,rfl⟩ PySem.F.entry_list_pop (PySem.F.args_list_pop_1 _) (MeetsSeq.list_pop_last _ l.toArray n y ((Z0 ..).trans hy) (YD (r.size▸hl))) ⟨pe,?_⟩
 exact PV.upd R e sb (Den.list (l:=l.dropLast) ⟨_,(Ye (ZZ fun xs=>xs.eraseIdxIfInBounds (l.toArray.size - 1)) pe rfl).trans (by rw [ZZ];rw [Yob (ZS (Zr _) (Yt.mp hy).1)])⟩ (r.dropLast.mono (Za1 D sb))) (ry.mono (Za1 D sb)) q
theorem Yi9 (hB1:(G.B.get? Uy).isSome)(R:RS G env st s){b:BM}(rs:VR s.heap self x)(r:VRs s.heap vs l)(h:Zjb Q st.σ b self vs) :
  W G A (call (.builtin b.id) (x::l)) (PV G env st s Q) E s:=by
 revert rs r
 refine h.rec ?_ ?_ ?_ ?_ ?_ ?_ ?_ ?_ ?_ ?_
 ·exact fun e hl q rs r=>rs.rE<|r.oE fun J r=>Ya3 R e hl q r
 ·exact fun e hs q rs r=>rs.rE<|r.oE fun J r=>r.sE fun J=>(R.den _ _ e).1.rec fun p r=>count_list_strs p.isList (Ze6 r hs) (Znx _ _▸PV.tok R (.int _ _) q)
 ·exact fun e hl hv q rs r=>rs.rE<|r.nE (Yol R e hl hv q)
 ·exact fun {x a xs ts} e hx hs hw q rs r=>rs.sE fun t=>r.oE fun J r=>r.rE<|(R.den _ _ e).1.rec fun p r=>join_listW (ys:=ts.map sT) p.isList (Ze6 r hs) hx (Zvu hw) fun t k=>Zkg x ts▸PV.tok R (.str _ _) q
 ·exact fun {x us ts} hx hs hw q rs r=>rs.sE fun t=>r.oE fun J r=>r.tE fun a l n e r=>join_tupleW (ys:=ts.map sT) ⟨_,e,rfl,_,rfl⟩ (Ze6 r hs) hx (Zvu hw) fun t k=>Zkg x ts▸PV.tok R (.str _ _) q
 ·exact fun {d kvs k dv} e q rs r=>rs.rE<|r.dE fun J J r1 r2=>r1.iE fun J=>(R.den _ _ e).1.rec fun p e1 v=>Zkp Zde p.typeIs Zhf (Zsg _ _ _) (Yjk (Zdb G.prog G.w) _ (Zrn _ _) (Zkb hB1 R e) _) ⟨_,p.mapOf,PV.tok R (Zlg (Zgf _ e1 v) r2) q⟩
 ·exact fun {d kvs k dv} e q rs r=>rs.rE<|r.dE fun J J r1 r2=>r1.sE fun J=>(R.den _ _ e).1.rec fun p e1 v=>Zkp Zde p.typeIs Zhf (Zsg _ _ _) (Yjk (ZP G.prog G.w) _ (Znn _ _) (Zkb hB1 R e) _) ⟨_,p.mapOf,PV.tok R (Zlg (Zi4 _ e1 v) r2) q⟩
 ·exact fun {d kvs k} e q rs r=>rs.rE<|r.oE fun J r1=>r1.sE fun J=>(R.den _ _ e).1.rec fun p e1 v=>Zkp Zde p.typeIs Zhf (PySem.F.args_dict_get_2 _ _) (meets_dict_get (ZP G.prog G.w) _ (Znn _ _) (Zkb hB1 R e)) ⟨_,p.mapOf,PV.tok R (Zlg (Zi4 _ e1 v) .none) q⟩
 ·exact fun {d S n k} e hn q rs r=>rs.rE<|r.oE fun J r1=>r1.sE fun J=>call_set_add (knd:=ZP G.prog G.w) (k:=sT _) (Znn _ _) rfl (R.den _ _ e).1 (ZS (Yr hn 1) (Za rfl)) fun h' sb S'=>PV.upd R e sb.extBut (Den.set S') .none q
 ·exact fun {x} q rs r=>rs.sE fun J=>r.nE<|call_gives Zr7 (Zcq _ _ _) PySem.F.entry_str_isspace (PySem.F.args_str_isspace_1 _) (gives_str_isspace _ _) (show PV _ _ _ _ _ (.bool (decide ((sT x).length > 0)&&(sT x).cps.all Zap)) _ from List.all_toArray (l:=x) (p:=Zap)▸PV.tok R (.bool _) q)
end
end
section
variable {G:GC}{env:Env}{st st' st'':St}{s s' s'' s₀ j0:Zd}{A:Yg}{E:Value->Zd->Prop}{n:Nat}
structure Off (G:GC)(env:Env)(st:St)(a:Addr):Prop where
 σ:st.σ a=none
 loc:a≠env.locals
 tab:∀ c,(c,a)∉G.T
 base:G.B.get? a=none
theorem RS.off_fresh (R:RS G env st s){a:Addr}(h:s.heap.get? a=none):Off G env st a:=
 ⟨R.fresh h,fun q=>R.fr.elim fun J F=>F.1.ns.elim fun J z=>z.elim fun J z=>z.elim fun J z=>nn h (q▸z.1),fun c hc=>(R.tab _ hc).t.elim fun J q=>nn h q.2.2,Sn fun o q=>R.fr.elim fun J F=>nn h (F.1.keep a o q)⟩
theorem Off.step {a:Addr}{o:Obj}(h:Off G env st a)(e:s.heap.get? a=some o)(S:Stp G env st st' s s'):Off G env st' a/\s'.heap.get? a=some o:=
 ⟨⟨Sn fun x q=>(S.new a (iS q)).elim (nS h.1) fun r=>nn r e,h.2,h.3,h.4⟩,S.keep a o e h.1 h.2 h.3⟩
structure Chg (P:List Addr)(GP:List Nat)(s s':Zd):Prop where
 heap:∀ b o,b∉P->s.heap.get? b=some o->s'.heap.get? b=some o
 gens:∀ k x,k∉GP->s.gens[k]? = some x->s'.gens[k]? = some x
 bare:Ir s.gens->Ir s'.gens
 os:s'.os=s.os
 tok:0 < s.toks->0 < s'.toks
theorem Zzb {h h':Heap}{c P:Addr}{ps:Array Value}(hc:∀ o,h.get? c=some o->h'.get? c=some o)(hP:∀ o,h.get? P=some o->h'.get? P=some o)(i:h.IsCode c P ps):h'.IsCode c P ps:=by
 refine i.elim fun o hr50=>hr50.elim fun vs hr51=>hr51.elim fun file hr52=>hr52.elim fun tf hr53=>hr53.elim fun flags hr54=>hr54.elim fun tg hr55=>hr55.elim fun inF hr56=>hr56.elim fun text hr57=>hr57.elim fun tt hr58=>hr58.elim fun op hr59=>hr59.elim fun x1 hr60=>hr60.elim fun x2 hr61=>hr61.elim fun x3 hr62=>hr62.elim fun x4 hr63=>hr63.elim fun x5 hr64=>hr64.elim fun x6 hr65=>hr65.elim fun x7 hr66=>hr66.elim fun x8 x9=>?_
 exact ⟨o,vs,file,tf,flags,tg,inF,text,tt,op,hc _ x1,x2,x3,x4,x5,x6,x7,hP _ x8,x9⟩
theorem RS.chg (R:RS G env st s){P:List Addr}{GP:List Nat}(O:∀ a∈P,Off G env st a)(hni:∀ a∈P,∀ o,s.heap.get? a=some o->¬ imm o)(c:Chg P GP s s'):RS G env st s':=
 have ik:Imk s.heap s'.heap:=fun b o e hi=>c.heap b o (fun q=>hni b q o e hi) e
 ⟨R.fr.imp fun J F=>⟨⟨F.1.ns.at' (fun o e=>c.heap _ o (fun h=>(O _ h).loc rfl) e),fun b o e=>c.heap b o (fun q=>nn (O _ q).base e) (F.1.keep b o e),F.1.above⟩,Zdc ik F.2⟩,
  fun b o e=>⟨(R.den b o e).1.mono ik fun ob eb=>c.heap b ob (fun q=>nn (O _ q).σ e) eb,(R.den b o e).2⟩,R.cel,fun p h=>
   have k1:=fun o=>c.heap p.1 o fun q=>nS (O _ q).base (R.tab p h).c0
   have k2:=fun o=>c.heap p.2 o fun q=>(O _ q).tab p.1 h
   ⟨(R.tab p h).t.imp fun J q=>⟨Zzb k1 k2 q.1,q.2.but ik k1 k2⟩,(R.tab p h).s0,(R.tab p h).l0,(R.tab p h).b0,(R.tab p h).c0⟩,c.bare R.bare,c.os.trans R.os⟩
theorem Stp.chg {st₀:St}(S:Stp G env st₀ st s₀ s){P:List Addr}{GP:List Nat}(hP:∀ a∈P,s₀.heap.get? a=none)(hG:∀ k∈GP,s₀.gens[k]? = none)(c:Chg P GP s s'):Stp G env st₀ st s₀ s':=
 have ne:∀ b o,s₀.heap.get? b=some o->b∉P:=fun b o e q=>nn (hP b q) e
 ⟨fun b o e h1 h2 h3=>c.heap b o (ne b o e) (S.keep b o e h1 h2 h3),fun b o e=>iS (c.heap b _ (ne b o e) (Z2.mp (S.live b o e)).choose_spec),S.new,fun k x e=>c.gens k x (fun q=>nn (hG k q) e) (S.gens k x e)⟩
def Zkv (s:Zd)(it:Addr):Prop:=∃ o T vs,s.heap.get? it=some o/\o.cls= .type T/\o.data= .fields vs/\
 (["enumerate","zip","dict_itemiterator","dict_reverseitemiterator","odict_iterator","itertools.zip_longest","itertools.pairwise"].contains T)=false
theorem Zkv.go {M:Model}{it:Addr}(h:Zkv s it)(t:Expr)(v:Value){Q:Unit->Zd->Prop}(q:Q () s):wpAny M A (letOwnedTupleGo t (.ref it) v) Q E s:=by
 have key:∀ a:Addr,wpAny M A (do
   let o <-load it
   match o.cls,o.data with
   | .type n,.fields vs=>
    if ["enumerate","zip","dict_itemiterator","dict_reverseitemiterator","odict_iterator","itertools.zip_longest","itertools.pairwise"].contains n&&vs[0]? == some (Uz a) then
     rule "for.unpacks-the-owned-tuple"
     updateField it 0 .none
   | _,_=>pure ()) Q E s:=fun a=>by
  refine h.elim fun o hr50=>hr50.elim fun T hr51=>hr51.elim fun vs hr52=>hr52.elim fun e1 hr53=>hr53.elim fun e2 hr54=>hr54.elim fun e3 e4=>?_
  refine (wbL e1 ?_)
  rw [e2,e3]
  dsimp only
  rw [e4,Bool.false_and]
  exact Ze q
 cases t with
 | Tuple=>cases v with
  | ref a=>exact key a
  | _=>exact Ze q
 | List=>cases v with
  | ref a=>exact key a
  | _=>exact Ze q
 | _=>exact Ze q
noncomputable def Zen (x:Tx):Bool:=x.all (· < 128)
structure Alive (G:GC)(P:List Addr)(s s'':Zd):Prop where
 at_:∀ a∈P,s''.heap.get? a=s.heap.get? a
 imk:Imk s.heap s''.heap
 base:∀ b o,G.B.get? b=some o->s''.heap.get? b=some o
 bare:Ir s''.gens
 os:s''.os=G.os
 tok:0 < s''.toks
noncomputable def escL:Nat->Bool->Tx->List V
 | i,true,[]=>[.tup [.int ((i:Int) - 1),.str [92]]]
 | _,false,[]=>[]
 | i,true,c::r=>.tup [.int i,.str [92,c]]::escL (i + 1) false r
 | i,false,c::r=>if c=92 then escL (i + 1) true r else .tup [.int i,.str [c]]::escL (i + 1) false r
structure IterG (G:GC)(env:Env)(A:Yg)(it:Addr)(GP:List Nat)(g:St->Prop)(It:List Addr->List V->Zd->Prop):Prop where
 obj:∀ P l s,It P l s->∀ a∈P,∃ o,s.heap.get? a=some o/\¬ imm o
 at':∀ P l s s',It P l s->Alive G P s s'->(∀ k∈GP,s'.gens[k]? = s.gens[k]?)->It P l s'
 gobj:∀ P l s,It P l s->∀ k∈GP,(s.gens[k]?).isSome
 own:∀ P l s,It P l s->Zkv s it
 item:∀ v P l s st (Q:Option Value->Zd->Prop) (E:Value->Zd->Prop),It P (v::l) s->0 < s.toks->RS G env st s->g st->(∀ a∈P,Off G env st a)->
  (∀ x s' P',(∀ a∈P',a∈P\/s.heap.get? a=none)->Chg P' GP s s'->VR s'.heap v x->It P' l s'->Q (some x) s')->W G A (Za3 (.ref it)) Q E s
 fin:∀ P s st (Q:Option Value->Zd->Prop) (E:Value->Zd->Prop),It P [] s->0 < s.toks->RS G env st s->g st->(∀ a∈P,Off G env st a)->
  (∀ s' P',(∀ a∈P',a∈P\/s.heap.get? a=none)->Chg P' GP s s'->Q none s')->W G A (Za3 (.ref it)) Q E s
inductive Yli:Addr->List V->Hp->List V->(St->Prop)->Prop
 | esc {x:Tx} {σ:Hp}:Zen x=true->Yli 336 [.str x] σ (escL 0 false x) (fun J=>True)
 | ns {self:V} {d r0:Addr} {rs:List Addr} {w:V} {σ:Hp}:rs.length<=1000->σ d=some (.list ((r0::rs).map .ref))->σ r0=some (.list [w])->(∀ r∈rs,σ r=some (.list []))->
   Yli 75 [self,.ref d] σ [w] (fun st=>st.σ d=some (.list ((r0::rs).map .ref))/\st.σ r0=some (.list [w])/\∀ r∈rs,st.σ r=some (.list []))
structure GenR (G:GC)(env:Env)(st:St)(s:Zd)(l:List V)(g:St->Prop)(r:Value)(s':Zd)(ga:Addr)(k:Nat)(P:List Addr):Prop where
 e:r= .ref ga
 i:s'.heap.IsGen ga k
 it:∀ (A':Yg),AOK A' 8->∃ It,(∀ env':Env,IterG G env' A' ga [k] g It)/\It P l s'
 R:RS G env st s'
 S:Stp G env st st s s'
 n:∀ a∈P,s.heap.get? a=none
 gn:s.gens[k]? = none
 t:0 < s'.toks
def Ym9 (G:GC):Prop:=
 ∀ (f:Addr) (vs:List V) (l:List V) (g:St->Prop) (A:Yg) (env:Env) (st:St) (s:Zd) (vals:List Value) (E:Value->Zd->Prop),
  Yli f vs st.σ l g->AOK A 8->0 < s.toks->RS G env st s->VRs s.heap vs vals->
  W G A (Zac (.ref f)) (fun J s'=>s'=s) E s/\W G A (call (.ref f) vals) (fun r s'=>∃ ga k P,GenR G env st s l g r s' ga k P) E s
structure Dl where
 fn:Addr->List V->Hp->(V->Hp->Prop)->Prop
 gen:Prop
 scr:Addr->List Int->Prop
instance:CoeFun Dl (fun J=>Addr->List V->Hp->(V->Hp->Prop)->Prop):=⟨Dl.fn⟩
end
section
noncomputable def clsL:List ((Addr×Nat)×Addr):=[
 ((150,50),75),((150,56),90),((150,66),97),((150,67),106),((150,75),120),((150,72),126),((150,95),133),((150,96),140),
 ((241,115),189),((241,117),203),((241,128),238),
 ((325,120),269),((325,139),277),((325,1),285),((325,123),307),((325,121),314),((325,134),322)]
noncomputable def ownL:List (Addr×Nat):=[
 (150,30),(150,31),(150,32),(150,33),(150,34),(150,36),(150,37),(150,38),(150,39),
 (150,41),(150,42),(150,44),(150,45),(150,46),(150,47),(150,48),(150,49),
 (241,108),(241,109),(241,110),(241,111),(241,112),(241,113),(325,137)]noncomputable def clsM (c:Addr)(m:Nat):Option Addr:=clsL.lookup (c,m)noncomputable def ownM (c:Addr)(m:Nat):Bool:=ownL.contains (c,m)
noncomputable def gtL:List (Nat×V):=[
 (64,.bi .len),(133,.bi .range),(43,.bi .list),(144,.bi .sum),(174,.bi .chr),(122,.bi .str),(185,.bi .max),(88,.bi .sorted),(35,.bi .set),(150,.bi .enum),
 (101,.str [10]),(102,.str []),(15,.ref 44),
 (19,.ref 150),(103,.ref 241),(114,.ref 325),
 (73,.ref 161),(94,.ref 168),
 (146,.ref 336),(151,.ref 343),(154,.ref 350),(156,.ref 357),
 (159,.ref 362),(164,.ref 369),(165,.ref 376),(176,.ref 383),(180,.ref 390),(182,.ref 395),(186,.ref 400),(194,.ref 407)]noncomputable def gt (i:Nat):Option V:=gtL.lookup i
def Yhn (G:GC)(i:Nat)(v:V):Prop:=
 ∃ mg,G.B.Ns Uj mg/\((∃ x,mg (nm i)=some x/\VR G.B v x)\/(mg (nm i)=none/\∃ mb x,G.B.Ns UJ mb/\mb (nm i)=some x/\VR G.B v x))noncomputable def pileGet (K:Frag)(c:Addr):Bool:=Zb7 K (.ref c) "__getattribute__" == some (some (.builtin "list.__getattribute__"))&&(Zb7 K (.ref c) "__getattr__" == some none&&mroIn K c (.type "list") == some true)def CF (K:Frag)(c:Addr)(name:Str)(f:Addr):Prop:=(Yoc K c name=true\/pileGet K c=true)/\(Yh0 K c=true)/\(Zb7 K (.ref c) name=some (some (.ref f)))/\(isFn K (.ref f)=true)/\(specialIn K (.ref f) "__get__" = some (some (.builtin "function.__get__")))/\(takesIn K (.ref f)=some false)def CF.plain {K}(z:@CF K c name f):=z.1
def CF.has {K}(z:@CF K c name f):=z.2.1
def CF.find {K}(z:@CF K c name f):=z.2.2.1
def CF.fn {K}(z:@CF K c name f):=z.2.2.2.1
def CF.noGet {K}(z:@CF K c name f):=z.2.2.2.2.1
def CF.takes {K}(z:@CF K c name f):=z.2.2.2.2.2
def OF (K:Frag)(c:Addr)(name:Str):Prop:=(Yoc K c name=true\/pileGet K c=true)/\(Yh0 K c=true)/\(Zb7 K (.ref c) name=some none)/\(Zb7 K (.ref c) "__setattr__" = some (some (.builtin "object.__setattr__")))/\(takerIn K c name=some none)/\(∃ cd,clsIn K c=some cd/\cd.hasDict=true/\cd.mro.isEmpty=false/\cd.mro.contains (.type "object")=true/\∀ self,Zn5 self "__setattr__" cd.mro=pure ())def OF.plain {K}(z:@OF K c name):=z.1
def OF.has {K}(z:@OF K c name):=z.2.1
def OF.find {K}(z:@OF K c name):=z.2.2.1
def OF.setter {K}(z:@OF K c name):=z.2.2.2.1
def OF.mro {K}(z:@OF K c name):=z.2.2.2.2.2
def Zco (K:Frag):Prop:=(Zb7 K (.ref 325) "__len__" = some (some (.ref 292))/\isFn K (.ref 292)=true/\Zb7 K (.ref 325) "__bool__" = some none)/\(Zb7 K (.ref 325) "__str__" = some (some (.ref 299))/\isFn K (.ref 299)=true)/\(mroIn K 325 (.type "list")=some true)/\(noSeq K 325=true)/\(pileGet K 325=true)/\(Zb7 K (.ref 325) (Zz "append")=some (some (.builtin "list.append")))/\(Zb7 K (.ref 325) (Zz "__getitem__")=some (some (.builtin "list.__getitem__")))/\(Zb7 K (.ref 325) (Zz "__setitem__")=some (some (.builtin "list.__setitem__")))/\(Zb7 K (.ref 325) (Zz "__iter__")=some (some (.builtin "list.__iter__")))def Zco.len {K}(z:@Zco K):=z.1
def Zco.str {K}(z:@Zco K):=z.2.1
def Zco.isl {K}(z:@Zco K):=z.2.2.1
def Zco.noseq {K}(z:@Zco K):=z.2.2.2.1
def Zco.plainA {K}(z:@Zco K):=z.2.2.2.2.1
def Zco.app {K}(z:@Zco K):=z.2.2.2.2.2.1
def Zco.getitem {K}(z:@Zco K):=z.2.2.2.2.2.2.1
def Zco.setitem {K}(z:@Zco K):=z.2.2.2.2.2.2.2.1
def Zco.iter {K}(z:@Zco K):=z.2.2.2.2.2.2.2.2
def GOK (G:GC):Prop:=(G.B.get? Uy).isSome/\(∀ i v,gt i=some v->Yhn G i v)/\G.B.NoLimit/\G.K.In G.B/\(∀ c m f,clsM c m=some f->CF G.K c (nm m) f)/\(∀ c m,ownM c m=true->OF G.K c (nm m))/\Zco G.K/\(∃ mg bm o,G.B.Ns Uj mg/\mg (Zz "__builtins__")=some (.ref bm)/\bm≠UJ/\G.B.get? bm=some o/\o.cls= .type "module"/\o.dict=some UJ/\o.data= .plain)/\(∃ (kvs:List (Str×Value)) (ep:Nat),G.B.DictAt (ZP G.prog G.w) 44 kvs ep/\kvs.length<=100/\(44 == Uy)=false)def GOK.sys (z:@GOK G):=z.1
def GOK.glob (z:@GOK G):=z.2.1
def GOK.nolimit (z:@GOK G):=z.2.2.1
def GOK.kin (z:@GOK G):=z.2.2.2.1
def GOK.cls (z:@GOK G):=z.2.2.2.2.1
def GOK.own (z:@GOK G):=z.2.2.2.2.2.1
def GOK.acc (z:@GOK G):=z.2.2.2.2.2.2.1
def GOK.bmod (z:@GOK G):=z.2.2.2.2.2.2.2.1
def GOK.nsmap (z:@GOK G):=z.2.2.2.2.2.2.2.2
noncomputable abbrev Sc:=List (Nat×U8)
structure EOK (env:Env)(sc:Sc):Prop where
 kind:env.scope.kind= .function
 globals:env.globals=Uj
 builtins:env.builtins=UJ
 names:env.scope.names=sc.map fun p=>(nm p.1,p.2)
 co:env.scope.isCoroutine=false
theorem Zck (sc:Sc)(i:Nat):(sc.map fun p=>(nm p.1,p.2)).lookup (nm i)=sc.lookup i:=by
 induction sc with
 | nil=>rfl
 | cons p r ih=>
  have:(nm i == nm p.1)=(i == p.1):=if h:i=p.1 then by rw [h,beq_self_eq_true,beq_self_eq_true] else by rw [beq_eq_false_iff_ne.mpr h,beq_eq_false_iff_ne.mpr fun e=>h (Zjf e)]
  rw [Uk,Xw,Xw,this,ih]
theorem EOK.kindOf {env:Env}{sc:Sc}(h:EOK env sc)(i:Nat):env.kindOf (nm i)=sc.lookup i:=by
 unfold Env.kindOf;rw [h.names];exact Zck sc i
theorem Zwd:∀ x∈["__debug__","__classdict__"],hsL (Zz x).cps.toList∉nmH/\hsL (Zz x).cps.toList≠0:=by decide +kernel
theorem Zt0 (i:Nat){y:String}(hy:y∈["__debug__","__classdict__"]):(nm i == Zz y)=false:=by
 rw [beq_eq_false_iff_ne]
 intro h
 have O:=Zwd y hy
 rw [<-h] at O
 cases hi:nmL[i]? with
 | none=>exact O.2 (by unfold nm;rw [hi];rfl)
 | some x=>exact O.1 (Z9 (i:=i) (by rw [<-Yey,Yd,hi];unfold nm;rw [hi];rfl))theorem Zcu (i:Nat):(nm i == ("__debug__" : Str))=false:=Zt0 i (y:="__debug__") (by decide)theorem nm_cd (i:Nat):(nm i == ("__classdict__" : Str))=false:=Zt0 i (y:="__classdict__") (by decide)
structure DV (G:GC)(Δ:Dl)(n:Nat):Prop where
 fn:∀ (f:Addr) (vs:List V) (Q:V->Hp->Prop) (A:Yg) (env:Env) (st:St) (s:Zd) (vals:List Value) (E:Value->Zd->Prop),
  AOK A n->0 < s.toks->RS G env st s->VRs s.heap vs vals->Δ f vs st.σ Q->
  W G A (Zac (.ref f)) (fun J s'=>s'=s) E s/\W G A (call (.ref f) vals) (PV G env st s Q) E s
 gen:Δ.gen->8<=n/\Ym9 G
 code:∀ (f:Addr) (vs:List V) (Q:V->Hp->Prop) (A:Yg) (env:Env) (st:St) (s:Zd) (vals:List Value) (E:Value->Zd->Prop),
  (∃ c m,clsM c m=some f)->AOK A n->0 < s.toks->RS G env st s->VRs s.heap vs vals->Δ f vs st.σ Q->
  codeAny (model G.prog G.w) A (.call (.ref f) ⟨vals,[]⟩) (fun r s'=>match r with | .ok (.ret v)=>PV G env st s Q v s' | .ok _=>False | .error e=>E e s') s
 scr:∀ a xs,Δ.scr a xs->∃ items:List Value,G.B.IsList a items.toArray/\∀ h,VRs h (xs.map .int) items
structure Cx (G:GC)(Δ:Dl)(n:Nat)(env:Env)(A:Yg)(sc:Sc):Prop where
 C:GOK G
 D:DV G Δ n
 hE:EOK env sc
 hA:AOK A (n + 3)noncomputable abbrev FX:=Dl->(Nat->Option V)->(Nat->Option Addr)->(V->Hp->Prop)->Hp->Prop
noncomputable abbrev FXs:=Dl->(Nat->Option V)->(Nat->Option Addr)->(List V->Hp->Prop)->Hp->Prop
noncomputable abbrev FB:=Dl->(Nat->Option V)->(Nat->Option Addr)->(Bool->Hp->Prop)->Hp->Prop
structure PVsw (G:GC)(env:Env)(st:St)(s:Zd)(Q:List V->Hp->Prop)(vals:List Value)(s':Zd)(vs:List V)(σ':Hp):Prop where
 R:RS G env ⟨σ',st.lv,st.cv⟩ s'
 S:Stp G env st ⟨σ',st.lv,st.cv⟩ s s'
 r:VRs s'.heap vs vals
 q:Q vs σ'
def PVs (G:GC)(env:Env)(st:St)(s:Zd)(Q:List V->Hp->Prop)(vals:List Value)(s':Zd):Prop:=∃ vs σ',PVsw G env st s Q vals s' vs σ'
def SX (sc:Sc)(e:Expr)(f:FX):Prop:=
 ∀ ⦃G Δ n env A⦄,Cx G Δ n env A sc->∀ (st:St) (s:Zd) (Q:V->Hp->Prop) (E:Value->Zd->Prop),0 < s.toks->RS G env st s->f Δ st.lv st.cv Q st.σ->W G A (eval e env) (PV G env st s Q) E s
def SXs (sc:Sc)(es:List Expr)(f:FXs):Prop:=
 ∀ ⦃G Δ n env A⦄,Cx G Δ n env A sc->∀ (pos:Pos) (st:St) (s:Zd) (Q:List V->Hp->Prop) (E:Value->Zd->Prop),0 < s.toks->RS G env st s->f Δ st.lv st.cv Q st.σ->
  W G A (Yir (backTo pos (starEach es env))) (PVs G env st s Q) E s
def SB (sc:Sc)(e:Expr)(f:FB):Prop:=
 ∀ ⦃G Δ n env A⦄,Cx G Δ n env A sc->∀ (st:St) (s:Zd) (Q:Bool->Hp->Prop) (E:Value->Zd->Prop),0 < s.toks->RS G env st s->f Δ st.lv st.cv Q st.σ->W G A (Zt7 e env (eval e env)) (PB G env st s Q) E s
section
variable {G:GC}{Δ:Dl}{n:Nat}{env:Env}{A:Yg}{sc:Sc}{st:St}{s:Zd}{E:Value->Zd->Prop}
theorem SX.then {e:Expr}{f:FX}(h:SX sc e f)(X:Cx G Δ n env A sc){Q:V->Hp->Prop}(ht:0 < s.toks)(R:RS G env st s)(hf:f Δ st.lv st.cv Q st.σ){P:Value->Zd->Prop}
  (k:∀ v x W0 j0,0 < j0.toks->RS G env ⟨W0,st.lv,st.cv⟩ j0->Stp G env st ⟨W0,st.lv,st.cv⟩ s j0->VR j0.heap v x->Q v W0->P x j0):W G A (eval e env) P E s:=
 Zy (tk ht (h X st s Q E ht R hf)) (fun x j0 p=>p.1.elim fun v w=>w.elim fun W0 w=>k v x W0 j0 p.2 w.R w.S w.r w.q) fun J J e=>e
theorem SXs.then {es:List Expr}{f:FXs}(h:SXs sc es f)(X:Cx G Δ n env A sc){pos:Pos}{Q:List V->Hp->Prop}(ht:0 < s.toks)(R:RS G env st s)(hf:f Δ st.lv st.cv Q st.σ){P:List Value->Zd->Prop}
  (k:∀ v x W0 j0,0 < j0.toks->RS G env ⟨W0,st.lv,st.cv⟩ j0->Stp G env st ⟨W0,st.lv,st.cv⟩ s j0->VRs j0.heap v x->Q v W0->P x j0):W G A (Yir (backTo pos (starEach es env))) P E s:=
 Zy (tk ht (h X pos st s Q E ht R hf)) (fun x j0 p=>p.1.elim fun v w=>w.elim fun W0 w=>k v x W0 j0 p.2 w.R w.S w.r w.q) fun J J e=>e
theorem SB.then {e:Expr}{f:FB}(h:SB sc e f)(X:Cx G Δ n env A sc){Q:Bool->Hp->Prop}(ht:0 < s.toks)(R:RS G env st s)(hf:f Δ st.lv st.cv Q st.σ){P:Bool->Zd->Prop}
  (k:∀ b W0 j0,0 < j0.toks->RS G env ⟨W0,st.lv,st.cv⟩ j0->Stp G env st ⟨W0,st.lv,st.cv⟩ s j0->Q b W0->P b j0):W G A (Zt7 e env (eval e env)) P E s:=
 Zy (tk ht (h X st s Q E ht R hf)) (fun x j0 p=>p.1.elim fun W0 w=>k x W0 j0 p.2 w.R w.S w.q) fun J J e=>e
theorem W.to {α:Type}{t:Sem α}{P P':α->Zd->Prop}(h:W G A t P E s)(k:∀ x s',P x s'->P' x s'):W G A t P' E s:=Zy h k fun J J e=>e
end
section
variable (Δ:Dl)(lv:Nat->Option V)(cv:Nat->Option Addr)(Q:V->Hp->Prop)
inductive OptK (o:Option V)(σ:Hp):Prop | mk {v} (e:o=some v) (q:Q v σ)
inductive ClK (o:Option Addr)(σ:Hp):Prop | mk {c v} (e:o=some c) (h:σ c=some (.cell (some v))) (q:Q v σ)abbrev Yfp (g:FX)(K:V->V->Hp->Prop):V->Hp->Prop:=fun x σ=>g Δ lv cv (K x) σ
abbrev kBin (op:Zeb):V->V->Hp->Prop:=fun x y σ=>Zr0 Q σ op x y
abbrev kIdx:V->V->Hp->Prop:=fun x y σ=>Zrq Q σ x y
abbrev Ymo:Bool->Hp->Prop:=fun r σ=>Q (.bool r) σ
inductive Yqm (Qb:Bool->Hp->Prop)(op:CmpOp)(x y:V)(σ:Hp):Prop | mk (r) (h:Ypq op x y=some r\/Zo2 σ op x y r) (q:Qb r σ)
inductive TrK (Qb:Bool->Hp->Prop)(v:V)(σ:Hp):Prop | mk (b) (h:Zi6 v σ=some b) (q:Qb b σ)abbrev Ypb (Qs:List V->Hp->Prop)(v:V):List V->Hp->Prop:=fun vs σ=>Qs (v::vs) σ
abbrev kCons (g:FXs)(Qs:List V->Hp->Prop):V->Hp->Prop:=fun v σ=>g Δ lv cv (Ypb Qs v) σ
abbrev Yfs (o:O)(σ:Hp):Prop:=∀ n,σ n=none->Q (.ref n) (upd σ n o)
inductive LstK (vs:List V)(σ:Hp):Prop | mk (l:vs.length<=100000) (q:Yfs Q (.list vs) σ)
inductive TupK (vs:List V)(σ:Hp):Prop | mk (n:vs≠[]) (l:vs.length<=1000) (q:Q (.tup vs) σ)def Zrl (A B:Hp->Prop):Bool->Hp->Prop:=fun r=>r.rec B A
abbrev kNot (Qb:Bool->Hp->Prop):Bool->Hp->Prop:=fun r σ=>Qb (!r) σ
end
def xLc (i:Nat):FX:=fun J lv J Q σ=>OptK Q (lv i) σ
def xCl (i:Nat):FX:=fun J J cv Q σ=>ClK Q (cv i) σ
def xGl (i:Nat):FX:=fun J J J Q σ=>OptK Q (gt i) σ
def xV (v:V):FX:=fun J J J Q σ=>Q v σ
def Xv (op:Zeb)(f g:FX):FX:=fun Δ lv cv Q σ=>f Δ lv cv (Yfp Δ lv cv g (kBin Q op)) σ
def Zsp (op:CmpOp)(f g:FX):FX:=fun Δ lv cv Q σ=>f Δ lv cv (Yfp Δ lv cv g (Yqm (Ymo Q) op)) σ
def YK (f g:FX):FX:=fun Δ lv cv Q σ=>f Δ lv cv (Yfp Δ lv cv g (kIdx Q)) σ
def ZD:FXs:=fun J J J Q σ=>Q [] σ
def Zk (f:FX)(g:FXs):FXs:=fun Δ lv cv Q σ=>f Δ lv cv (kCons Δ lv cv g Q) σ
def Zd4 (f:FXs):FX:=fun Δ lv cv Q σ=>f Δ lv cv (LstK Q) σ
def Zc1 (f:FXs):FX:=fun Δ lv cv Q σ=>f Δ lv cv (TupK Q) σ
def xIf (b:FB)(f g:FX):FX:=fun Δ lv cv Q σ=>b Δ lv cv (Zrl (f Δ lv cv Q) (g Δ lv cv Q)) σ
def bV (f:FX):FB:=fun Δ lv cv Q σ=>f Δ lv cv (TrK Q) σ
def Zo4 (f:FB):FB:=fun Δ lv cv Q σ=>f Δ lv cv (kNot Q) σ
def Zc8 (f g:FB):FB:=fun Δ lv cv Q σ=>f Δ lv cv (Zrl (g Δ lv cv Q) (Q false)) σ
def bOr (f g:FB):FB:=fun Δ lv cv Q σ=>f Δ lv cv (Zrl (Q true) (g Δ lv cv Q)) σ
def YC (op:CmpOp)(f g:FX):FB:=fun Δ lv cv Q σ=>f Δ lv cv (Yfp Δ lv cv g (Yqm Q op)) σ
def xB (f:FB):FX:=fun Δ lv cv Q σ=>f Δ lv cv (Ymo Q) σ
variable {sc:Sc}
theorem sLc {i:Nat}{m:Str}{p:Pos}(hn:nm i=m)(hk:sc.lookup i=some .local):SX sc (.Name m p) (xLc i):=hn▸fun J J J J J X st s Q E ht R h=>
 h.rec fun hv q=>R.fr.elim fun J F=>(F.2 i _ hv).elim fun J r=>Zj3 (Zaa X.hE.kind (by rw [X.hE.kindOf,hk]) F.1.ns r.1 (PV.now R r.2 q)) (Zcu i)
theorem Den.of_cell {G:GC}{h:Heap}{a:Addr}{v:V}(d:Den G.prog G.w h a (.cell (some v))):∃ x,h.IsCell a (some x)/\VR h v x:=by
 obtain ⟨e,d,r⟩:=d
 cases r with | some r=>exact ⟨_,⟨_,e,d⟩,r⟩
theorem sCl {i:Nat}{m:Str}{p:Pos}(hn:nm i=m)(hk:sc.lookup i=some .cell\/sc.lookup i=some .free):SX sc (.Name m p) (xCl i):=hn▸fun J J J J J X st s Q E ht R h=>h.rec fun hc hv q=>(R.den _ _ hv).1.of_cell.elim fun x hx=>
 hk.elim (fun hk=>Zj3 (wpAny_loadName_cell X.hE.kind (by rw [X.hE.kindOf,hk]) (R.cel _ _ hc) hx.1 (PV.now R hx.2 q)) (Zcu i))
  fun hk=>Zj3 (wpAny_loadName_free X.hE.kind (by rw [X.hE.kindOf,hk]) (R.cel _ _ hc) hx.1 (PV.now R hx.2 q) (nm_cd i)) (Zcu i)
theorem sGl {i:Nat}{m:Str}{p:Pos}(hn:nm i=m)(hk:sc.lookup i=some .globalImplicit):SX sc (.Name m p) (xGl i):=by
 subst hn
 intro G Δ n env A X st s Q E ht R h
 obtain ⟨hg,q⟩:=h
 refine R.fr.elim fun m hr50=>hr50.elim fun F _=>?_
 refine (X.C.glob i _ hg).elim fun mg hr50=>hr50.elim fun hm h=>?_
 have ik:Imk G.B s.heap:=fun b o e J=>F.keep b o e
 refine Zme X.hE.kind (by rw [X.hE.kindOf,hk]) ?_ (Zcu i)
 rcases h with ⟨x,hx,hv⟩ | ⟨hn,mb,x,hb,hx,hv⟩
 ·exact Zrj (X.hE.globals▸hm.keeps F.keep) hx (PV.now R (hv.mono ik) q)
 ·exact Zg7 (X.hE.globals▸hm.keeps F.keep) hn (X.hE.builtins▸hb.keeps F.keep) hx (PV.now R (hv.mono ik) q)theorem sN {k p}:SX sc (.Constant .none k p) (xV .none):=fun J J J J J J J J J J J R h J J J=>PV.now R .none h
theorem sBo {b k p}:SX sc (.Constant (.bool b) k p) (xV (.bool b)):=fun J J J J J J J J J J J R h J J J=>PV.now R (.bool b) h
theorem sI {i k p}:SX sc (.Constant (.int i) k p) (xV (.int i)):=fun J J J J J J J J J J J R h=>Zor (PV.tok R (.int _ _) h)
theorem sS {t:Tx}{x:Str}{k p}(hx:sT t=x):SX sc (.Constant (.str x) k p) (xV (.str t)):=by
 subst hx;exact fun J J J J J J J J J J J R h=>Zcz (PV.tok R (.str _ _) h)theorem AOK.cl {A:Yg}{n:Nat}(h:AOK A n):A.units + 10 < cLine:=ZS (Yr (Zb (Zn _ _) h.3) 10) (by decide)
theorem SX.two {l r:Expr}{f g:FX}(a:SX sc l f)(b:SX sc r g){G:GC}{Δ:Dl}{n:Nat}{env:Env}{A:Yg}{st:St}{s:Zd}{E:Value->Zd->Prop}(X:Cx G Δ n env A sc)(ht:0 < s.toks)(R:RS G env st s){K:V->V->Hp->Prop}(h:f Δ st.lv st.cv (Yfp Δ st.lv st.cv g K) st.σ)
  {α:Type} {P:α->Zd->Prop} {m:Value->Value->Sem α}
  (k:∀ v x u y J3 J1,0 < J1.toks->RS G env ⟨J3,st.lv,st.cv⟩ J1->Stp G env st ⟨J3,st.lv,st.cv⟩ s J1->VR J1.heap v x->VR J1.heap u y->K v u J3->W G A (m x y) P E J1):W G A (eval l env) (fun x=>W G A (eval r env) (fun y=>W G A (m x y) P E) E) E s:=
 a.then X ht R h fun v x W0 j0 V1 J0 V0 J2 Q0=>b.then X V1 J0 Q0 fun u y J3 J1 M3 V2 H3 Q3 G3=>k v x u y J3 J1 M3 V2 (V0.trans H3) (J0.vr H3 J2) Q3 G3
theorem Io {op:Zeb}{l r:Expr}{p}{f g:FX}(a:SX sc l f)(b:SX sc r g):SX sc (.BinOp l op r p) (Xv op f g):=fun J J J J J X st s Q E ht R h=>
 wpAny_BinOp (a.two b X ht R h fun v x u y σ s t R S r1 r2 h=>(Yor R r1 r2 h).to fun J J p=>p.from S)
section
variable {op:CmpOp}{l r:Expr}{p:Pos}{f g:FX}
theorem Zyi {G:GC}{Δ:Dl}{n:Nat}{env:Env}{A:Yg}{st:St}{s:Zd}{E:Value->Zd->Prop}(X:Cx G Δ n env A sc)(R:RS G env st s){Q:Bool->Hp->Prop}{v u:V}{x y:Value}(r1:VR s.heap v x)(r2:VR s.heap u y)(h:Yqm Q op v u st.σ) :
  W G A (Zg2 op x y) (PV G env st s fun v σ=>∃ r,v= .bool r/\Q r σ) E s:=
 h.rec fun r hr q=>hr.elim (fun hr=>Yoq R r1 r2 hr ⟨r,rfl,q⟩) fun hr=>Yjd X.C.sys X.hA.cl R r1 r2 hr ⟨r,rfl,q⟩
theorem Yao (a:SX sc l f)(b:SX sc r g)(hm:behindInMarks op r=false):SX sc (.Compare l [op] [r] p) (Zsp op f g):=fun J J J J J X st s Q E ht R h=>
 wpAny_Compare1 (a.two b X ht R h fun v x u y σ s t R S r1 r2 h=>(Zyi X R r1 r2 h).to fun J J p=>p.elim fun J p=>p.elim fun J p=>p.q.elim fun J q=>⟨_,_,p.R,S.trans p.S,p.r,q.1▸q.2⟩) hm
theorem YB (a:SX sc l f)(b:SX sc r g)(hm:behindInMarks op r=false):SB sc (.Compare l [op] [r] p) (YC op f g):=fun J J J J J X st s Q E ht R h=>
 wpAny_isTrue_Compare1 (a.two b X ht R h fun v x u y σ s t R S r1 r2 h=>(Zyi X R r1 r2 h).to fun J J p=>p.elim fun J p=>p.elim fun J p=>p.q.elim fun J q=>(q.1▸p.r).bE (Zqx ⟨_,p.R,S.trans p.S,q.2⟩)) hm
theorem U0 (a:SX sc l f)(b:SX sc r g)(hns:∀ x y z q,r≠.Slice x y z q):SX sc (.Subscript l r p) (YK f g):=fun J J J J J X st s Q E ht R h=>
 Zo7 (a.two b X ht R h fun v x u y σ s t R S r1 r2 h=>(Yop R r1 r2 hns h).to fun J J p=>p.from S)
end
noncomputable def nsB (e:Expr):Bool:=match e with
 | .Starred _ _=>false
 | _=>true
def Zkc (e:Expr):Prop:=∀ l env,starEach (e::l) env=(false,eval e env)::starEach l env
theorem ZQ:SXs sc [] ZD:=fun J J J J J J J J J J J J R h=>Yi ⟨[],_,R,.refl,.nil,h⟩
theorem Zwi {e:Expr}(h:nsB e=true):Zkc e:=fun l env=>by
 cases e <;> first | rfl | exact Yw h
theorem Zv {e:Expr}{l:List Expr}{f:FX}{g:FXs}(a:SX sc e f)(b:SXs sc l g)(hs:nsB e=true):SXs sc (e::l) (Zk f g):=fun G Δ n env A X pos st s Q E ht R h=>by
 rw [Zwi hs]
 exact Z6 (a.then X ht R h fun v x W0 j0 V1 J0 V0 J2 Q0=>b.then X V1 J0 Q0 fun us vals J3 J1 M3 V2 H3 Q3 G3=>⟨_,J3,V2,V0.trans H3,.cons (J0.vr H3 J2) Q3,G3⟩)
theorem Zew {l:List Expr}{p}{f:FXs}(a:SXs sc l f):SX sc (.List l p) (Zd4 f):=fun J J J J J X st s Q E ht R h=>
 List_ (a.then X ht R h fun vs vals W0 j0 V1 J0 V0 J2 Q0=>Q0.rec fun hl q=>Zik ((PV.list (l:=vals.toArray) J0 J2 q).from V0) (YD (J2.length▸hl)))
theorem sIf {t x y:Expr}{p}{b:FB}{f g:FX}(hb:SB sc t b)(hf:SX sc x f)(hg:SX sc y g):SX sc (.IfExp t x y p) (xIf b f g):=fun J J J J J X st s Q E ht R h=>
 wpAny_IfExp (hb.then X ht R h fun r W0 j0 V1 J0 V0 Q0=>match r,Q0 with
 | true,Q0=>(hf X _ j0 Q E V1 J0 Q0).to fun J J p=>p.from V0
 | false,Q0=>(hg X _ j0 Q E V1 J0 Q0).to fun J J p=>p.from V0)
theorem sbV {e:Expr}{f:FX}(a:SX sc e f)(he:Zt7 e=fun env whole=>(do let v <-whole;Zgi e.pos;Zrr [v] (truthy v))):SB sc e (bV f):=fun J J J J J X st s Q E ht R h=>
 Zoq (a.then X ht R h fun v x W0 j0 V1 J0 V0 J2 Q0=>Q0.rec fun b hb q=>(Zm9 X.C.sys J0 J2 hb q).to fun J J p=>p.from V0) (congrFun (congrFun he _) _)
theorem Zlt {e:Expr}{p}{f:FB}(a:SB sc e f):SB sc (.UnaryOp .Not e p) (Zo4 f):=fun J J J J J X st s Q E ht R h=>
 wpAny_isTrue_Not (a.then X ht R h fun r W0 j0 V1 J0 V0 Q0=>⟨W0,J0,V0,Q0⟩)
section
variable {x y:Expr}{p:Pos}{f g:FB}
theorem Zej (a:SB sc x f)(b:SB sc y g):SB sc (.BoolOp .And [x,y] p) (Zc8 f g):=fun J J J J J X st s Q E ht R h=>
 Zmy (Zbh (a.then X ht R h fun r W0 j0 V1 J0 V0 Q0=>match r,Q0 with
 | false,Q0=>⟨W0,J0,V0,Q0⟩
 | true,Q0=>Zbh (b.then X V1 J0 Q0 fun r J3 J1 M3 V2 H3 G3=>match r,G3 with
  | false,G3=>⟨J3,V2,V0.trans H3,G3⟩
  | true,G3=>Yl0 ⟨J3,V2,V0.trans H3,G3⟩)))
theorem sbOr (a:SB sc x f)(b:SB sc y g):SB sc (.BoolOp .Or [x,y] p) (bOr f g):=fun J J J J J X st s Q E ht R h=>
 Zmy (Ylz (a.then X ht R h fun r W0 j0 V1 J0 V0 Q0=>match r,Q0 with
 | true,Q0=>⟨W0,J0,V0,Q0⟩
 | false,Q0=>Ylz (b.then X V1 J0 Q0 fun r J3 J1 M3 V2 H3 G3=>match r,G3 with
  | true,G3=>⟨J3,V2,V0.trans H3,G3⟩
  | false,G3=>wpAny_allTrue_Or_nil ⟨J3,V2,V0.trans H3,G3⟩)))
end
end
variable {A:PySem.Around}{s:PySem.Shared}{E:PySem.Value->PySem.Shared->Prop}{G:Internal.GC}{env:PySem.Env}{st:Internal.St}{s':PySem.Shared}{Δ:Internal.Dl}{sc:Internal.Sc}{Q:Internal.V->Internal.Hp->Prop}{s₀:PySem.Shared}{j0:PySem.Shared}{lv:Nat->Option Internal.V}{s'':PySem.Shared}{st':Internal.St}
section
open PySem PySem.Spec PySem.Calls PyProof.Rows PySem.W PySem.SeqAt
noncomputable def Zno:List V->Option (List Int)
 | []=>some []
 | .int t::r=>(Zno r).map (t::·)
 | _=>none
noncomputable def Znv (i:Int):Tx:=(Zz (toString i)).cps.toList
theorem sT_decT (i:Int):sT (Znv i)=Zz (toString i):=rfl
inductive biV (Q:V->Hp->Prop)(σ:Hp):BI->List V->Prop
 | lenL {a xs}:σ a=some (.list xs)->xs.length<=100000->Q (.int xs.length) σ->biV Q σ .len [.ref a]
 | lenD {a xs}:σ a=some (.dI xs)->xs.length<=100000->Q (.int xs.length) σ->biV Q σ .len [.ref a]
 | lenS {x}:x.length<=100000->Q (.int x.length) σ->biV Q σ .len [.str x]
 | rng1 {n}:Q (.rng 0 n 1) σ->biV Q σ .range [.int n]
 | rng3 {a b}:small a->small b->Q (.rng a b (-1)) σ->biV Q σ .range [.int a,.int b,.int (-1)]
 | chr {i}:0<=i->i<=1114111->Q (.str [i.toNat]) σ->biV Q σ .chr [.int i]
 | str {i}:small i->Q (.str (Znv i)) σ->biV Q σ .str [.int i]
 | max {a b}:Q (.int (max a b)) σ->biV Q σ .max [.int a,.int b]
 | sum {a xs is}:σ a=some (.list xs)->Zno xs=some is->xs.length<=1000->(∀ i∈is,0<=i/\i<=1000)->Q (.int is.sum) σ->biV Q σ .sum [.ref a]
 | list {a xs}:σ a=some (.list xs)->xs.length<=100000->(∀ n,σ n=none->Q (.ref n) (upd σ n (.list xs)))->biV Q σ .list [.ref a]
 | set:(∀ n,σ n=none->Q (.ref n) (upd σ n (.set (fun J=>false) 0)))->biV Q σ .set []def IntsR (is:List Int)(l:List Value)(ps:List (Int×Tok)):Prop:=(l=ps.map (fun p=>Zn2 p.1 p.2))/\(ps.map (·.1)=is)def IntsR.e (z:@IntsR is l ps):=z.1
def IntsR.m (z:@IntsR is l ps):=z.2
theorem Zwt {h:Heap}{xs l is}(r:VRs h xs l)(e:Zno xs=some is):∃ ps,IntsR is l ps:=by
 induction xs generalizing l is with
 | nil=>cases e;exact r.nE ⟨[],rfl,rfl⟩
 | cons v xs ih=>
  cases v with
  | int t=>
   refine (Yz.mp e).elim fun ys hr50=>hr50.elim fun q e=>?_
   exact e▸r.cE fun J J r1 r2=>r1.iE fun u=>(ih r2 q).elim fun ps h=>⟨(t,u)::ps,congrArg _ h.e,congrArg _ h.m⟩
  | _=>exact nn rfl e
theorem Zlv (ps:List (Int×Tok))(j:Nat)(h:j<=ps.length):preSum (numAt ps.toArray) j=((ps.map (·.1)).take j).sum:=by
 induction j with
 | zero=>rfl
 | succ j ih=>
  rw [preSum,ih (Y8 h),Zgv,Yqa,Yd]
  unfold numAt
  rw [Z0,ZG h]
  exact congrArg _ (Zn9 _).symm
theorem Zz7 {is:List Int}(h:∀ i∈is,0<=i/\i<=1000):0<=is.sum/\is.sum<=1000 * is.length:=by
 induction is with
 | nil=>exact ⟨Zky _,Zky _⟩
 | cons i r ih=>
  have h1:=h i (.head _)
  have h2:=ih fun i hi=>h i (.tail _ hi)
  rw [Zvj,XR,Int.natCast_succ,Int.mul_add,Int.mul_one,Zoa (1000 * _)]
  exact ⟨Int.add_nonneg h1.1 h2.1,Int.add_le_add h1.2 h2.2⟩theorem Yfx {i:Int}(h:0<=i/\i<=1000 * 1000):InLong i:=⟨Yj2 h.1,Zc3 h.2 (by decide)⟩
theorem Ydf {is:List Int}(h:∀ i∈is,0<=i/\i<=1000)(hl:is.length<=1000)(j:Nat):InLong (is.take j).sum:=
 have b:=Zz7 fun i hi=>h i (List.mem_of_mem_take (i:=j) hi)
 Yfx ⟨b.1,I4 b.2 (Int.mul_le_mul_of_nonneg_left (YZ.mpr (Zb (Zef _ _) hl)) (by decide))⟩
theorem VR.max {h:Heap}{a b:Int}{t u:Tok}:VR h (.int (max a b)) (if b > a then Zn2 b u else Zn2 a t):=by
 by_cases q:b > a
 ·rw [if_pos q,Zcg (Zis q)];exact .int _ _
 ·rw [if_neg q,Int.max_eq_left (U4.mp q)];exact .int _ _
theorem Zs8 {i:Int}(h:small i):i.natAbs.log2 < 1920:=shown_abs (N:=10 ^ 10) (by by_cases q:i < 0;rw [if_pos q,Int.zero_sub];exact Zc3 (Zga h.1) (by decide);rw [if_neg q];exact Zc3 h.2 (by decide)) (by decide +kernel)theorem Ypr {i:Int}(h0:0<=i)(h1:i<=1114111):(decide (i < 0)||decide (i > 1114111))=false:=by rw [decide_eq_false (U4.mpr h0),decide_eq_false (U4.mpr h1)];rfl
theorem Ybc (x:Int):Zoe x (-1)=false:=Zu1 (by decide)
section
variable {vs:List V}{l:List Value}{b:BI}
theorem Yoi (hh:A.handled=none)(R:RS G env st s){a xs is}(e:st.σ a=some (.list xs))(hi:Zno xs=some is)(hl:xs.length<=1000)(hb:∀ i∈is,0<=i/\i<=1000)(q:Q (.int is.sum) st.σ):W G A (call (.builtin "sum") [.ref a]) (PV G env st s Q) E s:=by
 obtain ⟨p,r⟩:=(R.den _ _ e).1
 obtain ⟨ps,rfl,e2⟩:=Zwt r hi
 have hn:is.length<=1000:=by rw [<-e2,Zh];rw [r.length,Zh] at hl;exact hl
 refine sum_intList (xs:=ps.toArray) hh (by have:=p.isList;rwa [<-List.map_toArray] at this) (fun j hj=>⟨?_,?_⟩) (fun h' tk t' k=>?_)
 ·have hj:j < ps.length:=hj
  have:=hb ps[j].1 (e2▸Y4 (Zhl hj))
  unfold numAt
  rw [Z0,ZG hj]
  exact Yfx ⟨this.1,I4 this.2 (by decide)⟩
 ·rw [Zlv ps _ hj,e2];exact Ydf hb hn _
 ·rw [Zdf,Zlv ps _ (Zm _),e2,Zii (by rw [<-e2,Zh];exact Zm _)]
  exact PV.ext R k (.int _ _) q
theorem op_bi (hh:A.handled=none)(hB1:(G.B.get? Uy).isSome)(R:RS G env st s)(r:VRs s.heap vs l)(h:biV Q st.σ b vs):W G A (call b.val l) (PV G env st s Q) E s:=by
 revert r
 refine h.rec ?_ ?_ ?_ ?_ ?_ ?_ ?_ ?_ ?_ ?_ ?_
 ·exact fun e hl q r=>r.oE fun J r=>r.rE<|(R.den _ _ e).1.rec fun p r=>call_len_list p.isList (Ziw (r.size▸hl)) (r.size▸PV.tok R (.int _ _) q)
 ·exact fun e hl q r=>r.oE fun J r=>r.rE<|(R.den _ _ e).1.rec fun p e1 r=>PySem.call_len_dict (Zkb hB1 R e) p (Ziw (Zab e1▸hl)) (Zab e1▸PV.tok R (.int _ _) q)
 ·exact fun hl q r=>r.oE fun J r=>r.sE fun J=>Zqj (Zir.mpr (Ziw hl)) (PV.tok R (.int _ _) q)
 ·exact fun q r=>r.oE fun J r=>r.iE fun J=>call_range_1 (PV.ext R (fun b o e=>Zg _ e) (.rng (Zq _ rfl)) q)
 ·exact fun h1 h2 q r=>r.cE fun J J r1 r=>r.dE fun J J r2 r3=>r1.iE fun J=>r2.iE fun J=>r3.iE fun J=>call_range_3 (by decide) (PV.ext R (fun b o e=>Zg _ e) (.rng (Zq _ rfl)) q) (.inl (Ybc _))
 ·exact fun h0 h1 q r=>r.oE fun J r=>r.iE fun J=>P.chr_of_int (Ypr h0 h1) (PV.tok R (.str [_] _) q)
 ·exact fun {i} h1 q r=>r.oE fun J r=>r.iE fun J=>P.str_of_int (Zs8 h1) (PV.tok R (.str (Znv i) _) q)
 ·exact fun q r=>r.dE fun J J r1 r2=>r1.iE fun J=>r2.iE fun J=>max_two_ints hh fun h' tk k=>PV.ext R k .max q
 ·exact fun e hi hl hb q r=>r.oE fun J r=>r.rE (Yoi hh R e hi hl hb q)
 ·exact fun e hl q r=>r.oE fun J r=>r.rE<|(R.den _ _ e).1.rec fun {l} p r=>p.elim fun J pe=>call_list_seq _ (.inl rfl) pe rfl rfl (fun h' c' k e'=>PV.new R (Yy _) k (Den.list (l:=l) ⟨_,e'⟩ (r.mono fun b o e J=>k b o e)) (q _)) (YD (r.size▸hl))
 ·exact fun q r=>r.nE (PySem.call_set_0 fun led=>PV.new R (Yy _) (fun b o e=>Zg _ e) (.set ((setObjOf_fresh led).setOf (Zq _ rfl) (Za rfl))) (q _))
end
theorem Iz (b:BI){M:Model}{Q:Keeper->Zd->Prop}(h:Q .machine s):wpAny M A (Zac b.val) Q E s:=by cases b <;> exact Ze h
end
section
theorem Zev {l:List Expr}{k p}{f:FXs}(a:SXs sc l f):SX sc (.Tuple l k p) (Zc1 f):=fun J J J J J X st s Q E ht R h=>
 wpAny_Tuple_spliced (a.then X ht R h fun vs vals W0 j0 V1 J0 V0 J2 Q0=>Q0.rec fun J hl q=>⟨YD (Zb (J2.length▸hl) (by decide)),
  (PV.ext (t:=j0.toks) (d:=j0.drawn) J0 (fun b o e=>Zg _ e) (.tup (l:=vals) (n:=0) (Zq _ rfl) J2.pushed) q).from V0⟩)
def SO (sc:Sc)(e:Option Expr)(f:FX):Prop:=
 ∀ ⦃G Δ n env A⦄,Cx G Δ n env A sc->∀ (st:St) (s:Zd) (Q:V->Hp->Prop) (E:Value->Zd->Prop),0 < s.toks->RS G env st s->f Δ st.lv st.cv Q st.σ->W G A (evalPart e env) (PV G env st s Q) E s
theorem oN:SO sc none (xV .none):=fun J J J J J J J J J J J R h J J J=>PV.now R .none h
theorem oS {e:Expr}{f:FX}(a:SX sc e f):SO sc (some e) f:=a
theorem SO.then {G:GC}{Δ:Dl}{n:Nat}{env:Env}{A:Yg}{st:St}{s:Zd}{E:Value->Zd->Prop}{e:Option Expr}{f:FX}(h:SO sc e f)(X:Cx G Δ n env A sc){Q:V->Hp->Prop}(ht:0 < s.toks)(R:RS G env st s)(hf:f Δ st.lv st.cv Q st.σ){P:Value->Zd->Prop}
  (k:∀ v x W0 j0,0 < j0.toks->RS G env ⟨W0,st.lv,st.cv⟩ j0->Stp G env st ⟨W0,st.lv,st.cv⟩ s j0->VR j0.heap v x->Q v W0->P x j0):W G A (evalPart e env) P E s:=
 Zy (tk ht (h X st s Q E ht R hf)) (fun x j0 p=>p.1.elim fun v w=>w.elim fun W0 w=>k v x W0 j0 p.2 w.R w.S w.r w.q) fun J J e=>e
section
variable (Δ:Dl)(lv:Nat->Option V)(cv:Nat->Option Addr)(Q:V->Hp->Prop)
abbrev kSl3 (x l h:V):V->Hp->Prop:=fun p σ=>Ydr Q σ x l h p
abbrev kSl2 (sp:FX)(x l:V):V->Hp->Prop:=fun h σ=>sp Δ lv cv (kSl3 Q x l h) σ
abbrev kSl1 (hi sp:FX)(x:V):V->Hp->Prop:=fun l σ=>hi Δ lv cv (kSl2 Δ lv cv Q sp x l) σ
abbrev kSl (lo hi sp:FX):V->Hp->Prop:=fun x σ=>lo Δ lv cv (kSl1 Δ lv cv Q hi sp x) σ
end
def Zfd (a lo hi sp:FX):FX:=fun Δ lv cv Q σ=>a Δ lv cv (kSl Δ lv cv Q lo hi sp) σ
theorem Zla (a b c:Option Expr)(p:Pos)(o i:Value):∃ ops,subscripted (.Slice a b c p) false o i=Zml ops (Zmr o i):=by
 cases c <;> exact ⟨_,rfl⟩
theorem Zlc {v:Expr}{a b c:Option Expr}{p q}{f lo hi sp:FX}(hf:SX sc v f)(hl:SO sc a lo)(hh:SO sc b hi)(hp:SO sc c sp):SX sc (.Subscript v (.Slice a b c p) q) (Zfd f lo hi sp):=fun J J J J J X st s Q E ht R h=>
 Zo7 (hf.then X ht R h fun v x W0 j0 V1 J0 V0 J2 Q0=>Zl7 (hl.then X V1 J0 Q0 fun l y J3 J1 M3 V2 H3 Q3 G3=>hh.then X M3 V2 G3 fun u z O4 W2 j4 T3 W3 w5 V3=>hp.then X j4 T3 V3 fun k w J5 O3 u5 T4 v4 v5 M4=>
  have S:=H3.trans (W3.trans v4)
  (Yoj T4 (J0.vr S J2) (V2.vr (W3.trans v4) Q3) (T3.vr v4 w5) v5 (Zla _ _ _ _) M4).to fun z W2 p=>p.from (V0.trans S)))def xDE:FX:=fun J J J Q σ=>Yfs Q (.dI []) σ
def xDS:FX:=fun J J J Q σ=>Yfs Q (.dS []) σ
theorem PV.mk {G:GC}{env:Env}{st:St}{s:Zd}(R:RS G env st s){Q:V->Hp->Prop}{o:Obj}{o':O}(D:Den G.prog G.w (s.heap.push o) s.heap.objs.size o')(q:Yfs Q o' st.σ):PV G env st s Q (.ref s.heap.objs.size) { s with heap:=s.heap.push o }:=
 PV.new R (Yy _) (fun J J e=>Zg _ e) D (q _)theorem sDE {p}:SX sc (.Dict [] [] p) xDE:=fun J J J J J X st s Q E ht R h=>wpAny_Dict_empty (PV.mk R (.dI (l:=[]) (Zgc _) rfl .nil) h)theorem sDS {p}:SX sc (.Dict [] [] p) xDS:=fun J J J J J X st s Q E ht R h=>wpAny_Dict_empty (PV.mk R (.dS (l:=[]) (Zgc _) rfl .nil) h)noncomputable abbrev FP:=Dl->(Nat->Option V)->(Nat->Option Addr)->(List (Tx×V)->Hp->Prop)->Hp->Prop
structure PPw (G:GC)(env:Env)(st:St)(s:Zd)(Q:List (Tx×V)->Hp->Prop)(vals:List (Value×Value))(s':Zd)(vs:List (Tx×V))(kvs:List (Str×Value))(σ':Hp):Prop where
 R:RS G env ⟨σ',st.lv,st.cv⟩ s'
 S:Stp G env st ⟨σ',st.lv,st.cv⟩ s s'
 c:Carries (ZP G.prog G.w) vals kvs
 k:kvs.map (·.1)=vs.map (fun p=>sT p.1)
 r:VRs s'.heap (vs.map (·.2)) (kvs.map (·.2))
 q:Q vs σ'
def PPs (G:GC)(env:Env)(st:St)(s:Zd)(Q:List (Tx×V)->Hp->Prop)(vals:List (Value×Value))(s':Zd):Prop:=∃ vs kvs σ',PPw G env st s Q vals s' vs kvs σ'
def SP (sc:Sc)(ks:List (Option Expr))(es:List Expr)(f:FP):Prop:=
 ∀ ⦃G Δ n env A⦄,Cx G Δ n env A sc->∀ (pos:Pos) (st:St) (s:Zd) (Q:List (Tx×V)->Hp->Prop) (E:Value->Zd->Prop),0 < s.toks->RS G env st s->f Δ st.lv st.cv Q st.σ->
  W G A (evalPairs (pairTrees ks es env pos)) (PPs G env st s Q) E s
noncomputable abbrev kP2 (t:Tx)(v:V)(Q:List (Tx×V)->Hp->Prop):List (Tx×V)->Hp->Prop:=fun vs σ=>Q ((t,v)::vs) σ
abbrev kP (Δ:Dl)(lv:Nat->Option V)(cv:Nat->Option Addr)(t:Tx)(g:FP)(Q:List (Tx×V)->Hp->Prop):V->Hp->Prop:=fun v σ=>g Δ lv cv (kP2 t v Q) σ
def Ya0:FP:=fun J J J Q σ=>Q [] σ
def Zfw (t:Tx)(f:FX)(g:FP):FP:=fun Δ lv cv Q σ=>f Δ lv cv (kP Δ lv cv t g Q) σ
theorem Yma:SP sc [] [] Ya0:=fun J J J J J J J J J J J J R h=>evalPairs_nil ⟨[],[],_,R,.refl,trivial,rfl,.nil,h⟩
theorem Zm0 {x:Str}{t:Tx}{k p}{e:Expr}{ks:List (Option Expr)}{es:List Expr}{f:FX}{g:FP}(hx:sT t=x)(a:SX sc e f)(b:SP sc ks es g) :
  SP sc (some (.Constant (.str x) k p)::ks) (e::es) (Zfw t f g):=hx▸fun J J J J J X pos st s Q E ht R h=>
 have RS0:=R.ext (h':=s.heap) (t:=s.toks + 1) (d:=s.drawn) fun J J e=>e
 evalPairs_cons (Zcz (Zc (a.then X (Z8 _) RS0.1 h fun v x W0 j0 V1 J0 V0 J2 Q0=>(wbS (Ze
  (Zy (b X pos ⟨W0,st.lv,st.cv⟩ j0 _ E V1 J0 Q0) (fun vals J1 p=>p.elim fun vs p=>p.elim fun kvs p=>p.elim fun J3 p=>
   ⟨(t,v)::vs,(sT t,x)::kvs,J3,p.R,RS0.2.trans (V0.trans p.S),⟨Znn _ _,rfl,p.c⟩,congrArg _ p.k,.cons (J0.vr p.S J2) p.r,p.q⟩) fun J J e=>e))))))def Zxp (Q:V->Hp->Prop)(n:Addr)(kvs:List (Tx×V))(σ:Hp):Prop:=(σ n=some (.dS []))/\(kvs.length<=15)/\(kvs.map (·.1)).Nodup/\Q (.ref n) (upd σ n (.dS kvs))def Zxp.e (z:@Zxp Q n kvs σ):=z.1
def Zxp.d (z:@Zxp Q n kvs σ):=z.2.2.1
def Zxp.q (z:@Zxp Q n kvs σ):=z.2.2.2
def Yic (g:FP):FX:=fun Δ lv cv Q σ=>∀ n,σ n=none->g Δ lv cv (Zxp Q n) (upd σ n (.dS []))
theorem Zke {K:Type}[DecidableEq K]:∀ (kvs acc:List (K×Value)),((acc++kvs).map (·.1)).Nodup->merged acc kvs=acc++kvs
 | [],acc,_=>(ZK acc).symm
 | (k,v)::r,acc,h=>by
  have hk : ¬ acc.any (fun kv=>decide (kv.1=k))=true:=fun q=>by
   refine (Zop.mp q).elim fun x hr50=>hr50.elim fun hx e=>?_
   rw [ZF,Zmv] at h
   exact h.2.2 x.1 (Y4 hx) k (.head _) (of_decide_eq_true e)
  have:Zz9 acc k v=acc++[(k,v)]:=if_neg hk
  show merged (Zz9 acc k v) r=_
  rw [this,Zke r (acc++[(k,v)]) (by rwa [Zw]),Zw];rfl
theorem Ztz:∀ {l:List Tx},l.Nodup->(l.map sT).Nodup
 | [],_=>Zsi
 | t::r,h=>Kl.mpr ⟨fun q=>(Ys.mp q).elim fun u hu=>(Kl.mp h).1 (Zm3 hu.2▸hu.1),Ztz (Kl.mp h).2⟩
theorem sDic {ks:List (Option Expr)}{es:List Expr}{p}{g:FP}(a:SP sc ks es g)(hall:ks.all (·.isSome)=true)(hl:ks.length=es.length)(h0:ks≠[])(hlen:ks.length<=15):SX sc (.Dict ks es p) (Yic g):=by
 intro G Δ n env A X st s Q E ht R h
 have hw2:=R.put (h':=s.heap.push Za6) (t:=s.toks) (d:=s.drawn) (a:=s.heap.objs.size) (.inr (Yy _)) (fun b o J e=>Zg _ e) (.dS (kvs:=[]) (l:=[]) (Zgc _) rfl .nil)
 obtain R0:=hw2.1
 obtain S0:=hw2.2
 have hp:=pairTrees_length ks es env p hall hl
 refine wpAny_Dict_pairs (knd:=ZP G.prog G.w) (zip_pairTrees ks es env p hall hl) (fun he=>h0 (Xj.mp (hp▸he▸rfl))) (hp▸hlen) ?_
 refine Zy (a X p _ _ _ E ht R0 (h _ (R.fresh (Yy _)))) (fun vals j0 hw0=>?_) fun J J e=>e
 obtain ⟨vs,kvs,W0,w⟩:=hw0
 have D:=(w.R.den _ _ w.q.e).1
 obtain ⟨pd,e2,_⟩:=id D
 obtain rfl:=Ks.mp e2
 refine ⟨kvs,w.c,pd,fun h' D' sb=>?_⟩
 have e3:(kvs.map (·.1)).Nodup:=by rw [w.k];have:=Ztz w.q.d;rwa [U7] at this
 rw [Zke kvs [] e3,Yqc] at D'
 have P2:=w.R.put (h':=h') (t:=j0.toks + vals.length) (d:=j0.drawn) (a:=s.heap.objs.size) (.inl (iS w.q.e)) (fun b o hb e=>sb.extBut b o hb e) (.dS (kvs:=vs) (l:=kvs) D' w.k (w.r.mono (Za1 D sb.extBut)))
 exact ⟨_,_,P2.1,S0.trans (w.S.trans P2.2),.ref _,w.q.q⟩noncomputable abbrev FJ:=Dl->(Nat->Option V)->(Nat->Option Addr)->Tx->(Tx->Hp->Prop)->Hp->Prop
def Zow:FJ:=fun J J J acc Q σ=>Q acc σ
inductive Zxg (K:Tx->Hp->Prop):V->Hp->Prop | mk {y σ} (q:K y σ):Zxg K (.str y) σ
def JK (Δ:Dl)(lv:Nat->Option V)(cv:Nat->Option Addr)(g:FJ)(acc:Tx)(Q:Tx->Hp->Prop)(y:Tx)(σ:Hp):Prop:=(acc.length + y.length<=100000)/\g Δ lv cv (acc++y) Q σ
def JK.l {Q}(z:@JK Δ lv cv g acc Q y σ):=z.1
def JK.q {Q}(z:@JK Δ lv cv g acc Q y σ):=z.2
def U6 (f:FX)(g:FJ):FJ:=fun Δ lv cv acc Q σ=>f Δ lv cv (Zxg (JK Δ lv cv g acc Q)) σ
def SJ (sc:Sc)(es:List Expr)(f:FJ):Prop:=
 ∀ ⦃G Δ n env A⦄,Cx G Δ n env A sc->∀ (acc:Tx) (st:St) (s:Zd) (Q:Tx->Hp->Prop) (E:Value->Zd->Prop) (P:Str->Zd->Prop),0 < s.toks->RS G env st s->f Δ st.lv st.cv acc Q st.σ->
  (∀ t σ' s',0 < s'.toks->RS G env ⟨σ',st.lv,st.cv⟩ s'->Stp G env st ⟨σ',st.lv,st.cv⟩ s s'->t.length<=100000->Q t σ'->P (sT t) s')->acc.length<=100000->Joins (model G.prog G.w) A E (evalEach es env) (sT acc) P s
theorem Zpq:SJ sc [] Zow:=fun J J J J J J J st J J J J ht R h k hl=>k _ st.σ _ ht R .refl hl h
theorem Znh {y:Tx}(h:y.length<=100000):(sT y).length<=Zi8:=YD h
@[elab_as_elim] theorem Zxg.e {K:Tx->Hp->Prop} {v:V} {σ:Hp} {h:Heap} {x:Value} (k:Zxg K v σ) (r:VR h v x) {P:Value->Prop} (q:∀ y t,K y σ->P (.str (sT y) t)):P x:=by cases k with | mk k=>exact r.sE fun t=>q _ t k
theorem Iw {e:Expr}{es:List Expr}{f:FX}{g:FJ}(a:SX sc e f)(b:SJ sc es g)(he:∀ l env,evalEach (e::l) env=eval e env::evalEach l env):SJ sc (e::es) (U6 f g):=fun G Δ n env A X acc st s Q E P ht R h k hl=>by
 exact a.then X ht R h fun v x W0 j0 V1 J0 V0 J2 Q0=>Q0.e J2 fun y t q=>⟨sT y,t,rfl,by rw [Zed];exact Znh (Zf▸q.l),by
  rw [Zed]
  exact b X _ ⟨W0,st.lv,st.cv⟩ j0 Q E P V1 J0 q.q (fun t σ' s' t' R' S' hl' q=>k t σ' s' t' R' (V0.trans S') hl' q) (Zf▸q.l)⟩
structure FvK (Q:V->Hp->Prop)(y:Tx)(σ:Hp):Prop where
 l:y.length<=100000
 q:Q (.str y) σ
def xFv (f:FX):FX:=fun Δ lv cv Q σ=>f Δ lv cv (Zxg (FvK Q)) σ
theorem sFv {e:Expr}{p}{f:FX}(a:SX sc e f):SX sc (.FormattedValue e (-1) none p) (xFv f):=fun J J J J J X st s Q E ht R h=>
 wpAny_FormattedValue_plain (a.then X ht R h fun v x W0 j0 V1 J0 V0 J2 Q0=>Q0.e J2 fun y t q=>SB.field_str (fun t' k=>(PV.tok (t:=k) (d:=j0.drawn) J0 (.str y t') q.q).from V0) (Znh q.l))abbrev Yo7 (Q:V->Hp->Prop):Tx->Hp->Prop:=fun t σ=>Q (.str t) σ
def Zit (g:FJ):FX:=fun Δ lv cv Q σ=>g Δ lv cv [] (Yo7 Q) σ
theorem sJoin {V5 p6:Expr}{r:List Expr}{p}{g:FJ}(a:SJ sc (V5::p6::r) g):SX sc (.JoinedStr (V5::p6::r) p) (Zit g):=fun J J J J J X st s Q E ht R h=>
 wpAny_JoinedStr (a X [] st s _ E _ ht R h (fun t σ' s' t' R' S' hl q=>⟨Znh hl,(PV.tok (t:=s'.toks + 1) (d:=s'.drawn) R' (.str t _) q).from S'⟩) (Zr _))
inductive NegK (Q:V->Hp->Prop):V->Hp->Prop | mk (i) {σ} (q:Q (.int (-i)) σ):NegK Q (.int i) σ
def Zdj (f:FX):FX:=fun Δ lv cv Q σ=>f Δ lv cv (NegK Q) σ
theorem Zja {e:Expr}{p}{f:FX}(a:SX sc e f):SX sc (.UnaryOp .USub e p) (Zdj f):=fun J J J J J X st s Q E ht R h=>
 wpAny_UnaryOp (a.then X ht R h fun v x W0 j0 V1 J0 V0 J2 Q0=>match v,W0,Q0,J0,V0,J2 with
  | _,_,.mk i q,J0,V0,J2=>J2.iE fun t=>PySem.P.neg_int ((PV.tok (t:=j0.toks + 1) (d:=j0.drawn) J0 (.int (-i) _) q).from V0))
inductive AndK (P:Hp->Prop)(Q:V->Hp->Prop)(v:V)(σ:Hp):Prop | mk (b) (h:Zi6 v σ=some b) (q:Zrl P (Q v) b σ)def xAnd (f g:FX):FX:=fun Δ lv cv Q σ=>f Δ lv cv (AndK (g Δ lv cv Q) Q) σ
theorem sAnd {x y:Expr}{p}{f g:FX}(a:SX sc x f)(b:SX sc y g)(he:∀ env,evalEach [x,y] env=[eval x env,eval y env]):SX sc (.BoolOp .And [x,y] p) (xAnd f g):=by
 intro G Δ n env A X st s Q E ht R h
 refine Zc (a.then X ht R h fun v xv W0 j0 V1 J0 V0 J2 ⟨bb,hb,q⟩=>(wbS ((wbH ?_))))
 refine Zy (tk V1 (Zm9 (A:=A) (E:=E) (Q:=fun c σ=>Zrl (g Δ st.lv st.cv Q) (Q v) c σ) X.C.sys J0 J2 hb q)) (fun c J1 hw0=>?_) fun J J e=>e
 obtain ⟨⟨J3,w⟩,M3⟩:=hw0
 have S:=V0.trans w.S
 match c,w.q with
 | false,q=>exact Ze ⟨v,J3,w.R,S,J0.vr w.S J2,q⟩
 | true,q=>exact (b X _ J1 Q E M3 w.R q).to fun J J p=>p.from S
end
section
variable {n:Nat}
theorem Zjd {K:Frag}{c:Addr}(h:pileGet K c=true):Zb7 K (.ref c) "__getattribute__" = some (some (.builtin "list.__getattribute__"))/\Zb7 K (.ref c) "__getattr__" = some none/\mroIn K c (.type "list")=some true:=by
 unfold pileGet at h
 simp only [Xx,beq_iff_eq] at h
 exact h
theorem Zq8:Slot "list" "__getattribute__" "list.__getattribute__":=
 .of (owner:="list") (n:="__getattribute__") (by rw [Zfv,Zb8];kernel_rfl) (by decide +kernel) (by decide +kernel) (by decide +kernel)
  (by first | exact .inl (by decide +kernel) | exact .inr (by decide +kernel)) (by rw [Za4];kernel_rfl)theorem Yff:Zih "list.__getattribute__" = some .slot:=by kernel_rfl
theorem Ybd:Yiq "list.__getattribute__" = some ("list","__getattribute__"):=by kernel_rfl
theorem Ybe:plainId "list.__getattribute__" = true:=by decide +kernel
theorem Ybf:Zfi table "list.__getattribute__" = some Builtin.«object.__getattribute__»:=
 entryFor_alias (id':="object.__getattribute__") (by kernel_rfl) rfl (by decide +kernel) (by kernel_rfl)theorem Yfg (a b:Value):Zg9 "list.__getattribute__" ⟨[a,b],[]⟩:=by unfold Zg9;kernel_rfl
theorem lga_canon:(Zet "list.__getattribute__" != "object.__getattribute__")=false:=by decide +kernel
theorem Yo2:(Zd3 "list.__getattribute__" == Zd3 "object.__getattribute__")=false:=by decide +kernel
section
variable {prog:YL}{w:World}{K:Frag}{x C:Addr}{ox:Obj}{od:Option Obj}{name:Str}{ex:Bool}{Q:Value->Zd->Prop}
theorem Zpw (X:K.In s.heap)(I:InstAt s.heap x ox C od)(hp:pileGet K C=true)
  (h:wpAny (model prog w) A.in1 (Builtin.«object.__getattribute__» ⟨[.ref x,.str name s.toks],[]⟩) (fun fin s'=>∃ v,fin= .done (.ret v)/\wpAny (model prog w) A (handedOut v) Q E s') (fun J J=>False) { s with toks:=s.toks + 1 }) :
  wpAny (model prog w) A (Zkj (.ref x) name ex) Q E s:=by
 have hz0:=Zjd hp
 obtain ⟨hh,g,d,t,os⟩:=s
 refine Zc (Yie (Yl (Zc ((I.type (M:=model prog w)).at (Zc ((YQ (M:=model prog w) X (hz0.1)).at ?_))))))
 refine Y5 (by rw [Yo2,Zdh];decide) ?_
 refine Zc ?_
 refine K7 (show onTheHeap (.ref C)=true from rfl) ?_
 refine (YQ (M:=model prog w) X (hz0.2.1)).at (Zc (Ia (Yl ?_)))
 unfold callGetattribute boundAndCalled
 rw [if_neg (by simp [onTheHeap]),Zq8.bind]
 refine (wbP ?_)
 refine Ux (pos:=[.ref x,.str name t]) (Zfj Ybe Ybf ?_)
 refine @Ybu (model prog w) _ _ _ "list.__getattribute__" "list" "__getattribute__" (.ref x) [.str name t] [] _ Yff Ybd (I.type.andThen (Zds X (hz0.2.2))) (Yfg _ _) ?_
 refine Zy h (fun fin s' hw0=>?_) fun J J e=>e.elim
 obtain ⟨v,e,q⟩:=hw0
 subst e
 exact q
theorem Zjc {v:Value}(X:K.In s.heap)(I:InstAt s.heap x ox C od)(hp:pileGet K C=true)(hf:findObj K C od name=some (.value v))(hh:handedIn v=true)(h:Q v { s with toks:=s.toks + 1 }):wpAny (model prog w) A (Zkj (.ref x) name ex) Q E s:=by
 refine Zpw X I hp ?_
 refine (wbP ((wbP (Zc ((I.type (M:=model prog w)).here (s:={ s with toks:=s.toks + 1 }) (Zc ((looks_find (M:=model prog w) X I hf).here (s:={ s with toks:=s.toks + 1 }) ?_)))))))
 refine Ze ⟨v,rfl,?_⟩
 rw [handedOut_of hh];exact Ze h
theorem Yax {g a:Value}(X:K.In s.heap)(I:InstAt s.heap x ox C od)(hp:pileGet K C=true)(hf:findObj K C od name=some (.bind g a))
  (h:wpAny (model prog w) A.in1 (call g [a,.ref x,.ref C]) (fun v s'=>wpAny (model prog w) A (handedOut v) Q E s') (fun J J=>False) { s with toks:=s.toks + 1 }):wpAny (model prog w) A (Zkj (.ref x) name ex) Q E s:=by
 refine Zpw X I hp ?_
 have L0:=I.type (M:=model prog w)
 have L1:=looks_find (M:=model prog w) X I hf
 refine (wbP ((wbP (Zc (L0.here (s:={ s with toks:=s.toks + 1 }) (Zc (L1.here (s:={ s with toks:=s.toks + 1 }) ?_)))))))
 exact (wbH (Zy h (fun v s' z=>Ze ⟨v,rfl,z⟩) fun J J z=>z))
theorem Zlw {pl:Sem Bool}{Q:Value×List Value->Zd->Prop}{f:Value}{dx:Addr}{es:List XD}{n:Nat}{T:Value}(X:K.In s.heap)(I:InstAt s.heap x ox C (some (dictOf es n)))(hdx:ox.dict=some dx)(hed:s.heap.get? dx=some (dictOf es n))(hp:pileGet K C=true)
  (hf:Zb7 K (.ref C) name=some (some f)) (hT:Looks (model prog w) s.heap (Zfu f) T) (ht:(T != .type "function"&&T != .type "method_descriptor"&&T != .type "wrapper_descriptor")=false) (hl:getL name es=some none) (q:Q (f,[.ref x]) s):wpAny (model prog w) A (getMethod (.ref x) name pl) Q E s:=by
 have hz0:=Zjd hp
 refine Zc (Zc (I.type.here ((YQ X (hz0.1)).here ?_)))
 refine Zc (Zc (I.type.here ((YQ X (hz0.2.1)).here ?_)))
 refine Zc (Zc (I.type.here ((YQ X hf).here (Zc (hT.here ?_)))))
 refine Y5 (by rw [ht];decide) ?_
 refine Zc (Zcp I.at_ ?_)
 refine (hdx)▸?_
 refine Zc (Zc (Zcp hed ?_))
 have hs:(lookIn name (dictOf es n))=some none:=by rw [lookIn_dict,hl]
 rw [nsLook_of hs]
 refine Ze ?_
 refine Y5 (by decide) ?_
 exact (wbR (Ze q))
end
end
section
variable {n:Nat}
noncomputable def Yfw:O->Option (Addr×Addr):=fun o=>match o with
 | .inst c d=>some (c,d)
 | .acc c d _=>some (c,d)
 | _=>none
noncomputable def IK (σ:Hp)(a:Addr):Option (Addr×Addr):=(σ a).bind Yfw
noncomputable def Yj3:O->Option (List (Nat×V)):=fun o=>match o with
 | .at fs=>some fs
 | _=>none
noncomputable def fieldsOf (σ:Hp)(d:Addr):Option (List (Nat×V)):=(σ d).bind Yj3
structure InstE (s:Zd)(a c d:Addr)(fs:List (Nat×V))(ox:Obj)(es:List XD)(k:Nat):Prop where
 I:InstAt s.heap a ox c (some (dictOf es k))
 dx:ox.dict=some d
 g:s.heap.get? d=some (dictOf es k)
 A:AtE s.heap fs es
theorem Yf7 {o:O}{fs}(h:Yj3 o=some fs):o= .at fs:=by
 cases o with
 | «at» fs=>exact congrArg _ (Z1 h)
 | _=>exact nn rfl h
theorem RS.inst (R:RS G env st s){a c d:Addr}{fs:List (Nat×V)}(ha:IK st.σ a=some (c,d))(hd:fieldsOf st.σ d=some fs):∃ ox es k,InstE s a c d fs ox es k:=by
 obtain ⟨o,e,h⟩:=Zcw.mp hd
 obtain rfl:=Yf7 h
 obtain ⟨es,k,e1,e2⟩:=(R.den _ _ e).1
 obtain ⟨o,e,h⟩:=Zcw.mp ha
 have D:=(R.den _ _ e).1
 cases o with
 | inst c d=>cases h;exact ⟨_,es,k,⟨D,rfl,rfl,e1⟩,rfl,e1,e2⟩
 | acc c d _=>cases h;exact D.rec fun e6 J=>⟨_,es,k,⟨e6,rfl,rfl,e1⟩,rfl,e1,e2⟩
 | _=>exact nn rfl h
theorem AtE.get {h:Heap}{fs:List (Nat×V)}{es:List XD}(x:AtE h fs es){i:Nat}{v:V}(e:fs.lookup i=some v):∃ y,getL (nm i) es=some (some y)/\VR h v y:=by
 have q:=x.ent i
 replace q:=(e)▸q
 unfold getL
 generalize es.find? (·.key.isStr (nm i))=z at q
 cases q with | some r=>exact ⟨_,rfl,r⟩
theorem AtE.none {h:Heap}{fs:List (Nat×V)}{es:List XD}(x:AtE h fs es){i:Nat}(e:fs.lookup i=none):getL (nm i) es=some none:=by
 have q:=x.ent i
 rw [e] at q
 unfold getL
 generalize es.find? (·.key.isStr (nm i))=z at q
 cases q;dsimp only;rw [x.nk];rfl
theorem VR.handed {h:Heap}{v:V}{x:Value}(r:VR h v x):handedIn x=true:=by
 cases v with
 | none=>exact r.nE rfl
 | bool=>exact r.bE rfl
 | int=>exact r.iE fun J=>rfl
 | str=>exact r.sE fun J=>rfl
 | ref=>exact r.rE rfl
 | tup=>exact r.tE fun J J J J J=>rfl
 | rng=>exact r.rgE fun J J J J J=>rfl
 | bi b=>exact r.biE (by cases b <;> decide +kernel)theorem kin (C:GOK G)(R:RS G env st s):G.K.In s.heap:=R.fr.elim fun J F=>C.kin.keeps F.1.keep
theorem Yje (C:GOK G)(R:RS G env st s){a c d:Addr}{fs:List (Nat×V)}{m:Nat}{v:V}{ex:Bool}{Q:V->Hp->Prop}(ha:IK st.σ a=some (c,d))(hd:fieldsOf st.σ d=some fs)(hm:fs.lookup m=some v)(ho:ownM c m=true)
  (q:Q v st.σ):W G A (Zkj (.ref a) (nm m) ex) (PV G env st s Q) E s:=by
 obtain ⟨ox,es,k,I,hdx,hed,AE⟩:=R.inst ha hd
 obtain ⟨mm,F,_⟩:=R.fr
 obtain ⟨y,hy,ry⟩:=AE.get hm
 have O:=C.own _ _ ho
 rcases O.plain with pl | pl
 ·exact get_own F C.kin I pl O.has O.find rfl hy ry.handed (PV.tok R ry q)
 ·exact Zjc (kin C R) I pl (Ypi O.has O.find rfl hy) ry.handed (PV.tok R ry q)
theorem Ztx (C:GOK G)(R:RS G env st s){a c d g:Addr}{fs:List (Nat×V)}{m:Nat}{ex:Bool}{Q:V->Hp->Prop}(ha:IK st.σ a=some (c,d))(hd:fieldsOf st.σ d=some fs)(hm:fs.lookup m=none)(hg:clsM c m=some g)
  (hcop:Ypp.contains (nm m)=false) (q:∀ n,st.σ n=none->Q (.ref n) (upd st.σ n (.meth g (.ref a)))):W G A (Zkj (.ref a) (nm m) ex) (PV G env st s Q) E s:=by
 obtain ⟨ox,es,k,I,hdx,hed,AE⟩:=R.inst ha hd
 have O:=C.cls _ _ _ hg
 have X:=kin C R
 refine (any_some O.has).elim fun cd hr50=>hr50.elim fun hcd hhd=>?_
 have hob:findObj G.K c (some (dictOf es k)) (nm m)=some (.bind (.builtin "function.__get__") (.ref g)):=by
  unfold findObj
  have ho:W.ownOf cd (some (dictOf es k)) (nm m)=some none:=by unfold W.ownOf;rw [if_pos hhd];exact AE.none hm
  rw [hcd,UV,O.find,UV]
  dsimp only
  rw [O.noGet,UV]
  dsimp only
  rw [(O.takes),UV]
  rw [ho,UV]
  rw [hcop]
  rfl
 rcases O.plain with pl | pl
 ·refine get_bind X I (Zve pl).1 hob (Zve pl).2 (Ux (fn_get (s:={ s with toks:=s.toks + 1 }) X (beq_iff_eq.mp O.fn) ?_))
  refine Ze ?_
  exact PV.new (t:=s.toks + 1) (d:=s.drawn) R (Yy _) (fun b o e=>Zg _ e) (.meth (Zq _ rfl) (.ref a)) (q _)
 ·refine Yax X I pl hob (Ux (fn_get (s:={ s with toks:=s.toks + 1 }) X (beq_iff_eq.mp O.fn) ?_))
  refine Ze ?_
  exact PV.new (t:=s.toks + 1) (d:=s.drawn) R (Yy _) (fun b o e=>Zg _ e) (.meth (Zq _ rfl) (.ref a)) (q _)
theorem Zpz (C:GOK G)(R:RS G env st s){a c d g:Addr}{fs:List (Nat×V)}{m:Nat}{pl:Sem Bool}{Q:Value×List Value->Zd->Prop}(ha:IK st.σ a=some (c,d))(hd:fieldsOf st.σ d=some fs)(hm:fs.lookup m=none)(hg:clsM c m=some g)
  (q:Q (.ref g,[.ref a]) s):W G A (getMethod (.ref a) (nm m) pl) Q E s:=by
 obtain ⟨ox,es,k,I,hdx,hed,AE⟩:=R.inst ha hd
 obtain ⟨mm,F,_⟩:=R.fr
 have O:=C.cls _ _ _ hg
 refine O.plain.elim (fun pl=>?_) fun pl=>?_
 ·exact method_inst F C.kin I pl O.find O.fn (AE.none hm) q
 ·exact Zlw (kin C R) I hdx hed pl O.find (looks_typeIn (kin C R) (beq_iff_eq.mp O.fn)) (by decide +kernel) (AE.none hm) q
theorem Yja (C:GOK G)(R:RS G env st s){a c d:Addr}{fs:List (Nat×V)}{m:Nat}{v:V}{pl:Sem Bool}{Q:Value×List Value->Zd->Prop}(ha:IK st.σ a=some (c,d))(hd:fieldsOf st.σ d=some fs)(hm:fs.lookup m=some v)(ho:ownM c m=true)
  (q:∀ x,VR s.heap v x->Q (x,[]) { s with toks:=s.toks + 1 }):W G A (getMethod (.ref a) (nm m) pl) Q E s:=by
 obtain ⟨ox,es,k,I,hdx,hed,AE⟩:=R.inst ha hd
 obtain ⟨y,hy,ry⟩:=AE.get hm
 have O:=C.own _ _ ho
 have X:=kin C R
 obtain ⟨mm,F,_⟩:=R.fr
 rcases O.plain with pl | pl
 ·unfold getMethod
  refine Zc (Zc (I.type.here ((YQ X (Zve pl).1).here ?_)))
  refine Y5 (by decide +kernel) ?_
  refine Zc (Zc (I.type.here ((YQ X (Zve pl).2).here ?_)))
  refine Zc (Zc (I.type.here ((YQ X O.find).here ?_)))
  refine Zc (get_own F C.kin I pl O.has O.find rfl hy ry.handed (Ze ?_))
  exact q _ ry
 ·have hw0:=Zjd pl
  obtain p1:=hw0.1
  obtain p2:=hw0.2.1
  obtain p3:=hw0.2.2
  refine Zc (Zc (I.type.here ((YQ X p1).here ?_)))
  refine Zc (Zc (I.type.here ((YQ X p2).here ?_)))
  refine Zc (Zc (I.type.here ((YQ X O.find).here ?_)))
  refine Zc (Zjc X I pl (Ypi O.has O.find rfl hy) ry.handed (Ze ?_))
  exact q _ ry
end
section
variable {n:Nat}
def Zlz (σ:Hp)(a:Addr):Prop:=∃ d xs fs,σ a=some (.acc 325 d xs)/\σ d=some (.at fs)
inductive Yqf (Q:V->Hp->Prop):V->Hp->Prop | mk (i:Nat) {σ} (h:i<=1000000) (q:Q (.int i) σ):Yqf Q (.int i) σ
inductive Zd1 (Δ:Dl)(Q:V->Hp->Prop)(σ:Hp):V->List V->Prop
 | ref {a vs}:Δ a vs σ Q->Zd1 Δ Q σ (.ref a) vs
 | bi {b vs}:biV Q σ b vs->Zd1 Δ Q σ (.bi b) vs
 | len {a}:Zlz σ a->Δ 292 [.ref a] σ (Yqf Q)->Zd1 Δ Q σ (.bi .len) [.ref a]
 | str {a}:Zlz σ a->Δ 299 [.ref a] σ (Zxg (Yo7 Q))->Zd1 Δ Q σ (.bi .str) [.ref a]
theorem RS.acc (R:RS G env st s){a:Addr}(h:Zlz st.σ a):∃ ox od,InstAt s.heap a ox 325 (some od):=by
 refine h.elim fun d hr50=>hr50.elim fun xs hr51=>hr51.elim fun fs hr52=>hr52.elim fun e1 e2=>?_
 obtain ⟨ox,es,k,I,_⟩:=R.inst (c:=325) (d:=d) (fs:=fs) (by unfold IK;rw [e1];rfl) (by unfold fieldsOf;rw [e2];rfl)
 exact ⟨_,_,I⟩theorem Yo3 {i:Nat}(h:i<=1000000):(-2 ^ 63:Int)<=i/\(i:Int) < 2 ^ 63:=⟨Yj2 (Z4 i),by omega⟩
theorem Ykt (C:GOK G)(D:DV G Δ n)(hA:AOK A (n + 1))(ht:0 < s.toks)(R:RS G env st s){a:Addr}{Q:V->Hp->Prop}(ha:Zlz st.σ a)
  (h:Δ 292 [.ref a] st.σ (Yqf Q)):W G A (call (.builtin "len") [.ref a]) (PV G env st s Q) E s:=by
 obtain ⟨ox,od,I⟩:=R.acc ha
 obtain ⟨m,F,_⟩:=R.fr
 refine len_K F C.kin I C.acc.len.1 C.acc.len.2.1 ((D.fn 292 _ _ A.in1 env st s [.ref a] E hA.in1 ht R (VRs.one (.ref a)) h).2.to fun v j0 hw0=>?_)
 obtain ⟨u,W0,J0,V0,J2,q⟩:=hw0
 cases q with | mk i hi q=>exact J2.iE fun t=>⟨⟨Z4 i,by omega⟩,(PV.tok (t:=j0.toks + 1) (d:=j0.drawn) J0 (.int _ _) q).from V0⟩
theorem Yks (C:GOK G)(D:DV G Δ n)(hA:AOK A (n + 2))(ht:0 < s.toks)(R:RS G env st s){a:Addr}{Q:V->Hp->Prop}(ha:Zlz st.σ a)
  (h:Δ 299 [.ref a] st.σ (Zxg (Yo7 Q))):W G A (call (.type "str") [.ref a]) (PV G env st s Q) E s:=by
 obtain ⟨ox,od,I⟩:=R.acc ha
 refine callType_newIn PySem.F.called_str rfl (PySem.F.typeCall_str_1 _) (PySem.F.newCall_str_1 _) (fun obj=>PySem.F.args_object_init_2 obj _) PySem.F.entry_str_new (Bn:=Builtin.«str.__new__»)
  (S:=fun A' Rr s₀=>wpAny (model G.prog G.w) A'.in1 (Zvm (.ref a)) (fun r s'=>Rr (.ok (.ret r)) s') (fun e s'=>Rr (.error e) s') s₀) (MeetsIn.of_wp fun A' Rr s₀ h₀=>?_) ?_
 ·rw [str_new_tree]
  exact (wbP ((wbE isSubtype_str_str ((wbM h₀ (fun r s' h'=>Ze ⟨_,rfl,h'⟩) fun J J e=>e)))))
 ·unfold Zvm
  refine Zc (wpAny_cRoomFor (ZS (ZJ (show 2<=10 by decide) A.units) hA.cl) ?_)
  refine Zc (m:=Zry (.ref a) (Zz "__str__")) (special_fn (kin C R) I C.acc.str.1 (beq_iff_eq.mp C.acc.str.2) ?_)
  refine Zy (D.fn 299 _ _ A.in1.in1 env st s [.ref a] (fun e s'=>wants (fun obj j0=>j0.TypeIs obj "str"/\PV G env st s Q obj j0) E (.error e) s') hA.in1.in1 ht R (VRs.one (.ref a)) h).2 (fun v j0 hw0=>?_) fun J J e=>e
  obtain ⟨u,W0,J0,V0,J2,q⟩:=hw0
  exact q.e J2 fun y t q=>Ze ⟨Zcq _ _ _,_,W0,J0,V0,.str _ _,q⟩def Zqs (G:GC)(A:Yg)(env:Env)(st:St)(s:Zd)(E:Value->Zd->Prop)(x:Value)(vals:List Value)(Q:V->Hp->Prop):Prop:=(W G A (Zac x) (fun J W2=>W2=s) E s)/\W G A (call x vals) (PV G env st s Q) E s
def Zqs.k (z:@Zqs G A env st s E x vals Q):=z.1
def Zqs.c (z:@Zqs G A env st s E x vals Q):=z.2
theorem Yem (X:Cx G Δ n env A sc)(ht:0 < s.toks)(R:RS G env st s){f:V}{x:Value}{vs:List V}{vals:List Value}{Q:V->Hp->Prop}(rf:VR s.heap f x)(rv:VRs s.heap vs vals)(h:Zd1 Δ Q st.σ f vs):Zqs G A env st s E x vals Q:=by
 revert rf rv
 exact h.rec (fun h rf rv=>rf.rE (have c:=X.D.fn _ _ Q A env st s vals E (X.hA.mono (Zn _ _)) ht R rv h;⟨c.1,c.2⟩)) (fun h rf rv=>rf.biE ⟨Iz _ rfl,op_bi X.hA.handled X.C.sys R rv h⟩)
  (fun ha h rf rv=>rf.biE<|rv.oE fun J r=>r.rE ⟨Iz _ rfl,Ykt X.C X.D (X.hA.mono (ZJ (by decide) _)) ht R ha h⟩)
  (fun ha h rf rv=>rf.biE<|rv.oE fun J r=>r.rE ⟨Iz _ rfl,Yks X.C X.D (X.hA.mono (ZJ (by decide) _)) ht R ha h⟩)
section
variable (Δ:Dl)(lv:Nat->Option V)(cv:Nat->Option Addr)(Q:V->Hp->Prop)
abbrev kCal2 (f:V):List V->Hp->Prop:=fun vs σ=>Zd1 Δ Q σ f vs
abbrev kCal (g:FXs):V->Hp->Prop:=fun fv σ=>g Δ lv cv (kCal2 Δ Q fv) σ
end
def Yb (f:FX)(g:FXs):FX:=fun Δ lv cv Q σ=>f Δ lv cv (kCal Δ lv cv Q g) σ
theorem Zrg (X:Cx G Δ n env A sc){l:List Expr}{pos:Pos}{g:FXs}(b:SXs sc l g)(hns:(backTo pos (starEach l env)).any (·.1)=false){f:V}{x:Value}{first:List V}{fvals:List Value}{Q:V->Hp->Prop}
  (ht:0 < s.toks) (R:RS G env st s) (rf:VR s.heap f x) (rfirst:VRs s.heap first fvals) (h:g Δ st.lv st.cv (fun vs σ=>Zd1 Δ Q σ f (first++vs)) st.σ) :
  W G A (Zea pos x fvals (backTo pos (starEach l env)) []) (PV G env st s Q) E s:=
 YT hns (YS hns (b.then X ht R h fun vs vals J3 J1 M3 V2 H3 Q3 G3=>
  have c:=Yem (E:=E) X M3 V2 (R.vr H3 rf) ((rfirst.mono (R.imk H3)).append Q3) G3
  c.k.to fun J W2 e=>e▸c.c.to fun z W2 p=>p.from H3))
theorem YH {x:Str}{np pos:Pos}{l:List Expr}{f:FX}{g:FXs}(a:SX sc (.Name x np) f)(b:SXs sc l g)(hns:(fun J J=>false)=fun env pos=>(backTo pos (starEach l env)).any (·.1)):SX sc (.Call (.Name x np) l [] pos) (Yb f g):=fun J J J J J X st s Q E ht R h=>
 XJ (a.then X ht R h fun v x W0 j0 V1 J0 V0 J2 Q0=>(Zrg (E:=E) X b (congrFun (congrFun hns _) _).symm V1 J0 J2 .nil Q0).to fun z W2 p=>p.from V0)
inductive MK where
 | bi (b:BM) (self:V)
 | fn (f:Addr) (self:V)
 | val (v:V)noncomputable def MK.ctorIdx (v:MK):Nat:=MK.casesOn (motive:=fun J=>Nat) v (fun J J=>0) (fun J J=>1) (fun J=>2)
inductive mK (σ:Hp):V->Nat->MK->Prop
 | list {a xs} {b:BM}:σ a=some (.list xs)->b.typ= "list"->mK σ (.ref a) b.nm (.bi b (.ref a))
 | dI {a xs} {b:BM}:σ a=some (.dI xs)->b.typ= "dict"->mK σ (.ref a) b.nm (.bi b (.ref a))
 | dS {a xs} {b:BM}:σ a=some (.dS xs)->b.typ= "dict"->mK σ (.ref a) b.nm (.bi b (.ref a))
 | set {a S k} {b:BM}:σ a=some (.set S k)->b.typ= "set"->mK σ (.ref a) b.nm (.bi b (.ref a))
 | str {t} {b:BM}:b.typ= "str"->mK σ (.str t) b.nm (.bi b (.str t))
 | fn {a c d fs m f}:IK σ a=some (c,d)->fieldsOf σ d=some fs->fs.lookup m=none->clsM c m=some f->mK σ (.ref a) m (.fn f (.ref a))
 | val {a c d fs m v}:IK σ a=some (c,d)->fieldsOf σ d=some fs->fs.lookup m=some v->ownM c m=true->mK σ (.ref a) m (.val v)
def runK (Δ:Dl)(k:MK)(vs:List V)(Q:V->Hp->Prop)(σ:Hp):Prop:=
 match k with
 | .bi b self=>Zjb Q σ b self vs
 | .fn f self=>Zd1 Δ Q σ (.ref f) (self::vs)
 | .val v=>Zd1 Δ Q σ v vs
abbrev Yo9 (Δ:Dl)(Q:V->Hp->Prop)(k:MK):List V->Hp->Prop:=fun vs σ=>runK Δ k vs Q σ
inductive McK (Δ:Dl)(lv:Nat->Option V)(cv:Nat->Option Addr)(g:FXs)(m:Nat)(Q:V->Hp->Prop)(ov:V)(σ:Hp):Prop | mk (k) (h:mK σ ov m k) (q:g Δ lv cv (Yo9 Δ Q k) σ)def xMc (f:FX)(m:Nat)(g:FXs):FX:=fun Δ lv cv Q σ=>f Δ lv cv (McK Δ lv cv g m Q) σ
theorem few {l:List Expr}{env:Env}{pos:Pos}(h:(backTo pos (starEach l env)).any (·.1)=false)(hl:l.length < 20) :
  ((backTo pos (starEach l env)).all (fun x=>!x.1)&&(backToKw pos (Yo5 [] env)).all (fun x=>x.1.isSome)
   &&decide (l.length + ([]:List Keyword).length + (if ([]:List Keyword).isEmpty then 0 else 1) < 30))=true:=
 Zeg.mpr ⟨Zeg.mpr ⟨by rw [List.all_eq_not_any_not];simp only [Bool.not_not,h];rfl,rfl⟩,decide_eq_true (Nat.lt_trans hl (by decide))⟩
theorem Zbk {M:Model}{o:Expr}{name:Str}{apos pos:Pos}{args:List Expr}{Q:Value->Zd->Prop}
  (hbase:attributeBase o name env (eval o env)=eval o env) (hns:(backTo pos (starEach args env)).any (·.1)=false) (hl:args.length < 20) (hline:(apos.endLine == pos.line)=true)
  (h:wpAny M A (eval o env) (fun ov j0=>∀ pl,wpAny M A (getMethod ov name pl) (fun fm J1=>wpAny M A (Zea pos fm.1 fm.2 (backTo pos (starEach args env)) []) Q E J1) E j0) E s) :
  wpAny M A (eval (.Call (.Attribute o name apos) args [] pos) env) Q E s:=by
 rw [arm_eval_Call,hbase]
 refine (wbM h (fun ov j0 Q0=>(wbS ?_)) fun J J e=>e)
 have hform:methodCallForm (args.length + ([]:List Keyword).length) (backTo pos (starEach args env)) (backToKw pos (Yo5 [] env))=true:=few hns hl
 have hpos:Ye1 true o env apos pos=pure pos:=by unfold Ye1;rw [hline];rfl
 unfold methodCall
 exact hform▸(wbH (Zy (Q0 _) (fun fm J1 G3=>(wbE hpos G3)) fun J J e=>e))def PlaceR (s:Zd)(b:BM)(x:Value):Prop:=s.TypeIs x b.typ/\(∀ a,x= .ref a->∃ ob,s.heap.get? a=some ob/\ob.dict=none)def PlaceR.t (z:@PlaceR s b x):=z.1
def PlaceR.d (z:@PlaceR s b x):=z.2
theorem PlaceR.ref {b:BM}{a:Addr}{t:String}(e:b.typ=t)(h:s.TypeIs (.ref a) t)(d:∃ ob,s.heap.get? a=some ob/\ob.dict=none):PlaceR s b (.ref a):=⟨e▸h,fun J e=>Zfo e▸d⟩
theorem op_mK (X:Cx G Δ n env A sc)(R:RS G env st s)(ht:0 < s.toks){l:List Expr}{pos:Pos}{g:FXs}(b:SXs sc l g)(hns:∀ env pos,(backTo pos (starEach l env)).any (·.1)=false){m:Nat}{Q:V->Hp->Prop}{v:V}{k:MK}{x:Value}(hk:mK st.σ v m k)(r:VR s.heap v x)
  (q:g Δ st.lv st.cv (Yo9 Δ Q k) st.σ) (pl:Sem Bool):W G A (getMethod x (nm m) pl) (fun fm J1=>W G A (Zea pos fm.1 fm.2 (backTo pos (starEach l env)) []) (PV G env st s Q) E J1) E s:=by
 have bi:∀ {bm:BM} {x:Value},PlaceR s bm x->VR s.heap v x->g Δ st.lv st.cv (Yo9 Δ Q (.bi bm v)) st.σ->W G A (getMethod x (nm bm.nm) pl) (fun fm J1=>W G A (Zea pos fm.1 fm.2 (backTo pos (starEach l env)) []) (PV G env st s Q) E J1) E s:=fun {bm x} p r q=>
  Zad p.t (Zrz bm).2.1 (Zrz bm).1 (Zrz bm).2.2 p.d (YT (hns _ _) (YS (hns _ _) (b.then X ht R q fun vs vals J3 J1 M3 V2 H3 Q3 G3=>Ze ((Yi9 X.C.sys V2 (R.vr H3 r) Q3 G3).to fun z W2 p=>p.from H3))))
 revert r q bi
 refine hk.rec ?_ ?_ ?_ ?_ ?_ ?_ ?_
 ·exact fun e et r q bi=>r.rE (bi ((R.den _ _ e).1.rec fun p J=>.ref et p.isList.typeIs (p.elim fun J z=>⟨_,z,rfl⟩)) (.ref _) q)
 ·exact fun e et r q bi=>r.rE (bi ((R.den _ _ e).1.rec fun p J J=>.ref et p.typeIs (p.elim fun J z=>z.elim fun J z=>z.elim fun J z=>⟨_,z.1,z.2.1.2.1⟩)) (.ref _) q)
 ·exact fun e et r q bi=>r.rE (bi ((R.den _ _ e).1.rec fun p J J=>.ref et p.typeIs (p.elim fun J z=>z.elim fun J z=>z.elim fun J z=>⟨_,z.1,z.2.1.2.1⟩)) (.ref _) q)
 ·exact fun e et r q bi=>r.rE (bi (have p:=(R.den _ _ e).1;.ref et (Heap.SetOf.typeIs p) (p.elim fun J z=>z.elim fun J z=>z.elim fun J z=>z.elim fun J z=>⟨_,z.1,z.2.1.2.1⟩)) (.ref _) q)
 ·exact fun et r q bi=>r.sE fun t=>bi ⟨et▸Zcq _ _ _,fun J e=>nomatch e⟩ (.str _ t) q
 ·exact fun {a c d fs m f} e1 e2 e3 e4 r q bi=>r.rE (Zpz X.C R e1 e2 e3 e4 (Zrg (E:=E) X b (hns _ _) (f:=.ref f) (first:=[.ref a]) (Q:=Q) ht R (.ref _) (VRs.one (.ref _)) q))
 ·exact fun {a c d fs m u} e1 e2 e3 e4 r q bi=>r.rE (Yja X.C R e1 e2 e3 e4 fun x rx=>
   have k:=R.ext (h':=s.heap) (t:=s.toks + 1) (d:=s.drawn) fun J J e=>e
   (Zrg (E:=E) X b (hns _ _) (f:=u) (first:=[]) (Q:=Q) (Z8 _) k.1 rx .nil q).to fun z W2 p=>p.from k.2)
theorem sMc {o:Expr}{name:Str}{m:Nat}{apos pos:Pos}{l:List Expr}{f:FX}{g:FXs}(hn:nm m=name)(a:SX sc o f)(b:SXs sc l g)(hns:(fun J J=>false)=fun env pos=>(backTo pos (starEach l env)).any (·.1))
  (hb:(fun J w=>w)=attributeBase o name) (hline:(apos.endLine == pos.line)=true) (hl:Nat.ble (l.length + 1) 20=true):SX sc (.Call (.Attribute o name apos) l [] pos) (xMc f m g):=by
 subst hn;exact fun J J J J J X st s Q E ht R h=>
 Zbk (congrFun (congrFun hb _) _).symm (congrFun (congrFun hns _) _).symm (Za hl) hline (a.then X ht R h fun v x W0 j0 V1 J0 V0 J2 h pl=>h.rec fun k hk Q0=>Zy (op_mK X J0 V1 b (fun e p=>(congrFun (congrFun hns e) p).symm) hk J2 Q0 pl) (fun J J w=>Zy w (fun J J p=>p.from V0) fun J J e=>e) fun J J e=>e)
inductive AtK (m:Nat)(Q:V->Hp->Prop):V->Hp->Prop
 | val {a c d fs v σ}:IK σ a=some (c,d)->fieldsOf σ d=some fs->fs.lookup m=some v->ownM c m=true->Q v σ->AtK m Q (.ref a) σ
 | bd {a c d fs g σ}:IK σ a=some (c,d)->fieldsOf σ d=some fs->fs.lookup m=none->clsM c m=some g->Ypp.contains (nm m)=false->Yfs Q (.meth g (.ref a)) σ->AtK m Q (.ref a) σ
def xAt (f:FX)(m:Nat):FX:=fun Δ lv cv Q σ=>f Δ lv cv (AtK m Q) σ
theorem op_at (C:GOK G)(R:RS G env st s){m:Nat}{ex:Bool}{v:V}{x:Value}{Q:V->Hp->Prop}(r:VR s.heap v x)(h:AtK m Q v st.σ):W G A (Zkj x (nm m) ex) (PV G env st s Q) E s:=by
 generalize hσ:st.σ=σ at h
 cases h with
 | val e1 e2 e3 e4 q=>subst hσ;exact r.rE (Yje C R e1 e2 e3 e4 q)
 | bd e1 e2 e3 e4 e5 q=>subst hσ;exact r.rE (Ztx C R e1 e2 e3 e4 e5 q)
theorem sAt {o:Expr}{name:Str}{m:Nat}{p:Pos}{f:FX}(hn:nm m=name)(a:SX sc o f)(he:eval (.Attribute o name p)=fun env=>(do
   let x <-eval o env
   Zgi p.atName
   let r <-Zrr [x] (Zkj x name true)
   letTemporaryGo o x r
   pure r)):SX sc (.Attribute o name p) (xAt f m):=by
 subst hn;exact fun J J J J J X st s Q E ht R h=>
 Attribute_any_ (a.then X ht R h fun v x W0 j0 V1 J0 V0 J2 h=>(op_at X.C J0 J2 h).to fun z W2 p=>p.from V0) (congrFun he _)
end
section
open PySem PySem.Spec PySem.Calls PyProof.Rows PySem.W PySem.SeqAt
noncomputable def Zff {K:Type}[DecidableEq K](kvs:List (K×V))(k:K)(v:V):List (K×V):=
 if (kvs.any fun p=>decide (p.1=k))=true then kvs.map (fun p=>if p.1=k then (p.1,v) else p) else kvs++[(k,v)]
inductive Yiz (v:V)(Q:Hp->Prop)(σ:Hp):V->V->Prop
 | list {a xs}:σ a=some (.list xs)->xs.length<=100000->0 < xs.length->Q (upd σ a (.list (xs.dropLast++[v])))->Yiz v Q σ (.ref a) (.int (-1))
 | dI {a k kvs}:σ a=some (.dI kvs)->kvs.length<=100000->Q (upd σ a (.dI (Zff kvs k v)))->Yiz v Q σ (.ref a) (.int k)
section
variable {K:Type}[DecidableEq K]
theorem Zyo {β:Type}(l:List (K×β))(k:K)(x:β):(l.map (fun kv=>if kv.1=k then (kv.1,x) else kv)).map (·.1)=l.map (·.1):=by
 rw [U7];exact Zcm fun p J=>show (if p.1=k then (p.1,x) else p).1=p.1 by by_cases h:p.1=k;rw [if_pos h];rw [if_neg h]theorem Zzm {β:Type}(l:List (K×β))(k:K):(l.any fun p=>decide (p.1=k))=(l.map (·.1)).any (fun y=>decide (y=k)):=by rw [List.any_map];rfl
theorem Zs2 {k:K}{x:Value}{v:V}{hp:Heap}(rv:VR hp v x){l:List (K×Value)}{kvs:List (K×V)}(e:l.map (·.1)=kvs.map (·.1))(r:VRs hp (kvs.map (·.2)) (l.map (·.2))) :
  VRs hp ((kvs.map (fun p=>if p.1=k then (p.1,v) else p)).map (·.2)) ((l.map (fun kv=>if kv.1=k then (kv.1,x) else kv)).map (·.2)):=by
 induction kvs generalizing l with
 | nil=>rw [Ks.mp e];exact .nil
 | cons p ps ih=>
  cases l with
  | nil=>exact nomatch e
  | cons q qs=>
   have e1:q.1=p.1:=(Xg e).1
   refine .cons ?_ (ih (Xg e).2 r.ht.2)
   show VR hp (if p.1=k then (p.1,v) else p).2 (if q.1=k then (q.1,x) else q).2
   by_cases h:p.1=k
   ·rw [if_pos h,if_pos (e1.trans h)];exact rv
   ·rw [if_neg h,if_neg fun z=>h (e1.symm.trans z)];exact r.ht.1
theorem Zs3 {l:List (K×Value)}{kvs:List (K×V)}{k:K}{x:Value}{v:V}{h:Heap}(e:l.map (·.1)=kvs.map (·.1))(r:VRs h (kvs.map (·.2)) (l.map (·.2)))(rv:VR h v x) :
  (Zz9 l k x).map (·.1)=(Zff kvs k v).map (·.1)/\VRs h ((Zff kvs k v).map (·.2)) ((Zz9 l k x).map (·.2)):=by
 unfold Zz9 Zff
 rw [Zzm,Zzm,e]
 by_cases h:((kvs.map (·.1)).any fun y=>decide (y=k))=true
 ·rw [if_pos h,if_pos h,Zyo,Zyo];exact ⟨e,Zs2 rv e r⟩
 ·rw [if_neg h,if_neg h,ZF,ZF,ZF,ZF,e];exact ⟨rfl,r.append (VRs.one rv)⟩
end
theorem PU.upd (R:RS G env st s){Q:Hp->Prop}{t:Nat}{d:Drawn}{h':Heap}{a:Addr}{o o':O}(e:st.σ a=some o)(x:XN a s.heap h')(D:Den G.prog G.w h' a o')
  (q:Q (upd st.σ a o')):PU G env st s Q ⟨h',s.gens,d,t,s.os⟩:=PU.put R (iS e) x D q
theorem Ydu {l:List Value}{z:Value}(h:0 < l.length):l.toArray.setIfInBounds (-1 + (l.toArray.size:Int)).toNat z=(l.dropLast++[z]).toArray:=by
 have hi:(-1 + (l.toArray.size:Int)).toNat=l.dropLast.length:=by rw [List.length_dropLast,Zdf,Zoa];exact Int.toNat_sub l.length 1
 rw [hi,List.setIfInBounds_toArray]
 congr 1
 conv=>lhs;rw [<-List.dropLast_concat_getLast (List.ne_nil_of_length_pos h)]
 rw [Zb1,List.set_append_right _ _ (Zm _),Zdp];rfl
theorem Yi8 (R:RS G env st s){a i v:V}{x y z:Value}{Q:Hp->Prop}(ra:VR s.heap a x)(ri:VR s.heap i y)(rv:VR s.heap v z)(h:Yiz v Q st.σ a i):W G A (setItem x y z) (fun J s'=>PU G env st s Q s') E s:=by
 revert ra ri
 refine h.rec (fun {a xs} e hl h0 q ra ri=>ra.rE<|ri.iE fun t=>?_) (fun {a k kvs} e hl q ra ri=>ra.rE<|ri.iE fun t=>?_)
 ·have D:=(R.den _ _ e).1
  obtain ⟨⟨n,pe⟩,r⟩:=id D
  rename_i l
  have h1:0 < l.length:=r.length▸h0
  have e1:=Ye (ZZ fun xs=>xs.setIfInBounds (-1 + (l.toArray.size:Int)).toNat z) pe rfl
  have sb:=(ZV s.heap a (ZZ fun xs=>xs.setIfInBounds (-1 + (l.toArray.size:Int)).toNat z)).extBut
  exact ki_setBack (n:=n) pe (by decide) (Zga (YZ.mpr h1)) (by decide) (PU.upd R e sb (Den.list (l:=l.dropLast++[z]) ⟨_,e1.trans (by rw [ZZ];rw [Ydu h1])⟩ ((r.dropLast.append (VRs.one rv)).mono (Za1 D sb))) q)
 ·have D:=(R.den _ _ e).1
  exact D.rec fun {l} p e1 r=>wpAny_setItem_pairs (knd:=Zdb G.prog G.w) (Zrn _ _) p (fun h' p' sb=>
   have k2:=Zs3 (k:=k) e1 r rv
   PU.upd R e sb.extBut (.dI p' k2.1 (k2.2.mono (Za1 D sb.extBut))) q) (YD (Zab e1▸hl))
end
section
variable {n:Nat}
inductive Fl where
 | next | brk | cont | ret (v:V)noncomputable def Fl.ctorIdx (v:Fl):Nat:=Fl.casesOn (motive:=fun J=>Nat) v 0 1 2 (fun J=>3)noncomputable abbrev PP:=(Fl->St->Prop)->St->Prop
noncomputable abbrev FS:=Dl->(Fl->St->Prop)->St->Prop
inductive FlI (f:Flow):Flow->Prop | mk:FlI f f
inductive FlV (p:Value->Prop):Flow->Prop | mk {x}:p x->FlV p (.ret x)def FlR (h:Heap)(f:Fl):Flow->Prop:=f.rec (FlI .next) (FlI .brk) (FlI .cont) fun v=>FlV (VR h v)
section
variable {h:Heap}{P:Flow->Prop}{fl:Flow}
theorem FlR.next:FlR h .next .next:=FlI.mk
theorem FlR.brk:FlR h .brk .brk:=FlI.mk
theorem FlR.cont:FlR h .cont .cont:=FlI.mk
theorem FlR.ret {v x}(r:VR h v x):FlR h (.ret v) (.ret x):=FlV.mk r
@[elab_as_elim] theorem FlR.nE (r:FlR h .next fl) (k:P .next):P fl:=r.rec k
@[elab_as_elim] theorem FlR.bE (r:FlR h .brk fl) (k:P .brk):P fl:=r.rec k
@[elab_as_elim] theorem FlR.cE (r:FlR h .cont fl) (k:P .cont):P fl:=r.rec k
@[elab_as_elim] theorem FlR.rE {v} (r:FlR h (.ret v) fl) (k:∀ x,VR h v x->P (.ret x)):P fl:=r.rec fun {_} r=>k _ r
end
structure PSw (G:GC)(env:Env)(st:St)(s:Zd)(Q:Fl->St->Prop)(fl:Flow)(s':Zd)(f:Fl)(st':St):Prop where
 R:RS G env st' s'
 S:Stp G env st st' s s'
 r:FlR s'.heap f fl
 q:Q f st'
def PS (G:GC)(env:Env)(st:St)(s:Zd)(Q:Fl->St->Prop)(fl:Flow)(s':Zd):Prop:=∃ f st',PSw G env st s Q fl s' f st'
theorem PS.from {Q:Fl->St->Prop}{O2:St}{j0:Zd}(S:Stp G env st O2 s j0){fl:Flow}(p:PS G env O2 j0 Q fl s'):PS G env st s Q fl s':=
 p.imp fun J p=>p.imp fun J p=>⟨p.R,S.trans p.S,p.r,p.q⟩
def SS (sc:Sc)(t:Stmt)(F:FS):Prop:=
 ∀ ⦃G Δ n env A⦄,Cx G Δ n env A sc->∀ (st:St) (s:Zd) (Q:Fl->St->Prop) (E:Value->Zd->Prop),0 < s.toks->RS G env st s->F Δ Q st->W G A (exec t env) (PS G env st s Q) E s
def SSL (sc:Sc)(l:List Stmt)(F:FS):Prop:=
 ∀ ⦃G Δ n env A⦄,Cx G Δ n env A sc->∀ (st:St) (s:Zd) (Q:Fl->St->Prop) (E:Value->Zd->Prop),0 < s.toks->RS G env st s->F Δ Q st->W G A (execs l env) (PS G env st s Q) E s
theorem SS.then {t:Stmt}{F:FS}(h:SS sc t F)(X:Cx G Δ n env A sc){Q:Fl->St->Prop}(ht:0 < s.toks)(R:RS G env st s)(hf:F Δ Q st){P:Flow->Zd->Prop}
  (k:∀ f fl O2 j0,0 < j0.toks->RS G env O2 j0->Stp G env st O2 s j0->FlR j0.heap f fl->Q f O2->P fl j0):W G A (exec t env) P E s:=
 Zy (tk ht (h X st s Q E ht R hf)) (fun x j0 p=>p.1.elim fun f w=>w.elim fun O2 w=>k f x O2 j0 p.2 w.R w.S w.r w.q) fun J J e=>e
theorem SSL.then {t:List Stmt}{F:FS}(h:SSL sc t F)(X:Cx G Δ n env A sc){Q:Fl->St->Prop}(ht:0 < s.toks)(R:RS G env st s)(hf:F Δ Q st){P:Flow->Zd->Prop}
  (k:∀ f fl O2 j0,0 < j0.toks->RS G env O2 j0->Stp G env st O2 s j0->FlR j0.heap f fl->Q f O2->P fl j0):W G A (execs t env) P E s:=
 Zy (tk ht (h X st s Q E ht R hf)) (fun x j0 p=>p.1.elim fun f w=>w.elim fun O2 w=>k f x O2 j0 p.2 w.R w.S w.r w.q) fun J J e=>e
theorem RS.baseL {a:Addr}(R:RS G env st s)(h:(G.B.get? a).isSome=true):a≠env.locals:=fun q=>R.fr.elim fun J F=>(Z2.mp h).elim fun J e=>absurd (Ym (q▸ZL e) F.1.above) (Un _)
theorem RS.store (R:RS G env st s){x:Nat}{v:V}{val:Value}{h':Heap}{t:Nat}{d:Drawn}{m:Str->Option Value}(F:Fr G.B env.locals s.heap m)(hf:∀ i v,st.lv i=some v->∃ x,m (nm i)=some x/\VR s.heap v x)
  (rv:VR s.heap v val) (hn:h'.Ns env.locals (fun y=>if y=nm x then some val else m y)) (hs:ZM env.locals s.heap h') :
  RS G env ⟨st.σ,upd st.lv x v,st.cv⟩ ⟨h',s.gens,d,t,s.os⟩/\Stp G env st ⟨st.σ,upd st.lv x v,st.cv⟩ s ⟨h',s.gens,d,t,s.os⟩:=
 have k:∀ b o,b≠env.locals->s.heap.get? b=some o->h'.get? b=some o:=fun b o q e=>(hs.2 b q).trans e
 have ik:Imk s.heap h':=fun b o e hi=>k b o (R.off_imm e hi).2.1 e
 ⟨⟨⟨_,F.set hn hs,fun i u h=>Zq0 (P:=fun i u=>∃ y,(if nm i=nm x then some val else m (nm i))=some y/\VR h' u y) h ⟨val,if_pos rfl,rv.mono ik⟩ fun q h=>(hf i u h).imp fun y p=>⟨(if_neg fun e=>q (Zjf e)).trans p.1,p.2.mono ik⟩⟩,
   fun a o e=>⟨(R.den a o e).1.mono ik fun ob q=>k _ _ (R.den a o e).2.2 q,(R.den a o e).2⟩,R.cel,fun p h=>
    have q:=R.tab p h
    have h1:=R.baseL q.c0
    ⟨q.t.imp fun J z=>⟨z.1.sameBut hs h1 q.l0,z.2.but ik (k _ · h1) (k _ · q.l0)⟩,q.s0,q.l0,q.b0,q.c0⟩,R.bare,R.os⟩,
  ⟨fun b o e J q J=>k b o q e,fun b o e=>if q:b=env.locals then hn.elim fun J z=>z.elim fun J z=>z.elim fun J z=>q▸iS z.1 else iS (k b o q e),fun b h=>.inl h,fun J J h=>h⟩⟩
structure PN (G:GC)(env:Env)(st st':St)(s s':Zd):Prop where
 R:RS G env st' s'
 S:Stp G env st st' s s'
 t:s.toks<=s'.toks
theorem Zb5 (hE:EOK env sc)(R:RS G env st s){x:Nat}{v:V}{val:Value}(hk:sc.lookup x=some .local)(rv:VR s.heap v val) :
  W G A (storeName env (nm x) val) (fun J s'=>PN G env st ⟨st.σ,upd st.lv x v,st.cv⟩ s s') E s:=
 R.fr.elim fun m F=>Zk8 (by rw [hE.kindOf,hk]) F.1.ns (fun h' hn hs=>have p:=R.store F.1 F.2 rv hn hs;⟨p.1,p.2,ZW _⟩) (by rw [hE.kind];rfl)
theorem Zlh (hE:EOK env sc)(R:RS G env st s){x:Nat}{c:Addr}{v:V}{u:Option V}{val:Value}(hk:sc.lookup x=some .cell)(hc:st.cv x=some c)(hu:st.σ c=some (.cell u))(rv:VR s.heap v val) :
  W G A (storeName env (nm x) val) (fun J s'=>PN G env st ⟨upd st.σ c (.cell (some v)),st.lv,st.cv⟩ s s') E s:=
 have D:=(R.den _ _ hu).1
 D.rec fun {y o} e d r=>wpAny_storeName_cell hE.kind (by rw [hE.kindOf,hk]) (R.cel _ _ hc) (v₀:=y) ⟨o,e,d⟩ fun h' ⟨o',e',d'⟩ sb=>
  have p:=R.put (t:=s.toks) (d:=s.drawn) (.inl (iS hu)) (fun b o hb e=>sb.extBut b o hb e) (Den.cell e' d' (.some (rv.mono (Za1 D sb.extBut))))
  ⟨p.1,p.2,Zm _⟩
section
variable (Δ:Dl)(lv:Nat->Option V)(cv:Nat->Option Addr)(P:Fl->St->Prop)
abbrev Ypc (x:Nat):V->Hp->Prop:=fun v σ=>P .next ⟨σ,upd lv x v,cv⟩
inductive AsgC (x:Nat)(v:V)(σ:Hp):Prop | mk {c u} (h:cv x=some c) (e:σ c=some (.cell u)) (q:P .next ⟨upd σ c (.cell (some v)),lv,cv⟩)abbrev kEx:V->Hp->Prop:=fun J σ=>P .next ⟨σ,lv,cv⟩abbrev kHp:Hp->Prop:=fun σ=>P .next ⟨σ,lv,cv⟩abbrev kRet:V->Hp->Prop:=fun v σ=>P (.ret v) ⟨σ,lv,cv⟩abbrev kSeq (g:FS):Fl->St->Prop:=fun fl st'=>match fl with | .next=>g Δ P st' | fl=>P fl st'
abbrev kSt (F:FS):Hp->Prop:=fun σ=>F Δ P ⟨σ,lv,cv⟩
end
def YM (x:Nat)(f:FX):FS:=fun Δ Q st=>st.rec fun σ lv cv=>f Δ lv cv (Ypc lv cv Q x) σ
theorem YG {m:Str}{x:Nat}{q p:Pos}{e:Expr}{f:FX}(hn:nm x=m)(hk:sc.lookup x=some .local)(a:SX sc e f)(hs:(fun J=>pure false)=swapsWith e (some (.Name m q)) p.line):SS sc (.Assign [.Name m q] e p) (YM x f):=by
 subst hn;exact fun J J J J J X st s Q E ht R h=>Zd5 (a.then X ht R h fun v x W0 j0 V1 J0 V0 J2 Q0=>(Zb5 X.hE J0 hk J2).to fun J J1 p=>⟨.next,_,p.R,V0.trans p.S,.next,Q0⟩) (congrFun hs _).symm
def Ztk (x:Nat)(f:FX):FS:=fun Δ Q st=>st.rec fun σ lv cv=>f Δ lv cv (AsgC lv cv Q x) σ
theorem Zq7 {m:Str}{x:Nat}{q p:Pos}{e:Expr}{f:FX}(hn:nm x=m)(hk:sc.lookup x=some .cell)(a:SX sc e f)(hs:∀ env,swapsWith e (some (.Name m q)) p.line env=pure false):SS sc (.Assign [.Name m q] e p) (Ztk x f):=by
 subst hn;exact fun J J J J J X st s Q E ht R h=>Zd5 (a.then X ht R h fun v x W0 j0 V1 J0 V0 J2 h=>h.rec fun h1 h2 q=>(Zlh X.hE J0 hk h1 h2 J2).to fun J J1 p=>⟨.next,_,p.R,V0.trans p.S,.next,q⟩) (hs _)
inductive Yfu (Q:V->Hp->Prop)(σ:Hp):Zeb->V->V->Prop
 | add {i j}:Q (.int (i + j)) σ->Yfu Q σ .Add (.int i) (.int j)
 | sub {i j}:Q (.int (i - j)) σ->Yfu Q σ .Sub (.int i) (.int j)
 | addS {x y}:x.length + y.length<=100000->Q (.str (x++y)) σ->Yfu Q σ .Add (.str x) (.str y)
theorem Yoo (R:RS G env st s){op:Zeb}{a b:V}{x y:Value}{Q:V->Hp->Prop}(ra:VR s.heap a x)(rb:VR s.heap b y)(h:Yfu Q st.σ op a b):W G A (inplaceOp op x y) (PV G env st s Q) E s:=by
 revert ra rb
 exact h.rec (fun h ra rb=>ra.iE fun J=>rb.iE fun J=>PySem.P.iadd_int (PV.tok R (.int _ _) h)) (fun h ra rb=>ra.iE fun J=>rb.iE fun J=>PySem.P.isub_int (PV.tok R (.int _ _) h))
  (fun hl h ra rb=>ra.sE fun J=>rb.sE fun J=>SB.iadd (fun t' k=>Zed _ _▸PV.tok R (.str _ _) h) (YD hl))abbrev kIop2 (lv:Nat->Option V)(cv:Nat->Option Addr)(P:Fl->St->Prop)(x:Nat)(op:Zeb)(u:V):V->Hp->Prop:=fun v σ=>Yfu (Ypc lv cv P x) σ op u v
inductive AugK (Δ:Dl)(lv:Nat->Option V)(cv:Nat->Option Addr)(P:Fl->St->Prop)(x:Nat)(op:Zeb)(f:FX)(σ:Hp):Prop | mk {u} (e:lv x=some u) (q:f Δ lv cv (kIop2 lv cv P x op u) σ)def Zm4 (x:Nat)(op:Zeb)(f:FX):FS:=fun Δ Q st=>st.rec fun σ lv cv=>AugK Δ lv cv Q x op f σ
theorem Zs6 {m:Str}{x:Nat}{q p:Pos}{op:Zeb}{e:Expr}{f:FX}(hn:nm x=m)(hk:sc.lookup x=some .local)(a:SX sc e f):SS sc (.AugAssign (.Name m q) op e p) (Zm4 x op f):=by
 subst hn;exact fun J J J J J X st s Q E ht R h=>h.rec fun hu h=>R.fr.elim fun J F=>(F.2 x _ hu).elim fun J hx=>wpAny_AugAssign_Name (Zaa X.hE.kind (by rw [X.hE.kindOf,hk]) F.1.ns hx.1
  (a.then X ht R h fun v y W0 j0 V1 J0 V0 J2 Q0=>(Yoo J0 (R.vr V0 hx.2) J2 Q0).to fun z J1 hw0=>hw0.elim fun r hw0=>hw0.elim fun J3 w=>(Zb5 X.hE w.R hk w.r).to fun J W2 p=>⟨.next,_,p.R,V0.trans (w.S.trans p.S),.next,w.q⟩))def sEx (f:FX):FS:=fun Δ Q st=>st.rec fun σ lv cv=>f Δ lv cv (kEx lv cv Q) σ
theorem Ur {e:Expr}{p}{f:FX}(a:SX sc e f)(hs:(fun J=>pure false)=swapsWith e none p.line):SS sc (.Expr e p) (sEx f):=fun J J J J J X st s Q E ht R h=>
 wpAny_Expr_any (a.then X ht R h fun v x W0 j0 V1 J0 V0 J2 Q0=>⟨.next,_,J0,V0,.next,Q0⟩) (by simp [Zma,X.hE.kind]) (congrFun hs _).symm
def Zao (f:FX):FS:=fun Δ Q st=>st.rec fun σ lv cv=>f Δ lv cv (kRet lv cv Q) σ
theorem Iu {e:Expr}{p}{f:FX}(a:SX sc e f):SS sc (.Return (some e) p) (Zao f):=fun J J J J J X st s Q E ht R h=>Zqz (a.then X ht R h fun v x W0 j0 V1 J0 V0 J2 Q0=>⟨.ret v,_,J0,V0,.ret J2,Q0⟩)def Zth:FS:=fun J Q st=>Q (.ret .none) st
theorem Zq5 {p}:SS sc (.Return none p) Zth:=fun J J J J J J st J J J J R h=>wpAny_Return_none ⟨.ret .none,st,R,.refl,.ret .none,h⟩def Zx:FS:=fun J Q st=>Q .next st
def Zo (f g:FS):FS:=fun Δ Q st=>f Δ (kSeq Δ Q g) st
theorem Zt:SSL sc [] Zx:=fun J J J J J J st J J J J R h=>Zvp ⟨.next,st,R,.refl,.next,h⟩
theorem Zj {t:Stmt}{l:List Stmt}{f g:FS}(a:SS sc t f)(b:SSL sc l g):SSL sc (t::l) (Zo f g):=fun J J J J J X st s Q E ht R h=>
 Zss (a.then X ht R h fun f fl O2 j0 V1 J0 V0 fr Q0=>match f,Q0,fr with
 | .next,Q0,fr=>fr.nE ((b X O2 j0 Q E V1 J0 Q0).to fun J J p=>p.from V0)
 | .brk,Q0,fr=>fr.bE ⟨.brk,O2,J0,V0,.brk,Q0⟩
 | .cont,Q0,fr=>fr.cE ⟨.cont,O2,J0,V0,.cont,Q0⟩
 | .ret v,Q0,fr=>fr.rE fun J r=>⟨.ret v,O2,J0,V0,.ret r,Q0⟩)def Yx (b:FB)(f g:FS):FS:=fun Δ Q st=>st.rec fun σ lv cv=>b Δ lv cv (Zrl (kSt Δ lv cv Q f) (kSt Δ lv cv Q g)) σ
theorem Xk {e:Expr}{l m:List Stmt}{p}{b:FB}{f g:FS}(hb:SB sc e b)(hf:SSL sc l f)(hg:SSL sc m g):SS sc (.If e l m p) (Yx b f g):=fun J J J J J X st s Q E ht R h=>
 wpAny_If (hb.then X ht R h fun r W0 j0 V1 J0 V0 Q0=>match r,Q0 with
 | true,Q0=>(hf X _ j0 Q E V1 J0 Q0).to fun J J p=>p.from V0
 | false,Q0=>(hg X _ j0 Q E V1 J0 Q0).to fun J J p=>p.from V0)def Yap:FS:=fun J Q st=>Q .brk st
def Yme:FS:=fun J Q st=>Q .cont st
theorem Ydl {p}:SS sc (.Break p) Yap:=fun J J J J J J st J J J J R h J J J=>⟨.brk,st,R,.refl,.brk,h⟩theorem Ynt {p}:SS sc (.Continue p) Yme:=fun J J J J J J st J J J J R h J J J=>⟨.cont,st,R,.refl,.cont,h⟩theorem ssPass {p}:SS sc (.Pass p) Zx:=fun J J J J J J st J J J J R h J J J=>⟨.next,st,R,.refl,.next,h⟩def sNo:FS:=fun J J J=>False
theorem ssNo {t:Stmt}:SS sc t sNo:=fun J J J J J J J J J J J J h=>h.elim
theorem Zra {l:List Stmt}:SSL sc l sNo:=fun J J J J J J J J J J J J h=>h.elim
def xNo:FX:=fun J J J J J=>False
theorem sNoX {e:Expr}:SX sc e xNo:=fun J J J J J J J J J J J J h=>h.elim
section
variable (Δ:Dl)(lv:Nat->Option V)(cv:Nat->Option Addr)(P:Fl->St->Prop)
abbrev kSI3 (v a:V):V->Hp->Prop:=fun i σ=>Yiz v (kHp lv cv P) σ a i
abbrev kSI2 (h:FX)(v:V):V->Hp->Prop:=fun a σ=>h Δ lv cv (kSI3 lv cv P v a) σ
abbrev kSI (g h:FX):V->Hp->Prop:=fun v σ=>g Δ lv cv (kSI2 Δ lv cv P h v) σ
end
def Zj7 (f g h:FX):FS:=fun Δ Q st=>st.rec fun σ lv cv=>f Δ lv cv (kSI Δ lv cv Q g h) σ
theorem Zq4 {o i e:Expr}{q p:Pos}{f g h:FX}(he:SX sc e f)(ho:SX sc o g)(hi:SX sc i h)(hs:∀ env,swapsWith e (some (.Subscript o i q)) p.line env=pure false):SS sc (.Assign [.Subscript o i q] e p) (Zj7 f g h):=fun J J J J J X st s Q E ht R h=>
 Yif (he.then X ht R h fun v x W0 j0 V1 J0 V0 J2 Q0=>ho.then X V1 J0 Q0 fun a y J3 J1 M3 V2 H3 Q3 G3=>hi.then X M3 V2 G3 fun k z O4 W2 j4 T3 W3 w5 V3=>
  have S:=H3.trans W3
  (Yi8 T3 (V2.vr W3 Q3) w5 (J0.vr S J2) V3).to fun _ O3 hw0=>hw0.elim fun J5 w=>⟨.next,_,w.R,V0.trans (S.trans w.S),.next,w.q⟩) (hs _)
theorem Yl9 {l:List Stmt}{h₀:ExceptHandler}{hs:List ExceptHandler}{p}{f:FS}(a:SSL sc l f):SS sc (.Try l (h₀::hs) [] [] p) f:=fun J J J J J X st s Q E ht R h=>
 wpAny_Try_except (Zy (a X st s Q (fun J J=>False) ht R h) (fun fl j0 p=>by cases fl <;> first | exact p | exact Zvp p) fun J J e=>e.elim)
inductive Zr4 (sc:Sc):List Nat->List Expr->Prop
 | nil:Zr4 sc [] []
 | cons {x m q xs es}:nm x=m->sc.lookup x=some .local->Zr4 sc xs es->Zr4 sc (x::xs) (.Name m q::es)
noncomputable def updL:(Nat->Option V)->List Nat->List V->Nat->Option V
 | lv,x::xs,v::vs=>updL (upd lv x v) xs vs
 | lv,_,_=>lv
theorem Yc9 {xs es}(t:Zr4 sc xs es)(env:Env):(assignEach es env).length=xs.length/\(assignEach es env).findIdx? (·.1)=none:=
 t.rec ⟨rfl,rfl⟩ fun {x m q xs es} _ _ _ ih=>⟨congrArg Zbc ih.1,by
  have:assignEach (.Name m q::es) env=(false,Zin (.Name m q) env)::assignEach es env:=rfl
  rw [this,Yh5,ih.2];rfl⟩
theorem Zwf (hE:EOK env sc){xs es}(t:Zr4 sc xs es){vs:List V}{l:List Value}{st:St}{s:Zd}(R:RS G env st s)(r:VRs s.heap vs l)(hl:vs.length=xs.length) :
  W G A (Zoj ((assignEach es env).map (·.2)) l) (fun J s'=>PN G env st ⟨st.σ,updL st.lv xs vs,st.cv⟩ s s') E s:=by
 induction t generalizing vs l st s with
 | nil=>
  obtain rfl:=Xj.mp hl
  exact r.nE (Ycr ⟨R,.refl,Zm _⟩)
 | cons h1 h2 t ih=>
  cases vs with
  | nil=>exact nomatch hl
  | cons v vs=>
   subst h1
   exact r.cE fun J J r1 r2=>Ycs (Ky ((Zb5 (E:=E) hE R h2 r1).to fun J j0 p=>
    (ih p.R (r2.mono (R.imk p.S)) (Zaj hl)).to fun J J1 q=>⟨q.R,p.S.trans q.S,Zb p.t q.t⟩))
theorem Zid (hE:EOK env sc)(hh:A.handled=none){xs:List Nat}{es:List Expr}{k p}(t:Zr4 sc xs es){vs:List V}{x:Value}(R:RS G env st s)(r:VR s.heap (.tup vs) x)(hl:vs.length=xs.length) :
  W G A (Zin (.Tuple es k p) env x) (fun J s'=>PN G env st ⟨st.σ,updL st.lv xs vs,st.cv⟩ s s') E s:=
 have a1:=Yc9 t env
 r.tE fun a l n e r=>wpAny_assign_Tuple (items:=l.toArray) hh ⟨_,e,rfl,n,rfl⟩ (by rw [a1.1,<-hl];exact r.size) a1.2 fun h' ex=>
  have kk:∀ b o,s.heap.get? b=some o->h'.get? b=some o:=fun b o e=>ex b o (Z3 (ZL e)) e
  have k:=R.ext (h':=h') (t:=s.toks) (d:=s.drawn) kk
  (Zwf (E:=E) hE t k.1 (r.mono fun b o e J=>kk b o e) hl).to fun J J1 q=>⟨q.R,k.2.trans q.S,q.t⟩
inductive Ylp (lv:Nat->Option V)(cv:Nat->Option Addr)(P:Fl->St->Prop)(xs:List Nat):V->Hp->Prop | mk {vs σ} (l:vs.length=xs.length) (q:P .next ⟨σ,updL lv xs vs,cv⟩):Ylp lv cv P xs (.tup vs) σ
def Ztj (xs:List Nat)(f:FX):FS:=fun Δ Q st=>st.rec fun σ lv cv=>f Δ lv cv (Ylp lv cv Q xs) σ
theorem Ylp.e {lv cv P xs v σ}(k:Ylp lv cv P xs v σ):∃ vs,v= .tup vs/\vs.length=xs.length/\P .next ⟨σ,updL lv xs vs,cv⟩:=k.rec fun l q=>⟨_,rfl,l,q⟩
theorem Zvz {xs:List Nat}{es:List Expr}{k q p}{e:Expr}{f:FX}(t:Zr4 sc xs es)(a:SX sc e f)(h1:∀ env,swapsWithSole [.Tuple es k q] e p.line env=pure false)(h2:∀ env,swappedStores [.Tuple es k q] e env=pure none) :
  SS sc (.Assign [.Tuple es k q] e p) (Ztj xs f):=by
 intro G Δ n env A X st s Q E ht R h
 rw [arm_exec_Assign,h1,h2]
 refine (wbS ((wbP ?_)))
 refine Zc (m:=eval e env) (a.then X ht R h fun v x W0 j0 V1 J0 V0 J2 h=>(wbP ?_))
 obtain ⟨vs,rfl,hl,Q0⟩:=h.e
 have e0:assignStores env x none ((assignEach [.Tuple es k q] env).map (·.2))=(Zin (.Tuple es k q) env x >>= fun J=>pure Flow.next):=rfl
 exact e0▸Zc ((Zid (E:=E) X.hE X.hA.handled t J0 J2 hl).to fun J J1 p=>Ze ⟨.next,_,p.R,V0.trans p.S,.next,Q0⟩)
end
section
open PySem PySem.Spec PySem.Calls PyProof.Rows PySem.W Builtin Builtin.ObjectAttr Builtin.Getset_descriptor
section
variable {K:Type}[DecidableEq K]{β:Type}
theorem Zb9 (i j:K)(v:β)(r:List (K×β)):((j,v)::r).lookup i=if i=j then some v else r.lookup i:=by
 rw [Xw]
 by_cases h:i=j
 ·rw [beq_iff_eq.mpr h,if_pos h]
 ·rw [beq_eq_false_iff_ne.mpr h,if_neg h]
theorem Yfb (kvs:List (K×β))(k:K):(kvs.any fun p=>decide (p.1=k))=(kvs.lookup k).isSome:=by
 induction kvs with
 | nil=>rfl
 | cons p r ih=>
  rw [Zvl,ih,Zb9]
  by_cases h:p.1=k
  ·rw [if_pos h.symm,decide_eq_true h];rfl
  ·rw [if_neg fun e=>h e.symm,decide_eq_false h];rfl
theorem Ye9 (kvs:List (K×β))(k i:K)(v:β):(kvs.map (fun p=>if p.1=k then (p.1,v) else p)).lookup i=if i=k then (kvs.lookup k).map fun J=>v else kvs.lookup i:=by
 induction kvs with
 | nil=>split <;> rfl
 | cons p r ih=>
  obtain ⟨j,u⟩:=p
  rw [Uk,Zb9 k j,Zb9 i j]
  by_cases hj:j=k
  ·subst hj
   rw [if_pos rfl,Zb9,ih,if_pos rfl]
   by_cases hi:i=j
   ·rw [if_pos hi,if_pos hi];rfl
   ·rw [if_neg hi,if_neg hi,if_neg hi,if_neg hi]
  ·rw [if_neg hj,Zb9,ih,if_neg (c:=k=j) fun e=>hj e.symm]
   by_cases hi:i=j
   ·rw [if_pos hi,if_pos hi,if_neg (hi▸hj)]
   ·rw [if_neg hi,if_neg hi]
end
theorem Zly {K:Type}[DecidableEq K](kvs:List (K×V))(k i:K)(v:V):(Zff kvs k v).lookup i=if i=k then some v else kvs.lookup i:=by
 unfold Zff
 rw [Yfb]
 by_cases hi:i=k
 ·subst hi
  refine (if_pos rfl)▸?_
  cases q:kvs.lookup i with
  | none=>rw [if_neg (by decide),Zc0,q,Zb9,if_pos rfl];rfl
  | some x=>rw [if_pos (show (some x).isSome=true from rfl),Ye9,if_pos rfl,q];rfl
 ·rw [if_neg hi]
  by_cases h:(kvs.lookup k).isSome=true
  ·rw [if_pos h,Ye9,if_neg hi]
  ·rw [if_neg h,Zc0,Zb9,if_neg hi,List.lookup_nil,Option.or_none]
theorem Ybk {e:Value}{x y:Str}(h1:e.isStr x=true)(h2:e.isStr y=true):x=y:=by
 cases e with
 | str z=>exact (eq_of_beq h1).symm.trans (eq_of_beq h2)
 | _=>exact Yw h1
section
variable (name:Str)(hsh:Int)(t:Tok)(v:Value)
theorem Ypj {n:Str}{e:XD}{r:List XD}(h:e.key.isStr n=true):(e::r).find? (·.key.isStr n)=some e:=by rw [Zeu,h]theorem Zwy {n:Str}{e:XD}{r:List XD}(h : ¬ e.key.isStr n=true):(e::r).find? (·.key.isStr n)=r.find? (·.key.isStr n):=by rw [Zeu,Ylo.mpr h]theorem Zj9 {e:XD}(r:List XD)(h:e.key.isStr name=true):putL name hsh (.str name t) v (e::r)=⟨e.hash,e.key,v⟩::r:=if_pos h
theorem Zmk {e:XD}(r:List XD)(h : ¬ e.key.isStr name=true):putL name hsh (.str name t) v (e::r)=e::putL name hsh (.str name t) v r:=if_neg h
theorem Ztp (es:List XD):(putL name hsh (.str name t) v es).length=if es.any (·.key.isStr name)=true then es.length else es.length + 1:=by
 induction es with
 | nil=>rfl
 | cons e r ih=>
  by_cases h:e.key.isStr name=true
  ·rw [Zj9 _ _ _ _ _ h,Zvl,h];rfl
  ·rw [Zmk _ _ _ _ _ h,Zvl,Ylo.mpr h,Bool.false_or,XR,ih];split <;> rfl
theorem Yi4 {es:List XD}(q:es.any (·.refKey)=false):(putL name hsh (.str name t) v es).any (·.refKey)=false:=by
 induction es with
 | nil=>rfl
 | cons e r ih=>
  by_cases h:e.key.isStr name=true
  ·rw [Zj9 _ _ _ _ _ h];exact q
  ·have q:=Ycp.mp q
   rw [Zmk _ _ _ _ _ h];exact Ycp.mpr ⟨q.1,ih q.2⟩
theorem Yav (es:List XD):∃ e,(putL name hsh (.str name t) v es).find? (·.key.isStr name)=some e/\e.val=v:=by
 induction es with
 | nil=>exact ⟨_,List.find?_cons_of_pos (beq_self_eq_true name),rfl⟩
 | cons e r ih=>
  by_cases h:e.key.isStr name=true
  ·rw [Zj9 _ _ _ _ _ h];exact ⟨_,Ypj h,rfl⟩
  ·rw [Zmk _ _ _ _ _ h,Zwy h];exact ih
theorem Yi5 {n':Str}(hn:name≠n')(es:List XD):(putL name hsh (.str name t) v es).find? (·.key.isStr n')=es.find? (·.key.isStr n'):=by
 induction es with
 | nil=>exact List.find?_cons_of_neg fun q=>hn (eq_of_beq q)
 | cons e r ih=>
  by_cases h:e.key.isStr name=true
  ·have h' : ¬ e.key.isStr n'=true:=fun q=>hn (Ybk h q)
   rw [Zj9 _ _ _ _ _ h,Zwy (e:=⟨e.hash,e.key,v⟩) h',Zwy h']
  ·rw [Zmk _ _ _ _ _ h,Zeu,Zeu,ih]
end
theorem EntR.some_iff {h:Heap}{a b}(r:EntR h a b):b.isSome=a.isSome:=r.rec rfl fun J=>rfl
theorem Ztq {K:Type}[DecidableEq K](fs:List (K×V))(k:K)(v:V):(Zff fs k v).length=if (fs.lookup k).isSome=true then fs.length else fs.length + 1:=by
 unfold Zff;rw [Yfb];split
 ·exact Zh _
 ·exact Zf
theorem AtE.put {h:Heap}{fs:List (Nat×V)}{es:List XD}(x:AtE h fs es){m:Nat}{v:V}{y:Value}{hsh:Int}{t:Tok}(r:VR h v y):AtE h (Zff fs m v) (putL (nm m) hsh (.str (nm m) t) y es):=by
 refine ⟨?_,Yi4 _ _ _ _ x.nk,fun i=>?_⟩
 ·rw [Ztp,Ztq,<-List.isSome_find?,(x.ent m).some_iff]
  split
  ·exact x.len
  ·exact Zu x.len
 ·rw [Zly]
  by_cases hi:i=m
  ·refine (Yav (nm m) hsh t y es).elim fun e hr50=>hr50.elim fun h1 h2=>?_
   rw [if_pos hi,hi,h1];exact .some (h2▸r)
  ·rw [if_neg hi,Yi5 _ _ _ _ fun q=>hi (Zjf q).symm];exact x.ent i
theorem AtE.mono {h h':Heap}{fs:List (Nat×V)}{es:List XD}(x:AtE h fs es)(k:Imk h h'):AtE h' fs es:=⟨x.len,x.nk,fun i=>(x.ent i).rec .none fun r=>.some (r.mono k)⟩
end
section
open PySem PySem.Spec PySem.Calls PyProof.Rows PySem.W Builtin Builtin.ObjectAttr Builtin.Getset_descriptor
variable {n:Nat}
theorem Yom (C:GOK G)(R:RS G env st s){a c d:Addr}{fs:List (Nat×V)}{m:Nat}{v:V}{z:Value}{tk:Tok}{Q:Hp->Prop}(ha:IK st.σ a=some (c,d))(hd:fieldsOf st.σ d=some fs)(ho:ownM c m=true)(hl:fs.length<=900)
  (rv:VR s.heap v z) (q:Q (upd st.σ d (.at (Zff fs m v)))) {Rr:Zbm->Zd->Prop} (hR:∀ s',PU G env st s Q s'->Rr (.ok (.ret .none)) s') :
  codeAny (model G.prog G.w) A (.call (.builtin "object.__setattr__") ⟨[.ref a,.str (nm m) tk,z],[]⟩) Rr s:=by
 obtain ⟨ox,es,k,I,hdx,hed,AE⟩:=R.inst ha hd
 obtain ⟨oc,odi,oda,osl⟩:=ox
 obtain ⟨o',eσ,ef⟩:=Zcw.mp hd
 have O:=C.own _ _ ho
 have X:=kin C R
 obtain rfl:=Yf7 ef
 let cd:=O.mro.choose
 have hq0:=O.mro.choose_spec
 have hc:=hq0.1
 have SF:=PySem.F.store_object
 refine Zfj SF.slot.plain SF.entry (@Ybu (model G.prog G.w) _ _ _ "object.__setattr__" "object" "__setattr__" (.ref a) _ [] _ SF.kind SF.split (I.type.andThen (Zds X (by unfold mroIn;rw [hc,UV,if_neg (by rw [(hq0.2.2.1)];decide),(hq0.2.2.2.1)]))) (SF.args _ _ _) ?_)
 rw [osa_eq,refuse_eq]
 refine Zc (Zc (I.type.here (Zc (((Zvf X hc).andThen .now:Looks (model G.prog G.w) s.heap (mroOf (.ref c)) cd.mro).here ?_))))
 rw [(hq0.2.2.2.2)]
 have hcl:=I.cls
 refine Ze (Zc (I.type.here (Zc ((YQ X O.find).here (Zc ((.now:Looks (model G.prog G.w) s.heap (storeTaker? none) none).here ?_))))))
 have fin:∀ h',h'.get? d=some (dictOf (putL (nm m) (Zc4 G.w.params (nm m)) (.str (nm m) s.toks) z es) (putN (nm m) es k))->ZM d s.heap h'->
   PU G env st s Q { s with heap:=h',toks:=s.toks + 1 }:=fun h' e sb=>by
  exact PU.put (t:=s.toks + 1) (d:=s.drawn) R (iS eσ) sb.extBut (Den.at ⟨_,_,e,(AE.put (m:=m) (hsh:=Zc4 G.w.params (nm m)) (t:=s.toks) rv).mono (Za1 (R.den _ _ eσ).1 sb.extBut)⟩) q
 have e1:=putName_dict (nm m) (Zc4 G.w.params (nm m)) (.str (nm m) s.toks) z es k
 subst hcl hdx
 have hput:(putL (nm m) (Zc4 G.w.params (nm m)) (.str (nm m) s.toks) z es).length<=901:=by
  rw [Ztp];have:=Zb AE.len hl;split
  ·exact Xm this
  ·exact Zu this
 have e2:=Ye (Obj.putName (nm m) (Zc4 G.w.params (nm m)) (.str (nm m) s.toks) z) hed (by rw [e1];rfl)
 rw [e1] at e2
 have sb:ZM d s.heap (s.heap.update d (Obj.putName (nm m) (Zc4 G.w.params (nm m)) (.str (nm m) s.toks) z)):=ZV ..
 refine (wbP (Zc (Zc (Zcp (I.at_) (Zc ((Zvf X hc).here ?_))))))
 rw [(hq0.2.1)]
 refine Ze (a:=some d) ((wbP (Zc ?_)))
 refine Zc ((wbA (Ze (Zc (Yie (Zc (Zcp hed ?_)))))))
 dsimp only
 have hcnd:(!es.toArray.any (·.key.isStr (nm m))&&es.toArray.any (·.refKey))=false:=by
  rw [<-Yls,<-Yls,AE.nk,Zdh]
 rw [aRefKeyMayBeTheName_at,hcnd]
 refine wpAny_updatePart hed ?_
 refine Zc (wpAny_lookBehind e2 (pastItsLine_dict (Zb hput (by rw [Zdr];decide))) ?_)
 exact Ze (hR _ (fin _ e2 sb))
theorem Zwe (C:GOK G)(R:RS G env st s){a c d:Addr}{fs:List (Nat×V)}{m:Nat}{v:V}{z:Value}{Q:Hp->Prop}(ha:IK st.σ a=some (c,d))(hd:fieldsOf st.σ d=some fs)(ho:ownM c m=true)(hl:fs.length<=900)
  (rv:VR s.heap v z) (q:Q (upd st.σ d (.at (Zff fs m v)))):W G A (setAttr (.ref a) (nm m) z) (fun J s'=>PU G env st s Q s') E s:=by
 have hz0:=R.ext (h':=s.heap) (t:=s.toks + 1) (d:=s.drawn) fun J J e=>e
 have R1:=hz0.1
 have S1:=hz0.2
 have hz0:=R.inst ha hd
 have hq0:=hz0.choose_spec
 have hq1:=hq0.choose_spec
 refine set_plain (kin C R) ((hq1.choose_spec).1) (C.own _ _ ho).setter ?_
 exact Yom (s:={ s with toks:=s.toks + 1 }) C R1 ha hd ho hl rv q fun s' p=>PU.from S1 p
section
variable (Δ:Dl)(lv:Nat->Option V)(cv:Nat->Option Addr)(P:Fl->St->Prop)(m:Nat)
inductive Zxh (v:V):V->Hp->Prop | mk {a c d fs σ} (i:IK σ a=some (c,d)) (f:fieldsOf σ d=some fs) (o:ownM c m=true) (l:fs.length<=900) (q:P .next ⟨upd σ d (.at (Zff fs m v)),lv,cv⟩):Zxh v (.ref a) σ
abbrev kSetA (o:FX):V->Hp->Prop:=fun v σ=>o Δ lv cv (Zxh lv cv P m v) σ
end
theorem Zxh.e {lv cv P m v x σ}(k:Zxh lv cv P m v x σ):∃ a c d fs,x= .ref a/\IK σ a=some (c,d)/\fieldsOf σ d=some fs/\ownM c m=true/\fs.length<=900/\P .next ⟨upd σ d (.at (Zff fs m v)),lv,cv⟩:=k.rec fun i f o l q=>⟨_,_,_,_,rfl,i,f,o,l,q⟩def Kh (o:FX)(m:Nat)(f:FX):FS:=fun Δ Q st=>st.rec fun σ lv cv=>f Δ lv cv (kSetA Δ lv cv Q m o) σ
theorem X8 {o e:Expr}{name:Str}{m:Nat}{q p:Pos}{f g:FX}(hn:nm m=name)(he:SX sc e f)(ho:SX sc o g)(hs:(fun J=>pure false)=swapsWith e (some (.Attribute o name q)) p.line):SS sc (.Assign [.Attribute o name q] e p) (Kh g m f):=by
 intro G Δ n env A X st s Q E ht R h
 subst hn
 refine plainObj_wpAny_Assign_Attribute (he.then X ht R h fun v x W0 j0 V1 J0 V0 J2 Q0=>ho.then X V1 J0 Q0 fun ov y J3 J1 M3 V2 H3 Q3 h=>?_) (congrFun hs env).symm
 obtain ⟨a,c,d,fs,rfl,e2,e3,e4,e5,q⟩:=h.e
 exact Q3.rE ((Zwe (A:=A) (E:=E) X.C V2 e2 e3 e4 e5 (J0.vr H3 J2) (Q:=kHp st.lv st.cv Q) q).to fun _ W2 hw0=>hw0.elim fun O4 w=>⟨.next,_,w.R,V0.trans (H3.trans w.S),.next,w.q⟩)
end
section
variable {st'':St}{n:Nat}
structure Zjw (G:GC)(env:Env)(A:Yg)(it:Addr)(P:List Addr)(GP:List Nat)(g:St->Prop)(It:List V->Zd->Prop):Prop where
 obj:∀ l s,It l s->∀ a∈P,∃ o,s.heap.get? a=some o/\¬ imm o
 at':∀ l s s',It l s->(∀ a∈P,s'.heap.get? a=s.heap.get? a)->(∀ k∈GP,s'.gens[k]? = s.gens[k]?)->(∀ k∈GP,(s.gens[k]?).isSome)->Imk s.heap s'.heap->It l s'
 gobj:∀ l s,It l s->∀ k∈GP,(s.gens[k]?).isSome
 own:∀ l s,It l s->Zkv s it
 self:∀ l s (Q:Value->Zd->Prop) (E:Value->Zd->Prop),It l s->Q (.ref it) s->W G A (Yau (.ref it)) Q E s
 item:∀ v l s st (Q:Option Value->Zd->Prop) (E:Value->Zd->Prop),It (v::l) s->0 < s.toks->RS G env st s->g st->(∀ a∈P,Off G env st a)->
  (∀ x s',Chg P GP s s'->VR s'.heap v x->It l s'->Q (some x) s')->W G A (Za3 (.ref it)) Q E s
 fin:∀ s st (Q:Option Value->Zd->Prop) (E:Value->Zd->Prop),It [] s->0 < s.toks->RS G env st s->g st->(∀ a∈P,Off G env st a)->
  (∀ s',Chg P GP s s'->Q none s')->W G A (Za3 (.ref it)) Q E s
theorem Yn7 {x c:Int}(hc:0 < c)(h0:0<=x)(h:x<=2 * 10 ^ 9):0<=x / c + 1/\x / c + 1<=3 * 10 ^ 9:=
 ⟨Int.add_nonneg (Int.ediv_nonneg h0 (Zis hc)) (by decide),I4 (Zkz (I4 (Int.ediv_le_self _ h0) h) 1) (by decide)⟩
theorem Yd0 {a b c:Int}(ha:small a)(hb:small b)(_:small c)(h0:c≠0):0<=Xa a b c/\Xa a b c<=3 * 10 ^ 9:=by
 have key:∀ {a b c:Int},small a->small b->0 < c->a < b->0<=(b - a - 1) / c + 1/\(b - a - 1) / c + 1<=3 * 10 ^ 9:=fun ha hb hc q=>Yn7 hc (by omega) (by unfold small at ha hb;omega)
 unfold Xa
 by_cases hc:c > 0
 ·rw [if_pos hc];split
  ·exact key ha hb hc ‹_›
  ·exact ⟨Zky _,by decide⟩
 ·rw [if_neg hc];split
  ·exact key hb ha (Int.neg_pos_of_neg (Int.lt_iff_le_and_ne.mpr ⟨U4.mp hc,h0⟩)) ‹_›
  ·exact ⟨Zky _,by decide⟩noncomputable def rangeL (a b c:Int):List V:=(Ub (Xa a b c).toNat).map fun (k:Nat)=>V.int (a + c * k)def RngW (it:Addr)(l:List V)(s:Zd)(x c:Int):Prop:=(l=(Ub l.length).map (fun (k:Nat)=>V.int (x + c * k)))/\IsRangeIter s.heap it x l.length c
def RngW.e (z:@RngW it l s x c):=z.1
def RngW.i (z:@RngW it l s x c):=z.2
def RngIt (it:Addr)(l:List V)(s:Zd):Prop:=∃ (x c:Int),RngW it l s x c
theorem Ydz {x c:Int}{n:Nat}:(Ub (n + 1)).map (fun (k:Nat)=>V.int (x + c * k))=V.int x::(Ub n).map (fun (k:Nat)=>V.int (x + c + c * k)):=by
 rw [Zzu,Uk,U7]
 exact congr (congrArg _ (congrArg V.int ((congrArg (x + ·) (Int.mul_zero c)).trans (Zn9 x)))) (Zcm fun k J=>congrArg V.int (by rw [show ((k.succ:Nat):Int)=(k:Int) + 1 from rfl,Int.mul_add,Int.mul_one,Zoa _ c,Int.add_assoc]))theorem YX {a b:Addr}(h:a∈[b]):a=b:=Xb.mp h
theorem Chg.one {it:Addr}{h':Heap}{t:Nat}{d:Drawn}(k:∀ b o,b≠it->s.heap.get? b=some o->h'.get? b=some o)(ht:s.toks<=t):Chg [it] [] s ⟨h',s.gens,d,t,s.os⟩:=
 ⟨fun b o hb e=>k b o (fun q=>hb (q▸.head _)) e,fun J J J e=>e,id,rfl,fun h=>Ym h ht⟩theorem Chg.sb {it:Addr}{h':Heap}{t:Nat}{d:Drawn}(sb:ZM it s.heap h')(ht:s.toks<=t):Chg [it] [] s ⟨h',s.gens,d,t,s.os⟩:=.one (fun b J q e=>(sb.2 b q).trans e) ht
theorem Chg.eb {it:Addr}{h':Heap}(sb:XN it s.heap h'):Chg [it] [] s { s with heap:=h' }:=.one (fun b o q e=>sb b o q e) (Zm _)theorem Za0 {o:Obj}{vs t}(d:o.data= .fields vs)(c:o.cls= .type t)(h:t≠"range"/\t≠"code") : ¬ imm o:=by unfold imm;rw [d,c];exact fun q=>q.elim (fun q=>h.1 (Zhi q)) fun q=>h.2 (Zhi q)
theorem Yd1 (hh:A.handled=none){it:Addr}{g:St->Prop}:Zjw G env A it [it] [] g (RngIt it) where
 obj:=fun J J h a ha=>h.elim fun J h=>h.elim fun J h=>⟨_,YX ha▸h.i,Za0 rfl rfl (by decide)⟩
 at':=fun J J J h he J J J=>h.imp fun J h=>h.imp fun J h=>⟨h.e,(he it (.head _)).trans h.i⟩
 gobj:=fun J J J J h=>nomatch h
 own:=fun J J h=>h.elim fun J h=>h.elim fun J h=>⟨_,_,_,h.i,rfl,rfl,by decide⟩
 self:=fun J J J J h q=>h.elim fun J h=>h.elim fun J h=>wpAny_pyIter_rangeiter h.i q
 item:=fun v l s st Q E h ht R hg O k=>by
  obtain ⟨x,c,e,h⟩:=h
  rw [XR,Ydz] at e
  refine (Xg e).elim fun hw50 e2=>?_
  obtain rfl:=hw50
  exact wpAny_pyNext_range_item h (Zse.mpr (Z8 _)) fun h' hi sb=>k _ _ (.sb sb (ZW _)) (.int _ _) ⟨x + c,c,e2,XQ (l.length:Int) 1▸hi⟩
 fin:=fun s st Q E h ht R hg O k=>h.elim fun J h=>h.elim fun J h=>wpAny_pyNext_range_end hh h.i (Zky _) fun h' ex=>k _ (.eb ex)def LstW (it a:Addr)(xs:List V)(l:List V)(s:Zd)(i:Nat):Prop:=(l=xs.drop i)/\(i<=xs.length)/\s.heap.IsListIter it a i
def LstW.e {i}(z:@LstW it a xs l s i):=z.1
def LstW.h {i}(z:@LstW it a xs l s i):=z.2.1
def LstW.i {i}(z:@LstW it a xs l s i):=z.2.2
def LstIt (it a:Addr)(xs:List V)(l:List V)(s:Zd):Prop:=∃ i,LstW it a xs l s i
theorem Zlx {h:Heap}{it a:Addr}{i:Nat}(x:h.IsListIter it a i):∃ o,h.get? it=some o/\¬ imm o:=x.imp fun J x=>⟨x.1,Za0 x.2.2 x.2.1 (by decide)⟩
theorem Zrv {α:Type}{xs l:List α}{v:α}{i:Nat}(e:v::l=xs.drop i):xs[i]? = some v/\l=xs.drop (i + 1)/\i + 1<=xs.length:=by
 have hv:xs[i]? = some v:=by have:=List.getElem?_drop (xs:=xs) (i:=i) (j:=0);rw [<-e] at this;exact this.symm
 exact ⟨hv,by rw [<-List.tail_drop,<-e];rfl,(Yt.mp hv).1⟩theorem Zns {α:Type}{xs:List α}{i:Nat}(e:[]=xs.drop i):xs.length<=i:=List.drop_eq_nil_iff.mp e.symm
theorem Ye4 (hh:A.handled=none){it a:Addr}{xs:List V}:Zjw G env A it [it] [] (fun st=>st.σ a=some (.list xs)) (LstIt it a xs) where
 obj:=fun J J h b hb=>h.elim fun J h=>YX hb▸Zlx h.i
 at':=fun J J J h he J J J=>h.imp fun J h=>⟨h.e,h.h,h.i.imp fun J z=>⟨(he it (.head _)).trans z.1,z.2⟩⟩
 gobj:=fun J J J J h=>nomatch h
 own:=fun J J h=>h.elim fun J h=>h.i.elim fun J z=>⟨_,_,_,z.1,z.2.1,z.2.2,by decide⟩
 self:=fun J J J J h q=>h.elim fun J h=>Yly h.i q
 item:=fun v l s st Q E hw0 ht R hg O k=>hw0.elim fun i w=>(R.den _ _ hg).1.rec fun p r=>
  have d:=Zrv w.e
  (r.get d.1).elim fun x hx=>wpAny_pyNext_list_item w.i p.isList ((Z0 ..).trans hx.1) fun h' hit sb=>
   k _ _ (.sb sb (Zm _)) (hx.2.mono fun b o e' hi'=>(sb.2 b fun q=>(Zlx w.i).elim fun J z=>z.2 (si (q▸e') z.1▸hi')).trans e') ⟨i + 1,d.2.1,d.2.2,hit⟩
 fin:=fun s st Q E hw2 ht R hg O k=>hw2.elim fun i w=>(R.den _ _ hg).1.rec fun p r=>wpAny_pyNext_list_end hh w.i p.isList ((Z0 ..).trans (Zbf (r.length▸Zns w.e))) fun h' ex=>k _ (.eb ex)def StrW (it:Addr)(x:Tx)(l:List V)(s:Zd)(i:Nat)(t:Tok):Prop:=(l=(x.drop i).map (fun c=>V.str [c]))/\(i<=x.length)/\s.heap.IsStrIter it "str_ascii_iterator" (sT x) t i
def StrW.e {i}(z:@StrW it x l s i t):=z.1
def StrW.h {i}(z:@StrW it x l s i t):=z.2.1
def StrW.i {i}(z:@StrW it x l s i t):=z.2.2
def StrIt (it:Addr)(x:Tx)(l:List V)(s:Zd):Prop:=∃ i t,StrW it x l s i t
theorem Ydg (hh:A.handled=none){it:Addr}{x:Tx}{g:St->Prop}:Zjw G env A it [it] [] g (StrIt it x) where
 obj:=fun J J h b hb=>h.elim fun J h=>h.elim fun J h=>h.i.elim fun J z=>⟨_,YX hb▸z.1,Za0 z.2.2 z.2.1 (by decide)⟩
 at':=fun J J J h he J J J=>h.imp fun J h=>h.imp fun J h=>⟨h.e,h.h,h.i.imp fun J z=>⟨(he it (.head _)).trans z.1,z.2⟩⟩
 gobj:=fun J J J J h=>nomatch h
 own:=fun J J h=>h.elim fun J h=>h.elim fun J h=>h.i.elim fun J z=>⟨_,_,_,z.1,z.2.1,z.2.2,by decide⟩
 self:=fun J J J J h q=>h.elim fun J h=>h.elim fun J h=>wpAny_pyIter_striter_ascii h.i q
 item:=fun v l s st Q E hw0 ht R hg O k=>hw0.elim fun i hw0=>hw0.elim fun t w=>by
  obtain ⟨c,r,e,rfl,e2⟩:=Zee.mp w.e.symm
  have d:=Zrv e.symm
  exact wpAny_pyNext_ascii_item w.i (c:=c) ((Z0 ..).trans d.1) fun h' hit sb=>k _ _ (.sb sb (ZW _)) (.str [c] _) ⟨i + 1,t,e2.symm.trans (congrArg _ d.2.1),d.2.2,hit⟩
 fin:=fun s st Q E hw4 ht R hg O k=>hw4.elim fun i hw4=>hw4.elim fun t w=>wpAny_pyNext_ascii_end hh w.i ((Z0 ..).trans (Zbf (Zns (Ks.mp w.e.symm).symm))) fun h' ex=>k _ (.eb ex)
end
section
variable {st'':St}{n:Nat}
inductive Znl (σ:Hp):V->List V->(St->Prop)->Prop
 | rng {a b c}:small a->small b->c=1\/c= -1->Znl σ (.rng a b c) (rangeL a b c) (fun J=>True)
 | str {x}:Zen x=true->Znl σ (.str x) (x.map fun c=>V.str [c]) (fun J=>True)
 | list {a l}:σ a=some (.list l)->Znl σ (.ref a) l (fun st=>st.σ a=some (.list l))
structure ItersW (G:GC)(g:St->Prop)(st:St)(env:Env)(s:Zd)(l:List V)(it:Value)(s':Zd)(a:Addr)(P:List Addr)(It:List V->Zd->Prop):Prop where
 e:it= .ref a
 I:∀ (env':Env) (A':Yg),A'.handled=none->Zjw G env' A' a P [] g It
 i:It l s'
 R:RS G env st s'
 S:Stp G env st st s s'
 n:∀ b∈P,s.heap.get? b=none
 s:∀ b∈P,(s'.heap.get? b).isSome
def Zqp (G:GC)(g:St->Prop)(st:St)(env:Env)(s:Zd)(l:List V)(it:Value)(s':Zd):Prop:=∃ a P It,ItersW G g st env s l it s' a P It
theorem Zqp.new (R:RS G env st s){g:St->Prop}{l:List V}{o:Obj}{It:List V->Zd->Prop}(I:∀ (env':Env) (A':Yg),A'.handled=none->Zjw G env' A' s.heap.objs.size [s.heap.objs.size] [] g It)(i:It l { s with heap:=s.heap.push o })(e:(s.heap.push o).get? s.heap.objs.size=some o) :
  Zqp G g st env s l (.ref s.heap.objs.size) { s with heap:=s.heap.push o }:=
 have k:=R.ext (h':=s.heap.push o) (t:=s.toks) (d:=s.drawn) fun y z e=>Zg _ e
 ⟨_,[s.heap.objs.size],_,rfl,I,i,k.1,k.2,fun J hb=>YX hb▸Yy _,fun J hb=>YX hb▸iS e⟩
theorem Yn5 {lo up:Int}(h1:small lo)(h2:small up):Zqt lo up (-1)=true:=by
 unfold Zqt
 have e:Xa lo up (-1)=if lo > up then lo - up else 0:=by
  unfold Xa
  rw [if_neg (by decide),show -(-1:Int)=1 from rfl,Ycg]
  split
  ·exact Ylf _ _
  ·rfl
 simp only [Builtin.Range.rangeFitsLong,Xx,Yqp,decide_eq_true_eq,beq_iff_eq]
 by_cases hlt:lo > up
 ·simp only [hlt,if_true,show ¬ ((-1:Int) > 0) by decide,if_false,Xx,decide_eq_true_eq];omega
 ·simp only [hlt,show ¬ ((-1:Int) > 0) by decide,if_false,Xx,decide_eq_true_eq];omega
theorem Zmm (R:RS G env st s){v:V}{x:Value}{l:List V}{g:St->Prop}(r:VR s.heap v x)(h:Znl st.σ v l g):W G A (Yau x) (Zqp G g st env s l) E s:=by
 revert r
 refine h.rec (fun {lo up sp} h1 h2 h3 r=>r.rgE fun r t u v hr=>wpAny_pyIter_range hr ?_ ?_) (fun {x} h0 r=>r.sE fun t=>wpAny_pyIter_ascii (by unfold Zen at h0;simpa [sT] using h0) ?_) (fun {a l} ea r=>r.rE<|(R.den _ _ ea).1.rec fun p J=>wpAny_pyIter_list p.isList ?_)
 ·rcases h3 with rfl | rfl
  ·unfold small at h1 h2;exact small_one (by omega) (by omega) (by omega) (by omega)
  ·exact Yn5 h1 h2
 ·have hsz:=Yd0 h1 h2 (c:=sp) (by rcases h3 with rfl | rfl <;> decide) (by rcases h3 with rfl | rfl <;> decide)
  have hl:(rangeL lo up sp).length=(Xa lo up sp).toNat:=(Zh _).trans Kg
  exact Zqp.new R (fun J J hh=>Yd1 hh) ⟨lo,sp,by rw [hl];rfl,by rw [hl,Zcr hsz.1];exact Zq _ rfl⟩ (Zq _ rfl)
 ·exact Zqp.new R (fun J J hh=>Ydg hh) ⟨0,t,rfl,Zr _,_,Zq _ rfl,rfl,rfl⟩ (Zq _ rfl)
 ·exact Zqp.new R (fun J J hh=>Ye4 hh) ⟨0,rfl,Zr _,_,Zq _ rfl,rfl,rfl⟩ (Zq _ rfl)
inductive Tg where
 | one (x:Nat) | tup (xs:List Nat) | cell (x:Nat)noncomputable def Tg.ctorIdx (v:Tg):Nat:=Tg.casesOn (motive:=fun J=>Nat) v (fun J=>0) (fun J=>1) (fun J=>2)
inductive TgE (sc:Sc):Tg->Expr->Prop
 | one {x m q}:nm x=m->sc.lookup x=some .local->TgE sc (.one x) (.Name m q)
 | tup {xs es k q}:Zr4 sc xs es->TgE sc (.tup xs) (.Tuple es k q)
 | cell {x m q}:nm x=m->sc.lookup x=some .cell->TgE sc (.cell x) (.Name m q)
inductive Zog (Q:(Nat->Option V)->Prop)(lv:Nat->Option V)(xs:List Nat):V->Prop | mk {vs} (l:vs.length=xs.length) (q:Q (updL lv xs vs)):Zog Q lv xs (.tup vs)theorem Zog.e {Q lv xs v}(b:Zog Q lv xs v):∃ vs,v= .tup vs/\vs.length=xs.length/\Q (updL lv xs vs):=b.rec fun l q=>⟨_,rfl,l,q⟩
inductive BindC (Q:St->Prop)(x:Nat)(v:V)(σ:Hp)(lv:Nat->Option V)(cv:Nat->Option Addr):Prop | mk {c u} (h:cv x=some c) (e:σ c=some (.cell u)) (q:Q ⟨upd σ c (.cell (some v)),lv,cv⟩)def Yg4 (t:Tg)(v:V)(lv:Nat->Option V)(Q:(Nat->Option V)->Prop):Prop:=t.rec (fun x=>Q (upd lv x v)) (fun xs=>Zog Q lv xs v) (fun J=>False)def Ymw (t:Tg)(v:V)(st:St)(Q:St->Prop):Prop:=st.rec fun σ lv cv=>t.rec (fun x=>Q ⟨σ,upd lv x v,cv⟩) (fun xs=>Zog (fun lv=>Q ⟨σ,lv,cv⟩) lv xs v) (fun x=>BindC Q x v σ lv cv)def AsgW (G:GC)(env:Env)(st:St)(s s':Zd)(Q:St->Prop)(st':St):Prop:=PN G env st st' s s'/\Q st'
def AsgW.p {Q}(z:@AsgW G env st s s' Q st'):=z.1
def AsgW.q {Q}(z:@AsgW G env st s s' Q st'):=z.2
theorem Zna (hE:EOK env sc)(hh:A.handled=none){t:Tg}{e:Expr}(te:TgE sc t e)(R:RS G env st s){v:V}{x:Value}(r:VR s.heap v x){Q:St->Prop}(h:Ymw t v st Q) :
  W G A (Zin e env x) (fun J s'=>∃ st',AsgW G env st s s' Q st') E s:=by
 cases te with
 | one h1 h2=>subst h1;exact Ky ((Zb5 hE R h2 r).to fun J j0 p=>⟨_,p,h⟩)
 | tup h1=>
  obtain ⟨vs,rfl,hl,q⟩:=Zog.e h
  exact (Zid hE hh h1 R r hl).to fun J j0 p=>⟨_,p,q⟩
 | cell h1 h2=>subst h1;exact h.rec fun hc hu q=>Ky ((Zlh hE R h2 hc hu r).to fun J j0 p=>⟨_,p,q⟩)
theorem Zp0 (hE:EOK env sc)(hh:A.handled=none){t:Tg}{e:Expr}(te:TgE sc t e)(R:RS G env st s){v:V}{x:Value}(r:VR s.heap v x){Q:(Nat->Option V)->Prop}(h:Yg4 t v st.lv Q) :
  W G A (Zin e env x) (fun J s'=>∃ lv',AsgW G env st s s' (fun st=>Q st.lv) ⟨st.σ,lv',st.cv⟩) E s:=by
 cases te with
 | one h1 h2=>subst h1;exact Ky ((Zb5 hE R h2 r).to fun J j0 p=>⟨_,p,h⟩)
 | tup h1=>
  obtain ⟨vs,rfl,hl,q⟩:=Zog.e h
  exact (Zid hE hh h1 R r hl).to fun J j0 p=>⟨_,p,q⟩
 | cell h1 h2=>exact h.elim
abbrev Zp5 (A:St->Prop)(Q:Fl->St->Prop):Fl->St->Prop:=fun f st'=>match f with
 | .next=>A st'
 | .cont=>A st'
 | .brk=>Q .next st'
 | .ret v=>Q (.ret v) st'
def Zce (W:PP)(t:Tg)(g:St->Prop)(done:PP)(Q:Fl->St->Prop)(l:List V):St->Prop:=l.rec (fun st=>g st/\done Q st) fun v J ih st=>g st/\Ymw t v st (W (Zp5 ih Q))def ForI (G:GC)(env:Env)(t:Tg)(Wb:PP)(g:St->Prop)(done:PP)(Q:Fl->St->Prop)(P:List Addr)(It:List V->Zd->Prop)(st₀:St)(s₀:Zd)(n:Nat)(s:Zd)(st:St)(l:List V):Prop:=(l.length=n)/\(0 < s.toks)/\RS G env st s/\It l s/\(∀ a∈P,Off G env st a)/\Stp G env st₀ st s₀ s/\Zce Wb t g done Q l st
def ForI.n0 {n Q}(z:@ForI G env t Wb g done Q P It st₀ s₀ n s st l):=z.1
def ForI.tk {n Q}(z:@ForI G env t Wb g done Q P It st₀ s₀ n s st l):=z.2.1
def ForI.R {n Q}(z:@ForI G env t Wb g done Q P It st₀ s₀ n s st l):=z.2.2.1
def ForI.i {n Q}(z:@ForI G env t Wb g done Q P It st₀ s₀ n s st l):=z.2.2.2.1
def ForI.O {n Q}(z:@ForI G env t Wb g done Q P It st₀ s₀ n s st l):=z.2.2.2.2.1
def ForI.S {n Q}(z:@ForI G env t Wb g done Q P It st₀ s₀ n s st l):=z.2.2.2.2.2.1
def ForI.h {n Q}(z:@ForI G env t Wb g done Q P It st₀ s₀ n s st l):=z.2.2.2.2.2.2
section
variable {it:Addr}{P:List Addr}{GP:List Nat}{g:St->Prop}{It:List V->Zd->Prop}
theorem Zjw.ni (I:Zjw G env A it P GP g It){l s}(hi:It l s):∀ a∈P,∀ o,s.heap.get? a=some o->¬ imm o:=fun a ha o e=>(I.obj _ _ hi a ha).elim fun J z=>si z.1 e▸z.2
theorem Zjw.step (I:Zjw G env A it P GP g It){l:List V}{O2 Q4:St}{j0 W2:Zd}(hi:It l j0)(R:RS G env O2 j0)(S:Stp G env O2 Q4 j0 W2)(O:∀ a∈P,Off G env O2 a):It l W2/\∀ a∈P,Off G env Q4 a:=
 ⟨I.at' _ _ _ hi (fun a ha=>(I.obj _ _ hi a ha).elim fun J z=>((O a ha).step z.1 S).2.trans z.1.symm) (fun k hk=>(Z2.mp (I.gobj _ _ hi k hk)).elim fun x hx=>(S.gens k x hx).trans hx.symm) (I.gobj _ _ hi) (R.imk S),
  fun a ha=>(I.obj _ _ hi a ha).elim fun J z=>((O a ha).step z.1 S).1⟩
end
theorem Yis (X:Cx G Δ n env A sc){t:Tg}{e:Expr}(te:TgE sc t e){body orelse:List Stmt}{Fb Fo:FS}(hb:SSL sc body Fb)(ho:SSL sc orelse Fo)
  {it:Addr} {P:List Addr} {GP:List Nat} {g:St->Prop} {It:List V->Zd->Prop} (I:Zjw G env A it P GP g It) {st₀:St} (h0:∀ a∈P,s₀.heap.get? a=none) (hg0:∀ k∈GP,s₀.gens[k]? = none) {Q:Fl->St->Prop} {E':Value->Zd->Prop}
  {l:List V} (ht:0 < s.toks) (R:RS G env st s) (hi:It l s) (O:∀ a∈P,Off G env st a) (S:Stp G env st₀ st s₀ s) (h:Zce (Fb Δ) t g (Fo Δ) Q l st) :
  codeAny (model G.prog G.w) A (.forLoop e (.ref it) body orelse env) (fun r s'=>match r with | .ok fl=>PS G env st₀ s₀ Q fl s' | .error e=>E' e s') s:=by
 refine codeAny_forLoop_any (fun n s=>∃ st l,ForI G env t (Fb Δ) g (Fo Δ) Q P It st₀ s₀ n s st l) (fun n s hw0=>?_) l.length ⟨st,l,rfl,ht,R,hi,O,S,h⟩
 obtain ⟨st,l,w⟩:=hw0
 have hni:=I.ni w.i
 cases l with
 | nil=>exact I.fin s st _ _ w.i w.tk w.R w.h.1 w.O fun j0 c=>(ho X st _ Q _ (c.tok w.tk) (w.R.chg w.O hni c) w.h.2).to fun fl J1 p=>p.from (w.S.chg h0 hg0 c)
 | cons v r=>
  refine I.item v r s st _ _ w.i w.tk w.R w.h.1 w.O fun val j0 c rv hi'=>?_
  have R':=w.R.chg w.O hni c
  have S':=w.S.chg h0 hg0 c
  refine (I.own _ _ hi').go _ _ ((Zna (E:=Zaz (model G.prog G.w) A env fun e s'=>E' e s') (Q:=Fb Δ (Zp5 (Zce (Fb Δ) t g (Fo Δ) Q r) Q)) X.hE X.hA.handled te R' rv w.h.2).to fun _ J1 hw2=>?_)
  obtain ⟨G4,a⟩:=hw2
  refine hb.then X (Ym (c.tok w.tk) a.p.t) a.p.R a.q fun f fl Q4 W2 j4 T3 W3 fr V3=>?_
  have S23:=a.p.S.trans W3
  have k:=I.step hi' R' S23 w.O
  have go:Zce (Fb Δ) t g (Fo Δ) Q r Q4->∃ m,m < n/\∃ st l,ForI G env t (Fb Δ) g (Fo Δ) Q P It st₀ s₀ m W2 st l:=fun q=>
   ⟨r.length,w.n0▸Yq _,Q4,r,rfl,j4,T3,k.1,k.2,S'.trans S23,q⟩
  cases f with
  | next=>exact fr.nE (go V3)
  | brk=>exact fr.bE ⟨.next,Q4,T3,S'.trans S23,.next,V3⟩
  | cont=>exact fr.cE (go V3)
  | ret v=>exact fr.rE fun J r=>⟨.ret _,Q4,T3,S'.trans S23,.ret r,V3⟩
inductive Yqk (Wb:PP)(t:Tg)(done:PP)(Q:Fl->St->Prop)(lv:Nat->Option V)(cv:Nat->Option Addr)(v:V)(σ:Hp):Prop | mk {l g} (i:Znl σ v l g) (q:Zce Wb t g done Q l ⟨σ,lv,cv⟩)def Zld (t:Tg)(f:FX)(b o:FS):FS:=fun Δ Q st=>st.rec fun σ lv cv=>f Δ lv cv (Yqk (b Δ) t (o Δ) Q lv cv) σ
theorem Zgz {t:Tg}{te e:Expr}{l m:List Stmt}{p}{f:FX}{b o:FS}(ht:TgE sc t te)(he:SX sc e f)(hf:∀ env y,foldedSetIterable e env y=pure y)(hb:SSL sc l b)(ho:SSL sc m o):SS sc (.For te e l m p) (Zld t f b o):=fun G Δ n env A X st s Q E htk R h=>
 wpAny_For (he.then X htk R h fun v x W0 j0 V1 J0 V0 J2 h=>h.rec fun {l g} hl Q0=>Zy (tk V1 (Zmm (A:=A) (E:=E) J0 J2 hl)) (fun itv J1 w=>w.1.elim fun a z=>z.elim fun P z=>z.elim fun It z=>z.e▸
  Zd8 (Yis (E':=cameBackBy (model G.prog G.w) A env E) X ht hb ho (z.I env A X.hA.handled) z.n (fun J h=>(nomatch h)) w.2 z.R z.i (fun b hb=>J0.off_fresh (z.n b hb)) z.S Q0) fun r s' p=>match r,p with
   | .ok fl,p=>PS.from V0 p
   | .error e,p=>p) fun J J e=>e) (hf _)def whL (b:FB)(F:FS)(Δ:Dl)(Q:Fl->St->Prop)(k:Nat):St->Prop:=k.rec (fun J=>False) fun J ih st=>st.rec fun σ lv cv=>b Δ lv cv (Zrl (kSt Δ lv cv (Zp5 ih Q) F) (kHp lv cv Q)) σ
def Zv6 (b:FB)(F:FS):FS:=fun Δ Q st=>∃ k,whL b F Δ Q k st
def WhI (G:GC)(env:Env)(b:FB)(F:FS)(Δ:Dl)(Q:Fl->St->Prop)(st:St)(s:Zd)(n:Nat)(s':Zd)(st':St):Prop:=(0 < s'.toks)/\RS G env st' s'/\Stp G env st st' s s'/\whL b F Δ Q n st'
def WhI.t {Q}(z:@WhI G env b F Δ Q st s n s' st'):=z.1
def WhI.R {Q}(z:@WhI G env b F Δ Q st s n s' st'):=z.2.1
def WhI.S {Q}(z:@WhI G env b F Δ Q st s n s' st'):=z.2.2.1
def WhI.h {Q}(z:@WhI G env b F Δ Q st s n s' st'):=z.2.2.2
theorem Zx7 {e:Expr}{l:List Stmt}{p}{b:FB}{F:FS}(hb:SB sc e b)(hF:SSL sc l F):SS sc (.While e l [] p) (Zv6 b F):=by
 intro G Δ n env A X st s Q E ht R hw0
 obtain ⟨k,h⟩:=hw0
 refine wpAny_While (codeAny_whileLoop (R:=fun r s'=>match r with | .ok fl=>PS G env st s Q fl s' | .error e=>cameBackBy (model G.prog G.w) A env E e s')
  (fun n s'=>∃ st',WhI G env b F Δ Q st s n s' st') (fun m s' ⟨st',w⟩=>?_) k ⟨st,ht,R,.refl,h⟩)
 cases m with
 | zero=>exact w.h.elim
 | succ m=>
  refine hb.then X w.t w.R w.h fun r W0 j0 V1 J0 V0 Q0=>?_
  match r,Q0 with
  | true,Q0=>
   refine hF.then X V1 J0 Q0 fun f fl G4 J1 M3 V2 H3 fr G3=>?_
   have S:=w.S.trans (V0.trans H3)
   cases f with
   | next=>exact fr.nE ⟨m,Yq _,G4,M3,V2,S,G3⟩
   | brk=>exact fr.bE ⟨.next,G4,V2,S,.next,G3⟩
   | cont=>exact fr.cE ⟨m,Yq _,G4,M3,V2,S,G3⟩
   | ret v=>exact fr.rE fun J r=>⟨.ret _,G4,V2,S,.ret r,G3⟩
  | false,Q0=>exact Zvp ⟨.next,_,J0,w.S.trans V0,.next,Q0⟩
end
section
variable {sc':Sc}{st'':St}{n:Nat}
noncomputable def Ke (sc:Sc):List Nat:=(sc.filter (fun p=>p.2 == .free)).map (·.1)theorem free_yes {j:Nat}{r:Sc}:Ke ((j,.free)::r)=j::Ke r:=rfl
theorem Zy2 {j:Nat}{k:U8}{r:Sc}(h:(k == Zju)=false):Ke ((j,k)::r)=Ke r:=by unfold Ke;rw [Zxk (by rw [h];decide)]
theorem Zyt {β:Type}(i j:Nat)(v:β)(r:List (Str×β)):((nm j,v)::r).lookup (nm i)=if i=j then some v else r.lookup (nm i):=by
 rw [Xw]
 by_cases h:i=j
 ·rw [if_pos h,h,beq_self_eq_true]
 ·rw [if_neg h,beq_eq_false_iff_ne.mpr fun e=>h (Zjf e)]def ClosW (cv:Nat->Option Addr)(l:Sc)(acc:List (Str×Addr))(t:Sem (List (Str×Addr)))(cl:List (Str×Addr)):Prop:=(t=pure cl)/\(∀ i c,cv i=some c->i∈Ke l\/acc.lookup (nm i)=some c->cl.lookup (nm i)=some c)def ClosW.e (z:@ClosW cv l acc t cl):=z.1
def ClosW.g (z:@ClosW cv l acc t cl):=z.2
theorem Ybq {cv:Nat->Option Addr}(hc:∀ i c,cv i=some c->env.cells.lookup (nm i)=some c)(l:Sc)(acc:List (Str×Addr))(hf:∀ i∈Ke l,(cv i).isSome):∃ cl,ClosW cv l acc (forIn (l.map fun p=>(nm p.1,p.2)) acc fun (x:Str×U8) (r:List (Str×Addr))=>
   match x with | (name,kind)=>(if (kind == Zju)=true then do let a <-cellOf env name;pure (K5 ((name,a)::r)) else pure (K5 r):Sem (ForInStep (List (Str×Addr))))) cl:=by
 induction l generalizing acc with
 | nil=>exact ⟨acc,rfl,fun i c J h=>h.elim (fun h=>nomatch h) id⟩
 | cons p r ih=>
  obtain ⟨j,k⟩:=p
  rw [Uk,Zcx]
  cases hk:(k == Zju) with
  | true=>
   obtain rfl:k= .free:=eq_of_beq hk
   have hz0:=Z2.mp (hf j (.head _))
   let cj:=hz0.choose
   have ej:=(hz0.choose_spec)
   have hz0:=ih ((nm j,cj)::acc) fun i hi=>hf i (.tail _ hi)
   let cl:=hz0.choose
   have w:=(hz0.choose_spec)
   have ec:cellOf env (nm j)=pure cj:=by unfold cellOf;rw [hc j cj ej]
   refine ⟨cl,?_,fun i c hi h=>w.g i c hi ?_⟩
   ·dsimp only
    rw [if_pos hk,ec,pure_bind,pure_bind]
    exact w.e
   ·rw [Zyt]
    by_cases hij:i=j
    ·rw [if_pos hij];exact .inr (ej.symm.trans (hij▸hi))
    ·rw [if_neg hij];exact h.imp (fun h=>(Xl.mp h).resolve_left hij) id
  | false=>
   rw [Zy2 hk] at hf
   have hz0:=ih acc hf
   let cl:=hz0.choose
   have w:=(hz0.choose_spec)
   refine ⟨cl,?_,fun i c hi h=>w.g i c hi (Zy2 hk▸h)⟩
   dsimp only
   rw [if_neg (by rw [hk];decide),pure_bind]
   exact w.e
theorem Zem {scope:Scope}{cv:Nat->Option Addr}(hc:∀ i c,cv i=some c->env.cells.lookup (nm i)=some c)(hn:scope.names=sc'.map fun p=>(nm p.1,p.2))(hf:∀ i∈Ke sc',(cv i).isSome) :
  ∃ cl,closureFor scope env=pure cl/\∀ i c,i∈Ke sc'->cv i=some c->cl.lookup (nm i)=some c:=
 (Ybq hc sc' [] hf).imp fun cl w=>⟨by unfold closureFor;rw [hn];exact congrArg (fun t:Sem (List (Str×Addr))=>t >>= fun r=>pure r) w.e,fun i c hi hcv=>w.g i c hcv (.inl hi)⟩
theorem RS.enterC (R:RS G env st s){e':Env}{h₀:Heap}{t:Nat}{m:Str->Option Value}{lv:Nat->Option V}{cv:Nat->Option Addr}(hL:e'.locals=s.heap.objs.size)
  (hns:h₀.Ns s.heap.objs.size m) (k:∀ b o,s.heap.get? b=some o->h₀.get? b=some o) (hlv:∀ i v,lv i=some v->∃ x,m (nm i)=some x/\VR s.heap v x) (hcv:∀ i c,cv i=some c->e'.cells.lookup (nm i)=some c) :
  RS G e' ⟨st.σ,lv,cv⟩ ⟨h₀,s.gens,s.drawn,t,s.os⟩:=have R':=R.enter (e':=e') (h₀:=h₀) (t:=t) (lv:=lv) hL hns k hlv;⟨R'.fr,R'.den,hcv,R'.tab,R'.bare,R'.os⟩
def Zo9 (sc:Sc)(ifs:List Expr)(f:FB):Prop:=
 ∀ ⦃G Δ n env A⦄,Cx G Δ n env A sc->∀ (st:St) (s:Zd) (Q:Bool->Hp->Prop) (E:Value->Zd->Prop),0 < s.toks->RS G env st s->f Δ st.lv st.cv Q st.σ->
  W G A (forIn ifs true fun c r=>if r=true then do let ok <-Zt7 c env (eval c env);pure (K5 ok) else pure (K5 r)) (PB G env st s Q) E s
def bT:FB:=fun J J J Q σ=>Q true σ
theorem Zro:Zo9 sc [] bT:=fun J J J J J J st J J J J R h=>wpAny_tests_nil ⟨st.σ,R,.refl,h⟩theorem Yfz {c:Expr}{f:FB}(a:SB sc c f):Zo9 sc [c] f:=fun J J J J J X st s Q E ht R h=>wpAny_tests_one (a X st s Q E ht R h)
inductive AppK (D:Addr)(K:Hp->Prop)(u:V)(σ:Hp):Prop | mk {acc} (e:σ D=some (.list acc)) (l:acc.length<=100000) (q:K (upd σ D (.list (acc++[u]))))abbrev Ybi (lv:Nat->Option V)(cv:Nat->Option Addr)(K:St->Prop):Hp->Prop:=fun σ=>K ⟨σ,lv,cv⟩abbrev Yfr (Δ:Dl)(b:FB)(e:FX)(D:Addr)(K:St->Prop)(σ:Hp)(cv:Nat->Option Addr):(Nat->Option V)->Prop:=fun lv=>b Δ lv cv (Zrl (e Δ lv cv (AppK D (Ybi lv cv K))) (Ybi lv cv K)) σ
def compL (Δ:Dl)(t:Tg)(g:St->Prop)(b:FB)(e:FX)(D:Addr)(Q:Hp->Prop)(l:List V):St->Prop:=
 l.rec (fun st=>g st/\st.rec fun σ J J=>Q σ) fun v J ih st=>g st/\st.rec fun σ lv cv=>Yg4 t v lv (Yfr Δ b e D ih σ cv)
def Yhq (prog:YL)(w:World)(A:Yg)(I:Nat->Zd->Prop)(R:Zbm->Zd->Prop)(elt target:Expr)(ifs:List Expr)(it acc:Value)(env:Env)(n:Nat)(s:Zd):Prop:=wpAny (model prog w) A (Za3 it) (fun r j0=>match r with
   | none=>R (.ok .next) j0
   | some v=>wpAny (model prog w) A (letOwnedTupleGo target it v) (fun J m6=>wpAny (model prog w) A (Zin target env v) (fun J J1=>
     wpAny (model prog w) A (forIn ifs true fun c r=>if r=true then do let ok <-Zt7 c env (eval c env);pure (K5 ok) else pure (K5 r)) (fun ok W2=>
      if ok=true then wpAny (model prog w) A (eval elt env) (fun x O3=>
       wpAny (model prog w) A (call (.builtin "list.append") [acc,x]) (fun J J4=>∃ m,m < n/\I m J4) (Zaz (model prog w) A env fun e s'=>R (.error e) s') O3) (Zaz (model prog w) A env fun e s'=>R (.error e) s') W2
      else ∃ m,m < n/\I m W2) (Zaz (model prog w) A env fun e s'=>R (.error e) s') J1) (Zaz (model prog w) A env fun e s'=>R (.error e) s') m6) (Zaz (model prog w) A env fun e s'=>R (.error e) s') j0) (Zaz (model prog w) A env fun e s'=>R (.error e) s') s
theorem Zhv {prog:YL}{w:World}{R:Zbm->Zd->Prop}{elt target iter:Expr}{ifs:List Expr}{scope:Scope}{pos:Pos}{it acc:Value}{env:Env}(I:Nat->Zd->Prop)
  (turn:∀ n s,I n s->Yhq prog w A I R elt target ifs it acc env n s)
  (n:Nat) (h:I n s):codeAny (model prog w) A (.compLoop (.ListComp elt [⟨target,iter,ifs,0⟩] scope pos) 0 it acc env) R s:=by
 refine codeAny_loop rfl I (fun n s hI=>?_) n h
 refine wpAny_noted ?_
 rw [compTurn_list]
 refine (wbS ((wbM (turn n s hI) (fun r j0 Q0=>?_) fun J J h'=>h')))
 cases r with
 | none=>exact Ze Q0
 | some v=>
  refine (wbM Q0 (fun J m6 w6=>?_) fun J J h'=>h')
  refine (wbM w6 (fun J J1 G3=>(wbM G3 (fun ok W2 V3=>?_) fun J J h'=>h')) fun J J h'=>h')
  cases ok with
  | false=>exact Ze ⟨rfl,V3⟩
  | true=>exact Zc ((wbM V3 (fun x O3 M4=>(wbM M4 (fun J J4 H5=>Ze (Ze ⟨rfl,H5⟩)) fun J J h'=>h')) fun J J h'=>h'))def Yht (G:GC)(env:Env)(st:St)(s:Zd)(Q:Hp->Prop)(s':Zd):Prop:=PU G env st s Q s'/\(s'.toks=s.toks)def Yht.p {Q}(z:@Yht G env st s Q s'):=z.1
def Yht.t {Q}(z:@Yht G env st s Q s'):=z.2
theorem Yos (R:RS G env st s){a:Addr}{xs:List V}{v:V}{x:Value}{Q:Hp->Prop}(e:st.σ a=some (.list xs))(hl:xs.length<=100000)(rv:VR s.heap v x)(q:Q (upd st.σ a (.list (xs++[v])))) :
  W G A (call (.builtin "list.append") [.ref a,x]) (fun J s'=>Yht G env st s Q s') E s:=
 have D:=(R.den _ _ e).1
 D.rec fun {l} p r=>Yhu p (fun h' p' sb=>⟨PU.upd R e sb.extBut (Den.list (l:=l++[x]) (Zgw ..▸p') ((r.append (VRs.one rv)).mono (Za1 D sb.extBut))) q,rfl⟩) (YD (r.size▸hl))noncomputable def Zcd (sc sc':Sc):Sc:=sc'.map fun p=>if (p.2 == .free&&sc.lookup p.1 == some .cell)=true then (p.1,.cell) else p
noncomputable def cvF (fr:List Nat)(cv:Nat->Option Addr):Nat->Option Addr:=fun i=>if i∈fr then cv i else none
theorem Zue (hE:EOK env sc){scope:Scope}{cl:List (Str×Addr)}{C:Addr}(hn:scope.names=sc'.map fun p=>(nm p.1,p.2))(hk:scope.kind= .function)(hco:scope.isCoroutine=false):EOK (compEnvC scope cl C env) (Zcd sc sc'):=by
 refine ⟨hk,hE.globals,hE.builtins,?_,hco⟩
 show (Yi3 scope env).names=_
 unfold Yi3 Zcd
 rw [hn,U7,U7]
 refine Zcm fun p J=>?_
 show (if (p.2 == Zju&&env.scope.kind == Zjp&&env.kindOf (nm p.1) == some .cell)=true then (nm p.1,Zca) else (nm p.1,p.2))=(nm (if (p.2 == .free&&sc.lookup p.1 == some .cell)=true then (p.1,Zca) else p).1,(if (p.2 == .free&&sc.lookup p.1 == some .cell)=true then (p.1,Zca) else p).2)
 rw [hE.kind,hE.kindOf,show (Zjp == Zjp)=true from rfl,Bool.and_true]
 split <;> rfl
structure Kp (G:GC)(P:List Addr)(st st':St)(s s':Zd):Prop where
 keep:∀ b o,s.heap.get? b=some o->st.σ b=none->b∉P->(∀ c,(c,b)∉G.T)->s'.heap.get? b=some o
 live:∀ b o,s.heap.get? b=some o->b∉P->(s'.heap.get? b).isSome
 new:∀ b,(st'.σ b).isSome->(st.σ b).isSome\/s.heap.get? b=none
 gens:∀ (g:Nat) x,s.gens[g]? = some x->s'.gens[g]? = some x
theorem Kp.off {P:List Addr}(K:Kp G P st st' s s'){b:Addr}{o:Obj}(e:s.heap.get? b=some o)(h:st.σ b=none):st'.σ b=none:=Sn fun J q=>(K.new b (iS q)).elim (nS h) fun r=>nn r e
theorem Kp.step {P:List Addr}(K:Kp G P st st' s s'){e':Env}(S:Stp G e' st' st'' s' j0)(hC:s.heap.get? e'.locals=none)(hl:∀ a∈P,(s'.heap.get? a).isSome):Kp G P st st'' s j0:=
 ⟨fun b o e h1 h2 h3=>S.keep b o (K.keep b o e h1 h2 h3) (K.off e h1) (fun q=>nn hC (q▸e)) h3,fun b o e hb=>(Z2.mp (K.live b o e hb)).elim fun o' e'=>S.live b o' e',
  fun b h=>(S.new b h).elim (K.new b) fun r=>.inr (Sn fun o q=>if hb:b∈P then nS r (hl b hb) else nS r (K.live b o q hb)),fun g x h=>S.gens g x (K.gens g x h)⟩
theorem Kp.chg {P:List Addr}(K:Kp G P st st' s s')(c:Chg P [] s' j0):Kp G P st st' s j0:=
 ⟨fun b o e h1 h2 h3=>c.heap b o h2 (K.keep b o e h1 h2 h3),fun b o e h1=>(Z2.mp (K.live b o e h1)).elim fun o' e'=>iS (c.heap b o' h1 e'),K.new,fun g x h=>c.gens g x (fun h=>nomatch h) (K.gens g x h)⟩
theorem RS.back2 (R:RS G env st s){P:List Addr}(O:∀ a∈P,Off G env st a)(hni:∀ a∈P,∀ o,s.heap.get? a=some o->¬ imm o){e':Env}{st2:St}{s2:Zd}(K:Kp G P st st2 s s2)(R2:RS G e' st2 s2):RS G env ⟨st2.σ,st.lv,st.cv⟩ s2:=
 have σL:st.σ env.locals=none:=Sn fun x q=>(R.den _ _ q).2.2 rfl
 ⟨R.fr.imp fun J F=>⟨⟨F.1.ns.elim fun J q=>⟨_,q.imp fun J q=>q.imp fun J q=>⟨K.keep _ _ q.1 σL (fun h=>(O _ h).loc rfl) fun c h=>(R.tab _ h).l0 rfl,q.2⟩⟩,R2.fr.elim fun J F2=>F2.1.keep,F.1.above⟩,Zdc (fun b o e hi=>K.keep b o e (R.off_imm e hi).1 (fun q=>hni b q o e hi) (R.off_imm e hi).2.2) F.2⟩,
  fun a o e=>⟨(R2.den a o e).1,(R2.den a o e).2.1,fun q=>R.fr.elim fun J F=>F.1.ns.elim fun J z=>z.elim fun J z=>z.elim fun J z=>nn (K.off z.1 σL) (q▸e)⟩,R.cel,
  fun p h=>⟨(R2.tab p h).t,(R.tab p h).t.elim fun J q=>K.off q.2.2 (R.tab p h).s0,(R.tab p h).l0,(R.tab p h).b0,(R.tab p h).c0⟩,R2.bare,R2.os⟩
theorem Stp.back2 {st₀:St}(S0:Stp G env st₀ st s₀ s){P:List Addr}(hP:∀ a∈P,s₀.heap.get? a=none){st2:St}{s2:Zd}(K:Kp G P st st2 s s2):Stp G env st₀ ⟨st2.σ,st.lv,st.cv⟩ s₀ s2:=
 have nP:∀ b o,s₀.heap.get? b=some o->b∉P:=fun b o e q=>nn (hP b q) e
 ⟨fun b o e h1 h2 h3=>K.keep b o (S0.keep b o e h1 h2 h3) (Sn fun x q=>(S0.new b (iS q)).elim (nS h1) fun r=>nn r e) (nP b o e) h3,fun b o e=>(Z2.mp (S0.live b o e)).elim fun o' e'=>K.live b o' e' (nP b o e),
  fun b h=>(K.new b h).elim (S0.new b) fun r=>.inr (Sn fun o q=>nS r (S0.live b o q)),fun g x h=>K.gens g x (S0.gens g x h)⟩
end
section
variable {sc':Sc}{st'' st₀:St}{n:Nat}
theorem RS.σnone (R:RS G env st s){a:Addr}(h:s.heap.get? a=none):st.σ a=none:=(R.off_fresh h).σ
def CmpI (G:GC)(env':Env)(t:Tg)(g:St->Prop)(Δ:Dl)(b:FB)(e:FX)(D:Addr)(Q:Hp->Prop)(P:List Addr)(It:List V->Zd->Prop)(st:St)(s:Zd)(n:Nat)(s':Zd)(st':St)(l:List V):Prop:=(l.length=n)/\(0 < s'.toks)/\RS G env' st' s'/\It l s'/\(∀ a∈P,Off G env' st' a)/\Kp G P st st' s s'/\compL Δ t g b e D Q l st'
def CmpI.n0 {n Q}(z:@CmpI G env' t g Δ b e D Q P It st s n s' st' l):=z.1
def CmpI.tk {n Q}(z:@CmpI G env' t g Δ b e D Q P It st s n s' st' l):=z.2.1
def CmpI.R {n Q}(z:@CmpI G env' t g Δ b e D Q P It st s n s' st' l):=z.2.2.1
def CmpI.i {n Q}(z:@CmpI G env' t g Δ b e D Q P It st s n s' st' l):=z.2.2.2.1
def CmpI.O {n Q}(z:@CmpI G env' t g Δ b e D Q P It st s n s' st' l):=z.2.2.2.2.1
def CmpI.K {n Q}(z:@CmpI G env' t g Δ b e D Q P It st s n s' st' l):=z.2.2.2.2.2.1
def CmpI.h {n Q}(z:@CmpI G env' t g Δ b e D Q P It st s n s' st' l):=z.2.2.2.2.2.2
def CmpR (G:GC)(env:Env)(st st₀:St)(s₀:Zd)(Q':Addr->Hp->Prop)(D C:Addr)(m:Str->Option Value)(σ':Hp)(s':Zd):Prop:=RS G env ⟨σ',st.lv,st.cv⟩ s'/\(s₀.heap.get? C=none)/\Stp G env st₀ ⟨σ',st.lv,st.cv⟩ s₀ s'/\s'.heap.Ns C m/\Off G env ⟨σ',st.lv,st.cv⟩ C/\Q' D σ'/\(0 < s'.toks)def CmpR.R (z:@CmpR G env st st₀ s₀ Q' D C m σ' s'):=z.1
def CmpR.n0 (z:@CmpR G env st st₀ s₀ Q' D C m σ' s'):=z.2.1
def CmpR.S (z:@CmpR G env st st₀ s₀ Q' D C m σ' s'):=z.2.2.1
def CmpR.ns (z:@CmpR G env st st₀ s₀ Q' D C m σ' s'):=z.2.2.2.1
def CmpR.O (z:@CmpR G env st st₀ s₀ Q' D C m σ' s'):=z.2.2.2.2.1
def CmpR.q (z:@CmpR G env st st₀ s₀ Q' D C m σ' s'):=z.2.2.2.2.2.1
theorem Ydo (X:Cx G Δ n env A sc){scope:Scope}{cl:List (Str×Addr)}{C D:Addr}{elt target iter:Expr}{ifs:List Expr}{pos:Pos}{t:Tg}(te:TgE (Zcd sc sc') t target){b:FB}{e:FX}(hb:Zo9 (Zcd sc sc') ifs b)(he:SX (Zcd sc sc') elt e)
  (X':Cx G Δ n (compEnvC scope cl C env) A (Zcd sc sc')) {it:Addr} {P:List Addr} {g:St->Prop} {It:List V->Zd->Prop} (I:∀ (env':Env) (A':Yg),A'.handled=none->Zjw G env' A' it P [] g It) (R:RS G env st s) (O:∀ a∈P,Off G env st a) (hni:∀ a∈P,∀ o,s.heap.get? a=some o->¬ imm o)
  (S0:Stp G env st₀ st s₀ s) (hP:∀ a∈P,s₀.heap.get? a=none) (hCs:s.heap.get? C=none) {Q':Addr->Hp->Prop} {RR:Zbm->Zd->Prop} (hRR:∀ m σ' s',CmpR G env st st₀ s₀ Q' D C m σ' s'->RR (.ok .next) s') {l:List V} {j0:Zd} {O2:St} (h:CmpI G (compEnvC scope cl C env) t g Δ b e D (Q' D) P It st s l.length j0 O2 l) :
  codeAny (model G.prog G.w) A (.compLoop (.ListComp elt [⟨target,iter,ifs,0⟩] scope pos) 0 (.ref it) (.ref D) (compEnvC scope cl C env)) RR j0:=by
 have IC:=I (compEnvC scope cl C env) A X.hA.handled
 refine Zhv (fun k s'=>∃ st' l',CmpI G (compEnvC scope cl C env) t g Δ b e D (Q' D) P It st s k s' st' l') (fun k s' h'=>?_) l.length ⟨_,l,h⟩
 obtain ⟨st',l',w⟩:=h'
 have hni':=IC.ni w.i
 cases l' with
 | nil=>
  refine IC.fin s' st' _ _ w.i w.tk w.R w.h.1 w.O fun j0 c=>?_
  have R1:=w.R.chg w.O hni' c
  have K1:=w.K.chg c
  let m:=R1.fr.choose
  exact hRR m st'.σ j0 ⟨R.back2 O hni K1 R1,Sn fun J q=>nS hCs (S0.live _ _ q),S0.back2 hP K1,((R1.fr.choose_spec).1).ns,⟨Sn fun J q=>(R1.den _ _ q).2.2 rfl,(R.off_fresh hCs).loc,fun c hc=>(R1.tab _ hc).l0 rfl,(R.off_fresh hCs).base⟩,w.h.2,c.tok w.tk⟩
 | cons v r=>
  refine IC.item v r s' st' _ _ w.i w.tk w.R w.h.1 w.O fun val j0 c rv hi1=>?_
  have R1:=w.R.chg w.O hni' c
  have K1:=w.K.chg c
  refine (IC.own _ _ hi1).go _ _ ((Zp0 (E:=Zaz (model G.prog G.w) A (compEnvC scope cl C env) fun e s'=>RR (.error e) s') (Q:=Yfr Δ b e D (compL Δ t g b e D (Q' D) r) st'.σ st'.cv) X'.hE X'.hA.handled te R1 rv w.h.2).to fun _ J1 hw2=>?_)
  obtain ⟨lv',a⟩:=hw2
  have t2:=Ym (c.tok w.tk) a.p.t
  refine Zy (tk t2 (hb X' _ J1 _ _ t2 a.p.R a.q)) (fun ok W2 hw4=>?_) fun J J e=>e
  obtain ⟨⟨O4,z⟩,j4⟩:=hw4
  have again:∀ {V4 O3},0 < O3.toks->RS G (compEnvC scope cl C env) V4 O3->Stp G (compEnvC scope cl C env) st' V4 j0 O3->compL Δ t g b e D (Q' D) r V4->∃ m,m < k/\∃ st' l',CmpI G (compEnvC scope cl C env) t g Δ b e D (Q' D) P It st s m O3 st' l':=fun {V4 O3} u5 T4 v4 M4=>
   have k:=IC.step hi1 R1 v4 w.O
   ⟨r.length,w.n0▸Yq _,V4,r,rfl,u5,T4,k.1,k.2,K1.step v4 hCs fun a ha=>(IC.obj _ _ hi1 a ha).elim fun J z=>iS z.1,M4⟩
  have S3:=a.p.S.trans z.S
  match ok,z.q with
  | false,q=>exact again j4 z.R S3 q
  | true,q=>
   refine he.then X' j4 z.R q fun u x J5 O3 u5 T4 v4 v5 M4=>M4.rec fun ha hla M4=>?_
   exact (Yos (A:=A) (E:=Zaz (model G.prog G.w) A (compEnvC scope cl C env) fun e s'=>RR (.error e) s') (Q:=Ybi lv' st'.cv (compL Δ t g b e D (Q' D) r)) T4 ha hla v5 M4).to fun J J4 y=>y.p.elim fun v6 p=>again (y.t▸u5) p.R (S3.trans (v4.trans p.S)) p.q
theorem Zm1 (X:Cx G Δ n env A sc){scope:Scope}{cl:List (Str×Addr)}{elt target iter:Expr}{ifs:List Expr}{pos:Pos}(hn:scope.names=sc'.map fun p=>(nm p.1,p.2))(hk:scope.kind= .function)(hco:scope.isCoroutine=false)(hcell:∀ p∈sc',p.2≠.cell)
  (hcl:∀ i c,i∈Ke sc'->st.cv i=some c->cl.lookup (nm i)=some c) {t:Tg} (te:TgE (Zcd sc sc') t target) {b:FB} {e:FX} (hb:Zo9 (Zcd sc sc') ifs b) (he:SX (Zcd sc sc') elt e)
  {it:Addr} {P:List Addr} {g:St->Prop} {It:List V->Zd->Prop} (I:∀ (env':Env) (A':Yg),A'.handled=none->Zjw G env' A' it P [] g It) {l:List V} (ht:0 < s.toks) (R:RS G env st s) (hi:It l s) (O:∀ a∈P,Off G env st a)
  (S0:Stp G env st₀ st s₀ s) (hP:∀ a∈P,s₀.heap.get? a=none)
  {Q':Addr->Hp->Prop} (h:∀ D,st.σ D=none->compL Δ t g b e D (Q' D) l ⟨upd st.σ D (.list []),fun J=>none,cvF (Ke sc') st.cv⟩) {RR:Value->Addr->Zbm->Zd->Prop}
  (hRR:∀ D C m σ' s',CmpR G env st st₀ s₀ Q' D C m σ' s'->RR (.ref D) C (.ok .next) s') :
  W G A (newList []) (fun acc W2=>W G A (Zl9 scope env.globals cl [] env.qual none .none (some env)) (fun cenv O3=>
   codeAny (model G.prog G.w) A (.compStart (.ListComp elt [⟨target,iter,ifs,0⟩] scope pos) 0 (.ref it) acc { cenv with scope:=Yi3 scope env }) (RR acc cenv.locals) O3) E W2) E s:=by
 have IE:=I env A X.hA.handled
 have hni:=IE.ni hi
 refine Z7 (Zfe (fun x hx=>by rw [hn] at hx;exact (Ys.mp hx).elim fun p hp=>hp.2▸hcell p hp.1) (fun y hy=>nomatch hy) (fun Q0 W4 j5=>?_) hk)
 generalize hH2:s.heap.push { cls:=.type "list",dict:=none,data:=.seq ([]:List Value).toArray }=H2 at W4 j5⊢
 have hC:H2.objs.size=s.heap.objs.size + 1:=by rw [<-hH2,Zb2]
 have k2:∀ b o,s.heap.get? b=some o->H2.get? b=some o:=fun b o e=>hH2▸Zg _ e
 -- the new list
 have kk:∀ b o,H2.get? b=some o->Q0.get? b=some o:=fun b o e=>j5.extBut b o (Z3 (ZL e)) (Zg _ e)
 have ks:∀ b o,s.heap.get? b=some o->Q0.get? b=some o:=fun b o e=>kk b o (k2 b o e)
 have hi4:It l ⟨Q0,s.gens,s.drawn,s.toks,s.os⟩:=IE.at' _ _ _ hi (fun a ha=>(IE.obj _ _ hi a ha).elim fun J z=>(ks a _ z.1).trans z.1.symm) (fun J h=>(nomatch h)) (fun J h=>(nomatch h)) (fun b o e J=>ks b o e)
 have loop:codeAny (model G.prog G.w) A (.compLoop (.ListComp elt [⟨target,iter,ifs,0⟩] scope pos) 0 (.ref it) (.ref s.heap.objs.size) (compEnvC scope cl H2.objs.size env)) (RR (.ref s.heap.objs.size) H2.objs.size) ⟨Q0,s.gens,s.drawn,s.toks,s.os⟩:=
  Ydo X te hb he ⟨X.C,X.D,Zue X.hE hn hk hco,X.hA⟩ I R O hni S0 hP (Sn fun o q=>absurd (ZL q) (hC▸Ug.mpr (ZW _))) (fun m σ' s' w=>hRR _ _ m σ' s' w) ⟨rfl,ht,(((R.put (h':=H2) (t:=s.toks) (d:=s.drawn) (a:=s.heap.objs.size) (o':=.list []) (.inr (Yy _)) (fun b o J e=>k2 b o e) (Den.list (l:=[]) ⟨0,by rw [<-hH2];exact Zq _ rfl⟩ .nil)).1).enterC (e':=compEnvC scope cl H2.objs.size env) (h₀:=Q0) (t:=s.toks) (lv:=fun J=>none) (cv:=cvF (Ke sc') st.cv) rfl W4 kk (fun i v h=>nn rfl h) (fun i c h=>if hm:i∈Ke sc' then hcl i c hm ((if_pos hm).symm.trans h) else nn (if_neg hm) h)),hi4,fun a ha=>(IE.obj _ _ hi a ha).elim fun J z=>
   have hlt:=ZL z.1
   ⟨Zay (Z3 hlt) (O a ha).σ,hC▸Z3 (YW hlt),(O a ha).tab,(O a ha).base⟩,
   ⟨fun b o e J J J=>ks b o e,fun b o e J=>iS (ks b o e),fun b hb=>Zph (P:=fun b=>(st.σ b).isSome\/s.heap.get? b=none) hb (.inr (Yy _)) .inl,fun J J h=>h⟩,h _ (R.σnone (Yy s.heap))⟩
 exact codeAny_compStart_list loop (IE.self _ _ _ _ hi4 loop)
theorem Zeh {M:Model}{elt target iter:Expr}{ifs:List Expr}{scope:Scope}{pos:Pos}{cl:List (Str×Addr)}{Q:Value->Zd->Prop}(hclos:closureFor scope env=pure cl)(hkind:scope.kind= .function)
  (hnames:∀ x∈scope.names,x.2= .local->scope.names.lookup x.1=some .local) (hs:∀ x,foldedSetIterable iter env x=pure x)
  (h:wpAny M A (eval iter env) (fun x j0=>wpAny M A (Yau x) (fun it J1=>wpAny M A (newList []) (fun acc W2=>wpAny M A (Zl9 scope env.globals cl [] env.qual none .none (some env)) (fun cenv O3=>
   codeAny M A (.compStart (.ListComp elt [⟨target,iter,ifs,0⟩] scope pos) 0 it acc { cenv with scope:=Yi3 scope env }) (compPost M A E none Q acc cenv.locals) O3) E W2) E J1) E j0) E s) :
  wpAny M A (eval (.ListComp elt [⟨target,iter,ifs,0⟩] scope pos) env) Q E s:=by
 rw [eval_ListComp]
 exact Zim (use:=none) rfl hs hclos hkind hnames h
inductive Ynd (Δ:Dl)(fr:List Nat)(t:Tg)(b:FB)(e:FX)(cv:Nat->Option Addr)(Q:V->Hp->Prop)(v:V)(σ:Hp):Prop | mk {l g} (i:Znl σ v l g) (q:∀ D,σ D=none->compL Δ t g b e D (Q (.ref D)) l ⟨upd σ D (.list []),fun J=>none,cvF fr cv⟩)def Zlr (sc':Sc)(t:Tg)(f:FX)(b:FB)(e:FX):FX:=fun Δ lv cv Q σ=>(∀ i∈Ke sc',(cv i).isSome)/\f Δ lv cv (Ynd Δ (Ke sc') t b e cv Q) σ
def Zbx (scope:Scope)(sc':Sc):Prop:=(scope.names=sc'.map fun p=>(nm p.1,p.2))/\(scope.kind= .function)/\(scope.isCoroutine=false)/\(∀ p∈sc',p.2≠.cell)/\(∀ p∈sc',p.2= .local->sc'.lookup p.1=some .local)def Zbx.names (z:@Zbx scope sc'):=z.1
def Zbx.kind (z:@Zbx scope sc'):=z.2.1
def Zbx.co (z:@Zbx scope sc'):=z.2.2.1
def Zbx.cell (z:@Zbx scope sc'):=z.2.2.2.1
def Zbx.loc (z:@Zbx scope sc'):=z.2.2.2.2
theorem Zbx.hnames {scope:Scope}(c:Zbx scope sc'):∀ x∈scope.names,x.2= .local->scope.names.lookup x.1=some .local:=fun x hx hl=>by
 rw [c.names] at hx⊢
 obtain ⟨p,hp,rfl⟩:=Ys.mp hx
 rw [Zck];exact c.loc p hp hl
theorem Zlu {C:Addr}{h':Heap}(sb:ZM C s.heap h'):Chg [C] [] s { s with heap:=h' }:=.sb sb (Zm _)theorem ns_ni {h:Heap}{C:Addr}{m:Str->Option Value}(x:h.Ns C m):∀ a∈[C],∀ o,h.get? a=some o->¬ imm o:=fun a ha o e=>x.elim fun J z=>z.elim fun J z=>z.elim fun J z=>si z.1 (YX ha▸e)▸Zcj z.2.1
theorem Zkn {C:Addr}{m:Str->Option Value}{h':Heap}(R:RS G env st s)(S:Stp G env st₀ st s₀ s)(hC:s₀.heap.get? C=none)(O:Off G env st C)(hns:s.heap.Ns C m)(sb:ZM C s.heap h'):RS G env st { s with heap:=h' }/\Stp G env st₀ st s₀ { s with heap:=h' }:=
 ⟨R.chg (P:=[C]) (GP:=[]) (fun a ha=>YX ha▸O) (ns_ni hns) (Zlu sb),S.chg (P:=[C]) (GP:=[]) (fun a ha=>YX ha▸hC) (fun J h=>(nomatch h)) (Zlu sb)⟩
theorem sComp {elt target iter:Expr}{ifs:List Expr}{scope:Scope}{pos:Pos}{t:Tg}{f:FX}{b:FB}{e:FX}(c:Zbx scope sc')(hf:SX sc iter f)(te:TgE (Zcd sc sc') t target)(hb:Zo9 (Zcd sc sc') ifs b)(he:SX (Zcd sc sc') elt e)
  (hfold:∀ env x,foldedSetIterable iter env x=pure x):SX sc (.ListComp elt [⟨target,iter,ifs,0⟩] scope pos) (Zlr sc' t f b e):=fun G Δ n env A X st s Q E ht R h=>
 (Zem (env:=env) (cv:=st.cv) R.cel c.names h.1).elim fun cl hcl=>Zeh hcl.1 c.kind c.hnames (hfold env) (hf.then X ht R h.2 fun v x W0 j0 V1 J0 V0 J2 h=>h.rec fun {l g} hl Q0=>
  Zy (tk V1 (Zmm (A:=A) (E:=E) J0 J2 hl)) (fun itv J1 w=>w.1.elim fun a z=>z.elim fun P z=>z.elim fun It z=>z.e▸
   Zm1 (st:=⟨W0,st.lv,st.cv⟩) X c.names c.kind c.co c.cell hcl.2 te hb he z.I w.2 z.R z.i (fun b hb=>J0.off_fresh (z.n b hb)) z.S z.n (Q':=fun D σ=>Q (.ref D) σ) Q0 fun D C m σ' s' y=>
    ⟨m,y.ns,fun h' sb=>have k:=Zkn y.R y.S y.n0 y.O y.ns sb;⟨.ref D,σ',k.1,V0.trans k.2,.ref D,y.q⟩⟩) fun J J e=>e)
theorem Zgh (hE:EOK env sc)(x:Nat){q:Pos}{e:Expr}{line:Nat}{lb ab:Bool}(hk:sc.lookup x=some .local)(he:swapsWith e (some (.Name (nm x) q)) line env=pure (env.blockKind == .function&&env.kindOf (nm x) == some .local&&lb&&!ab))(hl:lb=true)(ha:ab=false):swapsWith e (some (.Name (nm x) q)) line env=pure true:=by
 rw [he,hl,ha,hE.kindOf,hk,Env.blockKind,hE.kind];rfl
theorem Zvy {m:Str}{x:Nat}{q p pos:Pos}{elt target iter:Expr}{ifs:List Expr}{scope:Scope}{t:Tg}{f:FX}{b:FB}{e:FX}(hn:nm x=m)(hk:sc.lookup x=some .local)(c:Zbx scope sc')(hf:SX sc iter f)(te:TgE (Zcd sc sc') t target)(hb:Zo9 (Zcd sc sc') ifs b)(he:SX (Zcd sc sc') elt e)
  (hfold:∀ env x,foldedSetIterable iter env x=pure x) (hsw:∀ env,EOK env sc->swapsWith (.ListComp elt [⟨target,iter,ifs,0⟩] scope pos) (some (.Name m q)) p.line env=pure true) :
  SS sc (.Assign [.Name m q] (.ListComp elt [⟨target,iter,ifs,0⟩] scope pos) p) (YM x (Zlr sc' t f b e)):=by
 intro G Δ n env A X st s Q E ht R h
 subst hn
 have hz0:=Zem (env:=env) (cv:=st.cv) R.cel c.names h.1
 let cl:=hz0.choose
 have hq0:=hz0.choose_spec
 rw [Yms _ _ _ _ (hsw env X.hE)]
 refine (wbS (Zc ?_))
 refine (wbM (Zim (use:=some (Zin (.Name (nm x) q) env)) (Q:=fun J s'=>PS G env st s Q .next s') rfl (hfold env) (hq0.1) c.kind c.hnames
  (hf.then X ht R h.2 fun v xv W0 j0 V1 J0 V0 J2 h=>h.rec fun {l g} hl Q0=>?_)) (fun J s' hq=>Ze (Ze hq)) fun J J e=>e)
 refine Zy (tk V1 (Zmm (A:=A) (E:=E) J0 J2 hl)) (fun itv J1 w=>w.1.elim fun a z=>z.elim fun P z=>z.elim fun It z=>z.e▸
  Zm1 (st:=⟨W0,st.lv,st.cv⟩) X c.names c.kind c.co c.cell (hq0.2) te hb he z.I w.2 z.R z.i (fun b hb=>J0.off_fresh (z.n b hb)) z.S z.n (Q':=fun D σ=>Q .next ⟨σ,upd st.lv x (.ref D),st.cv⟩) Q0 fun D C m σ' s' y=>?_) fun J J e=>e
 refine Ky ((Zb5 (E:=E) X.hE y.R hk (.ref D)).to fun J W2 p=>?_)
 have hz0:=id y.ns
 let oC:=hz0.choose
 have eC:=(((hz0.choose_spec).choose_spec).choose_spec).1
 have k:=Off.step (st':=⟨σ',upd st.lv x (.ref D),st.cv⟩) y.O eC p.S
 have hns3:W2.heap.Ns C m:=y.ns.at' fun o e=>si eC e▸k.2
 exact ⟨m,hns3,fun h' sb=>have j:=Zkn p.R (y.S.trans p.S) y.n0 k.1 hns3 sb;⟨.next,_,j.1,V0.trans j.2,.next,y.q⟩⟩
end
section
variable {sc':Sc}{st'' st₀:St}{n:Nat}
theorem RS.claim (R:RS G env st s){a:Addr}{o:O}(h1:G.B.get? a=none)(h2:a≠env.locals)(h3:∀ c,(c,a)∉G.T)(d:Den G.prog G.w s.heap a o):RS G env ⟨upd st.σ a o,st.lv,st.cv⟩ s:=
 ⟨R.fr,fun b o' e=>Zq0 (P:=fun b o=>Den G.prog G.w s.heap b o/\G.B.get? b=none/\b≠env.locals) e ⟨d,h1,h2⟩ fun J e=>R.den b o' e,R.cel,fun p h=>have z:=R.tab p h;⟨z.t,Zay (fun q=>h3 p.1 (q▸h)) z.s0,z.l0,z.b0,z.c0⟩,R.bare,R.os⟩
theorem RS.setcv (R:RS G env st s){i:Nat}{c:Addr}(h:env.cells.lookup (nm i)=some c):RS G env ⟨st.σ,st.lv,upd st.cv i c⟩ s:=
 ⟨R.fr,R.den,fun j d e=>Zq0 (P:=fun j d=>env.cells.lookup (nm j)=some d) e h fun J e=>R.cel j d e,R.tab,R.bare,R.os⟩
section
variable {β:Type}{x:Str}{l:List (Str×β)}
theorem Znf {y:Str}{v:β}:((y,v)::l).lookup x=if x=y then some v else l.lookup x:=Zb9 x y v l
theorem lk_mem {v:β}(h:l.lookup x=some v):x∈l.map (·.1):=Y4 (mem_of_lookup h)
theorem Yjp (h:x∈l.map (·.1)):(l.lookup x).isSome:=by
 induction l with
 | nil=>cases h
 | cons a r ih=>
  rw [Znf]
  by_cases q:x=a.1
  ·rw [if_pos q];rfl
  ·rw [if_neg q];exact ih ((Xl.mp h).resolve_left q)
end
section
variable {k:Str->Option U8}{l:List (Str×Value)}{m:Str->Option Value}{x:Str}{v:Value}
theorem Zum (h:x∉l.map (·.1)):bindL k l m x=m x:=by
 induction l generalizing m with
 | nil=>rfl
 | cons p r ih=>
  rw [bindL,ih fun q=>h (.tail _ q)]
  split
  ·exact if_neg (c:=x=p.1) fun q=>h (q▸.head _)
  ·rfl
theorem Yb1 (hn:(l.map (·.1)).Nodup)(hk:k x=some .local)(h:l.lookup x=some v):bindL k l m x=some v:=by
 induction l generalizing m with
 | nil=>cases h
 | cons p r ih=>
  have hn:=Kl.mp hn
  rw [Znf] at h
  rw [bindL]
  by_cases q:x=p.1
  ·rw [if_pos q] at h
   rw [Zum (q▸hn.1),if_pos (q▸hk)];exact (if_pos q).trans h
  ·rw [if_neg q] at h
   exact ih hn.2 h
theorem Zl0 (h:x∉l.map (·.1)):bindC k l m x=m x:=by
 induction l generalizing m with
 | nil=>rfl
 | cons p r ih=>
  rw [bindC,ih fun q=>h (.tail _ q)]
  split
  ·rfl
  ·exact if_neg (c:=x=p.1) fun q=>h (q▸.head _)
theorem Yb2 (hn:(l.map (·.1)).Nodup)(hk:k x=some .cell)(h:l.lookup x=some v):bindC k l m x=some v:=by
 induction l generalizing m with
 | nil=>cases h
 | cons p r ih=>
  have hn:=Kl.mp hn
  rw [Znf] at h
  rw [bindC]
  by_cases q:x=p.1
  ·rw [if_pos q] at h
   rw [Zl0 (q▸hn.1),if_neg (by rw [<-q,hk];decide)];exact (if_pos q).trans h
  ·rw [if_neg q] at h
   exact ih hn.2 h
theorem Yg5 (hn:(l.map (·.1)).Nodup)(hk:k x=some .cell):bindC k l (fun J=>none) x=l.lookup x:=by
 cases hx:l.lookup x with
 | none=>exact Zl0 fun hm=>nS hx (Yjp hm)
 | some y=>exact Yb2 hn hk hx
end
noncomputable def lvB:Sc->List (Nat×V)->Nat->Option V
 | _,[]=>fun J=>none
 | sc,(i,v)::r=>if sc.lookup i=some .local then upd (lvB sc r) i v else lvB sc r
theorem Zyr {bs:List (Nat×V)}{i:Nat}{v:V}(h:lvB sc bs i=some v):sc.lookup i=some .local/\bs.lookup i=some v:=by
 induction bs with
 | nil=>exact nn rfl h
 | cons p r ih=>
  obtain ⟨j,u⟩:=p
  rw [Zb9]
  unfold lvB at h
  by_cases hl:sc.lookup j=some .local
  ·replace h:=(if_pos hl)▸h
   by_cases q:i=j
   ·rw [if_pos q];exact ⟨q▸hl,(if_pos q).symm.trans h⟩
   ·rw [if_neg q];exact ih ((if_neg q).symm.trans h)
  ·replace h:=(if_neg hl)▸h
   have:=ih h
   rw [if_neg (c:=i=j) fun q=>hl (q▸this.1)];exact this
noncomputable def Kz (sc:Sc):List Nat:=(sc.filter (fun p=>p.2 == Zca)).map (·.1)
noncomputable def enterC (bs:List (Nat×V)):List Nat->Hp->(Nat->Option Addr)->(Hp->(Nat->Option Addr)->Prop)->Prop
 | [],σ,cv,K=>K σ cv
 | i::r,σ,cv,K=>∀ c,σ c=none->enterC bs r (upd σ c (.cell (bs.lookup i))) (upd cv i c) K
theorem Zb6 {h:Heap}{bs:List (Nat×V)}{l:List (Str×Value)}(e:l.map (·.1)=bs.map (fun p=>nm p.1))(r:VRs h (bs.map (·.2)) (l.map (·.2))){i}:Zkw h (bs.lookup i) (l.lookup (nm i)):=by
 induction bs generalizing l with
 | nil=>exact Ks.mp e▸.none
 | cons p bs ih=>
  cases l with
  | nil=>exact nomatch e
  | cons q l=>
   obtain ⟨y,x⟩:=q
   refine (Xg e).elim fun hw50 e2=>?_
   obtain rfl:=hw50
   rw [Zb9,Zyt]
   by_cases h:i=p.1
   ·rw [if_pos h,if_pos h];exact .some r.ht.1
   ·rw [if_neg h,if_neg h];exact ih e2 r.ht.2
def Zh7 (s:Zd)(fd:YF)(vals:List Value)(kw:List (Str×Value))(bs:List (Nat×V))(l:List (Str×Value)):Prop:=BindsTo s fd ⟨vals,kw⟩ l/\(l.map (·.1)=bs.map (fun p=>nm p.1))/\VRs s.heap (bs.map (·.2)) (l.map (·.2))def Zh7.b (z:@Zh7 s fd vals kw bs l):=z.1
def Zh7.k (z:@Zh7 s fd vals kw bs l):=z.2.1
def Zh7.r (z:@Zh7 s fd vals kw bs l):=z.2.2
def Zxr (G:GC)(fd:YF)(vs:List V)(kw:List (Str×Value))(bs:List (Nat×V)):Prop:=
 ∀ (s:Zd) (vals:List Value),(∀ b o,G.B.get? b=some o->s.heap.get? b=some o)->VRs s.heap vs vals->∃ l:List (Str×Value),Zh7 s fd vals kw bs l
abbrev Binds (G:GC)(fd:YF)(vs:List V)(bs:List (Nat×V)):Prop:=Zxr G fd vs [] bs
structure Zzw (G:GC)(f:Addr)(fd:YF)(sc:Sc)(body:List Stmt)(g:Bool)(cl:List (Str×Addr)):Prop where
 obj:∃ o,G.B.get? f=some o/\o.data= .func fd
 code:G.B.CodeRec fd.code fd.qualname
 bodyIs:fd.body= .stmts body
 names:fd.scope.names=sc.map fun p=>(nm p.1,p.2)
 kind:fd.scope.kind= .function
 co:fd.scope.isCoroutine=false
 gen:fd.scope.isGenerator=g
 globals:fd.globals=Uj
 builtins:fd.builtins=UJ
 clo:fd.closure=cl
abbrev Yho (G:GC)(f:Addr)(fd:YF)(sc:Sc)(body:List Stmt):Prop:=Zzw G f fd sc body false []
theorem Zig {M:Model}{f:Addr}{fd:YF}{o:Obj}(ho:s.heap.get? f=some o)(hd:o.data= .func fd):wpAny M A (Zac (.ref f)) (fun J s'=>s'=s) E s:=by
 refine (wbL ho ?_)
 rw [hd]
 exact Ze rfl
noncomputable def Zcv (Q:V->Hp->Prop):Fl->St->Prop
 | .ret v,st=>Q v st.σ
 | .next,st=>Q .none st.σ
 | _,_=>False
theorem Ygo {j:Nat}{k:U8}{r:Sc}(h:(k == Zca)=false):Kz ((j,k)::r)=Kz r:=by unfold Kz;rw [Zxk (by rw [h];decide)]
theorem Zf0 {i:Nat}(sc:Sc)(k:Nat)(acc:List (Str×Addr))(h:i∈Kz sc\/(acc.lookup (nm i)).isSome):((cellsFrom k (sc.map fun p=>(nm p.1,p.2)) acc).lookup (nm i)).isSome:=by
 induction sc generalizing k acc with
 | nil=>exact h.elim (fun h=>nomatch h) id
 | cons p r ih=>
  obtain ⟨j,kd⟩:=p
  rw [Uk,cellsFrom]
  cases hk:(kd == Zca) with
  | true=>
   obtain rfl:kd= .cell:=eq_of_beq hk
   refine ih _ _ ?_
   rw [Zyt]
   by_cases q:i=j
   ·rw [if_pos q];exact .inr rfl
   ·rw [if_neg q];exact h.imp (fun h=>(Xl.mp h).resolve_left q) id
  | false=>exact ih _ _ (Ygo hk▸h)
theorem apart {cs:List (Str×Addr)}{x y:Str}{d:Addr}(hp:cs.Pairwise fun x y=>x.2≠y.2)(h1:(x,d)∈cs)(h2:(y,d)∈cs):x=y:=by
 induction hp with
 | nil=>cases h1
 | cons ha _ ih=>
  refine (Xl.mp h1).elim (fun e1=>?_) fun k1=>?_
  ·rcases Xl.mp h2 with e2 | k2
   ·exact (YJ (e1.trans e2.symm)).1
   ·exact absurd (e1▸rfl) (ha (y,d) k2)
  ·rcases Xl.mp h2 with e2 | k2
   ·exact absurd (e2▸rfl) (ha (x,d) k1)
   ·exact ih k1 k2
theorem Zkw.cell {h:Heap}{a b}(r:Zkw h a b):Zl5 h a b:=r.rec .none .some
def EnterW (G:GC)(env:Env)(s:Zd)(cs:List (Str×Addr))(lv:Nat->Option V)(K:Hp->(Nat->Option Addr)->Prop)(st st':St):Prop:=(st'.lv=lv)/\RS G env st' s/\K st'.σ st'.cv/\(∀ b,(st'.σ b).isSome->(st.σ b).isSome\/∃ x,cs.lookup x=some b)def EnterW.l {K}(z:@EnterW G env s cs lv K st st'):=z.1
def EnterW.R {K}(z:@EnterW G env s cs lv K st st'):=z.2.1
def EnterW.K {K}(z:@EnterW G env s cs lv K st st'):=z.2.2.1
def EnterW.n0 {K}(z:@EnterW G env s cs lv K st st'):=z.2.2.2
theorem Zug {bs:List (Nat×V)}{cs:List (Str×Addr)}{cm:Str->Option Value}(hcs:env.cells=cs)(hcell:∀ x c,cs.lookup x=some c->s.heap.IsCell c (cm x))(hap:cs.Pairwise fun x y=>x.2≠y.2)
  (hoff:∀ x c,cs.lookup x=some c->Off G env ⟨fun J=>none,fun J=>none,fun J=>none⟩ c) (hcm:∀ i,i∈Kz sc->Zkw s.heap (bs.lookup i) (cm (nm i))) {K:Hp->(Nat->Option Addr)->Prop} {lv:Nat->Option V}
  (is:List Nat) (st:St) (hl:st.lv=lv) (hi:∀ i∈is,i∈Kz sc/\(cs.lookup (nm i)).isSome) (hnd:is.Nodup) (hn:∀ i∈is,∀ c,cs.lookup (nm i)=some c->st.σ c=none) (R:RS G env st s) (h:enterC bs is st.σ st.cv K):∃ st',EnterW G env s cs lv K st st':=by
 induction is generalizing st with
 | nil=>exact ⟨st,hl,R,h,fun b h=>.inl h⟩
 | cons i r ih=>
  have hi0:=hi i (.head _)
  have hz0:=Z2.mp hi0.2
  let c:=hz0.choose
  have hc:=(hz0.choose_spec)
  have hnd:=Kl.mp hnd
  have O:=hoff _ _ hc
  have hz0:=ih ⟨upd st.σ c (.cell (bs.lookup i)),st.lv,upd st.cv i c⟩ hl (fun j hj=>hi j (.tail _ hj)) hnd.2 (fun j hj d hd=>Zay (fun q=>hnd.1 (Zjf (apart hap (mem_of_lookup (q▸hd)) (mem_of_lookup hc))▸hj)) (hn j (.tail _ hj) d hd)) ((R.claim (o:=.cell (bs.lookup i)) O.base O.loc O.tab ((hcell _ _ hc).elim fun J z=>Den.cell z.1 z.2 (hcm i hi0.1).cell)).setcv (i:=i) (c:=c) (hcs▸hc)) (h c (hn i (.head _) c hc))
  have w:=(hz0.choose_spec)
  exact ⟨(hz0.choose),w.l,w.R,w.K,fun b hb=>(w.n0 b hb).elim (fun h=>Zph (P:=fun b=>(st.σ b).isSome\/∃ x,cs.lookup x=some b) h (.inr ⟨_,hc⟩) .inl) .inr⟩
theorem Yeu {l:List Nat}(h:l.Nodup):(l.map nm).Nodup:=by
 induction l with
 | nil=>exact Zsi
 | cons a r ih=>
  have h:=Kl.mp h
  exact Kl.mpr ⟨fun q=>(Ys.mp q).elim fun u hu=>h.1 (Zjf hu.2▸hu.1),ih h.2⟩abbrev Zu8 (G:GC)(env:Env)(st:St)(s:Zd)(E:Value->Zd->Prop)(Q:V->Hp->Prop):Zbm->Zd->Prop:=fun r s'=>match r with | .ok (.ret v)=>PV G env st s Q v s' | .ok _=>False | .error e=>E e s'
def Zgb (G:GC)(A:Yg)(env:Env)(st:St)(s:Zd)(E:Value->Zd->Prop)(f:Value)(vals:List Value)(kw:List (Str×Value))(Q:V->Hp->Prop):Prop:=(W G A (Zac f) (fun J s'=>s'=s) E s)/\codeAny (model G.prog G.w) A (.call f ⟨vals,kw⟩) (Zu8 G env st s E Q) s
def Zgb.k (z:@Zgb G A env st s E f vals kw Q):=z.1
def Zgb.c (z:@Zgb G A env st s E f vals kw Q):=z.2
@[elab_as_elim] theorem body_end {Q:V->Hp->Prop} {env':Env} {O2 G4:St} {j0 J1:Zd} {fl:Flow} {f:Fl} (w:PSw G env' O2 j0 (Zcv Q) fl J1 f G4) (R:RS G env ⟨G4.σ,st.lv,st.cv⟩ J1) (S:Stp G env st ⟨G4.σ,st.lv,st.cv⟩ s J1) {P:Flow->Prop} (k1:∀ v,PV G env st s Q v J1->P (.ret v)) (k2:PV G env st s Q .none J1->P .next):P fl:=
 match f,w.r,w.q with
 | .next,r,q=>r.nE (k2 ⟨.none,G4.σ,R,S,.none,q⟩)
 | .ret v,r,q=>r.rE fun J r=>k1 _ ⟨_,G4.σ,R,S,r,q⟩
structure Zof (sc:Sc)(bs:List (Nat×V)):Prop where
 ks:∀ p∈bs,sc.lookup p.1=some .local\/(sc.lookup p.1=some .cell/\p.1∈Kz sc)
 nd:(bs.map (·.1)).Nodup
 cn:(Kz sc).Nodup
 ck:∀ i∈Kz sc,sc.lookup i=some .cell
theorem Zkq (C:GOK G)(D:DV G Δ n){f:Addr}{fd:YF}{body:List Stmt}{F:FS}(FA:Yho G f fd sc body)(hr:∀ {env:Env} {A:Yg},Cx G Δ n env A sc->env.code=fd.code->∀ (st:St) (s:Zd) (Q:Fl->St->Prop) (E:Value->Zd->Prop),0 < s.toks->RS G env st s->F Δ Q st->W G A (execs body env) (PS G env st s Q) E s)
  {vs:List V} {kw:List (Str×Value)} {bs:List (Nat×V)} (hb:Zxr G fd vs kw bs) (B:Zof sc bs) {vals:List Value} {Q:V->Hp->Prop}
  (hA:AOK A (n + 4)) (ht:0 < s.toks) (R:RS G env st s) (rv:VRs s.heap vs vals) (h:enterC bs (Kz sc) st.σ (fun J=>none) (fun σ cv=>F Δ (Zcv Q) ⟨σ,lvB sc bs,cv⟩)) :
  Zgb G A env st s E (.ref f) vals kw Q:=by
 let m:=R.fr.choose
 have hq0:=R.fr.choose_spec
 have Fr0:=hq0.1
 have hf:=hq0.2
 have hz0:=hb s vals Fr0.keep rv
 let l:=hz0.choose
 have hq0:=hz0.choose_spec
 have w:=hq0
 let o:=FA.obj.choose
 have hq0:=FA.obj.choose_spec
 have ho:=hq0.1
 have hd:=hq0.2
 have ho':=Fr0.keep _ _ ho
 have hnl:(l.map (·.1)).Nodup:=by rw [w.k];have:=Yeu B.nd;rw [U7] at this;exact this
 refine ⟨Zig ho' hd,?_⟩
 refine codeAny_call_function hA.room ho' hd FA.co FA.gen FA.bodyIs (FA.code.keeps Fr0.keep) (w.b _ _ _ _ ?_)
 refine (FA.clo)▸?_
 have hkind:∀ x∈l,fd.scope.names.lookup x.1=some .local\/(fd.scope.names.lookup x.1=some .cell/\((cellsFrom (s.heap.objs.size + 1) fd.scope.names []).lookup x.1).isSome=true):=fun x hx=>by
  have hz0:=Ys.mp (w.k▸Y4 hx:x.1∈_)
  let p:=hz0.choose
  have hq0:=hz0.choose_spec
  have hp:=hq0.1
  have e:=hq0.2
  rw [<-e,FA.names,Zck]
  exact (B.ks p hp).imp id fun h=>⟨h.1,Zf0 _ _ _ (.inl h.2)⟩
 have hE:EOK (callEnvC fd s.heap.objs.size f) sc:=⟨FA.kind,FA.globals,FA.builtins,FA.names,FA.co⟩
 refine Zy (tk ht (wpAny_newFunctionEnv_cells (Q:=fun env' j0=>env'=callEnvC fd s.heap.objs.size f/\InCallC s env'.locals (bindL env'.kindOf l fun J=>none) env'.cells (bindC env'.kindOf l fun J=>none) j0) FA.kind hkind fun env' he j0 x=>⟨he,x⟩)) (fun env' j0 ⟨⟨he,x⟩,V1⟩=>?_) fun J J e=>e
 subst he
 obtain ⟨Q0,j6,rfl⟩:=x.toInCall.same
 have ik:Imk s.heap Q0:=fun b o e J=>x.toInCall.keep b o e
 have lk:=fun {i}=>Zb6 (i:=i) w.k w.r
 have fresh:∀ x' c,(cellsFrom (s.heap.objs.size + 1) fd.scope.names []).lookup x'=some c->s.heap.objs.size < c:=fun x' c hc=>x.above _ _ (mem_of_lookup hc)
 have fnone:∀ x' c,(cellsFrom (s.heap.objs.size + 1) fd.scope.names []).lookup x'=some c->s.heap.get? c=none:=fun x' c hc=>Sn fun o q=>absurd (ZL q) (Ug.mpr (Y8 (fresh x' c hc)))
 refine ⟨(C.nolimit.keeps Fr0.keep).keeps x.toInCall.keep,codeAny_func ?_⟩
 have Re:RS G (callEnvC fd s.heap.objs.size f) ⟨st.σ,lvB sc bs,fun J=>none⟩ ⟨Q0,s.gens,s.drawn,j6,s.os⟩:=R.enterC (e':=callEnvC fd s.heap.objs.size f) (h₀:=Q0) rfl x.toInCall.ns x.toInCall.keep (fun i v hv=>by
  have g:=Zyr hv
  have hz0:=Zdn lk g.2
  let y:=hz0.choose
  have hq0:=hz0.choose_spec
  have hy:=hq0.1
  have r:=hq0.2
  exact ⟨y,Yb1 hnl (by rw [hE.kindOf,g.1]) hy,r⟩) (fun i c h=>nn rfl h)
 obtain ⟨st',e⟩:=Zug (bs:=bs) (K:=fun σ cv=>F Δ (Zcv Q) ⟨σ,lvB sc bs,cv⟩) (lv:=lvB sc bs) (env:=callEnvC fd s.heap.objs.size f) rfl x.cell x.apart (fun x' c hc=>
   have O:=R.off_fresh (fnone _ c hc)
   ⟨rfl,Xr (fresh x' c hc),O.tab,O.base⟩) (fun i hi=>by rw [Yg5 hnl (by rw [hE.kindOf];exact B.ck i hi)];exact lk.rec .none fun r=>.some (r.mono ik))
  (Kz sc) ⟨st.σ,lvB sc bs,fun J=>none⟩ rfl (fun i hi=>⟨hi,by
   have:=Zf0 (i:=i) sc (s.heap.objs.size + 1) [] (.inl hi)
   rwa [<-FA.names] at this⟩) B.cn (fun i hi c hc=>R.σnone (fnone _ c hc)) Re h
 have K1:Kp G [] st st' s ⟨Q0,s.gens,s.drawn,j6,s.os⟩:=⟨fun b o e J J J=>x.toInCall.keep b o e,fun b o e J=>iS (x.toInCall.keep b o e),fun b hb=>(e.n0 b hb).imp id fun ⟨x',hx⟩=>fnone _ _ hx,fun J J h=>h⟩
 refine Zy (hr ⟨C,D,hE,hA.deeper _⟩ rfl st' _ (Zcv Q) (fun J J=>False) V1 e.R (by have:=e.K;rwa [<-e.l] at this)) (fun fl J1 ⟨fl',G4,y⟩=>?_) (fun J J e=>e.elim)
 have K2:=K1.step y.S (Yy _) (fun J h=>(nomatch h))
 exact body_end y (R.back2 (P:=[]) (fun J h=>(nomatch h)) (fun J h=>(nomatch h)) K2 y.R) (Stp.back2 (Stp.refl (G:=G) (env:=env) (st:=st) (s:=s)) (P:=[]) (fun J h=>(nomatch h)) K2) (fun J p=>p) (fun p=>p)
theorem Ygq (C:GOK G)(D:DV G Δ n){f:Addr}{fd:YF}{body:List Stmt}{F:FS}(FA:Yho G f fd sc body)(hr:SSL sc body F)
  {vs:List V} {bs:List (Nat×V)} (hb:Binds G fd vs bs) (B:Zof sc bs) {vals:List Value} {Q:V->Hp->Prop}
  (hA:AOK A (n + 4)) (ht:0 < s.toks) (R:RS G env st s) (rv:VRs s.heap vs vals) (h:enterC bs (Kz sc) st.σ (fun J=>none) (fun σ cv=>F Δ (Zcv Q) ⟨σ,lvB sc bs,cv⟩)):Zgb G A env st s E (.ref f) vals [] Q:=
 Zkq C D FA (fun X J=>hr X) hb B hA ht R rv h
theorem call_fn (C:GOK G)(D:DV G Δ n){f:Addr}{fd:YF}{body:List Stmt}{F:FS}(FA:Yho G f fd sc body)(hr:SSL sc body F)
  {vs:List V} {bs:List (Nat×V)} (hb:Binds G fd vs bs) (B:Zof sc bs) {vals:List Value} {Q:V->Hp->Prop}
  (hA:AOK A (n + 4)) (ht:0 < s.toks) (R:RS G env st s) (rv:VRs s.heap vs vals) (h:enterC bs (Kz sc) st.σ (fun J=>none) (fun σ cv=>F Δ (Zcv Q) ⟨σ,lvB sc bs,cv⟩)):Zqs G A env st s E (.ref f) vals Q:=
 have c:=Ygq (E:=E) (Q:=Q) C D FA hr hb B hA ht R rv h
 ⟨c.k,Ux c.c⟩
end
section
variable {n:Nat}
noncomputable def repT (c:Nat)(z:Tx)(x:Tx):Tx:=x.flatMap fun d=>if d=c then z else [d]
theorem Zib (c:Nat)(z:Tx):∀ x:Tx,c∉x->repT c z x=x
 | [],_=>rfl
 | d::r,h=>by
  have:=Zib c z r fun q=>h (.tail _ q)
  unfold repT at this⊢
  rw [List.flatMap_cons,this,if_neg (c:=d=c) (fun e=>h (e▸.head _))];rfl
theorem Ztl (c:Nat)(z:Tx):∀ parts:List Str,(∀ p∈parts,c∉p.cps.toList)->repT c z (Zuz ⟨#[c]⟩ parts).cps.toList=(Zuz (sT z) parts).cps.toList
 | [],_=>rfl
 | [p],h=>Zib c z _ (h p (Xb.mpr rfl))
 | p::q::r,h=>by
  show repT c z (p++⟨#[c]⟩++Zuz ⟨#[c]⟩ (q::r)).cps.toList=(p++sT z++Zuz (sT z) (q::r)).cps.toList
  have e:∀ a b:Tx,repT c z (a++b)=repT c z a++repT c z b:=fun a b=>by unfold repT;rw [Ze2]
  simp only [Str.cps_append,Zk3]
  rw [e,e,(Ztl c z (q::r) fun a ha=>h a (Zj1 _ ha)),Zib c z _ (h p (Yh3 ..))]
  congr 2
  simp [repT,sT]
theorem Zv9 (x z:Tx)(c:Nat):Txt.replace (sT x) (sT [c]) (sT z)=sT (repT c z x):=by
 have h:(Txt.replace (sT x) ⟨#[c]⟩ (sT z)).cps.toList=repT c z x:=by
  rw [StrLaws.replace_one,<-Ztl c z _ (StrLaws.split_free (sT x) c),StrLaws.join_split]
 apply Str.ext'
 rw [<-Array.toList_inj]
 exact h
inductive Zzr (y z:Tx)(Q:V->Hp->Prop):V->Hp->Prop | mk {x c σ} (e:y=[c]) (l:x.length<=100000) (q:Q (.str (repT c z x)) σ):Zzr y z Q (.str x) σ
def Zgy (f:FX)(y z:Tx):FX:=fun Δ lv cv Q σ=>f Δ lv cv (Zzr y z Q) σ
theorem Zzr.e {y z Q v σ}(k:Zzr y z Q v σ):∃ x c,v= .str x/\y=[c]/\x.length<=100000/\Q (.str (repT c z x)) σ:=k.rec fun e l q=>⟨_,_,rfl,e,l,q⟩
theorem Ziv {o:Expr}{name y' z':Str}{y z:Tx}{apos pos p1 p2:Pos}{k1 k2}{f:FX}(a:SX sc o f)(hy:sT y=y')(hz:sT z=z')(hzl:z.length<=14/\y≠z)(hn:name=Zz "replace")
  (hb:∀ env whole,attributeBase o name env whole=whole) (hline:(apos.endLine == pos.line)=true):SX sc (.Call (.Attribute o name apos) [.Constant (.str y') k1 p1,.Constant (.str z') k2 p2] [] pos) (Zgy f y z):=by
 subst hy hz hn
 intro G Δ n env A X st s Q E ht R h
 refine Zbk (hb _ _) rfl (by decide:2 < 20) hline (a.then X ht R h fun v xv W0 j0 V1 J0 V0 J2 h pl=>?_)
 obtain ⟨x,c,rfl,rfl,hl,q⟩:=h.e
 exact J2.sE fun tk0=>Zad (Zcq _ _ _) Kr PySem.F.slot_str_replace (by kernel_rfl) (fun a e=>nomatch e)
  (YT rfl (YS rfl (Z6 (Zcz (k:=k1) (pos:=p1) (Z6 (Zcz (k:=k2) (pos:=p2) (Yi (Ze
   (SC.replaceW (Xr V1) (Zec _) (Z3 (Yq _)) ((Zn0 _ _).trans (decide_eq_false hzl.2)) (Zb hl (Za rfl)) hzl.1 fun t' k=>Zv9 x z c▸(PV.tok (t:=k) (d:=j0.drawn) J0 (.str _ t') q).from V0)))))))))
end
section
variable {n:Nat}
theorem Ya2 {l sl:Addr}{items:Array Value}{k:Nat}{Q:Unit->Zd->Prop}{prog:YL}{w:World}(ho:s.heap.get? l=some { cls:=.type "list",data:=.seq items k })(hs:s.heap.IsSliceOf sl .none .none .none)(hsz:items.size<=Zi8)
  (hQ:∀ h',h'.PlainList l #[]->ZM l s.heap h'->Q () { s with heap:=h' }):wpAny (model prog w) A (delItem (.ref l) (.ref sl)) Q E s:=by
 have hT:s.TypeIs (.ref l) "list":=⟨_,ho,rfl⟩
 have hz0:=id hs
 have hq0:=hz0.choose_spec
 have hos:=hq0.1
 have hds:=hq0.2.2
 have hTs:s.TypeIs (.ref sl) "slice":=⟨(hz0.choose),hos,(hq0.2.1)⟩
 refine wpAny_delItem_slot hT rfl Zqf (Y9 Zqf hT PySem.F.entry_list_delitem ?_ (PySem.F.args_list_delitem_2 _ _))
 refine (wbP ?_)
 refine Zc ?_
 refine (wbO hTs Yai ?_)
 refine Ze ?_
 refine (wbT hTs ?_)
 refine Y5 (by decide) ?_
 refine Zc ((wbD hos hds (x:=.none) rfl (Zc (Im .none ?_))))
 refine Y5 (by decide) ?_
 refine (wbD hos hds (x:=.none) rfl (Zc (Im .none ?_)))
 refine (wbD hos hds (x:=.none) rfl (Zc (Im .none (Ze ?_))))
 refine Zc (m:=I8 (.ref l)) ?_
 refine (wbQ ho rfl (Ze ?_))
 refine (wbE (Zs9 none none none items.size (by simp)) ?_)
 try dsimp only
 refine (wbR ?_)
 refine Zc ?_
 have key:∀ (f:Array Value->Array Value) (Q':Unit->Zd->Prop) (E':Value->Zd->Prop),f items= #[]->(∀ h',h'.PlainList l #[]->ZM l s.heap h'->Q' () { s with heap:=h' })->wpAny (model prog w) A.in1 (Builtin.List.listUpdate (.ref l) f) Q' E' s:=fun f Q' E' hf hq=>by
  have e1:=Ye (ZZ f) ho rfl
  simp only [ZZ,hf] at e1
  exact XS ho rfl (hq _ ⟨_,e1⟩ (ZV ..)) hsz (by rw [hf];exact Zr _)
 refine key _ _ _ ?_ (fun h' p sb=>(wbG (Ze ⟨_,rfl,hQ h' p sb⟩)))
 refine congrArg Yk (List.filterMap_eq_nil_iff.mpr fun x hx=>if_pos ?_)
 have hx2:x.2 < items.size:=by
  have:=List.mem_zipIdx hx
  simpa using this.2.1
 have hb:Zvc none none none items.size=(0,(items.size:Int),1):=by
  simp [Zvc]
 show (if (1:Int) > 0 then (decide ((0:Int)<=(x.2:Int))&&decide ((x.2:Int) < (items.size:Int))&&(((x.2:Int) - 0) % 1 == 0)) else _)=true
 rw [if_pos (by decide)]
 simp only [Xx,decide_eq_true_eq,beq_iff_eq]
 omega
inductive Yll (lv:Nat->Option V)(cv:Nat->Option Addr)(P:Fl->St->Prop):V->Hp->Prop | mk {a xs σ} (e:σ a=some (.list xs)) (l:xs.length<=100000) (q:P .next ⟨upd σ a (.list []),lv,cv⟩):Yll lv cv P (.ref a) σ
theorem Yll.e {lv cv P v σ}(k:Yll lv cv P v σ):∃ a xs,v= .ref a/\σ a=some (.list xs)/\xs.length<=100000/\P .next ⟨upd σ a (.list []),lv,cv⟩:=k.rec fun e l q=>⟨_,_,rfl,e,l,q⟩def Zyf (f:FX):FS:=fun Δ Q st=>st.rec fun σ lv cv=>f Δ lv cv (Yll lv cv Q) σ
theorem Ydj {o:Expr}{p q r:Pos}{f:FX}(a:SX sc o f):SS sc (.Delete [.Subscript o (.Slice none none none p) q] r) (Zyf f):=by
 intro G Δ n env A X st s Q E ht R h
 refine wpAny_Delete (wpAny_deleteEach_cons ?_)
 refine Zc (a.then X ht R h fun v x W0 j0 V1 J0 V0 J2 h=>?_)
 obtain ⟨l,xs,rfl,e2,hl,q⟩:=h.e
 refine J2.rE ((wbH (Zl7 (Ze (Ze (Ze ((wbS ((wbH ?_))))))))))
 have k:=J0.ext (h':=j0.heap.push { cls:=.type "slice",data:=.fields #[.none,.none,.none] }) (t:=j0.toks) (d:=j0.drawn) fun y z e=>Zg _ e
 exact (k.1.den _ _ e2).1.rec fun p r=>p.elim fun J pe=>Ya2 pe (Zbo ..) (YD (r.size▸hl)) fun h' p sb=>
  (PU.upd (Q:=kHp st.lv st.cv Q) (t:=j0.toks) (d:=j0.drawn) k.1 e2 sb.extBut (Den.list (l:=[]) p .nil) q).elim fun O4 w=>wpAny_release (wpAny_deleteEach_nil ⟨.next,_,w.R,V0.trans (k.2.trans w.S),.next,w.q⟩)
end
section
section
variable {prog:YL}{w:World}{R:GenEnd}{Y:Zmd}{n:Nat}{c:Code}{fs:List Frame}
 {K:Flow->Sem Fin} {H:Value->Sem Fin} {gd:Bool->Bool} {lv:List Value->List Value}
theorem Zm2 {test:Expr}{body orelse:List Stmt}{pos:Pos}
  (h:wpAny (model prog w) (A.over c fs) (Zt7 test env (eval test env)) (fun b s'=>(b=true->Yj (model prog w) A R Y n s₀ c ((execs body env).wrap K H gd lv) fs s')/\(b=false->Yj (model prog w) A R Y n s₀ c ((execs orelse env).wrap K H gd lv) fs s'))
   (fun x s'=>Yj (model prog w) A R Y n s₀ c (H x) fs s') s) :
  Yj (model prog w) A R Y n s₀ c ((exec (.If test body orelse pos) env).wrap K H gd lv) fs s:=by
 refine XC (Zbz (XC (Zy h (fun b s' hb=>?_) fun J J e=>e)))
 cases b with
 | true=>rw [if_pos rfl];exact hb.1 rfl
 | false=>rw [if_neg (by decide)];exact hb.2 rfl
theorem Zia {st:Stmt}{rest:List Stmt}
  (h:wpAny (model prog w) (A.over c fs) (exec st env) (fun f s'=>f= .next/\Yj (model prog w) A R Y n s₀ c ((execs rest env).wrap K H gd lv) fs s') (fun x s'=>Yj (model prog w) A R Y n s₀ c (H x) fs s') s) :
  Yj (model prog w) A R Y n s₀ c ((execs (st::rest) env).wrap K H gd lv) fs s:=by
 refine Ud (seg_wrap (Zy h (fun f s' hf=>?_) fun J J e=>e))
 obtain ⟨rfl,hf⟩:=hf
 exact hf
noncomputable abbrev Zy3 (env:Env)(K:Flow->Sem Fin)(H:Value->Sem Fin)(gd:Bool->Bool)(lv:List Value->List Value)(r:Zbm):Sem Fin:=
 ((match r with | .ok f=>(.pure f:Sem Flow) | .error e=>.raise e).onRaise fun (x:Value)=>do
    if (<-field x 1) == Xo then unsupported "frame.own-activation:exception-without-traceback"
    setFlight x env.frame).wrap K H gd lv
theorem Zyd {target iter:Expr}{body orelse:List Stmt}{pos:Pos}(hf:∀ x,foldedSetIterable iter env x=pure x)
  (h:wpAny (model prog w) (A.over c fs) (eval iter env) (fun x j0=>wpAny (model prog w) (A.over c fs) (Yau x) (fun it J1=>∀ p,Yj (model prog w) A R Y n s₀ (.forLoop target it body orelse env) ((model prog w).den (.forLoop target it body orelse env))
    (.ret (Zy3 env K H gd lv) none (gd false) (lv []) c p []::fs) J1) (fun x s'=>Yj (model prog w) A R Y n s₀ c (H x) fs s') j0) (fun x s'=>Yj (model prog w) A R Y n s₀ c (H x) fs s') s) :
  Yj (model prog w) A R Y n s₀ c ((exec (.For target iter body orelse pos) env).wrap K H gd lv) fs s:=by
 refine XC (Zbz (XC (Zy h (fun x j0 Q0=>?_) fun J J e=>e)))
 refine XC (Kq (hf x) (XC (Zbz (XC (Yl (Zy Q0 (fun it J1 G3=>?_) fun J J e=>e))))))
 exact seg_call G3
theorem Ze8 {target:Expr}{it:Value}{body orelse:List Stmt}{H':Value->Sem Fin}(hH:H'=fun x=>(do Yhz x env;Zk4 x:Sem Unit).wrap (fun J=>.raise x) .raise id id)
  (h:wpAny (model prog w) (A.over (.forLoop target it body orelse env) fs) (Za3 it) (fun r s'=>match r with
   | none=>Yj (model prog w) A R Y n s₀ (.block orelse env) ((model prog w).den (.block orelse env)) fs s'
   | some v=>wpAny (model prog w) (A.over (.forLoop target it body orelse env) fs) (letOwnedTupleGo target it v) (fun J j0=>wpAny (model prog w) (A.over (.forLoop target it body orelse env) fs) (Zin target env v) (fun J J1=>
     Yj (model prog w) A R Y n s₀ (.forLoop target it body orelse env) ((execs body env).wrap (fun f=>match f with
      | .next | .cont=>.pure (.again (.forLoop target it body orelse env))
      | .brk=>.pure (.done .next)
      | .ret v=>.pure (.done (.ret v))) H' id id) fs J1)
     (fun x s'=>Yj (model prog w) A R Y n s₀ (.forLoop target it body orelse env) (H' x) fs s') j0) (fun x s'=>Yj (model prog w) A R Y n s₀ (.forLoop target it body orelse env) (H' x) fs s') s')
   (fun x s'=>Yj (model prog w) A R Y n s₀ (.forLoop target it body orelse env) (H' x) fs s') s) :
  Yj (model prog w) A R Y n s₀ (.forLoop target it body orelse env) ((model prog w).den (.forLoop target it body orelse env)) fs s:=by
 subst hH
 show Yj _ A R Y n s₀ _ ((forTurn target it body orelse env).onRaise (fun x=>do Yhz x env;Zk4 x)) fs s
 rw [Sem.onRaise_eq_wrap]
 have eH:(fun e=>(do Yhz e env;Zk4 e:Sem Unit).bind fun J=>(.raise e:Sem Fin))=fun e=>(do Yhz e env;Zk4 e:Sem Unit).wrap (fun J=>.raise e) .raise id id:=by
  funext e;rw [Sem.bind_eq_wrap]
 refine (eH)▸?_
 refine XC (Zbz (XC (wpAny_onRaise (Zy h (fun r s' hr=>?_) fun J J e=>Zbz e))))
 cases r with
 | none=>exact Ztf rfl hr
 | some v=>
  refine XC (Zy hr (fun J j0 Q0=>XC (Zy Q0 (fun J J1 G3=>?_) fun J J e=>e)) fun J J e=>e)
  rw [Zn3,Zxi]
  refine Eq.mp (congrArg (fun t=>Yj (model prog w) A R Y n s₀ _ t fs J1) (Sem.wrap_congr (execs body env) _ _ (fun f=>?_) fun e=>?_)) G3
  ·cases f <;> rfl
  ·rfl
end
end
theorem Yg7 {A:Yg}{n:Nat}(h:AOK A (n + 1))(b:List Stmt)(e:Env):AOK (A.in1.over (.func b e) []) n:=by
 refine ⟨h.1,?_,?_⟩
 ·have:=h.2
  show A.depth + 0 + 1 + 6 * n<=700
  omega
 ·have:=h.3
  show A.units + 1 + 0 + 3 * 1 + 40 * n<=5000
  omega
theorem Ykq {A:Yg}{n:Nat}(h:AOK A (n + 1))(b:List Stmt)(e e':Env)(t:Xh)(it:Value)(b' o:List Stmt)(k:Zbm->Sem XF)(g:Bool)(l:List Value)(p:Pos):AOK (A.in1.over (.forLoop t it b' o e') [.ret k none g l (.func b e) p []]) n:=by
 refine ⟨h.1,?_,?_⟩
 ·have:=h.2
  show A.depth + (1 + 0) + 0 + 6 * n<=700
  omega
 ·have:=h.3
  show A.units + 1 + (3 * 1 + 0) + 3 * 0 + 40 * n<=5000
  omega
section
variable {P:List Addr}
noncomputable def G0 (G:GC):GC:={ G with T:=[] }theorem Ypg (C:GOK G):GOK (G0 G):=⟨C.sys,C.glob,C.nolimit,C.kin,C.cls,C.own,C.acc,C.bmod,C.nsmap⟩noncomputable abbrev st0 (lv:Nat->Option V):St:=⟨fun J=>none,lv,fun J=>none⟩noncomputable def Δ0:Dl:=⟨fun J J J J=>False,False,fun J J=>False⟩theorem dv0:DV (G0 G) Δ0 0:=⟨fun J J J J J J J J J J J J J h=>h.elim,fun h=>h.elim,fun J J J J J J J J J J J J J J h=>h.elim,fun J J h=>h.elim⟩
theorem RS.wake (R:RS (G0 G) env (st0 lv) s)(hL:env.locals∈P)(a:Alive G P s s''):RS (G0 G) env (st0 lv) s'':=by
 exact ⟨R.fr.imp fun J F=>⟨⟨F.1.ns.at' fun o e=>(a.at_ _ hL).trans e,a.base,F.1.above⟩,Zdc a.imk F.2⟩,fun J J e=>nn rfl e,fun J J e=>nn rfl e,fun J h=>(nomatch h),a.bare,a.os⟩theorem RS.gens (R:RS G env st s){g:Array Uh}(h:Ir g):RS G env st { s with gens:=g }:=⟨R.fr,R.den,R.cel,R.tab,h,R.os⟩
theorem Stp.chg0 {st':St}{hP:env.locals∈P}(S:Stp (G0 G) env (st0 lv) st' s s')(hb:Ir s'.gens)(ho:s'.os=s.os)(ht:0 < s'.toks):Chg P [] s s':=
 ⟨fun b o hbP e=>S.keep b o e rfl (fun q=>hbP (q▸hP)) (fun J h=>(nomatch h)),fun k x J e=>S.gens k x e,fun J=>hb,ho,fun J=>ht⟩
theorem Chg.trans {GP:List Nat}(a:Chg P GP s s')(b:Chg P GP s' s''):Chg P GP s s'':=
 ⟨fun x o h e=>b.heap x o h (a.heap x o h e),fun k x h e=>b.gens k x h (a.gens k x h e),fun h=>b.bare (a.bare h),b.os.trans a.os,fun h=>b.tok (a.tok h)⟩theorem Chg.refl {GP:List Nat}:Chg P GP s s:=⟨fun J J J e=>e,fun J J J e=>e,id,rfl,id⟩noncomputable def scE:Sc:=[(147,.local),(148,.local),(149,.local),(131,.local),(150,.globalImplicit)]
set_option genInjectivity false in
set_option genSizeOf false in
structure Esc where
 st1:Stmt
 st2:Stmt
 st3:Stmt
 st4:Stmt
 es:List Expr
 ek:Nat
 ep:Pos
 fx:Str
 fp:Pos
 arg:Expr
 cp:Pos
 t1:Expr
 t2:Expr
 t3:Expr
 y1:Expr
 y2:Expr
 y3:Expr
 p:Nat->Pos
noncomputable abbrev Esc.tgt (x:Esc):Expr:=.Tuple x.es x.ek x.ep
noncomputable abbrev Esc.iter (x:Esc):Expr:=.Call (.Name x.fx x.fp) [x.arg] [] x.cp
noncomputable abbrev Esc.turn (x:Esc):List Stmt:=[.If x.t1 [.Expr (.Yield (some x.y1) (x.p 0)) (x.p 1),x.st3] [.If x.t2 [x.st4] [.Expr (.Yield (some x.y2) (x.p 2)) (x.p 3)] (x.p 4)] (x.p 5)]noncomputable abbrev Esc.last (x:Esc):Stmt:=.If x.t3 [.Expr (.Yield (some x.y3) (x.p 6)) (x.p 7)] [] (x.p 8)noncomputable abbrev Esc.body (x:Esc):List Stmt:=[x.st1,x.st2,.For x.tgt x.iter x.turn [] (x.p 9),x.last]
structure Zod (x:Esc):Prop where
 st1:SS scE x.st1 (YM 148 (xV (.int 0)))
 st2:SS scE x.st2 (YM 149 (xV (.bool false)))
 st3:SS scE x.st3 (YM 149 (xV (.bool false)))
 st4:SS scE x.st4 (YM 149 (xV (.bool true)))
 tg:Zr4 scE [148,131] x.es
 fx:nm 150=x.fx
 arg:∃ q,x.arg= .Name (nm 147) q
 t1:SB scE x.t1 (bV (xLc 149))
 t2:SB scE x.t2 (YC .Eq (xLc 131) (xV (.str [92])))
 t3:SB scE x.t3 (bV (xLc 149))
 y1:SX scE x.y1 (Zc1 (Zk (xLc 148) (Zk (Xv .Add (xV (.str [92])) (xLc 131)) ZD)))
 y2:SX scE x.y2 (Zc1 (Zk (xLc 148) (Zk (xLc 131) ZD)))
 y3:SX scE x.y3 (Zc1 (Zk (xLc 148) (Zk (xV (.str [92])) ZD)))
 fold:∀ env v,foldedSetIterable x.iter env v=pure v
def Zk0 (G:GC)(P:List Addr)(L:List V)(m:Nat)(s₀:Zd)(v:Value)(s:Zd)(kap:Resume->Zd->Prop):Prop:=(∃ u,L[L.length - 1 - m]? = some u/\VR s.heap u v)/\(∀ a∈P,∃ o,s.heap.get? a=some o/\¬ imm o)/\Chg P [] s₀ s/\(∀ s'',Alive G P s s''->kap (.send .none) s'')def Zk0.u (z:@Zk0 G P L m s₀ v s kap):=z.1
def Zk0.o (z:@Zk0 G P L m s₀ v s kap):=z.2.1
def Zk0.c (z:@Zk0 G P L m s₀ v s kap):=z.2.2.1
def Zk0.k (z:@Zk0 G P L m s₀ v s kap):=z.2.2.2
noncomputable def Ybn (G:GC)(P:List Addr)(L:List V):Zmd:=fun m s₀ v s kap=>Zk0 G P L m s₀ v s kap
noncomputable def Zoz (P:List Addr):GenEnd:=fun n s₀ r j0=>r= .ok (.ret .none)/\n=0/\Chg P [] s₀ j0
def KL (env:Env)(s s':Zd):Prop:=(∀ b o,b≠env.locals->s.heap.get? b=some o->s'.heap.get? b=some o)/\(∀ (k:Nat) x,s.gens[k]? = some x->s'.gens[k]? = some x)/\(s'.os=s.os)def KL.heap (z:@KL env s s'):=z.1
def KL.gens (z:@KL env s s'):=z.2.1
def KL.os (z:@KL env s s'):=z.2.2
theorem KL.trans (a:KL env s s')(b:KL env s' s''):KL env s s'':=⟨fun x o h e=>b.heap x o h (a.heap x o h e),fun k x e=>b.gens k x (a.gens k x e),b.os.trans a.os⟩theorem KL.chg (a:KL env s s')(hL:env.locals∈P)(hb:Ir s'.gens)(ht:0 < s'.toks):Chg P [] s s':=⟨fun b o hb e=>a.heap b o (fun q=>hb (q▸hL)) e,fun k x J e=>a.gens k x e,fun J=>hb,a.os,fun J=>ht⟩theorem KL.of {st':St}(S:Stp (G0 G) env (st0 lv) st' s s')(ho:s'.os=s.os):KL env s s':=⟨fun b o h e=>S.keep b o e rfl h (fun J h=>(nomatch h)),S.gens,ho⟩noncomputable abbrev σ0:Hp:=fun J=>none
inductive Is {α:Type}(v:α):α->Hp->Prop | mk:Is v v σ0
inductive IsS (st:St):Fl->St->Prop | mk:IsS st .next st
theorem use_X {sc:Sc}{n:Nat}{e:Expr}{f:FX}(h:SX sc e f)(X:Cx (G0 G) Δ0 n env A sc){v0:V}(ht:0 < s.toks)(R:RS (G0 G) env (st0 lv) s)(hf:∀ Q:V->Hp->Prop,Q v0 σ0->f Δ0 lv (fun J=>none) Q σ0){E:Value->Zd->Prop}{K:Value->Zd->Prop}
  (k:∀ x j0,0 < j0.toks->RS (G0 G) env (st0 lv) j0->KL env s j0->VR j0.heap v0 x->K x j0):wpAny (model G.prog G.w) A (eval e env) K E s:=by
 exact h.then X (Q:=Is v0) ht R (hf _ .mk) fun v x W0 j0 V1 J0 V0 J2 e=>match v,W0,e,J0,V0,J2 with | _,_,.mk,J0,V0,J2=>k x j0 V1 J0 (.of V0 (J0.os.trans R.os.symm)) J2
theorem Ycw {sc:Sc}{n:Nat}{e:Expr}{f:FB}(h:SB sc e f)(X:Cx (G0 G) Δ0 n env A sc){v0:Bool}(ht:0 < s.toks)(R:RS (G0 G) env (st0 lv) s)(hf:∀ Q:Bool->Hp->Prop,Q v0 σ0->f Δ0 lv (fun J=>none) Q σ0){E:Value->Zd->Prop}{K:Bool->Zd->Prop}
  (k:∀ j0,0 < j0.toks->RS (G0 G) env (st0 lv) j0->KL env s j0->K v0 j0):wpAny (model G.prog G.w) A (Zt7 e env (eval e env)) K E s:=by
 exact h.then X (Q:=Is v0) ht R (hf _ .mk) fun v W0 j0 V1 J0 V0 e=>match v,W0,e,J0,V0 with | _,_,.mk,J0,V0=>k j0 V1 J0 (.of V0 (J0.os.trans R.os.symm))
theorem Yl3 {sc:Sc}{n:Nat}{t:Stmt}{F:FS}(h:SS sc t F)(X:Cx (G0 G) Δ0 n env A sc){lv':Nat->Option V}(ht:0 < s.toks)(R:RS (G0 G) env (st0 lv) s)(hf:∀ Q:Fl->St->Prop,Q .next (st0 lv')->F Δ0 Q (st0 lv)){E:Value->Zd->Prop}{K:Flow->Zd->Prop}
  (k:∀ j0,0 < j0.toks->RS (G0 G) env (st0 lv') j0->KL env s j0->K .next j0):wpAny (model G.prog G.w) A (exec t env) K E s:=by
 exact h.then X (Q:=IsS (st0 lv')) ht R (hf _ .mk) fun f fl O2 j0 V1 J0 V0 fr e=>match f,O2,e,J0,V0,fr with | _,_,.mk,J0,V0,fr=>fr.nE (k j0 V1 J0 (.of V0 (J0.os.trans R.os.symm)))
theorem Zi9 {sc:Sc}{k n:Nat}{L:List V}{c:Code}{fs:List Frame}{e:Expr}{yp p:Pos}{f:FX}{K:Flow->Sem XF}{H:Value->Sem XF}{gd:Bool->Bool}{lvs:List Value->List Value}(h:SX sc e f)(X:Cx (G0 G) Δ0 k env (A.over c fs) sc){v0:V}
  (ht:0 < s.toks) (R:RS (G0 G) env (st0 lv) s) (hf:∀ Q:V->Hp->Prop,Q v0 σ0->f Δ0 lv (fun J=>none) Q σ0) (hL:env.locals∈P) (hP:∀ a∈P,∃ o,s.heap.get? a=some o/\¬ imm o) (c0:Chg P [] s₀ s) (hi:L[L.length - 1 - n]? = some v0)
  (hfs:Yac fs=none) (hgd:gd false=false) (hfg:fs.any Zk7=false)
  (cont:∀ j0 s'',KL env s j0->RS (G0 G) env (st0 lv) j0->Alive G P j0 s''->Yj (model G.prog G.w) A (Zoz P) (Ybn G P L) n s'' c (K .next) fs s'') :
  Yj (model G.prog G.w) A (Zoz P) (Ybn G P L) (n + 1) s₀ c ((exec (.Expr (.Yield (some e) yp) p) env).wrap K H gd lvs) fs s:=by
 refine seg_Expr_Yield hfs hgd hfg (use_X h X ht R hf fun x j0 V1 J0 kl J2=>?_) X.hE.co (by simp [Zma,X.hE.kind])
 exact fun kap hk=>⟨⟨v0,hi,J2⟩,fun a ha=>if q:a=env.locals then J0.fr.elim fun J F=>F.1.ns.elim fun J z=>z.elim fun J z=>z.elim fun J z=>⟨_,q▸z.1,Zcj z.2.1⟩ else (hP a ha).imp fun J z=>⟨kl.heap a _ q z.1,z.2⟩,c0.trans (kl.chg hL J0.bare V1),fun s'' al=>hk .none s'' (cont j0 s'' kl J0 al)⟩
end
section
variable {P:List Addr}
def Zqq (lv:Nat->Option V)(i:Nat)(e:Bool):Prop:=(lv 149=some (.bool e))/\(e=true->lv 148=some (.int ((i:Int) - 1)))def Zqq.esc (z:@Zqq lv i e):=z.1
def Zqq.pos (z:@Zqq lv i e):=z.2
open Builtin Builtin.Str in
theorem Zrs {prog:YL}{w:World}{E:Value->Zd->Prop}{e it:Addr}{x:Str}{t:Tok}{i:Int}{j:Nat}{old:Value}{Q:Option Value->Zd->Prop}(hh:A.in1.in1.handled=none)(he:IsEnum s.heap e it i old)(hit:s.heap.IsStrIter it "str_ascii_iterator" x t j)(hx:x.cps[j]? = none)
  (hQ:∀ h',XN it s.heap h'->(∃ o vs,h'.get? it=some o/\o.cls= .type "str_ascii_iterator"/\o.data= .fields vs)->Q none { s with heap:=h' }):wpAny (model prog w) A (Za3 (.ref e)) Q E s:=by
 have hz0:=id hit
 let o:=hz0.choose
 have hq0:=hz0.choose_spec
 have ho:=hq0.1
 have hc:=hq0.2.1
 have hd:=hq0.2.2
 have hT:s.TypeIs (.ref e) "enumerate":=⟨_,he,rfl⟩
 refine Zc (Ia (Kw (name:=Zz "__next__") hT Zol
  (Y9 Zol hT PySem.F.entry_enumerate_next ?_ (PySem.F.args_enumerate_next_1 _))))
 refine (wbD he rfl (x:=.ref it) rfl ?_)
 have fin:∀ h' y,XN it s.heap h'->(∃ o vs,h'.get? it=some o/\o.cls= .type "str_ascii_iterator"/\o.data= .fields vs)->(∃ o,h'.get? y=some o/\o.cls= .type "StopIteration")->wpAny (model prog w) A (UG (.ref y) (.type "StopIteration")) (fun b s'=>b=true/\Q none s') E { s with heap:=h' }:=fun h' y a b ⟨o,ho,hc⟩=>
  Zi3 (T:="StopIteration") (b:=true) ⟨o,ho,hc⟩ Zg8 ⟨rfl,hQ _ a b⟩
 refine Zc ?_
 refine Zc (Kw (name:=Zz "__next__") hit.typeIs Zjt
  (Y9 Zjt hit.typeIs PySem.F.entry_str_ascii_iterator_next ?_ (PySem.F.args_str_ascii_iterator_next_1 _)))
 refine (wbD ho hd (x:=.str x t) rfl ?_)
 refine (wbD ho hd (x:=.int j 0) rfl ?_)
 simp only [Km,hx]
 refine (wbR ((wbU ho hd (Za rfl) ((wbG ?_)))))
 refine Zc ?_
 refine Zc (Z7 ?_ (by size_fits))
 refine Zc (m:=Za5 _ _) (Kq (a:=Xo) (by first | rfl | (simp only [Za5];rfl)) ?_)
 refine Z7 ?_ (by size_fits)
 refine Zc (Zoh ?_)
 refine (hh).symm▸?_
 refine (wbP (Zvb ?_))
 refine (wbM (fin _ _ (((ZV ..).extBut.push _).push _) ?_ ⟨_,Zq _ rfl,rfl⟩) (fun b s' ⟨hb,q⟩=>?_) fun J J e=>e)
 ·exact ⟨_,_,Zg _ (Zg _ (Ye _ ho (Ycj (Zf9 hd _)))),(Ym1 ..).trans hc,Zf9 hd _⟩
 ·subst hb
  exact Ze q
theorem Zrp {α:Type}{L pre r:List α}{u:α}(h:L=pre++u::r):L[L.length - 1 - r.length]? = some u:=by
 subst h
 have:(pre++u::r).length - 1 - r.length=pre.length:=by simp
 rw [this,XM (Zm _),Zdp];rfl
def Zjx (en it:Addr)(tx:Tx)(tt:Tok)(i:Nat)(s:Zd):Prop:=(∃ old,IsEnum s.heap en it i old)/\s.heap.IsStrIter it "str_ascii_iterator" (sT tx) tt i
theorem Zjx.at' {en it:Addr}{tx:Tx}{tt:Tok}{i:Nat}(h:Zjx en it tx tt i s)(h1:∀ o,s.heap.get? en=some o->s'.heap.get? en=some o)(h2:∀ o,s.heap.get? it=some o->s'.heap.get? it=some o):Zjx en it tx tt i s':=
 ⟨h.1.imp fun J e=>h1 _ e,h.2.imp fun J z=>⟨h2 _ z.1,z.2⟩⟩def Zci (G:GC)(env:Env)(P:List Addr)(en it:Addr):Prop:=(env.locals∈P)/\(en∈P)/\(it∈P)/\(∀ p:Addr->Prop,p env.locals->p en->p it->∀ a∈P,p a)/\(en≠it)/\(en≠env.locals)/\(it≠env.locals)/\(G.B.get? en=none)/\(G.B.get? it=none)def Zci.l (z:@Zci G env P en it):=z.1
def Zci.e (z:@Zci G env P en it):=z.2.1
def Zci.i (z:@Zci G env P en it):=z.2.2.1
def Zci.all (z:@Zci G env P en it):=z.2.2.2.1
def Zci.ei (z:@Zci G env P en it):=z.2.2.2.2.1
def Zci.el (z:@Zci G env P en it):=z.2.2.2.2.2.1
def Zci.il (z:@Zci G env P en it):=z.2.2.2.2.2.2.1
def Zci.be (z:@Zci G env P en it):=z.2.2.2.2.2.2.2.1
def Zci.bi (z:@Zci G env P en it):=z.2.2.2.2.2.2.2.2
theorem Yox {h:Heap}{a:Addr}{m:Str->Option Value}(x:h.Ns a m):∃ o,h.get? a=some o/\¬ imm o:=x.imp fun J z=>z.elim fun J z=>z.elim fun J z=>⟨z.1,Zcj z.2.1⟩def Nim (s:Zd)(a:Addr):Prop:=∃ o,s.heap.get? a=some o/\¬ imm o
theorem Zov {p:Addr->Prop}{x y:Addr}(h1:p x)(h2:p y):∀ a∈[x,y],p a:=Zi.mpr ⟨h1,Zi.mpr ⟨h2,Yp _⟩⟩theorem Ye2 {p:Addr->Prop}{x y z:Addr}(h1:p x)(h2:p y)(h3:p z):∀ a∈[x,y,z],p a:=Zi.mpr ⟨h1,Zov h2 h3⟩theorem Chg.sub {P':List Addr}{GP:List Nat}(c:Chg P GP s s')(h:∀ a∈P,a∈P'):Chg P' GP s s':=⟨fun b o hb e=>c.heap b o (fun q=>hb (h b q)) e,c.gens,c.bare,c.os,c.tok⟩
section
variable {en it:Addr}{tx:Tx}{tt:Tok}{i:Nat}
theorem Zy7 {h:Heap}{e it:Addr}{i:Int}{old:Value}(x:IsEnum h e it i old):∃ o,h.get? e=some o/\¬ imm o:=⟨_,x,Za0 rfl rfl (by decide)⟩theorem Zjx.enn (h:Zjx en it tx tt i s):Nim s en:=h.1.elim fun J e=>Zy7 e
theorem Zjx.itn (h:Zjx en it tx tt i s):Nim s it:=h.2.imp fun J z=>⟨z.1,Za0 z.2.2 z.2.1 (by decide)⟩theorem RS.locn {st:St}(R:RS G env st s):Nim s env.locals:=R.fr.elim fun J F=>Yox F.1.ns
theorem Zci.objs (S:Zci G env P en it){st:St}(R:RS (G0 G) env st s)(h:Zjx en it tx tt i s):∀ a∈P,Nim s a:=S.all (Nim s) R.locn h.enn h.itn
theorem Zci.chg (S:Zci G env P en it)(R:RS (G0 G) env (st0 lv) s)(h1:Nim s en)(h2:Nim s it)(c:Chg [en,it] [] s s'):RS (G0 G) env (st0 lv) s':=
 R.chg (Zov ⟨rfl,S.el,fun J h=>(nomatch h),S.be⟩ ⟨rfl,S.il,fun J h=>(nomatch h),S.bi⟩) (fun a ha o e=>(Zov (p:=Nim s) h1 h2 a ha).elim fun J z=>si z.1 e▸z.2) c
theorem Zci.up (S:Zci G env P en it)(c:Chg [en,it] [] s s'):Chg P [] s s':=c.sub (Zov S.e S.i)theorem Zci.kl (S:Zci G env P en it)(h:Zjx en it tx tt i s)(k:KL env s s'):Zjx en it tx tt i s':=h.at' (fun J e=>k.heap _ _ S.el e) fun J e=>k.heap _ _ S.il e
theorem Zci.wake (S:Zci G env P en it)(h:Zjx en it tx tt i s)(a:Alive G P s s'):Zjx en it tx tt i s':=h.at' (fun J e=>(a.at_ en S.e).trans e) fun J e=>(a.at_ it S.i).trans e
end
abbrev Ylk (G:GC)(A:Yg)(P:List Addr)(L:List V)(n:Nat)(s₀:Zd)(c:Code)(t:Sem XF)(fs:List Frame)(s:Zd):Prop:=Yj (model G.prog G.w) A (Zoz P) (Ybn G P L) n s₀ c t fs s
def Zk1 (G:GC)(env:Env)(P:List Addr)(en it:Addr)(tx:Tx)(tt:Tok)(L:List V)(i:Nat)(e:Bool)(lv:Nat->Option V)(s₀ s:Zd):Prop:=Zqq lv i e/\(0 < s.toks)/\RS (G0 G) env (st0 lv) s/\Chg P [] s₀ s/\Zjx en it tx tt i s/\(∃ pre,L=pre++escL i e (tx.drop i))def Zk1.el {it}(z:@Zk1 G env P en it tx tt L i e lv s₀ s):=z.1
def Zk1.t {it}(z:@Zk1 G env P en it tx tt L i e lv s₀ s):=z.2.1
def Zk1.R {it}(z:@Zk1 G env P en it tx tt L i e lv s₀ s):=z.2.2.1
def Zk1.c {it}(z:@Zk1 G env P en it tx tt L i e lv s₀ s):=z.2.2.2.1
def Zk1.it {it}(z:@Zk1 G env P en it tx tt L i e lv s₀ s):=z.2.2.2.2.1
def Zk1.p {it}(z:@Zk1 G env P en it tx tt L i e lv s₀ s):=z.2.2.2.2.2
def Zlo (G:GC)(env:Env)(P:List Addr)(tx:Tx)(L:List V)(e:Bool)(lv:Nat->Option V)(s₀ s:Zd):Prop:=Zqq lv tx.length e/\(0 < s.toks)/\RS (G0 G) env (st0 lv) s/\Chg P [] s₀ s/\(∀ a∈P,Nim s a)/\(∃ pre,L=pre++escL tx.length e [])def Zlo.el (z:@Zlo G env P tx L e lv s₀ s):=z.1
def Zlo.t (z:@Zlo G env P tx L e lv s₀ s):=z.2.1
def Zlo.R (z:@Zlo G env P tx L e lv s₀ s):=z.2.2.1
def Zlo.c (z:@Zlo G env P tx L e lv s₀ s):=z.2.2.2.1
def Zlo.o (z:@Zlo G env P tx L e lv s₀ s):=z.2.2.2.2.1
def Zlo.p (z:@Zlo G env P tx L e lv s₀ s):=z.2.2.2.2.2
theorem n2k:2<=1000:=by decide
theorem n2h:2<=100000:=by decide
theorem esc_yes (i:Nat)(r:Tx):escL i false (92::r)=escL (i + 1) true r:=if_pos rfl
theorem Ypl (i:Nat){c:Nat}(h : ¬ c=92)(r:Tx):escL i false (c::r)= .tup [.int i,.str [c]]::escL (i + 1) false r:=if_neg h
theorem esc_esc (i c:Nat)(r:Tx):escL i true (c::r)= .tup [.int i,.str [92,c]]::escL (i + 1) false r:=rfl
theorem Zzl {α:Type}{L pre l:List α}{u:α}(h:L=pre++u::l):∃ pre,L=pre++l:=⟨pre++[u],h.trans (List.append_cons ..)⟩theorem Yeo {c:Nat}:([c]:Tx)=[92]↔c=92:=⟨fun h=>(Xg h).1,fun h=>h▸rfl⟩def Zxo (lv:Nat->Option V)(i c:Nat)(e:Bool):Prop:=(lv 148=some (.int i))/\(lv 131=some (.str [c]))/\(lv 149=some (.bool e))def Zxo.pos (z:@Zxo lv i c e):=z.1
def Zxo.ch (z:@Zxo lv i c e):=z.2.1
def Zxo.esc (z:@Zxo lv i c e):=z.2.2
theorem Ygb {x:Esc}(O:Zod x){tx:Tx}{tt:Tok}{en it:Addr}{A1 A2:Yg}{cl:Code}{fs:List Frame}(X':Cx (G0 G) Δ0 0 env A2 scE)(S:Zci G env P en it)(h1:Yac fs=none)(h2:fs.any Zk7=false)(hA2:A1.over cl fs=A2){L:List V}{i c:Nat}{e:Bool}(hl:Zxo lv i c e)
  (t:0 < s.toks) (R:RS (G0 G) env (st0 lv) s) (c0:Chg P [] s₀ s) (hi:Zjx en it tx tt (i + 1) s) (hpre:∃ pre,L=pre++escL i e (c::tx.drop (i + 1))) {K1:Flow->Sem XF} {H:Value->Sem XF}
  (ag:∀ (e':Bool) (lv':Nat->Option V) (m5 s6:Zd),Zk1 G env P en it tx tt L (i + 1) e' lv' m5 s6->Ylk G A1 P L (escL (i + 1) e' (tx.drop (i + 1))).length m5 cl (K1 .next) fs s6):Ylk G A1 P L (escL i e (c::tx.drop (i + 1))).length s₀ cl ((execs x.turn env).wrap K1 H id id) fs s:=by
 subst hA2
 have p1:∀ {v:V} {l:List V} {pre:List V},L=pre++v::l->∃ pre,L=pre++l:=Zzl
 have hi4:=fun {s'} k=>S.kl (s':=s') hi k
 refine Ud (Zm2 (Ycw O.t1 X' t R (v0:=e) (fun Q q=>⟨hl.esc,⟨e,rfl,q⟩⟩) fun s4 t4 R4 kl4=>⟨fun hee=>?_,fun hee=>?_⟩))
 ·subst hee
  let pre:=hpre.choose
  have hq0:=hpre.choose_spec
  have hL:=hq0
  refine Ud (Zi9 (n:=(escL (i + 1) false (tx.drop (i + 1))).length) (v0:=.tup [.int i,.str [92,c]]) O.y1 X' t4 R4 (fun Q q=>⟨hl.pos,hl.ch,.addS n2h ⟨(fun h=>nomatch h),n2k,q⟩⟩) S.l (S.objs R4 (hi4 kl4)) (c0.trans (kl4.chg S.l R4.bare t4)) (Zrp hL) h1 rfl h2 (fun s5 s'' kl5 R5 al=>?_))
  exact Zia (Yl3 O.st3 X' al.tok (R5.wake S.l al) (lv':=upd lv 149 (.bool false)) (fun Q q=>q) fun s6 t6 R6 kl6=>⟨rfl,Xd (Xd
   (ag false (upd lv 149 (.bool false)) s'' s6 ⟨⟨rfl,fun h=>nomatch h⟩,t6,R6,kl6.chg S.l R6.bare t6,S.kl (S.wake (hi4 (kl4.trans kl5)) al) kl6,p1 hL⟩))⟩)
 ·subst hee
  refine Ud (Zm2 (Ycw O.t2 X' t4 R4 (v0:=decide (([c]:Tx)=[92])) (fun Q q=>⟨hl.ch,⟨_,.inl rfl,q⟩⟩) fun s5 t5 R5 kl5=>⟨fun hcc=>?_,fun hcc=>?_⟩))
  ·obtain rfl:=Yeo.mp (of_decide_eq_true hcc)
   exact Zia (Yl3 O.st4 X' t5 R5 (lv':=upd lv 149 (.bool true)) (fun Q q=>q) fun s6 t6 R6 kl6=>⟨rfl,Xd (Xd (Xd
    (ag true (upd lv 149 (.bool true)) s₀ s6 ⟨⟨rfl,fun J=>hl.pos.trans (congrArg (some∘V.int) (XQ (i:Int) 1).symm)⟩,t6,R6,c0.trans (((kl4.trans kl5).trans kl6).chg S.l R6.bare t6),hi4 ((kl4.trans kl5).trans kl6),hpre⟩)))⟩)
  ·have hc92 : ¬ c=92:=fun q=>of_decide_eq_false hcc (Yeo.mpr q)
   rw [Ypl i hc92] at hpre⊢
   have hL:=(hpre.choose_spec)
   exact Ud (Zi9 (n:=(escL (i + 1) false (tx.drop (i + 1))).length) (v0:=.tup [.int i,.str [c]]) O.y2 X' t5 R5 (fun Q q=>⟨hl.pos,hl.ch,⟨(fun h=>nomatch h),n2k,q⟩⟩) S.l (S.objs R5 (hi4 (kl4.trans kl5))) (c0.trans ((kl4.trans kl5).chg S.l R5.bare t5)) (Zrp hL) h1 rfl h2 fun s6 s'' kl6 R6 al=>
    Xd (Xd (Xd (ag false _ s'' s'' ⟨⟨hl.esc,fun h=>nomatch h⟩,al.tok,R6.wake S.l al,.refl,S.wake (hi4 ((kl4.trans kl5).trans kl6)) al,p1 hL⟩))))
theorem Ygc {x:Esc}(O:Zod x)(C:GOK G)(hE:EOK env scE){tx:Tx}{tt:Tok}{en it:Addr}(S:Zci G env P en it){A1 A2:Yg}{cl:Code}(hcl:cl= .forLoop x.tgt (.ref en) x.turn [] env){fs:List Frame}(h1:Yac fs=none)(h2:fs.any Zk7=false)(hA2:A1.over cl fs=A2)(hA:AOK A2 4){L:List V}
  (fin:∀ (e:Bool) (lv:Nat->Option V) (s₀ s:Zd),Zlo G env P tx L e lv s₀ s->Ylk G A1 P L (escL tx.length e []).length s₀ (.block [] env) (leafOf (.ok .next)) fs s) :
  ∀ (k i:Nat) (e:Bool) (lv:Nat->Option V) (s₀ s:Zd),tx.length - i=k->i<=tx.length->Zk1 G env P en it tx tt L i e lv s₀ s->Ylk G A1 P L (escL i e (tx.drop i)).length s₀ cl ((model G.prog G.w).den cl) fs s:=by
 have X':Cx (G0 G) Δ0 0 env A2 scE:=⟨Ypg C,dv0,hE,hA.mono (by decide)⟩
 subst hcl
 intro k
 induction k with
 | zero=>
  intro i e lv s₀ s hk hle I
  obtain ⟨⟨old,he⟩,hi⟩:=I.it
  obtain rfl:i=tx.length:=Ziz hle (Nat.le_of_sub_eq_zero hk)
  rw [Zoo] at *
  refine Ze8 rfl (hA2▸Zrs (A:=A2) hA.handled he hi (Zda (Zm _)) fun h' ex hw0=>?_)
  obtain ⟨o,vs,e1,e2,e3⟩:=hw0
  have c1:Chg [en,it] [] s { s with heap:=h' }:=⟨fun b o hb e=>ex b o (fun q=>hb (q▸.tail _ (.head _))) e,fun J J J e=>e,id,rfl,id⟩
  have R1:=S.chg I.R I.it.enn I.it.itn c1
  have:=I.p
  rw [Zoo] at this
  exact fin e lv s₀ _ ⟨I.el,I.t,R1,I.c.trans (S.up c1),S.all (Nim _) R1.locn (Zy7 (ex _ _ S.ei he)) ⟨o,e1,Za0 e3 e2 (by decide)⟩,this⟩
 | succ k ih=>
  intro i e lv s₀ s hk hle I
  have hlt:i < tx.length:=Ym3 (hk▸Z8 k)
  have hk':tx.length - (i + 1)=k:=by rw [Nat.sub_add_eq,hk];rfl
  obtain ⟨⟨old,he⟩,hi⟩:=I.it
  have hdrop:tx.drop i=tx[i]::tx.drop (i + 1):=Zu4 hlt
  refine Ze8 rfl (hA2▸wpAny_pyNext_enum_itemD (Draws.strAscii (prog:=G.prog) (w:=G.w) (A:=A2.in1) hA.handled it (sT tx) tt) he hi hlt S.ei (fun h=>S.ei (YX h)) fun v h' tk hw2 heo hst' htup hsz' hkp=>?_)
  obtain ⟨c,u,hc,ev⟩:=hw2
  subst ev
  obtain rfl:tx[i]=c:=Z1 ((ZG hlt).symm.trans ((Z0 ..).symm.trans hc))
  have c1:Chg [en,it] [] s { s with heap:=h',toks:=tk + 1 }:=⟨fun b o hb e=>hkp b o (fun q=>hb (q▸.head _)) (fun q=>hb (q▸.tail _ (.head _))) e,fun J J J e=>e,id,rfl,fun J=>Z8 _⟩
  have R1:=S.chg I.R I.it.enn I.it.itn c1
  refine wpAny_letOwnedTupleGo_enum heo fun g2 he2 sb2=>?_
  have c2:Chg [en,it] [] { s with heap:=h',toks:=tk + 1 } { s with heap:=g2,toks:=tk + 1 }:=⟨fun b o hb e=>(sb2.2 b (fun q=>hb (q▸.head _))).trans e,fun J J J e=>e,id,rfl,id⟩
  have hi1:Zjx en it tx tt (i + 1) { s with heap:=g2,toks:=tk + 1 }:=⟨⟨_,he2⟩,hst'.imp fun J z=>⟨(sb2.2 it S.ei.symm).trans z.1,z.2⟩⟩
  have R2:=S.chg R1 ⟨_,heo,Za0 rfl rfl (by decide)⟩ (hst'.imp fun J z=>⟨z.1,Za0 z.2.2 z.2.1 (by decide)⟩) c2
  refine (Zid (xs:=[148,131]) X'.hE hA.handled O.tg R2 (.tup (l:=[_,_]) (n:=0) ((sb2.2 _ (Xr (ZL he))).trans htup) (.cons (.int _ _) (.cons (.str [tx[i]] u) .nil))) rfl).to fun J s3 p=>?_
  have t3:0 < s3.toks:=Ym (Z8 tk) p.t
  have kl3:KL env { s with heap:=g2,toks:=tk + 1 } s3:=.of p.S (p.R.os.trans R2.os.symm)
  have c3:Chg P [] s₀ s3:=I.c.trans ((S.up (c1.trans c2)).trans (kl3.chg S.l p.R.bare t3))
  have hpos:(updL lv [148,131] [.int i,.str [tx[i]]]) 148=some (.int i):=rfl
  have hch:(updL lv [148,131] [.int i,.str [tx[i]]]) 131=some (.str [tx[i]]):=rfl
  have hesc:(updL lv [148,131] [.int i,.str [tx[i]]]) 149=some (.bool e):=I.el.esc
  have hpre:=I.p
  rw [hdrop] at hpre⊢
  exact Ygb O X' S h1 h2 hA2 ⟨hpos,hch,hesc⟩ t3 p.R c3 (S.kl hi1 kl3) hpre fun e' lv' m5 s6 I=>Ztf rfl (ih (i + 1) e' lv' m5 s6 hk' hlt I)
end
section
variable {P:List Addr}
theorem Zqc {sc:Sc}{M:Model}(hE:EOK env sc){m:Str}{x:Nat}{q p p':Pos}{k:Nat}{cst:Const}{v:V}{val:Value}{Q:Flow->Zd->Prop}{E:Value->Zd->Prop}(hn:nm x=m)(hk:sc.lookup x=some .local)(R:RS (G0 G) env (st0 lv) s)
  (hc:∀ (Q:Value->Zd->Prop),(∀ val t,s.toks<=t->VR s.heap v val->Q val { s with toks:=t })->wpAny M A (eval (.Constant cst k p') env) Q E s)
  (h:∀ s',s'.heap.objs.size=s.heap.objs.size->s.toks<=s'.toks->RS (G0 G) env (st0 (upd lv x v)) s'->KL env s s'->Q .next s'):wpAny M A (exec (.Assign [.Name m q] (.Constant cst k p') p) env) Q E s:=by
 subst hn
 refine Zd5 (hc _ fun val t ht rv=>?_) rfl
 have k:=R.ext (h':=s.heap) (t:=t) (d:=s.drawn) fun J J e=>e
 exact k.1.fr.elim fun mm F=>Zk8 (by rw [hE.kindOf,hk]) F.1.ns (fun h' hn hs=>
  have j:=k.1.store (d:=s.drawn) (t:=t + 1) F.1 F.2 rv hn hs
  h _ hs.1 (Zb ht (ZW _)) j.1 (.of (k.2.trans j.2) rfl)) (by rw [hE.kind];rfl)
theorem Yba {sc:Sc}{i:Nat}{v:V}{p:Pos}{Q:Value->Zd->Prop}{E:Value->Zd->Prop}{M:Model}(C:GOK G)(hE:EOK env sc)(R:RS (G0 G) env st s)(hk:sc.lookup i=some .globalImplicit)(hg:gt i=some v)(h:∀ x,VR s.heap v x->Q x s):wpAny M A (eval (.Name (nm i) p) env) Q E s:=by
 have F:=(R.fr.choose_spec).1
 have ik:Imk G.B s.heap:=fun b o e J=>F.keep b o e
 refine (C.glob i v hg).elim fun mg hr50=>hr50.elim fun hm hh=>?_
 refine Zme hE.kind (by rw [hE.kindOf,hk]) ?_ (Zcu i)
 rcases hh with ⟨x,hx,hv⟩ | ⟨hn,mb,x,hb,hx,hv⟩
 ·exact Zrj (hE.globals▸hm.keeps F.keep) hx (h _ (hv.mono ik))
 ·exact Zg7 (hE.globals▸hm.keeps F.keep) hn (hE.builtins▸hb.keeps F.keep) hx (h _ (hv.mono ik))
theorem Zfy {sc:Sc}{i:Nat}{v:V}{p:Pos}{Q:Value->Zd->Prop}{E:Value->Zd->Prop}{M:Model}(hE:EOK env sc)(R:RS (G0 G) env st s)(hk:sc.lookup i=some .local)(hv:st.lv i=some v)(h:∀ x,VR s.heap v x->Q x s):wpAny M A (eval (.Name (nm i) p) env) Q E s:=
 R.fr.elim fun m F=>(F.2 i v hv).elim fun x hx=>Zj3 (Zaa hE.kind (by rw [hE.kindOf,hk]) F.1.ns hx.1 (h _ hx.2)) (Zcu i)
theorem Ybm {x:Esc}(O:Zod x)(C:GOK G)(hE:EOK env scE){tx:Tx}(hasc:Zen tx=true)(hA:AOK A 5){m1 m2:Str}{q1 q2 p1 p2 c1 c2:Pos}{k1 k2:Nat}
  (e1:x.st1= .Assign [.Name m1 q1] (.Constant (.int 0) k1 c1) p1) (e2:x.st2= .Assign [.Name m2 q2] (.Constant (.bool false) k2 c2) p2) (hm1:nm 148=m1) (hm2:nm 149=m2)
  (ht:0 < s.toks) (R:RS (G0 G) env (st0 lv) s) (haddr:lv 147=some (.str tx)) :
  Yj (model G.prog G.w) A.in1 (Zoz [env.locals,s.heap.objs.size + 1,s.heap.objs.size]) (Ybn G [env.locals,s.heap.objs.size + 1,s.heap.objs.size] (escL 0 false tx)) (escL 0 false tx).length s (.func x.body env) ((model G.prog G.w).den (.func x.body env)) [] s:=by
 have hA':=Yg7 (n:=4) hA x.body env
 have X':Cx (G0 G) Δ0 0 env (A.in1.over (.func x.body env) []) scE:=⟨Ypg C,dv0,hE,hA'.mono (ZW _)⟩
 refine seg_func ?_
 show Yj _ _ _ _ _ _ _ ((execs [x.st1,x.st2,.For x.tgt x.iter x.turn [] (x.p 9),x.last] env).wrap _ _ _ _) _ _
 rw [e1,e2]
 have hL:env.locals < s.heap.objs.size:=by
  obtain ⟨m,F,_⟩:=R.fr;exact F.ns.lt
 refine Zia (Zqc (v:=.int 0) (val:=.int 0 0) hE hm1 rfl R (fun Q q=>Zor (q _ _ (ZW _) (.int 0 _))) fun s1 z1 t1 R1 k1=>⟨rfl,?_⟩)
 refine Zia (Zqc (v:=.bool false) (val:=.bool false) hE hm2 rfl R1 (fun Q q=>fun J J J=>q _ s1.toks (Zm _) (.bool false)) fun s2 z2 t2 R2 k2=>⟨rfl,?_⟩)
 have t2p:0 < s2.toks:=Ym ht (Zb t1 t2)
 have hz:s2.heap.objs.size=s.heap.objs.size:=z2.trans z1
 have ha2:(upd (upd lv 148 (.int 0)) 149 (.bool false)) 147=some (.str tx):=haddr
 have he2:(upd (upd lv 148 (.int 0)) 149 (.bool false)) 149=some (.bool false):=rfl
 generalize (upd (upd lv 148 (.int 0)) 149 (.bool false))=lv2 at ha2 he2 R2
 have hB:∀ a,s.heap.objs.size<=a->G.B.get? a=none:=fun a h=>Sn fun o q=>R2.fr.elim fun J F=>absurd (hz▸ZL (F.1.keep a o q)) (Ug.mpr h)
 refine Ud (Zyd (O.fold env) ?_)
 -- enumerate(addr)
 show wpAny _ _ (eval (.Call (.Name x.fx x.fp) [x.arg] [] x.cp) env) _ _ _
 rw [<-O.fx,((O.arg.choose_spec))]
 refine XJ (Yba C hE R2 rfl (v:=.bi .enum) rfl fun xv rv=>rv.biE ?_)
 refine YT rfl (YS rfl (Z6 (Zfy hE R2 rfl ha2 fun av ra=>ra.sE fun tt=>Yi (Iz .enum ?_))))
 refine call_enumerate_str fun h' hen hit hsz hk=>?_
 have hty:strIterType (sT tx)= "str_ascii_iterator":=by
  unfold strIterType
  rw [if_pos (by unfold Zen at hasc;simpa [sT] using hasc)]
 rw [hty] at hit
 rw [hz] at hen hit⊢
 refine wpAny_pyIter_enum hen fun pp=>?_
 have R3:=(R2.ext (h':=h') (t:=s2.toks) (d:=s2.drawn) hk).1
 have kl3:KL env s2 { s2 with heap:=h' }:=⟨fun b o J e=>hk b o e,fun J J e=>e,rfl⟩
 have S:Zci G env [env.locals,s.heap.objs.size + 1,s.heap.objs.size] (s.heap.objs.size + 1) s.heap.objs.size:=⟨.head _,.tail _ (.head _),.tail _ (.tail _ (.head _)),fun p a b c=>Ye2 a b c,Zpa _,Xr (YW hL),Xr hL,hB _ (ZW _),hB _ (Zm _)⟩
 generalize [env.locals,s.heap.objs.size + 1,s.heap.objs.size]=P at S⊢
 refine Ygc (tt:=tt) (L:=escL 0 false tx) O C hE S rfl rfl rfl rfl (Ykq (n:=4) hA x.body env env x.tgt _ x.turn [] _ _ _ pp) (fun e lv' s0' s' I=>seg_leaf (.ok .next) ?_) tx.length 0 false lv2 s { s2 with heap:=h' } rfl (Zr _) ⟨⟨he2,fun h=>nomatch h⟩,t2p,R3,((k1.trans k2).trans kl3).chg S.l R3.bare t2p,⟨⟨_,hen⟩,hit⟩,⟨[],rfl⟩⟩
 refine Ud (Zm2 (Ycw O.t3 X' I.t I.R (v0:=e) (fun Q q=>⟨I.el.esc,⟨e,rfl,q⟩⟩) fun s4 t4 R4 kl4=>⟨fun hee=>?_,fun hee=>?_⟩))
 ·subst hee
  exact Ud (Zi9 (n:=0) (v0:=.tup [.int ((tx.length:Int) - 1),.str [92]]) O.y3 X' t4 R4 (fun Q q=>⟨I.el.pos rfl,⟨(fun h=>nomatch h),n2k,q⟩⟩) S.l (fun a ha=>if q:a=env.locals then q▸R4.locn else (I.o a ha).imp fun J z=>⟨kl4.heap a _ q z.1,z.2⟩) (I.c.trans (kl4.chg S.l R4.bare t4)) (Zrp (r:=[]) ((I.p.choose_spec))) rfl rfl rfl fun s5 s'' kl5 R5 al=>
   Xd (Xd (seg_end (.ok (.ret .none)) ⟨rfl,rfl,.refl⟩)))
 ·subst hee
  exact Xd (Xd (seg_end (.ok (.ret .none)) ⟨rfl,rfl,I.c.trans (kl4.chg S.l R4.bare t4)⟩))
end
section
variable {P:List Addr}
theorem Ze9 {prog:YL}{w:World}{E:Value->Zd->Prop}{a:Addr}{g n:Nat}{gs:Uh}{Y:Zmd}{Q:Option Value->Zd->Prop}(hh:A.handled=none)
  (hl:s.heap.NoLimit) (hroom:A.depth < Zl8) (hg:s.heap.IsGen a g) (hgs:s.gens[g]? = some gs)
  (hgo:gs.Goes (model prog w) A.in1 (Zoz P) Y n (.send .none) (s.setGen g .running))
  (hY:∀ v j0 gs',gs'.bare=true->Y (n - 1) (s.setGen g .running) v j0 (fun r' s''=>match n with
    | 0=>False
    | m + 1=>gs'.Goes (model prog w) A.in1 (Zoz P) Y m r' s'')->Q (some v) (j0.setGen g gs'))
  (hP:∀ j0,n=0->Chg P [] (s.setGen g .running) j0->∀ h',(∀ b o,j0.heap.get? b=some o->h'.get? b=some o)->Q none { j0.setGen g .finished with heap:=h' }) :
  wpAny (model prog w) A (Za3 (.ref a)) Q E s:=by
 refine Zc (Ia (Kw (name:=Zz "__next__") hg.typeIs slot_gen_next
  (Y9 slot_gen_next hg.typeIs entry_gen_next ?_ (args_gen_next _))))
 refine (wbH (wpAny_genNumber hg (Zc (wpAny_genState hgs ?_))))
 cases gs with
 | running=>exact hgo.elim
 | finished=>exact hgo.elim
 | _=>
  refine Zc (wpAny_roomToWake hl hroom ?_)
  refine wpAny_resumeQ hgs hgo (fun x j0 hx=>?_) (fun v j0 gs' hb hv=>?_)
  ·obtain rfl:=hx.1
   obtain hn:=hx.2.1
   obtain hp:=hx.2.2
   show wpAny _ A.in1 (newExc (.type "StopIteration") [] >>= _) _ _ _
   refine Zc ?_
   refine Zc (Z7 ?_ (by size_fits))
   refine Zc (m:=Za5 _ _) (Kq (a:=Xo) (by first | rfl | (simp only [Za5];rfl)) ?_)
   refine Z7 ?_ (by size_fits)
   refine Zc (Zc (Zoh ?_))
   first | rw [show A.in1.handled=none from hh] | rw [hh]
   refine Zvb ?_
   refine (wbI (T:="StopIteration") (b:=true) ⟨_,Zq _ rfl,rfl⟩ Zg8 ?_)
   exact Ze (hP j0 hn hp _ fun b o hb=>Zg _ (Zg _ hb))
  ·exact Ze ⟨v,rfl,Ze (hY v j0 gs' hb hv)⟩
end
section
variable {env':Env}{n:Nat}
def ForGI (G:GC)(env:Env)(t:Tg)(Wb:PP)(g:St->Prop)(done:PP)(Q:Fl->St->Prop)(It:List Addr->List V->Zd->Prop)(st₀:St)(s₀:Zd)(n:Nat)(s:Zd)(st:St)(l:List V)(P:List Addr):Prop:=(l.length=n)/\(0 < s.toks)/\RS G env st s/\It P l s/\(∀ a∈P,Off G env st a)/\(∀ a∈P,s₀.heap.get? a=none)/\Stp G env st₀ st s₀ s/\Zce Wb t g done Q l st
def ForGI.n0 {n Q}(z:@ForGI G env t Wb g done Q It st₀ s₀ n s st l P):=z.1
def ForGI.tk {n Q}(z:@ForGI G env t Wb g done Q It st₀ s₀ n s st l P):=z.2.1
def ForGI.R {n Q}(z:@ForGI G env t Wb g done Q It st₀ s₀ n s st l P):=z.2.2.1
def ForGI.i {n Q}(z:@ForGI G env t Wb g done Q It st₀ s₀ n s st l P):=z.2.2.2.1
def ForGI.O {n Q}(z:@ForGI G env t Wb g done Q It st₀ s₀ n s st l P):=z.2.2.2.2.1
def ForGI.h0 {n Q}(z:@ForGI G env t Wb g done Q It st₀ s₀ n s st l P):=z.2.2.2.2.2.1
def ForGI.S {n Q}(z:@ForGI G env t Wb g done Q It st₀ s₀ n s st l P):=z.2.2.2.2.2.2.1
def ForGI.h {n Q}(z:@ForGI G env t Wb g done Q It st₀ s₀ n s st l P):=z.2.2.2.2.2.2.2
def Nxt (G:GC)(env:Env)(st:St)(s':Zd)(P:List Addr)(st₀:St)(s₀:Zd):Prop:=RS G env st s'/\Stp G env st₀ st s₀ s'/\(∀ a∈P,Off G env st a)/\(∀ a∈P,s₀.heap.get? a=none)def Nxt.R (z:@Nxt G env st s' P st₀ s₀):=z.1
def Nxt.S (z:@Nxt G env st s' P st₀ s₀):=z.2.1
def Nxt.O (z:@Nxt G env st s' P st₀ s₀):=z.2.2.1
def Nxt.h0 (z:@Nxt G env st s' P st₀ s₀):=z.2.2.2
section
variable {it:Addr}{GP:List Nat}{g:St->Prop}{It:List Addr->List V->Zd->Prop}{st₀:St}{P P':List Addr}{l:List V}
theorem IterG.nxt (I:IterG G env A it GP g It)(hi:It P l s)(R:RS G env st s)(S:Stp G env st₀ st s₀ s)(O:∀ a∈P,Off G env st a)(h0:∀ a∈P,s₀.heap.get? a=none)(hg0:∀ k∈GP,s₀.gens[k]? = none)
  (hp:∀ a∈P',a∈P\/s.heap.get? a=none) (c:Chg P' GP s s'):Nxt G env st s' P' st₀ s₀:=
 have O':=fun a ha=>(hp a ha).elim (O a) R.off_fresh
 have h0':=fun a ha=>(hp a ha).elim (h0 a) fun e=>Sn fun o q=>nS e (S.live a o q)
 ⟨R.chg O' (fun a ha o e=>(hp a ha).elim (fun h=>(I.obj _ _ _ hi a h).elim fun J z=>si z.1 e▸z.2) fun h=>nn h e) c,S.chg h0' hg0 c,O',h0'⟩
theorem IterG.stp (I:IterG G env A it GP g It)(hi:It P l s)(R:RS G env st s)(O:∀ a∈P,Off G env st a)(R':RS G env st' s')(S:Stp G env st st' s s')(t:0 < s'.toks):It P l s'/\∀ a∈P,Off G env st' a:=
 have k:=fun a ha=>(I.obj _ _ _ hi a ha).imp fun J z=>Yqs z.1 ((O a ha).step z.1 S)
 ⟨I.at' _ _ _ _ hi ⟨fun a ha=>(k a ha).elim fun J z=>z.2.2.trans z.1.symm,R.imk S,R'.fr.elim fun J F=>F.1.keep,R'.bare,R'.os,t⟩ fun j hj=>(Z2.mp (I.gobj _ _ _ hi j hj)).elim fun x hx=>(S.gens j x hx).trans hx.symm,
  fun a ha=>(k a ha).elim fun J z=>z.2.1⟩
end
theorem Ydp (X:Cx G Δ n env A sc){t:Tg}{e:Expr}(te:TgE sc t e){body orelse:List Stmt}{Fb Fo:FS}(hb:SSL sc body Fb)(ho:SSL sc orelse Fo)
  {it:Addr} {GP:List Nat} {g:St->Prop} {It:List Addr->List V->Zd->Prop} (I:IterG G env A it GP g It) {st₀:St} (hg0:∀ k∈GP,s₀.gens[k]? = none) {Q:Fl->St->Prop} {E':Value->Zd->Prop}
  {P:List Addr} (h0:∀ a∈P,s₀.heap.get? a=none) {l:List V} (ht:0 < s.toks) (R:RS G env st s) (hi:It P l s) (O:∀ a∈P,Off G env st a) (S:Stp G env st₀ st s₀ s) (h:Zce (Fb Δ) t g (Fo Δ) Q l st) :
  codeAny (model G.prog G.w) A (.forLoop e (.ref it) body orelse env) (fun r s'=>match r with | .ok fl=>PS G env st₀ s₀ Q fl s' | .error e=>E' e s') s:=by
 refine codeAny_forLoop_any (fun n s=>∃ st l P,ForGI G env t (Fb Δ) g (Fo Δ) Q It st₀ s₀ n s st l P) (fun n s hw2=>?_) l.length ⟨st,l,P,rfl,ht,R,hi,O,h0,S,h⟩
 obtain ⟨st,l,P,w⟩:=hw2
 cases l with
 | nil=>exact I.fin P s st _ _ w.i w.tk w.R w.h.1 w.O fun j0 P' hp c=>have N:=I.nxt w.i w.R w.S w.O w.h0 hg0 hp c;(ho X st _ Q _ (c.tok w.tk) N.R w.h.2).to fun fl J1 p=>p.from N.S
 | cons v r=>
  refine I.item v P r s st _ _ w.i w.tk w.R w.h.1 w.O fun val j0 P' hp c rv hi'=>?_
  have N:=I.nxt w.i w.R w.S w.O w.h0 hg0 hp c
  refine (I.own _ _ _ hi').go _ _ ((Zna (E:=Zaz (model G.prog G.w) A env fun e s'=>E' e s') (Q:=Fb Δ (Zp5 (Zce (Fb Δ) t g (Fo Δ) Q r) Q)) X.hE X.hA.handled te N.R rv w.h.2).to fun _ J1 hw0=>?_)
  obtain ⟨G4,a⟩:=hw0
  refine hb.then X (Ym (c.tok w.tk) a.p.t) a.p.R a.q fun f fl Q4 W2 j4 T3 W3 fr V3=>?_
  have S23:=a.p.S.trans W3
  have go:Zce (Fb Δ) t g (Fo Δ) Q r Q4->∃ m,m < n/\∃ st l P,ForGI G env t (Fb Δ) g (Fo Δ) Q It st₀ s₀ m W2 st l P:=fun q=>
   have k:=I.stp hi' N.R N.O T3 S23 j4
   ⟨r.length,w.n0▸Yq _,Q4,r,P',rfl,j4,T3,k.1,k.2,N.h0,N.S.trans S23,q⟩
  cases f with
  | next=>exact fr.nE (go V3)
  | brk=>exact fr.bE ⟨.next,Q4,T3,N.S.trans S23,.next,V3⟩
  | cont=>exact fr.cE (go V3)
  | ret v=>exact fr.rE fun J r=>⟨.ret _,Q4,T3,N.S.trans S23,.ret r,V3⟩
end
section
variable {env':Env}{n:Nat}{P:List Addr}
theorem Zf2 {g:Nat}{x:Uh}(h:Ir s.gens)(hx:x.bare=true):Ir (s.setGen g x).gens:=fun y hy=>
 (Array.mem_or_eq_of_mem_setIfInBounds hy).elim (h y) fun e=>e▸hx
theorem Zpr {g k:Nat}{x:Uh}(hk:k≠g):(s.setGen g x).gens[k]? = s.gens[k]?:=by simp [Zd.setGen,Yck hk]theorem Alive.of_gens {g:Nat}{x:Uh}(h:Alive G P (s.setGen g x) s'):Alive G P s s':=⟨h.at_,h.imk,h.base,h.bare,h.os,h.tok⟩def Zln (G:GC)(A:Yg)(tx:Tx)(ga:Addr)(g:Nat)(env':Env)(l:List V)(u:Zd)(gs:Uh)(en it:Addr):Prop:=u.heap.IsGen ga g/\(u.gens[g]? = some gs)/\(∃ pre,escL 0 false tx=pre++l)/\(∀ a∈[env'.locals,en,it],Nim u a)/\(ga∉[env'.locals,en,it])/\(∀ s'',Alive G [env'.locals,en,it] u s''->gs.Goes (model G.prog G.w) A.in1 (Zoz [env'.locals,en,it]) (Ybn G [env'.locals,en,it] (escL 0 false tx)) l.length (.send .none) s'')def Zln.i (z:@Zln G A tx ga g env' l u gs en it):=z.1
def Zln.s0 (z:@Zln G A tx ga g env' l u gs en it):=z.2.1
def Zln.p (z:@Zln G A tx ga g env' l u gs en it):=z.2.2.1
def Zln.o (z:@Zln G A tx ga g env' l u gs en it):=z.2.2.2.1
def Zln.n0 (z:@Zln G A tx ga g env' l u gs en it):=z.2.2.2.2.1
def Zln.go (z:@Zln G A tx ga g env' l u gs en it):=z.2.2.2.2.2
def Zk2 (G:GC)(x:Esc)(tx:Tx)(ga:Addr)(g:Nat)(env':Env)(u:Zd)(lw:Nat->Option V):Prop:=u.heap.IsGen ga g/\(u.gens[g]? = some (.fresh (.func x.body env')))/\RS (G0 G) env' (st0 lw) u/\(lw 147=some (.str tx))def Zk2.i (z:@Zk2 G x tx ga g env' u lw):=z.1
def Zk2.s0 (z:@Zk2 G x tx ga g env' u lw):=z.2.1
def Zk2.R (z:@Zk2 G x tx ga g env' u lw):=z.2.2.1
def Zk2.a (z:@Zk2 G x tx ga g env' u lw):=z.2.2.2
inductive Zqr (G:GC)(A:Yg)(x:Esc)(tx:Tx)(ga:Addr)(g:Nat)(env':Env):List Addr->List V->Zd->Prop
 | fresh {u:Zd} {lw:Nat->Option V}:Zk2 G x tx ga g env' u lw->Zqr G A x tx ga g env' [ga,env'.locals] (escL 0 false tx) u
 | sleep {u:Zd} {gs:Uh} {l:List V} {en it:Addr}:Zln G A tx ga g env' l u gs en it->Zqr G A x tx ga g env' [ga,env'.locals,en,it] l u
theorem Zgn {h:Heap}{a:Addr}{g:Nat}(x:h.IsGen a g):∃ o,h.get? a=some o/\¬ imm o:=x.imp fun J z=>z.elim fun J z=>z.elim fun J z=>⟨z.1,Za0 z.2.2.1 z.2.1 (by decide)⟩theorem Zjh {h h':Heap}{a:Addr}{g:Nat}(x:h.IsGen a g)(e:∀ o,h.get? a=some o->h'.get? a=some o):h'.IsGen a g:=x.imp fun J z=>z.imp fun J z=>z.imp fun J z=>⟨e _ z.1,z.2⟩theorem Zqr.gen {x:Esc}{tx:Tx}{ga:Addr}{g:Nat}{l:List V}(h:Zqr G A x tx ga g env' P l s):s.heap.IsGen ga g/\(s.gens[g]?).isSome=true:=h.rec (fun w=>⟨w.i,iS w.s0⟩) fun w=>⟨w.i,iS w.s0⟩def EscWk (G:GC)(A:Yg)(tx:Tx)(P:List Addr)(ga:Addr)(gk:Nat)(env':Env)(l:List V)(s:Zd)(gs:Uh)(en it:Addr):Prop:=s.heap.IsGen ga gk/\(s.gens[gk]? = some gs)/\(∃ pre,escL 0 false tx=pre++l)/\(ga∉[env'.locals,en,it])/\(∀ a∈[ga,env'.locals,en,it],a∈P\/s.heap.get? a=none)/\gs.Goes (model G.prog G.w) A.in1 (Zoz [env'.locals,en,it]) (Ybn G [env'.locals,en,it] (escL 0 false tx)) l.length (.send .none) (s.setGen gk .running)def EscWk.i (z:@EscWk G A tx P ga gk env' l s gs en it):=z.1
def EscWk.g (z:@EscWk G A tx P ga gk env' l s gs en it):=z.2.1
def EscWk.p (z:@EscWk G A tx P ga gk env' l s gs en it):=z.2.2.1
def EscWk.n0 (z:@EscWk G A tx P ga gk env' l s gs en it):=z.2.2.2.1
def EscWk.P0 {P}(z:@EscWk G A tx P ga gk env' l s gs en it):=z.2.2.2.2.1
def EscWk.go (z:@EscWk G A tx P ga gk env' l s gs en it):=z.2.2.2.2.2
def EscH (x:Esc)(m1 m2:Str)(q1 q2 p1 p2 c1 c2:Pos)(k1 k2:Nat):Prop:=(x.st1= .Assign [.Name m1 q1] (.Constant (.int 0) k1 c1) p1)/\(x.st2= .Assign [.Name m2 q2] (.Constant (.bool false) k2 c2) p2)/\(nm 148=m1)/\(nm 149=m2)def EscH.e1 {m1 m2}(z:@EscH x m1 m2 q1 q2 p1 p2 c1 c2 k1 k2):=z.1
def EscH.e2 {m1 m2}(z:@EscH x m1 m2 q1 q2 p1 p2 c1 c2 k1 k2):=z.2.1
def EscH.m1 {m1 m2}(z:@EscH x m1 m2 q1 q2 p1 p2 c1 c2 k1 k2):=z.2.2.1
def EscH.m2 {m1 m2}(z:@EscH x m1 m2 q1 q2 p1 p2 c1 c2 k1 k2):=z.2.2.2
theorem Zms {p:Addr->Prop}{x y z w:Addr}(h1:p x)(h:∀ a∈[y,z,w],p a):∀ a∈[x,y,z,w],p a:=Zi.mpr ⟨h1,h⟩theorem Ymj {a x y z:Addr}(h1:a≠x)(h2:a≠y)(h3:a≠z):a∉[x,y,z]:=fun h=>Ye2 (p:=fun b=>a≠b) h1 h2 h3 a h rfl
section
variable {x:Esc}{tx:Tx}{m1 m2:Str}{q1 q2 p1 p2 c1 c2:Pos}{k1 k2:Nat}{ga:Addr}{g:Nat}
theorem Zud (O:Zod x)(C:GOK G)(hE:EOK env' scE)(hasc:Zen tx=true)(hA:AOK A 5)(H:EscH x m1 m2 q1 q2 p1 p2 c1 c2 k1 k2)(hgl:ga≠env'.locals){l:List V}(h:Zqr G A x tx ga g env' P l s)(ht:0 < s.toks)(R:RS G env st s):∃ gs en it,EscWk G A tx P ga g env' l s gs en it:=by
 have hb:Ir (s.setGen g .running).gens:=Zf2 R.bare rfl
 cases h with
 | fresh w=>
  have hga:ga < s.heap.objs.size:=(Zgn w.i).elim fun o z=>ZL z.1
  have hn:∀ a,s.heap.objs.size<=a->s.heap.get? a=none:=fun a ha=>Sn fun o q=>absurd (ZL q) (Ug.mpr ha)
  exact ⟨_,s.heap.objs.size + 1,s.heap.objs.size,w.i,w.s0,⟨[],rfl⟩,Ymj hgl (Z3 (YW hga)) (Z3 hga),Zms (.inl (.head _)) (Ye2 (.inl (.tail _ (.head _))) (.inr (hn _ (ZW _))) (.inr (hn _ (Zm _)))),
   rfl,Ybm (s:=s.setGen g .running) O C hE hasc hA H.e1 H.e2 H.m1 H.m2 ht (w.R.gens hb) w.a⟩
 | sleep w=>exact ⟨_,_,_,w.i,w.s0,w.p,w.n0,fun a ha=>.inl ha,w.go _ ⟨fun J J=>rfl,fun b o e J=>e,R.fr.elim fun J F=>F.1.keep,hb,R.os,ht⟩⟩
theorem Zmj {P':List Addr}{j0:Zd}{gs:Uh}{h':Heap}(c:Chg P' [] (s.setGen g .running) j0)(hb:gs.bare=true)(hk:∀ b o,j0.heap.get? b=some o->h'.get? b=some o):Chg (ga::P') [g] s { j0.setGen g gs with heap:=h' }:=
 ⟨fun b o hb' e=>hk b o (c.heap b o (fun q=>hb' (.tail _ q)) e),fun k' y hk' e=>
  have hne:k'≠g:=fun q=>hk' (q▸.head _)
  (Zpr hne).trans (c.gens k' y (fun h=>nomatch h) ((Zpr hne).trans e)),fun hbs=>Zf2 (c.bare (Zf2 hbs rfl)) hb,c.os,c.tok⟩
theorem Ygd (O:Zod x)(C:GOK G)(hE:EOK env' scE)(hasc:Zen tx=true)(hA:AOK A 5)(H:EscH x m1 m2 q1 q2 p1 p2 c1 c2 k1 k2)(hgl:ga≠env'.locals):IterG G env A ga [g] (fun J=>True) (Zqr G A x tx ga g env') where
 obj:=fun P l s h=>h.rec (fun w=>Zov (p:=Nim _) (Zgn w.i) w.R.locn) fun w=>Zms (p:=Nim _) (Zgn w.i) w.o
 at':=fun P l s s' h=>h.rec (fun w al hg=>.fresh ⟨Zjh w.i fun J e=>(al.at_ _ (.head _)).trans e,(hg g (.head _)).trans w.s0,w.R.wake (.tail _ (.head _)) al,w.a⟩) fun w al hg=>
  have up:=fun a ha=>al.at_ a (.tail _ ha)
  .sleep ⟨Zjh w.i fun J e=>(al.at_ _ (.head _)).trans e,(hg g (.head _)).trans w.s0,w.p,fun a ha=>(w.o a ha).imp fun J z=>⟨(up a ha).trans z.1,z.2⟩,w.n0,fun s'' al2=>w.go s'' ⟨fun a ha=>(al2.at_ a ha).trans (up a ha),fun b o e hi=>al2.imk b o (al.imk b o e hi) hi,al2.base,al2.bare,al2.os,al2.tok⟩⟩
 gobj:=fun P l s h k hk=>YX hk▸h.gen.2
 own:=fun P l s h=>h.gen.1.elim fun J z=>z.elim fun J z=>z.elim fun J z=>⟨_,_,_,z.1,z.2.1,z.2.2.1,by decide⟩
 item:=fun v P l s st Q E h ht R J hO k=>by
  have hz0:=Zud O C hE hasc hA H hgl h ht R
  let gs:=hz0.choose
  have hq0:=hz0.choose_spec
  let en:=hq0.choose
  have hq1:=hq0.choose_spec
  let it:=hq1.choose
  have hq2:=hq1.choose_spec
  have w:=hq2
  let pre:=w.p.choose
  have hq0:=w.p.choose_spec
  have w3:=hq0
  refine Ze9 (P:=[env'.locals,en,it]) hA.handled (R.fr.elim fun J F=>C.nolimit.keeps F.1.keep) hA.room w.i w.g w.go (fun v' j0 gs' hb y=>?_) (fun j0 hn=>nomatch hn)
  obtain ⟨u,hu,ru⟩:=y.u
  obtain rfl:u=v:=Z1 (hu.symm.trans (Zrp w3))
  exact k v' (j0.setGen g gs') [ga,env'.locals,en,it] w.P0 (Zmj y.c hb fun J J e=>e) ru (.sleep ⟨Zjh w.i fun J e=>y.c.heap _ _ w.n0 e,Zvd (y.c.gens g _ (fun h=>nomatch h) (Zvd w.g)),Zzl w3,y.o,w.n0,fun s'' al=>y.k s'' ⟨al.at_,al.imk,al.base,al.bare,al.os,al.tok⟩⟩)
 fin:=fun P s st Q E h ht R J hO k=>by
  have hz0:=Zud O C hE hasc hA H hgl h ht R
  let gs:=hz0.choose
  have hq0:=hz0.choose_spec
  let en:=hq0.choose
  have hq1:=hq0.choose_spec
  let it:=hq1.choose
  have hq2:=hq1.choose_spec
  have w:=hq2
  refine Ze9 (P:=[env'.locals,en,it]) hA.handled (R.fr.elim fun J F=>C.nolimit.keeps F.1.keep) hA.room w.i w.g w.go (fun v' j0 gs' hb y=>?_) (fun j0 hn hchg h' hk=>k _ [ga,env'.locals,en,it] w.P0 (Zmj hchg rfl hk))
  exact (y.k j0 ⟨fun J J=>rfl,fun J J e J=>e,fun b o e=>y.c.heap b o (fun q=>(w.P0 b (.tail _ q)).elim (fun h=>nn (hO b h).base e) fun h=>nn (R.off_fresh h).base e) (R.fr.elim fun J F=>F.1.keep b o e),y.c.bare (Zf2 R.bare rfl),y.c.os.trans R.os,y.c.tok ht⟩).elim
end
end
section
variable {env':Env}{n:Nat}{P:List Addr}
abbrev Zu6 (G:GC)(f:Addr)(fd:YF)(sc:Sc)(body:List Stmt):Prop:=Zzw G f fd sc body true []theorem RS.zero (R:RS G env st s):RS (G0 G) env (st0 st.lv) s:=⟨R.fr,fun J J e=>(nomatch e),fun J J e=>(nomatch e),fun J h=>(nomatch h),R.bare,R.os⟩def GenC (G:GC)(env:Env)(st:St)(s:Zd)(sc:Sc)(body:List Stmt)(bs:List (Nat×V))(ga g:Nat)(env':Env)(s':Zd):Prop:=EOK env' sc/\(ga≠env'.locals)/\s'.heap.IsGen ga g/\(s'.gens[g]? = some (.fresh (.func body env')))/\(RS (G0 G) env' (st0 (fun i=>bs.reverse.lookup i)) s')/\RS G env st s'/\Stp G env st st s s'/\(s.heap.get? ga=none)/\(s.heap.get? env'.locals=none)/\(s.gens[g]? = none)/\(0 < s'.toks)def GenC.E0 (z:@GenC G env st s sc body bs ga g env' s'):=z.1
def GenC.n0 (z:@GenC G env st s sc body bs ga g env' s'):=z.2.1
def GenC.i (z:@GenC G env st s sc body bs ga g env' s'):=z.2.2.1
def GenC.gf (z:@GenC G env st s sc body bs ga g env' s'):=z.2.2.2.1
def GenC.R0 (z:@GenC G env st s sc body bs ga g env' s'):=z.2.2.2.2.1
def GenC.R (z:@GenC G env st s sc body bs ga g env' s'):=z.2.2.2.2.2.1
def GenC.S (z:@GenC G env st s sc body bs ga g env' s'):=z.2.2.2.2.2.2.1
def GenC.na (z:@GenC G env st s sc body bs ga g env' s'):=z.2.2.2.2.2.2.2.1
def GenC.nl (z:@GenC G env st s sc body bs ga g env' s'):=z.2.2.2.2.2.2.2.2.1
def GenC.ng (z:@GenC G env st s sc body bs ga g env' s'):=z.2.2.2.2.2.2.2.2.2.1
def GenC.t (z:@GenC G env st s sc body bs ga g env' s'):=z.2.2.2.2.2.2.2.2.2.2
theorem Zuj (C:GOK G){f:Addr}{fd:YF}{body:List Stmt}(FA:Zu6 G f fd sc body)(hcell:∀ p∈sc,p.2≠.cell){vs:List V}{bs:List (Nat×V)}(hb:Binds G fd vs bs)(hks:∀ p∈bs,sc.lookup p.1=some .local){vals:List Value}(hroom:A.depth < Zl8)
  (R:RS G env st s) (rv:VRs s.heap vs vals) {Q:Value->Zd->Prop} (h:∀ ga g env' s',GenC G env st s sc body bs ga g env' s'->Q (.ref ga) s'):W G A (call (.ref f) vals) Q E s:=by
 refine R.fr.elim fun m hr50=>hr50.elim fun Fr0 hf=>?_
 refine FA.obj.elim fun o hr50=>hr50.elim fun ho hd=>?_
 refine (hb s vals Fr0.keep rv).elim fun l w=>?_
 have ho':=Fr0.keep _ _ ho
 refine Ux (codeAny_call_generator hroom ho' hd FA.co FA.gen FA.bodyIs (FA.code.keeps Fr0.keep) (w.b _ _ _ _ ?_))
 refine (FA.clo)▸?_
 have hc':∀ x∈fd.scope.names,x.2≠.cell:=fun x hx=>by
  rw [FA.names] at hx
  exact (Ys.mp hx).elim fun p hp=>hp.2▸hcell p hp.1
 have hl':∀ x∈l,fd.scope.names.lookup x.1=some .local:=fun x hx=>by
  refine (Ys.mp (w.k▸Y4 hx:x.1∈_)).elim fun p hr50=>hr50.elim fun hp e=>?_
  rw [<-e,FA.names,Zck]
  exact hks p hp
 refine Zfe hc' hl' (fun Q0 W4 j5=>?_) FA.kind
 have kk:∀ b o,s.heap.get? b=some o->Q0.get? b=some o:=fun b o e=>j5.extBut b o (Z3 (ZL e)) (Zg _ e)
 have hE:EOK (newEnv fd.scope s.heap.objs.size fd.globals [] (fd.qualname++".<locals>.") (some f) fd.code none fd.builtins) sc:=⟨FA.kind,FA.globals,FA.builtins,FA.names,FA.co⟩
 have hL:s.heap.objs.size < Q0.objs.size:=W4.lt
 refine ⟨(C.nolimit.keeps Fr0.keep).keeps kk,?_⟩
 generalize he:newEnv fd.scope s.heap.objs.size fd.globals [] (fd.qualname++".<locals>.") (some f) fd.code none fd.builtins=env' at hE⊢
 have hel:env'.locals=s.heap.objs.size:=he▸rfl
 have hpushb:Ir (s.gens.push (.fresh (.func body env'))):=Yqt R.bare rfl
 have R2:=R.ext (h':=Q0.push { cls:=.type "generator",data:=.fields #[.int s.gens.size 0,.str fd.name (s.toks + l.length),.str fd.qualname (s.toks + l.length + 1)] }) (t:=s.toks + l.length + 1 + 1) (d:=s.drawn) fun b o e=>Zg _ (kk b o e)
 exact h Q0.objs.size s.gens.size _ _ ⟨hE,hel▸Xr hL,⟨_,_,_,Zq _ rfl,rfl,rfl,rfl⟩,Array.getElem?_push_size,((((R.enterC (e':=env') (h₀:=Q0) (t:=s.toks + l.length) (lv:=fun i=>bs.reverse.lookup i) (cv:=fun J=>none) hel W4 kk (fun i v hv=>Zdn (Zb6 (i:=i) (bs:=bs.reverse) (l:=l.reverse) (h:=s.heap) (by rw [Xi,w.k,Xi]) (by rw [Xi,Xi];exact w.r.reverse)) hv) (fun i c h=>nn rfl h)).zero).ext (h':=Q0.push { cls:=.type "generator",data:=.fields #[.int s.gens.size 0,.str fd.name (s.toks + l.length),.str fd.qualname (s.toks + l.length + 1)] }) (t:=s.toks + l.length + 1 + 1) (d:=s.drawn) fun b o e=>Zg _ e).1).gens hpushb,R2.1.gens hpushb,
  ⟨R2.2.keep,R2.2.live,R2.2.new,fun k x e=>(Zxs (Zby.mp e).1).trans ((Xn _).symm.trans e)⟩,Sn fun o q=>absurd (ZL q) (Ug.mpr (Y8 hL)),hel▸Yy _,Zda (Zm _),Z8 _⟩
end
section
variable {env':Env}{n:Nat}{P:List Addr}
noncomputable abbrev FG:=Dl->(Nat->Option V)->(Nat->Option Addr)->(List V->(St->Prop)->Hp->Prop)->Hp->Prop
structure PGw (G:GC)(env:Env)(st:St)(s:Zd)(Q:List V->(St->Prop)->Hp->Prop)(r:Value)(s':Zd)(l:List V)(g:St->Prop)(σ':Hp)(ga k:Nat)(P:List Addr):Prop where
 e:r= .ref ga
 i:s'.heap.IsGen ga k
 it:∀ (A':Yg),AOK A' 8->∃ It,(∀ env':Env,IterG G env' A' ga [k] g It)/\It P l s'
 R:RS G env ⟨σ',st.lv,st.cv⟩ s'
 S:Stp G env st ⟨σ',st.lv,st.cv⟩ s s'
 n:∀ a∈P,s.heap.get? a=none
 gn:s.gens[k]? = none
 t:0 < s'.toks
 O:∀ a∈P,Off G env ⟨σ',st.lv,st.cv⟩ a
 q:Q l g σ'
def PG (G:GC)(env:Env)(st:St)(s:Zd)(Q:List V->(St->Prop)->Hp->Prop)(r:Value)(s':Zd):Prop:=∃ l g σ' ga k P,PGw G env st s Q r s' l g σ' ga k P
def SG (sc:Sc)(e:Expr)(F:FG):Prop:=
 ∀ ⦃G Δ n env A⦄,Cx G Δ n env A sc->∀ (st:St) (s:Zd) (Q:List V->(St->Prop)->Hp->Prop) (E:Value->Zd->Prop),0 < s.toks->RS G env st s->F Δ st.lv st.cv Q st.σ->8<=n/\W G A (eval e env) (PG G env st s Q) E s
theorem Stp.none_of {st':St}(S:Stp G env st st' s s'){a:Addr}(h:s'.heap.get? a=none):s.heap.get? a=none:=Sn fun o q=>nS h (S.live a o q)theorem Stp.gnone_of {st':St}(S:Stp G env st st' s s'){k:Nat}(h:s'.gens[k]? = none):s.gens[k]? = none:=Sn fun o q=>nn h (S.gens k o q)
theorem PGw.from {Q:List V->(St->Prop)->Hp->Prop}{W0:Hp}(S:Stp G env st ⟨W0,st.lv,st.cv⟩ s j0){r:Value}{l g σ' ga k P}(p:PGw G env ⟨W0,st.lv,st.cv⟩ j0 Q r s' l g σ' ga k P):PG G env st s Q r s':=
 ⟨l,g,σ',ga,k,P,p.e,p.i,p.it,p.R,S.trans p.S,fun a ha=>S.none_of (p.n a ha),S.gnone_of p.gn,p.t,p.O,p.q⟩
theorem PG.el {Q:List V->(St->Prop)->Hp->Prop}{r:Value}{C:Prop}(p:PG G env st s Q r s')(c:∀ l g σ' ga k P,PGw G env st s Q r s' l g σ' ga k P->C):C:=by
 obtain ⟨l,g,σ',ga,k,P,p⟩:=p;exact c _ _ _ _ _ _ p
theorem PG.from {Q:List V->(St->Prop)->Hp->Prop}{W0:Hp}(S:Stp G env st ⟨W0,st.lv,st.cv⟩ s j0){r:Value}(p:PG G env ⟨W0,st.lv,st.cv⟩ j0 Q r s'):PG G env st s Q r s':=p.el fun J J J J J J p=>p.from S
inductive Ylj (f:Addr)(Q:List V->(St->Prop)->Hp->Prop)(first vs:List V)(σ:Hp):Prop | mk {l g} (v:Yli f (first++vs) σ l g) (q:Q l g σ)
theorem Ztw (X:Cx G Δ n env A sc)(hg:Δ.gen){l:List Expr}{pos:Pos}{gx:FXs}(b:SXs sc l gx)(hns:(backTo pos (starEach l env)).any (·.1)=false){f:Addr}{first:List V}{fvals:List Value}{Q:List V->(St->Prop)->Hp->Prop}
  (ht:0 < s.toks) (R:RS G env st s) (rfirst:VRs s.heap first fvals) (h:gx Δ st.lv st.cv (Ylj f Q first) st.σ) :
  W G A (Zea pos (.ref f) fvals (backTo pos (starEach l env)) []) (PG G env st s Q) E s:=
 YT hns (YS hns (b.then X ht R h fun vs vals J3 J1 M3 V2 H3 Q3 h=>h.rec fun {l g} hv q=>
  have ok:=X.D.gen hg
  have c:=ok.2 f (first++vs) l g A env ⟨J3,st.lv,st.cv⟩ J1 (fvals++vals) E hv (X.hA.mono (Za8 ok.1)) M3 V2 ((rfirst.mono (R.imk H3)).append Q3)
  c.1.to fun J W2 e=>e▸c.2.to fun z W2 p=>p.elim fun ga p=>p.elim fun k p=>p.elim fun P p=>PGw.from H3 ⟨p.e,p.i,p.it,p.R,p.S,p.n,p.gn,p.t,fun a ha=>V2.off_fresh (p.n a ha),q⟩))def GCallW (Δ:Dl)(lv:Nat->Option V)(cv:Nat->Option Addr)(i:Nat)(a:FXs)(Q:List V->(St->Prop)->Hp->Prop)(σ:Hp)(f:Addr):Prop:=(gt i=some (.ref f))/\a Δ lv cv (Ylj f Q []) σ
def GCallW.e {Q}(z:@GCallW Δ lv cv i a Q σ f):=z.1
def GCallW.q {Q}(z:@GCallW Δ lv cv i a Q σ f):=z.2
def Zy1 (i:Nat)(a:FXs):FG:=fun Δ lv cv Q σ=>Δ.gen/\∃ f,GCallW Δ lv cv i a Q σ f
theorem Zv4 {i:Nat}{x:Str}{np pos:Pos}{l:List Expr}{g:FXs}(hn:nm i=x)(hk:sc.lookup i=some .globalImplicit)(b:SXs sc l g)(hns:∀ env pos,(backTo pos (starEach l env)).any (·.1)=false):SG sc (.Call (.Name x np) l [] pos) (Zy1 i g):=fun _ _ _ _ _ X st s Q E ht R ⟨hg,f,w⟩=>
 ⟨(X.D.gen hg).1,XJ (SX.then (sGl hn hk) (Q:=fun v σ=>v= .ref f/\g _ st.lv st.cv (Ylj f Q []) σ) X ht R ⟨w.e,rfl,w.q⟩ fun v x W0 j0 V1 J0 V0 J2 e=>(e.1▸J2).rE ((Ztw (E:=E) X hg b (hns _ _) (first:=[]) V1 J0 .nil e.2).to fun z W2 p=>p.from V0))⟩
inductive GmK (Δ:Dl)(lv:Nat->Option V)(cv:Nat->Option Addr)(m:Nat)(g:FXs)(Q:List V->(St->Prop)->Hp->Prop):V->Hp->Prop
 | mk {a c d fs f σ}:IK σ a=some (c,d)->fieldsOf σ d=some fs->fs.lookup m=none->clsM c m=some f->g Δ lv cv (Ylj f Q [.ref a]) σ->GmK Δ lv cv m g Q (.ref a) σ
def gMc (o:FX)(m:Nat)(a:FXs):FG:=fun Δ lv cv Q σ=>Δ.gen/\o Δ lv cv (GmK Δ lv cv m a Q) σ
theorem sgMc {o:Expr}{name:Str}{m:Nat}{apos pos:Pos}{l:List Expr}{f:FX}{g:FXs}(hn:nm m=name)(a:SX sc o f)(b:SXs sc l g)(hns:∀ env pos,(backTo pos (starEach l env)).any (·.1)=false)
  (hb:∀ env whole,attributeBase o name env whole=whole) (hline:(apos.endLine == pos.line)=true) (hl:l.length < 20):SG sc (.Call (.Attribute o name apos) l [] pos) (gMc f m g):=by
 intro G Δ n env A X st s Q E ht R hw0
 obtain hg:=hw0.1
 obtain h:=hw0.2
 subst hn
 refine ⟨(X.D.gen hg).1,Zbk (hb _ _) (hns _ _) hl hline (a.then X ht R h fun v x W0 j0 V1 J0 V0 J2 h pl=>?_)⟩
 cases h with
 | @mk a' _ _ _ g' _ e1 e2 e3 e4 Q0=>exact J2.rE (Zpz X.C J0 e1 e2 e3 e4 ((Ztw (E:=E) X hg b (hns _ _) (f:=g') (first:=[.ref a']) (Q:=Q) V1 J0 (VRs.one (.ref _)) Q0).to fun z W2 p=>p.from V0))abbrev kForG (Wb:PP)(t:Tg)(done:PP)(Q:Fl->St->Prop)(lv:Nat->Option V)(cv:Nat->Option Addr):List V->(St->Prop)->Hp->Prop:=fun l g σ=>Zce Wb t g done Q l ⟨σ,lv,cv⟩def Zti (t:Tg)(f:FG)(b o:FS):FS:=fun Δ Q st=>st.rec fun σ lv cv=>f Δ lv cv (kForG (b Δ) t (o Δ) Q lv cv) σ
theorem Zq6 {t:Tg}{te e:Expr}{l m:List Stmt}{p}{f:FG}{b o:FS}(ht:TgE sc t te)(he:SG sc e f)(hf:∀ env y,foldedSetIterable e env y=pure y)(hb:SSL sc l b)(ho:SSL sc m o):SS sc (.For te e l m p) (Zti t f b o):=by
 intro G Δ n env A X st s Q E htk R h
 have hw0:=he X st s _ E htk R h
 obtain h8:=hw0.1
 obtain w:=hw0.2
 refine wpAny_For (w.to fun v j0 p=>p.el fun l g σ' ga k P p=>?_) (hf env)
 obtain ⟨It,Y,a4⟩:=p.it A (X.hA.mono (Za8 h8))
 rw [p.e]
 refine wpAny_pyIter_gen p.i ?_
 exact Zd8 (Ydp (E':=cameBackBy (model G.prog G.w) A env E) X ht hb ho (Y env) (s₀:=s) (st₀:=st) (fun k' hk'=>YX hk'▸p.gn) p.n p.t p.R a4 p.O p.S p.q) fun r s' p=>match r,p with
  | .ok fl,p=>p
  | .error e,p=>p
end
section
variable {env':Env}{n:Nat}{P:List Addr}
noncomputable abbrev stL (st:St)(S:Addr)(us:List V):St:=⟨upd st.σ S (.list us),st.lv,st.cv⟩theorem Yih {α:Type}{f:Nat->Option α}{a:Nat}{x y:α}:upd (upd f a x) a y=upd f a y:=funext fun b=>if h:b=a then (if_pos h).trans (if_pos h).symm else (Zbq h).trans ((Zbq h).trans (Zbq h).symm)
theorem RS.setL {S:Addr}{us vs:List V}{h':Heap}{t:Nat}{d:Drawn}(R:RS G env (stL st S us) s)(x:XN S s.heap h')(D:Den G.prog G.w h' S (.list vs)) :
  RS G env (stL st S vs) ⟨h',s.gens,d,t,s.os⟩/\Stp G env (stL st S us) (stL st S vs) s ⟨h',s.gens,d,t,s.os⟩:=by
 have k:=R.put (t:=t) (d:=d) (.inl (iS Zcc)) x D
 rw [show upd (stL st S us).σ S (.list vs)=upd st.σ S (.list vs) from Yih] at k
 exact k
def ExtI (G:GC)(env:Env)(st:St)(S:Addr)(It:List Addr->List V->Zd->Prop)(O2:St)(j0:Zd)(full us l:List V)(P:List Addr)(s:Zd):Prop:=(us++l=full)/\(0 < s.toks)/\RS G env (stL st S us) s/\It P l s/\(∀ a∈P,Off G env (stL st S us) a)/\(∀ a∈P,j0.heap.get? a=none)/\Stp G env O2 (stL st S us) j0 s
def ExtI.e {S}(z:@ExtI G env st S It O2 j0 full us l P s):=z.1
def ExtI.t {S}(z:@ExtI G env st S It O2 j0 full us l P s):=z.2.1
def ExtI.R {S}(z:@ExtI G env st S It O2 j0 full us l P s):=z.2.2.1
def ExtI.i {S}(z:@ExtI G env st S It O2 j0 full us l P s):=z.2.2.2.1
def ExtI.O {S}(z:@ExtI G env st S It O2 j0 full us l P s):=z.2.2.2.2.1
def ExtI.h0 {S}(z:@ExtI G env st S It O2 j0 full us l P s):=z.2.2.2.2.2.1
def ExtI.S {S}(z:@ExtI G env st S It O2 j0 full us l P s):=z.2.2.2.2.2.2
theorem Yp3 {us l full:List V}{v:V}(e:us++v::l=full)(h:full.length<=1000):us.length < 1000:=Ym (e▸Zf▸Zal (Z8 _)) h
theorem Yga {I:Addr}{GP:List Nat}{g:St->Prop}{It:List Addr->List V->Zd->Prop}(Y:IterG G env A.in1 I GP g It){S:Addr}{res:Value}{Rr:Zbm->Zd->Prop}(hg:∀ us,g (stL st S us)){O2:St}(hg0:∀ k∈GP,j0.gens[k]? = none){full:List V}(hn:full.length<=1000)
  (k:∀ s',0 < s'.toks->RS G env (stL st S full) s'->Stp G env O2 (stL st S full) j0 s'->Rr (.ok (.ret res)) s'):∀ (l us:List V) (P:List Addr) (s:Zd),ExtI G env st S It O2 j0 full us l P s->
   codeAny (model G.prog G.w) A (.builtin "list.extend.loop" ⟨[.ref S,.ref I,res],[]⟩) Rr s:=by
 intro l
 induction l with
 | nil=>
  intro us P s w
  refine XX Ynb ?_
  have e:=(ZK us).symm.trans w.e
  refine Zc (m:=Za3 (.ref I)) (Y.fin P s _ _ _ w.i w.t w.R (hg us) w.O fun s' P' hp c=>Ze ?_)
  have N:=Y.nxt w.i w.R w.S w.O w.h0 hg0 hp c
  subst e
  exact k s' (c.tok w.t) N.R N.S
 | cons v l ih=>
  intro us P s w
  refine XX Ynb ?_
  refine Zc (m:=Za3 (.ref I)) (Y.item v P l s _ _ _ w.i w.t w.R (hg us) w.O fun x s' P' hp c rv hi'=>?_)
  have N:=Y.nxt w.i w.R w.S w.O w.h0 hg0 hp c
  have D:=(N.R.den S _ Zcc).1
  have sb:ZM S s'.heap (s'.heap.update S (ZZ (·.push x))):=ZV ..
  refine D.rec fun {vals} p rS=>p.elim fun cc eS=>?_
  have h1:vals.toArray.size<=Zi8:=YD (Zb (Y8 (rS.size▸Yp3 w.e hn)) (Za rfl))
  refine Zc (m:=Zmg S (·.push x)) (XS eS rfl (Ze ⟨Uw Yna _,?_⟩) h1 (Zij x▸Zu h1))
  have k2:=N.R.setL (t:=s'.toks) (d:=s'.drawn) sb.extBut (Den.list (l:=vals++[x]) (Zgw ..▸(⟨_,Ye (ZZ (·.push x)) eS rfl⟩)) ((rS.append (VRs.one rv)).mono (Za1 D sb.extBut)))
  have k3:=Y.stp hi' N.R N.O k2.1 k2.2 (c.tok w.t)
  exact ih (us++[v]) P' _ ⟨Zw ..▸w.e,c.tok w.t,k2.1,k3.1,k3.2,N.h0,N.S.trans k2.2⟩noncomputable abbrev Yjm:Obj:={ cls:=.type "list",data:=.seq #[] }noncomputable abbrev hN1 (h:Heap):Heap:=(h.push Yjm).update h.objs.size (ZZ (fun J=>(#[]:Array Value)))noncomputable abbrev hN (h:Heap):Heap:=((hN1 h).update h.objs.size (ZZ (·.push Xo))).update h.objs.size (ZZ (·.pop))theorem Zy0 {h:Heap}{b:Addr}{o:Obj}(e:h.get? b=some o):(hN1 h).get? b=some o:=(Xq _ _ (Xr (ZL e))).trans (Zg _ e)
theorem Ype {h:Heap}{b:Addr}{o:Obj}(e:h.get? b=some o):(hN h).get? b=some o:=
 have n:=Xr (ZL e)
 (Xq _ _ n).trans ((Xq _ _ n).trans (Zy0 e))
theorem Yfd (C:GOK G)(hA:AOK A 10){ga k:Nat}{g:St->Prop}{l:List V}(hI:s.heap.IsGen ga k)(Y0:∀ (A':Yg),AOK A' 8->∃ It,(∀ env':Env,IterG G env' A' ga [k] g It)/\It P l s)(hl:l.length<=1000)
  {st₀:St} (hg:∀ S us,st.σ S=none->g (stL st S us)) (hg0:s₀.gens[k]? = none) (ht:0 < s.toks) (R:RS G env st s) (O:∀ a∈P,Off G env st a) (h0:∀ a∈P,s₀.heap.get? a=none) (S0:Stp G env st₀ st s₀ s) {Q:Value->Zd->Prop}
  (q:∀ S s',st.σ S=none->RS G env (stL st S l) s'->Stp G env st₀ (stL st S l) s₀ s'->Q (.ref S) s'):W G A (call (.type "list") [.ref ga]) Q E s:=by
 have hz0:=Y0 A.in1.in1 (hA.in1 (n:=9)).in1
 let It:=hz0.choose
 have hq0:=hz0.choose_spec
 have Y:=hq0.1
 have hnS:st.σ s.heap.objs.size=none:=R.σnone (Yy _)
 refine callType_codes (Q₁:=fun obj j0=>obj= .ref s.heap.objs.size/\j0={ s with heap:=s.heap.push Yjm }) F.called_list (F.typeCall_list_1 _) F.entry_list_init
  (code_list_new _ ⟨rfl,rfl⟩) fun obj j0 Q0=>?_
 obtain rfl:=Q0.1
 obtain rfl:=Q0.2
 have hS:(s.heap.push Yjm).get? s.heap.objs.size=some Yjm:=Zq _ rfl
 refine ⟨⟨_,hS,rfl⟩,F.args_list_init_2 _ _,?_⟩
 refine Zc (m:=I8 (.ref s.heap.objs.size)) ((wbQ hS rfl (Ze ?_)))
 refine Zc (m:=Zmg s.heap.objs.size (fun J=>#[])) (XS hS rfl ((wbG ?_)))
 have O5:=Ye (ZZ (fun J=>(#[]:Array Value))) hS rfl
 have hG1:=Zjh hI fun o e=>Zy0 e
 refine (wbT hG1.typeIs ?_)
 refine (show Zbp (.ref s.heap.objs.size) (.ref ga)=false from beq_eq_false_iff_ne.mpr fun q=>(Xr ((Zgn hI).elim fun J z=>ZL z.1)) q)▸?_
 refine Zc (wpAny_pyIter_gen hG1 ((wbH ?_)))
 refine (wbO hG1.typeIs F.gen_no_len (Zc (m:=Yhw (ZR ga) (Zz "__length_hint__")) (wpAny_specialOf hG1.typeIs F.gen_no_hint (Ze ?_))))
 refine Zc (m:=rule "list.extend.makes-room") (Zz2 (Zc (m:=Zmg s.heap.objs.size (·.push .none) >>= fun J=>Zmg s.heap.objs.size (·.pop)) ?_))
 refine Zc (XS O5 rfl ?_)
 have M5:=Ye (ZZ (·.push Xo)) O5 rfl
 refine XS (hz:=by seq_fits) M5 rfl ?_
 refine Ze ⟨Uw Yna _,?_⟩
 have k2:=R.put (h':=hN s.heap) (t:=s.toks) (d:=s.drawn) (.inr (Yy _)) (fun b o J e=>Ype e) (Den.list (l:=[]) ⟨_,(Ye (ZZ (·.pop)) M5 rfl)⟩ .nil)
 have k3:=(Y env).stp (hq0.2) R O k2.1 k2.2 ht
 exact Yga (Y env) (hg _ · hnS) (fun k' hk=>YX hk▸hg0) hl (fun s3 t3 R3 S3=>⟨rfl,q _ s3 hnS R3 S3⟩) l [] P _ ⟨rfl,ht,k2.1,k3.1,k3.2,h0,S0.trans k2.2⟩def Zoc (lv:Nat->Option V)(cv:Nat->Option Addr)(Q:V->Hp->Prop)(l:List V)(g:St->Prop)(σ:Hp):Prop:=(l.length<=1000)/\(∀ S us,σ S=none->g ⟨upd σ S (.list us),lv,cv⟩)/\(∀ S,σ S=none->Q (.ref S) (upd σ S (.list l)))def Zoc.n0 {g}(z:@Zoc lv cv Q l g σ):=z.1
def Zoc.g {g}(z:@Zoc lv cv Q l g σ):=z.2.1
def Zoc.q {g}(z:@Zoc lv cv Q l g σ):=z.2.2
def Zso (f:FG):FX:=fun Δ lv cv Q σ=>f Δ lv cv (Zoc lv cv Q) σ
theorem Ydw {x:Str}{e:Expr}{np pos:Pos}{f:FG}(hn:nm 43=x)(hk:sc.lookup 43=some .globalImplicit)(he:SG sc e f)(hs:Zkc e) :
  SX sc (.Call (.Name x np) [e] [] pos) (Zso f):=by
 intro G Δ n env A X st s Q E ht R h
 refine XJ (SX.then (sGl hn hk) (Q:=fun v σ=>v= .bi .list/\σ=st.σ) X ht R ⟨rfl,rfl,rfl⟩ fun v x W0 j0 V1 J0 V0 J2 e=>?_)
 obtain ⟨rfl,rfl⟩:=e
 have hz0:=he X st j0 _ E V1 J0 h
 have h8:=hz0.1
 have w:=hz0.2
 refine J2.biE ?_
 have hns:(backTo pos (starEach [e] env)).any (·.1)=false:=by rw [hs];rfl
 refine YT hns (YS hns ?_)
 rw [hs]
 refine Z6 (w.to fun v J1 p=>p.el fun l g σ' ga k P p=>Yi ?_)
 refine (p.e)▸?_
 refine Iz .list ?_
 exact Yfd (st:=⟨σ',st.lv,st.cv⟩) (st₀:=st) (s₀:=s) X.C (X.hA.mono (Xm (Yr h8 2))) p.i p.it p.q.n0 p.q.g (V0.gnone_of p.gn) p.t p.R p.O (fun a ha=>V0.none_of (p.n a ha)) (V0.trans p.S) fun S s' hS R' S'=>
  ⟨.ref S,_,R',S',.ref S,p.q.q S hS⟩
end
section
variable {env':Env}{n:Nat}{P:List Addr}
theorem Zuf:Zfi table "proto.yield_from" = some Builtin.«proto.yield_from»:=Ib (by kernel_rfl)theorem Yef:plainId "proto.yield_from" = true:=by decide +kernel
theorem Yev:Zj4 (.type "list_iterator") "close" = pure none:=by rw [Zfv,Zb8];kernel_rfl
noncomputable abbrev yfC (li:Addr):Code:=.builtin "proto.yield_from" ⟨[.ref li,.bool false,.none],[]⟩
theorem Ygl {prog:YL}{w:World}{id:String}{args:Args}{b:Builtin}(hb:Zfi table id=some b):(model prog w).den (.builtin id args)=b args:=by
 show (match Zfi table id with | some b=>b args | none=>unsupported ((withoutEnding? id "#data").getD id))=_
 rw [hb]
section
variable {prog:YL}{w:World}{li r:Addr}{i:Nat}{ol:Obj}{items:Array Value}{nl:Nat}
noncomputable abbrev Yjf (li:Addr):Sem (Option Value):=Zry (.ref li) (Zz "__next__")
theorem Zyu {x:Value}{Q:Option Value->Zd->Prop}(hit:s.heap.IsListIter li r i)(hol:s.heap.get? r=some ol)(hdl:ol.data= .seq items nl)(hx:items[i]? = some x)
  (hQ:∀ h',h'.IsListIter li r (i + 1)->ZM li s.heap h'->Q (some x) { s with heap:=h' }):wpAny (model prog w) A (Yjf li) Q E s:=by
 have hz0:=id hit
 have hq0:=hz0.choose_spec
 have ho:=hq0.1
 have hd:=hq0.2.2
 refine Kw (name:=Zz "__next__") hit.typeIs Zdm (Y9 Zdm hit.typeIs entry_listiter_next ?_ (args_listiter_next _))
 refine Zc (m:=field (.ref li) 0) (Zbe ho hd (x:=.ref r) rfl ?_)
 refine Zc (m:=field (.ref li) 1) (Zbe ho hd (x:=.int i 0) rfl ?_)
 refine Zc (m:=Yhx (.ref r)) (Zz0 hol hdl ?_)
 simp only [Km,hx]
 refine (wbU ho hd Nat.one_lt_two (Ze ⟨x,rfl,hQ _ ?_ (ZV ..)⟩))
 exact ⟨_,Ye _ ho (Ycj (Zf9 hd _)),(Ym1 ..).trans (hq0.2.1),Zf9 hd _⟩
theorem Yfe {Q:Option Value->Zd->Prop}{E:Value->Zd->Prop}(hh:A.handled=none)(hit:s.heap.IsListIter li r i)(hol:s.heap.get? r=some ol)(hdl:ol.data= .seq items nl)(hx:items[i]? = none)
  (hE:∀ (h':Heap) (a:Addr) (k:Nat) (d:Array Value),XN li s.heap h'->h'.get? a=some { cls:=.type "StopIteration",data:=.fields d }->d[5]? = some .none->E (.ref a) { s with heap:=h' }):wpAny (model prog w) A (Yjf li) Q E s:=by
 have hz0:=id hit
 have hq0:=hz0.choose_spec
 have ho:=hq0.1
 have hd:=hq0.2.2
 refine Kw (name:=Zz "__next__") hit.typeIs Zdm (Y9 Zdm hit.typeIs entry_listiter_next ?_ (args_listiter_next _))
 refine Zc (m:=field (.ref li) 0) (Zbe ho hd (x:=.ref r) rfl ?_)
 refine Zc (m:=field (.ref li) 1) (Zbe ho hd (x:=.int i 0) rfl ?_)
 refine Zc (m:=Yhx (.ref r)) (Zz0 hol hdl ?_)
 simp only [Km,hx]
 refine (wbR ((wbU ho hd Nat.zero_lt_two ?_)))
 refine Zc ?_
 refine Zc (Z7 ?_ (by size_fits))
 refine Zc (m:=Za5 _ _) (Kq (a:=Xo) (by first | rfl | (simp only [Za5];rfl)) ?_)
 refine Z7 ?_ (by size_fits)
 refine Zc (Zoh ?_)
 refine (hh)▸?_
 refine (wbP (Zvb ?_))
 exact hE _ _ 0 _ (((ZV ..).extBut.push _).push _) (Zq _ rfl) rfl
end
section
variable {prog:YL}{w:World}{R:GenEnd}{Y:Zmd}{fs:List Frame}
theorem Ymb {M:Model}(b:Bool){li:Addr}{o:Obj}{Q:Unit->Zd->Prop}(e1:s.heap.get? li=some o)(e2:o.cls= .type "list_iterator")(q:Q () s):wpAny M A (Yqo (.ref li) b) Q E s:=by
 refine (wbL e1 ?_)
 rw [e2,if_pos (by decide)]
 exact Ze q
theorem Yia {li r:Addr}{i:Nat}{items:Array Value}{x:Value}(hit:s.heap.IsListIter li r i)(hl:s.heap.IsList r items)(hx:items[i]? = some x)(hfs:Yac fs=none)(hfg:fs.any Zk7=false)
  (h:∀ h' (kap:Resume->Zd->Prop),h'.IsListIter li r (i + 1)->ZM li s.heap h'->(∀ s'' o,s''.heap.get? li=some o->o.cls= .type "list_iterator"->Yj (model prog w) A R Y n s'' (yfC li) ((model prog w).den (yfC li)) fs s''->kap (.send .none) s'')->Y n s₀ x { s with heap:=h' } kap) :
  Yj (model prog w) A R Y (n + 1) s₀ (yfC li) ((model prog w).den (yfC li)) fs s:=by
 refine hl.elim fun ol hr53=>hr53.elim fun hol hr54=>hr54.elim fun _ hr55=>hr55.elim fun nl hdl=>?_
 refine (Ygl Zuf)▸?_
 refine Zbr (Ze (Zbr (Ia (Yl ?_))))
 refine (wbR (Zc (m:=Yjf li) (Zyu hit hol hdl hx fun h' hit' sb=>Ze ?_)))
 have hz0:=id hit'
 have hq0:=hz0.choose_spec
 have ho':=hq0.1
 have hc':=hq0.2.1
 refine Zbr (Zj2 ⟨(hz0.choose),ho',hc'⟩ (Zbr (Kq Yev (Zbr (Ze (Zbr (Ymb true ho' hc' (seg_yield hfs rfl hfg (h h' _ hit' sb fun s'' o'' e1 e2 hs=>?_)))))))))
 exact Zbr (Ze (Zbr (Ymb false e1 e2 (Zbr (Ze (Ztf (Uw Yef _) hs))))))
theorem Ynf {li r:Addr}{i:Nat}{items:Array Value}(hit:s.heap.IsListIter li r i)(hl:s.heap.IsList r items)(hx:items[i]? = none)
  {h g l kp} {k:Zbm->Sem XF} {W5:Code} {n6:Pos} (hh:(A.over (yfC li) (.ret k h g l W5 n6 kp::fs)).handled=none)
  (hk:∀ h',XN li s.heap h'->Yj (model prog w) A R Y n s₀ W5 (k (.ok (.ret .none))) fs { s with heap:=h' }) :
  Yj (model prog w) A R Y n s₀ (yfC li) ((model prog w).den (yfC li)) (.ret k h g l W5 n6 kp::fs) s:=by
 refine hl.elim fun ol hr50=>hr50.elim fun hol hr51=>hr51.elim fun _ hr52=>hr52.elim fun nl hdl=>?_
 refine (Ygl Zuf)▸?_
 refine Zbr (Ze (Zbr (Ia (Yl ?_))))
 refine (wbR (Zc (m:=Yjf li) (Yfe hh hit hol hdl hx fun h' a k d ex ea ed=>?_)))
 refine Zbr (Zc ((wbT (T:="StopIteration") ⟨_,ea,rfl⟩ ((wbE Zg8 ((wbE (a:=Xz "type") (by rfl) (Ze ?_))))))))
 refine Y5 (by decide) ?_
 refine Ze ?_
 exact Zbr (Zz2 (Zbr (Zbe ea rfl ed (seg_leaf (.ok (.ret .none)) (hk _ ex)))))
end
end
section
section
variable {prog:YL}{w:World}{R:GenEnd}{Y:Zmd}{n:Nat}{c:Code}{fs:List Frame}
 {K:Flow->Sem XF} {H:Value->Sem XF} {gd:Bool->Bool} {lv:List Value->List Value}
theorem Zos {e:Expr}{yp p:Pos}(hi:Zma env=false)
  (h:wpAny (model prog w) (A.over c fs) (eval e env) (fun v j0=>∃ a,v= .ref a/\j0.TypeIs (.ref a) "list"/\wpAny (model prog w) (A.over c fs) (Yau (.ref a)) (fun it J1=>∃ li,it= .ref li/\∀ p' k,
    (∀ m m5 s',Yj (model prog w) A R Y m m5 c (K .next) fs s'->Yj (model prog w) A R Y m m5 c (k (.ok (.ret .none))) fs s')->
    Yj (model prog w) A R Y n s₀ (yfC li) ((model prog w).den (yfC li)) (.ret k none (gd false) (lv []) c p' []::fs) J1) (fun x s'=>Yj (model prog w) A R Y n s₀ c (H x) fs s') j0)
   (fun x s'=>Yj (model prog w) A R Y n s₀ c (H x) fs s') s) :
  Yj (model prog w) A R Y n s₀ c ((exec (.Expr (.YieldFrom e yp) p) env).wrap K H gd lv) fs s:=by
 rw [exec_Expr env _ p hi rfl]
 refine XC (Zbz ?_)
 show Yj _ _ _ _ _ _ _ (((eval e env >>= fun v=>(Zgi yp >>= fun J=>yieldFrom env v)) >>= fun x=>dropValue (.YieldFrom e yp) p x).wrap K H gd lv) _ _
 rw [Zn3,Zn3,Zxi,Zxi]
 refine seg_wrap (Zy h (fun v j0 hw0=>?_) fun J J x=>x)
 obtain ⟨a,e1,hT,Q0⟩:=hw0
 subst e1
 refine XC (Zbz ?_)
 refine XC (Zj2 hT ?_)
 refine XC (Yl (Zy Q0 (fun it J1 hw2=>?_) fun J J x=>x))
 obtain ⟨li,e1,G3⟩:=hw2
 subst e1
 refine seg_call fun p'=>G3 p' _ fun m m5 s' hs=>?_
 exact hs
end
end
section
variable {env':Env}{P:List Addr}{d r0 it li:Addr}{rs:List Addr}{w:V}{h h':Heap}
def NsF (d r0:Addr)(rs:List Addr)(w:V)(s:Zd):Prop:=s.heap.PlainList d ((r0::rs).map ZR).toArray/\(∃ x,s.heap.PlainList r0 #[x]/\VR s.heap w x)/\(∀ r∈rs,s.heap.PlainList r #[])def NsF.l (z:@NsF d r0 rs w s):=z.1
def NsF.z (z:@NsF d r0 rs w s):=z.2.1
def NsF.e (z:@NsF d r0 rs w s):=z.2.2
theorem NsF.mono (h:NsF d r0 rs w s)(k:∀ a o,(∃ it n,o.data= .seq it n)->s.heap.get? a=some o->s'.heap.get? a=some o)(ik:Imk s.heap s'.heap):NsF d r0 rs w s':=
 have kp:∀ {a:Addr} {it:Array Value},s.heap.PlainList a it->s'.heap.PlainList a it:=fun h=>h.imp fun J e=>k _ _ ⟨_,_,rfl⟩ e
 ⟨kp h.l,h.z.imp fun J z=>⟨kp z.1,z.2.mono ik⟩,fun r hr=>kp (h.e r hr)⟩theorem NsF.ext (F:NsF d r0 rs w s)(k:∀ b o,s.heap.get? b=some o->h'.get? b=some o){g:Array Uh}{dr:Drawn}{t:Nat}{os:Yk4}:NsF d r0 rs w ⟨h',g,dr,t,os⟩:=F.mono (fun a o J e=>k a o e) fun a o e J=>k a o e
def NsY (G:GC)(P:List Addr)(F:Zd->Prop)(w:V)(s₀:Zd)(v:Value)(s:Zd)(kap:Resume->Zd->Prop):Prop:=VR s.heap w v/\(∀ a∈P,Nim s a)/\Chg P [] s₀ s/\(∀ s'',Alive G P s s''->F s''->kap (.send .none) s'')def NsY.r (z:@NsY G P F w s₀ v s kap):=z.1
def NsY.o (z:@NsY G P F w s₀ v s kap):=z.2.1
def NsY.c (z:@NsY G P F w s₀ v s kap):=z.2.2.1
def NsY.k (z:@NsY G P F w s₀ v s kap):=z.2.2.2
noncomputable def nsY (G:GC)(P:List Addr)(F:Zd->Prop)(w:V):Zmd:=fun J=>NsY G P F w
noncomputable def scN:Sc:=[(21,.local),(51,.local),(52,.local),(54,.local)]noncomputable abbrev Yer (q:Nat->Pos):Expr:=.Name (nm 54) (q 1)noncomputable abbrev Zrh (q:Nat->Pos):List Stmt:=[.If (.Name (nm 54) (q 5)) [.Expr (.YieldFrom (.Name (nm 54) (q 6)) (q 7)) (q 8)] [] (q 9)]noncomputable abbrev Yoy (q:Nat->Pos):Expr:=.Call (.Name (nm 52) (q 2)) [.Name (nm 51) (q 3)] [] (q 4)noncomputable abbrev Znc (q:Nat->Pos):List Stmt:=[.For (Yer q) (Yoy q) (Zrh q) [] (q 10)]def ItW (o:Obj):Prop:=(¬ imm o)/\(∃ vs,o.data= .fields vs)def ItW.n (z:@ItW o):=z.1
def ItW.f (z:@ItW o):=z.2
def ItO (h:Heap)(a:Addr):Prop:=∃ o,h.get? a=some o/\ItW o
theorem Zv8 {l:Addr}{i:Int}(x:UT h it l i):ItO h it:=x.imp fun J z=>⟨z.1,Za0 z.2.2 z.2.1 (by decide),_,z.2.2⟩theorem Zyv {l:Addr}{i:Nat}(x:h.IsListIter li l i):ItO h li:=x.imp fun J z=>⟨z.1,Za0 z.2.2 z.2.1 (by decide),_,z.2.2⟩theorem ItO.nim (x:ItO s.heap it):Nim s it:=x.imp fun J z=>⟨z.1,z.2.n⟩theorem ItO.imk (x:ItO h it)(k:XN it h h'):Imk h h':=fun b o e hi=>k b o (fun q=>x.elim fun J z=>z.2.n (si (q▸e) z.1▸hi)) e
theorem ItO.ne (x:ItO h it){a:Addr}{o:Obj}(hs:∃ it n,o.data= .seq it n)(e:h.get? a=some o):a≠it:=fun q=>x.elim fun J z=>z.2.f.elim fun J f=>hs.elim fun J p=>p.elim fun J p=>nomatch (p.symm.trans (congrArg Obj.data (si e (q▸z.1)))).trans f
theorem Ya5 {a b:Addr}{o:Obj}{m:Str->Option Value}(x:h.Ns b m)(e:h.get? a=some o)(hs:∃ it n,o.data= .seq it n):a≠b:=fun q=>x.elim fun J z=>z.elim fun J z=>z.elim fun J z=>hs.elim fun J p=>p.elim fun J p=>nomatch (p.symm.trans (congrArg Obj.data (si e (q▸z.1)))).trans z.2.1
def NsS (G:GC)(env:Env)(d r0:Addr)(rs:List Addr)(w:V)(lv:Nat->Option V)(s:Zd):Prop:=(0 < s.toks)/\RS (G0 G) env (st0 lv) s/\NsF d r0 rs w s
def NsS.t (z:@NsS G env d r0 rs w lv s):=z.1
def NsS.R (z:@NsS G env d r0 rs w lv s):=z.2.1
def NsS.F (z:@NsS G env d r0 rs w lv s):=z.2.2
theorem NsS.ext (x:NsS G env d r0 rs w lv s)(k:∀ b o,s.heap.get? b=some o->h'.get? b=some o){t:Nat}{dr:Drawn}(ht:0 < t):NsS G env d r0 rs w lv ⟨h',s.gens,dr,t,s.os⟩:=
 ⟨ht,(x.R.ext k).1,x.F.ext k⟩theorem Chg.ext (k:∀ b o,s.heap.get? b=some o->h'.get? b=some o){t:Nat}{dr:Drawn}(ht:0 < t):Chg P [] s ⟨h',s.gens,dr,t,s.os⟩:=⟨fun b o J e=>k b o e,fun J J J e=>e,id,rfl,fun J=>ht⟩
theorem NsS.own (x:NsS G env d r0 rs w lv s){a:Addr}(I:ItO s.heap a)(hl:a≠env.locals)(hb:G.B.get? a=none)(k:XN a s.heap h'):NsS G env d r0 rs w lv { s with heap:=h' }:=
 ⟨x.t,x.R.chg (P:=[a]) (GP:=[]) (fun b hb'=>YX hb'▸⟨rfl,hl,fun J h=>(nomatch h),hb⟩) (fun b hb' o e=>I.elim fun J z=>si z.1 (YX hb'▸e)▸z.2.n) (.eb k),
  x.F.mono (fun b o hs e=>k b o (I.ne hs e) e) (I.imk k)⟩def NsC (G:GC)(env:Env)(it li:Addr):Prop:=(it≠env.locals)/\(li≠env.locals)/\(li≠it)/\(G.B.get? it=none)/\(G.B.get? li=none)def NsC.il (z:@NsC G env it li):=z.1
def NsC.ll (z:@NsC G env it li):=z.2.1
def NsC.ne (z:@NsC G env it li):=z.2.2.1
def NsC.bi (z:@NsC G env it li):=z.2.2.2.1
def NsC.bl (z:@NsC G env it li):=z.2.2.2.2
noncomputable abbrev nsP (env:Env)(it li:Addr):List Addr:=[env.locals,it,li]theorem ci {a:Addr}(h:XN a s.heap h')(ha:a∈P):Chg P [] s { s with heap:=h' }:=(Chg.eb h).sub fun b q=>YX q▸ha
section
variable {q:Nat->Pos}
noncomputable abbrev Znb (q:Nat->Pos)(it:Addr)(env:Env):Code:=.forLoop (Yer q) (.ref it) (Zrh q) [] env
noncomputable abbrev nsK (q:Nat->Pos)(it:Addr)(env:Env):Flow->Sem XF:=fun f=>match f with
      | .next | .cont=>.pure (.again (.forLoop (Yer q) (.ref it) (Zrh q) [] env))
      | .brk=>.pure (.done .next)
      | .ret v=>.pure (.done (.ret v))def NsT (G:GC)(env:Env)(d r0:Addr)(rs:List Addr)(w:V)(it li:Addr)(lv:Nat->Option V)(j:Int)(s s2:Zd):Prop:=NsS G env d r0 rs w lv s2/\Chg (nsP env it li) [] s s2/\UT s2.heap it d j/\(s2.heap.objs.size=s.heap.objs.size)def NsT.S (z:@NsT G env d r0 rs w it li lv j s s2):=z.1
def NsT.c (z:@NsT G env d r0 rs w it li lv j s s2):=z.2.1
def NsT.i (z:@NsT G env d r0 rs w it li lv j s s2):=z.2.2.1
def NsT.z (z:@NsT G env d r0 rs w it li lv j s s2):=z.2.2.2
theorem Zyk (hE:EOK env scN)(hc:NsC G env it li){R':GenEnd}{Y:Zmd}{n:Nat}{fs:List Frame}
  {j:Nat} {r:Addr} (hx:((r0::rs).map ZR).toArray[j]? = some (.ref r)) (x:NsS G env d r0 rs w lv s) (hit:UT s.heap it d (j:Int))
  (cont:∀ s2 H',NsT G env d r0 rs w it li (upd lv 54 (.ref r)) ((j:Int) - 1) s s2->Yj (model G.prog G.w) A R' Y n s₀ (Znb q it env) ((execs (Zrh q) env).wrap (nsK q it env) H' id id) fs s2) :
  Yj (model G.prog G.w) A R' Y n s₀ (Znb q it env) ((model G.prog G.w).den (Znb q it env)) fs s:=by
 refine Ze8 rfl (wpAny_pyNext_rev_item hit x.F.l.isList hx fun h' hit' sb=>?_)
 have x1:=x.own (Zv8 hit) hc.il hc.bi sb.extBut
 have hq0:=x1.R.fr.choose_spec
 have F:=hq0.1
 refine Zkv.go (hit'.imp fun J z=>⟨_,_,z.1,z.2.1,z.2.2,by decide⟩) _ _ ?_
 refine Ky (Zk8 (by rw [hE.kindOf];rfl) F.ns (fun h2 hn hs=>?_) (by rw [hE.kind];rfl))
 have k:=x1.R.store (d:=s.drawn) (t:=s.toks + 1) F (hq0.2) (.ref r) hn hs
 have kl:KL env { s with heap:=h' } { s with heap:=h2,toks:=s.toks + 1 }:=.of k.2 rfl
 exact cont { s with heap:=h2,toks:=s.toks + 1 } _ ⟨⟨Z8 _,k.1,x1.F.mono (fun a o hs e=>kl.heap a o (Ya5 F.ns e hs) e) (x1.R.imk k.2)⟩,(ci sb.extBut (.tail _ (.head _))).trans (kl.chg (.head _) k.1.bare (Z8 _)),hit'.at fun o e=>kl.heap it o hc.il e,hs.1.trans sb.1⟩
abbrev Yes (G:GC)(env:Env)(A:Yg)(d r0:Addr)(rs:List Addr)(w:V)(it li:Addr)(n:Nat)(s₀:Zd)(c:Code)(t:Sem XF)(fs:List Frame)(s:Zd):Prop:=
 Yj (model G.prog G.w) A.in1 (Zoz (nsP env it li)) (nsY G (nsP env it li) (NsF d r0 rs w) w) n s₀ c t fs s
theorem Yjg (hE:EOK env scN)(hc:NsC G env it li)(hA:AOK A 5){pf:Pos}{b0:List Stmt}{K4:Flow->Sem XF}{H4:Value->Sem XF}
  (fin:∀ (lv:Nat->Option V) (s₀ s:Zd),NsS G env d r0 rs w lv s->Chg (nsP env it li) [] s₀ s->Yes G env A d r0 rs w it li 0 s₀ (.func b0 env) (K4 .next) [] s) :
  ∀ (i:Nat) (lv:Nat->Option V) (s:Zd),i<=rs.length->NsS G env d r0 rs w lv s->Chg (nsP env it li) [] s₀ s->UT s.heap it d (i:Int)->s.heap.objs.size=li->
   Yes G env A d r0 rs w it li 1 s₀ (Znb q it env) ((model G.prog G.w).den (Znb q it env)) [.ret (Zy3 env K4 H4 id id) none (id false) (id []) (.func b0 env) pf []] s:=by
 intro i
 induction i with
 | zero=>
  intro lv s _ x c0 hit hz
  have hns:(upd lv 54 (.ref r0)) 54=some (.ref r0):=rfl
  refine Zyk hE hc (j:=0) (r:=r0) rfl x hit fun s2 H' T=>?_
  let x0:=T.S.F.z.choose
  have hq0:=T.S.F.z.choose_spec
  have p0:=hq0.1
  have v0:=hq0.2
  refine Ud (Zm2 (Zoq (Zfy hE T.S.R rfl hns fun x rx=>rx.rE (Zqw p0.isList (show (1:Int) < 2 ^ 63 by decide) ⟨fun J=>?_,fun h=>Yw h⟩))))
  have x3:=T.S.ext (h':=s2.heap) (t:=s2.toks + 1 + 1) (dr:=s2.drawn) (fun J J e=>e) (Z8 _)
  have hz':=T.z.trans hz
  refine Ud (Zos (by simp [Zma,hE.kind]) (Zfy hE x3.R rfl hns fun x rx=>rx.rE ⟨r0,rfl,p0.isList.typeIs,wpAny_pyIter_list p0.isList ⟨li,congrArg ZR hz',fun p' k hk=>?_⟩⟩))
  have x4:=x3.ext (h':=s2.heap.push { cls:=.type "list_iterator",data:=.fields #[.ref r0,.int 0 0] }) (t:=s2.toks + 1 + 1) (dr:=s2.drawn) (fun b o e=>Zg _ e) (Z8 _)
  have hli3:(s2.heap.push { cls:=.type "list_iterator",data:=.fields #[.ref r0,.int 0 0] }).IsListIter li r0 0:=hz'▸⟨_,Zq _ rfl,rfl,rfl⟩
  have hq0:=x4.F.z.choose_spec
  refine Yia (n:=0) hli3 (hq0.1).isList (x:=(x4.F.z.choose)) rfl rfl rfl fun h' kap hli4 sb hkap=>?_
  have x5:=x4.own (Zyv hli3) hc.ll hc.bl sb.extBut
  have hit4:UT h' it d (-1):=T.i.at fun o e=>(sb.2 it hc.ne.symm).trans (Zg _ e)
  refine ⟨(hq0.2).mono ((Zyv hli3).imk sb.extBut),Ye2 x5.R.locn (Zv8 hit4).nim (Zyv hli4).nim,(c0.trans T.c).trans ((Chg.ext (fun b o e=>Zg _ e) (Z8 _)).trans (ci sb.extBut (.tail _ (.tail _ (.head _))))),fun s5 al hF5=>?_⟩
  let o4:=hli4.choose
  have hq0:=hli4.choose_spec
  have hli5:=hq0.2
  have e5:s5.heap.get? li=some o4:=(al.at_ li (.tail _ (.tail _ (.head _)))).trans (hq0.1)
  refine hkap s5 o4 e5 hli5.1 ?_
  let x5':=hF5.z.choose
  refine Ynf ⟨o4,e5,hli5⟩ ((hF5.z.choose_spec).1).isList rfl hA.handled fun h6 ex=>hk 0 s5 _ ?_
  have hit6:UT h6 it d (-1):=hit4.at fun o e=>ex it _ hc.ne.symm ((al.at_ it (.tail _ (.head _))).trans e)
  refine Xd (Xd (Ztf rfl (Ze8 rfl (wpAny_pyNext_rev_end hA.handled hit6 fun h7 ex7=>?_))))
  exact seg_leaf (.ok .next) (fin _ _ _ ((NsS.own ⟨al.tok,x5.R.wake (.head _) al,hF5⟩ (Zyv ⟨o4,e5,hli5⟩) hc.ll hc.bl ex).own (Zv8 hit6) hc.il hc.bi ex7) ((ci ex (.tail _ (.tail _ (.head _)))).trans (ci (s:={ s5 with heap:=h6 }) ex7 (.tail _ (.head _)))))
 | succ i ih=>
  intro lv s hi x c0 hit hz
  have hr:=ZG hi
  refine Zyk hE hc (j:=i + 1) (r:=rs[i]) (by rw [Z0,Yd,List.getElem?_cons_succ,hr];rfl) x hit fun s2 H' T=>?_
  have hns:(upd lv 54 (.ref rs[i])) 54=some (.ref rs[i]):=rfl
  have pr:=T.S.F.e _ (Zhl hi)
  refine Ud (Zm2 (Zoq (Zfy hE T.S.R rfl hns fun x rx=>rx.rE (Zqw pr.isList (show (0:Int) < 2 ^ 63 by decide) ⟨fun h=>Yw h,fun J=>?_⟩))))
  refine Xd (Xd (Ztf rfl ?_))
  exact ih _ _ (Yn hi) (T.S.ext (h':=s2.heap) (t:=s2.toks + 1 + 1) (dr:=s2.drawn) (fun J J e=>e) (Z8 _)) (c0.trans (T.c.trans (.ext (fun J J e=>e) (Z8 _)))) ((XQ (i:Int) 1:((i + 1:Nat):Int) - 1=i)▸T.i) (T.z.trans hz)
end
end
section
variable {env':Env}{P:List Addr}{d r0 it li:Addr}{rs:List Addr}{w:V}{q:Nat->Pos}{ga:Addr}{g:Nat}
theorem Ycv {h:Heap}{rs:List Addr}:∀ {l:List Value},VRs h (rs.map V.ref) l->l=rs.map ZR:=@Ycm Addr (fun rs=>∀ {l:List Value},VRs h (rs.map V.ref) l->l=rs.map ZR) (fun r=>r.nE rfl) (fun _ _ ih {_} r=>r.cE fun J J a b=>a.rE (congrArg _ (ih b))) rs
abbrev nsG (d r0:Addr)(rs:List Addr)(w:V)(st:St):Prop:=st.σ d=some (.list ((r0::rs).map .ref))/\st.σ r0=some (.list [w])/\∀ r∈rs,st.σ r=some (.list [])
theorem Zty (R:RS G env st s)(h:nsG d r0 rs w st):NsF d r0 rs w s:=
 ⟨(R.den _ _ h.1).1.rec fun p r=>Ycv (rs:=r0::rs) r▸p,(R.den _ _ h.2.1).1.rec fun {l} p r=>by revert p;exact r.oE fun J a p=>⟨_,p,a⟩,fun r hr=>(R.den _ _ (h.2.2 r hr)).1.rec fun {l} p r=>by revert p;exact r.nE id⟩
theorem Yeq (hE:EOK env scN)(hA:AOK A 5)(x:NsS G env d r0 rs w lv s)(h1:lv 51=some (.ref d))(h2:lv 52=some (.bi .rev)) :
  Yes G env A d r0 rs w s.heap.objs.size (s.heap.objs.size + 1) 1 s (.func (Znc q) env) ((model G.prog G.w).den (.func (Znc q) env)) [] s:=by
 have hL:env.locals < s.heap.objs.size:=x.R.fr.elim fun J F=>F.1.ns.lt
 have hB:∀ a,s.heap.objs.size<=a->G.B.get? a=none:=fun a h=>Sn fun o q=>x.R.fr.elim fun J F=>absurd (ZL (F.1.keep a o q)) (Ug.mpr h)
 refine seg_func (Ud (Zyd (fun J=>rfl) (XJ (Zfy hE x.R rfl h2 fun xv rv=>rv.biE ?_))))
 refine YT rfl (YS rfl (Z6 (Zfy hE x.R rfl h1 fun av ra=>ra.rE (Yi (Iz .rev ?_)))))
 refine call_reversed_list x.F.l.isList ?_
 refine (show (((r0::rs).map ZR).toArray.size:Int) - 1=rs.length from (congrArg (fun n:Nat=>((n + 1:Nat):Int) - 1) (Zh (as:=rs) ZR)).trans (XQ (rs.length:Int) 1))▸?_
 have hit:UT (s.heap.push (revObj d (rs.length:Int))) s.heap.objs.size d (rs.length:Int):=⟨_,Zq _ rfl,rfl,rfl⟩
 refine wpAny_pyIter_revIter hit fun pp=>?_
 refine Yjg hE ⟨Xr hL,Xr (YW hL),Zpa _,hB _ (Zm _),hB _ (ZW _)⟩ hA (fun lv' s0' s' J c0=>?_) rs.length lv { s with heap:=s.heap.push (revObj d (rs.length:Int)) } (Zm _)
  (x.ext (fun b o e=>Zg _ e) x.t) (.ext (fun b o e=>Zg _ e) x.t) hit (Zij _)
 exact Xd (seg_end (.ok (.ret .none)) ⟨rfl,rfl,c0⟩)def Zn7 (G:GC)(q:Nat->Pos)(d:Addr)(ga:Addr)(g:Nat)(env':Env)(u:Zd)(lw:Nat->Option V):Prop:=u.heap.IsGen ga g/\(u.gens[g]? = some (.fresh (.func (Znc q) env')))/\RS (G0 G) env' (st0 lw) u/\(lw 51=some (.ref d))/\(lw 52=some (.bi .rev))def Zn7.i (z:@Zn7 G q d ga g env' u lw):=z.1
def Zn7.s0 (z:@Zn7 G q d ga g env' u lw):=z.2.1
def Zn7.R (z:@Zn7 G q d ga g env' u lw):=z.2.2.1
def Zn7.a (z:@Zn7 G q d ga g env' u lw):=z.2.2.2.1
def Zn7.b (z:@Zn7 G q d ga g env' u lw):=z.2.2.2.2
def Zn6 (G:GC)(A:Yg)(d r0:Addr)(rs:List Addr)(w:V)(ga:Addr)(g:Nat)(env':Env)(u:Zd)(gs:Uh)(it li:Addr):Prop:=u.heap.IsGen ga g/\(u.gens[g]? = some gs)/\(∀ a∈nsP env' it li,Nim u a)/\(ga∉nsP env' it li)/\(∀ s'',Alive G (nsP env' it li) u s''->NsF d r0 rs w s''->gs.Goes (model G.prog G.w) A.in1 (Zoz (nsP env' it li)) (nsY G (nsP env' it li) (NsF d r0 rs w) w) 0 (.send .none) s'')def Zn6.i (z:@Zn6 G A d r0 rs w ga g env' u gs it li):=z.1
def Zn6.s0 (z:@Zn6 G A d r0 rs w ga g env' u gs it li):=z.2.1
def Zn6.o (z:@Zn6 G A d r0 rs w ga g env' u gs it li):=z.2.2.1
def Zn6.n (z:@Zn6 G A d r0 rs w ga g env' u gs it li):=z.2.2.2.1
def Zn6.go (z:@Zn6 G A d r0 rs w ga g env' u gs it li):=z.2.2.2.2
inductive Yhf (G:GC)(A:Yg)(q:Nat->Pos)(d r0:Addr)(rs:List Addr)(w:V)(ga:Addr)(g:Nat)(env':Env):List Addr->List V->Zd->Prop
 | fresh {u:Zd} {lw:Nat->Option V}:Zn7 G q d ga g env' u lw->Yhf G A q d r0 rs w ga g env' [ga,env'.locals] [w] u
 | sleep {u:Zd} {gs:Uh} {it li:Addr}:Zn6 G A d r0 rs w ga g env' u gs it li->Yhf G A q d r0 rs w ga g env' (ga::nsP env' it li) [] u
theorem Yhf.gen {l:List V}(h:Yhf G A q d r0 rs w ga g env' P l s):s.heap.IsGen ga g/\(s.gens[g]?).isSome=true:=h.rec (fun w=>⟨w.i,iS w.s0⟩) fun w=>⟨w.i,iS w.s0⟩
theorem Yjh (C:GOK G)(hE:EOK env' scN)(hA:AOK A 5)(hgl:ga≠env'.locals):IterG G env A ga [g] (nsG d r0 rs w) (Yhf G A q d r0 rs w ga g env') where
 obj:=fun P l s h=>h.rec (fun w=>Zov (p:=Nim _) (Zgn w.i) w.R.locn) fun w=>Zms (p:=Nim _) (Zgn w.i) w.o
 at':=fun P l s s' h=>h.rec (fun w al hg=>.fresh ⟨Zjh w.i fun J e=>(al.at_ _ (.head _)).trans e,(hg g (.head _)).trans w.s0,w.R.wake (.tail _ (.head _)) al,w.a,w.b⟩) fun w al hg=>
  have up:=fun a ha=>al.at_ a (.tail _ ha)
  .sleep ⟨Zjh w.i fun J e=>(al.at_ _ (.head _)).trans e,(hg g (.head _)).trans w.s0,fun a ha=>(w.o a ha).imp fun J z=>⟨(up a ha).trans z.1,z.2⟩,w.n,fun s'' al2=>w.go s'' ⟨fun a ha=>(al2.at_ a ha).trans (up a ha),fun b o e hi=>al2.imk b o (al.imk b o e hi) hi,al2.base,al2.bare,al2.os,al2.tok⟩⟩
 gobj:=fun P l s h k hk=>YX hk▸h.gen.2
 own:=fun P l s h=>h.gen.1.elim fun J z=>z.elim fun J z=>z.elim fun J z=>⟨_,_,_,z.1,z.2.1,z.2.2.1,by decide⟩
 item:=fun v P l s st Q E h ht R hgs hO k=>by
  have hF:=Zty R hgs
  have hbr:Ir (s.setGen g .running).gens:=Zf2 R.bare rfl
  cases h with
  | fresh w=>
  have hga:ga < s.heap.objs.size:=(Zgn w.i).elim fun o z=>ZL z.1
  have hn:∀ a,s.heap.objs.size<=a->s.heap.get? a=none:=fun a ha=>Sn fun o q=>absurd (ZL q) (Ug.mpr ha)
  have wn:ga∉nsP env' s.heap.objs.size (s.heap.objs.size + 1):=Ymj hgl (Z3 hga) (Z3 (YW hga))
  refine Ze9 (P:=nsP env' s.heap.objs.size (s.heap.objs.size + 1)) hA.handled (R.fr.elim fun J F=>C.nolimit.keeps F.1.keep) hA.room w.i w.s0 ⟨rfl,Yeq (s:=s.setGen g .running) hE hA ⟨ht,w.R.gens hbr,⟨hF.l,hF.z,hF.e⟩⟩ w.a w.b⟩ (fun v' j0 gs' hb y=>?_) (fun j0 hn=>nomatch hn)
  exact k v' (j0.setGen g gs') (ga::nsP env' s.heap.objs.size (s.heap.objs.size + 1)) (Zms (.inl (.head _)) (Ye2 (.inl (.tail _ (.head _))) (.inr (hn _ (Zm _))) (.inr (hn _ (ZW _))))) (Zmj y.c hb fun J J e=>e) y.r
   (.sleep ⟨Zjh w.i fun J e=>y.c.heap _ _ wn e,Zvd (y.c.gens g _ (fun h=>nomatch h) (Zvd w.s0)),y.o,wn,fun s'' al=>y.k s'' ⟨al.at_,al.imk,al.base,al.bare,al.os,al.tok⟩⟩)
 fin:=fun P s st Q E h ht R hgs hO k=>by
  have hF:=Zty R hgs
  have hbr:Ir (s.setGen g .running).gens:=Zf2 R.bare rfl
  cases h with
  | @sleep _ gs it li w=>
  have hK:=R.fr.elim fun J F=>F.1.keep
  refine Ze9 (P:=nsP env' it li) (n:=0) hA.handled (R.fr.elim fun J F=>C.nolimit.keeps F.1.keep) hA.room w.i w.s0 (w.go _ ⟨fun J J=>rfl,fun b o e J=>e,hK,hbr,R.os,ht⟩ ⟨hF.l,hF.z,hF.e⟩) (fun v' j0 gs' hb y=>?_) (fun j0 hn hchg h' hk=>k _ (ga::nsP env' it li) (fun a ha=>.inl ha) (Zmj hchg rfl hk))
  have offP:∀ a∈nsP env' it li,Off G env st a:=fun a ha=>hO a (.tail _ ha)
  have kp:∀ {a:Addr} {o:Internal.O} {z:Array Value},st.σ a=some o->s.heap.PlainList a z->j0.heap.PlainList a z:=fun e p=>p.imp fun J p=>y.c.heap _ _ (fun q=>nn (offP _ q).σ e) p
  exact (y.k j0 ⟨fun J J=>rfl,fun J J e J=>e,fun b o e=>y.c.heap b o (fun q=>nn (offP b q).base e) (hK b o e),y.c.bare hbr,y.c.os.trans R.os,y.c.tok ht⟩
   ⟨kp hgs.1 hF.l,hF.z.imp fun J z=>⟨kp hgs.2.1 z.1,z.2.mono fun b o e hi=>y.c.heap b o (fun q=>(w.o b q).elim fun J z=>z.2 (si e z.1▸hi)) e⟩,fun r hr=>kp (hgs.2.2 r hr) (hF.e r hr)⟩).elim
end
inductive GenE (G:GC):Prop
 | mk {fd:YF} {x:Esc} {m1 m2:Str} {q1 q2 p1 p2 c1 c2:Pos} {k1 k2:Nat} (A:Zu6 G 336 fd scE x.body) (O:Zod x) (H:EscH x m1 m2 q1 q2 p1 p2 c1 c2 k1 k2) (b:∀ v,Binds G fd [v] [(147,v)])
inductive GenN (G:GC):Prop
 | mk {fd:YF} {q:Nat->Pos} (A:Zu6 G 75 fd scN (Znc q)) (b:∀ a b,Binds G fd [a,b] [(21,a),(51,b),(52,.bi .rev)])
structure GenF (G:GC):Prop where
 esc:GenE G
 ns:GenN G
theorem Zu6.keep {f:Addr}{fd:YF}{sc:Sc}{body:List Stmt}(F:Zu6 G f fd sc body){env:Env}{st:St}{s:Zd}(R:RS G env st s){A:Yg}{E:Value->Zd->Prop}:W G A (Zac (.ref f)) (fun J s'=>s'=s) E s:=
 R.fr.elim fun J Fr=>F.obj.elim fun J z=>Zig (Fr.1.keep _ _ z.1) z.2
theorem GenC.res {sc:Sc}{body:List Stmt}{bs:List (Nat×V)}{ga g:Nat}{env env':Env}{st:St}{s s':Zd}(w:GenC G env st s sc body bs ga g env' s'){l:List V}{gd:St->Prop}{It:Yg->List Addr->List V->Zd->Prop}
  (i:∀ A',AOK A' 8->(∀ env'',IterG G env'' A' ga [g] gd (It A'))/\It A' [ga,env'.locals] l s'):∃ ga' k P,GenR G env st s l gd (.ref ga) s' ga' k P:=
 ⟨ga,g,[ga,env'.locals],rfl,w.i,fun A' hA=>⟨It A',i A' hA⟩,w.R,w.S,Zov w.na w.nl,w.ng,w.t⟩
theorem Yf5 (C:GOK G)(X:GenF G):Ym9 G:=by
 intro f vs l g A env st s vals E hv hA ht R rv
 cases hv with
 | esc hasc=>exact X.esc.rec fun F O H b=>⟨F.keep R,Zuj C F (by decide) (b _) (Zi.mpr ⟨rfl,Yp _⟩) hA.room R rv fun ga g env' s' w=>
   w.res fun A' hA'=>⟨fun J=>Ygd O C w.E0 hasc (hA'.mono (by decide)) H w.n0,.fresh ⟨w.i,w.gf,w.R0,rfl⟩⟩⟩
 | ns h1 h2 h3 h4=>exact X.ns.rec fun F b=>⟨F.keep R,Zuj C F (by decide) (b _ _) (Zi.mpr ⟨rfl,Zi.mpr ⟨rfl,Zi.mpr ⟨rfl,Yp _⟩⟩⟩) hA.room R rv fun ga g env' s' w=>
   w.res fun A' hA'=>⟨fun J=>Yjh C w.E0 (hA'.mono (by decide)) w.n0,.fresh ⟨w.i,w.gf,w.R0,rfl,rfl⟩⟩⟩
section
variable {env':Env}{n:Nat}{P:List Addr}
inductive Ym4 (Δ:Dl)(f:Addr)(vs:List V)(σ:Hp)(Q:V->Hp->Prop):Prop | mk {g self} (e:σ f=some (.meth g self)) (c:∃ c m,clsM c m=some g) (q:Δ g (self::vs) σ Q)noncomputable def Yl1 (Δ:Dl):Dl:=⟨fun a vs σ Q=>Δ a vs σ Q\/Ym4 Δ a vs σ Q,Δ.gen,Δ.scr⟩
theorem Zne (C:GOK G)(D:DV G Δ n){f:Addr}{vs:List V}{Q:V->Hp->Prop}{vals:List Value}(hA:AOK A n)(ht:0 < s.toks)(R:RS G env st s)(rv:VRs s.heap vs vals)(h:Ym4 Δ f vs st.σ Q) :
  W G A (Zac (.ref f)) (fun J s'=>s'=s) E s/\codeAny (model G.prog G.w) A (.call (.ref f) ⟨vals,[]⟩) (fun r s'=>match r with | .ok (.ret v)=>PV G env st s Q v s' | .ok _=>False | .error e=>E e s') s:=
 h.rec fun {g self} e hc h=>(R.den _ _ e).1.rec fun {x} e1 r1=>
  have hod:∃ od,s.heap.get? g=some od:=hc.elim fun J z=>z.elim fun J hc=>(Yz.mp (beq_iff_eq.mp (C.cls _ _ _ hc).fn)).imp fun o ho=>kin C R g o ho.1
  ⟨(wbL e1 (Zc (hod.elim fun J hod=>wpAny_load hod (Ze rfl)))),method_call e1 (D.code g (self::vs) Q A env st s (x::vals) E hc hA ht R (.cons r1 rv) h)⟩
theorem Ygh (C:GOK G)(D:DV G Δ n):DV G (Yl1 Δ) n:=
 ⟨fun f vs Q A env st s vals E hA ht R rv h=>h.elim (D.fn f vs Q A env st s vals E hA ht R rv) fun h=>(Zne C D hA ht R rv h).imp_right Ux,D.gen,fun f vs Q A env st s vals E hc hA ht R rv h=>h.elim (D.code f vs Q A env st s vals E hc hA ht R rv) fun h=>(Zne C D hA ht R rv h).2,D.scr⟩
inductive Zzp (Δ:Dl)(Q:V->Hp->Prop)(k:Addr):V->Hp->Prop | mk {vs σ} (l:vs.length<=1000) (q:Δ k vs σ Q):Zzp Δ Q k (.tup vs) σ
inductive Ym0 (Δ:Dl)(lv:Nat->Option V)(cv:Nat->Option Addr)(m:Nat)(f:FX)(Q:V->Hp->Prop):V->Hp->Prop
 | mk {a c d fs g σ} (e1:IK σ a=some (c,d)) (e2:fieldsOf σ d=some fs) (e3:fs.lookup m=none) (e4:clsM c m=some g) (e5:Ypp.contains (nm m)=false) (q:∀ k,σ k=none->f Δ lv cv (Zzp Δ Q k) (upd σ k (.meth g (.ref a)))):Ym0 Δ lv cv m f Q (.ref a) σ
def Ylt (o:FX)(m:Nat)(f:FX):FX:=fun Δ lv cv Q σ=>o Δ lv cv (Ym0 Δ lv cv m f Q) σ
section
variable {M:Model}
theorem Zoy {f:Value}{x:Sem Value}{Q:Args->Zd->Prop}(h:wpAny M A x (fun v j0=>wpAny M A (notIterableAtAll v) (fun b J1=>b=false/\wpAny M A (collect v) (fun vs W2=>Q ⟨vs,[]⟩ W2) E J1) E j0) E s) :
  wpAny M A (Ybl f true [(true,x)] []) Q E s:=by
 refine (wbM h (fun v j0 Q0=>(wbP (Yl ?_))) fun J J e=>e)
 refine (wbP (Zc ((wbM Q0 (fun b J1 hb=>?_) fun J J e=>e))))
 rw [hb.1,if_neg U3]
 exact Yl (Zy hb.2 (fun vs W2 V3=>Ze V3) fun J J e=>e)
theorem Zo3 {pos:Pos}{f:Value}{x:Sem Value}{Q:Value->Zd->Prop}
  (h:wpAny M A (Ybl f true [(true,x)] []) (fun x j0=>wpAny M A (Zac f) (fun J J1=>wpAny M A (call f x.pos x.kw) Q E J1) E j0) E s) :
  wpAny M A (Zea pos f [] [(true,x)] []) Q E s:=by
 refine (wbH (Zy h (fun x j0 Q0=>(wbS ((wbM Q0 (fun k J1 G3=>?_) fun J J x=>x)))) fun J J x=>x))
 cases k with
 | frame=>exact Zba (Zge G3)
 | _=>exact Zba (Zi2 G3)
end
theorem Yab (X:Cx G Δ n env A sc){k:Addr}{Q:V->Hp->Prop}{u:V}{y:Value}(ht:0 < s.toks)(R:RS G env st s)(r:VR s.heap u y)(h:Zzp Δ Q k u st.σ) :
  W G A (notIterableAtAll y) (fun b J1=>b=false/\W G A (collect y) (fun vs W2=>W G A (Zac (.ref k)) (fun J J1=>W G A (call (.ref k) vs) (PV G env st s Q) E J1) E W2) E J1) E s:=by
 revert r
 generalize hσ:st.σ=σ at h
 refine h.rec (motive:=fun u σ J=>st.σ=σ->VR s.heap u y->_) (fun {vs σ} hl q hσ r=>?_) hσ
 subst hσ
 refine r.tE fun a l n et rt=>?_
 refine (wbO (show s.TypeIs (.ref a) "tuple" from ⟨_,et,rfl⟩) PySem.F.slot_tuple_iter.lookup (Ze ⟨rfl,wpAny_collect_seq a (.inr rfl) et rfl rfl (fun h' hk=>?_) (YD (rt.size▸Zb hl (Za rfl)))⟩))
 have k4:=R.ext (h':=h') (t:=s.toks) (d:=s.drawn) hk
 have c:=X.D.fn k vs Q A env st { s with heap:=h' } l E (X.hA.mono (Zn _ _)) ht k4.1 (rt.mono (R.imk k4.2)) q
 exact c.1.to fun J J4 e=>e▸c.2.to fun z T5 p=>p.from k4.2
theorem sStar {o e:Expr}{name:Str}{m:Nat}{apos pos p2:Pos}{fo f:FX}(hn:nm m=name)(a:SX sc o fo)(b:SX sc e f)
  (hb:∀ env whole,attributeBase o name env whole=whole):SX sc (.Call (.Attribute o name apos) [.Starred e p2] [] pos) (Ylt fo m f):=by
 intro G Δ n env A X st s Q E ht R h
 subst hn
 rw [arm_eval_Call,hb]
 refine Zc (a.then X ht R h fun v xv W0 j0 V1 J0 V0 J2 h=>?_)
 cases h with
 | @mk a' c d fs g _ e2 e3 e4 e5 e6 q=>
 refine J2.rE ?_
 refine (wbS ?_)
 unfold methodCall
 rw [show methodCallForm ([Expr.Starred e p2].length + ([]:List Keyword).length) (backTo pos (starEach [.Starred e p2] env)) (backToKw pos (Yo5 [] env))=false from rfl]
 refine (wbH ((wbM (tk V1 (Ztx (A:=A) (E:=E) (Q:=fun v σ=>∃ k,v= .ref k/\f Δ st.lv st.cv (Zzp Δ Q k) σ) X.C J0 e2 e3 e4 e5 e6 fun k hk=>⟨k,rfl,q k hk⟩)) (fun mv J1 p=>?_) fun J J e=>e)))
 obtain ⟨v,J3,w⟩:=p.1
 obtain M3:=p.2
 obtain ⟨k,rfl,q2⟩:=w.q
 refine w.r.rE (Ze ((wbE (show Ye1 false o env apos pos=pure pos from rfl) ?_)))
 refine Zo3 (Zoy (x:=do let v <-eval e env;Zgi pos;pure v) (Zc (b.then X M3 w.R q2 fun v y O4 W2 j4 T3 W3 w5 h3=>(wbS (Ze ?_)))))
 refine Zy (Yab (E:=E) X j4 T3 w5 h3) (fun b O3 z=>⟨z.1,Zy z.2 (fun vs J4 z=>Zy z (fun J T5 z=>Zy z (fun v O6 p=>p.from (V0.trans (w.S.trans W3))) fun J J e=>e) fun J J e=>e) fun J J e=>e⟩) fun J J e=>e
end
section
variable {env':Env}{n:Nat}{P:List Addr}
def Zsl:FX:=fun J J J Q σ=>∀ vs n,vs.length<=100->σ n=none->Q (.ref n) (upd σ n (.list vs))theorem Zst {h:Heap}:∀ as:List Addr,VRs h (as.map V.ref) (as.map ZR):=Ycm .nil fun a J ih=>.cons (.ref a) ih
theorem Ydv {x y z:Str}{p1 p2 p3 p4 p5:Pos}(hx:nm 43=x)(hkx:sc.lookup 43=some .globalImplicit)(hy:nm 15=y)(hky:sc.lookup 15=some .globalImplicit)(hz:z=Zz "items")
  (hb:∀ env whole,attributeBase (.Name y p2) z env whole=whole) (hline:(p3.endLine == p4.line)=true):SX sc (.Call (.Name x p1) [.Call (.Attribute (.Name y p2) z p3) [] [] p4] [] p5) Zsl:=by
 intro G Δ n env A X st s Q E ht R h
 let kvs:=X.C.nsmap.choose
 have hq0:=X.C.nsmap.choose_spec
 let ep:=hq0.choose
 have hq1:=hq0.choose_spec
 have hn:=hq1.2.1
 subst hz
 refine XJ (SX.then (sGl hx hkx) (Q:=fun v σ=>v= .bi .list/\σ=st.σ) X ht R ⟨rfl,rfl,rfl⟩ fun v x W0 j0 V1 J0 V0 J2 e=>?_)
 obtain rfl:=e.1
 obtain rfl:=e.2
 refine J2.biE (YT rfl (YS rfl ?_))
 refine Z6 (Zbk (hb _ _) rfl (Za rfl) hline (SX.then (sGl hy hky) (Q:=fun v σ=>v= .ref 44/\σ=st.σ) X V1 J0 ⟨rfl,rfl,rfl⟩ fun v x J3 J1 M3 V2 H3 Q3 e pl=>?_))
 obtain rfl:=e.2
 obtain rfl:=e.1
 have hm2:J1.heap.DictAt (ZP G.prog G.w) 44 kvs ep:=(hq1.1).at' fun o e=>V2.fr.elim fun J F=>F.1.keep _ o e
 refine Q3.rE (Zad hm2.dictOf.typeIs Zgt Zcs (by kernel_rfl) (fun a e=>Zfo e▸hm2.imp fun J z=>z.elim fun J z=>⟨z.1,z.2.1.2.1⟩) (YT rfl (YS rfl (Yi (Ze ?_)))))
 refine Zkp Zcs hm2.dictOf.typeIs Zr9 (Zqi _) (meets_dict_items (ZP G.prog G.w) 44 (hq1.2.2)) ⟨⟨kvs,hm2.dictOf⟩,Yi (Iz .list ?_)⟩
 have k3:=V2.ext (h':=J1.heap.push { cls:=.type "dict_items",data:=.fields #[.ref 44] }) (t:=J1.toks) (d:=J1.drawn) fun b o e=>Zg _ e
 refine kdx_call (knd:=ZP G.prog G.w) (kvs:=kvs) (ep:=ep) X.hA.handled ⟨_,Zq _ rfl,rfl,rfl⟩ (hm2.push _) (YD (Zb hn (Za rfl))) fun h' tk acc c as hk hS hl hG hacc=>?_
 exact (PV.new (t:=tk) (d:=J1.drawn) k3.1 (Yy _) hk (Den.list (xs:=as.map V.ref) (l:=as.map ZR) ⟨c,(hacc▸(Array.toArray_toList ..).symm)▸hS⟩ (Zst as)) (h _ _ (Zh V.ref▸hl.symm▸hn))).from ((V0.trans H3).trans k3.2)
end
section
variable {sc':Sc}{env':Env}{n:Nat}{P:List Addr}
def KeyW (it a:Addr)(kvs:List (Int×V))(ep:Nat)(l:List V)(s:Zd)(i:Nat):Prop:=(l=(kvs.drop i).map (fun p=>V.int p.1))/\(i<=kvs.length)/\s.heap.IsKeyIter it a i kvs.length ep
def KeyW.e {i}(z:@KeyW it a kvs ep l s i):=z.1
def KeyW.h {i}(z:@KeyW it a kvs ep l s i):=z.2.1
def KeyW.i {i}(z:@KeyW it a kvs ep l s i):=z.2.2
def Ym7 (it a:Addr)(kvs:List (Int×V))(ep:Nat)(l:List V)(s:Zd):Prop:=∃ i,KeyW it a kvs ep l s i
theorem Yo1 {α β γ:Type}{l:List (α×β)}{m:List (α×γ)}(e:l.map (·.1)=m.map (·.1)){i:Nat}{p:α×γ}(h:m[i]? = some p):∃ x,l[i]? = some (p.1,x):=by
 have:=congrArg (fun l=>l[i]?) e
 rw [Yd,Yd,h] at this
 obtain ⟨q,hq,e⟩:=Yz.mp this
 exact ⟨q.2,hq.trans (congrArg (fun k=>some (k,q.2)) e)⟩
theorem Yjx {prog:YL}{w:World}{h:Heap}{k:Int}{x:Value}(e:(Zdb prog w).is k x=true):VR h (.int k) x:=by
 cases x with
 | int j t=>obtain rfl:j=k:=eq_of_beq e;exact VR.int _ _
 | _=>exact Yw e
theorem Yfm (hh:A.handled=none){it a:Addr}{kvs:List (Int×V)}{ep:Nat}:Zjw G env A it [it] [] (fun st=>st.σ a=some (.dIf kvs ep)) (Ym7 it a kvs ep) where
 obj:=fun J J h b hb=>h.elim fun J h=>h.i.imp fun J z=>⟨YX hb▸z.1,Za0 z.2.2 z.2.1 (by decide)⟩
 at':=fun J J J h he J J J=>h.imp fun J h=>⟨h.e,h.h,h.i.imp fun J z=>⟨(he it (.head _)).trans z.1,z.2⟩⟩
 gobj:=fun J J J J h=>nomatch h
 own:=fun J J h=>h.elim fun J h=>h.i.elim fun J z=>⟨_,_,_,z.1,z.2.1,z.2.2,by decide⟩
 self:=fun J J J J h q=>h.elim fun J h=>wpAny_pyIter_keyiter h.i q
 item:=fun v l s st Q E hw0 ht R hg O k=>hw0.elim fun i w=>by
  obtain ⟨c,r,e,rfl,e2⟩:=Zee.mp w.e.symm
  refine (R.den _ _ hg).1.rec fun {m} p e1 r=>?_
  have d:=Zrv e.symm
  obtain ⟨x,hx⟩:=Yo1 e1 d.1
  exact Yid (knd:=Zdb G.prog G.w) ((Zab e1).symm▸w.i) p hx fun key h' hkey hit' sb=>k _ _ (.sb sb (Zm _)) (Yjx hkey) ⟨i + 1,e2.symm.trans (congrArg _ d.2.1),d.2.2,Zab e1▸hit'⟩
 fin:=fun s st Q E hw2 ht R hg O k=>hw2.elim fun i w=>(R.den _ _ hg).1.rec fun {m} p e1 r=>
  Ylx (knd:=Zdb G.prog G.w) hh ((Zab e1).symm▸w.i) p (Zbf (Zab e1▸Zns (Ks.mp w.e.symm).symm)) fun h' ex=>k _ (.eb ex)def Zlp (a:Addr)(kvs:List (Int×V))(ep:Nat)(Q:V->Hp->Prop)(D:Addr)(σ:Hp):Prop:=(σ a=some (.dIf kvs ep))/\Q (.ref D) (upd σ a (.dI kvs))def Zlp.e (z:@Zlp a kvs ep Q D σ):=z.1
def Zlp.q (z:@Zlp a kvs ep Q D σ):=z.2
inductive Yhr (Δ:Dl)(fr:List Nat)(t:Tg)(b:FB)(e:FX)(cv:Nat->Option Addr)(Q:V->Hp->Prop):V->Hp->Prop
 | mk {a kvs σ} (h:σ a=some (.dI kvs)) (q:∀ ep D,σ D=none->compL Δ t (fun st=>st.σ a=some (.dIf kvs ep)) b e D (Zlp a kvs ep Q D) (kvs.map fun p=>V.int p.1) ⟨upd (upd σ a (.dIf kvs ep)) D (.list []),fun J=>none,cvF fr cv⟩):Yhr Δ fr t b e cv Q (.ref a) σ
def Zvo (sc':Sc)(t:Tg)(f:FX)(b:FB)(e:FX):FX:=fun Δ lv cv Q σ=>(∀ i∈Ke sc',(cv i).isSome)/\f Δ lv cv (Yhr Δ (Ke sc') t b e cv Q) σ
theorem Yn3 {elt target iter:Expr}{ifs:List Expr}{scope:Scope}{pos:Pos}{t:Tg}{f:FX}{b:FB}{e:FX}(c:Zbx scope sc')(hf:SX sc iter f)(te:TgE (Zcd sc sc') t target)(hb:Zo9 (Zcd sc sc') ifs b)(he:SX (Zcd sc sc') elt e)
  (hfold:∀ env x,foldedSetIterable iter env x=pure x):SX sc (.ListComp elt [⟨target,iter,ifs,0⟩] scope pos) (Zvo sc' t f b e):=by
 intro G Δ n env A X st s Q E ht R h
 obtain ⟨cl,hcl,hcl2⟩:=Zem (env:=env) (cv:=st.cv) R.cel c.names h.1
 refine Zeh hcl c.kind c.hnames (hfold env) (hf.then X ht R h.2 fun v x W0 j0 V1 J0 V0 J2 h=>?_)
 cases h with
 | @mk a kvs _ e2 Q0=>
 refine J2.rE ((J0.den _ _ e2).1.rec fun {l'} p ek r=>?_)
 obtain ⟨ep,pa⟩:=p.dictAt
 have hP0:j0.heap.get? j0.heap.objs.size=none:=Yy _
 refine wpAny_pyIter_dict (knd:=Zdb G.prog G.w) (J0.nsys X.C.sys e2) pa ?_
 -- the dict is held as it is
 have k2:=J0.put (h':=j0.heap.push { cls:=.type "dict_keyiterator",data:=.fields #[.ref a,.int 0 0,.int l'.length 0,.int ep 0] }) (t:=j0.toks) (d:=j0.drawn) (a:=a) (.inl (iS e2)) (fun b o J e=>Zg _ e) (Den.dIf (pa.push _) ek r.pushed)
 have hi:Ym7 j0.heap.objs.size a kvs ep (kvs.map fun p=>V.int p.1) { j0 with heap:=j0.heap.push { cls:=.type "dict_keyiterator",data:=.fields #[.ref a,.int 0 0,.int l'.length 0,.int ep 0] } }:=⟨0,rfl,Zr _,
  Eq.subst (motive:=fun n=>Heap.IsKeyIter _ j0.heap.objs.size a 0 n ep) (Zab ek) ⟨_,Zq _ rfl,rfl,rfl⟩⟩
 have O:=J0.off_fresh hP0
 refine Zm1 (st:=⟨upd W0 a (.dIf kvs ep),st.lv,st.cv⟩) (st₀:=st) (s₀:=s) (s:={ j0 with heap:=j0.heap.push { cls:=.type "dict_keyiterator",data:=.fields #[.ref a,.int 0 0,.int l'.length 0,.int ep 0] } }) X c.names c.kind c.co c.cell hcl2 te hb he (fun env' A' hh=>Yfm hh) V1 k2.1 hi (fun b hb=>YX hb▸⟨Zay (Xr (J0.den _ _ e2).1.lt) O.σ,O.loc,O.tab,O.base⟩) (V0.trans k2.2) (fun b hb=>YX hb▸V0.none_of hP0)
  (Q':=Zlp a kvs ep Q) (fun D hD=>?_) (fun D C m σ' s' y=>⟨m,y.ns,fun h' sb=>?_⟩)
 ·have hDa:D≠a:=fun q=>nn (q▸hD) Zcc
  exact Q0 ep D ((Zbq hDa).symm.trans hD)
 ·have k4:=Zkn y.R y.S y.n0 y.O y.ns sb
  refine (k4.1.den _ _ y.q.e).1.rec fun p2 ek2 r2=>?_
  have k5:=k4.1.put (h':=h') (t:=s'.toks) (d:=s'.drawn) (a:=a) (.inl (iS y.q.e)) (fun b o J e=>e) (Den.dI p2.dictOf ek2 r2)
  exact ⟨.ref D,_,k5.1,k4.2.trans k5.2,.ref D,y.q.q⟩
end
section
variable {n:Nat}
inductive Zux (sc:Sc):List (Nat×Bool)->List Expr->Prop
 | nil:Zux sc [] []
 | loc {x m q xs es}:nm x=m->sc.lookup x=some .local->Zux sc xs es->Zux sc ((x,false)::xs) (.Name m q::es)
 | cell {x m q xs es}:nm x=m->sc.lookup x=some .cell->Zux sc xs es->Zux sc ((x,true)::xs) (.Name m q::es)
inductive Zl6 (Q:St->Prop):List (Nat×Bool)->List V->St->Prop
 | nil {t}:Q t->Zl6 Q [] [] t
 | loc {x xs v vs} {t:St}:Zl6 Q xs vs ⟨t.σ,upd t.lv x v,t.cv⟩->Zl6 Q ((x,false)::xs) (v::vs) t
 | cell {x xs v vs} {t:St} {c u}:t.cv x=some c->t.σ c=some (.cell u)->Zl6 Q xs vs ⟨upd t.σ c (.cell (some v)),t.lv,t.cv⟩->Zl6 Q ((x,true)::xs) (v::vs) t
theorem Zsy {m:Str}{q:Pos}{es:List Expr}{n:Nat}(env:Env)(h:(assignEach es env).length=n/\(assignEach es env).findIdx? (·.1)=none):(assignEach (.Name m q::es) env).length=n + 1/\(assignEach (.Name m q::es) env).findIdx? (·.1)=none:=
 ⟨congrArg Zbc h.1,by
  have:assignEach (.Name m q::es) env=(false,Zin (.Name m q) env)::assignEach es env:=rfl
  rw [this,Yh5,h.2];rfl⟩
theorem Zz5 {xs es}(t:Zux sc xs es)(env:Env):(assignEach es env).length=xs.length/\(assignEach es env).findIdx? (·.1)=none:=
 t.rec ⟨rfl,rfl⟩ (fun J J J ih=>Zsy env ih) fun J J J ih=>Zsy env ih
theorem Zki {x:Nat}{q:Pos}{es:List Expr}{y:Value}{l:List Value}{st st1:St}{s:Zd}{Q:St->Prop}(h:W G A (storeName env (nm x) y) (fun J s'=>PN G env st st1 s s') E s)
  (ih:∀ j0,PN G env st st1 s j0->W G A (Zoj ((assignEach es env).map (·.2)) l) (fun J s'=>∃ st',AsgW G env st1 j0 s' Q st') E j0):W G A (Zoj ((assignEach (.Name (nm x) q::es) env).map (·.2)) (y::l)) (fun J s'=>∃ st',AsgW G env st s s' Q st') E s:=
 Ycs (Ky (h.to fun J j0 p=>(ih j0 p).to fun J J1 z=>z.imp fun J q=>⟨⟨q.p.R,p.S.trans q.p.S,Zb p.t q.p.t⟩,q.q⟩))
theorem Ztv (hE:EOK env sc){Q:St->Prop}{xs es}(t:Zux sc xs es){vs:List V}{l:List Value}{st:St}{s:Zd}(R:RS G env st s)(r:VRs s.heap vs l)(h:Zl6 Q xs vs st) :
  W G A (Zoj ((assignEach es env).map (·.2)) l) (fun J s'=>∃ st',AsgW G env st s s' Q st') E s:=by
 induction h generalizing es l s with
 | nil q=>cases t;exact r.nE (Ycr ⟨_,⟨R,.refl,Zm _⟩,q⟩)
 | loc _ ih=>
  cases t with
  | loc h1 h2 t=>
  subst h1
  exact r.cE fun J J r1 r2=>Zki (Zb5 hE R h2 r1) fun j0 p=>ih t p.R (r2.mono (R.imk p.S))
 | cell hc hu _ ih=>
  cases t with
  | cell h1 h2 t=>
  subst h1
  exact r.cE fun J J r1 r2=>Zki (Zlh hE R h2 hc hu r1) fun j0 p=>ih t p.R (r2.mono (R.imk p.S))
inductive Ylq (lv:Nat->Option V)(cv:Nat->Option Addr)(P:Fl->St->Prop)(xs:List (Nat×Bool)):V->Hp->Prop | mk {vs σ} (l:vs.length=xs.length) (q:Zl6 (P .next) xs vs ⟨σ,lv,cv⟩):Ylq lv cv P xs (.tup vs) σ
theorem Ylq.e {lv cv P xs v σ}(k:Ylq lv cv P xs v σ):∃ vs,v= .tup vs/\vs.length=xs.length/\Zl6 (P .next) xs vs ⟨σ,lv,cv⟩:=k.rec fun l q=>⟨_,rfl,l,q⟩def Ymf (xs:List (Nat×Bool))(f:FX):FS:=fun Δ Q st=>st.rec fun σ lv cv=>f Δ lv cv (Ylq lv cv Q xs) σ
theorem Ynu {xs:List (Nat×Bool)}{es:List Expr}{k q p}{e:Expr}{f:FX}(t:Zux sc xs es)(a:SX sc e f)(h1:∀ env,swapsWithSole [.Tuple es k q] e p.line env=pure false)(h2:∀ env,swappedStores [.Tuple es k q] e env=pure none) :
  SS sc (.Assign [.Tuple es k q] e p) (Ymf xs f):=by
 intro G Δ n env A X st s Q E ht R h
 rw [arm_exec_Assign,h1,h2]
 refine (wbS ((wbP ?_)))
 refine Zc (m:=eval e env) (a.then X ht R h fun v x W0 j0 V1 J0 V0 J2 h=>(wbP ?_))
 obtain ⟨vs,rfl,hl,Q0⟩:=h.e
 have e0:assignStores env x none ((assignEach [.Tuple es k q] env).map (·.2))=(Zin (.Tuple es k q) env x >>= fun J=>pure Flow.next):=rfl
 refine (e0)▸?_
 have a1:=Zz5 t env
 exact J2.tE fun a l n e r=>Zc (wpAny_assign_Tuple (items:=l.toArray) X.hA.handled ⟨_,e,rfl,n,rfl⟩ (by rw [a1.1,<-hl];exact r.size) a1.2 fun h' ex=>
  have kk:∀ b o,j0.heap.get? b=some o->h'.get? b=some o:=fun b o e=>ex b o (Z3 (ZL e)) e
  have k:=J0.ext (h':=h') (t:=j0.toks) (d:=j0.drawn) kk
  (Ztv (E:=E) X.hE t k.1 (r.mono fun b o e J=>kk b o e) Q0).to fun J W2 z=>z.elim fun st' q=>Ze ⟨.next,st',q.p.R,V0.trans (k.2.trans q.p.S),.next,q.q⟩)
end
section
variable {n:Nat}
theorem Zls:Slot "method_descriptor" "__get__" "method_descriptor.__get__":=.of (owner:="method_descriptor") (n:="__get__") (by rw [Zfv,Zb8];kernel_rfl) (by decide +kernel) (by decide +kernel) (by decide +kernel)
 (by first | exact .inl (by decide +kernel) | exact .inr (by decide +kernel)) (by rw [Za4];kernel_rfl)
theorem Ze7:Slot "wrapper_descriptor" "__get__" "wrapper_descriptor.__get__":=.of (owner:="wrapper_descriptor") (n:="__get__") (by rw [Zfv,Zb8];kernel_rfl) (by decide +kernel) (by decide +kernel) (by decide +kernel)
 (by first | exact .inl (by decide +kernel) | exact .inr (by decide +kernel)) (by rw [Za4];kernel_rfl)theorem Zrt:Zfi table "method_descriptor.__get__" = some Builtin.«method_descriptor.__get__»:=Ib (by kernel_rfl)theorem Zkm:Zfi table "wrapper_descriptor.__get__" = some Builtin.«wrapper_descriptor.__get__»:=Ib (by kernel_rfl)theorem Zuo (a b c:Value):Zg9 "method_descriptor.__get__" ⟨[a,b,c],[]⟩:=by unfold Zg9;kernel_rfl
theorem Zl1 (a b c:Value):Zg9 "wrapper_descriptor.__get__" ⟨[a,b,c],[]⟩:=by unfold Zg9;kernel_rfl
theorem Zsu:Zfu (.builtin "list.pop")=pure (.type "method_descriptor"):=by kernel_rfl
theorem Zsv:Zfu (.builtin "list.__len__")=pure (.type "wrapper_descriptor"):=by kernel_rfl
theorem Zpj:Zfu (.builtin "list.__init__")=pure (.type "wrapper_descriptor"):=by kernel_rfl
section
variable {prog:YL}{w:World}
theorem Yj0 {x C:Addr}{Q:Value->Zd->Prop}(hi:Looks (model prog w) s.heap (UG (.ref x) (.type "list")) true)
  (hq:Q (.ref s.heap.objs.size) { s with heap:=s.heap.push { cls:=.type "builtin_function_or_method",data:=.fields #[.builtin "list.pop",.ref x] } }) :
  wpAny (model prog w) A (call (.builtin "method_descriptor.__get__") [.builtin "list.pop",.ref x,.ref C]) Q E s:=by
 refine Y9 Zls (show s.TypeIs (.builtin "list.pop") "method_descriptor" from Zsu) Zrt ?_ (Zuo _ _ _)
 refine (wbE (a:=(Zd3 "list.pop",some (ZR x),some (ZR C))) (by kernel_rfl) ?_)
 refine Y5 (by decide +kernel) ?_
 refine Zc ((wbE (a:=(Zz "pop",Xz "list")) (by kernel_rfl) ?_))
 refine Zc (hi.here ?_)
 refine Y5 (by decide) ?_
 refine Ze ?_
 refine Zc (Z7 ?_ (by size_fits))
 exact Ze ⟨_,rfl,hq⟩
theorem Yj1 {x C:Addr}{Q:Value->Zd->Prop}(hi:Looks (model prog w) s.heap (UG (.ref x) (.type "list")) true)
  (hq:Q (.ref s.heap.objs.size) { s with heap:=s.heap.push { cls:=.type "method-wrapper",data:=.fields #[.builtin "list.__len__",.ref x] } }) :
  wpAny (model prog w) A (call (.builtin "wrapper_descriptor.__get__") [.builtin "list.__len__",.ref x,.ref C]) Q E s:=by
 refine Y9 Ze7 (show s.TypeIs (.builtin "list.__len__") "wrapper_descriptor" from Zsv) Zkm ?_ (Zl1 _ _ _)
 refine (wbE (a:=(Zd3 "list.__len__",some (ZR x),some (ZR C))) (by kernel_rfl) ?_)
 refine Zc ((wbE (a:=(Zz "__len__",Xz "list")) (by kernel_rfl) ?_))
 refine Zc (hi.here ?_)
 refine Y5 (by decide) ?_
 refine Ze ?_
 refine Zc (Z7 ?_ (by size_fits))
 exact Ze ⟨_,rfl,hq⟩
theorem Yf4 {x C:Addr}{Q:Value->Zd->Prop}(hi:Looks (model prog w) s.heap (UG (.ref x) (.type "list")) true)
  (hq:Q (.ref s.heap.objs.size) { s with heap:=s.heap.push { cls:=.type "method-wrapper",data:=.fields #[.builtin "list.__init__",.ref x] } }) :
  wpAny (model prog w) A (call (.builtin "wrapper_descriptor.__get__") [.builtin "list.__init__",.ref x,.ref C]) Q E s:=by
 refine Y9 Ze7 (show s.TypeIs (.builtin "list.__init__") "wrapper_descriptor" from Zpj) Zkm ?_ (Zl1 _ _ _)
 refine (wbE (a:=(Zd3 "list.__init__",some (ZR x),some (ZR C))) (by kernel_rfl) ?_)
 refine Zc ((wbE (a:=(Zz "__init__",Xz "list")) (by kernel_rfl) ?_))
 refine Zc (hi.here ?_)
 refine Y5 (by decide) ?_
 refine Ze ?_
 refine Zc (Z7 ?_ (by size_fits))
 exact Ze ⟨_,rfl,hq⟩
theorem Ydb {so D x C:Addr}{S5 l:List Value}{K:Frag}{name:Str}{tk:Tok}{id T gid:String}{o:Obj}{h:Heap}{g:Array Uh}{d:Drawn}{t:Nat}{os:Yk4}{Q:XF->Zd->Prop}
  (hso:h.get? so=some { cls:=.type "super",dict:=none,data:=.fields #[.ref D,.ref x,.ref C],slots:=#[] }) (hno:Looks (model prog w) h (opaqueClassAbove (.ref C)) none)
  (hC:Looks (model prog w) h (mroOf (.ref C)) S5) (hl:(S5.dropWhile (· != .ref D)).drop 1=l) (X:K.In h)
  (hf:alongIn K name l=some (some (.builtin id))) (hty:Zfu (.builtin id)=pure (.type T)) (hlk:Zj4 (.type T) (Zz "__get__")=pure (some (.builtin gid))) (hxC:x≠C) (hn:(name == ("__class__" : Str))=false)
  (hcall:∀ (A:Yg) (E:Value->Zd->Prop) (Q':Value->Zd->Prop),Q' (.ref h.objs.size) ⟨h.push o,g,d,t,os⟩->wpAny (model prog w) A (call (.builtin gid) [.builtin id,.ref x,.ref C]) Q' E ⟨h,g,d,t,os⟩)
  (hq:Q (.done (.ret (.ref h.objs.size))) ⟨h.push o,g,d,t,os⟩) :
  wpAny (model prog w) A (Builtin.«super.__getattribute__» ⟨[.ref so,.str name tk],[]⟩) Q E ⟨h,g,d,t,os⟩:=by
 have hne:(ZR x == ZR C)=false:=by simp [hxC]
 have hdt:({ cls:=.type "super",dict:=none,data:=.fields #[.ref D,.ref x,.ref C],slots:=#[] }:Obj).data= .fields #[.ref D,.ref x,.ref C]:=rfl
 repeat (first
  | (with_reducible refine Zbe hso hdt (rfl:(#[.ref D,.ref x,.ref C]:Array Value)[0]? = some (.ref D)) ?_) | (with_reducible refine Zbe hso hdt (rfl:(#[.ref D,.ref x,.ref C]:Array Value)[1]? = some (.ref x)) ?_) | (with_reducible refine Zbe hso hdt (rfl:(#[.ref D,.ref x,.ref C]:Array Value)[2]? = some (.ref C)) ?_)
  | (with_reducible refine ks_wpAny_notOpaque hno ?_)
  | (with_reducible refine Looks.at hC ?_;rw [hl])
  | (refine ks_forIn_along X (fun J J=>rfl) rfl ?_ hf)
  | (with_reducible refine Kq hty ?_)
  | (with_reducible refine Kq hlk ?_)
  | (with_reducible refine hcall _ _ _ ?_)
  | (simp only [hn,hne,Bool.or_false,K6,if_false])
  | wp_step
  | dsimp only)
 all_goals exact hq
theorem Zdv {so D x C:Addr}{S5 l:List Value}{K:Frag}{name:Str}{pl:Sem Bool}{id T gid:String}{o:Obj}{h:Heap}{g:Array Uh}{d:Drawn}{t:Nat}{os:Yk4}{Q:Value×List Value->Zd->Prop}
  (hso:h.get? so=some { cls:=.type "super",dict:=none,data:=.fields #[.ref D,.ref x,.ref C],slots:=#[] }) (hno:Looks (model prog w) h (opaqueClassAbove (.ref C)) none)
  (hC:Looks (model prog w) h (mroOf (.ref C)) S5) (hl:(S5.dropWhile (· != .ref D)).drop 1=l) (X:K.In h)
  (hf:alongIn K name l=some (some (.builtin id))) (hty:Zfu (.builtin id)=pure (.type T)) (hlk:Zj4 (.type T) (Zz "__get__")=pure (some (.builtin gid))) (hxC:x≠C) (hn:(name == ("__class__" : Str))=false)
  (hcall:∀ (t:Nat) (A:Yg) (E:Value->Zd->Prop) (Q':Value->Zd->Prop),Q' (.ref h.objs.size) ⟨h.push o,g,d,t,os⟩->wpAny (model prog w) A (call (.builtin gid) [.builtin id,.ref x,.ref C]) Q' E ⟨h,g,d,t,os⟩)
  (hq:Q (.ref h.objs.size,[]) ⟨h.push o,g,d,t + 1,os⟩):wpAny (model prog w) A (getMethod (.ref so) name pl) Q E ⟨h,g,d,t,os⟩:=by
 have hlk2:=Zf8.lookup
 have hT:∀ t',(⟨h,g,d,t',os⟩:Zd).TypeIs (.ref so) "super":=fun J=>⟨_,hso,rfl⟩
 refine (wbO (hT _) hlk2 ?_)
 refine K7 (PySem.F.ks_canon_super_ga) ?_
 refine Zc (Zc (Yie (Yl ((wbT (hT _) ((wbE hlk2 ?_)))))))
 refine (wbE (show (if onTheHeap (.type "super") then Zj4 (.type "super") "__getattr__" else pure none)=pure none from rfl) ?_)
 refine Zc (Ia (Yl ?_))
 refine (wbE (Zf8.bind _) ?_)
 refine Zy (Q:=fun v s'=>v= .ref h.objs.size/\s'=⟨h.push o,g,d,t + 1,os⟩) (E:=fun J J=>False)
  (Y9 Zf8 (hT _) PySem.F.ks_entry_super_ga (Ydb hso hno hC hl X hf hty hlk hxC hn (fun A E Q' q=>hcall _ A E Q' q) ⟨_,rfl,rfl,rfl⟩) (PySem.F.ks_gaArgs_super _ _)) (fun v s' hv=>?_) fun J J z=>z.elim
 obtain ⟨rfl,rfl⟩:=hv
 exact Ze (Ze hq)
end
end
section
variable {n:Nat}
section
variable {prog:YL}{w:World}
theorem Ykg (x:Addr):Zd9 "list.__len__" ⟨[.ref x],[]⟩=pure ():=by kernel_rfl
theorem Ygm (x:Addr):Zd9 "list.__init__" ⟨[.ref x],[]⟩=pure ():=by kernel_rfl
theorem Zgo {q:Addr}{self:Value}{args:List Value}{id B:String}{b:Builtin}{o:Obj}{Q:Value->Zd->Prop}(hb:s.heap.get? q=some o)(hc:o.cls= .type B)(hd:o.data= .fields #[.builtin id,self])(hB:B= "builtin_function_or_method"\/B= "method-wrapper")
  (hchk:∀ (A:Yg) (E:Value->Zd->Prop) (Q:Unit->Zd->Prop),Q () s->wpAny (model prog w) A (Zd9 id ⟨self::args,[]⟩) Q E s) (hent:Zfi table id=some b) (hp:plainId id=true)
  (h:wpAny (model prog w) A.in1 (b ⟨self::args,[]⟩) (fun fin s'=>match fin with | .done f=>wants Q E (.ok f) s' | .again c'=>c'.quiet=true/\codeAny (model prog w) A c' (wants Q E) s') (fun e s'=>wants Q E (.error e) s') s):wpAny (model prog w) A (call (.ref q) args) Q E s:=by
 have h2:(Xz B != Xz "method")=true:=by rcases hB with rfl | rfl <;> decide
 refine Ux (Zk5 ?_)
 refine (wbL hb ?_)
 rw [hd,hc]
 have h1:((Xz B == Xz "method"||Xz B == Xz "builtin_function_or_method"||Xz B == Xz "method-wrapper"):Bool)=true:=by
  rcases hB with rfl | rfl <;> decide
 refine K7 h1 ?_
 refine K7 h2 ?_
 refine Zc (hchk _ _ _ ?_)
 refine Ze ⟨Uw hp _,XX hent ?_⟩
 exact Yg.under_plainId hp _▸h
theorem bd {t:Sem Fin}{Q:Value->Zd->Prop}(h:wpAny (model prog w) A.in1 t (fun fin s'=>∃ v,fin= .done (.ret v)/\Q v s') E s) :
  wpAny (model prog w) A.in1 t (fun fin s'=>match fin with | .done f=>wants Q E (.ok f) s' | .again c'=>c'.quiet=true/\codeAny (model prog w) A c' (wants Q E) s') (fun e s'=>wants Q E (.error e) s') s:=
 Zy h (fun fin s' ⟨v,e,q⟩=>e▸q) fun _ _ e=>e
theorem Ygn (x:Addr):(match Kc "list.pop" with | some sig=>Zdi "list.pop" { sig with full:="_Accumulator.pop" } ⟨[.ref x],[]⟩ | none=>pure ())=pure ():=by kernel_rfl
theorem Ykf {x C:Addr}{oC:Obj}{cd:ClassData}{Q:Unit->Zd->Prop}(hm:Looks (model prog w) s.heap (UG (.ref x) (.type "module")) false)(hx:∃ ox,s.heap.get? x=some ox/\ox.cls= .ref C/\∀ c,ox.data≠.cls c)
  (hT:Looks (model prog w) s.heap (Zfu (.ref x)) (.ref C)) (hC:s.heap.get? C=some oC) (hCd:oC.data= .cls cd) (hCc:oC.cls= .type "type") (hqn:cd.qualname.toString= "_Accumulator") (hq:Q () s):wpAny (model prog w) A (Zd9 "list.pop" ⟨[.ref x],[]⟩) Q E s:=by
 let ox:=hx.choose
 have hq0:=hx.choose_spec
 have fact:=Ygn x
 unfold Zd9
 cases hsig:Kc "list.pop" with
 | none=>exact Ze hq
 | some sig=>
  rw [hsig] at fact
  dsimp only at fact
  have hk:Zih "list.pop" = some .method:=by kernel_rfl
  dsimp only
  refine Y5 (by decide) ?_
  refine Zc (hm.here ?_)
  have hv:Manifest.varargsMethods.contains "list.pop" = false:=by decide +kernel
  rw [hv]
  refine Zc (ks_wpAny_isType_inst (hq0.1) (hq0.2.2) ?_)
  refine Y5 (by decide) ?_
  refine Zc (hT.here ?_)
  refine Zc ((wbL hC ?_))
  rw [hCd]
  refine Ze ?_
  refine Zc (m:=Zfu (.ref C)) (Zc (Zcp hC (Ze ?_)))
  have hl:(toString "_Accumulator"++toString "."++toString (Bind.lastOf "list.pop"))= "_Accumulator.pop":=by decide +kernel
  rw [hCc,if_pos (by decide),hqn]
  rw [hl,fact]
  exact Ze hq
noncomputable abbrev Zh9 (o:Obj)(xs:Array Value)(k:Nat):Obj:={ o with data:=.seq xs k }
theorem Zmi {h:Heap}{x:Addr}{o:Obj}{items:Array Value}{k:Nat}{f:Array Value->Array Value}(ho:h.get? x=some o)(hd:o.data= .seq items k):∃ k',(h.update x (ZZ f)).get? x=some (Zh9 o (f items) k'):=by
 obtain ⟨c,d,dt,sl⟩:=o
 subst hd
 exact ⟨_,Ye (ZZ f) ho rfl⟩
theorem Yg0 {x:Addr}{o:Obj}{items:Array Value}{k:Nat}{Q:Value->Zd->Prop}(ho:s.heap.get? x=some o)(hd:o.data= .seq items k)(hq:Q (.int items.size s.toks) { s with toks:=s.toks + 1 }) :
  wpAny (model prog w) A (Builtin.«list.__len__» ⟨[.ref x],[]⟩) (fun fin s'=>∃ v,fin= .done (.ret v)/\Q v s') E s:=by
 refine (wbE (a:=(ZR x,[])) rfl ?_)
 refine Zc (m:=seqSize x) ?_
 refine Zc (Zcp ho ?_)
 rw [hd]
 refine Ze ?_
 exact Zc (PySem.wpAny_mkInt (Ze ⟨_,rfl,hq⟩))
theorem Yb0 {x:Addr}{o:Obj}{items:Array Value}{k:Nat}{Q:Value->Zd->Prop}(ho:s.heap.get? x=some o)(hd:o.data= .seq items k)(hsz:items.size<=Zi8)
  (hq:∀ h' k',h'.get? x=some (Zh9 o #[] k')->ZM x s.heap h'->Q .none { s with heap:=h' }) :
  wpAny (model prog w) A (Builtin.«list.__init__» ⟨[.ref x],[]⟩) (fun fin s'=>∃ v,fin= .done (.ret v)/\Q v s') E s:=by
 have hz0:=Zmi (f:=fun J=>#[]) ho hd
 refine Zc ?_
 refine (wbQ ho hd (Ze ?_))
 refine Zc (XS (f:=fun J=>#[]) ho hd ?_ hsz (Zr _))
 refine (wbG ?_)
 exact Ze ⟨_,rfl,hq _ (hz0.choose) ((hz0.choose_spec)) (ZV ..)⟩
theorem Yge {xs:Array Value}{i:Nat}:(xs.eraseIdxIfInBounds i).size<=xs.size:=by
 unfold Zu9;split
 ·rw [Array.size_eraseIdx];exact Nat.sub_le ..
 ·exact Zm _
theorem neg1 {n:Nat}(h:0 < n) : -(n:Int)<=-1/\((-1:Int) + n).toNat=n - 1:=⟨Zga (YZ.mpr h),(congrArg Zk6 (Zoa (-1) n)).trans (Int.toNat_sub n 1)⟩
theorem Ygz {x:Addr}{o:Obj}{items:Array Value}{k:Nat}{y:Value}{Q:Value->Zd->Prop}(ho:s.heap.get? x=some o)(hd:o.data= .seq items k)(hsz:items.size<=100000)(hy:items[items.size - 1]? = some y)
  (hq:∀ h' k',h'.get? x=some (Zh9 o (items.eraseIdxIfInBounds (items.size - 1)) k')->ZM x s.heap h'->Q y { s with heap:=h' }) :
  wpAny (model prog w) A (Builtin.«list.pop» ⟨[.ref x],[]⟩) (fun fin s'=>∃ v,fin= .done (.ret v)/\Q v s') E s:=by
 have hz0:=Zmi (f:=fun xs=>xs.eraseIdxIfInBounds (items.size - 1)) ho hd
 have hpos:0 < items.size:=Ym2 (Zby.mp hy).1
 refine (wbE (a:=(ZR x,[])) rfl ?_)
 refine (wbP ?_)
 refine Y5 (by decide) ?_
 refine Zc ?_
 refine (wbQ ho hd (Ze ?_))
 refine Y5 (fun he=>absurd (Array.isEmpty_iff_size_eq_zero.mp he) (Xr hpos)) ?_
 simp only [((PySem.seqIndex_neg (k:=-1) (by decide) (neg1 hpos).1).trans (congrArg some (neg1 hpos).2)),hy,UV,Yk5]
 refine Zc (XS (f:=fun xs=>xs.eraseIdxIfInBounds (items.size - 1)) ho hd ?_ (YD hsz) (Xm (YD (Zb Yge hsz))))
 exact Ze ⟨_,rfl,hq _ (hz0.choose) ((hz0.choose_spec)) (ZV ..)⟩
theorem Zul {x:Addr}{o:Obj}{items:Array Value}{k:Nat}{y:Value}{Q:Value->Zd->Prop}(ho:s.heap.get? x=some o)(hd:o.data= .seq items k)(hsz:items.size<=100000)
  (hq:∀ h' k',h'.get? x=some (Zh9 o (items.push y) k')->ZM x s.heap h'->Q .none { s with heap:=h' }) :
  wpAny (model prog w) A (Builtin.«list.append» ⟨[.ref x,y],[]⟩) (fun fin s'=>∃ v,fin= .done (.ret v)/\Q v s') E s:=by
 have hz0:=Zmi (f:=fun xs=>xs.push y) ho hd
 refine (wbE (a:=(ZR x,y)) rfl ?_)
 refine Zc (XS (f:=fun xs=>xs.push y) ho hd ?_ (YD hsz) (Zij y▸Zu (YD hsz)))
 exact Ze ⟨_,rfl,hq _ (hz0.choose) ((hz0.choose_spec)) (ZV ..)⟩
end
end
section
variable {n:Nat}
set_option genCtorIdx true in
inductive SK where
 | len | pop | init
noncomputable def SK.nm:SK->Str
 | .len=>Zz "__len__" | .pop=>Zz "pop" | .init=>Zz "__init__"
noncomputable def SK.id:SK->String
 | .len=>"list.__len__" | .pop=>"list.pop" | .init=>"list.__init__"
def SupC (G:GC)(cd:ClassData)(d:Option Addr)(sl:Array (Option Value)):Prop:=(G.K.lookup 325=some ⟨.type "type",d,.cls cd,sl⟩)/\(cd.qualname.toString= "_Accumulator")/\(∀ k:SK,alongIn G.K k.nm ((cd.mro.dropWhile (· != .ref 325)).drop 1)=some (some (.builtin k.id)))def SupC.e (z:@SupC G cd d sl):=z.1
def SupC.q (z:@SupC G cd d sl):=z.2.1
def SupC.a (z:@SupC G cd d sl):=z.2.2
structure Zxf (G:GC):Prop where
 cls:∃ cd d sl,SupC G cd d sl
 op:nsIn G.K cStatics "thirdparty.any" = some none
 sub:mroIn G.K 325 (.ref 325)=some true
 isl:mroIn G.K 325 (.type "list")=some true
 notm:mroIn G.K 325 (.type "module")=some false
 sup:∃ mg mb,G.B.Ns Uj mg/\mg (Zz "super")=none/\G.B.Ns UJ mb/\mb (Zz "super")=some (.type "super")
 cell:∃ o,G.K.lookup 249=some o/\o.data= .cell (some (.ref 325))
 top:(G.prog.main.scope.names.lookup (Zz "super")).isSome=false
structure HeadW (G:GC)(f:Addr)(o:Obj)(fd:YF)(ar:Arg):Prop where
 k:G.K.lookup f=some o
 d:o.data= .func fd
 h:(fd.params.posonlyargs++fd.params.args).head? = some ar
 a:ar.arg=nm 21
def CodeW (G:GC)(code:Value)(cc:Addr)(o:Obj)(vs:Array Value)(file:Str)(tf:Tok):Prop:=(code= .ref cc)/\(G.K.lookup cc=some o)/\(o.data= .fields vs)/\(vs[2]? = some (.str file tf))/\(((G.prog.main.file:Str) == file)=true)def CodeW.e {code}(z:@CodeW G code cc o vs file tf):=z.1
def CodeW.k {code}(z:@CodeW G code cc o vs file tf):=z.2.1
def CodeW.d {code}(z:@CodeW G code cc o vs file tf):=z.2.2.1
def CodeW.v {code}(z:@CodeW G code cc o vs file tf):=z.2.2.2.1
def CodeW.q {code}(z:@CodeW G code cc o vs file tf):=z.2.2.2.2
def Zjo (G:GC)(env:Env):Prop:=(∃ f o fd ar,env.func=some f/\HeadW G f o fd ar)/\(∃ cc o vs file tf,CodeW G env.code cc o vs file tf)/\(env.kindOf (Zz "super")=some .globalImplicit)/\(env.kindOf (Zz "__class__")=some .free)/\(env.cells.lookup (Zz "__class__")=some 249)/\(env.kindOf (nm 21)=some .local)def Zjo.func (z:@Zjo G env):=z.1
def Zjo.code (z:@Zjo G env):=z.2.1
def Zjo.sup (z:@Zjo G env):=z.2.2.1
def Zjo.cls (z:@Zjo G env):=z.2.2.2.1
def Zjo.cells (z:@Zjo G env):=z.2.2.2.2.1
def Zjo.self (z:@Zjo G env):=z.2.2.2.2.2
inductive Yb7 (a d:Addr)(xs:List V)(Q:V->Hp->Prop)(σ:Hp):SK->Prop
 | len (q:Q (.int xs.length) σ):Yb7 a d xs Q σ .len
 | pop {v} (e:xs.getLast? = some v) (q:Q v (upd σ a (.acc 325 d xs.dropLast))):Yb7 a d xs Q σ .pop
 | init (q:Q .none (upd σ a (.acc 325 d []))):Yb7 a d xs Q σ .init
def SupX (k:SK)(lv:Nat->Option V)(Q:V->Hp->Prop)(σ:Hp)(a d:Addr)(xs:List V)(fs:List (Nat×V)):Prop:=(lv 21=some (.ref a))/\(σ a=some (.acc 325 d xs))/\(σ d=some (.at fs))/\(xs.length<=100000)/\Yb7 a d xs Q σ k
def SupX.h1 (z:@SupX k lv Q σ a d xs fs):=z.1
def SupX.h2 (z:@SupX k lv Q σ a d xs fs):=z.2.1
def SupX.h3 (z:@SupX k lv Q σ a d xs fs):=z.2.2.1
def SupX.h4 (z:@SupX k lv Q σ a d xs fs):=z.2.2.2.1
def SupX.q (z:@SupX k lv Q σ a d xs fs):=z.2.2.2.2
def Yib (k:SK):FX:=fun J lv J Q σ=>∃ a d xs fs,SupX k lv Q σ a d xs fs
noncomputable abbrev Znz (k:SK)(B:String)(a:Addr):Obj:={ cls:=.type B,data:=.fields #[.builtin k.id,.ref a] }noncomputable abbrev Yeg (d:Addr)(vals:List Value)(n:Nat):Obj:={ cls:=.ref 325,dict:=some d,data:=.seq vals.toArray n }
theorem Ydc (C:GOK G)(SF:Zxf G)(R:RS G env st s){k:SK}{a d:Addr}{xs:List V}{fs:List (Nat×V)}{Q:V->Hp->Prop}(ea:st.σ a=some (.acc 325 d xs))(ed:st.σ d=some (.at fs))(hl:xs.length<=100000)(h:Yb7 a d xs Q st.σ k){b:Addr}{B:String}
  (eq:s.heap.get? b=some (Znz k B a)) (hB:B= "builtin_function_or_method"\/B= "method-wrapper"):W G A (call (.ref b) []) (PV G env st s Q) E s:=by
 have D:=(R.den _ _ ea).1
 refine D.rec fun {vals kk} ex rx=>?_
 have back:∀ {ys:List V} {arr:List Value} {h':Heap} {k':Nat} {v:V} {val:Value},h'.get? a=some (Yeg d arr k')->ZM a s.heap h'->VRs s.heap ys arr->VR s.heap v val->Q v (upd st.σ a (.acc 325 d ys))->PV G env st s Q val { s with heap:=h' }:=fun e sb r1 r2 q=>
  have ik:=Za1 D sb.extBut
  PV.upd R ea sb.extBut (Den.acc e (r1.mono ik)) (r2.mono ik) q
 cases h with
 | len q=>exact Zgo eq rfl rfl hB (fun A E Q q=>Kq (Ykg a) q) (b:=Builtin.«list.__len__») (Ib (by kernel_rfl)) (by decide +kernel) (bd (Yg0 ex rfl (PV.tok R (.int _ _) (rx.size▸q))))
 | @pop v hv q=>
  have hvi:xs[xs.length - 1]? = some v:=Zu3▸hv
  refine (rx.get hvi).elim fun y hr50=>hr50.elim fun hy ry=>?_
  refine SF.cls.elim fun cd hr50=>hr50.elim fun dd hr51=>hr51.elim fun sl w=>?_
  have X:=kin C R
  refine (R.acc ⟨d,xs,fs,ea,ed⟩).elim fun ox hr50=>hr50.elim fun od I=>?_
  refine Zgo eq rfl rfl hB (fun A E Q q=>Ykf (C:=325) (I.type.andThen (Zds X SF.notm)) ⟨_,ex,rfl,fun c e=>nomatch e⟩ I.type (X _ _ w.e) rfl rfl w.q q) (b:=Builtin.«list.pop») (Ib (by kernel_rfl)) (by decide +kernel)
   (bd (Ygz (y:=y) ex rfl (rx.size▸hl) ((Z0 ..).trans (rx.size▸hy)) fun h' k' e sb=>back (arr:=vals.dropLast) (k':=k') ?_ sb ?_ ry q))
  ·have e2:(Yk vals).eraseIdxIfInBounds ((Yk vals).size - 1)=vals.dropLast.toArray:=by
    exact (dif_pos (show vals.toArray.size - 1 < vals.toArray.size from (Yk6 (rx.length▸Ym2 (Yt.mp hvi).1) (Z8 _):vals.length - 1 < vals.length))).trans ((Ycb ..).trans (congrArg Yk (Zqo ..)))
   rw [e2] at e;exact e
  ·have:=rx.take (xs.length - 1)
   rwa [<-Zdy,rx.length,<-Zdy] at this
 | init q=>exact Zgo eq rfl rfl hB (fun A E Q q=>Kq (Ygm a) q) (b:=Builtin.«list.__init__») (Ib (by kernel_rfl)) (by decide +kernel) (bd (Yb0 ex rfl (YD (rx.size▸hl)) fun h' k' e sb=>back (arr:=[]) e sb .nil .none q))
theorem Yoh (C:GOK G)(SF:Zxf G)(R:RS G env st s){k:SK}{a d:Addr}{xs:List V}{fs:List (Nat×V)}{Q:V->Hp->Prop}(ea:st.σ a=some (.acc 325 d xs))(ed:st.σ d=some (.at fs))(hl:xs.length<=100000)(h:Yb7 a d xs Q st.σ k)
  {so:Addr} {pl:Sem Bool} {pos:Pos} (hso:s.heap.get? so=some { cls:=.type "super",dict:=none,data:=.fields #[.ref 325,.ref a,.ref 325],slots:=#[] }) :
  W G A (getMethod (.ref so) k.nm pl) (fun fx J1=>W G A (Zea pos fx.1 fx.2 [] []) (PV G env st s Q) E J1) E s:=by
 refine SF.cls.elim fun cd hr50=>hr50.elim fun dd hr51=>hr51.elim fun sl w=>?_
 have X:=kin C R
 obtain ⟨ox,od,I⟩:=R.acc ⟨d,xs,fs,ea,ed⟩
 have hc:clsIn G.K 325=some cd:=by unfold clsIn;rw [w.e]
 have hmro:Looks (model G.prog G.w) s.heap (mroOf (.ref 325)) cd.mro:=(Zvf X hc).andThen .now
 have hne:a≠325:=ks_ne X I hc
 have hil:Looks (model G.prog G.w) s.heap (UG (.ref a) (.type "list")) true:=I.type.andThen (Zds X SF.isl)
 have fin:∀ (B:String) (t:Nat),(B= "builtin_function_or_method"\/B= "method-wrapper")->W G A (Zea pos (.ref s.heap.objs.size) [] [] []) (PV G env st s Q) E { s with heap:=s.heap.push (Znz k B a),toks:=t }:=fun B t hB=>
  have k1:=R.ext (h':=s.heap.push (Znz k B a)) (t:=t) (d:=s.drawn) fun b o e=>Zg _ e
  have eq1:(s.heap.push (Znz k B a)).get? s.heap.objs.size=some (Znz k B a):=Zq _ rfl
  have c:=(Ydc (A:=A) (E:=E) C SF k1.1 ea ed hl h eq1 hB).to fun z W2 p=>p.from k1.2
  YT rfl (YS rfl (Yi ((wbL eq1 (by rcases hB with rfl | rfl <;> exact Ze c)))))
 obtain ⟨hh,g,dr,t,os⟩:=s
 cases k with
 | len=>exact Zdv hso (Yjn X SF.op) hmro rfl X (w.a .len) Zsv Ze7.lookup hne rfl (fun t A E Q' q=>Yj1 hil q) (fin "method-wrapper" _ (.inr rfl))
 | pop=>exact Zdv hso (Yjn X SF.op) hmro rfl X (w.a .pop) Zsu Zls.lookup hne rfl (fun t A E Q' q=>Yj0 hil q) (fin "builtin_function_or_method" _ (.inl rfl))
 | init=>exact Zdv hso (Yjn X SF.op) hmro rfl X (w.a .init) Zpj Ze7.lookup hne rfl (fun t A E Q' q=>Yf4 hil q) (fin "method-wrapper" _ (.inr rfl))
end
section
variable {n:Nat}
def Yp6 (sc:Sc)(e:Expr)(f:FX):Prop:=
 ∀ ⦃G Δ n env A⦄,Cx G Δ n env A sc->Zxf G->Zjo G env->∀ (body:List Stmt) (st:St) (s:Zd) (Q:V->Hp->Prop) (E:Value->Zd->Prop),0 < s.toks->RS G env st s->f Δ st.lv st.cv Q st.σ->
  Zlm (model G.prog G.w) A (.func body env) (eval e env) (PV G env st s Q) E s
def Ykx (sc:Sc)(t:Stmt)(F:FS):Prop:=
 ∀ ⦃G Δ n env A⦄,Cx G Δ n env A sc->Zxf G->Zjo G env->∀ (body:List Stmt) (st:St) (s:Zd) (Q:Fl->St->Prop) (E:Value->Zd->Prop),0 < s.toks->RS G env st s->F Δ Q st->
  Zlm (model G.prog G.w) A (.func body env) (exec t env) (PS G env st s Q) E s
def SSLat (sc:Sc)(l:List Stmt)(F:FS):Prop:=
 ∀ ⦃G Δ n env A⦄,Cx G Δ n env A sc->Zxf G->Zjo G env->∀ (body:List Stmt) (st:St) (s:Zd) (Q:Fl->St->Prop) (E:Value->Zd->Prop),0 < s.toks->RS G env st s->F Δ Q st->
  Zlm (model G.prog G.w) A (.func body env) (execs l env) (PS G env st s Q) E s
theorem Yn0 {k:SK}{p0 p1 apos pos:Pos}{x name:Str}(hx:x=Zz "super")(hn:name=k.nm)(hpl:∀ env,∃ pl,eval (.Call (.Attribute (.Call (.Name x p0) [] [] p1) name apos) [] [] pos) env=(do
   let ov <-attributeBase (.Call (.Name x p0) [] [] p1) name env (eval (.Call (.Name x p0) [] [] p1) env)
   Zgi apos.atName
   let (f,first) <-Zrr [ov] (getMethod ov name pl)
   Zea pos f first (backTo pos (starEach [] env)) [])):Yp6 sc (.Call (.Attribute (.Call (.Name x p0) [] [] p1) name apos) [] [] pos) (Yib k):=by
 intro G Δ n env A X SF SE body st s Q E ht R hw19
 obtain ⟨a,d,xs,fs,w⟩:=hw19
 obtain ⟨hh,g,dr,t,os⟩:=s
 subst hx hn
 have hz0:=hpl env
 let pl:=hz0.choose
 obtain ⟨f,of,fd,ar,hfu,H⟩:=SE.func
 obtain ⟨cc,oc,vs,file,tf,C⟩:=SE.code
 have K:=kin X.C R
 obtain ⟨mg,mb,hm1,hm2,hm3,hm4⟩:=SF.sup
 let oc9:=SF.cell.choose
 have hq9:=SF.cell.choose_spec
 let cd:=SF.cls.choose
 have hq0:=SF.cls.choose_spec
 let dd:=hq0.choose
 have hq1:=hq0.choose_spec
 let sl:=hq1.choose
 have c:=(hq1.choose_spec)
 let mm:=R.fr.choose
 have hq0:=R.fr.choose_spec
 have F:=hq0.1
 refine (R.den _ _ w.h2).1.rec fun {vals kk} ex rx=>?_
 refine ks_wpAt_MethodCall (pl:=pl) ?_ ((hz0.choose_spec))
 refine ks_wpAt_super_base SE.sup SE.cls (k.rec (by decide) (by decide) (by decide)) hfu (K _ _ H.k) H.d H.h C.e (K _ _ C.k) C.d C.v C.q SF.top ?_
 refine ks_loadName_global X.hE.kind SE.sup (Zg7 (X.hE.globals▸hm1.keeps F.keep) hm2 (X.hE.builtins▸hm3.keeps F.keep) hm4 ⟨rfl,?_⟩)
 refine wpAny_loadName_free X.hE.kind SE.cls SE.cells ⟨_,K _ _ (hq9.1),(hq9.2)⟩ ?_
 rw [H.a]
 have hz0:=(hq0.2) _ _ w.h1
 let x:=hz0.choose
 have hq0:=hz0.choose_spec
 have hx:=hq0.1
 revert hx
 refine (hq0.2).rE fun hx=>Zaa X.hE.kind SE.self F.ns hx ?_
 refine Zni (K _ _ c.e) rfl ⟨rfl,ks_wpAny_call_super (K _ _ c.e) rfl ex rfl (fun c e=>nomatch e) (Zds K SF.sub) fun h' e kp=>?_⟩
 have k1:=R.ext (h':=h') (t:=t) (d:=dr) kp
 exact (Yoh (A:=A) (E:=E) (pl:=pl) (pos:=pos) X.C SF k1.1 w.h2 w.h3 w.h4 w.q e).to fun fx J1 hw=>Zy hw (fun z W2 p=>p.from k1.2) fun J J e=>e
theorem Zx6 {e:Expr}{p:Pos}{f:FX}(a:Yp6 sc e f):Ykx sc (.Return (some e) p) (Zao f):=fun J J J J J X SF SE body st s Q E ht R h=>
 ks_wpAt_Return_some (Zkf (a X SF SE body st s _ E ht R h) (fun J J p=>p.elim fun u p=>p.elim fun J p=>⟨.ret u,_,p.R,p.S,.ret p.r,p.q⟩) fun J J e=>e)
theorem Yns {e:Expr}{p:Pos}{f:FX}(a:Yp6 sc e f)(hs:∀ env,swapsWith e none p.line env=pure false):Ykx sc (.Expr e p) (sEx f):=fun J J J J J X SF SE body st s Q E ht R h=>
 ks_wpAt_Expr_any (Zkf (a X SF SE body st s _ E ht R h) (fun J J p=>p.elim fun u p=>p.elim fun J p=>⟨.next,_,p.R,p.S,.next,p.q⟩) fun J J e=>e) (by unfold Zma;rw [X.hE.kind];rfl) (hs _)theorem Ydi {t:Stmt}{F:FS}(a:SS sc t F):Ykx sc t F:=fun J J J J J X J J J st s Q E ht R h=>wpAt_of_wpAny (a X st s Q E ht R h)theorem Zq9:SSLat sc [] Zx:=fun J J J J J X J J J st s Q E ht R h=>wpAt_of_wpAny (Zt X st s Q E ht R h)theorem Zzz {α:Type}{M:Model}{c:Code}{t:Sem α}{Q:α->Zd->Prop}(h:Zlm M A c t Q E s):Zlm M A c t (fun a s'=>Q a s'/\s.toks<=s'.toks) E s:=fun Γ p hc hΓ=>Zxz t (h Γ p hc hΓ)
theorem Zhq {t:Stmt}{l:List Stmt}{F H:FS}(a:Ykx sc t F)(b:SSLat sc l H):SSLat sc (t::l) (Zo F H):=fun J J J J J X SF SE body st s Q E ht R h=>
 ks_wpAt_execs_cons (Zkf (Zzz (a X SF SE body st s _ E ht R h)) (fun fl j0 p=>by
  obtain ⟨f,O2,w⟩:=p.1
  obtain V1:=p.2
  have q:=w.q
  cases f with
  | next=>exact w.r.nE (Zkf (b X SF SE body O2 j0 Q E (Ym ht V1) w.R q) (fun fl J1 p=>p.from w.S) fun J J e=>e)
  | brk=>exact w.r.bE ⟨.brk,O2,w.R,w.S,.brk,q⟩
  | cont=>exact w.r.cE ⟨.cont,O2,w.R,w.S,.cont,q⟩
  | ret v=>exact w.r.rE fun J r=>⟨.ret v,O2,w.R,w.S,.ret r,q⟩) fun J J e=>e)
end
section
variable {n:Nat}
structure Ymy (G:GC)(f:Addr)(fd:YF)(sc:Sc)(body:List Stmt):Prop extends Zzw G f fd sc body false [(Zz "__class__",249)] where
 head:∃ o ar,HeadW G f o fd ar
 codeRef:∃ cc o vs file tf,CodeW G fd.code cc o vs file tf
 nocell:∀ p∈sc,p.2≠.cell
 sup:sc.lookup 141=some .globalImplicit
 cls:sc.lookup 199=some .free
 self:sc.lookup 21=some .local
theorem Yew:nm 141=Zz "super":=by decide +kernel
theorem Yex:nm 199=Zz "__class__":=by decide +kernel
theorem Ygp (C:GOK G)(D:DV G Δ n)(SF:Zxf G){f:Addr}{fd:YF}{body:List Stmt}{F:FS}(FA:Ymy G f fd sc body)(hr:SSLat sc body F)
  {vs:List V} {bs:List (Nat×V)} (hb:Binds G fd vs bs) (hks:∀ p∈bs,sc.lookup p.1=some .local) {vals:List Value} {Q:V->Hp->Prop}
  (hA:AOK A (n + 4)) (ht:0 < s.toks) (R:RS G env st s) (rv:VRs s.heap vs vals) (h:F Δ (Zcv Q) ⟨st.σ,fun i=>bs.reverse.lookup i,fun J=>none⟩):Zgb G A env st s E (.ref f) vals [] Q:=by
 have Fr0:=(R.fr.choose_spec).1
 have hz0:=hb s vals Fr0.keep rv
 let l:=hz0.choose
 have w:=(hz0.choose_spec)
 let o:=FA.head.choose
 have hq9:=FA.head.choose_spec
 have H:=(hq9.choose_spec)
 have ho':=kin C R _ _ H.k
 refine ⟨Zig ho' H.d,?_⟩
 have hc':∀ x∈fd.scope.names,x.2≠.cell:=fun x hx=>by
  rw [FA.names] at hx
  exact (Ys.mp hx).elim fun p hp=>hp.2▸FA.nocell p hp.1
 have hl':∀ x∈l,fd.scope.names.lookup x.1=some .local:=fun x hx=>by
  have hz0:=Ys.mp (w.k▸Y4 hx:x.1∈_)
  let p:=hz0.choose
  have hq0:=hz0.choose_spec
  have e:=hq0.2
  rw [<-e,FA.names,Zck]
  exact hks p (hq0.1)
 have hE:EOK (callEnv fd s.heap.objs.size f) sc:=⟨FA.kind,FA.globals,FA.builtins,FA.names,FA.co⟩
 refine ks_codeAny_call_defAt hA.room ho' H.d (C.nolimit.keeps Fr0.keep) (FA.code.keeps Fr0.keep) FA.bodyIs w.b hc' hl' (fun h₀ hns hk=>?_) FA.co FA.gen FA.kind
 refine Zkf (hr ⟨C,D,hE,hA.deeper _⟩ SF (⟨⟨f,o,fd,(hq9.choose),rfl,H⟩,FA.codeRef,Yew▸(hE.kindOf _).trans FA.sup,Yex▸(hE.kindOf _).trans FA.cls,by show fd.closure.lookup _=_;rw [FA.clo];rfl,(hE.kindOf _).trans FA.self⟩) body ⟨st.σ,fun i=>bs.reverse.lookup i,fun J=>none⟩ _ (Zcv Q) (fun J J=>False) (Ym ht (Zn _ _)) (R.enter (e':=callEnv fd s.heap.objs.size f) (h₀:=h₀) (t:=s.toks + l.length) (lv:=fun i=>bs.reverse.lookup i) rfl hns hk fun i v hv=>Zdn (Zb6 (i:=i) (bs:=bs.reverse) (l:=l.reverse) (h:=s.heap) (by rw [Xi,w.k,Xi]) (by rw [Xi,Xi];exact w.r.reverse)) hv) h) (fun fl J1 y=>?_) (fun J J e=>e.elim)
 have hq0:=y.choose_spec
 have y:=(hq0.choose_spec)
 have k:=R.back (e':=callEnv fd s.heap.objs.size f) (h₀:=h₀) (t:=s.toks + l.length) (st1:=⟨st.σ,fun i=>bs.reverse.lookup i,fun J=>none⟩) rfl rfl hk y.R y.S
 exact body_end y k.1 k.2 (fun J p=>p) (fun p=>p)
end
section
variable {n:Nat}
theorem Zw2 {M:Model}{i owner n:String}{self:Value}{rest:List Value}{kw:List (Str×Value)}{Q:Unit->Zd->Prop}
  (hk:Zih i=some .method) (hs:Yiq i=some (owner,n)) (hi:Looks M s.heap (UG self (.type owner)) true) (ha:Zg9 i ⟨self::rest,kw⟩) (q:Q () s) :
  wpAny M A (Zjk i ⟨self::rest,kw⟩) Q E s:=by
 unfold Zjk
 rw [hk,hs]
 refine Zc (m:=UG self (.type owner)) (hi.here ?_)
 revert ha
 unfold Zg9
 cases Kc i with
 | none=>exact fun J=>Ze q
 | some sig=>exact fun ha=>Kq (show Zdi i sig ⟨self::rest,kw⟩=pure () from ha) q
theorem Zzn (C:GOK G)(X:G.K.In s.heap){x:Addr}{ox:Obj}{od:Option Obj}(I:InstAt s.heap x ox 325 od):Looks (model G.prog G.w) s.heap (UG (.ref x) (.type "list")) true:=I.type.andThen (Zds X C.acc.isl)
theorem Zkt (C:GOK G)(X:G.K.In s.heap){x:Addr}{ox:Obj}{od:Option Obj}(I:InstAt s.heap x ox 325 od){id nme:String}{b:Builtin}{rest:List Value}{Q:Value->Zd->Prop}(hk:Zih id=some .method\/Zih id=some .slot)(hs:Yiq id=some ("list",nme))
  (hp:plainId id=true) (hent:Zfi table id=some b) (ha:Zg9 id ⟨.ref x::rest,[]⟩) (h:wpAny (model G.prog G.w) A.in1 (b ⟨.ref x::rest,[]⟩) (fun fin s'=>∃ v,fin= .done (.ret v)/\Q v s') E s):W G A (call (.builtin id) (.ref x::rest)) Q E s:=by
 refine Ux (Zfj hp hent ?_)
 have key:wpAny (model G.prog G.w) A.in1 (b ⟨.ref x::rest,[]⟩) (fun fin s'=>match fin with | .done f=>(match (Except.ok f:Zbm) with | .ok (.ret v)=>Q v s' | .ok _=>False | .error e=>E e s') | .again c'=>c'.quiet=true/\codeAny (model G.prog G.w) A c' (fun r s'=>match r with | .ok (.ret v)=>Q v s' | .ok _=>False | .error e=>E e s') s') (fun e s'=>E e s') s:=
  Zy h (fun fin s' hw0=>hw0.elim fun v hw0=>hw0.elim fun e q=>by subst e;exact q) fun J J e=>e
 rcases hk with hk | hk
 ·exact Zw2 hk hs (Zzn C X I) ha key
 ·exact Ybu hk hs (Zzn C X I) ha key
theorem Zsw:Zfu (.builtin "list.append")=pure (.type "method_descriptor"):=by kernel_rfl
theorem Zxa (C:GOK G)(R:RS G env st s){a d:Addr}{xs:List V}{fs:List (Nat×V)}{pl:Sem Bool}{Q:Value×List Value->Zd->Prop}(ea:st.σ a=some (.acc 325 d xs))(ed:st.σ d=some (.at fs))(hm:fs.lookup 0=none)
  (q:Q (.builtin "list.append",[.ref a]) s):W G A (getMethod (.ref a) (nm 0) pl) Q E s:=by
 have hz0:=R.inst (a:=a) (c:=325) (d:=d) (fs:=fs) (by unfold IK;rw [ea];rfl) (by unfold fieldsOf;rw [ed];rfl)
 have hq0:=hz0.choose_spec
 have hq1:=hq0.choose_spec
 have hq2:=hq1.choose_spec
 exact Zlw (kin C R) (hq2.1) (hq2.2) (hq2.3) C.acc.plainA C.acc.app (Zu2 Zsw) (by decide +kernel) ((hq2.4).none hm) q
theorem Ya4 (C:GOK G)(R:RS G env st s){a d:Addr}{xs:List V}{fs:List (Nat×V)}{v:V}{val:Value}{Q:V->Hp->Prop}(ea:st.σ a=some (.acc 325 d xs))(ed:st.σ d=some (.at fs))(hl:xs.length<=100000)(rv:VR s.heap v val)(h:Q .none (upd st.σ a (.acc 325 d (xs++[v])))) :
  W G A (call (.builtin "list.append") [.ref a,val]) (PV G env st s Q) E s:=by
 have D1:=(R.den _ _ ea).1
 have hz0:=R.acc ⟨d,xs,fs,ea,ed⟩
 have hq0:=hz0.choose_spec
 refine D1.rec fun {vals kk} ex rx=>?_
 refine Zkt C (kin C R) ((hq0.choose_spec)) (nme:="append") (.inl (by kernel_rfl)) (by kernel_rfl) (by decide +kernel) (b:=Builtin.«list.append») (Ib (by kernel_rfl)) (PySem.F.args_list_append_2 _ _) (Zul ex rfl (rx.size▸hl) fun h' k' e sb=>?_)
 have e':h'.get? a=some (Yeg d (vals++[val]) k'):=e.trans (congrArg (fun z=>some (Zh9 (Yeg d vals kk) z k')) (Zgw ..))
 exact PV.upd R ea sb.extBut (Den.acc e' ((rx.append (VRs.one rv)).mono (Za1 D1 sb.extBut))) .none h
structure AccQ (a d:Addr)(Q:V->Hp->Prop)(v:V)(σ:Hp)(xs:List V)(fs:List (Nat×V)):Prop where
 h1:σ a=some (.acc 325 d xs)
 h2:σ d=some (.at fs)
 l:xs.length<=100000
 q:Q .none (upd σ a (.acc 325 d (xs++[v])))abbrev AccV (a d:Addr)(Q:V->Hp->Prop):V->Hp->Prop:=fun v σ=>∃ xs fs,AccQ a d Q v σ xs fs
inductive AccK (Δ:Dl)(lv:Nat->Option V)(cv:Nat->Option Addr)(f:FX)(Q:V->Hp->Prop):V->Hp->Prop
 | mk {a d xs fs σ} (h1:σ a=some (.acc 325 d xs)) (h2:σ d=some (.at fs)) (h3:fs.lookup 0=none) (q:f Δ lv cv (AccV a d Q) σ):AccK Δ lv cv f Q (.ref a) σ
def Zxy (o f:FX):FX:=fun Δ lv cv Q σ=>o Δ lv cv (AccK Δ lv cv f Q) σ
end
section
variable {n:Nat}
section
variable {prog:YL}{w:World}
theorem Yg1 {x:Addr}{o:Obj}{items:Array Value}{n:Nat}{k:Int}{t:Tok}{y:Value}{Q:Value->Zd->Prop}(ho:s.heap.get? x=some o)(hd:o.data= .seq items n)(h0:0<=k)(hfit:k < 2 ^ 63)(hy:items[k.toNat]? = some y)(hq:Q y s) :
  wpAny (model prog w) A (Builtin.«list.__getitem__» ⟨[.ref x,.int k t],[]⟩) (fun fin s'=>∃ v,fin= .done (.ret v)/\Q v s') E s:=by
 show wpAny _ _ (Zlq (.int k t) >>= _) _ _ s
 refine Zc (wpAny_listSubscript_int (fitsIndex_of h0 hfit) ?_)
 clear hfit
 obtain ⟨j,rfl⟩:=Zzv h0
 have hx':items[j]? = some y:=hy
 refine Zc (Zc (wpAny_seqItemAt ho hd (Ze ?_)))
 refine (hx')▸?_
 first
  | exact (wbP (Ze ⟨y,rfl,hq⟩))
  | exact Ze ⟨y,rfl,hq⟩
theorem Zw6 {x sl:Addr}{o:Obj}{items:Array Value}{k:Nat}{vl vu:Value}{lo hi:Option Int}{Q:Value->Zd->Prop}(ho:s.heap.get? x=some o)(hd:o.data= .seq items k)(hs:s.heap.IsSliceOf sl vl vu .none)(pl:IsPart vl lo)(pu:IsPart vu hi)(hsz:items.size<=Zi8)
  (h:Q (.ref s.heap.objs.size) { s with heap:=s.heap.push { cls:=.type "list",data:=.seq (slicePick items lo hi none) } }) :
  wpAny (model prog w) A (Builtin.«list.__getitem__» ⟨[.ref x,.ref sl],[]⟩) (fun fin s'=>∃ v,fin= .done (.ret v)/\Q v s') E s:=by
 have hz0:=id hs
 have hq0:=hz0.choose_spec
 have hos:=hq0.1
 have hds:=hq0.2.2
 have hTs:s.TypeIs (.ref sl) "slice":=⟨(hz0.choose),hos,(hq0.2.1)⟩
 show wpAny _ _ (Zlq (.ref sl) >>= _) _ _ s
 refine Zc ?_
 refine (wbO hTs Yai ?_)
 refine Ze ?_
 refine Zc (m:=Zfu (.ref sl)) (Zj2 hTs ?_)
 refine Y5 (by decide) ?_
 refine Zc ((wbD hos hds (x:=.none) rfl (Zc (Im .none ?_))))
 refine Y5 (by decide) ?_
 refine (wbD hos hds (x:=vl) rfl (Zc (Im pl ?_)))
 refine (wbD hos hds (x:=vu) rfl (Zc (Im pu (Ze ?_))))
 refine Zc (m:=I8 (.ref x)) ?_
 refine (wbQ ho hd (Ze ?_))
 refine (wbE (Zs9 lo hi none items.size (fun h=>nomatch h)) ?_)
 exact Zc (Z7 (Ze ⟨_,rfl,h⟩) (Zb (slicePick_size_le items lo hi none) hsz))
inductive LoN:Option Int->Nat->Prop
 | none:LoN none 0
 | some (j:Nat):LoN (some (j:Int)) j
theorem Yny (j n:Nat):max 0 (min (j:Int) (n:Int))=((min j n:Nat):Int):=(Zcg (Int.le_min.mpr ⟨Z4 _,Z4 _⟩)).trans ((Yca j n).elim (fun h=>by rw [Ip h,Zsf (YZ.mpr h)]) fun h=>by rw [Zpb h,Yqj (YZ.mpr h)])
theorem sb_lo {lo:Option Int}{j:Nat}(h:LoN lo j)(n:Nat):Zvc lo none none n=(((min j n:Nat):Int),(n:Int),(1:Int)):=by
 cases h with
 | none=>rw [Nat.zero_min];rfl
 | some=>exact congrArg (fun z:Int=>(z,(n:Int),(1:Int))) ((congrArg (fun z:Int=>max 0 (min z (n:Int))) (if_neg (U4.mpr (Z4 j)))).trans (Yny j n))
theorem Ydt {α:Type}(l m:List α)(j:Nat):l.toArray.extract 0 (Zk6 (min j l.length:Nat))++m.toArray++l.toArray.extract (max ((min j l.length:Nat):Int) (l.length:Int)).toNat l.toArray.size=(l.take j++m).toArray:=by
 rw [Zcg (YZ.mpr (Yp8 ..)),Yco,Yco,Yhl,Yhl]
 refine congrArg Yk ?_
 show (l.take (min j l.length)++m)++(l.drop l.length).take (l.length - l.length)=l.take j++m
 rw [Zdp,List.take_zero,ZK,<-List.take_eq_take_min]
theorem Zqd {a:Addr}{oa:Obj}{it:Array Value}{ka:Nat}{Q:Array Value->Zd->Prop}(e1:s.heap.get? a=some oa)(e2:oa.data= .seq it ka)(q:Q it s):wpAny (model prog w) A (I8 (.ref a)) Q E s:=by
 exact (wbQ e1 e2 (Ze q))
theorem Zw5 {x sl b:Addr}{o ob:Obj}{vals new:List Value}{k kb:Nat}{vl:Value}{lo:Option Int}{j:Nat}{Q:Value->Zd->Prop}(ho:s.heap.get? x=some o)(hd:o.data= .seq vals.toArray k)(hs:s.heap.IsSliceOf sl vl .none .none)(pl:IsPart vl lo)(hlo:LoN lo j)
  (hb:s.heap.get? b=some ob) (hbc:ob.cls= .type "list") (hbd:ob.data= .seq new.toArray kb) (hne:b≠x) (hsz:vals.length<=1000) (hnz:new.length<=1000)
  (hq:∀ h' k',h'.get? x=some (Zh9 o (vals.take j++new).toArray k')->ZM x s.heap h'->Q .none { s with heap:=h' }) :
  wpAny (model prog w) A (Builtin.«list.__setitem__» ⟨[.ref x,.ref sl,.ref b],[]⟩) (fun fin s'=>∃ v,fin= .done (.ret v)/\Q v s') E s:=by
 refine (Zmi (f:=fun xs=>xs.extract 0 (Zk6 (min j vals.length:Nat))++new.toArray++xs.extract (max ((min j vals.length:Nat):Int) (vals.length:Int)).toNat xs.size) ho hd).elim fun k' e=>?_
 have hz0:=id hs
 have hq0:=hz0.choose_spec
 have hos:=hq0.1
 have hds:=hq0.2.2
 have hTs:s.TypeIs (.ref sl) "slice":=⟨(hz0.choose),hos,(hq0.2.1)⟩
 refine (wbE (a:=(ZR x,[ZR sl,ZR b])) rfl ?_)
 refine Zc ?_
 refine (wbO hTs Yai (Ze ?_))
 refine Zc (m:=Zfu (.ref sl)) (Zj2 hTs ?_)
 refine Zc ((wbD hos hds (x:=.none) rfl (Zc (Im .none ?_))))
 refine Y5 (by decide) ?_
 refine (wbD hos hds (x:=vl) rfl (Zc (Im pl ?_)))
 refine (wbD hos hds (x:=.none) rfl (Zc (Im .none (Ze ?_))))
 refine (show Zbp (.ref x) (.ref b)=false from beq_eq_false_iff_ne.mpr hne.symm)▸?_
 refine Zc ?_
 refine (wbT (T:="list") ⟨_,hb,hbc⟩ ?_)
 refine K7 rfl ?_
 refine Zqd hb hbd (Zc (Zqd ho hd ?_))
 refine (wbE (Zs9 lo none none vals.toArray.size (fun h=>nomatch h)) ?_)
 rw [sb_lo hlo]
 refine K7 rfl ?_
 refine (wbR ?_)
 refine (show Builtin.List.listTooLong (vals.toArray.size + new.toArray.size)=false from decide_eq_false (Ug.mpr (YD (Zb (Yc hsz hnz) (by decide)))))▸?_
 rw [Ydt] at e
 refine Zc (m:=Zmg x (fun xs=>xs.extract 0 (Zk6 (min j vals.length:Nat))++new.toArray++xs.extract (max ((min j vals.length:Nat):Int) (vals.length:Int)).toNat xs.size)) (XS ho hd ((wbG (Ze ⟨_,rfl,hq _ k' e (ZV ..)⟩))) (YD (Zb hsz (by decide))) ?_)
 rw [Ydt,Zdf,Zf]
 exact Xm (YD (Zb (Yc (Zb (Zef ..) hsz) hnz) (by decide)))
end
end
section
variable {n:Nat}
theorem Yi2 {o e:Expr}{name:Str}{apos pos:Pos}{fo f:FX}(hn:nm 0=name)(a:SX sc o fo)(b:SX sc e f)(hs:Zkc e)
  (hb:∀ env whole,attributeBase o name env whole=whole) (hline:(apos.endLine == pos.line)=true):SX sc (.Call (.Attribute o name apos) [e] [] pos) (Zxy fo f):=by
 subst hn
 intro G Δ n env A X st s Q E ht R h
 have hns:(backTo pos (starEach [e] env)).any (·.1)=false:=by rw [hs];rfl
 refine Zbk (hb _ _) hns (show (1:Nat) < 20 by decide) hline (a.then X ht R h fun v x W0 j0 V1 J0 V0 J2 h pl=>?_)
 cases h with
 | @mk a' d xs fs _ ea ed hm Q0=>
 refine J2.rE (Zxa X.C J0 ea ed hm (YT hns (YS hns ?_)))
 rw [hs]
 exact Z6 (b.then X V1 J0 Q0 fun v y J3 J1 M3 V2 H3 Q3 h=>h.elim fun xs h=>h.elim fun fs w=>Yi (Ze ((Ya4 (A:=A) (E:=E) X.C V2 w.h1 w.h2 w.l Q3 w.q).to fun z W2 p=>p.from (V0.trans H3))))
theorem Zut (C:GOK G)(X:G.K.In s.heap){x:Addr}{ox:Obj}{od:Option Obj}(I:InstAt s.heap x ox 325 od){i:Value}{Q:Value->Zd->Prop}
  (h:wpAny (model G.prog G.w) A.in1 (Builtin.«list.__getitem__» ⟨[.ref x,i],[]⟩) (fun fin s'=>∃ v,fin= .done (.ret v)/\Q v s') E s):W G A (Zmr (.ref x) i) Q E s:=by
 refine Yl (Zc (Zc (I.type.here ?_)))
 refine Zc ((anyM_none X C.acc.noseq).here ?_)
 refine K7 (show (!false)=true from rfl) ?_
 refine Ze ?_
 refine Zc ?_
 refine Zc (Zc (I.type.here ((YQ X C.acc.getitem).here ?_)))
 refine Yl ((wbE (Zag.bind _) ?_))
 refine Zc (Zkt C X I (nme:="__getitem__") (rest:=[i]) (.inl (by kernel_rfl)) (by kernel_rfl) (by decide +kernel) PySem.entry_list_getitem (PySem.args_list_getitem _ _) (Zy h (fun fin s' hw0=>hw0.elim fun v hw0=>hw0.elim fun e q=>⟨v,e,Ze (Ze q)⟩) fun J J e=>e))
theorem Zuq (C:GOK G)(X:G.K.In s.heap){x:Addr}{ox:Obj}{od:Option Obj}(I:InstAt s.heap x ox 325 od){i:Value}{value slice:Expr}{Q:Value->Zd->Prop}(hs:∃ ops,subscripted slice false (.ref x) i=Zml ops (Zmr (.ref x) i))
  (h:wpAny (model G.prog G.w) A.in1 (Builtin.«list.__getitem__» ⟨[.ref x,i],[]⟩) (fun fin s'=>∃ v,fin= .done (.ret v)/\Q v s') E s):W G A (Ze5 value slice (.ref x) i) Q E s:=by
 refine Zc (Zc (Zc (I.type.here ((YQ X C.acc.getitem).here ?_))))
 refine Ze ?_
 rw [((hs.choose_spec))]
 exact Zc (wpAny_operating (Zy (Zut C X I h) (fun r W2 V3=>Zc (wpAny_letTemporaryGo (Ze V3))) fun J J x=>x))
inductive Ylh (Q:V->Hp->Prop)(σ:Hp):V->V->Prop
 | mk {a d xs fs k v} (h1:σ a=some (.acc 325 d xs)) (h2:σ d=some (.at fs)) (h0:0<=k) (hk:k<=100000) (e:xs[k.toNat]? = some v) (q:Q v σ):Ylh Q σ (.ref a) (.int k)abbrev Ypa (Q:V->Hp->Prop)(a:V):V->Hp->Prop:=fun b σ=>Ylh Q σ a b
abbrev kIdxA (Δ:Dl)(lv:Nat->Option V)(cv:Nat->Option Addr)(i:FX)(Q:V->Hp->Prop):V->Hp->Prop:=fun a σ=>i Δ lv cv (Ypa Q a) σ
def Zsn (o i:FX):FX:=fun Δ lv cv Q σ=>o Δ lv cv (kIdxA Δ lv cv i Q) σ
theorem Yjb (C:GOK G)(R:RS G env st s){a b:V}{x y:Value}{Q:V->Hp->Prop}{value slice:Expr}(r1:VR s.heap a x)(r2:VR s.heap b y)(h:Ylh Q st.σ a b)(hs:∃ ops,subscripted slice false x y=Zml ops (Zmr x y)):W G A (Ze5 value slice x y) (PV G env st s Q) E s:=by
 revert r1 r2
 refine h.rec fun {a d xs fs k v} ea ed h0 hk hv q r1 r2=>?_
 have hz0:=R.acc ⟨d,xs,fs,ea,ed⟩
 let ox:=hz0.choose
 have hq9:=hz0.choose_spec
 let od:=hq9.choose
 revert hs
 refine r1.rE (r2.iE fun t hs=>(R.den _ _ ea).1.rec fun {vals n} ex rx=>?_)
 have hz0:=rx.get hv
 let y:=hz0.choose
 have hq0:=hz0.choose_spec
 exact Zuq C (kin C R) ((hq9.choose_spec)) hs (Yg1 ex rfl h0 (Zc3 hk (by decide)) ((Z0 ..).trans (hq0.1)) (PV.now R (hq0.2) q))
theorem Ymd {o i:Expr}{p}{f g:FX}(a:SX sc o f)(b:SX sc i g)(hns:∀ x y z q,i≠.Slice x y z q):SX sc (.Subscript o i p) (Zsn f g):=fun J J J J J X st s Q E ht R h=>
 Zo7 (a.then X ht R h fun v x W0 j0 V1 J0 V0 J2 Q0=>b.then X V1 J0 Q0 fun u y J3 J1 M3 V2 H3 Q3 h=>(Yjb (E:=E) X.C V2 (J0.vr H3 J2) Q3 h ⟨_,Zpl hns _ _⟩).to fun z W2 p=>p.from (V0.trans H3))
inductive Yp4 (Q:V->Hp->Prop)(σ:Hp):V->V->Prop
 | mk {a d xs fs} {k:Nat} (h1:σ a=some (.acc 325 d xs)) (h2:σ d=some (.at fs)) (l:xs.length<=100000) (q:∀ n,σ n=none->Q (.ref n) (upd σ n (.list (xs.drop k)))):Yp4 Q σ (.ref a) (.int k)abbrev Yo8 (Q:V->Hp->Prop)(a:V):V->Hp->Prop:=fun b σ=>Yp4 Q σ a b
abbrev kSlcA (Δ:Dl)(lv:Nat->Option V)(cv:Nat->Option Addr)(i:FX)(Q:V->Hp->Prop):V->Hp->Prop:=fun a σ=>i Δ lv cv (Yo8 Q a) σ
def Ylu (o lo:FX):FX:=fun Δ lv cv Q σ=>o Δ lv cv (kSlcA Δ lv cv lo Q) σ
theorem Yat {α:Type}(xs:List α)(k:Nat):Zbj xs (some (k:Int)) none=xs.drop k:=by
 unfold Zbj X3
 dsimp only [Option.elim]
 rw [if_neg (U4.mpr (Z4 k)),Km]
 by_cases h:k<=xs.length
 ·rw [Ip h]
  exact Zii (ZX (Zhk ..))
 ·have h:=Nat.le_of_not_le h
  rw [Zpb h,Zoo,List.drop_eq_nil_of_le h];exact List.take_nil
theorem Yi7 (C:GOK G)(R:RS G env st s){a b:V}{x y:Value}{Q:V->Hp->Prop}{value slice:Expr}(r1:VR s.heap a x)(r2:VR s.heap b y)(h:Yp4 Q st.σ a b)(hs:∃ ops,subscripted slice false x (.ref s.heap.objs.size)=Zml ops (Zmr x (.ref s.heap.objs.size))) :
  W G A (Ze5 value slice x (.ref s.heap.objs.size)) (PV G env st s Q) E { s with heap:=s.heap.push { cls:=.type "slice",data:=.fields #[y,.none,.none] } }:=by
 revert r1 r2
 refine h.rec fun {a d xs fs k} ea ed hl q r1 r2=>?_
 revert hs
 refine r1.rE (r2.iE fun t hs=>?_)
 have k3:=R.ext (h':=s.heap.push { cls:=.type "slice",data:=.fields #[.int (k:Int) t,.none,.none] }) (t:=s.toks) (d:=s.drawn) fun y z e=>Zg _ e
 have hz0:=k3.1.acc ⟨d,xs,fs,ea,ed⟩
 have hq0:=hz0.choose_spec
 refine (k3.1.den _ _ ea).1.rec fun {vals n} ex rx=>?_
 refine Zuq C (kin C k3.1) ((hq0.choose_spec)) hs (Zw6 (lo:=some (k:Int)) (hi:=none) ex rfl (Zbo ..) (.int _ _) .none (YD (rx.size▸hl)) ?_)
 rw [Zgj,Yat]
 exact (PV.list k3.1 (rx.drop k) (q ·)).from k3.2
theorem sSlcA {o lo:Expr}{p q}{f g:FX}(a:SX sc o f)(b:SX sc lo g):SX sc (.Subscript o (.Slice (some lo) none none p) q) (Ylu f g):=fun J J J J J X st s Q E ht R h=>
 Zo7 (a.then X ht R h fun v x W0 j0 V1 J0 V0 J2 Q0=>Zl7 (b.then X V1 J0 Q0 fun u y J3 J1 M3 V2 H3 Q3 h=>Ze (Ze
  ((Yi7 (E:=E) X.C V2 (J0.vr H3 J2) Q3 h (Zla _ _ _ _ _ _)).to fun z W2 p=>p.from (V0.trans H3)))))
theorem Zus (C:GOK G)(X:G.K.In s.heap){x:Addr}{ox:Obj}{od:Option Obj}(I:InstAt s.heap x ox 325 od){i v:Value}{Q:Zd->Prop}
  (h:wpAny (model G.prog G.w) A.in1 (Builtin.«list.__setitem__» ⟨[.ref x,i,v],[]⟩) (fun fin s'=>∃ v,fin= .done (.ret v)/\Q s') E s):W G A (setItem (.ref x) i v) (fun J s'=>Q s') E s:=by
 refine Yl (Zc (Zc (I.type.here ?_)))
 refine Zc ((anyM_none X C.acc.noseq).here ?_)
 refine K7 (show (!false)=true from rfl) ?_
 refine Ze ?_
 refine Zc ?_
 refine Zc (Zc (I.type.here ((YQ X C.acc.setitem).here ?_)))
 refine Yl ((wbE (PySem.slot_list_setitem.bind _) ?_))
 refine Zc (Zkt C X I (nme:="__setitem__") (rest:=[i,v]) (.inr (by kernel_rfl)) (by kernel_rfl) (by decide +kernel) PySem.entry_list_setitem (PySem.args_list_setitem _ _ _) (Zy h (fun fin s' hw0=>hw0.elim fun v hw0=>hw0.elim fun e q=>⟨v,e,Ze (Ze q)⟩) fun J J e=>e))
inductive LoV:V->Nat->Prop
 | int (k:Nat):LoV (.int k) k
 | none:LoV .none 0
inductive Yha (lv:Nat->Option V)(cv:Nat->Option Addr)(Q:Fl->St->Prop)(σ:Hp)(iv:V):V->V->Prop
 | mk {a d xs fs b ys k} (i:LoV iv k) (h1:σ a=some (.acc 325 d xs)) (h2:σ d=some (.at fs)) (h3:σ b=some (.list ys)) (l1:xs.length<=1000) (l2:ys.length<=1000) (q:Q .next ⟨upd σ a (.acc 325 d (xs.take k++ys)),lv,cv⟩):Yha lv cv Q σ iv (.ref b) (.ref a)
section
variable (Δ:Dl)(lv:Nat->Option V)(cv:Nat->Option Addr)(Q:Fl->St->Prop)
abbrev kSS3 (v a:V):V->Hp->Prop:=fun i σ=>Yha lv cv Q σ i v a
abbrev kSS2 (lo:FX)(v:V):V->Hp->Prop:=fun a σ=>lo Δ lv cv (kSS3 lv cv Q v a) σ
abbrev kSS1 (o lo:FX):V->Hp->Prop:=fun v σ=>o Δ lv cv (kSS2 Δ lv cv Q lo v) σ
end
def Zv7 (f o lo:FX):FS:=fun Δ Q st=>st.rec fun σ lv cv=>f Δ lv cv (kSS1 Δ lv cv Q o lo) σ
inductive LoR (z:Value)(k:Nat):Prop | mk {lo} (p:IsPart z lo) (h:LoN lo k)
theorem lo_r {h:Heap}{iv:V}{z:Value}{k:Nat}(i:LoV iv k)(r:VR h iv z):LoR z k:=by
 revert r
 exact i.rec (fun k r=>r.iE fun t=>⟨.int _ _,.some k⟩) fun r=>r.nE ⟨.none,.none⟩
theorem Yej (C:GOK G)(R:RS G env st s){v a i:V}{x y z:Value}{Q:Fl->St->Prop}(r1:VR s.heap v x)(r2:VR s.heap a y)(r3:VR s.heap i z)(h:Yha st.lv st.cv Q st.σ i v a) :
  W G A (setItem y (.ref s.heap.objs.size) x) (fun J s'=>PS G env st s Q .next s') E { s with heap:=s.heap.push { cls:=.type "slice",data:=.fields #[z,.none,.none] } }:=by
 revert r1 r2
 refine h.rec fun {a d xs fs b ys k} hi ea ed eb hl1 hl2 q r1 r2=>r1.rE (r2.rE ?_)
 refine (lo_r hi r3).rec fun {lo} pl hlo=>?_
 have k4:=R.ext (h':=s.heap.push { cls:=.type "slice",data:=.fields #[z,.none,.none] }) (t:=s.toks) (d:=s.drawn) fun y z e=>Zg _ e
 have hz0:=k4.1.acc ⟨d,xs,fs,ea,ed⟩
 have hq0:=hz0.choose_spec
 have D1:=(k4.1.den _ _ ea).1
 refine D1.rec fun {vals n} ex rx=>(k4.1.den _ _ eb).1.rec fun {new} pb rn=>pb.elim fun kb pb=>?_
 refine Zus (Q:=fun s'=>PS G env st s Q .next s') C (kin C k4.1) ((hq0.choose_spec)) (Zw5 ex rfl (Zbo ..) pl hlo pb rfl rfl (fun q=>nomatch si ea ((congrArg st.σ q).symm.trans eb)) (rx.length▸hl1) (rn.length▸hl2) fun h' k' e sb=>?_)
 have k5:=k4.1.put (h':=h') (t:=s.toks) (d:=s.drawn) (.inl (iS ea)) (fun b o hb e=>sb.extBut b o hb e) (Den.acc e (((rx.take k).append rn).mono (Za1 D1 sb.extBut)))
 exact ⟨.next,_,k5.1,k4.2.trans k5.2,.next,q⟩
theorem Zx8 {o e:Expr}{lo:Option Expr}{q p r:Pos}{f g h:FX}(he:SX sc e f)(ho:SX sc o g)(hi:SO sc lo h)(hs:∀ env,swapsWith e (some (.Subscript o (.Slice lo none none r) q)) p.line env=pure false):SS sc (.Assign [.Subscript o (.Slice lo none none r) q] e p) (Zv7 f g h):=fun J J J J J X st s Q E ht R h=>
 Yif (he.then X ht R h fun v x W0 j0 V1 J0 V0 J2 Q0=>ho.then X V1 J0 Q0 fun a y J3 J1 M3 V2 H3 Q3 G3=>Zl7 (hi.then X M3 V2 G3 fun k z O4 W2 j4 T3 W3 w5 h=>
  Ze (Ze ((Yej (E:=E) (Q:=Q) X.C T3 (V2.vr W3 (J0.vr H3 J2)) (V2.vr W3 Q3) w5 h).to fun J O3 p=>p.from (V0.trans (H3.trans W3)))))) (hs _)
end
section
variable {n:Nat}
def TOK (G:GC)(c:Addr):Prop:=∃ P,(c,P)∈G.T/\∀ p∈G.T,p.2=P->p.1=c
def SSc (c:Addr)(sc:Sc)(t:Stmt)(F:FS):Prop:=
 ∀ ⦃G Δ n env A⦄,Cx G Δ n env A sc->env.code= .ref c->TOK G c->∀ (st:St) (s:Zd) (Q:Fl->St->Prop) (E:Value->Zd->Prop),0 < s.toks->RS G env st s->F Δ Q st->W G A (exec t env) (PS G env st s Q) E s
def Zo8 (c:Addr)(sc:Sc)(l:List Stmt)(F:FS):Prop:=
 ∀ ⦃G Δ n env A⦄,Cx G Δ n env A sc->env.code= .ref c->TOK G c->∀ (st:St) (s:Zd) (Q:Fl->St->Prop) (E:Value->Zd->Prop),0 < s.toks->RS G env st s->F Δ Q st->W G A (execs l env) (PS G env st s Q) E s
theorem Zd0 {c:Addr}{t:Stmt}{F:FS}(a:SS sc t F):SSc c sc t F:=fun J J J J J X J J=>a X
theorem Yds {c:Addr}{l:List Stmt}{F:FS}(a:SSL sc l F):Zo8 c sc l F:=fun J J J J J X J J=>a X
theorem U5 {c:Addr}{t:Stmt}{l:List Stmt}{f g:FS}(a:SSc c sc t f)(b:Zo8 c sc l g):Zo8 c sc (t::l) (Zo f g):=fun J J J J J X hc hT st s Q E ht R h=>
 Zss (Zy (tk ht (a X hc hT st s _ E ht R h)) (fun fl j0 p=>by
  obtain ⟨f,O2,w⟩:=p.1
  obtain V1:=p.2
  have q:=w.q
  cases f with
  | next=>exact w.r.nE ((b X hc hT O2 j0 Q E V1 w.R q).to fun J J p=>p.from w.S)
  | brk=>exact w.r.bE ⟨.brk,O2,w.R,w.S,.brk,q⟩
  | cont=>exact w.r.cE ⟨.cont,O2,w.R,w.S,.cont,q⟩
  | ret v=>exact w.r.rE fun J r=>⟨.ret v,O2,w.R,w.S,.ret r,q⟩) fun J J e=>e)
theorem call_fnX (C:GOK G)(D:DV G Δ n){f:Addr}{fd:YF}{body:List Stmt}{F:FS}{c:Addr}(FA:Yho G f fd sc body)(hcode:fd.code= .ref c)(hT:TOK G c)(hr:Zo8 c sc body F)
  {vs:List V} {bs:List (Nat×V)} (hb:Binds G fd vs bs) (B:Zof sc bs) {vals:List Value} {Q:V->Hp->Prop}
  (hA:AOK A (n + 4)) (ht:0 < s.toks) (R:RS G env st s) (rv:VRs s.heap vs vals) (h:enterC bs (Kz sc) st.σ (fun J=>none) (fun σ cv=>F Δ (Zcv Q) ⟨σ,lvB sc bs,cv⟩)):Zgb G A env st s E (.ref f) vals [] Q:=
 Zkq C D FA (fun X hcd=>hr X (hcd.trans hcode) hT) hb B hA ht R rv h
section
variable {prog:YL}{w:World}
theorem Zv5 {it l:Addr}{i:Nat}{ol:Obj}{items:Array Value}{nl:Nat}{x:Value}{Q:Option Value->Zd->Prop}(hit:s.heap.IsListIter it l i)
  (hol:s.heap.get? l=some ol) (hdl:ol.data= .seq items nl) (hx:items[i]? = some x)
  (hQ:∀ h',h'.IsListIter it l (i + 1)->ZM it s.heap h'->Q (some x) { s with heap:=h' }) :
  wpAny (model prog w) A (Za3 (.ref it)) Q E s:=
 Zc (Ia (Zyu hit hol hdl hx fun h' h1 h2=>Ze (hQ h' h1 h2)))
theorem Yam {it l:Addr}{i:Nat}{ol:Obj}{items:Array Value}{nl:Nat}{Q:Option Value->Zd->Prop}(hh:A.handled=none)
  (hit:s.heap.IsListIter it l i) (hol:s.heap.get? l=some ol) (hdl:ol.data= .seq items nl) (hx:items[i]? = none)
  (hQ:∀ h',XN it s.heap h'->Q none { s with heap:=h' }):wpAny (model prog w) A (Za3 (.ref it)) Q E s:=
 Zc (Ia (Yfe hh hit hol hdl hx fun h' a k d ex ea ed=>(wbI (T:="StopIteration") (b:=true) ⟨_,ea,rfl⟩ Zg8 (Ze (hQ _ ex)))))
theorem Yku (hh:A.handled=none)(I ax:Addr)(hne:ax≠I)(oa:Obj)(items:Array Value)(na:Nat)(hd:oa.data= .seq items na)(Ts:Nat->Addr)(vals:Nat->Array Value)
  (hit:∀ j,j < items.size->items[j]? = some (.ref (Ts j))) (hTI:∀ j,j < items.size->Ts j≠I) :
  WalksU prog w A I (I::ax::(Ub items.size).map Ts) [I] items.size (fun j v=>j < items.size/\v=vals j)
   (fun j h=>h.IsListIter I ax j/\h.get? ax=some oa/\∀ k,k < items.size->h.IsTuple (Ts k) (vals k))
   (fun j T h=>(j < items.size/\T=Ts j)/\h.IsListIter I ax (j + 1)/\h.get? ax=some oa/\∀ k,k < items.size->h.IsTuple (Ts k) (vals k)) where
 sub:=fun b hb=>by simp at hb;simp [hb]
 frame:=fun J J J st hk=>⟨st.1.at fun o e=>hk I (.head _) o e,hk ax (by simp) _ st.2.1,
  fun k hk'=>(st.2.2 k hk').at fun o e=>hk (Ts k) (Zj1 _ (Zj1 _ (Ys.mpr ⟨k,Zdg.mpr hk',rfl⟩))) o e⟩
 item:=fun i s Q E hi st hQ=>by
  refine Zv5 st.1 st.2.1 hd (x:=.ref (Ts i)) (hit i hi) fun h' hit' hs'=>?_
  have tup:∀ k,k < items.size->h'.IsTuple (Ts k) (vals k):=fun k hk'=>(st.2.2 k hk').extBut hs'.extBut (hTI k hk')
  exact hQ (Ts i) (vals i) h' s.toks ⟨hi,rfl⟩ (tup i hi) ⟨⟨hi,rfl⟩,hit',hs'.extBut ax _ hne st.2.1,tup⟩ fun b o hb e=>hs'.extBut b o (fun h=>hb (by simp [h])) e
 go:=fun J J J J J s Q J hm hQ=>wpAny_letOwnedTupleGo_listiter hm.2.1 (hQ s.heap hm.2 fun J J J e=>e)
 apart:=fun j T J hm hmem=>by
  refine (Xl.mp hmem).elim (fun e=>?_) fun e=>?_
  ·exact hTI j hm.1.1 (hm.1.2▸e)
  ·cases e
 done:=fun s Q E st hQ=>Yam hh st.1 st.2.1 hd (by simp) fun h' he'=>hQ h' s.toks fun b o hb e=>he' b o (fun h=>hb (by simp [h])) e
 self:=fun J J J J st hQ=>Yly st.1 hQ
end
end
section
variable {n:Nat}
theorem RS.table (R:RS G env st s){c P:Addr}(hT:(c,P)∈G.T)(hd:∀ p∈G.T,p.2=P->p.1=c){h':Heap}{t:Nat}{ps:Array Value}(x:XN P s.heap h')(hc:h'.IsCode c P ps)(htab:Imk s.heap h'->Tab h' c P ps) :
  RS G env st ⟨h',s.gens,s.drawn,t,s.os⟩/\Stp G env st st s ⟨h',s.gens,s.drawn,t,s.os⟩:=by
 have T:=R.tab _ hT
 have ik:Imk s.heap h':=fun b o e hi=>x b o (fun q=>(R.off_imm e hi).2.2 c (q▸hT)) e
 exact ⟨⟨R.fr.imp fun J F=>⟨⟨F.1.ns.at' (fun o e=>x _ o T.l0.symm e),fun b o e=>x b o (fun q=>nn T.b0 (q▸e)) (F.1.keep b o e),F.1.above⟩,Zdc ik F.2⟩,
  fun b o e=>⟨(R.den b o e).1.mono ik fun ob eb=>x b ob (fun q=>nn T.s0 (q▸e)) eb,(R.den b o e).2⟩,R.cel,fun p h=>if q:p.2=P then by
   have e1:=hd _ h q
   subst q e1
   exact ⟨⟨ps,hc,htab ik⟩,T.s0,T.l0,T.b0,T.c0⟩
  else
   have z:=R.tab p h
   have h1:p.1≠P:=fun q=>nS (q▸T.b0) z.c0
   ⟨z.t.imp fun J y=>⟨y.1.extBut (fun b o h e=>x b o h e) h1 q,y.2.but ik (fun o e=>x _ o h1 e) (fun o e=>x _ o q e)⟩,z.s0,z.l0,z.b0,z.c0⟩,R.bare,R.os⟩,
  ⟨fun b o e J J h3=>x b o (fun q=>h3 c (q▸hT)) e,fun b o e=>if q:b=P then q▸iS (htab ik).2 else iS (x b o q e),fun b h=>.inl h,fun J J h=>h⟩⟩
theorem Zo1 {pos pos':Pos}{c cv:Value}(n:Nat)(l:List Value)(hn:l.length<=n)(ht:TriplesOk l)(h:codeAmong pos' (l++[Uz pos.line,Uz pos.col,c])=some cv):codeAmong pos' l=some cv\/cv=c:=by
 induction n generalizing l with
 | zero=>cases Xj.mp (Nat.le_zero.mp hn);exact .inr (Znm h).2.symm
 | succ n ih=>
  cases l with
  | nil=>exact .inr (Znm h).2.symm
  | cons v l=>
   cases v with
   | int a t=>
    cases l with
    | nil=>exact Zh3 ht
    | cons v l=>
     cases v with
     | int b u=>
      cases l with
      | nil=>exact Zh3 ht
      | cons x rest=>
       have h:(if (a == pos'.line&&b == pos'.col)=true then some x else codeAmong pos' (rest++[Uz pos.line,Uz pos.col,c]))=some cv:=h
       show (if (a == pos'.line&&b == pos'.col)=true then some x else codeAmong pos' rest)=some cv\/_
       by_cases q:(a == pos'.line&&b == pos'.col)=true
       ·rw [if_pos q] at h⊢;exact .inl h
       ·rw [if_neg q] at h⊢;exact ih rest (Yn (Yn (Za7 hn))) ht h
     | _=>exact Zh3 ht
   | _=>exact Zh3 ht
theorem Tab.grow {s:Zd}{h':Heap}{c P c' P':Addr}{ps:Array Value}{pos:Pos}{q:Str}(t0:Tab s.heap c P ps)(i0:s.heap.IsCode c P ps)(hrec:h'.CodeRec (.ref c') q)(ht:h'.TableAt c P (ps++#[Uz pos.line,Uz pos.col,.ref c']))(ht':h'.TableAt c' P' #[])(ik:Imk s.heap h') :
  Tab h' c P (ps++#[Uz pos.line,Uz pos.col,.ref c']):=by
 refine i0.elim fun o hr50=>hr50.elim fun vs hr51=>hr51.elim fun file hr52=>hr52.elim fun tf hr53=>hr53.elim fun flags hr54=>hr54.elim fun tg hr55=>hr55.elim fun inF hr56=>hr56.elim fun text hr57=>hr57.elim fun tt hr58=>hr58.elim fun op x=>?_
 refine ⟨ht.1,ht.2,fun pos' cv e=>?_⟩
 rw [show (ps++#[Uz pos.line,Uz pos.col,ZR c']).toList=ps.toList++[Uz pos.line,Uz pos.col,.ref c'] from Zk3 ..] at e
 exact (Zo1 _ _ (Zm _) x.2.2.2.2.2.2.2.2.2.1 e).elim (fun e=>(t0.3 pos' cv e).mono ik) fun e=>e▸hrec.imp fun c2 z=>z.imp fun o2 z=>z.imp fun vs2 z=>z.elim fun t2 z=>
  ⟨q,t2,z.1,z.2.1,ht'.1.elim fun o3 y=>y.elim fun vs3 y=>(si z.2.1 ((congrArg h'.get? (Zfo z.1).symm).trans y.1))▸y.2.1,z.2.2⟩
theorem Zwg (R:RS G env st s){c:Addr}(hcode:env.code= .ref c)(hT:TOK G c){pos:Pos}{q:Str}{scope:Scope}{Q:Value->Zd->Prop}
  (h:∀ code h' tk,RS G env st { s with heap:=h',toks:=tk }->Stp G env st st s { s with heap:=h',toks:=tk }->Q code { s with heap:=h',toks:=tk }):W G A (genexprCode env pos q scope) Q E s:=by
 let P:=hT.choose
 have hq9:=hT.choose_spec
 have hP:=hq9.1
 have hz0:=(R.tab _ hP).t
 let ps:=hz0.choose
 have hq0:=hz0.choose_spec
 have i0:=hq0.1
 have t0:=hq0.2
 cases hf:codeAmong pos ps.toList with
 | some cv=>
  exact wpAny_genexprCode_hit hcode i0 hf (h cv s.heap s.toks R .refl)
 | none=>
  refine wpAny_genexprCodeX hcode i0 t0.table hf fun c' h' tk x _ _ hc' hrec ht' hw6=>?_
  obtain ⟨P',_,_,ht2⟩:=hw6
  have k:=R.table (t:=tk) hP (hq9.2) x hc' (fun ik=>t0.grow i0 hrec ht' ht2 ik)
  exact h _ h' tk k.1 k.2
theorem Zht (C:GOK G)(R:RS G env st s)(hg:env.globals=Uj){run:Addr}{Q:Addr->Zd->Prop}(h:Q UJ s):W G A (builtinsFor env.globals run) Q E s:=by
 refine C.bmod.elim fun mg hr50=>hr50.elim fun bm hr51=>hr51.elim fun o hr52=>hr52.elim fun h1 hr53=>hr53.elim fun h2 hr54=>hr54.elim fun h3 hr55=>hr55.elim fun h4 hr56=>hr56.elim fun h5 hr57=>hr57.elim fun h6 h7=>?_
 have F:=(R.fr.choose_spec).1
 exact wpAny_builtinsFor (hg▸h1.keeps F.keep) h2 h3 (F.keep _ _ h4) h5 h6 h7 h
end
section
variable {n:Nat}
noncomputable def scG (i:Nat):Sc:=[(200,.local),(129,.local),(136,.local),(i,.globalImplicit)]
theorem Ymq {cenv:Env}{scg:Sc}{i:Nat}{v:V}{p:Pos}{Q:Value->Zd->Prop}{M:Model}(C:GOK G)(hE:EOK cenv scg)(hB:∀ b o,G.B.get? b=some o->s.heap.get? b=some o)(hk:scg.lookup i=some .globalImplicit)(hg:gt i=some v)(h:∀ x,VR s.heap v x->Q x s):wpAny M A (eval (.Name (nm i) p) cenv) Q E s:=by
 refine (C.glob i v hg).elim fun mg hr50=>hr50.elim fun hm hh=>?_
 have ik:Imk G.B s.heap:=fun b o e J=>hB b o e
 refine Zme hE.kind (by rw [hE.kindOf,hk]) ?_ (Zcu i)
 rcases hh with ⟨x,hx,hv⟩ | ⟨hn,mb,x,hb,hx,hv⟩
 ·exact Zrj (hE.globals▸hm.keeps hB) hx (h _ (hv.mono ik))
 ·exact Zg7 (hE.globals▸hm.keeps hB) hn (hE.builtins▸hb.keeps hB) hx (h _ (hv.mono ik))
theorem Ye5 {cenv:Env}{scg:Sc}{i:Nat}{m:Str->Option Value}{x:Value}{p:Pos}{Q:Value->Zd->Prop}{M:Model}(hE:EOK cenv scg)(hN:s.heap.Ns cenv.locals m)(hk:scg.lookup i=some .local)(hx:m (nm i)=some x)(h:Q x s):wpAny M A (eval (.Name (nm i) p) cenv) Q E s:=
 Zj3 (Zaa hE.kind (by rw [hE.kindOf,hk]) hN hx h) (Zcu i)
inductive FV:V->Value->Prop
 | int (i t):FV (.int i) (.int i t)
 | str (x t):FV (.str x) (.str (sT x) t)theorem FV.vr {v:V}{x:Value}{h:Heap}(f:FV v x):VR h v x:=f.rec VR.int VR.str
def EltOK (G:GC)(scg:Sc)(elt:Expr)(val:Tx->Tx->V):Prop:=
 ∀ {A:Yg} {E:Value->Zd->Prop} {cenv:Env} {s:Zd} {m:Str->Option Value} {f p:Tx} {t u:Tok},GOK G->EOK cenv scg->s.heap.Ns cenv.locals m->m (nm 129)=some (.str (sT f) t)->m (nm 136)=some (.str (sT p) u)->f.length + p.length<=90000->
  (∀ b o,G.B.get? b=some o->s.heap.get? b=some o)->W G A (eval elt cenv) (fun y s'=>FV (val f p) y/\Keeps s s') E s
theorem Ybh {t:Nat}:Keeps s { s with toks:=t }:=⟨s.heap,t,rfl,fun J J e=>e⟩
theorem Keeps.tr {a b c:Zd}(x:Keeps a b)(y:Keeps b c):Keeps a c:=x.elim fun h1 x=>x.elim fun t1 x=>by
  rw [x.1] at y
  exact y.imp fun h2 y=>y.imp fun t2 y=>⟨y.1,fun b o e=>y.2 b o (x.2 b o e)⟩
theorem Yka {pa pb pc pd pe pf pg:Pos}:EltOK G (scG 64) (.BinOp (.Call (.Name (nm 64) pa) [.Name (nm 129) pb] [] pc) .Add (.Call (.Name (nm 64) pd) [.Name (nm 136) pe] [] pf) pg) (fun f p=>.int ((f.length:Int) + p.length)):=by
 intro A E cenv s m f p t u C hE hN h1 h2 hl hB
 have one:∀ {i:Nat} {x:Tx} {tt:Tok} {p1 p2 p3:Pos} {Q:Value->Zd->Prop} {k:Nat},(scG 64).lookup i=some .local->m (nm i)=some (.str (sT x) tt)->x.length<=90000->(∀ k t',Q (.int (x.length:Int) t') { s with toks:=k })->
   W G A (eval (.Call (.Name (nm 64) p1) [.Name (nm i) p2] [] p3) cenv) Q E { s with toks:=k }:=fun {i x tt p1 p2 p3 Q k} hk hx hlx q=>
  XJ (Ymq C hE hB rfl rfl fun v rv=>rv.biE (YT rfl (YS rfl (Z6 (Ye5 hE hN hk hx (Yi (Iz .len
   (Zqj (Zir.mpr (Ziw (Zb hlx (Za rfl)))) (q _ _)))))))))
 exact wpAny_BinOp (one (k:=s.toks) rfl h1 (Zb (Zn ..) hl) fun k1 t1=>one rfl h2 (Zb (Y6 ..) hl) fun k2 t2=>Zqk ⟨.int _ _,Ybh⟩)
theorem Ygg {pa pb pc pd pt pos:Pos}{k:Nat}(hline:(pb.endLine == pos.line)=true):EltOK G (scG 102) (.Call (.Attribute (.Name (nm 102) pa) (Zz "join") pb) [.Tuple [.Name (nm 129) pc,.Name (nm 136) pd] k pt] [] pos) (fun f p=>.str (f++p)):=by
 intro A E cenv s m f p t u C hE hN h1 h2 hl hB
 refine Zbk rfl rfl (show (1:Nat) < 20 by decide) hline (Ymq C hE hB rfl rfl fun v rv pl=>rv.sE fun tk0=>?_)
 refine Zad (Zcq _ _ _) Kr Zdd (by kernel_rfl) (fun a e=>nomatch e) ?_
 have hs:(([sT f,sT p]:List Str).map Ykv).sum=f.length + p.length:=congrArg (f.length + ·) (Nat.add_zero p.length)
 refine YT rfl (YS rfl (Z6 (wpAny_Tuple_spliced (x1:=k) ?_)))
 refine Z6 (Ye5 hE hN rfl h1 (Z6 (Ye5 hE hN rfl h2 (Yi ⟨YD (show (2:Nat)<=100000 by decide),Yi (Ze ?_)⟩))))
 refine join_tupleW (ys:=[sT f,sT p]) ⟨_,Zq _ rfl,rfl,_,rfl⟩ (.cons _ _ (.cons _ _ .nil)) (by decide) (hs▸Zb (Yr hl 2) (by decide)) (fun t' kk=>?_)
 have e:Txt.join (sT []) [sT f,sT p]=sT (f++p):=(Zkg [] [f,p]).trans (congrArg (fun z=>sT (z++p)) (ZK f))
 exact e▸⟨.str _ _,_,kk,rfl,fun b o e=>Zg _ e⟩
end
section
variable {n:Nat}
theorem Yg9 (C:GOK G)(X:G.K.In s.heap){x:Addr}{ox:Obj}{od:Option Obj}(I:InstAt s.heap x ox 325 od){Q:Value->Zd->Prop}
  (h:Q (.ref s.heap.objs.size) { s with heap:=s.heap.push { cls:=.type "list_iterator",data:=.fields #[.ref x,.int 0 0] } }):W G A (Yau (.ref x)) Q E s:=by
 have hcall:∀ {Q':Value->Zd->Prop},Q' (.ref s.heap.objs.size) { s with heap:=s.heap.push { cls:=.type "list_iterator",data:=.fields #[.ref x,.int 0 0] } }->W G A (call (.builtin "list.__iter__") [.ref x]) Q' E s:=fun {Q'} q=>by
  refine Zkt C X I (nme:="__iter__") (rest:=[]) (.inr (by kernel_rfl)) (by kernel_rfl) (by decide +kernel) PySem.entry_list_iter (PySem.args_list_iter _) ?_
  refine (wbE (a:=(ZR x,[])) rfl ?_)
  exact Zc (Z7 (Ze ⟨_,rfl,q⟩) (by size_fits))
 refine Zc (Zc (I.type.here ((YQ X C.acc.iter).here ?_)))
 refine Zc ?_
 refine Yl (Zc (Zc (Zc (I.type.here ((YQ X C.acc.iter).here ?_)))))
 refine (wbA (wpAny_ite ?_))
 have fin:W G A (if (Zd3 "list.__iter__" == Xo)=true then ((do rule "iter.none";raiseError "TypeError" s!"'{← typeNameOf (.ref x)}' object is not iterable") >>= fun v=>pure (some v)) else (call (.builtin "list.__iter__") [.ref x] >>= fun v=>pure (some v)))
   (fun r j0=>wpAny (model G.prog G.w) A (match r with
    | some it=>do
     match <-Yhw it "__next__" with
     | none=>rule "iter.non-iterator";raiseError "TypeError" s!"iter() returned non-iterator of type '{← typeNameOf it}'"
     | some _=>pure it
    | none=>do
     match <-bindSpecialIfBound? (.ref x) "__getitem__" with
     | none=>rule "iter.not-iterable";raiseError "TypeError" s!"'{← typeNameOf (.ref x)}' object is not iterable"
     | some _=>rule "iter.getitem-fallback";newFields "iterator" [.ref x,<-mkInt 0]) Q E j0) E s:=by
  refine Y5 (by decide) ?_
  refine Zc (hcall (Ze ?_))
  refine (wbO (T:="list_iterator") ⟨_,Zq _ rfl,rfl⟩ Zdm.lookup ?_)
  exact Ze h
 split
 ·exact (wbP (Ze fin))
 ·exact wpAny_tryCatch ((wbP (Ze fin)))
end
section
variable {n:Nat}
noncomputable abbrev accL (ps:List (Tx×Tx)):List V:=ps.map fun p=>.tup [.str p.1,.str p.2]noncomputable abbrev prT (p:Tx×Tx)(t:Tok×Tok):Array Value:=#[.str (sT p.1) t.1,.str (sT p.2) t.2]def Zxt (h:Heap)(l:List Value)(j:Nat)(p:Tx×Tx)(z:Addr×Tok×Tok):Prop:=(l[j]? = some (.ref z.1))/\h.IsTuple z.1 (prT p z.2)def Zxt.i (z:@Zxt h l j p z):=z.1
def Zxt.t (z:@Zxt h l j p z):=z.2
theorem Ykr {h:Heap}{p:Tx×Tx}{x:Value}(r:VR h (.tup [.str p.1,.str p.2]) x):∃ z:Addr×Tok×Tok,x= .ref z.1/\h.IsTuple z.1 (prT p z.2):=
 r.tE fun a l n e r=>by revert e;exact r.dE fun x y r1 r2=>r1.sE fun t=>r2.sE fun u e=>⟨(a,t,u),rfl,_,e,rfl,n,rfl⟩
theorem Zw9 {h:Heap}{ps:List (Tx×Tx)}{l:List Value}(r:VRs h (accL ps) l):∃ z:Nat->Addr×Tok×Tok,∀ j p,ps[j]? = some p->Zxt h l j p (z j):=
 Classical.axiomOfChoice (r:=fun j z=>∀ p,ps[j]? = some p->Zxt h l j p z) fun j=>by
  cases e:ps[j]? with
  | none=>exact ⟨(0,0,0),fun p e=>nomatch e⟩
  | some p=>
   have hz0:=r.get (i:=j) (v:=.tup [.str p.1,.str p.2]) (by rw [Yd,e];rfl)
   have hq0:=hz0.choose_spec
   exact (Ykr (hq0.2)).imp fun z w p' e'=>Z1 e'▸⟨(hq0.1).trans (congrArg _ w.1),w.2⟩theorem Zlf (n:Nat):(passing (fun J=>true) n 0)=Ub n:=by unfold passing;simp
theorem Zlb {i:Nat}{scope:Scope}(hn:scope.names=(scG i).map fun p=>(nm p.1,p.2)){j:Nat}{k:U8}(h:(scG i).lookup j=some k):scope.names.lookup (nm j)=some k:=by rw [hn,Zck];exact h
theorem Zli {g:Array Uh}{x:Uh}{k:Nat}{y:Uh}(e:g[k]? = some y):(g.push x)[k]? = some y:=
 have h:=(Zby.mp e).1
 (Zxs h).trans ((Xn h).symm.trans e)
structure GenS (G:GC)(env:Env)(st:St)(s:Zd)(A:Yg)(ps:List (Tx×Tx))(val:Tx->Tx->V)(J4:Zd)(ga:Addr)(fp wr:List Addr)(GG:Array Uh->Array Uh->Prop)(S:Nat->Zd->Prop)(P:Nat->Value->Prop):Prop where
 W:WalksS G.prog G.w A.in4 ga fp wr GG ps.length P S
 ty:∀ i s,S i s->s.TypeIs (.ref ga) "generator"
 s0:S 0 J4
 f:∀ b∈fp,b < J4.heap.objs.size
 g:ga∈fp
 p:∀ j v,P j v->∃ p,ps[j]? = some p/\FV (val p.1 p.2) v
 R:RS G env st J4
 mv:∀ s',Moved wr GG J4 s'->RS G env st s'/\Stp G env st st s s'
def Zob (sc:Sc)(st:St)(ps:List (Tx×Tx))(a d:Addr)(fs:List (Nat×V)):Prop:=(sc.lookup 21=some .local)/\(st.lv 21=some (.ref a))/\(st.σ a=some (.acc 325 d (accL ps)))/\(st.σ d=some (.at fs))/\(∀ p∈ps,p.1.length + p.2.length<=90000)def Zob.self (z:@Zob sc st ps a d fs):=z.1
def Zob.s0 (z:@Zob sc st ps a d fs):=z.2.1
def Zob.ea (z:@Zob sc st ps a d fs):=z.2.2.1
def Zob.ed (z:@Zob sc st ps a d fs):=z.2.2.2.1
def Zob.l (z:@Zob sc st ps a d fs):=z.2.2.2.2
def Zh2 (scope:Scope)(i:Nat):Prop:=(scope.names=(scG i).map fun p=>(nm p.1,p.2))/\(scope.kind= .function)/\(scope.isCoroutine=false)/\(nm 200=(".0" : Str))def Zh2.n0 (z:@Zh2 scope i):=z.1
def Zh2.k (z:@Zh2 scope i):=z.2.1
def Zh2.co (z:@Zh2 scope i):=z.2.2.1
def Zh2.h (z:@Zh2 scope i):=z.2.2.2
theorem Yel (X:Cx G Δ n env A sc){c:Addr}(hcode:env.code= .ref c)(hT:TOK G c){i:Nat}{elt:Expr}{val:Tx->Tx->V}(EO:EltOK G (scG i) elt val){scope:Scope}(N:Zh2 scope i){a d:Addr}{ps:List (Tx×Tx)}{fs:List (Nat×V)}(P:Zob sc st ps a d fs)
  (ht:0 < s.toks) (R:RS G env st s) {pa pb pt pi pos:Pos} {kt:Nat} :
  W G A (eval (.GeneratorExp elt [⟨.Tuple [.Name (nm 129) pa,.Name (nm 136) pb] kt pt,.Name (nm 21) pi,[],0⟩] scope pos) env) (fun r J4=>∃ ga fp wr GG S P,r= .ref ga/\GenS G env st s A ps val J4 ga fp wr GG S P) E s:=by
 have hz0:=Zem (env:=env) (cv:=fun J=>none) (fun J J e=>nn rfl e) N.n0 (fun J h=>nomatch h)
 let cl:=hz0.choose
 have lc:U8.local≠.cell:=by decide
 have hcell:∀ y∈scope.names,y.2≠.cell:=fun y hy=>by
  rw [N.n0] at hy
  exact (Ys.mp hy).elim fun p hp=>hp.2▸Zi (p:=fun p:Nat×U8=>p.2≠.cell).mpr ⟨lc,Zi.mpr ⟨lc,Zi.mpr ⟨lc,Zi.mpr ⟨(by decide:U8.globalImplicit≠.cell),Yp _⟩⟩⟩⟩ p hp.1
 refine wpAny_GeneratorExp_walksQT X.hA.handled N.co ((hz0.choose_spec).1) hcell (N.h▸Zlb N.n0 rfl) (Zlb N.n0 rfl) (Zlb N.n0 rfl) (fun e=>absurd (Zjf e) (by decide)) N.k X.hA.room (SX.then (sLc rfl P.self) (Q:=fun v σ=>v= .ref a/\σ=st.σ) X ht R ⟨P.s0,rfl,rfl⟩ fun v x W0 j0 V1 J0 V0 J2 e=>?_) (fun J=>rfl)
 obtain rfl:=e.1
 obtain rfl:=e.2
 refine J2.rE ?_
 have hz0:=J0.acc ⟨d,accL ps,fs,P.ea,P.ed⟩
 let ox:=hz0.choose
 have hq0:=hz0.choose_spec
 let od:=hq0.choose
 refine Yg9 X.C (kin X.C J0) ((hq0.choose_spec)) ?_
 have k2:=J0.ext (h':=j0.heap.push { cls:=.type "list_iterator",data:=.fields #[.ref a,.int 0 0] }) (t:=j0.toks) (d:=j0.drawn) fun b o e=>Zg _ e
 have hlim:∀ {s:Zd},RS G env st s->s.heap.NoLimit:=fun R=>R.fr.elim fun J F=>X.C.nolimit.keeps F.1.keep
 refine ⟨hlim k2.1,?_⟩
 have hIs:j0.heap.get? j0.heap.objs.size=none:=Yy _
 have OI:=J0.off_fresh hIs
 have eI:(j0.heap.push { cls:=.type "list_iterator",data:=.fields #[.ref a,.int 0 0] }).get? j0.heap.objs.size=some { cls:=.type "list_iterator",data:=.fields #[.ref a,.int 0 0] }:=Zq _ rfl
 generalize j0.heap.objs.size=It at hIs OI eI
 refine Zwg k2.1 hcode hT fun code h3 tk3 T3 W3=>Zht X.C T3 X.hE.globals ?_
 have eI3:h3.get? It=some { cls:=.type "list_iterator",data:=.fields #[.ref a,.int 0 0] }:=W3.keep It _ eI OI.σ OI.loc OI.tab
 refine (T3.den _ _ P.ea).1.rec fun {vals kk} ex rx=>?_
 have hz0:=Zw9 rx
 let z:=hz0.choose
 have hq0:=hz0.choose_spec
 have hz:=hq0
 have hsz:(Yk vals).size=ps.length:=rx.length.symm.trans (Zh ..)
 have at':∀ j (hj:j < ps.length),Zxt h3 vals j ps[j] (z j):=fun j hj=>hz j _ (ZG hj)
 have hI0:ItO h3 It:=⟨_,eI3,Za0 rfl rfl (by decide),_,rfl⟩
 have hne:a≠It:=hI0.ne ⟨_,_,rfl⟩ ex
 have hTI:∀ j,j < (Yk vals).size->(z j).1≠It:=fun j hj=>(at' j (hsz▸hj)).t.elim fun o y=>hI0.ne ⟨_,y.2.2⟩ y.1
 have hcs:cStatics∉[It]:=fun q=>(hlim J0).elim fun J y=>y.1.elim fun J w=>w.elim fun J w=>w.elim fun J w=>nn hIs (YX q▸w.1)
 have hIlt:It < h3.objs.size:=ZL eI3
 -- what the consumer may do
 have fin:∀ s':Zd,(∀ b o,b≠It->h3.get? b=some o->s'.heap.get? b=some o)->(∀ (k:Nat) x,j0.gens[k]? = some x->s'.gens[k]? = some x)->Ir s'.gens->s'.os=j0.os->RS G env st s'/\Stp G env st st s s':=fun s' k1 k2' k3 k4=>
  have c:Chg [It] [] ⟨h3,j0.gens,j0.drawn,tk3,j0.os⟩ { s' with toks:=tk3 }:=⟨fun b o hb e=>k1 b o (fun q=>hb (q▸.head _)) e,fun k x J e=>k2' k x e,fun J=>k3,k4,fun h=>h⟩
  have R4:=T3.chg (P:=[It]) (GP:=[]) (fun a ha=>YX ha▸OI) (fun a ha o e=>hI0.elim fun J y=>si y.1 (YX ha▸e)▸y.2.n) c
  have S4:=((V0.trans k2.2).trans W3).chg (P:=[It]) (GP:=[]) (fun a ha=>YX ha▸V0.none_of hIs) (fun J h=>(nomatch h)) c
  ⟨⟨R4.fr,R4.den,R4.cel,R4.tab,R4.bare,R4.os⟩,⟨S4.keep,S4.live,S4.new,S4.gens⟩⟩
 let va:Nat->Array Value:=fun j=>(ps[j]?).elim #[] fun p=>prT p (z j).2
 have hva:∀ j p,ps[j]? = some p->va j=prT p (z j).2:=fun j p e=>congrArg (fun o=>Option.elim o #[] fun p=>prT p (z j).2) e
 have G6:∀ A':Yg,A'.handled=none->_:=fun A' hA=>Yku (prog:=G.prog) (w:=G.w) hA It a hne { cls:=.ref 325,dict:=some d,data:=.seq (Yk vals) kk } (Yk vals) kk rfl (fun j=>(z j).1) va (fun j hj=>(Z0 ..).trans (at' j (hsz▸hj)).i) hTI
 refine ⟨It,_,[It],(Yk vals).size,_,_,_,fun J=>true,fun j y=>∃ p,ps[j]? = some p/\FV (val p.1 p.2) y,rfl,G6,fun j v w=>?_,⟨⟨_,eI3,rfl,rfl⟩,ex,fun k hk=>?_⟩,fun b hb=>?_,hlim T3,hcs,fun href hk1=>⟨?_,?_⟩,fun ga H5 tk gs hgs hga hsz5 hk5 WS GA=>?_⟩
 ·rw [w.2,hva j _ (ZG (hsz▸w.1))]
  exact ⟨_,_,rfl⟩
 ·rw [hva k _ (ZG (hsz▸hk))]
  exact (at' k (hsz▸hk)).t
 ·revert hb b
  refine Zi.mpr ⟨hIlt,Zi.mpr ⟨ZL ex,fun b hb=>?_⟩⟩
  obtain ⟨j,hj,rfl⟩:=Ys.mp hb
  exact (at' j (hsz▸Zdg.mp hj)).t.elim fun J y=>ZL y.1
 ·exact fun J J J J J J1 J J J J J J J=>wpAny_tests_nil ⟨rfl,J1.heap,J1.toks,rfl,fun J J e=>e⟩
 ·intro A' E' j va' vb J1 Q6 hh ⟨hj,hP⟩ _ hN h1 h2 hkk
  have hj:=hsz▸hj
  rw [hva j _ (ZG hj)] at hP
  obtain rfl:va'= .str (sT ps[j].1) (z j).2.1:=Z1 (congrArg (fun x:Array Value=>x[0]?) hP)
  obtain rfl:vb= .str (sT ps[j].2) (z j).2.2:=Z1 (congrArg (fun x:Array Value=>x[1]?) hP)
  refine Zy (EO X.C ⟨N.k,X.hE.globals,rfl,N.n0,N.co⟩ hN h1 h2 (P.l _ (Zhl hj)) (fun b o e=>?_)) (fun y s' w=>⟨⟨_,ZG hj,w.1⟩,w.2⟩) fun J J e=>e
  have e3:h3.get? b=some o:=T3.fr.elim fun J F=>F.1.keep b o e
  exact hkk b (Zdg.mpr (ZL e3)) (fun q=>nn OI.base (YX q▸e)) o (hk1 b o e3)
 ·rw [Zlf,show (Ub (Yk vals).size).length=ps.length from (Kg).trans hsz] at WS
  have bare5:Ir (j0.gens.push gs):=Yqt J0.bare hgs
  have F5:=fin { j0 with gens:=j0.gens.push gs,toks:=tk,heap:=H5 } (fun b o J e=>hk5 b o e) (fun J J e=>Zli e) bare5 rfl
  refine ⟨ga,_,_,_,_,_,rfl,WS,fun j s' hG=>hG.1.typeIs,GA,?_,Yh3 ..,fun j v w=>?_,F5.1,fun s' mv=>?_⟩
  ·show ∀ b∈_,b < H5.objs.size
   rw [hsz5]
   exact Zi.mpr ⟨Yq _,Zi.mpr ⟨YW hga,fun b hb=>YW (Nat.lt_trans (Zdg.mp hb) hga)⟩⟩
  ·obtain ⟨i',hi',p,hp,hf⟩:=w
   have hj:j < (Yk vals).size:=(Kg (n:=(Yk vals).size))▸(Yt.mp hi').1
   obtain rfl:j=i':=Z1 ((List.getElem?_range hj).symm.trans hi')
   exact ⟨p,hp,hf⟩
  ·refine fin s' (fun b o hb e=>mv.heap b o (fun q=>?_) (hk5 b o e)) (fun k x e=>?_) ?_ mv.os
   ·exact (Xl.mp q).elim (fun q=>nn (Yy h3) (q▸e)) fun q=>hb (YX q)
   ·exact mv.gens.elim (fun hg=>hg▸Zli e) fun hg=>(hg.1.2 k (Z3 (Zby.mp e).1)).trans (Zli e)
   ·refine mv.gens.elim (fun hg=>hg▸bare5) fun hg y hy=>?_
    obtain ⟨k,hk,rfl⟩:=Zzy.mp hy
    by_cases q:k=j0.gens.size
    ·exact hg.2 _ (q▸Xn hk)
    ·exact bare5 _ (Array.mem_of_getElem? ((hg.1.2 k q).symm.trans (Xn hk)))
end
section
variable {n:Nat}
section
variable {prog:YL}{w:World}
theorem Yb4 (a b:Value):Zg9 "sum" ⟨[a,b],[]⟩:=by unfold Zg9;kernel_rfl
theorem Ybw {ga:Addr}{fp wr:List Addr}{G:Array Uh->Array Uh->Prop}{n:Nat}{P:Nat->Value->Prop}{St:Nat->Zd->Prop}{val:Nat->Int}{t0:Tok}{Q:Value->Zd->Prop}
  (W:WalksS prog w A.in1 ga fp wr G n P St) (hst:St 0 s) (hfp:∀ b∈fp,b < s.heap.objs.size) (hval:∀ i v,P i v->∃ t,v= .int (val i) t) (hQ:∀ s' t',Moved wr G s s'->Q (.int (preSum val n) t') s') :
  wpAny (model prog w) A (call (.builtin "sum") [.ref ga,.int 0 t0]) Q E s:=by
 refine call_function_tree PySem.F.kind_sum PySem.F.plain_sum PySem.F.entry_sum (Yb4 _ _) ?_
 unfold Builtin.«sum»
 dsimp only [XR,Yqe]
 refine Y5 (by decide) ?_
 refine (wbE (show Builtin.Builtins.bindParams "sum" ["start"] 0 ⟨[.int 0 t0],[]⟩=pure [some (.int 0 t0)] from rfl) ?_)
 refine Zc (W.self 0 _ _ _ hst ?_)
 refine K7 rfl ?_
 refine (wbR (Zc (wpAny_mkInt ((wbP ?_)))))
 refine Zc (Zc ((wbI (T:="int") (b:=false) (typeIs_int _ _ _) PySem.sub_int_str ?_)))
 refine Ze (Zc ((wbI (T:="int") (b:=false) (typeIs_int _ _ _) PySem.sub_int_bytes ?_)))
 refine Ze (Zc ((wbI (T:="int") (b:=false) (typeIs_int _ _ _) PySem.sub_int_bytearray ?_)))
 refine Ze (Ze ?_)
 refine Zc (Z7 ?_)
 refine Ze ⟨Uw PySem.F.plain_sum_loop _,codeAny_sum_loopAnyS W val hval s.heap.objs.size (fun hm=>Un _ (hfp _ hm)) n 0 _ s.toks 0 0 (.inl rfl) rfl (Zr _)
  (W.frame 0 s _ _ hst (ZW _) fun b J o e=>Zg _ e) (Zq _ rfl) fun s' t' hm=>hQ s' t' (hm.drop_new (ZW _))⟩
end
theorem Yen (C:GOK G)(R:RS G env st s){a c d:Addr}{fs:List (Nat×V)}{m:Nat}{v:V}{ex:Bool}{Q:Value->Zd->Prop}(ha:IK st.σ a=some (c,d))(hd:fieldsOf st.σ d=some fs)(hm:fs.lookup m=some v)(ho:ownM c m=true)
  (q:∀ x,VR s.heap v x->Q x { s with toks:=s.toks + 1 }):W G A (Zkj (.ref a) (nm m) ex) Q E s:=by
 have hz0:=R.inst ha hd
 have hq0:=hz0.choose_spec
 have hq1:=hq0.choose_spec
 have hq2:=hq1.choose_spec
 have I:=hq2.1
 have hz0:=(hq2.4).get hm
 let y:=hz0.choose
 have hq0:=hz0.choose_spec
 have hy:=hq0.1
 have ry:=hq0.2
 have O:=C.own _ _ ho
 exact O.plain.elim (fun pl=>R.fr.elim fun J F=>get_own F.1 C.kin I pl O.has O.find rfl hy ry.handed (q y ry)) fun pl=>Zjc (kin C R) I pl (Ypi O.has O.find rfl hy) ry.handed (q y ry)noncomputable def Zot (p:Tx×Tx):Int:=(p.1.length:Int) + p.2.length
theorem Ztr (ps:List (Tx×Tx))(j:Nat):j<=ps.length->preSum (fun j=>(ps[j]?.map Zot).getD 0) j=((ps.take j).map Zot).sum:=by
 induction j with
 | zero=>exact fun J=>rfl
 | succ j ih=>
  intro h
  rw [preSum,ih (Yn h),Zgv,ZF,Yqa,ZG h]
  exact congrArg (((ps.take j).map Zot).sum + ·) (Zn9 (Zot ps[j])).symm
def SumK (lv:Nat->Option V)(Q:V->Hp->Prop)(σ:Hp)(a d:Addr)(ps:List (Tx×Tx))(fs:List (Nat×V)):Prop:=(lv 21=some (.ref a))/\(σ a=some (.acc 325 d (accL ps)))/\(σ d=some (.at fs))/\(fs.lookup 137=some (.int 0))/\(∀ p∈ps,p.1.length + p.2.length<=90000)/\Q (.int (ps.map Zot).sum) σ
def SumK.s0 (z:@SumK lv Q σ a d ps fs):=z.1
def SumK.ea (z:@SumK lv Q σ a d ps fs):=z.2.1
def SumK.ed (z:@SumK lv Q σ a d ps fs):=z.2.2.1
def SumK.f (z:@SumK lv Q σ a d ps fs):=z.2.2.2.1
def SumK.l (z:@SumK lv Q σ a d ps fs):=z.2.2.2.2.1
def SumK.q (z:@SumK lv Q σ a d ps fs):=z.2.2.2.2.2
def Zxv:FX:=fun J lv J Q σ=>∃ a d ps fs,SumK lv Q σ a d ps fs
theorem scSum {c:Addr}{i0:Nat}{x:Str}{p0 p1 rp:Pos}{pa pb pt pi pos:Pos}{kt:Nat}{elt:Expr}{scope:Scope}(hx:nm 144=x)(hkx:sc.lookup 144=some .globalImplicit)(hself:sc.lookup 21=some .local)
  (EO:∀ {G},EltOK G (scG i0) elt (fun f p=>.int ((f.length:Int) + p.length))) (N:Zh2 scope i0)
  {q1 q2:Pos} (hs:Zkc (.Attribute (.Name (nm 21) q1) (nm 137) q2)) (he:∀ env,eval (.Attribute (.Name (nm 21) q1) (nm 137) q2) env=(do
   let x <-eval (.Name (nm 21) q1) env
   Zgi q2.atName
   let r <-Zrr [x] (Zkj x (nm 137) true)
   letTemporaryGo (.Name (nm 21) q1) x r
   pure r)) :
  SSc c sc (.Return (some (.Call (.Name x p0) [.GeneratorExp elt [⟨.Tuple [.Name (nm 129) pa,.Name (nm 136) pb] kt pt,.Name (nm 21) pi,[],0⟩] scope pos,.Attribute (.Name (nm 21) q1) (nm 137) q2] [] p1)) rp) (Zao Zxv):=by
 intro G Δ n env A X hc hT st s Q E ht R h
 refine h.elim fun a hr50=>hr50.elim fun d hr51=>hr51.elim fun ps hr52=>hr52.elim fun fs k=>?_
 refine Zqz (XJ (SX.then (sGl hx hkx) (Q:=fun v σ=>v= .bi .sum/\σ=st.σ) X ht R ⟨rfl,rfl,rfl⟩ fun v x W0 j0 V1 J0 V0 J2 e=>?_))
 obtain rfl:=e.1
 obtain rfl:=e.2
 refine J2.biE ?_
 have hns:(backTo p1 (starEach [.GeneratorExp elt [⟨.Tuple [.Name (nm 129) pa,.Name (nm 136) pb] kt pt,.Name (nm 21) pi,[],0⟩] scope pos,(.Attribute (.Name (nm 21) q1) (nm 137) q2)] env)).any (·.1)=false:=by
  show (backTo p1 ((false,_)::starEach [(.Attribute (.Name (nm 21) q1) (nm 137) q2)] env)).any (·.1)=false
  rw [hs];rfl
 refine YT hns (YS hns ?_)
 show wpAny _ _ (Yir (backTo p1 ((false,eval _ env)::starEach [(.Attribute (.Name (nm 21) q1) (nm 137) q2)] env))) _ _ _
 rw [hs]
 refine Z6 (Zy (tk V1 (Yel X hc hT EO N ⟨hself,k.s0,k.ea,k.ed,k.l⟩ V1 J0)) (fun r J1 w=>?_) fun J J e=>e)
 obtain ⟨⟨ga,fp,wr,GG,St,P,rfl,w⟩,M3⟩:=w
 obtain ⟨m,F,fl⟩:=w.R.fr
 obtain ⟨xs,hxs,rxs⟩:=fl 21 _ k.s0
 revert hxs
 have hst1:St 0 { J1 with toks:=J1.toks + 1 }:=w.W.frame 0 J1 J1.heap (J1.toks + 1) w.s0 (ZW _) fun J J J e=>e
 refine rxs.rE fun hxs=>Z6 (Attribute_any_ (Zj3 (Zaa X.hE.kind (by rw [X.hE.kindOf,hself]) F.ns hxs ?_) (Zcu _)) (he _))
 refine Yen X.C w.R (a:=a) (c:=325) (d:=d) (fs:=fs) (by unfold IK;rw [k.ea];rfl) (by unfold fieldsOf;rw [k.ed];rfl) k.f (by decide) fun y ry=>ry.iE fun t0=>Yi (Iz .sum ?_)
 refine Ybw (val:=fun j=>(ps[j]?.map Zot).getD 0) w.W.in4_1 hst1 w.f (fun j v hv=>?_) (fun s' t' hm=>?_)
 ·obtain ⟨p,hp,hfv⟩:=w.p j v hv
  cases hfv with | int _ t=>
  exact ⟨t,congrArg (fun o:Option (Tx×Tx)=>Zn2 ((o.map Zot).getD 0) t) hp.symm⟩
 ·have k5:=w.mv s' ⟨hm.heap,hm.gens,hm.drawn,hm.os,Zb (ZW _) hm.toks⟩
  rw [Ztr ps _ (Zm _),Zcb]
  exact ⟨.ret (.int _),st,k5.1,V0.trans k5.2,.ret (.int _ _),k.q⟩
structure JoinK (lv:Nat->Option V)(Q:V->Hp->Prop)(σ:Hp)(a d:Addr)(ps:List (Tx×Tx))(fs:List (Nat×V)):Prop where
 s:lv 21=some (.ref a)
 ea:σ a=some (.acc 325 d (accL ps))
 ed:σ d=some (.at fs)
 l:∀ p∈ps,p.1.length + p.2.length<=90000
 m:(ps.map Zot).sum + ps.length<=100000
 q:Q (.str (ps.flatMap fun p=>p.1++p.2)) σ
def Zsm:FX:=fun J lv J Q σ=>∃ a d ps fs,JoinK lv Q σ a d ps fs
theorem Ztt (ps:List (Tx×Tx)):(((ps.map fun p=>p.1++p.2).map Z5).sum:Nat)=(ps.map Zot).sum:=by
 induction ps with
 | nil=>rfl
 | cons p r ih=>
  rw [Uk,Uk,Zvj,Uk,Zvj,Ze3,ih,Zf];rfl
theorem Yju (ts:List Tx):joinT [] ts=ts.flatten:=by
 induction ts with
 | nil=>rfl
 | cons a r ih=>
  cases r with
  | nil=>exact (ZK a).symm
  | cons b r=>
   show a++[]++joinT [] (b::r)=_
   rw [ih,ZK,Yla (l:=a)]
theorem Zwq {ps:List (Tx×Tx)}{P:Nat->Value->Prop}(hP:∀ j v,P j v->∃ p,ps[j]? = some p/\FV (.str (p.1++p.2)) v){l:List (Str×Tok)}(hn:l.length=ps.length)(hl:∀ j (h:j < l.length),P j (.str l[j].1 l[j].2)):l.map (·.1)=(ps.map fun p=>p.1++p.2).map sT:=by
 refine Zon (by rw [Zh,Zh,Zh];exact hn) fun j h1 h2=>?_
 rw [Zh] at h1
 refine (hP j _ (hl j h1)).elim fun p hr50=>hr50.elim fun hp hfv=>?_
 rw [Zhm,Zhm,Zhm]
 rw [(Z1 ((ZG _).symm.trans hp))]
 generalize hz:Ue l[j].1 l[j].2=z at hfv
 cases hfv with | str _ t=>exact (Ue.inj hz).1
theorem Ynx {c:Addr}{i0:Nat}{name:Str}{p0 pa0 p1 rp:Pos}{pa pb pt pi pos:Pos}{kt:Nat}{elt:Expr}{scope:Scope}{x:Str}(hx:nm 102=x)(hname:name=Zz "join")(hkx:sc.lookup 102=some .globalImplicit)(hself:sc.lookup 21=some .local)
  (EO:∀ {G},EltOK G (scG i0) elt (fun f p=>.str (f++p))) (N:Zh2 scope i0)
  (hb:∀ env whole,attributeBase (.Name x p0) name env whole=whole) (hline:(pa0.endLine == p1.line)=true) :
  SSc c sc (.Return (some (.Call (.Attribute (.Name x p0) name pa0) [.GeneratorExp elt [⟨.Tuple [.Name (nm 129) pa,.Name (nm 136) pb] kt pt,.Name (nm 21) pi,[],0⟩] scope pos] [] p1)) rp) (Zao Zsm):=by
 subst hname
 intro G Δ n env A X hc hT st s Q E ht R h
 refine h.elim fun a hr50=>hr50.elim fun d hr51=>hr51.elim fun ps hr52=>hr52.elim fun fs k=>?_
 refine Zqz (Zbk (hb _ _) rfl (show (1:Nat) < 20 by decide) hline (SX.then (sGl hx hkx) (Q:=fun v σ=>v= .str []/\σ=st.σ) X ht R ⟨rfl,rfl,rfl⟩ fun v x W0 j0 V1 J0 V0 J2 e pl=>?_))
 obtain rfl:=e.2
 obtain rfl:=e.1
 refine J2.sE fun tk0=>Zad (Zcq _ _ _) Kr Zdd (by kernel_rfl) (fun a e=>nomatch e) ?_
 refine YT rfl (YS rfl (Z6 (Zy (Yel X hc hT EO N ⟨hself,k.s,k.ea,k.ed,k.l⟩ V1 J0) (fun r J1 w=>?_) fun J J e=>e)))
 obtain ⟨ga,fp,wr,GG,St,P,rfl,w⟩:=w
 have hm:((ps.map fun p=>p.1++p.2).map Z5).sum + ps.length<=100000:=YZ.mp (by rw [Ze3,Ztt];exact k.m)
 refine Yi (Ze (SC.joinGen w.W.in4_2 w.ty w.s0 w.f w.g (fun j v hv=>?_) (fun s' l hm' hl=>?_) (YD (Zb (Y6 ..) hm))))
 ·obtain ⟨p,hp,hfv⟩:=w.p j v hv
  cases hfv with | str _ t=>exact ⟨_,t,rfl⟩
 ·have hlen:l.length=ps.length:=(Zh ..).symm.trans hl.1
  rw [Zwq w.p hlen fun j h=>hl.2 j _ (by unfold strValues;rw [Z0,Yd,ZG h];rfl)]
  refine ⟨joinOk_of ?_,fun t' k'=>?_⟩
  ·rw [U7,show List.map (Ykv∘sT) (ps.map fun p=>p.1++p.2)=(ps.map fun p=>p.1++p.2).map Z5 from rfl]
   exact Zb (m:=100000) (Zb (Zn _ ps.length) hm) (Za rfl)
  ·rw [Zkg,Yju,<-List.flatMap_def]
   have k5:=w.mv s' hm'
   have k6:=k5.1.ext (h':=s'.heap) (t:=k') (d:=s'.drawn) fun J J e=>e
   exact ⟨.ret (.str _),st,k6.1,V0.trans (k5.2.trans k6.2),.ret (.str _ _),k.q⟩
end
section
variable {n:Nat}
inductive Yqg (Q:Bool->Hp->Prop):V->Hp->Prop | mk (i:Nat) {σ} (h:i<=1000000) (q:Q (decide (i≠0)) σ):Yqg Q (.int i) σ
theorem Yow (i:Nat):((i:Int) != 0)=decide (i≠0):=match i with | 0=>rfl | _ + 1=>rfl
theorem Yb6 (C:GOK G)(D:DV G Δ n)(hA:AOK A (n + 1))(ht:0 < s.toks)(R:RS G env st s){a:Addr}{Q:Bool->Hp->Prop}(ha:Zlz st.σ a)
  (h:Δ 292 [.ref a] st.σ (Yqg Q)):W G A (truthy (.ref a)) (PB G env st s Q) E s:=by
 have hz0:=R.acc ha
 have hq0:=hz0.choose_spec
 have I:=(hq0.choose_spec)
 have X:=kin C R
 refine Zc (m:=Zry (.ref a) (Zz "__bool__")) (Zc (Zc (I.type.here ((YQ X C.acc.len.2.2).here (Ze ?_)))))
 refine Zc (Zc (I.type.here ((YQ X C.acc.len.1).here ?_)))
 refine Y5 (by decide) ?_
 refine Zc (Zz1 (XX entry_len ?_))
 refine Zc (m:=oneArg "len" _) (Ze ?_)
 refine Zc (m:=Zry (.ref a) (Zz "__len__")) (special_fn X I C.acc.len.1 (beq_iff_eq.mp C.acc.len.2.1) ?_)
 refine Zy (D.fn 292 _ _ A.in1 env st s [.ref a] _ hA.in1 ht R (VRs.one (.ref a)) h).2 (fun v j0 w=>w.elim fun u w=>w.elim fun W0 w=>?_) fun J J e=>e
 have q:=w.4
 cases q with
 | mk i hi q=>
 refine (w.3).iE fun t=>(wbH (Ze ((wbG ?_))))
 refine Y5 (U4.mpr (Z4 i)) ?_
 refine Y5 (Zir.mpr (Yo3 hi).2) ?_
 refine Zc (wpAny_mkInt (Ze (Ze ?_)))
 have k:=(w.1).ext (h':=j0.heap) (t:=j0.toks + 1) (d:=j0.drawn) fun J J e=>e
 rw [Yow]
 exact ⟨W0,k.1,(w.2).trans k.2,q⟩abbrev Ymn (Q:V->Hp->Prop):Bool->Hp->Prop:=fun b σ=>Q (.bool (!b)) σ
inductive NotA (Δ:Dl)(Q:V->Hp->Prop):V->Hp->Prop | mk {a σ} (h:Zlz σ a) (q:Δ 292 [.ref a] σ (Yqg (Ymn Q))):NotA Δ Q (.ref a) σ
def Ylw (o:FX):FX:=fun Δ lv cv Q σ=>o Δ lv cv (NotA Δ Q) σ
theorem sNotA {o:Expr}{p}{f:FX}(a:SX sc o f):SX sc (.UnaryOp .Not o p) (Ylw f):=by
 intro G Δ n env A X st s Q E ht R h
 refine Zc (a.then X ht R h fun v x W0 j0 V1 J0 V0 J2 h=>?_)
 cases h with
 | @mk a' _ hacc Q0=>
 refine J2.rE ((wbS (Yl ?_)))
 refine Yl ?_
 refine K7 rfl ?_
 exact (wbM (Yb6 (Q:=Ymn Q) X.C X.D (X.hA.mono (ZJ (Za rfl) _)) V1 J0 hacc Q0) (fun b J1 w=>w.elim fun J3 w=>Ze ⟨.bool _,J3,w.R,V0.trans w.S,.bool _,w.q⟩) fun J J e=>e)def OrK (Δ:Dl)(lv:Nat->Option V)(cv:Nat->Option Addr)(g:FX)(Q:V->Hp->Prop)(v:V)(σ:Hp)(b:Bool):Prop:=(Zi6 v σ=some b)/\b.rec (g Δ lv cv Q σ) (Q v σ)def OrK.h (z:@OrK Δ lv cv g Q v σ b):=z.1
def OrK.q (z:@OrK Δ lv cv g Q v σ b):=z.2
def xOr (f g:FX):FX:=fun Δ lv cv Q σ=>f Δ lv cv (fun v σ=>∃ b,OrK Δ lv cv g Q v σ b) σ
theorem sOr {x y:Expr}{p}{f g:FX}(a:SX sc x f)(b:SX sc y g)(he:∀ env,evalEach [x,y] env=[eval x env,eval y env]):SX sc (.BoolOp .Or [x,y] p) (xOr f g):=by
 intro G Δ n env A X st s Q E ht R h
 refine Zc (a.then X ht R h fun v xv W0 j0 V1 J0 V0 J2 h=>h.elim fun bb w=>(wbS ((wbH ?_))))
 refine Zy (tk V1 (Zm9 (A:=A) (E:=E) (Q:=fun c σ=>c=bb/\σ=W0) X.C.sys J0 J2 w.h ⟨rfl,rfl⟩)) (fun c J1 z=>?_) fun J J e=>e
 obtain ⟨⟨J3,z⟩,M3⟩:=z
 obtain rfl:=z.q.1
 obtain rfl:=z.q.2
 match c,w.q with
 | true,q=>exact Ze ⟨v,J3,z.R,V0.trans z.S,J0.vr z.S J2,q⟩
 | false,q=>exact (b X _ J1 Q E M3 z.R q).to fun J W2 p=>p.from (V0.trans z.S)
end
noncomputable def Zd7 (K:Frag)(a:Addr):YF:=match K.lookup a with
 | some ⟨_,_,.func fd,_⟩=>fd
 | _=>default
noncomputable def bodyOf (K:Frag)(a:Addr):List Stmt:=match (Zd7 K a).body with
 | .stmts b=>b
 | _=>[]
section
variable {n:Nat}
theorem Zz6 (a:List Value)(kw:List (Str×Value)):(Code.builtin "type.__call__" ⟨a,kw⟩).frames=0:=by kernel_rfl
theorem lvl {d n k c m:Nat}(h:d + c * (n + 1)<=m)(hk:k<=c):d + k + c * n<=m:=Zb (by rw [Xc,Xu k];exact ZJ (ZJ hk _) _) h
theorem Zn1 {A:Yg}{n:Nat}(h:AOK A (n + 1))(c:Addr)(vals:List Value)(kw:List (Str×Value)):AOK (A.under (.builtin "type.__call__" ⟨.ref c::vals,kw⟩)) n:=
 ⟨h.1,lvl h.2 (show (1:Nat)<=6 by decide),lvl h.3 (show 1 + 3 * Code.frames _<=40 by rw [Zz6];decide)⟩
theorem Zwz {c:Addr}(Y:Makes (model G.prog G.w) s.heap c):W G A (Zac (.ref c)) (fun J s'=>s'=s) E s:=by
 obtain ⟨⟨oc,od,cd,sl,hC,_⟩,made,base,self,top,call,typ⟩:=Y
 exact (wbL hC (Zc (call.here (Ze rfl))))def NewI (G:GC)(env:Env)(st:St)(s:Zd)(x dx:Addr)(o:O)(h':Heap):Prop:=(st.σ x=none)/\(st.σ dx=none)/\(x≠dx)/\(RS G env ⟨upd (upd st.σ dx (.at [])) x o,st.lv,st.cv⟩ { s with heap:=h' })/\(∀ b o,s.heap.get? b=some o->h'.get? b=some o)/\(Stp G env st ⟨upd (upd st.σ dx (.at [])) x o,st.lv,st.cv⟩ s { s with heap:=h' })def NewI.hx (z:@NewI G env st s x dx o h'):=z.1
def NewI.hd (z:@NewI G env st s x dx o h'):=z.2.1
def NewI.ne (z:@NewI G env st s x dx o h'):=z.2.2.1
def NewI.R (z:@NewI G env st s x dx o h'):=z.2.2.2.1
def NewI.k (z:@NewI G env st s x dx o h'):=z.2.2.2.2.1
def NewI.S (z:@NewI G env st s x dx o h'):=z.2.2.2.2.2
inductive Ym8 (x:Addr)(Q:V->Hp->Prop)(σ:Hp):V->Prop | mk (q:Q (.ref x) σ):Ym8 x Q σ .none
abbrev Znk (x:Addr)(Q:V->Hp->Prop):V->Hp->Prop:=fun v σ=>Ym8 x Q σ v
theorem Zt2 (R:RS G env st s){ob:Obj}{o:Internal.O}(hf:ob.isFreed=false)(D:((s.heap.push Za6).push ob).get? (s.heap.objs.size + 1)=some ob->Den G.prog G.w ((s.heap.push Za6).push ob) (s.heap.objs.size + 1) o) :
  NewI G env st s (s.heap.objs.size + 1) s.heap.objs.size o ((s.heap.push Za6).push ob):=
 have n1:=Yy s.heap
 have k1:=R.put (h':=s.heap.push Za6) (t:=s.toks) (d:=s.drawn) (a:=s.heap.objs.size) (o':=.at []) (.inr n1) (fun b o J e=>Zg _ e) (Den.at ⟨[],0,Zq _ rfl,Zm _,rfl,fun i=>.none⟩)
 have k2:=k1.1.put (h':=(s.heap.push Za6).push ob) (t:=s.toks) (d:=s.drawn) (a:=s.heap.objs.size + 1) (.inr (Zb2 s.heap Za6▸Yy _)) (fun b o J e=>Zg _ e) (D (Zb2 s.heap Za6▸Zq _ hf))
 ⟨R.σnone (Sn fun o q=>absurd (ZL q) (Ug.mpr (ZW _))),R.σnone n1,Zpa _,k2.1,fun b o e=>Zg _ (Zg _ e),k1.2.trans k2.2⟩
theorem Zp7 {x dx:Addr}{o:Internal.O}{h':Heap}{Q:V->Hp->Prop}(N:NewI G env st s x dx o h'){r:Zbm}{s':Zd}(z:Zu8 G env ⟨upd (upd st.σ dx (.at [])) x o,st.lv,st.cv⟩ { s with heap:=h' } E (Znk x Q) r s'):InitBack x (Zu8 G env st s E Q) r s':=
 match r,z with
 | .ok (.ret v),z=>z.elim fun u z=>z.elim fun σ' z=>by
  obtain ⟨R3,S3,r3,q⟩:=z
  cases q with
  | mk q=>exact r3.nE ⟨rfl,⟨_,σ',R3,N.S.trans S3,.ref _,q⟩⟩
 | .error e,z=>z
theorem Zuk (C:GOK G){c f:Addr}(hm:makesIn G.K c=true)(hi:Zb7 G.K (.ref c) "__init__" = some (some (.ref f)))(hf:isFn G.K (.ref f)=true){vals:List Value}{kw:List (Str×Value)}{Q:V->Hp->Prop}(R:RS G env st s)
  (h:∀ x dx h',NewI G env st s x dx (.inst c dx) h'->
   codeAny (model G.prog G.w) (A.under (.builtin "type.__call__" ⟨.ref c::vals,kw⟩)) (.call (.ref f) ⟨.ref x::vals,kw⟩) (Zu8 G env ⟨upd (upd st.σ dx (.at [])) x (.inst c dx),st.lv,st.cv⟩ { s with heap:=h' } E (Znk x Q)) { s with heap:=h' }) :
  Zgb G A env st s E (.ref c) vals kw Q:=by
 obtain ⟨hh,g,d,t,os⟩:=s
 have X:=kin C R
 have Y:=makes_of (M:=model G.prog G.w) X hm
 have N:=Zt2 R (ob:=instObj c hh.objs.size) rfl Den.inst
 refine ⟨Zwz Y,?_⟩
 exact make_core Y (YQ X hi) (fun self=>bind_fn X self (beq_iff_eq.mp hf)) (.inl rfl) (Zd8 (h _ _ _ N) fun r s' z=>Zp7 N z)
end
section
variable {n:Nat}
noncomputable def Zjm (K:Frag)(C:Addr):Bool:=match K.lookup C with
 | some ⟨_,_,.cls cd,sl⟩=>!cd.abstract&&!cd.hasDel&&(sl.toList[4]?).join == some (.builtin "list.__new__")&&!cd.mro.isEmpty&&cd.mro.contains (.ref C)&&cd.mro.contains (.type "list")&&
   specialIn K (.ref C) "__call__" == some (some (.builtin "type.__call__"))&&instIn K (.ref C) (.type "type") == some true
 | _=>false
def Zh8 (M:Model)(h:Heap)(C:Addr):Prop:=(∃ oc od cd sl,h.get? C=some ⟨oc,od,.cls cd,sl⟩/\cd.abstract=false/\cd.hasDel=false/\cd.mro.isEmpty=false)/\Looks M h (Bind.madeBy (.ref C)) (some "list.__new__")/\Looks M h (Yqq (.ref C)) (.ref C)/\Looks M h (Zex (.ref C) (.ref C)) true/\Looks M h (Zex (.ref C) (.type "list")) true/\Looks M h (Yhw (.ref C) "__call__") (some (.builtin "type.__call__"))/\Looks M h (UG (.ref C) (.type "type")) true
def Zh8.obj (z:@Zh8 M h C):=z.1
def Zh8.call (z:@Zh8 M h C):=z.2.2.2.2.2.1
set_option tactic.hygienic true in
theorem Yb5 {K:Frag}{M:Model}{h:Heap}(X:K.In h){C:Addr}(e:Zjm K C=true):Zh8 M h C:=by
 unfold Zjm at e
 split at e
 ·rename_i oc od cd sl ho
  simp only [Xx,Yln,beq_iff_eq] at e
  obtain ⟨⟨⟨⟨⟨⟨⟨e1,e2⟩,e3⟩,e4⟩,e5⟩,e6⟩,e7⟩,e8⟩:=e
  obtain ⟨c,l,hl⟩:∃ c l,cd.mro=c::l:=by cases q:cd.mro with | nil=>rw [q] at e4;cases e4 | cons c l=>exact ⟨c,l,rfl⟩
  have hc:clsIn K C=some cd:=by unfold clsIn;rw [ho]
  have hm:Looks M h (mroOf (.ref C)) cd.mro:=(Zvf X hc).andThen .now
  have made:Looks M h (Bind.madeBy (.ref C)) (some "list.__new__"):=by
   intro A Q E s k q
   refine Zc (hm A _ E s k ?_)
   rw [hl,Zcx]
   refine Zc (Zc (Zc (Zc (Zcp (k _ _ (X _ _ ho)) (Ze ?_)))))
   rw [<-Zdu,e3]
   exact Ze (Ze (Ze q))
  refine ⟨⟨oc,od,cd,sl,X _ _ ho,e1,e2,e4⟩,made,?_,Zds X ?_,Zds X ?_,looks_specialIn X e7,looks_instIn X e8⟩
  ·intro A Q E s k q
   refine Zc (hm A _ E s k ?_)
   rw [hl,Zcx]
   exact Zc (Zc (Zc (made A _ E s k (Ze (Ze (Ze q))))))
  ·unfold mroIn;rw [hc,UV,if_neg (by rw [e4];decide),e5]
  ·unfold mroIn;rw [hc,UV,if_neg (by rw [e4];decide),e6]
 ·cases e
noncomputable abbrev Zjl (C dx:Addr):Obj:={ cls:=.ref C,dict:=some dx,data:=.seq #[] }
section
variable {prog:YL}{w:World}{K:Frag}{C:Addr}{R:Zbm->Zd->Prop}{h:Heap}{g:Array Uh}{d:Drawn}{t:Nat}{os:Yk4}
theorem Yjo:Zih "list.__new__" = some .builtinFn:=by kernel_rfl
theorem Ye6:Yiq "list.__new__" = some ("list","__new__"):=by kernel_rfl
theorem ln_canon:Zet "list.__new__" = "list.__new__":=by decide +kernel
theorem Ye8 (a:Value):(match Kc "list.__new__" with | some sig=>Zdi "list.__new__" sig ⟨[a],[]⟩ | none=>pure ())=pure ():=by kernel_rfl
theorem Ye7 (a b:Value):(match Kc "list.__new__" with | some sig=>Zdi "list.__new__" sig ⟨[a,b],[]⟩ | none=>pure ())=pure ():=by kernel_rfl
theorem Yjj {rest:List Value}(Y:Zh8 (model prog w) h C)(hr:rest=[]\/∃ v,rest=[v])
  (hq:R (.ok (.ret (.ref (h.objs.size + 1)))) ⟨(h.push Za6).push (Zjl C h.objs.size),g,d,t,os⟩) :
  codeAny (model prog w) A (.call (.builtin "list.__new__") ⟨.ref C::rest,[]⟩) R ⟨h,g,d,t,os⟩:=by
 refine Y.elim fun hw50 hr50=>hr50.elim fun made hr51=>hr51.elim fun base hr52=>hr52.elim fun self hr53=>hr53.elim fun top hr54=>hr54.elim fun call typ=>?_
 refine hw50.elim fun oc hr52=>hr52.elim fun od hr53=>hr53.elim fun cd hr54=>hr54.elim fun sl hr55=>hr55.elim fun hC hr56=>hr56.elim fun e1 hr57=>hr57.elim fun e2 e4=>?_
 have args:(match Kc "list.__new__" with | some sig=>Zdi "list.__new__" sig ⟨.ref C::rest,[]⟩ | none=>pure ())=pure ():=by
  rcases hr with rfl | ⟨v,rfl⟩
  ·exact Ye8 _
  ·exact Ye7 _ _
 refine Zk5 ?_
 show wpAny _ A.in1 (do Zjk "list.__new__" ⟨.ref C::rest,[]⟩;again (.builtin "list.__new__" ⟨.ref C::rest,[]⟩)) _ _ _
 have last:∀ A',codeAny (model prog w) A' (.builtin "list.__new__" ⟨.ref C::rest,[]⟩) R ⟨h,g,d,t,os⟩:=by
  intro A'
  refine codeAny_builtin_stack F.entry_list_new rfl fun p st=>?_
  dsimp only
  refine ((owner_list_new))▸?_
  refine Zc (Zni hC rfl ?_)
  refine Zc (m:=Zex (.ref C) (.type "list")) (top.here ?_)
  refine Zc (m:=newDict #[]) (Z7 ?_)
  refine Zc ?_
  refine Zc (wpAny_alloc (Zc ((wbL (Zg _ (Zg _ hC)) (Ze ?_)))))
  refine (e2)▸?_
  refine Ze (Ze ?_)
  rw [Zb2]
  exact hq
 simp only [Zjk,Yjo,Ye6]
 refine Zc (Zy (Q:=fun J s'=>s'=⟨h,g,d,t,os⟩) ?_ (fun J s' e=>by subst e;exact Ze ⟨Uw F.plain_list_new _,last _⟩) fun J J e=>e)
 have tail:∀ A' E',wpAny (model prog w) A' (match Kc "list.__new__" with | some sig=>Zdi "list.__new__" sig ⟨.ref C::rest,[]⟩ | none=>pure ()) (fun J s'=>s'=⟨h,g,d,t,os⟩) E' ⟨h,g,d,t,os⟩:=fun A' E'=>by
  rw [args];exact Ze rfl
 refine K7 rfl ?_
 refine Zc (Zni hC rfl ?_)
 refine Zc (m:=Zex (.ref C) (.type "list")) (top.here ?_)
 refine Zc (m:=Yqq (.ref C)) (base.here (Zc (made.here ?_)))
 show wpAny _ _ (if (Zet "list.__new__" != Zet "list.__new__")=true then _ else _) _ _ _
 refine Y5 (by rw [bne_self_eq_false];exact U3) ?_
 exact tail _ _
theorem Ye3 {rest:List Value}{init:Value}(Y:Zh8 (model prog w) h C)(hr:rest=[]\/∃ v,rest=[v])(hi:Looks (model prog w) h (Zj4 (.ref C) "__init__") (some init))
  (hb:∀ self,Looks (model prog w) h (bindSpecial init self) (init,[self]))
  (hq:codeAny (model prog w) (A.under (.builtin "type.__call__" ⟨.ref C::rest,[]⟩)) (.call init ⟨.ref (h.objs.size + 1)::rest,[]⟩) (InitBack (h.objs.size + 1) R) ⟨(h.push Za6).push (Zjl C h.objs.size),g,d,t,os⟩) :
  codeAny (model prog w) A (.call (.ref C) ⟨rest,[]⟩) R ⟨h,g,d,t,os⟩:=by
 have Y':=Y
 refine Y.elim fun hw50 hr50=>hr50.elim fun made hr51=>hr51.elim fun base hr52=>hr52.elim fun self hr53=>hr53.elim fun top hr54=>hr54.elim fun call typ=>?_
 refine hw50.elim fun oc hr52=>hr52.elim fun od hr53=>hr53.elim fun cd hr54=>hr54.elim fun sl hr55=>hr55.elim fun hC hr56=>hr56.elim fun e1 hr57=>hr57.elim fun e2 e4=>?_
 refine Zk5 ?_
 refine nd_load hC ?_
 show wpAny _ _ (callAny.viaDunder (.ref C) _) _ _ _
 refine Zc (call.at ?_)
 refine (wbP ((wbP ?_)))
 refine Ze (a:=Fin.again (.call (.builtin "type.__call__") ⟨.ref C::rest,[]⟩)) (Yqs rfl ?_)
 have hm:Looks (model prog w) h (mroOf (.ref C)) cd.mro:=((Yp9 (part:=none) hC).andThen .now).andThen .now
 refine codeAny_call_builtin_at (Code.quiet_builtin _ (by decide +kernel)) entry_typeCall (Ybu tc_kind tc_split typ (tc_args _ _ _) ?_)
 repeat (first | simp only [e4,K6,if_false] | with_reducible refine Ux ?_ | lk)
 refine Yjj Y' hr ?_
 have k:∀ b o,h.get? b=some o->((h.push Za6).push (Zjl C h.objs.size)).get? b=some o:=fun b o e=>Zg _ (Zg _ e)
 have hx:((h.push Za6).push (Zjl C h.objs.size)).get? (h.objs.size + 1)=some (Zjl C h.objs.size):=by heap_get
 have t1:Looks (model prog w) ((h.push Za6).push (Zjl C h.objs.size)) (Zfu (.ref (h.objs.size + 1))) (.ref C):=(Yp9 hx).andThen .now
 have s1:=self.keeps k
 have i1:=hi.keeps k
 have b1:=(hb (.ref (h.objs.size + 1))).keeps k
 repeat (first | with_reducible refine Ux ?_ | lk)
 refine Zd8 hq fun r s' z=>?_
 match r,z with
 | .ok (.ret v),z=>
  obtain rfl:=z.1
  obtain z:=z.2
  exact Ze (Ze z)
 | .error e,z=>exact z
end
theorem Zxb {c:Addr}(Y:Zh8 (model G.prog G.w) s.heap c):W G A (Zac (.ref c)) (fun J s'=>s'=s) E s:=by
 obtain ⟨oc,od,cd,sl,hC,_⟩:=Y.obj
 exact (wbL hC (Zc (Y.call.here (Ze rfl))))
theorem Ygr (C:GOK G){c f:Addr}(hm:Zjm G.K c=true)(hi:Zb7 G.K (.ref c) "__init__" = some (some (.ref f)))(hf:isFn G.K (.ref f)=true){vals:List Value}(hr:vals=[]\/∃ v,vals=[v]){Q:V->Hp->Prop}(R:RS G env st s)
  (h:∀ x dx h',NewI G env st s x dx (.acc c dx []) h'->
   codeAny (model G.prog G.w) (A.under (.builtin "type.__call__" ⟨.ref c::vals,[]⟩)) (.call (.ref f) ⟨.ref x::vals,[]⟩) (Zu8 G env ⟨upd (upd st.σ dx (.at [])) x (.acc c dx []),st.lv,st.cv⟩ { s with heap:=h' } E (Znk x Q)) { s with heap:=h' }) :
  Zgb G A env st s E (.ref c) vals [] Q:=by
 obtain ⟨hh,g,d,t,os⟩:=s
 have X:=kin C R
 have Y:=Yb5 (M:=model G.prog G.w) X hm
 have N:=Zt2 R (ob:=Zjl c hh.objs.size) rfl fun e=>Den.acc (l:=[]) e .nil
 refine ⟨Zxb Y,?_⟩
 exact Ye3 Y hr (YQ X hi) (fun self=>bind_fn X self (beq_iff_eq.mp hf)) (Zd8 (h _ _ _ N) fun r s' z=>Zp7 N z)
end
section
variable {n:Nat}
structure LamAt (fd:YF)(sc:Sc)(e:Xh):Prop where
 bodyIs:fd.body= .expr e
 names:fd.scope.names=sc.map fun p=>(nm p.1,p.2)
 kind:fd.scope.kind= .function
 co:fd.scope.isCoroutine=false
 gen:fd.scope.isGenerator=false
 globals:fd.globals=Uj
 builtins:fd.builtins=UJ
 nocell:∀ p∈sc,p.2≠.cell
theorem Yfk {prog:YL}{w:World}{a:Addr}{args:Args}{o:Obj}{fd:YF}{body:Xh}{R:Zbm->Zd->Prop}(hroom:A.depth < Zl8)(ho:s.heap.get? a=some o)
  (hd':o.data= .func fd) (hco:fd.scope.isCoroutine=false) (hgen:fd.scope.isGenerator=false) (hbody:fd.body= .expr body) (hcd:Zfr s.heap fd.code)
  (h:wpAny (model prog w) A.in1 (bindArgs fd args) (fun binds j0=>∀ q:Str,
   wpAny (model prog w) A.in1 (Zl9 fd.scope fd.globals fd.closure binds q (some a) fd.code none fd.builtins)
    (fun env J1=>J1.heap.NoLimit/\codeAny (model prog w) A (.expr body env) R J1) (fun e s'=>R (.error e) s') j0) (fun e s'=>R (.error e) s') s) :
  codeAny (model prog w) A (.call (.ref a) args) R s:=by
 refine hcd.elim fun c hr50=>hr50.elim fun oc hr51=>hr51.elim fun vs hr52=>hr52.elim fun q hr53=>hr53.elim fun t hr54=>hr54.elim fun hc hr55=>hr55.elim fun hoc hr56=>hr56.elim fun _ hr57=>hr57.elim fun hdc hq=>?_
 refine Zk5 ?_
 refine (wbL ho ?_)
 rw [hc] at h
 simp only [hd',callFunction,hco,hgen,hbody,hc]
 refine Zc (m:=field (.ref c) 1) (Zbe hoc hdc hq ((wbP ?_)))
 refine (wbM h (fun binds j0 Q0=>?_) fun J J h'=>h')
 refine (wbM (Q0 _) (fun env J1 G3=>?_) fun J J h'=>h')
 exact Zc (wpAny_enterFrame G3.1 hroom (Ze (Yqs rfl G3.2)))def Same (G:GC)(st:St)(s s':Zd):Prop:=∀ b o,s.heap.get? b=some o->st.σ b=none->(∀ c,(c,b)∉G.T)->s'.heap.get? b=some o
theorem Zwm (cl:List (Nat×Addr))(i:Nat):(cl.map fun p=>(nm p.1,p.2)).lookup (nm i)=cl.lookup i:=by
 induction cl with
 | nil=>rfl
 | cons p r ih=>exact (Zyt ..).trans ((congrArg (fun z=>if i=p.1 then some p.2 else z) ih).trans (Zb9 ..).symm)noncomputable abbrev Zwp (fd:YF)(L f:Addr)(q:Str):Env:=newEnv fd.scope L fd.globals fd.closure q (some f) fd.code none fd.builtins
def Yld (G:GC)(env:Env)(st:St)(s:Zd)(Q:V->Hp->Prop)(v:Value)(s':Zd):Prop:=PV G env st s Q v s'/\Same G st s s'
def Yld.p (z:@Yld G env st s Q v s'):=z.1
abbrev LamR (G:GC)(env:Env)(st:St)(s:Zd)(E:Value->Zd->Prop)(Q:V->Hp->Prop):Zbm->Zd->Prop:=fun r s'=>match r with | .ok (.ret v)=>Yld G env st s Q v s' | .ok _=>False | .error e=>E e s'
theorem Zt4 (C:GOK G)(D:DV G Δ n){f:Addr}{fd:YF}{o:Obj}{e:Xh}{F:FX}(ho:s.heap.get? f=some o)(hd:o.data= .func fd)(hc:Zfr s.heap fd.code)(LA:LamAt fd sc e)(hr:SX sc e F)
  {cl:List (Nat×Addr)} (hcl:fd.closure=cl.map fun p=>(nm p.1,p.2)) {vals:List Value} {l:List (Str×Value)} {bs:List (Nat×V)} (w:Zh7 s fd vals [] bs l)
  (hks:∀ p∈bs,sc.lookup p.1=some .local) {Q:V->Hp->Prop} (hA:AOK A (n + 4)) (ht:0 < s.toks) (R:RS G env st s) (h:F Δ (fun i=>bs.reverse.lookup i) (fun i=>cl.lookup i) Q st.σ) :
  codeAny (model G.prog G.w) A (.call (.ref f) ⟨vals,[]⟩) (LamR G env st s E Q) s:=by
 refine R.fr.elim fun m hr50=>hr50.elim fun Fr0 hf=>?_
 have hc':∀ x∈fd.scope.names,x.2≠.cell:=fun x hx=>by
  rw [LA.names] at hx
  exact (Ys.mp hx).elim fun p hp=>hp.2▸LA.nocell p hp.1
 have hl':∀ x∈l,fd.scope.names.lookup x.1=some .local:=fun x hx=>by
  refine (Ys.mp (w.k▸Y4 hx:x.1∈_)).elim fun p hr50=>hr50.elim fun hp e=>?_
  rw [<-e,LA.names,Zck]
  exact hks p hp
 refine Yfk hA.room ho hd LA.co LA.gen LA.bodyIs hc (w.b _ _ _ _ fun q=>?_)
 refine Zfe hc' hl' (fun h₀ hns hsb=>⟨(C.nolimit.keeps Fr0.keep).fresh _ hsb,kla_codeExpr ?_⟩) LA.kind
 have hk:∀ b o,s.heap.get? b=some o->h₀.get? b=some o:=fun b o e=>hsb.extBut b o (Z3 (ZL e)) (Zg _ e)
 have Re:=R.enterC (e':=Zwp fd s.heap.objs.size f q) (h₀:=h₀) (t:=s.toks + l.length) (lv:=fun i=>bs.reverse.lookup i) (cv:=fun i=>cl.lookup i) rfl hns hk (fun i v hv=>Zdn (Zb6 (i:=i) (bs:=bs.reverse) (l:=l.reverse) (h:=s.heap) (by rw [Xi,w.k,Xi]) (by rw [Xi,Xi];exact w.r.reverse)) hv) (fun i c hi=>by
  show fd.closure.lookup (nm i)=some c
  rw [hcl,Zwm];exact hi)
 refine Zy (hr (env:=Zwp fd s.heap.objs.size f q) ⟨C,D,⟨LA.kind,LA.globals,LA.builtins,LA.names,LA.co⟩,hA.deeper _⟩ ⟨st.σ,fun i=>bs.reverse.lookup i,fun i=>cl.lookup i⟩ _ Q (fun J J=>False) (Ym ht (Zn _ _)) Re h) (fun v J1 p=>?_) (fun J J e=>e.elim)
 refine p.elim fun u hr50=>hr50.elim fun J3 p=>?_
 have k:=R.back (e':=Zwp fd s.heap.objs.size f q) (h₀:=h₀) (t:=s.toks + l.length) (st1:=⟨st.σ,fun i=>bs.reverse.lookup i,fun i=>cl.lookup i⟩) rfl rfl hk p.R p.S
 exact ⟨⟨u,J3,k.1,k.2,p.r,p.q⟩,fun b o e h1 h2=>p.S.keep b o (hk b o e) h1 (Z3 (ZL e)) h2⟩
end
section
variable {n:Nat}
theorem Yke {h:Heap}{cv:Value}{c P:Addr}{ps:Array Value}{q:Str}(hrec:h.CodeRec cv q)(ht:h.TableAt c P ps)(e:cv= .ref c):Zfr h cv:=
 hrec.imp fun c2 z=>z.imp fun o2 z=>z.imp fun vs2 z=>z.elim fun t2 z=>⟨q,t2,z.1,z.2.1,ht.1.elim fun o3 y=>y.elim fun vs3 y=>(si z.2.1 ((congrArg h.get? (Zfo (z.1.symm.trans e))).trans y.1))▸y.2.1,z.2.2⟩
theorem Zwh (R:RS G env st s){c:Addr}(hcode:env.code= .ref c)(hT:TOK G c){pos:Pos}{fl:Nat}{nme q:Str}{p:Zva}{scope:Scope}{body:FuncBody}{Q:Value->Zd->Prop}
  (h:∀ code h' tk,RS G env st { s with heap:=h',toks:=tk }->Stp G env st st s { s with heap:=h',toks:=tk }->Zfr h' code->Q code { s with heap:=h',toks:=tk }):W G A (functionCode env pos fl nme q p scope body) Q E s:=by
 let P:=hT.choose
 have hq9:=hT.choose_spec
 have hP:=hq9.1
 have hz0:=(R.tab _ hP).t
 let ps:=hz0.choose
 have hq0:=hz0.choose_spec
 have i0:=hq0.1
 have t0:=hq0.2
 cases hf:codeAmong pos ps.toList with
 | some cv=>exact wpAny_functionCode_hit hcode i0 hf (h cv s.heap s.toks R .refl (t0.3 _ _ hf))
 | none=>
  refine wpAny_functionCodeX hcode i0 t0.table hf fun c' h' tk x _ _ hc' hrec ht' hw6=>?_
  obtain ⟨P',_,_,ht2⟩:=hw6
  have k:=R.table (t:=tk) hP (hq9.2) x hc' (fun ik=>t0.grow i0 hrec ht' ht2 ik)
  exact h _ h' tk k.1 k.2 (Yke hrec ht2 rfl)def Zc5 (fd:YF)(scL:Sc)(p:Nat)(cl:List (Nat×Addr))(FL:FX):Prop:=(∃ e,LamAt fd scL e/\SX scL e FL)/\(fd.closure=cl.map fun p=>(nm p.1,p.2))/\(∀ s val,BindsTo s fd ⟨[val],[]⟩ [(nm p,val)])/\(scL.lookup p=some .local)def Zc5.e (z:@Zc5 fd scL p cl FL):=z.1
def Zc5.clo (z:@Zc5 fd scL p cl FL):=z.2.1
def Zc5.bind (z:@Zc5 fd scL p cl FL):=z.2.2.1
def Zc5.loc (z:@Zc5 fd scL p cl FL):=z.2.2.2
def SXc (c:Addr)(sc:Sc)(e:Xh)(f:FX):Prop:=
 ∀ ⦃G Δ n env A⦄,Cx G Δ n env A sc->env.code= .ref c->TOK G c->∀ (st:St) (s:Zd) (Q:V->Hp->Prop) (E:Value->Zd->Prop),0 < s.toks->RS G env st s->f Δ st.lv st.cv Q st.σ->W G A (eval e env) (PV G env st s Q) E s
def LamC (scL:Sc)(p:Nat)(free:List Nat)(FL:FX)(cv:Nat->Option Addr)(Q:V->Hp->Prop)(σ:Hp)(cs:List Addr):Prop:=(free.map cv=cs.map some)/\(∀ a fd,σ a=none->Zc5 fd scL p (free.zip cs) FL->Q (.ref a) (upd σ a (.fn fd)))def LamC.e (z:@LamC scL p free FL cv Q σ cs):=z.1
def LamC.q (z:@LamC scL p free FL cv Q σ cs):=z.2
def xLam (scL:Sc)(p:Nat)(free:List Nat)(FL:FX):FX:=fun J J cv Q σ=>∃ cs,LamC scL p free FL cv Q σ cs
def Zh1 (scope:Scope)(scL:Sc)(p:Nat)(params:Zva):Prop:=(scope.names=scL.map fun p=>(nm p.1,p.2))/\(scope.kind= .function)/\(scope.isCoroutine=false)/\(scope.isGenerator=false)/\(∀ p∈scL,p.2≠.cell)/\(scL.lookup p=some .local)/\(∀ fd:YF,fd.params=params->fd.defaults= .none->fd.kwdefaults= .none->∀ s val,BindsTo s fd ⟨[val],[]⟩ [(nm p,val)])def Zh1.n0 (z:@Zh1 scope scL p params):=z.1
def Zh1.k (z:@Zh1 scope scL p params):=z.2.1
def Zh1.co (z:@Zh1 scope scL p params):=z.2.2.1
def Zh1.g (z:@Zh1 scope scL p params):=z.2.2.2.1
def Zh1.nc (z:@Zh1 scope scL p params):=z.2.2.2.2.1
def Zh1.lp (z:@Zh1 scope scL p params):=z.2.2.2.2.2.1
def Zh1.b (z:@Zh1 scope scL p params):=z.2.2.2.2.2.2
theorem Yek (C:GOK G)(hE:EOK env sc)(R:RS G env st s){c:Addr}(hcode:env.code= .ref c)(hT:TOK G c){scL:Sc}{p:Nat}{FL:FX}{params:Zva}{body:Xh}{scope:Scope}{pos:Pos}(L:Zh1 scope scL p params)(hdef:defaultsOf params env=([],[]))
  (b:SX scL body FL) {cl:List (Nat×Addr)} (hclo:closureFor scope env=pure (cl.map fun p=>(nm p.1,p.2)))
  {Q:V->Hp->Prop} (h:∀ a fd,st.σ a=none->Zc5 fd scL p cl FL->Q (.ref a) (upd st.σ a (.fn fd))):W G A (eval (.Lambda params body scope pos) env) (PV G env st s Q) E s:=by
 refine kla_eval hdef ?_
 rw [makeFunction_eq]
 simp only [List.zip_nil_right,List.filterMap_nil,List.isEmpty_nil,if_true,pure_bind]
 unfold makeTail
 rw [hclo]
 refine (wbP ?_)
 have fin:∀ (ctv:Value) (j0:Zd),RS G env st j0->Stp G env st st s j0->W G A (do
   let fd:YF:={ name:=("<lambda>" : Str),qualname:=env.qual++"<lambda>",params,body:=.expr body,scope,globals:=env.globals,closure:=cl.map fun p=>(nm p.1,p.2),closureTuple:=ctv,code:=<-functionCode env pos pos.line "<lambda>" (env.qual++"<lambda>") params scope (.expr body),builtins:=<-builtinsFor env.globals env.builtins,defaults:=.none,kwdefaults:=.none,annotations:=none,pyModule:=(<-nsGet env.globals "__name__").getD .none,doc:=<-pure .none }
   newObj (.type "function") (.func fd)) (PV G env st s Q) E j0:=fun ctv j0 J0 V0=>Zc (Zwh J0 hcode hT fun code h' tk V2 H3 hc=>Zc (Zht C V2 hE.globals (by
  obtain ⟨mg,bm,o,g1,_⟩:=C.bmod
  let m:=V2.fr.choose
  refine Zc (wpAny_nsGet (hE.globals▸g1.keeps ((V2.fr.choose_spec).1).keep) ((wbP (Z7 ?_ (by size_fits)))))
  exact (PV.new (t:=tk) (d:=j0.drawn) V2 (Yy _) (fun b o e=>Zg _ e) (Den.fn (Zq _ rfl) rfl (hc.mono fun b o e J=>Zg _ e)) (fun hno=>h _ _ hno ⟨⟨body,⟨rfl,L.n0,L.k,L.co,L.g,hE.globals,rfl,L.nc⟩,b⟩,rfl,L.b _ rfl rfl rfl,L.lp⟩)).from (V0.trans H3))))
 by_cases hcl:(cl.map fun p=>(nm p.1,p.2)).isEmpty=true
 ·refine K7 hcl ?_
  exact (wbP (fin .none s R .refl))
 ·refine Y5 hcl ?_
  refine Zc (wpAny_newTextTuple ?_)
  have k:=R.ext (h':=s.heap.push { cls:=.type "tuple",data:=.seq (((cl.map fun p=>(nm p.1,p.2)).mergeSort fun a b=>a.1.cps.toList<=b.1.cps.toList).map (.ref ·.2)).toArray }) (t:=s.toks) (d:=s.drawn) fun y z e=>Zg _ e
  exact fin _ _ k.1 k.2
theorem Ybv (ce:∀ i c,st.cv i=some c->env.cells.lookup (nm i)=some c)(free:List Nat):∀ (cs:List Addr),free.map st.cv=cs.map some->free.map (fun i=>env.cells.lookup (nm i))=cs.map some:=by
 induction free with
 | nil=>exact fun cs h=>h
 | cons i r ih=>
  intro cs h
  cases cs with
  | nil=>exact nomatch h
  | cons a cs=>
   show _::_=_::_
   exact congr (congrArg XH (ce i a (Xg h).1)) (ih cs (Xg h).2)
theorem sLam {c:Addr}{scL:Sc}{p:Nat}{free:List Nat}{FL:FX}{params:Zva}{body:Xh}{scope:Scope}{pos:Pos}(L:Zh1 scope scL p params)(hdef:∀ env,defaultsOf params env=([],[]))(b:SX scL body FL)
  (hclo:∀ (env:Env) (cs:List Addr),free.map (fun i=>env.cells.lookup (nm i))=cs.map some->closureFor scope env=pure ((free.zip cs).map fun p=>(nm p.1,p.2))):SXc c sc (.Lambda params body scope pos) (xLam scL p free FL):=fun G Δ n env A X hcode hT st s Q E ht R h=>
 h.elim fun cs w=>Yek X.C X.hE R hcode hT L (hdef env) b (hclo env cs (Ybv R.cel free cs w.e)) w.q
inductive Zsc (Δ:Dl)(f:Addr)(σ:Hp)(Q:V->Hp->Prop):List V->Prop
 | mk {fd scL p cl FL v} (e:σ f=some (.fn fd)) (L:Zc5 fd scL p cl FL) (q:FL Δ (fun i=>([(p,v)]:List (Nat×V)).reverse.lookup i) (fun i=>cl.lookup i) Q σ):Zsc Δ f σ Q [v]noncomputable def Yl2 (Δ:Dl):Dl:=⟨fun a vs σ Q=>Δ.fn a vs σ Q\/Zsc Δ a σ Q vs,Δ.gen,Δ.scr⟩
theorem Yo0 (C:GOK G)(R:RS G env st s){f:Addr}{fd:YF}(e:st.σ f=some (.fn fd)) : ¬ ∃ c m,clsM c m=some f:=fun h=>h.elim fun J h=>h.elim fun J h=>
 (Yz.mp (beq_iff_eq.mp (C.cls _ _ _ h).fn)).elim fun o z=>nn (R.den _ _ e).2.1 (C.kin f o z.1)
theorem Zwo (C:GOK G)(D:DV G Δ n){f:Addr}{vs:List V}{Q:V->Hp->Prop}{vals:List Value}(hA:AOK A (n + 4))(ht:0 < s.toks)(R:RS G env st s)(rv:VRs s.heap vs vals)(h:Zsc Δ f st.σ Q vs) :
  W G A (Zac (.ref f)) (fun J s'=>s'=s) E s/\W G A (call (.ref f) vals) (PV G env st s Q) E s:=by
 revert rv
 exact h.rec fun {fd scL p cl FL v} e L hF rv=>(R.den _ _ e).1.rec fun {o} ho hd hco=>L.e.elim fun e0 w=>⟨Zig ho hd,Ux (rv.oE fun x r1=>Zd8 (Zt4 (E:=E) (bs:=[(p,v)]) C D ho hd hco w.1 w.2 L.clo ⟨L.bind s _,rfl,VRs.one r1⟩ (Zi.mpr ⟨L.loc,Yp _⟩) hA ht R hF) fun r s' z=>
  match r,z with
  | .ok (.ret v),z=>z.p
  | .error e,z=>z)⟩
theorem Ygi (C:GOK G)(D:DV G Δ n):DV G (Yl2 Δ) (n + 4):=
 ⟨fun f vs Q A env st s vals E hA ht R rv h=>h.elim (D.fn f vs Q A env st s vals E (hA.mono (Zn _ _)) ht R rv) (Zwo C D hA ht R rv),fun h=>⟨Zb (D.gen h).1 (Zn _ _),(D.gen h).2⟩,
  fun f vs Q A env st s vals E hc hA ht R rv h=>h.elim (D.code f vs Q A env st s vals E hc (hA.mono (Zn _ _)) ht R rv) fun h=>(h.rec (motive:=fun J J=>False) fun e J J=>Yo0 C R e hc).elim,D.scr⟩
end
section
variable {n:Nat}
theorem Ziy {M:Model}{pos:Pos}{f:Value}{first:List Value}{args:List (Bool×Sem Value)}{kws:List (Option Str×Sem Value)}{Q:Value->Zd->Prop}(hp:args.any (·.1)=false)(hk:kws.any (·.1.isNone)=false)
  (h:wpAny M A (Ybl f true args kws) (fun x j0=>wpAny M A (Zac f) (fun J J1=>wpAny M A (call f (first++x.pos) x.kw) Q E J1) E j0) E s) :
  wpAny M A (Zea pos f first args kws) Q E s:=by
 refine (wbH (Zy h (fun x j0 Q0=>(wbS ?_)) fun J J x=>x))
 rw [hp,hk]
 refine (wbM Q0 (fun k J1 G3=>?_) fun J J x=>x)
 have t1:=Zba G3
 cases k with
 | machine=>exact t1
 | caller=>exact Zba (Zi2 G3)
 | _=>exact Zmx t1 (Zba (Zge G3))noncomputable abbrev KwT:=V->Hp->(V->Hp->Prop)->Prop
noncomputable abbrev kwC:List (Str×Value):=[(nm 23,.bool true)]
def Zu5 (G:GC)(n:Nat)(K:KwT):Prop:=∀ (v:V) (Q:V->Hp->Prop) (A:Yg) (env:Env) (st:St) (s:Zd) (val:Value) (E:Value->Zd->Prop),
 AOK A n->0 < s.toks->RS G env st s->VR s.heap v val->K v st.σ Q->Zgb G A env st s E (.ref 150) [val] kwC Q
def SSk (K:KwT)(c:Addr)(sc:Sc)(t:Stmt)(F:FS):Prop:=
 ∀ ⦃G Δ n env A⦄,Cx G Δ n env A sc->env.code= .ref c->TOK G c->Zu5 G n K->∀ (st:St) (s:Zd) (Q:Fl->St->Prop) (E:Value->Zd->Prop),0 < s.toks->RS G env st s->F Δ Q st->W G A (exec t env) (PS G env st s Q) E s
def SSLk (K:KwT)(c:Addr)(sc:Sc)(l:List Stmt)(F:FS):Prop:=
 ∀ ⦃G Δ n env A⦄,Cx G Δ n env A sc->env.code= .ref c->TOK G c->Zu5 G n K->∀ (st:St) (s:Zd) (Q:Fl->St->Prop) (E:Value->Zd->Prop),0 < s.toks->RS G env st s->F Δ Q st->W G A (execs l env) (PS G env st s Q) E s
theorem Zta {K:KwT}{c:Addr}{t:Stmt}{F:FS}(a:SS sc t F):SSk K c sc t F:=fun J J J J J X J J J=>a X
theorem slkOf {K:KwT}{c:Addr}{l:List Stmt}{F:FS}(a:SSL sc l F):SSLk K c sc l F:=fun J J J J J X J J J=>a X
theorem Zd6 {K:KwT}{c:Addr}{t:Stmt}{l:List Stmt}{f g:FS}(a:SSk K c sc t f)(b:SSLk K c sc l g):SSLk K c sc (t::l) (Zo f g):=fun J J J J J X hc hT hK st s Q E ht R h=>
 Zss (Zy (tk ht (a X hc hT hK st s _ E ht R h)) (fun fl j0 p=>by
  obtain ⟨f,O2,w⟩:=p.1
  obtain V1:=p.2
  have q:=w.q
  cases f with
  | next=>exact w.r.nE ((b X hc hT hK O2 j0 Q E V1 w.R q).to fun J J p=>p.from w.S)
  | brk=>exact w.r.bE ⟨.brk,O2,w.R,w.S,.brk,q⟩
  | cont=>exact w.r.cE ⟨.cont,O2,w.R,w.S,.cont,q⟩
  | ret v=>exact w.r.rE fun J r=>⟨.ret v,O2,w.R,w.S,.ret r,q⟩) fun J J e=>e)abbrev kMkW (K:KwT)(lv:Nat->Option V)(cv:Nat->Option Addr)(x:Nat)(Q:Fl->St->Prop):V->Hp->Prop:=fun v σ=>K v σ (Ypc lv cv Q x)def sMkW (K:KwT)(x:Nat)(f:FX):FS:=fun Δ Q st=>st.rec fun σ lv cv=>f Δ lv cv (kMkW K lv cv x Q) σ
theorem skMkW {K:KwT}{c:Addr}{m cn kn:Str}{x:Nat}{q p np cp kp:Pos}{ck:Nat}{kpos:Pos}{e:Xh}{f:FX}(hn:nm x=m)(hk:sc.lookup x=some .local)(hcn:nm 19=cn)(hkn:nm 23=kn)(hg:sc.lookup 19=some .globalImplicit)
  (a:SXc c sc e f) (hst:Zkc e) (hs:∀ env,swapsWith (.Call (.Name cn np) [e] [⟨some kn,.Constant (.bool true) ck kpos,kp⟩] cp) (some (.Name m q)) p.line env=pure false) :
  SSk K c sc (.Assign [.Name m q] (.Call (.Name cn np) [e] [⟨some kn,.Constant (.bool true) ck kpos,kp⟩] cp) p) (sMkW K x f):=by
 subst hn hcn hkn
 intro G Δ n env A X hc hT hK st s Q E ht R h
 have hp:(backTo cp (starEach [e] env)).any (·.1)=false:=by rw [hst];rfl
 refine Zd5 (Q:=fun fl s'=>PS G env st s Q fl s') ?_ (hs env)
 refine XJ (SX.then (f:=xGl 19) (sGl rfl hg) (Q:=fun v σ=>v= .ref 150/\σ=st.σ) X ht R ⟨rfl,rfl,rfl⟩ fun v y W0 j0 V1 J0 V0 J2 e=>?_)
 obtain ⟨rfl,rfl⟩:=e
 refine J2.rE (Ziy hp rfl (evalArgs_kw2 rfl ?_ (by rw [hst])))
 rw [hst]
 refine Z6 (Zy (tk V1 (a X hc hT ⟨st.σ,st.lv,st.cv⟩ j0 _ E V1 J0 h)) (fun val J1 p=>?_) fun J J e=>e)
 obtain ⟨⟨v,J3,p⟩,M3⟩:=p
 have c:=hK v _ A env ⟨J3,st.lv,st.cv⟩ J1 val E (X.hA.mono (Zn _ _)) M3 p.R p.r p.q
 refine Yi (kwAll_cons (wpAny_Constant_bool (kwAll_nil ?_)))
 refine c.k.to fun J W2 e=>?_
 rw [e]
 refine Zy (Ux c.c) (fun r O3 z=>z.elim fun u z=>z.elim fun J5 z=>?_) fun J J e=>e
 exact (Zb5 X.hE z.R hk z.r).to fun J J4 w=>⟨.next,_,w.R,V0.trans (p.S.trans (z.S.trans w.S)),.next,z.q⟩
end
theorem clo1 {scope:Scope}{a b:Nat}(hn:scope.names=[(nm a,.local),(nm b,.free)])(env:Env)(cs:List Addr)(h:[b].map (fun i=>env.cells.lookup (nm i))=cs.map some):closureFor scope env=pure (([b].zip cs).map fun p=>(nm p.1,p.2)):=by
 match cs,h with
 | [c],h=>
  simp only [Uk,List.map_nil,XH.injEq,and_true] at h
  unfold closureFor cellOf
  refine (hn)▸?_
  simp [h]
 | [],h=>cases h
 | _::_::_,h=>simp at h
theorem clo0 {scope:Scope}{a:Nat}(hn:scope.names=[(nm a,.local)])(env:Env)(cs:List Addr)(h:([]:List Nat).map (fun i=>env.cells.lookup (nm i))=cs.map some):closureFor scope env=pure ((([]:List Nat).zip cs).map fun p=>(nm p.1,p.2)):=by
 unfold closureFor
 exact hn▸rfl
section
def TInv (t:SetTable)(n:Nat):Prop:=(t.fits n=true)/\(t.dummies= #[])/\(7<=t.mask)def TInv.fits (z:@TInv t n):=z.1
def TInv.dum (z:@TInv t n):=z.2.1
def TInv.mask (z:@TInv t n):=z.2.2
set_option tactic.hygienic true in
theorem Zwn {t:SetTable}{es:Array (Int×Value)}{h:Int}{x:Value}(I:TInv t es.size):TInv (layNew t es h x).2.1 (layNew t es h x).1.size/\(layNew t es h x).2.1.led=t.led/\((layNew t es h x).2.1.plain=t.plain\/(layNew t es h x).2.1.plain=false):=by
 refine ⟨⟨layNew_fits t es h x,?_,?_⟩,?_,?_⟩
 all_goals
  unfold layNew
  split
  ·rename_i slot wd e
   dsimp only
   unfold SetTable.orStandIn
   split
   ·simp only [SetTable.put,I.dum,SetTable.has,Zes,I.mask]
    try simp
   ·have hz:(SetTable.insertAt es (t.put slot).2 (h,x)).size=es.size + 1:=by
     have:=(SetTable.insertAt_perm es (t.put slot).2 (h,x)).length_eq
     simpa using this
    simp only [Yci,hz] <;> first | omega | rfl | exact .inr rfl | simp
  ·simp only [Yci] <;> first | omega | rfl | exact .inr rfl | simp
theorem Yet {t:SetTable}{n:Nat}(I:TInv t n)(hn:n<=3):t.tooFull=false:=by
 have h1:=I.fits
 have h2:=I.mask
 simp only [Zqe,Xx,beq_iff_eq] at h1
 unfold SetTable.tooFull Ykw
 rw [I.dum]
 simp only [decide_eq_false_iff_not,Ylr]
 omega
theorem Yji {t:SetTable}{n m:Nat}(I:TInv t n)(hn:n + m<=4):t.roomFor m=none:=by
 have h1:=I.fits
 have h2:=I.mask
 simp only [Zqe,Xx,beq_iff_eq] at h1
 unfold SetTable.roomFor Ykw
 rw [I.dum]
 rw [if_neg]
 simp only [Ylr]
 omega
theorem TInv.off {t:SetTable}{n:Nat}(I:TInv t n):TInv { t with plain:=false } n:=⟨by have:=I.fits;cases t;exact this,I.dum,I.mask⟩
section
variable {prog:YL}{w:World}
theorem addS {a:Addr}{o:Obj}{es:Array (Int×Value)}{ep:Nat}{t:SetTable}{k:Str}{tk:Tok}{Q:Bool->Zd->Prop}(ho:s.heap.get? a=some o)(hex:o.ExactSet)(hd:o.data= .set es ep t)(hel:ElemsOf (ZP prog w) es.toList)
  (I:TInv t es.size) (hn:es.size + 1<=3) (hnew:∀ e∈es.toList,(ZP prog w).is k e.2=false)
  (h:∀ h' es' t',ZM a s.heap h'->h'.get? a=some { o with data:=.set es' (ep + 1) t' }->es'.toList.Perm (es.toList++[((ZP prog w).hash k,.str k tk)])->TInv t' es'.size->t'.led=t.led->t'.plain=false->Q true { s with heap:=h' }) :
  wpAny (model prog w) A (setAddHashed a (.str k tk) ((ZP prog w).hash k)) Q E s:=by
 have hz0:=Zwn (h:=(ZP prog w).hash k) (x:=.str k tk) I
 have hI:=hz0.1
 have hled:=hz0.2.1
 have hpl:=hz0.2.2
 have hkey:(ZP prog w).is k (.str k tk)=true:=by show (Ue k tk).isStr k=true;simp [Value.isStr]
 have hb3:(3:Nat) < scanBound:=by decide
 refine Yl (Zc (I9 ho hd I.fits ?_))
 dsimp only
 rw [byScan_of (rfl) (by omega) hel]
 refine Zc ((wbR (Zc (wpAny_setScan_of hkey ho hd I.fits hel ?_))))
 have hr:es.toList.findIdx? (fun e=>(ZP prog w).is k e.2)=none:=List.findIdx?_eq_none_iff.mpr fun e he=>by rw [hnew e he]
 rw [hr]
 have hgw:∀ (b:Bool) {j0:Zd} {Q':Unit->Zd->Prop},Q' () j0->wpAny (model prog w) A (match b with | true=>rule "set.scan.the-table-gave-way" | false=>pure ()) Q' E j0:=
  fun b j0 Q' hq=>by cases b <;> first | exact Ze hq | exact Zz2 hq
 have hperm:=layNew_perm t es ((ZP prog w).hash k) (.str k tk)
 generalize layNew t es ((ZP prog w).hash k) (.str k tk)=L at hperm hI hled hpl⊢
 obtain ⟨es1,t1,wd,gv⟩:=L
 replace hperm:=(Yh9)▸hperm
 have hsz:es1.size=es.size + 1:=by rw [<-Xy,hperm.length_eq,Zf,Xy];rfl
 refine Zc (hgw _ ?_)
 have fin:∀ t2,TInv t2 es1.size->t2.led=t.led->t2.plain=false->wpAny (model prog w) A (do
   storeSet a es1 t2
   if (!wd&&t2.tooFull)=true then do
     (match (relayAll t2 es1 (Zok es1.size)).2.2 with | true=>rule "set.scan.the-table-gave-way" | false=>pure ())
     storeSet a (relayAll t2 es1 (Zok es1.size)).1 (relayAll t2 es1 (Zok es1.size)).2.1
     pure (some true)
    else pure (some true)) (fun r s'=>wpAny (model prog w) A (match r with | some added=>pure added | none=>setAddHashedIn a (.str k tk) ((ZP prog w).hash k) 99999) Q E s') E s:=by
  intro t2 I2 l2 p2
  refine Zc (wpAny_storeSet_of ho hd ?_ (by rw [Zdr];omega))
  have:=Ye (Obj.putSet es1 t2) ho (by rw [putSet_of es1 t2 hd];rfl)
  rw [Yet I2 (by omega),Zdh,if_neg (by decide)]
  refine Ze (Ze (h _ es1 t2 (ZV ..) ?_ hperm I2 l2 p2))
  rw [putSet_of es1 t2 hd] at this
  exact this
 by_cases hp:t1.plain=true
 ·refine K7 hp ?_
  refine Zc ?_
  refine Ze ?_
  exact fin { t1 with plain:=false } hI.off hled rfl
 ·refine Y5 hp ?_
  refine (wbP ?_)
  exact fin t1 hI hled (by simpa using hp)
end
end
section
inductive PermV (h:Heap)(ks:List Tx)(l:List Value):Prop | mk {k} (p:Ym6 k ks) (r:VRs h (k.map .str) l)
theorem Zka {h:Heap}{l l':List Value}(p:l.Perm l'):∀ {ks:List Tx},VRs h (ks.map .str) l->PermV h ks l':=by
 induction p with
 | nil=>exact fun r=>⟨.rfl,r⟩
 | cons x _ ih=>
  intro ks r
  cases ks with
  | nil=>exact nomatch r
  | cons k ks=>exact (ih r.ht.2).rec fun p' r'=>⟨p'.cons k,.cons r.ht.1 r'⟩
 | swap x y l=>
  intro ks r
  match ks,r with
  | [],r=>exact nomatch r
  | [k],r=>exact nomatch r.ht.2
  | k::j::ks,r=>exact ⟨.swap k j ks,.cons r.ht.2.ht.1 (.cons r.ht.1 r.ht.2.ht.2)⟩
 | trans _ _ ih1 ih2=>exact fun r=>(ih1 r).rec fun p1 r1=>(ih2 r1).rec fun p2 r2=>⟨p2.trans p1,r2⟩
section
variable {prog:YL}{w:World}
theorem Ybj {k:Tx}{ks:List Tx}{h:Heap}:∀ {l:List Value},VRs h (ks.map .str) l->k∉ks->∀ v∈l,(ZP prog w).is (sT k) v=false:=by
 induction ks with
 | nil=>exact fun r J=>r.nE (Yp _)
 | cons j ks ih=>
  intro l r hk
  exact r.cE fun x l a b=>Zi.mpr ⟨a.sE fun t=>beq_eq_false_iff_ne.mpr fun e=>hk (Zm3 e▸.head _),ih b fun q=>hk (.tail _ q)⟩
theorem Zl2.size {h:Heap}{q:Addr}{keys:List Tx}{o es ep t ks}(x:Zl2 prog w h q keys o es ep t ks):es.size=keys.length:=by
 have h1:=x.r.length
 rw [Zh,Zh,Xy] at h1
 exact h1.symm.trans x.k.length_eq
theorem Zl2.inv {h:Heap}{q:Addr}{keys:List Tx}{o es ep t ks}(x:Zl2 prog w h q keys o es ep t ks):TInv t es.size:=⟨x.f.1,x.f.2.1,x.f.2.2⟩theorem Zie (k:Str)(t:Tok):(ZP prog w).is k (.str k t)=true:=show (k == k)=true from beq_self_eq_true _
theorem Zs5 {q:Addr}{keys:List Tx}{k:Tx}{tk:Tok}{Q:Bool->Zd->Prop}(hS:Ze1 prog w s.heap q keys)(hk:k∉keys)(hn:keys.length<=2)
  (h:∀ h',ZM q s.heap h'->Ze1 prog w h' q (keys++[k])->Q true { s with heap:=h' }) :
  wpAny (model prog w) A (setAddHashed q (.str (sT k) tk) ((ZP prog w).hash (sT k))) Q E s:=by
 refine hS.elim fun o hr50=>hr50.elim fun es hr51=>hr51.elim fun ep hr52=>hr52.elim fun t hr53=>hr53.elim fun ks x=>?_
 have hoff:=Ybj (prog:=prog) (w:=w) x.r (fun hm=>hk (x.k.mem_iff.mp hm))
 refine addS x.e x.ex x.d x.el x.inv (Zu (x.size▸hn)) (fun e he=>hoff _ (Y4 he)) fun h' es' t' sb hg pm I' l' p'=>?_
 have r1:=x.r.mono (h':=h') fun b o' e hi=>(sb.2 b (fun q=>Zkd x.d (si (q▸e) x.e▸hi))).trans e
 have r2:VRs h' ((ks++[k]).map .str) ((es.toList++[((ZP prog w).hash (sT k),Ue (sT k) tk)]).map (·.2)):=by
  rw [ZF,ZF]
  exact r1.append (VRs.one (.str k tk))
 refine (Zka (pm.symm.map (·.2)) r2).rec fun {ks'} pk r3=>?_
 have hs:es'.size=es.size + 1:=by rw [<-Xy,pm.length_eq,Zf,Xy];rfl
 exact h h' sb ⟨_,es',ep + 1,t',ks',hg,x.ex,rfl,(x.el.push (k:=sT k) (x:=.str (sT k) tk) (Zie _ _) rfl).perm pm,⟨I'.fits,I'.dum,I'.mask⟩,l'.symm▸x.l,p',hs▸Zu (x.size▸hn),pk.trans (x.k.append_right [k]),r3⟩
theorem Zte {q:Addr}{keys:List Tx}{k:Tx}{tk:Tok}{Q:Bool->Zd->Prop}(hS:Ze1 prog w s.heap q keys)(hk:k∉keys)(hn:keys.length<=2)
  (h:∀ h',ZM q s.heap h'->Ze1 prog w h' q (keys++[k])->Q true { s with heap:=h',toks:=s.toks + 1 }) :
  wpAny (model prog w) A (setAdd q (.str (sT k) tk)) Q E s:=by
 exact Yl (Zc ((ZP prog w).pyHash (k:=sT k) (Zie _ _) (Zs5 (s:={ s with toks:=s.toks + 1 }) hS hk hn h)))theorem Zl2.at' {h h':Heap}{q:Addr}{keys:List Tx}{o es ep t ks}(x:Zl2 prog w h q keys o es ep t ks)(e:h'.get? q=some o)(ik:Imk h h'):Zl2 prog w h' q keys o es ep t ks:=⟨e,x.ex,x.d,x.el,x.f,x.l,x.p,x.s,x.k,x.r.mono ik⟩
theorem Ze1.at' {h h':Heap}{q:Addr}{keys:List Tx}(x:Ze1 prog w h q keys)(k:∀ o,h.get? q=some o->h'.get? q=some o)(ik:Imk h h'):Ze1 prog w h' q keys:=
 x.imp fun J x=>x.imp fun J x=>x.imp fun J x=>x.imp fun J x=>x.imp fun J x=>x.at' (k _ x.e) ik
theorem Ze1.keep {h h':Heap}{q:Addr}{keys:List Tx}(x:Ze1 prog w h q keys)(k:∀ b o,h.get? b=some o->h'.get? b=some o):Ze1 prog w h' q keys:=x.at' (k q) fun b o e J=>k b o e
end
end
section
section
variable {prog:YL}{w:World}
theorem Zq3:Zex (.type "dict") (.type "set")=pure false:=by rw [Za4];kernel_rfl
theorem Zi7:Zex (.type "dict") (.type "frozenset")=pure false:=by rw [Za4];kernel_rfl
section
variable {ks keys:List Tx}{k:Tx}{i:Nat}{kvs:List (Str×Value)}
theorem Zyn (hnd:(keys++ks).Nodup)(hk:ks[i]? = some k):k∉keys++ks.take i:=fun hm=>by
 have hz0:=Yt.mp hk
 have hlt:=hz0.1
 have e':=hz0.2
 have e:keys++ks=(keys++ks.take i)++k::ks.drop (i + 1):=by rw [Zw,<-e',<-Zu4 hlt,Zi0]
 rw [e] at hnd
 exact (Zmv.mp hnd).2.2 k hm k (.head _) rfl
theorem Zpk (hk:ks[i]? = some k):keys++ks.take (i + 1)=keys++ks.take i++[k]:=by rw [Zgv,hk,Zw];rfl
theorem Zt3 (hk:ks[i]? = some k)(hl:keys.length + ks.length<=3):(keys++ks.take i).length<=2:=by
 rw [Zf]
 exact Nat.le_of_lt_succ (Ym (Yh1 (ZS (Yhi ..) (Yt.mp hk).1) _) hl)
theorem Yfn (hks:kvs.map (·.1)=ks.map sT)(hk:ks[i]? = some k):∃ v,kvs[i]? = some (sT k,v):=by
 have h1:(kvs.map (·.1))[i]? = some (sT k):=by rw [hks,Yd,hk];rfl
 rw [Yd] at h1
 have hz0:=Yz.mp h1
 let q:=hz0.choose
 have hq0:=hz0.choose_spec
 exact ⟨q.2,(hq0.1).trans (congrArg (fun z=>some (z,q.2)) (hq0.2))⟩
theorem Zru {es:List XD}(p:PySem.Pairs (ZP prog w) es kvs):∀ {i:Nat} {k:Str} {v:Value},kvs[i]? = some (k,v)->∃ e t,es[i]? = some e/\e.key= .str k t:=by
 induction p with
 | nil=>exact fun h=>nomatch h
 | cons h1 h2 _ ih=>
  intro i k v h
  cases i with
  | zero=>
   obtain rfl:=Z1 h
   exact (Zer h1).elim fun t ht=>⟨_,t,rfl,ht⟩
  | succ i=>exact ih (i:=i) h
theorem Zyx {h:Heap}{it a:Addr}{n ep:Nat}(x:h.IsKeyIter it a i n ep):ItO h it:=x.imp fun J z=>⟨z.1,Za0 z.2.2 z.2.1 (by decide),_,z.2.2⟩
end
def Zr3 (prog:YL)(w:World)(q a it:Addr)(kvs:List (Str×Value))(ks keys:List Tx)(ep:Nat)(s₀:Zd)(i:Nat)(h:Heap):Prop:=(∀ b o,b≠q->b≠it->s₀.heap.get? b=some o->h.get? b=some o)/\Ze1 prog w h q (keys++ks.take i)/\h.DictAt (ZP prog w) a kvs ep/\h.IsKeyIter it a i kvs.length ep
def Zr3.k {i}(z:@Zr3 prog w q a it kvs ks keys ep s₀ i h):=z.1
def Zr3.S {i}(z:@Zr3 prog w q a it kvs ks keys ep s₀ i h):=z.2.1
def Zr3.D {i}(z:@Zr3 prog w q a it kvs ks keys ep s₀ i h):=z.2.2.1
def Zr3.i {i}(z:@Zr3 prog w q a it kvs ks keys ep s₀ i h):=z.2.2.2
def Zlk (q a it:Addr)(kvs:List (Str×Value))(ks keys:List Tx):Prop:=(kvs.map (·.1)=ks.map sT)/\(keys++ks).Nodup/\(keys.length + ks.length<=3)/\(q≠a)/\(q≠it)/\(it≠a)def Zlk.hks (z:@Zlk q a it kvs ks keys):=z.1
def Zlk.hnd (z:@Zlk q a it kvs ks keys):=z.2.1
def Zlk.hl (z:@Zlk q a it kvs ks keys):=z.2.2.1
def Zlk.qa (z:@Zlk q a it kvs ks keys):=z.2.2.2.1
def Zlk.qi (z:@Zlk q a it kvs ks keys):=z.2.2.2.2.1
def Zlk.ia (z:@Zlk q a it kvs ks keys):=z.2.2.2.2.2
abbrev loopR (E:Value->Zd->Prop)(R:Zd->Prop):Zbm->Zd->Prop:=fun r s'=>match r with | .ok (.ret _)=>R s' | .ok _=>False | .error e=>E e s'
theorem Ycy {q a it:Addr}{kvs:List (Str×Value)}{ks keys:List Tx}{ep:Nat}(hh:A.handled=none)(C:Zlk q a it kvs ks keys){s₀:Zd}{R:Zd->Prop}
  (hR:∀ h' tk,(∀ b o,b≠q->b≠it->s₀.heap.get? b=some o->h'.get? b=some o)->Ze1 prog w h' q (keys++ks)->R { s₀ with heap:=h',toks:=tk }) (m:Nat) :
  ∀ (i:Nat) (h:Heap) (tk:Nat),ks.length=i + m->Zr3 prog w q a it kvs ks keys ep s₀ i h->codeAny (model prog w) A (.builtin "set.update.loop" ⟨[.ref q,.ref it],[]⟩) (loopR E R) { s₀ with heap:=h,toks:=tk }:=by
 induction m with
 | zero=>
  intro i h tk hi x
  refine XX Zg3 ?_
  refine Zc (m:=Za3 (.ref it)) (Ylx (knd:=ZP prog w) (A:=A.in1) hh x.i x.D (Zbf (ZX ((Zab C.hks).trans hi))) fun h' ex=>Ze ?_)
  obtain rfl:ks.length=i:=hi
  have S:=x.S
  replace S:=(Zcb)▸S
  exact hR h' tk (fun b o h1 h2 e=>ex b o h2 (x.k b o h1 h2 e)) (S.at' (fun o e=>ex q o C.qi e) ((Zyx x.i).imk ex))
 | succ m ih=>
  intro i h tk hi x
  have hilt:i < ks.length:=hi▸Zal (Z8 _)
  have hk:=ZG hilt
  have hz0:=Yfn C.hks hk
  refine XX Zg3 ?_
  refine Zc (m:=Za3 (.ref it)) (Yid (knd:=ZP prog w) x.i x.D ((hz0.choose_spec)) fun key h1 hkey hit1 sb1=>?_)
  refine (Zer hkey).elim fun t0 hw51=>?_
  obtain rfl:=hw51
  have S1:=x.S.at' (fun o e=>(sb1.2 q C.qi).trans e) ((Zyx x.i).imk sb1.extBut)
  refine Zc (m:=Zrr [.str (sT ks[i]) t0] (setAdd q (.str (sT ks[i]) t0))) (Yl (Zte (s:={ s₀ with heap:=h1,toks:=tk }) S1 (Zyn C.hnd hk) (Zt3 hk C.hl) fun h2 sb2 S2=>Ze ⟨Uw PyProof.Rows.F.plain_set_update_loop _,?_⟩))
  exact ih (i + 1) h2 (tk + 1) (hi.trans (Zhh i m).symm) ⟨fun b o h1' h2' e=>((sb2.2 b h1').trans (sb1.2 b h2')).trans (x.k b o h1' h2' e),Zpk hk▸S2,
   x.D.at' fun o e=>((sb2.2 a C.qa.symm).trans (sb1.2 a C.ia.symm)).trans e,hit1.imp fun J z=>⟨(sb2.2 it C.qi.symm).trans z.1,z.2⟩⟩def StarI (prog:YL)(w:World)(q:Addr)(ks keys:List Tx)(n:Nat)(s:Zd)(rest:List Nat)(s':Zd)(i:Nat)(h':Heap)(tk:Nat):Prop:=(rest=Zpc i (n - i))/\(i<=n)/\(s'={ s with heap:=h',toks:=tk })/\(∀ b o,b≠q->s.heap.get? b=some o->h'.get? b=some o)/\Ze1 prog w h' q (keys++ks.take i)
theorem Yaa {q a:Addr}{kvs:List (Str×Value)}{ks keys:List Tx}{ep:Nat}{Q:Unit->Zd->Prop}(hh:A.handled=none)(hS:Ze1 prog w s.heap q keys)(hD:s.heap.DictAt (ZP prog w) a kvs ep)(hks:kvs.map (·.1)=ks.map sT)(hnd:(keys++ks).Nodup)(hl:keys.length + ks.length<=3)
  (hsys:(a == Uy)=false) (hqa:q≠a) (h:∀ h' tk,(∀ b o,b≠q->s.heap.get? b=some o->h'.get? b=some o)->Ze1 prog w h' q (keys++ks)->Q () { s with heap:=h',toks:=tk }) :
  wpAny (model prog w) A (setDisplayStar q (.ref a)) Q E s:=by
 have hT:s.TypeIs (.ref a) "dict":=hD.dictOf.typeIs
 have S0:Ze1 prog w s.heap q (keys++ks.take 0):=(ZK keys).symm▸hS
 refine (id hS).elim fun o1 hr56=>hr56.elim fun es1 hr57=>hr57.elim fun ep1 hr58=>hr58.elim fun t1 hr59=>hr59.elim fun ks1 x1=>?_
 refine (wbI hT Zq3 (Zc (m:=UG (.ref a) (.type "frozenset")) (Zi3 hT Zi7 ((wbA ?_)))))
 by_cases hb:(model prog w).w.params.followText "set-display-star-reads-storage" = true
 ·simp only [hb,if_true]
  have has:s.heap.objs.size≠a:=hD.elim fun o z=>z.elim fun es z=>Xr (ZL z.1)
  have hkeep:∀ b o,s.heap.get? b=some o->(s.heap.push { cls:=.type "dict_keyiterator",data:=.fields #[.ref a,.int 0 0,.int kvs.length 0,.int ep 0] }).get? b=some o:=fun b o e=>Zg _ e
  refine Zc (wpAny_pyIter_dict (knd:=ZP prog w) hsys hD ?_)
  refine Zc (Zz1 (Zd8 (Ycy (E:=E) (s₀:=s) (q:=q) (it:=s.heap.objs.size) (R:=fun s'=>Q () s') hh ⟨hks,hnd,hl,hqa,(Z3 (ZL x1.e)),has⟩ (fun h' tk k S=>h h' tk (fun b o hb e=>k b o hb (Z3 (ZL e)) e) S) ks.length 0 _ s.toks (Ua _).symm ⟨fun b o J J e=>hkeep b o e,S0.keep hkeep,hD.push _,⟨_,Zq _ rfl,rfl,rfl⟩⟩) fun r s' z=>?_))
  match r,z with
  | .ok (.ret _),z=>exact Ze z
  | .error e,z=>exact z
 ·rw [Bool.not_eq_true] at hb
  refine hD.elim fun o hr56=>hr56.elim fun es hr57=>hr57.elim fun ho hr58=>hr58.elim fun hc hr59=>hr59.elim fun hd hr60=>hr60.elim fun hko hr61=>hr61.elim fun hp hn=>?_
  simp only [hb,K6,if_false]
  refine (wbT hT ?_)
  have hes:es.size=ks.length:=by rw [<-Xy,hp.length,(Zab hks)]
  refine K7 rfl ?_
  refine (wbR ?_)
  refine Y5 (by rw [hsys];decide) ?_
  refine Zc (wpAny_dictEpoch ho hd (Zc (wpAny_dictEntries ho hd (Zc ?_))))
  refine Zc (I9 x1.e x1.d x1.inv.fits ?_)
  rw [Yji x1.inv (Zb (by rw [x1.size,hes];exact hl) (Za rfl))]
  refine Ze ?_
  rw [Zzo.forIn_eq_forIn_range']
  refine Zc (wpAny_forIn_list _ (fun rest J s'=>∃ i h' tk,StarI prog w q ks keys es.size s rest s' i h' tk) _ ?_ ?_ _ _ ⟨0,s.heap,s.toks,by simp [Zzo.size],Zr _,rfl,fun J J J e=>e,S0⟩)
  ·intro x rest _ s' z
   obtain ⟨i,h',tk,z⟩:=z
   obtain ⟨e1,e2,rfl,hk,S⟩:=z
   cases hz:es.size - i with
   | zero=>rw [hz] at e1;exact nomatch e1
   | succ m=>
    rw [hz,List.range'_succ] at e1
    obtain ⟨rfl,e1⟩:=Xg e1
    have hx:x < es.size:=Ym3 (hz▸Z8 m)
    have hk1:=ZG (hes▸hx)
    have hz0:=Yfn hks hk1
    let v0:=hz0.choose
    have hz0:=Zru hp ((hz0.choose_spec))
    let en:=hz0.choose
    have hq0:=hz0.choose_spec
    let t0:=hq0.choose
    have hq1:=hq0.choose_spec
    have hen:=hq1.1
    have hkey:=hq1.2
    have hhash:en.hash=(ZP prog w).hash (sT ks[x]):=(hko en (Array.mem_toList_iff.mp (Z9 hen))).elim fun k' z=>by
     have hk':=z.1
     rw [hkey] at hk'
     exact z.2.trans (congrArg _ (eq_of_beq (show (sT ks[x] == k')=true from hk')).symm)
    refine Zc (wpAny_dictEntries (hk a o hqa.symm ho) hd ?_)
    rw [(Zdu ..).symm.trans hen]
    dsimp only
    rw [hkey,hhash]
    refine (wbH (Zc (Zs5 (s:={ s with heap:=h',toks:=tk }) S (Zyn hnd hk1) (Zt3 hk1 hl) fun h2 sb2 S2=>Ze (Zc (wpAny_dictEpoch ((sb2.2 a hqa.symm).trans (hk a o hqa.symm ho)) hd ?_)))))
    refine Y5 (by rw [bne_self_eq_false];exact U3) ?_
    exact Ze ⟨x + 1,h2,tk,e1.trans (congrArg (Zpc (x + 1)) (Zaj (hz.symm.trans (Nat.succ_sub_succ es.size x▸Nat.succ_sub hx)))),hx,rfl,fun b o hb e=>(sb2.2 b hb).trans (hk b o hb e),Zpk hk1▸S2⟩
  ·intro _ s' z
   obtain ⟨i,h',tk,z⟩:=z
   obtain ⟨e1,e2,rfl,hk,S⟩:=z
   rw [(hes▸Ziz e2 (Nat.sub_eq_zero_iff_le.mp ((List.length_range' ..).symm.trans (congrArg Z5 e1).symm)):i=ks.length),Zcb] at S
   exact Ze (h h' tk hk S)
end
end
section
section
variable {M:Model}{α:Type}
theorem Zqy {s:Zd}{src:Source}{n:Nat}{Q:Nat->Zd->Prop}(hn:n≠0)(h:∀ i d,i < n->Q i { s with drawn:=d }):wpAny M A (choose src n) Q E s:=fun Γ p J=>by
 show Sem.wp M Γ (.choose src n .pure) _ _ p s
 rw [Sem.wp_choose]
 exact ⟨hn,h _ _ (Nat.mod_lt _ (Yk7 hn))⟩
theorem Zm5 {xs:List α}{i:Nat}(h:i < xs.length):xs.Perm (xs[i]::xs.eraseIdx i):=by
 induction xs generalizing i with
 | nil=>exact nomatch h
 | cons y xs ih=>
  cases i with
  | zero=>exact .rfl
  | succ i=>exact ((ih (Nat.lt_of_succ_lt_succ h)).cons y).trans (.swap ..)
theorem Znt (n:Nat):∀ (xs:List α) (s:Zd) (Q:List α->Zd->Prop),n=xs.length->(∀ ys d,ys.Perm xs->Q ys { s with drawn:=d })->wpAny M A (drawOrder n xs) Q E s:=by
 induction n with
 | zero=>exact fun xs s Q e h=>Ze (h [] s.drawn (Xj.mp e.symm▸.rfl))
 | succ n ih=>
  intro xs s Q e h
  cases xs with
  | nil=>exact nomatch e
  | cons x xs=>
  refine Zc (m:=choose .order (x::xs).length) (Zqy (Zec _) fun i d hi=>?_)
  refine (ZG hi)▸?_
  have hp:=Zm5 hi
  exact Zc (m:=drawOrder n ((x::xs).eraseIdx i)) (ih _ _ _ (Zaj (e.trans hp.length_eq)) fun ys d' p=>Ze (h _ _ ((p.cons _).trans hp.symm)))
theorem Ztu (next:Nat->Nat)(fuel:Nat):∀ (k:Nat) (left:List α) (out:Array α),fuel=left.length->(Yi6 next fuel k left out).toList.Perm (out.toList++left):=by
 induction fuel with
 | zero=>exact fun k left out e=>by rw [Xj.mp e.symm,ZK];exact .rfl
 | succ n ih=>
  intro k left out e
  cases left with
  | nil=>exact nomatch e
  | cons x left=>
  have hi:next k % (x::left).length < (x::left).length:=Nat.mod_lt _ (Z8 _)
  unfold Yi6
  rw [ZG hi]
  have hp:=Zm5 hi
  refine (ih (k + 1) _ _ (Zaj (e.trans hp.length_eq))).trans ?_
  rw [Yh9,Zw]
  exact hp.symm.append_left _
theorem Zhs (next:Nat->Nat)(xs:Array α):(pickOrder next xs).toList.Perm xs.toList:=Ztu next xs.size 0 xs.toList #[] rfl
end
end
section
variable {n:Nat}
theorem Ya1 (R:RS G env st s){c:Addr}(hcode:env.code= .ref c)(hT:TOK G c){Q:Bool->Zd->Prop}(h:∀ b,Q b s):W G A (inMainModule env) Q E s:=by
 have hz0:=(R.tab _ ((hT.choose_spec).1)).t
 have t0:=(hz0.choose_spec).2
 have hq0:=t0.1.choose_spec
 have hq1:=hq0.choose_spec
 unfold inMainModule
 rw [hcode,if_neg (show ¬ ((ZR c == Xo)=true) from U3)]
 refine (wbF (hq1.1) (hq1.2.2.1) ?_)
 split
 ·exact (wbA (Ze (h _)))
 ·exact Ze (h _)noncomputable abbrev Yal (w:World):Obj:={ cls:=Xz "set",data:=Data.set #[] 0 (SetTable.fresh 0 0 !w.params.followText "set-order") }
theorem Zrb {prog:YL}{w:World}{q:Addr}{k:Tx}{tk:Tok}{Q:Bool->Zd->Prop}(hq:s.heap.get? q=some (Yal w))(h:∀ h',ZM q s.heap h'->Ze1 prog w h' q [k]->Q true { s with heap:=h',toks:=s.toks + 1 }) :
  wpAny (model prog w) A (setAdd q (.str (sT k) tk)) Q E s:=by
 refine Yl (Zc ((ZP prog w).pyHash (k:=sT k) (Zie _ _) ?_))
 refine addS (s:={ s with toks:=s.toks + 1 }) hq ⟨rfl,rfl,rfl⟩ rfl (fun e he=>nomatch he) ⟨by rfl,rfl,Zm 7⟩ (by decide) (fun e he=>nomatch he) fun h' es' t' sb hg pm I' l' p'=>?_
 have hs:es'.size=1:=by rw [<-Xy,pm.length_eq];rfl
 refine (Zka (ks:=[k]) (pm.symm.map (·.2)) (VRs.one (.str k tk))).rec fun {ks'} pk r3=>h h' sb ⟨_,es',1,t',ks',hg,⟨rfl,rfl,rfl⟩,rfl,(ElemsOf.push (l:=[]) (fun e he=>nomatch he) (k:=sT k) (x:=.str (sT k) tk) (Zie _ _) rfl).perm pm,⟨I'.fits,I'.dum,I'.mask⟩,?_,p',hs▸by decide,pk,r3⟩
 refine (l')▸?_
 cases w.params.followText "set-order"
 ·exact .inl rfl
 ·exact .inr rfl
def SetDK (lv:Nat->Option V)(x y:Nat)(Q:V->Hp->Prop)(σ:Hp)(t:Tx)(a:Addr)(kvs:List (Tx×V)):Prop:=(lv x=some (.str t))/\(lv y=some (.ref a))/\(σ a=some (.dS kvs))/\(kvs.length<=2)/\(t::kvs.map (·.1)).Nodup/\(∀ n,σ n=none->Q (.ref n) (upd σ n (.sset (t::kvs.map (·.1)))))def SetDK.h1 (z:@SetDK lv x y Q σ t a kvs):=z.1
def SetDK.h2 (z:@SetDK lv x y Q σ t a kvs):=z.2.1
def SetDK.e (z:@SetDK lv x y Q σ t a kvs):=z.2.2.1
def SetDK.l (z:@SetDK lv x y Q σ t a kvs):=z.2.2.2.1
def SetDK.n0 (z:@SetDK lv x y Q σ t a kvs):=z.2.2.2.2.1
def SetDK.q (z:@SetDK lv x y Q σ t a kvs):=z.2.2.2.2.2
def Ylv (x y:Nat):FX:=fun J lv J Q σ=>∃ t a kvs,SetDK lv x y Q σ t a kvs
theorem Zyc (R:RS G env st s){q:Addr}(O:Off G env st q){o:Obj}{es:Array (Int×Value)}{ep:Nat}{t:SetTable}(e:s.heap.get? q=some o)(d:o.data= .set es ep t){h':Heap}(k:XN q s.heap h'){tk:Nat}(ht:s.toks<=tk){st₀:St}{s₀:Zd}(S:Stp G env st₀ st s₀ s)(hn:s₀.heap.get? q=none) :
  RS G env st ⟨h',s.gens,s.drawn,tk,s.os⟩/\Stp G env st₀ st s₀ ⟨h',s.gens,s.drawn,tk,s.os⟩:=
 have c:Chg [q] [] s ⟨h',s.gens,s.drawn,tk,s.os⟩:=.one (fun b o hb e=>k b o hb e) ht
 ⟨R.chg (P:=[q]) (GP:=[]) (fun a ha=>YX ha▸O) (fun a ha o e'=>si e (YX ha▸e')▸Zkd d) c,S.chg (P:=[q]) (GP:=[]) (fun a ha=>YX ha▸hn) (fun J h=>(nomatch h)) c⟩
theorem sSetD {c:Addr}{x y:Nat}{mx my:Str}{p1 p2 p3 pos:Pos}(C0:True)(hx:nm x=mx)(hy:nm y=my)(hkx:sc.lookup x=some .local)(hky:sc.lookup y=some .local):SXc c sc (.Set [.Name mx p1,.Starred (.Name my p3) p2] 0 pos) (Ylv x y):=by
 intro G Δ n env A X hcode hT st s Q E ht R hw8
 obtain ⟨t,a,kvs,w⟩:=hw8
 refine (wbS (Zc (Ya1 R hcode hT fun b=>?_)))
 show wpAny _ _ (setDisplay .oneByOne b [(false,(do let v <-eval (.Name mx p1) env;Zgi pos;pure v)),(true,(do let v <-eval (.Name my p3) env;Zgi pos;pure v))]) _ _ _
 unfold setDisplay newSet setsByText
 refine Y5 (by decide) ?_
 refine Zc (Zc ((wbA (Ze ?_))))
 refine Zc (wpAny_alloc (Ze ?_))
 have qn:s.heap.get? s.heap.objs.size=none:=Yy _
 have O1:Off G env st s.heap.objs.size:=R.off_fresh qn
 have hw0:(s.heap.push (Yal G.w)).get? s.heap.objs.size=some (Yal G.w):=Zq _ rfl
 have k1:=R.ext (h':=s.heap.push (Yal G.w)) (t:=s.toks) (d:=s.drawn) fun b o e=>Zg _ e
 generalize hh:s.heap.push (Yal G.w)=hA at hw0 k1
 refine (wbH ?_)
 show wpAny _ _ (evalAll [(do let v <-eval (.Name mx p1) env;Zgi pos;pure v)] >>= _) _ _ ⟨s.heap.push (Yal G.w),_,_,_,_⟩
 rw [hh]
 refine Zc (wpAny_evalAll_cons (Zc ((SX.then (f:=xLc x) (sLc hx hkx) (Q:=fun v σ=>v= .str t/\σ=st.σ) X (s:=⟨hA,s.gens,s.drawn,s.toks,s.os⟩) ht k1.1 ⟨w.h1,rfl,rfl⟩ fun v val J3 J1 M3 V2 H3 Q3 e=>?_))))
 obtain ⟨rfl,rfl⟩:=e
 refine Q3.sE fun t0=>?_
 have hw2:=H3.keep _ _ hw0 O1.σ O1.loc O1.tab
 refine (wbS (Ze (wpAny_evalAll_nil ?_)))
 refine (wbH (Zc ?_))
 rw [Zcx]
 refine Zc (Zc (Zrb hw2 fun h3 sb3 hS3=>Ze ?_))
 dsimp only
 rw [Zsj]
 refine Ze ?_
 refine Y5 (by decide) ?_
 refine Ze ?_
 show wpAny _ _ (forIn [(true,(do let v <-eval (.Name my p3) env;Zgi pos;pure v))] PUnit.unit _ >>= _) _ _ _
 refine Zc ?_
 rw [Zcx]
 have k3:=Zyc (st:=st) V2 O1 hw2 rfl sb3.extBut (ZW _) (k1.2.trans H3) qn
 refine Zc (Zc ?_)
 refine Zc (SX.then (f:=xLc y) (sLc hy hky) (Q:=fun v σ=>v= .ref a/\σ=st.σ) X (s:={ J1 with heap:=h3,toks:=J1.toks + 1 }) (Z8 _) k3.1 ⟨w.h2,rfl,rfl⟩ fun v val J5 O3 u5 T4 v4 v5 e=>?_)
 obtain ⟨rfl,rfl⟩:=e
 refine v5.rE ((wbS (Ze ?_)))
 refine K7 rfl ?_
 refine (T4.den _ _ w.e).1.rec fun {l} p el rl=>?_
 let ep:=p.dictAt.choose
 have hq0:=p.dictAt.choose_spec
 have pa:=hq0
 have hS4:Ze1 G.prog G.w O3.heap s.heap.objs.size [t]:=hS3.at' (fun o e=>v4.keep _ _ e O1.σ O1.loc O1.tab) (k3.1.imk v4)
 have hqa:s.heap.objs.size≠a:=fun e=>nn O1.σ (e▸w.e)
 refine (wbH (Yaa (ks:=kvs.map fun p:Tx×V=>p.1) X.hA.handled hS4 pa (by rw [el,U7];rfl) w.n0 (by rw [Zh];exact ZJ w.l 1) (T4.nsys X.C.sys w.e) hqa fun h5 tk5 k5 hS5=>Ze ?_))
 dsimp only
 rw [Zsj]
 refine Ze (Ze (Ze ?_))
 obtain ⟨o4,_,_,_,_,x4⟩:=hS4
 have k6:=Zyc (st:=st) T4 O1 x4.e x4.d (fun b o hb e=>k5 b o hb e) (Zm _) (k3.2.trans v4) qn
 have k7:=k6.1.ext (h':=h5) (t:=tk5) (d:=O3.drawn) fun J J e=>e
 have S7:=k6.2.trans k7.2
 exact ⟨_,_,k7.1.claim O1.base O1.loc O1.tab (Den.sset (keys:=t::kvs.map fun p:Tx×V=>p.1) hS5),⟨S7.keep,S7.live,fun b hb=>Zph (P:=fun b=>(st.σ b).isSome\/s.heap.get? b=none) hb (.inr qn) (S7.new b),S7.gens⟩,.ref _,w.q _ O1.σ⟩
end
section
theorem Zb3:Slot "set_iterator" "__next__" "set_iterator.__next__":=
 .of (owner:="set_iterator") (n:="__next__") (by rw [Zfv,Zb8];kernel_rfl) (by decide +kernel) (by decide +kernel) (by decide +kernel)
  (by first | exact .inl (by decide +kernel) | exact .inr (by decide +kernel)) (by rw [Za4];kernel_rfl)theorem Znq:Zfi table "set_iterator.__next__" = some Builtin.«set_iterator.__next__»:=Ib (by kernel_rfl)theorem Zo5 (a:Value):Zg9 "set_iterator.__next__" ⟨[a],[]⟩:=by unfold Zg9;kernel_rfl
theorem Znr:Zfi table "set.__iter__" = some Builtin.«frozenset.__iter__»:=
 entryFor_alias (id':="frozenset.__iter__") (by kernel_rfl) rfl (by decide +kernel) (by kernel_rfl)noncomputable abbrev Zgk (first:Value)(i:Nat)(q:Addr)(n ep:Nat):Obj:={ cls:=.type "set_iterator",data:=.fields #[first,.int i 0,.ref q,.int n 0,.int ep 0] }
inductive Zeq where
 | drawn (tp:Addr) (ixs:List Nat)
 | text
 | led
noncomputable def Zeq.ctorIdx (v:Zeq):Nat:=Zeq.casesOn (motive:=fun J=>Nat) v (fun J J=>0) 1 2
section
variable {prog:YL}{w:World}
noncomputable def SI (q I:Addr)(oq:Obj)(es:Array (Int×Value))(ep:Nat)(t:SetTable):Zeq->Nat->Heap->Prop
 | .drawn tp ixs,i,h=>h.get? q=some oq/\h.get? I=some (Zgk (.ref tp) i q es.size ep)/\h.get? tp=some { cls:=.type "tuple",data:=.seq (ixs.map fun (j:Nat)=>Zn2 j 0).toArray }
 | .text,i,h=>h.get? q=some oq/\h.get? I=some (Zgk (.int 0 0) i q es.size ep)
 | .led,i,h=>h.get? q=some oq/\∃ slot:Nat,h.get? I=some (Zgk (.int slot 0) i q es.size ep)/\(i=0->slot=0)/\(i=1->slot=t.place.getD 0 0 + 1)
noncomputable def SL (w:World)(q:Addr)(es:Array (Int×Value))(ep:Nat):Zeq->List Value
 | .drawn _ ixs=>ixs.map fun j=>(es.getD j (0,.none)).2
 | .text=>(pickOrder (w.params.setOrder q ep) es).toList.map (·.2)
 | .led=>es.toList.map (·.2)
noncomputable def SF (w:World)(es:Array (Int×Value))(t:SetTable):Zeq->Prop
 | .drawn _ ixs=>ixs.Perm (Ub es.size)
 | .text=>w.params.followText "set-order" = true
 | .led=>w.params.followText "set-order" = false/\t.led=true/\es.size<=1
theorem Zzq {q:Addr}{es:Array (Int×Value)}{ep:Nat}{t:SetTable}{md:Zeq}(h:SF w es t md):(SL w q es ep md).Perm (es.toList.map (·.2)):=by
 cases md with
 | drawn tp ixs=>
  have h1:(ixs.map fun j=>(es.getD j (0,.none)).2).Perm ((Ub es.size).map fun j=>(es.getD j (0,Xo)).2):=Ym6.map _ h
  have h2:((Ub es.size).map fun j=>(es.getD j (0,Xo)).2)=es.toList.map (·.2):=by
   apply Zon
   ·simp
   ·intro i h1 h2
    simp at h1 h2
    simp [Array.getD,h1]
  rw [h2] at h1;exact h1
 | text=>exact (Zhs _ _).map _
 | led=>exact .rfl
theorem Zpn {A':Yg}{Q:Option Value->Zd->Prop}{I:Addr}{o:Obj}{vs:Array Value}{k:Nat}{v:Value}(hh:A.handled=none)(ho:s.heap.get? I=some o)(hd:o.data= .fields vs)(hk:k < vs.size)(h:∀ h',XN I s.heap h'->Q none { s with heap:=h' }){R:XF->Zd->Prop} :
  wpAny (model prog w) A (do setField (.ref I) k v;raiseNew (<-newExc (.type "StopIteration") [])) R (fun e s'=>wpAny (model prog w) A' (do if <-UG e (.type "StopIteration") then pure none else throw e) Q E s') s:=by
 refine (wbU ho hd hk ?_)
 refine Zc ?_
 refine Zc (Z7 ?_ (by size_fits))
 refine Zc (m:=Za5 _ _) (Kq (a:=Xo) (by first | rfl | (simp only [Za5];rfl)) ?_)
 refine Z7 ?_ (by size_fits)
 refine Zc (Zoh ?_)
 refine (hh).symm▸?_
 refine (wbP (Zvb ?_))
 refine (wbI (T:="StopIteration") (b:=true) ⟨_,Zq _ rfl,rfl⟩ Zg8 ?_)
 exact Ze (h _ (((ZV ..).extBut.push _).push _))
end
end
section
section
variable {prog:YL}{w:World}
theorem Zmh {I q:Addr}{f:Value}{i n ep k:Nat}{v:Value}{h:Heap}(hI:h.get? I=some (Zgk f i q n ep)):(h.update I (Zhg (·.setIfInBounds k v))).get? I=some { cls:=.type "set_iterator",data:=.fields (#[f,.int i 0,.ref q,.int n 0,.int ep 0].setIfInBounds k v) }:=by
 have:=Ye (Zhg (·.setIfInBounds k v)) hI rfl
 exact this
theorem Yb3 {j slot:Nat}:Zes #[j] slot=if j < slot then 1 else 0:=by
 unfold Zes
 by_cases h:j < slot
 ·simp [h,Zr6]
 ·simp [h,Zr6]
noncomputable abbrev sitT (I:Addr)(i:Nat)(r:Option (Value×Nat)):Sem XF:=match r with
 | some (x,next)=>do
  setField (.ref I) 0 (Uz next)
  setField (.ref I) 1 (Uz ((i:Int) + 1))
  ret x
 | none=>do
  setField (.ref I) 2 .none
  raiseNew (<-newExc (.type "StopIteration") [])
noncomputable abbrev sitD (f:Value)(q I:Addr)(ep i:Nat):Sem XF:=do
 let some places <-Yhx f | unsupported "internal:set_iterator"
 match places[(i:Int).toNat]? with
 | some (.int place _)=>
  let x <-PySem.setNextDrawn q place.toNat (ep:Int).toNat
  setField (.ref I) 1 (Uz ((i:Int) + 1))
  ret x
 | some _=>unsupported "internal:set_iterator"
 | none=>setField (.ref I) 0 (Uz 0);setField (.ref I) 2 .none;raiseNew (<-newExc (.type "StopIteration") [])
section
variable {q I:Addr}{oq:Obj}{es:Array (Int×Value)}{ep slot i:Nat}{t:SetTable}{Q:Option Value->Zd->Prop}
abbrev sitP (prog:YL)(w:World)(A:Yg)(Q:Option Value->Zd->Prop)(E:Value->Zd->Prop):XF->Zd->Prop:=fun fin s'=>∃ v,fin=XF.done (.ret v)/\wpAny (model prog w) A (pure (some v)) Q E s'
abbrev sitE (prog:YL)(w:World)(A:Yg)(Q:Option Value->Zd->Prop)(E:Value->Zd->Prop):Value->Zd->Prop:=fun e s'=>wpAny (model prog w) A (do if <-UG e (.type "StopIteration") then pure none else throw e) Q E s'
theorem Zj6 {f:Value}(h1:s.heap.get? q=some oq)(h2:s.heap.get? I=some (Zgk f i q es.size ep))(hd:oq.data= .set es ep t)(hf:t.fits es.size=true)
  (k:wpAny (model prog w) A.in1 (match f with
   | .int slot _=>(do sitT I i (<-PySem.setNext q slot.toNat (i:Int).toNat (ep:Int).toNat))
   | _=>sitD f q I ep i) (sitP prog w A Q E) (sitE prog w A Q E) s):wpAny (model prog w) A (Za3 (.ref I)) Q E s:=by
 have hT:s.TypeIs (.ref I) "set_iterator":=⟨_,h2,rfl⟩
 refine Zc (Ia (Kw (name:=Zz "__next__") hT Zb3 (Y9 Zb3 hT Znq ?_ (Zo5 _))))
 refine (wbP ?_)
 refine (wbF h2 rfl ?_)
 refine Zc (wpAny_setEntries_of h1 hd hf ?_)
 refine Y5 (by simp) ?_
 exact k
abbrev Zsa (prog:YL)(w:World)(A:Yg)(s:Zd)(q:Addr)(slot i ep:Nat)(r:Option (Value×Nat)):Prop:=∀ (R:Option (Value×Nat)->Zd->Prop) (E:Value->Zd->Prop),R r s->wpAny (model prog w) A (PySem.setNext q slot i ep) R E s
theorem Ztb {x:Value}{nx:Nat}(h1:s.heap.get? q=some oq)(h2:s.heap.get? I=some (Zgk (.int slot 0) i q es.size ep))(hd:oq.data= .set es ep t)(hf:t.fits es.size=true)(hs:Zsa prog w A.in1 s q slot i ep (some (x,nx)))
  (hQ:∀ h',h'.get? I=some (Zgk (.int nx 0) (i + 1) q es.size ep)->(∀ b o,b≠I->s.heap.get? b=some o->h'.get? b=some o)->Q (some x) { s with heap:=h' }):wpAny (model prog w) A (Za3 (.ref I)) Q E s:=by
 have u1:=Zmh (k:=0) (v:=Uz nx) h2
 refine Zj6 h1 h2 hd hf (Zc (hs _ _ ?_))
 refine (wbU h2 rfl (Za rfl) ?_)
 refine (wbU u1 rfl (Za rfl) ?_)
 refine Ze ⟨_,rfl,Ze (hQ _ (Zmh (f:=.int nx 0) (k:=1) (v:=Uz ((i:Int) + 1)) u1) fun b o hb e=>((ZV ..).2 b hb).trans (((ZV ..).2 b hb).trans e))⟩
theorem Ztc (hh:A.handled=none)(h1:s.heap.get? q=some oq)(h2:s.heap.get? I=some (Zgk (.int slot 0) i q es.size ep))(hd:oq.data= .set es ep t)(hf:t.fits es.size=true)(hs:Zsa prog w A.in1 s q slot i ep none)
  (hQ:∀ h',(∀ b o,b≠I->s.heap.get? b=some o->h'.get? b=some o)->Q none { s with heap:=h' }):wpAny (model prog w) A (Za3 (.ref I)) Q E s:=
 Zj6 h1 h2 hd hf (Zc (hs _ _ (Zpn (A:=A.in1) hh h2 rfl (show 2 < 5 by decide) fun h' ex=>hQ h' fun b o hb e=>ex b o hb e)))
theorem Zp1 (h1:s.heap.get? q=some oq)(hd:oq.data= .set es ep t)(hf:t.fits es.size=true)(hbt:w.params.followText "set-order" = true):Zsa prog w A s q slot i ep (((pickOrder (w.params.setOrder q ep) es)[i]?).map fun e=>(e.2,slot)):=fun R E hR=>by
 refine Zc (I9 h1 hd hf (Zc ((wbA (Ze ?_)))))
 rw [show (model prog w).w.params.followText "set-order" = true from hbt,if_pos rfl]
 simp only [bne_self_eq_false,K6,if_false]
 refine Zc (Zc (I9 h1 hd hf (Zc ((wbA (Ze ?_))))))
 rw [show (model prog w).w.params.followText "set-order" = true from hbt,if_pos rfl]
 exact (wbA (Ze (Ze hR)))
theorem Zt1 {j:Nat}(h1:s.heap.get? q=some oq)(hd:oq.data= .set es ep t)(hf:t.fits es.size=true)(hbt:w.params.followText "set-order" = false)(hled:t.led=true)(hs1:es.size=1)(hj:t.place= #[j]){e:Int×Value}(he:es[0]? = some e):Zsa prog w A s q slot i ep (if j < slot then none else some (e.2,j + 1)):=fun R E hR=>by
 refine Zc (I9 h1 hd hf (Zc ((wbA (Ze ?_)))))
 rw [show (model prog w).w.params.followText "set-order" = false from hbt,if_neg (by decide)]
 show wpAny _ _ (if (!t.plain&&decide (es.size > 1))=true then _ else _) _ _ _
 refine Y5 (by simp [hs1]) ?_
 show wpAny _ _ ((if (!t.led&&!es.isEmpty)=true then unsupported "set:maker-not-led" else pure ()) >>= _) _ _ _
 rw [hled,if_neg (by simp)]
 refine (wbP ?_)
 rw [hj]
 simp only [Yb3]
 refine Ze ?_
 by_cases h:j < slot
 ·rw [if_pos h] at hR⊢;rw [(Zda (ZX hs1))];exact hR
 ·rw [if_neg h] at hR⊢;rw [he];exact hR
theorem Zp3 (hf:t.fits es.size=true)(hs1:es.size=1):∃ j,t.place= #[j]:=by
 have hpl:t.place.size=1:=by
  simp only [Zqe,Xx,beq_iff_eq] at hf
  omega
 generalize t.place=p at hpl
 obtain ⟨l⟩:=p
 match l,hpl with
 | [j],_=>exact ⟨j,rfl⟩
end
theorem Zpx {o:Nat->Nat}{es:Array (Int×Value)}:(pickOrder o es).size=es.size:=by
 rw [<-Xy,(Zhs _ _).length_eq,Xy]
theorem Yix {q I:Addr}{oq:Obj}{es:Array (Int×Value)}{ep:Nat}{t:SetTable}{md:Zeq}{i:Nat}{Q:Option Value->Zd->Prop}(hqI:q≠I)(htI:∀ tp ixs,md= .drawn tp ixs->tp≠I)(hd:oq.data= .set es ep t)(hI:TInv t es.size)(hF:SF w es t md)(hi:i < es.size)(h:SI q I oq es ep t md i s.heap)
  (hQ:∀ v h',(SL w q es ep md)[i]? = some v->SI q I oq es ep t md (i + 1) h'->(∀ b o,b≠I->s.heap.get? b=some o->h'.get? b=some o)->Q (some v) { s with heap:=h' }):wpAny (model prog w) A (Za3 (.ref I)) Q E s:=by
 cases md with
 | drawn tp ixs=>
  obtain h1:=h.1
  obtain h2:=h.2.1
  obtain h3:=h.2.2
  have hpl:ixs.Perm (Ub es.size):=hF
  obtain ⟨j,hj⟩:∃ j,ixs[i]? = some j:=⟨_,ZG (by rw [hpl.length_eq,Kg];exact hi)⟩
  have hjs:j < es.size:=Zdg.mp (hpl.mem_iff.mp (Z9 hj))
  refine Zj6 h1 h2 hd hI.fits ((wbQ h3 rfl ?_))
  simp only [Km,Z0,Yd,hj,Yk5]
  refine Zc ?_
  refine Zc (I9 h1 hd hI.fits ?_)
  simp only [Km,bne_self_eq_false,K6,if_false,Xn hjs]
  refine Ze ((wbU h2 rfl (Za rfl) ?_))
  have sb:=ZV s.heap I (Zhg (·.setIfInBounds 1 (Uz ((i:Int) + 1))))
  refine Ze ⟨_,rfl,Ze (hQ _ _ ?_ ⟨(sb.2 q hqI).trans h1,Zmh h2,(sb.2 tp (htI _ _ rfl)).trans h3⟩ fun b o hb e=>(sb.2 b hb).trans e)⟩
  show (ixs.map _)[i]? = _
  rw [Yd,hj]
  simp [Array.getD,hjs]
 | text=>
  obtain h1:=h.1
  obtain h2:=h.2
  obtain ⟨e,he⟩:∃ e,(pickOrder (w.params.setOrder q ep) es)[i]? = some e:=⟨_,Xn (by rw [Zpx];exact hi)⟩
  have hs:=fun {A}=>Zp1 (prog:=prog) (A:=A) (slot:=0) (i:=i) h1 hd hI.fits hF
  rw [he] at hs
  exact Ztb h1 h2 hd hI.fits hs fun h' e1 e2=>hQ _ h' (by show ((pickOrder _ es).toList.map _)[i]? = _;rw [Yd,Zdu,he];rfl) ⟨e2 q oq hqI h1,e1⟩ e2
 | led=>
  obtain ⟨h1,slot,h2,h3,h4⟩:=h
  obtain hbt:=hF.1
  obtain hled:=hF.2.1
  obtain hsz:=hF.2.2
  obtain rfl:i=0:=Nat.eq_zero_of_le_zero (Nat.le_of_lt_succ (Ym hi hsz))
  have hs1:es.size=1:=Ziz hsz hi
  obtain ⟨j,hj⟩:=Zp3 hI.fits hs1
  obtain rfl:=h3 rfl
  obtain ⟨e,he⟩:∃ e,es[0]? = some e:=⟨_,Xn hi⟩
  exact Ztb h1 h2 hd hI.fits (Zt1 (slot:=0) h1 hd hI.fits hbt hled hs1 hj he) fun h' e1 e2=>hQ _ h' (by show (es.toList.map _)[0]? = _;rw [Yd,Zdu,he];rfl) ⟨e2 q oq hqI h1,j + 1,e1,nofun,fun J=>(by rw [hj];rfl)⟩ e2
theorem Yiy {q I:Addr}{oq:Obj}{es:Array (Int×Value)}{ep:Nat}{t:SetTable}{md:Zeq}{Q:Option Value->Zd->Prop}(hh:A.handled=none)(hn:0 < es.size)(hd:oq.data= .set es ep t)(hI:TInv t es.size)(hF:SF w es t md)(h:SI q I oq es ep t md es.size s.heap)
  (hQ:∀ h',(∀ b o,b≠I->s.heap.get? b=some o->h'.get? b=some o)->Q none { s with heap:=h' }):wpAny (model prog w) A (Za3 (.ref I)) Q E s:=by
 cases md with
 | drawn tp ixs=>
  obtain h1:=h.1
  obtain h2:=h.2.1
  obtain h3:=h.2.2
  have hj:ixs[es.size]? = none:=Zbf (by rw [show ixs.length=es.size from (Ym6.length_eq hF).trans Kg];exact Zm _)
  refine Zj6 h1 h2 hd hI.fits ((wbQ h3 rfl ?_))
  simp only [Km,Z0,Yd,hj,Option.map_none]
  refine (wbU h2 rfl (Za rfl) ?_)
  exact Zpn (A:=A.in1) (s:={ s with heap:=s.heap.update I (Zhg (·.setIfInBounds 0 (Uz 0))) }) hh (Zmh (k:=0) (v:=Uz 0) h2) rfl (show 2 < 5 by decide) fun h' ex=>hQ h' fun b o hb e=>ex b o hb (((ZV ..).2 b hb).trans e)
 | text=>
  have hs:=fun {A}=>Zp1 (prog:=prog) (A:=A) (slot:=0) (i:=es.size) h.1 hd hI.fits hF
  rw [Zda (ZX Zpx)] at hs
  exact Ztc hh h.1 h.2 hd hI.fits hs hQ
 | led=>
  obtain ⟨h1,slot,h2,h3,h4⟩:=h
  obtain ⟨e,he⟩:∃ e,es[0]? = some e:=⟨_,Xn hn⟩
  have hs1:es.size=1:=Ziz (hF.2.2) hn
  have hslot:=h4 hs1
  have hz0:=Zp3 hI.fits hs1
  let j:=hz0.choose
  have hj:=(hz0.choose_spec)
  replace hslot:=(hj)▸hslot
  obtain rfl:slot=j + 1:=hslot
  have hs:=fun {A}=>Zt1 (prog:=prog) (A:=A) (slot:=j + 1) (i:=es.size) h1 hd hI.fits (hF.1) (hF.2.1) hs1 hj he
  rw [if_pos (Yq j)] at hs
  exact Ztc hh h1 h2 hd hI.fits hs hQ
end
end
section
section
variable {prog:YL}{w:World}
noncomputable def Zeq.off (I:Addr)(h:Heap):Zeq->Prop
 | .drawn tp _=>tp≠I/\h.get? tp=none
 | _=>True
theorem Yft {q:Addr}{keys:List Tx}{oq:Obj}{es:Array (Int×Value)}{ep:Nat}{t:SetTable}{Q:Value->Zd->Prop}(ho:s.heap.get? q=some oq)(hc:oq.cls= .type "set")(hd:oq.data= .set es ep t)(hI:TInv t es.size)
  (hled:t.led=true\/w.params.followText "set-order" = true) (hpl:t.plain=false) (h3:es.size<=3)
  (hQ:∀ I md h' d',(∀ b o,s.heap.get? b=some o->h'.get? b=some o)->s.heap.get? I=none->md.off I s.heap->SF w es t md->SI q I oq es ep t md 0 h'->Q (.ref I) { s with heap:=h',drawn:=d' }) :
  wpAny (model prog w) A (Yau (.ref q)) Q E s:=by
 have hT:s.TypeIs (.ref q) "set":=⟨_,ho,hc⟩
 refine wpAny_pyIter_slot hT F.slot_set_iter (Y9 F.slot_set_iter hT Znr ?_ (F.args_set_iter_1 _))
 refine Zc ((wbP ?_))
 refine Ze ?_
 refine Zc (Zc (wpAny_setEntries_of ho hd hI.fits (Ze ?_)))
 refine Zc (Zc (I9 ho hd hI.fits (Zc ((wbA (Ze ?_))))))
 refine Ze ?_
 have fin:∀ (first:Value) (j0:Zd) (hk:∀ b o,s.heap.get? b=some o->j0.heap.get? b=some o),wpAny (model prog w) A.in1 (do ret (<-newFields "set_iterator" [first,Uz 0,.ref q,Uz es.size,Uz (<-setEpoch q)])) (fun f s'=>∃ v,f= .done (.ret v)/\v= .ref j0.heap.objs.size/\s'={ j0 with heap:=j0.heap.push (Zgk first 0 q es.size ep) }) E j0:=by
  intro first j0 hk
  refine Zc (wpAny_setEpoch_of (hk _ _ ho) hd hI.fits ?_)
  refine Zc (Z7 ?_ (by size_fits))
  exact Ze ⟨_,rfl,rfl,rfl⟩
 show wpAny _ _ (if (!(model prog w).w.params.followText "set-order"&&(!t.plain&&decide (es.size > 1)))=true then _ else _) _ _ _
 by_cases hb:w.params.followText "set-order" = true
 ·rw [if_neg (by rw [show (model prog w).w.params.followText "set-order" = true from hb];simp)]
  refine (wbP ?_)
  refine Zy (fin (Uz 0) s fun J J e=>e) (fun f s' hw4=>?_) fun J J e=>e
  obtain ⟨v,e1,e2,e3⟩:=hw4
  subst e1 e2 e3
  refine ⟨_,rfl,"set_iterator",_,⟨_,Zq _ rfl,rfl⟩,Zb3.lookup,?_⟩
  exact hQ s.heap.objs.size .text _ s.drawn (fun b o e=>Zg _ e) (Yy _) trivial hb ⟨Zg _ ho,Zq _ rfl⟩
 ·have hb':w.params.followText "set-order" = false:=by simpa using hb
  by_cases hz:es.size > 1
  ·rw [if_pos (by rw [show (model prog w).w.params.followText "set-order" = false from hb',hpl];simp [hz])]
   refine Zc (Znt es.size (Ub es.size) s _ (by simp) fun ys d hp=>?_)
   refine Zc (Z7 ?_ ?_)
   ·refine Zy (fin (.ref s.heap.objs.size) ⟨s.heap.push { cls:=.type "tuple",data:=.seq (ys.map fun (i:Nat)=>Uz i).toArray },s.gens,d,s.toks,s.os⟩ fun b o e=>Zg _ e) (fun f s' hw0=>?_) fun J J e=>e
    obtain ⟨v,e1,e2,e3⟩:=hw0
    subst e1 e2 e3
    refine ⟨_,rfl,"set_iterator",_,⟨_,Zq _ rfl,rfl⟩,Zb3.lookup,?_⟩
    refine hQ (s.heap.push _).objs.size (.drawn s.heap.objs.size ys) _ d (fun b o e=>Zg _ (Zg _ e)) ?_ ⟨?_,Yy _⟩ hp ⟨Zg _ (Zg _ ho),Zq _ rfl,?_⟩
    ·cases e:s.heap.get? (s.heap.push { cls:=.type "tuple",data:=.seq (ys.map fun (i:Nat)=>Uz i).toArray:Obj}).objs.size with
     | none=>rfl
     | some o=>
      have:=ZL e
      rw [Zb2] at this
      exact absurd this (Ug.mpr (ZW _))
    ·rw [Zb2];exact Z3 (Yq _)
    ·exact Zg _ (Zq _ rfl)
   ·have:=hp.length_eq
    rw [Kg] at this
    show (ys.map _).toArray.size<=Zi8
    simp only [Zdf,Zh,this]
    rw [Zdr];omega
  ·rw [if_neg (by rw [show (model prog w).w.params.followText "set-order" = false from hb'];simp [hz])]
   refine (wbP ?_)
   refine Zy (fin (Uz 0) s fun J J e=>e) (fun f s' hw2=>?_) fun J J e=>e
   obtain ⟨v,e1,e2,e3⟩:=hw2
   subst e1 e2 e3
   refine ⟨_,rfl,"set_iterator",_,⟨_,Zq _ rfl,rfl⟩,Zb3.lookup,?_⟩
   exact hQ s.heap.objs.size .led _ s.drawn (fun b o e=>Zg _ e) (Yy _) trivial ⟨hb',hled.resolve_right hb,Nat.le_of_not_lt hz⟩ ⟨Zg _ ho,0,Zq _ rfl,fun J=>rfl,fun h=>by cases h⟩
end
end
section
section
variable {prog:YL}{w:World}
theorem Yhv:Yiq "set.__len__" = some ("set","__len__"):=by kernel_rfl
theorem Zs1:Zex (.type "set") (.type "set")=pure true:=by rw [Za4];kernel_rfl
theorem Yf0 {q:Addr}{Q:Bool->Zd->Prop}(hT:s.TypeIs (.ref q) "set")(h:Q false s):wpAny (model prog w) A (Builtin.List.listLengthHint (.ref q)) Q E s:=by
 refine (wbO hT F.slot_set_len.lookup ?_)
 refine (wbI hT Zs1 ?_)
 exact (wbT hT (Ze h))
theorem SI.keep {q I:Addr}{oq:Obj}{es:Array (Int×Value)}{ep:Nat}{t:SetTable}{md:Zeq}{i:Nat}{h h':Heap}(x:SI q I oq es ep t md i h)(hq:∀ o,h.get? q=some o->h'.get? q=some o)(hI:∀ o,h.get? I=some o->h'.get? I=some o)
  (ht:∀ tp ixs,md= .drawn tp ixs->∀ o,h.get? tp=some o->h'.get? tp=some o):SI q I oq es ep t md i h':=by
 cases md with
 | drawn tp ixs=>exact ⟨hq _ x.1,hI _ x.2.1,ht _ _ rfl _ x.2.2⟩
 | text=>exact ⟨hq _ x.1,hI _ x.2⟩
 | led=>obtain ⟨x1,sl,x2,x3⟩:=x;exact ⟨hq _ x1,sl,hI _ x2,x3⟩
theorem Yhd {q:Addr}{es:Array (Int×Value)}{ep:Nat}{t:SetTable}{md:Zeq}(h:SF w es t md):(SL w q es ep md).length=es.size:=by
 rw [(Zzq (q:=q) (ep:=ep) h).length_eq,Zh,Xy]def Zfq (w:World)(q I S:Addr)(oq:Obj)(es:Array (Int×Value))(ep:Nat)(t:SetTable)(md:Zeq):Prop:=(q≠I)/\(∀ tp ixs,md= .drawn tp ixs->tp≠I)/\(S≠q)/\(S≠I)/\(∀ tp ixs,md= .drawn tp ixs->tp≠S)/\(0 < es.size)/\(es.size<=3)/\(oq.data= .set es ep t)/\TInv t es.size/\SF w es t md
def Zfq.qI {I}(z:@Zfq w q I S oq es ep t md):=z.1
def Zfq.tI {I}(z:@Zfq w q I S oq es ep t md):=z.2.1
def Zfq.Sq {I}(z:@Zfq w q I S oq es ep t md):=z.2.2.1
def Zfq.SI {I}(z:@Zfq w q I S oq es ep t md):=z.2.2.2.1
def Zfq.St {I}(z:@Zfq w q I S oq es ep t md):=z.2.2.2.2.1
def Zfq.n {I}(z:@Zfq w q I S oq es ep t md):=z.2.2.2.2.2.1
def Zfq.h3 {I}(z:@Zfq w q I S oq es ep t md):=z.2.2.2.2.2.2.1
def Zfq.d {I}(z:@Zfq w q I S oq es ep t md):=z.2.2.2.2.2.2.2.1
def Zfq.I {I}(z:@Zfq w q I S oq es ep t md):=z.2.2.2.2.2.2.2.2.1
def Zfq.F {I}(z:@Zfq w q I S oq es ep t md):=z.2.2.2.2.2.2.2.2.2
theorem Zuc {q I S:Addr}{oq:Obj}{es:Array (Int×Value)}{ep:Nat}{t:SetTable}{md:Zeq}(hh:A.handled=none)(C:Zfq w q I S oq es ep t md)
  {res:Value} {R:Zbm->Zd->Prop} {s₀:Zd}
  (hR:∀ h' c,(∀ b o,b≠S->b≠I->s₀.heap.get? b=some o->h'.get? b=some o)->h'.get? S=some { cls:=.type "list",data:=.seq (SL w q es ep md).toArray c }->R (.ok (.ret res)) { s₀ with heap:=h' }) (m:Nat) :
  ∀ (i:Nat) (h:Heap) (c:Nat),es.size=i + m->(∀ b o,b≠S->b≠I->s₀.heap.get? b=some o->h.get? b=some o)->SI q I oq es ep t md i h->h.get? S=some { cls:=.type "list",data:=.seq ((SL w q es ep md).take i).toArray c }->
   codeAny (model prog w) A (.builtin "list.extend.loop" ⟨[.ref S,.ref I,res],[]⟩) R { s₀ with heap:=h }:=by
 induction m with
 | zero=>
  intro i h c hi hk hs hS
  obtain rfl:es.size=i:=hi
  refine XX Zqh ?_
  refine Zc (m:=Za3 (.ref I)) (Yiy (A:=A.in1) (s:={ s₀ with heap:=h }) hh C.n C.d C.I C.F hs fun h' k'=>Ze (hR h' c (fun b o h1 h2 e=>k' b o h2 (hk b o h1 h2 e)) ?_))
  rw [k' S _ C.SI hS,Zii (ZX (Yhd C.F))]
 | succ m ih=>
  intro i h c hi hk hs hS
  refine XX Zqh ?_
  refine Zc (m:=Za3 (.ref I)) (Yix (A:=A.in1) (s:={ s₀ with heap:=h }) C.qI C.tI C.d C.I C.F (hi▸Zal (Z8 _)) hs fun v h' hv hs' k'=>?_)
  have hS':=k' S _ C.SI hS
  have hlen:((SL w q es ep md).take i).toArray.size<=100000:=Zb (Zef ..) (Yhd (q:=q) (ep:=ep) C.F▸Zb C.h3 (Za rfl))
  refine Zc (m:=Zmg S (·.push v)) (XS hS' rfl (Ze ⟨Uw Zqg _,ih (i + 1) _ (c + 1) (hi.trans (Zhh i m).symm) (fun b o h1 h2 e=>(Xq _ _ (Yck h1)).trans (k' b o h2 (hk b o h1 h2 e))) (hs'.keep (fun o e=>(Xq _ _ C.Sq).trans e) (fun o e=>(Xq _ _ C.SI).trans e) (fun tp ixs hm o e=>(Xq _ _ (C.St tp ixs hm).symm).trans e)) ?_⟩)
   (YD hlen) (Zij v▸Zu (YD hlen)))
  refine (Ye (ZZ (·.push v)) hS' rfl).trans ?_
  rw [Zgv,hv]
  simp [ZZ]
theorem Zuh {q:Addr}{keys:List Tx}{R:List Value->Zd->Prop}(hh:A.handled=none)(hS:Ze1 prog w s.heap q keys)(hne:keys≠[])
  (hR:∀ (ks:List Tx) vals h' d,ks.Perm keys->VRs h' (ks.map .str) vals->(∀ b o,s.heap.get? b=some o->h'.get? b=some o)->R vals { s with heap:=h',drawn:=d }):wpAny (model prog w) A (collect (.ref q)) R E s:=by
 refine hS.elim fun oq hr50=>hr50.elim fun es hr51=>hr51.elim fun ep hr52=>hr52.elim fun t hr53=>hr53.elim fun ks x=>?_
 refine Zc (Zz1 (XX PySem.F.entry_proto_collect ?_))
 refine Zc (Z7 ?_)
 refine Ze ⟨Uw PySem.F.plain_list_iadd _,XX entry_list_iadd' ?_⟩
 show wpAny _ A.in1 (Builtin.List.listExtendWith (.ref s.heap.objs.size) (.ref q) (.ref s.heap.objs.size)) _ _ _
 have Q5:(s.heap.push { cls:=.type "list",data:=.seq ([]:List Value).toArray }).get? s.heap.objs.size=some { cls:=.type "list",data:=.seq #[] }:=Zq _ rfl
 have G5:∀ b o,s.heap.get? b=some o->(s.heap.push { cls:=.type "list",data:=.seq ([]:List Value).toArray }).get? b=some o:=fun b o e=>Zg _ e
 have hqS:s.heap.objs.size≠q:=Xr (ZL x.e)
 generalize s.heap.push { cls:=.type "list",data:=.seq ([]:List Value).toArray }=hA at Q5 G5⊢
 have hT:({ s with heap:=hA }:Zd).TypeIs (.ref q) "set":=⟨_,G5 _ _ x.e,x.ex.1⟩
 have h1:Zbp (.ref s.heap.objs.size) (.ref q)=false:=by simp [Zbp,hqS]
 refine (wbT (T:="set") hT ?_)
 refine Y5 (by rw [h1];decide) ?_
 refine Zc (Yft (keys:=keys) (s:={ s with heap:=hA }) (G5 _ _ x.e) x.ex.1 x.d x.inv x.l x.p x.s fun I md h' d' k' nI off hF hsi=>?_)
 have hSI:s.heap.objs.size≠I:=fun e=>nn (e▸nI) Q5
 have htI:∀ tp ixs,md= .drawn tp ixs->tp≠I:=fun tp ixs e=>by subst e;exact off.1
 have hSt:∀ tp ixs,md= .drawn tp ixs->tp≠s.heap.objs.size:=fun tp ixs e=>by subst e;exact fun e2=>nn (e2▸off.2) Q5
 refine (wbH (Yf0 (s:={ s with heap:=h',drawn:=d' }) ⟨_,k' _ _ (G5 _ _ x.e),x.ex.1⟩ ?_))
 refine K7 (by decide +kernel) ?_
 refine (wbR ?_)
 refine Zc ?_
 have O5:=k' _ _ Q5
 have M5:=Ye (ZZ (·.push Xo)) O5 rfl
 refine Zc (XS O5 rfl ?_ (by rw [Zdr];decide) (by rw [Zdr];decide))
 refine XS M5 rfl ?_ (by rw [Zdr];decide) (by rw [Zdr];decide)
 have oth:∀ b o,b≠s.heap.objs.size->h'.get? b=some o->((h'.update s.heap.objs.size (ZZ (·.push Xo))).update s.heap.objs.size (ZZ (·.pop))).get? b=some o:=fun b o hb e=>
  (Xq _ _ (Yck hb)).trans ((Xq _ _ (Yck hb)).trans e)
 refine Ze ⟨Uw Zqg _,?_⟩
 refine Zuc (s₀:={ s with heap:=h',drawn:=d' }) hh ⟨(fun e=>nn (e▸nI) (G5 _ _ x.e)),htI,hqS,hSI,hSt,(x.size▸Yhj.mpr hne),x.s,x.d,x.inv,hF⟩ (fun h2 c k2 g2=>?_) es.size 0 _ _ (Ua _).symm (fun b o h1 J e=>oth b o h1 e) (hsi.keep (fun o e=>oth _ o hqS.symm e) (fun o e=>oth _ o hSI.symm e) fun tp ixs hm o e=>oth _ o (hSt tp ixs hm) e) (Ye (ZZ (·.pop)) M5 rfl)
 refine (wbL g2 (Ze ?_))
 have kall:∀ b o,s.heap.get? b=some o->h2.get? b=some o:=fun b o e=>k2 b o (Z3 (ZL e)) (fun e2=>nn (e2▸nI) (G5 _ _ e)) (k' _ _ (G5 _ _ e))
 exact (Zka (Zzq (q:=q) (ep:=ep) hF).symm x.r).rec fun {ks'} pk r'=>hR ks' _ h2 d' (pk.trans x.k) (r'.mono fun b o e J=>kall b o e) kall
end
end
section
section
variable {prog:YL}{w:World}
theorem Zrk (a b:Addr):Builtin.«list.__lt__» ⟨[.ref a,.ref b],[]⟩=(do
  if !(<-UG (.ref b) (.type "list")) then return <-ret .notImplemented
  again (.builtin "list.__eq__.loop" ⟨[.ref a,.ref b,Uz 0,Uz 0],[]⟩)):=by kernel_rfl
theorem Ynr:Zex (.type "list") (.type "list")=pure true:=by rw [Za4];kernel_rfl
theorem Zrx {a b:Addr}{x y:Str}{t u:Tok}{Q:Value->Zd->Prop}(ha:s.heap.IsList a #[.str x t])(hb:s.heap.IsList b #[.str y u])(h:∀ r:Bool,Q (.bool r) s):wpAny (model prog w) A (call (.builtin "list.__lt__") [.ref a,.ref b]) Q E s:=by
 refine (id ha).elim fun oa hr50=>hr50.elim fun hoa hr51=>hr51.elim fun hca hr52=>hr52.elim fun na hda=>?_
 refine (id hb).elim fun ob hr50=>hr50.elim fun hob hr51=>hr51.elim fun hcb hr52=>hr52.elim fun nb hdb=>?_
 have it:∀ (a:Addr) (o:Obj) (v:Array Value) (n:Nat),s.heap.get? a=some o->o.data= .seq v n->∀ {A:Yg} {E:Value->Zd->Prop} {Q:Array Value->Zd->Prop},Q v s->wpAny (model prog w) A (I8 (.ref a)) Q E s:=fun a o v n ho hd J J J hq=>Yjq ho hd hq
 refine Ux (Zfj Zxn.plain F.entry_list_lt (Zxn.check _ _ _ _ _ _ _ _ (⟨_,hoa,hca⟩) (F.args_list_lt_2 _ _) ?_))
 rw [Zrk]
 refine Zc (m:=UG (.ref b) (.type "list")) (Zi3 (⟨_,hob,hcb⟩) Ynr ?_)
 refine Ze ⟨Uw Zqm _,XX Zqn ?_⟩
 refine Zc (it a oa _ na hoa hda (Zc (it b ob _ nb hob hdb ?_)))
 refine Zc (wpAny_eqBool_str ?_)
 by_cases hxy:x=y
 ·refine K7 (by simpa using hxy) ?_
  refine Ze ⟨Uw Zqm _,XX Zqn ?_⟩
  refine Zc (it a oa _ na hoa hda (Zc (it b ob _ nb hob hdb ?_)))
  exact Zc (it a oa _ na hoa hda (Zc (it b ob _ nb hob hdb (Ze (h _)))))
 ·refine Y5 (by simpa using hxy) ?_
  refine Zc (it a oa _ na hoa hda (Zc (it b ob _ nb hob hdb ?_)))
  refine Zc ?_
  exact (show wpAny (model prog w) A.in1 (Zg2 .Lt (.str x t) (.str y u)) _ _ s from PySem.P.lt_str (Ze (h _)))
theorem Zt5 {a b:Addr}{x y:Str}{t u:Tok}{Q:Bool->Zd->Prop}(hu:A.units < cLine)(ha:s.heap.IsList a #[.str x t])(hb:s.heap.IsList b #[.str y u])(h:∀ r:Bool,Q r s):wpAny (model prog w) A (keyLt' oneType' (.ref a) (.ref b)) Q E s:=by
 refine (id ha).elim fun oa hr50=>hr50.elim fun hoa hr51=>hr51.elim fun hca hr52=>hr52.elim fun na hda=>?_
 refine Zc (wpAny_cRoomFor hu ?_)
 refine Zc (wpAny_callSpecialIfBound?_slot (name:=Zz "__lt__") (⟨_,hoa,hca⟩) Zxn (Zrx ha hb fun r=>?_))
 exact Zqx (h r)
end
end
section
variable {n:Nat}
inductive Zr5 (c:Nat)(Q:V->Hp->Prop):V->Hp->Prop | mk {x σ} (h:c∉x) (q:∀ a,σ a=none->Q (.ref a) (upd σ a (.list [.str x]))):Zr5 c Q (.str x) σ
def Zgd (f:FX)(c:Nat):FX:=fun Δ lv cv Q σ=>f Δ lv cv (Zr5 c Q) σ
theorem Zr5.e {c Q v σ}(k:Zr5 c Q v σ):∃ x,v= .str x/\c∉x/\∀ a,σ a=none->Q (.ref a) (upd σ a (.list [.str x])):=k.rec fun h q=>⟨_,rfl,h,q⟩
theorem Zs7 {x:Tx}{c:Nat}{t u v:Tok}{prog:YL}{w:World}{Q:XF->Zd->Prop}(hc:c∉x)(h:Q (.done (.ret (.ref s.heap.objs.size))) { s with heap:=s.heap.push { cls:=.type "list",data:=.seq [Ue (sT x) t].toArray } }) :
  wpAny (model prog w) A (Builtin.«str.split» ⟨[.str (sT x) t,.str (sT [c]) u,.int 1 v],[]⟩) Q E s:=by
 refine (split_sep_max_tree (sT x) (sT [c]) 1 t u v rfl).elim fun raising e=>?_
 have one:wpAny (model prog w) A (do ret (<-newList [.str (sT x) t])) Q E s:=Zc (Zik (Ze h) (YD (show (1:Nat)<=100000 by decide)))
 rw [e]
 have occ:(Builtin.Str.occurrences (sT x) (sT [c]) 0 (sT x).length (limitOf (sT x) 1)).isEmpty=true:=by
  have h1:=Zll (sT x) c
  have h2:limitOf (sT x) 1=1:=rfl
  rw [h2]
  rw [(decide_eq_false (hc))] at h1
  simpa using h1
 split
 ·exact (wbR one)
 ·rw [if_neg (by simp [sT,Ykv]),if_pos (by rw [occ];rfl)]
  exact (wbR one)
theorem Yn1 {o:Xh}{name y':Str}{c:Nat}{apos pos p1 p2:Pos}{k1 k2}{f:FX}(a:SX sc o f)(hy:sT [c]=y')(hn:name=Zz "split")
  (hb:∀ env whole,attributeBase o name env whole=whole) (hline:(apos.endLine == pos.line)=true):SX sc (.Call (.Attribute o name apos) [.Constant (.str y') k1 p1,.Constant (.int 1) k2 p2] [] pos) (Zgd f c):=by
 subst hy hn
 intro G Δ n env A X st s Q E ht R h
 refine Zbk (hb _ _) rfl (show (2:Nat) < 20 by decide) hline (a.then X ht R h fun v xv W0 j0 V1 J0 V0 J2 h pl=>?_)
 obtain ⟨x,rfl,e2,q⟩:=h.e
 refine J2.sE fun tk0=>Zad (Zcq _ _ _) Kr Zu0 (by kernel_rfl) (fun a e=>nomatch e) ?_
 refine YT rfl (YS rfl (Z6 (Zcz (k:=k1) (pos:=p1) (Z6 (Zor (k:=k2) (pos:=p2) (Yi (Ze ?_)))))))
 refine Y9 Zu0 (Zcq _ _ _) PySem.F.entry_str_split (Zs7 e2 ⟨_,rfl,?_⟩) (PySem.F.args_str_split_3 _ _ _)
 have k:=J0.ext (h':=j0.heap) (t:=j0.toks + 1 + 1) (d:=j0.drawn) fun J J e=>e
 exact ((PV.list k.1 (VRs.one (.str _ _)) (q ·)).from k.2).from V0
noncomputable def tOK (n:Nat)(P:Array Nat->Bool):KasT (Array Nat)->Bool
 | .ret a=>P a
 | .ask i j k=>decide (i < n)&&(decide (j < n)&&(tOK n P (k true)&&tOK n P (k false)))
theorem Zq2 {n:Nat}{P:Array Nat->Bool}{cmp:Nat->Nat->(Bool->Zd->Prop)->Zd->Prop}{I:Zd->Prop}{Q:Array Nat->Zd->Prop}(hc:∀ i j C s,i < n->j < n->I s->(∀ b s',I s'->C b s')->cmp i j C s)(hQ:∀ a s,P a=true->I s->Q a s) :
  ∀ (t:KasT (Array Nat)) (s:Zd),tOK n P t=true->I s->t.kasWp cmp Q s
 | .ret a,s,h,hI=>hQ a s h hI
 | .ask i j k,s,h,hI=>by
  simp only [tOK,Xx,decide_eq_true_eq] at h
  refine hc i j _ s h.1 h.2.1 hI fun b s' hI'=>?_
  cases b
  ·exact Zq2 hc hQ (k false) s' h.2.2.2 hI'
  ·exact Zq2 hc hQ (k true) s' h.2.2.1 hI'
theorem Ydm:tOK 3 (fun a=>a.toList.isPerm [0,1,2]) (kas_sort 3)=true:=by decide +kernel
theorem sort2_ok:tOK 2 (fun a=>a.toList.isPerm [0,1]) (kas_sort 2)=true:=by decide +kernel
end
section
variable {n:Nat}
theorem Zun (R:RS G env st s){a:Addr}(h:(G.B.get? a).isSome):a≠env.locals:=fun q=>R.fr.elim fun J F=>(Z2.mp h).elim fun o e=>
 absurd (Ym (q▸ZL e) F.1.above) (Un _)
theorem RS.chgL (R:RS G env st s){m:Str->Option Value}(fl:∀ i v,st.lv i=some v->∃ x,m (nm i)=some x/\VR s.heap v x)(F':Fr G.B env.locals s'.heap m){P:List Addr}(O:∀ a∈P,Off G env st a)(hni:∀ a∈P,∀ o,s.heap.get? a=some o->¬ imm o)
  (k:∀ b o,b∉P->b≠env.locals->s.heap.get? b=some o->s'.heap.get? b=some o) (hg:s'.gens=s.gens) (ho:s'.os=s.os):RS G env st s':=
 have ik:Imk s.heap s'.heap:=fun b o e hi=>k b o (fun q=>hni b q o e hi) (R.off_imm e hi).2.1 e
 ⟨⟨m,F',Zdc ik fl⟩,fun b o e=>⟨(R.den b o e).1.mono ik fun ob eb=>k b ob (fun q=>nn (O _ q).σ e) (R.den b o e).2.2 eb,(R.den b o e).2⟩,R.cel,fun p h=>
  have z:=R.tab p h
  have k1:=fun o=>k p.1 o (fun q=>nS (O _ q).base z.c0) (Zun R z.c0)
  have k2:=fun o=>k p.2 o (fun q=>(O _ q).tab p.1 h) z.l0
  ⟨z.t.imp fun J y=>⟨Zzb k1 k2 y.1,y.2.but ik k1 k2⟩,z.s0,z.l0,z.b0,z.c0⟩,hg▸R.bare,ho.trans R.os⟩
theorem Stp.chgL {st₀:St}(S:Stp G env st₀ st s₀ s){m:Str->Option Value}(F':Fr G.B env.locals s'.heap m){P:List Addr}(hP:∀ a∈P,s₀.heap.get? a=none)(k:∀ b o,b∉P->b≠env.locals->s.heap.get? b=some o->s'.heap.get? b=some o)(hg:s'.gens=s.gens):Stp G env st₀ st s₀ s':=
 have ne:∀ b o,s₀.heap.get? b=some o->b∉P:=fun b o e q=>nn (hP b q) e
 ⟨fun b o e h1 h2 h3=>k b o (ne b o e) h2 (S.keep b o e h1 h2 h3),fun b o e=>if q:b=env.locals then F'.ns.elim fun J z=>z.elim fun J z=>z.elim fun J z=>q▸iS z.1 else (Z2.mp (S.live b o e)).elim fun o' e'=>iS (k b o' (ne b o e) q e'),S.new,fun g x e=>hg▸S.gens g x e⟩
noncomputable def Kd (G:GC)(L:Addr)(h:Heap)(ex:List Addr):List (Addr×Obj):=
 (Ub h.objs.size).filterMap fun b=>if b∈ex\/b=L\/(G.B.get? b).isSome then none else (h.get? b).map fun o=>(b,o)def Zkx (G:GC)(L:Addr)(h:Heap)(ex:List Addr)(p:Addr×Obj):Prop:=(h.get? p.1=some p.2)/\(p.1∉ex)/\(p.1≠L)/\(G.B.get? p.1=none)def Zkx.e (z:@Zkx G L h ex p):=z.1
def Zkx.x (z:@Zkx G L h ex p):=z.2.1
def Zkx.l (z:@Zkx G L h ex p):=z.2.2.1
def Zkx.b (z:@Zkx G L h ex p):=z.2.2.2
theorem Zek {L:Addr}{h:Heap}{ex:List Addr}{p:Addr×Obj}:p∈Kd G L h ex↔Zkx G L h ex p:=by
 unfold Kd
 rw [List.mem_filterMap]
 constructor
 ·intro hw0
  obtain ⟨b,hb,e⟩:=hw0
  by_cases q:b∈ex\/b=L\/(G.B.get? b).isSome
  ·rw [if_pos q] at e;exact nomatch e
  ·rw [if_neg q] at e
   obtain ⟨o,ho,rfl⟩:=Yz.mp e
   exact ⟨ho,fun z=>q (.inl z),fun z=>q (.inr (.inl z)),Sn fun y z=>q (.inr (.inr (iS z)))⟩
 ·intro w
  refine ⟨p.1,Zdg.mpr (ZL w.e),?_⟩
  rw [if_neg fun q=>q.elim w.x fun q=>q.elim w.l (nS w.b),w.e]
  rfl
theorem Zmn {L:Addr}{h:Heap}{ex:List Addr}:News G.B L h (Kd G L h ex):=fun p hp=>have w:=Zek.mp hp;⟨w.e,w.l,w.b⟩
theorem Zp2 {L:Addr}{h h':Heap}{ex:List Addr}{m:Str->Option Value}(F:Fr G.B L h m)(F':Fr G.B L h' m)(N:News G.B L h' (Kd G L h ex)):∀ b o,b∉ex->b≠L->h.get? b=some o->h'.get? b=some o:=fun b o h1 h2 e=>by
 cases q:G.B.get? b with
 | none=>exact (N (b,o) (Zek.mpr ⟨e,h1,h2,q⟩)).1
 | some o'=>exact (F'.keep b o' q).trans (congrArg some (si (F.keep b o' q) e))def KeyR (s:Zd)(x:Tx)(v:Value)(s':Zd)(a:Addr)(u:Tok):Prop:=Chg [] [] s s'/\(0 < s'.toks)/\(v= .ref a)/\(s.heap.get? a=none)/\s'.heap.IsList a #[.str (sT x) u]def KeyR.c (z:@KeyR s x v s' a u):=z.1
def KeyR.t (z:@KeyR s x v s' a u):=z.2.1
def KeyR.e (z:@KeyR s x v s' a u):=z.2.2.1
def KeyR.n0 (z:@KeyR s x v s' a u):=z.2.2.2.1
def KeyR.l (z:@KeyR s x v s' a u):=z.2.2.2.2
inductive Yqh (x:Tx):V->Hp->Prop | mk (a:Addr):Yqh x (.ref a) (upd (fun J=>none) a (.list [.str x]))
theorem Zyy (C:GOK G){f:Addr}{fd:YF}{scL:Sc}{p:Nat}{x:Tx}{t:Tok}(hA:AOK A 4)(ht:0 < s.toks)(R:RS G env st s)(hf:st.σ f=some (.fn fd))(L:Zc5 fd scL p [] (Zgd (xLc p) 125))(hx:125∉x) :
  W G A (call (.ref f) [.str (sT x) t]) (fun v s'=>∃ a u,KeyR s x v s' a u) E s:=by
 refine L.e.elim fun e0 hr50=>hr50.elim fun LA hb=>?_
 refine (R.den _ _ hf).1.rec fun {o} ho hd hco=>?_
 have c:wpAny (model G.prog G.w) A (call (.ref f) [.str (sT x) t]) (fun v s'=>Yld (G0 G) env (st0 st.lv) s (Yqh x) v s') E s:=Ux (Zt4 (G:=G0 G) (E:=E) (bs:=[(p,.str x)]) (Ypg C) dv0 ho hd hco LA hb L.clo ⟨L.bind s _,rfl,VRs.one (.str x t)⟩ (Zi.mpr ⟨L.loc,Yp _⟩) hA ht R.zero (Q:=Yqh x)
    ⟨show List.lookup p [(p,V.str x)]=some (V.str x) from (Zb9 p p (V.str x) []).trans (if_pos rfl),.mk hx fun a ha=>.mk a⟩)
 refine Zy (tk ht c) (fun v s' z=>?_) fun J J e=>e
 refine z.1.1.elim fun u hr50=>hr50.elim fun σ' P=>?_
 obtain sm:=z.1.2
 obtain t':=z.2
 have q:=P.q
 revert P
 refine q.rec fun a P=>?_
 have ea:upd (fun J=>none) a (Internal.O.list [V.str x]) a=some (.list [V.str x]):=Zcc
 refine (P.R.den a _ ea).1.rec fun {l} p r=>?_
 revert p
 refine r.oE fun y ry=>ry.sE fun u hp=>?_
 exact P.r.rE ⟨a,u,⟨fun b o J e=>sm b o e rfl (fun J h=>(nomatch h)),fun k y J e=>P.S.gens k y e,fun J=>P.R.bare,P.R.os.trans R.os.symm,fun J=>t'⟩,t',rfl,((P.S.new a (iS ea)).elim (fun h=>nS rfl h) id),hp.isList⟩
end
section
variable {st₀:St}{n:Nat}{m:Str->Option Value}
structure Zn8 (G:GC)(env:Env)(st st₀:St)(s₀:Zd)(m:Str->Option Value)(s s':Zd):Prop where
 rs:RS G env st s'
 stp:Stp G env st₀ st s₀ s'
 tok:0 < s'.toks
 fr:Fr G.B env.locals s'.heap m
 ik:Imk s.heap s'.heap
theorem Zn8.upd (K:Zn8 G env st st₀ s₀ m s s')(fl:∀ i v,st.lv i=some v->∃ x,m (nm i)=some x/\VR s.heap v x){a:Addr}{h:Heap}(F:Fr G.B env.locals h m)(N:News G.B env.locals h (Kd G env.locals s'.heap [a]))(O:Off G env st a)
  (hni:∀ o,s'.heap.get? a=some o->¬ imm o) (ha:s₀.heap.get? a=none):Zn8 G env st st₀ s₀ m s { s' with heap:=h }:=
 have k:=Zp2 K.fr F N
 have hn:∀ b∈[a],∀ o,s'.heap.get? b=some o->¬ imm o:=fun b hb=>YX hb▸hni
 ⟨K.rs.chgL (P:=[a]) (Zdc K.ik fl) F (fun b hb=>YX hb▸O) hn k rfl rfl,K.stp.chgL (P:=[a]) F (fun b hb=>YX hb▸ha) k rfl,K.tok,F,fun b o e hi=>have e':=K.ik b o e hi;k b o (fun q=>hn b q o e' hi) (K.rs.off_imm e' hi).2.1 e'⟩
theorem Zn8.keep (K:Zn8 G env st st₀ s₀ m s s'){a:Addr}{h:Heap}(F:Fr G.B env.locals h m)(N:News G.B env.locals h (Kd G env.locals s'.heap [a])):∀ b o,b≠a->b≠env.locals->s'.heap.get? b=some o->h.get? b=some o:=
 fun b o h1 h2 e=>Zp2 K.fr F N b o (fun q=>h1 (YX q)) h2 e
def KyW (kS D L:Addr)(h:Heap)(v:Value)(a:Addr)(x:Str)(t:Tok):Prop:=(v= .ref a)/\h.IsList a #[.str x t]/\(a≠kS)/\(a≠D)/\(a≠L)def KyW.e (z:@KyW kS D L h v a x t):=z.1
def KyW.i (z:@KyW kS D L h v a x t):=z.2.1
def KyW.k (z:@KyW kS D L h v a x t):=z.2.2.1
def KyW.d (z:@KyW kS D L h v a x t):=z.2.2.2.1
def KyW.l (z:@KyW kS D L h v a x t):=z.2.2.2.2
def KeyL (kS D L:Addr)(h:Heap)(v:Value):Prop:=∃ a x t,KyW kS D L h v a x t
def Zsd (G:GC)(env:Env)(st:St)(s₀:Zd)(kS D:Addr):Prop:=Off G env st kS/\(s₀.heap.get? kS=none)/\(D≠kS)/\(D≠env.locals)def Zsd.O (z:@Zsd G env st s₀ kS D):=z.1
def Zsd.k0 (z:@Zsd G env st s₀ kS D):=z.2.1
def Zsd.Dk (z:@Zsd G env st s₀ kS D):=z.2.2.1
def Zsd.DL (z:@Zsd G env st s₀ kS D):=z.2.2.2
def Zpd (G:GC)(env:Env)(st st₀:St)(s₀:Zd)(m:Str->Option Value)(s:Zd)(kS D:Addr)(e1:Nat)(ks:List Value)(e:Nat)(s':Zd):Prop:=Zn8 G env st st₀ s₀ m s s'/\(s'.heap.get? kS=some (Uc "list" ks.toArray e))/\(s'.heap.get? D=some (Uc "list" #[] e1))/\(∀ v∈ks,KeyL kS D env.locals s'.heap v)def Zpd.K (z:@Zpd G env st st₀ s₀ m s kS D e1 ks e s'):=z.1
def Zpd.k (z:@Zpd G env st st₀ s₀ m s kS D e1 ks e s'):=z.2.1
def Zpd.dd (z:@Zpd G env st st₀ s₀ m s kS D e1 ks e s'):=z.2.2.1
def Zpd.h (z:@Zpd G env st st₀ s₀ m s kS D e1 ks e s'):=z.2.2.2
theorem Zb4 {l:Array Value}{n:Nat} : ¬ imm (Uc "list" l n):=Znd rfl Zng
theorem Yjr (C:GOK G){f:Addr}{fd:YF}{scL:Sc}{p:Nat}(hf:st.σ f=some (.fn fd))(Lm:Zc5 fd scL p [] (Zgd (xLc p) 125))(hA:AOK A 4)(fl:∀ i v,st.lv i=some v->∃ x,m (nm i)=some x/\VR s.heap v x)
  {kS D:Addr} {e1:Nat} (KC:Zsd G env st s₀ kS D) {Fin:List Value->Nat->Zd->Prop} {N:Nat} (hFin:∀ ks e s',ks.length=N->Zpd G env st st₀ s₀ m s kS D e1 ks e s'->Fin ks e s') (rk:List Tx) :
  ∀ (r ks:List Value) (e:Nat) (s':Zd),ks.length + rk.length=N->VRs s'.heap (rk.map .str) r->(∀ k∈rk,125∉k)->Zpd G env st st₀ s₀ m s kS D e1 ks e s'->KatKeys G.prog G.w A G.B env.locals m kS (.ref f) Fin r ks e s':=by
 induction rk with
 | nil=>exact fun r ks e s' hn hr J S=>hr.nE (KatKeys.nil (hFin ks e s' hn S))
 | cons x rk ih=>
  intro r ks e s' hn hr hx S
  refine hr.cE fun y r r1 r2=>r1.sE fun t=>?_
  refine KatKeys.cons (Zy (Zyy (E:=fun J J=>False) C hA S.K.tok S.K.rs hf Lm (hx x (.head _))) (fun v j0 z=>?_) fun J J e=>e)
  let a:=z.choose
  have hq0:=z.choose_spec
  have hq1:=hq0.choose_spec
  have w:=hq1
  have keep1:∀ b o,s'.heap.get? b=some o->j0.heap.get? b=some o:=fun b o e=>w.c.heap b o (fun h=>nomatch h) e
  refine (w.e)▸?_
  have K1:Zn8 G env st st₀ s₀ m s j0:=⟨S.K.rs.chg (P:=[]) (GP:=[]) (fun J h=>(nomatch h)) (fun J h=>(nomatch h)) w.c,S.K.stp.chg (P:=[]) (GP:=[]) (fun J h=>(nomatch h)) (fun J h=>(nomatch h)) w.c,w.t,S.K.fr.keeps keep1,fun b o e hi=>keep1 b o (S.K.ik b o e hi)⟩
  have hk1:=keep1 _ _ S.k
  refine KatBack.intro (news:=(kS,Uc "list" ks.toArray e)::Kd G env.locals j0.heap [kS]) (g:=fun o=>(kS,o)::Kd G env.locals j0.heap [kS]) K1.fr (Zi.mpr ⟨⟨hk1,KC.O.loc,KC.O.base⟩,Zmn⟩) (.head fun q hq h=>(Zek.mp hq).x (h▸.head _)) fun h' c F' N'=>?_
  have Nn:News G.B env.locals h' (Kd G env.locals j0.heap [kS]):=fun q hq=>N' q (.tail _ hq)
  have kp:=K1.keep F' Nn
  have haL:a≠env.locals:=fun q=>S.K.fr.ns.elim fun J z=>z.elim fun J z=>z.elim fun J z=>nn w.n0 (q▸z.1)
  have haS:a≠kS:=fun q=>nn w.n0 (q▸S.k)
  have up:∀ {b:Addr} {l:Array Value},b≠kS->b≠env.locals->j0.heap.IsList b l->h'.IsList b l:=fun h1 h2 z=>z.imp fun J z=>⟨kp _ _ h1 h2 z.1,z.2⟩
  refine ih r (ks++[.ref a]) c { j0 with heap:=h' } (by rw [Zf,Xc,Xu [ZR a].length];exact hn) (r2.mono fun b o e hi=>?_) (fun k hk'=>hx k (.tail _ hk')) ⟨K1.upd fl F' Nn KC.O (fun o e=>si hk1 e▸Zb4) KC.k0,(N' (kS,Uc "list" (Yk (ks++[ZR a])) c) (.head _)).1,kp D _ KC.Dk KC.DL (keep1 _ _ S.dd),fun v hv=>?_⟩
  ·have e1:=keep1 _ _ e
   exact kp b o (fun q=>Zb4 (si (q▸e1) hk1▸hi)) (K1.rs.off_imm e1 hi).2.1 e1
  ·exact (Ziq.mp hv).elim (fun hv=>(S.h v hv).imp fun J z=>z.imp fun J z=>z.imp fun J z=>⟨z.e,up z.k z.l (z.i.imp fun J y=>⟨keep1 _ _ y.1,y.2⟩),z.k,z.d,z.l⟩) fun hv=>⟨a,_,(hq0.choose),Xb.mp hv,up haS haL w.l,haS,fun q=>nn w.n0 (q▸S.dd),haL⟩
end
section
variable {st₀:St}{n:Nat}{m:Str->Option Value}
theorem Zwb (vs:List Value):((Ub vs.length).map fun i=>vs.getD i Xo)=vs:=
 Zon (by rw [Zh,Kg]) fun i h1 h2=>by rw [Zhm,List.getElem_range,Up,ZG h2];rfl
theorem Yay {vs:List Value}{p:List Nat}(h:p.Perm (Ub vs.length)):(p.map fun i=>vs.getD i Xo).Perm vs:=(h.map _).trans (.of_eq (Zwb vs))theorem Zt9 {vs:List Value}{i:Nat}(h:i < vs.length):vs.getD i Xo∈vs:=by rw [Up,ZG h];exact Zhl h
theorem Zn8.news {S:Addr}{o:Obj}(K:Zn8 G env st st₀ s₀ m s s')(hk:s'.heap.get? S=some o)(h1:S≠env.locals)(h2:G.B.get? S=none):News G.B env.locals s'.heap ((S,o)::Kd G env.locals s'.heap [S]):=Zi.mpr ⟨⟨hk,h1,h2⟩,Zmn⟩theorem Zfx {S L:Addr}{h:Heap}:∀ q∈Kd G L h [S],q.1≠S:=fun J hq h=>(Zek.mp hq).x (h▸.head _)def SortR (G:GC)(env:Env)(st st₀:St)(s₀:Zd)(D:Addr)(ks:List Tx)(s':Zd)(ks':List Tx)(l:List Value)(c:Nat):Prop:=ks'.Perm ks/\VRs s'.heap (ks'.map .str) l/\(s'.heap.get? D=some (Uc "list" l.toArray c))/\RS G env st s'/\Stp G env st₀ st s₀ s'/\(0 < s'.toks)def SortR.p (z:@SortR G env st st₀ s₀ D ks s' ks' l c):=z.1
def SortR.r (z:@SortR G env st st₀ s₀ D ks s' ks' l c):=z.2.1
def SortR.e (z:@SortR G env st st₀ s₀ D ks s' ks' l c):=z.2.2.1
def SortR.R (z:@SortR G env st st₀ s₀ D ks s' ks' l c):=z.2.2.2.1
def SortR.S (z:@SortR G env st st₀ s₀ D ks s' ks' l c):=z.2.2.2.2.1
theorem Yad (C:GOK G){f:Addr}{fd:YF}{scL:Sc}{p:Nat}(hf:st.σ f=some (.fn fd))(Lm:Zc5 fd scL p [] (Zgd (xLc p) 125))(hA:AOK A 4)(S0:Stp G env st₀ st s₀ s)(R:RS G env st s)(ht:0 < s.toks){D:Addr}{vs:List Value}{ks:List Tx}{c0:Nat}
  (hD:s.heap.get? D=some (Uc "list" vs.toArray c0)) (Od:Off G env st D) (hd0:s₀.heap.get? D=none) (rv:VRs s.heap (ks.map .str) vs) (hlen:ks.length=3) (hx:∀ k∈ks,125∉k) {P:XF->Zd->Prop}
  (h:∀ s' (ks':List Tx) l c,SortR G env st st₀ s₀ D ks s' ks' l c->P (.done (.ret .none)) s'):W G A (ksk_tree D (.ref f) false) P E s:=by
 have hq0:=R.fr.choose_spec
 have F:=hq0.1
 have fl:=hq0.2
 have hvl:vs.length=3:=rv.length.symm.trans ((Zh ..).trans hlen)
 have nDi:∀ o,s.heap.get? D=some o->¬ imm o:=fun o e=>si hD e▸Zb4
 have K0:Zn8 G env st st₀ s₀ (R.fr.choose) s s:=⟨R,S0,ht,F,fun J J e J=>e⟩
 refine kat_keyed (news:=Kd G env.locals s.heap [D]) F Zmn hD Od.loc Od.base Zfx (hvl▸by decide) (hvl▸by decide) fun kS e1 h' F' N' hDk hnew=>?_
 have Nn:News G.B env.locals h' (Kd G env.locals s.heap [D]):=fun q hq=>N' q (.tail _ (.tail _ hq))
 have hk:=N' (kS,Uc "list" #[] 0) (by simp)
 have hD':=(N' (D,Uc "list" #[] e1) (by simp)).1
 have hkn:s.heap.get? kS=none:=Sn fun o q=>absurd (hnew (kS,o) (Zek.mpr ⟨q,fun z=>Xr hDk (YX z),hk.2.1,hk.2.2⟩)) (Un _)
 have Ok:Off G env st kS:=R.off_fresh hkn
 have hk0:s₀.heap.get? kS=none:=S0.none_of hkn
 have hDkne:D≠kS:=Z3 hDk
 refine Yjr (N:=3) C hf Lm hA fl ⟨Ok,hk0,hDkne,Od.loc⟩ (fun keys e j0 hkl S=>?_) ks vs [] 0 { s with heap:=h' } ((Ua _).trans hlen) (rv.mono fun b o e hi=>?_) hx ⟨(K0.upd fl F' Nn Od nDi hd0),hk.1,hD',fun v hv=>nomatch hv⟩
 ·refine kas_kind (T:=.type "list") (hkl▸by decide) (fun v hv=>?_) rfl rfl ?_
  ·have hz0:=S.h v hv
   let a:=hz0.choose
   have hq0:=hz0.choose_spec
   let x:=hq0.choose
   have hq1:=hq0.choose_spec
   let t:=hq1.choose
   have z:=(hq1.choose_spec)
   exact z.e▸z.i.elim fun o y=>y.2.1▸(Yp9 y.1).andThen .now
  ·refine (hvl)▸?_
   refine Zq2 (n:=3) (P:=fun a=>a.toList.isPerm [0,1,2]) (I:=fun s'=>s'=j0) (fun i j C s' hi hj e hC=>?_) (fun a s' ha e=>?_) _ _ Ydm rfl
   ·refine (e)▸?_
    have hz0:=S.h _ (Zt9 (hkl▸hj))
    let b:=hz0.choose
    have hq0:=hz0.choose_spec
    have hq1:=hq0.choose_spec
    let u:=hq1.choose
    have z2:=(hq1.choose_spec)
    have hz0:=S.h _ (Zt9 (hkl▸hi))
    let a:=hz0.choose
    have hq0:=hz0.choose_spec
    let x:=hq0.choose
    have hq1:=hq0.choose_spec
    let t:=hq1.choose
    have z1:=(hq1.choose_spec)
    show wpAny _ _ (keyLt' oneType' (keys.getD i Xo) (keys.getD j Xo)) C _ _
    rw [z1.e,z2.e]
    exact Zt5 (ZS (Zn _ _) hA.cl) z1.i z2.i fun r=>hC r _ rfl
   ·subst e
    refine KatFin.intro (news:=(kS,Uc "list" keys.toArray e)::Kd G env.locals s'.heap [kS]) (g:=fun o=>(kS,o)::Kd G env.locals s'.heap [kS]) S.K.fr (S.K.news S.k Ok.loc Ok.base) (.head Zfx) fun h2 c2 F2 N2=>?_
    have Nn2:News G.B env.locals h2 (Kd G env.locals s'.heap [kS]):=fun q hq=>N2 q (.tail _ hq)
    have K2:=S.K.upd fl F2 Nn2 Ok (fun o e=>si S.k e▸Zb4) hk0
    have hD2:=S.K.keep F2 Nn2 D _ hDkne Od.loc S.dd
    refine KasFin.intro (news:=(D,Uc "list" #[] e1)::Kd G env.locals h2 [D]) (g:=fun o=>(D,o)::Kd G env.locals h2 [D]) F2 (K2.news hD2 Od.loc Od.base) (.head Zfx) fun h3 c3 F3 N3=>?_
    have K3:=K2.upd fl F3 (fun q hq=>N3 q (.tail _ hq):News G.B env.locals h3 (Kd G env.locals h2 [D])) Od (fun o e=>si hD2 e▸Zb4) hd0
    have hD3:=(N3 (D,Yk2 (Yk (katRev false (a.toList.map fun i=>(katRev false vs).getD i Xo))) c3) (.head _)).1
    exact (Zka (Yay (hvl▸List.isPerm_iff.mp ha)).symm rv).rec fun {ks'} pk rk=>h _ ks' _ c3 ⟨pk,rk.mono fun b o e hi=>K3.ik b o e hi,hD3,K3.rs,K3.stp,K3.tok⟩
 ·exact (K0.keep F' Nn) b o (fun q=>nDi o (q▸e) hi) (R.off_imm e hi).2.1 e
end
section
variable {st₀:St}{n:Nat}{m:Str->Option Value}
theorem Yae (C:GOK G){f:Addr}{fd:YF}{scL:Sc}{p:Nat}(hf:st.σ f=some (.fn fd))(Lm:Zc5 fd scL p [] (Zgd (xLc p) 125))(hA:AOK A 4)(S0:Stp G env st₀ st s₀ s)(R:RS G env st s)(ht:0 < s.toks){D:Addr}{x:Tx}{t:Tok}{c0:Nat}
  (hD:s.heap.get? D=some (Uc "list" #[.str (sT x) t] c0)) (Od:Off G env st D) (hd0:s₀.heap.get? D=none) (hx:125∉x) {P:XF->Zd->Prop}
  (h:∀ s' c,s'.heap.get? D=some (Uc "list" #[.str (sT x) t] c)->RS G env st s'->Stp G env st₀ st s₀ s'->0 < s'.toks->P (.done (.ret .none)) s'):W G A (ksk_tree D (.ref f) false) P E s:=by
 obtain ⟨e1,hD1⟩:∃ e1,(s.heap.update D (ZZ fun J=>(#[]:Array Value))).get? D=some (Uc "list" #[] e1):=⟨_,Zww hD fun J=>#[]⟩
 refine Zc (Yjq hD rfl ?_)
 refine Zc (Zoi hD rfl ?_ (YD (show (1:Nat)<=100000 by decide)) (Zr _))
 refine Zc (seqEpoch_at hD1 rfl ?_)
 refine Zc (wpAny_newTuple ?_ (YD (show (1:Nat)<=100000 by decide)))
 refine Zc (Zik ?_ (Zr _))
 refine Yl ?_
 have hkS:(((s.heap.update D (ZZ fun J=>(#[]:Array Value))).push (Uc "tuple" (Yk [Ue (sT x) t]) 0)).push (Uc "list" (Yk []) 0)).get? ((s.heap.update D (ZZ fun J=>(#[]:Array Value))).push (Uc "tuple" (Yk [Ue (sT x) t]) 0)).objs.size=some (Uc "list" #[] 0):=Zq _ rfl
 have hk2:∀ b o,b≠D->s.heap.get? b=some o->(((s.heap.update D (ZZ fun J=>(#[]:Array Value))).push (Uc "tuple" (Yk [Ue (sT x) t]) 0)).push (Uc "list" (Yk []) 0)).get? b=some o:=fun b o hb e=>
  Zg _ (Zg _ (((ZV s.heap D (ZZ fun J=>(#[]:Array Value))).2 b hb).trans e))
 have hD2:(((s.heap.update D (ZZ fun J=>(#[]:Array Value))).push (Uc "tuple" (Yk [Ue (sT x) t]) 0)).push (Uc "list" (Yk []) 0)).get? D=some (Uc "list" #[] e1):=Zg _ (Zg _ hD1)
 have hkn:s.heap.get? ((s.heap.update D (ZZ fun J=>(#[]:Array Value))).push (Uc "tuple" (Yk [Ue (sT x) t]) 0)).objs.size=none:=by
  rw [size_push',Heap.size_update]
  exact Sn fun o q=>absurd (ZL q) (Ug.mpr (ZW _))
 generalize ((s.heap.update D (ZZ fun J=>(#[]:Array Value))).push (Uc "tuple" (Yk [Ue (sT x) t]) 0)).objs.size=kS at hkS hkn⊢
 generalize (((s.heap.update D (ZZ fun J=>(#[]:Array Value))).push (Uc "tuple" (Yk [Ue (sT x) t]) 0)).push (Uc "list" (Yk []) 0))=hB at hkS hk2 hD2⊢
 have c1:Chg [D] [] s { s with heap:=hB }:=.one hk2 (Zm _)
 have R1:RS G env st { s with heap:=hB }:=R.chg (P:=[D]) (fun a ha=>YX ha▸Od) (fun a ha=>YX ha▸(fun o e=>si hD e▸Zb4)) c1
 have S1:Stp G env st₀ st s₀ { s with heap:=hB }:=S0.chg (P:=[D]) (GP:=[]) (fun a ha=>YX ha▸hd0) (fun J h=>(nomatch h)) c1
 have hk0:s₀.heap.get? kS=none:=S0.none_of hkn
 have hDk:D≠kS:=fun q=>nn (q▸hkn) hD
 refine (wbR ?_)
 rw [<-Array.forIn_toList]
 rw [Zcx]
 refine Zc (Zc (Zc (Ia (Zy (Zyy (E:=fun J J=>False) C hA (s:={ s with heap:=hB }) ht R1 hf Lm hx) (fun v j0 z=>?_) fun J J e=>e.elim))))
 let a:=z.choose
 have hq0:=z.choose_spec
 let u:=hq0.choose
 have hq1:=hq0.choose_spec
 have z:=hq1
 have keep1:∀ b o,hB.get? b=some o->j0.heap.get? b=some o:=fun b o e=>z.c.heap b o (fun h=>nomatch h) e
 refine (z.e)▸?_
 have R2:RS G env st j0:=R1.chg (P:=[]) (GP:=[]) (fun J h=>(nomatch h)) (fun J h=>(nomatch h)) z.c
 have S2:Stp G env st₀ st s₀ j0:=S1.chg (P:=[]) (GP:=[]) (fun J h=>(nomatch h)) (fun J h=>(nomatch h)) z.c
 have hk3:=keep1 _ _ hkS
 have hD3:=keep1 _ _ hD2
 have sb3:=ZV j0.heap kS (ZZ (·.push (ZR a)))
 obtain ⟨e3,hk4⟩:∃ e3,(j0.heap.update kS (ZZ (·.push (ZR a)))).get? kS=some (Uc "list" #[.ref a] e3):=⟨_,Zww hk3 (·.push (ZR a))⟩
 refine Zc (Zoi hk3 rfl ?_ (Zr _) (Xm (YD (show (1:Nat)<=100000 by decide))))
 refine Ze ?_
 dsimp only
 rw [Zsj]
 refine Ze ?_
 refine Zc (Yjq hk4 rfl ?_)
 unfold ksk_end
 dsimp only
 refine Y5 (by decide) ?_
 rw [if_pos (by show 1 < 2;decide),if_pos (by show 1 < 2;decide)]
 refine (wbP ?_)
 rw [StateT.run_pure]
 refine (wbP ?_)
 simp only [K6,if_false]
 have harr:(arrOf (SortSt.mk' general' (#[ZR a].zip #[Ue (sT x) t]) #[] 7 none)).map (·.2)= #[Ue (sT x) t]:=by
  show (#[ZR a].zip #[Ue (sT x) t]).map (·.2)=_
  simp
 have hf0:failedOf (SortSt.mk' general' (#[ZR a].zip #[Ue (sT x) t]) #[] 7 none)=none:=rfl
 unfold ksk_tail
 rw [harr,hf0]
 have sb4:=ZV (j0.heap.update kS (ZZ (·.push (ZR a)))) kS (ZZ fun J=>(#[]:Array Value))
 have hD4:((j0.heap.update kS (ZZ (·.push (ZR a)))).update kS (ZZ fun J=>(#[]:Array Value))).get? D=some (Uc "list" #[] e1):=(sb4.2 D hDk).trans ((sb3.2 D hDk).trans hD3)
 refine Zc (Zoi hk4 rfl ?_ (YD (show (1:Nat)<=100000 by decide)) (Zr _))
 refine (wbG ?_)
 refine Zc (seqEpoch_at hD4 rfl ?_)
 refine Zc (Zoi hD4 rfl ?_ (Zr _) (Xm (YD (show (1:Nat)<=100000 by decide))))
 simp only [bne_self_eq_false,K6,if_false]
 obtain ⟨e5,hD5⟩:∃ e5,(((j0.heap.update kS (ZZ (·.push (ZR a)))).update kS (ZZ fun J=>(#[]:Array Value))).update D (ZZ fun J=>(#[Ue (sT x) t]:Array Value))).get? D=some (Uc "list" #[.str (sT x) t] e5):=⟨_,Zww hD4 fun J=>#[Ue (sT x) t]⟩
 have c5:Chg [D,kS] [] j0 { j0 with heap:=(((j0.heap.update kS (ZZ (·.push (ZR a)))).update kS (ZZ fun J=>(#[]:Array Value))).update D (ZZ fun J=>(#[Ue (sT x) t]:Array Value))) }:=
  ⟨fun b o hb e=>((ZV ..).2 b fun q=>hb (q▸.head _)).trans (have hk:b≠kS:=fun q=>hb (q▸.tail _ (.head _));(sb4.2 b hk).trans ((sb3.2 b hk).trans e)),fun J J J e=>e,id,rfl,id⟩
 exact Ze (h _ e5 hD5 (R2.chg (P:=[D,kS]) (Zov Od (R.off_fresh hkn)) (Zov (p:=fun b=>∀ o,j0.heap.get? b=some o->¬ imm o) (fun o e=>si hD3 e▸Zb4) fun o e=>si hk3 e▸Zb4) c5) (S2.chg (P:=[D,kS]) (GP:=[]) (Zov hd0 hk0) (fun J h=>(nomatch h)) c5) z.t)
end
section
variable {st₀:St}{n:Nat}{m:Str->Option Value}
theorem Stp.claimed (S:Stp G env st₀ st s₀ s){a:Addr}{o:Internal.O}(ha:s₀.heap.get? a=none):Stp G env st₀ ⟨upd st.σ a o,st.lv,st.cv⟩ s₀ s:=⟨S.keep,S.live,fun b hb=>Zph (P:=fun b=>(st₀.σ b).isSome\/s₀.heap.get? b=none) hb (.inr ha) (S.new b),S.gens⟩
theorem Zre (C:GOK G)(hA:AOK A 6)(ht:0 < s.toks)(R:RS G env st s){q f:Addr}{keys:List Tx}{fd:YF}{scL:Sc}{p:Nat}(hq:st.σ q=some (.sset keys))(hlen:keys.length=1\/keys.length=3)(hx:∀ k∈keys,125∉k)
  (hf:st.σ f=some (.fn fd)) (Lm:Zc5 fd scL p [] (Zgd (xLc p) 125)) {Q:V->Hp->Prop} (h:∀ D (ks':List Tx),st.σ D=none->ks'.Perm keys->Q (.ref D) (upd st.σ D (.list (ks'.map .str)))) :
  W G A (call (.builtin "sorted") [.ref q] [(Zz "key",.ref f)]) (PV G env st s Q) E s:=by
 refine call_function_entry_kw kind_sorted plain_sorted entry_sorted (ksk_s1 _ _) ?_
 refine Zc (m:=checkCount "sorted" 1 1 _) (Ze ?_)
 refine Zc (Zuh (A:=A.in1) hA.handled ((R.den _ _ hq).1:Ze1 ..) (fun e=>by rw [e] at hlen;exact hlen.elim (fun h=>nomatch h) fun h=>nomatch h) fun ks vals h1 d pk rv k1=>?_)
 have hks:ks.length=keys.length:=pk.length_eq
 refine Zc (Zik ?_ (YD ((rv.length.symm.trans (Zh ..))▸hks▸hlen.elim (fun h=>h▸by decide) fun h=>h▸by decide)))
 have k:=R.ext (h':=h1.push { cls:=.type "list",data:=.seq vals.toArray }) (t:=s.toks) (d:=d) fun b o e=>Zg _ (k1 b o e)
 have R1:=k.1
 have S1:=k.2
 have hDn:s.heap.get? h1.objs.size=none:=Sn fun o e=>absurd (ZL (k1 _ _ e)) (Un _)
 have hD:(h1.push { cls:=.type "list",data:=.seq vals.toArray }).get? h1.objs.size=some (Uc "list" vals.toArray 0):=Zq _ rfl
 have rv1:VRs (h1.push { cls:=.type "list",data:=.seq vals.toArray }) (ks.map .str) vals:=rv.mono fun b o e J=>Zg _ e
 have Od:Off G env st h1.objs.size:=R.off_fresh hDn
 generalize h1.push { cls:=.type "list",data:=.seq vals.toArray }=hA1 at R1 S1 hD rv1⊢
 generalize h1.objs.size=D at hDn hD Od⊢
 have fin:∀ (s':Zd) (ks':List Tx) (l:List Value) (c:Nat),SortR G env st st s D ks s' ks' l c->PV G env st s Q (.ref D) s':=fun s' ks' l c w=>
  ⟨.ref D,_,w.R.claim (o:=.list (ks'.map .str)) Od.base Od.loc Od.tab (Den.list (l:=l) ⟨c,w.e⟩ w.r),w.S.claimed hDn,.ref _,h D ks' Od.σ (w.p.trans pk)⟩
 have hsx:∀ k∈ks,125∉k:=fun k hk=>hx k (pk.mem_iff.mp hk)
 refine (wbH (wpAny_call_entry_kw slot_list_sort ⟨_,hD,rfl⟩ entry_list_sort ?_ (ksk_l1 _ _)))
 rcases hlen with hl | hl
 ·refine (List.length_eq_one_iff.mp (hks.trans hl)).elim fun x hw51=>?_
  obtain rfl:=hw51
  revert hD
  refine rv1.oE fun y ry=>ry.sE fun t hD=>?_
  exact Yae (s₀:=s) (st₀:=st) C hf Lm hA.in1.in1 S1 R1 ht hD Od hDn (hsx x (.head _)) fun s' c g R' S' t'=>⟨_,rfl,Ze ⟨_,rfl,fin s' [x] [.str (sT x) t] c ⟨.rfl,VRs.one (.str _ _),g,R',S',t'⟩⟩⟩
 ·exact Yad (s₀:=s) (st₀:=st) C hf Lm hA.in1.in1 S1 R1 ht hD Od hDn rv1 (hks.trans hl) hsx fun s' ks' l c w=>⟨_,rfl,Ze ⟨_,rfl,fin s' ks' l c w⟩⟩
end
section
variable {sc':Sc}{st'' st₀:St}{n:Nat}
inductive DAppK (D:Addr)(K:Hp->Prop)(k:Tx)(u:V)(σ:Hp):Prop | mk {acc} (e:σ D=some (.dS acc)) (l:acc.length<=100) (n:k∉acc.map (·.1)) (q:K (upd σ D (.dS (acc++[(k,u)]))))
inductive Ync (Δ:Dl)(lv:Nat->Option V)(cv:Nat->Option Addr)(e:FX)(D:Addr)(K:Hp->Prop):V->Hp->Prop | mk {k σ} (q:e Δ lv cv (DAppK D K k) σ):Ync Δ lv cv e D K (.str k) σ
abbrev Yfq (Δ:Dl)(b:FB)(ke e:FX)(D:Addr)(K:St->Prop)(σ:Hp)(cv:Nat->Option Addr):(Nat->Option V)->Prop:=fun lv=>b Δ lv cv (Zrl (ke Δ lv cv (Ync Δ lv cv e D (Ybi lv cv K))) (Ybi lv cv K)) σ
def Zjj (Δ:Dl)(t:Tg)(g:St->Prop)(b:FB)(ke e:FX)(D:Addr)(Q:Hp->Prop)(l:List V):St->Prop:=
 l.rec (fun st=>g st/\Q st.σ) fun v J ih st=>g st/\Yg4 t v st.lv (Yfq Δ b ke e D ih st.σ st.cv)def Zu7 (G:GC)(env:Env)(st:St)(s:Zd)(Q:Hp->Prop)(s':Zd):Prop:=PU G env st s Q s'/\(0 < s'.toks)def Zu7.p {Q}(z:@Zu7 G env st s Q s'):=z.1
def Zu7.t {Q}(z:@Zu7 G env st s Q s'):=z.2
theorem Zvw {kvs:List (Tx×V)}{l:List (Str×Value)}{k:Tx}{x:Value}(el:l.map (·.1)=kvs.map (fun p=>sT p.1))(hk:k∉kvs.map (·.1)):Zz9 l (sT k) x=l++[(sT k,x)]:=by
 unfold Zz9
 rw [if_neg]
 intro h
 have hz0:=Zop.mp h
 let y:=hz0.choose
 have hq0:=hz0.choose_spec
 have h1:y.1∈l.map (·.1):=Y4 (hq0.1)
 rw [el] at h1
 exact (Ys.mp h1).elim fun z hz=>hk (Ys.mpr ⟨z,hz.1,Zm3 (hz.2.trans (of_decide_eq_true (hq0.2)))⟩)
theorem Yjc (R:RS G env st s){a:Addr}{kvs:List (Tx×V)}{k:Tx}{t:Tok}{v:V}{x:Value}{Q:Hp->Prop}(e:st.σ a=some (.dS kvs))(hk:k∉kvs.map (·.1))(hl:kvs.length<=100)(rv:VR s.heap v x)(q:Q (upd st.σ a (.dS (kvs++[(k,v)])))) :
  W G A (dictSet a (.str (sT k) t) x) (fun J s'=>Zu7 G env st s Q s') E s:=by
 have D:=(R.den _ _ e).1
 refine D.rec fun {l} p el r=>?_
 unfold dictSet
 try with_reducible refine Yl ?_
 refine Zc ((ZP G.prog G.w).pyHash (Zie (sT k) t) ?_)
 refine wpAny_dictSetHashed_pairs (s:={ s with toks:=s.toks + 1 }) (Zie (sT k) t) p (fun h' D' sb=>⟨?_,Z8 _⟩) (YD (Zab el▸Zb hl (Za rfl)))
 rw [Zvw el hk] at D'
 exact PU.put (t:=s.toks + 1) (d:=s.drawn) R (iS e) sb.extBut (Den.dS (l:=l++[(sT k,x)]) D' (by rw [ZF,ZF,el];rfl) (by rw [ZF,ZF];exact (r.append (VRs.one rv)).mono (Za1 D sb.extBut))) q
def CmpD (G:GC)(env':Env)(t:Tg)(g:St->Prop)(Δ:Dl)(b:FB)(ke e:FX)(D:Addr)(Q:Hp->Prop)(P:List Addr)(It:List V->Zd->Prop)(st:St)(s:Zd)(n:Nat)(s':Zd)(st':St)(l:List V):Prop:=(l.length=n)/\(0 < s'.toks)/\RS G env' st' s'/\It l s'/\(∀ a∈P,Off G env' st' a)/\Kp G P st st' s s'/\Zjj Δ t g b ke e D Q l st'
def CmpD.n0 {n Q}(z:@CmpD G env' t g Δ b ke e D Q P It st s n s' st' l):=z.1
def CmpD.tk {n Q}(z:@CmpD G env' t g Δ b ke e D Q P It st s n s' st' l):=z.2.1
def CmpD.R {n Q}(z:@CmpD G env' t g Δ b ke e D Q P It st s n s' st' l):=z.2.2.1
def CmpD.i {n Q}(z:@CmpD G env' t g Δ b ke e D Q P It st s n s' st' l):=z.2.2.2.1
def CmpD.O {n Q}(z:@CmpD G env' t g Δ b ke e D Q P It st s n s' st' l):=z.2.2.2.2.1
def CmpD.K {n Q}(z:@CmpD G env' t g Δ b ke e D Q P It st s n s' st' l):=z.2.2.2.2.2.1
def CmpD.h {n Q}(z:@CmpD G env' t g Δ b ke e D Q P It st s n s' st' l):=z.2.2.2.2.2.2
def Ych (prog:YL)(w:World)(A:Yg)(I:Nat->Zd->Prop)(R:Zbm->Zd->Prop)(kx vx target:Xh)(ifs:List Xh)(it:Value)(D:Addr)(env:Env)(n:Nat)(s:Zd):Prop:=
 wpAny (model prog w) A (Za3 it) (fun r j0=>match r with
  | none=>R (.ok .next) j0
  | some v=>wpAny (model prog w) A (Zin target env v) (fun J J1=>
    wpAny (model prog w) A (forIn ifs true fun c r=>if r=true then do let ok <-Zt7 c env (eval c env);pure (K5 ok) else pure (K5 r)) (fun ok W2=>
     if ok=true then wpAny (model prog w) A (eval kx env) (fun kv O3=>wpAny (model prog w) A (eval vx env) (fun vv J4=>
      wpAny (model prog w) A (dictSet D kv vv) (fun J T5=>∃ m,m < n/\I m T5) (Zaz (model prog w) A env fun e s'=>R (.error e) s') J4) (Zaz (model prog w) A env fun e s'=>R (.error e) s') O3) (Zaz (model prog w) A env fun e s'=>R (.error e) s') W2
     else ∃ m,m < n/\I m W2) (Zaz (model prog w) A env fun e s'=>R (.error e) s') J1) (Zaz (model prog w) A env fun e s'=>R (.error e) s') j0) (Zaz (model prog w) A env fun e s'=>R (.error e) s') s
theorem Zo0 {prog:YL}{w:World}{R:Zbm->Zd->Prop}{kx vx target iter:Xh}{ifs:List Xh}{scope:Scope}{pos:Pos}{it:Value}{D:Addr}{env:Env}(I:Nat->Zd->Prop)(turn:∀ n s,I n s->Ych prog w A I R kx vx target ifs it D env n s)(n:Nat)(h:I n s)(ht:∀ v,letOwnedTupleGo target it v=pure ()) :
  codeAny (model prog w) A (.compLoop (.DictComp kx vx [⟨target,iter,ifs,0⟩] scope pos) 0 it (.ref D) env) R s:=codeAny_compLoop_testsD I turn n h ht
theorem Yaf (X:Cx G Δ n env A sc){scope:Scope}{cl:List (Str×Addr)}{C D:Addr}{kx vx target iter:Xh}{ifs:List Xh}{pos:Pos}{t:Tg}(te:TgE (Zcd sc sc') t target){b:FB}{ke e:FX}(hb:Zo9 (Zcd sc sc') ifs b)(hke:SX (Zcd sc sc') kx ke)(he:SX (Zcd sc sc') vx e)(hto:∀ v it,letOwnedTupleGo target it v=pure ())
  (X':Cx G Δ n (compEnvC scope cl C env) A (Zcd sc sc')) {it:Addr} {P:List Addr} {g:St->Prop} {It:List V->Zd->Prop} (I:∀ (env':Env) (A':Yg),A'.handled=none->Zjw G env' A' it P [] g It) (R:RS G env st s) (O:∀ a∈P,Off G env st a) (hni:∀ a∈P,∀ o,s.heap.get? a=some o->¬ imm o)
  (S0:Stp G env st₀ st s₀ s) (hP:∀ a∈P,s₀.heap.get? a=none) (hCs:s.heap.get? C=none) {Q':Addr->Hp->Prop} {RR:Zbm->Zd->Prop} (hRR:∀ m σ' s',CmpR G env st st₀ s₀ Q' D C m σ' s'->RR (.ok .next) s') {l:List V} {j0:Zd} {O2:St} (h:CmpD G (compEnvC scope cl C env) t g Δ b ke e D (Q' D) P It st s l.length j0 O2 l) :
  codeAny (model G.prog G.w) A (.compLoop (.DictComp kx vx [⟨target,iter,ifs,0⟩] scope pos) 0 (.ref it) (.ref D) (compEnvC scope cl C env)) RR j0:=by
 have IC:=I (compEnvC scope cl C env) A X.hA.handled
 refine Zo0 (fun k s'=>∃ st' l',CmpD G (compEnvC scope cl C env) t g Δ b ke e D (Q' D) P It st s k s' st' l') (fun k s' h'=>?_) l.length ⟨_,l,h⟩ (fun v=>hto v _)
 obtain ⟨st',l',w⟩:=h'
 have hni':=IC.ni w.i
 cases l' with
 | nil=>
  refine IC.fin s' st' _ _ w.i w.tk w.R w.h.1 w.O fun j0 c=>?_
  have R1:=w.R.chg w.O hni' c
  have K1:=w.K.chg c
  let m:=R1.fr.choose
  exact hRR m st'.σ j0 ⟨R.back2 O hni K1 R1,Sn fun J q=>nS hCs (S0.live _ _ q),S0.back2 hP K1,((R1.fr.choose_spec).1).ns,⟨Sn fun J q=>(R1.den _ _ q).2.2 rfl,(R.off_fresh hCs).loc,fun c hc=>(R1.tab _ hc).l0 rfl,(R.off_fresh hCs).base⟩,w.h.2,c.tok w.tk⟩
 | cons v r=>
  refine IC.item v r s' st' _ _ w.i w.tk w.R w.h.1 w.O fun val j0 c rv hi1=>?_
  have R1:=w.R.chg w.O hni' c
  have K1:=w.K.chg c
  refine (Zp0 (E:=Zaz (model G.prog G.w) A (compEnvC scope cl C env) fun e s'=>RR (.error e) s') (Q:=Yfq Δ b ke e D (Zjj Δ t g b ke e D (Q' D) r) st'.σ st'.cv) X'.hE X'.hA.handled te R1 rv w.h.2).to fun _ J1 hw2=>?_
  obtain ⟨lv',a⟩:=hw2
  have t2:=Ym (c.tok w.tk) a.p.t
  refine Zy (tk t2 (hb X' _ J1 _ _ t2 a.p.R a.q)) (fun ok W2 hw4=>?_) fun J J e=>e
  obtain ⟨⟨O4,z⟩,j4⟩:=hw4
  have again:∀ {V4 O3},0 < O3.toks->RS G (compEnvC scope cl C env) V4 O3->Stp G (compEnvC scope cl C env) st' V4 j0 O3->Zjj Δ t g b ke e D (Q' D) r V4->∃ m,m < k/\∃ st' l',CmpD G (compEnvC scope cl C env) t g Δ b ke e D (Q' D) P It st s m O3 st' l':=fun {V4 O3} u5 T4 v4 M4=>
   have k:=IC.step hi1 R1 v4 w.O
   ⟨r.length,w.n0▸Yq _,V4,r,rfl,u5,T4,k.1,k.2,K1.step v4 hCs fun a ha=>(IC.obj _ _ hi1 a ha).elim fun J z=>iS z.1,M4⟩
  have S3:=a.p.S.trans z.S
  match ok,z.q with
  | false,q=>exact again j4 z.R S3 q
  | true,q=>
   refine hke.then X' j4 z.R q fun ku kv J5 O3 u5 T4 v4 v5 M4=>?_
   cases M4 with
   | mk M4=>
   refine v5.sE fun tk=>he.then X' u5 T4 M4 fun u x v6 J4 N6 J6 H6 z6 H5=>H5.rec fun ha hla hkn H5=>?_
   exact (Yjc (A:=A) (E:=Zaz (model G.prog G.w) A (compEnvC scope cl C env) fun e s'=>RR (.error e) s') (Q:=Ybi lv' st'.cv (Zjj Δ t g b ke e D (Q' D) r)) J6 ha hkn hla z6 H5).to fun J T5 y=>y.p.elim fun M6 p=>again y.t p.R (S3.trans (v4.trans (H6.trans p.S))) p.q
theorem Yag (X:Cx G Δ n env A sc){scope:Scope}{cl:List (Str×Addr)}{kx vx target iter:Xh}{ifs:List Xh}{pos:Pos}(hn:scope.names=sc'.map fun p=>(nm p.1,p.2))(hk:scope.kind= .function)(hco:scope.isCoroutine=false)(hcell:∀ p∈sc',p.2≠.cell)
  (hcl:∀ i c,i∈Ke sc'->st.cv i=some c->cl.lookup (nm i)=some c) {t:Tg} (te:TgE (Zcd sc sc') t target) {b:FB} {ke e:FX} (hb:Zo9 (Zcd sc sc') ifs b) (hke:SX (Zcd sc sc') kx ke) (he:SX (Zcd sc sc') vx e) (hto:∀ v it,letOwnedTupleGo target it v=pure ())
  {it:Addr} {P:List Addr} {g:St->Prop} {It:List V->Zd->Prop} (I:∀ (env':Env) (A':Yg),A'.handled=none->Zjw G env' A' it P [] g It) {l:List V} (ht:0 < s.toks) (R:RS G env st s) (hi:It l s) (O:∀ a∈P,Off G env st a)
  (S0:Stp G env st₀ st s₀ s) (hP:∀ a∈P,s₀.heap.get? a=none)
  {Q':Addr->Hp->Prop} (h:∀ D,st.σ D=none->Zjj Δ t g b ke e D (Q' D) l ⟨upd st.σ D (.dS []),fun J=>none,cvF (Ke sc') st.cv⟩) {RR:Value->Addr->Zbm->Zd->Prop}
  (hRR:∀ D C m σ' s',CmpR G env st st₀ s₀ Q' D C m σ' s'->RR (.ref D) C (.ok .next) s') :
  W G A newDict (fun acc W2=>W G A (Zl9 scope env.globals cl [] env.qual none .none (some env)) (fun cenv O3=>
   codeAny (model G.prog G.w) A (.compStart (.DictComp kx vx [⟨target,iter,ifs,0⟩] scope pos) 0 (.ref it) acc { cenv with scope:=Yi3 scope env }) (RR acc cenv.locals) O3) E W2) E s:=by
 have IE:=I env A X.hA.handled
 have hni:=IE.ni hi
 refine Z7 (Zfe (fun x hx=>by rw [hn] at hx;exact (Ys.mp hx).elim fun p hp=>hp.2▸hcell p hp.1) (fun y hy=>nomatch hy) (fun Q0 W4 j5=>?_) hk)
 generalize hH2:s.heap.push { cls:=.type "dict",dict:=none,data:=.dict #[] }=H2 at W4 j5⊢
 have hC:H2.objs.size=s.heap.objs.size + 1:=by rw [<-hH2,Zb2]
 have k2:∀ b o,s.heap.get? b=some o->H2.get? b=some o:=fun b o e=>hH2▸Zg _ e
 have kk:∀ b o,H2.get? b=some o->Q0.get? b=some o:=fun b o e=>j5.extBut b o (Z3 (ZL e)) (Zg _ e)
 have ks:∀ b o,s.heap.get? b=some o->Q0.get? b=some o:=fun b o e=>kk b o (k2 b o e)
 have hi4:It l ⟨Q0,s.gens,s.drawn,s.toks,s.os⟩:=IE.at' _ _ _ hi (fun a ha=>(IE.obj _ _ hi a ha).elim fun J z=>(ks a _ z.1).trans z.1.symm) (fun J h=>(nomatch h)) (fun J h=>(nomatch h)) (fun b o e J=>ks b o e)
 have loop:codeAny (model G.prog G.w) A (.compLoop (.DictComp kx vx [⟨target,iter,ifs,0⟩] scope pos) 0 (.ref it) (.ref s.heap.objs.size) (compEnvC scope cl H2.objs.size env)) (RR (.ref s.heap.objs.size) H2.objs.size) ⟨Q0,s.gens,s.drawn,s.toks,s.os⟩:=
  Yaf X te hb hke he hto ⟨X.C,X.D,Zue X.hE hn hk hco,X.hA⟩ I R O hni S0 hP (Sn fun o q=>absurd (ZL q) (hC▸Ug.mpr (ZW _))) (fun m σ' s' w=>hRR _ _ m σ' s' w) ⟨rfl,ht,(((R.put (h':=H2) (t:=s.toks) (d:=s.drawn) (a:=s.heap.objs.size) (o':=.dS []) (.inr (Yy _)) (fun b o J e=>k2 b o e) (Den.dS (l:=[]) (hH2▸Zgc _) rfl .nil)).1).enterC (e':=compEnvC scope cl H2.objs.size env) (h₀:=Q0) (t:=s.toks) (lv:=fun J=>none) (cv:=cvF (Ke sc') st.cv) rfl W4 kk (fun i v h=>nn rfl h) (fun i c h=>if hm:i∈Ke sc' then hcl i c hm ((if_pos hm).symm.trans h) else nn (if_neg hm) h)),hi4,fun a ha=>(IE.obj _ _ hi a ha).elim fun J z=>
   have hlt:=ZL z.1
   ⟨Zay (Z3 hlt) (O a ha).σ,hC▸Z3 (YW hlt),(O a ha).tab,(O a ha).base⟩,
   ⟨fun b o e J J J=>ks b o e,fun b o e J=>iS (ks b o e),fun b hb=>Zph (P:=fun b=>(st.σ b).isSome\/s.heap.get? b=none) hb (.inr (Yy _)) .inl,fun J J h=>h⟩,h _ (R.σnone (Yy s.heap))⟩
 exact codeAny_compStart_dict loop (IE.self _ _ _ _ hi4 loop)
end
section
variable {sc':Sc}{st'' st₀:St}{n:Nat}
inductive Ylm (Δ:Dl)(fr:List Nat)(t:Tg)(b:FB)(ke e:FX)(cv:Nat->Option Addr)(Q:V->Hp->Prop)(v:V)(σ:Hp):Prop
 | mk {l g} (i:Znl σ v l g) (q:∀ D,σ D=none->Zjj Δ t g b ke e D (Q (.ref D)) l ⟨upd σ D (.dS []),fun J=>none,cvF fr cv⟩)def Zxx (sc':Sc)(t:Tg)(f:FX)(b:FB)(ke e:FX):FX:=fun Δ lv cv Q σ=>(∀ i∈Ke sc',(cv i).isSome)/\f Δ lv cv (Ylm Δ (Ke sc') t b ke e cv Q) σ
noncomputable abbrev Zye:Sc:=[(87,.local)]def SortK (Δ:Dl)(lv:Nat->Option V)(q:Nat)(Q:V->Hp->Prop)(σ:Hp)(a:Addr)(keys:List Tx):Prop:=Δ.gen/\(lv q=some (.ref a))/\(σ a=some (.sset keys))/\(keys.length=1\/keys.length=3)/\(∀ k∈keys,125∉k)/\(∀ f fd D (ks':List Tx),σ f=none->f≠a->upd σ f (.fn fd) D=none->ks'.Perm keys->Q (.ref D) (upd (upd σ f (.fn fd)) D (.list (ks'.map .str))))def SortK.g {q}(z:@SortK Δ lv q Q σ a keys):=z.1
def SortK.h1 {q}(z:@SortK Δ lv q Q σ a keys):=z.2.1
def SortK.h2 {q}(z:@SortK Δ lv q Q σ a keys):=z.2.2.1
def SortK.h3 {q}(z:@SortK Δ lv q Q σ a keys):=z.2.2.2.1
def SortK.h4 {q}(z:@SortK Δ lv q Q σ a keys):=z.2.2.2.2.1
def SortK.q {q}(z:@SortK Δ lv q Q σ a keys):=z.2.2.2.2.2
def Zxw (q:Nat):FX:=fun Δ lv J Q σ=>∃ a keys,SortK Δ lv q Q σ a keys
inductive LamM (σ:Hp):V->Hp->Prop | mk {f fd} (h:σ f=none) (L:Zc5 fd Zye 87 [] (Zgd (xLc 87) 125)):LamM σ (.ref f) (upd σ f (.fn fd))
theorem Yi1 {c:Addr}{q:Nat}{mq cn kn:Str}{np p1 cp kp lp:Pos}{params:Zva}{body:Xh}{scope:Scope}(hq:nm q=mq)(hkq:sc.lookup q=some .local)(hcn:nm 88=cn)(hgs:sc.lookup 88=some .globalImplicit)(hkn:kn=Zz "key")
  (L:Zh1 scope Zye 87 params) (hdef:∀ env,defaultsOf params env=([],[])) (b:SX Zye body (Zgd (xLc 87) 125)) :
  SXc c sc (.Call (.Name cn np) [.Name mq p1] [⟨some kn,.Lambda params body scope lp,kp⟩] cp) (Zxw q):=by
 intro G Δ n env A X hcode hT st s Q E ht R hw0
 obtain ⟨a,keys,w⟩:=hw0
 subst hcn hkn
 refine XJ (SX.then (f:=xGl 88) (sGl rfl hgs) (Q:=fun v σ=>v= .bi .sorted/\σ=st.σ) X ht R ⟨rfl,rfl,rfl⟩ fun v y W0 j0 V1 J0 V0 J2 e=>?_)
 obtain rfl:=e.1
 obtain rfl:=e.2
 refine J2.biE (Ziy rfl rfl (evalArgs_kw2 rfl ?_ rfl))
 refine Z6 (SX.then (f:=xLc q) (sLc hq hkq) (Q:=fun v σ=>v= .ref a/\σ=st.σ) X V1 J0 ⟨w.h1,rfl,rfl⟩ fun v y J3 J1 M3 V2 H3 Q3 e=>?_)
 obtain rfl:=e.1
 obtain rfl:=e.2
 refine Q3.rE (Yi (kwAll_cons (Zy (tk M3 (Yek (E:=E) (scL:=Zye) (p:=87) (cl:=[]) (FL:=Zgd (xLc 87) 125) X.C X.hE V2 hcode hT L (hdef env) b (clo0 (a:=87) L.n0 env [] rfl)
  (Q:=LamM st.σ) fun f fd hf L=>.mk hf L)) (fun lv W2 z=>?_) fun J J e=>e)))
 obtain ⟨⟨v,O4,z⟩,j4⟩:=z
 have m:=z.q
 revert z
 refine m.rec fun {f fd} hf L z=>z.r.rE (kwAll_nil (Iz .sorted ?_))
 have hfa:f≠a:=fun e=>nn (e▸hf) w.h2
 exact (Zre (E:=E) (Q:=Q) X.C (X.hA.mono (Za8 (Zb (Za rfl) (X.D.gen w.g).1))) j4 z.R (q:=a) (f:=f) (Zay hfa.symm w.h2) w.h3 w.h4 Zcc L fun D ks' hD hp=>w.q f fd D ks' hf hfa hD hp).to fun z' J4 p=>p.from (V0.trans (H3.trans z.S))
theorem Ydk {m:Str}{x:Nat}{q p pos:Pos}{kx vx target iter:Xh}{ifs:List Xh}{scope:Scope}{t:Tg}{f:FX}{b:FB}{ke e:FX}{c0:Addr}(hn:nm x=m)(hk:sc.lookup x=some .local)(c:Zbx scope sc')(hf:SXc c0 sc iter f)(te:TgE (Zcd sc sc') t target)(hb:Zo9 (Zcd sc sc') ifs b)(hke:SX (Zcd sc sc') kx ke)(he:SX (Zcd sc sc') vx e)(hto:∀ v it,letOwnedTupleGo target it v=pure ())
  (hfold:∀ env x,foldedSetIterable iter env x=pure x) (hsw:∀ env,EOK env sc->swapsWith (.DictComp kx vx [⟨target,iter,ifs,0⟩] scope pos) (some (.Name m q)) p.line env=pure true) :
  SSc c0 sc (.Assign [.Name m q] (.DictComp kx vx [⟨target,iter,ifs,0⟩] scope pos) p) (YM x (Zxx sc' t f b ke e)):=by
 intro G Δ n env A X hcode hT st s Q E ht R h
 subst hn
 obtain ⟨cl,hcl,hcl2⟩:=Zem (env:=env) (cv:=st.cv) R.cel c.names h.1
 rw [Yms _ _ _ _ (hsw env X.hE)]
 refine (wbS (Zc ?_))
 refine (wbM (Zim (use:=some (Zin (.Name (nm x) q) env)) (Q:=fun J s'=>PS G env st s Q .next s') rfl (hfold env) hcl c.kind c.hnames
  (Zy (tk ht (hf X hcode hT st s _ E ht R h.2)) (fun xv j0 z=>?_) fun J J e=>e)) (fun J s' hq=>Ze (Ze hq)) fun J J e=>e)
 obtain ⟨v,W0,p⟩:=z.1
 obtain V1:=z.2
 refine p.q.rec fun {l g} hl Q0=>Zy (tk V1 (Zmm (A:=A) (E:=E) p.R p.r hl)) (fun itv J1 w=>w.1.elim fun a z=>z.elim fun P z=>z.elim fun It z=>z.e▸
  Yag (st:=⟨W0,st.lv,st.cv⟩) X c.names c.kind c.co c.cell hcl2 te hb hke he hto z.I w.2 z.R z.i (fun b hb=>p.R.off_fresh (z.n b hb)) z.S z.n (Q':=fun D σ=>Q .next ⟨σ,upd st.lv x (.ref D),st.cv⟩) Q0 fun D C m σ' s' y=>?_) fun J J e=>e
 refine Ky ((Zb5 (E:=E) X.hE y.R hk (.ref D)).to fun J W2 z=>?_)
 obtain ⟨oC,_,_,eC,_⟩:=id y.ns
 have k:=Off.step (st':=⟨σ',upd st.lv x (.ref D),st.cv⟩) y.O eC z.S
 have hns3:W2.heap.Ns C m:=y.ns.at' fun o e=>si eC e▸k.2
 exact ⟨m,hns3,fun h' sb=>have j:=Zkn z.R (y.S.trans z.S) y.n0 k.1 hns3 sb;⟨.next,_,j.1,p.S.trans j.2,.next,y.q⟩⟩
end
section
variable {st₀:St}{n:Nat}{m:Str->Option Value}
noncomputable def tEv (cmp:Nat->Nat->Bool)(n:Nat):KasT (Array Nat)->Option (Array Nat)
 | .ret a=>some a
 | .ask i j k=>if (decide (i < n)&&(decide (j < n)&&i != j))=true then tEv cmp n (k (cmp i j)) else none
set_option tactic.hygienic true in
theorem Zx5 {n:Nat}{c0:Nat->Nat->Bool}{cmp:Nat->Nat->(Bool->Zd->Prop)->Zd->Prop}{s:Zd}{Q:Array Nat->Zd->Prop}{a:Array Nat}(hc:∀ i j C,i < n->j < n->i≠j->C (c0 i j) s->cmp i j C s)(hQ:Q a s) :
  ∀ (t:KasT (Array Nat)),tEv c0 n t=some a->t.kasWp cmp Q s
 | .ret b,h=>by cases h;exact hQ
 | .ask i j k,h=>by
  unfold tEv at h
  split at h
  ·rename_i h1
   simp only [Xx,decide_eq_true_eq,bne_iff_ne] at h1
   exact hc i j _ h1.1 h1.2.1 h1.2.2 (Zx5 hc hQ (k (c0 i j)) h)
  ·cases h
theorem Ydn:tEv (fun i J=>i == 1) 2 (kas_sort 2)=some #[1,0]:=by decide +kernel
noncomputable abbrev tIn:Tx:=[105,110]noncomputable abbrev tAt:Tx:=[97,116]
theorem Zys {a b:Addr}{x y:Str}{t u:Tok}{v z:Value}{Q:Bool->Zd->Prop}(ha:s.heap.get? a=some { cls:=.type "tuple",data:=.seq #[.str x t,v] })(hb:s.heap.get? b=some { cls:=.type "tuple",data:=.seq #[.str y u,z] })(hne:x≠y)
  (h:Q (decide (x.cps.toList < y.cps.toList)) s):W G A (keyLt' (tuples' true) (.ref a) (.ref b)) Q E s:=by
 refine kat_lt (b:=true) ha rfl hb rfl ?_
 refine kat_cons (wpAny_eqBool_str ?_)
 rw [show decide (x=y)=false from decide_eq_false hne]
 exact kat_no (oneLt_str h)
theorem Yjl {α β:Type}{l:List (α×β)}{a b:α}(e:l.map (·.1)=[a,b]):∃ x y,l=[(a,x),(b,y)]:=by
 obtain ⟨p,r,rfl,rfl,e2⟩:=Zee.mp e
 obtain ⟨q,r',rfl,rfl,e3⟩:=Zee.mp e2
 obtain rfl:=Ks.mp e3
 exact ⟨p.2,q.2,rfl⟩
theorem Zrf (hA:A.handled=none)(R:RS G env st s){r a:Addr}{x z:V}(hv:s.heap.IsItemsView r a)(ha:st.σ a=some (.dS [(tIn,x),(tAt,z)])){Q:V->Hp->Prop}(h:∀ D,st.σ D=none->Q (.ref D) (upd st.σ D (.list [.tup [.str tAt,z],.tup [.str tIn,x]]))) :
  W G A (call (.builtin "sorted") [.ref r]) (PV G env st s Q) E s:=by
 refine R.fr.elim fun m hr50=>hr50.elim fun F fl=>?_
 refine (R.den _ _ ha).1.rec fun {l} hp el rl=>?_
 obtain ⟨x0,z0,rfl⟩:=Yjl (show l.map (·.1)=[sT tIn,sT tAt] from el)
 obtain ⟨epd,pa⟩:=hp.dictAt
 refine rl.ht.elim fun rx rl=>?_
 have rz:=rl.ht.1
 refine Calls.call_function_entry kind_sorted plain_sorted entry_sorted (args_sorted1 _) ?_
 refine Zc (m:=checkCount "sorted" 1 1 _) (Ze ?_)
 refine Zc (kdx_collect (A:=A.in1) (knd:=ZP G.prog G.w) hA hv pa (YD (show (2:Nat)<=100000 by decide)) fun h1 tk as k1 hl hG=>?_)
 obtain ⟨a0,a1,rfl⟩:∃ a0 a1,as=[a0,a1]:=match as,hl with | [a0,a1],_=>⟨a0,a1,rfl⟩
 obtain ⟨key0,k0,y0,e0,hk0,g0⟩:=hG.pairs 0 a0 rfl
 obtain ⟨key1,k1',y1,e1,hk1,g1⟩:=hG.pairs 1 a1 rfl
 obtain ⟨rfl,rfl⟩:=YJ (Z1 e0)
 obtain ⟨rfl,rfl⟩:=YJ (Z1 e1)
 obtain ⟨t0,rfl⟩:=Zer (show Value.isStrOf (sT tIn) key0=true from hk0)
 obtain ⟨t1,rfl⟩:=Zer (show Value.isStrOf (sT tAt) key1=true from hk1)
 refine Zc (Zik ?_ (YD (show (2:Nat)<=100000 by decide)))
 have k2:∀ b o,s.heap.get? b=some o->(h1.push { cls:=.type "list",data:=.seq ([a0,a1].map ZR).toArray }).get? b=some o:=fun b o e=>Zg _ (k1 b o e)
 have hDn:s.heap.get? h1.objs.size=none:=Sn fun o e=>absurd (ZL (k1 _ _ e)) (Un _)
 have hD:(h1.push { cls:=.type "list",data:=.seq ([a0,a1].map ZR).toArray }).get? h1.objs.size=some (Uc "list" [ZR a0,ZR a1].toArray 0):=Zq _ rfl
 have g0':(h1.push { cls:=.type "list",data:=.seq ([a0,a1].map ZR).toArray }).get? a0=some { cls:=.type "tuple",data:=.seq #[.str (sT tIn) t0,x0] }:=Zg _ g0
 have g1':(h1.push { cls:=.type "list",data:=.seq ([a0,a1].map ZR).toArray }).get? a1=some { cls:=.type "tuple",data:=.seq #[.str (sT tAt) t1,z0] }:=Zg _ g1
 have Od:Off G env st h1.objs.size:=R.off_fresh hDn
 generalize h1.push { cls:=.type "list",data:=.seq ([a0,a1].map ZR).toArray }=hA1 at hD g0' g1' k2⊢
 generalize h1.objs.size=D at hDn hD Od⊢
 refine (wbH (Y9 slot_list_sort ⟨_,hD,rfl⟩ entry_list_sort ?_ (args_list_sort _)))
 have F1:Fr G.B env.locals hA1 m:=F.keeps k2
 have kx:=R.ext (h':=hA1) (t:=tk + 1) (d:=s.drawn) k2
 have K0:Zn8 G env st st s m s ⟨hA1,s.gens,s.drawn,tk + 1,s.os⟩:=⟨kx.1,kx.2,Z8 _,F1,fun b o e J=>k2 b o e⟩
 have nDi:∀ o,hA1.get? D=some o->¬ imm o:=fun o e=>si hD e▸Zb4
 refine kat_list_sort (s:=⟨hA1,s.gens,s.drawn,tk,s.os⟩) (vs:=[.ref a0,.ref a1]) (news:=Kd G env.locals hA1 [D]) F1 Zmn hD Od.loc Od.base Zfx (Zm 2) (show 2 < 64 by decide) fun e1 h2 F2 N2=>?_
 have Nn:News G.B env.locals h2 (Kd G env.locals hA1 [D]):=fun q hq=>N2 q (.tail _ hq)
 have K1:=K0.upd (h:=h2) fl F2 Nn Od nDi hDn
 have hD2:=(N2 (D,Uc "list" #[] e1) (.head _)).1
 have nt0:=K0.rs.off_imm g0' rfl
 have nt1:=K0.rs.off_imm g1' rfl
 have d0:a0≠D:=fun q=>nDi { cls:=.type "tuple",data:=.seq #[.str (sT tIn) t0,x0] } (q▸g0') rfl
 have d1:a1≠D:=fun q=>nDi { cls:=.type "tuple",data:=.seq #[.str (sT tAt) t1,z0] } (q▸g1') rfl
 have g0'':=K0.keep F2 Nn a0 _ d0 nt0.2.1 g0'
 have g1'':=K0.keep F2 Nn a1 _ d1 nt1.2.1 g1'
 refine kat_kind (T:=.type "str") (Yqi g0'' rfl rfl (f:=.str (sT tIn) t0) rfl (Yqi g1'' rfl rfl (f:=.str (sT tAt) t1) rfl KatTups.nil)) (by simp) (Zi.mpr ⟨Zu2 rfl,Zi.mpr ⟨Zu2 rfl,Yp _⟩⟩) rfl ?_
 rw [show (Xz "str" != Xz "tuple")=true from by decide]
 refine Zx5 (c0:=fun i J=>i == 1) (n:=2) (fun i j C hi hj hij hC=>?_) ?_ _ Ydn
 ·show wpAny _ _ (keyLt' (tuples' true) (([ZR a0,ZR a1]:List Value).getD i Xo) (([ZR a0,ZR a1]:List Value).getD j Xo)) C _ _
  have hne:sT tIn≠sT tAt:=fun e=>nomatch Zm3 e
  rcases i with _ | _ | i
  ·rcases j with _ | _ | j
   ·exact absurd rfl hij
   ·exact Zys g0'' g1'' hne hC
   ·omega
  ·rcases j with _ | _ | j
   ·exact Zys g1'' g0'' hne.symm hC
   ·exact absurd rfl hij
   ·omega
  ·omega
 ·refine KasFin.intro (news:=(D,Uc "list" #[] e1)::Kd G env.locals h2 [D]) (g:=fun o=>(D,o)::Kd G env.locals h2 [D]) F2 (K1.news hD2 Od.loc Od.base) (.head Zfx) fun h3 c3 F3 N3=>?_
  have Nn3:News G.B env.locals h3 (Kd G env.locals h2 [D]):=fun q hq=>N3 q (.tail _ hq)
  have K3:=K1.upd (h:=h3) fl F3 Nn3 Od (fun o e=>si hD2 e▸Zb4) hDn
  have hD3:=(N3 (D,Yk2 (Yk [ZR a1,ZR a0]) c3) (.head _)).1
  have g0f:=K1.keep F3 Nn3 a0 _ d0 nt0.2.1 g0''
  have g1f:=K1.keep F3 Nn3 a1 _ d1 nt1.2.1 g1''
  have k4:=K3.rs.ext (h':=h3) (t:=tk) (d:=s.drawn) fun J J e=>e
  have tu:∀ {k:Tx} {t:Tok} {x0:Value} {b:Addr} {v:V},h3.get? b=some { cls:=.type "tuple",data:=.seq #[.str (sT k) t,x0] }->VR s.heap v x0->VR h3 (.tup [.str k,v]) (.ref b):=fun {k t x0 b v} g r=>VR.tup (l:=[.str (sT k) t,x0]) (n:=0) g (.cons (.str k t) (VRs.one (r.mono K3.ik)))
  exact ⟨_,rfl,Ze ⟨_,rfl,.ref D,_,k4.1.claim (o:=.list [.tup [.str tAt,z],.tup [.str tIn,x]]) Od.base Od.loc Od.tab (Den.list (l:=[.ref a1,.ref a0]) ⟨c3,hD3⟩ (.cons (tu g1f rz) (VRs.one (tu g0f rx)))),(K3.stp.trans k4.2).claimed hDn,.ref _,h D Od.σ⟩⟩def SortIK (lv:Nat->Option V)(y:Nat)(Q:V->Hp->Prop)(σ:Hp)(a:Addr)(x z:V):Prop:=(lv y=some (.ref a))/\(σ a=some (.dS [(tIn,x),(tAt,z)]))/\(∀ D,σ D=none->Q (.ref D) (upd σ D (.list [.tup [.str tAt,z],.tup [.str tIn,x]])))def SortIK.h1 (z:@SortIK lv y Q σ a x z):=z.1
def SortIK.h2 (z:@SortIK lv y Q σ a x z):=z.2.1
def SortIK.q (z:@SortIK lv y Q σ a x z):=z.2.2
def Ycq (y:Nat):FX:=fun J lv J Q σ=>∃ a x z,SortIK lv y Q σ a x z
theorem Yn2 {y0:Nat}{x y z:Str}{p1 p2 p3 p4 p5:Pos}(hx:nm 88=x)(hkx:sc.lookup 88=some .globalImplicit)(hy:nm y0=y)(hky:sc.lookup y0=some .local)(hz:z=Zz "items")
  (hb:∀ env whole,attributeBase (.Name y p2) z env whole=whole) (hline:(p3.endLine == p4.line)=true):SX sc (.Call (.Name x p1) [.Call (.Attribute (.Name y p2) z p3) [] [] p4] [] p5) (Ycq y0):=by
 intro G Δ n env A X st s Q E ht R hw0
 obtain ⟨a,vx,vz,w⟩:=hw0
 subst hz
 refine XJ (SX.then (sGl hx hkx) (Q:=fun v σ=>v= .bi .sorted/\σ=st.σ) X ht R ⟨rfl,rfl,rfl⟩ fun v x W0 j0 V1 J0 V0 J2 e=>?_)
 obtain rfl:=e.1
 obtain rfl:=e.2
 refine J2.biE (YT rfl (YS rfl ?_))
 refine Z6 (Zbk (hb _ _) rfl (Za rfl) hline (SX.then (sLc hy hky) (Q:=fun v σ=>v= .ref a/\σ=st.σ) X V1 J0 ⟨w.h1,rfl,rfl⟩ fun v x J3 J1 M3 V2 H3 Q3 e pl=>?_))
 obtain rfl:=e.1
 obtain rfl:=e.2
 refine Q3.rE ((V2.den _ _ w.h2).1.rec fun {l} hD el rl=>?_)
 refine Zad hD.typeIs Zgt Zcs (by kernel_rfl) (fun b e=>Zfo e▸hD.elim fun J z=>z.elim fun J z=>z.elim fun J z=>⟨_,z.1,z.2.1.2.1⟩) (YT rfl (YS rfl (Yi (Ze ?_))))
 refine Zkp Zcs hD.typeIs Zr9 (Zqi _) (meets_dict_items (ZP G.prog G.w) a (V2.nsys X.C.sys w.h2)) ⟨⟨l,hD⟩,Yi (Iz .sorted ?_)⟩
 have k:=V2.ext (h':=J1.heap.push { cls:=.type "dict_items",data:=.fields #[.ref a] }) (t:=J1.toks) (d:=J1.drawn) fun b o e=>Zg _ e
 exact (Zrf (E:=E) (s:={ J1 with heap:=J1.heap.push { cls:=.type "dict_items",data:=.fields #[.ref a] } }) X.hA.handled k.1 (r:=J1.heap.objs.size) ⟨_,Zq _ rfl,rfl,rfl⟩ w.h2 w.q).to fun z W2 p=>p.from ((V0.trans H3).trans k.2)
end
section
variable {n:Nat}
theorem scAsg {c:Addr}{m:Str}{x:Nat}{q p:Pos}{e:Xh}{f:FX}(hn:nm x=m)(hk:sc.lookup x=some .local)(a:SXc c sc e f)(hs:∀ env,swapsWith e (some (.Name m q)) p.line env=pure false):SSc c sc (.Assign [.Name m q] e p) (YM x f):=by
 subst hn
 intro G Δ n env A X hc hT st s Q E ht R h
 exact Zd5 (Zy (tk ht (a X hc hT st s _ E ht R h)) (fun v j0 z=>z.1.elim fun u p=>p.elim fun W0 p=>(Zb5 X.hE p.R hk p.r).to fun J J1 w=>⟨.next,_,w.R,p.S.trans w.S,.next,p.q⟩) fun J J e=>e) (hs env)
theorem Ynz {x y z:Xh}{p}{f g h:FB}(a:SB sc x f)(b:SB sc y g)(c:SB sc z h):SB sc (.BoolOp .And [x,y,z] p) (Zc8 f (Zc8 g h)):=fun J J J J J X st s Q E ht R h0=>
 Zmy (Zbh (a.then X ht R h0 fun r W0 j0 V1 J0 V0 Q0=>match r,Q0 with
 | false,Q0=>⟨W0,J0,V0,Q0⟩
 | true,Q0=>Zbh (b.then X V1 J0 Q0 fun r J3 J1 M3 V2 H3 G3=>match r,G3 with
  | false,G3=>⟨J3,V2,V0.trans H3,G3⟩
  | true,G3=>Zbh (c.then X M3 V2 G3 fun r O4 W2 j4 T3 W3 V3=>match r,V3 with
   | false,V3=>⟨O4,T3,(V0.trans H3).trans W3,V3⟩
   | true,V3=>Yl0 ⟨O4,T3,(V0.trans H3).trans W3,V3⟩))))
end
section
section
variable (P:Yu)
noncomputable abbrev hK (P:Yu):Frag:=hd0.heap_1 P
theorem Zwk {K:Frag}{c:Addr}{l:List Value}(h1:(clsIn K c).map (fun cd=>(cd.mro,cd.hasDict))=some (l,true))(h3:(l.isEmpty,l.contains (.type "object"))=(false,true))(h5:∀ self,Zn5 self "__setattr__" l=pure ()) :
  ∃ cd,clsIn K c=some cd/\cd.hasDict=true/\cd.mro.isEmpty=false/\cd.mro.contains (.type "object")=true/\∀ self,Zn5 self "__setattr__" cd.mro=pure ():=by
 obtain ⟨cd,e1,e2⟩:=Yz.mp h1
 obtain ⟨rfl,e3⟩:=YJ e2
 exact ⟨cd,e1,e3,(YJ h3).1,(YJ h3).2,h5⟩noncomputable def cfB (K:Frag)(p:(Addr×Nat)×Addr):Bool:=(Yoc K p.1.1 (nm p.1.2)||pileGet K p.1.1)&&(Yh0 K p.1.1&&(Zb7 K (.ref p.1.1) (nm p.1.2) == some (some (.ref p.2))&&(isFn K (.ref p.2)&&(specialIn K (.ref p.2) "__get__" == some (some (.builtin "function.__get__"))&&takesIn K (.ref p.2) == some false))))noncomputable def ofB (K:Frag)(p:Addr×Nat):Bool:=(Yoc K p.1 (nm p.2)||pileGet K p.1)&&(Yh0 K p.1&&(Zb7 K (.ref p.1) (nm p.2) == some none&&(Zb7 K (.ref p.1) "__setattr__" == some (some (.builtin "object.__setattr__"))&&(takerIn K p.1 (nm p.2) == some none&&(p.1 == 150||(p.1 == 241||p.1 == 325))))))theorem bb {a b:Bool}(h:(a&&b)=true):a=true/\b=true:=(Xx a b).mp h
theorem oo {a b:Bool}(h:(a||b)=true):a=true\/b=true:=(Yqp a b).mp h
theorem Yml {α β:Type}[BEq α][LawfulBEq α]{l:List (α×β)}{a:α}{b:β}(h:List.lookup a l=some b):(a,b)∈l:=(List.lookup_eq_some_iff.mp h).elim fun l1 h=>h.elim fun l2 h=>h.1▸Xe _ (.head _)theorem Ypt:clsL.all (cfB (hK P))=true:=by kernel_rfl
theorem Yov:ownL.all (ofB (hK P))=true:=by kernel_rfl
theorem k_cls (c m f)(h:clsM c m=some f):CF (hK P) c (nm m) f:=
 have h:=bb (Yo.mp (Ypt P) ((c,m),f) (Yml h))
 have h2:=bb h.2
 have h3:=bb h2.2
 have h4:=bb h3.2
 have h5:=bb h4.2
 ⟨oo h.1,h2.1,eq_of_beq h3.1,h4.1,eq_of_beq h5.1,eq_of_beq h5.2⟩
theorem k_own (c m)(h:ownM c m=true):OF (hK P) c (nm m):=
 have h:=bb (Yo.mp (Yov P) (c,m) (Ycc.mp h))
 have h2:=bb h.2
 have h3:=bb h2.2
 have h4:=bb h3.2
 have h5:=bb h4.2
 ⟨oo h.1,h2.1,eq_of_beq h3.1,eq_of_beq h4.1,eq_of_beq h5.1,(oo h5.2).elim (fun e=>(eq_of_beq e:c=150)▸Zwk (l:=[.ref 150,.type "object"]) (by kernel_rfl) (by kernel_rfl) (fun self=>by kernel_rfl))
  fun e=>(oo e).elim (fun e=>(eq_of_beq e:c=241)▸Zwk (l:=[.ref 241,.type "object"]) (by kernel_rfl) (by kernel_rfl) (fun self=>by kernel_rfl)) fun e=>(eq_of_beq e:c=325)▸Zwk (l:=[.ref 325,.type "list",.type "object"]) (by kernel_rfl) (by kernel_rfl) (fun self=>by kernel_rfl)⟩theorem k_acc:Zco (hK P):=⟨⟨by kernel_rfl,by kernel_rfl,by kernel_rfl⟩,⟨by kernel_rfl,by kernel_rfl⟩,by kernel_rfl,by kernel_rfl,by kernel_rfl,by kernel_rfl,by kernel_rfl,by kernel_rfl,by kernel_rfl⟩
end
end
section
variable {n:Nat}
inductive Yp5 (Q:V->Hp->Prop)(σ:Hp)(xs:List Int):V->V->V->Prop
 | mk {lo hi l h} (e1:Zm6 lo=some l) (e2:Zm6 hi=some h) (hl:xs.length<=100000) (q:∀ n,σ n=none->Q (.ref n) (upd σ n (.list (Zbj (xs.map .int) l h)))):Yp5 Q σ xs lo hi .none
section
variable (Δ:Dl)(lv:Nat->Option V)(cv:Nat->Option Addr)(Q:V->Hp->Prop)(xs:List Int)
abbrev kSc3 (l h:V):V->Hp->Prop:=fun p σ=>Yp5 Q σ xs l h p
abbrev kSc2 (sp:FX)(l:V):V->Hp->Prop:=fun h σ=>sp Δ lv cv (kSc3 Q xs l h) σ
abbrev kSc1 (hi sp:FX):V->Hp->Prop:=fun l σ=>hi Δ lv cv (kSc2 Δ lv cv Q xs sp l) σ
def ScrK (x:Nat)(lo hi sp:FX)(σ:Hp)(a:Addr):Prop:=(lv x=some (.ref a))/\Δ.scr a xs/\lo Δ lv cv (kSc1 Δ lv cv Q xs hi sp) σ
def ScrK.e {lo}(z:@ScrK Δ lv cv Q xs x lo hi sp σ a):=z.1
def ScrK.s0 {lo}(z:@ScrK Δ lv cv Q xs x lo hi sp σ a):=z.2.1
def ScrK.q {lo}(z:@ScrK Δ lv cv Q xs x lo hi sp σ a):=z.2.2
end
def xScr (x:Nat)(lo hi sp:FX):FX:=fun Δ lv cv Q σ=>∃ a xs,ScrK Δ lv cv Q xs x lo hi sp σ a
theorem Yok (R:RS G env st s){a:Addr}{xs:List Int}{items:List Value}{lo hi sp:V}{l h p:Value}{value slice:Expr}{Q:V->Hp->Prop}(pl:G.B.IsList a items.toArray)(r:∀ h,VRs h (xs.map .int) items)
  (rl:VR s.heap lo l) (rh:VR s.heap hi h) (rp:VR s.heap sp p) (hq:Yp5 Q st.σ xs lo hi sp) (hs:∀ o i,∃ ops,subscripted slice false o i=Zml ops (Zmr o i)) :
  W G A (Ze5 value slice (.ref a) (.ref s.heap.objs.size)) (PV G env st s Q) E { s with heap:=s.heap.push { cls:=.type "slice",data:=.fields #[l,h,p] } }:=by
 have k:=R.ext (t:=s.toks) (d:=s.drawn) (h':=s.heap.push { cls:=.type "slice",data:=.fields #[l,h,p] }) fun y z e=>Zg _ e
 have pl':(s.heap.push { cls:=.type "slice",data:=.fields #[l,h,p] }).IsList a items.toArray:=k.1.fr.elim fun J F=>pl.imp fun o z=>⟨F.1.keep _ _ z.1,z.2⟩
 revert rl rh rp
 exact hq.rec fun {l' h'} e1 e2 hl q rl rh rp=>(Zct rl e1).elim fun J p1=>(Zct rh e2).elim fun J p2=>(Zct rp rfl).elim fun J p3=>
  Zg6 pl'.typeIs Zag.lookup (Zil pl' (Zbo s.heap l h p) p1.i p2.i p3.i (fun h=>nomatch h) ((PV.pick k.1 ((r _).sl _ _) (Zgj ..) q).from k.2) (YD ((r s.heap).size▸(Zh (as:=xs) V.int).symm▸hl))) (hs _ _).choose_spec
theorem sScr {m:Str}{x:Nat}{a b c:Option Expr}{p q vp}{lo hi sp:FX}(hn:nm x=m)(hk:sc.lookup x=some .local)(hl:SO sc a lo)(hh:SO sc b hi)(hp:SO sc c sp):SX sc (.Subscript (.Name m vp) (.Slice a b c p) q) (xScr x lo hi sp):=by
 intro G Δ n env A X st s Q E ht R hw0
 obtain ⟨ad,xs,w⟩:=hw0
 obtain ⟨items,pl,r⟩:=X.D.scr ad xs w.s0
 refine Zo7 (SX.then (f:=xLc x) (sLc hn hk) X (Q:=fun v σ=>v= .ref ad/\σ=st.σ) ht R ⟨w.e,rfl,rfl⟩ fun v y W0 j0 V1 J0 V0 J2 e=>?_)
 obtain rfl:=e.1
 obtain rfl:=e.2
 exact J2.rE (Zl7 (hl.then X V1 J0 w.q fun l y J3 J1 M3 V2 H3 Q3 G3=>hh.then X M3 V2 G3 fun u z O4 W2 j4 T3 W3 w5 V3=>hp.then X j4 T3 V3 fun k w J5 O3 u5 T4 v4 v5 M4=>
  (Yok (A:=A) (E:=E) T4 pl r (T3.vr v4 (V2.vr W3 Q3)) (T3.vr v4 w5) v5 M4 (Zla _ _ _ _)).to fun z W2 p=>p.from (V0.trans (H3.trans (W3.trans v4)))))
end
noncomputable def Zcl:Sc:=[(21,.local),(22,.local),(23,.local),(24,.local),(25,.local),(26,.local),(27,.local),(28,.local),(29,.local),(35,.globalImplicit),(43,.globalImplicit),(15,.globalImplicit)]def Zcn:FS:=Zo (Kh (xLc 21) 30 (xLc 22)) (Zo (Kh (xLc 21) 31 (Zd4 (ZD))) (Zo (Kh (xLc 21) 32 (xLc 23)) (Zo (Kh (xLc 21) 33 (xLc 24)) (Zo (Kh (xLc 21) 34 (xIf (bV (xLc 28)) (Yb (xGl 35) (Zk (xLc 28) (ZD))) (xV .none))) (Zo (Kh (xLc 21) 36 (xIf (bV (xLc 29)) (Yb (xGl 35) (Zk (xLc 29) (ZD))) (xV .none))) (Zo (Kh (xLc 21) 37 (xLc 25)) (Zo (Yx (bV (xLc 26)) (Zo (Kh (xLc 21) 38 (Yb (xGl 35) (Zk (xLc 26) (ZD)))) (Zx)) (Zo (Kh (xLc 21) 38 (xV .none)) (Zx))) (Zo (Yx (bV (xLc 27)) (Zo (Kh (xLc 21) 39 (xAt (Yb (xGl 35) (Zk (xLc 27) (ZD))) 40)) (Zx)) (Zo (Kh (xLc 21) 39 (xV .none)) (Zx))) (Zo (Kh (xLc 21) 41 (Zd4 (Zk (Zd4 (Zk (Zc1 (Zk (xV (.str [104,116,116,112,58,47,47,119,119,119,46,119,51,46,111,114,103,47,88,77,76,47,49,57,57,56,47,110,97,109,101,115,112,97,99,101])) (Zk (xV (.str [120,109,108])) (ZD)))) (ZD))) (ZD)))) (Zo (Kh (xLc 21) 42 (Zd4 (ZD))) (Zo (Yx (Zo4 (bV (xLc 25))) (Zo (sEx (xMc (xAt (xLc 21) 42) 0 (Zk (Zsl) (ZD)))) (Zx)) (Zx)) (Zo (sEx (xMc (xAt (xLc 21) 42) 0 (Zk (Zd4 (ZD)) (ZD)))) (Zo (Kh (xLc 21) 44 (xDS)) (Zo (Kh (xLc 21) 45 (Zd4 (Zk (xV (.bool false)) (ZD)))) (Zo (Kh (xLc 21) 46 (xV .none)) (Zo (Kh (xLc 21) 47 (xV (.bool false))) (Zo (Kh (xLc 21) 48 (xV (.bool false))) (Zo (Kh (xLc 21) 49 (xV (.int 0))) (Zx)))))))))))))))))))noncomputable def KJ:Sc:=[(21,.local),(57,.local),(58,.local),(59,.local),(61,.local),(62,.local),(63,.local),(35,.globalImplicit),(64,.globalImplicit),(65,.globalImplicit)]def KR:FS:=Zo (Yx (YC .Is (xLc 58) (xV .none)) (Zo (Ztj [58,59] (xIf (YC .Eq (Zfd (xLc 57) (xV .none) (xV (.int 1)) (xV .none)) (xV (.str [123]))) (xMc (Zfd (xLc 57) (xV (.int 1)) (xV .none) (xV .none)) 60 (Zk (xV (.str [125])) (Zk (xV (.int 1)) (ZD)))) (Zc1 (Zk (xV (.str [])) (Zk (xLc 57) (ZD)))))) (Zx)) (Zo (YM 59 (xLc 57)) (Zx))) (Zo (YM 61 (Yb (xGl 35) (ZD))) (Zo (Zti (.tup [62,63]) (gMc (xLc 21) 50 (Zk (xAt (xLc 21) 41) (ZD))) (Zo (Yx (Zc8 (YC .Eq (xLc 62) (xLc 58)) (YC .NotIn (xLc 63) (xLc 61))) (Zo (Zao (Zc1 (Zk (xIf (bV (xLc 63)) (Zit (U6 (xFv (xLc 63)) (U6 (xV (.str [58])) (U6 (xFv (xLc 59)) (Zow))))) (xLc 59)) (Zk (xLc 59) (Zk (xLc 58) (ZD)))))) (Zx)) (Zx)) (Zo (sEx (xMc (xLc 61) 9 (Zk (xLc 63) (ZD)))) (Zx))) (Zx)) (Zo (Yx (bV (xAt (xLc 21) 37)) (Zo (Yx (YC .In (xLc 58) (xAt (xLc 21) 44)) (Zo (YM 63 (YK (xAt (xLc 21) 44) (xLc 58))) (Zx)) (sNo)) (Zo (sEx (xMc (YK (xAt (xLc 21) 41) (Zdj (xV (.int 1)))) 0 (Zk (Zc1 (Zk (xLc 58) (Zk (xLc 63) (ZD)))) (ZD)))) (Zo (Zao (Zc1 (Zk (Zit (U6 (xFv (xLc 63)) (U6 (xV (.str [58])) (U6 (xFv (xLc 59)) (Zow))))) (Zk (xLc 59) (Zk (xLc 58) (ZD)))))) (Zx)))) (Zx)) (Zo (Yx (Zc8 (Zo4 (bV (xLc 58))) (YC .NotIn (xV (.str [])) (xLc 61))) (Zo (Zao (Zc1 (Zk (xLc 59) (Zk (xLc 59) (Zk (xLc 58) (ZD)))))) (Zx)) (Zx)) (Zo (Zti (.tup [62,63]) (gMc (xLc 21) 50 (Zk (xAt (xLc 21) 42) (ZD))) (Zo (Yx (YC .Eq (xLc 62) (xLc 58)) (Zo (sEx (xMc (YK (xAt (xLc 21) 41) (Zdj (xV (.int 1)))) 0 (Zk (Zc1 (Zk (xLc 58) (Zk (xLc 63) (ZD)))) (ZD)))) (Zo (Zao (Zc1 (Zk (xIf (bV (xLc 63)) (Zit (U6 (xFv (xLc 63)) (U6 (xV (.str [58])) (U6 (xFv (xLc 59)) (Zow))))) (xLc 59)) (Zk (xLc 59) (Zk (xLc 58) (ZD)))))) (Zx))) (Zx)) (Zx)) (Zx)) (Zo (Yx (Zo4 (bV (xLc 58))) (Zo (Zao (Zc1 (Zk (xLc 59) (Zk (xLc 59) (Zk (xLc 58) (ZD)))))) (Zx)) (Zx)) (Zo (sNo) (Zx))))))))noncomputable def IW:Sc:=[(21,.local),(66,.local)]def I6:FS:=Zo (Yx (Zo4 (bV (xAt (xLc 21) 49))) (Zo (sEx (xMc (xAt (xLc 21) 31) 0 (Zk (xLc 66) (ZD)))) (Zx)) (Zx)) (Zx)noncomputable def KN:Sc:=[(21,.local),(68,.local),(66,.local),(70,.local),(71,.local),(17,.globalImplicit),(73,.globalImplicit)]def KY:FS:=Zo (YM 66 (Yb (xLc 68) (Zk (xAt (xLc 21) 31) (ZD)))) (Zo (Zyf (xAt (xLc 21) 31)) (Zo (Yx (Zc8 (bV (xAt (xLc 21) 33)) (Zo4 (bV (YK (xAt (xLc 21) 45) (Zdj (xV (.int 1))))))) (Zo (YM 66 (xMc (xLc 66) 69 (ZD))) (Zx)) (Zx)) (Zo (Yx (YC .IsNot (xAt (xLc 21) 46) (xV .none)) (sNo) (Zx)) (Zo (Yx (Zc8 (bV (xLc 66)) (bV (xAt (xLc 21) 47))) (Zo (sEx (xMc (xLc 21) 30 (Zk (Yb (xGl 73) (Zk (xLc 66) (ZD))) (ZD)))) (Zx)) (Zx)) (Zx)))))noncomputable def Ih:Sc:=[(21,.local),(59,.local),(76,.local),(77,.local)]def Ik:FS:=Zo (Yx (Zc8 (YC .IsNot (xAt (xLc 21) 36) (xV .none)) (bOr (bV (xAt (xLc 21) 49)) (YC .In (xLc 59) (xAt (xLc 21) 36)))) (sNo) (Zx)) (Zo (Yx (bV (xAt (xLc 21) 31)) (Zo (sEx (xMc (xLc 21) 67 (ZD))) (Zx)) (Zx)) (Zo (YM 77 (Zd4 (ZD))) (Zo (sEx (xMc (xAt (xLc 21) 41) 0 (Zk (xLc 77) (ZD)))) (Zo (Yx (Zc8 (YC .IsNot (xAt (xLc 21) 38) (xV .none)) (YC .In (xLc 59) (xAt (xLc 21) 38))) (Zo (Kh (xLc 21) 46 (Zc1 (Zk (xLc 59) (Zk (xLc 76) (Zk (xLc 77) (ZD)))))) (Zo (Zth) (Zx))) (Zx)) (Zo (sEx (xMc (xLc 21) 72 (Zk (xLc 59) (Zk (xLc 76) (Zk (xLc 77) (ZD)))))) (Zx))))))noncomputable def X5:Sc:=[(200,.local),(78,.local),(79,.local),(94,.globalImplicit)]noncomputable def Zak:Sc:=[(200,.local),(87,.local),(85,.free)]noncomputable def KH:Sc:=[(21,.cell),(59,.local),(76,.local),(77,.local),(71,.local),(78,.local),(79,.local),(80,.local),(81,.local),(57,.local),(82,.local),(83,.local),(84,.local),(85,.cell),(86,.local),(58,.local),(90,.local),(92,.local),(93,.local),(22,.local),(17,.globalImplicit),(88,.globalImplicit),(73,.globalImplicit)]def KQ:FS:=Zo (Yx (Zc8 (YC .IsNot (xAt (xCl 21) 34) (xV .none)) (bV (xLc 76))) (sNo) (Zx)) (Zo (YM 80 (Ylv 59 76)) (Zo (YM 81 (xDS)) (Zo (Yx (YC .IsNot (xLc 71) (xV .none)) (sNo) (Zx)) (Zo (Yx (Zc8 (YC .IsNot (xAt (xCl 21) 39) (xV .none)) (bV (xLc 76))) (Zo (YM 82 (xMc (xCl 21) 39 (Zk (xLc 76) (ZD)))) (Zo (Yx (bV (xLc 82)) (Zo (Zld (.one 83) (xLc 82) (Zo (YM 84 (YK (xLc 76) (xLc 83))) (Zo (Yx (bV (Yb (xGl 17) (Zk (xLc 84) (ZD)))) (sNo) (Zx)) (Zx))) (Zx)) (Zx)) (Zo (YM 82 (xV .none)) (Zx))) (Zx))) (Zo (YM 82 (xV .none)) (Zx))) (Zo (Ztk 85 (xAt (xCl 21) 56)) (Zo (YM 86 (Zxx Zak (.one 87) (Zxw 80) (bT) (xLc 87) (Yb (xCl 85) (Zk (xLc 87) (ZD))))) (Zo (Yx (bV (xLc 77)) (sNo) (Zo (YM 90 (Zd4 (ZD))) (Zx))) (Zo (Yx (bV (xLc 76)) (Zo (Zld (.tup [78,79]) (Ycq 76) (Zo (Yx (Zc8 (YC .IsNot (xLc 82) (xV .none)) (Zc8 (YC .In (xLc 78) (xLc 82)) (YC .In (xLc 79) (xLc 81)))) (Zo (YM 79 (YK (YK (xLc 86) (YK (xLc 81) (xLc 79))) (xV (.int 0)))) (Zx)) (Zx)) (Zo (Ztj [92,83,58] (YK (xLc 86) (xLc 78))) (Zo (sEx (xMc (xLc 90) 0 (Zk (Zc1 (Zk (xIf (bV (xLc 58)) (xLc 92) (xLc 83)) (Zk (xLc 79) (ZD)))) (ZD)))) (Zx)))) (Zx)) (Zx)) (Zx)) (Zo (YM 93 (xMc (xLc 76) 7 (Zk (xV (.str [123,104,116,116,112,58,47,47,119,119,119,46,119,51,46,111,114,103,47,88,77,76,47,49,57,57,56,47,110,97,109,101,115,112,97,99,101,125,115,112,97,99,101])) (ZD)))) (Zo (sEx (xMc (xAt (xCl 21) 45) 0 (Zk (xIf (bV (xLc 93)) (Zsp .Eq (xLc 93) (xV (.str [112,114,101,115,101,114,118,101]))) (YK (xAt (xCl 21) 45) (Zdj (xV (.int 1))))) (ZD)))) (Zo (YM 22 (xAt (xCl 21) 30)) (Zo (sEx (Yb (xLc 22) (Zk (Xv .Add (xV (.str [60])) (YK (YK (xLc 86) (xLc 59)) (xV (.int 0)))) (ZD)))) (Zo (Yx (bV (xLc 90)) (Zo (sEx (Yb (xLc 22) (Zk (xMc (xV (.str [])) 3 (Zk (Zlr X5 (.tup [78,79]) (xLc 90) (bT) (Zit (U6 (xV (.str [32])) (U6 (xFv (xLc 78)) (U6 (xV (.str [61,34])) (U6 (xFv (Yb (xGl 94) (Zk (xLc 79) (ZD)))) (U6 (xV (.str [34])) (Zow)))))))) (ZD))) (ZD)))) (Zx)) (Zx)) (Zo (sEx (Yb (xLc 22) (Zk (xV (.str [62])) (ZD)))) (Zo (Yx (YC .IsNot (xLc 71) (xV .none)) (Zo (sEx (Yb (xLc 22) (Zk (Yb (xGl 73) (Zk (YK (YK (xLc 86) (YK (xLc 81) (xLc 71))) (xV (.int 0))) (ZD))) (ZD)))) (Zx)) (Zx)) (Zo (Kh (xCl 21) 47 (xV (.bool true))) (Zo (sEx (xMc (xAt (xCl 21) 42) 0 (Zk (Zd4 (ZD)) (ZD)))) (Zx))))))))))))))))))noncomputable def Zae:Sc:=[(21,.local),(59,.local),(64,.globalImplicit)]def Zah:FS:=Zo (Yx (bV (xAt (xLc 21) 49)) (sNo) (Zx)) (Zo (Yx (bV (xAt (xLc 21) 31)) (Zo (sEx (xMc (xLc 21) 67 (ZD))) (Zx)) (Zx)) (Zo (sEx (xMc (xLc 21) 30 (Zk (Zit (U6 (xV (.str [60,47])) (U6 (xFv (YK (xMc (xLc 21) 56 (Zk (xLc 59) (ZD))) (xV (.int 0)))) (U6 (xV (.str [62])) (Zow))))) (ZD)))) (Zo (sEx (xMc (xAt (xLc 21) 45) 1 (ZD))) (Zo (Kh (xLc 21) 48 (Zsp .Eq (Yb (xGl 64) (Zk (xAt (xLc 21) 45) (ZD))) (xV (.int 1)))) (Zo (sEx (xMc (xAt (xLc 21) 41) 1 (ZD))) (Zo (sEx (xMc (xAt (xLc 21) 42) 1 (ZD))) (Zx)))))))noncomputable def Ui:Sc:=[(21,.local),(97,.local),(73,.globalImplicit)]def Kv:FS:=Zo (Yx (Zo4 (bV (xAt (xLc 21) 32))) (Zo (Zth) (Zx)) (Zx)) (Zo (Yx (bV (xAt (xLc 21) 49)) (Zo (Zth) (Zx)) (Zx)) (Zo (Yx (bV (xAt (xLc 21) 48)) (Zo (sEx (xMc (xLc 21) 30 (Zk (xV (.str [10])) (ZD)))) (Zx)) (Zo (Yx (Zc8 (bV (xAt (xLc 21) 47)) (bV (xAt (xLc 21) 31))) (Zo (sEx (xMc (xLc 21) 67 (ZD))) (Zx)) (Zx)) (Zx))) (Zo (sEx (xMc (xLc 21) 30 (Zk (Zit (U6 (xV (.str [60,33,45,45])) (U6 (xFv (Yb (xGl 73) (Zk (xLc 97) (ZD)))) (U6 (xV (.str [45,45,62])) (Zow))))) (ZD)))) (Zo (Yx (Zo4 (bV (xAt (xLc 21) 47))) (Zo (sEx (xMc (xLc 21) 30 (Zk (xV (.str [10])) (ZD)))) (Zx)) (Zx)) (Zx)))))noncomputable def Zbt:Sc:=[(97,.local),(99,.globalImplicit),(100,.globalImplicit),(16,.globalImplicit)]def Zbv:FS:=Zo (Zo (Yx (YC .In (xV (.str [38])) (xLc 97)) (Zo (YM 97 (Zgy (xLc 97) [38] [38,97,109,112,59])) (Zx)) (Zx)) (Zo (Yx (YC .In (xV (.str [60])) (xLc 97)) (Zo (YM 97 (Zgy (xLc 97) [60] [38,108,116,59])) (Zx)) (Zx)) (Zo (Yx (YC .In (xV (.str [62])) (xLc 97)) (Zo (YM 97 (Zgy (xLc 97) [62] [38,103,116,59])) (Zx)) (Zx)) (Zo (Yx (YC .In (xV (.str [13])) (xLc 97)) (Zo (YM 97 (Zgy (xLc 97) [13] [38,35,120,68,59])) (Zx)) (Zx)) (Zo (Zao (xLc 97)) (Zx)))))) (Zx)noncomputable def Zbb:Sc:=[(97,.local),(99,.globalImplicit),(100,.globalImplicit),(16,.globalImplicit)]def Zbd:FS:=Zo (Zo (Yx (YC .In (xV (.str [38])) (xLc 97)) (Zo (YM 97 (Zgy (xLc 97) [38] [38,97,109,112,59])) (Zx)) (Zx)) (Zo (Yx (YC .In (xV (.str [60])) (xLc 97)) (Zo (YM 97 (Zgy (xLc 97) [60] [38,108,116,59])) (Zx)) (Zx)) (Zo (Yx (YC .In (xV (.str [34])) (xLc 97)) (Zo (YM 97 (Zgy (xLc 97) [34] [38,113,117,111,116,59])) (Zx)) (Zx)) (Zo (Yx (YC .In (xV (.str [9])) (xLc 97)) (Zo (YM 97 (Zgy (xLc 97) [9] [38,35,120,57,59])) (Zx)) (Zx)) (Zo (Yx (YC .In (xV (.str [10])) (xLc 97)) (Zo (YM 97 (Zgy (xLc 97) [10] [38,35,120,65,59])) (Zx)) (Zx)) (Zo (Yx (YC .In (xV (.str [13])) (xLc 97)) (Zo (YM 97 (Zgy (xLc 97) [13] [38,35,120,68,59])) (Zx)) (Zx)) (Zo (Zao (xLc 97)) (Zx)))))))) (Zx)noncomputable def Zaq:Sc:=[(21,.local),(104,.local),(105,.local),(106,.local),(107,.local),(64,.globalImplicit),(114,.globalImplicit)]def Zau:FS:=Zo (Kh (xLc 21) 108 (xLc 105)) (Zo (Kh (xLc 21) 109 (xLc 106)) (Zo (Kh (xLc 21) 110 (Yb (xGl 64) (Zk (xLc 106) (ZD)))) (Zo (Kh (xLc 21) 111 (xLc 107)) (Zo (Kh (xLc 21) 112 (Zd4 (ZD))) (Zo (Kh (xLc 21) 113 (Yb (xGl 114) (Zk (xLc 104) (ZD)))) (Zx))))))noncomputable def Zar:Sc:=[(21,.local),(116,.local)]def Zav:FS:=Zo (sEx (xMc (xLc 21) 117 (ZD))) (Zo (Zao (xMc (xLc 116) 3 (Zk (xAt (xLc 21) 112) (ZD)))) (Zx))noncomputable def Ig:Sc:=[(21,.local),(119,.local),(64,.globalImplicit),(122,.globalImplicit)]def Ij:FS:=Zo (YM 119 (xMc (xAt (xLc 21) 113) 1 (ZD))) (Zo (Yx (YC .NotEq (xLc 119) (Zc1 (Zk (xV (.str [32])) (Zk (xV (.str [])) (ZD))))) (Zo (sEx (Ylt (xAt (xLc 21) 113) 120 (xLc 119))) (Zx)) (Zx)) (Zo (Yx (YC .Gt (Yb (xGl 64) (Zk (xAt (xLc 21) 113) (ZD))) (xV (.int 0))) (Zo (Yx (Zc8 (bV (xMc (xAt (xLc 21) 113) 121 (ZD))) (bV (xAt (xLc 21) 112))) (sNo) (Zo (sEx (xMc (xAt (xLc 21) 112) 0 (Zk (Yb (xGl 122) (Zk (xAt (xLc 21) 113) (ZD))) (ZD)))) (Zx))) (Zx)) (Zx)) (Zo (sEx (xMc (xAt (xLc 21) 113) 123 (ZD))) (Zx))))noncomputable def Us:Sc:=[(21,.local),(129,.local),(130,.local),(131,.local),(132,.local),(135,.local),(136,.local),(138,.local),(64,.globalImplicit),(133,.globalImplicit),(122,.globalImplicit)]def Uu:FS:=Zo (sEx (xMc (xAt (xLc 21) 113) 120 (Zk (xLc 129) (Zk (xLc 130) (ZD))))) (Zo (Yx (YC .Gt (Yb (xGl 64) (Zk (xAt (xLc 21) 113) (ZD))) (xAt (xLc 21) 108)) (Zo (Zld (.one 131) (xAt (xLc 21) 111) (Zo (Zld (.one 132) (Yb (xGl 133) (Zk (Xv .Sub (xMc (xAt (xLc 21) 113) 134 (ZD)) (xV (.int 1))) (Zk (xV (.int 0)) (Zk (Zdj (xV (.int 1))) (ZD))))) (Zo (Yx (bV (xMc (xLc 131) 5 (ZD))) (Zo (YM 129 (YK (Zsn (xAt (xLc 21) 113) (xLc 132)) (xV (.int 0)))) (Zo (Yx (Zc8 (bV (xLc 129)) (YC .Eq (YK (xLc 129) (xV (.int 0))) (xLc 131))) (Zo (Yap) (Zx)) (Zx)) (Zx))) (Zx)) (Zo (YM 135 (YK (Zsn (xAt (xLc 21) 113) (Xv .Sub (xLc 132) (xV (.int 1)))) (xV (.int 1)))) (Zo (Yx (Zc8 (bV (xLc 135)) (YC .Eq (YK (xLc 135) (Zdj (xV (.int 1)))) (xLc 131))) (Zo (Yap) (Zx)) (Zx)) (Zx)))) (Zo (Yme) (Zx))) (Zo (Yap) (Zx))) (Zo (Ztj [129,136] (xMc (xAt (xLc 21) 113) 1 (ZD))) (Zo (Yx (YC .Gt (xAt (xAt (xLc 21) 113) 137) (xV (.int 0))) (Zo (sEx (xMc (xLc 21) 117 (ZD))) (Zo (Yx (Zo4 (bV (xLc 129))) (Zo (YM 129 (xV (.str [32]))) (Zx)) (Zx)) (Zx))) (Zx)) (Zo (sEx (xMc (xAt (xLc 21) 113) 120 (Zk (xLc 129) (Zk (xLc 136) (ZD))))) (Zo (Zth) (Zx)))))) (Zo (YM 138 (xMc (xAt (xLc 21) 113) 139 (Zk (xLc 132) (ZD)))) (Zo (sEx (xMc (xAt (xLc 21) 112) 0 (Zk (Yb (xGl 122) (Zk (xAt (xLc 21) 113) (ZD))) (ZD)))) (Zo (sEx (xMc (xAt (xLc 21) 113) 123 (Zk (xLc 138) (ZD)))) (Zx))))) (Zx)) (Zx))noncomputable def Ut:Sc:=[(21,.local),(140,.local),(199,.free),(141,.globalImplicit)]def Uv:FS:=Zo (Kh (xLc 21) 137 (xLc 140)) (Zo (sEx (Yib .init)) (Zx))noncomputable def Zcf:Sc:=[(21,.local),(129,.local),(130,.local)]def Zch:FS:=Zo (sEx (Zxy (xLc 21) (Zc1 (Zk (xLc 129) (Zk (xLc 130) (ZD)))))) (Zx)noncomputable def Zaf:Sc:=[(21,.local),(132,.local),(142,.local)]def Zai:FS:=Zo (YM 142 (Ylu (xLc 21) (xLc 132))) (Zo (Zv7 (Zd4 (ZD)) (xLc 21) (xLc 132)) (Zo (Zao (xLc 142)) (Zx)))noncomputable def Za2:Sc:=[(21,.local),(199,.free),(141,.globalImplicit)]def Zcy:FS:=Zo (Yx (YC .Eq (xMc (xLc 21) 134 (ZD)) (xV (.int 0))) (Zo (Zao (Zc1 (Zk (xV (.str [])) (Zk (xV (.str [])) (ZD))))) (Zx)) (Zx)) (Zo (Zao (Yib .pop)) (Zx))noncomputable def Zat:Sc:=[(21,.local),(144,.globalImplicit)]def Zax:FS:=Zo (Zao Zxv) (Zx)noncomputable def Zas:Sc:=[(21,.local),(102,.globalImplicit)]def Zaw:FS:=Zo (Zao Zsm) (Zx)noncomputable def U9:Sc:=[(21,.local),(145,.local)]def Ka:FS:=Zo (Yx (YC .Is (xLc 145) (xV .none)) (Zo (YM 145 (Zd4 (ZD))) (Zx)) (Zx)) (Zo (Zv7 (xLc 145) (xLc 21) (xV .none)) (Zo (Kh (xLc 21) 137 (xV (.int 0))) (Zx)))noncomputable def I3:Sc:=[(21,.local),(122,.globalImplicit)]def I7:FS:=Zo (Zao (xAnd (Zsp .Eq (xAt (xLc 21) 137) (xV (.int 0))) (xOr (Ylw (xLc 21)) (xMc (Yb (xGl 122) (Zk (xLc 21) (ZD))) 5 (ZD))))) (Zx)noncomputable def UL:Sc:=[(21,.local),(199,.free),(141,.globalImplicit)]def Il:FS:=Zo (Zao (Yib .len)) (Zx)noncomputable def Ie:Sc:=[(147,.local),(75,.local),(152,.local),(153,.local),(148,.local),(131,.local),(146,.globalImplicit),(64,.globalImplicit)]def Ii:FS:=Zo (Yx (YC .NotIn (xV (.str [34])) (xLc 147)) (Zo (Zao (xLc 147)) (Zx)) (Zx)) (Zo (YM 75 (xV (.int 0))) (Zo (YM 152 (xV .none)) (Zo (YM 153 (Zd4 (ZD))) (Zo (Zti (.tup [148,131]) (Zy1 146 (Zk (xLc 147) ZD)) (Zo (Yx (YC .Eq (xLc 131) (xV (.str [34]))) (Zo (Yx (YC .Is (xLc 152) (xV .none)) (Zo (YM 152 (xLc 148)) (Zx)) (Zo (Yx (YC .NotEq (xLc 75) (xLc 152)) (Zo (sEx (xMc (xLc 153) 0 (Zk (Zfd (xLc 147) (xLc 75) (xLc 152) (xV .none)) (ZD)))) (Zx)) (Zx)) (Zo (YM 75 (Xv .Add (xLc 148) (xV (.int 1)))) (Zo (YM 152 (xV .none)) (Zx))))) (Zx)) (Zx)) (Zx)) (Zx)) (Zo (Yx (YC .Lt (xLc 75) (Yb (xGl 64) (Zk (xLc 147) (ZD)))) (Zo (sEx (xMc (xLc 153) 0 (Zk (Zfd (xLc 147) (xLc 75) (xV .none) (xV .none)) (ZD)))) (Zx)) (Zx)) (Zo (Zao (xMc (xV (.str [])) 3 (Zk (xLc 153) (ZD)))) (Zx)))))))noncomputable def Zbu:Sc:=[(147,.local),(155,.local),(148,.local),(131,.local),(151,.globalImplicit),(146,.globalImplicit)]def Zbw:FS:=Zo (YM 147 (Yb (xGl 151) (Zk (xLc 147) (ZD)))) (Zo (YM 155 (xV (.int 0))) (Zo (Zti (.tup [148,131]) (Zy1 146 (Zk (xLc 147) ZD)) (Zo (Yx (YC .Eq (xLc 131) (xV (.str [40]))) (Zo (Zm4 155 .Add (xV (.int 1))) (Zx)) (Zo (Yx (YC .Eq (xLc 131) (xV (.str [41]))) (Zo (Zm4 155 .Sub (xV (.int 1))) (Zo (Yx (YC .Lt (xLc 155) (xV (.int 0))) (Zo (Zao (xV (.bool false))) (Zx)) (Zx)) (Zx))) (Zx)) (Zx))) (Zx)) (Zx)) (Zo (Zao (Zsp .Eq (xLc 155) (xV (.int 0)))) (Zx))))noncomputable def IV:Sc:=[(157,.local),(158,.local),(79,.local)]def I5:FS:=Zo (YM 158 (Zd4 (ZD))) (Zo (Zld (.one 79) (xLc 157) (Zo (Yx (YC .In (xV (.str [91])) (YK (xLc 79) (xV (.int 1)))) (Zo (YM 79 (Zc1 (Zk (xV (.str [])) (Zk (xV (.str [])) (ZD))))) (Zx)) (Zx)) (Zo (sEx (xMc (xLc 158) 0 (Zk (xLc 79) (ZD)))) (Zx))) (Zx)) (Zo (Zao (xLc 158)) (Zx)))noncomputable def Zg0:Sc:=[(200,.local),(163,.local),(161,.free)]noncomputable def Zhx:Sc:=[(160,.local),(161,.cell),(162,.local),(144,.globalImplicit)]def Zh4:FS:=Zo (Ztk 161 (Zd4 (Zk (xV (.str [40])) (Zk (xV (.str [41])) (Zk (xV (.str [60])) (Zk (xV (.str [40])) (Zk (xV (.str [41])) (Zk (xV (.str [34])) (Zk (xV (.str [40])) (Zk (xV (.str [41])) (Zk (xV (.str [92,40])) (Zk (xV (.str [38])) (Zk (xV (.str [92,34])) (Zk (xV (.str [91])) (Zk (xV (.str [92,41])) (Zk (xV (.str [92,92])) (Zk (xV (.str [62])) (Zk (xV (.str [92,91])) (ZD))))))))))))))))))) (Zo (YM 162 (Zlr Zg0 (.one 163) (xLc 160) (bT) (YK (xCl 161) (xLc 163)))) (Zo (Yx (YC .Eq (Xv .Mod (Yb (xGl 144) (Zk (xLc 160) (ZD))) (xV (.int 3))) (xV (.int 2))) (Zo (sEx (xMc (xLc 162) 0 (Zk (xV (.str [92])) (ZD)))) (Zx)) (Zx)) (Zo (Zao (xLc 162)) (Zx))))noncomputable def Zhy:Sc:=[(97,.local),(156,.globalImplicit),(43,.globalImplicit),(146,.globalImplicit),(151,.globalImplicit)]def Zh5:FS:=Zo (Zao (Yb (xGl 156) (Zk (Zso (Zy1 146 (Zk (Yb (xGl 151) (Zk (xLc 97) (ZD))) ZD))) (ZD)))) (Zx)noncomputable def Zei:Sc:=[(169,.local),(167,.free)]noncomputable def Zjq:Sc:=[(97,.local),(166,.local),(168,.local),(170,.local),(171,.local),(172,.local),(173,.local),(175,.local),(167,.cell),(103,.globalImplicit),(19,.globalImplicit),(114,.globalImplicit),(164,.globalImplicit),(174,.globalImplicit),(122,.globalImplicit)]def Zjy (K:KwT):FS:=Zo (Ztk 167 (Yb (xGl 103) (Zk (xV (.int 0)) (Zk (xLc 166) (Zk (xV (.str [32])) (Zk (xV (.str [62])) (ZD))))))) (Zo (sMkW K 168 (xLam Zei 169 [167] (xMc (xCl 167) 128 (Zk (xV (.str [])) (Zk (xLc 169) (ZD)))))) (Zo (YM 170 (Yb (xGl 114) (ZD))) (Zo (YM 171 (xV (.int 97))) (Zo (sEx (xMc (xLc 168) 75 (Zk (xV (.str [114])) (Zk (xDS) (ZD))))) (Zo (Zld (.tup [172,173]) (Yb (xGl 164) (Zk (xLc 97) (ZD))) (Zo (Yx (YC .Eq (xLc 173) (xV (.str [40]))) (Zo (sEx (xMc (xLc 168) 75 (Zk (Yb (xGl 174) (Zk (xLc 171) (ZD))) (Zk (Yic (Zfw [105,110] (Yb (xGl 122) (Zk (xLc 170) (ZD))) (Zfw [97,116] (Yb (xGl 122) (Zk (xLc 172) (ZD))) (Ya0)))) (ZD))))) (Zo (sEx (xMc (xLc 170) 120 (Zk (xV (.str [47])) (Zk (Yb (xGl 174) (Zk (xLc 171) (ZD))) (ZD))))) (Zo (Zm4 171 .Add (xV (.int 1))) (Zx)))) (Zo (Yx (YC .Eq (xLc 173) (xV (.str [41]))) (Zo (YM 175 (YK (xMc (xLc 170) 1 (ZD)) (xV (.int 1)))) (Zo (Yx (YC .Eq (xLc 175) (xV (.str []))) (Zo (sEx (xMc (xLc 168) 96 (Zk (xLc 173) (ZD)))) (Zx)) (Zo (sEx (xMc (xLc 168) 95 (Zk (xLc 175) (ZD)))) (Zx))) (Zx))) (Zo (sEx (xMc (xLc 168) 66 (Zk (Zfd (xLc 173) (Zdj (xV (.int 1))) (xV .none) (xV .none)) (ZD)))) (Zx))) (Zx))) (Zx)) (Zx)) (Zo (Zv6 (YC .Gt (xMc (xLc 170) 134 (ZD)) (xV (.int 0))) (Zo (sEx (xMc (xLc 168) 95 (Zk (YK (xMc (xLc 170) 1 (ZD)) (xV (.int 1))) (ZD)))) (Zx))) (Zo (sEx (xMc (xLc 168) 95 (Zk (xV (.str [114])) (ZD)))) (Zo (Zao (xMc (xCl 167) 115 (Zk (xV (.str [10])) (ZD)))) (Zx)))))))))noncomputable def Zjs:Sc:=[(162,.local),(177,.local),(178,.local),(78,.local),(179,.local),(133,.globalImplicit),(64,.globalImplicit)]def Zj0:FS:=Zo (YM 177 (Xv .Mult (Xv .FloorDiv (xMc (xLc 162) 2 (Zk (xV (.str [34])) (ZD))) (xV (.int 2))) (xV (.int 2)))) (Zo (YM 178 (Zd4 (ZD))) (Zo (Zld (.one 78) (Yb (xGl 133) (Zk (Yb (xGl 64) (Zk (xLc 162) (ZD))) (ZD))) (Zo (YM 179 (xMc (Zfd (xLc 162) (xV .none) (xLc 78) (xV .none)) 2 (Zk (xV (.str [34])) (ZD)))) (Zo (Yx (bOr (YC .GtE (xLc 179) (xLc 177)) (Zc8 (YC .Eq (Xv .Mod (xLc 179) (xV (.int 2))) (xV (.int 0))) (YC .NotEq (YK (xLc 162) (xLc 78)) (xV (.str [34]))))) (Zo (sEx (xMc (xLc 178) 0 (Zk (YK (xLc 162) (xLc 78)) (ZD)))) (Zx)) (Zx)) (Zx))) (Zx)) (Zo (Zao (xLc 178)) (Zx))))noncomputable def Zdw:Sc:=[(178,.local),(181,.local),(78,.local),(133,.globalImplicit),(64,.globalImplicit)]def Zdz:FS:=Zo (YM 181 (Zd4 (ZD))) (Zo (Zld (.one 78) (Yb (xGl 133) (Zk (Yb (xGl 64) (Zk (xLc 178) (ZD))) (ZD))) (Zo (Yx (YC .Eq (YK (YK (xLc 178) (xLc 78)) (Zdj (xV (.int 1)))) (xV (.str [91]))) (Zo (sEx (xMc (xLc 181) 0 (Zk (Zc1 (Zk (xV (.str [])) (Zk (xV (.str [])) (ZD)))) (ZD)))) (Zx)) (Zo (sEx (xMc (xLc 181) 0 (Zk (Zc1 (Zk (Xv .Sub (Yb (xGl 64) (Zk (xMc (xV (.str [])) 3 (Zk (Zfd (xLc 178) (xV .none) (Xv .Add (xLc 78) (xV (.int 1))) (xV .none)) (ZD))) (ZD))) (xV (.int 1))) (Zk (YK (xLc 178) (xLc 78)) (ZD)))) (ZD)))) (Zx))) (Zx)) (Zx)) (Zo (Zao (xLc 181)) (Zx)))noncomputable def Zg1:Sc:=[(200,.local),(78,.local),(178,.free)]noncomputable def Zhz:Sc:=[(178,.cell),(78,.local),(183,.local),(184,.local),(133,.globalImplicit),(64,.globalImplicit),(185,.globalImplicit)]def Zh6:FS:=Zo (YM 183 (Zlr Zg1 (.one 78) (Yb (xGl 133) (Zk (Yb (xGl 64) (Zk (xCl 178) (ZD))) (ZD))) (YC .In (YK (xCl 178) (xLc 78)) (Zc1 (Zk (xV (.str [40])) (Zk (xV (.str [41])) (ZD))))) (xLc 78))) (Zo (YM 184 (xDE)) (Zo (YM 78 (xV (.int 1))) (Zo (Zv6 (YC .Lt (xLc 78) (Yb (xGl 64) (Zk (xLc 183) (ZD)))) (Zo (Yx (Zc8 (YC .Eq (YK (xCl 178) (YK (xLc 183) (Xv .Sub (xLc 78) (xV (.int 1))))) (xV (.str [40]))) (YC .Eq (YK (xCl 178) (YK (xLc 183) (xLc 78))) (xV (.str [41])))) (Zo (Zj7 (YK (xLc 183) (xLc 78)) (xLc 184) (YK (xLc 183) (Xv .Sub (xLc 78) (xV (.int 1))))) (Zo (Zj7 (YK (xLc 183) (Xv .Sub (xLc 78) (xV (.int 1)))) (xLc 184) (YK (xLc 183) (xLc 78))) (Zo (YM 183 (Xv .Add (Zfd (xLc 183) (xV .none) (Xv .Sub (xLc 78) (xV (.int 1))) (xV .none)) (Zfd (xLc 183) (Xv .Add (xLc 78) (xV (.int 1))) (xV .none) (xV .none)))) (Zo (YM 78 (Yb (xGl 185) (Zk (Xv .Sub (xLc 78) (xV (.int 1))) (Zk (xV (.int 1)) (ZD))))) (Zx))))) (Zo (Zm4 78 .Add (xV (.int 1))) (Zx))) (Zx))) (Zo (Zao (Zc1 (Zk (xLc 183) (Zk (xLc 184) (ZD))))) (Zx)))))noncomputable def Zbi:Sc:=[(200,.local),(193,.local),(78,.free),(184,.free),(187,.free)]noncomputable def Zgr:Sc:=[(178,.local),(183,.local),(184,.cell),(187,.cell),(78,.cell),(188,.local),(189,.local),(190,.local),(191,.local),(192,.local),(182,.globalImplicit),(133,.globalImplicit),(64,.globalImplicit),(174,.globalImplicit),(122,.globalImplicit)]def Zgx:FS:=Zo (Ymf [(183,false),(184,true)] (Yb (xGl 182) (Zk (xLc 178) (ZD)))) (Zo (Ztk 187 (xDE)) (Zo (Zld (.cell 78) (Yb (xGl 133) (Zk (Yb (xGl 64) (Zk (xLc 178) (ZD))) (ZD))) (Zo (Yx (YC .Eq (YK (xLc 178) (xCl 78)) (xV (.str [40]))) (Zo (Zj7 (Yb (xGl 174) (Zk (Xv .Add (xV (.int 97)) (Yb (xGl 64) (Zk (xCl 187) (ZD)))) (ZD))) (xCl 187) (xCl 78)) (Zx)) (Zx)) (Zx)) (Zx)) (Zo (YM 188 (Yic (Zfw [38] (xV (.str [38,97,109,112,59])) (Zfw [60] (xV (.str [38,108,116,59])) (Zfw [62] (xV (.str [38,103,116,59])) (Ya0)))))) (Zo (YM 189 (Zd4 (Zk (xV (.str [60,114,62])) (ZD)))) (Zo (YM 190 (xV (.str []))) (Zo (Zld (.cell 78) (Yb (xGl 133) (Zk (Yb (xGl 64) (Zk (xLc 178) (ZD))) (ZD))) (Zo (YM 191 (YK (xLc 178) (xCl 78))) (Zo (Yx (YC .Eq (xLc 191) (xV (.str [40]))) (Zo (YM 192 (xMc (xV (.str [])) 3 (Zk (Zvo Zbi (.one 193) (xCl 187) (Zc8 (YC .Lt (xLc 193) (xCl 78)) (YC .Gt (xMc (xCl 184) 7 (Zk (xLc 193) (Zk (Xv .Add (xCl 78) (xV (.int 1))) (ZD)))) (xCl 78))) (Xv .Add (xV (.str [47])) (YK (xCl 187) (xLc 193)))) (ZD)))) (Zo (sEx (xMc (xLc 189) 0 (Zk (Xv .Add (Xv .Add (Xv .Add (Xv .Add (Xv .Add (Xv .Add (Xv .Add (xLc 190) (xV (.str [60]))) (YK (xCl 187) (xCl 78))) (xV (.str [32,97,116,61,34]))) (Yb (xGl 122) (Zk (Yb (xGl 64) (Zk (xMc (xV (.str [])) 3 (Zk (Zfd (xLc 178) (xV .none) (xCl 78) (xV .none)) (ZD))) (ZD))) (ZD)))) (xV (.str [34,32,105,110,61,34]))) (xLc 192)) (xV (.str [34,62]))) (ZD)))) (Zo (YM 190 (xV (.str []))) (Zx)))) (Zo (Yx (YC .Eq (xLc 191) (xV (.str [41]))) (Zo (sEx (xMc (xLc 189) 0 (Zk (Xv .Add (xLc 190) (xIf (YC .In (xCl 78) (xCl 184)) (Xv .Add (Xv .Add (xV (.str [60,47])) (YK (xCl 187) (YK (xCl 184) (xCl 78)))) (xV (.str [62]))) (xV (.str [60,33,45,45,41,45,45,62])))) (ZD)))) (Zo (YM 190 (xV (.str []))) (Zx))) (Zo (Yx (YC .NotEq (YK (xLc 191) (Zdj (xV (.int 1)))) (xV (.str [91]))) (Zo (Zm4 190 .Add (xMc (xLc 188) 7 (Zk (YK (xLc 191) (Zdj (xV (.int 1)))) (Zk (YK (xLc 191) (Zdj (xV (.int 1)))) (ZD))))) (Zx)) (Zx)) (Zx))) (Zx))) (Zx))) (Zx)) (Zo (Zld (.cell 78) (Zfd (xLc 183) (xV .none) (xV .none) (Zdj (xV (.int 1)))) (Zo (Yx (YC .Eq (YK (xLc 178) (xCl 78)) (xV (.str [40]))) (Zo (sEx (xMc (xLc 189) 0 (Zk (Xv .Add (Xv .Add (Xv .Add (xLc 190) (xV (.str [60,47]))) (YK (xCl 187) (xCl 78))) (xV (.str [62]))) (ZD)))) (Zo (YM 190 (xV (.str []))) (Zx))) (Zx)) (Zx)) (Zx)) (Zo (Zao (Xv .Add (xLc 189) (Zd4 (Zk (Xv .Add (xLc 190) (xV (.str [60,47,114,62]))) (ZD))))) (Zx)))))))))noncomputable def Zjr:Sc:=[(189,.local),(166,.local),(195,.local),(196,.local),(64,.globalImplicit)]def Zjz:FS:=Zo (YM 195 (Zd4 (Zk (YK (xLc 189) (xV (.int 0))) (ZD)))) (Zo (Zld (.one 196) (Zfd (xLc 189) (xV (.int 1)) (xV .none) (xV .none)) (Zo (Yx (YC .Gt (Xv .Add (Yb (xGl 64) (Zk (YK (xLc 195) (Zdj (xV (.int 1)))) (ZD))) (Yb (xGl 64) (Zk (xLc 196) (ZD)))) (xLc 166)) (Zo (sEx (xMc (xLc 195) 0 (Zk (xLc 196) (ZD)))) (Zx)) (Zo (Zj7 (Xv .Add (YK (xLc 195) (Zdj (xV (.int 1)))) (xLc 196)) (xLc 195) (Zdj (xV (.int 1)))) (Zx))) (Zx)) (Zx)) (Zo (Zao (xMc (xV (.str [10])) 3 (Zk (xLc 195) (ZD)))) (Zx)))noncomputable def Ztg:Sc:=[(200,.local),(163,.local)]noncomputable def Yhc:Sc:=[(198,.local),(160,.local),(162,.local),(166,.local),(178,.local),(43,.globalImplicit),(159,.globalImplicit),(144,.globalImplicit),(176,.globalImplicit),(154,.globalImplicit),(182,.globalImplicit),(164,.globalImplicit),(180,.globalImplicit),(165,.globalImplicit),(194,.globalImplicit),(186,.globalImplicit)]def Yhp:FS:=Zo (YM 160 (Zlr Ztg (.one 163) (Zfd (Xv .Add (Yb (xGl 43) (Zk (xScr 198 (xV .none) (xV (.int 9)) (xV .none)) (ZD))) (Zd4 (Zk (xV (.int 0)) (Zk (xV (.int 2)) (Zk (xV (.int 3)) (Zk (xV (.int 5)) (Zk (xV (.int 1)) (Zk (xV (.int 5)) (Zk (xV (.int 8)) (Zk (xV (.int 4)) (Zk (xV (.int 7)) (ZD)))))))))))) (xV .none) (xV (.int 9)) (xV .none)) (bT) (Xv .Mod (xLc 163) (xV (.int 16))))) (Zo (YM 162 (Yb (xGl 159) (Zk (xLc 160) (ZD)))) (Zo (YM 166 (Xv .Add (xV (.int 18)) (Xv .Mod (Yb (xGl 144) (Zk (xLc 160) (ZD))) (xV (.int 25))))) (Zo (YM 178 (Yb (xGl 176) (Zk (xLc 162) (ZD)))) (Zo (Yx (YC .IsNot (Yb (xGl 154) (Zk (xMc (xV (.str [])) 3 (Zk (xLc 162) (ZD))) (ZD))) (Zsp .Eq (YK (Yb (xGl 182) (Zk (xLc 178) (ZD))) (xV (.int 0))) (Zd4 (ZD)))) (Zo (Zao (xV (.bool false))) (Zx)) (Zx)) (Zo (Yx (YC .NotEq (Yb (xGl 164) (Zk (xMc (xV (.str [])) 3 (Zk (xLc 162) (ZD))) (ZD))) (Yb (xGl 180) (Zk (xLc 178) (ZD)))) (Zo (Zao (xV (.bool false))) (Zx)) (Zx)) (Zo (Zao (Zsp .Eq (Yb (xGl 165) (Zk (xMc (xV (.str [])) 3 (Zk (xLc 162) (ZD))) (Zk (xLc 166) (ZD)))) (Yb (xGl 194) (Zk (Yb (xGl 186) (Zk (xLc 178) (ZD))) (Zk (xLc 166) (ZD)))))) (Zx)))))))
section
variable {P:Yu}{f:Addr}{body:List Stmt}{g:Bool}{cl:List (Str×Addr)}
noncomputable def defT (P:Yu)(f:Addr):=(((hK P).lookup f).map (·.data),codeIn (hK P) (Zd7 (hK P) f).code (Zd7 (hK P) f).qualname,(Zd7 (hK P) f).body,(Zd7 (hK P) f).scope.names,(Zd7 (hK P) f).scope.kind,(Zd7 (hK P) f).scope.isCoroutine,(Zd7 (hK P) f).scope.isGenerator,(Zd7 (hK P) f).globals,(Zd7 (hK P) f).builtins,(Zd7 (hK P) f).closure)
def Zg4 (P:Yu)(f:Addr)(sc:Sc)(body:List Stmt)(g:Bool)(cl:List (Str×Addr)):Prop:=
 defT P f=(some (.func (Zd7 (hK P) f)),true,.stmts body,sc.map fun p=>(nm p.1,p.2),.function,false,g,Uj,UJ,cl)theorem Zg4.mk (h:defT P f=(some (.func (Zd7 (hK P) f)),true,.stmts body,sc.map fun p=>(nm p.1,p.2),.function,false,g,Uj,UJ,cl)):Zg4 P f sc body g cl:=h
theorem Zg4.at (hG:G.K=hK P)(C:GOK G)(D:Zg4 P f sc body g cl):Zzw G f (Zd7 (hK P) f) sc body g cl:=by
 have hz0:=YJ D
 have h1:=hz0.1
 have D:=hz0.2
 have hz0:=YJ D
 have h2:=hz0.1
 have D:=hz0.2
 have hz0:=YJ D
 have h3:=hz0.1
 have D:=hz0.2
 have hz0:=YJ D
 have h4:=hz0.1
 have D:=hz0.2
 have hz0:=YJ D
 have h5:=hz0.1
 have D:=hz0.2
 have hz0:=YJ D
 have h6:=hz0.1
 have D:=hz0.2
 have hz0:=YJ D
 have h7:=hz0.1
 have hz0:=YJ (hz0.2)
 have h8:=hz0.1
 have hz0:=YJ (hz0.2)
 exact ⟨(Yz.mp h1).imp fun o e=>⟨C.kin _ _ (hG▸e.1),e.2⟩,codeRec_of (hG▸C.kin) h2,h3,h4,h5,h6,h7,h8,(hz0.1),(hz0.2)⟩def allV (k:Nat):(List Value->Prop)->Prop:=k.rec (fun p=>p []) fun _ ih p=>∀ y,ih fun l=>p (y::l)
theorem Yg8 {k:Nat}:∀ {p:List Value->Prop},allV k p->∀ {l},l.length=k->p l:=by
 induction k with
 | zero=>exact fun h _ e=>Xj.mp e▸h
 | succ k ih=>exact fun h l e=>match l,e with | y::r,e=>ih (h y) (Zaj e)
def Yhe (P:Yu)(f:Addr)(ns:List Nat)(k:Nat)(kw:List (Str×Value))(dv:List Value):Prop:=
 ∀ S,allV k fun vals=>peek (hK P) S (bindArgs (Zd7 (hK P) f) ⟨vals,kw⟩)=some ((ns.map nm).zip (vals++dv))theorem Zqu {α β:Type}{l:List α}{m:List β}(h:l.length=m.length):(l.zip m).map (·.1)=l:=List.map_fst_zip (ZX h)theorem Zxu {α β:Type}{l:List α}{m:List β}(h:l.length=m.length):(l.zip m).map (·.2)=m:=List.map_snd_zip (ZX h.symm)theorem Yne {ns:List Nat}{us:List V}(h:ns.length=us.length):(ns.zip us).map (fun p=>nm p.1)=ns.map nm:=(U7 (f:=Um) (g:=nm)).symm.trans (congrArg _ (Zqu h))
theorem Zf1 (hG:G.K=hK P)(C:GOK G){ns:List Nat}{k:Nat}{kw:List (Str×Value)}{ds:List V}{dv:List Value}(X:Yhe P f ns k kw dv)(hd:∀ h,VRs h ds dv)(hl:k + ds.length=ns.length){vs:List V}(hk:vs.length=k) :
  Zxr G (Zd7 (hK P) f) vs kw (ns.zip (vs++ds)):=fun s vals hkeep rv=>
 have r:=rv.append (hd s.heap)
 have e1:ns.length=(vs++ds).length:=by rw [Zf,hk,hl]
 have e3:(ns.map nm).length=(vals++dv).length:=(Zh nm).trans (e1.trans r.length)
 ⟨_,kp_binds (hG▸C.kin.keeps hkeep) fun S=>Yg8 (X S) (rv.length.symm.trans hk),(Zqu e3).trans (Yne e1).symm,by rw [Zxu e1,Zxu e3];exact r⟩
end
section
noncomputable def GK (w:World)(j0:Zd):GC:=⟨PySem.Challenge.rw_if0024_01.row.prog,w,j0.heap,j0.os,hK w.params,[(125,123),(375,371),(291,287),(298,294)]⟩
structure Zg5 (w:World)(j0:Zd)(mg mb:Str->Option Value):Prop where
 kin:(hK w.params).In j0.heap
 sys:(j0.heap.get? Uy).isSome=true
 g:j0.heap.Ns Uj mg
 b:j0.heap.Ns UJ mb
 nolimit:j0.heap.NoLimit
 builtins:∀ x:Str,x≠"__name__"->mb x=Ykm x
 bmod:∃ mg bm o,j0.heap.Ns Uj mg/\mg (Zz "__builtins__")=some (.ref bm)/\bm≠UJ/\j0.heap.get? bm=some o/\o.cls= .type "module"/\o.dict=some UJ/\o.data= .plain
section
variable {w:World}{mg mb:Str->Option Value}
noncomputable def gB (K:Frag)(i:Nat)(v:V):Bool:=match v with
 | .bi b=>nsIn K Uj (nm i) == some none&&(Ykm (nm i) == some b.val&&!(nm i == Zz "__name__"))
 | .ref a=>nsIn K Uj (nm i) == some (some (.ref a))
 | .str x=>nsIn K Uj (nm i) == some (some (.str (sT x) (if i=101 then 541 else 543)))
 | _=>false
theorem Yph (P:Yu):gtL.all (fun p=>gB (hK P) p.1 p.2)=true:=by kernel_rfl
theorem Yjz (H:Zg5 w j0 mg mb){i:Nat}{v:V}(e:gB (hK w.params) i v=true):Yhn (GK w j0) i v:=by
 cases v with
 | bi b=>
  have hz0:=bb e
  have h1:=hz0.1
  have hz0:=bb (hz0.2)
  have h3:=hz0.2
  exact ⟨mg,H.g,.inr ⟨ns_none_of H.kin H.g (eq_of_beq h1),mb,b.val,H.b,(H.builtins _ fun q=>by rw [q] at h3;exact absurd h3 (by decide)).trans (eq_of_beq (hz0.1)),.bi b⟩⟩
 | ref a=>exact ⟨mg,H.g,.inl ⟨_,mg_of H.kin H.g (eq_of_beq e),.ref a⟩⟩
 | str x=>exact ⟨mg,H.g,.inl ⟨_,mg_of H.kin H.g (eq_of_beq e),.str x _⟩⟩
 | _=>exact Yw e
noncomputable def dictEs (K:Frag)(a:Addr):List XD:=match K.lookup a with
 | some ⟨_,_,.dict es _,_⟩=>es.toList
 | _=>[]
theorem Zp4 (P:Yu):KeysLit P (dictEs (hK P) 44):=by
 exact ⟨⟨_,_,rfl,rfl⟩,⟨_,_,rfl,rfl⟩,⟨_,_,rfl,rfl⟩,⟨_,_,rfl,rfl⟩,⟨_,_,rfl,rfl⟩,⟨_,_,rfl,rfl⟩,⟨_,_,rfl,rfl⟩,trivial⟩
noncomputable def Yfc:Value->Str
 | .str x _=>x
 | _=>Zz ""
theorem Zpy {prog:YL}{P:Yu}:∀ {es:List XD},w.params=P->KeysLit P es->Pairs (strKind prog w) es (es.map fun e=>(Yfc e.key,e.val))
 | [],_,_=>.nil
 | e::r,hP,⟨⟨x,t,e1,e2⟩,h⟩=>.cons (by show (strKind prog w).is (Yfc e.key) e.key=true;rw [e1];exact strKind_is prog w x t) rfl (Zpy hP h)
theorem Yep (H:Zg5 w j0 mg mb):∃ (kvs:List (Str×Value)) (ep:Nat),j0.heap.DictAt (ZP (GK w j0).prog w) 44 kvs ep/\kvs.length<=100/\(44 == Uy)=false:=by
 have hl:(hK w.params).lookup 44=some ⟨.type "dict",none,.dict (dictEs (hK w.params) 44).toArray 7,#[]⟩:=by kernel_rfl
 refine ⟨(dictEs (hK w.params) 44).map fun e=>(Yfc e.key,e.val),7,⟨_,_,H.kin _ _ hl,⟨rfl,rfl,rfl⟩,rfl,fun e he=>?_,Zpy rfl (Zp4 w.params),?_⟩,?_,by decide⟩
 ·have hz0:=(Zp4 w.params).all e (by simpa using he)
  let x:=hz0.choose
  have hq0:=hz0.choose_spec
  have hq1:=hq0.choose_spec
  exact ⟨x,by rw [(hq1.1)];exact strKind_is _ w x (hq0.choose),(hq1.2)⟩
 ·have:((dictEs (hK w.params) 44).map fun e=>(Yfc e.key,e.val)).map (·.1)=["http://www.w3.org/XML/1998/namespace","http://www.w3.org/1999/xhtml","http://www.w3.org/1999/02/22-rdf-syntax-ns#","http://schemas.xmlsoap.org/wsdl/","http://www.w3.org/2001/XMLSchema","http://www.w3.org/2001/XMLSchema-instance","http://purl.org/dc/elements/1.1/"].map Zz:=by kernel_rfl
  rw [this];decide +kernel
 ·have:((dictEs (hK w.params) 44).map fun e=>(Yfc e.key,e.val)).length=7:=by kernel_rfl
  rw [this];decide
theorem gok (H:Zg5 w j0 mg mb):GOK (GK w j0):=⟨H.sys,fun i v h=>Yjz H (Yo.mp (Yph w.params) (i,v) (Yml h)),H.nolimit,H.kin,k_cls w.params,k_own w.params,k_acc w.params,H.bmod,Yep H⟩
end
end
section
section
variable {w:World}{mg mb:Str->Option Value}
noncomputable def Zhu (K:Frag)(a:Addr):Array Value:=match K.lookup a with
 | some ⟨_,_,.fields vs,_⟩=>vs
 | _=>#[]
noncomputable def Yc8:Option Value->Tok
 | some (.str _ t)=>t
 | _=>0
def SupIs (P:Yu)(f cc:Addr)(sc:Sc):Prop:=Zg4 P f sc (bodyOf (hK P) f) false [(Zz "__class__",249)]/\(((Zd7 (hK P) f).params.posonlyargs++(Zd7 (hK P) f).params.args).head?.map (·.arg)=some (nm 21))/\((Zd7 (hK P) f).code= .ref cc)/\(∃ tf,((hK P).lookup cc).map (·.data)=some (.fields (Zhu (hK P) cc))/\(Zhu (hK P) cc)[2]? = some (.str PySem.Challenge.rw_if0024_01.row.prog.main.file tf))/\((sc.all (fun p=>p.2 != .cell),sc.lookup 141,sc.lookup 199,sc.lookup 21)=(true,some .globalImplicit,some .free,some .local))def SupIs.d (z:@SupIs P f cc sc):=z.1
def SupIs.h (z:@SupIs P f cc sc):=z.2.1
def SupIs.c (z:@SupIs P f cc sc):=z.2.2.1
def SupIs.k (z:@SupIs P f cc sc):=z.2.2.2.1
def SupIs.s0 (z:@SupIs P f cc sc):=z.2.2.2.2
theorem SupIs.at (H:Zg5 w j0 mg mb){f cc:Addr}{sc:Sc}(X:SupIs w.params f cc sc):Ymy (GK w j0) f (Zd7 (hK w.params) f) sc (bodyOf (hK w.params) f):=by
 have hz0:=YJ X.s0
 have s1:=hz0.1
 have hz0:=YJ (hz0.2)
 have s2:=hz0.1
 have hz0:=YJ (hz0.2)
 have s3:=hz0.1
 have s4:=hz0.2
 have hz0:=Yz.mp X.h
 let ar:=hz0.choose
 have hq7:=hz0.choose_spec
 have hq9:=X.k.choose_spec
 have hz0:=Yz.mp (hq9.1)
 let oc:=hz0.choose
 have hq8:=hz0.choose_spec
 have hz0:=Yz.mp (YJ X.d).1
 have hq0:=hz0.choose_spec
 exact ⟨X.d.at rfl (gok H),⟨(hz0.choose),ar,(hq0.1),(hq0.2),(hq7.1),(hq7.2)⟩,⟨cc,oc,_,_,_,X.c,(hq8.1),(hq8.2),(hq9.2),beq_self_eq_true _⟩,fun p hp=>bne_iff_ne.mp (Yo.mp s1 p hp),s2,s3,s4⟩
noncomputable def clsAt (K:Frag)(a:Addr):ClassData:=match K.lookup a with
 | some ⟨_,_,.cls cd,_⟩=>cd
 | _=>default
noncomputable def dictAt (K:Frag)(a:Addr):Option Addr:=match K.lookup a with
 | some o=>o.dict
 | _=>none
noncomputable def Yit (K:Frag)(a:Addr):Array (Option Value):=match K.lookup a with
 | some o=>o.slots
 | _=>#[]
theorem supF (H:Zg5 w j0 mg mb):Zxf (GK w j0) where
 cls:=⟨clsAt (hK w.params) 325,dictAt (hK w.params) 325,Yit (hK w.params) 325,by kernel_rfl,by kernel_rfl,fun k=>by cases k <;> kernel_rfl⟩
 op:=by kernel_rfl
 sub:=by kernel_rfl
 isl:=by kernel_rfl
 notm:=by kernel_rfl
 sup:=⟨mg,mb,H.g,ns_none_of H.kin H.g (by kernel_rfl),H.b,(H.builtins _ (by decide +kernel)).trans (by kernel_rfl)⟩
 cell:=⟨⟨.type "cell",none,.cell (some (.ref 325)),#[]⟩,by kernel_rfl,rfl⟩
 top:=by kernel_rfl
theorem Yim:∀ p∈[((125:Addr),(123:Addr)),(375,371),(291,287),(298,294)],∀ q∈[((125:Addr),(123:Addr)),(375,371),(291,287),(298,294)],q.2=p.2->q.1=p.1:=by decide
theorem Yil {c P:Addr}(h:(c,P)∈[((125:Addr),(123:Addr)),(375,371),(291,287),(298,294)]):TOK (GK w j0) c:=⟨P,h,fun q hq e=>Yim _ h q hq e⟩
end
section
variable {P:Yu}
theorem Yps (t:Tok)(D:Addr):Zd9 "str.join" ⟨[.str (Zz "") t,.ref D],[]⟩=pure ():=by kernel_rfl
theorem Yjt (hG:G.K=hK P)(C:GOK G)(R:RS G env st s){a:Addr}{xs:List V}{ts:List Tx}{Q:V->Hp->Prop}(ha:st.σ a=some (.list xs))(hs:Zho xs=some ts)(hw:(ts.map Z5).sum + ts.length<=100000)(q:Q (.str (joinT [] ts)) st.σ) :
  W G A (Zac (.ref 98)) (fun J s'=>s'=s) E s/\W G A (call (.ref 98) [.ref a]) (PV G env st s Q) E s:=by
 have X:=kin C R
 replace X:=(hG)▸X
 have hb:s.heap.get? 98=some ⟨.type "builtin_function_or_method",none,.fields #[.builtin "str.join",.str (Zz "") 437],#[]⟩:=X _ _ (by kernel_rfl)
 have hx:Zz "" = sT []:=by decide +kernel
 refine ⟨(wbL hb (Ze rfl)),?_⟩
 refine (R.den _ _ ha).1.rec fun {l0} p r=>?_
 obtain ⟨l,rfl,hl⟩:=strsAre_values (Ze6 r hs)
 have hok':=(Yln _).mp (hl▸joinOk_of_weight (Zvu hw) (by decide +kernel):JoinOk (Zz "") (l.map (·.1))=true)
 exact Zgo hb rfl rfl (.inl rfl) (fun A E Q q=>Kq (Yps _ _) q) PySem.F.entry_str_join Zdd.plain
  (meets_str_join_list (Zz "") 437 a l hok' G.prog G.w A (wants (PV G env st s Q) E) s ⟨p.isList,post_join l ⟨joinFit_length hok',fun t k=>hl▸hx▸Zkg [] ts▸PV.tok R (.str _ _) q⟩⟩)
end
end
section
section
variable {P:Yu}
noncomputable def Yoa:Pos:=⟨0,0,0,0⟩
theorem Ypm (P:Yu):∃ x:Esc,bodyOf (hK P) 336=x.body/\Zod x/\∃ m1 m2 q1 q2 p1 p2 c1 c2 k1 k2,EscH x m1 m2 q1 q2 p1 p2 c1 c2 k1 k2:=by
 refine ⟨⟨_,_,_,_,_,_,_,_,_,_,_,_,_,_,_,_,_,fun i=>[_,_,_,_,_,_,_,_,_,_].getD i Yoa⟩,rfl,⟨?_,?_,?_,?_,.cons rfl rfl (.cons rfl rfl .nil),rfl,⟨_,rfl⟩,?_,?_,?_,?_,?_,?_,fun _ _=>rfl⟩,_,_,_,_,_,_,_,_,_,_,⟨rfl,rfl,rfl,rfl⟩⟩
 ·exact YG rfl rfl sI rfl
 ·exact YG rfl rfl sBo rfl
 ·exact YG rfl rfl sBo rfl
 ·exact YG rfl rfl sBo rfl
 ·exact sbV (sLc rfl rfl) rfl
 ·exact YB (sLc rfl rfl) (sS rfl) rfl
 ·exact sbV (sLc rfl rfl) rfl
 ·exact Zev (Zv (sLc rfl rfl) (Zv (Io (sS rfl) (sLc rfl rfl)) ZQ rfl) rfl)
 ·exact Zev (Zv (sLc rfl rfl) (Zv (sLc rfl rfl) ZQ rfl) rfl)
 ·exact Zev (Zv (sLc rfl rfl) (Zv (sS rfl) ZQ rfl) rfl)theorem ns_is (P:Yu):∃ q:Nat->Pos,bodyOf (hK P) 75=Znc q:=⟨fun i=>[Yoa,_,_,_,_,_,_,_,_,_,_].getD i Yoa,rfl⟩
theorem genF (hG:G.K=hK P)(C:GOK G):GenF G where
 esc:=(Ypm P).elim fun x X=>X.2.2.elim fun _ h=>h.elim fun _ h=>h.elim fun _ h=>h.elim fun _ h=>h.elim fun _ h=>h.elim fun _ h=>h.elim fun _ h=>h.elim fun _ h=>h.elim fun _ h=>h.elim fun _ h=>
  .mk (Zg4.at hG C (X.1▸(Zg4.mk (P:=P) (f:=336) (body:=bodyOf (hK P) 336) (by kernel_rfl)))) X.2.1 h fun v=>Zf1 (ns:=[147]) (ds:=[]) hG C (k:=1) (dv:=[]) (by intro S y0;show _=_;kernel_rfl) (fun _=>.nil) rfl (vs:=[v]) rfl
 ns:=(ns_is P).elim fun q e=>.mk (q:=q) (Zg4.at hG C (e▸(Zg4.mk (P:=P) (f:=75) (body:=bodyOf (hK P) 75) (by kernel_rfl)))) fun a b=>Zf1 (ns:=[21,51,52]) (ds:=[.bi .rev]) (dv:=[.type "reversed"]) hG C (k:=2) (by intro S y0 y1;show _=_;kernel_rfl) (fun _=>.cons (.bi .rev) .nil) rfl (vs:=[a,b]) rfl
end
end
structure Zxq where
 f:Addr
 sc:Sc
 ns:List Nat
 ds:List V
 F:KwT->FS
noncomputable def tbl:List Zxq:=[
 ⟨161,Zbt,[97],[],fun J=>Zbv⟩,
 ⟨168,Zbb,[97],[],fun J=>Zbd⟩,
 ⟨90,KJ,[21,57,58],[.none],fun J=>KR⟩,
 ⟨97,IW,[21,66],[],fun J=>I6⟩,
 ⟨106,KN,[21,68],[.ref 98],fun J=>KY⟩,
 ⟨120,Ih,[21,59,76],[],fun J=>Ik⟩,
 ⟨126,KH,[21,59,76,77,71],[.none],fun J=>KQ⟩,
 ⟨133,Zae,[21,59],[],fun J=>Zah⟩,
 ⟨140,Ui,[21,97],[],fun J=>Kv⟩,
 ⟨182,Zaq,[21,104,105,106,107],[],fun J=>Zau⟩,
 ⟨189,Zar,[21,116],[],fun J=>Zav⟩,
 ⟨203,Ig,[21],[],fun J=>Ij⟩,
 ⟨238,Us,[21,129,130],[],fun J=>Uu⟩,
 ⟨269,Zcf,[21,129,130],[],fun J=>Zch⟩,
 ⟨277,Zaf,[21,132],[],fun J=>Zai⟩,
 ⟨292,Zat,[21],[],fun J=>Zax⟩,
 ⟨299,Zas,[21],[],fun J=>Zaw⟩,
 ⟨307,U9,[21,145],[.none],fun J=>Ka⟩,
 ⟨307,U9,[21,145],[],fun J=>Ka⟩,
 ⟨314,I3,[21],[],fun J=>I7⟩,
 ⟨343,Ie,[147],[],fun J=>Ii⟩,
 ⟨350,Zbu,[147],[],fun J=>Zbw⟩,
 ⟨357,IV,[157],[],fun J=>I5⟩,
 ⟨362,Zhx,[160],[],fun J=>Zh4⟩,
 ⟨369,Zhy,[97],[],fun J=>Zh5⟩,
 ⟨376,Zjq,[97,166],[],Zjy⟩,
 ⟨383,Zjs,[162],[],fun J=>Zj0⟩,
 ⟨390,Zdw,[178],[],fun J=>Zdz⟩,
 ⟨395,Zhz,[178],[],fun J=>Zh6⟩,
 ⟨400,Zgr,[178],[],fun J=>Zgx⟩,
 ⟨407,Zjr,[189,166],[],fun J=>Zjz⟩]
noncomputable def Ynq:List Zxq:=[
 ⟨262,Ut,[21,140],[.int 0],fun J=>Uv⟩,
 ⟨262,Ut,[21,140],[],fun J=>Uv⟩,
 ⟨285,Za2,[21],[],fun J=>Zcy⟩,
 ⟨322,UL,[21],[],fun J=>Il⟩]abbrev run (F:FS)(sc:Sc)(bs:List (Nat×V))(Δ:Dl)(σ:Hp)(Q:V->Hp->Prop):Prop:=enterC bs (Kz sc) σ (fun J=>none) fun σ cv=>F Δ (Zcv Q) ⟨σ,lvB sc bs,cv⟩abbrev Yn4 (F:FS)(bs:List (Nat×V))(Δ:Dl)(σ:Hp)(Q:V->Hp->Prop):Prop:=F Δ (Zcv Q) ⟨σ,fun i=>bs.reverse.lookup i,fun J=>none⟩
inductive Fn0 (Δ:Dl)(K:KwT)(f:Addr)(vs:List V)(σ:Hp)(Q:V->Hp->Prop):Prop
 | fn {d:Zxq} (i:Nat) (e:tbl[i]? = some d) (hf:d.f=f) (l:vs.length + d.ds.length=d.ns.length) (r:run (d.F K) d.sc (d.ns.zip (vs++d.ds)) Δ σ Q)
 | sup {d:Zxq} (i:Nat) (e:Ynq[i]? = some d) (hf:d.f=f) (l:vs.length + d.ds.length=d.ns.length) (r:Yn4 (d.F K) (d.ns.zip (vs++d.ds)) Δ σ Q)
inductive Fn (Δ:Dl)(K:KwT)(f:Addr)(vs:List V)(σ:Hp)(Q:V->Hp->Prop):Prop
 | of (h:Fn0 Δ K f vs σ Q)
 | mkV (e:f=241) (r:∀ x dx,σ x=none->σ dx=none->x≠dx->Fn0 Δ K 182 (.ref x::vs) (upd (upd σ dx (.at [])) x (.inst 241 dx)) (Znk x Q))
 | mkA (e:f=325) (l:vs=[]\/∃ v,vs=[v]) (r:∀ x dx,σ x=none->σ dx=none->x≠dx->Fn0 Δ K 262 (.ref x::vs) (upd (upd σ dx (.at [])) x (.acc 325 dx [])) (Znk x Q))noncomputable abbrev wBs (x v:V):List (Nat×V):=[21,22,23,24,25,26,27,28,29].zip ([x,v]++[.bool true,.bool false,.bool false,.none,.none,.none,.none])noncomputable def KW (Δ:Dl):KwT:=fun v σ Q=>∀ x dx,σ x=none->σ dx=none->x≠dx->run Zcn Zcl (wBs (.ref x) v) Δ (upd (upd σ dx (.at [])) x (.inst 150 dx)) (Znk x Q)
inductive J98 (vs:List V)(σ:Hp)(Q:V->Hp->Prop):Prop | mk {a xs ts} (e:vs=[.ref a]) (h:σ a=some (.list xs)) (s:Zho xs=some ts) (w:(ts.map Z5).sum + ts.length<=100000) (q:Q (.str (joinT [] ts)) σ)noncomputable def Ymz (Δ:Dl)(K:KwT):Dl:=Yl1 ⟨fun f vs σ Q=>Fn Δ K f vs σ Q\/(Yl2 Δ).fn f vs σ Q\/f=98/\J98 vs σ Q,True,Δ.scr⟩noncomputable def DK (S:Addr->List Int->Prop)(k:Nat):Dl×KwT:=k.rec (⟨fun J J J J=>False,True,S⟩,fun J J J=>False) fun _ D=>(Ymz D.1 D.2,KW D.1)
theorem Zhd (P:Yu):Zo8 291 Zat (bodyOf (hd0.heap_1 P) 292) Zax:=by
 show Zo8 291 _ (_::_) _
 exact U5 (scSum rfl rfl rfl (fun {G}=>Yka (G:=G)) ⟨rfl,rfl,rfl,rfl⟩ (fun J J=>rfl) (fun J=>rfl)) (Yds Zt)
theorem Zhc (P:Yu):Zo8 298 Zas (bodyOf (hd0.heap_1 P) 299) Zaw:=by
 show Zo8 298 _ (_::_) _
 exact U5 (Ynx rfl rfl rfl rfl (fun {G}=>Ygg (G:=G) rfl) ⟨rfl,rfl,rfl,rfl⟩ (fun J J=>rfl) rfl) (Yds Zt)
theorem Zep (P:Yu):SSLat Ut (bodyOf (hd0.heap_1 P) 262) Uv:=by
 show SSLat _ (_::_) _
 exact Zhq (Ydi (X8 rfl (sLc rfl rfl) (sLc rfl rfl) rfl)) (Zhq (Yns (Yn0 (k:=.init) rfl rfl (fun J=>⟨_,rfl⟩)) (fun J=>rfl)) (Zq9))
theorem Zf7 (P:Yu):SSL I3 (bodyOf (hd0.heap_1 P) 314) I7:=by
 show SSL _ (_::_) _
 exact Zj (Iu (sAnd (Yao (sAt rfl (sLc rfl rfl) rfl) (sI) rfl) (sOr (sNotA (sLc rfl rfl)) (sMc rfl (YH (sGl rfl rfl) (Zv (sLc rfl rfl) (ZQ) rfl) rfl) (ZQ) rfl rfl rfl rfl) (fun J=>rfl)) (fun J=>rfl))) (Zt)
theorem Zfn (P:Yu):SSLat UL (bodyOf (hd0.heap_1 P) 322) Il:=by
 show SSLat _ (_::_) _
 exact Zhq (Zx6 (Yn0 (k:=.len) rfl rfl (fun J=>⟨_,rfl⟩))) (Zq9)
theorem Zku (P:Yu):SSLat Za2 (bodyOf (hd0.heap_1 P) 285) Zcy:=by
 show SSLat _ (_::_) _
 exact Zhq (Ydi (Xk (YB (sMc rfl (sLc rfl rfl) (ZQ) rfl rfl rfl rfl) (sI) rfl) (Zj (Iu (Zev (Zv (sS rfl) (Zv (sS rfl) (ZQ) rfl) rfl))) (Zt)) (Zt))) (Zhq (Zx6 (Yn0 (k:=.pop) rfl rfl (fun J=>⟨_,rfl⟩))) (Zq9))
theorem Zgq (P:Yu):SSL Zaf (bodyOf (hd0.heap_1 P) 277) Zai:=by
 show SSL _ (_::_) _
 exact Zj (YG rfl rfl (sSlcA (sLc rfl rfl) (sLc rfl rfl)) rfl) (Zj (Zx8 (Zew (ZQ)) (sLc rfl rfl) (oS (sLc rfl rfl)) (fun J=>rfl)) (Zj (Iu (sLc rfl rfl)) (Zt)))
theorem Zjn (P:Yu):SSL Zcf (bodyOf (hd0.heap_1 P) 269) Zch:=by
 show SSL _ (_::_) _
 exact Zj (Ur (Yi2 rfl (sLc rfl rfl) (Zev (Zv (sLc rfl rfl) (Zv (sLc rfl rfl) (ZQ) rfl) rfl)) (fun J J=>rfl) (fun J J=>rfl) rfl) rfl) (Zt)
theorem Zd2 (P:Yu):SSL U9 (bodyOf (hd0.heap_1 P) 307) Ka:=by
 show SSL _ (_::_) _
 exact Zj (Xk (YB (sLc rfl rfl) (sN) rfl) (Zj (YG rfl rfl (Zew (ZQ)) rfl) (Zt)) (Zt)) (Zj (Zx8 (sLc rfl rfl) (sLc rfl rfl) (oN) (fun J=>rfl)) (Zj (X8 rfl (sI) (sLc rfl rfl) rfl) (Zt)))
theorem Ze0 (P:Yu):SSL KN (bodyOf (hd0.heap_1 P) 106) KY:=by
 exact Zj (YG rfl rfl (YH (sLc rfl rfl) (Zv (sAt rfl (sLc rfl rfl) rfl) (ZQ) rfl) rfl) rfl) (Zj (Ydj (sAt rfl (sLc rfl rfl) rfl)) (Zj (Xk (Zej (sbV (sAt rfl (sLc rfl rfl) rfl) rfl) (Zlt (sbV (U0 (sAt rfl (sLc rfl rfl) rfl) (Zja (sI)) (by intro _ _ _ _ h;cases h)) rfl))) (Zj (YG rfl rfl (sMc rfl (sLc rfl rfl) (ZQ) rfl rfl rfl rfl) rfl) (Zt)) (Zt)) (Zj (Xk (YB (sAt rfl (sLc rfl rfl) rfl) (sN) rfl) (Zra) (Zt)) (Zj (Xk (Zej (sbV (sLc rfl rfl) rfl) (sbV (sAt rfl (sLc rfl rfl) rfl) rfl)) (Zj (Ur (sMc rfl (sLc rfl rfl) (Zv (YH (sGl rfl rfl) (Zv (sLc rfl rfl) (ZQ) rfl) rfl) (ZQ) rfl) rfl rfl rfl rfl) rfl) (Zt)) (Zt)) (Zt)))))
theorem Zez (P:Yu):SSL KJ (bodyOf (hd0.heap_1 P) 90) KR:=by
 exact Zj (Xk (YB (sLc rfl rfl) (sN) rfl) (Zj (Zvz  (.cons rfl rfl (.cons rfl rfl .nil)) (sIf (YB (Zlc (sLc rfl rfl) (oN) (oS (sI)) (oN)) (sS rfl) rfl) (sMc rfl (Zlc (sLc rfl rfl) (oS (sI)) (oN) (oN)) (Zv (sS rfl) (Zv (sI) (ZQ) rfl) rfl) rfl rfl rfl rfl) (Zev (Zv (sS rfl) (Zv (sLc rfl rfl) (ZQ) rfl) rfl))) (fun J=>rfl) (fun J=>rfl)) (Zt)) (Zj (YG rfl rfl (sLc rfl rfl) rfl) (Zt))) (Zj (YG rfl rfl (YH (sGl rfl rfl) (ZQ) rfl) rfl) (Zj (Zq6 (.tup (.cons rfl rfl (.cons rfl rfl .nil))) (sgMc rfl (sLc rfl rfl) (Zv (sAt rfl (sLc rfl rfl) rfl) (ZQ) rfl) (fun J J=>rfl) (fun J J=>rfl) rfl (by decide)) (fun J J=>rfl) (Zj (Xk (Zej (YB (sLc rfl rfl) (sLc rfl rfl) rfl) (YB (sLc rfl rfl) (sLc rfl rfl) rfl)) (Zj (Iu (Zev (Zv (sIf (sbV (sLc rfl rfl) rfl) (sJoin (Iw (sFv (sLc rfl rfl)) (Iw (sS rfl) (Iw (sFv (sLc rfl rfl)) (Zpq) (fun J J=>rfl)) (fun J J=>rfl)) (fun J J=>rfl))) (sLc rfl rfl)) (Zv (sLc rfl rfl) (Zv (sLc rfl rfl) (ZQ) rfl) rfl) rfl))) (Zt)) (Zt)) (Zj (Ur (sMc rfl (sLc rfl rfl) (Zv (sLc rfl rfl) (ZQ) rfl) rfl rfl rfl rfl) rfl) (Zt))) (Zt)) (Zj (Xk (sbV (sAt rfl (sLc rfl rfl) rfl) rfl) (Zj (Xk (YB (sLc rfl rfl) (sAt rfl (sLc rfl rfl) rfl) rfl) (Zj (YG rfl rfl (U0 (sAt rfl (sLc rfl rfl) rfl) (sLc rfl rfl) (by intro _ _ _ _ h;cases h)) rfl) (Zt)) (Zra)) (Zj (Ur (sMc rfl (U0 (sAt rfl (sLc rfl rfl) rfl) (Zja (sI)) (by intro _ _ _ _ h;cases h)) (Zv (Zev (Zv (sLc rfl rfl) (Zv (sLc rfl rfl) (ZQ) rfl) rfl)) (ZQ) rfl) rfl rfl rfl rfl) rfl) (Zj (Iu (Zev (Zv (sJoin (Iw (sFv (sLc rfl rfl)) (Iw (sS rfl) (Iw (sFv (sLc rfl rfl)) (Zpq) (fun J J=>rfl)) (fun J J=>rfl)) (fun J J=>rfl))) (Zv (sLc rfl rfl) (Zv (sLc rfl rfl) (ZQ) rfl) rfl) rfl))) (Zt)))) (Zt)) (Zj (Xk (Zej (Zlt (sbV (sLc rfl rfl) rfl)) (YB (sS rfl) (sLc rfl rfl) rfl)) (Zj (Iu (Zev (Zv (sLc rfl rfl) (Zv (sLc rfl rfl) (Zv (sLc rfl rfl) (ZQ) rfl) rfl) rfl))) (Zt)) (Zt)) (Zj (Zq6 (.tup (.cons rfl rfl (.cons rfl rfl .nil))) (sgMc rfl (sLc rfl rfl) (Zv (sAt rfl (sLc rfl rfl) rfl) (ZQ) rfl) (fun J J=>rfl) (fun J J=>rfl) rfl (by decide)) (fun J J=>rfl) (Zj (Xk (YB (sLc rfl rfl) (sLc rfl rfl) rfl) (Zj (Ur (sMc rfl (U0 (sAt rfl (sLc rfl rfl) rfl) (Zja (sI)) (by intro _ _ _ _ h;cases h)) (Zv (Zev (Zv (sLc rfl rfl) (Zv (sLc rfl rfl) (ZQ) rfl) rfl)) (ZQ) rfl) rfl rfl rfl rfl) rfl) (Zj (Iu (Zev (Zv (sIf (sbV (sLc rfl rfl) rfl) (sJoin (Iw (sFv (sLc rfl rfl)) (Iw (sS rfl) (Iw (sFv (sLc rfl rfl)) (Zpq) (fun J J=>rfl)) (fun J J=>rfl)) (fun J J=>rfl))) (sLc rfl rfl)) (Zv (sLc rfl rfl) (Zv (sLc rfl rfl) (ZQ) rfl) rfl) rfl))) (Zt))) (Zt)) (Zt)) (Zt)) (Zj (Xk (Zlt (sbV (sLc rfl rfl) rfl)) (Zj (Iu (Zev (Zv (sLc rfl rfl) (Zv (sLc rfl rfl) (Zv (sLc rfl rfl) (ZQ) rfl) rfl) rfl))) (Zt)) (Zt)) (Zj (ssNo) (Zt))))))))
theorem Zey (P:Yu):Zo8 125 KH (bodyOf (hd0.heap_1 P) 126) KQ:=by
 exact U5 (Zd0 (Xk (Zej (YB (sAt rfl (sCl rfl (.inl rfl)) rfl) (sN) rfl) (sbV (sLc rfl rfl) rfl)) (Zra) (Zt))) (U5 (scAsg rfl rfl (sSetD trivial rfl rfl rfl rfl) (fun J=>rfl)) (U5 (Zd0 (YG rfl rfl (sDS) rfl)) (U5 (Zd0 (Xk (YB (sLc rfl rfl) (sN) rfl) (Zra) (Zt))) (U5 (Zd0 (Xk (Zej (YB (sAt rfl (sCl rfl (.inl rfl)) rfl) (sN) rfl) (sbV (sLc rfl rfl) rfl)) (Zj (YG rfl rfl (sMc rfl (sCl rfl (.inl rfl)) (Zv (sLc rfl rfl) (ZQ) rfl) rfl rfl rfl rfl) rfl) (Zj (Xk (sbV (sLc rfl rfl) rfl) (Zj (Zgz (.one rfl rfl) (sLc rfl rfl) (fun J J=>rfl) (Zj (YG rfl rfl (U0 (sLc rfl rfl) (sLc rfl rfl) (by intro _ _ _ _ h;cases h)) rfl) (Zj (Xk (sbV (YH (sGl rfl rfl) (Zv (sLc rfl rfl) (ZQ) rfl) rfl) rfl) (Zra) (Zt)) (Zt))) (Zt)) (Zt)) (Zj (YG rfl rfl (sN) rfl) (Zt))) (Zt))) (Zj (YG rfl rfl (sN) rfl) (Zt)))) (U5 (Zd0 (Zq7 rfl rfl (sAt rfl (sCl rfl (.inl rfl)) rfl) (fun J=>rfl))) (U5 (Ydk (m:=_) (sc':=Zak) rfl rfl ⟨rfl,rfl,rfl,by decide,by decide⟩ (Yi1 rfl rfl rfl rfl rfl ⟨rfl,rfl,rfl,rfl,by decide,rfl,(fun fd h1 h2 h3 s val=>.of_eq (by cases fd;cases h1;cases h2;cases h3;rfl))⟩ (fun J=>rfl) (Yn1 (sLc rfl rfl) rfl rfl (fun J J=>rfl) rfl)) (.one rfl rfl) Zro (sLc rfl rfl) (YH (sCl rfl (.inl rfl)) (Zv (sLc rfl rfl) (ZQ) rfl) rfl) (fun J J=>rfl) (fun J J=>rfl) (fun J h=>Zgh h 86 rfl rfl rfl rfl)) (U5 (Zd0 (Xk (sbV (sLc rfl rfl) rfl) (Zra) (Zj (YG rfl rfl (Zew (ZQ)) rfl) (Zt)))) (U5 (Zd0 (Xk (sbV (sLc rfl rfl) rfl) (Zj (Zgz (.tup (.cons rfl rfl (.cons rfl rfl .nil))) (Yn2 rfl rfl rfl rfl rfl (fun J J=>rfl) rfl) (fun J J=>rfl) (Zj (Xk (Ynz (YB (sLc rfl rfl) (sN) rfl) (YB (sLc rfl rfl) (sLc rfl rfl) rfl) (YB (sLc rfl rfl) (sLc rfl rfl) rfl)) (Zj (YG rfl rfl (U0 (U0 (sLc rfl rfl) (U0 (sLc rfl rfl) (sLc rfl rfl) (by intro _ _ _ _ h;cases h)) (by intro _ _ _ _ h;cases h)) (sI) (by intro _ _ _ _ h;cases h)) rfl) (Zt)) (Zt)) (Zj (Zvz  (.cons rfl rfl (.cons rfl rfl (.cons rfl rfl .nil))) (U0 (sLc rfl rfl) (sLc rfl rfl) (by intro _ _ _ _ h;cases h)) (fun J=>rfl) (fun J=>rfl)) (Zj (Ur (sMc rfl (sLc rfl rfl) (Zv (Zev (Zv (sIf (sbV (sLc rfl rfl) rfl) (sLc rfl rfl) (sLc rfl rfl)) (Zv (sLc rfl rfl) (ZQ) rfl) rfl)) (ZQ) rfl) rfl rfl rfl rfl) rfl) (Zt)))) (Zt)) (Zt)) (Zt))) (U5 (Zd0 (YG rfl rfl (sMc rfl (sLc rfl rfl) (Zv (sS rfl) (ZQ) rfl) rfl rfl rfl rfl) rfl)) (U5 (Zd0 (Ur (sMc rfl (sAt rfl (sCl rfl (.inl rfl)) rfl) (Zv (sIf (sbV (sLc rfl rfl) rfl) (Yao (sLc rfl rfl) (sS rfl) rfl) (U0 (sAt rfl (sCl rfl (.inl rfl)) rfl) (Zja (sI)) (by intro _ _ _ _ h;cases h))) (ZQ) rfl) rfl rfl rfl rfl) rfl)) (U5 (Zd0 (YG rfl rfl (sAt rfl (sCl rfl (.inl rfl)) rfl) rfl)) (U5 (Zd0 (Ur (YH (sLc rfl rfl) (Zv (Io (sS rfl) (U0 (U0 (sLc rfl rfl) (sLc rfl rfl) (by intro _ _ _ _ h;cases h)) (sI) (by intro _ _ _ _ h;cases h))) (ZQ) rfl) rfl) rfl)) (U5 (Zd0 (Xk (sbV (sLc rfl rfl) rfl) (Zj (Ur (YH (sLc rfl rfl) (Zv (sMc rfl (sS rfl) (Zv (sComp (sc':=X5) ⟨rfl,rfl,rfl,by decide,by decide⟩ (sLc rfl rfl) (.tup (.cons rfl rfl (.cons rfl rfl .nil))) (Zro) (sJoin (Iw (sS rfl) (Iw (sFv (sLc rfl rfl)) (Iw (sS rfl) (Iw (sFv (YH (sGl rfl rfl) (Zv (sLc rfl rfl) (ZQ) rfl) rfl)) (Iw (sS rfl) (Zpq) (fun J J=>rfl)) (fun J J=>rfl)) (fun J J=>rfl)) (fun J J=>rfl)) (fun J J=>rfl))) (fun J J=>rfl)) (ZQ) rfl) rfl rfl rfl rfl) (ZQ) rfl) rfl) rfl) (Zt)) (Zt))) (U5 (Zd0 (Ur (YH (sLc rfl rfl) (Zv (sS rfl) (ZQ) rfl) rfl) rfl)) (U5 (Zd0 (Xk (YB (sLc rfl rfl) (sN) rfl) (Zj (Ur (YH (sLc rfl rfl) (Zv (YH (sGl rfl rfl) (Zv (U0 (U0 (sLc rfl rfl) (U0 (sLc rfl rfl) (sLc rfl rfl) (by intro _ _ _ _ h;cases h)) (by intro _ _ _ _ h;cases h)) (sI) (by intro _ _ _ _ h;cases h)) (ZQ) rfl) rfl) (ZQ) rfl) rfl) rfl) (Zt)) (Zt))) (U5 (Zd0 (X8 rfl (sBo) (sCl rfl (.inl rfl)) rfl)) (U5 (Zd0 (Ur (sMc rfl (sAt rfl (sCl rfl (.inl rfl)) rfl) (Zv (Zew (ZQ)) (ZQ) rfl) rfl rfl rfl rfl) rfl)) (Yds Zt))))))))))))))))))
theorem Zeo (P:Yu):SSL Ui (bodyOf (hd0.heap_1 P) 140) Kv:=by
 exact Zj (Xk (Zlt (sbV (sAt rfl (sLc rfl rfl) rfl) rfl)) (Zj (Zq5) (Zt)) (Zt)) (Zj (Xk (sbV (sAt rfl (sLc rfl rfl) rfl) rfl) (Zj (Zq5) (Zt)) (Zt)) (Zj (Xk (sbV (sAt rfl (sLc rfl rfl) rfl) rfl) (Zj (Ur (sMc rfl (sLc rfl rfl) (Zv (sS rfl) (ZQ) rfl) rfl rfl rfl rfl) rfl) (Zt)) (Zj (Xk (Zej (sbV (sAt rfl (sLc rfl rfl) rfl) rfl) (sbV (sAt rfl (sLc rfl rfl) rfl) rfl)) (Zj (Ur (sMc rfl (sLc rfl rfl) (ZQ) rfl rfl rfl rfl) rfl) (Zt)) (Zt)) (Zt))) (Zj (Ur (sMc rfl (sLc rfl rfl) (Zv (sJoin (Iw (sS rfl) (Iw (sFv (YH (sGl rfl rfl) (Zv (sLc rfl rfl) (ZQ) rfl) rfl)) (Iw (sS rfl) (Zpq) (fun J J=>rfl)) (fun J J=>rfl)) (fun J J=>rfl))) (ZQ) rfl) rfl rfl rfl rfl) rfl) (Zj (Xk (Zlt (sbV (sAt rfl (sLc rfl rfl) rfl) rfl)) (Zj (Ur (sMc rfl (sLc rfl rfl) (Zv (sS rfl) (ZQ) rfl) rfl rfl rfl rfl) rfl) (Zt)) (Zt)) (Zt)))))
theorem Zf6 (P:Yu):SSL IW (bodyOf (hd0.heap_1 P) 97) I6:=by
 show SSL _ (_::_) _
 exact Zj (Xk (Zlt (sbV (sAt rfl (sLc rfl rfl) rfl) rfl)) (Zj (Ur (sMc rfl (sAt rfl (sLc rfl rfl) rfl) (Zv (sLc rfl rfl) (ZQ) rfl) rfl rfl rfl rfl) rfl) (Zt)) (Zt)) (Zt)
theorem Zgp (P:Yu):SSL Zae (bodyOf (hd0.heap_1 P) 133) Zah:=by
 exact Zj (Xk (sbV (sAt rfl (sLc rfl rfl) rfl) rfl) (Zra) (Zt)) (Zj (Xk (sbV (sAt rfl (sLc rfl rfl) rfl) rfl) (Zj (Ur (sMc rfl (sLc rfl rfl) (ZQ) rfl rfl rfl rfl) rfl) (Zt)) (Zt)) (Zj (Ur (sMc rfl (sLc rfl rfl) (Zv (sJoin (Iw (sS rfl) (Iw (sFv (U0 (sMc rfl (sLc rfl rfl) (Zv (sLc rfl rfl) (ZQ) rfl) rfl rfl rfl rfl) (sI) (by intro _ _ _ _ h;cases h))) (Iw (sS rfl) (Zpq) (fun J J=>rfl)) (fun J J=>rfl)) (fun J J=>rfl))) (ZQ) rfl) rfl rfl rfl rfl) rfl) (Zj (Ur (sMc rfl (sAt rfl (sLc rfl rfl) rfl) (ZQ) rfl rfl rfl rfl) rfl) (Zj (X8 rfl (Yao (YH (sGl rfl rfl) (Zv (sAt rfl (sLc rfl rfl) rfl) (ZQ) rfl) rfl) (sI) rfl) (sLc rfl rfl) rfl) (Zj (Ur (sMc rfl (sAt rfl (sLc rfl rfl) rfl) (ZQ) rfl rfl rfl rfl) rfl) (Zj (Ur (sMc rfl (sAt rfl (sLc rfl rfl) rfl) (ZQ) rfl rfl rfl rfl) rfl) (Zt)))))))
theorem Zf5 (P:Yu):SSL Zcl (bodyOf (hd0.heap_1 P) 67) Zcn:=by
 exact Zj (X8 rfl (sLc rfl rfl) (sLc rfl rfl) rfl) (Zj (X8 rfl (Zew (ZQ)) (sLc rfl rfl) rfl) (Zj (X8 rfl (sLc rfl rfl) (sLc rfl rfl) rfl) (Zj (X8 rfl (sLc rfl rfl) (sLc rfl rfl) rfl) (Zj (X8 rfl (sIf (sbV (sLc rfl rfl) rfl) (YH (sGl rfl rfl) (Zv (sLc rfl rfl) (ZQ) rfl) rfl) (sN)) (sLc rfl rfl) rfl) (Zj (X8 rfl (sIf (sbV (sLc rfl rfl) rfl) (YH (sGl rfl rfl) (Zv (sLc rfl rfl) (ZQ) rfl) rfl) (sN)) (sLc rfl rfl) rfl) (Zj (X8 rfl (sLc rfl rfl) (sLc rfl rfl) rfl) (Zj (Xk (sbV (sLc rfl rfl) rfl) (Zj (X8 rfl (YH (sGl rfl rfl) (Zv (sLc rfl rfl) (ZQ) rfl) rfl) (sLc rfl rfl) rfl) (Zt)) (Zj (X8 rfl (sN) (sLc rfl rfl) rfl) (Zt))) (Zj (Xk (sbV (sLc rfl rfl) rfl) (Zj (X8 rfl (sAt rfl (YH (sGl rfl rfl) (Zv (sLc rfl rfl) (ZQ) rfl) rfl) rfl) (sLc rfl rfl) rfl) (Zt)) (Zj (X8 rfl (sN) (sLc rfl rfl) rfl) (Zt))) (Zj (X8 rfl (Zew (Zv (Zew (Zv (Zev (Zv (sS rfl) (Zv (sS rfl) (ZQ) rfl) rfl)) (ZQ) rfl)) (ZQ) rfl)) (sLc rfl rfl) rfl) (Zj (X8 rfl (Zew (ZQ)) (sLc rfl rfl) rfl) (Zj (Xk (Zlt (sbV (sLc rfl rfl) rfl)) (Zj (Ur (sMc rfl (sAt rfl (sLc rfl rfl) rfl) (Zv (Ydv rfl rfl rfl rfl rfl (fun J J=>rfl) rfl) (ZQ) rfl) rfl rfl rfl rfl) rfl) (Zt)) (Zt)) (Zj (Ur (sMc rfl (sAt rfl (sLc rfl rfl) rfl) (Zv (Zew (ZQ)) (ZQ) rfl) rfl rfl rfl rfl) rfl) (Zj (X8 rfl (sDS) (sLc rfl rfl) rfl) (Zj (X8 rfl (Zew (Zv (sBo) (ZQ) rfl)) (sLc rfl rfl) rfl) (Zj (X8 rfl (sN) (sLc rfl rfl) rfl) (Zj (X8 rfl (sBo) (sLc rfl rfl) rfl) (Zj (X8 rfl (sBo) (sLc rfl rfl) rfl) (Zj (X8 rfl (sI) (sLc rfl rfl) rfl) (Zt)))))))))))))))))))
theorem Zfm (P:Yu):SSL Ih (bodyOf (hd0.heap_1 P) 120) Ik:=by
 exact Zj (Xk (Zej (YB (sAt rfl (sLc rfl rfl) rfl) (sN) rfl) (sbOr (sbV (sAt rfl (sLc rfl rfl) rfl) rfl) (YB (sLc rfl rfl) (sAt rfl (sLc rfl rfl) rfl) rfl))) (Zra) (Zt)) (Zj (Xk (sbV (sAt rfl (sLc rfl rfl) rfl) rfl) (Zj (Ur (sMc rfl (sLc rfl rfl) (ZQ) rfl rfl rfl rfl) rfl) (Zt)) (Zt)) (Zj (YG rfl rfl (Zew (ZQ)) rfl) (Zj (Ur (sMc rfl (sAt rfl (sLc rfl rfl) rfl) (Zv (sLc rfl rfl) (ZQ) rfl) rfl rfl rfl rfl) rfl) (Zj (Xk (Zej (YB (sAt rfl (sLc rfl rfl) rfl) (sN) rfl) (YB (sLc rfl rfl) (sAt rfl (sLc rfl rfl) rfl) rfl)) (Zj (X8 rfl (Zev (Zv (sLc rfl rfl) (Zv (sLc rfl rfl) (Zv (sLc rfl rfl) (ZQ) rfl) rfl) rfl)) (sLc rfl rfl) rfl) (Zj (Zq5) (Zt))) (Zt)) (Zj (Ur (sMc rfl (sLc rfl rfl) (Zv (sLc rfl rfl) (Zv (sLc rfl rfl) (Zv (sLc rfl rfl) (ZQ) rfl) rfl) rfl) rfl rfl rfl rfl) rfl) (Zt))))))
theorem Zc9 (P:Yu):SSL Us (bodyOf (hd0.heap_1 P) 238) Uu:=by
 exact Zj (Ur (sMc rfl (sAt rfl (sLc rfl rfl) rfl) (Zv (sLc rfl rfl) (Zv (sLc rfl rfl) (ZQ) rfl) rfl) rfl rfl rfl rfl) rfl) (Zj (Xk (YB (YH (sGl rfl rfl) (Zv (sAt rfl (sLc rfl rfl) rfl) (ZQ) rfl) rfl) (sAt rfl (sLc rfl rfl) rfl) rfl) (Zj (Zgz (.one rfl rfl) (sAt rfl (sLc rfl rfl) rfl) (fun J J=>rfl) (Zj (Zgz (.one rfl rfl) (YH (sGl rfl rfl) (Zv (Io (sMc rfl (sAt rfl (sLc rfl rfl) rfl) (ZQ) rfl rfl rfl rfl) (sI)) (Zv (sI) (Zv (Zja (sI)) (ZQ) rfl) rfl) rfl) rfl) (fun J J=>rfl) (Zj (Xk (sbV (sMc rfl (sLc rfl rfl) (ZQ) rfl rfl rfl rfl) rfl) (Zj (YG rfl rfl (U0 (Ymd (sAt rfl (sLc rfl rfl) rfl) (sLc rfl rfl) (by intro _ _ _ _ h;cases h)) (sI) (by intro _ _ _ _ h;cases h)) rfl) (Zj (Xk (Zej (sbV (sLc rfl rfl) rfl) (YB (U0 (sLc rfl rfl) (sI) (by intro _ _ _ _ h;cases h)) (sLc rfl rfl) rfl)) (Zj (Ydl) (Zt)) (Zt)) (Zt))) (Zt)) (Zj (YG rfl rfl (U0 (Ymd (sAt rfl (sLc rfl rfl) rfl) (Io (sLc rfl rfl) (sI)) (by intro _ _ _ _ h;cases h)) (sI) (by intro _ _ _ _ h;cases h)) rfl) (Zj (Xk (Zej (sbV (sLc rfl rfl) rfl) (YB (U0 (sLc rfl rfl) (Zja (sI)) (by intro _ _ _ _ h;cases h)) (sLc rfl rfl) rfl)) (Zj (Ydl) (Zt)) (Zt)) (Zt)))) (Zj (Ynt) (Zt))) (Zj (Ydl) (Zt))) (Zj (Zvz  (.cons rfl rfl (.cons rfl rfl .nil)) (sMc rfl (sAt rfl (sLc rfl rfl) rfl) (ZQ) rfl rfl rfl rfl) (fun J=>rfl) (fun J=>rfl)) (Zj (Xk (YB (sAt rfl (sAt rfl (sLc rfl rfl) rfl) rfl) (sI) rfl) (Zj (Ur (sMc rfl (sLc rfl rfl) (ZQ) rfl rfl rfl rfl) rfl) (Zj (Xk (Zlt (sbV (sLc rfl rfl) rfl)) (Zj (YG rfl rfl (sS rfl) rfl) (Zt)) (Zt)) (Zt))) (Zt)) (Zj (Ur (sMc rfl (sAt rfl (sLc rfl rfl) rfl) (Zv (sLc rfl rfl) (Zv (sLc rfl rfl) (ZQ) rfl) rfl) rfl rfl rfl rfl) rfl) (Zj (Zq5) (Zt)))))) (Zj (YG rfl rfl (sMc rfl (sAt rfl (sLc rfl rfl) rfl) (Zv (sLc rfl rfl) (ZQ) rfl) rfl rfl rfl rfl) rfl) (Zj (Ur (sMc rfl (sAt rfl (sLc rfl rfl) rfl) (Zv (YH (sGl rfl rfl) (Zv (sAt rfl (sLc rfl rfl) rfl) (ZQ) rfl) rfl) (ZQ) rfl) rfl rfl rfl rfl) rfl) (Zj (Ur (sMc rfl (sAt rfl (sLc rfl rfl) rfl) (Zv (sLc rfl rfl) (ZQ) rfl) rfl rfl rfl rfl) rfl) (Zt))))) (Zt)) (Zt))
theorem Zhb (P:Yu):SSL Zar (bodyOf (hd0.heap_1 P) 189) Zav:=by
 show SSL _ (_::_) _
 exact Zj (Ur (sMc rfl (sLc rfl rfl) (ZQ) rfl rfl rfl rfl) rfl) (Zj (Iu (sMc rfl (sLc rfl rfl) (Zv (sAt rfl (sLc rfl rfl) rfl) (ZQ) rfl) rfl rfl rfl rfl)) (Zt))
theorem Zha (P:Yu):SSL Zaq (bodyOf (hd0.heap_1 P) 182) Zau:=by
 exact Zj (X8 rfl (sLc rfl rfl) (sLc rfl rfl) rfl) (Zj (X8 rfl (sLc rfl rfl) (sLc rfl rfl) rfl) (Zj (X8 rfl (YH (sGl rfl rfl) (Zv (sLc rfl rfl) (ZQ) rfl) rfl) (sLc rfl rfl) rfl) (Zj (X8 rfl (sLc rfl rfl) (sLc rfl rfl) rfl) (Zj (X8 rfl (Zew (ZQ)) (sLc rfl rfl) rfl) (Zj (X8 rfl (YH (sGl rfl rfl) (Zv (sLc rfl rfl) (ZQ) rfl) rfl) (sLc rfl rfl) rfl) (Zt))))))
theorem Zfl (P:Yu):SSL Ig (bodyOf (hd0.heap_1 P) 203) Ij:=by
 exact Zj (YG rfl rfl (sMc rfl (sAt rfl (sLc rfl rfl) rfl) (ZQ) rfl rfl rfl rfl) rfl) (Zj (Xk (YB (sLc rfl rfl) (Zev (Zv (sS rfl) (Zv (sS rfl) (ZQ) rfl) rfl)) rfl) (Zj (Ur (sStar rfl (sAt rfl (sLc rfl rfl) rfl) (sLc rfl rfl) (fun J J=>rfl)) rfl) (Zt)) (Zt)) (Zj (Xk (YB (YH (sGl rfl rfl) (Zv (sAt rfl (sLc rfl rfl) rfl) (ZQ) rfl) rfl) (sI) rfl) (Zj (Xk (Zej (sbV (sMc rfl (sAt rfl (sLc rfl rfl) rfl) (ZQ) rfl rfl rfl rfl) rfl) (sbV (sAt rfl (sLc rfl rfl) rfl) rfl)) (Zra) (Zj (Ur (sMc rfl (sAt rfl (sLc rfl rfl) rfl) (Zv (YH (sGl rfl rfl) (Zv (sAt rfl (sLc rfl rfl) rfl) (ZQ) rfl) rfl) (ZQ) rfl) rfl rfl rfl rfl) rfl) (Zt))) (Zt)) (Zt)) (Zj (Ur (sMc rfl (sAt rfl (sLc rfl rfl) rfl) (ZQ) rfl rfl rfl rfl) rfl) (Zt))))
theorem Zip (P:Yu):SSL Zbu (bodyOf (hd0.heap_1 P) 350) Zbw:=by
 exact Zj (YG rfl rfl (YH (sGl rfl rfl) (Zv (sLc rfl rfl) (ZQ) rfl) rfl) rfl) (Zj (YG rfl rfl (sI) rfl) (Zj (Zq6 (.tup (.cons rfl rfl (.cons rfl rfl .nil))) (Zv4 rfl rfl (Zv (sLc rfl rfl) ZQ rfl) (fun J J=>rfl)) (fun J J=>rfl) (Zj (Xk (YB (sLc rfl rfl) (sS rfl) rfl) (Zj (Zs6 rfl rfl (sI)) (Zt)) (Zj (Xk (YB (sLc rfl rfl) (sS rfl) rfl) (Zj (Zs6 rfl rfl (sI)) (Zj (Xk (YB (sLc rfl rfl) (sI) rfl) (Zj (Iu (sBo)) (Zt)) (Zt)) (Zt))) (Zt)) (Zt))) (Zt)) (Zt)) (Zj (Iu (Yao (sLc rfl rfl) (sI) rfl)) (Zt))))
theorem Zhw (P:Yu):SSL Zbb (bodyOf (hd0.heap_1 P) 168) Zbd:=by
 exact Zj (Yl9 (Zj (Xk (YB (sS rfl) (sLc rfl rfl) rfl) (Zj (YG rfl rfl (Ziv (sLc rfl rfl) rfl rfl (by decide) rfl (fun J J=>rfl) rfl) rfl) (Zt)) (Zt)) (Zj (Xk (YB (sS rfl) (sLc rfl rfl) rfl) (Zj (YG rfl rfl (Ziv (sLc rfl rfl) rfl rfl (by decide) rfl (fun J J=>rfl) rfl) rfl) (Zt)) (Zt)) (Zj (Xk (YB (sS rfl) (sLc rfl rfl) rfl) (Zj (YG rfl rfl (Ziv (sLc rfl rfl) rfl rfl (by decide) rfl (fun J J=>rfl) rfl) rfl) (Zt)) (Zt)) (Zj (Xk (YB (sS rfl) (sLc rfl rfl) rfl) (Zj (YG rfl rfl (Ziv (sLc rfl rfl) rfl rfl (by decide) rfl (fun J J=>rfl) rfl) rfl) (Zt)) (Zt)) (Zj (Xk (YB (sS rfl) (sLc rfl rfl) rfl) (Zj (YG rfl rfl (Ziv (sLc rfl rfl) rfl rfl (by decide) rfl (fun J J=>rfl) rfl) rfl) (Zt)) (Zt)) (Zj (Xk (YB (sS rfl) (sLc rfl rfl) rfl) (Zj (YG rfl rfl (Ziv (sLc rfl rfl) rfl rfl (by decide) rfl (fun J J=>rfl) rfl) rfl) (Zt)) (Zt)) (Zj (Iu (sLc rfl rfl)) (Zt))))))))) (Zt)
theorem Zio (P:Yu):SSL Zbt (bodyOf (hd0.heap_1 P) 161) Zbv:=by
 exact Zj (Yl9 (Zj (Xk (YB (sS rfl) (sLc rfl rfl) rfl) (Zj (YG rfl rfl (Ziv (sLc rfl rfl) rfl rfl (by decide) rfl (fun J J=>rfl) rfl) rfl) (Zt)) (Zt)) (Zj (Xk (YB (sS rfl) (sLc rfl rfl) rfl) (Zj (YG rfl rfl (Ziv (sLc rfl rfl) rfl rfl (by decide) rfl (fun J J=>rfl) rfl) rfl) (Zt)) (Zt)) (Zj (Xk (YB (sS rfl) (sLc rfl rfl) rfl) (Zj (YG rfl rfl (Ziv (sLc rfl rfl) rfl rfl (by decide) rfl (fun J J=>rfl) rfl) rfl) (Zt)) (Zt)) (Zj (Xk (YB (sS rfl) (sLc rfl rfl) rfl) (Zj (YG rfl rfl (Ziv (sLc rfl rfl) rfl rfl (by decide) rfl (fun J J=>rfl) rfl) rfl) (Zt)) (Zt)) (Zj (Iu (sLc rfl rfl)) (Zt))))))) (Zt)
theorem W_law (P:Yu):SSL Yhc (bodyOf (hd0.heap_1 P) 412) Yhp:=by
 exact Zj (Zvy (m:=_) rfl rfl (sc':=Ztg) ⟨rfl,rfl,rfl,by decide,by decide⟩ (Zlc (Io (YH (sGl rfl rfl) (Zv (sScr rfl rfl (oN) (oS (sI)) (oN)) (ZQ) rfl) rfl) (Zew (by repeat (first | exact ZQ | refine Zv (sS rfl) ?_ rfl | refine Zv (sI) ?_ rfl)))) (oN) (oS (sI)) (oN)) (.one rfl rfl) (Zro) (Io (sLc rfl rfl) (sI)) (fun J J=>rfl) (fun J h=>Zgh h 160 rfl rfl rfl rfl)) (Zj (YG rfl rfl (YH (sGl rfl rfl) (Zv (sLc rfl rfl) (ZQ) rfl) rfl) rfl) (Zj (YG rfl rfl (Io (sI) (Io (YH (sGl rfl rfl) (Zv (sLc rfl rfl) (ZQ) rfl) rfl) (sI))) rfl) (Zj (YG rfl rfl (YH (sGl rfl rfl) (Zv (sLc rfl rfl) (ZQ) rfl) rfl) rfl) (Zj (Xk (YB (YH (sGl rfl rfl) (Zv (sMc rfl (sS rfl) (Zv (sLc rfl rfl) (ZQ) rfl) rfl rfl rfl rfl) (ZQ) rfl) rfl) (Yao (U0 (YH (sGl rfl rfl) (Zv (sLc rfl rfl) (ZQ) rfl) rfl) (sI) (by intro _ _ _ _ h;cases h)) (Zew (ZQ)) rfl) rfl) (Zj (Iu (sBo)) (Zt)) (Zt)) (Zj (Xk (YB (YH (sGl rfl rfl) (Zv (sMc rfl (sS rfl) (Zv (sLc rfl rfl) (ZQ) rfl) rfl rfl rfl rfl) (ZQ) rfl) rfl) (YH (sGl rfl rfl) (Zv (sLc rfl rfl) (ZQ) rfl) rfl) rfl) (Zj (Iu (sBo)) (Zt)) (Zt)) (Zj (Iu (Yao (YH (sGl rfl rfl) (Zv (sMc rfl (sS rfl) (Zv (sLc rfl rfl) (ZQ) rfl) rfl rfl rfl rfl) (Zv (sLc rfl rfl) (ZQ) rfl) rfl) rfl) (YH (sGl rfl rfl) (Zv (YH (sGl rfl rfl) (Zv (sLc rfl rfl) (ZQ) rfl) rfl) (Zv (sLc rfl rfl) (ZQ) rfl) rfl) rfl) rfl)) (Zt)))))))
theorem Zr2 (P:Yu):SSL Zgr (bodyOf (hd0.heap_1 P) 400) Zgx:=by
 exact Zj (Ynu (.loc rfl rfl (.cell rfl rfl .nil)) (YH (sGl rfl rfl) (Zv (sLc rfl rfl) (ZQ) rfl) rfl) (fun J=>rfl) (fun J=>rfl)) (Zj (Zq7 rfl rfl (sDE) (fun J=>rfl)) (Zj (Zgz (.cell rfl rfl) (YH (sGl rfl rfl) (Zv (YH (sGl rfl rfl) (Zv (sLc rfl rfl) (ZQ) rfl) rfl) (ZQ) rfl) rfl) (fun J J=>rfl) (Zj (Xk (YB (U0 (sLc rfl rfl) (sCl rfl (.inl rfl)) (by intro _ _ _ _ h;cases h)) (sS rfl) rfl) (Zj (Zq4 (YH (sGl rfl rfl) (Zv (Io (sI) (YH (sGl rfl rfl) (Zv (sCl rfl (.inl rfl)) (ZQ) rfl) rfl)) (ZQ) rfl) rfl) (sCl rfl (.inl rfl)) (sCl rfl (.inl rfl)) (fun J=>rfl)) (Zt)) (Zt)) (Zt)) (Zt)) (Zj (YG rfl rfl (sDic (g:=Zfw [38] (xV (.str [38,97,109,112,59])) (Zfw [60] (xV (.str [38,108,116,59])) (Zfw [62] (xV (.str [38,103,116,59])) (Ya0)))) (by exact Zm0 rfl (sS rfl) (Zm0 rfl (sS rfl) (Zm0 rfl (sS rfl) (Yma)))) rfl rfl (by intro h;cases h) (Za rfl)) rfl) (Zj (YG rfl rfl (Zew (Zv (sS rfl) (ZQ) rfl)) rfl) (Zj (YG rfl rfl (sS rfl) rfl) (Zj (Zgz (.cell rfl rfl) (YH (sGl rfl rfl) (Zv (YH (sGl rfl rfl) (Zv (sLc rfl rfl) (ZQ) rfl) rfl) (ZQ) rfl) rfl) (fun J J=>rfl) (Zj (YG rfl rfl (U0 (sLc rfl rfl) (sCl rfl (.inl rfl)) (by intro _ _ _ _ h;cases h)) rfl) (Zj (Xk (YB (sLc rfl rfl) (sS rfl) rfl) (Zj (YG rfl rfl (sMc rfl (sS rfl) (Zv (Yn3 (sc':=Zbi) ⟨rfl,rfl,rfl,by decide,by decide⟩ (sCl rfl (.inl rfl)) (.one rfl rfl) (Yfz (Zej (YB (sLc rfl rfl) (sCl rfl (.inl rfl)) rfl) (YB (sMc rfl (sCl rfl (.inl rfl)) (Zv (sLc rfl rfl) (Zv (Io (sCl rfl (.inl rfl)) (sI)) (ZQ) rfl) rfl) rfl rfl rfl rfl) (sCl rfl (.inl rfl)) rfl))) (Io (sS rfl) (U0 (sCl rfl (.inl rfl)) (sLc rfl rfl) (by intro _ _ _ _ h;cases h))) (fun J J=>rfl)) (ZQ) rfl) rfl rfl rfl rfl) rfl) (Zj (Ur (sMc rfl (sLc rfl rfl) (Zv (Io (Io (Io (Io (Io (Io (Io (sLc rfl rfl) (sS rfl)) (U0 (sCl rfl (.inl rfl)) (sCl rfl (.inl rfl)) (by intro _ _ _ _ h;cases h))) (sS rfl)) (YH (sGl rfl rfl) (Zv (YH (sGl rfl rfl) (Zv (sMc rfl (sS rfl) (Zv (Zlc (sLc rfl rfl) (oN) (oS (sCl rfl (.inl rfl))) (oN)) (ZQ) rfl) rfl rfl rfl rfl) (ZQ) rfl) rfl) (ZQ) rfl) rfl)) (sS rfl)) (sLc rfl rfl)) (sS rfl)) (ZQ) rfl) rfl rfl rfl rfl) rfl) (Zj (YG rfl rfl (sS rfl) rfl) (Zt)))) (Zj (Xk (YB (sLc rfl rfl) (sS rfl) rfl) (Zj (Ur (sMc rfl (sLc rfl rfl) (Zv (Io (sLc rfl rfl) (sIf (YB (sCl rfl (.inl rfl)) (sCl rfl (.inl rfl)) rfl) (Io (Io (sS rfl) (U0 (sCl rfl (.inl rfl)) (U0 (sCl rfl (.inl rfl)) (sCl rfl (.inl rfl)) (by intro _ _ _ _ h;cases h)) (by intro _ _ _ _ h;cases h))) (sS rfl)) (sS rfl))) (ZQ) rfl) rfl rfl rfl rfl) rfl) (Zj (YG rfl rfl (sS rfl) rfl) (Zt))) (Zj (Xk (YB (U0 (sLc rfl rfl) (Zja (sI)) (by intro _ _ _ _ h;cases h)) (sS rfl) rfl) (Zj (Zs6 rfl rfl (sMc rfl (sLc rfl rfl) (Zv (U0 (sLc rfl rfl) (Zja (sI)) (by intro _ _ _ _ h;cases h)) (Zv (U0 (sLc rfl rfl) (Zja (sI)) (by intro _ _ _ _ h;cases h)) (ZQ) rfl) rfl) rfl rfl rfl rfl)) (Zt)) (Zt)) (Zt))) (Zt))) (Zt))) (Zt)) (Zj (Zgz (.cell rfl rfl) (Zlc (sLc rfl rfl) (oN) (oN) (oS (Zja (sI)))) (fun J J=>rfl) (Zj (Xk (YB (U0 (sLc rfl rfl) (sCl rfl (.inl rfl)) (by intro _ _ _ _ h;cases h)) (sS rfl) rfl) (Zj (Ur (sMc rfl (sLc rfl rfl) (Zv (Io (Io (Io (sLc rfl rfl) (sS rfl)) (U0 (sCl rfl (.inl rfl)) (sCl rfl (.inl rfl)) (by intro _ _ _ _ h;cases h))) (sS rfl)) (ZQ) rfl) rfl rfl rfl rfl) rfl) (Zj (YG rfl rfl (sS rfl) rfl) (Zt))) (Zt)) (Zt)) (Zt)) (Zj (Iu (Io (sLc rfl rfl) (Zew (Zv (Io (sLc rfl rfl) (sS rfl)) (ZQ) rfl)))) (Zt)))))))))
theorem Zmc (P:Yu):SSL Zdw (bodyOf (hd0.heap_1 P) 390) Zdz:=by
 exact Zj (YG rfl rfl (Zew (ZQ)) rfl) (Zj (Zgz (.one rfl rfl) (YH (sGl rfl rfl) (Zv (YH (sGl rfl rfl) (Zv (sLc rfl rfl) (ZQ) rfl) rfl) (ZQ) rfl) rfl) (fun J J=>rfl) (Zj (Xk (YB (U0 (U0 (sLc rfl rfl) (sLc rfl rfl) (by intro _ _ _ _ h;cases h)) (Zja (sI)) (by intro _ _ _ _ h;cases h)) (sS rfl) rfl) (Zj (Ur (sMc rfl (sLc rfl rfl) (Zv (Zev (Zv (sS rfl) (Zv (sS rfl) (ZQ) rfl) rfl)) (ZQ) rfl) rfl rfl rfl rfl) rfl) (Zt)) (Zj (Ur (sMc rfl (sLc rfl rfl) (Zv (Zev (Zv (Io (YH (sGl rfl rfl) (Zv (sMc rfl (sS rfl) (Zv (Zlc (sLc rfl rfl) (oN) (oS (Io (sLc rfl rfl) (sI))) (oN)) (ZQ) rfl) rfl rfl rfl rfl) (ZQ) rfl) rfl) (sI)) (Zv (U0 (sLc rfl rfl) (sLc rfl rfl) (by intro _ _ _ _ h;cases h)) (ZQ) rfl) rfl)) (ZQ) rfl) rfl rfl rfl rfl) rfl) (Zt))) (Zt)) (Zt)) (Zj (Iu (sLc rfl rfl)) (Zt)))
theorem Zxe (P:Yu):SSL Zjs (bodyOf (hd0.heap_1 P) 383) Zj0:=by
 exact Zj (YG rfl rfl (Io (Io (sMc rfl (sLc rfl rfl) (Zv (sS rfl) (ZQ) rfl) rfl rfl rfl rfl) (sI)) (sI)) rfl) (Zj (YG rfl rfl (Zew (ZQ)) rfl) (Zj (Zgz (.one rfl rfl) (YH (sGl rfl rfl) (Zv (YH (sGl rfl rfl) (Zv (sLc rfl rfl) (ZQ) rfl) rfl) (ZQ) rfl) rfl) (fun J J=>rfl) (Zj (YG rfl rfl (sMc rfl (Zlc (sLc rfl rfl) (oN) (oS (sLc rfl rfl)) (oN)) (Zv (sS rfl) (ZQ) rfl) rfl rfl rfl rfl) rfl) (Zj (Xk (sbOr (YB (sLc rfl rfl) (sLc rfl rfl) rfl) (Zej (YB (Io (sLc rfl rfl) (sI)) (sI) rfl) (YB (U0 (sLc rfl rfl) (sLc rfl rfl) (by intro _ _ _ _ h;cases h)) (sS rfl) rfl))) (Zj (Ur (sMc rfl (sLc rfl rfl) (Zv (U0 (sLc rfl rfl) (sLc rfl rfl) (by intro _ _ _ _ h;cases h)) (ZQ) rfl) rfl rfl rfl rfl) rfl) (Zt)) (Zt)) (Zt))) (Zt)) (Zj (Iu (sLc rfl rfl)) (Zt))))
theorem Zuw (P:Yu):SSL Zhz (bodyOf (hd0.heap_1 P) 395) Zh6:=by
 exact Zj (Zvy (m:=_) rfl rfl (sc':=Zg1) ⟨rfl,rfl,rfl,by decide,by decide⟩ (YH (sGl rfl rfl) (Zv (YH (sGl rfl rfl) (Zv (sCl rfl (.inl rfl)) (ZQ) rfl) rfl) (ZQ) rfl) rfl) (.one rfl rfl) (Yfz (YB (U0 (sCl rfl (.inl rfl)) (sLc rfl rfl) (by intro _ _ _ _ h;cases h)) (Zev (Zv (sS rfl) (Zv (sS rfl) (ZQ) rfl) rfl)) rfl)) (sLc rfl rfl) (fun J J=>rfl) (fun J h=>Zgh h 183 rfl rfl rfl rfl)) (Zj (YG rfl rfl (sDE) rfl) (Zj (YG rfl rfl (sI) rfl) (Zj (Zx7 (YB (sLc rfl rfl) (YH (sGl rfl rfl) (Zv (sLc rfl rfl) (ZQ) rfl) rfl) rfl) (Zj (Xk (Zej (YB (U0 (sCl rfl (.inl rfl)) (U0 (sLc rfl rfl) (Io (sLc rfl rfl) (sI)) (by intro _ _ _ _ h;cases h)) (by intro _ _ _ _ h;cases h)) (sS rfl) rfl) (YB (U0 (sCl rfl (.inl rfl)) (U0 (sLc rfl rfl) (sLc rfl rfl) (by intro _ _ _ _ h;cases h)) (by intro _ _ _ _ h;cases h)) (sS rfl) rfl)) (Zj (Zq4 (U0 (sLc rfl rfl) (sLc rfl rfl) (by intro _ _ _ _ h;cases h)) (sLc rfl rfl) (U0 (sLc rfl rfl) (Io (sLc rfl rfl) (sI)) (by intro _ _ _ _ h;cases h)) (fun J=>rfl)) (Zj (Zq4 (U0 (sLc rfl rfl) (Io (sLc rfl rfl) (sI)) (by intro _ _ _ _ h;cases h)) (sLc rfl rfl) (U0 (sLc rfl rfl) (sLc rfl rfl) (by intro _ _ _ _ h;cases h)) (fun J=>rfl)) (Zj (YG rfl rfl (Io (Zlc (sLc rfl rfl) (oN) (oS (Io (sLc rfl rfl) (sI))) (oN)) (Zlc (sLc rfl rfl) (oS (Io (sLc rfl rfl) (sI))) (oN) (oN))) rfl) (Zj (YG rfl rfl (YH (sGl rfl rfl) (Zv (Io (sLc rfl rfl) (sI)) (Zv (sI) (ZQ) rfl) rfl) rfl) rfl) (Zt))))) (Zj (Zs6 rfl rfl (sI)) (Zt))) (Zt))) (Zj (Iu (Zev (Zv (sLc rfl rfl) (Zv (sLc rfl rfl) (ZQ) rfl) rfl))) (Zt)))))
theorem Zuv (P:Yu):SSL Zhy (bodyOf (hd0.heap_1 P) 369) Zh5:=by
 show SSL _ (_::_) _
 exact Zj (Iu (YH (sGl rfl rfl) (Zv (Ydw rfl rfl (Zv4 rfl rfl (Zv (YH (sGl rfl rfl) (Zv (sLc rfl rfl) (ZQ) rfl) rfl) ZQ rfl) (fun J J=>rfl)) (fun J J=>rfl)) (ZQ) rfl) rfl)) (Zt)
theorem Zxd (P:Yu):SSL Zjr (bodyOf (hd0.heap_1 P) 407) Zjz:=by
 exact Zj (YG rfl rfl (Zew (Zv (U0 (sLc rfl rfl) (sI) (by intro _ _ _ _ h;cases h)) (ZQ) rfl)) rfl) (Zj (Zgz (.one rfl rfl) (Zlc (sLc rfl rfl) (oS (sI)) (oN) (oN)) (fun J J=>rfl) (Zj (Xk (YB (Io (YH (sGl rfl rfl) (Zv (U0 (sLc rfl rfl) (Zja (sI)) (by intro _ _ _ _ h;cases h)) (ZQ) rfl) rfl) (YH (sGl rfl rfl) (Zv (sLc rfl rfl) (ZQ) rfl) rfl)) (sLc rfl rfl) rfl) (Zj (Ur (sMc rfl (sLc rfl rfl) (Zv (sLc rfl rfl) (ZQ) rfl) rfl rfl rfl rfl) rfl) (Zt)) (Zj (Zq4 (Io (U0 (sLc rfl rfl) (Zja (sI)) (by intro _ _ _ _ h;cases h)) (sLc rfl rfl)) (sLc rfl rfl) (Zja (sI)) (fun J=>rfl)) (Zt))) (Zt)) (Zt)) (Zj (Iu (sMc rfl (sS rfl) (Zv (sLc rfl rfl) (ZQ) rfl) rfl rfl rfl rfl)) (Zt)))
theorem Zxc (P:Yu)(K:KwT):SSLk K 375 Zjq (bodyOf (hd0.heap_1 P) 376) (Zjy K):=by
 exact Zd6 (Zta (Zq7 rfl rfl (YH (sGl rfl rfl) (Zv (sI) (Zv (sLc rfl rfl) (Zv (sS rfl) (Zv (sS rfl) (ZQ) rfl) rfl) rfl) rfl) rfl) (fun J=>rfl))) (Zd6 (skMkW rfl rfl rfl rfl rfl (sLam (scL:=Zei) ⟨rfl,rfl,rfl,rfl,by decide,rfl,(fun fd h1 h2 h3 s val=>.of_eq (by cases fd;cases h1;cases h2;cases h3;rfl))⟩ (fun J=>rfl) (sMc rfl (sCl rfl (.inr rfl)) (Zv (sS rfl) (Zv (sLc rfl rfl) (ZQ) rfl) rfl) rfl rfl rfl rfl) (clo1 (a:=169) rfl)) (fun J J=>rfl) (fun J=>rfl)) (Zd6 (Zta (YG rfl rfl (YH (sGl rfl rfl) (ZQ) rfl) rfl)) (Zd6 (Zta (YG rfl rfl (sI) rfl)) (Zd6 (Zta (Ur (sMc rfl (sLc rfl rfl) (Zv (sS rfl) (Zv (sDS) (ZQ) rfl) rfl) rfl rfl rfl rfl) rfl)) (Zd6 (Zta (Zgz (.tup (.cons rfl rfl (.cons rfl rfl .nil))) (YH (sGl rfl rfl) (Zv (sLc rfl rfl) (ZQ) rfl) rfl) (fun J J=>rfl) (Zj (Xk (YB (sLc rfl rfl) (sS rfl) rfl) (Zj (Ur (sMc rfl (sLc rfl rfl) (Zv (YH (sGl rfl rfl) (Zv (sLc rfl rfl) (ZQ) rfl) rfl) (Zv (sDic (g:=Zfw [105,110] (Yb (xGl 122) (Zk (xLc 170) (ZD))) (Zfw [97,116] (Yb (xGl 122) (Zk (xLc 172) (ZD))) (Ya0))) (by exact Zm0 rfl (YH (sGl rfl rfl) (Zv (sLc rfl rfl) (ZQ) rfl) rfl) (Zm0 rfl (YH (sGl rfl rfl) (Zv (sLc rfl rfl) (ZQ) rfl) rfl) (Yma))) rfl rfl (by intro h;cases h) (Za rfl)) (ZQ) rfl) rfl) rfl rfl rfl rfl) rfl) (Zj (Ur (sMc rfl (sLc rfl rfl) (Zv (sS rfl) (Zv (YH (sGl rfl rfl) (Zv (sLc rfl rfl) (ZQ) rfl) rfl) (ZQ) rfl) rfl) rfl rfl rfl rfl) rfl) (Zj (Zs6 rfl rfl (sI)) (Zt)))) (Zj (Xk (YB (sLc rfl rfl) (sS rfl) rfl) (Zj (YG rfl rfl (U0 (sMc rfl (sLc rfl rfl) (ZQ) rfl rfl rfl rfl) (sI) (by intro _ _ _ _ h;cases h)) rfl) (Zj (Xk (YB (sLc rfl rfl) (sS rfl) rfl) (Zj (Ur (sMc rfl (sLc rfl rfl) (Zv (sLc rfl rfl) (ZQ) rfl) rfl rfl rfl rfl) rfl) (Zt)) (Zj (Ur (sMc rfl (sLc rfl rfl) (Zv (sLc rfl rfl) (ZQ) rfl) rfl rfl rfl rfl) rfl) (Zt))) (Zt))) (Zj (Ur (sMc rfl (sLc rfl rfl) (Zv (Zlc (sLc rfl rfl) (oS (Zja (sI))) (oN) (oN)) (ZQ) rfl) rfl rfl rfl rfl) rfl) (Zt))) (Zt))) (Zt)) (Zt))) (Zd6 (Zta (Zx7 (YB (sMc rfl (sLc rfl rfl) (ZQ) rfl rfl rfl rfl) (sI) rfl) (Zj (Ur (sMc rfl (sLc rfl rfl) (Zv (U0 (sMc rfl (sLc rfl rfl) (ZQ) rfl rfl rfl rfl) (sI) (by intro _ _ _ _ h;cases h)) (ZQ) rfl) rfl rfl rfl rfl) rfl) (Zt)))) (Zd6 (Zta (Ur (sMc rfl (sLc rfl rfl) (Zv (sS rfl) (ZQ) rfl) rfl rfl rfl rfl) rfl)) (Zd6 (Zta (Iu (sMc rfl (sCl rfl (.inl rfl)) (Zv (sS rfl) (ZQ) rfl) rfl rfl rfl rfl))) (slkOf Zt)))))))))
theorem Zuu (P:Yu):SSL Zhx (bodyOf (hd0.heap_1 P) 362) Zh4:=by
 exact Zj (Zq7 rfl rfl (Zew (by repeat (first | exact ZQ | refine Zv (sS rfl) ?_ rfl | refine Zv (sI) ?_ rfl))) (fun J=>rfl)) (Zj (Zvy (m:=_) rfl rfl (sc':=Zg0) ⟨rfl,rfl,rfl,by decide,by decide⟩ (sLc rfl rfl) (.one rfl rfl) (Zro) (U0 (sCl rfl (.inl rfl)) (sLc rfl rfl) (by intro _ _ _ _ h;cases h)) (fun J J=>rfl) (fun J h=>Zgh h 162 rfl rfl rfl rfl)) (Zj (Xk (YB (Io (YH (sGl rfl rfl) (Zv (sLc rfl rfl) (ZQ) rfl) rfl) (sI)) (sI) rfl) (Zj (Ur (sMc rfl (sLc rfl rfl) (Zv (sS rfl) (ZQ) rfl) rfl rfl rfl rfl) rfl) (Zt)) (Zt)) (Zj (Iu (sLc rfl rfl)) (Zt))))
theorem Zf4 (P:Yu):SSL IV (bodyOf (hd0.heap_1 P) 357) I5:=by
 exact Zj (YG rfl rfl (Zew (ZQ)) rfl) (Zj (Zgz (.one rfl rfl) (sLc rfl rfl) (fun J J=>rfl) (Zj (Xk (YB (sS rfl) (U0 (sLc rfl rfl) (sI) (by intro _ _ _ _ h;cases h)) rfl) (Zj (YG rfl rfl (Zev (Zv (sS rfl) (Zv (sS rfl) (ZQ) rfl) rfl)) rfl) (Zt)) (Zt)) (Zj (Ur (sMc rfl (sLc rfl rfl) (Zv (sLc rfl rfl) (ZQ) rfl) rfl rfl rfl rfl) rfl) (Zt))) (Zt)) (Zj (Iu (sLc rfl rfl)) (Zt)))
theorem Zfk (P:Yu):SSL Ie (bodyOf (hd0.heap_1 P) 343) Ii:=by
 exact Zj (Xk (YB (sS rfl) (sLc rfl rfl) rfl) (Zj (Iu (sLc rfl rfl)) (Zt)) (Zt)) (Zj (YG rfl rfl (sI) rfl) (Zj (YG rfl rfl (sN) rfl) (Zj (YG rfl rfl (Zew (ZQ)) rfl) (Zj (Zq6 (.tup (.cons rfl rfl (.cons rfl rfl .nil))) (Zv4 rfl rfl (Zv (sLc rfl rfl) ZQ rfl) (fun J J=>rfl)) (fun J J=>rfl) (Zj (Xk (YB (sLc rfl rfl) (sS rfl) rfl) (Zj (Xk (YB (sLc rfl rfl) (sN) rfl) (Zj (YG rfl rfl (sLc rfl rfl) rfl) (Zt)) (Zj (Xk (YB (sLc rfl rfl) (sLc rfl rfl) rfl) (Zj (Ur (sMc rfl (sLc rfl rfl) (Zv (Zlc (sLc rfl rfl) (oS (sLc rfl rfl)) (oS (sLc rfl rfl)) (oN)) (ZQ) rfl) rfl rfl rfl rfl) rfl) (Zt)) (Zt)) (Zj (YG rfl rfl (Io (sLc rfl rfl) (sI)) rfl) (Zj (YG rfl rfl (sN) rfl) (Zt))))) (Zt)) (Zt)) (Zt)) (Zt)) (Zj (Xk (YB (sLc rfl rfl) (YH (sGl rfl rfl) (Zv (sLc rfl rfl) (ZQ) rfl) rfl) rfl) (Zj (Ur (sMc rfl (sLc rfl rfl) (Zv (Zlc (sLc rfl rfl) (oS (sLc rfl rfl)) (oN) (oN)) (ZQ) rfl) rfl rfl rfl rfl) rfl) (Zt)) (Zt)) (Zj (Iu (sMc rfl (sS rfl) (Zv (sLc rfl rfl) (ZQ) rfl) rfl rfl rfl rfl)) (Zt)))))))
section
section
variable {P:Yu}{w:World}{mg mb:Str->Option Value}{K:KwT}{n:Nat}
noncomputable def Ymv (sc:Sc)(ns:List Nat):Bool:=ns.all (fun i=>sc.lookup i == some .local||(sc.lookup i == some .cell&&(Kz sc).contains i))&&(decide ns.Nodup&&(decide (Kz sc).Nodup&&(Kz sc).all fun i=>sc.lookup i == some .cell))
theorem Zqb {sc:Sc}{ns:List Nat}{us:List V}(h:Ymv sc ns=true)(l:ns.length=us.length):Zof sc (ns.zip us):=
 have h1:=bb h
 have h2:=bb h1.2
 have h3:=bb h2.2
 ⟨fun p hp=>(oo (Yo.mp h1.1 p.1 (Yqb hp).1)).imp eq_of_beq fun h=>⟨eq_of_beq (bb h).1,Ycc.mp (bb h).2⟩,(congrArg List.Nodup (Zqu l)).mpr (of_decide_eq_true h2.1),of_decide_eq_true h3.1,fun i hi=>eq_of_beq (Yo.mp h3.2 i hi)⟩
def Zzx (P:Yu)(f:Addr)(sc:Sc)(F:KwT->FS):Prop:=∀ (G:GC) (Δ:Dl) (n:Nat) (env:Env) (A:Yg) (K:KwT),Cx G Δ n env A sc->env.code=(Zd7 (hK P) f).code->(∀ p∈[((125:Addr),(123:Addr)),(375,371),(291,287),(298,294)],TOK G p.1)->Zu5 G n K->
 ∀ (st:St) (s:Zd) (Q:Fl->St->Prop) (E:Value->Zd->Prop),0 < s.toks->RS G env st s->F K Δ Q st->W G A (execs (bodyOf (hK P) f) env) (PS G env st s Q) E s
theorem bwL {f:Addr}{sc:Sc}{F:FS}(h:SSL sc (bodyOf (hK P) f) F):Zzx P f sc fun J=>F:=fun J J J J J J X J J J=>h X
theorem bwK {f:Addr}{sc:Sc}{F:KwT->FS}(c P':Addr)(m:(c,P')∈[((125:Addr),(123:Addr)),(375,371),(291,287),(298,294)])(hc:(Zd7 (hK P) f).code= .ref c)(h:∀ K,SSLk K c sc (bodyOf (hK P) f) (F K)):Zzx P f sc F:=fun J J J J J K X hcd hT KK=>h K X (hcd.trans hc) (hT _ m) KK
theorem bwC {f:Addr}{sc:Sc}{F:FS}(c P':Addr)(m:(c,P')∈[((125:Addr),(123:Addr)),(375,371),(291,287),(298,294)])(hc:(Zd7 (hK P) f).code= .ref c)(h:Zo8 c sc (bodyOf (hK P) f) F):Zzx P f sc fun J=>F:=fun J J J J J J X hcd hT J=>h X (hcd.trans hc) (hT _ m)
structure Ko (P:Yu)(d:Zxq):Prop where
 d0:Zg4 P d.f d.sc (bodyOf (hK P) d.f) false []
 pk:∃ dv,(∀ h,VRs h d.ds dv)/\Yhe P d.f d.ns (d.ns.length - d.ds.length) [] dv
 ok:Ymv d.sc d.ns=true
 w:Zzx P d.f d.sc d.F
theorem Yhe.mk {f:Addr}{ns:List Nat}{k:Nat}{kw:List (Str×Value)}{dv:List Value}(h:∀ S,allV k fun vals=>peek (hK P) S (bindArgs (Zd7 (hK P) f) ⟨vals,kw⟩)=some ((ns.map nm).zip (vals++dv))):Yhe P f ns k kw dv:=h
theorem dk0:Ko P ⟨161,Zbt,[97],[],fun J=>Zbv⟩:=⟨.mk (by kernel_rfl),⟨[],fun J=>.nil,.mk (by intro S y0;show _=_;kernel_rfl)⟩,by kernel_rfl,by refine bwL ?_;exact Zio P⟩theorem dk1:Ko P ⟨168,Zbb,[97],[],fun J=>Zbd⟩:=⟨.mk (by kernel_rfl),⟨[],fun J=>.nil,.mk (by intro S y0;show _=_;kernel_rfl)⟩,by kernel_rfl,by refine bwL ?_;exact Zhw P⟩theorem dk2:Ko P ⟨90,KJ,[21,57,58],[.none],fun J=>KR⟩:=⟨.mk (by kernel_rfl),⟨[.none],fun J=>.cons .none .nil,.mk (by intro S y0 y1;show _=_;kernel_rfl)⟩,by kernel_rfl,by refine bwL ?_;exact Zez P⟩theorem dk3:Ko P ⟨97,IW,[21,66],[],fun J=>I6⟩:=⟨.mk (by kernel_rfl),⟨[],fun J=>.nil,.mk (by intro S y0 y1;show _=_;kernel_rfl)⟩,by kernel_rfl,by refine bwL ?_;exact Zf6 P⟩theorem dk4:Ko P ⟨106,KN,[21,68],[.ref 98],fun J=>KY⟩:=⟨.mk (by kernel_rfl),⟨[.ref 98],fun J=>.cons (.ref 98) .nil,.mk (by intro S y0;show _=_;kernel_rfl)⟩,by kernel_rfl,by refine bwL ?_;exact Ze0 P⟩theorem dk5:Ko P ⟨120,Ih,[21,59,76],[],fun J=>Ik⟩:=⟨.mk (by kernel_rfl),⟨[],fun J=>.nil,.mk (by intro S y0 y1 y2;show _=_;kernel_rfl)⟩,by kernel_rfl,by refine bwL ?_;exact Zfm P⟩theorem dk6:Ko P ⟨126,KH,[21,59,76,77,71],[.none],fun J=>KQ⟩:=⟨.mk (by kernel_rfl),⟨[.none],fun J=>.cons .none .nil,.mk (by intro S y0 y1 y2 y3;show _=_;kernel_rfl)⟩,by kernel_rfl,bwC 125 123 (by decide) (by kernel_rfl) (@Zey P)⟩theorem dk7:Ko P ⟨133,Zae,[21,59],[],fun J=>Zah⟩:=⟨.mk (by kernel_rfl),⟨[],fun J=>.nil,.mk (by intro S y0 y1;show _=_;kernel_rfl)⟩,by kernel_rfl,by refine bwL ?_;exact Zgp P⟩theorem dk8:Ko P ⟨140,Ui,[21,97],[],fun J=>Kv⟩:=⟨.mk (by kernel_rfl),⟨[],fun J=>.nil,.mk (by intro S y0 y1;show _=_;kernel_rfl)⟩,by kernel_rfl,by refine bwL ?_;exact Zeo P⟩theorem dk9:Ko P ⟨182,Zaq,[21,104,105,106,107],[],fun J=>Zau⟩:=⟨.mk (by kernel_rfl),⟨[],fun J=>.nil,.mk (by intro S y0 y1 y2 y3 y4;show _=_;kernel_rfl)⟩,by kernel_rfl,by refine bwL ?_;exact Zha P⟩theorem dk10:Ko P ⟨189,Zar,[21,116],[],fun J=>Zav⟩:=⟨.mk (by kernel_rfl),⟨[],fun J=>.nil,.mk (by intro S y0 y1;show _=_;kernel_rfl)⟩,by kernel_rfl,by refine bwL ?_;exact Zhb P⟩theorem dk11:Ko P ⟨203,Ig,[21],[],fun J=>Ij⟩:=⟨.mk (by kernel_rfl),⟨[],fun J=>.nil,.mk (by intro S y0;show _=_;kernel_rfl)⟩,by kernel_rfl,by refine bwL ?_;exact Zfl P⟩theorem dk12:Ko P ⟨238,Us,[21,129,130],[],fun J=>Uu⟩:=⟨.mk (by kernel_rfl),⟨[],fun J=>.nil,.mk (by intro S y0 y1 y2;show _=_;kernel_rfl)⟩,by kernel_rfl,by refine bwL ?_;exact Zc9 P⟩theorem dk13:Ko P ⟨269,Zcf,[21,129,130],[],fun J=>Zch⟩:=⟨.mk (by kernel_rfl),⟨[],fun J=>.nil,.mk (by intro S y0 y1 y2;show _=_;kernel_rfl)⟩,by kernel_rfl,by refine bwL ?_;exact Zjn P⟩theorem dk14:Ko P ⟨277,Zaf,[21,132],[],fun J=>Zai⟩:=⟨.mk (by kernel_rfl),⟨[],fun J=>.nil,.mk (by intro S y0 y1;show _=_;kernel_rfl)⟩,by kernel_rfl,by refine bwL ?_;exact Zgq P⟩theorem dk15:Ko P ⟨292,Zat,[21],[],fun J=>Zax⟩:=⟨.mk (by kernel_rfl),⟨[],fun J=>.nil,.mk (by intro S y0;show _=_;kernel_rfl)⟩,by kernel_rfl,bwC 291 287 (by decide) (by kernel_rfl) (@Zhd P)⟩theorem dk16:Ko P ⟨299,Zas,[21],[],fun J=>Zaw⟩:=⟨.mk (by kernel_rfl),⟨[],fun J=>.nil,.mk (by intro S y0;show _=_;kernel_rfl)⟩,by kernel_rfl,bwC 298 294 (by decide) (by kernel_rfl) (@Zhc P)⟩theorem dk17:Ko P ⟨307,U9,[21,145],[.none],fun J=>Ka⟩:=⟨.mk (by kernel_rfl),⟨[.none],fun J=>.cons .none .nil,.mk (by intro S y0;show _=_;kernel_rfl)⟩,by kernel_rfl,by refine bwL ?_;exact Zd2 P⟩theorem dk18:Ko P ⟨307,U9,[21,145],[],fun J=>Ka⟩:=⟨.mk (by kernel_rfl),⟨[],fun J=>.nil,.mk (by intro S y0 y1;show _=_;kernel_rfl)⟩,by kernel_rfl,by refine bwL ?_;exact Zd2 P⟩theorem dk19:Ko P ⟨314,I3,[21],[],fun J=>I7⟩:=⟨.mk (by kernel_rfl),⟨[],fun J=>.nil,.mk (by intro S y0;show _=_;kernel_rfl)⟩,by kernel_rfl,by refine bwL ?_;exact Zf7 P⟩theorem dk20:Ko P ⟨343,Ie,[147],[],fun J=>Ii⟩:=⟨.mk (by kernel_rfl),⟨[],fun J=>.nil,.mk (by intro S y0;show _=_;kernel_rfl)⟩,by kernel_rfl,by refine bwL ?_;exact Zfk P⟩theorem dk21:Ko P ⟨350,Zbu,[147],[],fun J=>Zbw⟩:=⟨.mk (by kernel_rfl),⟨[],fun J=>.nil,.mk (by intro S y0;show _=_;kernel_rfl)⟩,by kernel_rfl,by refine bwL ?_;exact Zip P⟩theorem dk22:Ko P ⟨357,IV,[157],[],fun J=>I5⟩:=⟨.mk (by kernel_rfl),⟨[],fun J=>.nil,.mk (by intro S y0;show _=_;kernel_rfl)⟩,by kernel_rfl,by refine bwL ?_;exact Zf4 P⟩theorem dk23:Ko P ⟨362,Zhx,[160],[],fun J=>Zh4⟩:=⟨.mk (by kernel_rfl),⟨[],fun J=>.nil,.mk (by intro S y0;show _=_;kernel_rfl)⟩,by kernel_rfl,by refine bwL ?_;exact Zuu P⟩theorem dk24:Ko P ⟨369,Zhy,[97],[],fun J=>Zh5⟩:=⟨.mk (by kernel_rfl),⟨[],fun J=>.nil,.mk (by intro S y0;show _=_;kernel_rfl)⟩,by kernel_rfl,by refine bwL ?_;exact Zuv P⟩theorem dk25:Ko P ⟨376,Zjq,[97,166],[],Zjy⟩:=⟨.mk (by kernel_rfl),⟨[],fun J=>.nil,.mk (by intro S y0 y1;show _=_;kernel_rfl)⟩,by kernel_rfl,bwK 375 371 (by decide) (by kernel_rfl) (@Zxc P)⟩theorem dk26:Ko P ⟨383,Zjs,[162],[],fun J=>Zj0⟩:=⟨.mk (by kernel_rfl),⟨[],fun J=>.nil,.mk (by intro S y0;show _=_;kernel_rfl)⟩,by kernel_rfl,by refine bwL ?_;exact Zxe P⟩theorem dk27:Ko P ⟨390,Zdw,[178],[],fun J=>Zdz⟩:=⟨.mk (by kernel_rfl),⟨[],fun J=>.nil,.mk (by intro S y0;show _=_;kernel_rfl)⟩,by kernel_rfl,by refine bwL ?_;exact Zmc P⟩theorem dk28:Ko P ⟨395,Zhz,[178],[],fun J=>Zh6⟩:=⟨.mk (by kernel_rfl),⟨[],fun J=>.nil,.mk (by intro S y0;show _=_;kernel_rfl)⟩,by kernel_rfl,by refine bwL ?_;exact Zuw P⟩theorem dk29:Ko P ⟨400,Zgr,[178],[],fun J=>Zgx⟩:=⟨.mk (by kernel_rfl),⟨[],fun J=>.nil,.mk (by intro S y0;show _=_;kernel_rfl)⟩,by kernel_rfl,by refine bwL ?_;exact Zr2 P⟩theorem dk30:Ko P ⟨407,Zjr,[189,166],[],fun J=>Zjz⟩:=⟨.mk (by kernel_rfl),⟨[],fun J=>.nil,.mk (by intro S y0 y1;show _=_;kernel_rfl)⟩,by kernel_rfl,by refine bwL ?_;exact Zxd P⟩theorem Ypo (P:Yu):∀ d∈tbl,Ko P d:=Zi.mpr<|.intro dk0<|Zi.mpr<|.intro dk1<|Zi.mpr<|.intro dk2<|Zi.mpr<|.intro dk3<|Zi.mpr<|.intro dk4<|Zi.mpr<|.intro dk5<|Zi.mpr<|.intro dk6<|Zi.mpr<|.intro dk7<|Zi.mpr<|.intro dk8<|Zi.mpr<|.intro dk9<|Zi.mpr<|.intro dk10<|Zi.mpr<|.intro dk11<|Zi.mpr<|.intro dk12<|Zi.mpr<|.intro dk13<|Zi.mpr<|.intro dk14<|Zi.mpr<|.intro dk15<|Zi.mpr<|.intro dk16<|Zi.mpr<|.intro dk17<|Zi.mpr<|.intro dk18<|Zi.mpr<|.intro dk19<|Zi.mpr<|.intro dk20<|Zi.mpr<|.intro dk21<|Zi.mpr<|.intro dk22<|Zi.mpr<|.intro dk23<|Zi.mpr<|.intro dk24<|Zi.mpr<|.intro dk25<|Zi.mpr<|.intro dk26<|Zi.mpr<|.intro dk27<|Zi.mpr<|.intro dk28<|Zi.mpr<|.intro dk29<|Zi.mpr<|.intro dk30<|Yp _
structure Zuy (P:Yu)(d:Zxq):Prop where
 d0:∃ cc,SupIs P d.f cc d.sc
 pk:∃ dv,(∀ h,VRs h d.ds dv)/\Yhe P d.f d.ns (d.ns.length - d.ds.length) [] dv
 ok:d.ns.all (fun i=>d.sc.lookup i == some .local)=true
 w:∀ K,SSLat d.sc (bodyOf (hK P) d.f) (d.F K)theorem Ymc:SupIs P 262 261 Ut:=⟨.mk (by kernel_rfl),by kernel_rfl,by kernel_rfl,⟨Yc8 (Zhu (hK P) 261)[2]?,by kernel_rfl,by kernel_rfl⟩,rfl⟩theorem sk0:Zuy P ⟨262,Ut,[21,140],[.int 0],fun J=>Uv⟩:=⟨⟨_,Ymc⟩,⟨[.int 0 665],fun J=>.cons (.int 0 _) .nil,.mk (by intro S y0;show _=_;kernel_rfl)⟩,rfl,fun J=>@Zep P⟩theorem sk1:Zuy P ⟨262,Ut,[21,140],[],fun J=>Uv⟩:=⟨⟨_,Ymc⟩,⟨[],fun J=>.nil,.mk (by intro S y0 y1;show _=_;kernel_rfl)⟩,rfl,fun J=>@Zep P⟩theorem si285:SupIs P 285 284 Za2:=⟨.mk (by kernel_rfl),by kernel_rfl,by kernel_rfl,⟨Yc8 (Zhu (hK P) 284)[2]?,by kernel_rfl,by kernel_rfl⟩,rfl⟩theorem sk2:Zuy P ⟨285,Za2,[21],[],fun J=>Zcy⟩:=⟨⟨_,si285⟩,⟨[],fun J=>.nil,.mk (by intro S y0;show _=_;kernel_rfl)⟩,rfl,fun J=>@Zku P⟩theorem si322:SupIs P 322 321 UL:=⟨.mk (by kernel_rfl),by kernel_rfl,by kernel_rfl,⟨Yc8 (Zhu (hK P) 321)[2]?,by kernel_rfl,by kernel_rfl⟩,rfl⟩theorem sk3:Zuy P ⟨322,UL,[21],[],fun J=>Il⟩:=⟨⟨_,si322⟩,⟨[],fun J=>.nil,.mk (by intro S y0;show _=_;kernel_rfl)⟩,rfl,fun J=>@Zfn P⟩theorem Ynw (P:Yu):∀ d∈Ynq,Zuy P d:=Zi.mpr<|.intro sk0<|Zi.mpr<|.intro sk1<|Zi.mpr<|.intro sk2<|Zi.mpr<|.intro sk3<|Yp _
variable {vals:List Value}{f:Addr}{vs:List V}
theorem Yfh {a d n:Nat}(l:a + d=n):n - d + d=n:=Nat.sub_add_cancel (l▸Y6 _ _)theorem Yfi {a d n:Nat}(l:a + d=n):a=n - d:=l▸(Yk9 ..).symm
theorem Zwx (H:Zg5 w j0 mg mb)(D:DV (GK w j0) Δ n)(KK:Zu5 (GK w j0) n K)(hA:AOK A (n + 4))(ht:0 < s.toks)(R:RS (GK w j0) env st s)(rv:VRs s.heap vs vals)(h:Fn0 Δ K f vs st.σ Q):Zgb (GK w j0) A env st s E (.ref f) vals [] Q:=
 have C:=gok H
 match h with
 | .fn i e hf l r=>
  have X:=Ypo w.params _ (Z9 e)
  X.pk.elim fun dv y=>hf▸Zkq C D (X.d0.at rfl C) (fun c hcd=>X.w _ _ _ _ _ K c hcd (fun J hp=>Yil hp) KK) (Zf1 rfl C y.2 y.1 (Yfh l) (Yfi l)) (Zqb X.ok (l.symm.trans Zf.symm)) hA ht R rv r
 | .sup i e hf l r=>
  have X:=Ynw w.params _ (Z9 e)
  X.pk.elim fun dv y=>X.d0.elim fun cc z=>hf▸Ygp C D (supF H) (z.at H) (X.w K) (Zf1 rfl C y.2 y.1 (Yfh l) (Yfi l)) (fun p hp=>eq_of_beq (Yo.mp X.ok p.1 (Yqb hp).1)) hA ht R rv r
theorem kw_ok (H:Zg5 w j0 mg mb)(D:DV (GK w j0) Δ n):Zu5 (GK w j0) (n + 5) (KW Δ):=fun v Q A env st s val E hA ht R rv h=>
 have C:=gok H
 Zuk (E:=E) (A:=A) (Q:=Q) C (c:=150) (f:=67) (by kernel_rfl) (by kernel_rfl) (by kernel_rfl) (vals:=[val]) (kw:=kwC) R fun x dx h' z=>(Zkq (s:={ s with heap:=h' }) C D (Zg4.at rfl C (.mk (by kernel_rfl))) (fun X J=>Zf5 w.params X)
  (Zf1 rfl C (k:=2) (dv:=[.bool true,.bool false,.bool false,.none,.none,.none,.none]) (.mk (by intro S y0 y1;show _=_;kernel_rfl)) (fun J=>.cons (.bool _) (.cons (.bool _) (.cons (.bool _) (.cons .none (.cons .none (.cons .none (.cons .none .nil))))))) rfl (vs:=[.ref x,v]) rfl) (Zqb rfl rfl) (Zn1 hA _ _ _) ht z.R (.cons (.ref x) (VRs.one (rv.mono fun b o e J=>z.k b o e))) (h x dx z.hx z.hd z.ne)).c
theorem Ymr (H:Zg5 w j0 mg mb)(D:DV (GK w j0) Δ n)(KK:Zu5 (GK w j0) n K)(hA:AOK A (n + 5))(ht:0 < s.toks)(R:RS (GK w j0) env st s)(rv:VRs s.heap vs vals)(h:Fn Δ K f vs st.σ Q):Zgb (GK w j0) A env st s E (.ref f) vals [] Q:=
 have C:=gok H
 match h with
 | .of h=>Zwx H D KK (hA.mono (ZW _)) ht R rv h
 | .mkV e r=>e▸Zuk (E:=E) (A:=A) (Q:=Q) C (c:=241) (f:=182) (by kernel_rfl) (by kernel_rfl) (by kernel_rfl) R fun x dx h' w=>(Zwx (s:={ s with heap:=h' }) H D KK (Zn1 hA _ _ _) ht w.R (.cons (.ref x) (rv.mono fun b o e J=>w.k b o e)) (r x dx w.hx w.hd w.ne)).c
 | .mkA e l r=>e▸Ygr (E:=E) (A:=A) (Q:=Q) C (c:=325) (f:=262) (by kernel_rfl) (by kernel_rfl) (by kernel_rfl) (l.imp (fun e=>by subst e;exact rv.nE rfl) fun e=>e.elim fun v e=>by subst e;exact rv.oE fun x J=>⟨x,rfl⟩) R
   fun x dx h' w=>(Zwx (s:={ s with heap:=h' }) H D KK (Zn1 hA _ _ _) ht w.R (.cons (.ref x) (rv.mono fun b o e J=>w.k b o e)) (r x dx w.hx w.hd w.ne)).c
theorem not98 (C:GOK (GK w j0)){P:Prop}(hc:∃ c m,clsM c m=some 98):P:=hc.elim fun c h=>h.elim fun m h=>absurd ((C.cls _ _ _ h).fn.symm.trans (show isFn (hK w.params) (.ref 98)=false by kernel_rfl)) Yw
theorem Ykc (H:Zg5 w j0 mg mb)(D:DV (GK w j0) Δ n)(KK:Zu5 (GK w j0) n K)(hn:8<=n):DV (GK w j0) (Ymz Δ K) (n + 5):=
 have C:=gok H
 have L:=Ygi C D
 Ygh C ⟨fun f vs Q A env st s vals E hA ht R rv h=>h.elim (fun h=>have c:=Ymr H D KK hA ht R rv h;⟨c.k,Ux c.c⟩) fun h=>h.elim (L.fn f vs Q A env st s vals E (hA.mono (ZW _)) ht R rv)
   fun h=>h.2.rec fun e e1 hs hw q=>by have e0:=h.1;subst e e0;exact rv.oE fun x r=>r.rE (Yjt rfl C R e1 hs hw q),
  fun J=>⟨Zb hn (Zn _ _),Yf5 C (genF rfl C)⟩,
  fun f vs Q A env st s vals E hc hA ht R rv h=>h.elim (fun h=>(Ymr H D KK hA ht R rv h).c) fun h=>h.elim (L.code f vs Q A env st s vals E hc (hA.mono (ZW _)) ht R rv) fun h=>not98 C (h.1▸hc),D.scr⟩
theorem Ypn (H:Zg5 w j0 mg mb){S:Addr->List Int->Prop}(hS:∀ a xs,S a xs->∃ items:List Value,j0.heap.IsList a items.toArray/\∀ h,VRs h (xs.map .int) items)(k:Nat):DV (GK w j0) (DK S k).1 (8 + 5 * k)/\Zu5 (GK w j0) (8 + 5 * k) (DK S k).2:=by
 induction k with
 | zero=>exact ⟨⟨fun J J J J J J J J J J J J J h=>h.elim,fun J=>⟨Zm _,Yf5 (gok H) (genF rfl (gok H))⟩,fun J J J J J J J J J J J J J J h=>h.elim,hS⟩,fun J J J J J J J J J J J J h=>h.elim⟩
 | succ k ih=>exact ⟨Ykc H ih.1 ih.2 (Zn _ _),kw_ok H ih.1⟩
end
end
section
noncomputable abbrev TL:List Addr:=[123,287,294,371]noncomputable abbrev TP:List (Addr×Addr):=[(125,123),(375,371),(291,287),(298,294)]noncomputable abbrev sB (j0:Zd):Zd:={ j0 with heap:=hideAll j0.heap TL }
section
variable {w:World}{mg mb:Str->Option Value}
theorem Zyz (X:(hK w.params).In j0.heap):(hK w.params).In (sB j0).heap:=fun a o e=>Zvg TL (X a o e) fun hm=>by
 have key:TL.all (fun a=>((hK w.params).lookup a).isNone)=true:=by kernel_rfl
 have:=Yo.mp key a hm
 rw [e] at this;exact Yw this
theorem Yf1 {a:Addr}{o:Obj}(ht:∀ P∈TL,j0.heap.get? P=some (Zs0 #[]))(e:j0.heap.get? a=some o)(h:o.cls≠.none):(sB j0).heap.get? a=some o:=Zvg TL e fun hm=>h (by cases (ht a hm).symm.trans e;rfl)theorem Zp8 {a:Addr}{o:Obj}(ht:∀ P∈TL,j0.heap.get? P=some (Zs0 #[]))(e:j0.heap.get? a=some o)(h:∀ vs,o.data≠.fields vs):(sB j0).heap.get? a=some o:=Zvg TL e fun hm=>h #[] (by cases (ht a hm).symm.trans e;rfl)
theorem Zmq {a:Addr}{m:Str->Option Value}(ht:∀ P∈TL,j0.heap.get? P=some (Zs0 #[]))(x:j0.heap.Ns a m):(sB j0).heap.Ns a m:=
 x.imp fun o x=>x.imp fun es x=>x.imp fun ep x=>⟨Zp8 ht x.1 (fun vs h=>(nomatch x.2.1.symm.trans h)),x.2.1,x.2.2⟩
theorem baseH (X:(hK w.params).In j0.heap)(ht:∀ P∈TL,j0.heap.get? P=some (Zs0 #[]))(hs:(j0.heap.get? Uy).isSome=true)(g:j0.heap.Ns Uj mg)(b:j0.heap.Ns UJ mb)(nl:j0.heap.NoLimit)
  (bi:∀ x:Str,x≠"__name__"->mb x=Ykm x) (bm:∃ bm ob,mg "__builtins__" = some (.ref bm)/\bm≠UJ/\j0.heap.get? bm=some ob/\ob.cls= .type "module"/\ob.dict=some UJ/\ob.data= .plain):Zg5 w (sB j0) mg mb where
 kin:=Zyz X
 sys:=(Z2.mp hs).elim fun o e=>(congrArg Yp7 (Zvg TL e (by decide))).trans rfl
 g:=Zmq ht g
 b:=Zmq ht b
 nolimit:=let ⟨mc,h1,h2⟩:=nl;⟨mc,Zmq ht h1,h2⟩
 builtins:=bi
 bmod:=let ⟨bm,ob,h1,h2,h3,h4,h5,h6⟩:=bm;⟨mg,bm,ob,Zmq ht g,h1,h2,Zp8 ht h3 (fun vs h=>(nomatch h6.symm.trans h)),h4,h5,h6⟩theorem Zza (P:Yu):TP.all (fun p=>codeHdIn (hK P) p.1 p.2)=true:=by kernel_rfl
theorem Yik {Δ:Dl}{n:Nat}{A:Yg}{E:Value->Zd->Prop}{f:Addr}{fd:YF}{sc:Sc}{body:List Stmt}{F:FS}{x:Nat}(X:(hK w.params).In j0.heap)(ht:∀ P∈TL,j0.heap.get? P=some (Zs0 #[]))(C:GOK (GK w (sB j0)))(D:DV (GK w (sB j0)) Δ n)
  (FA:Yho (GK w (sB j0)) f fd sc body) (hr:SSL sc body F) {L:Addr} (hb:Binds (GK w (sB j0)) fd [.ref L] [(x,.ref L)]) (hcell:∀ p∈sc,p.2≠Zca) (hloc:sc.lookup x=some .local) {Q:V->Prop} (hA:AOK A (n + 4)) (hg:j0.gens= #[])
  (h:F Δ (Zcv fun v J=>Q v) ⟨fun J=>none,lvB sc [(x,.ref L)],fun J=>none⟩) :
  wpAny (model PySem.Challenge.rw_if0024_01.row.prog w) A (call (.ref f) [.ref L]) (fun x s'=>∃ v,VR s'.heap v x/\Q v/\OldK j0.heap s'.heap/\s'.os=j0.os/\Ir s'.gens) E j0:=by
 let o:=FA.obj.choose
 have hq0:=FA.obj.choose_spec
 have hkeep:∀ b o,(sB j0).heap.get? b=some o->j0.heap.get? b=some o:=fun b o e=>of_hideAll TL e
 have ho':=hkeep _ _ (hq0.1)
 obtain ⟨l,B⟩:=hb j0 [.ref L] hkeep (VRs.one (.ref L))
 have hnl:l.map (·.1)=[nm x]:=B.k
 refine Ux (codeAny_call_def hA.room ho' (hq0.2) (C.nolimit.keeps hkeep) (FA.code.keeps hkeep) FA.bodyIs B.b (fun y hy=>?_) (fun y hy=>?_) (fun h₀ hns hk=>?_) FA.co FA.gen FA.kind)
 ·replace hy:=(FA.names)▸hy
  obtain ⟨p,hp,rfl⟩:=Ys.mp hy
  exact hcell p hp
 ·have:y.1∈l.map (·.1):=Y4 hy
  rw [hnl,Xb] at this
  rw [this,FA.names,Zck];exact hloc
 ·have hE:EOK (callEnv fd j0.heap.objs.size f) sc:=⟨FA.kind,FA.globals,FA.builtins,FA.names,FA.co⟩
  have hfr:∀ a o,j0.heap.get? a=some o->a≠j0.heap.objs.size:=fun a o e=>Z3 (ZL e)
  have Rt:RS (GK w (sB j0)) (callEnv fd j0.heap.objs.size f) ⟨fun J=>none,lvB sc [(x,.ref L)],fun J=>none⟩ { j0 with heap:=h₀,toks:=j0.toks + l.length }:=by
   refine ⟨⟨_,⟨hns,fun b o e=>hk b o (hkeep b o e),ZX (hideAll_size _ _)⟩,fun i v hv=>?_⟩,fun a o e=>(nomatch e),fun a o e=>(nomatch e),fun p hp=>?_,Ir.of_eq hg,rfl⟩
   ·have hz0:=Zdn (Zb6 (i:=i) B.k B.r) (Zyr hv).2
    let y:=hz0.choose
    have hq0:=hz0.choose_spec
    have r:=hq0.2
    refine ⟨y,?_,r.mono fun b o e J=>hk b o e⟩
    cases l with
    | nil=>exact nomatch hnl
    | cons a l=>cases l with
     | nil=>exact (hq0.1)
     | cons b l=>exact nomatch (Xg hnl).2
   ·have hP:p.2∈TL:=(by decide:∀ p∈TP,p.2∈TL) p hp
    have hin:=Yo.mp (Zza w.params) p hp
    have hc:=codeHd_of_K (X.keeps hk) hin
    have hP':=hk _ _ (ht _ hP)
    refine ⟨⟨#[],hc.code hP' trivial,(hc.tab hP').1,hP',fun pos cv e=>nn rfl e⟩,rfl,hfr _ _ (ht _ hP),hideAll_none TL hP,?_⟩
    cases e:(hK w.params).lookup p.1 with
    | none=>unfold codeHdIn at hin;rw [e] at hin;exact Yw hin
    | some oc=>exact (congrArg Yp7 (Zyz X _ _ e)).trans rfl
  refine Zy (hr (⟨C,D,hE,hA.deeper _⟩) ⟨fun J=>none,lvB sc [(x,.ref L)],fun J=>none⟩ _ (Zcv fun v J=>Q v) (fun J J=>False) (Ym (by rw [show l.length=1 from ((Zh (f:=Um) (as:=l)).symm.trans (congrArg Z5 hnl))];exact Nat.one_pos) (Y6 _ _)) Rt h) (fun fl J1 p=>?_) (fun J J e=>e.elim)
  obtain ⟨fl',G4,V2,H3,fr,q⟩:=p
  have old:OldK j0.heap J1.heap:=by
   refine ⟨fun b o e=>?_,fun b o e=>Z2.mp (H3.live b o (hk b o e))⟩
   by_cases hb:b∈TL
   ·obtain ⟨p,hp,rfl⟩:=(by decide:∀ b∈TL,∃ p∈TP,p.2=b) b hb
    cases (ht p.2 hb).symm.trans e
    obtain ⟨ps,hI,t⟩:=(V2.tab p hp).t
    have hz0:=((codeHd_of_K X (Yo.mp (Zza w.params) p hp)).tab (ht p.2 hb)).1
    let oc:=hz0.choose
    have hq0:=hz0.choose_spec
    let vs:=hq0.choose
    have hq1:=hq0.choose_spec
    refine .inr (.inl ⟨⟨p.1,oc,vs,(hq1.1),(hq1.2.1),(hq1.2.2.1),(hq1.2.2.2)⟩,rfl,#[],ps,rfl,?_⟩)
    rw [t.at_];simp
   ·exact .inl (H3.keep b o (hk b o e) rfl (hfr b o e) fun c hc=>hb ((by decide:∀ p∈TP,p.2∈TL) (c,b) hc))
  cases fl' with
  | next=>exact fr.nE ⟨.none,.none,q,old,V2.os,V2.bare⟩
  | brk=>exact Zh3 q
  | cont=>exact Zh3 q
  | ret v=>exact fr.rE fun J r=>⟨_,r,q,old,V2.os,V2.bare⟩
theorem Yc5 {Δ:Dl}{n:Nat}{A:Yg}{E:Value->Zd->Prop}(X:(hK w.params).In j0.heap)(ht:∀ P∈TL,j0.heap.get? P=some (Zs0 #[]))(H:Zg5 w (sB j0) mg mb)(D:DV (GK w (sB j0)) Δ n){L:Addr}{Q:V->Prop}(hA:AOK A (n + 4))(hg:j0.gens= #[])
  (h:Yhp Δ (Zcv fun v J=>Q v) ⟨fun J=>none,lvB Yhc [(198,.ref L)],fun J=>none⟩) :
  wpAny (model PySem.Challenge.rw_if0024_01.row.prog w) A (call (.ref 412) [.ref L]) (fun x s'=>∃ v,VR s'.heap v x/\Q v/\OldK j0.heap s'.heap/\s'.os=j0.os/\Ir s'.gens) E j0:=
 Yik X ht (gok H) D (Zg4.at rfl (gok H) (.mk (by kernel_rfl))) (W_law w.params) (Zf1 rfl (gok H) (f:=412) (ns:=[198]) (k:=1) (kw:=[]) (dv:=[]) (ds:=[]) (.mk (by intro S y0;show _=_;kernel_rfl)) (fun J=>.nil) rfl (vs:=[.ref L]) rfl) (by decide) rfl hA hg h
end
end
section
noncomputable abbrev Ls:=List (Addr×O)def On0 (σ:Hp)(L:Ls):Prop:=L.rec True fun p L ih=>(σ p.1=some p.2/\∀ q∈L,q.1≠p.1)/\ih
section
variable {σ:Hp}{L:Ls}{a n:Addr}{o o':O}{p:Addr×O}
theorem On0.mem (h:On0 σ L):∀ q∈L,σ q.1=some q.2:=by
 induction L with
 | nil=>exact Yp _
 | cons p L ih=>exact Zi.mpr ⟨h.1.1,ih h.2⟩theorem On0.at (h:On0 σ L)(i:Nat)(e:L[i]? = some (a,o)):σ a=some o:=h.mem _ (Z9 e)
theorem On0.of (h:On0 σ L){σ':Hp}(k:∀ q∈L,σ' q.1=some q.2):On0 σ' L:=by
 induction L with
 | nil=>trivial
 | cons p L ih=>exact ⟨⟨k p (.head _),h.1.2⟩,ih h.2 fun q hq=>k q (.tail _ hq)⟩
theorem On0.new (h:On0 σ L)(hn:σ n=none):On0 (upd σ n o) ((n,o)::L):=
 have hne:∀ q∈L,q.1≠n:=fun q hq e=>nn hn (e▸h.mem q hq)
 ⟨⟨Zcc,hne⟩,h.of fun q hq=>Zay (hne q hq) (h.mem q hq)⟩
theorem On0.fr (h:On0 σ L)(i:Nat)(e:L[i]? = some p):On0 σ (p::L.eraseIdx i):=by
 induction L generalizing i with
 | nil=>exact nomatch e
 | cons q L ih=>
  cases i with
  | zero=>cases e;exact h
  | succ i=>
   have t:=ih h.2 i e
   exact ⟨⟨t.1.1,Zi.mpr ⟨(h.1.2 p (Z9 e)).symm,t.1.2⟩⟩,⟨h.1.1,fun r hr=>h.1.2 r (List.mem_of_mem_eraseIdx hr)⟩,t.2⟩theorem On0.tl (h:On0 σ (p::L)):On0 σ L:=h.2
theorem On0.drop (h:On0 σ L)(i:Nat):On0 σ (L.drop i):=by
 induction i generalizing L with
 | zero=>exact h
 | succ i ih=>cases L with
  | nil=>exact h
  | cons p L=>exact ih h.2
theorem On0.up (h:On0 σ ((a,o)::L)):On0 (upd σ a o') ((a,o')::L):=⟨⟨Zcc,h.1.2⟩,On0.of (σ:=σ) h.2 fun q hq=>Zay (h.1.2 q hq) (On0.mem (σ:=σ) h.2 q hq)⟩
theorem On0.set (h:On0 σ L)(i:Nat)(e:L[i]? = some (a,o)):On0 (upd σ a o') (L.set i (a,o')):=by
 induction L generalizing i with
 | nil=>exact nomatch e
 | cons q L ih=>
  cases i with
  | zero=>cases e;exact h.up
  | succ i=>
   have hq:=h.1.2 _ (Z9 e)
   exact ⟨⟨Zay hq.symm h.1.1,fun r hr=>(List.mem_or_eq_of_mem_set hr).elim (h.1.2 r) fun z=>z▸hq⟩,ih h.2 i e⟩
theorem On0.app {A B:Ls}(h:On0 σ (A++B)):On0 σ A/\On0 σ B/\∀ p∈A,∀ q∈B,q.1≠p.1:=by
 induction A with
 | nil=>exact ⟨trivial,h,Yp _⟩
 | cons p A ih=>
  have t:=ih h.2
  have s:=Uq.mp h.1.2
  exact ⟨⟨⟨h.1.1,s.1⟩,t.1⟩,t.2.1,Zi.mpr ⟨s.2,t.2.2⟩⟩
theorem On0.mk {A B:Ls}(h1:On0 σ A)(h2:On0 σ B)(h3:∀ p∈A,∀ q∈B,q.1≠p.1):On0 σ (A++B):=by
 induction A with
 | nil=>exact h2
 | cons p A ih=>exact ⟨⟨h1.1.1,Uq.mpr ⟨h1.1.2,h3 p (.head _)⟩⟩,ih h1.2 fun q hq=>h3 q (.tail _ hq)⟩
theorem On0.sw {A B R:Ls}(h:On0 σ (A++(B++R))):On0 σ (B++(A++R)):=
 have h1:=h.app
 have h2:=h1.2.1.app
 h2.1.mk (h1.1.mk h2.2.1 fun p hp q hq=>h1.2.2 p hp q (Xe _ hq)) fun p hp q hq=>(Ziq.mp hq).elim (fun hq=>(h1.2.2 q hq p (Ycn _ hp)).symm) (h2.2.2 p hp q)def onR (σ:Hp)(L:Ls)(i j:Nat):Prop:=(L[i]?).elim True fun p=>(L[j]?).elim True fun q=>cond (Nat.beq i j) (σ p.1=some p.2) (q.1≠p.1)def On (σ:Hp)(L:Ls):Prop:=∀ i j:Nat,onR σ L i j
theorem On0.ne (h:On0 σ L)(i j:Nat){p q:Addr×O}(e1:L[i]? = some p)(e2:L[j]? = some q)(hij:Nat.beq i j=false):q.1≠p.1:=by
 induction L generalizing i j with
 | nil=>exact nomatch e1
 | cons r L ih=>
  cases i with
  | zero=>
   cases e1
   cases j with
   | zero=>exact Yw hij
   | succ j=>exact h.1.2 q (Z9 e2)
  | succ i=>
   cases j with
   | zero=>cases e2;exact (h.1.2 p (Z9 e1)).symm
   | succ j=>exact ih h.2 i j e1 e2 hij
theorem On.of0 (h:On0 σ L):On σ L:=fun i j=>by
 unfold onR
 cases e1:L[i]? with
 | none=>trivial
 | some p=>
  cases e2:L[j]? with
  | none=>trivial
  | some q=>
   cases e3:Nat.beq i j with
   | true=>exact h.mem p (Z9 e1)
   | false=>exact h.ne i j e1 e2 e3
theorem On.to0 (h:On σ L):On0 σ L:=by
 induction L with
 | nil=>trivial
 | cons p L ih=>exact ⟨⟨h 0 0,fun q hq=>(List.getElem?_of_mem hq).elim fun j e=>by have:=h 0 (j + 1);unfold onR at this;rw [show (p::L)[j + 1]? = some q from e] at this;exact this⟩,ih fun i j=>h (i + 1) (j + 1)⟩theorem On.at (h:On σ L)(i:Nat)(e:L[i]? = some (a,o)):σ a=some o:=h.to0.at i e
theorem On.nil:On σ []:=.of0 trivial
theorem On.one (e:σ a=some o):On σ [(a,o)]:=.of0 ⟨⟨e,Yp _⟩,trivial⟩theorem On.new (h:On σ L)(hn:σ n=none):On (upd σ n o) ((n,o)::L):=.of0 (h.to0.new hn)theorem On.fr (h:On σ L)(i:Nat)(e:L[i]? = some p):On σ (p::L.eraseIdx i):=.of0 (h.to0.fr i e)theorem On.tl (h:On σ (p::L)):On σ L:=.of0 h.to0.tl
theorem On.drop (h:On σ L)(i:Nat):On σ (L.drop i):=.of0 (h.to0.drop i)theorem On.up (h:On σ ((a,o)::L)):On (upd σ a o') ((a,o')::L):=.of0 h.to0.up
theorem On.set (h:On σ L)(i:Nat)(e:L[i]? = some (a,o)):On (upd σ a o') (L.set i (a,o')):=.of0 (h.to0.set i e)theorem On.app {A B:Ls}(h:On σ (A++B)):On σ A/\On σ B/\∀ p∈A,∀ q∈B,q.1≠p.1:=have z:=h.to0.app;⟨.of0 z.1,.of0 z.2.1,z.2.2⟩theorem On.sw {A B R:Ls}(h:On σ (A++(B++R))):On σ (B++(A++R)):=.of0 h.to0.sw
theorem On.mem (h:On σ L):∀ q∈L,σ q.1=some q.2:=h.to0.mem
theorem Zdo {K:Hp->Prop}(h:On σ L)(hn:σ n=none)(q:∀ σ',On σ' ((n,o)::L)->K σ'):K (upd σ n o):=q _ (h.new hn)theorem Zox {K:Hp->Prop}(h:On σ L)(i:Nat)(e:L[i]? = some (a,o))(q:∀ σ',On σ' (L.set i (a,o'))->K σ'):K (upd σ a o'):=q _ (h.set i e)
end
section
variable {S:Addr->List Int->Prop}{k:Nat}{σ:Hp}{f:Addr}{vs:List V}{d:Zxq}
noncomputable abbrev Dk (S:Addr->List Int->Prop)(k:Nat):Dl:=(DK S k).1
theorem Zc2 (i:Nat)(e:tbl[i]? = some d)(hf:d.f=f)(l:vs.length + d.ds.length=d.ns.length)(r:run (d.F (DK S k).2) d.sc (d.ns.zip (vs++d.ds)) (Dk S k) σ Q):Dk S (k + 1) f vs σ Q:=.inl (.inl (.of (.fn i e hf l r)))theorem Yfv (i:Nat)(e:Ynq[i]? = some d)(hf:d.f=f)(l:vs.length + d.ds.length=d.ns.length)(r:Yn4 (d.F (DK S k).2) (d.ns.zip (vs++d.ds)) (Dk S k) σ Q):Dk S (k + 1) f vs σ Q:=.inl (.inl (.of (.sup i e hf l r)))
end
noncomputable abbrev fs0:List (Nat×V):=[(137,.int 0)]noncomputable abbrev pil (a d:Addr)(xs:List V):Ls:=[(a,.acc 325 d xs),(d,.at fs0)]
section
variable {S:Addr->List Int->Prop}{k:Nat}{σ:Hp}{a d:Addr}{xs:List V}{R:Ls}
theorem Zkr (h:On σ (pil a d xs++R))(hl:xs.length<=100000)(q:Q (.int xs.length) σ):Dk S (k + 1) 322 [.ref a] σ Q:=
 Yfv 3 rfl rfl rfl ⟨a,d,xs,fs0,rfl,h 0 0,h 1 1,hl,.len q⟩
theorem Yf9 {Δ:Dl}{K:KwT}{f t:V}(h:On σ (pil a d xs++R))(hl:xs.length<=100000)(q:∀ σ',On σ' (pil a d (xs++[.tup [f,t]])++R)->Q .none σ'):Fn Δ K 269 [.ref a,f,t] σ Q:=
 .of (.fn 13 rfl rfl rfl ⟨rfl,.mk (h 0 0) (h 1 1) rfl ⟨rfl,rfl,nofun,Za rfl,xs,fs0,h 0 0,h 1 1,hl,q _ h.up⟩⟩)theorem Zw3 {f t:V}(h:On σ (pil a d xs++R))(hl:xs.length<=100000)(q:∀ σ',On σ' (pil a d (xs++[.tup [f,t]])++R)->Q .none σ'):Dk S (k + 1) 269 [.ref a,f,t] σ Q:=.inl (.inl (Yf9 h hl q))theorem X6 {o:O}(e:σ a=some o):IK σ a=Yfw o:=congrArg (·.bind Yfw) e
theorem X7 {o:O}(e:σ a=some o):fieldsOf σ a=Yj3 o:=congrArg (·.bind Yj3) e
theorem Zbs {m f:Nat}(h:On σ (pil a d xs++R))(hn:fs0.lookup m=none)(hc:clsM 325 m=some f):mK σ (.ref a) m (.fn f (.ref a)):=.fn (X6 (h 0 0)) (X7 (h 1 1)) hn hc
theorem Ygu {v:V}(h:On σ (pil a d (xs++[v])++R))(hl:(xs++[v]).length<=100000)(q:∀ σ',On σ' (pil a d xs++R)->Q v σ'):Dk S (k + 2) 285 [.ref a] σ Q:=
 Yfv 2 rfl rfl rfl ⟨rfl,.mk _ (Zbs h rfl rfl) (.ref (Zkr h hl (.mk false (.inl (by show some (decide _)=_;rw [decide_eq_false (by rw [Zf];exact Yh8.mpr (Zec _))])) ⟨a,d,_,fs0,rfl,h 0 0,h 1 1,hl,.pop XK (Zb1▸q _ h.up)⟩)))⟩
theorem Ypx (h:On σ (pil a d []++R))(q:Q (.tup [.str [],.str []]) σ):Dk S (k + 2) 285 [.ref a] σ Q:=
 Yfv 2 rfl rfl rfl ⟨rfl,.mk _ (Zbs h rfl rfl) (.ref (Zkr h (Zr _) (.mk true (.inl rfl) ⟨nofun,Za rfl,q⟩)))⟩theorem apn {p:Addr×O}{ys:List V}(h:On σ (p::(pil a d (ys++[])++R))):On σ (p::(pil a d ys++R)):=(ZK ys).subst (motive:=fun ys=>On σ (p::(pil a d ys++R))) h
theorem Ybx {i:Nat}(h:On σ (pil a d xs++R))(hl:xs.length<=1000)(q:∀ σ' n,On σ' ((n,.list (xs.drop i))::(pil a d (xs.take i)++R))->Q (.ref n) σ'):Dk S (k + 1) 277 [.ref a,.int i] σ Q:=
 Zc2 14 rfl rfl rfl ⟨rfl,rfl,.mk (h 0 0) (h 1 1) (Zb hl (Za rfl)) fun n hn=>⟨Zr _,fun m hm=>
  have h2:=(h.new hn).new hm
  ⟨rfl,rfl,.mk (.int i) (h2 2 2) (h2 3 3) (h2 0 0) hl (Zr _) ⟨rfl,q _ n (apn (h2.set 2 rfl).tl)⟩⟩⟩⟩
theorem setI {P:Fl->St->Prop}{lv:Nat->Option V}{cv:Nat->Option Addr}(h:On σ (pil a d xs++R))(q:∀ σ',On σ' (pil a d xs++R)->P .next ⟨σ',lv,cv⟩):Zxh lv cv P 137 (.int 0) (.ref a) σ:=
 .mk (X6 (h 0 0)) (X7 (h 1 1)) rfl (Za rfl) (q _ (h.set 1 rfl))
theorem Ykj {b:Addr}{ys:List V}(h:On σ ((b,.list ys)::(pil a d xs++R)))(hl:xs.length<=1000)(hy:ys.length<=1000)(q:∀ σ',On σ' (pil a d ys++R)->Q .none σ'):Dk S (k + 1) 307 [.ref a,.ref b] σ Q:=
 Zc2 18 rfl rfl rfl ⟨rfl,false,.inl rfl,rfl,rfl,.mk .none (h 1 1) (h 2 2) (h 0 0) hl hy ⟨rfl,setI (h.set 1 rfl).tl q⟩⟩
theorem Ygt (h:On σ (pil a d xs++R))(hl:xs.length<=1000)(q:∀ σ',On σ' (pil a d []++R)->Q .none σ'):Dk S (k + 1) 307 [.ref a] σ Q:=
 Zc2 17 rfl rfl rfl ⟨rfl,true,.inl rfl,Zr _,fun m hm=>have h2:=h.new hm;⟨rfl,rfl,.mk .none (h2 1 1) (h2 2 2) (h2 0 0) hl (Zr _) ⟨rfl,setI (h2.set 1 rfl).tl q⟩⟩⟩
end
end
section
noncomputable def tx (ps:List (Tx×Tx)):Tx:=ps.flatMap fun p=>p.1++p.2
abbrev Bnd (ps:List (Tx×Tx)):Prop:=(tx ps).length + ps.length<=50000
theorem Ydd (ps:List (Tx×Tx)):(ps.map Zot).sum=((tx ps).length:Int):=(Ztt ps).symm.trans (congrArg Zbg Yhk.symm)
theorem Zny {ps:List (Tx×Tx)}(b:Bnd ps)(p)(hp:p∈ps):p.1.length + p.2.length<=90000:=
 Zb (Zb (Zf▸(List.sublist_flatten_of_mem (Y4 (f:=fun p:Tx×Tx=>p.1++p.2) hp)).length_le) (Zb (Zn _ ps.length) b)) (Za rfl)
structure FA where
 a:Addr
 d:Addr
 l:Addr
 c:Addr
 e:Addr
noncomputable abbrev fmtFs (F:FA)(w:Int):List (Nat×V):=[(108,.int w),(109,.str [32]),(110,.int 1),(111,.str [62]),(112,.ref F.l),(113,.ref F.c)]noncomputable abbrev fmtV (F:FA)(w:Int)(rs xs:List V):Ls:=[(F.c,.acc 325 F.e xs),(F.e,.at fs0),(F.a,.inst 241 F.d),(F.d,.at (fmtFs F w)),(F.l,.list rs)]
section
variable {S:Addr->List Int->Prop}{k:Nat}{σ:Hp}{a d:Addr}{R:Ls}{xs:List V}{ps:List (Tx×Tx)}
theorem at_ {c m:Nat}{fs:List (Nat×V)}{v:V}(e1:σ a=some (.inst c d))(e2:σ d=some (.at fs))(e3:fs.lookup m=some v)(e4:ownM c m=true)(q:Q v σ):AtK m Q (.ref a) σ:=.val (X6 e1) (X7 e2) e3 e4 q
theorem Zfc {c m f:Nat}{fs:List (Nat×V)}(e1:σ a=some (.inst c d))(e2:σ d=some (.at fs))(e3:fs.lookup m=none)(e4:clsM c m=some f):mK σ (.ref a) m (.fn f (.ref a)):=.fn (X6 e1) (X7 e2) e3 e4
theorem mkS {t:Tx}{m:Nat}(b:BM)(e:b.nm=m)(h:b.typ= "str"):mK σ (.str t) m (.bi b (.str t)):=e▸.str h
theorem mkL {m:Nat}(b:BM)(e:b.nm=m)(h:b.typ= "list")(e1:σ a=some (.list xs)):mK σ (.ref a) m (.bi b (.ref a)):=e▸.list e1 h
theorem Ygy (h:On σ (pil a d xs++R))(e:xs=accL ps)(b:Bnd ps)(q:Q (.int (tx ps).length) σ):Dk S (k + 1) 292 [.ref a] σ Q:=by
 subst e;exact Zc2 15 rfl rfl rfl ⟨a,d,ps,fs0,rfl,h 0 0,h 1 1,rfl,Zny b,Ydd ps▸q⟩
theorem Yp0 (h:On σ (pil a d xs++R))(e:xs=accL ps)(b:Bnd ps)(q:Q (.str (tx ps)) σ):Dk S (k + 1) 299 [.ref a] σ Q:=by
 subst e;exact Zc2 16 rfl rfl rfl ⟨a,d,ps,fs0,rfl,h 0 0,h 1 1,Zny b,I4 (Int.le_of_eq (congrArg (· + (ps.length:Int)) (Ydd ps))) (I4 (YZ.mpr b) (by decide:((50000:Nat):Int)<=100000)),q⟩theorem Zwr (h:On σ (pil a d xs++R)):Zlz σ a:=⟨d,xs,fs0,h 0 0,h 1 1⟩theorem le6 {n m:Nat}(h:n + m<=50000):n<=1000000:=Zb (Zb (Zn n m) h) (Za rfl)theorem Zui (h:On σ (pil a d xs++R))(e:xs=accL ps)(b:Bnd ps)(q:Q (.int (tx ps).length) σ):Zd1 (Dk S (k + 1)) Q σ (.bi .len) [.ref a]:=.len (Zwr h) (Ygy h e b (.mk _ (le6 b) q))theorem Zko (h:On σ (pil a d xs++R))(e:xs=accL ps)(b:Bnd ps)(q:Q (.str (tx ps)) σ):Zd1 (Dk S (k + 1)) Q σ (.bi .str) [.ref a]:=.str (Zwr h) (Yp0 h e b (.mk q))
theorem Ygv (h:On σ (pil a d xs++R))(e:xs=accL ps)(b:Bnd ps)(hw:(tx ps).all Zap=false)(q:Q (.bool false) σ):Dk S (k + 2) 314 [.ref a] σ Q:=
 have hne:(tx ps).length≠0:=fun z=>by rw [Xj.mp z] at hw;cases hw
 Zc2 19 rfl rfl rfl ⟨rfl,.val (X6 (h 0 0)) (X7 (h 1 1)) rfl rfl (.mk true (.inl rfl) ⟨true,rfl,⟨rfl,.mk (Zwr h) (Ygy h e b (.mk _ (le6 b) ⟨false,by rw [decide_eq_true hne];rfl,⟨rfl,rfl,Zko h e b (.mk _ (mkS .sIsspace rfl rfl) (.space (by rw [hw,Zdh];exact q)))⟩⟩))⟩⟩)⟩
end
end
section
section
variable {S:Addr->List Int->Prop}{k:Nat}{σ:Hp}{F:FA}{w:Int}{rs:List V}{R:Ls}{pre:List (Tx×Tx)}{t:Tx}
noncomputable abbrev pc (t:Tx):V:=.tup [.str [],.str t]theorem Zur (pre:List (Tx×Tx))(t:Tx):accL pre++[pc t]=accL (pre++[([],t)]):=(ZF (l₁:=pre) (l₂:=[([],t)])).symm
theorem le5 {n:Nat}(h:n<=1000):n<=100000:=Zb h (Za rfl)
theorem Yby (h:On σ (fmtV F w rs (accL pre++[pc t])++R))(b:Bnd (pre++[([],t)]))(hp:pre.length < 900)(hw:(tx (pre++[([],t)])).all Zap=false)(hr:rs.length<=1000)(q:∀ σ',On σ' (fmtV F w (rs++[.str (tx (pre++[([],t)]))]) []++R)->Q .none σ'):Dk S (k + 3) 203 [.ref F.a] σ Q:=
 have e:=Zur pre t
 have hl:(accL pre++[pc t]).length<=1000:=by rw [Zf,Zh];exact Zb (Zu (Y8 hp)) (Za rfl)
 have hl':(accL pre).length<=1000:=Zb (Zf▸Zn _ _) hl
 Zc2 11 rfl rfl rfl ⟨rfl,at_ (h 2 2) (h 3 3) rfl rfl (.mk _ (Zbs h rfl rfl) (.ref (Ygu h (le5 hl) fun σ1 h1=>
  ⟨rfl,nofun,Za rfl,.mk true (.inr (.neT rfl rfl rfl)) ⟨rfl,at_ (h1 2 2) (h1 3 3) rfl rfl (.mk (X6 (h1 0 0)) (X7 (h1 1 1)) rfl rfl (by kernel_rfl) fun kk hk=>
   Zdo (o:=.meth 269 (.ref F.c)) h1 hk fun σh2 h2=>
   ⟨rfl,.mk (Za rfl) (.inr (.mk (h2 0 0) ⟨325,120,rfl⟩ (.inl (Yf9 (On.sw (A:=[_]) (B:=pil F.c F.e (accL pre)) h2) (le5 hl') fun σ3 h3=>
    have h4:On σ3 (fmtV F w rs (accL pre++[pc t])++R):=(On.sw (A:=pil F.c F.e _) (B:=[_]) h3).tl
    ⟨rfl,rfl,at_ (h4 2 2) (h4 3 3) rfl rfl (Zui h4 e b (.mk true (.inl (congrArg some (decide_eq_true (Zdq.mpr (Yk7 fun z=>by rw [Xj.mp z] at hw;cases hw))))) ⟨rfl,at_ (h4 2 2) (h4 3 3) rfl rfl (.mk _ (Zbs h4 rfl rfl) (.ref (Ygv h4 e b hw (.mk false rfl
     ⟨rfl,at_ (h4 2 2) (h4 3 3) rfl rfl (.mk _ (mkL .lAppend rfl rfl (h4 4 4)) ⟨rfl,rfl,at_ (h4 2 2) (h4 3 3) rfl rfl (Zko h4 e b (.append (h4 4 4) (le5 hr)
      (have h5:On _ (fmtV F w (rs++[.str _]) _++R):=h4.set 4 rfl
      ⟨rfl,at_ (h5 2 2) (h5 3 3) rfl rfl (.mk _ (Zbs h5 rfl rfl) (.ref (Ygt h5 hl q)))⟩)))⟩)⟩))))⟩))⟩))))⟩)⟩⟩)))⟩
end
end
section
noncomputable def Ygk (m:Nat):List V:=m.rec [] fun j ih=>.int ((j:Int) + 1)::ih
theorem Yak (m:Nat):(Xa m 0 (-1)).toNat=m:=by
 cases m with
 | zero=>rfl
 | succ m=>
  have e:((m + 1:Nat):Int) - 0 - 1=m:=by rw [Int.sub_zero];exact XQ m 1
  refine (congrArg Zk6 ((if_neg (by decide)).trans (if_pos (Zse.mpr (Z8 m))))).trans ?_
  rw [e];exact congrArg (fun z:Int=>(z + 1).toNat) (Ycg m)
theorem Ztm (m:Nat):rangeL m 0 (-1)=Ygk m:=by
 unfold rangeL
 rw [Yak]
 induction m with
 | zero=>rfl
 | succ m ih=>
  rw [Zzu,Uk,U7]
  refine congr (congrArg (fun (i:Int)=>XH (V.int i)) (Zn9 _)) ((Zcm fun k _=>congrArg V.int ?_).trans ih)
  omega
theorem Zpu (n:Nat):rangeL 0 n 1=(Zpc 0 n).map fun (k:Nat)=>V.int k:=by
 have e:(Xa 0 n 1).toNat=n:=by
  cases n with
  | zero=>rfl
  | succ m=>
   refine (congrArg Zk6 ((if_pos (by decide)).trans (if_pos (Zse.mpr (Z8 m))))).trans ?_
   rw [Ycg,Int.sub_zero,Ylf];rfl
 unfold rangeL
 rw [e,List.range_eq_range']
 exact Zcm fun k _=>congrArg V.int (by rw [Int.one_mul,Yce])noncomputable def Kf (p:Tx):Bool:=p.getLast? == some 62
noncomputable def splitI (ps:List (Tx×Tx))(m:Nat):Option Nat:=m.rec none fun i ih=>bif ps[i]?.any (fun p=>Kf p.2) then some (i + 1) else ih
noncomputable def fmtPush (w:Int)(ls:List Tx)(ps:List (Tx×Tx))(t:Tx):List Tx×List (Tx×Tx):=
 bif decide (w < ((tx (ps++[([],t)])).length:Int)) then (splitI (ps++[([],t)]) ps.length).elim (ls,ps++[([],t)]) fun i=>(ls++[tx ((ps++[([],t)]).take i)],(ps++[([],t)]).drop i) else (ls,ps++[([],t)])
section
variable {S:Addr->List Int->Prop}{k:Nat}{σ:Hp}{F:FA}{w:Int}{rs:List V}{R:Ls}{ps:List (Tx×Tx)}{t:Tx}
theorem Zc7 {α:Type}(l:List α)(c:α):Zfa (l++[c]) (-1)=some c:=by
 have e:((l++[c]).length:Int)=1 + l.length:=by rw [Zf,Xu];rfl
 refine (if_neg (by decide)).trans ((if_pos ?_).trans ?_)
 ·rw [e];exact Zga (Int.le_add_of_nonneg_right (Z4 _))
 ·rw [e,Int.neg_add_cancel_left];exact List.getElem?_concat_length
theorem Yjy {a d:Addr}{xs:List V}{i:Int}{v:V}(m:Nat)(hi:i=m)(h:On σ (pil a d xs++R))(hk:m<=100000)(e:xs[m]? = some v)(q:Q v σ):Ylh Q σ (.ref a) (.int i):=by
 subst hi;exact .mk (h 0 0) (h 1 1) (Z4 m) (YZ.mpr hk) e q
theorem Yc4 {x:Tx}(h:x.length<=100000):Zi6 (.str x) σ=some (!x.isEmpty):=if_pos h
abbrev Ybt:FS:=Zo (Yx (bV (xMc (xLc 131) 5 (ZD))) (Zo (YM 129 (YK (Zsn (xAt (xLc 21) 113) (xLc 132)) (xV (.int 0)))) (Zo (Yx (Zc8 (bV (xLc 129)) (YC .Eq (YK (xLc 129) (xV (.int 0))) (xLc 131))) (Zo (Yap) (Zx)) (Zx)) (Zx))) (Zx)) (Zo (YM 135 (YK (Zsn (xAt (xLc 21) 113) (Xv .Sub (xLc 132) (xV (.int 1)))) (xV (.int 1)))) (Zo (Yx (Zc8 (bV (xLc 135)) (YC .Eq (YK (xLc 135) (Zdj (xV (.int 1)))) (xLc 131))) (Zo (Yap) (Zx)) (Zx)) (Zx)))
theorem Zw1 {Δ:Dl}{cv:Nat->Option Addr}{Do:PP}{P:Fl->St->Prop}(h:On σ (fmtV F w rs (accL ps)++R))(hb:∀ p∈ps,p.2.length<=100000)(hn:ps.length<=1000)(m:Nat)(hm:m<=ps.length)(lv:Nat->Option V)(hs:lv 21=some (.ref F.a))(hc:lv 131=some (.str [62]))
  (k1:∀ i,splitI ps m=some i->∀ lv:Nat->Option V,lv 21=some (.ref F.a)->lv 132=some (.int i)->P .next ⟨σ,lv,cv⟩) (k2:splitI ps m=none->∀ lv:Nat->Option V,lv 21=some (.ref F.a)->Do P ⟨σ,lv,cv⟩) :
  Zce (Ybt Δ) (.one 132) (fun J=>True) Do P (Ygk m) ⟨σ,lv,cv⟩:=by
 induction m generalizing lv with
 | zero=>exact ⟨trivial,k2 rfl lv hs⟩
 | succ m ih=>
  obtain ⟨p,hp⟩:∃ p,ps[m]? = some p:=⟨_,ZG hm⟩
  have hpl:=hb p (Z9 hp)
  have hcomp:splitI ps (m + 1)=bif Kf p.2 then some (m + 1) else splitI ps m:=by show (bif ps[m]?.any _ then _ else _)=_;rw [hp];rfl
  have ih:=fun (e:Kf p.2=false) (lv':Nat->Option V) (h1:lv' 21=some (.ref F.a)) (h2:lv' 131=some (.str [62]))=>ih (Y8 hm) lv' h1 h2 (fun i hi=>k1 i (hcomp.trans (e▸hi))) (fun hi=>k2 (hcomp.trans (e▸hi)))
  refine ⟨trivial,hc,.mk _ (mkS .sIsspace rfl rfl) (.space (.mk false (by kernel_rfl) ⟨hs,at_ (h 2 2) (h 3 3) rfl rfl ⟨rfl,.sub (Yjy m (XQ m 1) h (Zb (Y8 hm) (le5 hn)) (Yd.trans (congrArg (Zql _) hp)) (.tup (Za rfl) (by decide) rfl ⟨rfl,.mk _ (Yc4 hpl) ?_⟩))⟩⟩))⟩
  rcases K9 p.2 with e | ⟨l,c,e⟩
  ·rw [e]
   exact ih (by rw [e];rfl) _ hs hc
  ·have hg:Kf p.2=(some c == some 62):=by unfold Kf;rw [e,UW,XK]
   rw [e,UW] at hpl⊢
   rw [show (!(l++[c]).isEmpty)=true by cases l <;> rfl]
   refine ⟨rfl,.mk 1 (.str hpl (Zc7 l c) ⟨hc,.mk _ (.inl rfl) ?_⟩)⟩
   by_cases hx:c=62
   ·subst hx
    exact k1 (m + 1) (hcomp.trans (by rw [hg];rfl)) _ hs rfl
   ·rw [decide_eq_false fun z:[c]=[62]=>hx (Xg z).1]
    exact ih (by rw [hg];exact beq_false_of_ne fun z=>hx (Z1 z)) _ hs hc
end
end
section
section
variable {S:Addr->List Int->Prop}{k:Nat}{σ:Hp}{F:FA}{w:Int}{ls:List Tx}{R:Ls}{ps:List (Tx×Tx)}{t:Tx}
noncomputable abbrev strL (ts:List Tx):List V:=ts.map .str
theorem Iv {m:Nat}(h:m<=1000):small m:=⟨I4 (by decide) (Z4 m),I4 (YZ.mpr h) (by decide)⟩
theorem Yn6 {Δ:Dl}{Wb:PP}{tg:Tg}{Do:PP}{P:Fl->St->Prop}{lv:Nat->Option V}{cv:Nat->Option Addr}{i:Int}(m:Nat)(hi:i=m)(hm:m<=1000)(q:Zce Wb tg (fun J=>True) Do P (Ygk m) ⟨σ,lv,cv⟩) :
  Zd1 Δ (Yqk Wb tg Do P lv cv) σ (.bi .range) [.int i,.int 0,.int (-1)]:=by
 subst hi;exact .bi (.rng3 (Iv hm) (Iv (m:=0) (Zr _)) (.mk (.rng (Iv hm) (Iv (m:=0) (Zr _)) (.inr rfl)) (Ztm m▸q)))theorem K8 (ls:List Tx)(t:Tx):strL ls++[.str t]=strL (ls++[t]):=(ZF (l₁:=ls) (l₂:=[t])).symm
theorem Ykn {ps:List (Tx×Tx)}(b:Bnd ps)(p)(hp:p∈ps):p.2.length<=100000:=Zb (Y6 _ _) (Zb (Zny b p hp) (Za rfl))theorem Zk9 (a b:List (Tx×Tx)):tx (a++b)=tx a++tx b:=Ze2
theorem Yii (ps:List (Tx×Tx))(i:Nat):(tx (ps.take i)).length<=(tx ps).length:=
 Zb (Zn _ _) (ZX (Zf.symm.trans (congrArg Z5 ((Zk9 _ _).symm.trans (congrArg tx (Zi0 i ps))))))theorem Yg2 (b:Bnd ps)(i:Nat):Bnd (ps.take i):=Zb (Yc (Yii ps i) (Zmu i ps).length_le) b
theorem Ykl (h:On σ (fmtV F w (strL ls) (accL ps)++R))(b:Bnd (ps++[([],t)]))(hp:ps.length < 900)(hl:ls.length<=1000)(q:∀ σ',On σ' (fmtV F w (strL (fmtPush w ls ps t).1) (accL (fmtPush w ls ps t).2)++R)->Q .none σ'):Dk S (k + 3) 238 [.ref F.a,.str [],.str t] σ Q:=
 have e:=Zur ps t
 have hps:(ps++[([],t)]).length<=1000:=Zf▸Zb (Zu (Y8 hp)) (Za rfl)
 have hxs:(accL (ps++[([],t)])).length<=1000:=Zb (ZX (Zh _)) hps
 have hx0:(accL ps).length<=1000:=Zb (ZX (Zh _)) (Zb (Y8 hp) (Za rfl))
 have hi:((accL (ps++[([],t)])).length:Int) - 1=ps.length:=by rw [Zh,Zf];exact XQ (ps.length:Int) 1
 Zc2 12 rfl rfl rfl ⟨rfl,at_ (h 2 2) (h 3 3) rfl rfl (.mk _ (Zbs h rfl rfl) ⟨rfl,rfl,.ref (Zw3 h (le5 hx0) fun σ1 h0=>
  have h1:On σ1 (fmtV F w (strL ls) (accL (ps++[([],t)]))++R):=e.subst (motive:=fun x=>On σ1 (fmtV F w (strL ls) x++R)) h0
  ⟨rfl,rfl,at_ (h1 2 2) (h1 3 3) rfl rfl (Zui h1 rfl b ⟨rfl,at_ (h1 2 2) (h1 3 3) rfl rfl (.mk _ (.inl rfl) (by
   revert q
   unfold fmtPush
   cases decide (w < ((tx (ps++[([],t)])).length:Int)) with
   | false=>exact fun q=>q σ1 h1
   | true=>
    refine fun q=>⟨rfl,at_ (h1 2 2) (h1 3 3) rfl rfl (.mk (.str rfl) ⟨trivial,rfl,rfl,at_ (h1 2 2) (h1 3 3) rfl rfl (.mk _ (Zbs h1 rfl rfl) (.ref (Zkr h1 (le5 hxs) (.sub (.mk 1 (Yn6 ps.length hi (Zb (Y8 hp) (Za rfl)) ?_))))))⟩)⟩
    refine Zw1 h1 (Ykn b) hps ps.length (by rw [Zf];exact Zn _ _) _ rfl rfl (fun i hi lv hs hiv=>?_) fun hn lv hs=>?_
    ·replace q:=(hi)▸q
     have q:∀ σ',On σ' (fmtV F w (strL (ls++[tx ((ps++[([],t)]).take i)])) (accL ((ps++[([],t)]).drop i))++R)->Q .none σ':=q
     exact ⟨hs,at_ (h1 2 2) (h1 3 3) rfl rfl (.mk _ (Zbs h1 rfl rfl) ⟨hiv,.ref (Ybx h1 hxs fun σ2 n h2=>
      ⟨hs,at_ (h2 3 3) (h2 4 4) rfl rfl (.mk _ (mkL .lAppend rfl rfl (h2 5 5)) ⟨rfl,hs,at_ (h2 3 3) (h2 4 4) rfl rfl (Zko h2.tl Zvk.symm (Yg2 b i) (.append (h2 5 5) (le5 (Zb (ZX (Zh _)) hl))
       (have h3:On _ ((n,.list ((accL (ps++[([],t)])).drop i))::(fmtV F w (strL ls++[.str _]) ((accL (ps++[([],t)])).take i)++R)):=h2.set 5 rfl
       ⟨hs,at_ (h3 3 3) (h3 4 4) rfl rfl (.mk _ (Zbs h3.tl rfl rfl) ⟨rfl,.ref (Ykj h3 (Zb (Zmu _ _).length_le hxs) (Zb (Ylc _ _).length_le hxs) fun σ4 h4=>
        q σ4 (by rw [<-K8,accL,List.map_drop];exact h4))⟩)⟩)))⟩)⟩)⟩)⟩
    ·replace q:=(hn)▸q
     have q:∀ σ',On σ' (fmtV F w (strL ls) (accL (ps++[([],t)]))++R)->Q .none σ':=q
     exact ⟨trivial,hs,at_ (h1 2 2) (h1 3 3) rfl rfl (.mk _ (Zbs h1 rfl rfl) (.ref (Ygu (xs:=accL ps) (v:=pc t) (e▸h1) (le5 (e▸hxs)) fun σ2 h2=>.mk rfl
      ⟨hs,at_ (h2.at 2 rfl) (h2.at 3 rfl) rfl rfl (.val (X6 (h2.at 0 rfl)) (X7 (h2.at 1 rfl)) rfl rfl (.mk false (.inl rfl) ⟨hs,at_ (h2.at 2 rfl) (h2.at 3 rfl) rfl rfl (.mk _ (Zbs h2 rfl rfl) ⟨rfl,rfl,.ref (Zw3 h2 (le5 hx0) fun σ3 h3=>q σ3 (e▸h3))⟩)⟩))⟩)))⟩))⟩)⟩)⟩)⟩
end
end
section
section
variable {S:Addr->List Int->Prop}{k:Nat}{σ:Hp}{F:FA}{w:Int}{ls:List Tx}{R:Ls}{pre:List (Tx×Tx)}{t:Tx}
theorem Ymx {Δ:Dl}{x dx:Addr}{bs:List (Nat×V)}(h:On σ ((x,.acc 325 dx [])::(dx,.at [])::R))(e1:bs.reverse.lookup 21=some (.ref x))(e2:bs.reverse.lookup 140=some (.int 0))(q:∀ σ' a d,On σ' (pil a d []++R)->Q (.ref a) σ') :
  Yn4 Uv bs Δ σ (Znk x Q):=
 ⟨e2,e1,.mk (X6 (h 0 0)) (X7 (h 1 1)) rfl (Zr _) (have h1:=h.set 1 rfl;⟨x,dx,[],_,e1,h1 0 0,h1 1 1,Zr _,.init (.mk (q _ x dx (h1.set 0 rfl)))⟩)⟩
theorem mkA (vs:List V)(hv:vs=[]\/vs=[.int 0])(h:On σ R)(q:∀ σ' a d,On σ' (pil a d []++R)->Q (.ref a) σ'):Dk S (k + 1) 325 vs σ Q:=
 .inl (.inl (hv.elim (fun e=>by subst e;exact .mkA rfl (.inl rfl) fun x dx hx hd ne=>.sup 0 rfl rfl rfl (Ymx ((h.new hd).new (Zay ne hx)) rfl rfl q))
  fun e=>by subst e;exact .mkA rfl (.inr ⟨_,rfl⟩) fun x dx hx hd ne=>.sup 1 rfl rfl rfl (Ymx ((h.new hd).new (Zay ne hx)) rfl rfl q)))
theorem mkV (h:On σ R)(q:∀ σ' F,On σ' (fmtV F w [] []++R)->Q (.ref F.a) σ'):Dk S (k + 2) 241 [.int 0,.int w,.str [32],.str [62]] σ Q:=
 .inl (.inl (.mkV rfl fun x dx hx hd ne=>.fn 9 rfl rfl rfl
  (have h0:=(h.new (o:=.at []) hd).new (o:=.inst 241 dx) (Zay ne hx)
  ⟨rfl,rfl,.mk (X6 (h0 0 0)) (X7 (h0 1 1)) rfl (Zr _) (Zox h0 1 rfl fun σh1 h1=>
  ⟨rfl,rfl,.mk (X6 (h1 0 0)) (X7 (h1 1 1)) rfl (Za rfl) (Zox h1 1 rfl fun σh2 h2=>
  ⟨rfl,rfl,.bi (.lenS (Za rfl) ⟨rfl,.mk (X6 (h2 0 0)) (X7 (h2 1 1)) rfl (Za rfl) (Zox h2 1 rfl fun σh3 h3=>
  ⟨rfl,rfl,.mk (X6 (h3 0 0)) (X7 (h3 1 1)) rfl (Za rfl) (Zox h3 1 rfl fun σh4 h4=>
  ⟨Zr _,fun l hl=>Zdo (o:=.list []) h4 hl fun σh5 h5=>
  ⟨rfl,.mk (X6 (h5 1 1)) (X7 (h5 2 2)) rfl (Za rfl) (have h6:=On.sw (A:=[_]) (B:=[_,_]) (h5.set 2 rfl)
  ⟨rfl,rfl,.ref (mkA [.int 0] (.inr rfl) h6 fun σ7 c e h7=>⟨rfl,.mk (X6 (h7 2 2)) (X7 (h7 3 3)) rfl (Za rfl) (.mk (q _ ⟨x,dx,l,c,e⟩ (h7.set 3 rfl)))⟩)⟩)⟩⟩)⟩)⟩)⟩)⟩)⟩)))
theorem Ku (ts:List Tx):Zho (strL ts)=some ts:=by
 induction ts with
 | nil=>rfl
 | cons t r ih=>exact congrArg (Zql (t::·)) ih
theorem Ykh (h:On σ (fmtV F w (strL ls) (accL pre++[pc t])++R))(b:Bnd (pre++[([],t)]))(hp:pre.length < 900)(hw:(tx (pre++[([],t)])).all Zap=false)(hr:ls.length<=1000)(hs:((ls++[tx (pre++[([],t)])]).map Z5).sum + (ls++[tx (pre++[([],t)])]).length<=100000)
  (q:∀ σ',On σ' R->Q (.str (joinT [10] (ls++[tx (pre++[([],t)])]))) σ'):Dk S (k + 4) 189 [.ref F.a,.str [10]] σ Q:=
 Zc2 10 rfl rfl rfl ⟨rfl,.mk _ (Zfc (h 2 2) (h 3 3) rfl rfl) (.ref (Yby h b hp hw (Zb (ZX (Zh _)) hr) fun σ1 h1=>
  ⟨rfl,.mk _ (mkS .sJoin rfl rfl) ⟨rfl,at_ (h1 2 2) (h1 3 3) rfl rfl (.join (h1 4 4) (Za rfl) (K8 ls _▸Ku _) hs (q _ (h1.drop 5)))⟩⟩))⟩
end
end
section
noncomputable def Zhp (c:Nat):Tx:=if c=38 then [38,97,109,112,59] else if c=60 then [38,108,116,59] else if c=62 then [38,103,116,59] else if c=13 then [38,35,120,68,59] else [c]noncomputable def escT (t:Tx):Tx:=t.flatMap Zhp
theorem Yd5 {c:Nat}{z:Tx}(hz:z.length<=6)(t:Tx):(repT c z t).length<=6 * t.length:=by
 induction t with
 | nil=>exact Zm _
 | cons d r ih=>
  show ((if d=c then z else [d])++repT c z r).length<=_
  rw [Zf,Xu]
  refine Yc ih ?_
  split
  ·exact hz
  ·exact Za rfl
theorem Ypk (d:Nat):repT 13 [38,35,120,68,59] (repT 62 [38,103,116,59] (repT 60 [38,108,116,59] (repT 38 [38,97,109,112,59] [d])))=Zhp d:=by
 by_cases h1:d=38
 ·subst h1;decide +kernel
 by_cases h2:d=60
 ·subst h2;decide +kernel
 by_cases h3:d=62
 ·subst h3;decide +kernel
 have e:∀ {c z},d≠c->repT c z [d]=[d]:=fun h=>(ZK _).trans (if_neg h)
 rw [e h1,e h2,e h3]
 by_cases h4:d=13
 ·subst h4;decide +kernel
 rw [e h4]
 exact ((if_neg h1).trans ((if_neg h2).trans ((if_neg h3).trans (if_neg h4)))).symm
theorem Zj8 (c:Nat)(z a b:Tx):repT c z (a++b)=repT c z a++repT c z b:=Ze2
theorem Yd4 (c:Nat)(z:Tx)(d:Nat)(r:Tx):repT c z (d::r)=repT c z [d]++repT c z r:=Zj8 c z [d] r
theorem Yj5 (t:Tx):repT 13 [38,35,120,68,59] (repT 62 [38,103,116,59] (repT 60 [38,108,116,59] (repT 38 [38,97,109,112,59] t)))=escT t:=by
 induction t with
 | nil=>rfl
 | cons d r ih=>
  rw [Yd4 38 _ d r,Zj8 60,Zj8 62,Zj8 13,Ypk,ih];rfl
section
variable {S:Addr->List Int->Prop}{k:Nat}{σ:Hp}
section
variable {P:Fl->St->Prop}{cv:Nat->Option Addr}{c:Nat}{z t:Tx}
abbrev escS (c:Nat)(z:Tx):FS:=Yx (YC .In (xV (.str [c])) (xLc 97)) (Zo (YM 97 (Zgy (xLc 97) [c] z)) Zx) Zx
theorem Zkk (ht:lv 97=some (.str t))(hz:z.length<=6)(n:Nat)(hl:t.length<=n)(hn:n<=100000)(q:∀ lv':Nat->Option V,lv' 97=some (.str (repT c z t))->(repT c z t).length<=6 * n->P .next ⟨σ,lv',cv⟩):escS c z Δ P ⟨σ,lv,cv⟩:=
 have b:=Zb (Yd5 (c:=c) hz t) (ZC 6 hl)
 ⟨ht,.mk _ (.inl rfl) (if h:c∈t then (decide_eq_true h).symm.rec ⟨ht,.mk rfl (Zb hl hn) (q _ rfl b)⟩ else (decide_eq_false h).symm.rec (q lv (by rw [Zib c z t h];exact ht) b))⟩theorem esc_id (ht:lv 97=some (.str t))(h:c∉t)(q:P .next ⟨σ,lv,cv⟩):escS c z Δ P ⟨σ,lv,cv⟩:=⟨ht,.mk _ (.inl rfl) ((decide_eq_false h).symm.rec q)⟩
end
theorem Zzi {t:Tx}(hl:t.length<=40)(q:Q (.str (escT t)) σ):Dk S (k + 1) 161 [.str t] σ Q:=
 Zc2 0 rfl rfl rfl (Zkk rfl (Za rfl) 40 hl (Za rfl) fun _ h1 l1=>Zkk h1 (Za rfl) 240 l1 (Za rfl) fun _ h2 l2=>Zkk h2 (Za rfl) 1440 l2 (Za rfl) fun _ h3 l3=>
  Zkk h3 (Za rfl) 8640 l3 (Za rfl) fun _ h4 _=>⟨h4,Yj5 t▸q⟩)
theorem Ygx {t:Tx}(hn:∀ c∈t,c∉[38,60,34,9,10,13])(q:Q (.str t) σ):Dk S (k + 1) 168 [.str t] σ Q:=
 have i:∀ {c},c∈[38,60,34,9,10,13]->c∉t:=fun hc hm=>hn _ hm hc
 Zc2 1 rfl rfl rfl (esc_id rfl (i (.head _))<|esc_id rfl (i (by decide))<|esc_id rfl (i (by decide))<|esc_id rfl (i (by decide))<|esc_id rfl (i (by decide))<|esc_id rfl (i (by decide)) ⟨rfl,q⟩)
end
end
section
noncomputable abbrev FM:=List Tx×List (Tx×Tx)noncomputable abbrev fp (w:Int)(fm:FM)(t:Tx):FM:=fmtPush w fm.1 fm.2 t
structure Fit (n:Nat)(fm:FM):Prop where
 t:(tx fm.2).length + (fm.1.map Z5).sum<=200 * n
 c:fm.2.length + fm.1.length<=n
theorem Zv1 {ps:List (Tx×Tx)}{m i:Nat}(h:splitI ps m=some i):0 < i:=by
 induction m with
 | zero=>cases h
 | succ m ih=>
  revert h
  show (bif _ then _ else _)=_->_
  cases ps[m]?.any (fun p=>Kf p.2) with
  | true=>exact fun h=>Z1 h▸Z8 m
  | false=>exact ih
theorem Yc3 (t:Tx):tx [([],t)]=t:=ZK t
theorem Fit.add {n:Nat}{fm:FM}(h:Fit n fm){t:Tx}(ht:t.length<=200):Fit (n + 1) (fm.1,fm.2++[([],t)]):=
 ⟨by rw [Zk9,Yc3,Zf,Za9];exact Yc h.t ht,by rw [Zf,Za9];exact Zu h.c⟩theorem add3 {a b c n:Nat}(h:a + b + c<=n):b + (c + (a + 0))<=n:=((congrArg (· + c) (Xu a b)).trans ((Xc b a c).trans (congrArg (b + ·) (Xu a c))))▸h
theorem Fit.cut {n:Nat}{ls:List Tx}{ps:List (Tx×Tx)}(h:Fit n (ls,ps))(hp:0 < ps.length){i:Nat}(hi:0 < i):Fit n (ls++[tx (ps.take i)],ps.drop i):=by
 refine ⟨?_,?_⟩
 ·show _ + ((ls++[_]).map Z5).sum<=_
  rw [ZF,X4]
  refine add3 (Zb (ZX (congrArg (· + _) ?_)) h.t)
  rw [<-Zf,<-Zk9,Zi0]
 ·show (List.drop _ _).length + (ls++[_]).length<=_
  rw [Zhk,Zf]
  exact Zb (ZX (Zhh _ _).symm) (Zb (Yr (Yk6 hp hi) _) h.c)
theorem Fit.push {n:Nat}{fm:FM}(h:Fit n fm)(w:Int){t:Tx}(ht:t.length<=200):Fit (n + 1) (fp w fm t):=by
 have h:=h.add ht
 unfold fp fmtPush
 cases decide (w < ((tx (fm.2++[([],t)])).length:Int)) with
 | false=>exact h
 | true=>
  cases hs:splitI (fm.2++[([],t)]) fm.2.length with
  | none=>exact h
  | some i=>exact h.cut (Zf▸Z8 _) (Zv1 hs)theorem Fit.bnd {n:Nat}{fm:FM}(h:Fit n fm)(hn:n<=200):Bnd fm.2:=Zb (Yc (Zb (Zn _ _) h.t) (Zb (Zn _ _) h.c)) (Zb (Yc (ZC 200 hn) hn) (Za rfl))theorem Fit.ps {n:Nat}{fm:FM}(h:Fit n fm)(hn:n<=200):fm.2.length < 900:=ZS (Zb (Zn _ _) (Zb h.c hn)) (Za rfl)theorem Fit.ls {n:Nat}{fm:FM}(h:Fit n fm)(hn:n<=200):fm.1.length<=1000:=Zb (Y6 _ _) (Zb (Zb h.c hn) (Za rfl))theorem Fit.bnd1 {n:Nat}{fm:FM}(h:Fit n fm)(hn:n < 200){t:Tx}(ht:t.length<=200):Bnd (fm.2++[([],t)]):=(h.add ht).bnd hn
structure WA where
 F:FA
 w:Int
 a:Addr
 d:Addr
 dt:Addr
 dc:Addr
 r0:Addr
 ns:Addr
 pm:Addr
 ps:Addr
 lam:Addr
 cell:Addr
 fd:YF
noncomputable abbrev Zmw:Tx:=[104,116,116,112,58,47,47,119,119,119,46,119,51,46,111,114,103,47,88,77,76,47,49,57,57,56,47,110,97,109,101,115,112,97,99,101]noncomputable abbrev Zvn:Tx:=[120,109,108]
noncomputable abbrev Zqv (W:WA)(seen done:Bool):List (Nat×V):=[(30,.ref W.lam),(31,.ref W.dt),(32,.bool true),(33,.bool false),(34,.none),(36,.none),(37,.bool false),(38,.none),(39,.none),
 (41,.ref W.dc),(42,.ref W.ns),(44,.ref W.pm),(45,.ref W.ps),(46,.none),(47,.bool seen),(48,.bool done),(49,.int 0)]noncomputable abbrev rc (rs:List Addr):Ls:=rs.map fun r=>(r,.list [])noncomputable abbrev dcl (W:WA)(rs:List Addr):List V:=(W.r0::rs.reverse).map .ref
noncomputable abbrev wL (W:WA)(s d:Bool)(data:List V)(rs:List Addr)(nl:List V)(m:Nat)(fm:FM)(R:Ls):Ls:=fmtV W.F W.w (strL fm.1) (accL fm.2)++([(W.a,.inst 150 W.d),(W.d,.at (Zqv W s d)),(W.dt,.list data),(W.dc,.list (dcl W rs)),(W.r0,.list [.tup [.str Zmw,.str Zvn]]),(W.ns,.list nl),(W.ps,.list (Uo (m + 1) (.bool false))),(W.lam,.fn W.fd),(W.cell,.cell (some (.ref W.F.a)))]++(rc rs++R))abbrev lamFX:FX:=xMc (xCl 167) 128 (Zk (xV (.str [])) (Zk (xLc 169) (ZD)))abbrev Zh0 (W:WA):Prop:=Zc5 W.fd Zei 169 [(167,W.cell)] lamFX
section
variable {S:Addr->List Int->Prop}{k:Nat}{σ:Hp}{W:WA}{s d:Bool}{data:List V}{rs:List Addr}{nl:List V}{m:Nat}{fm:FM}{R:Ls}{n:Nat}{t:Tx}
theorem Zzg (h:On σ (wL W s d data rs nl m fm R))(L:Zh0 W)(f:Fit n fm)(hn:n < 200)(ht:t.length<=200)(q:∀ σ',On σ' (wL W s d data rs nl m (fp W.w fm t) R)->Q .none σ'):Dk S (k + 4) W.lam [.str t] σ Q:=
 .inl (.inr (.inl (.inr (.mk (h 12 12) L (.mk rfl (h 13 13) (.mk _ (Zfc (h 2 2) (h 3 3) rfl rfl) ⟨rfl,.ref (Ykl h (f.bnd1 hn ht) (f.ps (Y8 hn)) (f.ls (Y8 hn)) q)⟩))))))
theorem Ypz {v:V}(h:On σ (wL W s d data rs nl m fm R))(hl:data.length<=1000)(q:∀ σ',On σ' (wL W s d (data++[v]) rs nl m fm R)->Q .none σ'):Dk S (k + 1) 97 [.ref W.a,v] σ Q:=
 Zc2 3 rfl rfl rfl ⟨rfl,at_ (h 5 5) (h 6 6) rfl rfl (.mk false rfl ⟨rfl,at_ (h 5 5) (h 6 6) rfl rfl (.mk _ (mkL .lAppend rfl rfl (h 7 7)) ⟨rfl,.append (h 7 7) (le5 hl) (q _ (h.set 7 rfl))⟩)⟩)⟩noncomputable def flushP (w:Int)(fm:FM)(t:Tx):FM:=bif t.isEmpty then fm else fp w fm (escT t)
end
end
section
section
variable {S:Addr->List Int->Prop}{k:Nat}{σ:Hp}{W:WA}{s d:Bool}{data:List V}{rs:List Addr}{nl:List V}{m:Nat}{fm:FM}{R:Ls}{n:Nat}{t:Tx}
theorem Zpp (c:Nat):(Zhp c).length<=5:=by
 unfold Zhp
 split;· exact Zm _
 split;· exact Za rfl
 split;· exact Za rfl
 split <;> exact Za rfl
theorem Zkl (t:Tx):(escT t).length<=5 * t.length:=by
 induction t with
 | nil=>exact Zm _
 | cons c r ih=>show (Zhp c++escT r).length<=_;rw [Zf,Xu];exact Yc ih (Zpp c)
theorem Fit.flush (h:Fit n fm)(w:Int)(ht:t.length<=40):Fit (n + 1) (flushP w fm t):=by
 unfold flushP
 cases t.isEmpty with
 | true=>exact ⟨Zb h.t (ZC _ (ZW _)),Zb h.c (ZW _)⟩
 | false=>exact h.push w (Zb (Zkl t) (ZC 5 ht))
theorem Zzh {ds:List Tx}(h:On σ (wL W true d (strL ds) rs nl m fm R))(L:Zh0 W)(f:Fit n fm)(hn:n < 200)(hw:(ds.map Z5).sum + ds.length<=1000)(e:joinT [] ds=t)(ht:t.length<=40)(q:∀ σ',On σ' (wL W true d [] rs nl m (flushP W.w fm t) R)->Q .none σ'):Dk S (k + 5) 106 [.ref W.a] σ Q:=
 Zc2 4 rfl rfl rfl ⟨rfl,rfl,at_ (h 5 5) (h 6 6) rfl rfl (.ref (.inl (.inr (.inr ⟨rfl,.mk rfl (h 7 7) (Ku ds) (le5 hw) (e.symm▸
  ⟨rfl,at_ (h 5 5) (h 6 6) rfl rfl (.mk (h 7 7) (Zb (ZX (Zh _)) (le5 (Zb (Y6 _ _) hw))) (Zox h 7 rfl fun σh1 (h1:On σh1 (wL W true d [] rs nl m fm R))=>
  ⟨rfl,at_ (h1 5 5) (h1 6 6) rfl rfl (.mk false rfl ⟨rfl,at_ (h1 5 5) (h1 6 6) rfl rfl (.mk false (.inl rfl) ⟨rfl,.mk _ (Yc4 (le5 (Zb ht (Za rfl)))) (by
   revert q
   unfold flushP
   cases t.isEmpty with
   | true=>exact fun q=>q _ h1
   | false=>exact fun q=>⟨rfl,at_ (h1 5 5) (h1 6 6) rfl rfl (.mk true rfl ⟨rfl,.mk _ (.val (X6 (h1 5 5)) (X7 (h1 6 6)) rfl rfl) ⟨rfl,rfl,.ref (Zzi ht (.ref (Zzg h1 L f hn (Zb (Zkl t) (ZC 5 ht)) q)))⟩⟩)⟩)⟩)⟩)⟩))⟩)⟩))))⟩theorem mkSet {a:Addr}{T:Str->Bool}{j m:Nat}(b:BM)(e:b.nm=m)(h:b.typ= "set")(e1:σ a=some (.set T j)):mK σ (.ref a) m (.bi b (.ref a)):=e▸.set e1 h
theorem toR {a:Addr}{o:O}(h:On σ ((a,o)::wL W s d data rs nl m fm R)):On σ (wL W s d data rs nl m fm ((a,o)::R)):=
 On.sw (A:=[(a,o)]) (B:=fmtV W.F W.w (strL fm.1) (accL fm.2)++([(W.a,.inst 150 W.d),(W.d,.at (Zqv W s d)),(W.dt,.list data),(W.dc,.list (dcl W rs)),(W.r0,.list [.tup [.str Zmw,.str Zvn]]),(W.ns,.list nl),(W.ps,.list (Uo (m + 1) (.bool false))),(W.lam,.fn W.fd),(W.cell,.cell (some (.ref W.F.a)))]++rc rs)) h
noncomputable abbrev qn3 (t:Tx):V:=.tup [.str t,.str t,.str []]
theorem Zwa (h:On σ (wL W s d data rs nl m fm R)):∀ r∈rs.reverse,σ r=some (.list []):=fun r hr=>
 On.mem (σ:=σ) (L:=rc rs) (On.app (A:=rc rs) (B:=R) (h.drop 14)).1 _ (Y4 (f:=fun r=>((r,.list []):Addr×O)) (Zom.mp hr))
theorem Yd7 (c:Nat)(r:Tx):Zbj (c::r) none (some 1)=[c]:=by
 cases r <;> rfl
theorem Yj4 {Δ:Dl}{K:KwT}{c:Nat}{r:Tx}(hg:Δ.gen)(h:On σ (wL W s d data rs nl m fm R))(hc:c≠123)(hl:(c::r).length<=1000)(hr:rs.length<=1000)(q:∀ σ',On σ' (wL W s d data rs nl m fm R)->Q (qn3 (c::r)) σ'):Fn Δ K 90 [.ref W.a,.str (c::r)] σ Q:=
 .of (.fn 2 rfl rfl rfl ⟨rfl,.mk true (.inl rfl) ⟨rfl,.str rfl rfl (le5 hl) (.mk false (.inl (by rw [Yd7];exact congrArg some (decide_eq_false fun z=>hc (Xg z).1))) ⟨rfl,nofun,Za rfl,.mk rfl
  ⟨rfl,.bi (.set fun ps hps=>Zdo h hps fun σh1 h1=>
   ⟨hg,rfl,.mk (X6 (h1 6 6)) (X7 (h1 7 7)) rfl rfl ⟨rfl,at_ (h1 6 6) (h1 7 7) rfl rfl (.mk (.ns (by rw [Yh];exact hr) (h1 9 9) (h1 10 10) (Zwa h1.tl))
    ⟨⟨h1 9 9,h1 10 10,Zwa h1.tl⟩,.mk rfl ⟨rfl,rfl,.mk false (.inl rfl) ⟨rfl,.mk _ (mkSet .setAdd rfl rfl (h1 0 0)) ⟨rfl,.add (h1 0 0) (Zr _) (have h2:=h1.up
     ⟨⟨h2 9 9,h2 10 10,Zwa h2.tl⟩,rfl,at_ (h2 6 6) (h2 7 7) rfl rfl (.mk false rfl ⟨rfl,.mk false rfl ⟨rfl,.mk true (.inr (.niS (h2 0 0))) ⟨rfl,rfl,rfl,nofun,Za rfl,q _ h2.tl⟩⟩⟩)⟩)⟩⟩⟩⟩)⟩⟩)⟩⟩)⟩⟩)
end
end
section
noncomputable def Zbl (at_:Option (Tx×Tx)):List (Tx×V):=at_.elim [] fun p=>[(tIn,.str p.1),(tAt,.str p.2)]def Zfb (t:Tx):Prop:=(∃ c r,t=c::r/\c≠123)/\(t.length<=100)/\(t::[tIn,tAt]).Nodup/\(125∉t)def Zfb.c (z:@Zfb t):=z.1
def Zfb.l (z:@Zfb t):=z.2.1
def Zfb.n (z:@Zfb t):=z.2.2.1
def Zfb.b (z:@Zfb t):=z.2.2.2
section
variable {S:Addr->List Int->Prop}{k:Nat}{σ:Hp}{W:WA}{s d:Bool}{data:List V}{rs:List Addr}{nl:List V}{m:Nat}{fm:FM}{R A:Ls}{n:Nat}{t:Tx}
noncomputable abbrev wB (W:WA)(s d:Bool)(data:List V)(rs:List Addr)(nl:List V)(m:Nat)(fm:FM):Ls:=fmtV W.F W.w (strL fm.1) (accL fm.2)++([(W.a,.inst 150 W.d),(W.d,.at (Zqv W s d)),(W.dt,.list data),(W.dc,.list (dcl W rs)),(W.r0,.list [.tup [.str Zmw,.str Zvn]]),(W.ns,.list nl),(W.ps,.list (Uo (m + 1) (.bool false))),(W.lam,.fn W.fd),(W.cell,.cell (some (.ref W.F.a)))]++rc rs)theorem toA (h:On σ (A++wL W s d data rs nl m fm R)):On σ (wL W s d data rs nl m fm (A++R)):=On.sw (B:=wB W s d data rs nl m fm) h
theorem frA (h:On σ (wL W s d data rs nl m fm (A++R))):On σ (A++wL W s d data rs nl m fm R):=On.sw (A:=wB W s d data rs nl m fm) h
theorem Zw4 (A:Ls)(h:On σ (A++wL W s d data rs nl m fm R))(L:Zh0 W)(f:Fit n fm)(hn:n < 200)(ht:t.length<=200)(q:∀ σ',On σ' (A++wL W s d data rs nl m (fp W.w fm t) R)->Q .none σ'):Dk S (k + 4) W.lam [.str t] σ Q:=Zzg (toA h) L f hn ht fun σ' h'=>q σ' (frA h')
theorem Zub {Δ:Dl}{K:KwT}(A:Ls)(hg:Δ.gen)(h:On σ (A++wL W s d data rs nl m fm R))(ht:∃ c r,t=c::r/\c≠123)(hl:t.length<=1000)(hr:rs.length<=1000)(q:∀ σ',On σ' (A++wL W s d data rs nl m fm R)->Q (qn3 t) σ'):Fn Δ K 90 [.ref W.a,.str t] σ Q:=by
 obtain ⟨c,r,rfl,hc⟩:=ht;exact Yj4 hg (toA h) hc hl hr fun σ' h'=>q σ' (frA h')noncomputable abbrev qnD (ks:List Tx):List (Tx×V):=ks.map fun t=>(t,qn3 t)theorem Zp9 (k:Nat):(Dk S k).gen:=by cases k <;> trivial
theorem Yd6 (acc:List Tx)(t:Tx):qnD acc++[(t,qn3 t)]=qnD (acc++[t]):=(ZF (l₂:=[t])).symm
theorem dcomp {D L0 c2 mm:Addr}{l0:List V}{P:Hp->Prop}{cv:Nat->Option Addr}(hcv:cv 85=some c2)(hr:rs.length<=1000)(ks:List Tx)(acc:List Tx)(lv:Nat->Option V)(hn:(acc++ks).Nodup)(hl:(acc++ks).length<=100)(ht:∀ t∈ks,(∃ c r,t=c::r/\c≠123)/\t.length<=1000)
  (h:On σ ((D,.dS (qnD acc))::(L0,.list l0)::(mm,.meth 90 (.ref W.a))::(c2,.cell (some (.ref mm)))::(A++wL W s d data rs nl m fm R))) (q:∀ σ',On σ' ((D,.dS (qnD (acc++ks)))::(L0,.list l0)::(mm,.meth 90 (.ref W.a))::(c2,.cell (some (.ref mm)))::(A++wL W s d data rs nl m fm R))->P σ') :
  Zjj (Dk S (k + 1)) (.one 87) (fun st=>st.σ L0=some (.list l0)) bT (xLc 87) (Yb (xCl 85) (Zk (xLc 87) ZD)) D P (strL ks) ⟨σ,lv,cv⟩:=by
 induction ks generalizing acc σ lv with
 | nil=>exact ⟨h 1 1,q σ (by rw [ZK];exact h)⟩
 | cons t ks ih=>
  have e:acc++t::ks=(acc++[t])++ks:=(Zw acc [t] ks).symm
  exact ⟨h 1 1,rfl,.mk (.mk hcv (h 3 3) ⟨rfl,.ref (.inr (.mk (h 2 2) ⟨150,56,rfl⟩ (.inl (Zub (_::_::_::_::A) (Zp9 k) h (ht t (.head _)).1 (ht t (.head _)).2 hr fun σ1 h1=>
   .mk (h1 0 0) (by rw [Zh];exact Zb (Zb (Zn _ _) (ZX Zf.symm)) hl)
    (by rw [U7];exact fun z=>(Ys.mp z).elim fun u hu=>(Zmv.mp hn).2.2 u hu.1 t (.head _) hu.2)
    (ih (acc++[t]) _ (e▸hn) (e▸hl) (fun t hm=>ht t (.tail _ hm)) (by rw [<-Yd6];exact h1.up) (e▸q))))))⟩)⟩
end
end
section
abbrev Yl4:FS:=Zo (sEx (Yb (xLc 22) (Zk (xV (.str [62])) (ZD)))) (Zo (Yx (YC .IsNot (xLc 71) (xV .none)) (Zo (sEx (Yb (xLc 22) (Zk (Yb (xGl 73) (Zk (YK (YK (xLc 86) (YK (xLc 81) (xLc 71))) (xV (.int 0))) (ZD))) (ZD)))) (Zx)) (Zx)) (Zo (Kh (xCl 21) 47 (xV (.bool true))) (Zo (sEx (xMc (xAt (xCl 21) 42) 0 (Zk (Zd4 (ZD)) (ZD)))) (Zx))))abbrev Ynj:FS:=Yx (bV (xLc 90)) (Zo (sEx (Yb (xLc 22) (Zk (xMc (xV (.str [])) 3 (Zk (Zlr X5 (.tup [78,79]) (xLc 90) (bT) (Zit (U6 (xV (.str [32])) (U6 (xFv (xLc 78)) (U6 (xV (.str [61,34])) (U6 (xFv (Yb (xGl 94) (Zk (xLc 79) (ZD)))) (U6 (xV (.str [34])) (Zow)))))))) (ZD))) (ZD)))) (Zx)) (Zx)abbrev Yni:FS:=Zo (YM 93 (xMc (xLc 76) 7 (Zk (xV (.str [123,104,116,116,112,58,47,47,119,119,119,46,119,51,46,111,114,103,47,88,77,76,47,49,57,57,56,47,110,97,109,101,115,112,97,99,101,125,115,112,97,99,101])) (ZD)))) (Zo (sEx (xMc (xAt (xCl 21) 45) 0 (Zk (xIf (bV (xLc 93)) (Zsp .Eq (xLc 93) (xV (.str [112,114,101,115,101,114,118,101]))) (YK (xAt (xCl 21) 45) (Zdj (xV (.int 1))))) (ZD)))) (Zo (YM 22 (xAt (xCl 21) 30)) (Zo (sEx (Yb (xLc 22) (Zk (Xv .Add (xV (.str [60])) (YK (YK (xLc 86) (xLc 59)) (xV (.int 0)))) (ZD)))) (Zo Ynj Yl4))))noncomputable abbrev items (at_:Option (Tx×Tx)):List V:=at_.elim [] fun p=>[.tup [.str tAt,.str p.2],.tup [.str tIn,.str p.1]]noncomputable abbrev item (k v:Tx):Tx:=[]++[32]++k++[61,34]++v++[34]noncomputable abbrev mid (p:Tx×Tx):Tx:=joinT [] [item tAt p.2,item tIn p.1]noncomputable abbrev pA (w:Int)(fm:FM)(at_:Option (Tx×Tx)):FM:=at_.elim fm fun p=>fp w fm (mid p)noncomputable abbrev Zpv (w:Int)(fm:FM)(t:Tx)(at_:Option (Tx×Tx)):FM:=fp w (pA w (fp w fm ([60]++t)) at_) [62]abbrev okS (t:Tx):Prop:=t.length<=40/\∀ c∈t,c∉[38,60,34,9,10,13]abbrev Yot (at_:Option (Tx×Tx)):Prop:=∀ p,at_=some p->okS p.1/\okS p.2
section
variable {S:Addr->List Int->Prop}{k:Nat}{σ:Hp}{W:WA}{s d:Bool}{data:List V}{rs:List Addr}{nl:List V}{m:Nat}{fm:FM}{R:Ls}{n:Nat}{t:Tx}{cv:Nat->Option Addr}{c1:Addr}
theorem Ycx (A:Ls)(h:On σ ((c1,.cell (some (.ref W.a)))::(A++wL W s d data rs nl m fm R)))(L:Zh0 W)(f:Fit n fm)(hn:n < 200)(hnl:nl.length<=1000)(l1:lv 22=some (.ref W.lam))(l2:lv 71=some .none)(v1:cv 21=some c1)
  (q:∀ σ' x,On σ' (wL W true d data rs (nl++[.ref x]) m (fp W.w fm [62]) R)->Q .none σ'):Yl4 (Dk S (k + 4)) (Zcv Q) ⟨σ,lv,cv⟩:=
 ⟨l1,.ref (Zw4 ((c1,.cell (some (.ref W.a)))::A) h L f hn (Za rfl) fun σ1 h1=>
  have g1:=toA (A:=(c1,.cell (some (.ref W.a)))::A) h1
  ⟨l2,.mk false (.inl rfl) ⟨v1,h1 0 0,.mk (X6 (g1 5 5)) (X7 (g1 6 6)) rfl (Za rfl)
   (have g2:On _ (wL W true d data rs nl m (fp W.w fm [62]) ((c1,.cell (some (.ref W.a)))::A++R)):=g1.set 6 rfl
   ⟨v1,(frA (A:=(c1,.cell (some (.ref W.a)))::A) g2) 0 0,at_ (g2 5 5) (g2 6 6) rfl rfl (.mk _ (mkL .lAppend rfl rfl (g2 10 10)) ⟨Zr _,fun x hx=>Zdo (o:=.list []) g2 hx fun σg3 g3=>
    .append (g3 11 11) (le5 hnl) (q _ x (On.app (A:=_::A) (frA (A:=(c1,.cell (some (.ref W.a)))::A) (W:=W) (nl:=nl++[.ref x]) (g3.set 11 rfl).tl)).2.1)⟩)⟩)⟩⟩)⟩
end
end
section
section
variable {S:Addr->List Int->Prop}{k:Nat}{σ:Hp}{W:WA}{s d:Bool}{data:List V}{rs:List Addr}{nl:List V}{m:Nat}{fm:FM}{R:Ls}{n:Nat}{t:Tx}{cv:Nat->Option Addr}{c1:Addr}
theorem mkDS {a:Addr}{kvs:List (Tx×V)}{m:Nat}(b:BM)(e:b.nm=m)(h:b.typ= "dict")(e1:σ a=some (.dS kvs)):mK σ (.ref a) m (.bi b (.ref a)):=e▸.dS e1 h
theorem getS0 {a:Addr}{kvs:List (Tx×V)}{x:Tx}(e:σ a=some (.dS kvs))(e2:kvs.lookup x=none)(q:Q .none σ):Zjb Q σ .dGet (.ref a) [.str x]:=.getS e (by rw [e2];exact q)
theorem ps_up (h:On σ (wL W s d data rs nl m fm R)):On (upd σ W.ps (.list (Uo (m + 1) (.bool false)++[.bool false]))) (wL W s d data rs nl (m + 1) fm R):=
 (Ycl (n:=m + 1) (a:=V.bool false)).symm.subst (motive:=fun l=>On (upd σ W.ps (.list (Uo (m + 1) (.bool false)++[.bool false]))) (fmtV W.F W.w (strL fm.1) (accL fm.2)++([(W.a,.inst 150 W.d),(W.d,.at (Zqv W s d)),(W.dt,.list data),(W.dc,.list (dcl W rs)),(W.r0,.list [.tup [.str Zmw,.str Zvn]]),(W.ns,.list nl),(W.ps,.list l),(W.lam,.fn W.fd),(W.cell,.cell (some (.ref W.F.a)))]++(rc rs++R)))) (h.set 11 rfl)theorem Yd3 (m:Nat):Zfa (Uo (m + 1) (V.bool false)) (-1)=some (.bool false):=by rw [Ycl];exact Zc7 _ _
theorem Ymg {ks:List Tx}{t:Tx}(h:t∈ks):(qnD ks).lookup t=some (qn3 t):=by
 induction ks with
 | nil=>cases h
 | cons x r ih=>
  refine Xw.trans ?_
  by_cases e:t=x
  ·subst e;rw [beq_self_eq_true]
  ·rw [beq_false_of_ne e];exact ih ((Xl.mp h).resolve_left e)theorem Fit.mono {n':Nat}(f:Fit n fm)(h:n<=n'):Fit n' fm:=⟨Zb f.t (ZC _ h),Zb f.c h⟩theorem Zj5 {a:Addr}{xs:List V}(e:σ a=some (.list xs))(h:xs.length<=100000):Zi6 (.ref a) σ=some (xs.length != 0):=(congrArg (fun o=>(Yo4 o).bind _) e).trans (if_pos h)theorem ap {a b:Tx}{p q:Nat}(h:a.length<=p)(h2:b.length<=q):(a++b).length<=p + q:=Zf▸Yc h h2
theorem l3 {k v:Tx}(hk:k.length<=2)(hv:v.length<=40):([]++[32]++k++[61,34]++v).length<=45:=ap (ap (ap (p:=1) (a:=[]++[32]) (Za rfl) hk) (q:=2) (Za rfl)) hv
theorem Zkh {k v:Tx}(hk:k.length<=2)(hv:v.length<=40):(item k v).length<=46:=ap (q:=1) (l3 hk hv) (Za rfl)theorem lt5 {a b p q:Nat}(h:a<=p)(h2:b<=q)(h3:p + q<=100000):a + b<=100000:=Zb (Yc h h2) h3
theorem le5' {n m:Nat}(h:n<=m)(h2:m<=100000):n<=100000:=Zb h h2
abbrev usE:FX:=Zit (U6 (xV (.str [32])) (U6 (xFv (xLc 78)) (U6 (xV (.str [61,34])) (U6 (xFv (Yb (xGl 94) (Zk (xLc 79) (ZD)))) (U6 (xV (.str [34])) (Zow))))))
theorem Zx2 {D:Addr}{K:St->Prop}{acc:List V}{x v:Tx}(hx:x.length<=2)(hv:okS v)(l1:lv 78=some (.str x))(l2:lv 79=some (.str v))(hD:σ D=some (.list acc))(ha:acc.length<=100000)(q:K ⟨upd σ D (.list (acc++[.str (item x v)])),lv,cv⟩):Yfr (Dk S (k + 1)) bT usE D K σ cv lv:=
 .mk ⟨Za rfl,l1,.mk ⟨le5 (Zb hx (Za rfl)),.mk ⟨Zb (ZJ hx _) (Za rfl),.mk ⟨lt5 (ap (p:=1) (a:=[]++[32]) (Za rfl) hx) (q:=2) (Za rfl) (Za rfl),rfl,l2,.ref (Ygx hv.2 (.mk ⟨le5 (Zb hv.1 (Za rfl)),.mk ⟨lt5 (ap (ap (p:=1) (a:=[]++[32]) (Za rfl) hx) (q:=2) (Za rfl)) hv.1 (Za rfl),.mk ⟨lt5 (q:=1) (l3 hx hv.1) (Za rfl) (Za rfl),.mk hD ha q⟩⟩⟩))⟩⟩⟩⟩abbrev usC:FX:=xMc (xV (.str [])) 3 (Zk (Zlr X5 (.tup [78,79]) (xLc 90) (bT) usE) (ZD))
theorem Yig {AL:Addr}{p:Tx×Tx}(h:On σ ((AL,.list (items (some p)))::R))(hp:okS p.1/\okS p.2)(l1:lv 90=some (.ref AL))(q:∀ σ',On σ' ((AL,.list (items (some p)))::R)->Q (.str (mid p)) σ'):usC (Dk S (k + 1)) lv cv Q σ:=
 .mk _ (mkS .sJoin rfl rfl) ⟨nofun,l1,.mk (.list (h 0 0)) fun D hD=>have h1:=h.new (o:=.list []) hD
  ⟨h1 1 1,.mk rfl (Zx2 (x:=tAt) (Za rfl) hp.2 rfl rfl (h1 0 0) (Zr _) (have h2:=h1.up
   ⟨h2 1 1,.mk rfl (Zx2 (x:=tIn) (Za rfl) hp.1 rfl rfl (h2 0 0) (Za rfl) (have h3:=h2.up
    ⟨h3 1 1,.join (h3 0 0) (Zr _) rfl (lt5 (q:=2) (Yc (Zkh (k:=tAt) (Za rfl) hp.2.1) (Yc (Zkh (k:=tIn) (Za rfl) hp.1.1) (Zm 0))) (Zm 2) (Za rfl)) (q _ h3.tl)⟩))⟩))⟩⟩
end
end
section
section
variable {S:Addr->List Int->Prop}{k:Nat}{σ:Hp}{W:WA}{s d:Bool}{data:List V}{rs:List Addr}{nl:List V}{m:Nat}{fm:FM}{R:Ls}{n:Nat}{t:Tx}{cv:Nat->Option Addr}{c1:Addr}
theorem Zf3 {a d m:Nat}{s e:Bool}{v:V}(e1:σ a=some (.inst 150 d))(e2:σ d=some (.at (Zqv W s e)))(e3:(Zqv W s e).lookup m=some v)(e4:ownM 150 m=true)(q:Q v σ):AtK m Q (.ref a) σ:=.val (X6 e1) (X7 e2) e3 e4 q
theorem Zri {p:Tx×Tx}(h:okS p.1/\okS p.2):(mid p).length<=200:=
 Zb (ap (a:=item tAt p.2++[]) (ap (Zkh (k:=tAt) (Za rfl) h.2.1) (Zm 0)) (Zkh (k:=tIn) (Za rfl) h.1.1)) (Za rfl)
theorem Zx3 {at_:Option (Tx×Tx)}{AL D aa:Addr}{ks:List Tx}(A:Ls)(h:On σ ((AL,.list (items at_))::(D,.dS (qnD ks))::(c1,.cell (some (.ref W.a)))::(aa,.dS (Zbl at_))::(A++wL W s d data rs nl m fm R)))(L:Zh0 W)(f:Fit n fm)(hn:n + 2 < 200)(hnl:nl.length<=1000)(hm:m<=900)(hk:t∈ks)(ht:t.length<=100)(ha:Yot at_)
  (l1:lv 59=some (.str t)) (l2:lv 76=some (.ref aa)) (l3:lv 71=some .none) (l4:lv 86=some (.ref D)) (l5:lv 90=some (.ref AL)) (v1:cv 21=some c1)
  (q:∀ σ' x,On σ' (wL W true d data rs (nl++[.ref x]) (m + 1) (Zpv W.w fm t at_) R)->Q .none σ'):Yni (Dk S (k + 4)) (Zcv Q) ⟨σ,lv,cv⟩:=
 have g:=toA (A:=(AL,.list (items at_))::(D,.dS (qnD ks))::(c1,.cell (some (.ref W.a)))::(aa,.dS (Zbl at_))::A) h
 have hm':(Uo (m + 1) (V.bool false)).length<=100000:=by rw [Zi1];exact Zb (Zu hm) (Za rfl)
 ⟨l2,.mk _ (mkDS .dGet rfl rfl (h 3 3)) (getS0 (h 3 3) (by cases at_ <;> rfl) ⟨v1,h 2 2,Zf3 (g 5 5) (g 6 6) rfl rfl (.mk _ (mkL .lAppend rfl rfl (g 11 11)) ⟨rfl,.mk false rfl ⟨v1,h 2 2,Zf3 (g 5 5) (g 6 6) rfl rfl (.mk 1 (.list (g 11 11) hm' (Yd3 m) (.append (g 11 11) hm'
  (have g1:=ps_up g
  have h1:=frA (A:=(AL,.list (items at_))::(D,.dS (qnD ks))::(c1,.cell (some (.ref W.a)))::(aa,.dS (Zbl at_))::A) g1
  ⟨v1,h1 2 2,Zf3 (g1 5 5) (g1 6 6) rfl rfl ⟨rfl,l4,l1,.dS (h1 1 1) (Ymg hk) (.tup (Za rfl) (by decide) rfl (.addS (lt5 (Za rfl:1<=1) ht (Za rfl)) (.ref
   (Zw4 ((AL,.list (items at_))::(D,.dS (qnD ks))::(c1,.cell (some (.ref W.a)))::(aa,.dS (Zbl at_))::A) h1 L f (ZS (Zn n 2) hn) (Zb (Zu ht) (Za rfl)) fun σ2 h2=>by
    have f2:=f.push W.w (t:=[60]++t) (Zb (Zu ht) (Za rfl))
    cases at_ with
    | none=>exact ⟨l5,.mk false (Zj5 (h2 0 0) (Zr _)) (Ycx ((aa,.dS (Zbl none))::A) (h2.drop 2) L f2 (Zbn hn) hnl rfl l3 v1 q)⟩
    | some p=>exact ⟨l5,.mk true (Zj5 (h2 0 0) (Za rfl)) ⟨rfl,Yig h2 (ha p rfl) l5 fun σ3 h3=>.ref (Zw4 ((AL,.list (items (some p)))::(D,.dS (qnD ks))::(c1,.cell (some (.ref W.a)))::(aa,.dS (Zbl (some p)))::A) h3 L f2 (Zbn hn) (Zri (ha p rfl)) fun σ4 h4=>
      Ycx ((aa,.dS (Zbl (some p)))::A) (h4.drop 2) L (f2.push W.w (Zri (ha p rfl))) hn hnl rfl l3 v1 q)⟩⟩))))⟩⟩))))⟩⟩)⟩)⟩
end
end
section
section
variable {S:Addr->List Int->Prop}{k:Nat}{σ:Hp}{W:WA}{s d:Bool}{data:List V}{rs:List Addr}{nl:List V}{m:Nat}{fm:FM}{R:Ls}{n:Nat}{t:Tx}{cv:Nat->Option Addr}{c1:Addr}
abbrev Ynk:FS:=Zo (Yx (Zc8 (YC .IsNot (xLc 82) (xV .none)) (Zc8 (YC .In (xLc 78) (xLc 82)) (YC .In (xLc 79) (xLc 81)))) (Zo (YM 79 (YK (YK (xLc 86) (YK (xLc 81) (xLc 79))) (xV (.int 0)))) (Zx)) (Zx)) (Zo (Ztj [92,83,58] (YK (xLc 86) (xLc 78))) (Zo (sEx (xMc (xLc 90) 0 (Zk (Zc1 (Zk (xIf (bV (xLc 58)) (xLc 92) (xLc 83)) (Zk (xLc 79) (ZD)))) (ZD)))) (Zx)))theorem Yl6 {a:Addr}{xs:List (Tx×V)}(e:σ a=some (.dS xs))(h:xs.length<=100000):Zi6 (.ref a) σ=some (xs.length != 0):=(congrArg (fun o=>(Yo4 o).bind _) e).trans (if_pos h)noncomputable abbrev lvI (lv:Nat->Option V)(x v:Tx):Nat->Option V:=updL (updL lv [78,79] [.str x,.str v]) [92,83,58] [.str x,.str x,.str []]
theorem Zx4 {Δ:Dl}{P:Fl->St->Prop}{AL D:Addr}{al:List V}{ks:List Tx}{x v:Tx}(h:On σ ((AL,.list al)::(D,.dS (qnD ks))::R))(hk:x∈ks)(hl:al.length<=100000)(l1:lv 86=some (.ref D))(l2:lv 90=some (.ref AL))(l3:lv 82=some .none)
  (q:∀ σ',On σ' ((AL,.list (al++[.tup [.str x,.str v]]))::(D,.dS (qnD ks))::R)->P .next ⟨σ',lvI lv x v,cv⟩):Ynk Δ P ⟨σ,updL lv [78,79] [.str x,.str v],cv⟩:=
 ⟨l3,.mk false (.inl rfl) ⟨l1,rfl,.dS (h 1 1) (Ymg hk) (.mk rfl ⟨l2,.mk _ (mkL .lAppend rfl rfl (h 0 0)) ⟨rfl,.mk false rfl ⟨rfl,rfl,nofun,Za rfl,.append (h 0 0) hl (q _ h.up)⟩⟩⟩)⟩⟩noncomputable abbrev Yfl (t:Tx)(at_:Option (Tx×Tx)):List Tx:=t::(Zbl at_).map (·.1)
theorem Zfz (t:Tx)(at_:Option (Tx×Tx)):(Yfl t at_).Sublist [t,tIn,tAt]:=by
 cases at_ with
 | none=>exact .cons_cons t (List.nil_sublist _)
 | some p=>exact List.Sublist.refl _
theorem Zfb.keys (ht:Zfb t){y:Tx}(hy:y∈[t,tIn,tAt]):(∃ c r,y=c::r/\c≠123)/\y.length<=1000/\125∉y:=by
 have key:∀ y∈[t,tIn,tAt],(∃ c r,y=c::r/\c≠123)/\y.length<=1000/\125∉y:=Zi.mpr ⟨⟨ht.c,Zb ht.l (Za rfl),ht.b⟩,Zi.mpr ⟨⟨⟨_,_,rfl,by decide⟩,Za rfl,by decide⟩,Zi.mpr ⟨⟨⟨_,_,rfl,by decide⟩,Za rfl,by decide⟩,Yp _⟩⟩⟩
 exact key y hy
theorem Ygs {at_:Option (Tx×Tx)}{aa nr:Addr}(h:On σ ((aa,.dS (Zbl at_))::wL W s d data (nr::rs) nl m fm R))(L:Zh0 W)(f:Fit n fm)(hn:n + 2 < 200)(hnl:nl.length<=1000)(hm:m<=900)(hr:(nr::rs).length<=1000)(ht:Zfb t)(ha:Yot at_)
  (q:∀ σ' x,On σ' (wL W true d data (nr::rs) (nl++[.ref x]) (m + 1) (Zpv W.w fm t at_) R)->Q .none σ'):Dk S (k + 5) 126 [.ref W.a,.str t,.ref aa,.ref nr] σ Q:=
 Zc2 6 rfl rfl rfl fun c1 hc1 c2 hc2=>Zdo (h.new hc1) hc2 fun σh0 h0=>
  ⟨rfl,h0 1 1,Zf3 (h0 8 8) (h0 9 9) rfl rfl (.mk false (.inl rfl) ⟨t,aa,Zbl at_,rfl,rfl,h0 2 2,Za7 (Zh (Um:Tx×V->Tx)▸(Zfz t at_).length_le),(Zfz t at_).nodup ht.n,fun n1 hn1=>Zdo h0 hn1 fun σh1 h1=>
   fun n2 hn2=>Zdo h1 hn2 fun σh2 h2=>
   ⟨rfl,.mk false (.inl rfl) ⟨rfl,h2 3 3,Zf3 (h2 10 10) (h2 11 11) rfl rfl (.mk false (.inl rfl) ⟨rfl,h2 3 3,.bd (X6 (h2 10 10)) (X7 (h2 11 11)) rfl rfl (by kernel_rfl) fun mm hmm=>Zdo h2 hmm fun σh3 h3=>
    .mk rfl (h3 3 3) (have h4:=h3.set 3 rfl (o':=.cell (some (.ref mm)))
    ⟨fun i hi=>by cases Xb.mp (hi:i∈[85]);rfl,n1,Yfl t at_,Zp9 _,rfl,h4 2 2,(by cases at_ with | none=>exact .inl rfl | some p=>exact .inr rfl),fun y hy=>(ht.keys ((Zfz t at_).subset hy)).2.2,fun f1 fd D0 ks hf hfa hD hp=>Zdo (h4.new hf) hD fun σh6 h6=>
     .mk (.list (h6 0 0)) fun D hDD=>dcomp (A:=[(f1,_),(n2,_),(n1,_),(c1,_),(aa,_)]) (rs:=nr::rs) (by rfl) hr ks [] _ (hp.nodup_iff.mpr ((Zfz t at_).nodup ht.n)) (Zb (ZX hp.length_eq) (Zb (Zfz t at_).length_le (Za rfl)))
       (fun y hy=>have z:=ht.keys ((Zfz t at_).subset (hp.mem_iff.mp hy));⟨z.1,z.2.1⟩) (((((h6.new (o:=.dS []) hDD).fr 6 rfl).fr 4 rfl).fr 3 rfl).fr 3 rfl) fun σ9 h9=>
      ⟨rfl,.mk false (Zj5 (h9 23 23) (Zr _)) ⟨Zr _,fun AL hAL=>Zdo (o:=.list []) h9 hAL fun σh10 h10=>
       by
        have hk:t∈ks:=hp.mem_iff.mpr (.head _)
        have h11:=(((h10.fr 9 rfl).fr 9 rfl).fr 3 rfl).fr 3 rfl
        cases at_ with
        | none=>exact ⟨rfl,.mk false (Yl6 (h11 3 3) (Zr _)) (Zx3 (at_:=none) [_,_,_,_,_,_] h11 L f hn hnl hm hk ht.l ha rfl rfl rfl rfl rfl rfl q)⟩
        | some p=>exact ⟨rfl,.mk true (Yl6 (h11 3 3) (Za rfl)) ⟨aa,_,_,rfl,h11 3 3,fun L0 hL0=>
          have h13:=On.sw (A:=[_]) (B:=[_,_]) (h11.new (o:=.list (items (some p))) hL0)
          .mk (.list (h13 2 2)) ⟨h13 2 2,.mk rfl (Zx4 h13 (hp.mem_iff.mpr (.tail _ (.tail _ (.head _)))) (Zr _) rfl rfl rfl fun σ14 h14=>
           ⟨h14 2 2,.mk rfl (Zx4 h14 (hp.mem_iff.mpr (.tail _ (.head _))) (Za rfl) rfl rfl rfl fun σ15 h15=>
            ⟨h15 2 2,Zx3 (at_:=some p) [_,_,_,_,_,_] (h15.fr 2 rfl).tl L f hn hnl hm hk ht.l ha rfl rfl rfl rfl rfl rfl q⟩)⟩)⟩⟩⟩⟩⟩⟩)⟩)⟩⟩⟩)⟩
end
end
section
section
variable {S:Addr->List Int->Prop}{k:Nat}{σ:Hp}{W:WA}{s d:Bool}{data:List V}{rs:List Addr}{nl:List V}{m:Nat}{fm:FM}{R:Ls}{n:Nat}{t t0:Tx}{ds:List Tx}
noncomputable abbrev wX (W:WA)(s d:Bool)(data dc nl pl:List V)(fm:FM):Ls:=fmtV W.F W.w (strL fm.1) (accL fm.2)++[(W.a,.inst 150 W.d),(W.d,.at (Zqv W s d)),(W.dt,.list data),(W.dc,.list dc),(W.r0,.list [.tup [.str Zmw,.str Zvn]]),(W.ns,.list nl),(W.ps,.list pl),(W.lam,.fn W.fd),(W.cell,.cell (some (.ref W.F.a)))]
theorem Znw (W:WA)(rs:List Addr)(nr:Addr):dcl W rs++[.ref nr]=dcl W (nr::rs):=by
 unfold dcl;rw [Y7];exact (ZF (l₁:=W.r0::rs.reverse) (l₂:=[nr])).symm
theorem Ykd {nr:Addr}(h:On σ ((nr,.list [])::wL W s d data rs nl m fm R)):On (upd σ W.dc (.list (dcl W rs++[.ref nr]))) (wL W s d data (nr::rs) nl m fm R):=
 (Znw W rs nr).subst (motive:=fun l=>On (upd σ W.dc (.list (dcl W rs++[.ref nr]))) (wX W s d data l nl (Uo (m + 1) (.bool false)) fm++((nr,.list [])::(rc rs++R))))
  (On.sw (A:=[_]) (B:=wX W s d data (dcl W rs++[.ref nr]) nl (Uo (m + 1) (.bool false)) fm) (h.set 9 rfl))
theorem Zx0 {lv:Nat->Option V}{cv:Nat->Option Addr}{F:FS}{P:Fl->St->Prop}(h:On σ (wL W s d (strL ds) rs nl m fm R))(L:Zh0 W)(f:Fit n fm)(hn:n < 200)(hw:(ds.map Z5).sum + ds.length<=1000)(e:joinT [] ds=t)(ht:t.length<=40)(hs:ds=[]\/s=true)(l1:lv 21=some (.ref W.a))
  (q:∀ σ',On σ' (wL W s d [] rs nl m (flushP W.w fm t) R)->F (Dk S (k + 6)) P ⟨σ',lv,cv⟩):Zo (Yx (bV (xAt (xLc 21) 31)) (Zo (sEx (xMc (xLc 21) 67 (ZD))) (Zx)) (Zx)) F (Dk S (k + 6)) P ⟨σ,lv,cv⟩:=by
 refine ⟨l1,Zf3 (h 5 5) (h 6 6) rfl rfl (.mk _ (Zj5 (h 7 7) (Zb (ZX (Zh _)) (le5 (Zb (Y6 _ _) hw)))) ?_)⟩
 cases ds with
 | nil=>cases e;exact q σ h
 | cons x r=>
  cases hs.resolve_left nofun
  exact ⟨l1,.mk _ (Zfc (h 5 5) (h 6 6) rfl rfl) (.ref (Zzh h L f hn hw e ht q))⟩
theorem Zzd {at_:Option (Tx×Tx)}{aa:Addr}(h:On σ ((aa,.dS (Zbl at_))::wL W s d (strL ds) rs nl m fm R))(L:Zh0 W)(f:Fit n fm)(hn:n + 3 < 200)(hnl:nl.length<=1000)(hm:m<=900)(hr:rs.length < 1000)(ht:Zfb t)(ha:Yot at_)
  (hw:(ds.map Z5).sum + ds.length<=1000) (e:joinT [] ds=t0) (ht0:t0.length<=40) (hs:ds=[]\/s=true)
  (q:∀ σ' nr x,On σ' (wL W true d [] (nr::rs) (nl++[.ref x]) (m + 1) (Zpv W.w (flushP W.w fm t0) t at_) R)->Q .none σ'):Dk S (k + 7) 120 [.ref W.a,.str t,.ref aa] σ Q:=
 have g:=toA (A:=[_]) h
 Zc2 5 rfl rfl rfl ⟨rfl,Zf3 (g 5 5) (g 6 6) rfl rfl (.mk false (.inl rfl) (Zx0 (k:=k) g L f (ZS (Zn n 3) hn) hw e ht0 hs rfl fun σ1 h1=>
  ⟨Zr _,fun nr hnr=>Zdo (o:=.list []) h1 hnr fun σh2 h2=>
   ⟨rfl,Zf3 (h2 6 6) (h2 7 7) rfl rfl (.mk _ (mkL .lAppend rfl rfl (h2 9 9)) ⟨rfl,.append (h2 9 9) (by rw [Zh,XR,Yh];exact le5 hr) (have h3:=Ykd h2
    ⟨rfl,Zf3 (h3 5 5) (h3 6 6) rfl rfl (.mk false (.inl rfl) ⟨rfl,.mk _ (Zfc (h3 5 5) (h3 6 6) rfl rfl) ⟨rfl,rfl,rfl,.ref (Ygs (frA (A:=[_]) h3) L (f.flush W.w ht0) hn hnl hm hr ht ha fun σ' x h'=>q σ' nr x h')⟩⟩)⟩)⟩)⟩⟩))⟩
end
end
section
section
variable {S:Addr->List Int->Prop}{k:Nat}{σ:Hp}{W:WA}{s d:Bool}{data:List V}{rs:List Addr}{nl:List V}{m:Nat}{fm:FM}{R:Ls}{n:Nat}{t t0:Tx}{ds:List Tx}
theorem Yj7 {nr:Addr}{v:V}(h:On σ (wX W s d data (dcl W (nr::rs)).dropLast (nl++[v]).dropLast (Uo (m + 1 + 1) (.bool false)).dropLast fm++(rc (nr::rs)++R))):On σ (wL W s d data rs nl m fm R):=by
 rw [<-Znw,Zb1,Zb1,Zxl] at h
 exact (On.sw (B:=[(nr,.list [])]) h).tl
theorem Ymu {nr:Addr}{v:V}{d':Bool}(h:On σ (wL W true d (strL ds) (nr::rs) (nl++[v]) (m + 1) fm R))(L:Zh0 W)(f:Fit n fm)(hn:n + 1 < 200)(hnl:nl.length < 1000)(hm:m<=900)(hr:rs.length < 1000)(ht:Zfb t)
  (hw:(ds.map Z5).sum + ds.length<=1000) (e:joinT [] ds=t0) (ht0:t0.length<=40) (hd:decide (((m + 1:Nat):Int)=1)=d')
  (q:∀ σ',On σ' (wL W true d' [] rs nl m (fp W.w (flushP W.w fm t0) ([60,47]++t++[62])) R)->Q .none σ'):Dk S (k + 7) 133 [.ref W.a,.str t] σ Q:=
 have lt:([60,47]++t).length<=102:=ap (a:=[60,47]) (p:=2) (Za rfl) ht.l
 have lp:(Uo (m + 1 + 1) (V.bool false)).length<=100000:=by rw [Zi1];exact Zb (Zu (Zu hm)) (Za rfl)
 Zc2 7 rfl rfl rfl ⟨rfl,Zf3 (h 5 5) (h 6 6) rfl rfl (.mk false rfl (Zx0 (k:=k) h L f (Zbn hn) hw e ht0 (.inr rfl) rfl fun σ1 h1=>
  ⟨rfl,.mk _ (.val (X6 (h1 5 5)) (X7 (h1 6 6)) rfl rfl) (.mk ⟨Za rfl,rfl,.mk _ (Zfc (h1 5 5) (h1 6 6) rfl rfl) ⟨rfl,.ref (.inl (.inl (Zub [] (Zp9 (k + 5)) h1 ht.c (Zb ht.l (Za rfl)) hr fun σ2 h2=>
   .tup (Za rfl) (by decide) rfl (.mk ⟨le5 (Zb ht.l (Za rfl)),.mk ⟨lt5 (Zm 2) ht.l (Za rfl),.mk ⟨lt5 lt (Zm 1) (Za rfl),.ref (Zzg h2 L (f.flush W.w ht0) hn (Zb (ap (q:=1) lt (Za rfl)) (Za rfl)) fun σ3 h3=>
    ⟨rfl,Zf3 (h3 5 5) (h3 6 6) rfl rfl (.mk _ (mkL .lPop rfl rfl (h3 11 11)) (.pop (h3 11 11) lp (List.getLast?_replicate.trans rfl) (Zox h3 11 rfl fun σh4 h4=>
     ⟨rfl,rfl,Zf3 (h4 5 5) (h4 6 6) rfl rfl (.bi (.lenL (h4 11 11) (Zb (List.dropLast_sublist _).length_le lp) (.mk d' (.inl (by rw [Zxl,Zi1];exact congrArg some hd)) ⟨rfl,.mk (X6 (h4 5 5)) (X7 (h4 6 6)) rfl (Za rfl) (Zox h4 6 rfl fun σh5 h5=>
      ⟨rfl,Zf3 (s:=true) (e:=d') (h5 5 5) (h5 6 6) rfl rfl (.mk _ (mkL .lPop rfl rfl (h5 8 8)) (.pop (h5 8 8) (by rw [Zh,XR,Yh];exact Zb (Zu hr) (Za rfl)) (by rw [<-Znw];exact XK) (Zox h5 8 rfl fun σh6 h6=>
       ⟨rfl,Zf3 (s:=true) (e:=d') (h6 5 5) (h6 6 6) rfl rfl (.mk _ (mkL .lPop rfl rfl (h6 10 10)) (.pop (h6 10 10) (by rw [Zf];exact le5 hnl) XK (q _ (Yj7 (h6.set 10 rfl)))))⟩)))⟩)⟩)))⟩)))⟩)⟩⟩⟩))))⟩⟩)⟩))⟩
end
end
section
noncomputable abbrev fsK (fd:YF)(lam dt dc ns pm ps n:Nat):List (Nat×V):=(Zqv ⟨⟨0,0,0,0,0⟩,0,0,0,dt,dc,0,ns,pm,ps,lam,0,fd⟩ false false).take n
section
variable {S:Addr->List Int->Prop}{k:Nat}{σ:Hp}{W:WA}{s d:Bool}{data:List V}{rs:List Addr}{nl:List V}{m:Nat}{fm:FM}{R:Ls}{n:Nat}{t t0:Tx}{ds:List Tx}
theorem setN {P:Fl->St->Prop}{lv:Nat->Option V}{cv:Nat->Option Addr}{a c d m:Nat}{fs:List (Nat×V)}{v:V}(e1:σ a=some (.inst c d))(e2:σ d=some (.at fs))(o:ownM c m=true)(l:Nat.ble fs.length 900=true)(hn:(fs.any fun p=>decide (p.1=m))=false)(q:P .next ⟨upd σ d (.at (fs++[(m,v)])),lv,cv⟩):Zxh lv cv P m v (.ref a) σ:=
 .mk (X6 e1) (X7 e2) o (Za l) (by rw [Zff,hn];exact q)
theorem Ybz (h:On σ (wL W true false (strL ds) rs nl m fm R))(L:Zh0 W)(f:Fit n fm)(hn:n + 1 < 200)(ht:t.length<=10)
  (hw:(ds.map Z5).sum + ds.length<=1000) (e:joinT [] ds=t0) (ht0:t0.length<=40)
  (q:∀ σ',On σ' (wL W true false [] rs nl m (fp W.w (flushP W.w fm t0) ([60,33,45,45]++escT t++[45,45,62])) R)->Q .none σ'):Dk S (k + 7) 140 [.ref W.a,.str t] σ Q:=
 have le:(escT t).length<=50:=Zb (Zkl t) (ZC 5 ht)
 have lt:([60,33,45,45]++escT t).length<=54:=ap (a:=[60,33,45,45]) (p:=4) (Za rfl) le
 Zc2 8 rfl rfl rfl ⟨rfl,Zf3 (h 5 5) (h 6 6) rfl rfl (.mk true rfl ⟨rfl,Zf3 (h 5 5) (h 6 6) rfl rfl (.mk false rfl ⟨rfl,Zf3 (h 5 5) (h 6 6) rfl rfl (.mk false rfl ⟨rfl,Zf3 (h 5 5) (h 6 6) rfl rfl (.mk true rfl ⟨rfl,Zf3 (h 5 5) (h 6 6) rfl rfl (.mk _ (Zj5 (h 7 7) (Zb (ZX (Zh _)) (le5 (Zb (Y6 _ _) hw)))) (by
  have fin:∀ σ1,On σ1 (wL W true false [] rs nl m (flushP W.w fm t0) R)->Zo (sEx (xMc (xLc 21) 30 (Zk (Zit (U6 (xV (.str [60,33,45,45])) (U6 (xFv (Yb (xGl 73) (Zk (xLc 97) (ZD)))) (U6 (xV (.str [45,45,62])) (Zow))))) (ZD)))) (Zo (Yx (Zo4 (bV (xAt (xLc 21) 47))) (Zo (sEx (xMc (xLc 21) 30 (Zk (xV (.str [10])) (ZD)))) (Zx)) (Zx)) (Zx)) (Dk S (k + 6)) (Zcv Q) ⟨σ1,lvB Ui [(21,.ref W.a),(97,.str t)],fun J=>none⟩:=fun σ1 h1=>
   ⟨rfl,.mk _ (.val (X6 (h1 5 5)) (X7 (h1 6 6)) rfl rfl) (.mk ⟨Za rfl,rfl,rfl,.ref (Zzi (Zb ht (Za rfl)) (.mk ⟨le5 (Zb le (Za rfl)),.mk ⟨lt5 (Zm 4) le (Za rfl),.mk ⟨lt5 lt (Zm 3) (Za rfl),.ref (Zzg h1 L (f.flush W.w ht0) hn (Zb (ap (q:=3) lt (Za rfl)) (Za rfl)) fun σ2 h2=>
    ⟨rfl,Zf3 (h2 5 5) (h2 6 6) rfl rfl (.mk true rfl (q σ2 h2))⟩)⟩⟩⟩))⟩)⟩
  cases ds with
  | nil=>cases e;exact fin σ h
  | cons x r=>exact ⟨rfl,.mk _ (Zfc (h 5 5) (h 6 6) rfl rfl) (.ref (Zzh h L f (Zbn hn) hw e ht0 fin))⟩))⟩)⟩)⟩)⟩)⟩theorem On.new2 {p1 p2:Addr×O}{L:Ls}{n:Addr}{o:O}(h:On σ (p1::p2::L))(hn:σ n=none):On (upd σ n o) (p1::p2::(n,o)::L):=On.sw (A:=[_]) (B:=[_,_]) (h.new hn)
theorem appO {p1 p2:Addr×O}{L:Ls}{n:Addr}{o:O}{a:Addr}{xs:List V}{v:V}(h:On σ ((n,o)::p1::p2::(a,.list xs)::L))(hl:xs.length<=100000)(q:∀ σ',On σ' (p1::p2::(a,.list (xs++[v]))::L)->Q .none σ'):Zjb Q σ .lAppend (.ref a) [v]:=
 .append (h 3 3) hl (q _ (h.set 3 rfl).tl)
theorem Zhr {P:Fl->St->Prop}{lv:Nat->Option V}{cv:Nat->Option Addr}{a c d m:Nat}{fs:List (Nat×V)}{v:V}{L:Ls}(fs':List (Nat×V))(h:On σ ((a,.inst c d)::(d,.at fs)::L))(o:ownM c m=true)(l:Nat.ble fs.length 900=true)(hn:(fs.any fun p=>decide (p.1=m))=false)(e:fs++[(m,v)]=fs')(q:∀ σ',On σ' ((a,.inst c d)::(d,.at fs')::L)->P .next ⟨σ',lv,cv⟩):Zxh lv cv P m v (.ref a) σ:=
 setN (h 0 0) (h 1 1) o l hn (q _ (e▸h.set 1 rfl))
theorem mkW {lam:Addr}(F:FA)(w:Int)(cell:Addr)(fd:YF)(h:On σ R)(q:∀ σ' a d dt dc r0 ns pm ps nl,nl.length=2->On σ' ([(a,.inst 150 d),(d,.at (Zqv ⟨F,w,a,d,dt,dc,r0,ns,pm,ps,lam,cell,fd⟩ false false)),(dt,.list []),(dc,.list [.ref r0]),(r0,.list [.tup [.str Zmw,.str Zvn]]),(ns,.list nl),(ps,.list [.bool false])]++R)->Q (.ref a) σ') :
  (DK S (k + 1)).2 (.ref lam) σ Q:=fun x dx hx hd ne=>
 ⟨rfl,rfl,Zhr (fsK fd lam 0 0 0 0 0 1) ((h.new (o:=.at []) hd).new (o:=.inst 150 dx) (Zay ne hx)) rfl rfl rfl rfl fun σ1 h1=>
 ⟨Zr _,fun dt hdt=>
 ⟨rfl,Zhr (fsK fd lam dt 0 0 0 0 2) (h1.new2 (o:=.list []) hdt) rfl rfl rfl rfl fun σ2 h2=>
 ⟨rfl,rfl,Zhr (fsK fd lam dt 0 0 0 0 3) h2 rfl rfl rfl rfl fun σ3 h3=>
 ⟨rfl,rfl,Zhr (fsK fd lam dt 0 0 0 0 4) h3 rfl rfl rfl rfl fun σ4 h4=>
 ⟨rfl,.mk false rfl ⟨rfl,Zhr (fsK fd lam dt 0 0 0 0 5) h4 rfl rfl rfl rfl fun σ5 h5=>
 ⟨rfl,.mk false rfl ⟨rfl,Zhr (fsK fd lam dt 0 0 0 0 6) h5 rfl rfl rfl rfl fun σ6 h6=>
 ⟨rfl,rfl,Zhr (fsK fd lam dt 0 0 0 0 7) h6 rfl rfl rfl rfl fun σ7 h7=>
 ⟨rfl,.mk false rfl ⟨rfl,Zhr (fsK fd lam dt 0 0 0 0 8) h7 rfl rfl rfl rfl fun σ8 h8=>
 ⟨rfl,.mk false rfl ⟨rfl,Zhr (fsK fd lam dt 0 0 0 0 9) h8 rfl rfl rfl rfl fun σ9 h9=>
 ⟨nofun,Za rfl,Za rfl,fun r0 hr0=>
 ⟨Za rfl,fun dc hdc=>
 ⟨rfl,Zhr (fsK fd lam dt dc 0 0 0 10) ((h9.new2 (o:=.list [.tup [.str Zmw,.str Zvn]]) hr0).new2 (o:=.list [.ref r0]) hdc) rfl rfl rfl rfl fun σ10 h10=>
 ⟨Zr _,fun ns hns=>
 ⟨rfl,Zhr (fsK fd lam dt dc ns 0 0 11) (h10.new2 (o:=.list []) hns) rfl rfl rfl rfl fun σ11 h11=>
 ⟨rfl,.mk false rfl ⟨rfl,.val (X6 (h11 0 0)) (X7 (h11 1 1)) rfl rfl (.mk _ (mkL .lAppend rfl rfl (h11 2 2)) fun vs n1 hvs hn1=>
  appO (h11.new (o:=.list vs) hn1) (Zr _) fun σ13 h13=>
 ⟨rfl,.val (X6 (h13 0 0)) (X7 (h13 1 1)) rfl rfl (.mk _ (mkL .lAppend rfl rfl (h13 2 2)) ⟨Zr _,fun n2 hn2=>
  appO (h13.new (o:=.list []) hn2) (Za rfl) fun σ14 h14=>fun pm hpm=>
 ⟨rfl,Zhr (fsK fd lam dt dc ns pm 0 12) (h14.new2 (o:=.dS []) hpm) rfl rfl rfl rfl fun σ15 h15=>
 ⟨Za rfl,fun ps hps=>
 ⟨rfl,Zhr (fsK fd lam dt dc ns pm ps 13) (h15.new2 (o:=.list [.bool false]) hps) rfl rfl rfl rfl fun σ16 h16=>
 ⟨rfl,Zhr (fsK fd lam dt dc ns pm ps 14) h16 rfl rfl rfl rfl fun σ17 h17=>
 ⟨rfl,Zhr (fsK fd lam dt dc ns pm ps 15) h17 rfl rfl rfl rfl fun σ18 h18=>
 ⟨rfl,Zhr (fsK fd lam dt dc ns pm ps 16) h18 rfl rfl rfl rfl fun σ19 h19=>
 ⟨rfl,Zhr (fsK fd lam dt dc ns pm ps 17) h19 rfl rfl rfl rfl fun σ20 h20=>
 .mk (q _ x dx dt dc r0 ns pm ps _ rfl (((((((((h20.fr 3 rfl).tl).fr 2 rfl).fr 3 rfl).fr 5 rfl).fr 5 rfl).fr 6 rfl).fr 6 rfl).fr 6 rfl))⟩⟩⟩⟩⟩⟩⟩⟩)⟩)⟩⟩⟩⟩⟩⟩⟩⟩⟩⟩⟩⟩⟩⟩⟩⟩⟩⟩⟩⟩⟩
end
end
section
noncomputable def q1 (u:Tx):Nat:=if u=[34] then 1 else 0
noncomputable def Zix (shut:Nat)(us:List Tx):Nat->List Tx:=us.rec (fun J=>[]) fun u r ih a=>if shut<=a\/(a % 2=0/\u≠[34]) then u::ih (a + q1 u) else ih (a + q1 u)noncomputable def Ymm (us:List Tx):List Tx:=Zix (us.count [34] / 2 * 2) us 0
noncomputable def KK (us:List Tx):Bool->List Tx:=us.rec (fun J=>[]) fun u r ih b=>if u=[34] then bif b then ih false else if [34]∈r then ih true else u::r else bif b then ih true else u::ih false
section
variable {u:Tx}{r us:List Tx}{a shut:Nat}
theorem Zmo (h:shut<=a\/(a % 2=0/\u≠[34])):Zix shut (u::r) a=u::Zix shut r (a + q1 u):=if_pos h
theorem Zmp (h : ¬ (shut<=a\/(a % 2=0/\u≠[34]))):Zix shut (u::r) a=Zix shut r (a + q1 u):=if_neg h
theorem Yfo (us:List Tx)(a:Nat)(h:shut<=a):Zix shut us a=us:=by
 induction us generalizing a with
 | nil=>rfl
 | cons u r ih=>rw [Zmo (.inl h),ih _ (Za8 h)]theorem Ymh (h:u≠[34]):q1 u=0:=if_neg h
theorem Yhm (b:Bool):KK ([34]::r) b=bif b then KK r false else if [34]∈r then KK r true else [34]::r:=if_pos (c:=([34]:Tx)=[34]) (e:=bif b then KK r true else [34]::KK r false) rfl
theorem Ycd (h:u≠[34])(b:Bool):KK (u::r) b=bif b then KK r true else u::KK r false:=if_neg (t:=bif b then KK r false else if [34]∈r then KK r true else u::r) h
theorem Ymp {a n:Nat}(h:a % 2=1)(hn:0 < n):a < (a + n) / 2 * 2:=by omega
theorem par0 {a:Nat}(h:a % 2=0):(a + 1) % 2=1:=by omega
theorem par1 {a:Nat}(h:a % 2=1):(a + 1) % 2=0:=by omega
theorem half0 {a:Nat}(h:a % 2=0):(a + 1 + 0) / 2 * 2<=a:=by omega
theorem half2 {a c:Nat}(h:a % 2=1) : ¬ (a + 1 + c) / 2 * 2<=a:=by omega
theorem Yo6 (us:List Tx)(a:Nat):(a % 2=0->Zix ((a + us.count [34]) / 2 * 2) us a=KK us false)/\(a % 2=1->[34]∈us->Zix ((a + us.count [34]) / 2 * 2) us a=KK us true):=by
 induction us generalizing a with
 | nil=>exact ⟨fun _=>rfl,nofun⟩
 | cons u r ih=>
  by_cases hu:u=[34]
  ·subst hu
   have hc:a + List.count [34] ([34]::r)=a + 1 + r.count [34]:=by rw [List.count_cons_self];exact Za9 a _ 1
   refine (hc)▸?_
   refine ⟨fun ha=>?_,fun ha _=>?_⟩
   ·rw [Yhm]
    by_cases hr:[34]∈r
    ·rw [Zmp,cond_false,if_pos hr]
     ·exact (ih (a + 1)).2 (par0 ha) hr
     ·have:=Ymp (a:=a + 1) (par0 ha) (Yh6.mpr hr)
      exact fun z=>z.elim (fun z=>absurd z (Nat.not_le.mpr (Zbn this))) fun z=>z.2 rfl
    ·have h0:r.count [34]=0:=Yh7.mpr hr
     have h1:(a + 1 + r.count [34]) / 2 * 2<=a:=by rw [h0];exact half0 ha
     rw [cond_false,if_neg hr,Zmo (.inl h1),Yfo _ _ (Za8 h1)]
   ·rw [Yhm,Zmp]
    ·exact (ih (a + 1)).1 (par1 ha)
    ·exact fun z=>z.elim (half2 ha) fun z=>z.2 rfl
  ·have hc:List.count [34] (u::r)=r.count [34]:=List.count_cons_of_ne hu
   rw [hc,Ycd hu,Ycd hu]
   refine ⟨fun ha=>?_,fun ha hm=>?_⟩
   ·rw [Zmo (.inr ⟨ha,hu⟩),Ymh hu]
    exact congrArg _ ((ih a).1 ha)
   ·have hr:[34]∈r:=(Xl.mp hm).resolve_left (Yck hu)
    have:=Ymp ha (Yh6.mpr hr)
    rw [Zmp,Ymh hu]
    ·exact (ih a).2 ha hr
    ·exact fun z=>z.elim (fun z=>absurd z (Nat.not_le.mpr this)) fun z=>Nat.zero_ne_one (z.1.symm.trans ha)theorem Yjs (us:List Tx):Ymm us=KK us false:=by have:=(Yo6 us 0).1 rfl;rw [Ua] at this;exact this
end
end
section
inductive Vu:List Tx->Prop
 | nil:Vu []
 | one {c r}:c≠92->Vu r->Vu ([c]::r)
 | esc {c r}:Vu r->Vu ([92,c]::r)
 | lone:Vu [[92]]noncomputable abbrev Yeh (pos:Nat)(u:Tx):V:=.tup [.int ((pos + u.length - 1:Nat):Int),.str u]noncomputable def Zgg (us:List Tx):Nat->List V:=us.rec (fun J=>[]) fun u r ih pos=>Yeh pos u::ih (pos + u.length)
theorem Zji {us:List Tx}(h:Vu us)(i:Nat):escL i false us.flatten=Zgg us i:=
 @Vu.rec (fun us J=>∀ i,escL i false us.flatten=Zgg us i) (fun J=>rfl) (fun hc J ih i=>(if_neg hc).trans (congrArg (XH _) (ih (i + 1)))) (fun J ih i=>congrArg (XH _) (ih (i + 2))) (fun i=>congrArg (fun z=>[V.tup [.int z,.str [92]]]) (XQ (i:Int) 1)) us h i
section
variable {S:Addr->List Int->Prop}{k:Nat}{σ:Hp}{R:Ls}
theorem Yd8 (A t1 t2:Tx):Zbj (A++(t1++t2)) (some (A.length:Int)) (some ((A.length + t1.length:Nat):Int))=t1:=by
 have e:∀ {n m:Nat},n<=m->X3 (n:Int) m=n:=fun h=>(if_neg (U4.mpr (Z4 _))).trans (Ip h)
 have hl:(A++(t1++t2)).length=A.length + (t1.length + t2.length):=by rw [Zf,Zf]
 show ((A++(t1++t2)).drop (X3 _ _)).take (X3 _ _ - X3 _ _)=_
 rw [e (by rw [hl];exact ZJ (Zn _ _) _),e (by rw [hl];exact Zn _ _),Zfs,Zam,Zsh]
theorem Yd9 (A t:Tx):Zbj (A++t) (some (A.length:Int)) none=t:=by
 have hl:(A++t).length=A.length + t.length:=Zf
 show ((A++t).drop (X3 _ _)).take ((A++t).length - X3 _ _)=_
 rw [show X3 (A.length:Int) (A++t).length=A.length from (if_neg (U4.mpr (Z4 _))).trans (Ip (hl▸Zn _ _)),Zfs,hl,Zam,Zcb]abbrev Zpm:FS:=Zo (Yx (YC .Eq (xLc 131) (xV (.str [34]))) (Zo (Yx (YC .Is (xLc 152) (xV .none)) (Zo (YM 152 (xLc 148)) (Zx)) (Zo (Yx (YC .NotEq (xLc 75) (xLc 152)) (Zo (sEx (xMc (xLc 153) 0 (Zk (Zfd (xLc 147) (xLc 75) (xLc 152) (xV .none)) (ZD)))) (Zx)) (Zx)) (Zo (YM 75 (Xv .Add (xLc 148) (xV (.int 1)))) (Zo (YM 152 (xV .none)) (Zx))))) (Zx)) (Zx)) (Zx)noncomputable def Zm8 (t2:Option Tx)(us:List Tx):Tx:=t2.elim (KK us false).flatten fun t=>bif decide ([34]∈us) then (KK us true).flatten else t++us.flatten
theorem Yog (r:List Tx):Zm8 none ([34]::r)=Zm8 (some [34]) r:=by
 refine (congrArg List.flatten (Yhm (r:=r) false)).trans ?_
 unfold Zm8
 by_cases hr:[34]∈r
 ·rw [cond_false,if_pos hr,Zdt,decide_eq_true hr];rfl
 ·rw [cond_false,if_neg hr,Zdt,decide_eq_false hr];rfl
theorem Yoe (t:Tx)(r:List Tx):Zm8 (some t) ([34]::r)=(KK r false).flatten:=by
 unfold Zm8
 rw [Zdt,decide_eq_true (.head _),Yhm];rfl
theorem Yof {u:Tx}(hu:u≠[34])(r:List Tx):Zm8 none (u::r)=u++Zm8 none r:=congrArg List.flatten (Ycd (r:=r) hu false)
theorem Yod {u:Tx}(hu:u≠[34])(t:Tx)(r:List Tx):Zm8 (some t) (u::r)=Zm8 (some (t++u)) r:=by
 unfold Zm8
 rw [Zdt,Zdt,Ycd hu]
 by_cases hr:[34]∈r
 ·rw [decide_eq_true hr,decide_eq_true (.tail _ hr)];rfl
 ·rw [decide_eq_false hr,decide_eq_false fun z=>(Xl.mp z).elim (fun z=>hu z.symm) hr];exact (Zw t u r.flatten).symm
noncomputable abbrev opV (A t1:Tx)(t2:Option Tx):V:=t2.elim .none fun J=>.int ((A.length + t1.length:Nat):Int)
theorem Zvv {Δ:Dl}{cv:Nat->Option Addr}{Do:PP}{P:Fl->St->Prop}{Rr:Addr}{text T:Tx}(hl:text.length<=1000)
  (q:∀ σ' (lv:Nat->Option V) A t res,text=A++t->T=res.flatten++t->On σ' ((Rr,.list (strL res))::R)->res.length<=A.length->(res.map Z5).sum<=A.length->lv 147=some (.str text)->lv 75=some (.int (A.length:Int))->lv 153=some (.ref Rr)->Do P ⟨σ',lv,cv⟩)
  (us:List Tx) (pos:Nat) (A t1:Tx) (t2:Option Tx) (res:List Tx) (lv:Nat->Option V) (hp:pos=A.length + t1.length + (t2.getD []).length) (e:text=A++(t1++(t2.getD []++us.flatten))) (hT:T=res.flatten++(t1++Zm8 t2 us)) (h:On σ ((Rr,.list (strL res))::R))
  (b1:res.length<=A.length) (b2:(res.map Z5).sum<=A.length) (l1:lv 147=some (.str text)) (l2:lv 75=some (.int (A.length:Int))) (l3:lv 152=some (opV A t1 t2)) (l4:lv 153=some (.ref Rr)) :
  Zce (Zpm Δ) (.tup [148,131]) (fun J=>True) Do P (Zgg us pos) ⟨σ,lv,cv⟩:=by
 induction us generalizing pos A t1 t2 res lv σ with
 | nil=>exact ⟨trivial,q σ lv A (t1++(t2.getD []++[])) res e (by cases t2 <;> exact hT) h b1 b2 l1 l2 l4⟩
 | cons u r ih=>
  subst hp
  by_cases hu:u=[34]
  ·subst hu
   cases t2 with
   | none=>
    refine ⟨trivial,.mk rfl ⟨rfl,.mk _ (.inl rfl) ⟨l3,.mk true (.inl rfl) ⟨rfl,ih _ A t1 (some [34]) res _ rfl e (Yog r▸hT) h b1 b2 l1 l2 rfl l4⟩⟩⟩⟩
   | some t=>
    have hT:T=res.flatten++(t1++(KK r false).flatten):=Yoe t r▸hT
    have hA:A.length + t1.length + t.length + 1=(A++(t1++(t++[34]))).length:=by rw [Zf,Zf,Zf];exact congrArg (· + 1) (Xc ..)
    have e':text=(A++(t1++(t++[34])))++r.flatten:=by rw [e];simp only [Zw];rfl
    have hge:A.length + t1.length + 1<=(A++(t1++(t++[34]))).length:=hA▸Zu (Zn _ _)
    have go:∀ (σ':Hp) (res':List Tx) (lv':Nat->Option V),T=res'.flatten++(KK r false).flatten->On σ' ((Rr,.list (strL res'))::R)->res'.length<=A.length + 1->(res'.map Z5).sum<=A.length + t1.length->lv' 147=some (.str text)->lv' 75=some (.int ((A.length + t1.length + t.length + 1 - 1:Nat) + 1:Int))->lv' 152=some .none->lv' 153=some (.ref Rr)->
      Zce (Zpm Δ) (.tup [148,131]) (fun J=>True) Do P (Zgg r (A.length + t1.length + t.length + 1)) ⟨σ',lv',cv⟩:=fun σ' res' lv' hT' h' c1 c2 m1 m2 m3 m4=>
     ih _ (A++(t1++(t++[34]))) [] none res' lv' (by rw [hA];rfl) e' hT' h' (Zb c1 (Zb (Zu (Zn _ _)) hge)) (Zb c2 (Yn hge)) m1 (m2.trans (congrArg (fun n:Nat=>some (V.int n)) hA)) m3 m4
    refine ⟨trivial,.mk rfl ⟨rfl,.mk _ (.inl rfl) ⟨l3,.mk false (.inl rfl) ⟨l2,l3,.mk _ (.inl rfl) ?_⟩⟩⟩⟩
    by_cases hn:t1=[]
    ·subst hn
     exact (decide_eq_false fun z=>z rfl).symm.rec ⟨rfl,.add (go σ res _ hT h (Xm b1) b2 l1 rfl rfl l4)⟩
    ·have hd:decide ((A.length:Int)≠((A.length + t1.length:Nat):Int))=true:=decide_eq_true fun z=>hn (Xj.mp (Nat.add_left_cancel (Zpe z).symm))
     have hs:Zbj text (some (A.length:Int)) (some ((A.length + t1.length:Nat):Int))=t1:=by rw [e];exact Yd8 A t1 _
     refine (hd)▸?_
     refine ⟨l4,.mk _ (mkL .lAppend rfl rfl (h 0 0)) ⟨l1,l2,l3,.str rfl rfl (le5 hl) (.append (h 0 0) ?_ ⟨rfl,.add (go _ (res++[t1]) _ ?_ ?_ ?_ ?_ l1 rfl rfl l4)⟩)⟩⟩
     ·rw [Zh];exact le5 (Zb b1 (Zb (e▸Zf▸Zn _ _) hl))
     ·rw [hT,Xf,Zw,KD]
     ·rw [hs,<-K8];exact h.up
     ·rw [Zf];exact Zu b1
     ·rw [ZF,X4];exact Yc b2 (Zm _)
  ·cases t2 with
   | none=>
    refine ⟨trivial,.mk rfl ⟨rfl,.mk _ (.inl rfl) ((decide_eq_false hu).symm.rec (ih _ A (t1++u) none res _ ?_ ?_ ?_ h b1 b2 l1 l2 l3 l4))⟩⟩
    ·rw [Zf];exact (Xc A.length t1.length u.length :)
    ·rw [e,Zw];rfl
    ·rw [hT,Yof hu,Zw]
   | some t=>
    refine ⟨trivial,.mk rfl ⟨rfl,.mk _ (.inl rfl) ((decide_eq_false hu).symm.rec (ih _ A t1 (some (t++u)) res _ ?_ ?_ ?_ h b1 b2 l1 l2 l3 l4))⟩⟩
    ·rw [Zb0,Zb0,Zf];exact Xc ..
    ·rw [e,Zb0,Zb0,Zw];rfl
    ·rw [hT,Yod hu]
end
end
section
section
variable {S:Addr->List Int->Prop}{k:Nat}{σ:Hp}{R:Ls}{us:List Tx}
theorem KZ (ts:List Tx):joinT [] ts=ts.flatten:=by
 induction ts with
 | nil=>rfl
 | cons t r ih=>
  cases r with
  | nil=>exact (ZK t).symm
  | cons u r=>show t++[]++joinT [] (u::r)=_;rw [ih,ZK];rfl
theorem Yle (us:List Tx)(h:[34]∉us):KK us false=us:=by
 induction us with
 | nil=>rfl
 | cons u r ih=>rw [Ycd fun z=>h (z▸.head _)];exact congrArg (XH u) (ih fun z=>h (.tail _ z))
theorem Zzc (hv:Vu us)(ha:Zen us.flatten=true)(hl:us.flatten.length<=1000)(h:On σ R)(q:∀ σ',On σ' R->Q (.str (KK us false).flatten) σ'):Dk S (k + 1) 343 [.str us.flatten] σ Q:=
 Zc2 20 rfl rfl rfl ⟨rfl,.mk _ (.inl rfl) (by
  by_cases hq:34∈us.flatten
  ·refine (decide_eq_false fun z=>z hq).symm.rec ⟨Zr _,fun Rr hR=>⟨Zp9 k,336,rfl,rfl,.mk (.esc ha) ?_⟩⟩
   rw [Zji hv]
   refine Zvv (T:=(KK us false).flatten) hl (fun σ2 lv A t res e hT h2 b1 b2 l1 l2 l4=>?_) us 0 [] [] none [] _ rfl rfl rfl (h.new hR) (Zm _) (Zm _) rfl rfl rfl rfl
   have ht:us.flatten.length=A.length + t.length:=by rw [e,Zf]
   have hm:(strL res).length<=1000:=by rw [Zh];exact Zb b1 (Zb (Zb (Zn _ _) (ZX ht.symm)) hl)
   refine ⟨l2,rfl,l1,.bi (.lenS (le5 hl) (.mk _ (.inl rfl) ?_))⟩
   by_cases hc:t=[]
   ·subst hc
    refine (decide_eq_false fun z=>by rw [ht] at z;exact absurd z (Int.lt_irrefl _)).symm.rec (.mk _ (mkS .sJoin rfl rfl) ⟨l4,.join (h2 0 0) (Zr _) (Ku res) (lt5 (Zb b2 (Zb (ZX ht.symm) hl)) (Zb b1 (Zb (ZX ht.symm) hl)) (Za rfl)) ?_⟩)
    rw [KZ,<-ZK res.flatten,<-hT]
    exact q _ h2.tl
   ·have hd:decide ((A.length:Int) < (us.flatten.length:Int))=true:=decide_eq_true (by rw [ht];exact Zdq.mpr (Zal (Yhj.mpr hc)))
    have hs:Zbj us.flatten (some (A.length:Int)) none=t:=by rw [e];exact Yd9 A t
    have h3:=h2.up (o':=.list (strL (res++[t])))
    refine (hd)▸?_
    refine ⟨l4,.mk _ (mkL .lAppend rfl rfl (h2 0 0)) ⟨l1,l2,.str rfl rfl (le5 hl) (.append (h2 0 0) (le5 hm) ?_)⟩⟩
    rw [hs,K8]
    refine .mk _ (mkS .sJoin rfl rfl) ⟨l4,.join (h3 0 0) (Zr _) (Ku _) (lt5 (p:=1000) (q:=1001) ?_ ?_ (Za rfl)) ?_⟩
    ·rw [ZF,X4];exact Zb (Yc b2 (Zm t.length)) (Zb (ZX ht.symm) hl)
    ·rw [Zf];exact Zu (Zh (as:=res) V.str▸hm)
    ·rw [KZ,Xf,KD,<-hT];exact q _ h3.tl
  ·refine (decide_eq_true hq).symm.rec ?_
   have:=q σ h
   rw [Yle us fun z=>hq (Zhj.mpr ⟨_,z,.head _⟩)] at this
   exact ⟨rfl,this⟩)⟩
end
end
section
noncomputable def Zje (us:List Tx):Int->Bool:=us.rec (fun o=>decide (o=0)) fun u r ih o=>bif decide (u=[40]) then ih (o + 1) else bif decide (u=[41]) then (bif decide (o - 1 < 0) then false else ih (o - 1)) else ih o
abbrev Yaz:FS:=Zo (Yx (YC .Eq (xLc 131) (xV (.str [40]))) (Zo (Zm4 155 .Add (xV (.int 1))) (Zx)) (Zo (Yx (YC .Eq (xLc 131) (xV (.str [41]))) (Zo (Zm4 155 .Sub (xV (.int 1))) (Zo (Yx (YC .Lt (xLc 155) (xV (.int 0))) (Zo (Zao (xV (.bool false))) (Zx)) (Zx)) (Zx))) (Zx)) (Zx))) (Zx)
section
variable {S:Addr->List Int->Prop}{k:Nat}{σ:Hp}{R:Ls}{us:List Tx}
theorem Zwc {Δ:Dl}{cv:Nat->Option Addr}{Do:PP}{P:Fl->St->Prop}{b:Bool}(q1:∀ (lv:Nat->Option V) (o:Int),lv 155=some (.int o)->decide (o=0)=b->Do P ⟨σ,lv,cv⟩)(q2:∀ lv,false=b->P (.ret (.bool false)) ⟨σ,lv,cv⟩)
  (us:List Tx) (pos:Nat) (o:Int) (lv:Nat->Option V) (hb:Zje us o=b) (l1:lv 155=some (.int o)):Zce (Yaz Δ) (.tup [148,131]) (fun J=>True) Do P (Zgg us pos) ⟨σ,lv,cv⟩:=by
 induction us generalizing pos o lv with
 | nil=>exact ⟨trivial,q1 lv o l1 hb⟩
 | cons u r ih=>
  refine ⟨trivial,.mk rfl ⟨rfl,.mk _ (.inl rfl) ?_⟩⟩
  revert hb
  show (bif decide (u=[40]) then _ else _)=b->_
  cases decide (u=[40]) with
  | true=>exact fun hb=>.mk l1 (.add (ih _ _ _ hb rfl))
  | false=>
   refine fun hb=>⟨rfl,.mk _ (.inl rfl) ?_⟩
   revert hb
   cases decide (u=[41]) with
   | false=>exact fun hb=>ih _ _ _ hb l1
   | true=>
    refine fun hb=>.mk l1 (.sub ⟨rfl,.mk _ (.inl rfl) ?_⟩)
    revert hb
    cases decide (o - 1 < 0) with
    | true=>exact fun hb=>q2 _ hb
    | false=>exact fun hb=>ih _ _ _ hb rfl
theorem Zjv (us:List Tx)(b:Bool):(KK us b).Sublist us:=by
 induction us generalizing b with
 | nil=>exact .slnil
 | cons u r ih=>
  by_cases hu:u=[34]
  ·subst hu
   rw [Yhm]
   cases b with
   | true=>exact .cons _ (ih _)
   | false=>
    rw [cond_false]
    split
    ·exact .cons _ (ih _)
    ·exact .refl _
  ·rw [Ycd hu]
   cases b with
   | true=>exact .cons _ (ih _)
   | false=>exact .cons_cons _ (ih _)
theorem Vu.sub {us ks:List Tx}(h:Vu us)(s:ks.Sublist us):Vu ks:=by
 induction h generalizing ks with
 | nil=>cases s;exact .nil
 | one hc h ih=>cases s with
  | cons _ s=>exact ih s
  | cons_cons _ s=>exact .one hc (ih s)
 | esc h ih=>cases s with
  | cons _ s=>exact ih s
  | cons_cons _ s=>exact .esc (ih s)
 | lone=>cases s with
  | cons _ s=>cases s;exact .nil
  | cons_cons _ s=>cases s;exact .lone
theorem Zzk {us ks:List Tx}(ha:Zen us.flatten=true)(s:ks.Sublist us):Zen ks.flatten=true:=Yo.mpr fun c hc=>(Zhj.mp hc).elim fun u hu=>Yo.mp ha c (Zhj.mpr ⟨u,s.subset hu.1,hu.2⟩)
theorem Ykk (hv:Vu us)(ha:Zen us.flatten=true)(hl:us.flatten.length<=1000)(h:On σ R)(q:∀ σ',On σ' R->Q (.bool (Zje (KK us false) 0)) σ'):Dk S (k + 2) 350 [.str us.flatten] σ Q:=
 Zc2 21 rfl rfl rfl ⟨rfl,rfl,.ref (Zzc hv ha hl h fun σ1 h1=>⟨Zp9 (k + 1),336,rfl,rfl,.mk (.esc (Zzk ha (Zjv us false))) (by
  rw [Zji (hv.sub (Zjv us false))]
  exact Zwc (b:=Zje (KK us false) 0) (fun lv o l1 e=>⟨l1,.mk _ (.inl rfl) (e▸q σ1 h1)⟩) (fun lv e=>e▸q σ1 h1) _ 0 0 _ rfl rfl)⟩)⟩
end
end
section
noncomputable abbrev Yei:V:=.tup [.str [],.str []]noncomputable abbrev isB (u:Tx):Bool:=u.getLast? == some 91
noncomputable abbrev dueV (pos:Nat)(u:Tx):V:=bif isB u then Yei else Yeh pos u
noncomputable def Zmb (us:List Tx):Nat->List V:=us.rec (fun J=>[]) fun u r ih pos=>dueV pos u::ih (pos + u.length)abbrev Zts:FS:=Zo (Yx (YC .In (xV (.str [91])) (YK (xLc 79) (xV (.int 1)))) (Zo (YM 79 (Zc1 (Zk (xV (.str [])) (Zk (xV (.str [])) (ZD))))) (Zx)) (Zx)) (Zo (sEx (xMc (xLc 158) 0 (Zk (xLc 79) (ZD)))) (Zx))
section
variable {S:Addr->List Int->Prop}{k:Nat}{σ:Hp}{R:Ls}{us:List Tx}
theorem Yaw {Δ:Dl}{cv:Nat->Option Addr}{Do:PP}{P:Fl->St->Prop}{Rn A:Addr}{l0:List V}(us:List Tx)(pos:Nat)(acc:List V)(lv:Nat->Option V)(hu:∀ u∈us,decide (91∈u)=isB u)(hl:acc.length + us.length<=1000)(h:On σ ((Rn,.list acc)::(A,.list l0)::R))(l1:lv 158=some (.ref Rn))
  (q:∀ σ' (lv:Nat->Option V),On σ' ((Rn,.list (acc++Zmb us pos))::(A,.list l0)::R)->lv 158=some (.ref Rn)->Do P ⟨σ',lv,cv⟩):Zce (Zts Δ) (.one 79) (fun st=>st.σ A=some (.list l0)) Do P (Zgg us pos) ⟨σ,lv,cv⟩:=by
 induction us generalizing pos acc lv σ with
 | nil=>exact ⟨h 1 1,q σ lv (by rw [show Zmb [] pos=[] from rfl,ZK];exact h) l1⟩
 | cons u r ih=>
  have go:∀ (lv':Nat->Option V) (v:V),v=dueV pos u->lv' 79=some v->lv' 158=some (.ref Rn)->Zo (sEx (xMc (xLc 158) 0 (Zk (xLc 79) (ZD)))) (Zx) Δ (Zp5 (Zce (Zts Δ) (.one 79) (fun st=>st.σ A=some (.list l0)) Do P (Zgg r (pos + u.length))) P) ⟨σ,lv',cv⟩:=fun lv' v hv m1 m2=>
   ⟨m2,.mk _ (mkL .lAppend rfl rfl (h 0 0)) ⟨m1,.append (h 0 0) (le5 (Zb (Zn _ _) hl)) (ih (pos + u.length) (acc++[v]) lv' (fun u hm=>hu u (.tail _ hm)) (by rw [Zf,Xc,Xu [v].length];exact hl) h.up m2 fun σ' lv' h' m=>q σ' lv' (by rw [hv,Zw] at h';exact h') m)⟩⟩
  refine ⟨h 1 1,rfl,.tup (Za rfl) (by decide) rfl (.mk _ (.inl rfl) ?_)⟩
  refine ((hu u (.head _)))▸?_
  cases e:isB u with
  | true=>exact ⟨nofun,Za rfl,go _ Yei (by unfold dueV;rw [e];rfl) rfl l1⟩
  | false=>exact go _ (Yeh pos u) (by unfold dueV;rw [e];rfl) rfl l1
theorem Ypw {A:Addr}(h:On σ ((A,.list (Zgg us 0))::R))(hu:∀ u∈us,decide (91∈u)=isB u)(hl:us.length<=1000)(q:∀ σ' Rn,On σ' ((Rn,.list (Zmb us 0))::R)->Q (.ref Rn) σ'):Dk S (k + 1) 357 [.ref A] σ Q:=
 Zc2 22 rfl rfl rfl ⟨Zr _,fun Rn hR=>⟨rfl,.mk (.list ((h.new hR) 1 1)) (Yaw us 0 [] _ hu (Zb (ZX (Ua _)) hl) (h.new hR) rfl fun σ' lv h' l1=>⟨l1,q σ' Rn (On.sw (A:=[_]) (B:=[_]) h').tl⟩)⟩⟩
theorem Zvr (us:List Tx)(pos:Nat):(Zgg us pos).length=us.length:=by
 induction us generalizing pos with
 | nil=>rfl
 | cons u r ih=>exact congrArg Zbc (ih _)
theorem Zze (hv:Vu us)(ha:Zen us.flatten=true)(hl:us.flatten.length<=1000)(hn:us.length<=1000)(hu:∀ u∈us,decide (91∈u)=isB u)(h:On σ R)(q:∀ σ' Rn,On σ' ((Rn,.list (Zmb (KK us false) 0))::R)->Q (.ref Rn) σ'):Dk S (k + 2) 369 [.str us.flatten] σ Q:=
 Zc2 24 rfl rfl rfl ⟨rfl,Zp9 (k + 1),336,rfl,rfl,rfl,.ref (Zzc hv ha hl h fun σ1 h1=>.mk (.esc (Zzk ha (Zjv us false))) (by
  have hk:=Zb (Zjv us false).length_le hn
  rw [Zji (hv.sub (Zjv us false))]
  exact ⟨by rw [Zvr];exact hk,fun J J J=>trivial,fun A hA=>.ref (Ypw (h1.new hA) (fun u hm=>hu u ((Zjv us false).subset hm)) hk q)⟩))⟩
end
end
section
noncomputable abbrev Zc6:List Tx:=[[40],[41],[60],[40],[41],[34],[40],[41],[92,40],[38],[92,34],[91],[92,41],[92,92],[62],[92,91]]noncomputable abbrev intL (ds:List Nat):List V:=ds.map fun (d:Nat)=>V.int (d:Int)noncomputable abbrev intS (ds:List Nat):Int:=(ds.map fun (d:Nat)=>(d:Int)).sum
noncomputable abbrev tab (d:Nat):Tx:=Zc6.getD d []noncomputable def unitsF (ds:List Nat):List Tx:=ds.map tab++(bif decide ((intS ds).fmod 3=2) then [[92]] else [])
section
variable {S:Addr->List Int->Prop}{k:Nat}{σ:Hp}{R:Ls}{us:List Tx}
theorem Zic {α:Type}(l:List α)(n:Nat):Zfa l (n:Int)=l[n]?:=if_pos (Z4 n)
theorem Zsz {d:Nat}(hd:d < 16):Zc6[d]? = some (tab d):=by
 show Zc6[d]? = some (Zc6.getD d [])
 rw [Up,ZG (l:=Zc6) hd,Zb0]
theorem Yin {d:Nat}(hd:d < 16):Zfa (strL Zc6) (d:Int)=some (.str (tab d)):=
 (Zic _ d).trans (Yd.trans (congrArg (Zql V.str) (Zsz hd)))
theorem Zvs {Δ:Dl}{cv:Nat->Option Addr}{K:Hp->Prop}{D T c A:Addr}{l0:List V}(hc:cv 161=some c)(ds:List Nat)(acc:List V)(lv:Nat->Option V)(hd:∀ d∈ds,d < 16)(hl:acc.length + ds.length<=1000)(h:On σ ((D,.list acc)::(T,.list (strL Zc6))::(c,.cell (some (.ref T)))::(A,.list l0)::R))
  (q:∀ σ',On σ' ((D,.list (acc++strL (ds.map tab)))::(T,.list (strL Zc6))::(c,.cell (some (.ref T)))::(A,.list l0)::R)->K σ'):compL Δ (.one 163) (fun st=>st.σ A=some (.list l0)) bT (YK (xCl 161) (xLc 163)) D K (intL ds) ⟨σ,lv,cv⟩:=by
 induction ds generalizing acc lv σ with
 | nil=>exact ⟨h 3 3,q σ (by rw [show strL (([]:List Nat).map tab)=[] from rfl,ZK];exact h)⟩
 | cons d r ih=>
  exact ⟨h 3 3,.mk hc (h 2 2) ⟨rfl,.list (h 1 1) (Za rfl) (Yin (hd d (.head _))) (.mk (h 0 0) (le5 (Zb (Zn _ _) hl)) (ih (acc++[.str (tab d)]) _ (fun d hm=>hd d (.tail _ hm))
   (by rw [Zf,Xc,Xu [V.str (tab d)].length];exact hl) h.up fun σ' h'=>q σ' (by rw [Zw] at h';exact h')))⟩⟩
theorem Zwu (is:List Nat):Zno (intL is)=some (is.map fun (d:Nat)=>(d:Int)):=by
 induction is with
 | nil=>rfl
 | cons i r ih=>exact congrArg (Zql ((i:Int)::·)) ih
theorem Yde {Δ:Dl}{A:Addr}{ds:List Nat}(e:σ A=some (.list (intL ds)))(hd:∀ d∈ds,d < 16)(hl:ds.length<=900)(q:Q (.int (intS ds)) σ):Zd1 Δ Q σ (.bi .sum) [.ref A]:=
 .bi (.sum e (Zwu ds) (by rw [Zh];exact Zb hl (Za rfl)) (fun i hi=>(Ys.mp hi).elim fun d hd'=>hd'.2▸⟨Z4 d,YZ.mpr (Zb (Y8 (hd d hd'.1)) (Za rfl))⟩) q)
theorem Yki {A:Addr}{ds:List Nat}(h:On σ ((A,.list (intL ds))::R))(hl:ds.length<=900)(hd:∀ d∈ds,d < 16)(q:∀ σ' U,On σ' ((U,.list (strL (unitsF ds)))::(A,.list (intL ds))::R)->Q (.ref U) σ'):Dk S (k + 1) 362 [.ref A] σ Q:=
 Zc2 23 rfl rfl rfl fun c hc=>Zdo h hc fun σh0 h0=>
  ⟨Za rfl,fun T hT=>Zdo (o:=.list (strL Zc6)) h0 hT fun σh1 h1=>
   .mk rfl (h1 1 1) (have h2:=h1.set 1 rfl (o':=.cell (some (.ref T)))
   ⟨fun i hi=>by cases Xb.mp (hi:i∈[161]);rfl,rfl,.mk (.list (h2 2 2)) fun D hD=>Zvs (by rfl) ds [] _ hd (Zb (ZX (Ua _)) (Zb hl (Za rfl))) (h2.new hD) fun σ3 h3=>
    ⟨rfl,rfl,Yde (h3 3 3) hd hl (.mod (by decide) (.mk _ (.inl rfl) (by
     revert q
     unfold unitsF
     cases decide ((intS ds).fmod 3=2) with
     | true=>exact fun q=>⟨rfl,.mk _ (mkL .lAppend rfl rfl (h3 0 0)) (.append (h3 0 0) (by rw [Zf,Zh,Zh];exact le5 (Zb (ZX (Ua _)) (Zb hl (Za rfl)))) ⟨rfl,q _ D (by rw [cond_true,<-K8];exact (On.sw (A:=[_]) (B:=[_,_]) h3.up).drop 2)⟩)⟩
     | false=>exact fun q=>⟨rfl,q σ3 D (by rw [cond_false,ZK];exact (On.sw (A:=[_]) (B:=[_,_]) h3).drop 2)⟩)))⟩⟩)⟩
end
end
section
abbrev Znj:FS:=Zo (YM 179 (xMc (Zfd (xLc 162) (xV .none) (xLc 78) (xV .none)) 2 (Zk (xV (.str [34])) (ZD)))) (Zo (Yx (bOr (YC .GtE (xLc 179) (xLc 177)) (Zc8 (YC .Eq (Xv .Mod (xLc 179) (xV (.int 2))) (xV (.int 0))) (YC .NotEq (YK (xLc 162) (xLc 78)) (xV (.str [34]))))) (Zo (sEx (xMc (xLc 178) 0 (Zk (YK (xLc 162) (xLc 78)) (ZD)))) (Zx)) (Zx)) (Zx))noncomputable abbrev upL (i n:Nat):List V:=(Zpc i n).map fun (k:Nat)=>V.int k
section
variable {S:Addr->List Int->Prop}{k:Nat}{σ:Hp}{R:Ls}{us:List Tx}
theorem Zlj {i n:Nat}(h:i<=n):X3 (i:Int) n=i:=(if_neg (U4.mpr (Z4 _))).trans (Ip h)
theorem Ztn {α:Type}(a b:List α):Zbj (a++b) none (some (a.length:Int))=a:=by
 show ((a++b).drop 0).take (X3 _ _ - 0)=_
 rw [Zlj (by rw [Zf];exact Zn _ _)]
 exact Zsh
theorem Zv3 (pre rest:List Tx):Zbj (strL (pre++rest)) none (some (pre.length:Int))=strL pre:=by
 have:=Ztn (strL pre) (strL rest)
 rw [Zh,<-ZF] at this;exact this
theorem Zgm (pre:List Tx)(u:Tx)(r:List Tx):Zfa (strL (pre++u::r)) (pre.length:Int)=some (.str u):=by
 rw [Zic,strL,ZF,XM (by rw [Zh];exact Zm _),Zh,Zdp];rfl
theorem Ybg {Δ:Dl}{cv:Nat->Option Addr}{Do:PP}{P:Fl->St->Prop}{K U:Addr}{sh:Nat}(hu:us.length<=1000)(rest pre acc:List Tx)(lv:Nat->Option V)(e:us=pre++rest)(hl:acc.length<=pre.length)(h:On σ ((K,.list (strL acc))::(U,.list (strL us))::R))
  (l1:lv 162=some (.ref U)) (l2:lv 178=some (.ref K)) (l3:lv 177=some (.int (sh:Int)))
  (q:∀ σ' (lv:Nat->Option V),On σ' ((K,.list (strL (acc++Zix sh rest (pre.count [34]))))::(U,.list (strL us))::R)->lv 178=some (.ref K)->Do P ⟨σ',lv,cv⟩):Zce (Znj Δ) (.one 78) (fun J=>True) Do P (upL pre.length rest.length) ⟨σ,lv,cv⟩:=by
 induction rest generalizing pre acc lv σ with
 | nil=>exact ⟨trivial,q σ lv (by rw [show Zix sh [] _=[] from rfl,ZK];exact h) l2⟩
 | cons u r ih=>
  subst e
  have hU:(strL (pre++u::r)).length<=100000:=by rw [Zh];exact le5 hu
  have hA:(strL acc).length<=100000:=by rw [Zh];exact le5 (Zb hl (Zb (Zb (Zn _ _) (ZX Zf.symm)) hu))
  have e1:pre++u::r=(pre++[u])++r:=(Zw pre [u] r).symm
  have hc:(pre++[u]).count [34]=pre.count [34] + q1 u:=by
   rw [List.count_append];refine congrArg _ ?_
   unfold q1;by_cases z:u=[34]
   ·subst z;rfl
   ·rw [if_neg z];exact Yh7.mpr fun y=>z (Xb.mp y).symm
  have hn:(pre++[u]).length=pre.length + 1:=Zf
  have stay:∀ σ' (lv':Nat->Option V),¬ (sh<=pre.count [34]\/(pre.count [34] % 2=0/\u≠[34]))->On σ' ((K,.list (strL acc))::(U,.list (strL (pre++u::r)))::R)->lv' 162=some (.ref U)->lv' 178=some (.ref K)->lv' 177=some (.int (sh:Int))->Zce (Znj Δ) (.one 78) (fun J=>True) Do P (upL (pre.length + 1) r.length) ⟨σ',lv',cv⟩:=fun σ' lv' hno h' m1 m2 m3=>
   hn▸ih (pre++[u]) acc lv' e1 (Zb hl (hn▸ZW _)) h' m1 m2 m3 (by rw [hc];rw [Zmp hno] at q;exact q)
  have take:∀ σ' (lv':Nat->Option V),(sh<=pre.count [34]\/(pre.count [34] % 2=0/\u≠[34]))->On σ' ((K,.list (strL acc))::(U,.list (strL (pre++u::r)))::R)->lv' 162=some (.ref U)->lv' 178=some (.ref K)->lv' 177=some (.int (sh:Int))->lv' 78=some (.int (pre.length:Int))->
    Zo (sEx (xMc (xLc 178) 0 (Zk (YK (xLc 162) (xLc 78)) (ZD)))) (Zx) Δ (kSeq Δ (Zp5 (Zce (Znj Δ) (.one 78) (fun J=>True) Do P (upL (pre.length + 1) r.length)) P) Zx) ⟨σ',lv',cv⟩:=fun σ' lv' hyes h' m1 m2 m3 m4=>
   ⟨m2,.mk _ (mkL .lAppend rfl rfl (h' 0 0)) ⟨m1,m4,.list (h' 1 1) hU (Zgm pre u r) (.append (h' 0 0) hA (hn▸ih (pre++[u]) (acc++[u]) lv' e1 (by rw [Zf,hn];exact Zu hl) (by rw [<-K8];exact h'.up) m1 m2 m3 (by rw [hc,Zw];rw [Zmo hyes] at q;exact q)))⟩⟩
  refine ⟨trivial,l1,rfl,.list rfl rfl (h 1 1) hU fun n1 hn1=>?_⟩
  have h1:=h.new (o:=.list (strL pre)) hn1
  rw [Zv3]
  refine .mk _ (mkL .lCount rfl rfl (h1 0 0)) (.count (h1 0 0) (Ku pre) ⟨rfl,l3,.mk _ (.inl rfl) ?_⟩)
  by_cases c1:sh<=pre.count [34]
  ·rw [decide_eq_true (YZ.mpr c1)]
   exact take _ _ (.inl c1) h1.tl l1 l2 l3 rfl
  ·rw [decide_eq_false fun z=>c1 (YZ.mp z)]
   refine ⟨rfl,.mod (by decide) (.mk _ (.inl rfl) ?_)⟩
   by_cases c2:pre.count [34] % 2=0
   ·rw [show decide (((pre.count [34]:Nat):Int).fmod 2=0)=true from decide_eq_true ((Int.ofNat_fmod (pre.count [34]) 2).symm.trans (congrArg Zbg c2))]
    refine ⟨l1,rfl,.list (h1 2 2) hU (Zgm pre u r) (.mk _ (.inl rfl) ?_)⟩
    by_cases c3:u=[34]
    ·rw [decide_eq_false fun z=>z c3]
     exact stay _ _ (fun z=>z.elim c1 fun z=>z.2 c3) h1.tl l1 l2 l3
    ·rw [decide_eq_true c3]
     exact take _ _ (.inr ⟨c2,c3⟩) h1.tl l1 l2 l3 rfl
   ·rw [show decide (((pre.count [34]:Nat):Int).fmod 2=0)=false from decide_eq_false fun z=>c2 (Zpe ((Int.ofNat_fmod (pre.count [34]) 2).trans z))]
    exact stay _ _ (fun z=>z.elim c1 fun z=>c2 z.1) h1.tl l1 l2 l3
theorem Zrc {Δ:Dl}{Wb:PP}{tg:Tg}{Do:PP}{P:Fl->St->Prop}{lv:Nat->Option V}{cv:Nat->Option Addr}{i:Int}(m:Nat)(hi:i=m)(hm:m<=1000)(q:Zce Wb tg (fun J=>True) Do P (upL 0 m) ⟨σ,lv,cv⟩) :
  Zd1 Δ (Yqk Wb tg Do P lv cv) σ (.bi .range) [.int i]:=by
 subst hi;exact .bi (.rng1 (.mk (.rng (Iv (m:=0) (Zr _)) (Iv hm) (.inl rfl)) (Zpu m▸q)))
theorem Ypy {U:Addr}(h:On σ ((U,.list (strL us))::R))(hu:us.length<=1000)(q:∀ σ' K,On σ' ((K,.list (strL (Ymm us)))::(U,.list (strL us))::R)->Q (.ref K) σ'):Dk S (k + 1) 383 [.ref U] σ Q:=
 have hc:us.count [34]<=1000:=Zb List.count_le_length hu
 Zc2 26 rfl rfl rfl ⟨rfl,.mk _ (mkL .lCount rfl rfl (h 0 0)) (.count (h 0 0) (Ku us) (.fdiv (Iv hc) (by decide) (by decide) (by
  rw [show ((us.count [34]:Nat):Int).fdiv 2=((us.count [34] / 2:Nat):Int) from (Int.ofNat_fdiv _ 2).symm]
  exact .mult (Iv (m:=us.count [34] / 2) (Zb (Nat.div_le_self _ _) hc)) (Iv (m:=2) (Za rfl)) ⟨Zr _,fun K hK=>Zdo h hK fun σh1 h1=>
  ⟨rfl,rfl,rfl,.bi (.lenL (h1 1 1) (by rw [Zh];exact le5 hu) (Zrc us.length (congrArg Zbg (Zh _)) hu (Ybg (sh:=us.count [34] / 2 * 2) hu us [] [] _ rfl (Zm _) h1 rfl rfl rfl fun σ' lv h' l=>⟨l,q σ' K h'⟩)))⟩⟩)))⟩
end
end
section
abbrev Zy9:FS:=Zo (Yx (YC .Eq (YK (YK (xLc 178) (xLc 78)) (Zdj (xV (.int 1)))) (xV (.str [91]))) (Zo (sEx (xMc (xLc 181) 0 (Zk (Zc1 (Zk (xV (.str [])) (Zk (xV (.str [])) (ZD)))) (ZD)))) (Zx)) (Zo (sEx (xMc (xLc 181) 0 (Zk (Zc1 (Zk (Xv .Sub (Yb (xGl 64) (Zk (xMc (xV (.str [])) 3 (Zk (Zfd (xLc 178) (xV .none) (Xv .Add (xLc 78) (xV (.int 1))) (xV .none)) (ZD))) (ZD))) (xV (.int 1))) (Zk (YK (xLc 178) (xLc 78)) (ZD)))) (ZD)))) (Zx))) (Zx)
section
variable {S:Addr->List Int->Prop}{k:Nat}{σ:Hp}{R:Ls}{us:List Tx}
theorem Zel (ts:List Tx):ts.flatten.length=(ts.map Z5).sum:=Yhk
theorem Ygj {Δ:Dl}{cv:Nat->Option Addr}{Do:PP}{P:Fl->St->Prop}{K U:Addr}(hu:us.length<=900)(hf:us.flatten.length<=1000)(hne:∀ u∈us,u≠[])(rest pre:List Tx)(acc:List V)(lv:Nat->Option V)(e:us=pre++rest)(hl:acc.length<=pre.length)(h:On σ ((K,.list acc)::(U,.list (strL us))::R))
  (l1:lv 178=some (.ref U)) (l2:lv 181=some (.ref K))
  (q:∀ σ' (lv:Nat->Option V),On σ' ((K,.list (acc++Zmb rest pre.flatten.length))::(U,.list (strL us))::R)->lv 181=some (.ref K)->Do P ⟨σ',lv,cv⟩):Zce (Zy9 Δ) (.one 78) (fun J=>True) Do P (upL pre.length rest.length) ⟨σ,lv,cv⟩:=by
 induction rest generalizing pre acc lv σ with
 | nil=>exact ⟨trivial,q σ lv (by rw [show Zmb [] _=[] from rfl,ZK];exact h) l2⟩
 | cons u r ih=>
  subst e
  have hU:(strL (pre++u::r)).length<=100000:=by rw [Zh];exact Zb hu (Za rfl)
  have hA:acc.length<=100000:=Zb hl (Zb (Zb (Zn _ _) (ZX Zf.symm)) (Zb hu (Za rfl)))
  have e1:pre++u::r=(pre++[u])++r:=(Zw pre [u] r).symm
  have hn:(pre++[u]).length=pre.length + 1:=Zf
  have hp:(pre++[u]).flatten.length=pre.flatten.length + u.length:=by rw [Xf,Zf,KD]
  have hpl:(pre++[u]).flatten.length<=1000:=by rw [e1,Xf,Zf] at hf;exact Zb (Zn _ _) hf
  have hpn:(pre++[u]).length<=1000:=by rw [e1,Zf] at hu;exact Zb (Zb (Zn _ _) hu) (Za rfl)
  have hul:u.length<=1000:=by rw [hp] at hpl;exact Zb (Y6 _ _) hpl
  have next:∀ (v:V) (σ':Hp) (lv':Nat->Option V),v=dueV pre.flatten.length u->On σ' ((K,.list (acc++[v]))::(U,.list (strL (pre++u::r)))::R)->lv' 178=some (.ref U)->lv' 181=some (.ref K)->Zce (Zy9 Δ) (.one 78) (fun J=>True) Do P (upL (pre.length + 1) r.length) ⟨σ',lv',cv⟩:=fun v σ' lv' hv h' m1 m2=>
   hn▸ih (pre++[u]) (acc++[v]) lv' e1 (by rw [Zf,hn];exact Zu hl) h' m1 m2 (by rw [hp,hv,Zw];exact q)
  refine ((K9 u).resolve_left (hne u (Xe _ (.head _)))).elim fun l hr50=>hr50.elim fun c hc=>?_
  replace hc:=(UW)▸hc
  have hb:isB u=decide (([c]:Tx)=[91]):=by
   rw [isB,hc,XK]
   by_cases z:c=91
   ·subst z;rfl
   ·rw [decide_eq_false fun y=>z (Xg y).1];exact beq_false_of_ne fun y=>z (Z1 y)
  refine ⟨trivial,l1,rfl,.list (h 1 1) hU (Zgm pre u r) (.mk 1 (.str (le5 hul) (hc▸Zc7 l c) (.mk _ (.inl rfl) ?_)))⟩
  refine (hb)▸?_
  cases eb:isB u with
  | true=>exact ⟨l2,.mk _ (mkL .lAppend rfl rfl (h 0 0)) ⟨nofun,Za rfl,.append (h 0 0) hA (next Yei _ _ (by unfold dueV;rw [eb];rfl) h.up l1 l2)⟩⟩
  | false=>
   refine ⟨l2,.mk _ (mkL .lAppend rfl rfl (h 0 0)) ⟨rfl,.mk _ (mkS .sJoin rfl rfl) ⟨l1,rfl,.add (.list rfl rfl (h 1 1) hU fun n1 hn1=>?_)⟩⟩⟩
   have hs:Zbj (strL (pre++u::r)) none (some ((pre.length:Int) + 1))=strL (pre++[u]):=by rw [e1];have:=Zv3 (pre++[u]) r;rw [hn] at this;exact this
   refine (hs)▸?_
   have h1:=h.new (o:=.list (strL (pre++[u]))) hn1
   refine .join (h1 0 0) (Zr _) (Ku _) (lt5 (p:=1000) (q:=1000) (by rw [<-Zel];exact hpl) hpn (Za rfl)) ?_
   rw [KZ]
   refine .bi (.lenS (le5 hpl) (.sub ⟨l1,rfl,.list (h1 2 2) hU (Zgm pre u r) ⟨nofun,Za rfl,.append (h1 1 1) hA (next _ _ _ ?_ (h1.set 1 rfl).tl l1 l2)⟩⟩))
   rw [dueV,eb,hp]
   exact congrArg (fun z=>V.tup [.int z,.str u]) (Int.ofNat_sub (Zb (hc▸Zf▸Zu (Zr _)) (Y6 _ _))).symm
theorem c_due {U:Addr}(h:On σ ((U,.list (strL us))::R))(hu:us.length<=900)(hf:us.flatten.length<=1000)(hne:∀ u∈us,u≠[])(q:∀ σ' K,On σ' ((K,.list (Zmb us 0))::(U,.list (strL us))::R)->Q (.ref K) σ'):Dk S (k + 1) 390 [.ref U] σ Q:=
 Zc2 27 rfl rfl rfl ⟨Zr _,fun K hK=>Zdo h hK fun σh1 h1=>
  ⟨rfl,rfl,rfl,.bi (.lenL (h1 1 1) (by rw [Zh];exact Zb hu (Za rfl)) (Zrc us.length (congrArg Zbg (Zh _)) (Zb hu (Za rfl)) (Ygj hu hf hne us [] [] _ rfl (Zm _) h1 rfl rfl fun σ' lv h' l=>⟨l,q σ' K h'⟩)))⟩⟩
end
end
section
noncomputable def rowsR (w:Int)(bs:List Tx):List Tx->Tx->List Tx:=bs.rec (fun rows last=>rows++[last]) fun b r ih rows last=>bif decide (w < (last.length:Int) + b.length) then ih (rows++[last]) b else ih rows (last++b)abbrev Ydy:FS:=Zo (Yx (YC .Gt (Xv .Add (Yb (xGl 64) (Zk (YK (xLc 195) (Zdj (xV (.int 1)))) (ZD))) (Yb (xGl 64) (Zk (xLc 196) (ZD)))) (xLc 166)) (Zo (sEx (xMc (xLc 195) 0 (Zk (xLc 196) (ZD)))) (Zx)) (Zo (Zj7 (Xv .Add (YK (xLc 195) (Zdj (xV (.int 1)))) (xLc 196)) (xLc 195) (Zdj (xV (.int 1)))) (Zx))) (Zx)
section
variable {S:Addr->List Int->Prop}{k:Nat}{σ:Hp}{R:Ls}{w:Int}
theorem Yiu (x:Tx)(l:List Tx):Zbj (strL (x::l)) (some 1) none=strL l:=by
 show ((strL (x::l)).drop (X3 ((1:Nat):Int) _)).take ((strL (x::l)).length - X3 ((1:Nat):Int) _)=_
 rw [Zlj (i:=1) (n:=(strL (x::l)).length) (Zu (Zr _))]
 show (strL l).take ((strL l).length + 1 - 1)=_
 rw [Yk9,Zcb]def Yb8 (rows:List Tx)(last:Tx)(r:List Tx):Prop:=((rows.map Z5).sum + (last.length + (r.map Z5).sum)<=10000)/\(rows.length + r.length<=900)def Yb8.s0 (z:@Yb8 rows last r):=z.1
def Yb8.n (z:@Yb8 rows last r):=z.2
theorem Yaq {Δ:Dl}{cv:Nat->Option Addr}{Do:PP}{P:Fl->St->Prop}{Rw Sl:Addr}{l0:List V}(bs rows:List Tx)(last:Tx)(lv:Nat->Option V)(B:Yb8 rows last bs)(h:On σ ((Rw,.list (strL rows++[.str last]))::(Sl,.list l0)::R))(l1:lv 195=some (.ref Rw))(l2:lv 166=some (.int w))
  (q:∀ σ' (lv:Nat->Option V) rows' last',rowsR w bs rows last=rows'++[last']->Yb8 rows' last' []->On σ' ((Rw,.list (strL rows'++[.str last']))::(Sl,.list l0)::R)->lv 195=some (.ref Rw)->Do P ⟨σ',lv,cv⟩):Zce (Ydy Δ) (.one 196) (fun st=>st.σ Sl=some (.list l0)) Do P (strL bs) ⟨σ,lv,cv⟩:=by
 induction bs generalizing rows last lv σ with
 | nil=>exact ⟨h 1 1,q σ lv rows last rfl B h l1⟩
 | cons b r ih=>
  have hs:=B.s0
  have hr:(strL rows++[V.str last]).length<=1000:=by rw [Zf,Zh];exact Zb (Zu (Zb (Zn _ _) B.n)) (Za rfl)
  have l5:∀ {n},n<=last.length + b.length->n<=100000:=fun h=>Zb h (Zb (Zb (ZJ (Zn _ _) _) (Zb (Y6 _ _) hs)) (Za rfl))
  refine ⟨h 1 1,rfl,l1,.mk 1 (.list (h 0 0) (le5 hr) (Zc7 _ _) (.bi (.lenS (l5 (Zn _ _)) ⟨rfl,rfl,.bi (.lenS (l5 (Y6 _ _)) (.add ⟨l2,.mk _ (.inl rfl) ?_⟩))⟩)))⟩
  revert q
  show (∀ σ' (lv:Nat->Option V) rows' last',(bif decide (w < (last.length:Int) + b.length) then rowsR w r (rows++[last]) b else rowsR w r rows (last++b))=rows'++[last']->_)->_
  cases decide (w < (last.length:Int) + b.length) with
  | true=>exact fun q=>⟨l1,.mk _ (mkL .lAppend rfl rfl (h 0 0)) ⟨rfl,.append (h 0 0) (le5 hr) (ih (rows++[last]) b _ ⟨by rw [ZF,X4,Xc];exact hs,by rw [Zf,Xc,Xu [last].length];exact B.n⟩ (by rw [<-K8];exact h.up) l1 l2 q)⟩⟩
  | false=>exact fun q=>⟨l1,.mk 1 (.list (h 0 0) (le5 hr) (Zc7 _ _) ⟨rfl,.addS (l5 (Zm _)) ⟨l1,.mk 1 (.list (h 0 0) (le5 hr) (Zf▸Z8 _) (ih rows (last++b) _ ⟨by rw [Zf,Xc last.length];exact hs,Zb (ZJ (ZW _) _) B.n⟩ (by rw [Zb1];exact h.up) l1 l2 q))⟩⟩)⟩
theorem Ypv {B:Addr}{b0:Tx}{bs:List Tx}(h:On σ ((B,.list (strL (b0::bs)))::R))(hs:b0.length + (bs.map Z5).sum<=10000)(hn:bs.length<=900)(q:∀ σ',Q (.str (joinT [10] (rowsR w bs [] b0))) σ'):Dk S (k + 1) 407 [.ref B,.int w] σ Q:=
 have hB:(strL (b0::bs)).length<=1000:=by rw [Zh];exact Zb (Zu hn) (Za rfl)
 Zc2 30 rfl rfl rfl ⟨rfl,.list (h 0 0) (le5 hB) rfl ⟨Za rfl,fun Rw hR=>Zdo h hR fun σh1 h1=>
  ⟨rfl,.list rfl rfl (h1 1 1) (le5 hB) fun Sl hS=>by
   rw [Yiu]
   have h2:=On.sw (A:=[_]) (B:=[_]) (h1.new (o:=.list (strL bs)) hS)
   exact .mk (.list (h2 1 1)) (Yaq bs [] b0 _ ⟨Zb (ZX (Ua _)) hs,Zb (ZX (Ua _)) hn⟩ h2 rfl rfl fun σ' lv rows' last' e B' h' l=>.mk _ (mkS .sJoin rfl rfl) ⟨l,.join (h' 0 0) (Za rfl) (K8 rows' last'▸Ku _) (lt5 (p:=10000) (q:=901) (by rw [ZF,X4];exact B'.s0) (Zf▸Zu B'.n) (Za rfl)) (e▸q _)⟩)⟩⟩⟩
end
end
section
noncomputable abbrev isBr (u:Tx):Bool:=([.str [40],.str [41]]:List V).any fun v=>Zmz v (.str u)noncomputable def stillR (us:List Tx):Nat->List Nat:=us.rec (fun J=>[]) fun u r ih i=>bif isBr u then i::ih (i + 1) else ih (i + 1)
section
variable {S:Addr->List Int->Prop}{k:Nat}{σ:Hp}{R:Ls}{ks:List Tx}
theorem Zt8 (l:List Nat)(n:Nat):intL l++[.int (n:Int)]=intL (l++[n]):=(ZF (l₁:=l) (l₂:=[n])).symm
theorem Zvx {Δ:Dl}{cv:Nat->Option Addr}{K:Hp->Prop}{D U c:Addr}(hc:cv 178=some c)(hl:ks.length<=900)(rest pre:List Tx)(acc:List Nat)(lv:Nat->Option V)(e:ks=pre++rest)(ha:acc.length<=pre.length)(h:On σ ((D,.list (intL acc))::(c,.cell (some (.ref U)))::(U,.list (strL ks))::R))
  (q:∀ σ',On σ' ((D,.list (intL (acc++stillR rest pre.length)))::(c,.cell (some (.ref U)))::(U,.list (strL ks))::R)->K σ') :
  compL Δ (.one 78) (fun J=>True) (YC .In (YK (xCl 178) (xLc 78)) (Zc1 (Zk (xV (.str [40])) (Zk (xV (.str [41])) (ZD))))) (xLc 78) D K (upL pre.length rest.length) ⟨σ,lv,cv⟩:=by
 induction rest generalizing pre acc lv σ with
 | nil=>exact ⟨trivial,q σ (by rw [show stillR [] _=[] from rfl,ZK];exact h)⟩
 | cons u r ih=>
  subst e
  have hU:(strL (pre++u::r)).length<=100000:=by rw [Zh];exact Zb hl (Za rfl)
  have hn:(pre++[u]).length=pre.length + 1:=Zf
  have ih:=fun (acc:List Nat) (ha:acc.length<=pre.length + 1) {σ:Hp} (lv:Nat->Option V) (h:On σ ((D,.list (intL acc))::(c,.cell (some (.ref U)))::(U,.list (strL (pre++u::r)))::R)) (e:acc++stillR r (pre.length + 1)=_)=>
   hn▸ih (pre++[u]) acc lv (Zw pre [u] r).symm (hn▸ha) h (by rw [hn,e];exact q)
  refine ⟨trivial,.mk hc (h 1 1) ⟨rfl,.list (h 2 2) hU (Zgm pre u r) ⟨nofun,Za rfl,.mk (isBr u) (.inr (.inT rfl)) ?_⟩⟩⟩
  have hs:stillR (u::r) pre.length=bif isBr u then pre.length::stillR r (pre.length + 1) else stillR r (pre.length + 1):=rfl
  cases eb:isBr u with
  | true=>exact ⟨rfl,.mk (h 0 0) (by rw [Zh];exact Zb ha (Zb (Zb (Zn _ _) (ZX Zf.symm)) (Zb hl (Za rfl)))) (ih (acc++[pre.length]) (Zf▸Zu ha) _ (by rw [<-Zt8];exact h.up) (by rw [hs,eb,Zw];rfl))⟩
  | false=>exact ih acc (Xm ha) _ h (by rw [hs,eb];rfl)
end
end
section
noncomputable abbrev MT:=List (Int×V)noncomputable abbrev NM:=Nat->Option Nat
noncomputable abbrev Zm7 (f:NM)(a b:Nat):NM:=upd (upd f a b) b a
noncomputable abbrev Ymi (m:MT)(a b:Nat):MT:=Zff (Zff m (a:Int) (.int (b:Int))) (b:Int) (.int (a:Int))def LookM (m:MT)(f:NM):Prop:=∀ j:Nat,m.lookup (j:Int)=(f j).map fun b=>V.int (b:Int)
theorem LookM.put {m:MT}{f:NM}(h:LookM m f)(a b:Nat):LookM (Zff m (a:Int) (.int (b:Int))) (upd f a b):=fun j=>by
 rw [Zly]
 by_cases z:j=a
 ·subst z;rw [if_pos rfl,Zcc];rfl
 ·rw [if_neg fun y=>z (Zxm.mp y),Zbq z];exact h j
noncomputable abbrev Zfh (ks:List Tx)(a b:Nat):Bool:=decide (ks.getD a []=[40])&&decide (ks.getD b []=[41])noncomputable def runZ (ks:List Tx)(R:List Nat):List Nat->NM->List Nat×NM:=R.rec (fun L m=>(L.reverse,m)) fun b J ih L m=>L.rec (ih [b] m) fun a L' J=>bif Zfh ks a b then ih L' (Zm7 m a b) else ih (b::a::L') m
abbrev Zyp:FB:=YC .Lt (xLc 78) (Yb (xGl 64) (Zk (xLc 183) (ZD)))abbrev Zyq:FS:=Zo (Yx (Zc8 (YC .Eq (YK (xCl 178) (YK (xLc 183) (Xv .Sub (xLc 78) (xV (.int 1))))) (xV (.str [40]))) (YC .Eq (YK (xCl 178) (YK (xLc 183) (xLc 78))) (xV (.str [41])))) (Zo (Zj7 (YK (xLc 183) (xLc 78)) (xLc 184) (YK (xLc 183) (Xv .Sub (xLc 78) (xV (.int 1))))) (Zo (Zj7 (YK (xLc 183) (Xv .Sub (xLc 78) (xV (.int 1)))) (xLc 184) (YK (xLc 183) (xLc 78))) (Zo (YM 183 (Xv .Add (Zfd (xLc 183) (xV .none) (Xv .Sub (xLc 78) (xV (.int 1))) (xV .none)) (Zfd (xLc 183) (Xv .Add (xLc 78) (xV (.int 1))) (xV .none) (xV .none)))) (Zo (YM 78 (Yb (xGl 185) (Zk (Xv .Sub (xLc 78) (xV (.int 1))) (Zk (xV (.int 1)) (ZD))))) (Zx))))) (Zo (Zm4 78 .Add (xV (.int 1))) (Zx))) (Zx)
section
variable {S:Addr->List Int->Prop}{k:Nat}{σ:Hp}{R0:Ls}{ks:List Tx}
theorem Zif {a:Addr}{xs:List V}{i:Int}{v:V}(m:Nat)(hi:i=m)(h:σ a=some (.list xs))(hl:xs.length<=100000)(e:xs[m]? = some v)(q:Q v σ):Zrq Q σ (.ref a) (.int i):=by
 subst hi;exact .list h hl ((Zic _ _).trans e) q
theorem Zyw {a:Nat}(h:a < ks.length):Zfa (strL ks) (a:Int)=some (.str (ks.getD a [])):=by
 rw [Zic,strL,Yd,Up,ZG h];rfl
theorem max1 (n:Nat):max (n:Int) 1=((max n 1:Nat):Int):=(Yca n 1).elim (fun h=>(Zcg (YZ.mpr h)).trans (congrArg Zbg (Nat.max_eq_right h).symm)) fun h=>(Int.max_eq_left (YZ.mpr h)).trans (congrArg Zbg (Zsb h).symm)
theorem Yar {α:Type}(a b:List α):Zbj (a++b) (some (a.length:Int)) none=b:=by
 show ((a++b).drop (X3 _ _)).take ((a++b).length - X3 _ _)=_
 rw [Zlj (by rw [Zf];exact Zn _ _),Zfs,Zf,Zam,Zcb]
theorem Zrd {K:Type}[DecidableEq K](m:List (K×V))(k:K)(v:V):(Zff m k v).length<=m.length + 1:=by
 rw [Ztq];split
 ·exact ZW _
 ·exact Zm _
def Zgu (ks:List Tx)(lv:Nat->Option V)(cv:Nat->Option Addr)(σ:Hp)(R0:Ls)(st M c U:Addr)(L R:List Nat)(m:MT)(f:NM):Prop:=On σ ((st,.list (intL (L.reverse++R)))::(M,.dI m)::(c,.cell (some (.ref U)))::(U,.list (strL ks))::R0)/\LookM m f/\(lv 78=some (.int ((max L.length 1:Nat):Int)))/\(lv 183=some (.ref st))/\(lv 184=some (.ref M))/\(L.length + R.length<=900)/\(m.length + 2 * R.length<=5000)/\(∀ x∈L.reverse++R,x < ks.length)def Zgu.h {st}(z:@Zgu ks lv cv σ R0 st M c U L R m f):=z.1
def Zgu.lk {st}(z:@Zgu ks lv cv σ R0 st M c U L R m f):=z.2.1
def Zgu.l1 {st}(z:@Zgu ks lv cv σ R0 st M c U L R m f):=z.2.2.1
def Zgu.l2 {st}(z:@Zgu ks lv cv σ R0 st M c U L R m f):=z.2.2.2.1
def Zgu.l3 {st}(z:@Zgu ks lv cv σ R0 st M c U L R m f):=z.2.2.2.2.1
def Zgu.hl {st}(z:@Zgu ks lv cv σ R0 st M c U L R m f):=z.2.2.2.2.2.1
def Zgu.hm {st}(z:@Zgu ks lv cv σ R0 st M c U L R m f):=z.2.2.2.2.2.2.1
def Zgu.hx {st}(z:@Zgu ks lv cv σ R0 st M c U L R m f):=z.2.2.2.2.2.2.2
theorem Zwl {Δ:Dl}{cv:Nat->Option Addr}{P:Fl->St->Prop}{M c U:Addr}{T:List Nat×NM}(hc:cv 178=some c)(hks:ks.length<=900)
  (q:∀ σ' (lv:Nat->Option V) st m,LookM m T.2->On σ' ((st,.list (intL T.1))::(M,.dI m)::(c,.cell (some (.ref U)))::(U,.list (strL ks))::R0)->lv 183=some (.ref st)->lv 184=some (.ref M)->P .next ⟨σ',lv,cv⟩)
  (n:Nat) (L R:List Nat) (m:MT) (f:NM) (st:Addr) (σ:Hp) (lv:Nat->Option V) (hn:R.length + 1<=n) (s:Zgu ks lv cv σ R0 st M c U L R m f) (hT:runZ ks R L f=T):whL Zyp Zyq Δ P n ⟨σ,lv,cv⟩:=by
 induction n generalizing L R m f st σ lv with
 | zero=>exact absurd hn (Yhg _)
 | succ n ih=>
  have hS:∀ {L R:List Nat},L.length + R.length<=900->(intL (L.reverse++R)).length<=100000:=fun h=>by rw [Zh,Zf,Yh];exact Zb h (Za rfl)
  have stop:∀ (L:List Nat) (lv:Nat->Option V),Zgu ks lv cv σ R0 st M c U L [] m f->runZ ks [] L f=T->whL Zyp Zyq Δ P (n + 1) ⟨σ,lv,cv⟩:=fun L lv s hT=>by
   subst hT
   refine ⟨s.l1,rfl,s.l2,.bi (.lenL (s.h 0 0) (hS s.hl) (.mk false (.inl (congrArg some (decide_eq_false fun z=>?_))) (q σ lv st m s.lk (by show On σ ((st,.list (intL L.reverse))::_);rw [<-ZK L.reverse];exact s.h) s.l2 s.l3)))⟩
   rw [Zh,ZK,Yh] at z
   exact Ug.mpr (Nat.le_max_left _ _) (Zdq.mp z)
  have core:∀ (a:Nat) (L R:List Nat) (lv:Nat->Option V),R.length + 1<=n + 1->Zgu ks lv cv σ R0 st M c U (a::L) R m f->runZ ks R (a::L) f=T->whL Zyp Zyq Δ P (n + 1) ⟨σ,lv,cv⟩:=fun a L R lv hn s hT=>by
   cases R with
   | nil=>exact stop (a::L) lv s hT
   | cons b R=>
    revert hT
    show (bif Zfh ks a b then runZ ks R L (Zm7 f a b) else runZ ks R (b::a::L) f)=T->_
    intro hT
    have h:=s.h
    rw [Y7,Zw] at h
    have hl:=s.hl
    have hlR:L.length + R.length<=900:=Zb (Yc (ZW _) (ZW _)) hl
    have hx:=s.hx
    rw [Y7,Zw] at hx
    have hr:L.reverse.length=L.length:=Yh
    have k1:lv 78=some (.int ((L.length + 1:Nat):Int)):=s.l1.trans (congrArg (fun z:Nat=>some (V.int (z:Int))) (Zsb (Zu (Zr L.length))))
    have hk:((L.length + 1:Nat):Int) - 1=(L.length:Int):=(congrArg (· - 1) (Ze3 L.length 1)).trans (XQ _ _)
    have hS':(intL (L.reverse++([a]++b::R))).length<=100000:=by
     have:=hS s.hl;rw [Y7,Zw] at this;exact this
    have hU:(strL ks).length<=100000:=by rw [Zh];exact Zb hks (Za rfl)
    have ea:(intL (L.reverse++([a]++b::R)))[L.length]? = some (.int (a:Int)):=by
     rw [Yd,XM (ZX hr),hr,Zdp];rfl
    have eb:(intL (L.reverse++([a]++b::R)))[L.length + 1]? = some (.int (b:Int)):=by
     rw [Yd,XM (hr▸ZW _),hr,Zam];rfl
    have on:runZ ks R (b::a::L) f=T->∀ (lv':Nat->Option V),lv' 78=some (.int (((L.length + 1:Nat):Int) + 1))->lv' 183=some (.ref st)->lv' 184=some (.ref M)->whL Zyp Zyq Δ P n ⟨σ,lv',cv⟩:=fun hT lv' m1 m2 m3=>
     ih (b::a::L) R m f st σ lv' (Za7 hn) ⟨(by rw [Y7,Zw];exact s.h),s.lk,m1.trans (congrArg (fun z:Nat=>some (V.int (z:Int))) (Zsb (Zu (Zr _))).symm),m2,m3,(by rw [XR,Za9];exact hl),Zb (ZJ (ZC 2 (ZW _)) _) s.hm,(by rw [Y7,Zw];exact s.hx)⟩ hT
    refine ⟨k1,rfl,s.l2,.bi (.lenL (h 0 0) hS' (.mk true (.inl (congrArg some (decide_eq_true ?_))) ?_))⟩
    ·show ((L.length + 1:Nat):Int) < _
     rw [Zh,Zf,hr]
     exact Zdq.mpr (Yh1 (Nat.succ_lt_succ (Nat.zero_lt_succ _)) _)
    ·refine .mk hc (h 2 2) ⟨s.l2,k1,.sub (Zif L.length hk (h 0 0) hS' ea (.list (h 3 3) hU (Zyw (hx a (Xe _ (.head _)))) (.mk _ (.inl rfl) ?_)))⟩
     generalize h1:decide (ks.getD a []=[40])=d1
     generalize h2:decide (ks.getD b []=[41])=d2
     rw [Zfh,h1,h2] at hT
     cases d1 with
     | false=>exact ⟨k1,.add (on hT _ rfl s.l2 s.l3)⟩
     | true=>
      refine .mk hc (h 2 2) ⟨s.l2,k1,Zif (L.length + 1) rfl (h 0 0) hS' eb (.list (h 3 3) hU (Zyw (hx b (Xe _ (.tail _ (.head _))))) (.mk _ (.inl rfl) ?_))⟩
      refine (h2)▸?_
      cases d2 with
      | false=>exact ⟨k1,.add (on hT _ rfl s.l2 s.l3)⟩
      | true=>
       have hm:m.length + 2<=5000:=Zb (ZJ (ZC 2 (Zu (Zr R.length))) _) s.hm
       refine ⟨s.l2,k1,Zif (L.length + 1) rfl (h 0 0) hS' eb ⟨s.l3,s.l2,k1,.sub (Zif L.length hk (h 0 0) hS' ea (.dI (h 1 1) (Zb (Zn _ 2) (Zb hm (Za rfl))) (Zox h 1 rfl fun σ1 (h1:On σ1 ((st,.list (intL (L.reverse++([a]++b::R))))::(M,.dI (Zff m (a:Int) (.int (b:Int))))::(c,.cell (some (.ref U)))::(U,.list (strL ks))::R0))=>?_)))⟩⟩
       refine ⟨s.l2,k1,.sub (Zif L.length hk (h1 0 0) hS' ea ⟨s.l3,s.l2,k1,Zif (L.length + 1) rfl (h1 0 0) hS' eb (.dI (h1 1 1) (Zb (Zrd _ _ _) (Zb (ZW _) (Zb hm (Za rfl)))) (Zox h1 1 rfl fun σ2 (h2:On σ2 ((st,.list (intL (L.reverse++([a]++b::R))))::(M,.dI (Ymi m a b))::(c,.cell (some (.ref U)))::(U,.list (strL ks))::R0))=>?_))⟩)⟩
       refine ⟨s.l2,k1,.sub (.list rfl (congrArg (fun z=>some (some z)) hk) (h2 0 0) hS' fun n1 e1=>Zdo h2 e1 fun σ3 h3=>?_)⟩
       rw [show Zbj (intL (L.reverse++([a]++b::R))) none (some (L.length:Int))=intL L.reverse from by
        rw [intL,ZF];have:=Ztn (intL L.reverse) (intL ([a]++b::R));rw [Zh,hr] at this;exact this] at h3
       refine ⟨s.l2,k1,.add (.list rfl rfl (h3 1 1) hS' fun n2 e2=>Zdo h3 e2 fun σ4 h4=>?_)⟩
       rw [show Zbj (intL (L.reverse++([a]++b::R))) (some (((L.length + 1:Nat):Int) + 1)) none=intL R from by
        rw [show L.reverse++([a]++b::R)=(L.reverse++[a,b])++R from (Zw L.reverse [a,b] R).symm,intL,ZF]
        have:=Yar (intL (L.reverse++[a,b])) (intL R);rw [Zh,Zf,hr] at this;exact this] at h4
       refine .addL (h4 1 1) (h4 0 0) (by rw [Zh,Zh,hr];exact Zb hlR (Za rfl)) fun n3 e3=>Zdo h4 e3 fun σ5 h5=>?_
       rw [show intL L.reverse++intL R=intL (L.reverse++R) from ZF.symm] at h5
       refine ⟨rfl,k1,.sub (.bi (.max ?_))⟩
       exact ih L R (Ymi m a b) (Zm7 f a b) n3 _ _ (Za7 hn) ⟨((((h5.fr 1 rfl).tl.fr 1 rfl).tl.fr 1 rfl).tl),(s.lk.put a b).put b a,(congrArg (fun z:Int=>some (V.int z)) ((congrArg (max · 1) hk).trans (max1 L.length))),rfl,s.l3,hlR,(Zb (Yr (Zb (Zrd _ _ _) (Zu (Zrd _ _ _))) _) (by have:=s.hm;rw [XR,Yhh,Xu (2 * R.length),<-Xc] at this;exact this)),(fun x hx'=>hx x ((Ziq.mp hx').elim (Ycn _) fun z=>Xe _ (.tail _ (.tail _ z))))⟩ hT
  cases L with
  | cons a L=>exact core a L R lv hn s hT
  | nil=>
   cases R with
   | nil=>exact stop [] lv s hT
   | cons b R=>exact core b [] R lv (Yn hn) ⟨s.h,s.lk,s.l1,s.l2,s.l3,(by have:=s.hl;rw [XR] at this;rw [XR,Za9];exact this),Zb (ZJ (ZC 2 (ZW _)) _) s.hm,s.hx⟩ hT
theorem Zs4 (us:List Tx)(i:Nat):(stillR us i).length<=us.length/\∀ x∈stillR us i,x < i + us.length:=by
 induction us generalizing i with
 | nil=>exact ⟨Zm _,Yp _⟩
 | cons u r ih=>
  have h:=ih (i + 1)
  have hx:∀ x∈stillR r (i + 1),x < i + (r.length + 1):=fun x hx=>Yk8 (h.2 x hx) (by rw [Xc,Xu 1])
  show (bif isBr u then i::stillR r (i + 1) else stillR r (i + 1)).length<=r.length + 1/\∀ x∈(bif isBr u then i::stillR r (i + 1) else stillR r (i + 1)),x < i + (r.length + 1)
  cases isBr u with
  | true=>exact ⟨Zu h.1,Zi.mpr ⟨Zal (Z8 _),hx⟩⟩
  | false=>exact ⟨Xm h.1,hx⟩
theorem Yd2 {Δ:Dl}{fr:List Nat}{t:Tg}{b:FB}{e:FX}{cv:Nat->Option Addr}{i:Int}(m:Nat)(hi:i=m)(hm:m<=1000)(q:∀ D,σ D=none->compL Δ t (fun J=>True) b e D (Q (.ref D)) (upL 0 m) ⟨upd σ D (.list []),fun J=>none,cvF fr cv⟩):Zd1 Δ (Ynd Δ fr t b e cv Q) σ (.bi .range) [.int i]:=by
 subst hi;exact .bi (.rng1 (.mk (.rng (Iv (m:=0) (Zr _)) (Iv hm) (.inl rfl)) (Zpu m▸q)))
theorem Zzf {U:Addr}(h:On σ ((U,.list (strL ks))::R0))(hl:ks.length<=900)(q:∀ σ' st M m,LookM m (runZ ks (stillR ks 0) [] fun J=>none).2->On σ' ((st,.list (intL (runZ ks (stillR ks 0) [] fun J=>none).1))::(M,.dI m)::(U,.list (strL ks))::R0)->Q (.tup [.ref st,.ref M]) σ'):Dk S (k + 1) 395 [.ref U] σ Q:=
 have hU:(strL ks).length<=100000:=by rw [Zh];exact Zb hl (Za rfl)
 have ho:=Zb (Zs4 ks 0).1 hl
 Zc2 28 rfl rfl rfl fun c hc=>have h0:=h.new hc
  ⟨fun i hi=>by cases Xb.mp (hi:i∈[178]);rfl,rfl,rfl,.mk rfl (h0 0 0) (.bi (.lenL (h0 1 1) hU (Yd2 ks.length (congrArg Zbg (Zh _)) (Zb hl (Za rfl)) fun D hD=>Zvx (by rfl) hl ks [] [] _ rfl (Zm _) (h0.new hD) fun σ1 h1=>
   fun M hM=>have h2:=h1.new hM
   ⟨1000,Zwl (by rfl) hl (fun σ' lv st m hm h' l2 l3=>⟨l2,l3,nofun,Za rfl,q σ' st M m hm (h'.fr 2 rfl).tl⟩) 1000 [] (stillR ks 0) [] (fun J=>none) D _ _ (Zu (Zb ho (Za rfl))) ⟨h2.sw (A:=[_]) (B:=[_]),fun J=>rfl,rfl,rfl,rfl,Zb (ZX (Ua _)) ho,Zb (ZX (Ua _)) (Zb (ZC 2 ho) (Za rfl)),fun x hx=>Yk8 ((Zs4 ks 0).2 x hx) (Ua _)⟩ rfl⟩)))⟩
end
end
section
noncomputable abbrev NL:=List (Nat×Nat)
set_option genInjectivity false in
set_option genSizeOf false in
structure BS where
 i:Nat
 pos:Nat
 N:NL
 p:NL
 C:List Nat
 f:NM
 lo:Tx
 bl:List Tx
noncomputable abbrev Zfg (c:Nat):Tx:=[97 + c]noncomputable abbrev wayT (p:NL):Tx:=p.flatMap fun x=>[47,97 + x.2]noncomputable abbrev opT (s:BS):Tx:=s.lo++[60]++Zfg s.N.length++[32,97,116,61,34]++Znv (s.pos:Int)++[34,32,105,110,61,34]++wayT s.p.reverse++[34,62]noncomputable abbrev clT (c:Nat):Tx:=[60,47]++Zfg c++[62]noncomputable abbrev reT:Tx:=[60,33,45,45,41,45,45,62]noncomputable def sigT (u:Tx):Tx:=bif isB u then [] else u.getLast?.toList
noncomputable abbrev tO (s:BS):BS:=⟨s.i + 1,s.pos + 1,s.N++[(s.i,s.N.length)],(s.i,s.N.length)::s.p,s.C,s.f,[],s.bl++[opT s]⟩noncomputable abbrev tC (s:BS)(x:Nat×Nat)(p:NL):BS:=⟨s.i + 1,s.pos + 1,s.N,p,s.C,Zm7 s.f x.1 s.i,[],s.bl++[s.lo++clT x.2]⟩noncomputable abbrev tR (s:BS):BS:=⟨s.i + 1,s.pos + 1,s.N,[],s.i::s.C,s.f,[],s.bl++[s.lo++reT]⟩noncomputable abbrev tX (s:BS)(u:Tx):BS:=⟨s.i + 1,s.pos + u.length,s.N,s.p,s.C,s.f,s.lo++escT (sigT u),s.bl⟩noncomputable def turnB (s:BS)(u:Tx):BS:=if u=[40] then tO s else if u=[41] then s.p.rec (tR s) (fun x p J=>tC s x p) else tX s u
inductive Zo6 (s:BS):Tx->BS->Prop
 | o:Zo6 s [40] (tO s)
 | c {x p}:s.p=x::p->Zo6 s [41] (tC s x p)
 | r:s.p=[]->Zo6 s [41] (tR s)
 | x {u}:u≠[40]->u≠[41]->Zo6 s u (tX s u)
theorem Ze4 (s:BS)(u:Tx):Zo6 s u (turnB s u):=by
 unfold turnB
 by_cases h:u=[40]
 ·subst h;rw [if_pos rfl];exact .o
 ·rw [if_neg h]
  by_cases h2:u=[41]
  ·subst h2;rw [if_pos rfl]
   cases e:s.p with
   | nil=>exact .r e
   | cons x p=>exact .c e
  ·rw [if_neg h2];exact .x h h2
noncomputable abbrev foldB (r:List Tx)(s:BS):BS:=r.foldl turnB s
structure Al (ks:List Tx)(s:BS):Prop where
 Ni:∀ x∈s.N,x.1 < s.i
 Nl:s.N.length<=s.i
 Nc:∀ x∈s.N,x.2 < s.i
 lk:∀ x∈s.N,s.N.lookup x.1=some x.2
 pr:s.p.reverse=s.N.filter fun x=>(s.f x.1).isNone
 pw:s.p.Pairwise fun x y=>y.1 < x.1
 fb:∀ j b,s.f j=some b->j < s.i/\b < s.i
 op:∀ x∈s.p,ks.getD x.1 []=[40]
 cl:∀ x∈s.C,x < s.i/\ks.getD x []=[41]
 Cl:s.C.length<=s.i
section
variable {ks:List Tx}{s s' T:BS}{u:Tx}
theorem Al.sub (h:Al ks s):∀ x∈s.p,x∈s.N/\s.f x.1=none:=fun x hx=>by
 have:=Zom.mpr hx;rw [h.pr] at this
 exact ⟨(Yqd.mp this).1,Option.isNone_iff_eq_none.mp (Yqd.mp this).2⟩
theorem Al.pl (h:Al ks s):s.p.length<=s.i:=by
 rw [<-Yh,h.pr];exact Zb (List.length_filter_le _ _) h.Nl
theorem Al.fi (h:Al ks s):s.f s.i=none:=by
 cases e:s.f s.i with
 | none=>rfl
 | some b=>exact absurd (h.fb _ _ e).1 (Un _)
theorem Al.turn (h:Al ks s)(t:Zo6 s u s')(hu:ks.getD s.i []=u):Al ks s':=by
 have hlt:∀ {n},n < s.i->n < s.i + 1:=YW
 have Ni:∀ x∈s.N,x.1 < s.i + 1:=fun x hx=>hlt (h.Ni x hx)
 have Nl:=Xm h.Nl
 have Nc:∀ x∈s.N,x.2 < s.i + 1:=fun x hx=>hlt (h.Nc x hx)
 have cl:∀ x∈s.C,x < s.i + 1/\ks.getD x []=[41]:=fun x hx=>⟨hlt (h.cl x hx).1,(h.cl x hx).2⟩
 have Cl:=Xm h.Cl
 have fb:∀ j b,s.f j=some b->j < s.i + 1/\b < s.i + 1:=fun j b e=>⟨hlt (h.fb j b e).1,hlt (h.fb j b e).2⟩
 cases t with
 | o=>
  have hf:=h.fi
  refine ⟨Uq.mpr ⟨Ni,Xp.mpr (Yq _)⟩,(by show (s.N++[_]).length<=_;rw [Zf];exact Zu h.Nl),Uq.mpr ⟨Nc,Xp.mpr (Nat.lt_succ_of_le h.Nl)⟩,Uq.mpr ⟨fun x hx=>?_,Xp.mpr ?_⟩,?_,Zl3.mpr ⟨fun y hy=>h.Ni y (h.sub y hy).1,h.pw⟩,fb,Zi.mpr ⟨hu,h.op⟩,cl,Cl⟩
  ·show (s.N++_).lookup _=_
   rw [Zc0,h.lk x hx];rfl
  ·show (s.N++_).lookup s.i=_
   rw [Zc0,(List.lookup_eq_none_iff.mpr fun y hy=>bne_iff_ne.mpr (Xr (h.Ni y hy)))]
   show [(s.i,s.N.length)].lookup s.i=_
   rw [Xw,beq_self_eq_true]
  ·show (_::s.p).reverse=(s.N++_).filter _
   rw [Y7,Zl4,h.pr]
   refine congrArg _ ?_
   rw [Zhn,if_pos (by rw [hf];rfl)];rfl
 | @c x p e=>
  have hpw:=h.pw;rw [e] at hpw
  have hxi:=h.Ni x (h.sub x (by rw [e];exact .head _)).1
  have hf:∀ y∈s.N,(Zm7 s.f x.1 s.i y.1).isNone=(!decide (y.1=x.1)&&(s.f y.1).isNone):=fun y hy=>by
   show (upd (upd s.f x.1 s.i) s.i x.1 y.1).isNone=_
   rw [Zbq (Z3 (h.Ni y hy))]
   by_cases z:y.1=x.1
   ·rw [z,Zcc,decide_eq_true rfl];rfl
   ·rw [Zbq z,decide_eq_false z];rfl
  refine ⟨Ni,Nl,Nc,h.lk,?_,(Zl3.mp hpw).2,fun j b ej=>?_,fun y hy=>h.op y (by rw [e];exact .tail _ hy),cl,Cl⟩
  ·show p.reverse=s.N.filter fun y=>(Zm7 s.f x.1 s.i y.1).isNone
   rw [Ylb hf,<-List.filter_filter,<-h.pr,e,Y7,Zl4,List.filter_eq_self.mpr fun y hy=>(by rw [decide_eq_false (Z3 ((Zl3.mp hpw).1 y (Zom.mp hy)))];rfl)]
   rw [Zhn,if_neg (by rw [decide_eq_true rfl];exact U3)];exact (ZK _).symm
  ·by_cases z:j=s.i
   ·subst z
    cases (show some x.1=some b from Zcc.symm.trans ej);exact ⟨Yq _,hlt hxi⟩
   ·have ej:upd s.f x.1 s.i j=some b:=(Zbq z).symm.trans ej
    by_cases z2:j=x.1
    ·subst z2;cases (show some s.i=some b from Zcc.symm.trans ej);exact ⟨hlt hxi,Yq _⟩
    ·exact fb j b ((Zbq z2).symm.trans ej)
 | r e=>exact ⟨Ni,Nl,Nc,h.lk,by rw [<-h.pr,e],.nil,fb,nofun,Zi.mpr ⟨⟨Yq _,hu⟩,cl⟩,Zu h.Cl⟩
 | x h1 h2=>exact ⟨Ni,Nl,Nc,h.lk,h.pr,h.pw,fb,h.op,cl,Cl⟩
structure Ex (s T:BS):Prop where
 f:∀ j,j < s.i->T.f j=s.f j\/((∃ x∈s.p,x.1=j)/\∃ b,s.i<=b/\T.f j=some b)
 n:∃ M,T.N=s.N++M/\∀ x∈M,s.i<=x.1
theorem Ex.back (t:Zo6 s u s')(h:Ex s' T):Ex s T:=by
 have lift:s'.i=s.i + 1->s'.f=s.f->(∀ x∈s'.p,x.1 < s.i->x∈s.p)->∀ j,j < s.i->T.f j=s.f j\/((∃ x∈s.p,x.1=j)/\∃ b,s.i<=b/\T.f j=some b):=fun hi hf hp j hj=>by
  have:=h.f j (hi▸YW hj)
  rw [hi,hf] at this
  exact this.imp_right fun ⟨⟨x,hx,e⟩,b,hb,eb⟩=>⟨⟨x,hp x hx (e▸hj),e⟩,b,Yn hb,eb⟩
 let M:=h.n.choose
 have hq0:=h.n.choose_spec
 have hM:=hq0.1
 have hx:=hq0.2
 cases t with
 | o=>exact ⟨lift rfl rfl fun x hx hl=>(Xl.mp hx).resolve_left fun e=>Un _ (by rw [e] at hl;exact hl),_::M,hM.trans (Zw _ _ _),Zi.mpr ⟨Zm _,fun x hm=>Yn (hx x hm)⟩⟩
 | @c x p e=>
  refine ⟨fun j hj=>?_,M,hM,fun x hm=>Yn (hx x hm)⟩
  by_cases z:j=x.1
  ·subst z
   refine .inr ⟨⟨x,by rw [e];exact .head _,rfl⟩,(h.f x.1 (YW hj)).elim (fun e=>⟨s.i,Zm _,e.trans ((Zbq (Z3 hj)).trans Zcc)⟩) fun hw3=>hw3.elim fun _ hw3=>hw3.elim fun b hw3=>hw3.elim fun hb eb=>⟨b,Yn hb,eb⟩⟩
  ·exact (h.f j (YW hj)).imp (fun e=>e.trans ((Zbq (Z3 hj)).trans (Zbq z))) fun ⟨⟨y,hy,ey⟩,b,hb,eb⟩=>⟨⟨y,by rw [e];exact .tail _ hy,ey⟩,b,Yn hb,eb⟩
 | r e=>exact ⟨lift rfl rfl nofun,M,hM,fun x hm=>Yn (hx x hm)⟩
 | x h1 h2=>exact ⟨lift rfl rfl fun x hx J=>hx,M,hM,fun x hm=>Yn (hx x hm)⟩
theorem Ex.fold (r:List Tx)(s:BS):Ex s (foldB r s):=by
 induction r generalizing s with
 | nil=>exact ⟨fun j hj=>.inl rfl,[],(ZK _).symm,nofun⟩
 | cons u r ih=>exact (ih (turnB s u)).back (Ze4 s u)theorem Yfa {N M:NL}{j c:Nat}(e:N.lookup j=some c):(N++M).lookup j=some c:=Zc0.trans (by rw [e];rfl)theorem Al.name (h:Al ks (tO s))(x:Ex (tO s) T):T.N.lookup s.i=some s.N.length:=x.n.elim fun M hM=>hM.1▸Yfa (h.lk (s.i,s.N.length) (Xe _ (.head _)))
theorem Al.way (h:Al ks s)(x:Ex (tO s) T):(T.N.filter fun y=>decide (y.1 < s.i)&&decide (s.i < (T.f y.1).getD (s.i + 1)))=s.p.reverse:=by
 have hq0:=x.n.choose_spec
 have hx:=hq0.2
 rw [show T.N=s.N++((s.i,s.N.length)::(x.n.choose)) from (hq0.1).trans (Zw _ _ _),Zl4,List.filter_eq_nil_iff.mpr (Zi.mpr ⟨by rw [decide_eq_false (Un _)];exact U3,fun y hy=>by rw [decide_eq_false (Ug.mpr (Yn (hx y hy)))];exact U3⟩),ZK,h.pr]
 refine Ylb fun y hy=>?_
 have hi:=h.Ni y hy
 rw [decide_eq_true hi,Bool.true_and]
 rcases x.f y.1 (YW hi) with e | ⟨⟨z,hz,ez⟩,b,hb,eb⟩
 ·rw [e]
  cases e2:s.f y.1 with
  | none=>exact decide_eq_true (Yq _)
  | some b=>exact decide_eq_false (Ug.mpr (Y8 (h.fb _ _ e2).2))
 ·rw [eb,Zb0,decide_eq_true (Nat.lt_of_succ_le hb)]
  rcases Xl.mp hz with q | q
  ·exact absurd hi (by rw [<-ez,q];exact Un _)
  ·rw [<-ez,(h.sub z q).2];rfl
theorem Al.close {x:Nat×Nat}{p:NL}(h:Al ks s)(e:s.p=x::p)(z:Ex (tC s x p) T):T.f s.i=some x.1/\T.N.lookup x.1=some x.2:=
 ⟨(z.f s.i (Yq _)).elim (fun e=>e.trans Zcc) fun q=>q.1.elim fun y hy=>absurd (h.Ni y (h.sub y (by rw [e];exact .tail _ hy.1)).1) (hy.2▸Un _),z.n.elim fun M hM=>hM.1▸Yfa (h.lk x (h.sub x (by rw [e];exact .head _)).1)⟩theorem Al.rem (h:Al ks s)(z:Ex (tR s) T):T.f s.i=none:=(z.f s.i (Yq _)).elim (fun e=>e.trans h.fi) fun q=>q.1.elim fun y hy=>nomatch hy.1
theorem Zpt {b:Nat}{R L:List Nat}{f:NM}(h:∀ a∈L,Zfh ks a b=false):runZ ks (b::R) L f=runZ ks R (b::L) f:=by
 cases L with
 | nil=>rfl
 | cons a L=>
  show (bif Zfh ks a b then _ else _)=_
  rw [h a (.head _)];rfl
theorem Znp (pre:List Tx)(u:Tx)(r:List Tx):(pre++u::r).getD pre.length []=u:=by
 rw [Up,XM (Zm _),Zdp];rfl
theorem br_x {u:Tx}(h1:u≠[40])(h2:u≠[41]):isBr u=false:=by
 show (decide (([40]:Tx)=u)||(decide (([41]:Tx)=u)||false))=false
 rw [decide_eq_false h1.symm,decide_eq_false h2.symm];rfl
theorem Zi5 (t:Zo6 s u s'):s'.i=s.i + 1/\s'.pos=s.pos + u.length:=by cases t <;> exact ⟨rfl,rfl⟩
theorem Ydx (r pre:List Tx)(s:BS)(e:ks=pre++r)(hi:s.i=pre.length)(h:Al ks s):runZ ks (stillR r s.i) (s.p.map Um++s.C) s.f=(((foldB r s).p.map Um++(foldB r s).C).reverse,(foldB r s).f):=by
 induction r generalizing pre s with
 | nil=>rfl
 | cons u r ih=>
  have hu:ks.getD s.i []=u:=by rw [hi,e];exact Znp pre u r
  have t:=Ze4 s u
  refine Eq.trans ?_ (ih (pre++[u]) (turnB s u) (e.trans (Zw pre [u] r).symm) (by rw [(Zi5 t).1,hi,Zf];rfl) (h.turn t hu))
  show runZ ks (bif isBr u then s.i::stillR r (s.i + 1) else stillR r (s.i + 1)) _ _=_
  revert t
  generalize turnB s u=s'
  intro t
  cases t with
  | o=>exact Zpt fun a ha=>by rw [Zfh,hu];exact Zdh _
  | @c x p e2=>
   rw [e2]
   show (bif Zfh ks x.1 s.i then runZ ks (stillR r (s.i + 1)) (p.map Um++s.C) (Zm7 s.f x.1 s.i) else _)=_
   rw [show Zfh ks x.1 s.i=true by rw [Zfh,hu,h.op x (by rw [e2];exact .head _)];rfl];rfl
  | r e2=>
   rw [e2]
   exact Zpt fun a ha=>by rw [Zfh,(h.cl a ha).2];rfl
  | x h1 h2=>rw [br_x h1 h2];rfl
theorem Yqn (r:List Tx)(s:BS)(h:s.C≠[]):(foldB r s).C≠[]:=by
 induction r generalizing s with
 | nil=>exact h
 | cons u r ih=>
  have t:=Ze4 s u
  refine ih (turnB s u) ?_
  revert t
  generalize turnB s u=s'
  intro t
  cases t <;> first | exact h | exact nofun
theorem paren_fold (r:List Tx)(s:BS)(h:s.C=[]):Zje r (s.p.length:Int)=((foldB r s).p.map Um++(foldB r s).C).isEmpty:=by
 induction r generalizing s with
 | nil=>
  show decide ((s.p.length:Int)=0)=(s.p.map Um++s.C).isEmpty
  refine (h)▸?_
  cases s.p with
  | nil=>rfl
  | cons x p=>exact decide_eq_false (Yh8.mpr (Zec _))
 | cons u r ih=>
  have key:=ih (turnB s u)
  have kp:=Yqn r (turnB s u)
  have t:=Ze4 s u
  revert key kp t
  show _->_->_->_=((foldB r (turnB s u)).p.map Um++(foldB r (turnB s u)).C).isEmpty
  generalize turnB s u=s'
  intro key kp t
  cases t with
  | o=>exact key h
  | @c x p e=>
   rw [e]
   show (bif decide (((p.length + 1:Nat):Int) - 1 < 0) then false else Zje r (((p.length + 1:Nat):Int) - 1))=_
   rw [show ((p.length + 1:Nat):Int) - 1=(p.length:Int) from (congrArg (· - 1) (Ze3 p.length 1)).trans (XQ _ _),decide_eq_false (U4.mpr (Z4 _))]
   exact key h
  | r e=>
   have:=kp nofun
   refine (e)▸?_
   cases e2:(foldB r (tR s)).C with
   | nil=>exact absurd e2 this
   | cons a l=>cases (foldB r (tR s)).p <;> rfl
  | x h1 h2=>
   show (bif decide (u=[40]) then _ else bif decide (u=[41]) then _ else Zje r _)=_
   rw [decide_eq_false h1,decide_eq_false h2]
   exact key h
def Bd (s:BS):Prop:=(s.lo.length<=5 * s.i)/\(s.bl.length<=s.i + 1)/\((s.bl.map Z5).sum<=10 + 300 * s.i)def Bd.lo {s}(z:@Bd s):=z.1
def Bd.bl {s}(z:@Bd s):=z.2.1
def Bd.bs {s}(z:@Bd s):=z.2.2
theorem Zmf (p:NL):(wayT p).length=2 * p.length:=by
 induction p with
 | nil=>rfl
 | cons x p ih=>show (wayT p).length + 2=_;rw [ih];rfl
theorem Znu:∀ p:Nat,p < 64->(Znv (p:Int)).length<=40/\∀ c∈Znv (p:Int),c∉[38,60,34,9,10,13]:=by decide +kernel
theorem Zya (u:Tx):(sigT u).length<=1:=by
 unfold sigT
 cases isB u with
 | true=>exact Zr _
 | false=>show u.getLast?.toList.length<=1;cases u.getLast? <;> exact Za rfl
theorem Yon (h:Al ks s)(b:Bd s)(hi:s.i<=20)(hp:s.pos < 64):(opT s).length<=300:=by
 have hw:(wayT s.p.reverse).length<=40:=by rw [Zmf,Yh];exact ZC 2 (Zb h.pl hi)
 exact Zb (ap (ap (ap (ap (ap (ap (ap (Zb b.lo (ZC 5 hi)) (Zm 1)) (Zm 1)) (Zm 5)) (Znu _ hp).1) (Zm 6)) hw) (Zm 2)) (Za rfl)
theorem Bd.snoc {t:Tx}(b:Bd s)(ht:t.length<=300):(s.bl++[t]).length<=s.i + 1 + 1/\((s.bl++[t]).map Z5).sum<=10 + 300 * (s.i + 1):=by
 rw [Zf,ZF,X4,Yhh,<-Xc]
 exact ⟨Zu b.bl,Yc b.bs ht⟩
theorem Bd.turn (h:Al ks s)(b:Bd s)(t:Zo6 s u s')(hi:s.i<=20)(hp:s.pos < 64):Bd s':=by
 have lo:=Zb b.lo (ZC 5 hi)
 cases t with
 | o=>have:=b.snoc (Yon h b hi hp);exact ⟨Zr _,this.1,this.2⟩
 | @c x p e=>have:=b.snoc (t:=s.lo++clT x.2) (Zb (ap (q:=4) lo (Zm 4)) (Za rfl));exact ⟨Zr _,this.1,this.2⟩
 | r e=>have:=b.snoc (t:=s.lo++reT) (Zb (ap (q:=8) lo (Zm 8)) (Za rfl));exact ⟨Zr _,this.1,this.2⟩
 | x h1 h2=>exact ⟨ap b.lo (Zb (Zkl _) (ZC 5 (Zya u))),Xm b.bl,Zb b.bs (ZJ (ZC 300 (ZW _)) _)⟩
end
end
section
noncomputable abbrev nmD (N:NL):MT:=N.map fun p=>((p.1:Int),V.str (Zfg p.2))abbrev Yez:FS:=Zo (Yx (YC .Eq (YK (xLc 178) (xCl 78)) (xV (.str [40]))) (Zo (Zj7 (Yb (xGl 174) (Zk (Xv .Add (xV (.int 97)) (Yb (xGl 64) (Zk (xCl 187) (ZD)))) (ZD))) (xCl 187) (xCl 78)) (Zx)) (Zx)) (Zx)abbrev Ynh:FB:=Zc8 (YC .Lt (xLc 193) (xCl 78)) (YC .Gt (xMc (xCl 184) 7 (Zk (xLc 193) (Zk (Xv .Add (xCl 78) (xV (.int 1))) (ZD)))) (xCl 78))abbrev Yng:FX:=Xv .Add (xV (.str [47])) (YK (xCl 187) (xLc 193))
section
variable {S:Addr->List Int->Prop}{k:Nat}{σ:Hp}{R:Ls}{ks:List Tx}{s T:BS}{Nd Md Sp Bl ck cm cn U:Addr}
theorem Zyl {N:NL}{j c:Nat}(h:N.lookup j=some c):(nmD N).lookup (j:Int)=some (.str (Zfg c)):=by
 induction N with
 | nil=>exact nomatch h
 | cons x N ih=>
  have e:((j:Int) == (x.1:Int))=(j == x.1):=by
   by_cases z:j=x.1
   ·rw [z,beq_self_eq_true,beq_self_eq_true]
   ·rw [beq_false_of_ne z,beq_false_of_ne fun y=>z (Zxm.mp y)]
  show (((x.1:Int),V.str (Zfg x.2))::nmD N).lookup (j:Int)=_
  rw [Xw,e]
  rw [show x=(x.1,x.2) from rfl,Xw] at h
  revert h
  cases j == x.1 with
  | true=>intro h;cases h;rfl
  | false=>exact ih
theorem Yea {N:NL}{j:Nat}(h:∀ x∈N,x.1 < j)(v:V):Zff (nmD N) (j:Int) v=nmD N++[((j:Int),v)]:=
 if_neg fun z=>(Zop.mp z).elim fun p hp=>(Ys.mp hp.1).elim fun x hx=>Z3 (h x hx.1) (Zxm.mp ((congrArg Um hx.2).trans (of_decide_eq_true hp.2)))
theorem Zwj {Δ:Dl}{cv:Nat->Option Addr}{lv:Nat->Option V}{Do:PP}{P:Fl->St->Prop}(v1:cv 78=some ck)(v2:cv 187=some cn)(l1:lv 178=some (.ref U))(hl:ks.length<=900)
  (q:∀ σ' u,On σ' ((Nd,.dI (nmD T.N))::(ck,.cell u)::(cn,.cell (some (.ref Nd)))::(U,.list (strL ks))::R)->Do P ⟨σ',lv,cv⟩)
  (r pre:List Tx) (s:BS) (u0:Option V) (e:ks=pre++r) (hi:s.i=pre.length) (A:Al ks s) (h:On σ ((Nd,.dI (nmD s.N))::(ck,.cell u0)::(cn,.cell (some (.ref Nd)))::(U,.list (strL ks))::R)) (hT:foldB r s=T) :
  Zce (Yez Δ) (.cell 78) (fun J=>True) Do P (upL s.i r.length) ⟨σ,lv,cv⟩:=by
 induction r generalizing pre s u0 σ with
 | nil=>subst hT;exact ⟨trivial,q σ u0 h⟩
 | cons u r ih=>
  have hu:ks.getD s.i []=u:=by rw [hi,e];exact Znp pre u r
  have t:=Ze4 s u
  have ih:=fun σ u0=>ih (σ:=σ) (pre++[u]) (turnB s u) u0 (e.trans (Zw pre [u] r).symm) (by rw [(Zi5 t).1,hi,Zf];rfl) (A.turn t hu)
  replace ih:=((Zi5 t).1)▸ih
  have hU:(strL ks).length<=100000:=by rw [Zh];exact Zb hl (Za rfl)
  have hg:Zfa (strL ks) (s.i:Int)=some (.str u):=by rw [hi,e];exact Zgm pre u r
  have hN:(nmD s.N).length<=900:=by rw [Zh];exact Zb A.Nl (Zb (by rw [hi,e,Zf];exact Zn _ _) hl)
  have h1:On _ ((Nd,.dI (nmD s.N))::(ck,.cell (some (.int (s.i:Int))))::(cn,.cell (some (.ref Nd)))::(U,.list (strL ks))::R):=h.set 1 rfl
  have h2:On (upd (upd σ ck (.cell (some (.int (s.i:Int))))) Nd (.dI (Zff (nmD s.N) (s.i:Int) (.str [(97 + ((nmD s.N).length:Int)).toNat])))) ((Nd,.dI (nmD (s.N++[(s.i,s.N.length)])))::(ck,.cell (some (.int (s.i:Int))))::(cn,.cell (some (.ref Nd)))::(U,.list (strL ks))::R):=by
   rw [Yea A.Ni,show (97 + ((nmD s.N).length:Int)).toNat=97 + s.N.length from congrArg (97 + ·) (Zh _),show nmD (s.N++[(s.i,s.N.length)])=nmD s.N++[((s.i:Int),V.str (Zfg s.N.length))] from ZF]
   exact h1.up
  have stay:(turnB s u).N=s.N->Zce (Yez Δ) (.cell 78) (fun J=>True) Do P (upL (s.i + 1) r.length) ⟨upd σ ck (.cell (some (.int (s.i:Int)))),lv,cv⟩:=fun eN=>ih _ _ (eN▸h1) hT
  refine ⟨trivial,.mk v1 (h 1 1) ⟨l1,.mk v1 (h1 1 1) (.list (h1 3 3) hU hg (.mk _ (.inl rfl) ?_))⟩⟩
  revert hT ih stay t
  generalize turnB s u=s'
  intro hT t ih stay
  cases t with
  | o=>exact ⟨rfl,rfl,.mk v2 (h1 2 2) (.bi (.lenD (h1 0 0) (Zb hN (Za rfl)) (.add (.bi (.chr (Z4 (97 + (nmD s.N).length)) (YZ.mpr (Zb (ZJ hN 97) (Za rfl))) (.mk v2 (h1 2 2) (.mk v1 (h1 1 1) (.dI (h1 0 0) (Zb hN (Za rfl)) (ih _ _ h2 hT)))))))))⟩
  | c e=>exact stay rfl
  | r e=>exact stay rfl
  | x h1 h2=>rw [decide_eq_false h1];exact stay rfl
end
end
section
noncomputable abbrev spL:List (Tx×V):=[([38],.str [38,97,109,112,59]),([60],.str [38,108,116,59]),([62],.str [38,103,116,59])]
set_option genInjectivity false in
set_option genSizeOf false in
structure BA where
 (Bl Nd Md Sp ck cm cn U:Addr)noncomputable abbrev bS (A:BA)(ks bl:List Tx)(N:O)(m:MT)(u:Option V)(R:Ls):Ls:=(A.Bl,.list (strL bl))::(A.Nd,N)::(A.Md,.dI m)::(A.Sp,.dS spL)::(A.ck,.cell u)::(A.cm,.cell (some (.ref A.Md)))::(A.cn,.cell (some (.ref A.Nd)))::(A.U,.list (strL ks))::R
noncomputable abbrev cnd (F:NM)(i:Nat)(y:Nat×Nat):Bool:=decide (y.1 < i)&&decide (i < (F y.1).getD (i + 1))
section
variable {S:Addr->List Int->Prop}{k:Nat}{σ:Hp}{R:Ls}{ks bl:List Tx}{s T:BS}{m:MT}{F:NM}{A:BA}
theorem mkDI {a:Addr}{kvs:MT}{m:Nat}(b:BM)(e:b.nm=m)(h:b.typ= "dict")(e1:σ a=some (.dI kvs)):mK σ (.ref a) m (.bi b (.ref a)):=e▸.dI e1 h
theorem dlt (a b:Nat):decide ((a:Int) < (b:Int))=decide (a < b):=decide_eq_decide.mpr Zdq
theorem Ycu {Δ:Dl}{cv:Nat->Option Addr}{K:Hp->Prop}{D:Addr}{ep i:Nat}{N:NL}(hM:LookM m F)(v1:cv 78=some A.ck)(v2:cv 184=some A.cm)(v3:cv 187=some A.cn)
  (r:NL) (acc:List Tx) (lv:Nat->Option V) (hr:∀ x∈r,N.lookup x.1=some x.2) (hl:acc.length + r.length<=1000) (h:On σ ((D,.list (strL acc))::bS A ks bl (.dIf (nmD N) ep) m (some (.int i)) R))
  (q:∀ σ',On σ' ((D,.list (strL (acc++(r.filter (cnd F i)).map fun x=>[47,97 + x.2])))::bS A ks bl (.dIf (nmD N) ep) m (some (.int i)) R)->K σ') :
  compL Δ (.one 193) (fun st=>st.σ A.Nd=some (.dIf (nmD N) ep)) Ynh Yng D K ((nmD r).map fun p=>V.int p.1) ⟨σ,lv,cv⟩:=by
 induction r generalizing acc lv σ with
 | nil=>exact ⟨h 2 2,q σ (by rw [show (([]:NL).filter (cnd F i)).map _=[] from rfl,ZK];exact h)⟩
 | cons x r ih=>
  have hr':=fun y hy=>hr y (.tail _ hy)
  have skip:cnd F i x=false->∀ lv,compL Δ (.one 193) (fun st=>st.σ A.Nd=some (.dIf (nmD N) ep)) Ynh Yng D K ((nmD r).map fun p=>V.int p.1) ⟨σ,lv,cv⟩:=fun hc lv=>
   ih acc lv hr' (Yn hl) h (by rw [Zhn,if_neg (by rw [hc];exact U3)] at q;exact q)
  have eg:(m.lookup (x.1:Int)).getD (.int ((i:Int) + 1))= .int (((F x.1).getD (i + 1):Nat):Int):=by rw [hM];cases F x.1 <;> rfl
  refine ⟨h 2 2,rfl,.mk v1 (h 5 5) (.mk _ (.inl rfl) ?_)⟩
  rw [dlt]
  cases c1:decide (x.1 < i) with
  | false=>exact skip (by rw [cnd,c1];rfl) _
  | true=>
   refine .mk v2 (h 6 6) (.mk _ (mkDI .dGet rfl rfl (h 3 3)) ⟨rfl,.mk v1 (h 5 5) (.add (.getI (h 3 3) ?_))⟩)
   rw [eg]
   refine .mk v1 (h 5 5) (.mk _ (.inl rfl) ?_)
   rw [dlt]
   cases c2:decide (i < (F x.1).getD (i + 1)) with
   | false=>exact skip (by rw [cnd,c1,c2];rfl) _
   | true=>
    refine .mk v3 (h 7 7) ⟨rfl,.dIf (h 2 2) (Zyl (hr x (.head _))) (.addS (Za rfl) (.mk (h 0 0) (by rw [Zh];exact le5 (Zb (Zn _ _) hl)) (ih (acc++[[47,97 + x.2]]) _ hr' (by rw [Zf,Xc,Xu _ r.length];exact hl) (by rw [<-K8];exact h.up) ?_)))⟩
    rw [Zhn,if_pos (by rw [cnd,c1,c2];rfl)] at q
    rw [Zw];exact q
end
end
section
abbrev blkO:FS:=Zo (YM 192 (xMc (xV (.str [])) 3 (Zk (Zvo Zbi (.one 193) (xCl 187) Ynh Yng) (ZD)))) (Zo (sEx (xMc (xLc 189) 0 (Zk (Xv .Add (Xv .Add (Xv .Add (Xv .Add (Xv .Add (Xv .Add (Xv .Add (xLc 190) (xV (.str [60]))) (YK (xCl 187) (xCl 78))) (xV (.str [32,97,116,61,34]))) (Yb (xGl 122) (Zk (Yb (xGl 64) (Zk (xMc (xV (.str [])) 3 (Zk (Zfd (xLc 178) (xV .none) (xCl 78) (xV .none)) (ZD))) (ZD))) (ZD)))) (xV (.str [34,32,105,110,61,34]))) (xLc 192)) (xV (.str [34,62]))) (ZD)))) (Zo (YM 190 (xV (.str []))) (Zx)))abbrev Yp2:FS:=Zo (sEx (xMc (xLc 189) 0 (Zk (Xv .Add (xLc 190) (xIf (YC .In (xCl 78) (xCl 184)) (Xv .Add (Xv .Add (xV (.str [60,47])) (YK (xCl 187) (YK (xCl 184) (xCl 78)))) (xV (.str [62]))) (xV (.str [60,33,45,45,41,45,45,62])))) (ZD)))) (Zo (YM 190 (xV (.str []))) (Zx))abbrev blkX:FS:=Zo (Yx (YC .NotEq (YK (xLc 191) (Zdj (xV (.int 1)))) (xV (.str [91]))) (Zo (Zm4 190 .Add (xMc (xLc 188) 7 (Zk (YK (xLc 191) (Zdj (xV (.int 1)))) (Zk (YK (xLc 191) (Zdj (xV (.int 1)))) (ZD))))) (Zx)) (Zx)) (Zx)abbrev Zzj:FS:=Zo (YM 191 (YK (xLc 178) (xCl 78))) (Zo (Yx (YC .Eq (xLc 191) (xV (.str [40]))) blkO (Zo (Yx (YC .Eq (xLc 191) (xV (.str [41]))) Yp2 blkX) (Zx))) (Zx))
section
variable {S:Addr->List Int->Prop}{k:Nat}{σ:Hp}{R:Ls}{ks bl:List Tx}{s s' T:BS}{m:MT}{F:NM}{A:BA}
theorem Ynv {c:Nat}(h:c≠13):(spL.lookup [c]).getD (.str [c])= .str (Zhp c):=by
 have e:∀ x:Nat,c≠x->(([c]:Tx) == [x])=false:=fun x hx=>beq_false_of_ne fun z=>hx (Xg z).1
 unfold Zhp
 by_cases h1:c=38
 ·subst h1;rfl
 rw [if_neg h1,Xw,e _ h1]
 by_cases h2:c=60
 ·subst h2;rfl
 rw [if_neg h2]
 rw [Xw,e _ h2]
 by_cases h3:c=62
 ·subst h3;rfl
 rw [if_neg h3,if_neg h]
 rw [Xw,e _ h3];rfl
structure Tn (ks:List Tx)(m:MT)(s s' T:BS)(u:Tx)(pre r:List Tx):Prop where
 e:ks=pre++u::r
 i:s.i=pre.length
 p:s.pos=pre.flatten.length
 l:ks.length<=20
 f:ks.flatten.length<=60
 A:Al ks s
 A':Al ks s'
 AT:Al ks T
 Ti:T.i<=20
 B:Bd s
 E:Ex s' T
 M:LookM m T.f
 u1:u≠[]
 u2:13∉u
 u3:u.length<=2
structure Lv (A:BA)(s:BS)(st:V)(lv:Nat->Option V):Prop where
 u:lv 178=some (.ref A.U)
 b:lv 189=some (.ref A.Bl)
 o:lv 190=some (.str s.lo)
 s:lv 188=some (.ref A.Sp)
 t:lv 183=some st
theorem blk_o {Δ:Dl}{cv:Nat->Option Addr}{P:Fl->St->Prop}{lv:Nat->Option V}{pre r:List Tx}{st:V}(v1:cv 78=some A.ck)(v2:cv 184=some A.cm)(v3:cv 187=some A.cn)(z:Tn ks m s (tO s) T [40] pre r)(h:On σ (bS A ks s.bl (.dI (nmD T.N)) m (some (.int s.i)) R))(L:Lv A s st lv)
  (q:∀ σ' lv',On σ' (bS A ks (tO s).bl (.dI (nmD T.N)) m (some (.int s.i)) R)->Lv A (tO s) st lv'->P .next ⟨σ',lv',cv⟩):blkO Δ P ⟨σ,lv,cv⟩:=by
 have hi:s.i<=20:=by rw [z.i];have:=z.l;rw [z.e,Zf] at this;exact Zb (Zn _ _) this
 have hf:pre.flatten.length<=60:=by have:=z.f;rw [z.e,Xf,Zf] at this;exact Zb (Zn _ _) this
 have hU:(strL ks).length<=100000:=by rw [Zh];exact Zb z.l (Za rfl)
 have hw:(wayT s.p.reverse).length<=40:=by rw [Zmf,Yh];exact ZC 2 (Zb z.A.pl hi)
 refine .mk _ (mkS .sJoin rfl rfl) ⟨(Zi.mpr ⟨by rw [v1];rfl,Zi.mpr ⟨by rw [v2];rfl,Xp.mpr (by rw [v3];rfl)⟩⟩:∀ i∈[78,184,187],(cv i).isSome),.mk v3 (h 6 6) (.mk (h 1 1) fun ep D hD=>?_)⟩
 refine Ycu (F:=T.f) (ep:=ep) (cv:=cvF (Ke Zbi) cv) z.M v1 v2 v3 T.N [] _ z.AT.lk (Zb (ZX (Ua _)) (Zb z.AT.Nl (Zb z.Ti (Za rfl)))) ((h.set 1 rfl).new ((Zbq fun e=>nn hD (e▸h.at 1 rfl)).trans hD)) fun σ1 h1=>⟨h1 2 2,?_⟩
 rw [show T.N.filter (cnd T.f s.i)=s.p.reverse from z.A.way z.E] at h1
 have h2:On _ ((D,.list (strL (s.p.reverse.map fun x=>[47,97 + x.2])))::bS A ks s.bl (.dI (nmD T.N)) m (some (.int s.i)) R):=h1.set 2 rfl
 refine .join (h2 0 0) (Zr _) (Ku _) (lt5 (p:=40) (q:=20) (by rw [<-Zel];exact hw) (by rw [Zh,Yh];exact Zb z.A.pl hi) (Za rfl)) ?_
 rw [(KZ _)]
 have h3:=h2.tl
 have a0:=Zb z.B.lo (ZC 5 hi)
 have a1:=ap a0 (Zm [60].length)
 have a2:=ap a1 (Zm (Zfg s.N.length).length)
 have a3:=ap a2 (Zm ([32,97,116,61,34]:Tx).length)
 have a4:=ap a3 (Znu s.pos (ZS (z.p▸hf) (Za rfl))).1
 have a5:=ap a4 (Zm ([34,32,105,110,61,34]:Tx).length)
 refine ⟨L.b,.mk _ (mkL .lAppend rfl rfl (h3 0 0)) ⟨L.o,.addS (lt5 a0 (Zm 1) (Za rfl)) (.mk v3 (h3 6 6) (.mk v1 (h3 4 4) (.dI (h3 1 1) (Zyl (z.A'.name z.E)) (.addS (lt5 a1 (Zm 1) (Za rfl)) (.addS (lt5 a2 (Zm 5) (Za rfl)) ⟨rfl,rfl,.mk _ (mkS .sJoin rfl rfl) ⟨L.u,.mk v1 (h3 4 4) (.list rfl rfl (h3 7 7) hU fun n1 hn1=>?_)⟩⟩)))))⟩⟩
 have h4:=h3.new (o:=.list (strL pre)) hn1
 rw [show Zbj (strL ks) none (some (s.i:Int))=strL pre by rw [z.i,z.e];exact Zv3 pre _]
 refine .join (h4 0 0) (Zr _) (Ku _) (lt5 (p:=60) (q:=20) (by rw [<-Zel];exact hf) (z.i▸hi) (Za rfl)) ?_
 rw [KZ]
 refine .bi (.lenS (Zb hf (Za rfl)) (.bi (.str (Iv (m:=pre.flatten.length) (Zb hf (Za rfl))) ?_)))
 rw [<-z.p]
 exact .addS (lt5 a3 (Znu s.pos (ZS (z.p▸hf) (Za rfl))).1 (Za rfl)) (.addS (lt5 a4 (Zm 6) (Za rfl)) ⟨rfl,.addS (lt5 a5 hw (Za rfl)) (.addS (lt5 (ap a5 hw) (Zm 2) (Za rfl)) (.append (h4 1 1) (by rw [Zh];exact Zb z.B.bl (Zb (Zu hi) (Za rfl))) (q _ _ (by rw [K8];exact (h4.set 1 rfl).tl) ⟨L.u,L.b,rfl,L.s,L.t⟩)))⟩)
end
end
section
section
variable {S:Addr->List Int->Prop}{k:Nat}{σ:Hp}{R:Ls}{ks bl:List Tx}{s s' T:BS}{m:MT}{F:NM}{A:BA}{cv:Nat->Option Addr}{P:Fl->St->Prop}{pre r:List Tx}{u:Tx}{st:V}
theorem Tn.i20 (z:Tn ks m s s' T u pre r):s.i<=20:=by rw [z.i];have:=z.l;rw [z.e,Zf] at this;exact Zb (Zn _ _) this
theorem Tn.blL (z:Tn ks m s s' T u pre r):(strL s.bl).length<=100000:=by rw [Zh];exact Zb z.B.bl (Zb (Zu z.i20) (Za rfl))theorem Tn.loL (z:Tn ks m s s' T u pre r):s.lo.length<=100:=Zb z.B.lo (ZC 5 z.i20)
theorem blk_c {x:Nat×Nat}{p:NL}(ep:s.p=x::p)(v1:cv 78=some A.ck)(v2:cv 184=some A.cm)(v3:cv 187=some A.cn)(z:Tn ks m s (tC s x p) T [41] pre r)(h:On σ (bS A ks s.bl (.dI (nmD T.N)) m (some (.int s.i)) R))(L:Lv A s st lv)
  (q:∀ σ' lv',On σ' (bS A ks (tC s x p).bl (.dI (nmD T.N)) m (some (.int s.i)) R)->Lv A (tC s x p) st lv'->P .next ⟨σ',lv',cv⟩):Yp2 Δ P ⟨σ,lv,cv⟩:=
 have c:=z.A.close ep z.E
 have e:m.lookup (s.i:Int)=some (.int (x.1:Int)):=(z.M s.i).trans (by rw [c.1];rfl)
 ⟨L.b,.mk _ (mkL .lAppend rfl rfl (h 0 0)) ⟨L.o,.mk v1 (h 4 4) (.mk v2 (h 5 5) (.mk true (.inr (by have:=Zo2.inD (i:=(s.i:Int)) (h 2 2);rw [e] at this;exact this))
  (.mk v3 (h 6 6) (.mk v2 (h 5 5) (.mk v1 (h 4 4) (.dI (h 2 2) e (.dI (h 1 1) (Zyl c.2) (.addS (Za rfl) (.addS (Za rfl) (.addS (lt5 z.loL (Zm 4) (Za rfl)) (.append (h 0 0) z.blL (q _ _ (by rw [K8];exact h.up) ⟨L.u,L.b,rfl,L.s,L.t⟩))))))))))))⟩⟩
theorem blk_r (ep:s.p=[])(v1:cv 78=some A.ck)(v2:cv 184=some A.cm)(z:Tn ks m s (tR s) T [41] pre r)(h:On σ (bS A ks s.bl (.dI (nmD T.N)) m (some (.int s.i)) R))(L:Lv A s st lv)
  (q:∀ σ' lv',On σ' (bS A ks (tR s).bl (.dI (nmD T.N)) m (some (.int s.i)) R)->Lv A (tR s) st lv'->P .next ⟨σ',lv',cv⟩):Yp2 Δ P ⟨σ,lv,cv⟩:=
 ⟨L.b,.mk _ (mkL .lAppend rfl rfl (h 0 0)) ⟨L.o,.mk v1 (h 4 4) (.mk v2 (h 5 5) (.mk false (.inr (by have:=Zo2.inD (i:=(s.i:Int)) (h 2 2);rw [((z.M s.i).trans (by rw [z.A.rem z.E];rfl):m.lookup (s.i:Int)=none)] at this;exact this))
  (.addS (lt5 z.loL (Zm 8) (Za rfl)) (.append (h 0 0) z.blL (q _ _ (by rw [K8];exact h.up) ⟨L.u,L.b,rfl,L.s,L.t⟩)))))⟩⟩
theorem Yjv (l:Tx)(c:Nat):isB (l++[c])=decide (([c]:Tx)=[91]):=by
 rw [isB,XK]
 by_cases z:c=91
 ·subst z;rfl
 ·rw [decide_eq_false fun y=>z (Xg y).1];exact beq_false_of_ne fun y=>z (Z1 y)
theorem Yiw (l:Tx)(c:Nat)(h:isB (l++[c])=false):escT (sigT (l++[c]))=Zhp c:=by
 unfold sigT;rw [h,XK];exact ZK _
theorem blk_x (z:Tn ks m s (tX s u) T u pre r)(h:On σ (bS A ks s.bl (.dI (nmD T.N)) m (some (.int s.i)) R))(L:Lv A s st lv)(lu:lv 191=some (.str u))
  (q:∀ σ' lv',On σ' (bS A ks (tX s u).bl (.dI (nmD T.N)) m (some (.int s.i)) R)->Lv A (tX s u) st lv'->P .next ⟨σ',lv',cv⟩):blkX Δ P ⟨σ,lv,cv⟩:=by
 have hul:u.length<=1000:=Zb z.u3 (Za rfl)
 refine ((K9 u).resolve_left z.u1).elim fun l hr50=>hr50.elim fun c hc=>?_
 replace hc:=(UW)▸hc
 have ix:Zfa u (-1)=some c:=hc▸Zc7 l c
 have d:decide (([c]:Tx)≠[91])= !isB u:=by rw [hc,Yjv];exact decide_not
 refine ⟨lu,.mk 1 (.str (le5 hul) ix (.mk _ (.inl rfl) ?_))⟩
 refine (d)▸?_
 cases eb:isB u with
 | true=>exact q _ _ h ⟨L.u,L.b,L.o.trans (by show _=some (V.str (s.lo++escT (sigT u)));rw [show sigT u=[] by unfold sigT;rw [eb];rfl];exact congrArg (fun t=>some (V.str t)) (ZK s.lo).symm),L.s,L.t⟩
 | false=>
  have hs:escT (sigT u)=Zhp c:=by rw [hc] at eb⊢;exact Yiw l c eb
  refine .mk L.o ⟨L.s,.mk _ (mkDS .dGet rfl rfl (h 3 3)) ⟨lu,.mk 1 (.str (le5 hul) ix ⟨lu,.mk 1 (.str (le5 hul) ix (.getS2 (h 3 3) ?_))⟩)⟩⟩
  rw [Ynv fun y=>z.u2 (by rw [hc,y];exact Xe _ (.head _))]
  exact .addS (lt5 z.loL (Zpp c) (Za rfl)) (q _ _ h ⟨L.u,L.b,congrArg (fun t=>some (V.str (s.lo++t))) hs.symm,L.s,L.t⟩)
end
end
section
noncomputable abbrev bs0:BS:=⟨0,0,[],[],[],fun J=>none,[],[[60,114,62]]⟩noncomputable def Zrw (p:NL):Tx->List Tx->List Tx:=p.rec (fun lo bl=>bl++[lo++[60,47,114,62]]) fun x p ih lo bl=>ih [] (bl++[lo++clT x.2])noncomputable abbrev endS (ks:List Tx):BS:=foldB ks bs0
noncomputable abbrev Zks (ks:List Tx):List Tx:=Zrw (endS ks).p (endS ks).lo (endS ks).bl
abbrev Yj8:FS:=Zo (Yx (YC .Eq (YK (xLc 178) (xCl 78)) (xV (.str [40]))) (Zo (sEx (xMc (xLc 189) 0 (Zk (Xv .Add (Xv .Add (Xv .Add (xLc 190) (xV (.str [60,47]))) (YK (xCl 187) (xCl 78))) (xV (.str [62]))) (ZD)))) (Zo (YM 190 (xV (.str []))) (Zx))) (Zx)) (Zx)def okU (ks:List Tx):Prop:=(ks.length<=20)/\(ks.flatten.length<=60)/\(∀ u∈ks,u≠[]/\13∉u/\u.length<=2)def okU.l (z:@okU ks):=z.1
def okU.f (z:@okU ks):=z.2.1
def okU.u (z:@okU ks):=z.2.2
theorem al0 (ks:List Tx):Al ks bs0:=⟨nofun,Zm _,nofun,nofun,rfl,.nil,nofun,nofun,nofun,Zm _⟩theorem bd0:Bd bs0:=⟨Zm _,Zm _,Za rfl⟩
section
variable {S:Addr->List Int->Prop}{k:Nat}{σ:Hp}{R:Ls}{ks bl:List Tx}{s s' T:BS}{m:MT}{F:NM}{A:BA}{cv:Nat->Option Addr}{P:Fl->St->Prop}{Do:PP}{st:V}
structure At (ks:List Tx)(s:BS)(pre r:List Tx):Prop where
 e:ks=pre++r
 i:s.i=pre.length
 p:s.pos=pre.flatten.length
 A:Al ks s
 B:Bd s
theorem At.turn {u:Tx}{pre r:List Tx}(hu:okU ks)(z:At ks s pre (u::r))(t:Zo6 s u s'):At ks s' (pre++[u]) r:=
 have hi:s.i<=20:=by have:=hu.l;rw [z.e,Zf] at this;rw [z.i];exact Zb (Zn _ _) this
 have hp:s.pos < 64:=by have:=hu.f;rw [z.e,Xf,Zf] at this;rw [z.p];exact ZS (Zb (Zn _ _) this) (Za rfl)
 ⟨z.e.trans (Zw pre [u] r).symm,by rw [(Zi5 t).1,z.i,Zf];rfl,by rw [(Zi5 t).2,z.p,Xf,Zf,KD],z.A.turn t (by rw [z.i,z.e];exact Znp pre u r),z.B.turn z.A t hi hp⟩
theorem At.fold {pre r:List Tx}(hu:okU ks)(z:At ks s pre r):At ks (foldB r s) ks []:=by
 induction r generalizing pre s with
 | nil=>rw [show pre=ks from (ZK pre).symm.trans z.e.symm] at z;exact z
 | cons u r ih=>exact ih (z.turn hu (Ze4 s u))theorem Zw7 (hu:okU ks):At ks (endS ks) ks []:=At.fold hu (pre:=[]) ⟨rfl,rfl,rfl,al0 ks,bd0⟩
theorem Yg3 (v1:cv 78=some A.ck)(v2:cv 184=some A.cm)(v3:cv 187=some A.cn)(hu:okU ks)(hM:LookM m T.f)(AT:At ks T ks [])
  (q:∀ σ' (lv:Nat->Option V) u,On σ' (bS A ks T.bl (.dI (nmD T.N)) m u R)->Lv A T st lv->Do P ⟨σ',lv,cv⟩)
  (r pre:List Tx) (s:BS) (u0:Option V) (lv:Nat->Option V) (z:At ks s pre r) (h:On σ (bS A ks s.bl (.dI (nmD T.N)) m u0 R)) (L:Lv A s st lv) (hT:foldB r s=T):Zce (Zzj Δ) (.cell 78) (fun J=>True) Do P (upL s.i r.length) ⟨σ,lv,cv⟩:=by
 induction r generalizing pre s u0 lv σ with
 | nil=>subst hT;exact ⟨trivial,q σ lv u0 h L⟩
 | cons u r ih=>
  have t:=Ze4 s u
  have hU:(strL ks).length<=100000:=by rw [Zh];exact Zb hu.l (Za rfl)
  have hg:Zfa (strL ks) (s.i:Int)=some (.str u):=by rw [z.i,z.e];exact Zgm pre u r
  have w:=hu.u u (by rw [z.e];exact Xe _ (.head _))
  have z':=z.turn hu t
  have y:Tn ks m s (turnB s u) T u pre r:=⟨z.e,z.i,z.p,hu.l,hu.f,z.A,z'.A,AT.A,AT.i▸hu.l,z.B,hT▸Ex.fold r (turnB s u),hM,w.1,w.2.1,w.2.2⟩
  have h1:On _ (bS A ks s.bl (.dI (nmD T.N)) m (some (.int s.i)) R):=h.set 4 rfl
  have next:∀ σ' lv',On σ' (bS A ks (turnB s u).bl (.dI (nmD T.N)) m (some (.int s.i)) R)->Lv A (turnB s u) st lv'->Zce (Zzj Δ) (.cell 78) (fun J=>True) Do P (upL (s.i + 1) r.length) ⟨σ',lv',cv⟩:=fun σ' lv' h' L'=>
   (Zi5 t).1▸ih (pre++[u]) (turnB s u) _ lv' z' h' L' hT
  have L':Lv A s st (upd lv 191 (.str u)):=⟨L.u,L.b,L.o,L.s,L.t⟩
  refine ⟨trivial,.mk v1 (h 4 4) ⟨L.u,.mk v1 (h1 4 4) (.list (h1 7 7) hU hg ⟨rfl,.mk _ (.inl rfl) ?_⟩)⟩⟩
  clear z' hT ih
  revert t y next
  generalize turnB s u=s'
  intro t y next
  cases t with
  | o=>exact blk_o v1 v2 v3 y h1 L' next
  | c e=>exact ⟨rfl,.mk _ (.inl rfl) (blk_c e v1 v2 v3 y h1 L' next)⟩
  | r e=>exact ⟨rfl,.mk _ (.inl rfl) (blk_r e v1 v2 y h1 L' next)⟩
  | x e1 e2=>
   rw [decide_eq_false e1]
   refine ⟨rfl,.mk _ (.inl rfl) ?_⟩
   rw [decide_eq_false e2]
   exact blk_x y h1 L' rfl next
theorem Ygf {Z:Addr}{l0:List V}{C:List Nat}{N:NL}(v1:cv 78=some A.ck)(v3:cv 187=some A.cn)(hl:ks.length<=20)(hC:∀ x∈C,x < ks.length/\ks.getD x []=[41])
  (p:NL) (lo:Tx) (bl:List Tx) (u0:Option V) (lv:Nat->Option V) (hp:∀ x∈p,x.1 < ks.length/\ks.getD x.1 []=[40]/\N.lookup x.1=some x.2) (h:On σ ((Z,.list l0)::bS A ks bl (.dI (nmD N)) m u0 R)) (l1:lv 178=some (.ref A.U)) (l2:lv 189=some (.ref A.Bl)) (l3:lv 190=some (.str lo)) (b1:lo.length<=100) (b2:bl.length + p.length<=100)
  (q:∀ σ' (lv:Nat->Option V) lo' bl',Zrw p lo bl=bl'++[lo'++[60,47,114,62]]->On σ' ((A.Bl,.list (strL bl'))::R)->lv 189=some (.ref A.Bl)->lv 190=some (.str lo')->lo'.length<=100->bl'.length<=100->Do P ⟨σ',lv,cv⟩) :
  Zce (Yj8 Δ) (.cell 78) (fun st=>st.σ Z=some (.list l0)) Do P (intL (p.map Um++C)) ⟨σ,lv,cv⟩:=by
 have hU:(strL ks).length<=100000:=by rw [Zh];exact Zb hl (Za rfl)
 induction p generalizing lo bl u0 lv σ with
 | nil=>
  induction C generalizing u0 σ with
  | nil=>exact ⟨h 0 0,q σ lv lo bl rfl ((On.sw (A:=[_]) (B:=[_,_,_,_,_,_,_]) h.tl).drop 7) l2 l3 b1 b2⟩
  | cons c C ihC=>
   have h1:On _ ((Z,.list l0)::bS A ks bl (.dI (nmD N)) m (some (.int c)) R):=h.set 5 rfl
   have hc:=hC c (.head _)
   refine ⟨h 0 0,.mk v1 (h 5 5) ⟨l1,.mk v1 (h1 5 5) (.list (h1 8 8) hU (Zyw hc.1) (.mk _ (.inl rfl) ?_))⟩⟩
   rw [hc.2]
   exact ihC (fun x hx=>hC x (.tail _ hx)) _ h1
 | cons x p ih=>
  have h1:On _ ((Z,.list l0)::bS A ks bl (.dI (nmD N)) m (some (.int x.1)) R):=h.set 5 rfl
  have hx:=hp x (.head _)
  have e:lo++[60,47]++Zfg x.2++[62]=lo++clT x.2:=by rw [Zw,Zw];rfl
  refine ⟨h 0 0,.mk v1 (h 5 5) ⟨l1,.mk v1 (h1 5 5) (.list (h1 8 8) hU (Zyw hx.1) (.mk _ (.inl rfl) ?_))⟩⟩
  rw [hx.2.1]
  refine ⟨l2,.mk _ (mkL .lAppend rfl rfl (h1 1 1)) ⟨l3,.addS (lt5 b1 (Zm 2) (Za rfl)) (.mk v3 (h1 7 7) (.mk v1 (h1 5 5) (.dI (h1 2 2) (Zyl hx.2.2) (.addS (lt5 (ap b1 (Zm ([60,47]:Tx).length)) (Zm 1) (Za rfl)) (.addS (lt5 (ap (ap b1 (Zm ([60,47]:Tx).length)) (Zm (Zfg x.2).length)) (Zm 1) (Za rfl)) ?_)))))⟩⟩
  rw [e]
  exact .append (h1 1 1) (by rw [Zh];exact Zb (Zb (Zn _ _) b2) (Za rfl)) (ih [] (bl++[lo++clT x.2]) (some (.int x.1)) _ (fun y hy=>hp y (.tail _ hy)) (by rw [K8];exact h1.set 1 rfl) l1 l2 rfl (Zr _) (by rw [Zf,Xc,Xu _ p.length];exact b2) q)
end
end
section
section
variable {S:Addr->List Int->Prop}{k:Nat}{σ:Hp}{R:Ls}{ks:List Tx}
theorem Zpo (ks:List Tx):runZ ks (stillR ks 0) [] (fun J=>none)=(((endS ks).p.map Um++(endS ks).C).reverse,(endS ks).f):=Ydx ks [] bs0 rfl rfl (al0 ks)
theorem Ygw {U:Addr}(hu:okU ks)(h:On σ ((U,.list (strL ks))::R))(q:∀ σ' B,σ' B=some (.list (strL (Zks ks)))->(Zks ks).length<=101->Q (.ref B) σ'):Dk S (k + 2) 400 [.ref U] σ Q:=by
 have hU:(strL ks).length<=100000:=by rw [Zh];exact Zb hu.l (Za rfl)
 have hl9:ks.length<=900:=Zb hu.l (Za rfl)
 have z:=Zw7 hu
 have hpl:(endS ks).p.length<=20:=Zb z.A.pl (z.i▸hu.l)
 have hCl:(intL ((endS ks).p.map Um++(endS ks).C).reverse).length<=100000:=by
  rw [Zh,Yh,Zf,Zh]
  exact lt5 hpl (Zb z.A.Cl (z.i▸hu.l)) (Za rfl)
 refine Zc2 29 rfl rfl rfl fun cm hcm cn hcn ck hck=>?_
 have h0:On _ ((U,.list (strL ks))::(ck,.cell none)::(cn,.cell none)::(cm,.cell none)::R):=(((h.new hcm).new hcn).new hck).fr 3 rfl
 refine ⟨rfl,rfl,.ref (Zzf (k:=k) h0 hl9 fun σ1 st Md m hm h1=>.mk rfl (.loc (.cell rfl (h1 5 5) (.nil ?_))))⟩
 rw [Zpo ks] at hm h1
 have h2:On _ ((st,.list (intL ((endS ks).p.map Um++(endS ks).C).reverse))::(Md,.dI m)::(U,.list (strL ks))::(ck,.cell none)::(cn,.cell none)::(cm,.cell (some (.ref Md)))::R):=h1.set 5 rfl
 refine fun Nd hNd=>.mk rfl ((h2.new (o:=.dI []) hNd) 5 5) ?_
 have h4:On _ ((Nd,.dI [])::(st,.list (intL ((endS ks).p.map Um++(endS ks).C).reverse))::(Md,.dI m)::(U,.list (strL ks))::(ck,.cell none)::(cn,.cell (some (.ref Nd)))::(cm,.cell (some (.ref Md)))::R):=(h2.new (o:=.dI []) hNd).set 5 rfl
 have h5:On _ ((Nd,.dI [])::(ck,.cell none)::(cn,.cell (some (.ref Nd)))::(U,.list (strL ks))::(st,.list (intL ((endS ks).p.map Um++(endS ks).C).reverse))::(Md,.dI m)::(cm,.cell (some (.ref Md)))::R):=(((h4.fr 3 rfl).fr 5 rfl).fr 5 rfl).fr 3 rfl
 refine ⟨rfl,rfl,rfl,.bi (.lenL (h4 3 3) hU (Zrc ks.length (congrArg Zbg (Zh _)) (Zb hu.l (Za rfl)) (Zwj (by rfl) (by rfl) rfl hl9 (fun σ6 u6 h6=>fun Sp hSp=>⟨(h6.new hSp) 0 0,Za rfl,by decide,?_⟩) ks [] bs0 none rfl rfl (al0 ks) h5 rfl)))⟩
 refine ⟨Za rfl,fun Bl hBl=>?_⟩
 have h9:On _ (bS ⟨Bl,Nd,Md,Sp,ck,cm,cn,U⟩ ks bs0.bl (.dI (nmD (endS ks).N)) m u6 ((st,.list (intL ((endS ks).p.map Um++(endS ks).C).reverse))::R)):=((((((((((h6.new (o:=.dS []) hSp).up).new (o:=.list (strL [[60,114,62]])) hBl).fr 5 rfl).fr 5 rfl).fr 8 rfl).fr 6 rfl).fr 5 rfl).fr 8 rfl).fr 7 rfl).fr 7 rfl
 refine ⟨rfl,rfl,rfl,.bi (.lenL (h9 7 7) hU (Zrc ks.length (congrArg Zbg (Zh _)) (Zb hu.l (Za rfl)) (Yg3 (A:=⟨Bl,Nd,Md,Sp,ck,cm,cn,U⟩) (st:=.ref st) (T:=endS ks) (by rfl) (by rfl) (by rfl) hu hm z (fun σ10 lv u10 h10 L=>?_) ks [] bs0 u6 _ ⟨rfl,rfl,rfl,al0 ks,bd0⟩ h9 ⟨rfl,rfl,rfl,rfl,rfl⟩ rfl)))⟩
 have er:(intL ((endS ks).p.map Um++(endS ks).C).reverse).reverse=intL ((endS ks).p.map Um++(endS ks).C):=by rw [<-Xi,List.reverse_reverse]
 refine ⟨L.t,.mk 1 (.rev (h10 8 8) hCl fun Z hZ=>?_)⟩
 refine (er)▸?_
 have h11:=h10.new (o:=.list (intL ((endS ks).p.map Um++(endS ks).C))) hZ
 refine .mk (.list (h11 0 0)) (Ygf (A:=⟨Bl,Nd,Md,Sp,ck,cm,cn,U⟩) (by rfl) (by rfl) hu.l ?hC (endS ks).p (endS ks).lo (endS ks).bl u10 lv ?hp h11 L.u L.b L.o ?b1 ?b2 fun σ12 lv lo' bl' e h12 l2 l3 b1 b2=>⟨l2,l3,.addS (lt5 b1 (Zm 4) (Za rfl)) ⟨Za rfl,fun Y hY=>?_⟩⟩)
 case hC=>exact fun x hx=>⟨z.i▸(z.A.cl x hx).1,(z.A.cl x hx).2⟩
 case hp=>exact fun x hx=>⟨z.i▸z.A.Ni x (z.A.sub x hx).1,z.A.op x hx,z.A.lk x (z.A.sub x hx).1⟩
 case b1=>exact Zb z.B.lo (ZC 5 (z.i▸hu.l))
 case b2=>exact Zb (Yc (Zb z.B.bl (Zu (z.i▸hu.l))) hpl) (Za rfl)
 have h13:=h12.new (o:=.list (strL [lo'++[60,47,114,62]])) hY
 refine .addL (h13 1 1) (h13 0 0) (by rw [Zh];exact lt5 b2 (Zm 1) (Za rfl)) fun B hB=>q _ B ?_ ?_
 ·exact Zcc.trans (congrArg (fun l=>some (O.list l)) (ZF.symm.trans (congrArg strL e.symm)))
 ·rw [show Zks ks=_ from e,Zf];exact Zu b2
end
end
section
noncomputable abbrev PT:=List (Tx×Tx)noncomputable abbrev pN (ps:List Tx):PT:=ps.map fun t=>([],t)noncomputable abbrev Zgl (w:Int)(fm:FM)(ps:List Tx):FM:=ps.foldl (fp w) fm
abbrev Zou (B:List Tx):Prop:=∀ b∈B,Kf b=false
structure Zqa (A:PT):Prop where
 e:∃ A' t,A=A'++[([],t)]/\Kf t=true
noncomputable abbrev GB (w:Int)(done:List Tx)(A:PT)(B:List Tx):FM:=bif decide (w < ((tx A).length:Int) + (B.flatten.length:Int)) then (done++[tx A],pN B) else (done,A++pN B)
section
variable {w:Int}{A:PT}{B ps bl:List Tx}{q t t0:Tx}{done:List Tx}{fm:FM}
theorem Yc2 (B:List Tx):tx (pN B)=B.flatten:=by
 induction B with
 | nil=>rfl
 | cons b r ih=>exact congrArg (b++·) ih
theorem Zv0 (L:PT)(n m:Nat)(h:∀ j p,n<=j->j < n + m->L[j]? = some p->Kf p.2=false):splitI L (n + m)=splitI L n:=by
 induction m with
 | zero=>rfl
 | succ m ih=>
  refine Eq.trans ?_ (ih fun j p h1 h2=>h j p h1 (YW h2))
  show (bif L[n + m]?.any (fun p=>Kf p.2) then some (n + m + 1) else splitI L (n + m))=_
  cases e:L[n + m]? with
  | none=>rfl
  | some p=>show (bif Kf p.2 then _ else _)=_;rw [h _ p (Zn _ _) (Yq _) e];rfl
theorem Zx9 (A C:PT)(hB:Zou B):splitI (A++(pN B++C)) (A.length + B.length)=splitI (A++(pN B++C)) A.length:=
 Zv0 _ _ _ fun j p h1 h2 e=>by
  rw [XM h1,List.getElem?_append_left (by rw [Zh];exact Nat.sub_lt_left_of_lt_add h1 h2)] at e
  obtain ⟨b,hb,rfl⟩:=Ys.mp (Z9 e)
  exact hB b hb
theorem Yip (hA:Zqa A)(C:PT):splitI (A++C) A.length=some A.length:=by
 obtain ⟨A',p,rfl,hp⟩:=hA.e
 rw [Zf]
 show (bif ((A'++[([],p)])++C)[A'.length]?.any (fun p=>Kf p.2) then some (A'.length + 1) else _)=_
 rw [Zw,XM (Zm _),Zdp]
 show (bif Kf p then _ else _)=_
 rw [hp];rfl
theorem Zr1 (A:PT)(B:List Tx)(t:Tx):A++pN B++[([],t)]=A++pN (B++[t]):=(Zw _ _ _).trans (congrArg (A++·) (ZF (l₂:=[t])).symm)theorem Ynl (A:PT)(B:List Tx):((tx (A++pN B)).length:Int)=((tx A).length:Int) + (B.flatten.length:Int):=by rw [Zk9,Yc2,Zf];exact Ze3 _ _
theorem Yee (hA:Zqa A)(hB:Zou B):fp w (done,A++pN B) t=GB w done A (B++[t]):=by
 show (bif decide (w < ((tx (A++pN B++[([],t)])).length:Int)) then (splitI (A++pN B++[([],t)]) (A++pN B).length).elim _ fun i=>(done++[tx ((A++pN B++[([],t)]).take i)],(A++pN B++[([],t)]).drop i) else (done,A++pN B++[([],t)]))=_
 have e:splitI (A++pN (B++[t])) (A++pN B).length=some A.length:=by
  rw [<-Zr1,Zw,Zf,Zh,Zx9 A _ hB];exact Yip hA _
 rw [Zr1,Ynl,e]
 show (bif _ then (done++[tx ((A++pN (B++[t])).take A.length)],(A++pN (B++[t])).drop A.length) else _)=_
 rw [Zsh,Zfs]
theorem Yn8 (h:decide (w < ((tx A).length:Int) + (B.flatten.length:Int))=true)(hB:Zou B):fp w (done++[tx A],pN B) t=GB w done A (B++[t]):=by
 have e:splitI (pN B++[([],t)]) (pN B).length=none:=by
  have:=Zx9 [] [([],t)] hB
  rw [Zh];rw [Yqc,Yqe,Ua] at this;exact this
 show (bif _ then (splitI (pN B++[([],t)]) (pN B).length).elim (_,pN B++[([],t)]) _ else (_,pN B++[([],t)]))=_
 rw [e,show pN B++[([],t)]=pN (B++[t]) from Zr1 [] B t,GB,decide_eq_true (Ylg (of_decide_eq_true h) (Int.add_le_add_left (YZ.mpr (by rw [Xf,Zf];exact Zn _ _)) _))]
 exact Zsk ..
theorem Yeb (hA:Zqa A)(hB:Zou B):fp w (GB w done A B) t=GB w done A (B++[t]):=by
 unfold GB
 cases h:decide (w < ((tx A).length:Int) + (B.flatten.length:Int)) with
 | true=>exact Yn8 h hB
 | false=>exact Yee hA hB
theorem Yed (hA:Zqa A)(hB:Zou B)(hp:Zou ps):Zgl w (GB w done A B) (ps++[q])=GB w done A (B++(ps++[q])):=by
 induction ps generalizing B with
 | nil=>exact Yeb hA hB
 | cons p ps ih=>
  show Zgl w (fp w (GB w done A B) p) (ps++[q])=_
  rw [Yeb hA hB]
  refine (ih (Uq.mpr ⟨hB,Xp.mpr (hp p (.head _))⟩) fun b hb=>hp b (.tail _ hb)).trans ?_
  rw [Zw];rfl
theorem Yec (hA:Zqa A)(hp:Zou ps):Zgl w (done,A) (ps++[q])=GB w done A (ps++[q]):=by
 have h1:∀ t,fp w (done,A) t=GB w done A [t]:=fun t=>by
  have:=Yee (w:=w) (done:=done) (t:=t) hA (B:=[]) nofun
  exact (congrArg (fun A=>fp w (done,A) t) (ZK A).symm).trans this
 cases ps with
 | nil=>exact h1 q
 | cons p ps=>
  show Zgl w (fp w (done,A) p) (ps++[q])=_
  rw [h1];exact Yed hA (Xp.mpr (hp p (.head _))) fun b hb=>hp b (.tail _ hb)def FR (w:Int)(fm:FM)(bl:List Tx):Prop:=Zqa fm.2/\(∃ bs,bl=[60,114,62]::bs/\∀ more,rowsR w (bs++more) [] [60,114,62]=rowsR w more fm.1 (tx fm.2))
theorem FR.blk (h:FR w fm bl)(hp:Zou ps)(hq:Kf q=true):FR w (Zgl w fm (ps++[q])) (bl++[(ps++[q]).flatten]):=by
 obtain ⟨he,bs,hb,hr⟩:=h
 rw [show fm=(fm.1,fm.2) from rfl,Yec he hp]
 have hr':∀ more,rowsR w (bs++[(ps++[q]).flatten]++more) [] [60,114,62]=bif decide (w < ((tx fm.2).length:Int) + ((ps++[q]).flatten.length:Int)) then rowsR w more (fm.1++[tx fm.2]) (ps++[q]).flatten else rowsR w more fm.1 (tx fm.2++(ps++[q]).flatten):=fun more=>by
  rw [Zw,hr];rfl
 revert hr'
 unfold GB
 cases decide (w < ((tx fm.2).length:Int) + ((ps++[q]).flatten.length:Int)) with
 | true=>exact fun hr'=>⟨⟨pN ps,q,ZF,hq⟩,bs++[_],by rw [hb];rfl,fun more=>(hr' more).trans (by rw [show tx (cond true (fm.1++[tx fm.2],pN (ps++[q])) _).2=_ from Yc2 _];rfl)⟩
 | false=>exact fun hr'=>⟨⟨fm.2++pN ps,q,(Zr1 _ _ _).symm,hq⟩,bs++[_],by rw [hb];rfl,fun more=>(hr' more).trans (by rw [show tx (cond false _ (fm.1,fm.2++pN (ps++[q]))).2=_ from Zk9 _ _,Yc2];rfl)⟩
theorem Yf3 {a b:Tx}(ha:Kf a=false)(hb:Kf b=false):Kf (a++b)=false:=by
 unfold Kf at ha hb⊢
 rw [List.getLast?_append]
 cases e:b.getLast? with
 | none=>exact ha
 | some x=>rw [e] at hb;exact hb
theorem Yf2 (c:Nat):Kf (Zhp c)=false:=by
 unfold Zhp
 by_cases h1:c=38
 ·rw [if_pos h1];rfl
 rw [if_neg h1]
 by_cases h2:c=60
 ·rw [if_pos h2];rfl
 rw [if_neg h2]
 by_cases h3:c=62
 ·rw [if_pos h3];rfl
 rw [if_neg h3]
 by_cases h4:c=13
 ·rw [if_pos h4];rfl
 rw [if_neg h4];exact beq_false_of_ne fun y=>h3 (Z1 y)
theorem Ypf (t:Tx):Kf (escT t)=false:=by
 induction t with
 | nil=>rfl
 | cons c t ih=>exact Yf3 (Yf2 c) ih
noncomputable abbrev tp (t:Tx):List Tx:=bif t.isEmpty then [] else [escT t]
theorem Yij (t:Tx):(tp t).flatten=escT t:=by
 cases t with
 | nil=>rfl
 | cons c r=>exact ZK _
theorem tp_gt (t:Tx):Zou (tp t):=by
 cases t with
 | nil=>exact nofun
 | cons c r=>exact Xp.mpr (Ypf _)theorem Yf6 (fm:FM)(t:Tx):flushP w fm t=Zgl w fm (tp t):=by cases t <;> rfl
theorem FR.tag (h:FR w fm bl)(hp:Zou ps)(hq:Kf q=true):FR w (Zgl w (flushP w fm t0) (ps++[q])) (bl++[escT t0++(ps++[q]).flatten]):=by
 have:=h.blk (ps:=tp t0++ps) (Uq.mpr ⟨tp_gt t0,hp⟩) hq
 rw [Zw,Xf,Yij] at this
 rw [Yf6,Zgl,<-List.foldl_append];exact this
theorem Ydh (w:Int):FR w (Zgl w ([],[]) [[60,114],[62]]) [[60,114,62]]:=by
 have e1:fp w ([],[]) [60,114]=([],[([],[60,114])]):=by
  exact Zsk ..
 have e2:fp w ([],[([],[60,114])]) [62]=([],[([],[60,114]),([],[62])]):=by
  exact Zsk ..
 show FR w (fp w (fp w ([],[]) [60,114]) [62]) _
 rw [e1,e2]
 exact ⟨⟨[([],[60,114])],[62],rfl,rfl⟩,[],rfl,fun J=>rfl⟩
end
end
section
noncomputable abbrev ppT (p:NL):PT:=p.reverse.map fun x=>([47],Zfg x.2)noncomputable abbrev wR (P Pd L0:Addr)(l0:List V)(p:NL):Ls:=[(P,.acc 325 Pd (accL (ppT p))),(Pd,.at fs0),(L0,.list l0)]
structure TI (W:WA)(P Pd L0:Addr)(l0:List V)(R:Ls)(σ:Hp)(s:BS)(ds:List Tx)(rs:List Addr)(nl:List V)(fm:FM):Prop where
 h:On σ (wL W true false (strL ds) rs nl (s.p.length + 1) fm (wR P Pd L0 l0 s.p++R))
 f:Fit (2 + 4 * s.i) fm
 r:FR W.w fm s.bl
 e:escT ds.flatten=s.lo
 d1:ds.length<=s.i
 d2:ds.flatten.length<=s.i
 rl:rs.length=s.p.length + 1
 nl:nl.length=s.p.length + 3
def LT (W:WA)(P:Addr)(s:BS)(lv:Nat->Option V):Prop:=(lv 168=some (.ref W.a))/\(lv 170=some (.ref P))/\(lv 171=some (.int ((97 + s.N.length:Nat):Int)))def LT.w {W s}(z:@LT W P s lv):=z.1
def LT.p {W s}(z:@LT W P s lv):=z.2.1
def LT.l {W s}(z:@LT W P s lv):=z.2.2
abbrev Yl8:FS:=Zo (sEx (xMc (xLc 168) 75 (Zk (Yb (xGl 174) (Zk (xLc 171) (ZD))) (Zk (Yic (Zfw [105,110] (Yb (xGl 122) (Zk (xLc 170) (ZD))) (Zfw [97,116] (Yb (xGl 122) (Zk (xLc 172) (ZD))) (Ya0)))) (ZD))))) (Zo (sEx (xMc (xLc 170) 120 (Zk (xV (.str [47])) (Zk (Yb (xGl 174) (Zk (xLc 171) (ZD))) (ZD))))) (Zo (Zm4 171 .Add (xV (.int 1))) (Zx)))abbrev Yc7:FS:=Zo (YM 175 (YK (xMc (xLc 170) 1 (ZD)) (xV (.int 1)))) (Zo (Yx (YC .Eq (xLc 175) (xV (.str []))) (Zo (sEx (xMc (xLc 168) 96 (Zk (xLc 173) (ZD)))) (Zx)) (Zo (sEx (xMc (xLc 168) 95 (Zk (xLc 175) (ZD)))) (Zx))) (Zx))abbrev Yl7:FS:=Zo (sEx (xMc (xLc 168) 66 (Zk (Zfd (xLc 173) (Zdj (xV (.int 1))) (xV .none) (xV .none)) (ZD)))) (Zx)abbrev Zsx:FS:=Zo (Yx (YC .Eq (xLc 173) (xV (.str [40]))) Yl8 (Zo (Yx (YC .Eq (xLc 173) (xV (.str [41]))) Yc7 Yl7) (Zx))) (Zx)
section
variable {S:Addr->List Int->Prop}{k:Nat}{σ:Hp}{R:Ls}{ks:List Tx}{s:BS}{W:WA}{P Pd L0:Addr}{l0:List V}{ds:List Tx}{rs:List Addr}{nl:List V}{fm:FM}{cv:Nat->Option Addr}{Pp:Fl->St->Prop}{bl:List Tx}{t0:Tx}
theorem Yl5 (p:NL):tx (p.map fun x=>([47],Zfg x.2))=wayT p:=by
 induction p with
 | nil=>rfl
 | cons x p ih=>exact congrArg (([47]++Zfg x.2)++·) ih
theorem Yda {c:Nat}(h:c<=20):Zfb (Zfg c):=
 ⟨⟨97 + c,[],rfl,Z3 (ZS (ZJ h 97) (Za rfl))⟩,Za rfl,Kl.mpr ⟨fun z=>(Xl.mp z).elim (fun e=>(nomatch congrArg Z5 e)) fun z=>(nomatch congrArg Z5 (Xb.mp z)),by decide⟩,
  fun z=>Z3 (ZS (ZJ h 97) (Za rfl)) (Xb.mp z).symm⟩
theorem Yct {p:NL}(h:p.length<=20):okS (wayT p):=
 ⟨Zmf p▸ZC 2 h,fun c hc=>(List.mem_flatMap.mp hc).elim fun x hx=>(Xl.mp hx.2).elim (fun e=>by rw [e];decide) fun e=>by
  rw [Xb.mp e]
  exact fun z=>Ug.mpr (Zn 97 x.2) ((by decide:∀ y∈[38,60,34,9,10,13],y < 97) _ z)⟩
theorem Zwv (a:Tx)(c:Nat)(h:c≠62):Kf (a++[c])=false:=by
 unfold Kf;rw [XK];exact beq_false_of_ne fun y=>h (Z1 y)theorem ne62 (c:Nat):97 + c≠62:=fun z=>Ug.mpr (Zn 97 c) (z▸Za rfl)
theorem FR.op {w:Int}(h:FR w fm s.bl)(e:escT t0=s.lo):FR w (Zpv w (flushP w fm t0) (Zfg s.N.length) (some (wayT s.p.reverse,Znv (s.pos:Int)))) (tO s).bl:=by
 have:=h.tag (t0:=t0) (ps:=[[60]++Zfg s.N.length,mid (wayT s.p.reverse,Znv (s.pos:Int))]) (q:=[62]) (Zi.mpr ⟨Zwv [60] _ (ne62 _),Xp.mpr (by rw [mid,KZ];exact Yf3 (Zwv _ 34 (by decide)) (by rw [KD];exact Zwv _ 34 (by decide)))⟩) rfl
 rw [e] at this
 have e2:s.lo++([[60]++Zfg s.N.length,mid (wayT s.p.reverse,Znv (s.pos:Int))]++[[62]]).flatten=opT s:=by
  rw [opT,mid,KZ]
  simp [item,tAt,tIn]
 rw [e2] at this
 exact this
theorem FR.cl {w:Int}{c:Nat}{lo:Tx}(h:FR w fm bl)(e:escT t0=lo):FR w (fp w (flushP w fm t0) ([60,47]++Zfg c++[62])) (bl++[lo++clT c]):=by
 subst e
 have:=h.tag (t0:=t0) (ps:=[]) (q:=clT c) nofun rfl
 rw [show (([]:List Tx)++[clT c]).flatten=clT c from ZK _] at this
 exact this
theorem FR.re {w:Int}{lo:Tx}(h:FR w fm bl)(e:escT t0=lo):FR w (fp w (flushP w fm t0) ([60,33,45,45]++escT [41]++[45,45,62])) (bl++[lo++reT]):=e▸h.tag (t0:=t0) (ps:=[]) (q:=reT) nofun rfl
theorem toC {W:WA}{P Pd L0:Addr}{p:NL}{d:List V}{m:Nat}{s1 s2:Bool}(h:On σ (wL W s1 s2 d rs nl m fm (wR P Pd L0 l0 p++R))):On σ (pil P Pd (accL (ppT p))++((L0,.list l0)::wL W s1 s2 d rs nl m fm R)):=frA (A:=wR P Pd L0 l0 p) h
theorem ofC {W:WA}{P Pd L0:Addr}{p:NL}{d:List V}{m:Nat}{s1 s2:Bool}(h:On σ (pil P Pd (accL (ppT p))++((L0,.list l0)::wL W s1 s2 d rs nl m fm R))):On σ (wL W s1 s2 d rs nl m fm (wR P Pd L0 l0 p++R)):=toA (A:=wR P Pd L0 l0 p) h
theorem Yn9 {p:NL}(h:p.length<=20):Bnd (ppT p):=by
 unfold Bnd
 rw [show ppT p=p.reverse.map _ from rfl,Yl5,Zmf,Zh,Yh]
 exact Zb (Yc (ZC 2 h) h) (Za rfl)
theorem TI.w {W:WA}{P Pd L0:Addr}{ds:List Tx}(T:TI W P Pd L0 l0 R σ s ds rs nl fm)(hi:s.i<=20):(ds.map Z5).sum + ds.length<=1000:=
 Zb (Yc (by rw [<-Zel];exact Zb T.d2 hi) (Zb T.d1 hi)) (Za rfl)
theorem Yno (hi:s.i<=20)(hp:s.pos < 64)(A:Al ks s)(T:TI W P Pd L0 l0 R σ s ds rs nl fm)(L:Zh0 W)(l:LT W P s lv)(la:lv 172=some (.int (s.pos:Int)))
  (q:∀ σ' lv' ds' rs' nl' fm',TI W P Pd L0 l0 R σ' (tO s) ds' rs' nl' fm'->LT W P (tO s) lv'->Pp .next ⟨σ',lv',cv⟩):Yl8 (Dk S (k + 7)) Pp ⟨σ,lv,cv⟩:=by
 have hpl:=Zb A.pl hi
 have hN:=Zb A.Nl hi
 have hc:∀ {Q:V->Hp->Prop} {σ:Hp},Q (.str (Zfg s.N.length)) σ->Zd1 (Dk S (k + 7)) Q σ (.bi .chr) [.int ((97 + s.N.length:Nat):Int)]:=fun q=>.bi (.chr (Z4 _) (YZ.mpr (Zb (ZJ hN 97) (Za rfl))) q)
 refine ⟨l.w,.mk _ (Zfc (T.h 5 5) (T.h 6 6) rfl rfl) ⟨rfl,l.l,hc fun D hD=>?_⟩⟩
 have h0:=T.h.new (o:=.dS []) hD
 have h2:On (upd (upd σ D (.dS [])) D (.dS [([105,110],.str (tx (ppT s.p))),([97,116],.str (Znv (s.pos:Int)))])) ((D,.dS (Zbl (some (wayT s.p.reverse,Znv (s.pos:Int)))))::wL W true false (strL ds) rs nl (s.p.length + 1) fm (wR P Pd L0 l0 s.p++R)):=by rw [show tx (ppT s.p)=wayT s.p.reverse from Yl5 _];exact h0.up
 refine ⟨rfl,l.p,Zko (k:=k + 6) (frA (A:=(D,.dS [])::wR P Pd L0 l0 s.p) (R:=R) (toA (A:=[_]) h0)).tl rfl (Yn9 hpl) ⟨rfl,la,.bi (.str (Iv (m:=s.pos) (Zb (Y8 hp) (Za rfl))) ⟨h0 0 0,Za rfl,(by show ([[105,110],[97,116]]:List Tx).Nodup;decide),?_⟩)⟩⟩
 refine .ref (Zzd (k:=k) h2 L T.f (ZS (Yr (ZJ (ZC 4 hi) 2) 3) (Za rfl)) (by rw [T.nl];exact Zb (Yr hpl 3) (Za rfl)) (Zb (Zu hpl) (Za rfl)) (by rw [T.rl];exact ZS (Zu hpl) (Za rfl)) (Yda hN) (fun p e=>by cases e;exact ⟨Yct (by rw [Yh];exact hpl),Znu _ hp⟩)
  (T.w hi) (KZ _) (Zb T.d2 (Zb hi (Za rfl))) (.inr rfl) fun σ3 nr x h3=>⟨l.p,.mk _ (Zbs (toC h3) rfl rfl) ⟨rfl,l.l,hc (.ref (Zw3 (k:=k + 6) (toC h3) ?_ fun σ4 h4=>.mk l.l (.add (q σ4 _ [] (nr::rs) (nl++[.ref x]) _ ⟨?_,?_,T.r.op T.e,rfl,Zr _,Zr _,congrArg Zbc T.rl,?_⟩ ⟨l.w,l.p,?_⟩))))⟩⟩)
 ·rw [Zh,Zh,Yh];exact Zb hpl (Za rfl)
 ·refine ofC ?_
  rw [show accL (ppT (tO s).p)=accL (ppT s.p)++[.tup [.str [47],.str (Zfg s.N.length)]] by rw [ppT,Y7,ZF,accL,ZF];rfl]
  exact h4
 ·exact (((T.f.flush W.w (Zb T.d2 (Zb hi (Za rfl)))).push W.w (Za rfl)).push W.w (Zri ⟨Yct (by rw [Yh];exact hpl),Znu _ hp⟩)).push W.w (Za rfl)
 ·rw [Zf,T.nl];rfl
 ·show _=some (V.int ((97 + (s.N++[(s.i,s.N.length)]).length:Nat):Int))
  rw [Zf];rfl
end
end
section
section
variable {S:Addr->List Int->Prop}{k:Nat}{σ:Hp}{R:Ls}{ks:List Tx}{s:BS}{W:WA}{P Pd L0:Addr}{l0:List V}{ds:List Tx}{rs:List Addr}{nl:List V}{fm:FM}{cv:Nat->Option Addr}{Pp:Fl->St->Prop}{u:Tx}{x:Nat×Nat}{p:NL}
noncomputable abbrev popV (x:Nat×Nat):V:=.tup [.str [47],.str (Zfg x.2)]theorem Zyh (x:Nat×Nat)(p:NL):accL (ppT (x::p))=accL (ppT p)++[popV x]:=by rw [ppT,Y7,ZF,accL,ZF];rfl
theorem TI.pop (T:TI W P Pd L0 l0 R σ s ds rs nl fm)(e:s.p=x::p)(hp:s.p.length<=20)(q:∀ σ1,On σ1 (wL W true false (strL ds) rs nl (p.length + 1 + 1) fm (wR P Pd L0 l0 p++R))->Q (popV x) σ1):Dk S (k + 7) 285 [.ref P] σ Q:=by
 have h:=toC T.h
 rw [e,Zyh] at h
 exact Ygu (k:=k + 5) h (by rw [<-Zyh,Zh,Zh,Yh,<-e];exact Zb hp (Za rfl)) fun σ1 h1=>q σ1 (ofC h1)
theorem TI.ends (T:TI W P Pd L0 l0 R σ s ds rs nl fm)(L:Zh0 W)(e:s.p=x::p)(hi:s.i<=40)(hx:x.2<=20)(hp:s.p.length<=20){σ1:Hp}(h:On σ1 (wL W true false (strL ds) rs nl (p.length + 1 + 1) fm (wR P Pd L0 l0 p++R)))
  (q:∀ σ' rs' nl' fm',TI W P Pd L0 l0 R σ' (tC s x p) [] rs' nl' fm'->Q .none σ'):Dk S (k + 7) 133 [.ref W.a,.str (Zfg x.2)] σ1 Q:=by
 have rl:=T.rl
 have nL:=T.nl
 rw [e] at rl nL hp
 have hp':p.length<=20:=Yn hp
 have d2:=Zb T.d2 hi
 cases rs with
 | nil=>cases rl
 | cons nr rs=>
  refine ((K9 nl).resolve_left fun z=>by rw [z] at nL;cases nL).elim fun l hr50=>hr50.elim fun v hv=>?_
  rw [UW] at hv
  subst hv
  have nL:l.length=p.length + 3:=Zaj (Zf.symm.trans nL)
  have rl:rs.length=p.length + 1:=Zaj rl
  refine Ymu (k:=k) h L T.f (ZS (Yr (ZJ (ZC 4 hi) 2) 1) (Za rfl)) (by rw [nL];exact ZS (Yr hp' 3) (Za rfl)) (Zb (Zu hp') (Za rfl)) (by rw [rl];exact ZS (Zu hp') (Za rfl)) (Yda hx)
   (Zb (Yc (by rw [<-Zel];exact d2) (Zb T.d1 hi)) (Za rfl)) (KZ _) d2 (d':=false) (decide_eq_false fun z=>Zec _ (Zaj (Zpe z))) fun σ' h'=>q σ' rs l _ ⟨h',?_,T.r.cl T.e,rfl,Zr _,Zr _,rl,nL⟩
  exact ((T.f.flush W.w d2).push W.w (Za rfl)).mono (Zb (ZW _) (ZW _))
theorem Ynp (e:s.p=x::p)(hi:s.i<=20)(hx:x.2<=20)(hp:s.p.length<=20)(T:TI W P Pd L0 l0 R σ s ds rs nl fm)(L:Zh0 W)(l:LT W P s lv)
  (q:∀ σ' lv' ds' rs' nl' fm',TI W P Pd L0 l0 R σ' (tC s x p) ds' rs' nl' fm'->LT W P (tC s x p) lv'->Pp .next ⟨σ',lv',cv⟩):Yc7 (Dk S (k + 7)) Pp ⟨σ,lv,cv⟩:=
 ⟨l.p,.mk _ (Zbs (toC T.h) rfl rfl) (.ref (T.pop (k:=k) e hp fun σ1 h1=>.tup (Za rfl) (by decide) rfl ⟨rfl,.mk false (.inl rfl) ⟨l.w,.mk _ (Zfc (h1 5 5) (h1 6 6) rfl rfl) ⟨rfl,.ref (T.ends (k:=k) L e (Zb hi (Za rfl)) hx hp h1 fun σ' rs' nl' fm' T'=>q σ' _ _ rs' nl' fm' T' ⟨l.w,l.p,l.l⟩)⟩⟩⟩))⟩
theorem Ynn (e:s.p=[])(hi:s.i<=20)(T:TI W P Pd L0 l0 R σ s ds rs nl fm)(L:Zh0 W)(l:LT W P s lv)(ls:lv 173=some (.str [41]))
  (q:∀ σ' lv' ds' rs' nl' fm',TI W P Pd L0 l0 R σ' (tR s) ds' rs' nl' fm'->LT W P (tR s) lv'->Pp .next ⟨σ',lv',cv⟩):Yc7 (Dk S (k + 7)) Pp ⟨σ,lv,cv⟩:=by
 have h:=T.h
 have rl:=T.rl
 have nL:=T.nl
 rw [e] at h rl nL
 have d2:=Zb T.d2 hi
 refine ⟨l.p,.mk _ (Zbs (toC h) rfl rfl) (.ref (Ypx (k:=k + 5) (toC h) (.tup (Za rfl) (by decide) rfl ⟨rfl,.mk true (.inl rfl) ⟨l.w,.mk _ (Zfc (h 5 5) (h 6 6) rfl rfl) ⟨ls,.ref (Ybz (k:=k) h L T.f (ZS (Yr (ZJ (ZC 4 hi) 2) 1) (Za rfl)) (Za rfl) (T.w hi) (KZ _) (Zb d2 (Za rfl)) fun σ' h'=>q σ' _ [] rs nl _ ⟨h',?_,T.r.re T.e,rfl,Zr _,Zr _,rl,nL⟩ ⟨l.w,l.p,l.l⟩)⟩⟩⟩)))⟩
 exact ((T.f.flush W.w (Zb d2 (Za rfl))).push W.w (Za rfl)).mono (Zb (ZW _) (ZW _))noncomputable abbrev signT (u:Tx):Tx:=bif isB u then [] else u
theorem Yiv (hu:u≠[]):Zbj (signT u) (some (-1)) none=sigT u:=by
 unfold signT sigT
 cases isB u with
 | true=>rfl
 | false=>
  obtain ⟨l,c,hc⟩:=(K9 u).resolve_left hu
  rw [UW] at hc
  subst hc
  show ((l++[c]).drop (X3 (-1) (l++[c]).length)).take ((l++[c]).length - X3 (-1) (l++[c]).length)=(l++[c]).getLast?.toList
  rw [show X3 (-1) (l++[c]).length=l.length by rw [Zf];show ((-1:Int) + ((l.length + 1:Nat):Int)).toNat=l.length;omega,Zfs,Zf,Zam,XK];rfl
theorem Ynm (hu:u≠[])(h3:u.length<=2)(hi:s.i<=20)(T:TI W P Pd L0 l0 R σ s ds rs nl fm)(l:LT W P s lv)(ls:lv 173=some (.str (signT u)))
  (q:∀ σ' lv' ds' rs' nl' fm',TI W P Pd L0 l0 R σ' (tX s u) ds' rs' nl' fm'->LT W P (tX s u) lv'->Pp .next ⟨σ',lv',cv⟩):Yl7 (Dk S (k + 7)) Pp ⟨σ,lv,cv⟩:=by
 have hs:(signT u).length<=2:=by unfold signT;cases isB u;exact h3;exact Zr _
 have hd:(ds++[sigT u]).flatten=ds.flatten++sigT u:=by rw [Xf,KD]
 refine ⟨l.w,.mk _ (Zfc (T.h 5 5) (T.h 6 6) rfl rfl) ⟨ls,.mk 1 (.str rfl rfl (Zb hs (Za rfl)) ?_)⟩⟩
 rw [Yiv hu]
 refine .ref (Ypz (k:=k + 6) T.h (by rw [Zh];exact Zb T.d1 (Zb hi (Za rfl))) fun σ' h'=>q σ' _ (ds++[sigT u]) rs nl fm ⟨by rw [<-K8];exact h',T.f.mono (ZJ (ZC 4 (ZW _)) 2),T.r,?_,?_,?_,T.rl,T.nl⟩ ⟨l.w,l.p,l.l⟩)
 ·rw [hd];exact Ze2.trans (congrArg (·++_) T.e)
 ·rw [Zf];exact Zu T.d1
 ·rw [hd];exact ap T.d2 (Zya u)
end
end
section
abbrev endT:FB:=YC .Gt (xMc (xLc 170) 134 (ZD)) (xV (.int 0))abbrev endW:FS:=Zo (sEx (xMc (xLc 168) 95 (Zk (YK (xMc (xLc 170) 1 (ZD)) (xV (.int 1))) (ZD)))) (Zx)
section
variable {S:Addr->List Int->Prop}{k:Nat}{σ:Hp}{R:Ls}{ks us:List Tx}{s T0:BS}{W:WA}{P Pd L0:Addr}{l0:List V}{ds:List Tx}{rs:List Addr}{nl:List V}{fm:FM}{cv:Nat->Option Addr}{Pp:Fl->St->Prop}{u:Tx}{x:Nat×Nat}{p:NL}{Do:PP}{w:Int}
theorem Zz4 (hu:okU ks)(L:Zh0 W)(q:∀ σ' (lv:Nat->Option V) ds rs nl fm,TI W P Pd L0 l0 R σ' T0 ds rs nl fm->LT W P T0 lv->Do Pp ⟨σ',lv,cv⟩)
  (r pre:List Tx) (s:BS) (ds:List Tx) (rs:List Addr) (nl:List V) (fm:FM) (lv:Nat->Option V) (z:At ks s pre r) (T:TI W P Pd L0 l0 R σ s ds rs nl fm) (l:LT W P s lv) (hT:foldB r s=T0):Zce (Zsx (Dk S (k + 7))) (.tup [172,173]) (fun st=>st.σ L0=some (.list l0)) Do Pp (Zmb r s.pos) ⟨σ,lv,cv⟩:=by
 induction r generalizing pre s ds rs nl fm lv σ with
 | nil=>subst hT;exact ⟨(toC T.h) 2 2,q σ lv ds rs nl fm T l⟩
 | cons u r ih=>
  have t:=Ze4 s u
  have z':=z.turn hu t
  have w:=hu.u u (by rw [z.e];exact Xe _ (.head _))
  have hi:s.i<=20:=by have:=hu.l;rw [z.e,Zf] at this;rw [z.i];exact Zb (Zn _ _) this
  have hp:s.pos < 64:=by have:=hu.f;rw [z.e,Xf,Zf] at this;rw [z.p];exact ZS (Zb (Zn _ _) this) (Za rfl)
  have next:∀ σ' lv' ds' rs' nl' fm',TI W P Pd L0 l0 R σ' (turnB s u) ds' rs' nl' fm'->LT W P (turnB s u) lv'->Zce (Zsx (Dk S (k + 7))) (.tup [172,173]) (fun st=>st.σ L0=some (.list l0)) Do Pp (Zmb r (s.pos + u.length)) ⟨σ',lv',cv⟩:=fun σ' lv' ds' rs' nl' fm' T' l'=>
   (Zi5 t).2▸ih (pre++[u]) (turnB s u) ds' rs' nl' fm' lv' z' T' l' hT
  refine ⟨(toC T.h) 2 2,?_⟩
  clear z' hT ih
  revert t next
  generalize turnB s u=s'
  intro t next
  cases t with
  | o=>exact .mk rfl ⟨rfl,.mk _ (.inl rfl) (Yno hi hp z.A T L ⟨l.w,l.p,l.l⟩ rfl next)⟩
  | @c x p e=>exact .mk rfl ⟨rfl,.mk _ (.inl rfl) ⟨rfl,.mk _ (.inl rfl) (Ynp e hi (Zb (Y8 (z.A.Nc x (z.A.sub x (by rw [e];exact .head _)).1)) hi) (Zb z.A.pl hi) T L ⟨l.w,l.p,l.l⟩ next)⟩⟩
  | r e=>exact .mk rfl ⟨rfl,.mk _ (.inl rfl) ⟨rfl,.mk _ (.inl rfl) (Ynn e hi T L ⟨l.w,l.p,l.l⟩ rfl next)⟩⟩
  | x e1 e2=>
   obtain ⟨v,hv⟩:∃ v,dueV s.pos u= .tup [v,.str (signT u)]:=by unfold dueV signT;cases isB u;exact ⟨_,rfl⟩;exact ⟨_,rfl⟩
   have ne:∀ c,u≠[c]->decide (signT u=[c])=false:=fun c h=>by unfold signT;cases isB u;exact decide_eq_false h;exact decide_eq_false nofun
   rw [hv]
   refine .mk rfl ⟨rfl,.mk _ (.inl rfl) ?_⟩
   rw [ne 40 e1]
   refine ⟨rfl,.mk _ (.inl rfl) ?_⟩
   rw [ne 41 e2]
   exact Ynm w.1 w.2.2 hi T ⟨l.w,l.p,l.l⟩ rfl next
theorem Zw0 (L:Zh0 W)(l1:lv 168=some (.ref W.a))(l2:lv 170=some (.ref P))(p:NL)(n:Nat)(s:BS)(ds:List Tx)(rs:List Addr)(nl:List V)(fm:FM)(hn:p.length + 1<=n)(e:s.p=p)(hi:s.i + p.length<=40)(hp:p.length<=20)(hx:∀ x∈p,x.2<=20)(T:TI W P Pd L0 l0 R σ s ds rs nl fm)
  (q:∀ σ' s' ds rs nl fm,TI W P Pd L0 l0 R σ' s' ds rs nl fm->s'.p=[]->Zrw p s.lo s.bl=s'.bl++[s'.lo++[60,47,114,62]]->s'.i<=40->Pp .next ⟨σ',lv,cv⟩):whL endT endW (Dk S (k + 7)) Pp n ⟨σ,lv,cv⟩:=by
 induction n generalizing p s ds rs nl fm σ with
 | zero=>exact absurd hn (Yhg _)
 | succ n ih=>
  have hl:(accL (ppT s.p)).length=p.length:=by rw [Zh,Zh,Yh,e]
  refine ⟨l2,.mk _ (Zbs (toC T.h) rfl rfl) (.ref (Zkr (k:=k + 6) (toC T.h) (by rw [hl];exact Zb hp (Za rfl)) ?_))⟩
  refine (hl)▸?_
  cases p with
  | nil=>exact .mk false (.inl rfl) (q σ s ds rs nl fm T e rfl hi)
  | cons x p=>exact .mk true (.inl (congrArg some (decide_eq_true (Zdq.mpr (Z8 _))))) ⟨l1,.mk _ (Zfc (T.h 5 5) (T.h 6 6) rfl rfl) ⟨l2,.mk _ (Zbs (toC T.h) rfl rfl) (.ref (T.pop (k:=k) e (by rw [e];exact hp) fun σ1 h1=>.tup (Za rfl) (by decide) rfl (.ref (T.ends (k:=k) L e (Zb (Zn _ _) hi) (hx x (.head _)) (by rw [e];exact hp) h1 fun σ' rs' nl' fm' T'=>
    ih p (tC s x p) [] rs' nl' fm' (Za7 hn) rfl (by show s.i + 1 + p.length<=40;rw [Za9];exact hi) (Yn hp) (fun y hy=>hx y (.tail _ hy)) T' q))))⟩⟩abbrev toldE:FS:=Zo (sEx (xMc (xLc 168) 95 (Zk (xV (.str [114])) (ZD)))) (Zo (Zao (xMc (xCl 167) 115 (Zk (xV (.str [10])) (ZD)))) (Zx))
theorem Yoz {A:PT}{t:Tx}(h:Kf t=true):(tx (A++[([],t)])).all Zap=false:=by
 rw [Zk9,Yc3,List.all_append]
 have hm:62∈t:=List.mem_of_getLast? (eq_of_beq h)
 rw [List.all_eq_false.mpr ⟨62,hm,by decide⟩];exact Zdh _
theorem Yc6 (L:Zh0 W)(T:TI W P Pd L0 l0 R σ s ds rs nl fm)(e:s.p=[])(hi:s.i<=40)(l1:lv 168=some (.ref W.a))(c1:cv 167=some W.cell)
  (q:∀ σ' bs,On σ' R->s.bl++[s.lo++[60,47,114,62]]=[60,114,62]::bs->Q (.str (joinT [10] (rowsR W.w bs [] [60,114,62]))) σ'):toldE (Dk S (k + 7)) (Zcv Q) ⟨σ,lv,cv⟩:=by
 have h:=T.h
 have rl:=T.rl
 have nL:=T.nl
 rw [e] at h rl nL
 have d2:=Zb T.d2 hi
 cases rs with
 | nil=>cases rl
 | cons nr rs=>
  cases rs with
  | cons a b=>cases rl
  | nil=>
   obtain ⟨l,v,hv⟩:=(K9 nl).resolve_left fun z=>by rw [z] at nL;cases nL
   rw [UW] at hv
   subst hv
   refine ⟨l1,.mk _ (Zfc (h 5 5) (h 6 6) rfl rfl) (.ref (Ymu (k:=k) (t:=[114]) h L T.f (ZS (Yr (ZJ (ZC 4 hi) 2) 1) (Za rfl)) ((Zaj (Zf.symm.trans nL))▸Za rfl) (Zr _) (Za rfl) ⟨⟨_,_,rfl,by decide⟩,Za rfl,by decide,by decide⟩
    (Zb (Yc (by rw [<-Zel];exact d2) (Zb T.d1 hi)) (Za rfl)) (KZ _) d2 (d':=true) (decide_eq_true rfl) fun σ' h'=>?_))⟩
   have f':=((T.f.flush W.w d2).push W.w (t:=[60,47]++[114]++[62]) (Za rfl)).mono (n':=200) (Zb (Yr (ZJ (ZC 4 hi) 2) 2) (Za rfl))
   have r':=T.r.cl (c:=17) T.e
   revert f' r' h'
   generalize fp W.w (flushP W.w fm ds.flatten) ([60,47]++[114]++[62])=fm'
   intro h' f' r'
   obtain ⟨⟨A',t,hA,ht⟩,bs,hb,hr⟩:=r'
   obtain ⟨ls,ps⟩:=fm'
   have hr:=hr []
   rw [ZK] at hr
   cases hA
   refine .mk c1 (h' 13 13) (.mk _ (Zfc (h' 2 2) (h' 3 3) rfl rfl) (.ref (Ykh (k:=k + 3) (pre:=A') (t:=t) (by rw [<-show accL (A'++[([],t)])=accL A'++[pc t] from ZF];exact h') (f'.bnd (Zm _)) ?_ (Yoz ht) (f'.ls (Zm _)) ?_ fun σ2 h2=>?_)))
   ·exact Zbn (Eq.subst (motive:=fun n=>n < 900) (Zf (as:=A') (bs:=[([],t)])) (f'.ps (Zm _)))
   ·rw [ZF,X4,Zf]
    exact lt5 (p:=40000) (q:=201) (Zb (ZX (Xu _ _)) f'.t) (Zu (Zb (Y6 _ _) f'.c)) (Za rfl)
   ·have:=q σ2 bs (h2.drop 12) hb
    rw [hr] at this
    exact this
theorem ti0 {nr xx:Addr}(hnl:nl.length=2)(h:On σ (wL W true false [] [nr] (nl++[.ref xx]) 1 (Zpv W.w (flushP W.w ([],[]) []) [114] none) (wR P Pd L0 l0 []++R))):TI W P Pd L0 l0 R σ bs0 [] [nr] (nl++[.ref xx]) (Zpv W.w (flushP W.w ([],[]) []) [114] none):=
 ⟨h,((Fit.push (n:=0) ⟨Zr _,Zr _⟩ W.w (Za rfl)).push W.w (Za rfl)),Ydh W.w,rfl,Zr _,Zr _,rfl,by rw [Zf,hnl];rfl⟩
theorem Ypu (hv:Vu us)(ha:Zen us.flatten=true)(hl:us.flatten.length<=1000)(hn:us.length<=1000)(hb:∀ u∈us,decide (91∈u)=isB u)(hu:okU (KK us false))(h:On σ R)(q:∀ σ' bs,On σ' R->Zks (KK us false)=[60,114,62]::bs->Q (.str (joinT [10] (rowsR w bs [] [60,114,62]))) σ'):Dk S (k + 8) 376 [.str us.flatten,.int w] σ Q:=
 Zc2 25 rfl rfl rfl fun c hc=>Zdo h hc fun σh0 h0=>
  ⟨rfl,rfl,.ref (mkV (k:=k + 5) h0 fun σ1 F h1=>.mk rfl (h1 5 5) (have h2:On _ (fmtV F w [] []++((c,.cell (some (.ref F.a)))::R)):=h1.set 5 rfl
   ⟨[c],rfl,fun lam fd hlam L=>mkW (k:=k + 6) F w c fd (h2.new (o:=.fn fd) hlam) fun σ3 a d dt dc r0 ns pm ps nl hnl h3=>
    ⟨rfl,.ref (mkA (k:=k + 6) [] (.inl rfl) h3 fun σ4 P Pd h4=>⟨rfl,.mk _ (Zfc (h4 2 2) (h4 3 3) rfl rfl) fun D hD=>.ref
     (have h5:=On.sw (A:=[_,_,_,_,_,_,_,_]) (B:=[_,_,_,_,_]) (On.sw (A:=[_,_]) (B:=[_,_,_,_,_,_,_,_,_,_,_,_,_,_]) h4)
     have h6:On _ ((D,.dS (Zbl none))::wL ⟨F,w,a,d,dt,dc,r0,ns,pm,ps,lam,c,fd⟩ false false (strL []) [] nl 0 ([],[]) (pil P Pd []++R)):=h5.new (o:=.dS []) hD
     Zzd (k:=k) (n:=0) (t0:=[]) h6 L ⟨Zr _,Zr _⟩ (Za rfl) (hnl▸Za rfl) (Za rfl) (Za rfl) ⟨⟨_,_,rfl,by decide⟩,Za rfl,by decide,by decide⟩ nofun (Za rfl) rfl (Za rfl) (.inl rfl) fun σ5 nr xx h7=>
      ⟨rfl,rfl,.ref (Zze (k:=k + 5) hv ha hl hn hb h7 fun σ6 L0 h8=>.mk (.list (h8 0 0)) (Zz4 (k:=k) (W:=⟨F,w,a,d,dt,dc,r0,ns,pm,ps,lam,c,fd⟩) (P:=P) (Pd:=Pd) (T0:=endS (KK us false)) (L0:=L0) hu L (fun σ7 lv ds rs nl7 fm T l=>
       have z:=Zw7 hu
       have hpl:(endS (KK us false)).p.length<=20:=Zb z.A.pl (z.i▸hu.l)
       ⟨1000,Zw0 (k:=k) L l.w l.p (endS (KK us false)).p 1000 _ ds rs nl7 fm (Zb (Zu hpl) (Za rfl)) rfl (Yc (z.i▸hu.l) hpl) hpl (fun x hx=>Zb (Y8 (z.A.Nc x (z.A.sub x hx).1)) (z.i▸hu.l)) T fun σ8 s' ds rs nl8 fm T' e eq hi=>
        Yc6 (k:=k) L T' e hi l.w (by rfl) fun σ9 bs h9 hb=>q σ9 bs h9 (eq.trans hb)⟩)
       (KK us false) [] bs0 [] [nr] _ _ _ ⟨rfl,rfl,rfl,al0 _,bd0⟩ (ti0 hnl (toA (A:=wR P Pd L0 (Zmb (KK us false) 0) []) (On.sw (A:=[_]) (B:=[_,_]) (frA (A:=[_,_,_]) (toA (A:=[_]) h8))))) ⟨rfl,rfl,rfl⟩ rfl))⟩)⟩)⟩⟩)) ⟩
end
end
section
noncomputable def shB (u:Tx):Bool:=(u.length == 1&&u.head? != some 92)||(u.length == 2&&u.head? == some 92)noncomputable abbrev Yc1 (u:Tx):Bool:=decide (u≠[])&&(decide (13∉u)&&(decide (u.length<=2)&&(Zen u&&decide (decide (91∈u)=isB u))))
theorem Zx1 {u:Tx}{r:List Tx}(h:shB u=true)(hr:Vu r):Vu (u::r):=by
 refine (oo h).elim (fun h=>?_) fun h=>?_
 ·have hz0:=bb h
  have h1:=hz0.1
  have h2:=hz0.2
  match u,h1 with
  | [c],_=>exact .one (fun e=>by rw [e] at h2;exact Yw h2) hr
 ·have hz0:=bb h
  have h1:=hz0.1
  have h2:=hz0.2
  match u,h1 with
  | [c,d],_=>cases Z1 (eq_of_beq h2);exact .esc hr
theorem Zvt {d:Nat}(hd:d < 16):tab d∈Zc6:=Z9 (Zsz hd)
theorem Ycz (ds:List Nat)(hd:∀ d∈ds,d < 16):Vu (unitsF ds):=by
 induction ds with
 | nil=>exact .nil
 | cons d r ih=>
  have h:Vu (r.map tab++bif decide ((intS (d::r)).fmod 3=2) then [[92]] else []):=by
   generalize decide ((intS (d::r)).fmod 3=2)=b
   clear ih
   induction r with
   | nil=>cases b;exact .nil;exact .lone
   | cons e r ih2=>exact Zx1 (Yo.mp (show Zc6.all shB=true from rfl) _ (Zvt (hd e (.tail _ (.head _))))) (ih2 fun x hx=>hd x ((Xl.mp hx).elim (fun z=>z▸.head _) fun z=>.tail _ (.tail _ z)))
  exact Zx1 (Yo.mp (show Zc6.all shB=true from rfl) _ (Zvt (hd d (.head _)))) h
theorem Zz3 {ds:List Nat}(hd:∀ d∈ds,d < 16):∀ u∈unitsF ds,Yc1 u=true:=fun u hu=>
 (Ziq.mp hu).elim (fun h=>(Ys.mp h).elim fun d h=>h.2▸Yo.mp (show Zc6.all Yc1=true by decide +kernel) _ (Zvt (hd d h.1))) fun h=>by
  revert h
  cases decide ((intS ds).fmod 3=2) with
  | true=>exact fun h=>Xb.mp h▸rfl
  | false=>exact nofun
theorem flat_two {us:List Tx}(h:∀ u∈us,Yc1 u=true):us.flatten.length<=2 * us.length:=by
 induction us with
 | nil=>exact Zm _
 | cons u r ih=>
  rw [Yla,Zf,XR,Yhh,Xu]
  exact Yc (ih fun x hx=>h x (.tail _ hx)) (of_decide_eq_true (bb (bb (bb (h u (.head _))).2).2).1)
theorem Zpi (ds:List Nat):(unitsF ds).length<=ds.length + 1:=by
 unfold unitsF
 rw [Zf,Zh]
 cases decide ((intS ds).fmod 3=2) with
 | true=>exact Zm _
 | false=>exact ZW _
structure UC (us:List Tx):Prop where
 v:Vu us
 a:Zen us.flatten=true
 l:us.length<=10
 f:us.flatten.length<=20
 b:∀ u∈us,decide (91∈u)=isB u
 k:okU (KK us false)
theorem Yc0 {ds:List Nat}(hl:ds.length=9)(hd:∀ d∈ds,d < 16):UC (unitsF ds):=
 have A:=Zz3 hd
 have hn:(unitsF ds).length<=10:=by have:=Zpi ds;rw [hl] at this;exact this
 have hs:=Zjv (unitsF ds) false
 have B:=fun u hu=>A u (hs.subset hu)
 have hk:=Zb hs.length_le hn
 ⟨Ycz ds hd,Yo.mpr fun c hc=>(Zhj.mp hc).elim fun u h=>Yo.mp (bb (bb (bb (bb (A u h.1)).2).2).2).1 c h.2,hn,Zb (flat_two A) (ZC 2 hn),fun u hu=>of_decide_eq_true (bb (bb (bb (bb (A u hu)).2).2).2).2,
  ⟨Zb hk (Za rfl),Zb (Zb (flat_two B) (ZC 2 hk)) (Za rfl),fun u hu=>have z:=bb (B u hu);have y:=bb z.2;⟨of_decide_eq_true z.1,of_decide_eq_true y.1,of_decide_eq_true (bb y.2).1⟩⟩⟩
theorem Ybp (p:NL)(lo:Tx)(bl:List Tx):((Zrw p lo bl).map Z5).sum<=(bl.map Z5).sum + (lo.length + 4) + 4 * p.length:=by
 induction p generalizing lo bl with
 | nil=>
  show ((bl++[lo++[60,47,114,62]]).map Z5).sum<=_
  rw [ZF,X4,Yh4,Yh2,Zf]
  exact Zm _
 | cons x p ih=>
  refine Zb (ih [] (bl++[lo++clT x.2])) ?_
  rw [ZF,X4,Yh4,Yh2,Zf]
  show _ + (lo.length + 4) + (0 + 4) + 4 * p.length<=_ + (lo.length + 4) + 4 * (p.length + 1)
  omega
theorem Yko {ks:List Tx}(hu:okU ks):((Zks ks).map Z5).sum<=9000:=
 have z:=Zw7 hu
 have hi:(endS ks).i<=20:=z.i▸hu.l
 Zb (Ybp _ _ _) (Zb (Yc (Yc (Zb z.B.bs (ZJ (ZC 300 hi) 10)) (Yr (Zb z.B.lo (ZC 5 hi)) 4)) (ZC 4 (Zb z.A.pl hi))) (Za rfl))noncomputable abbrev dsOf (zs:List Int):List Nat:=zs.map fun z=>(z.fmod 16).toNat
theorem ds_lt (zs:List Int):∀ d∈dsOf zs,d < 16:=fun d hd=>(Ys.mp hd).elim fun z h=>h.2▸(Int.toNat_lt (Ycf z (by decide))).mpr (Int.fmod_lt_of_pos z (by decide))
theorem Zyg {α:Type}(l:List α)(n:Nat):Zbj l none (some (n:Int))=l.take n:=by
 show (l.drop 0).take (X3 (n:Int) l.length - 0)=_
 rw [X3,if_neg (U4.mpr (Z4 n))]
 exact List.take_eq_take_iff.mpr (by show min (min n l.length) l.length=min n l.length;rw [Nat.min_assoc,Nat.min_self])
section
variable {S:Addr->List Int->Prop}{k:Nat}{σ:Hp}{R:Ls}
theorem Ybo {Δ:Dl}{cv:Nat->Option Addr}{K:Hp->Prop}{D Z:Addr}{l0:List V}(r:List Int)(acc:List Nat)(lv:Nat->Option V)(hl:acc.length + r.length<=1000)(h:On σ ((D,.list (intL acc))::(Z,.list l0)::R))
  (q:∀ σ',On σ' ((D,.list (intL (acc++dsOf r)))::(Z,.list l0)::R)->K σ'):compL Δ (.one 163) (fun st=>st.σ Z=some (.list l0)) bT (Xv .Mod (xLc 163) (xV (.int 16))) D K (r.map .int) ⟨σ,lv,cv⟩:=by
 induction r generalizing acc lv σ with
 | nil=>exact ⟨h 1 1,q σ (by rw [show dsOf []=[] from rfl,ZK];exact h)⟩
 | cons z r ih=>
  refine ⟨h 1 1,rfl,.mod (by decide) (.mk (h 0 0) (by rw [Zh];exact le5 (Zb (Zn _ _) hl)) ?_)⟩
  rw [<-(Zcr (Ycf z (by decide))),Zt8]
  exact ih (acc++[(z.fmod 16).toNat]) _ (by rw [Zf,Xc,Xu _ r.length];exact hl) h.up fun σ' h'=>q σ' (by rw [Zw] at h';exact h')
end
end
noncomputable abbrev cs9:List Int:=[0,2,3,5,1,5,8,4,7]
theorem Yf8 (us:List Tx)(pos:Nat):(Zmb us pos).all Zua=true:=by
 induction us generalizing pos with
 | nil=>rfl
 | cons u r ih=>
  show (Zua (dueV pos u)&&(Zmb r (pos + u.length)).all Zua)=true
  rw [ih];unfold dueV;cases isB u <;> rfl
theorem Zrm {Q:V->Hp->Prop}{σ:Hp}{U:Addr}{us:List Tx}(e:σ U=some (.list (strL us)))(u:UC us)(q:Q (.str us.flatten) σ):Zjb Q σ .sJoin (.str []) [.ref U]:=
 .join e (Zr _) (Ku _) (lt5 (p:=20) (q:=10) (by rw [<-Zel];exact u.f) u.l (Za rfl)) (by rw [KZ];exact q)theorem eqS (x:Tx):Ypq .Eq (.str x) (.str x)=some true:=congrArg some (decide_eq_true rfl)
theorem plain (L:Addr)(xs:List Int)(hxs:xs.length<=63):Yhp (Dk (fun a ys=>a=L/\ys=xs) 8) (Zcv fun v J=>v= .bool true) ⟨fun J=>none,lvB Yhc [(198,.ref L)],fun J=>none⟩:=by
 have hzl:((xs.take 9++cs9).take 9).length=9:=by rw [Ym5,Zf];exact Ip (Y6 _ _)
 have e9:Zbj (xs.map V.int) none (some 9)=(xs.take 9).map V.int:=(Zyg _ 9).trans Zvk.symm
 have l9:((xs.take 9).map V.int).length<=9:=by rw [Zh];exact Yhi _ _
 refine ⟨fun i hi=>(nomatch hi),rfl,L,xs,rfl,⟨rfl,rfl⟩,.mk rfl rfl (Zb hxs (Za rfl)) fun n1 hn1=>Zdo (σ:=fun J=>none) (L:=[]) .nil hn1 fun σ1 h1=>?_⟩
 replace h1:=(e9)▸h1
 refine .bi (.list (h1 0 0) (Zb l9 (Za rfl)) fun n2 hn2=>Zdo h1 hn2 fun σ2 h2=>⟨Za rfl,fun n3 hn3=>Zdo (o:=.list (cs9.map V.int)) h2 hn3 fun σ3 h3=>?_⟩)
 refine .addL (h3 1 1) (h3 0 0) (lt5 l9 (Zm 9) (Za rfl)) fun n4 hn4=>Zdo h3 hn4 fun σ4 h4=>?_
 refine .list rfl rfl (h4 0 0) (by rw [Zf];exact lt5 l9 (Zm 9) (Za rfl)) fun n5 hn5=>Zdo h4 hn5 fun σ5 h5=>?_
 have ez:Zbj ((xs.take 9).map V.int++cs9.map V.int) none (some 9)=((xs.take 9++cs9).take 9).map V.int:=(Zyg _ 9).trans ((congrArg (List.take 9) ZF.symm).trans Zvk.symm)
 replace h5:=(ez)▸h5
 revert hzl h5
 generalize (xs.take 9++cs9).take 9=zs
 intro hzl h5
 have hds:=ds_lt zs
 have hdl:(dsOf zs).length=9:=(Zh _).trans hzl
 refine .mk (.list (h5 0 0)) fun D hD=>Ybo zs [] _ (hzl▸Za rfl) (h5.new hD) fun σ1 h6=>⟨rfl,rfl,.ref (Yki (k:=7) (ds:=dsOf zs) h6 (hdl▸Za rfl) hds fun σ2 U h7=>
  ⟨rfl,rfl,Yde (h7 1 1) hds (hdl▸Za rfl) (.mod (by decide) (.add ⟨rfl,rfl,.ref (Ypy (k:=7) (h7.fr 0 rfl) (Zb (Zpi _) (hdl▸Za rfl)) ?_)⟩))⟩)⟩
 have u:=Yc0 hdl hds
 generalize (18:Int) + (intS (dsOf zs)).fmod 25=w
 intro σ3 K h8
 rw [Yjs] at h8
 revert u h8
 generalize unitsF (dsOf zs)=us
 intro u h8
 have hk:=u.k
 have hf:us.flatten.length<=1000:=Zb u.f (Za rfl)
 have hl:us.length<=1000:=Zb u.l (Za rfl)
 have hkl:(KK us false).length<=900:=Zb hk.l (Za rfl)
 have hpar:Zje (KK us false) 0=(intL (runZ (KK us false) (stillR (KK us false) 0) [] fun J=>none).1).isEmpty:=by
  rw [Zpo]
  refine (paren_fold (KK us false) bs0 rfl).trans ?_
  cases (endS (KK us false)).p.map Um++(endS (KK us false)).C with
  | nil=>rfl
  | cons a l=>
   rw [Y7];cases l.reverse <;> rfl
 refine ⟨rfl,.mk _ (mkS .sJoin rfl rfl) ⟨rfl,Zrm (h8 1 1) u (.ref (Ykk (k:=6) u.v u.a hf h8 fun σ4 h9=>⟨rfl,rfl,.ref (Zzf (k:=7) h9 hkl fun σ5 st M m hm h10=>.tup (Za rfl) (by decide) rfl ⟨Zr _,fun E hE=>Zdo h10 hE fun σ5' h11=>?_⟩)⟩))⟩⟩
 refine .mk _ (.inr (.eqN (h11 1 1) (h11 0 0))) (.mk false (.inl (by rw [hpar];exact congrArg some (decide_eq_false fun z=>z rfl))) ?_)
 refine ⟨rfl,.mk _ (mkS .sJoin rfl rfl) ⟨rfl,Zrm (h11 4 4) u (.ref (Zze (k:=6) u.v u.a hf hl u.b h11 fun σ6 Rn h12=>⟨rfl,rfl,.ref (c_due (k:=7) (h12.fr 4 rfl) hkl (Zb hk.f (Za rfl)) (fun v hv=>(hk.u v hv).1) fun σ7 K2 h13=>.mk false (.inr (.neL (h13 2 2) (h13 0 0) (Yf8 _ _))) ?_)⟩))⟩⟩
 refine ⟨rfl,.mk _ (mkS .sJoin rfl rfl) ⟨rfl,Zrm (h13 6 6) u ⟨rfl,.ref (Ypu (k:=0) u.v u.a hf hl u.b hk h13 fun σ8 bs h14 hb=>⟨rfl,rfl,rfl,.ref (Ygw (k:=6) hk (h14.fr 1 rfl) fun σ9 B hB hn=>?_)⟩)⟩⟩⟩
 have hs:=Yko hk
 rw [hb] at hB hn hs
 exact ⟨rfl,.ref (Ypv (k:=7) (R:=[]) (.one hB) (Zb hs (Za rfl)) (Zb (Yn hn) (Za rfl)) fun σ10=>.mk true (.inl (eqS _)) rfl)⟩
end Internal
open Internal
section
noncomputable def as0:List Addr:=[2,3,32,34,35,37,38,42,43,44,45,47,48,50,51,52,60,61,63,64,66,67,68,69,71,72,74,75,76,78,79,81,82,83,84,86,87,89,90,91,93,94,96,97,98,99,100,102,103,105,106,107,109,110,112,113,114,116,117,119,120,121,122,125,126,127,129,130,132,133,134,136,137,139,140,141,143,144,146,147,148,149,150,151,152,155,157,158,160,161,162,164,165,167,168,176,178,179,181,182,183,185,186,188,189,190,192,193,195,196,197,199,200,202,203,204,206,207,209,210,211,213,214,216,217,218,220,221,223,224,225,227,228,230,231,232,234,235,237,238,239,240,241,242,243,246,249,254,255,256,258,259,261,262,263,265,266,268,269,270,271,273,274,276,277,278,279,281,282,284,285,286,288,289,291,292,293,295,296,298,299,300,301,303,304,306,307,308,310,311,313,314,315,316,318,319,321,322,323,324,325,326,327,330,332,333,335,336,337,339,340,342,343,344,346,347,349,350,351,353,354,356,357,358,361,362,363,365,366,368,369,370,372,373,375,376,377,379,380,382,383,384,386,387,389,390,391,394,395,396,399,400,401,403,404,406,407,408,411,412]
namespace main
theorem tw1903866087469309809:True:=⟨⟩theorem tw48596604365144762:True:=⟨⟩theorem tw65644731488775911:True:=⟨⟩theorem tw66260789543402106:True:=⟨⟩theorem tw73751810991705359:True:=⟨⟩theorem tw104360540948158410:True:=⟨⟩theorem tw110518478480535327:True:=⟨⟩theorem tw221909299271738847:True:=⟨⟩theorem tw223528310411579522:True:=⟨⟩theorem tw252264761731244852:True:=⟨⟩theorem tw302440914744352476:True:=⟨⟩theorem tw387501639795913443:True:=⟨⟩theorem tw452746233719593009:True:=⟨⟩theorem tw645136716886899192:True:=⟨⟩theorem tw656089360051881306:True:=⟨⟩theorem tw669201953871153471:True:=⟨⟩theorem tw716429049611869786:True:=⟨⟩theorem tw750237026923860459:True:=⟨⟩theorem tw832900586485598795:True:=⟨⟩theorem tw834873547066669988:True:=⟨⟩theorem tw917386388269078853:True:=⟨⟩theorem tw962032349192862916:True:=⟨⟩theorem tw979501456738626862:True:=⟨⟩theorem tw1020731659058499120:True:=⟨⟩theorem tw1054321117371714560:True:=⟨⟩theorem tw1084114956928915155:True:=⟨⟩theorem tw1098248734344127483:True:=⟨⟩theorem tw1099256609624015869:True:=⟨⟩theorem tw1118068078248606362:True:=⟨⟩theorem tw1130211791997205004:True:=⟨⟩theorem tw1156462466702112376:True:=⟨⟩theorem tw1157997071576566072:True:=⟨⟩theorem tw1236483940969888574:True:=⟨⟩theorem tw1270039299266317192:True:=⟨⟩theorem tw1277820614484962519:True:=⟨⟩theorem tw1306636233014830658:True:=⟨⟩theorem tw1390771862084280389:True:=⟨⟩theorem tw1409966394225722968:True:=⟨⟩theorem tw1496695287857109588:True:=⟨⟩theorem tw1545906260438175962:True:=⟨⟩theorem tw1587290215689348708:True:=⟨⟩theorem tw1615045767204293396:True:=⟨⟩theorem tw1615956725737779560:True:=⟨⟩theorem tw1628013610222277130:True:=⟨⟩theorem tw1677766988990989824:True:=⟨⟩theorem tw1714950047550659301:True:=⟨⟩theorem tw1777545030009416734:True:=⟨⟩theorem tw1826329307503635854:True:=⟨⟩theorem tw1850612553970854742:True:=⟨⟩theorem tw2007339730380871907:True:=⟨⟩theorem tw2019394398466159022:True:=⟨⟩theorem tw2110754180369666209:True:=⟨⟩theorem tw2190695567426971638:True:=⟨⟩theorem tw2225956059507018244:True:=⟨⟩theorem tw2279707942289718827:True:=⟨⟩theorem tw2287757881348798766:True:=⟨⟩theorem tw2406621943657119228:True:=⟨⟩theorem tw2433702464844828792:True:=⟨⟩theorem tw2456247091588846565:True:=⟨⟩theorem tw2496676261509829067:True:=⟨⟩theorem tw2524017781993486291:True:=⟨⟩theorem tw2544328076492683441:True:=⟨⟩theorem tw2566753976717531306:True:=⟨⟩theorem tw2583023086579268501:True:=⟨⟩theorem tw2629084897520917108:True:=⟨⟩theorem tw2647654807098235363:True:=⟨⟩theorem tw2702614204127132176:True:=⟨⟩theorem tw2724176850512262202:True:=⟨⟩theorem tw2821470743931037460:True:=⟨⟩theorem tw2828745803726480554:True:=⟨⟩theorem tw2895952525429962455:True:=⟨⟩theorem tw2906824675625879941:True:=⟨⟩theorem tw2921621734765799159:True:=⟨⟩theorem tw2921958311620399285:True:=⟨⟩theorem tw3027586509356016917:True:=⟨⟩theorem tw3045742163950154196:True:=⟨⟩theorem tw3234112476842188716:True:=⟨⟩theorem tw3282683096612927266:True:=⟨⟩theorem tw3298483428156984901:True:=⟨⟩theorem tw3299218664060906527:True:=⟨⟩theorem tw3332543467307319023:True:=⟨⟩theorem tw3343439749351644125:True:=⟨⟩theorem tw3394367416137920725:True:=⟨⟩theorem tw3454311308915712629:True:=⟨⟩theorem tw3519925438711253488:True:=⟨⟩theorem tw3532052218105579805:True:=⟨⟩theorem tw3532412968194664532:True:=⟨⟩theorem tw3549514262204291990:True:=⟨⟩theorem tw3557749057250611081:True:=⟨⟩theorem tw3562595001068472590:True:=⟨⟩theorem tw3613476055612923068:True:=⟨⟩theorem tw3626430660855392483:True:=⟨⟩theorem tw3627144658338631552:True:=⟨⟩theorem tw3648158268668610041:True:=⟨⟩theorem tw3706830351922483016:True:=⟨⟩theorem tw3779293765908593550:True:=⟨⟩theorem tw3829396358689915599:True:=⟨⟩theorem tw3848698983108048278:True:=⟨⟩theorem tw3864431920445960829:True:=⟨⟩theorem tw3905226178654972811:True:=⟨⟩theorem tw3934531018447913466:True:=⟨⟩theorem tw3960113756560652017:True:=⟨⟩theorem tw4026956272090484662:True:=⟨⟩theorem tw4038153913678941442:True:=⟨⟩theorem tw4039676971129161736:True:=⟨⟩theorem tw4044139247061151142:True:=⟨⟩theorem tw4072190877284726289:True:=⟨⟩theorem tw4126091431370883743:True:=⟨⟩theorem tw4152749987461121259:True:=⟨⟩theorem tw4189750870438640210:True:=⟨⟩theorem tw4261964983698606537:True:=⟨⟩theorem tw4324958949535026087:True:=⟨⟩theorem tw4333880214566435006:True:=⟨⟩theorem tw4365514962571936147:True:=⟨⟩theorem tw4452170602077327944:True:=⟨⟩theorem tw4475767826048309731:True:=⟨⟩theorem tw4500915450034043215:True:=⟨⟩theorem tw4544244032028310869:True:=⟨⟩theorem tw4573282807186111410:True:=⟨⟩theorem tw4605139254293405059:True:=⟨⟩theorem tw4637267157515435788:True:=⟨⟩theorem tw4651154628705390771:True:=⟨⟩theorem tw4681395471914393968:True:=⟨⟩theorem tw4710631507477712386:True:=⟨⟩theorem tw4712863508501099674:True:=⟨⟩theorem tw4749052000479324790:True:=⟨⟩theorem tw4766233809647381661:True:=⟨⟩theorem tw4812270449578504274:True:=⟨⟩theorem tw4839478117068044826:True:=⟨⟩theorem tw4900431672193113347:True:=⟨⟩theorem tw4990475226369331113:True:=⟨⟩theorem tw5061512775090418087:True:=⟨⟩theorem tw5102693214775723256:True:=⟨⟩theorem tw5127751686995613262:True:=⟨⟩theorem tw5160751907100791332:True:=⟨⟩theorem tw5203219222101121401:True:=⟨⟩theorem tw5234446048077146213:True:=⟨⟩theorem tw5240536507193477226:True:=⟨⟩theorem tw5240779543111244032:True:=⟨⟩theorem tw5243159528196176124:True:=⟨⟩theorem tw5372645768047454471:True:=⟨⟩theorem tw5378808338967829844:True:=⟨⟩theorem tw5418533224930618480:True:=⟨⟩theorem tw5436791530062809996:True:=⟨⟩theorem tw5450094653865882931:True:=⟨⟩theorem tw5473700226181020891:True:=⟨⟩theorem tw5507402815253087181:True:=⟨⟩theorem tw5518243967957118194:True:=⟨⟩theorem tw5532463470591059822:True:=⟨⟩theorem tw5546000961549863184:True:=⟨⟩theorem tw5571399437266216444:True:=⟨⟩theorem tw5585478044538960755:True:=⟨⟩theorem tw5613160597433933154:True:=⟨⟩theorem tw5649967823195072380:True:=⟨⟩theorem tw5665406974723832613:True:=⟨⟩theorem tw5665735395497279834:True:=⟨⟩theorem tw5668385679167799114:True:=⟨⟩theorem tw5781596087445459943:True:=⟨⟩theorem tw5842977544298395883:True:=⟨⟩theorem tw5871769198996169552:True:=⟨⟩theorem tw5995161000843957690:True:=⟨⟩theorem tw6041185293024905222:True:=⟨⟩theorem tw6044114016751833949:True:=⟨⟩theorem tw6053611964639427726:True:=⟨⟩theorem tw6075091234017535682:True:=⟨⟩theorem tw6112859857366181021:True:=⟨⟩theorem tw6161133996638707016:True:=⟨⟩theorem tw6162249291895867263:True:=⟨⟩theorem tw6222487380544312443:True:=⟨⟩theorem tw6228221862949167353:True:=⟨⟩theorem tw6313679110971913597:True:=⟨⟩theorem tw6334894449686545209:True:=⟨⟩theorem tw6361450105264607166:True:=⟨⟩theorem tw6389877041954997217:True:=⟨⟩theorem tw6418098437765475518:True:=⟨⟩theorem tw6449824600675878752:True:=⟨⟩theorem tw6511744376749373798:True:=⟨⟩theorem tw6541472054586571296:True:=⟨⟩theorem tw6545385358150927430:True:=⟨⟩theorem tw6557543464795787104:True:=⟨⟩theorem tw6569515737239586001:True:=⟨⟩theorem tw6584820252761975732:True:=⟨⟩theorem tw6655696309031964122:True:=⟨⟩theorem tw6660377722381337597:True:=⟨⟩theorem tw6696893160125735727:True:=⟨⟩theorem tw6785657489111691699:True:=⟨⟩theorem tw6788695710022549768:True:=⟨⟩theorem tw6801380410627298636:True:=⟨⟩theorem tw6862492499505807319:True:=⟨⟩theorem tw6877560268529008848:True:=⟨⟩theorem tw6886502059237256666:True:=⟨⟩theorem tw6912675738884088206:True:=⟨⟩theorem tw6981815665589151136:True:=⟨⟩theorem tw7074144079889050967:True:=⟨⟩theorem tw7083192437325867461:True:=⟨⟩theorem tw7093617532817203218:True:=⟨⟩theorem tw7113585516715319716:True:=⟨⟩theorem tw7153082081811710619:True:=⟨⟩theorem tw7173623326730630234:True:=⟨⟩theorem tw7186131708394509389:True:=⟨⟩theorem tw7214478077546791972:True:=⟨⟩theorem tw7221758910455160077:True:=⟨⟩theorem tw7235775444256392728:True:=⟨⟩theorem tw7237411587787531456:True:=⟨⟩theorem tw7293298908176781663:True:=⟨⟩theorem tw7298748307773712898:True:=⟨⟩theorem tw7332552209862256014:True:=⟨⟩theorem tw7380652910202371479:True:=⟨⟩theorem tw7411558596216406370:True:=⟨⟩theorem tw7439787175107056256:True:=⟨⟩theorem tw7514964652732493775:True:=⟨⟩theorem tw7590696779544312186:True:=⟨⟩theorem tw7623511443260959870:True:=⟨⟩theorem tw7698036289167662538:True:=⟨⟩theorem tw7751025194823839400:True:=⟨⟩theorem tw7761410557224570781:True:=⟨⟩theorem tw7846812961960373227:True:=⟨⟩theorem tw7875838824674609581:True:=⟨⟩theorem tw7904437144335635152:True:=⟨⟩theorem tw7974275031393228247:True:=⟨⟩theorem tw8079908401900000222:True:=⟨⟩theorem tw8118072479153026202:True:=⟨⟩theorem tw8207831470162742035:True:=⟨⟩theorem tw8211959896082780389:True:=⟨⟩theorem tw8436210846270712021:True:=⟨⟩theorem tw8466321980469482115:True:=⟨⟩theorem tw8475525182357872103:True:=⟨⟩theorem tw8478376212529829071:True:=⟨⟩theorem tw8484041278411425421:True:=⟨⟩theorem tw8485129981880379368:True:=⟨⟩theorem tw8557395850702784662:True:=⟨⟩theorem tw8627561154394265716:True:=⟨⟩theorem tw8652556701797213591:True:=⟨⟩theorem tw8663697691656813868:True:=⟨⟩theorem tw8703757790058876194:True:=⟨⟩theorem tw8729708805864041840:True:=⟨⟩theorem tw8748973510418095054:True:=⟨⟩theorem tw8756518407330761489:True:=⟨⟩theorem tw8905464785575363620:True:=⟨⟩theorem tw8947760058931562597:True:=⟨⟩theorem tw9069182735580402390:True:=⟨⟩theorem tw9121559901702372667:True:=⟨⟩theorem tw9122252311606134341:True:=⟨⟩theorem tw9155575984036265788:True:=⟨⟩theorem tw9189880136782149556:True:=⟨⟩theorem tw9190990891756207365:True:=⟨⟩theorem tw9253799994812790149:True:=⟨⟩theorem tw9268297945177815525:True:=⟨⟩theorem tw9272984997812220495:True:=⟨⟩theorem tw9274054859765456524:True:=⟨⟩theorem tw9360745474812902239:True:=⟨⟩theorem tw9361300454564663673:True:=⟨⟩theorem tw9369988214560726041:True:=⟨⟩theorem tw9381277316556691805:True:=⟨⟩theorem tw9406782406253462049:True:=⟨⟩theorem tw9483120023164983764:True:=⟨⟩theorem tw9508770018378322450:True:=⟨⟩theorem tw9512817274939609580:True:=⟨⟩theorem tw9515011664573035354:True:=⟨⟩theorem tw9557352009045844224:True:=⟨⟩theorem tw9563168847844234846:True:=⟨⟩theorem tw9656510801202774680:True:=⟨⟩theorem tw9658885295015712986:True:=⟨⟩theorem tw9681375758050803366:True:=⟨⟩theorem tw9682133043923132273:True:=⟨⟩theorem tw9730157408454304684:True:=⟨⟩theorem tw9756827057097773860:True:=⟨⟩theorem tw9808303207383738048:True:=⟨⟩theorem tw9840939614602229412:True:=⟨⟩theorem tw9848185148710128376:True:=⟨⟩theorem tw9897820754763898449:True:=⟨⟩theorem tw9903775340124721222:True:=⟨⟩theorem tw9925469786538053656:True:=⟨⟩theorem tw9942282790977331292:True:=⟨⟩theorem tw9957550378297406723:True:=⟨⟩theorem tw9976160756891316704:True:=⟨⟩theorem tw10114013102757674387:True:=⟨⟩theorem tw10140136200207757160:True:=⟨⟩theorem tw10159738436595150677:True:=⟨⟩theorem tw10177057350305019805:True:=⟨⟩theorem tw10204856939554784155:True:=⟨⟩theorem tw10231336680788121439:True:=⟨⟩theorem tw10234815189450012239:True:=⟨⟩theorem tw10298723112805639129:True:=⟨⟩theorem tw10334261112615635914:True:=⟨⟩theorem tw10363585996791799541:True:=⟨⟩theorem tw10391951854915411234:True:=⟨⟩theorem tw10450603732522932521:True:=⟨⟩theorem tw10455743928339290457:True:=⟨⟩theorem tw10463206416058312583:True:=⟨⟩theorem tw10609540516017602915:True:=⟨⟩theorem tw10625486282989778954:True:=⟨⟩theorem tw10642606787283503386:True:=⟨⟩theorem tw10665089971535097683:True:=⟨⟩theorem tw10665469846841522134:True:=⟨⟩theorem tw10669944970481658594:True:=⟨⟩theorem tw10707853282979444102:True:=⟨⟩theorem tw10821422270917381399:True:=⟨⟩theorem tw10825838108423173272:True:=⟨⟩theorem tw10864377008497418100:True:=⟨⟩theorem tw10876375607700338302:True:=⟨⟩theorem tw10877679251791092727:True:=⟨⟩theorem tw10896356407431480244:True:=⟨⟩theorem tw10924716458440934090:True:=⟨⟩theorem tw11001617756164336837:True:=⟨⟩theorem tw11092141859048813250:True:=⟨⟩theorem tw11101190512080308003:True:=⟨⟩theorem tw11135027115929721415:True:=⟨⟩theorem tw11181722664286889309:True:=⟨⟩theorem tw11221353774195762014:True:=⟨⟩theorem tw11239335112260394413:True:=⟨⟩theorem tw11251407683458634364:True:=⟨⟩theorem tw11261727412033496967:True:=⟨⟩theorem tw11349898740250378076:True:=⟨⟩theorem tw11399646045708457374:True:=⟨⟩theorem tw11403851563620829512:True:=⟨⟩theorem tw11461230924637031220:True:=⟨⟩theorem tw11501822485730972192:True:=⟨⟩theorem tw11554813239044494598:True:=⟨⟩theorem tw11595355409239048105:True:=⟨⟩theorem tw11710404883906591787:True:=⟨⟩theorem tw11752208632293872130:True:=⟨⟩theorem tw11785714552879321826:True:=⟨⟩theorem tw11815829001073249272:True:=⟨⟩theorem tw11857135199678951331:True:=⟨⟩theorem tw11982392923317675503:True:=⟨⟩theorem tw11987853993630220354:True:=⟨⟩theorem tw12027323910402764344:True:=⟨⟩theorem tw12057704586751987240:True:=⟨⟩theorem tw12093647306153771053:True:=⟨⟩theorem tw12137391653176920820:True:=⟨⟩theorem tw12139096438432415106:True:=⟨⟩theorem tw12273490649430754879:True:=⟨⟩theorem tw12283931031945665480:True:=⟨⟩theorem tw12298629886278197574:True:=⟨⟩theorem tw12343854547171428336:True:=⟨⟩theorem tw12361340156312767134:True:=⟨⟩theorem tw12431561837914552411:True:=⟨⟩theorem tw12455012482086183272:True:=⟨⟩theorem tw12518504611687188807:True:=⟨⟩theorem tw12543713266681445118:True:=⟨⟩theorem tw12564604832814323664:True:=⟨⟩theorem tw12590340796369385619:True:=⟨⟩theorem tw12608185968620612914:True:=⟨⟩theorem tw12623159325031504133:True:=⟨⟩theorem tw12646911602827044314:True:=⟨⟩theorem tw12670839924663504800:True:=⟨⟩theorem tw12675357926760492328:True:=⟨⟩theorem tw12732289081945773324:True:=⟨⟩theorem tw12800608258095302798:True:=⟨⟩theorem tw12839114828313443825:True:=⟨⟩theorem tw12872379398031375081:True:=⟨⟩theorem tw12885385263037960081:True:=⟨⟩theorem tw12885673836220544336:True:=⟨⟩theorem tw12900284412222446716:True:=⟨⟩theorem tw12915833801598196605:True:=⟨⟩theorem tw12922898485456448571:True:=⟨⟩theorem tw13102006392531624933:True:=⟨⟩theorem tw13110577991587790113:True:=⟨⟩theorem tw13113777628852026922:True:=⟨⟩theorem tw13116522157475607773:True:=⟨⟩theorem tw13132915859168520264:True:=⟨⟩theorem tw13157206579259725088:True:=⟨⟩theorem tw13180746182150919023:True:=⟨⟩theorem tw13270728482189477470:True:=⟨⟩theorem tw13293747886898857621:True:=⟨⟩theorem tw13348322127785295214:True:=⟨⟩theorem tw13350764725976880583:True:=⟨⟩theorem tw13355152605343272895:True:=⟨⟩theorem tw13402765919934010277:True:=⟨⟩theorem tw13406003279186336099:True:=⟨⟩theorem tw13412803265214061177:True:=⟨⟩theorem tw13475729997942374044:True:=⟨⟩theorem tw13503263706703578961:True:=⟨⟩theorem tw13590572293223372214:True:=⟨⟩theorem tw13591255225166038476:True:=⟨⟩theorem tw13642826006792871662:True:=⟨⟩theorem tw13667920496262714385:True:=⟨⟩theorem tw13676971244355772609:True:=⟨⟩theorem tw13693970394777133609:True:=⟨⟩theorem tw13724616953566380437:True:=⟨⟩theorem tw13777938177461255882:True:=⟨⟩theorem tw13838900630717943254:True:=⟨⟩theorem tw13876859957761632879:True:=⟨⟩theorem tw13962693860625380366:True:=⟨⟩theorem tw13995172100960836882:True:=⟨⟩theorem tw14009396871252706886:True:=⟨⟩theorem tw14037535772548047747:True:=⟨⟩theorem tw14049060202430660330:True:=⟨⟩theorem tw14061640607465278742:True:=⟨⟩theorem tw14161005256144132680:True:=⟨⟩theorem tw14218914174604095658:True:=⟨⟩theorem tw14352816644391752031:True:=⟨⟩theorem tw14439473939278146460:True:=⟨⟩theorem tw14457758005677747962:True:=⟨⟩theorem tw14492832472218066102:True:=⟨⟩theorem tw14504180641510445567:True:=⟨⟩theorem tw14510055921401542917:True:=⟨⟩theorem tw14539993770535171780:True:=⟨⟩theorem tw14635473669698735251:True:=⟨⟩theorem tw14639212616227390028:True:=⟨⟩theorem tw14646587721710459877:True:=⟨⟩theorem tw14662554035588321541:True:=⟨⟩theorem tw14672674291997333471:True:=⟨⟩theorem tw14722489848711283861:True:=⟨⟩theorem tw14759895335926876869:True:=⟨⟩theorem tw14771111431291430275:True:=⟨⟩theorem tw14793117695081215449:True:=⟨⟩theorem tw14798791472264738832:True:=⟨⟩theorem tw14874008761501241426:True:=⟨⟩theorem tw14909365282108701170:True:=⟨⟩theorem tw14915241884570022285:True:=⟨⟩theorem tw15017983477296125989:True:=⟨⟩theorem tw15060185592220127646:True:=⟨⟩theorem tw15079240505294077160:True:=⟨⟩theorem tw15131278010643852716:True:=⟨⟩theorem tw15270170921892066516:True:=⟨⟩theorem tw15342904991969174519:True:=⟨⟩theorem tw15365013842991253249:True:=⟨⟩theorem tw15465920861327815835:True:=⟨⟩theorem tw15467891735981029475:True:=⟨⟩theorem tw15485851114877660061:True:=⟨⟩theorem tw15514936471743626214:True:=⟨⟩theorem tw15558288988949320067:True:=⟨⟩theorem tw15580989882048331800:True:=⟨⟩theorem tw15595112118272840620:True:=⟨⟩theorem tw15608450976537380609:True:=⟨⟩theorem tw15624239662980076321:True:=⟨⟩theorem tw15628840697051896230:True:=⟨⟩theorem tw15643365686152983790:True:=⟨⟩theorem tw15649996292582860464:True:=⟨⟩theorem tw15734200111481486640:True:=⟨⟩theorem tw15734660467963936456:True:=⟨⟩theorem tw15768048840197415361:True:=⟨⟩theorem tw15803610866087392283:True:=⟨⟩theorem tw15806524323241146399:True:=⟨⟩theorem tw15843245209704562525:True:=⟨⟩theorem tw15928290008803537013:True:=⟨⟩theorem tw15955573374722617477:True:=⟨⟩theorem tw15957259510549269134:True:=⟨⟩theorem tw15984706205718930553:True:=⟨⟩theorem tw16008252555379753968:True:=⟨⟩theorem tw16008457594558532635:True:=⟨⟩theorem tw16035907590883218939:True:=⟨⟩theorem tw16046730324260685337:True:=⟨⟩theorem tw16049902774474827687:True:=⟨⟩theorem tw16136984950599521427:True:=⟨⟩theorem tw16153842264607907944:True:=⟨⟩theorem tw16187894506366716058:True:=⟨⟩theorem tw16251939892948500945:True:=⟨⟩theorem tw16320729459185622934:True:=⟨⟩theorem tw16356685582667847594:True:=⟨⟩theorem tw16411370214107742406:True:=⟨⟩theorem tw16451033083921036709:True:=⟨⟩theorem tw16452447596832230105:True:=⟨⟩theorem tw16480584520131690045:True:=⟨⟩theorem tw16519101796099990279:True:=⟨⟩theorem tw16572128252103988241:True:=⟨⟩theorem tw16641786646906312760:True:=⟨⟩theorem tw16819838333489098493:True:=⟨⟩theorem tw16832360635688203351:True:=⟨⟩theorem tw16922381011570985944:True:=⟨⟩theorem tw16923884221124529275:True:=⟨⟩theorem tw16950194794029067938:True:=⟨⟩theorem tw16952715711813285254:True:=⟨⟩theorem tw16965079339398995527:True:=⟨⟩theorem tw17052023290607921161:True:=⟨⟩theorem tw17057053908230417247:True:=⟨⟩theorem tw17068529054762260900:True:=⟨⟩theorem tw17091655785135471103:True:=⟨⟩theorem tw17118054049896295152:True:=⟨⟩theorem tw17146568849442343683:True:=⟨⟩theorem tw17157314595499361122:True:=⟨⟩theorem tw17201416709059790184:True:=⟨⟩theorem tw17236958762192778904:True:=⟨⟩theorem tw17268439761433841065:True:=⟨⟩theorem tw17272174723667511238:True:=⟨⟩theorem tw17292155258170135553:True:=⟨⟩theorem tw17297283025540448806:True:=⟨⟩theorem tw17298425922696826006:True:=⟨⟩theorem tw17325761959067429606:True:=⟨⟩theorem tw17353955331779342651:True:=⟨⟩theorem tw17402982504261768225:True:=⟨⟩theorem tw17403364634526059139:True:=⟨⟩theorem tw17425066677912873177:True:=⟨⟩theorem tw17450470499104002142:True:=⟨⟩theorem tw17477492558424962760:True:=⟨⟩theorem tw17510229520200029679:True:=⟨⟩theorem tw17549126608439441107:True:=⟨⟩theorem tw17561526911342447988:True:=⟨⟩theorem tw17644181745481072423:True:=⟨⟩theorem tw17679725944135375923:True:=⟨⟩theorem tw17695171507069755227:True:=⟨⟩theorem tw17699438841360665129:True:=⟨⟩theorem tw17708018870387108518:True:=⟨⟩theorem tw17708487481403421675:True:=⟨⟩theorem tw17715262827843222689:True:=⟨⟩theorem tw17725498274588495791:True:=⟨⟩theorem tw17737603089517620647:True:=⟨⟩theorem tw17767330081159143506:True:=⟨⟩theorem tw17864028415675338326:True:=⟨⟩theorem tw17958375852430007124:True:=⟨⟩theorem tw17974016328880235120:True:=⟨⟩theorem tw18134284020713443437:True:=⟨⟩theorem tw18178676814319149831:True:=⟨⟩theorem tw18185559012729396856:True:=⟨⟩theorem tw18190005008629794160:True:=⟨⟩theorem tw18218335207050127959:True:=⟨⟩theorem tw18238007617527299592:True:=⟨⟩theorem tw18284262389922463811:True:=⟨⟩theorem tw18287795668848337631:True:=⟨⟩theorem tw18302796317244248524:True:=⟨⟩theorem tw18315214858253571532:True:=⟨⟩theorem tw18325589031809861271:True:=⟨⟩theorem tw18332899500509843999:True:=⟨⟩theorem tw18403998269306519403:True:=⟨⟩theorem tw18421580907717582127:True:=⟨⟩theorem tw18431692314602308842:True:=⟨⟩theorem tw18442785490491869365:True:=⟨⟩
end main
theorem Yjw {items:List Value}{xs:List Int}(h:IntsAre items xs)(hp:Heap):VRs hp (xs.map .int) items:=by
 induction h with
 | nil=>exact .nil
 | cons _ _ _ ih=>exact .cons (.int _ _) ih
theorem Ykp:AOK callerA 52:=⟨rfl,by decide,by decide⟩
set_option tactic.hygienic true in
set_option Elab.async true in
theorem main:PySem.Challenge.rw_if0024_01.Holds:=by
 w_on
 o_law
 o_head (myHook hd0.heap_1 as0 (fun _=>by kernel_rfl))
 case hw=>w_witness2
 k_fill
 intro w s₀ j0 mg mb G Y fa o pm cd doc dV kV ho hd hcd hD hmg hg args vals as hpre hlay hrd hwl hlo
 refine Ground.open G ?_
 intro T B D TE TW
 clear ho hd hcd hD
 have hfa:some (ZR fa)=some (.ref 412):=hmg.symm.trans (mg_of Y.1 T.g (by kernel_rfl))
 clear hmg
 cases hfa
 wrow_args hpre hlay hrd hwl hlo
 rename_i zs _ _ _ _ _ _ _ L items _ hL _ _ _ hI _ hlen _
 have H:=baseH Y.1 Y.2.1 Y.2.2 T.g T.b T.nolimit T.builtins T.bmain
 have hS:∀ a ys,(a=L/\ys=zs)->∃ items:List Value,(sB j0).heap.IsList a items.toArray/\∀ h,VRs h (ys.map .int) items:=by
  rintro a ys ⟨rfl,rfl⟩
  obtain ⟨o,e,ec,r⟩:=hL
  exact ⟨items,⟨o,Yf1 Y.2.1 e (by rw [ec];decide),ec,r⟩,Yjw hI⟩
 refine Zy (Yc5 (E:=fun _ _=>False) Y.1 Y.2.1 H (Ypn H hS 8).1 Ykp hg (plain L zs (by omega))) (fun x s' ⟨v,r,q,old,os,ba⟩=>?_) fun _ _ e=>e.elim
 subst q
 cases r
 exact ⟨.inl ⟨_,.bool true,[],rfl,fun _=>rfl,ReadsW.bool true,(by wrow_post),fun _=>⟨Zsi,fun _ hm=>(nomatch hm)⟩⟩,old,os,ba⟩
end
end Mine
theorem PySem.Challenge.cw_if0024_01_holds : PySem.Challenge.rw_if0024_01.Holds :=
  Mine.main
