import PyProof.Rows.All
import Wide.All
import OpenK.AllK
import Wide.FinOn
import KE.KFmtOwn
import KE.KIntText
import KE.KNestM
import KE.KPar
import KE.KSortTup
import KE.KStateDown
import KE.KTryMore
import OpenK.KMake
import PyProof.CodeObjX
import PyProof.DictDisplay
import PyProof.DictTable
import PyProof.ExcBaseAll.Exception
import PyProof.GenCompT
import PyProof.JoinWalk
import PyProof.ListNew
import PyProof.P3Eq
import PyProof.Rows.Range3
import PyProof.RulesDelMore
import PyProof.StationsW
import PyProof.SumAny
import PyProof.ZipIter
import PySem.Challenge.RW_wz0013_01
set_option Elab.async false
set_option maxRecDepth 100000
set_option maxHeartbeats 8000000
open PySem PySem.W PySem.Calls PyProof.Rows
set_option linter.all false
set_option genSizeOf false
namespace Mine.Internal
noncomputable section
open _root_.PySem renaming wpAny_bind->XA,Value->XF,Shared->XG,wpAny_pure->XK,Addr->XM,starEach->X5,wpAny_holding->X7,wpAny_standAt->Yl,backTo->Yw,Expr->Yy,Around->Yz,attributeBase->YB,sizeLine->YD,wpAny_items_cons->YE,Scope->YI,mainGlobals->YJ,foldedSetIterable->YM,Builtin->Y4,builtinsNs->Y6,wpAny_items_nil->Zc,wpAny_execs_cons->Ze,wpAny_of_eq->Zg,keywordEach->Zh,wpAny_mono->Zi,NameKind->Zj,Heap->Zu,wpAny_field->Zv,wpAny_comprehension_free->Zw,codeAny_of_tree->ZA,Stmt->ZF,subscripted->ZG,wpAny_Call_method->ZQ,intBits_le_iff->ZT,wpAny_Constant_str->ZW,entryFor_of_tree->ZX,callWith->Z5,wpAny_Return_some->Z9,Keyword->aab,wpAny_seqItems->aal,wpAny_newObj_type->aat,wpAny_rule->aaw,wpAny_call_entry->aaA,Result->aaB,GenState->aaI,ks_wpAt_execs_cons->aaK,wpAny_truthy_bool->aaP,wpAny_pyIter_list->aaQ,wpAny_loadName_local->aaX,typeIs_str->aaY,plainId_quiet->aa8,wpAny_execs_nil->aa_,wpAny_call->aa',slot_listiter_next->aba,wpAny_list_append_plain->abf,DictEntry->abg,builtinLookup_eq_fast->abA,wpAny_isInstance->abD,Comprehension->abK,wpAny_point->abL,wpAny_BinOp->abM,codeAny_call_builtin->abO,wpAny_with_toks->abV,wpAny_updateSeq->abW,codeAny_builtin->abX,wpAny_isTrue_BoolOp->ab3,wpAny_setField_rec->aca,wpAny_loadPart->acb,wpAny_load->acd,call->acp,wpAny_noted->acv,wpAny_Assign_Name->acw,sizeLine_eq->acx,wpAt_of_wpAny->acA,wpAny_attempt->acB,wpAny_unpackItems_tuple->acU,wpAny_callSpecial?_slot->acV,wpAny_askSetting->acW,FuncData->acZ,Fin->ac0,wpAny_Name->ac6,wpAny_Assign_Subscript->ac7,call_meets->ac8,typeLookup_type->adh,codeAny_handlers_test->adm,wpAny_Slice->adw,isSubtype_type->ady,wpAny_handleBy_cons->adG,ks_wpAt_Return_some->adH,call_meets->adK,typeIs_int->adW,wpAny_assign_Name->aeb,wpAt->aee,strKind->aes,PyData->aeu,wpAny_Tuple->aeB,leftWithCleanup_false_of_bare->aeC,wpAny_tests_nil->aeM,wpAny_specialOf->aeN,pushCells_keeps->aeO,Program->aeS,wpAny_listPart->aeY,wpAny_layCells->aeZ,Params->ae4,intBits_le_64->afd,ExceptHandler->afC,wpAny_pyNext_range_item->afE,ClassData->afM,wpAny_typeOf->afP,wpAny_pyNext_range_end->afQ,wpAny_pyIter_rangeiter->afR,wpAny_mkText->afS,wpAny_storeName_local->af7,wpAny_pyIter_listiter->af8,wpAny_isTrue_Compare1->af9,ks_codeAny_call_defAt->af_,wpAny_pyIter_revIter->agk,wpAny_letGo->agl,wpAny_alloc->agm,wpAny_IfExp->agn,seqIndex_of->agp,intText?->ags,wpAny_raiseNew_none->agG,wpAny_loadName_free->agH,wpAny_Assign_stores->agI,entry_listiter_next->agJ,call_enumerate_list->agK,wpAny_pyIter_range->agU,wpAny_getItem_list->agV,wpAny_List->agW,wpAny_Constant_int->agX,args_listiter_next->agY,PlainAttrs->ag1,wpAny_truthy_list->ag3,wpAny_pyIter_enum->ag4,fastTable_eq_tree->ag5,arm_isTrue_BoolOp->ag7,BindsTo->ahf,wpAny_pyIter_zip->ahg,wpAny_eqBool_int->ahh,wpAny_comp_letGo->ahi,sliceIndices_raw->ahj,TriplesOk->ahk,Arguments->ahu,wpAny_operating->ahv,wpAny_setField->ahL,wpAny_newTuple->ahM,wpAny_cRoomFor->ahN,wpAny_Expr_any->ahO,recursionLimit->ahP,owner_list_new->ahQ,isSubtype_stop->ahS,TriplesOk_snoc->ahT
open _root_.List renaming getD_eq_getElem?_getD->XB,mem_singleton->XD,mem_cons->XH,getElem?_eq_getElem->XI,length_map->XJ,range->XO,mem_append_right->XQ,replicate->XR,mem_append_left->XS,mem_append->XY,mem_map->XZ,getElem?_map->X1,mem_range->X2,size_toArray->X3,getElem?_eq_none->X8,all_eq_true->X9,map_map->X_,getElem_mem->Ya,map_cons->Yb,length_range->Yc,map_congr_left->Yf,length_cons->Yi,nodup_cons->Yn,length_append->Yv,map_append->Yx,mem_map_of_mem->YA,length_drop->YG,append_assoc->YK,getElem?_range->YN,drop_eq_getElem_cons->YR,mem_reverse->YS,append_nil->Y0,getElem?_replicate->Y2,ext_getElem->Y3,mem_of_mem_drop->Y7,getElem?_eq_some_iff->Y9,length_replicate->Zb,nodup_append->Zd,eraseIdx_eq_take_drop_succ->Zk,length_reverse->Zp,range'->Zr,eq_nil_of_length_eq_zero->Zs,not_mem_nil->Zx,getElem_map->Zy,idxOf_lt_length_of_mem->ZE,reverse_cons->ZI,length_take_of_le->ZJ,length_set->ZO,range_eq_range'->ZU,mem_of_getElem?->ZV,mem_filter->Z3,length_nil->Z4,getElem_of_mem->Z7,filterMap_cons->Z8,range_succ_eq_map->Z',drop_eq_nil_of_le->aaa,exists_cons_of_ne_nil->aaf,length_pos_iff->aav,lookup_append->aaz,sum_cons->aaJ,length->aaO,map_reverse->aaR,zip_cons_cons->aa1,map_replicate->aa2,length_range'->aa3,length_filter_le->abk,take_length->abm,filter_cons->abn,any_eq_true->abo,any_cons->abu,length_zip->abB,replicate_succ->abG,getElem?_append_right->abS,drop_zero->abT,getElem?_append_left->ab5,pairwise_map->ab6,flatten_cons->ab7,take_append_getElem->ab_,eq_of_mem_replicate->ab',pairwise_singleton->ack,length_take->acm,length_eq_zero_iff->acn,getElem?_set_self->acy,of_mem_zip->acK,nil_append->acL,forIn_cons->acM,take_append_drop->acR,length_singleton->acS,mem_of_mem_take->ac1,getElem?_of_mem->ac2,forall_mem_cons->ac3,getD_cons_succ->adj,filter_eq_self->adk,take_nil->adn,map_drop->ado,drop_nil->adp,getElem_idxOf->adt,getElem?_take->adu,map_id'->adC,ext_getElem?->adD,replicate_append_replicate->adN,lookup_cons->adS,getElem_zip->adT,lookup->adY,getLast?_eq_some_getLast->adZ,map_const'->ad_,head?_drop->ad',tail_drop->aeq,nodup_iff_pairwise_ne->aer,pairwise_iff_getElem->aex,getLastD_eq_getLast?->aey,getElem?_eq_none_iff->aez,map_take->aeK,idxOf_lt_length_iff->aeL,take_of_length_le->aeV,not_of_lt_findIdx->aeW,map_nil->aeX,take_eq_take_iff->ae7,pairwise_reverse->ae8,getElem?_toArray->ae9,dropLast_eq_take->ae_,replicate_succ'->afj,map_id->afk,length_eraseIdx->afl,isEmpty_toArray->afm,getElem?_set_ne->afn,take_succ_cons->afz,map_eq_nil_iff->afA,getElem_range'->afB,mem_filterMap->afJ,take_add_one->afX,getElem?_set->afY,nodup_range->agb,mem_flatten->agc,mem_flatMap->agd,map_snd_zip->age,drop_length->agf,countP_cons->agg,cons_append->agh,sum_append->agx,range_succ->agy,head?_cons->agz,map_set->aha
open _root_.Nat renaming le_trans->XC,lt_of_lt_of_le->XE,lt_irrefl->XN,le_refl->XT,lt_of_le_of_lt->XW,le_add_right->X4,zero_le->Yd,le_of_lt->Ye,le_of_eq->Yg,add_assoc->Yo,zero_add->Yq,ne_of_lt->Ys,lt_succ_self->Yt,le_of_not_lt->Yu,add_le_add_left->YC,le_succ->YF,add_comm->YL,mod_lt->YO,le_succ_of_le->YP,mul_comm->YT,le_of_lt_succ->YU,le_add_left->Y1,lt_succ_of_lt->Y5,le_sub_one_of_lt->Y8,not_lt_zero->Y_,le_antisymm->Y',ne_of_gt->Zf,sub_le->Zn,add_le_add_right->Zo,add_sub_cancel'->Zq,succ_add_eq_add_succ->Zt,lt_add_of_pos_right->ZC,add_sub_cancel_left->ZD,succ_pos->ZL,mul_le_mul_left->ZM,add_left_cancel->ZN,min_eq_left->ZP,not_lt->ZS,pow_le_pow_right->ZY,succ_lt_succ->aad,succ_le_succ->aae,lt_of_lt_of_eq->aag,add_le_add->aah,le_of_ble_eq_true->aai,pow_succ->aam,one_pos->aan,lt_trans->aao,lt_succ_of_le->aap,succ_pred_eq_of_pos->aax,succ_add->aaC,sub_lt->aaD,sub_add_cancel->aaE,pos_of_ne_zero->aaF,lt_or_eq_of_le->aaG,div_div_eq_div_mul->aaH,min_le_right->aaU,min_eq_right->aaV,mul_add->aa7,sub_pos_of_lt->abb,pow_zero->abc,le_of_succ_le->abd,succ_ne_self->abq,lt_of_not_le->abr,sub_le_of_le_add->abx,not_succ_le_zero->aby,mul_le_mul_right->abz,div_le_self->abF,sub_le_sub_left->abI,add_lt_add_left->abJ,le_total->abP,lt_of_le_of_ne->ab0,pow_pos->ab9,zero_lt_succ->acs,mod_eq_of_lt->acu,zero_div->acD,sub_self->acE,mul_zero->acF,mul_succ->acG,lt_or_ge->acH,lt_of_succ_lt_succ->acI,add_zero->acJ,sub_eq_zero_of_le->acX,pow_mul->ac',pow_add->ada,one_mul->adb,mul_le_mul->ade,add_sub_cancel->adz,succ_le_of_lt->adL,add_sub_assoc->adM,div_eq_of_lt->adX,mul_one->ad7,div_pos->ad8,div_one->ad9,two_pow_pos->aeg,min_le_left->aeh,div_add_mod->aei,lt_one_iff->aev,add_lt_add_of_le_of_lt->aew,sub_lt_left_of_lt_add->aeJ,mul_assoc->aeP,min_self->ae5,lt_add_of_pos_left->ae6,le_sub_of_add_le'->afg,le_of_sub_eq_zero->afh,add_sub_add_right->afi,succ_lt_succ_iff->aft,succ->afu,sub_le_sub_right->afv,div_lt_of_lt_mul->afw,add_mul_div_left->afx,add_lt_of_lt_sub->afy,add_sub_of_le->aga,succ_ne_zero->agu,sub_sub_self->agv,not_lt_of_le->agw,mul_add_div->agQ,zero_mod->ahm,min_zero->ahn,sub_sub->ahE,add_mul->ahF
open _root_.PySem.Heap renaming get?_push_size->XU,lt_size->XX,get?_push_of_some->X6,size_push->Yk,get?_update_self->YZ,SameBut->aac,FlyingW->acz,MadeExcOf->ac4,get?_update_ne->adl,size_update->adU,get?_push_ne->af2,ExtBut->ahr
open _root_.Int renaming toNat_natCast->X0,natCast_nonneg->YH,natCast_add->aa4,ofNat_lt->abe,ofNat_le->abQ,fdiv_eq_ediv_of_nonneg->ab1,ofNat_inj->acg,lt_of_le_of_lt->adA,natCast_pow->aej,fmod_eq_emod_of_nonneg->aeA,toNat_sub->aeQ,fmod_nonneg_of_pos->ae',add_comm->afa,toNat_of_nonneg->afK,natAbs_natCast->afZ,lt_of_lt_of_le->af0,add_sub_cancel->af1,natCast_ediv->agA,max_eq_right->agB,natCast_mul->agR,min_eq_left->agS,ofNat_sub->ahb,le_trans->ahq,sub_sub->ahG
open _root_.Bool renaming false_ne_true->X',and_eq_true->Yp,and_eq_true_iff->Zl,eq_iff_iff->aa0,false_eq_true->aa5,not_eq_true'->ab8,decide_and->acP,and_true->ads,noConfusion->adV
open _root_.PySem.Env renaming kindOf->Yh
open _root_.PySem.NameKind renaming free->Yj,globalImplicit->aaZ,cell->abR
open _root_.PySem.PyData renaming strOk->Ym,eqv->Za,depthAll->adR,eqvAll->aeo,canLayAll0->afs
open _root_.PySem.Str renaming ofString->Yr,length_append->ZK,join->agZ,length->ahU
open _root_.Option renaming bind_eq_some_iff->YQ,some_ne_none->aar,getD_some->aaN,isSome_iff_exists->ab4,bind_some->adB,isSome_none->aff,map_some->afV,none_or->af',get->ag'
open _root_.PySem.Heap.SameBut renaming update->YV
open _root_.Option.some renaming inj->YW,injEq->aeI
open _root_.Array renaming getD_eq_getD_getElem?->YX,length_toList->aas,getElem?_eq_some_iff->aaM,getElem?_eq_getElem->aaT,toList_append->aaW,getElem?_eq_none->aa9,getElem?_toList->abi,all_toList->aci,mem_of_getElem?->acQ,eraseIdxIfInBounds_eq->aea,mem_toList_iff->afb,getElem?_push->afo,toList_push->afN,size_append->afO,toList_inj->af5
open _root_.PySem.Obj renaming mapSeq->YY,data_mapFields->afW,putName->ahD
open _root_.PySem.F renaming plainAttrs_str->Zm,plainAttrs_list->aaq,type_int_bit_length->abv,slot_int_bit_length->abw,ks_slot_super_ga->abZ,plainAttrs_int->acf,slot_list_index->aco,type_str_join->acq,slot_str_join->acr,called_str->ac_,args_str_split_2->adO,type_list_index->ad0,plainAttrs_list->ad1,entry_str_split->ad2,slot_list_reverse->ad4,excBase_Exception->ad5,slot_str_isspace->aef,slot_str_split->ael,type_list_index->aem,slot_list_index->aen,plain_list_new->aet,type_str_find->aeE,slot_str_find->aeF,slot_list_pop->aeG,slot_int_rmul->aeH,slot_zip_next->ahd,slot_list_lt->ahs
open _root_.PySem.Builtin.Int renaming intBits->Zz
open _root_.PySem.Calls renaming callWith_builtin->ZH,Name_function_global->aau,evalArgs_plain->abp,loadGlobal_builtin->ace,loadGlobal_global->aec,callWith_function->ag6
open _root_.PySem.Value renaming ref->ZR,str->abj,int->adI,isStrOf->agL,builtin->agM
open _root_.PySem.Builtin renaming divisionGoesByPylong->ZZ,bitNot->acO,bitAnd->af4
open _root_.PySem.W renaming looks_findIn->Z0,Looks->Z_,hideAll_get->abN,Frag->ach,looks_clsIn->adx,hideAll_none->aed,codeHd_of_K->aeD,of_hideAll->ae2,check_slot->ae3,WData->afF,looks_typeIn->afT,CodeHd->af3,looks_mroIn->agr,GoodWG->ag2,looks_specialIn->ahw
open _root_.PySem.Txt renaming slice->Z1,join->abY,mul->acC,slice_le->adJ,isspace->ad3,find3->aeR,find->afr
open _root_.PyProof.Rows renaming evalArgs_none->Z2,callWith_type->abl,Subscript_->abE,IntsAre->adE,add_str->ad6,tail_of_ItemOn->ae0,size_push'->ae1,listUpdate_at->afp,AllBare->af6,tail_any->ago,seqEpoch_at->agq,get?_update_seq->ahx,truthy_int->ahy,ne_str->ahz,join_tuple->ahA,joinOk_of->ahB,getItem_tuple->ahC
open _root_.PySem.SeqAt renaming shaped->Z6,notIn_list_reads->ahZ,list_indexAt->ah0,in_list_reads->ah1
open _root_.Prod.mk renaming inj->aaj
open _root_.PySem.Around renaming under_plainId->aak,under_of_weight->aay,frames_deeper->aaL
open _root_.ForInStep renaming yield->aaS
open _root_.PySem.Sem renaming wp_mono->aa6,wp->ag0,wp_bind'->ahl
open _root_.PySem.Builtin.List renaming listSubscript?->abh,listTooLong->abC,listFitsIndex->adv,listUpdate->ahH,listSliceParts->ahI,listItems->ahJ,listAllItems->ahK
open _root_.PySem.Manifest renaming signature?->abt,canonical->aeU
open _root_.Decidable renaming byContradiction->abH,not_not->adg
open _root_.Function renaming comp->abU
open _root_.PySem.ExcName renaming means->ab2
open _root_.PySem.W.WShape renaming has->acj,hasAll->ac9,hasItems->adQ
open _root_.PyProof.Rows.IntsAre renaming length->acN
open _root_.List.cons renaming inj->acT
open _root_.PySem.W.Looks renaming ld->acY
open _root_.PySem.Bind renaming checkArgs->ac5,madeBy->aht
open _root_.PySem.Heap.IsList renaming push->adf
open _root_.PySem.Builtin.Str renaming strOf->adi
open _root_.PySem.Code renaming isCaller->adq,quiet_builtin->afL,builtin->ahe
open _root_.PySem.Builtin.Range renaming rangeSize->adF
open _root_.PySem.MeetsSeq3 renaming plain_eq_loop->adP
open _root_.False renaming elim->aek
open _root_.Nat.succ renaming inj->aep
open _root_.Prod renaming ext_iff->aeT,snd->agP
open _root_.PySem.callAny renaming viaDunder->afc
open _root_.PySem.MeetsSeq.EqGives renaming int->afe
open _root_.PySem.W.WData renaming bool->afq,layableAll->afU
open _root_.PySem.Builtin.BaseException renaming bexcArgs->afD
open _root_.PySem.Value.ref renaming inj->afG
open _root_.PySem.Unicode renaming isSpace->afH
open _root_.PySem.P renaming len_str->afI
open _root_.PySem.Builtin.SmallTypes renaming ownedTupleHandOut->agi,nextOf->agj
open _root_.Ne renaming symm->agt
open _root_.PySem.Stmt.FunctionDef renaming elim->agN
open _root_.PySem.AutoIntOps renaming floordiv_1->agO
open _root_.PySem.Builtin.Builtins renaming bindParams->agT
open _root_.PySem.MeetsSeq renaming list_pop_at->ag9
open _root_.PySem.AutoSeq1 renaming list_reverse_list_0->ag_
open _root_.PySem.Heap.FunFrames renaming cons->ahc
open _root_.List.Pairwise renaming map->aho,imp_of_mem->ahp
open _root_.PySem.W.KIN renaming call_text->ahY
open _root_.PySem.Heap.DictOf renaming new->ah4
open _root_.PySem.Value.type renaming inj->aic
open _root_.List.Nodup renaming length_le_of_subset->aie
variable {α β : Type} {d bZ d₂ dM yw : V} {G : GE} {Γ Γ₁ fo gy : bD} {s9 : cf} {af eo hS : eE} {df : cm} {n k r m L g t ak size start hY : Nat} {p apos : Pos} {env : Env} {q ix y : Str} {ox : Obj} {b a C fh f bw bL bT ny Nh ln cJ c4 bA bF TI c0 O ae : Addr} {h ah base cY : Heap} {e l ew elt bh iter b8 o i l7 : Expr} {K : Frag} {w : World} {σ a9 cC Y fu : ba} {sc scope : Scope} {M : Model} {cd cls : Value} {A : Around} {s J aj ao : Shared} {ds outs items dg oT : List V} {id : String} {prog : Program} {os : OsState} {bp : List hn} {xs names : List Str} {ns : List Int} {c dv order a7 a6 rooms aO eV : List Nat} {key bl ee : Nat -> Nat} {pr S T T' wr cB as : List Addr} {da aZ : List Expr} {bS body orelse : List Stmt} {P eA : hu -> Prop} {aK ck : Nat -> Addr} {eg : Option Obj} {args iF : List Value} {om : Addr -> Prop} {R3 : Nat -> List V} {eu : List (Str × V)} {qa : Array GenState} {I : List (List Nat)} {W bc : Nat -> Nat -> Nat} {R gP : ba -> V -> Prop} {av : List (Str × Str)} {F : Nat -> Value -> Prop} {mg mb : Str -> Option Value} {Q : Flow -> Shared -> Prop} {E : Value -> Shared -> Prop} {RL : ba -> List V -> Prop} {rings : List (List (List Int))}
noncomputable def defOf(s:Option ZF):List ZF×YI:=by
 cases s with
 |none=>exact([],default)
 |some s=>cases s with
  |FunctionDef _ _ b _ _ _ sc=>exact(b,sc)
  |ClassDef _ _ _ b=>exact(b,default)
  |For _ _ b=>exact(b,default)
  |If _ b=>exact(b,default)
  |_=>exact([],default)
def b6(i:Nat):List ZF×YI:=defOf (PySem.Challenge.pw_wz0013_01.main.body[i]?)
noncomputable abbrev sl:aeS:=PySem.Challenge.pw_wz0013_01
noncomputable abbrev o7:OpenRow:=PySem.Challenge.rw_wz0013_01.row
noncomputable def mV:aeS:={sl with main:={sl.main with body:=([0,2,3,4,5,7,8,9,10,11,12,13,15,16,18,19,20,21,22,23,24,25,26,27,28,29,30,31]:List Nat).filterMap λi=>sl.main.body[i]?}}
noncomputable abbrev xq:List Str:=[Yr "_Accumulator"]
abbrev Cf(af:Hook):Prop:=LeftO sl mV xq (λs=>xlAt mV [] s&&recOk [] s) af.obs af.val 3860
noncomputable def iM(x:Str)(t:Nat):XF:=.str x t
noncomputable def lA(n:Nat):XF:=.int n 0
def e6(P:ae4)(x:Str)(t:Nat)(v:XF):abg:=⟨PyData.keyHash P x,iM x t,v⟩
noncomputable def Cg(z:α)(f:Str->ahu->List ZF->YI->Pos->α)(s:Option ZF):α:=by
 cases s with
 |none=>exact z
 |some s=>exact if h:s.ctorIdx=0 then agN (motive_2:=λ_=>α) s h λx av b _ _ _ sc _ _ p=>f x av b sc p else z
def Ci(m Jq Jr:XF)(cl:List (Str×XM))(f:Str->Str)(a t u:Nat):Option ZF->ach:=Cg [] λx av b sc p=>
 [(a-1,{cls:=.type "code",data:=.fields ⟨[iM x t,iM (f x) (t+1),iM "/claim/cut.py" (t+2),lA p.line,lA av.args.length,lA 0,lA 0,lA 3]++(bif u.beq (t+3)then[.ref (a-4),.bool true,lA 181,.ref (a-3),.none,.none,.none]else[.ref (a-6),.bool true,lA 181,.ref (a-5),.none,.ref (a-4),.ref (a-3)])++[.ref (a-2),lA u,lA p.line,iM "/claim/cut.py" (u+1)]⟩}),(a,{cls:=.type "function",data:=.func {name:=x,qualname:=f x,params:=av,body:=.stmts b,scope:=sc,globals:=3,closure:=cl,defaults:=Jq,kwdefaults:=.none,pyModule:=m,code:=.ref (a-1),closureTuple:=Jr}})]
noncomputable abbrev Row:=Nat×Nat×Nat×Nat
noncomputable def Cj:List Row:=[(8,72,265,279),(9,79,282,293),(10,86,296,304),(11,93,307,315),(12,100,318,330),(13,107,333,340)]
noncomputable def Ck:List Row:=[(18,198,445,450),(19,205,453,464),(20,210,467,470),(21,217,473,486),(22,222,489,492),(23,229,495,502),(24,234,505,508),(25,239,511,514),(26,246,517,528),(27,253,531,539),(28,258,542,545),(29,263,548,551),(30,268,554,557),(31,273,560,563)]
noncomputable def Cm:List (Row×XF×Bool):=[((0,124,360,366),.ref 116,true),((1,131,369,375),.none,false),((2,139,379,385),.ref 132,false),((3,147,388,393),.none,true),((4,154,396,400),.none,false),((5,161,403,407),.none,false),((6,169,410,415),.ref 162,false),((7,176,418,422),.none,false),((8,184,425,430),.none,true)]
noncomputable def xr(i:Nat):Option ZF:=sl.main.body[i]?
def Cn(i:Nat):Option ZF:=(b6 16).1[i]?
def xt(P:ae4)(g:Nat->Option ZF)(r:Row):abg:=e6 P (Cg .empty (λx _ _ _ _=>x) (g r.1)) (r.2.2.2+2) (.ref r.2.1)
def xu(m:XF)(r:Row):ach:=Ci m .none .none [] (λx=>x) r.2.1 r.2.2.1 r.2.2.2 (xr r.1)
def Co:XF:=iM "cpy313.email.header" 343
def Js(r:Row×XF×Bool):ach:=Ci Co r.2.1 (bif r.2.2 then .ref (r.1.2.1-7)else .none) (bif r.2.2 then[("__class__",111)]else[]) (λx=>⟨⟨("_Accumulator.":Str).cps.toList++x.cps.toList⟩⟩) r.1.2.1 r.1.2.2.1 r.1.2.2.2 (Cn r.1.1)
def Cp:XF:=iM "cpy313.ftplib" 194
noncomputable def xv(a n:Nat)(l:List abg):XM×Obj:=(a,{cls:=.type "dict",data:=.dict ⟨l⟩ n})
def xw(a t:Nat)(x:Str)(b s:List XF):XM×Obj:=(a,{cls:=.type "type",data:=.cls {name:=x,bases:=[b.headD .none],mro:=.ref a::b++[.type "BaseException",.type "object"],ns:=a-1,qualname:=x,subclasses:=s},slots:=⟨[some (.ref (a-9)),none,some (iM x t),some (iM x (t+8)),some (.builtin "Exception.__new__"),some (.bool true)]⟩})
def xx(P:ae4)(a t l n:Nat)(w:List abg):XM×Obj:=xv a n ([e6 P "__module__" t Cp,e6 P "__firstlineno__" (t+4) (.int l (t+3)),e6 P "__static_attributes__" (t+5) (.ref (a-1))]++w)
noncomputable def Cq(a t:Nat):XM×Obj:=(a,{cls:=.type "tuple",data:=.seq ⟨[.int 0 t]⟩})
def de(P:ae4):ach:=
 [(2,{cls:=.none,data:=.dict ⟨[e6 P "type.__subclasses__.Exception.0" 212 (lA 31),e6 P "type.__subclasses__.Exception.n" 213 (lA 1)]⟩ 2}),xv 3 37 ([e6 P "__name__" 165 (iM "law_wz0013_01" 443),e6 P "__doc__" 166 .none,e6 P "__package__" 167 .none,e6 P "__loader__" 168 (.builtin "__main__.__loader__#opaque"),e6 P "__spec__" 169 .none,e6 P "__annotations__" 170 (.ref 6),e6 P "__builtins__" 171 (.ref 4),e6 P "__file__" 173 (iM "/claim/cut.py" 172),e6 P "__cached__" 174 .none,e6 P "_wall" 193 (.ref 21),e6 P "Error" 215 (.ref 31),e6 P "error_reply" 231 (.ref 44),e6 P "error_proto" 247 (.ref 56),e6 P "parse229" 260 (.ref 65),e6 P "_DIV_LIMIT" 264 (.int 4000 263)] ++
   Cj.map (xt P xr)++[e6 P "EMPTYSTRING" 346 (iM "" 345),e6 P "_Accumulator" 442 (.ref 187)]++Ck.map (xt P xr)),xx P 30 203 5 3 [e6 P "__weakref__" 210 (.ref 32),e6 P "__doc__" 211 .none],xw 31 196 "Error" [.type "Exception"] [.ref 44,.ref 56],xx P 43 223 7 2 [e6 P "__doc__" 229 .none],xw 44 216 "error_reply" [.ref 31,.type "Exception"] [],xx P 55 239 9 2 [e6 P "__doc__" 245 .none],xw 56 232 "error_proto" [.ref 31,.type "Exception"] [],(111,{cls:=.type "cell",data:=.cell (some (.ref 187))}),Cq 116 359,Cq 132 378,xv 186 5 ([e6 P "__module__" 354 Co,e6 P "__firstlineno__" 358 (.int 105 357)]++Cm.map (λr=>xt P Cn r.1)++[e6 P "__static_attributes__" 434 (.ref 185),e6 P "__dict__" 437 (.ref 188),e6 P "__weakref__" 439 (.ref 189),e6 P "__doc__" 440 .none]),(187,{cls:=.type "type",data:=.cls {name:="_Accumulator",bases:=[.type "list"],mro:=[.ref 187,.type "list",.type "object"],ns:=186,qualname:="_Accumulator"},slots:=⟨[some (.ref 108),none,some (iM "_Accumulator" 347),some (iM "_Accumulator" 355),some (.builtin "list.__new__"),some (.bool true)]⟩})] ++
  xu Cp (5,65,248,258)++Cj.flatMap (xu (iM "cpy313._pylong" 261))++Cm.flatMap Js++Ck.flatMap (xu (iM "law_wz0013_01" 443))
def xy:Hook:=kmHook de ([2,3,30,31,43,44,55,56,111,116,132,186,187]++[65,72,79,86,93,100,107,124,131,139,147,154,161,169,176,184,198,205,210,217,222,229,234,239,246,253,258,263,268,273].flatMap λa=>[a-1,a]) (λ_=>by kernel_rfl) [149,156,88,81]
theorem Jt:Cf xy:=λw=>by kernel_rfl
def stp(s:Array Lean.Syntax)(w:String):Array Lean.Syntax:=
 match w.toList with
 | []=>s
 |c::l=>
  let r:=String.ofList l
  let n:=s.size-(c.toNat-48)%17
  (s.extract 0 n).push (if c.toNat=39 then .atom .none r else if c.toNat=36 then .ident .none r.toRawSubstring r.toName []else .node .none (if l=[]then `null else String.toName ((if c.toNat<65 then "" else "Lean.Parser.Tactic.")++r)) (s.extract n s.size))
def dS(x:String):Lean.Syntax:=(((x++" BtacticSeq1Indented BtacticSeq").splitOn " ").foldl stp #[]).back!
def aI:Lean.Syntax:=dS "'repeat 'intro 0 Cintro 1 BtacticSeq1Indented BtacticSeq CtacticRepeat_ '; 'rfl BtacticRfl 3"
def aD:Lean.Syntax:=dS "'first '| 'kernel_rfl 1tacticKernel_rfl 1 BtacticSeq1Indented BtacticSeq 2group '| 'decide '+ $kernel CposConfigItem BconfigItem 1 BoptConfig Cdecide 1 BtacticSeq1Indented BtacticSeq 2group 2 Cfirst 1"
def aX:Lean.Syntax:=dS "'intros 0 Cintros '; 'exact '⟨ '_ 1Lean.Parser.Term.hole ', $rfl 3 '⟩ 3Lean.Parser.Term.anonymousCtor Cexact 3"
def aF:Lean.Syntax:=dS "'first '| 'exact '. $inl 2Lean.Parser.Term.dotIdent $rfl 1 2Lean.Parser.Term.app Cexact 1 BtacticSeq1Indented BtacticSeq 2group '| 'exact '. $inr 2Lean.Parser.Term.dotIdent $rfl 1 2Lean.Parser.Term.app Cexact 1 BtacticSeq1Indented BtacticSeq 2group 2 Cfirst 1"
def aC:Lean.Syntax:=dS "'intro $env $h 2 Cintro '; 'cases 0 $env CelimTarget 1 0 0 Ecases '; 'cases 0 $h CelimTarget 1 0 0 Ecases '; 'rfl BtacticRfl 7"
def aE:Lean.Syntax:=dS "'decide 0 BoptConfig Cdecide 1"
def aS:Lean.Syntax:=dS "'with_reducible 'assumption Bassumption 1 BtacticSeq1Indented BtacticSeq CwithReducible 1"
theorem Ju:((n:Int)-1+-1*(k:Int)).toNat=0+n-1-k:=by
 rw[Int.neg_mul,Int.one_mul,<-Int.sub_eq_add_neg,ahG,Yq,ahE];exact aeQ n (1+k)
theorem Cr:((-1:Int)+(n:Int)).toNat=n-1:=by rw[afa];exact aeQ n 1
theorem Jv(O:1<=g)(ae:g<=L+1):min (g-1) L+(0+1)+(L-g)<=L+1:=by
 rw[ZP (abx ae),aaE O]
 rcases abP g L with h|h
 ·rw[aga h];exact YF L
 ·rw[acX h];exact ae
theorem Jw{a:Nat}(h:a<=k)(ah:k<n):a+n-1-k<n:=by
 rw[adM (XW (Yd _) ah)]
 exact aeJ (XC (Y8 ah) (Y1 ..)) (aew h (aaD (XW (Yd _) ah) (by decide)))
theorem Jx{a:Nat}(ah:k<n):a<=a+n-1-k:=by
 rw[adM (XW (Yd _) ah),adM (Y8 ah)];exact X4 ..
theorem cZ{a:α}{p:Prop}(h:a∈([]:List α)):p:=absurd h Zx
theorem iN{p:Prop}(h:false=true):p:=absurd h X'
theorem sm{p:Prop}(h:true=false):p:=iN h.symm
theorem mW{a:α}{p:Prop}(h:none=some a):p:=iN (congrArg Option.isSome h)
theorem mX{a:α}{p:Prop}(h:some a=none):p:=mW h.symm
theorem xA{a:α}{l:List α}{p:Prop}(h:[]=a::l):p:=sm (congrArg List.isEmpty h)
theorem uL{a:α}{l:List α}{p:Prop}(h:a::l=[]):p:=xA h.symm
theorem Jy{p:Prop}(h:0=n+1):p:=absurd h.symm (agu n)
theorem Cs{p:Prop}(h:n+1=0):p:=Jy h.symm
theorem Wt{p:Prop}(h:n<0):p:=absurd h (Y_ n)
theorem Wu{p:Prop}(h:False):p:=h.elim
theorem qI{p:Prop}(h0:autoParam (p) aS):p:=h0
theorem mh:n<=n:=XT n
theorem Ct:0<=n:=Yd n
theorem Cu:n<=n+1:=YF n
theorem Cv:0<n+1:=ZL n
theorem Cw:n<=n+k:=X4 ..
theorem hT:n<=k+n:=Y1 ..
theorem Jz:n-k<=n:=Zn ..
theorem aH{p:Prop}(h0:autoParam (p) aE):p:=h0
theorem n9(h0:autoParam (m<=n) aE):k+m<=k+n:=YC h0 k
theorem JA{a b:Nat}(h0:autoParam (a<b) aS):a<=b:=Ye h0
theorem dt{a b c:Nat}(h0:autoParam (a<=b) aS)(O:autoParam (b<=c) aE):a<=c:=XC h0 O
theorem jJ{a b c:Nat}(h0:autoParam (a<=b) aS)(O:autoParam (b<c) aE):a<c:=XW h0 O
theorem mi{a b c:Nat}(h0:autoParam (a<b) aS)(O:autoParam (b<=c) aE):a<c:=XE h0 O
theorem jK{a b c:Nat}(h0:autoParam (a<b) aS)(O:autoParam (b<=c) aE):a<=c:=XC (Ye h0) O
theorem Cx{a b:Nat}(h0:autoParam (a<b+1) aS):a<=b:=YU h0
theorem Cy{a b:Nat}(h0:autoParam (a<=b) aS):a<b+1:=aap h0
theorem Cz{a b:Nat}(h0:autoParam (a<b) aS):a+1<=b:=adL h0
theorem n_{a b:Nat}(h0:autoParam (a+1<=b) aS):a<b:=h0
theorem xB{a b:Nat}(h0:autoParam (a<=b) aS):a<=b+1:=YP h0
theorem JB{a b:Nat}(h0:autoParam (a<=b) aS):a+k<=b+k:=Zo h0 k
theorem qJ{a b:Nat}(h0:autoParam (¬a<b) aS):b<=a:=Yu h0
theorem JC{a b:Nat}(h0:autoParam (¬a<=b) aS):b<a:=abr h0
theorem CA{a b:Nat}(h0:autoParam (a<=b) aS):¬b<a:=agw h0
theorem JD{a b:Nat}(h0:autoParam (a<b) aS):¬a=b:=Ys h0
theorem JE{a b:Nat}(h0:autoParam (a<b) aS):¬b=a:=Zf h0
theorem xC{a b c:Nat}(h0:autoParam (a=b) aS)(O:autoParam (b<c) aS):a<c:=h0▸O
theorem CB{a b c:Nat}(h0:autoParam (a=b) aS)(O:autoParam (b<=c) aS):a<=c:=h0▸O
theorem JF{a b c:Nat}(h0:autoParam (a<b) aS)(O:autoParam (b=c) aS):a<c:=O▸h0
theorem JG{a b c:Nat}(h0:autoParam (b=a) aS)(O:autoParam (b<=c) aS):a<=c:=h0▸O
theorem uM{a b c d:Nat}(h0:autoParam (a<=b) aS)(O:autoParam (b<=c) aS)(ae:autoParam (c<=d) aE):a<=d:=XC (XC h0 O) ae
theorem uN{a b c d:Nat}(h0:autoParam (a<b) aS)(O:autoParam (b<=c) aS)(ae:autoParam (c<=d) aE):a<=d:=XC (Ye h0) (XC O ae)
theorem JH{a b c d:Nat}(h0:autoParam (a<b) aS)(O:autoParam (b<=c) aS)(ae:autoParam (c<=d) aE):a<d:=XE h0 (XC O ae)
theorem CC{a b c d:Nat}(h0:autoParam (a=b) aS)(O:autoParam (b<=c) aS)(ae:autoParam (c<=d) aE):a<=d:=h0▸XC O ae
theorem g7:(0:Int)<=n:=YH n
theorem n'{a:Int}(h0:autoParam (a<=0) aD):a<=n:=ahq h0 (YH n)
theorem xD{a:Int}(h0:autoParam (a<0) aD):a<n:=af0 h0 (YH n)
theorem oa{c:Int}(h0:autoParam (n<=m) aS)(O:autoParam ((m:Int)<c) aD):(n:Int)<c:=adA (abQ.mpr h0) O
theorem CD:((m:Int)-(n:Int)).toNat=m-n:=aeQ m n
theorem JI:(m:Int)+(n:Int)=((m+n:Nat):Int):=rfl
theorem CE{a b:Nat}(h0:autoParam (b<=a) aS):a-b+b=a:=aaE h0
theorem iO{a b c d:Nat}(h0:autoParam (a=b\/a=c) aS)(O:autoParam (b<=d) aE)(ae:autoParam (c<=d) aE):a<=d:=h0.elim (λe=>e▸O) λe=>e▸ae
theorem CF{a i:Nat}(h0:autoParam (a<n) aS):n-1-i<n:=XW (Zn ..) (aaD (XW (Yd a) h0) aan)
theorem JJ{a:Nat}(h0:autoParam (a<n-1) aS):a+1<n:=afy h0
theorem ob{p q:Nat}(h0:autoParam (r<=n-1) aS)(O:autoParam (n=p\/n=q) aS)(ae:autoParam (0<p) aE)(a2:autoParam (0<q) aE):r<n:=XW h0 (aaD (O.elim (λe=>e▸ae) λe=>e▸a2) aan)
theorem xE{a b:Nat}(h0:autoParam (a<b) aS):a<=b-1:=Y8 h0
theorem xF{a b:Nat}(h0:autoParam (1<=a) aS)(O:autoParam (a<=b) aS):a-1<b:=XE (aaD h0 aan) O
theorem JK{a b:Nat}(h0:autoParam (0<b) aS):a<=b+a-1:=Y8 (ae6 h0)
theorem JL{a b:Nat}(h0:autoParam (b≠0) aS):a<=b+a-1:=Y8 (ae6 (aaF h0))
theorem CG{c d:Nat}(h0:autoParam (m<c) aS)(O:autoParam (c<=d) aE):(m:Int).natAbs<d:=XE h0 O
theorem CH{a b:Nat}(h0:autoParam (n=a\/n=b) aS)(O:autoParam (a<k) aE)(ae:autoParam (b<k) aE):0<k-n:=abb (h0.elim (λe=>e▸O) λe=>e▸ae)
theorem mj{a b:Nat}(h0:autoParam (n=a\/n=b) aS)(O:autoParam (0<a) aE)(ae:autoParam (0<b) aE):0<n:=h0.elim (λe=>e▸O) λe=>e▸ae
theorem CI{a b:Nat}(h0:autoParam (n=a\/n=b) aS)(O:autoParam (0<a) aE)(ae:autoParam (0<b) aE):n=n-1+1:=(aaE (h0.elim (λe=>e▸O) λe=>e▸ae)).symm
theorem CJ{l a b c:Nat}(h0:autoParam (l+a<=b) aS)(O:autoParam (b<c) aE):l+a-l<c:=XW (XC (Zn ..) h0) O
theorem xG{c:Nat}(h0:autoParam (n<=k) aS)(O:autoParam (k<=c) aE):n-g<=c:=XC (Zn ..) (XC h0 O)
theorem JM{c:Int}(h0:autoParam (n<=k) aS)(O:autoParam ((k:Int)<c) aD):((n-g:Nat):Int)<c:=adA (abQ.mpr (XC (Zn ..) h0)) O
theorem JN(h0:autoParam (m<=n) aS):(n:Int)-(m:Int)=((n-m:Nat):Int):=(ahb h0).symm
theorem JO{a:Nat}(h0:autoParam (a=m+1) aS):a-1=m:=by subst h0;rfl
theorem JP{v:Nat}:((-1:Int)+(v:Int)).toNat=v-1:=Cr
theorem xH{a b:Nat}(h0:autoParam (a-b=0) aS):a<=b:=afh h0
theorem mY{a b:Nat}{c:Int}(h0:autoParam (a<b) aS)(O:autoParam ((b:Int)<=c) aD):(a:Int)<c:=af0 (abe.mpr h0) O
theorem uO{a b c d e:Nat}(h0:autoParam (a=b) aS)(O:autoParam (c<=d) aS)(ae:autoParam (b+d<=e) aE):a+c<=e:=h0▸XC (YC O _) ae
theorem xI{a b c:Nat}(h0:autoParam (a<b) aS)(O:autoParam (b<=c) aE):a / k<c:=XW (abF ..) (XE h0 O)
theorem CK{a:Int}{b:Nat}(h0:autoParam (0<=a) aS)(O:autoParam (a.toNat<b) aS):a<(b:Int):=(Int.toNat_lt h0).mp O
theorem xJ{a b c:Nat}(h0:autoParam (a+(b+1)<=c) aS):a+1+b<=c:=by rw[Yo,YL 1];exact h0
theorem o8{a b c:Nat}(h0:autoParam (a+b<=c) aS):a<=c:=XC (X4 ..) h0
theorem JQ{a b c:Nat}(h0:autoParam (a+b<c) aS):a<c:=XW (X4 ..) h0
theorem CL{a b c d:Nat}(h0:autoParam (a<=b) aS)(O:autoParam (b<=c) aS)(ae:autoParam (c<d) aE):a<d:=XW (XC h0 O) ae
theorem o9{a b c:Nat}{d:Int}(h0:autoParam (a<b) aS)(O:autoParam (b<=c) aS)(ae:autoParam ((c:Int)<d) aD):(a:Int)<d:=adA (abQ.mpr (XC (Ye h0) O)) ae
theorem CM{a d:Nat}(h0:autoParam (0<k) aE)(O:autoParam (k<=d) aE):a%k<=d:=XC (Ye (YO a h0)) O
theorem CN{a b p q c:Nat}(h0:autoParam (a<b) aS)(O:autoParam (b=p\/b=q) aS)(ae:autoParam (p<=c) aE)(a2:autoParam (q<=c) aE):a<=c:=XC (Ye h0) (O.elim (λe=>e▸ae) λe=>e▸a2)
theorem JR{a b p q c:Nat}(h0:autoParam (a<=b-1) aS)(O:autoParam (b=p\/b=q) aS)(ae:autoParam (p<=c) aE)(a2:autoParam (q<=c) aE):a<=c:=XC h0 (XC (Zn ..) (O.elim (λe=>e▸ae) λe=>e▸a2))
theorem JS{a b c d:Nat}(h0:autoParam (a<=b) aS)(O:autoParam (b<=c) aS)(ae:autoParam (c<=d) aE):a+(b-a)<=d:=(aga h0).symm▸XC O ae
theorem CO{a b c d:Nat}(h0:autoParam (a<b) aS)(O:autoParam (b<=c) aS)(ae:autoParam (c<=d) aE):a+1<=d:=XC h0 (XC O ae)
theorem aQ{p:Prop}(h0:autoParam p aD):p:=h0
theorem d6{cR bw:Prop}{g:Prop}(h:cR/\bw)(k:cR->bw->g):g:=k h.1 h.2
theorem gH{cR bw bL:Prop}{g:Prop}(h:cR/\bw/\bL)(k:cR->bw->bL->g):g:=k h.1 h.2.1 h.2.2
theorem so{cR bw bL P3:Prop}{g:Prop}(h:cR/\bw/\bL/\P3)(k:cR->bw->bL->P3->g):g:=k h.1 h.2.1 h.2.2.1 h.2.2.2
theorem sp{cR bw bL P3 bA:Prop}{g:Prop}(h:cR/\bw/\bL/\P3/\bA)(k:cR->bw->bL->P3->bA->g):g:=k h.1 h.2.1 h.2.2.1 h.2.2.2.1 h.2.2.2.2
theorem uP{cR bw bL P3 bA bF sq:Prop}{g:Prop}(h:cR/\bw/\bL/\P3/\bA/\bF/\sq)(k:cR->bw->bL->P3->bA->bF->sq->g):g:=k h.1 h.2.1 h.2.2.1 h.2.2.2.1 h.2.2.2.2.1 h.2.2.2.2.2.1 h.2.2.2.2.2.2
theorem cS{fl:Type}{cR:fl->Prop}{g:Prop}(h:∃a,cR a)(k:∀a,cR a->g):g:=h.elim λa h=>k a h
theorem bB{fl:Type}{cR bw:fl->Prop}{g:Prop}(h:∃a,cR a/\bw a)(k:∀a,cR a->bw a->g):g:=h.elim λa h=>k a h.1 h.2
theorem gU{fl:Type}{cR bw bL:fl->Prop}{g:Prop}(h:∃a,cR a/\bw a/\bL a)(k:∀a,cR a->bw a->bL a->g):g:=h.elim λa h=>k a h.1 h.2.1 h.2.2
theorem oc{fl:Type}{cR bw bL P3:fl->Prop}{g:Prop}(h:∃a,cR a/\bw a/\bL a/\P3 a)(k:∀a,cR a->bw a->bL a->P3 a->g):g:=h.elim λa h=>k a h.1 h.2.1 h.2.2.1 h.2.2.2
theorem o_{fl:Type}{cR bw bL P3 bA:fl->Prop}{g:Prop}(h:∃a,cR a/\bw a/\bL a/\P3 a/\bA a)(k:∀a,cR a->bw a->bL a->P3 a->bA a->g):g:=h.elim λa h=>k a h.1 h.2.1 h.2.2.1 h.2.2.2.1 h.2.2.2.2
theorem uQ{fl:Type}{cR bw bL P3 bA bF:fl->Prop}{g:Prop}(h:∃a,cR a/\bw a/\bL a/\P3 a/\bA a/\bF a)(k:∀a,cR a->bw a->bL a->P3 a->bA a->bF a->g):g:=h.elim λa h=>k a h.1 h.2.1 h.2.2.1 h.2.2.2.1 h.2.2.2.2.1 h.2.2.2.2.2
theorem qK{fl hG:Type}{cR:fl->hG->Prop}{g:Prop}(h:∃a b,cR a b)(k:∀a b,cR a b->g):g:=h.elim λa h=>h.elim λb h=>k a b h
theorem g8{fl hG:Type}{cR bw:fl->hG->Prop}{g:Prop}(h:∃a b,cR a b/\bw a b)(k:∀a b,cR a b->bw a b->g):g:=h.elim λa h=>h.elim λb h=>k a b h.1 h.2
theorem gI{fl hG:Type}{cR bw bL:fl->hG->Prop}{g:Prop}(h:∃a b,cR a b/\bw a b/\bL a b)(k:∀a b,cR a b->bw a b->bL a b->g):g:=h.elim λa h=>h.elim λb h=>k a b h.1 h.2.1 h.2.2
theorem qL{fl hG:Type}{cR bw bL P3:fl->hG->Prop}{g:Prop}(h:∃a b,cR a b/\bw a b/\bL a b/\P3 a b)(k:∀a b,cR a b->bw a b->bL a b->P3 a b->g):g:=h.elim λa h=>h.elim λb h=>k a b h.1 h.2.1 h.2.2.1 h.2.2.2
theorem xK{fl hG:Type}{cR bw bL P3 bA:fl->hG->Prop}{g:Prop}(h:∃a b,cR a b/\bw a b/\bL a b/\P3 a b/\bA a b)(k:∀a b,cR a b->bw a b->bL a b->P3 a b->bA a b->g):g:=h.elim λa h=>h.elim λb h=>k a b h.1 h.2.1 h.2.2.1 h.2.2.2.1 h.2.2.2.2
theorem sr{fl hG:Type}{cR bw bL P3 bA bF:fl->hG->Prop}{g:Prop}(h:∃a b,cR a b/\bw a b/\bL a b/\P3 a b/\bA a b/\bF a b)(k:∀a b,cR a b->bw a b->bL a b->P3 a b->bA a b->bF a b->g):g:=h.elim λa h=>h.elim λb h=>k a b h.1 h.2.1 h.2.2.1 h.2.2.2.1 h.2.2.2.2.1 h.2.2.2.2.2
theorem o'{fl hG:Type}{cR bw bL P3 bA bF sq:fl->hG->Prop}{g:Prop}(h:∃a b,cR a b/\bw a b/\bL a b/\P3 a b/\bA a b/\bF a b/\sq a b)(k:∀a b,cR a b->bw a b->bL a b->P3 a b->bA a b->bF a b->sq a b->g):g:=h.elim λa h=>h.elim λb h=>k a b h.1 h.2.1 h.2.2.1 h.2.2.2.1 h.2.2.2.2.1 h.2.2.2.2.2.1 h.2.2.2.2.2.2
theorem fm{fl hG ss:Type}{cR bw bL P3:fl->hG->ss->Prop}{g:Prop}(h:∃a b c,cR a b c/\bw a b c/\bL a b c/\P3 a b c)(k:∀a b c,cR a b c->bw a b c->bL a b c->P3 a b c->g):g:=h.elim λa h=>h.elim λb h=>h.elim λc h=>k a b c h.1 h.2.1 h.2.2.1 h.2.2.2
theorem su{fl hG ss xM:Type}{cR bw:fl->hG->ss->xM->Prop}{g:Prop}(h:∃a b c d,cR a b c d/\bw a b c d)(k:∀a b c d,cR a b c d->bw a b c d->g):g:=h.elim λa h=>h.elim λb h=>h.elim λc h=>h.elim λd h=>k a b c d h.1 h.2
theorem iP{fl hG ss xM:Type}{cR bw bL P3:fl->hG->ss->xM->Prop}{g:Prop}(h:∃a b c d,cR a b c d/\bw a b c d/\bL a b c d/\P3 a b c d)(k:∀a b c d,cR a b c d->bw a b c d->bL a b c d->P3 a b c d->g):g:=h.elim λa h=>h.elim λb h=>h.elim λc h=>h.elim λd h=>k a b c d h.1 h.2.1 h.2.2.1 h.2.2.2
@[elab_as_elim] theorem od {xN:Type} {o:xN} {f:xN} {cR:Prop} {g:xN->Prop} (h:o=f/\cR) (k:cR->g f):g o:=h.1▸k h.2
def gp(key:Nat->Nat)(n:Nat)(R:α->Prop):KasT α->Prop
 |.ret a=>R a
 |.ask i j k=>i<n/\j<n/\gp key n R (k (decide (key i<key j)))
section
variable{b N:Nat}{R kO:α->Prop}{p:Array Nat}
theorem gp.bind{kO:β->Prop}{f:α->KasT β}{t:KasT α}(h:gp key n R t)(hf:∀a,R a->gp key n kO (f a)):gp key n kO (t.bind f):=by
 induction t with
 |ret a=>exact hf a h
 |ask i j k ih=>exact⟨h.1,h.2.1,ih _ h.2.2⟩
theorem gp.mono{t:KasT α}(h:gp key n R t)(ai:∀a,R a->kO a):gp key n kO t:=by
 induction t with
 |ret a=>exact ai a h
 |ask i j k ih=>exact⟨h.1,h.2.1,ih _ h.2.2⟩
theorem gp.wp{t:KasT α}{cmp:Nat->Nat->(Bool->XG->Prop)->XG->Prop}{Q:α->XG->Prop}(au:∀i j C,i<n->j<n->C (decide (key i<key j)) s->cmp i j C s)(h:gp key n R t)(aR:∀a,R a->Q a s):t.kasWp cmp Q s:=by
 induction t with
 |ret a=>exact aR a h
 |ask i j k ih=>exact au i j _ h.1 h.2.1 (ih _ h.2.2)
theorem sv{i j:Nat}{t e:KasT α}(aq:i<n)(bq:j<n)(O:key i<key j->gp key n R t)(ae:key j<=key i->gp key n R e):gp key n R (.ask i j λc=>if c=true then t else e):=by
 refine⟨aq,bq,?_⟩
 show gp key n R (if decide (key i<key j)=true then t else e)
 by_cases h:key i<key j
 ·rw[if_pos (decide_eq_true h)];exact O h
 ·rw[if_neg λq=>h (of_decide_eq_true q)];exact ae (Yu h)
noncomputable def dR(key:Nat->Nat)(p:Array Nat)(i:Nat):Nat:=key (p.getD i 0)
theorem sx{q:Array Nat}{i j:Nat}(h:p[i]?=q[j]?):dR key p i=dR key q j:=by unfold dR;rw[YX,YX,h]
theorem CP{bY d:Nat}(aG:bY<p.size)(hd:d<=bY)(k:Nat):dR key (bubble p bY d) k=if k=bY-d then dR key p bY else if bY-d<k/\k<=bY then dR key p (k-1)else dR key p k:=by
 have e:=getElem?_bubble aG d hd k
 split
 ·rename_i h;rw[if_pos h]at e;exact sx e
 ·rename_i O;rw[if_neg O]at e
  split<;>rename_i h
  ·rw[if_pos h]at e;exact sx e
  ·rw[if_neg h]at e;exact sx e
theorem xO{i j:Nat}(bq:j<=p.size)(k:Nat):dR key (kas_rev p i j) k=if i<=k/\k<j then dR key p (i+j-1-k)else dR key p k:=by
 have e:=getElem?_mirror_all (xs:=p) (i:=i) bq k
 split<;>rename_i h
 ·rw[if_pos h]at e;exact sx e
 ·rw[if_neg h]at e;exact sx e
theorem oe{i j:Nat}:(kas_rev p i j).Perm p:=mirror_perm _ _ _ _
theorem xP{i j:Nat}:(kas_rev p i j).size=p.size:=mirror_size _ _ _ _
def lB(n:Nat)(p:Array Nat):Prop:=∀i,p.getD i 0<n
theorem lB.perm{q:Array Nat}(h:lB n p)(h0:0<n)(ar:q.Perm p):lB n q:=λi=>by
 rw[YX]
 cases aq:q[i]? with
 |none=>exact h0
 |some x=>
  obtain⟨j,bq⟩:=Array.mem_iff_getElem?.mp (ar.mem_iff.mp (acQ aq))
  have:=h j
  rw[YX,bq]at this
  exact this
def qM(r:Nat->Nat->Prop)(n:Nat):Prop:=∀i j,i<=j->j<n->r i j
theorem xQ{r:Nat->Nat->Prop}(ai:∀i,r i i)(a_:∀{i j k},r i j->r j k->r i k)(h:qM r n)(O:1<=n)(au:r (n-1) n):qM r (n+1):=λi j a b=>by
 rcases aaG (YU b)with q|rfl
 ·exact h i j a q
 ·rcases aaG a with q|rfl
  ·exact a_ (h i (j-1) (Y8 q) (aaD O aan)) au
  ·exact ai _
abbrev jj(key:Nat->Nat)(p:Array Nat)(n:Nat):Prop:=qM (λi j=>dR key p i<=dR key p j) n
abbrev kc(key:Nat->Nat)(p:Array Nat)(n:Nat):Prop:=qM (λi j=>dR key p j<=dR key p i) n
theorem jj.snoc(h:jj key p n)(O:1<=n)(au:dR key p (n-1)<=dR key p n):jj key p (n+1):=xQ (λ_=>XT _) (λa c=>XC a c) h O au
theorem kc.snoc(h:kc key p n)(O:1<=n)(au:dR key p n<=dR key p (n-1)):kc key p (n+1):=xQ (r:=λi j=>dR key p j<=dR key p i) (λ_=>XT _) (λa c=>XC c a) h O au
theorem xR{r:Nat->Nat->Prop}(ai:∀i,r i i):qM r 1:=λi j a h=>by
 obtain rfl:=aev.mp h
 obtain rfl:=Nat.le_zero.mp a
 exact ai _
theorem sy(az:n<=p.size){i:Nat}(aq:i<n):dR key (kas_rev p 0 n) i=dR key p (n-1-i):=by rw[xO az,if_pos ⟨Yd _,aq⟩,Yq]
theorem JT(az:n<=p.size)(h:kc key p n):jj key (kas_rev p 0 n) n:=λi j ml bq=>by
 simp only[sy az bq,sy az (XW ml bq)]
 exact h _ _ (abI ml _) CF
theorem JU(az:n<=p.size)(h:jj key p n):kc key (kas_rev p 0 n) n:=λi j ml bq=>by
 simp only[sy az bq,sy az (XW ml bq)]
 exact h _ _ (abI ml _) CF
structure JV(key:Nat->Nat)(p:Array Nat)(N m:Nat):Prop where
 pos:1<=m
 aq:m<=N
 up:jj key p m
 stop:m<N->dR key p m<dR key p (m-1)
theorem CQ(aw:lB b p)(f:Nat)(e:n+f=N)(O:1<=n)(dh:jj key p n):gp key b (JV key p N) (kas_asc p f n):=by
 induction f generalizing n with
 |zero=>exact⟨O,Yg e,dh,λh=>absurd h (ZS.mpr (Yg e.symm))⟩
 |succ f ih=>exact sv (aw _) (aw _) (λau=>⟨O,e▸X4 ..,dh,λ_=>au⟩) λau=>ih ((aaC n f).trans e) (YP O) (jj.snoc dh O au)
structure Seg(key:Nat->Nat)(p:Array Nat)(N:Nat)(r:Nat×Array Nat):Prop where
 perm:r.2.Perm p
 pos:1<=r.1
 aq:r.1<=N
 up:jj key r.2 r.1
theorem Seg.of{q:Array Nat}{r:Nat×Array Nat}(h:Seg key q N r)(ar:q.Perm p):Seg key p N r:=⟨h.perm.trans ar,h.pos,h.aq,h.up⟩
theorem CR(h0:0<b)(aw:lB b p)(O:1<=n)(az:n<=N)(hz:N<=p.size)(h:kc key p n):gp key b (Seg key p N) (kas_tail3 n N p):=
 (CQ (aw.perm h0 oe) (N-n) (Zq az) O (JT (XC az hz) h)).bind λ_ r=>⟨oe,r.pos,r.aq,r.up⟩
structure kP(key:Nat->Nat)(p:Array Nat)(n q:Nat):Prop where
 lt:q<n
 ij:kc key p n
 eq:∀i,n-(q+1)<=i->i<n->dR key p i=dR key p (n-1)
theorem kP.fresh(h:kc key p (n+1)):kP key p (n+1) 0:=⟨ZL _,h,λi O ae=>by rw[Y' (YU ae) O];rfl⟩
theorem kP.zero{iQ:Array Nat}{q:Nat}(h:kP key p n q)(aL:∀k,dR key iQ k=dR key p k)(au:dR key p n<=dR key p (n-1)):kP key iQ (n+1) 0:=
 .fresh λi j a c=>by
  show dR key _ j<=dR key _ i
  rw[aL,aL];exact kc.snoc h.ij (XW (Yd _) h.lt) au i j a c
theorem kP.more{q:Nat}(h:kP key p n q)(e:dR key p n=dR key p (n-1)):kP key p (n+1) (q+1):=
 ⟨aad h.lt,kc.snoc h.ij (XW (Yd _) h.lt) (Yg e),λi O ae=>by
  rcases aaG (YU ae)with c|rfl
  ·exact(h.eq i (afi n 1 (q+1)▸O) c).trans e.symm
  ·rfl⟩
theorem kP.rev{q:Nat}(h:kP key p n q)(az:n<=p.size)(k:Nat):dR key (kas_rev p (n-(q+1)) n) k=dR key p k:=by
 rw[xO az]
 split
 ·rename_i c
  rw[h.eq _ (Jx c.2) (Jw c.1 c.2),h.eq k c.1 c.2]
 ·rfl
structure JW(key:Nat->Nat)(p:Array Nat)(N:Nat)(r:Array Nat×Nat×Nat):Prop where
 perm:r.1.Perm p
 aq:r.2.1<=N
 ds:kP key r.1 r.2.1 r.2.2
theorem JX(h0:0<b)(f:Nat){q:Nat}(e:n+f=N)(hz:N<=p.size)(aw:lB b p)(h:kP key p n q):gp key b (JW key p N) (kas_desc f p n q):=by
 induction f generalizing p n q with
 |zero=>exact⟨.refl _,Yg e,h⟩
 |succ f ih=>
  have b8:=(aaC n f).trans e
  have az:=e▸X4 ..
  refine sv (aw _) (aw _) (λau=>?_) λau=>sv (aw _) (aw _) (λ_=>⟨.refl _,az,h⟩) λxS=>ih b8 hz aw (h.more (Y' xS au))
  split
  ·exact(ih b8 (by rw[xP];exact hz) (aw.perm h0 oe) (h.zero (h.rev (XC az hz)) (Ye au))).mono λr x=>⟨x.perm.trans oe,x.aq,x.ds⟩
  ·exact ih b8 hz aw (h.zero (λ_=>rfl) (Ye au))
theorem CS(h0:0<b)(aw:lB b p)(az:n<N)(hz:N<=p.size)(h:kc key p (n+1)):gp key b (Seg key p N) (kas_descPart n N p):=
 (JX h0 (N-(n+1)) (Zq az) hz aw (.fresh h)).bind λr d=>by
  have pa:=d.perm.size_eq▸hz
  have kd:=aw.perm h0 d.perm
  have O:=XW (Yd _) d.ds.lt
  split
  ·refine(CR h0 (kd.perm h0 oe) O d.aq (by rw[xP];exact pa) λi j a c=>?_).mono λs x=>x.of (oe.trans d.perm)
   simp only[d.ds.rev (XC d.aq pa),d.ds.rev (XC d.aq pa)]
   exact d.ds.ij i j a c
  ·exact(CR h0 kd O d.aq pa d.ds.ij).mono λs x=>x.of d.perm
theorem JY(h0:0<b)(aw:lB b p)(O:1<=N)(hz:N<=p.size):gp key b (Seg key p N) (kas_count N p):=
 (CQ aw (N-1) (Zq O) (XT _) (xR λ_=>XT _)).bind λn a=>by
  by_cases az:n=N
  ·rw[if_pos (beq_iff_eq.mpr az)];exact⟨.refl _,a.pos,a.aq,a.up⟩
  ·rw[if_neg λq=>az (beq_iff_eq.mp q)]
   have ct:=ab0 a.aq az
   have aG:=Ye (a.stop ct)
   have xT:=XC a.aq hz
   split
   ·refine sv (aw _) (aw _) (λ_=>⟨.refl _,a.pos,a.aq,a.up⟩) λau=>(CS h0 (aw.perm h0 oe) ct (by rw[xP];exact hz) (kc.snoc (JU xT a.up) a.pos ?_)).mono λs x=>x.of oe
    rw[sy xT (aaD a.pos aan),acE,xO xT,if_neg λq=>XN _ q.2]
    exact XC aG au
   ·rename_i h
    obtain rfl:n=1:=Y' (Yu h) a.pos
    exact CS h0 aw ct hz (kc.snoc (xR λ_=>XT _) (XT _) aG)
structure CT(key:Nat->Nat)(p:Array Nat)(k m:Nat):Prop where
 le:m<=k
 lo:∀i,i<m->dR key p i<=dR key p k
 aq:∀i,m<=i->i<k->dR key p k<=dR key p i
theorem JZ(aw:lB b p){l:Nat}(dh:jj key p k)(f:Nat)(ae:r<=k)(CU:l<=r)(a2:r<=l+f)(b_:∀i,i<l->dR key p i<=dR key p k)(cn:∀i,r<=i->i<k->dR key p k<=dR key p i):gp key b (CT key p k) (kas_place p k f l r):=by
 induction f generalizing l r with
 |zero=>exact⟨XC CU ae,b_,λi x y=>cn i (XC a2 x) y⟩
 |succ f ih=>
  dsimp only[kas_place]
  split
  ·rename_i h;exact⟨XC CU ae,b_,λi x y=>cn i (XC h x) y⟩
  ·have gq:l<=(l+r) / 2:=by lia
   have hU:(l+r) / 2<r:=by lia
   have mZ:r<=(l+r) / 2+1+f:=by lia
   have gr:(l+r) / 2<=l+f:=by lia
   exact sv (aw _) (aw _) (λau=>ih (XC (Ye hU) ae) gq gr b_ λi x y=>Ye (XE au (dh _ i x y))) λau=>ih ae hU mZ (λi x=>XC (dh i _ (YU x) (XE hU ae)) au) cn
theorem J0{r:Nat->Nat->Prop}(ai:∀i,r i i)(a_:∀{i j k},r i j->r j k->r i k)(h:∀i,i+1<n->r i (i+1)):qM r n:=by
 induction n with
 |zero=>exact λi j _ q=>absurd q (Y_ _)
 |succ n ih=>
  cases n with
  |zero=>exact xR ai
  |succ n=>exact xQ ai a_ (ih λi aq=>h i (Y5 aq)) (ZL _) (h n (Yt _))
theorem J1{l:Nat}(aL:k<p.size)(dh:jj key p k)(x:CT key p k l):jj key (bubble p k (k-l)) (k+1):=by
 have e:=agv x.le
 refine J0 (λ_=>XT _) (λa c=>XC a c) λi aq=>?_
 have aq:=acI aq
 show dR key _ i<=dR key _ (i+1)
 rw[CP aL (Zn ..),CP aL (Zn ..),e,adz]
 rcases Nat.lt_trichotomy i l with h|rfl|h
 ·rw[if_neg (Ys h),if_neg λq=>Nat.lt_asymm h q.1]
  split
  ·exact x.lo i h
  ·rename_i ah
   rw[if_neg λq=>XN _ (XW h q.1)]
   exact dh i (i+1) (YF _) (XE (ab0 h ah) x.le)
 ·rw[if_pos rfl,if_neg (abq _),if_pos ⟨Yt _,aq⟩]
  exact x.aq i (XT _) aq
 ·rw[if_neg (Zf h),if_pos ⟨h,Ye aq⟩,if_neg (Zf (Y5 h)),if_pos ⟨Y5 h,aq⟩]
  exact dh _ _ (Zn ..) aq
theorem J2(h0:0<b)(f:Nat)(e:k+f=N)(hz:N<=p.size)(aw:lB b p)(dh:jj key p k):gp key b (λq=>q.Perm p/\jj key q N) (kas_bin f p k):=by
 induction f generalizing p k with
 |zero=>exact⟨.refl _,e▸dh⟩
 |succ f ih=>
  have aL:=XE (e▸ZC (ZL f)) hz
  exact(JZ aw dh k (XT _) (Yd _) (Y1 ..) (λi h=>absurd h (Y_ _)) λi h ah=>absurd h (Nat.not_le.mpr ah)).bind λl x=>
   (ih ((aaC k f).trans e) (by rw[bubble_size];exact hz) (aw.perm h0 (bubble_perm ..)) (J1 aL dh x)).mono λq y=>⟨y.1.trans (bubble_perm ..),y.2⟩
end
theorem J3(key:Nat->Nat)(O:1<=n):gp key n (λp=>p.toList.Perm (XO n)/\(p.toList.map key).Pairwise (·<=·)) (kas_sort n):=by
 have ai:lB n (XO n).toArray:=λi=>by
  rw[YX]
  cases aq:(XO n).toArray[i]? with
  |none=>exact O
  |some x=>exact X2.mp (afb.mpr (acQ aq))
 have hz:(XO n).toArray.size=n:=Yc
 refine gp.mono (R:=λp=>p.Perm (XO n).toArray/\jj key p n) ((JY O ai O (Yg hz.symm)).bind λr x=>?_) λp x=>?_
 ·rw[Nat.max_eq_left x.pos]
  split
  ·exact(J2 O _ (Zq x.aq) (Yg (x.perm.size_eq.trans hz).symm) (ai.perm O x.perm) x.up).mono λq y=>⟨y.1.trans x.perm,y.2⟩
  ·rename_i h
   exact⟨x.perm,Y' x.aq (Yu h)▸x.up⟩
 ·refine⟨Array.perm_iff_toList_perm.mp x.1,aex.mpr λi j aq bq ml=>?_⟩
  rw[XJ]at aq bq
  have:key (p.getD i 0)<=key (p.getD j 0):=x.2 i j (Ye ml) ((x.1.size_eq.trans hz)▸bq)
  rw[YX,YX,aaT aq,aaT bq]at this
  simp only[Zy,Zy]
  exact this
section
open MeetsSeq MeetsSeq2 MeetsSeq3 SeqRoads2
open PySem.SeqAt
open AutoSeq1 (wpAny_loadPart')
def qN(A:Yz)(s:XG)(y x:XF)(b:Bool):Prop:=
 ∀(prog:aeS) (w:World) (E:XF->XG->Prop) (Q:XF->XG->Prop),Q (.bool b) s->wpAny (model prog w) A (richCompare .Lt y x) Q E s
noncomputable def ke(m n:Nat)(e r:Nat->Bool):Nat->Nat->Bool
 |0,_=>decide (m<n)
 |k+1,i=>if e i=true then ke m n e r k (i+1)else r i
noncomputable def ep[DecidableEq α](lt:α->α->Bool):List α->List α->Bool
 | [],[]=>false
 | [],_::_=>true
 |_::_,[]=>false
 |x::xs,y::ys=>if x=y then ep lt xs ys else lt x y
theorem J4{e r:Nat->Bool}{i:Nat}:ke m n e r k (i+1)=ke m n (λj=>e (j+1)) (λj=>r (j+1)) k i:=by
 induction k generalizing i with
 |zero=>rfl
 |succ k ih=>exact congrArg (λz=>if e (i+1)=true then z else r (i+1)) ih
theorem J5{e r:Nat->Bool}{i:Nat}:ke (m+1) (n+1) e r k i=ke m n e r k i:=by
 induction k generalizing i with
 |zero=>exact decide_eq_decide.mpr aft
 |succ k ih=>exact congrArg (λz=>if e i=true then z else r i) ih
theorem CV{e r:Nat->Bool}{i:Nat}(h:e i=true):ke m n e r (k+1) i=ke m n e r k (i+1):=if_pos h
theorem CW{e r:Nat->Bool}{i:Nat}(h:e i=false):ke m n e r (k+1) i=r i:=if_neg (by rw[h];exact X')
theorem sz[DecidableEq α]{lt:α->α->Bool}{x y:α}{xs ys:List α}:ep lt (x::xs) (y::ys)=if x=y then ep lt xs ys else lt x y:=rfl
theorem CX[DecidableEq α](lt:α->α->Bool)(d:α)(xs ys:List α):ke xs.length ys.length (λj=>decide (xs.getD j d=ys.getD j d)) (λj=>lt (xs.getD j d) (ys.getD j d)) (min xs.length ys.length) 0=ep lt xs ys:=by
 induction xs generalizing ys with
 |nil=>rw[Z4,Nat.zero_min];cases ys<;>rfl
 |cons x xs ih=>
  cases ys with
  |nil=>rfl
  |cons y ys=>
   simp only[Yi,Yi,Nat.succ_min_succ]
   refine(congrArg (λz=>if decide (x=y)=true then z else lt x y) (J4.trans (J5.trans (ih ys)))).trans ?_
   show _=if x=y then ep lt xs ys else lt x y
   by_cases h:x=y
   ·rw[if_pos h,if_pos (decide_eq_true h)]
   ·rw[if_neg h,if_neg λq=>h (of_decide_eq_true q)]
theorem J6{a b i:Nat}(h:i=min a b)(aq:i<a):b<=i:=by
 rcases abP a b with q|q
 ·rw[ZP q]at h;exact absurd h (Ys aq)
 ·rw[aaV q]at h;exact Yg h.symm
theorem xU{xs:Array XF}{i:Nat}(h:i<xs.size):xs[((i:Nat):Int).toNat]?=some xs[i]:=aaT h
theorem CY{xs:Array XF}{i:Nat}(h:xs.size<=i):xs[((i:Nat):Int).toNat]?=none:=aa9 h
theorem J7(l b:XM)(items eO:Array XF)(n eX:Nat)(dd qO:Option XM)(bE og:Array (Option XF))(e r:Nat->Bool)(k:Nat):
  ∀i:Nat,i+k=min items.size eO.size->Meets (Y4.«list.__eq__.loop» ⟨[.ref l,.ref b,rawInt i,rawInt 0],[]⟩)
   (λA R s=>s.heap.get? l=some {cls:=.type "list",dict:=dd,data:=.seq items n,slots:=bE}/\s.heap.get? b=some {cls:=.type "list",dict:=qO,data:=.seq eO eX,slots:=og}/\
    (∀j (O:j<items.size) (ae:j<eO.size),EqAt A.in1 s items[j] eO[j] (e j)/\qN A.in1 s items[j] eO[j] (r j))/\
    R (.ok (.ret (.bool (ke items.size eO.size e r k i)))) s):=by
 induction k with
 |zero=>
  intro i aL prog w A R s h
  obtain⟨ar,g,d,cD,os⟩:=s;obtain⟨aw,H,he,h⟩:=h
  wp_walk using wpAny_loadPart' aw,wpAny_loadPart' H
  by_cases aq:i<items.size
  ·rw[xU aq,CY (J6 (i:=i) aL aq)]
   wp_walk using wpAny_loadPart' aw,wpAny_loadPart' H
   exact h
  ·rw[CY (Yu aq)]
   wp_walk using wpAny_loadPart' aw,wpAny_loadPart' H
   exact h
 |succ k ih=>
  intro i aL prog w A R s h
  obtain⟨ar,g,d,cD,os⟩:=s;obtain⟨aw,H,he,h⟩:=h
  wp_walk using wpAny_loadPart' aw,wpAny_loadPart' H
  have hm:i<min items.size eO.size:=aL▸ZC (ZL k)
  have ct:=XE hm (aeh ..)
  have xV:=XE hm (aaU ..)
  have pb:=xU ct
  have CZ:=xU xV
  rw[pb,CZ]
  refine XA ((he i ct xV).1 prog w _ _ ?_)
  cases eP:e i with
  |true=>
   rw[CV eP]at h
   wp_walk
   rw[(show((i:Int)+1)=((i+1:Nat):Int)from rfl)]
   exact⟨aa8 adP _,abX entry_eq_loop (by
    rw[aak adP _]
    exact ih (i+1) ((aaC i k).trans aL) prog w A R _ ⟨aw,H,he,h⟩)⟩
  |false=>
   rw[CW eP]at h
   wp_walk using wpAny_loadPart' aw,wpAny_loadPart' H
   rw[pb,CZ]
   refine XA ((he i ct xV).2 prog w _ _ ?_)
   wp_walk
   exact h
theorem J8(l b:XM)(items eO:Array XF)(n eX:Nat)(dd qO:Option XM)(bE og:Array (Option XF))(e r:Nat->Bool):
  Meets (Y4.«list.__lt__» ⟨[.ref l,.ref b],[]⟩)
   (λA R s=>s.heap.get? l=some {cls:=.type "list",dict:=dd,data:=.seq items n,slots:=bE}/\s.heap.get? b=some {cls:=.type "list",dict:=qO,data:=.seq eO eX,slots:=og}/\
    (∀j (O:j<items.size) (ae:j<eO.size),EqAt A.in1 s items[j] eO[j] (e j)/\qN A.in1 s items[j] eO[j] (r j))/\
    R (.ok (.ret (.bool (ke items.size eO.size e r (min items.size eO.size) 0)))) s):=by
 intro prog w A R s h
 obtain⟨ar,g,d,cD,os⟩:=s;obtain⟨aw,H,he,h⟩:=h
 have uR:=AutoSeq1.sub_list_list
 wp_walk using wpAny_loadPart' aw,wpAny_loadPart' H
 exact⟨aa8 adP _,abX entry_eq_loop (by
  exact(aak adP _)▸J7 l b items eO n eX dd qO bE og e r _ 0 (Yq _) prog w A R _ ⟨aw,H,he,h⟩)⟩
end
section
open MeetsSeq MeetsSeq2 MeetsSeq3 SeqRoads2
open PySem.SeqAt
open AutoSeq1 (wpAny_loadPart')
theorem J9(l b:XM)(items eO:Array XF)(n eX:Nat)(dd qO:Option XM)(bE og:Array (Option XF))(e r:Nat->Bool):
  Meets (Y4.«tuple.__lt__» ⟨[.ref l,.ref b],[]⟩)
   (λA R s=>s.heap.get? l=some {cls:=.type "tuple",dict:=dd,data:=.seq items n,slots:=bE}/\s.heap.get? b=some {cls:=.type "tuple",dict:=qO,data:=.seq eO eX,slots:=og}/\
    (∀j (O:j<items.size) (ae:j<eO.size),EqAt A.in1 s items[j] eO[j] (e j)/\qN A.in1 s items[j] eO[j] (r j))/\
    R (.ok (.ret (.bool (ke items.size eO.size e r (min items.size eO.size) 0)))) s):=
 .of_wp λprog w A R s h=>by
  obtain⟨ar,g,d,cD,os⟩:=s;obtain⟨aw,H,he,h⟩:=h
  have f2:=AutoSeq1.sub_tuple_tuple
  have uS:(items.toList.zip eO.toList).length=min items.size eO.size:=abB
  wp_walk using wpAny_loadPart' aw,wpAny_loadPart' H,wpAny_forIn_list _ (λbS b J=>b.1=none/\J=⟨ar,g,d,cD,os⟩/\∃i,bS=(items.toList.zip eO.toList).drop i/\
   R (.ok (.ret (.bool (ke items.size eO.size e r (min items.size eO.size-i) i)))) ⟨ar,g,d,cD,os⟩) _
  case turn=>
   rintro⟨y,x⟩ bS b J ⟨eP,rfl,i,hz,dT⟩
   have ct:i<(items.toList.zip eO.toList).length:=by
    rcases acH i (items.toList.zip eO.toList).length with ah|ah
    ·exact ah
    ·replace hz:=(List.drop_of_length_le ah)▸hz;cases hz
   have hm:=uS▸ct
   have O:=XE hm (aeh _ _)
   have ae:=XE hm (aaU _ _)
   rw[YR ct]at hz
   injection hz with uT xW
   have bk:y=items[i]:=by have:=congrArg Prod.fst uT;simpa using this
   have ag:x=eO[i]:=by have:=congrArg agP uT;simpa using this
   subst bk ag
   rw[show min items.size eO.size-i=(min items.size eO.size-(i+1))+1 by lia]at dT
   refine XA ((he i O ae).1 prog w _ _ ?_)
   cases bk:e i with
   |true=>
    rw[CV bk]at dT
    wp_walk
    exact⟨rfl,rfl,i+1,xW,dT⟩
   |false=>
    rw[CW bk]at dT
    dsimp only
    rw[if_pos (by rfl)]
    refine XA (aaw ?_)
    refine XA ((he i O ae).2 prog w _ _ ?_)
    wp_walk
    exact⟨_,rfl,dT⟩
  case fin=>
   rintro⟨fI,gc⟩ J ⟨eP,rfl,i,hz,dT⟩
   simp only at eP
   subst eP
   have Wv:min items.size eO.size<=i:=by
    rcases acH i (items.toList.zip eO.toList).length with ah|ah
    ·rw[YR ah]at hz;cases hz
    ·exact uS▸ah
   rw[show min items.size eO.size-i=0 by lia]at dT
   wp_walk
   exact⟨_,rfl,dT⟩
  case h=>
   exact⟨rfl,rfl,0,rfl,by simpa using h⟩
def ltI:List Int->List Int->Bool:=ep λa b=>decide (a<b)
def gV:List (List Int)->List (List Int)->Bool:=ep ltI
end
section
open PySem.SeqAt
section
variable{vs:List XF}{κ:SortKind}
theorem J_{P:ac0->XG->Prop}(aP:s.heap.get? a=some (seqObj "list" vs.toArray n))(m1:vs.length<64)
  (aL:2<=vs.length->∀J (Q:SortKind->XG->Prop),(∀b o,b≠a->s.heap.get? b=some o->J.heap.get? b=some o)->Q κ J->wpAny (model prog w) A (keyKind' vs.toArray) Q E J)
  (au:∀i j J (C:Bool->XG->Prop),i<vs.length->j<vs.length->(∀b o,b≠a->s.heap.get? b=some o->J.heap.get? b=some o)->C (decide (key i<key j)) J->wpAny (model prog w) A (keyLt' κ (vs.getD i Value.none) (vs.getD j Value.none)) C (λ_ _=>False) J)
  (h:∀(p:List Nat) c ah,p.Perm (XO vs.length)->(p.map key).Pairwise (·<=·)->(∀b o,b≠a->s.heap.get? b=some o->ah.get? b=some o)->s.heap.objs.size<=ah.objs.size->
   ah.get? a=some (seqObj "list" (p.map λi=>vs.getD i Value.none).toArray c)->P (.done (.ret .none)) {s with heap:=ah}) :
  wpAny (model prog w) A (Y4.«list.sort» ⟨[.ref a],[]⟩) P E s:=by
 have aY:=XX aP
 obtain⟨a3,C0⟩:∃a3,(s.heap.update a (YY λ_=>(#[]:Array XF))).get? a=some (seqObj "list" #[] a3):=⟨_,ahx aP λ_=>#[]⟩
 have qP:(((s.heap.update a (YY λ_=>(#[]:Array XF))).push (seqObj "tuple" vs.toArray 0)).push (seqObj "list" #[] 0)).get? a=some (seqObj "list" #[] a3):=
  X6 _ (X6 _ C0)
 have keep:∀b o,b≠a->s.heap.get? b=some o->(((s.heap.update a (YY λ_=>(#[]:Array XF))).push (seqObj "tuple" vs.toArray 0)).push (seqObj "list" #[] 0)).get? b=some o:=λb o H e=>
  X6 _ (X6 _ (by rw[adl _ _ _ _ H];exact e))
 have size:s.heap.objs.size<=(((s.heap.update a (YY λ_=>(#[]:Array XF))).push (seqObj "tuple" vs.toArray 0)).push (seqObj "list" #[] 0)).objs.size:=by
  rw[ae1,ae1,adU];lia
 have fin:∀(p:List Nat),p.Perm (XO vs.length)->(p.map key).Pairwise (·<=·)->
   P (.done (.ret .none)) {s with heap:=(((s.heap.update a (YY λ_=>(#[]:Array XF))).push (seqObj "tuple" vs.toArray 0)).push (seqObj "list" #[] 0)).update a (YY λ_=>(p.map λi=>vs.getD i Value.none).toArray)}:=λp ar aG=>by
  refine h p _ _ ar aG (λb o H e=>by rw[adl _ _ _ _ H];exact keep b o H e) (by rw[adU];exact size) (ahx qP λ_=>(p.map λi=>vs.getD i Value.none).toArray)
 rw[list_sort_plain]
 refine XA (listItems_at aP rfl ?_)
 refine XA (afp aP rfl ?_ (by rw[X3,acx];exact jK) (Yd _))
 refine XA (agq C0 rfl ?_)
 refine XA (ahM ?_ (by show vs.length<=_;rw[acx];exact jK))
 refine XA (wpAny_newList ?_ (Yd _))
 refine X7 ?_
 generalize ((s.heap.update a (YY λ_=>(#[]:Array XF))).push (seqObj "tuple" vs.toArray 0)).push (seqObj "list" #[] 0)=af at qP keep size fin ⊢
 dsimp only
 by_cases ae:vs.toArray.size<2
 ·rw[if_pos ae,if_pos ae]
  refine XA (XK ?_)
  refine XA (XK ?_)
  dsimp only
  refine XA (agq qP rfl ?_)
  refine XA (afp qP rfl ?_ (hsz2:=by rw[Array.size_map];show(pairsOf vs).size<=_;rw[pairsOf_size,acx];exact jK))
  simp only[bne_self_eq_false,aa5,if_false]
  have e:(arrOf (SortSt.mk' general' (vs.toArray.zip vs.toArray) #[] 7 none)).map (·.2)=((XO vs.length).map λi=>vs.getD i Value.none).toArray:=by
   show(vs.toArray.zip vs.toArray).map (·.2)=_
   apply af5.mp
   have:(XO vs.length).map (λi=>vs.getD i Value.none)=vs:=by
    apply Y3
    ·simp
    ·intro i O ae;simp at O ⊢;simp[O]
   simp only[this]
   simp[age]
  refine XK ?_
  have:=fin (XO vs.length) (.refl _) (by
   rw[aex]
   intro i j aq bq ml
   simp at aq bq ae
   lia)
  replace this:=e.symm▸this
  exact this
 ·rw[if_neg ae,if_neg ae]
  have xX:2<=vs.length:=by rw[X3]at ae;exact qJ
  refine XA (aL xX _ _ keep ?_)
  refine XA (Zi (kat_run (κ:=κ) (ks:=vs) (Q:=λdf J=>∃p:Array Nat,(p.toList.Perm (XO vs.length)/\(p.toList.map key).Pairwise (·<=·))/\J={s with heap:=af}/\arrOf df=p.map (kas_item (vs.toArray.zip vs.toArray))/\failedOf df=none)
   (G:=λp J=>J={s with heap:=af}/\p.toList.Perm (XO vs.length)/\(p.toList.map key).Pairwise (·<=·))
   rfl xX m1 (λdK df J a1 cw e7 gJ=>⟨dK,gJ.2,gJ.1,cw,e7⟩) (gp.wp (λi j C aq bq br=>au i j _ C aq bq keep br) (J3 key (XC aH xX)) λp ar=>⟨rfl,ar⟩)) ?_ λ_ _ x=>x)
  rintro⟨⟨⟩,df⟩ J ⟨p,⟨ar,aG⟩,rfl,C1,hf⟩
  dsimp only at C1 hf ⊢
  refine XA (agq qP rfl ?_)
  rw[kat_snds rfl C1]
  have hz:=ar.length_eq.trans Yc
  refine XA (afp qP rfl ?_ (Yd _) (XC (Yg (by rw[X3,XJ,hz])) (by rw[acx];exact jK)))
  simp only[hf]
  simp only[bne_self_eq_false,aa5,if_false]
  exact XK (fin p.toList ar aG)
theorem C2{l:XM}{Q:XF->XG->Prop}(aw:s.heap.IsList l vs.toArray)(m1:vs.length<64)
  (aL:2<=vs.length->∀J (Q:SortKind->XG->Prop) cI,(∀b o,s.heap.get? b=some o->J.heap.get? b=some o)->Q κ J->wpAny (model prog w) A.in1.in1 (keyKind' vs.toArray) Q cI J)
  (au:∀i j J (C:Bool->XG->Prop),i<vs.length->j<vs.length->(∀b o,s.heap.get? b=some o->J.heap.get? b=some o)->C (decide (key i<key j)) J->wpAny (model prog w) A.in1.in1 (keyLt' κ (vs.getD i Value.none) (vs.getD j Value.none)) C (λ_ _=>False) J)
  (h:∀(p:List Nat) c ah,p.Perm (XO vs.length)->(p.map key).Pairwise (·<=·)->(∀b o,s.heap.get? b=some o->ah.get? b=some o)->s.heap.objs.size+1<ah.objs.size->
   ah.get? (s.heap.objs.size+1)=some (seqObj "list" (p.map λi=>vs.getD i Value.none).toArray c)->Q (.ref (s.heap.objs.size+1)) {s with heap:=ah}) :
  wpAny (model prog w) A (call (.builtin "sorted") [.ref l]) Q E s:=by
 refine Calls.call_function_entry kind_sorted plain_sorted entry_sorted (args_sorted1 _) ?_
 refine XA (m:=checkCount "sorted" 1 1 _) (XK ?_)
 refine XA (collect_list aw ?_ (by rw[acx];exact jK))
 refine XA (wpAny_newList ?_ (by rw[acx];exact jK))
 have hsz:((s.heap.push (seqObj "list" #[] 0)).update s.heap.objs.size (YY (·++vs.toArray))).objs.size=s.heap.objs.size+1:=by
  rw[adU,ae1]
 have C3:(((s.heap.push (seqObj "list" #[] 0)).update s.heap.objs.size (YY (·++vs.toArray))).push (seqObj "list" vs.toArray 0)).get? (s.heap.objs.size+1)=some (seqObj "list" vs.toArray 0):=by
  rw[<-hsz];exact XU _ rfl
 have keep:∀b o,s.heap.get? b=some o->(((s.heap.push (seqObj "list" #[] 0)).update s.heap.objs.size (YY (·++vs.toArray))).push (seqObj "list" vs.toArray 0)).get? b=some o:=λb o q=>by
  have ct:=XX q
  rw[af2 _ _ _ (by rw[hsz];exact Ys (Y5 ct)),adl _ _ _ _ (Ys ct),af2 _ _ _ (Ys ct)]
  exact q
 have xY:∀b o,s.heap.get? b=some o->b≠s.heap.objs.size+1:=λb o q=>Ys (Y5 (XX q))
 rw[hsz]
 refine XA (X7 (aaA slot_list_sort ⟨_,C3,rfl⟩ entry_list_sort ?body (args_list_sort _)))
 case body=>
  refine J_ (κ:=κ) (key:=key) (s:={s with heap:=((s.heap.push (seqObj "list" #[] 0)).update s.heap.objs.size (YY (·++vs.toArray))).push (seqObj "list" vs.toArray 0)}) C3 m1
   (λae J bX c1 aR=>aL ae J bX _ (λb o e=>c1 b o (xY b o e) (keep b o e)) aR) (λi j J C aq bq c1 br=>au i j J C aq bq (λb o e=>c1 b o (xY b o e) (keep b o e)) br) λp c ah a1 cw e7 gJ kQ=>?_
  refine⟨_,rfl,XK ⟨_,rfl,?_⟩⟩
  exact h p c ah a1 cw (λb o e=>e7 b o (xY b o e) (keep b o e)) (XE (by rw[ae1,hsz];exact Yt _) gJ) kQ
end
end
abbrev dU(e:Yy)(l:List Yy):Prop:=∀env,X5 (e::l) env=(false,eval e env)::X5 l env
abbrev BT(pos:Pos)(l:List Yy):Prop:=∀env,(Yw pos (X5 l env)).any (·.1)=false
abbrev ik(f:Yy)(l:List Yy)(pos:Pos):Prop:=∀env,eval (.Call f l [] pos) env=(do Z5 pos (<-eval f env) [] (Yw pos (X5 l env)) (backToKw pos (Zh [] env)))
theorem bC{P:Prop}(h:∀g:Prop,(P->g)->g):P:=h P id
inductive V where
 |none
 |bool (b:Bool)
 |int (i:Int)
 |str (x:Str)
 |tuple (l:List V)
 |list (l:List V)
 |raw (v:XF)
set_option genInjectivity false
noncomputable abbrev gK(vs:List XF)(n:Nat):Obj:={cls:=.type "tuple",data:=.seq vs.toArray n}
noncomputable abbrev gW(vs:List XF)(n:Nat):Obj:={cls:=.type "list",data:=.seq vs.toArray n}
mutual
inductive bu(P:XM->Prop)(h:Zu):XF->V->Prop
 |none:bu P h .none .none
 |bool (b:Bool):bu P h (.bool b) (.bool b)
 |int (i:Int) (t:Tok):bu P h (.int i t) (.int i)
 |str (x:Str) (t:Tok):bu P h (.str x t) (.str x)
 |tuple {a vs n ds}:h.get? a=some (gK vs n)->P a->a5 P h vs ds->bu P h (.ref a) (.tuple ds)
 |list {a vs n ds}:h.get? a=some (gW vs n)->P a->a5 P h vs ds->bu P h (.ref a) (.list ds)
 |raw (v:XF):bu P h v (.raw v)
inductive a5(P:XM->Prop)(h:Zu):List XF->List V->Prop
 |nil:a5 P h [] []
 |cons {v vs d ds}:bu P h v d->a5 P h vs ds->a5 P h (v::vs) (d::ds)
end
section
variable{P P':XM->Prop}
theorem bu.mono(aL:∀b o,P b->h.get? b=some o->P' b/\ah.get? b=some o){v d}(r:bu P h v d):bu P' ah v d:=
 bu.rec (motive_1:=λv d _=>bu P' ah v d) (motive_2:=λvs ds _=>a5 P' ah vs ds) .none .bool .int .str (λe p _ r=>.tuple (aL _ _ p e).2 (aL _ _ p e).1 r) (λe p _ r=>.list (aL _ _ p e).2 (aL _ _ p e).1 r) .raw .nil (λ_ _ a r=>.cons a r) r
theorem a5.ind{motive:List XF->List V->Prop}(nil:motive [] [])(cons:∀{v vs d ds},bu P h v d->a5 P h vs ds->motive vs ds->motive (v::vs) (d::ds)){vs ds}(r:a5 P h vs ds):motive vs ds:=
 a5.rec (motive_1:=λ_ _ _=>True) (motive_2:=λvs ds _=>motive vs ds) trivial (λ_=>trivial) (λ_ _=>trivial) (λ_ _=>trivial) (λ_ _ _ _=>trivial) (λ_ _ _ _=>trivial) (λ_=>trivial) nil (λa r _ k=>cons a r k) r
theorem a5.mono(aL:∀b o,P b->h.get? b=some o->P' b/\ah.get? b=some o){vs ds}(r:a5 P h vs ds):a5 P' ah vs ds:=a5.ind .nil (λa _ k=>.cons (a.mono aL) k) r
theorem a5.length{vs ds}(r:a5 P h vs ds):vs.length=ds.length:=a5.ind (motive:=λvs ds=>vs.length=ds.length) rfl (λ_ _ k=>congrArg (·+1) k) r
theorem a5.append{vs ds ws aZ}(r:a5 P h vs ds)(q:a5 P h ws aZ):a5 P h (vs++ws) (ds++aZ):=a5.ind (motive:=λvs ds=>a5 P h (vs++ws) (ds++aZ)) q (λa _ k=>.cons a k) r
theorem a5.get{vs ds}(r:a5 P h vs ds){i:Nat}(e:ds[i]?=some d):∃v,vs[i]?=some v/\bu P h v d:=
 a5.ind (motive:=λvs ds=>∀i:Nat,ds[i]?=some d->∃v,vs[i]?=some v/\bu P h v d) (λ_ e=>by rw[List.getElem?_nil]at e;cases e) (λa _ k i e=>by
  cases i with
  |zero=>cases e;exact⟨_,rfl,a⟩
  |succ i=>exact k i e) r i e
theorem a5.drop{vs ds}(r:a5 P h vs ds)(n:Nat):a5 P h (vs.drop n) (ds.drop n):=
 a5.ind (motive:=λvs ds=>∀n,a5 P h (vs.drop n) (ds.drop n)) (λn=>by rw[adp,adp];exact .nil) (λa r k n=>by
  cases n with
  |zero=>exact .cons a r
  |succ n=>exact k n) r n
theorem a5.take{vs ds}(r:a5 P h vs ds)(n:Nat):a5 P h (vs.take n) (ds.take n):=
 a5.ind (motive:=λvs ds=>∀n,a5 P h (vs.take n) (ds.take n)) (λn=>by rw[adn,adn];exact .nil) (λa _ k n=>by
  cases n with
  |zero=>exact .nil
  |succ n=>exact .cons a (k n)) r n
theorem a5.one{v d}(a:bu P h v d):a5 P h [v] [d]:=.cons a .nil
theorem a5.reverse{vs ds}(r:a5 P h vs ds):a5 P h vs.reverse ds.reverse:=
 a5.ind (motive:=λvs ds=>a5 P h vs.reverse ds.reverse) .nil (λa _ k=>by rw[ZI,ZI];exact k.append (.one a)) r
theorem a5.mem{vs ds}(r:a5 P h vs ds):∀d∈ds,∃v,v∈vs/\bu P h v d:=
 a5.ind (motive:=λvs ds=>∀d∈ds,∃v,v∈vs/\bu P h v d) (λ_ e=>cZ e) (λa _ k d e=>by
  rcases XH.mp e with rfl|e
  ·exact⟨_,.head _,a⟩
  ·refine bB (k d e) λv bJ q=>?_
   exact⟨v,.tail _ bJ,q⟩) r
theorem a5.jL{vs d ds}(r:a5 P h vs (d::ds)):∃v ws,vs=v::ws/\bu P h v d/\a5 P h ws ds:=by
 cases r with|cons a r=>exact⟨_,_,rfl,a,r⟩
theorem a5.Ww{v vs ds}(r:a5 P h (v::vs) ds):∃d aZ,ds=d::aZ/\bu P h v d/\a5 P h vs aZ:=by
 cases r with|cons a r=>exact⟨_,_,rfl,a,r⟩
theorem a5.both{v vs d ds}(r:a5 P h (v::vs) (d::ds)):bu P h v d/\a5 P h vs ds:=by
 cases r with|cons a r=>exact⟨a,r⟩
theorem a5.m2{vs}(r:a5 P h vs []):vs=[]:=Zs r.length
theorem a5.inv1{vs d}(r:a5 P h vs [d]):∃v,vs=[v]/\bu P h v d:=by
 obtain⟨v,ws,rfl,a,r⟩:=r.jL
 exact⟨v,by rw[r.m2],a⟩
theorem a5.inv2{vs d e}(r:a5 P h vs [d,e]):∃v w,vs=[v,w]/\bu P h v d/\bu P h w e:=by
 refine bC λ_ a'=>?_
 obtain⟨v,ws,rfl,a,r⟩:=r.jL
 refine bB r.inv1 λw aB b=>?_
 subst aB
 refine a' ?_
 exact⟨v,w,rfl,a,b⟩
theorem a5.xZ{vs d e f}(r:a5 P h vs [d,e,f]):∃v w x,vs=[v,w,x]/\bu P h v d/\bu P h w e/\bu P h x f:=by
 refine bC λ_ a'=>?_
 obtain⟨v,ws,rfl,a,r⟩:=r.jL
 refine g8 r.inv2 λw x aB b=>?_
 subst aB
 refine a' ?_
 exact⟨v,w,x,rfl,a,b⟩
def bu.Inv(P:XM->Prop)(h:Zu)(v:XF):V->Prop
 |.none=>v=.none
 |.bool b=>v=.bool b
 |.int i=>∃t,v=.int i t
 |.str x=>∃t,v=.str x t
 |.tuple ds=>∃a vs n,v=.ref a/\h.get? a=some (gK vs n)/\P a/\a5 P h vs ds
 |.list ds=>∃a vs n,v=.ref a/\h.get? a=some (gW vs n)/\P a/\a5 P h vs ds
 |.raw u=>v=u
theorem bu.inv{v d}(r:bu P h v d):bu.Inv P h v d:=bu.casesOn (motive_1:=λv d _=>bu.Inv P h v d) r rfl (λ_=>rfl) (λ_ t=>⟨t,rfl⟩) (λ_ t=>⟨t,rfl⟩) (λe p q=>⟨_,_,_,rfl,e,p,q⟩) (λe p q=>⟨_,_,_,rfl,e,p,q⟩) λ_=>rfl
theorem bu.iR{v ds}(r:bu P h v (.list ds)):∃a vs n,v=.ref a/\h.get? a=some (gW vs n)/\P a/\a5 P h vs ds:=r.inv
theorem bu.jM{v ds}(r:bu P h v (.tuple ds)):∃a vs n,v=.ref a/\h.get? a=some (gK vs n)/\P a/\a5 P h vs ds:=r.inv
theorem bu.int_inv{v i}(r:bu P h v (.int i)):∃t,v=.int i t:=r.inv
theorem bu.str_inv{v i}(r:bu P h v (.str i)):∃t,v=.str i t:=r.inv
theorem bu.bool_inv{v i}(r:bu P h v (.bool i)):v=.bool i:=r.inv
theorem bu.none_inv{v}(r:bu P h v .none):v=.none:=r.inv
theorem bu.dB{v u}(r:bu P h v (.raw u)):v=u:=r.inv
theorem m3{a vs n}(e:h.get? a=some (gW vs n)):h.IsList a vs.toArray:=⟨_,e,rfl,n,rfl⟩
theorem C4{a vs n}(e:h.get? a=some (gK vs n)):IsTup h a vs.toArray:=⟨_,e,rfl,n,rfl⟩
theorem qQ{a vs n}(e:h.get? a=some (gK vs n)):h.IsTuple a vs.toArray:=⟨_,e,rfl,n,rfl⟩
end
def kf(a b:Array aaI):Prop:=(∀(i:Nat) (g:aaI),a[i]?=some g->b[i]?=some g)/\∀(i:Nat) (g:aaI),a.size<=i->b[i]?=some g->g.bare=true
theorem kf.refl(a:Array aaI):kf a a:=⟨λ_ _ e=>e,λi g h e=>by rw[aa9 h]at e;cases e⟩
theorem kf.trans{a b c:Array aaI}(x:kf a b)(y:kf b c):kf a c:=⟨λi g e=>y.1 i g (x.1 i g e),λi g h e=>by
 by_cases H:b.size<=i
 ·exact y.2 i g H e
 ·have aq:=abr H
  have a3:=y.1 i b[i] (by simp[aq])
  cases e.symm.trans a3
  exact x.2 i _ h (by simp[aq])⟩
theorem kf.bare{a b:Array aaI}(x:kf a b)(h:af6 a):af6 b:=λy bk=>by
 obtain⟨i,aq,rfl⟩:=Array.mem_iff_getElem.mp bk
 by_cases H:a.size<=i
 ·exact x.2 i _ H (by simp[aq])
 ·have eQ:=abr H
  have a3:=x.1 i a[i] (by simp[eQ])
  rw[(show b[i]?=some b[i]from by simp[aq])]at a3
  injection a3 with a3
  exact a3▸h _ (Array.getElem_mem eQ)
structure KB(C:XM->Prop)(s J:XG):Prop where
 keep:∀b o,¬C b->s.heap.get? b=some o->J.heap.get? b=some o
 size:s.heap.objs.size<=J.heap.objs.size
 os:J.os=s.os
 gens:kf s.gens J.gens
theorem KB.refl(C:XM->Prop)(s:XG):KB C s s:=⟨λ_ _ _ e=>e,XT _,rfl,.refl _⟩
theorem KB.trans{C:XM->Prop}{dn:XG}(x:KB C s J)(y:KB C J dn):KB C s dn:=
 ⟨λb o c e=>y.keep b o c (x.keep b o c e),XC x.size y.size,y.os.trans x.os,x.gens.trans y.gens⟩
theorem KB.mono{C D:XM->Prop}(x:KB C s J)(h:∀b,C b->D b):KB D s J:=⟨λb o c e=>x.keep b o (λq=>c (h b q)) e,x.size,x.os,x.gens⟩
abbrev jk:XM->Prop:=λ_=>False
abbrev bb(s J:XG):Prop:=KB jk s J
theorem bb.get(x:bb s J){o:Obj}(e:s.heap.get? b=some o):J.heap.get? b=some o:=x.keep b o (λq=>q) e
theorem bb.all(x:bb s J):∀b o,s.heap.get? b=some o->J.heap.get? b=some o:=λ_ _ e=>x.get e
theorem bb.tok(t:Nat):bb s {s with toks:=t}:=⟨λ_ _ _ e=>e,XT _,rfl,.refl _⟩
theorem bb.heap(aL:∀b o,s.heap.get? b=some o->h.get? b=some o)(aG:s.heap.objs.size<=h.objs.size):bb s {s with heap:=h,toks:=t}:=⟨λb o _ e=>aL b o e,aG,rfl,.refl _⟩
theorem bb.push(o:Obj)(t:Nat):bb s {s with heap:=s.heap.push o,toks:=t}:=.heap (λ_ _ e=>X6 _ e) (by simp)
inductive cf where
 |list (cls:XF) (dict:Option XM) (items:List V)
 |dict (aZ:List (Str×V))
 |inst (aZ:List (Str×V))
 |tab (c:XM) (q:Str)
noncomputable abbrev ba:=List (XM×cf)
noncomputable def ba.at(σ:ba):List XM:=σ.map (·.1)
def aT(σ:ba)(pr:List XM)(b:XM):Prop:=b∉σ.at/\b∉pr
structure GE where
 prog:aeS
 w:World
 h₀:Zu
 mg:Str->Option XF
 mb:Str->Option XF
 cl:List (Str×XM):=[]
def cf.on(P:XM->Prop)(h:Zu)(G:GE)(a:XM):cf->Prop
 |.list c dd items=>∃vs n bE,h.get? a=some {cls:=c,dict:=dd,data:=.seq vs n,slots:=bE}/\a5 P h vs.toList items/\(dd=none->bE=#[])
 |.dict aZ=>∃fJ:List (Str×XF),h.DictOf (strKind G.prog G.w) a fJ/\fJ.map (·.1)=aZ.map (·.1)/\a5 P h (fJ.map (·.2)) (aZ.map (·.2))
 |.inst aZ=>∃m,h.Ns a m/\∀x,match aZ.lookup x with|some d=>∃v,m x=some v/\bu P h v d|none=>m x=none
 |.tab c q=>af3 h c a/\P c/\∃av,h.get? a=some (tabObj av)/\ahk av.toList/\∀pos hV,codeAmong pos av.toList=some hV->∃cq,hV=.ref cq/\P cq/\h.CodeRec hV q
theorem C5{c:XM}(x:af3 h c a):∃o,h.get? c=some o:=by
 obtain⟨o,_,_,_,_,_,_,_,_,e,_⟩:=x;exact⟨o,e⟩
theorem J'{c:XM}(x:af3 h c a)(k:∀o,h.get? c=some o->ah.get? c=some o):af3 ah c a:=by
 refine cS (C5 x) λo e=>?_
 delta af3 at x ⊢
 rw[e]at x;rw[k o e];exact x
theorem Ka{c:XM}(x:h.CodeRec (.ref c) q):∃o,h.get? c=some o:=by
 obtain⟨d,o,ws,t,e,a3,_⟩:=x;cases e;exact⟨o,a3⟩
theorem cf.on.mono{P P':XM->Prop}{m:cf}(aL:∀b o,P b->h.get? b=some o->P' b/\ah.get? b=some o)(aY:∀o,h.get? a=some o->ah.get? a=some o)(x:m.on P h G a):m.on P' ah G a:=by
 induction m with
 |list c dd items=>obtain⟨vs,n,bE,e,r⟩:=x;exact⟨vs,n,bE,aY _ e,r.1.mono aL,r.2⟩
 |dict aZ=>obtain⟨fJ,e,r⟩:=x;exact⟨fJ,e.at aY,r.1,r.2.mono aL⟩
 |inst aZ=>
  obtain⟨m,e,r⟩:=x
  refine⟨m,e.at' aY,λy=>?_⟩
  have:=r y
  revert this
  induction aZ.lookup y with
  |none=>exact id
  |some d=>exact λq=>q.imp λ_ q=>⟨q.1,q.2.mono aL⟩
 |tab c q=>
  refine bC λ_ a'=>?_
  obtain⟨er,C6,av,Kb,Kc,Kd⟩:=x
  obtain⟨o,e⟩:=C5 er
  refine a' ?_
  refine⟨J' er λo e=>(aL c o C6 e).2,(aL c o C6 e).1,av,aY _ Kb,Kc,λpos hV au=>?_⟩
  refine gU (Kd pos hV au) λd aB ar y=>?_
  subst aB
  obtain⟨gX,bH⟩:=Ka y
  exact⟨d,rfl,(aL d gX ar bH).1,y.at λo e=>(aL d o ar e).2⟩
structure GE.Ok(G:GE):Prop where
 g:G.h₀.Ns YJ G.mg
 b:G.h₀.Ns Y6 G.mb
 nolimit:G.h₀.NoLimit
 nodigits:∃sA,G.h₀.Ns cStatics sA/\sA "sys.int_max_str_digits" = none
 builtins:∀x:Str,x≠"__name__"->G.mb x=bootBuiltins x
structure a4(G:GE)(σ:ba)(pr:List XM)(s:XG):Prop where
 ok:G.Ok
 base:∀b o,G.h₀.get? b=some o->s.heap.get? b=some o
 store:∀p∈σ,p.2.on (aT σ pr) s.heap G p.1
 nodup:σ.at.Nodup
 apart:∀b∈σ.at,b∉pr
 lt:∀b,(b∈σ.at\/b∈pr)->b<s.heap.objs.size
 above:∀b,(b∈σ.at\/b∈pr)->G.h₀.get? b=none
theorem a4.keep(W:a4 G σ pr s)(k:bb s J):a4 G σ pr J where
 ok:=W.ok
 base:=λb o e=>k.get (W.base b o e)
 store:=λp ar=>(W.store p ar).mono (λb o q e=>⟨q,k.get e⟩) λo e=>k.get e
 nodup:=W.nodup
 apart:=W.apart
 lt:=λb H=>XE (W.lt b H) k.size
 above:=W.above
theorem bu.keep{P:XM->Prop}{v:XF}(r:bu P s.heap v d)(k:bb s J):bu P J.heap v d:=r.mono λ_ _ p e=>⟨p,k.get e⟩
theorem a5.keep{P:XM->Prop}{v:List XF}{d:List V}(r:a5 P s.heap v d)(k:bb s J):a5 P J.heap v d:=r.mono λ_ _ p e=>⟨p,k.get e⟩
theorem a4.gs(W:a4 G σ pr s)(h:s.heap.objs.size<=b):aT σ pr b:=
 ⟨λq=>XN _ (XE (W.lt b (.inl q)) h),λq=>XN _ (XE (W.lt b (.inr q)) h)⟩
theorem a4.Ke(W:a4 G σ pr s){c:XM}(au:c<s.heap.objs.size)(Kf:c∉σ.at)(h0:G.h₀.get? c=none)(e8:∀p∈σ,p.2.on (aT σ (c::pr)) s.heap G p.1):a4 G σ (c::pr) s where
 ok:=W.ok
 base:=W.base
 store:=e8
 nodup:=W.nodup
 apart:=λb H q=>by
  rcases XH.mp q with rfl|q
  ·exact Kf H
  ·exact W.apart b H q
 lt:=λb H=>by
  rcases H with H|H
  ·exact W.lt b (.inl H)
  ·rcases XH.mp H with rfl|H
   ·exact au
   ·exact W.lt b (.inr H)
 above:=λb H=>by
  rcases H with H|H
  ·exact W.above b (.inl H)
  ·rcases XH.mp H with rfl|H
   ·exact h0
   ·exact W.above b (.inr H)
theorem a4.qR(W:a4 G σ pr s)(h:s.heap.objs.size<=b):G.h₀.get? b=none:=by
 cases e:G.h₀.get? b with
 |none=>rfl
 |some o=>exact absurd (XX (W.base b o e)) (ZS.mpr h)
theorem x1{c:XM}(h:aT σ pr b)(au:b≠c):aT σ (c::pr) b:=⟨h.1,λq=>(XH.mp q).elim au h.2⟩
theorem C7{c:XM}(h:aT σ (c::pr) b):aT σ pr b:=⟨h.1,λq=>h.2 (.tail _ q)⟩
theorem a4.uU(W:a4 G σ pr s)(k:bb s J){c:XM}(au:s.heap.objs.size<=c)(kR:c<J.heap.objs.size):a4 G σ (c::pr) J:=
 (W.keep k).Ke kR (λq=>XN _ (XE (W.lt c (.inl q)) au)) (W.qR au)
  λp ar=>(W.store p ar).mono (λb o q e=>⟨x1 q (Ys (XE (XX e) au)),k.get e⟩) λo e=>k.get e
theorem bu.uU{v:XF}(r:bu (aT σ pr) s.heap v d)(k:bb s J){c:XM}(au:s.heap.objs.size<=c):bu (aT σ (c::pr)) J.heap v d:=
 r.mono λ_ _ p e=>⟨x1 p (Ys (XE (XX e) au)),k.get e⟩
theorem a5.uU{v:List XF}{d:List V}(r:a5 (aT σ pr) s.heap v d)(k:bb s J){c:XM}(au:s.heap.objs.size<=c):a5 (aT σ (c::pr)) J.heap v d:=
 r.mono λ_ _ p e=>⟨x1 p (Ys (XE (XX e) au)),k.get e⟩
theorem qS{np:List XM}(h:aT σ pr b)(H:b∉np):aT σ (np++pr) b:=⟨h.1,λq=>(XY.mp q).elim H h.2⟩
theorem uV{np:List XM}(h:aT σ (np++pr) b):aT σ pr b:=⟨h.1,λq=>h.2 (XQ _ q)⟩
theorem sC{np:List XM}(az:∀b∈np,s.heap.objs.size<=b){o:Obj}(e:s.heap.get? b=some o):b∉np:=λq=>XN _ (XE (XX e) (az b q))
theorem bu.d'{np:List XM}{v:XF}(r:bu (aT σ pr) s.heap v d)(k:bb s J)(az:∀b∈np,s.heap.objs.size<=b):bu (aT σ (np++pr)) J.heap v d:=
 r.mono λ_ _ p e=>⟨qS p (sC az e),k.get e⟩
theorem a5.d'{np:List XM}{v:List XF}{d:List V}(r:a5 (aT σ pr) s.heap v d)(k:bb s J)(az:∀b∈np,s.heap.objs.size<=b):a5 (aT σ (np++pr)) J.heap v d:=
 r.mono λ_ _ p e=>⟨qS p (sC az e),k.get e⟩
theorem bu.ei{np:List XM}{v:XF}(r:bu (aT σ (np++pr)) h v d):bu (aT σ pr) h v d:=r.mono λ_ _ p e=>⟨uV p,e⟩
theorem a5.ei{np:List XM}{v:List XF}{d:List V}(r:a5 (aT σ (np++pr)) h v d):a5 (aT σ pr) h v d:=r.mono λ_ _ p e=>⟨uV p,e⟩
theorem a4.d'(W:a4 G σ pr s)(k:bb s J){np:List XM}(az:∀b∈np,s.heap.objs.size<=b)(jN:∀b∈np,b<J.heap.objs.size):a4 G σ (np++pr) J where
 ok:=W.ok
 base:=λb o e=>k.get (W.base b o e)
 store:=λp ar=>(W.store p ar).mono (λb o q e=>⟨qS q (sC az e),k.get e⟩) λo e=>k.get e
 nodup:=W.nodup
 apart:=λb H q=>(XY.mp q).elim (λq=>XN _ (XE (W.lt b (.inl H)) (az b q))) (W.apart b H)
 lt:=λb H=>H.elim (λH=>XE (W.lt b (.inl H)) k.size) λH=>(XY.mp H).elim (jN b) λH=>XE (W.lt b (.inr H)) k.size
 above:=λb H=>H.elim (λH=>W.above b (.inl H)) λH=>(XY.mp H).elim (λH=>W.qR (az b H)) λH=>W.above b (.inr H)
theorem bu.tail{c:XM}{v:XF}(r:bu (aT σ (c::pr)) h v d):bu (aT σ pr) h v d:=r.mono λ_ _ p e=>⟨C7 p,e⟩
theorem a5.tail{c:XM}{v:List XF}{d:List V}(r:a5 (aT σ (c::pr)) h v d):a5 (aT σ pr) h v d:=r.mono λ_ _ p e=>⟨C7 p,e⟩
structure cs(A:Yz)(k:Nat):Prop where
 depth:A.depth+k<900
 units:A.units+3*k+80<cLine
 handled:A.handled=none
theorem cs.mono{j:Nat}(R:cs A k)(h:j<=k):cs A j:=⟨by have:=R.depth;lia,by have:=R.units;lia,R.handled⟩
theorem cs.in1(R:cs A (k+1)):cs A.in1 k:=⟨by have:=R.depth;simp;lia,by have:=R.units;simp;lia,R.handled⟩
theorem cs.deeper(R:cs A (k+1))(env:Env):cs (A.deeper env) k:=⟨by have:=R.depth;simp[Around.deeper];lia,by have:=R.units;simp;lia,R.handled⟩
theorem cs.limit(R:cs A k):A.depth<ahP:=by have:=R.depth;show _<1000;lia
theorem fK{c:Prop}[Decidable c]{a b:Sem α}{Q:α->XG->Prop}(n:¬c)(h:wpAny M A b Q E s):wpAny M A (if c then a else b) Q E s:=by rw[if_neg n];exact h
theorem pc{c:Prop}[Decidable c]{a b:Sem α}{Q:α->XG->Prop}(n:c)(h:wpAny M A a Q E s):wpAny M A (if c then a else b) Q E s:=by rw[if_pos n];exact h
theorem gL{t:Sem α}{f:α->Sem β}{r:α}{Q:β->XG->Prop}(x:Z_ M s.heap t r)(h:wpAny M A (f r) Q E s):wpAny M A (t >>= f) Q E s:=XA (x.here h)
theorem qT{f:α->β->Sem (ForInStep β)}{a:α}{as:List α}{b:β}{Q:β->XG->Prop}(h:wpAny M A (f a b) (λr J=>∃m4,r=.yield m4/\wpAny M A (forIn as m4 f) Q E J) E s):wpAny M A (forIn (a::as) b f) Q E s:=by
 rw[acM]
 refine XA (Zi h (λr J x=>?_) λ_ _ x=>x)
 refine bB x λm4 aB k=>?_
 subst aB
 exact k
theorem x2{f:α->β->Sem (ForInStep β)}{b:β}{Q:β->XG->Prop}(h:Q b s):wpAny M A (forIn ([]:List α) b f) Q E s:=by rw[List.forIn_nil];exact XK h
noncomputable abbrev bD:=List (Str×V)
structure cT(G:GE)(sc:YI)(env:Env):Prop where
 scope:env.scope=sc
 globals:env.globals=YJ
 builtins:env.builtins=Y6
 kS:∀x,sc.names.lookup x=some .free->env.cells.lookup x=G.cl.lookup x
def uW(P:XM->Prop)(h:Zu)(env:Env)(x:Str)(d:V):Prop:=
 (env.kindOf x=some .local/\∃m v,h.Ns env.locals m/\m x=some v/\bu P h v d)\/
 ((env.kindOf x=some .cell\/env.kindOf x=some .free)/\∃c v,env.cells.lookup x=some c/\h.IsCell c (some v)/\bu P h v d)
structure bg(σ:ba)(pr:List XM)(h:Zu)(env:Env)(Γ:bD):Prop where
 ns:∃m,h.Ns env.locals m
 vars:∀x d,Γ.lookup x=some d->uW (aT σ pr) h env x d
 fL:env.locals∈pr
 d1:∀x c,(x,c)∈env.cells->c∈pr/\c≠env.locals/\∃v,h.IsCell c v
 apart:env.cells.Pairwise λx y=>x.2≠y.2
 fT:∀x,(env.kindOf x=some .cell\/env.kindOf x=some .free)->∃c,env.cells.lookup x=some c
theorem uW.mono{P P':XM->Prop}{x:Str}(aL:∀b o,P b->h.get? b=some o->P' b/\ah.get? b=some o)(cU:∀o,h.get? env.locals=some o->ah.get? env.locals=some o)
  (au:∀c o,env.cells.lookup x=some c->h.get? c=some o->ah.get? c=some o) (B:uW P h env x d):uW P' ah env x d:=by
 rcases B with ⟨a,m,v,n,e,r⟩|⟨a,c,v,e,⟨o,aP,hd⟩,r⟩
 ·obtain⟨o,aZ,kg,aP,q⟩:=n
  exact .inl ⟨a,m,v,⟨o,aZ,kg,cU _ aP,q⟩,e,r.mono aL⟩
 ·exact .inr ⟨a,c,v,e,⟨o,au _ _ e aP,hd⟩,r.mono aL⟩
theorem bg.uX(F:bg σ pr h env Γ)(k:∀b o,h.get? b=some o->ah.get? b=some o):bg σ pr ah env Γ where
 ns:=by obtain⟨m,n⟩:=F.ns;exact⟨m,n.keeps k⟩
 vars:=λx d e=>(F.vars x d e).mono (λb o p e=>⟨p,k b o e⟩) (λo e=>k _ o e) λc o _ e=>k c o e
 fL:=F.fL
 d1:=λx c hm=>by obtain⟨a,b,v,bJ⟩:=F.d1 x c hm;exact⟨a,b,v,bJ.keeps k⟩
 apart:=F.apart
 fT:=F.fT
theorem bg.keep(F:bg σ pr s.heap env Γ)(k:bb s J):bg σ pr J.heap env Γ:=F.uX k.all
theorem bg.sub(F:bg σ pr h env Γ)(aG:∀x d,fo.lookup x=some d->Γ.lookup x=some d):bg σ pr h env fo:=
 ⟨F.ns,λx d e=>F.vars x d (aG x d e),F.fL,F.d1,F.apart,F.fT⟩
def uY(σ:ba)(pr:List XM)(s:XG)(d:V)(Q:XF->XG->Prop):Prop:=∀v J,bb s J->bu (aT σ pr) J.heap v d->Q v J
def Kg(σ:ba)(pr:List XM)(s:XG)(ds:List V)(Q:List XF->XG->Prop):Prop:=∀vs J,bb s J->a5 (aT σ pr) J.heap vs ds->Q vs J
def aN(G:GE)(k:Nat)(sc:YI)(σ:ba)(Γ:bD)(e:Yy)(d:V):Prop:=
 ∀(A:Yz) (env:Env) (pr:List XM) (s:XG) (Q E:XF->XG->Prop),cs A k->cT G sc env->a4 G σ pr s->bg σ pr s.heap env Γ->
  uY σ pr s d Q->wpAny (model G.prog G.w) A (eval e env) Q E s
def gM(G:GE)(k:Nat)(sc:YI)(σ:ba)(Γ:bD)(aZ:List Yy)(ds:List V):Prop:=
 ∀(A:Yz) (env:Env) (pr:List XM) (s:XG) (pos:Pos) (Q:List XF->XG->Prop) (E:XF->XG->Prop),cs A k->cT G sc env->a4 G σ pr s->bg σ pr s.heap env Γ->
  Kg σ pr s ds Q->wpAny (model G.prog G.w) A (spliced (Yw pos (X5 aZ env))) Q E s
def fp(G:GE)(k:Nat)(sc:YI)(σ:ba)(Γ:bD)(e:Yy)(b:Bool):Prop:=
 ∀(A:Yz) (env:Env) (pr:List XM) (s:XG) (Q:Bool->XG->Prop) (E:XF->XG->Prop),cs A k->cT G sc env->a4 G σ pr s->bg σ pr s.heap env Γ->
  (∀J,bb s J->Q b J)->wpAny (model G.prog G.w) A (isTrue e env (eval e env)) Q E s
def pd(G:GE)(k:Nat)(σ:ba)(m:XF->Sem XF)(bZ d:V):Prop:=
 ∀(A:Yz) (pr:List XM) (s:XG) (cN:XF) (Q E:XF->XG->Prop),cs A k->a4 G σ pr s->bu (aT σ pr) s.heap cN bZ->
  uY σ pr s d Q->wpAny (model G.prog G.w) A (m cN) Q E s
def a8(G:GE)(k:Nat)(σ:ba)(m:XF->XF->Sem XF)(bZ d₂ d:V):Prop:=
 ∀(A:Yz) (pr:List XM) (s:XG) (cN d2:XF) (Q E:XF->XG->Prop),cs A k->a4 G σ pr s->bu (aT σ pr) s.heap cN bZ->bu (aT σ pr) s.heap d2 d₂->
  uY σ pr s d Q->wpAny (model G.prog G.w) A (m cN d2) Q E s
def bW(G:GE)(k:Nat)(σ:ba)(f:XF)(ds:List V)(d:V):Prop:=
 ∀(A:Yz) (pr:List XM) (s:XG) (vs:List XF) (Q E:XF->XG->Prop),cs A k->a4 G σ pr s->a5 (aT σ pr) s.heap vs ds->
  uY σ pr s d Q->wpAny (model G.prog G.w) A (call f vs) Q E s
def kh(G:GE)(k:Nat)(σ:ba)(d:V)(b:Bool):Prop:=
 ∀(A:Yz) (pr:List XM) (s:XG) (v:XF) (Q:Bool->XG->Prop) (E:XF->XG->Prop),cs A k->a4 G σ pr s->bu (aT σ pr) s.heap v d->
  (∀J,bb s J->Q b J)->wpAny (model G.prog G.w) A (truthy v) Q E s
section
variable{r:Yy}{pos:Pos}{x:Str}
theorem aN.name(ag:Γ.lookup x=some d)(aL:autoParam (sc.kind=.function) aI)(hd:autoParam ((x==("__debug__":Str))=false) aD)(az:autoParam ((x==("__classdict__":Str))=false) aD):aN G k sc σ Γ (.Name x pos) d:=by
 intro A env pr s Q E R aa W F h
 have iS:env.scope.kind=.function:=by rw[aa.scope];exact aL
 rcases F.vars x d ag with ⟨a,m,v,n,e,r⟩|⟨a|a,c,v,e,au,r⟩
 ·exact ac6 (aaX iS a n e (h v s (.refl _ _) r)) hd
 ·exact ac6 (wpAny_loadName_cell iS a e au (h v s (.refl _ _) r)) hd
 ·exact ac6 (agH iS a e au (h v s (.refl _ _) r) az) hd
theorem aN.glob{v:XF}(hm:G.mg x=some v)(aL:autoParam (sc.kind=.function) aI)(ag:autoParam (sc.names.lookup x=some .globalImplicit) aI)(hd:autoParam ((x==("__debug__":Str))=false) aD):aN G k sc σ Γ (.Name x pos) (.raw v):=by
 intro A env pr s Q E R aa W F h
 refine aau (by rw[aa.scope];exact aL) (by unfold Yh;rw[aa.scope];exact ag) ?_ hd
 refine aec («env»:=env) (mg:=G.mg) ?_ hm (h v s (.refl _ _) (.raw v))
 exact aa.globals▸W.ok.g.keeps W.base
theorem aN.dV{v:XF}(hm:G.mg x=none)(bJ:bootBuiltins x=some v)(b':x≠"__name__")(aL:autoParam (sc.kind=.function) aI)(ag:autoParam (sc.names.lookup x=some .globalImplicit) aI)(hd:autoParam ((x==("__debug__":Str))=false) aD):aN G k sc σ Γ (.Name x pos) (.raw v):=by
 intro A env pr s Q E R aa W F h
 refine aau (by rw[aa.scope];exact aL) (by unfold Yh;rw[aa.scope];exact ag) ?_ hd
 refine ace («env»:=env) (mg:=G.mg) (mb:=G.mb) ?_ hm ?_ ((W.ok.builtins x b').trans bJ) (h v s (.refl _ _) (.raw v))
 ·rw[aa.globals];exact W.ok.g.keeps W.base
 ·rw[aa.builtins];exact W.ok.b.keeps W.base
theorem aN.C8{i:Int}{bt:Nat}:aN G k sc σ Γ (.Constant (.int i) bt pos) (.int i):=by
 intro A env pr s Q E R aa W F h
 exact agX (h _ _ (.tok _) (.int i _))
theorem aN.dx{i:Str}{bt:Nat}:aN G k sc σ Γ (.Constant (.str i) bt pos) (.str i):=by
 intro A env pr s Q E R aa W F h
 exact ZW (h _ _ (.tok _) (.str i _))
theorem aN.m5{i:Bool}{bt:Nat}:aN G k sc σ Γ (.Constant (.bool i) bt pos) (.bool i):=by
 intro A env pr s Q E R aa W F h
 exact wpAny_Constant_bool (h _ _ (.refl _ _) (.bool i))
theorem aN.Wx{bt:Nat}:aN G k sc σ Γ (.Constant .none bt pos) .none:=by
 intro A env pr s Q E R aa W F h
 exact wpAny_Constant_none (h _ _ (.refl _ _) .none)
theorem aN.bin{op:Operator}(O:aN G k sc σ Γ l bZ)(ae:aN G k sc σ Γ r d₂)(a2:a8 G k σ (binaryOp op) bZ d₂ d):aN G k sc σ Γ (.BinOp l op r pos) d:=by
 intro A env pr s Q E R aa W F h
 refine abM (O A env pr s _ _ R aa W F λcN aj ax a0=>ae A env pr aj _ _ R aa (W.keep ax) (F.keep ax) λd2 ao aM bG=>?_)
 exact a2 A pr ao cN d2 _ _ R ((W.keep ax).keep aM) (a0.keep aM) bG λv J bN bV=>h v J ((ax.trans aM).trans bN) bV
theorem aN.un{op:UnaryOp}(O:aN G k sc σ Γ l bZ)(a2:pd G k σ (unaryOp op) bZ d):aN G k sc σ Γ (.UnaryOp op l pos) d:=by
 intro A env pr s Q E R aa W F h
 refine wpAny_UnaryOp (O A env pr s _ _ R aa W F λcN aj ax a0=>?_)
 exact a2 A pr aj cN _ _ R (W.keep ax) a0 λv J bN bV=>h v J (ax.trans bN) bV
theorem aN.cmp{op:CmpOp}(O:aN G k sc σ Γ l bZ)(ae:aN G k sc σ Γ r d₂)(a2:a8 G k σ (compareOp op) bZ d₂ d)(hm:autoParam (behindInMarks op r=false) aD):aN G k sc σ Γ (.Compare l [op] [r] pos) d:=by
 intro A env pr s Q E R aa W F h
 refine wpAny_Compare1 (O A env pr s _ _ R aa W F λcN aj ax a0=>ae A env pr aj _ _ R aa (W.keep ax) (F.keep ax) λd2 ao aM bG=>?_) hm
 exact a2 A pr ao cN d2 _ _ R ((W.keep ax).keep aM) (a0.keep aM) bG λv J bN bV=>h v J ((ax.trans aM).trans bN) bV
theorem fp.cmp{op:CmpOp}{b:Bool}(O:aN G k sc σ Γ l bZ)(ae:aN G k sc σ Γ r d₂)(a2:a8 G k σ (compareOp op) bZ d₂ (.bool b))(hm:autoParam (behindInMarks op r=false) aD):fp G k sc σ Γ (.Compare l [op] [r] pos) b:=by
 intro A env pr s Q E R aa W F h
 refine af9 (O A env pr s _ _ R aa W F λcN aj ax a0=>ae A env pr aj _ _ R aa (W.keep ax) (F.keep ax) λd2 ao aM bG=>?_) hm
 refine a2 A pr ao cN d2 _ _ R ((W.keep ax).keep aM) (a0.keep aM) bG λv J bN bV=>?_
 cases bV
 exact aaP (h J ((ax.trans aM).trans bN))
theorem fp.not{b:Bool}(O:fp G k sc σ Γ l b):fp G k sc σ Γ (.UnaryOp .Not l pos) (!b):=by
 intro A env pr s Q E R aa W F h
 exact wpAny_isTrue_Not (O A env pr s _ _ R aa W F h)
theorem fp.val{b:Bool}(O:aN G k sc σ Γ e d)(a_:kh G k σ d b)(he:autoParam (∀env uZ,isTrue e env uZ=(do let v <-uZ;standAt e.pos;holding [v] (truthy v))) aI):fp G k sc σ Γ e b:=by
 intro A env pr s Q E R aa W F h
 refine wpAny_isTrue_value (O A env pr s _ _ R aa W F λcN aj ax a0=>?_) (he _ _)
 exact a_ A pr aj cN _ _ R (W.keep ax) a0 λJ bN=>h J (ax.trans bN)
theorem fp.and_nil:fp G k sc σ Γ (.BoolOp .And [] pos) true:=by
 intro A env pr s Q E R aa W F h
 exact ab3 (wpAny_allTrue_And_nil (h s (.refl _ _)))
theorem fp.or_nil:fp G k sc σ Γ (.BoolOp .Or [] pos) false:=by
 intro A env pr s Q E R aa W F h
 exact ab3 (wpAny_allTrue_Or_nil (h s (.refl _ _)))
theorem fp.and{b m4:Bool}{bS:List Yy}(O:fp G k sc σ Γ e b)(ae:b=true->fp G k sc σ Γ (.BoolOp .And bS pos) m4):fp G k sc σ Γ (.BoolOp .And (e::bS) pos) (b&&m4):=by
 intro A env pr s Q E R aa W F h
 refine ab3 (wpAny_allTrue_And_cons (O A env pr s _ _ R aa W F λaj ax=>?_))
 cases b with
 |false=>exact h aj ax
 |true=>
  have:=ae rfl A env pr aj Q E R aa (W.keep ax) (F.keep ax) λao aM=>h ao (ax.trans aM)
  rw[ag7]at this
  exact this
theorem fp.or{b m4:Bool}{bS:List Yy}(O:fp G k sc σ Γ e b)(ae:b=false->fp G k sc σ Γ (.BoolOp .Or bS pos) m4):fp G k sc σ Γ (.BoolOp .Or (e::bS) pos) (b||m4):=by
 intro A env pr s Q E R aa W F h
 refine ab3 (wpAny_allTrue_Or_cons (O A env pr s _ _ R aa W F λaj ax=>?_))
 cases b with
 |true=>exact h aj ax
 |false=>
  have:=ae rfl A env pr aj Q E R aa (W.keep ax) (F.keep ax) λao aM=>h ao (ax.trans aM)
  rw[ag7]at this
  exact this
theorem aN.il{b:Bool}(O:fp G k sc σ Γ e b)(ae:b=true->aN G k sc σ Γ l bZ)(a2:b=false->aN G k sc σ Γ r d₂):aN G k sc σ Γ (.IfExp e l r pos) (bif b then bZ else d₂):=by
 intro A env pr s Q E R aa W F h
 refine agn (O A env pr s _ _ R aa W F λaj ax=>?_)
 cases b with
 |true=>exact ae rfl A env pr aj _ _ R aa (W.keep ax) (F.keep ax) λv J bN bV=>h v J (ax.trans bN) bV
 |false=>exact a2 rfl A env pr aj _ _ R aa (W.keep ax) (F.keep ax) λv J bN bV=>h v J (ax.trans bN) bV
theorem aN.pe{b:Bool}(O:aN G k sc σ Γ l bZ)(a_:kh G k σ bZ b)(ae:b=true->aN G k sc σ Γ r d₂):aN G k sc σ Γ (.BoolOp .And [l,r] pos) (bif b then d₂ else bZ):=by
 intro A env pr s Q E R aa W F h
 refine wpAny_And2 (O A env pr s _ _ R aa W F λcN aj ax a0=>a_ A pr aj cN _ _ R (W.keep ax) a0 λao aM=>?_)
 cases b with
 |true=>exact ae rfl A env pr ao _ _ R aa ((W.keep ax).keep aM) ((F.keep ax).keep aM) λv J bN bV=>h v J ((ax.trans aM).trans bN) bV
 |false=>exact h cN ao (ax.trans aM) (a0.keep aM)
theorem aN.Kh{b:Bool}(O:aN G k sc σ Γ l bZ)(a_:kh G k σ bZ b)(ae:b=false->aN G k sc σ Γ r d₂):aN G k sc σ Γ (.BoolOp .Or [l,r] pos) (bif b then bZ else d₂):=by
 intro A env pr s Q E R aa W F h
 refine wpAny_Or2 (O A env pr s _ _ R aa W F λcN aj ax a0=>a_ A pr aj cN _ _ R (W.keep ax) a0 λao aM=>?_)
 cases b with
 |false=>exact ae rfl A env pr ao _ _ R aa ((W.keep ax).keep aM) ((F.keep ax).keep aM) λv J bN bV=>h v J ((ax.trans aM).trans bN) bV
 |true=>exact h cN ao (ax.trans aM) (a0.keep aM)
theorem aN.to(h:aN G k sc σ Γ e d)(hd:d=dM):aN G k sc σ Γ e dM:=hd▸h
theorem aN.room{j:Nat}(h:aN G k sc σ Γ e d)(bq:k<=j):aN G j sc σ Γ e d:=λA env pr s Q E R=>h A env pr s Q E (R.mono bq)
theorem gM.nil:gM G k sc σ Γ [] []:=by
 intro A env pr s pos Q E R aa W F h
 exact Zc (h [] s (.refl _ _) .nil)
theorem gM.cons(O:aN G k sc σ Γ e d)(ae:gM G k sc σ Γ aZ ds)(he:autoParam (dU e aZ) aI):gM G k sc σ Γ (e::aZ) (d::ds):=by
 intro A env pr s pos Q E R aa W F h
 refine YE (O A env pr s _ _ R aa W F λcN aj ax a0=>ae A env pr aj pos _ _ R aa (W.keep ax) (F.keep ax) λvs ao aM bG=>?_) (he _)
 exact h (cN::vs) ao (ax.trans aM) (.cons (a0.keep aM) bG)
theorem aN.tuple{bt:Nat}(O:gM G k sc σ Γ aZ ds)(hsz:ds.length<=YD):aN G k sc σ Γ (.Tuple aZ bt pos) (.tuple ds):=by
 intro A env pr s Q E R aa W F h
 refine aeB (O A env pr s pos _ _ R aa W F λvs aj ax a0=>⟨by rw[a0.length];exact hsz,?_⟩)
 have bx:bb aj {aj with heap:=aj.heap.push {cls:=.type "tuple",data:=.seq vs.toArray}}:=.push _ aj.toks
 exact h _ _ (ax.trans bx) (.tuple (n:=0) (XU _ rfl) ((W.keep ax).gs (XT _)) (a0.keep bx))
theorem aN.list(O:gM G k sc σ Γ aZ ds)(hsz:ds.length<=YD):aN G k sc σ Γ (.List aZ pos) (.list ds):=by
 intro A env pr s Q E R aa W F h
 refine agW (O A env pr s pos _ _ R aa W F λvs aj ax a0=>⟨by rw[a0.length];exact hsz,?_⟩)
 have bx:bb aj {aj with heap:=aj.heap.push {cls:=.type "list",data:=.seq vs.toArray}}:=.push _ aj.toks
 exact h _ _ (ax.trans bx) (.list (n:=0) (XU _ rfl) ((W.keep ax).gs (XT _)) (a0.keep bx))
end
theorem C9{Γ:Ctx}{t:Sem Fin}{mm:List Frame}{e:End}(h:Runs M Γ p t mm s e J):s.heap.objs.size<=J.heap.objs.size:=by
 induction h<;>(try simp only[Shared.setGen,Yk,Heap.size_after_update]at *)<;>lia
theorem Ki{Γ:Ctx}{r:aaB}(h:Returns M Γ p s r J):s.heap.objs.size<=J.heap.objs.size:=C9 h
theorem Kj{A B P:Prop}{C:XF->Prop}{r:Resume}(ef:A->P)(ea:B->P)(br:∀x,C x->P):(match r with | .send .none=>A | .send _=>B | .throw x=>C x)->P:=by
 cases r with
 |send v=>cases v<;>first|exact ea|exact ef
 |throw x=>exact br x
theorem Kk{P R D:Prop}{o:Option aaI}{F:Code->Prop}{S:(Resume->Sem Fin)->List XF->Code->Pos->List Frame->Bool->Prop}(iT:∀c,F c->P)(ki:∀a b c d e f,S a b c d e f->P)(dT:R->P)(eY:D->P):
  (match o with|none=>False|some (.fresh c)=>F c|some (.suspended a b c d e f)=>S a b c d e f|some .running=>R|some .finished=>D)->P:=by
 cases o with
 |none=>exact aek
 |some st=>cases st with
  |fresh c=>exact iT c
  |suspended=>exact ki _ _ _ _ _ _
  |running=>exact dT
  |finished=>exact eY
theorem Kl{Γ:Ctx}{r:Resume}{res:GenResult}(h:Wakes M Γ p g r s res J):s.heap.objs.size<=J.heap.objs.size:=by
 have z:∀{q:Prop},q/\J=s->s.heap.objs.size<=J.heap.objs.size:=λe=>Yg (congrArg (·.heap.objs.size) e.2.symm)
 have x:∀{q:Prop},q/\J=s.setGen g .finished->s.heap.objs.size<=J.heap.objs.size:=λh=>h.2.symm▸XT _
 have y:∀{Γ p t mm},(∃sD aj,Runs M Γ p t mm (s.setGen g .running) sD aj/\sD.quiet=true/\res=sD.result/\J=aj.setGen g sD.genState)->s.heap.objs.size<=J.heap.objs.size:=λh=>by
  obtain⟨sD,aj,ai,_,_,rfl⟩:=h;exact(C9 ai:(s.setGen g .running).heap.objs.size<=aj.heap.objs.size)
 exact Kk (λc=>Kj y z λ_=>x) (λ_ _ _ _ _ _=>y) z z h
theorem C_(M:Model)(Γ:Ctx)(n:Nat)(t:Sem α):∀(Q:α->Pos->XG->Prop) (E:XF->Pos->XG->Prop) (p:Pos) (s:XG),n<=s.heap.objs.size->ag0 M Γ t Q E p s->
  ag0 M Γ t (λa dK J=>n<=J.heap.objs.size/\Q a dK J) (λe dK J=>n<=J.heap.objs.size/\E e dK J) p s:=by
 induction t with
 |pure a=>intro Q E p s az h;exact⟨az,h⟩
 |raise e=>intro Q E p s az h;exact⟨az,h⟩
 |unsupported _=>intro Q E p s _ h;exact h
 |finish _=>intro Q E p s _ h;exact h
 |rule _ k ih=>intro Q E p s az h;exact ih () Q E p s az h
 | «at» dK k ih=>intro Q E p s az h;exact ih () Q E dK s az h
 |load a _ k ih=>intro Q E p s az h;obtain⟨o,aP,h⟩:=h;exact⟨o,aP,ih o Q E p s az h⟩
 |update a _ f k ih=>intro Q E p s az h;exact⟨h.1,ih () Q E p _ (by simpa using az) h.2⟩
 |loadIfAlive a k ih=>intro Q E p s az h;exact ih _ Q E p s az h
 |point _ k ih=>intro Q E p s az h;exact ih () Q E p s az h
 |register _ _=>intro Q E p s _ h;exact h
 |alloc o k ih=>intro Q E p s az h;exact ih _ Q E p _ (by simp;exact xB) h
 |fresh k ih=>intro Q E p s az h;exact ih _ Q E p _ az h
 |ask k ih=>intro Q E p s az h;exact ih _ Q E p s az h
 |choose bY m k ih=>intro Q E p s az h;exact⟨h.1,ih _ Q E p _ az h.2⟩
 |os q _ k ih=>intro Q E p s az h;exact ih _ Q E p _ az h
 |call c hd _ _ k ih=>intro Q E p s az h;obtain⟨r,J,ai,h⟩:=h;exact⟨r,J,ai,ih r Q E p J (XC az (Ki ai)) h⟩
 |handled own k ih=>intro Q E p s az h;exact ih _ Q E p s az h
 |genState g k ih=>intro Q E p s az h;obtain⟨st,aG,h⟩:=h;exact⟨st,aG,ih _ Q E p s az h⟩
 |newGen c k ih=>intro Q E p s az h;exact ih _ Q E p _ az h
 |resume g r _ k ih=>intro Q E p s az h;obtain⟨res,J,bz,h⟩:=h;exact⟨res,J,bz,ih res Q E p J (XC az (Kl bz)) h⟩
 |yield _ _ _ _=>intro Q E p s _ h;exact h
 |stack k ih=>intro Q E p s az h;exact ih _ Q E p s az h
 |fork _ _=>intro Q E p s _ h;exact h
 |thread k ih=>intro Q E p s az h;exact ih _ Q E p s az h
 |await _ _ _ _ _=>intro Q E p s _ h;exact h
theorem jO{t:Sem α}{Q:α->XG->Prop}
  (h:wpAny M A t (λa J=>s.heap.objs.size<=J.heap.objs.size->Q a J) E s):wpAny M A t Q E s:=λΓ p c6=>
 aa6 M Γ t (λa dK J x=>x.2 x.1) (λe dK J x=>x.2) p s (C_ M Γ _ t _ _ p s (XT _) (h Γ p c6))
structure g9(G:GE)(A:Yz)(σ:ba)(ew:Yy)(wr bY:List XM)(aa:XM)(St:(XM->Prop)->Zu->List V->Prop):Prop where
 mono:∀P P' h ah ds,St P h ds->(∀b o,P b->h.get? b=some o->P' b/\ah.get? b=some o)->(∀b o,(b∈wr\/b∈bY)->h.get? b=some o->ah.get? b=some o)->St P' ah ds
 next:∀pr s (Q:Option XF->XG->Prop) E d ds,a4 G σ pr s->(∀b∈wr,b∈pr)->St (aT σ pr) s.heap (d::ds)->
  (∀v J,KB (·∈wr) s J->bu (aT σ pr) J.heap v d->(∀(bX:Unit->XG->Prop) cI,(∀dn,KB (·∈wr) J dn->St (aT σ pr) dn.heap ds->bX () dn)->wpAny (model G.prog G.w) A (letOwnedTupleGo ew (.ref aa) v) bX cI J)->Q (some v) J)->
  wpAny (model G.prog G.w) A (pyNext (.ref aa)) Q E s
 done:∀pr s (Q:Option XF->XG->Prop) E,a4 G σ pr s->St (aT σ pr) s.heap []->(∀J,KB (·∈wr) s J->Q none J)->wpAny (model G.prog G.w) A (pyNext (.ref aa)) Q E s
 self:∀P s (Q:XF->XG->Prop) E ds,St P s.heap ds->Q (.ref aa) s->wpAny (model G.prog G.w) A (pyIter (.ref aa)) Q E s
theorem KB.sameBut(aG:aac a s.heap ah)(aY:a∈wr):KB (·∈wr) s {s with heap:=ah,toks:=t}:=
 ⟨λb o H e=>(aG.2 b (λq=>H (q▸aY))).trans e,by rw[aG.1];exact XT _,rfl,.refl _⟩
theorem KB.hr{C:XM->Prop}(aG:aac a s.heap ah)(aY:C a):KB C s {s with heap:=ah,toks:=t}:=
 ⟨λb o H e=>(aG.2 b (λq=>H (q▸aY))).trans e,by rw[aG.1];exact XT _,rfl,.refl _⟩
theorem KB.extBut(aG:ahr a s.heap ah)(aY:a∈wr)(hz:s.heap.objs.size<=ah.objs.size):KB (·∈wr) s {s with heap:=ah,toks:=t}:=
 ⟨λb o H e=>aG b o (λq=>H (q▸aY)) e,hz,rfl,.refl _⟩
theorem bu.aJ{C:XM->Prop}{v:XF}(r:bu (aT σ pr) s.heap v d)(k:KB C s J)(br:∀b,C b->¬aT σ pr b):bu (aT σ pr) J.heap v d:=
 r.mono λb o p e=>⟨p,k.keep b o (λq=>br b q p) e⟩
theorem a5.aJ{C:XM->Prop}{v:List XF}{d:List V}(r:a5 (aT σ pr) s.heap v d)(k:KB C s J)(br:∀b,C b->¬aT σ pr b):a5 (aT σ pr) J.heap v d:=
 r.mono λb o p e=>⟨p,k.keep b o (λq=>br b q p) e⟩
theorem a4.aJ{C:XM->Prop}(W:a4 G σ pr s)(k:KB C s J)(br:∀b,C b->b∈pr):a4 G σ pr J where
 ok:=W.ok
 base:=λb o e=>k.keep b o (λq=>by rw[W.above b (.inr (br b q))]at e;cases e) (W.base b o e)
 store:=λp ar=>(W.store p ar).mono (λb o q e=>⟨q,k.keep b o (λc=>q.2 (br b c)) e⟩) λo e=>k.keep _ o (λc=>W.apart _ (YA ar) (br _ c)) e
 nodup:=W.nodup
 apart:=W.apart
 lt:=λb H=>XE (W.lt b H) k.size
 above:=W.above
inductive x3(aa a:XM)(P:XM->Prop)(h:Zu)(ds:List V):Prop
 |mk (vs:List XF) (i:Nat) (aq:h.IsListIter aa a i) (aw:h.IsList a vs.toArray) (r:a5 P h (vs.drop i) ds)
theorem C'{aa:XM}(b':a≠aa)(bK:A.handled=none)(x4:∀v s (Q:Unit->XG->Prop) E i,s.heap.IsListIter aa a i->Q () s->wpAny (model G.prog G.w) A (letOwnedTupleGo ew (.ref aa) v) Q E s):g9 G A σ ew [aa] [a] aa (x3 aa a) where
 mono:=λP P' h ah ds aG aL bz=>by
  cases aG with|mk vs i aq aw r=>
  exact⟨vs,i,by obtain⟨o,e,q⟩:=aq;exact⟨o,bz aa o (.inl (.head _)) e,q⟩,by obtain⟨o,e,q⟩:=aw;exact⟨o,bz a o (.inr (.head _)) e,q⟩,r.mono aL⟩
 next:=λpr s Q E d ds W cH aG aA=>by
  cases aG with|mk vs i aq aw r=>
  have es:¬aT σ pr aa:=λq=>q.2 (cH aa (.head _))
  generalize e:vs.drop i=ws at r
  refine gI r.jL λ_ _ aB hd ai=>?_
  subst aB
  rename_i v ws
  refine wpAny_pyNext_list_item aq aw (x:=v) (by simpa using(by rw[<-ad',e];rfl)) λah kT c1=>?_
  have k:KB (·∈[aa]) s {s with heap:=ah}:=.sameBut c1 (.head _)
  have br:∀b,b∈[aa]->¬aT σ pr b:=λb H=>by rcases XD.mp H with rfl;exact es
  refine aA v {s with heap:=ah} k (hd.aJ k br) λbX cI aR=>x4 v _ _ _ _ kT (aR _ (.refl _ _) ⟨vs,i+1,kT,aw.extBut c1.extBut b',?_⟩)
  rw[(show vs.drop (i+1)=ws from by rw[<-aeq,e];rfl)]
  exact ai.aJ k br
 done:=λpr s Q E W aG aA=>by
  cases aG with|mk vs i aq aw r=>
  have az:vs[i]?=none:=by
   generalize e:vs.drop i=ws at r
   cases r
   have:=congrArg aaO e
   simp at this
   exact X8 xH
  refine jO (wpAny_pyNext_list_end bK aq aw (by simpa using az) λah he hz=>?_)
  exact aA _ (.extBut he (.head _) hz)
 self:=λP s Q E ds aG aA=>by
  cases aG with|mk vs i aq aw r=>
  exact af8 aq aA
theorem sE{aa:XM}{x:Str}{v:XF}{Q:Unit->XG->Prop}(h:Q () s):wpAny (model G.prog G.w) A (letOwnedTupleGo (.Name x p) (.ref aa) v) Q E s:=XK h
theorem Km{aa l:XM}{i:Nat}{iU:List Yy}{x:Nat}{v:XF}{Q:Unit->XG->Prop}(aq:s.heap.IsListIter aa l i)(h:Q () s):wpAny (model G.prog G.w) A (letOwnedTupleGo (.Tuple iU x p) (.ref aa) v) Q E s:=by
 cases v with
 |ref T=>
  refine bC λ_ a'=>?_
  obtain⟨o,aP,au,hd⟩:=aq
  refine a' ?_
  refine XA (acd aP ?_)
  rw[au,hd]
  exact XK h
 |_=>exact XK h
inductive Dc(aa:XM)(P:XM->Prop)(h:Zu)(ds:List V):Prop
 |mk (x:Int) (aq:IsRangeIter h aa x ds.length 1) (r:ds=(XO ds.length).map λ(i:Nat)=>V.int (x+(i:Int)))
theorem Kn{aa:XM}(bK:A.handled=none){x:Str}:g9 G A σ (.Name x p) [aa] [] aa (Dc aa) where
 mono:=λP P' h ah ds aG aL bz=>by
  cases aG with|mk x aq r=>
  exact⟨x,bz aa _ (.inl (.head _)) aq,r⟩
 next:=λpr s Q E d ds W cH aG aA=>by
  cases aG with|mk x aq r=>
  refine afE aq (by simp) λah kT c1=>?_
  rw[Yi,Z',Yb,X_]at r
  injection r with bO dq
  refine aA _ {s with heap:=ah,toks:=s.toks+1} (.sameBut c1 (.head _)) (by rw[bO];simpa using bu.int x _) λbX cI aR=>sE (aR _ (.refl _ _) ⟨x+1,?_,?_⟩)
  ·rw[(show((d::ds).length:Int)-1=(ds.length:Int)from by simp)]at kT
   exact kT
  ·conv=>lhs;rw[dq]
   refine Yf λi _=>?_
   simp only[abU]
   congr 1
   lia
 done:=λpr s Q E W aG aA=>by
  cases aG with|mk x aq r=>
  refine jO (afQ bK aq aH λah he hz=>?_)
  exact aA _ (.extBut he (.head _) hz)
 self:=λP s Q E ds aG aA=>by
  cases aG with|mk x aq r=>
  exact afR aq aA
inductive x5(e aa a:XM)(P:XM->Prop)(h:Zu)(ds:List V):Prop
 |mk (vs:List XF) (i:Nat) (old:XF) (aZ:List V) (he:IsEnum h e aa i old) (aq:h.IsListIter aa a i) (aw:h.IsList a vs.toArray) (r:a5 P h (vs.drop i) aZ) (q:ds=aZ.zipIdx.map λp=>V.tuple [.int ((i:Int)+(p.2:Int)),p.1])
theorem Dd{e aa:XM}(b':a≠aa)(De:a≠e)(Df:e≠aa)(bK:A.handled=none){iU:List Yy}{er:Nat}:g9 G A σ (.Tuple iU er p) [e,aa] [a] e (x5 e aa a) where
 mono:=λP P' h ah ds aG aL bz=>by
  cases aG with|mk vs i old aZ he aq aw r q=>
  exact⟨vs,i,old,aZ,bz e _ (.inl (.head _)) he,by obtain⟨o,e,q⟩:=aq;exact⟨o,bz aa o (.inl (.tail _ (.head _))) e,q⟩,by obtain⟨o,e,q⟩:=aw;exact⟨o,bz a o (.inr (.head _)) e,q⟩,r.mono aL,q⟩
 next:=λpr s Q E d ds W cH aG aA=>by
  cases aG with|mk vs i old aZ he aq aw r q=>
  have br:∀b,b∈[e,aa]->¬aT σ pr b:=λb H q=>q.2 (cH b H)
  generalize Dg:vs.drop i=ws at r
  cases r with
  |nil=>simp at q
  |cons hd ai=>
   rename_i v ws dM aZ
   have Ko:vs.drop (i+1)=ws:=by rw[<-aeq,Dg];rfl
   rw[List.zipIdx_cons,Yb]at q
   injection q with cV dN
   refine wpAny_pyNext_enum_item he aq aw (x:=v) (by simpa using(by rw[<-ad',Dg];rfl)) Df λah gY eQ a_ hz aL=>?_
   have k:KB (·∈[e,aa]) s {s with heap:=ah,toks:=s.toks+1}:=⟨λb o H x=>aL b o (λq=>H (by simp[q])) (λq=>H (by simp[q])) x,by simp[hz],rfl,.refl _⟩
   have aU:=W.gs (XT _)
   have Wy:=λb o x H=>k.keep b o H x
   refine aA _ {s with heap:=ah,toks:=s.toks+1} k ?_ λbX cI aR=>?_
   ·simp only[cV]
    refine .tuple (vs:=[.int i s.toks,v]) (n:=0) a_ aU ?_
    exact .cons (by simpa using bu.int (i:Int) s.toks) (.cons (hd.aJ k br) .nil)
   ·refine wpAny_letOwnedTupleGo_enum gY λjl pf qU=>?_
    have k2:KB (·∈[e,aa]) {s with heap:=ah,toks:=s.toks+1} {s with heap:=jl,toks:=s.toks+1}:=.sameBut qU (.head _)
    refine aR _ k2 ⟨vs,i+1,_,aZ,by simpa using pf,eQ.extBut qU.extBut (agt Df),?_,?_,?_⟩
    ·refine bC λ_ a'=>?_
     obtain⟨o,a3,q⟩:=aw
     refine a' ?_
     exact⟨o,qU.extBut _ _ De (aL _ _ De b' a3),q⟩
    ·rw[Ko];exact(ai.aJ k br).aJ k2 br
    ·rw[dN,List.zipIdx_succ,X_]
     refine Yf λy _=>?_
     obtain⟨iV,iW⟩:=y
     simp only[abU]
     congr 2
     congr 1
     push_cast
     lia
 done:=λpr s Q E W aG aA=>by
  cases aG with|mk vs i old aZ he aq aw r q=>
  have x6:aZ=[]:=by
   have:=congrArg aaO q
   simpa using this.symm
  subst x6
  have az:vs[i]?=none:=by
   generalize e:vs.drop i=ws at r
   cases r
   have:=congrArg aaO e
   simp at this
   exact X8 xH
  refine jO (wpAny_pyNext_enum_end bK he aq aw (by simpa using az) λah he hz=>?_)
  exact aA _ (.extBut he (.tail _ (.head _)) hz)
 self:=λP s Q E ds aG aA=>by
  cases aG with|mk vs i old aZ he aq aw r q=>
  exact ag4 he aA
def b0(env:Env)(b:XM):Prop:=b=env.locals\/∃x,(x,b)∈env.cells
section
theorem bg.c'(F:bg σ pr h env Γ):∀b,b0 env b->b∈pr:=λb H=>by
 rcases H with rfl|⟨x,ag⟩
 ·exact F.fL
 ·exact(F.d1 x b ag).1
theorem bg.hW(F:bg σ pr h env Γ):∀b,b0 env b->¬aT σ pr b:=λb H q=>q.2 (F.c' b H)
def hX(env:Env)(xs:List Str)(b:XM):Prop:=b=env.locals\/∃x,x∈xs/\env.cells.lookup x=some b
theorem hX.b0(h:hX env xs b):b0 env b:=h.imp_right λq=>bB q λx _ ag=>⟨x,mem_of_lookup ag⟩
theorem hX.mono{ys:List Str}(h:hX env xs b)(aG:∀x∈xs,x∈ys):hX env ys b:=h.imp_right λq=>bB q λx hm ag=>⟨x,aG x hm,ag⟩
theorem kU{x:Str}{d:α}{Γ:List (Str×α)}(h:y≠x):((x,d)::Γ).lookup y=Γ.lookup y:=by
 simp only[adS]
 rw[(show(y==x)=false from by simpa using h)]
theorem kV{x:Str}{d:α}{Γ:List (Str×α)}:((x,d)::Γ).lookup x=some d:=by
 rw[adS];simp
theorem Kp{m gu:Str->Option XF}(x:h.Ns a m)(y:h.Ns a gu):m=gu:=by
 refine bC λ_ a'=>?_
 obtain⟨lC,Wz,WA,O,hY,k1,f1⟩:=x
 obtain⟨mn,WB,WC,ae,kW,k2,f2⟩:=y
 refine a' ?_
 obtain rfl:=YW (O.symm.trans ae)
 obtain⟨rfl,_⟩:=Data.dict.inj (hY.symm.trans kW)
 exact funext λz=>(f1 z).symm.trans (f2 z)
theorem lD{x:Str}{v:XF}{Q:Unit->XG->Prop}(aL:env.scope.kind=.function)(ag:env.kindOf x=some .local\/env.kindOf x=some .cell)
  (F:bg σ pr s.heap env Γ) (r:bu (aT σ pr) s.heap v d) (h:∀J,KB (hX env [x]) s J->bg σ pr J.heap env ((x,d)::Γ)->Q () J):wpAny (model G.prog G.w) A (storeName env x v) Q E s:=by
 have dy:∀b,hX env [x] b->¬aT σ pr b:=λb H=>F.hW b H.b0
 obtain⟨m,hm⟩:=F.ns
 rcases ag with ag|ag
 ·refine af7 ag hm (λah az aG=>?_) (by rw[aL];rfl)
  have k:KB (hX env [x]) s {s with heap:=ah,toks:=s.toks+1}:=.hr aG (.inl rfl)
  refine h _ k ⟨⟨_,az⟩,λy e m6=>?_,F.fL,λy c au=>?_,F.apart,F.fT⟩
  ·by_cases bk:y=x
   ·subst bk
    cases kV.symm.trans m6
    exact .inl ⟨ag,_,v,az,by simp,r.aJ k dy⟩
   ·rw[kU bk]at m6
    rcases F.vars y e m6 with ⟨a,gu,kj,kk,b8,bV⟩|⟨a,c,kj,b8,au,bV⟩
    ·obtain rfl:gu=m:=Kp kk hm
     exact .inl ⟨a,_,kj,az,by simp[bk,b8],bV.aJ k dy⟩
    ·exact .inr ⟨a,c,kj,b8,au.sameBut aG ((F.d1 y c (mem_of_lookup b8)).2.1),bV.aJ k dy⟩
  ·refine bC λ_ a'=>?_
   obtain⟨a,b,kj,bJ⟩:=F.d1 y c au
   refine a' ?_
   exact⟨a,b,kj,bJ.sameBut aG b⟩
 ·refine cS (F.fT x (.inl ag)) λc au=>?_
  have Dh:=mem_of_lookup au
  obtain⟨_,Di,WD,Kq⟩:=F.d1 x c Dh
  refine wpAny_storeName_cell aL ag au Kq λah bJ aG=>?_
  have k:KB (hX env [x]) s {s with heap:=ah}:=.hr aG (.inr ⟨x,.head _,au⟩)
  refine h _ k ⟨⟨m,hm.sameBut aG (agt Di)⟩,λy e m6=>?_,F.fL,λy cq kR=>?_,F.apart,F.fT⟩
  ·by_cases bk:y=x
   ·subst bk
    replace m6:=kV▸m6;cases m6
    exact .inr ⟨.inl ag,c,v,au,bJ,r.aJ k dy⟩
   ·rw[kU bk]at m6
    rcases F.vars y e m6 with ⟨a,gu,kj,kk,b8,bV⟩|⟨a,cq,kj,b8,kR,bV⟩
    ·exact .inl ⟨a,gu,kj,kk.sameBut aG (agt Di),b8,bV.aJ k dy⟩
    ·refine .inr ⟨a,cq,kj,b8,kR.sameBut aG (λq=>?_),bV.aJ k dy⟩
     subst q
     exact bk (name_of_addr F.apart (mem_of_lookup b8) Dh)
  ·obtain⟨a,b,kj,pg⟩:=F.d1 y cq kR
   by_cases q:cq=c
   ·subst q;exact⟨a,b,_,bJ⟩
   ·exact⟨a,b,kj,pg.sameBut aG q⟩
def hH(G:GE)(k:Nat)(sc:YI)(σ:ba)(ew:Yy)(d:V)(Γ fo:bD)(xs:List Str):Prop:=
 ∀(A:Yz) (env:Env) (pr:List XM) (s:XG) (v:XF) (Q:Unit->XG->Prop) (E:XF->XG->Prop),cs A k->cT G sc env->a4 G σ pr s->bg σ pr s.heap env Γ->bu (aT σ pr) s.heap v d->
  (∀J,KB (hX env xs) s J->bg σ pr J.heap env fo->Q () J)->wpAny (model G.prog G.w) A (assign ew env v) Q E s
def qV(G:GE)(k:Nat)(sc:YI)(σ:ba)(cG:List Yy)(ds:List V)(Γ fo:bD)(xs:List Str):Prop:=
 ∀(A:Yz) (env:Env) (pr:List XM) (s:XG) (vs:List XF) (Q:Unit->XG->Prop) (E:XF->XG->Prop),cs A k->cT G sc env->a4 G σ pr s->bg σ pr s.heap env Γ->a5 (aT σ pr) s.heap vs ds->
  (∀J,KB (hX env xs) s J->bg σ pr J.heap env fo->Q () J)->wpAny (model G.prog G.w) A (assignInOrder ((assignEach cG env).map (·.2)) vs) Q E s
variable{x:Str}{pos:Pos}
theorem hH.name(ag:autoParam (sc.names.lookup x=some .local\/sc.names.lookup x=some .cell) aF)(aL:autoParam (sc.kind=.function) aI):hH G k sc σ (.Name x pos) d Γ ((x,d)::Γ) [x]:=by
 intro A env pr s v Q E R aa W F r h
 refine aeb (lD (by rw[aa.scope];exact aL) ?_ F r h)
 unfold Yh;rw[aa.scope];exact ag
theorem qV.nil:qV G k sc σ [] [] Γ Γ []:=by
 intro A env pr s vs Q E R aa W F r h
 obtain rfl:=r.m2
 exact XK (h s (.refl _ _) F)
theorem qV.cons{t:Yy}{cG:List Yy}{ey:bD}{ys:List Str}(O:hH G k sc σ t d Γ Γ₁ xs)(ae:qV G k sc σ cG ds Γ₁ ey ys)(aG:autoParam (∀env,assignEach (t::cG) env=(false,assign t env)::assignEach cG env) aI):qV G k sc σ (t::cG) (d::ds) Γ ey (xs++ys):=by
 intro A env pr s vs Q E R aa W F r h
 obtain⟨_,_,rfl,a,r⟩:=r.jL
 rw[aG]
 refine XA (X7 (O A env pr s _ _ _ R aa W F a λaj ax cX=>?_))
 exact ae A env pr aj _ _ _ R aa (W.aJ ax λb H=>F.c' b H.b0) cX (r.aJ ax λb H=>F.hW b H.b0) λao aM bQ=>h ao ((ax.mono λb H=>H.mono λx ag=>XS _ ag).trans (aM.mono λb H=>H.mono λx ag=>XQ _ ag)) bQ
theorem hH.tuple{cG:List Yy}{er:Nat}(O:qV G k sc σ cG ds Γ fo xs)(az:autoParam (∀env,(assignEach cG env).length=ds.length) aI)(e8:autoParam (∀env,(assignEach cG env).findIdx? (·.1)=none) aI):hH G k sc σ (.Tuple cG er pos) (.tuple ds) Γ fo xs:=by
 intro A env pr s v Q E R aa W F r h
 refine fm r.jM λa vs n aB e p q=>?_
 subst aB
 refine XA (Yl ?_)
 delta unpack
 rw[(show(assignEach cG env).length=vs.toArray.size from by rw[az,<-q.length];simp),e8]
 refine XA (X7 (jO (acU R.handled (qQ e) λah ag hz=>?_)))
 have k:bb s {s with heap:=ah}:=.heap (λb o e=>ag b o (Ys (XX e)) e) hz
 exact O A env pr _ vs _ _ R aa (W.keep k) (F.keep k) (q.keep k) λao aM bQ=>h ao ((k.mono λ_ q=>q.elim).trans aM) bQ
theorem ph(names:List (Str×Zj)):∀(n:Nat) (acc:List (Str×XM)),cellsFrom n names acc=cellsFrom n names []++acc:=by
 induction names with
 |nil=>exact λ_ _=>rfl
 |cons p r ih=>
  intro n acc
  show(if(p.2==.cell)=true then cellsFrom (n+1) r ((p.1,n)::acc)else cellsFrom n r acc)=(if(p.2==.cell)=true then cellsFrom (n+1) r [(p.1,n)]else cellsFrom n r [])++acc
  by_cases aL:(p.2==.cell)=true
  ·rw[if_pos aL,if_pos aL,ih (n+1) ((p.1,n)::acc),ih (n+1) [(p.1,n)],YK];rfl
  ·rw[if_neg aL,if_neg aL]
   exact ih n acc
theorem Dj{x:Str}{fM:Zj}{r:List (Str×Zj)}:cellsFrom n ((x,fM)::r) []=if(fM==.cell)=true then cellsFrom (n+1) r []++[(x,n)]else cellsFrom n r []:=by
 show(if(fM==.cell)=true then cellsFrom (n+1) r [(x,n)]else cellsFrom n r [])=_
 rw[ph r (n+1)]
theorem Kr(names:List (Str×Zj)):∀(n:Nat) (x:Str) (c:XM),(x,c)∈cellsFrom n names []->(x,abR)∈names:=by
 induction names with
 |nil=>exact λ_ _ _ h=>cZ h
 |cons p r ih=>
  intro n x c h
  rw[Dj]at h
  by_cases aL:(p.2==.cell)=true
  ·replace h:=(if_pos aL)▸h
   rcases XY.mp h with h|h
   ·exact .tail _ (ih _ x c h)
   ·refine d6 (aaj (XD.mp h)) λaB jm=>?_
    subst aB jm
    exact(show p.2=.cell from of_decide_eq_true aL)▸.head _
  ·rw[if_neg aL]at h
   exact .tail _ (ih _ x c h)
theorem Ks{l:List (Str×XM)}{x:Str}{n:XM}(h:(∃c,l.lookup x=some c)\/x=y):∃c,(l++[(y,n)]).lookup x=some c:=by
 rw[aaz]
 rcases aR:l.lookup x with _|c
 ·obtain rfl:=h.resolve_left λq=>q.elim λc au=>mW (aR.symm.trans au)
  exact⟨n,kV⟩
 ·exact⟨c,rfl⟩
theorem Kt(names:List (Str×Zj)):∀(n:Nat) (x:Str),(x,abR)∈names->∃c,(cellsFrom n names []).lookup x=some c:=by
 induction names with
 |nil=>exact λ_ _ h=>cZ h
 |cons p r ih=>
  intro n x h
  rw[Dj]
  by_cases aL:(p.2==.cell)=true
  ·rw[if_pos aL]
   exact Ks ((XH.mp h).elim (λh=>.inr (aaj h).1) λh=>.inl (ih _ x h))
  ·rw[if_neg aL]
   exact ih _ x ((XH.mp h).resolve_left λh=>aL (by rw[<-(aaj h).2];rfl))
theorem WE:∀(names:List (Str×Zj)) (h:Zu) (x:Str) (c:XM),(x,c)∈cellsFrom h.objs.size names []->c<(pushCells h names).objs.size
 |names,h,x,c,hm=>by
  have ok:=cellsFrom_ok names h h.objs.size [] ⟨λ_ _ hm=>(cZ hm),.nil⟩ (XT _)
  exact(ok.empty x c hm).1.lt
theorem mem_lookup{l:List (Str×α)}{x:Str}{a:α}:(l.map (·.1)).Nodup->(x,a)∈l->l.lookup x=some a:=by
 induction l with
 |nil=>exact λ_ h=>cZ h
 |cons p r ih=>
  intro az hm
  obtain⟨y,b⟩:=p
  have az:=Yn.mp az
  rcases XH.mp hm with h|h
  ·refine d6 (aaj h) λaB jm=>?_
   subst aB jm
   exact kV
  ·rw[kU λq:x=y=>az.1 (q▸(YA (f:=λp:Str×α=>p.1) h:(x,a).1∈_))]
   exact ih az.2 h
theorem x7{l:List (Str×α)}{x:Str}(h:∀a,(x,a)∉l):l.lookup x=none:=by
 cases e:l.lookup x with
 |none=>rfl
 |some a=>exact absurd (mem_of_lookup e) (h a)
structure Laid(scope:YI)(cl:List (Str×XM))(σ:ba)(pr:List XM)(s J:XG)(C:XM)(cells:List (Str×XM))(np:List XM):Prop where
 keep:bb s J
 kl:∀b∈np,s.heap.objs.size<=b
 x8:∀b∈np,b<J.heap.objs.size
 pj:C∈np
 ns:J.heap.Ns C λ_=>none
 d1:∀x c,(x,c)∈cells->c∈np++pr/\c≠C/\∃v,J.heap.IsCell c v
 apart:cells.Pairwise λx y=>x.2≠y.2
 own:∀x,scope.names.lookup x=some .cell->∃c,cells.lookup x=some c
 old:∀x,scope.names.lookup x=some .free->cells.lookup x=cl.lookup x
 new:∀x c,cells.lookup x=some c->scope.names.lookup x≠some .free->c∈np
theorem x9{cl:List (Str×XM)}(cls:String)(eG:(scope.names.map (·.1)).Nodup)(W:a4 G σ pr s)
  (fN:∀x c,(x,c)∈cl->c∈pr/\∃v,s.heap.IsCell c v) (sF:cl.Pairwise λx y=>x.2≠y.2) (x_:∀x c,(x,c)∈cl->scope.names.lookup x=some .free) :
  Laid scope cl σ pr s {s with heap:=pushCells (s.heap.push {cls:=.type cls,data:=.dict #[]}) scope.names} s.heap.objs.size (cellsFrom (s.heap.objs.size+1) scope.names cl)
   (s.heap.objs.size::(cellsFrom (s.heap.objs.size+1) scope.names []).map (·.2)):=by
 have hsz:(s.heap.push {cls:=.type cls,data:=.dict #[]}).objs.size=s.heap.objs.size+1:=Yk ..
 have ok:=cellsFrom_ok scope.names (s.heap.push {cls:=.type cls,data:=.dict #[]}) (s.heap.objs.size+1) [] ⟨λ_ _ hm=>(cZ hm),.nil⟩ (by rw[hsz];exact XT _)
 replace ok:=hsz▸ok
 have uX:∀b o,s.heap.get? b=some o->(pushCells (s.heap.push {cls:=.type cls,data:=.dict #[]}) scope.names).get? b=some o:=λb o e=>aeO _ _ b o (X6 _ e)
 have ct:=XX (show(pushCells (s.heap.push {cls:=.type cls,data:=.dict #[]}) scope.names).get? s.heap.objs.size=some _ from aeO _ _ _ _ (XU _ rfl))
 have mem:∀b,b∈(cellsFrom (s.heap.objs.size+1) scope.names []).map (·.2)->∃x,(x,b)∈cellsFrom (s.heap.objs.size+1) scope.names []:=λb H=>by
  refine bB (XZ.mp H) λp ar aB=>?_
  subst aB
  exact⟨p.1,ar⟩
 refine⟨.heap uX (Ye ct),λb H=>?_,λb H=>?_,.head _,(Heap.Ns.new s.heap (.type cls)).keeps (aeO _ _),λx c hm=>?_,?_,λx ag=>?_,λx ag=>?_,λx c au ag=>?_⟩
 ·rcases XH.mp H with rfl|H
  ·exact XT _
  ·refine cS (mem b H) λx ag=>?_
   exact abd (ok.empty x b ag).2
 ·rcases XH.mp H with rfl|H
  ·exact ct
  ·refine cS (mem b H) λx ag=>?_
   exact(ok.empty x b ag).1.lt
 ·rw[ph]at hm
  rcases XY.mp hm with hm|hm
  ·exact⟨XS _ (.tail _ (YA (f:=agP) hm)),Zf (ok.empty x c hm).2,_,(ok.empty x c hm).1⟩
  ·obtain⟨a,v,bJ⟩:=fN x c hm
   exact⟨XQ _ a,Ys bJ.lt,v,bJ.keeps uX⟩
 ·rw[ph]
  refine List.pairwise_append.mpr ⟨ok.apart,sF,λa aY b H q=>?_⟩
  obtain⟨_,v,bJ⟩:=fN b.1 b.2 H
  have O:=(ok.empty a.1 a.2 aY).2
  have jP:=q
  exact XN _ (XE bJ.lt (abd (jP▸O)))
 ·refine bC λ_ a'=>?_
  refine cS (Kt scope.names (s.heap.objs.size+1) x (mem_of_lookup ag)) λc au=>?_
  refine a' ?_
  exact⟨c,by rw[ph,aaz,au];rfl⟩
 ·rw[ph,aaz,x7 λc au=>?_]
  ·rfl
  ·have:=mem_lookup eG (Kr _ _ x c au)
   cases ag.symm.trans this
 ·rw[ph,aaz]at au
  cases e:(cellsFrom (s.heap.objs.size+1) scope.names []).lookup x with
  |some cq=>
   replace au:=e▸au
   have:cq=c:=by simpa using au
   subst this
   exact .tail _ (YA (f:=λp:Str×XM=>p.2) (mem_of_lookup e))
  |none=>
   rw[e]at au
   exact absurd (x_ x c (mem_of_lookup (by simpa using au))) ag
theorem Dk{globals:XM}{cl:List (Str×XM)}{qual:Str}{sG:Option Env}{Q:Env->XG->Prop}{func:Option XM}{code:XF}
  (h:Q (newEnv scope s.heap.objs.size globals (cellsFrom (s.heap.objs.size+1) scope.names cl) qual func code sG b) {s with heap:=pushCells (s.heap.push {cls:=.type (if sG.isSome then "dict" else "frame"),data:=.dict #[]}) scope.names}) :
  wpAny M A (newFunctionEnv scope globals cl [] qual func code sG b) Q E s:=by
 refine XA (agm ?_)
 refine XA (aeZ _ (λname kind cells=>by cases kind<;>rfl) _ _ _ _ ?_)
 rw[show({s with heap:=s.heap.push {cls:=.type (if sG.isSome then "dict" else "frame"),data:=.dict #[]}}:XG).heap.objs.size=s.heap.objs.size+1 from Yk ..]
 cases sG with
 |none=>exact XA (XK (XK h))
 |some o=>exact XA (XK (XK h))
end
noncomputable abbrev x'(da:List Yy)(env:Env):Sem Bool:=forIn da true λc r=>if r=true then do let ok <-isTrue c env (eval c env);pure (aaS ok)else pure (aaS r)
def sH(bh iter:Yy)(da:List Yy)(it:XF)(env:Env)(cd:Code)(pk:Sem Unit):Sem Fin:=
 standAt iter.pos >>= λ_=>pyNext it >>= λr=>match r with
  |none=>pure (.done .next)
  |some v=>letOwnedTupleGo bh it v >>= λ_=>assign bh env v >>= λ_=>x' da env >>= λok=>if ok=true then pk >>= λ_=>again cd else again cd
noncomputable def pm(elt:Yy)(acc:XF)(env:Env):Sem Unit:=eval elt env >>= λx=>call (.builtin "list.append") [acc,x] >>= λ_=>pure ()
def Ku(bh iter:Yy)(da:List Yy)(it:XF)(env:Env)(cd:Code)(e:Yy)(j:Nat)(ff:Yy)(acc:XF):Sem Fin:=
 standAt iter.pos >>= λ_=>pyNext it >>= λr=>match r with
  |none=>pure (.done .next)
  |some v=>letOwnedTupleGo bh it v >>= λ_=>assign bh env v >>= λ_=>x' da env >>= λok=>if ok=true then
    (eval ff env >>= λx=>standAt ff.pos >>= λ_=>YM ff env x >>= λx=>holding [x] (pyIter x) >>= λjQ=>runOwn (.compStart e (j+1) jQ acc env) env >>= λ_=>again cd)else again cd
theorem u0(elt bh iter:Yy)(da:List Yy)(scope:YI)(pos:Pos)(it acc:XF)(env:Env):
  compTurn (.ListComp elt [⟨bh,iter,da,0⟩] scope pos) 0 it acc env=sH bh iter da it env (.compLoop (.ListComp elt [⟨bh,iter,da,0⟩] scope pos) 0 it acc env) (pm elt acc env):=by rfl
theorem Dl(elt bh iter fU ff:Yy)(da pn:List Yy)(scope:YI)(pos:Pos)(it acc:XF)(env:Env):
  compTurn (.ListComp elt [⟨bh,iter,da,0⟩,⟨fU,ff,pn,0⟩] scope pos) 0 it acc env=Ku bh iter da it env (.compLoop (.ListComp elt [⟨bh,iter,da,0⟩,⟨fU,ff,pn,0⟩] scope pos) 0 it acc env)
   (.ListComp elt [⟨bh,iter,da,0⟩,⟨fU,ff,pn,0⟩] scope pos) 0 ff acc:=by rfl
theorem Kv(elt bh iter fU ff:Yy)(da pn:List Yy)(scope:YI)(pos:Pos)(it acc:XF)(env:Env):
  compTurn (.ListComp elt [⟨bh,iter,da,0⟩,⟨fU,ff,pn,0⟩] scope pos) 1 it acc env=sH fU ff pn it env (.compLoop (.ListComp elt [⟨bh,iter,da,0⟩,⟨fU,ff,pn,0⟩] scope pos) 1 it acc env) (pm elt acc env):=by rfl
theorem bg.aJ{C:XM->Prop}(F:bg σ pr s.heap env Γ)(aJ:KB C s J)(O:∀b,C b->¬aT σ pr b)(ae:∀b,C b->¬b0 env b):bg σ pr J.heap env Γ where
 ns:=by obtain⟨m,n⟩:=F.ns;exact⟨m,n.at' λo e=>aJ.keep _ o (λq=>ae _ q (.inl rfl)) e⟩
 vars:=λx d e=>(F.vars x d e).mono (λb o p e=>⟨p,aJ.keep b o (λq=>O b q p) e⟩) (λo e=>aJ.keep _ o (λq=>ae _ q (.inl rfl)) e) λc o au e=>aJ.keep c o (λq=>ae _ q (.inr ⟨x,mem_of_lookup au⟩)) e
 fL:=F.fL
 d1:=λx c hm=>by obtain⟨a,b,v,o,aP,hd⟩:=F.d1 x c hm;exact⟨a,b,v,o,aJ.keep c o (λq=>ae _ q (.inr ⟨x,hm⟩)) aP,hd⟩
 apart:=F.apart
 fT:=F.fT
def Acc(P:XM->Prop)(h:Zu)(D:XM)(items:List V):Prop:=∃(vs:List XF),h.PlainList D vs.toArray/\a5 P h vs items
theorem Acc.aJ{C:XM->Prop}{D:XM}(a:Acc (aT σ pr) s.heap D items)(aJ:KB C s J)(O:∀b,C b->¬aT σ pr b)(ae:¬C D):Acc (aT σ pr) J.heap D items:=
 by obtain⟨vs,p,r⟩:=a;exact⟨vs,p.at λo e=>aJ.keep D o ae e,r.aJ aJ O⟩
def Sub(Γ Γ₁:bD):Prop:=∀x e,Γ.lookup x=some e->Γ₁.lookup x=some e
theorem Sub.refl:Sub Γ Γ:=λ_ _ e=>e
theorem Sub.cons{x:Str}(h:Sub Γ Γ₁)(ag:Γ.lookup x=none):Sub Γ ((x,d)::Γ₁):=λy e he=>by
 rw[kU (λq=>by rw[q,ag]at he;cases he)];exact h y e he
def pq(G:GE)(k:Nat)(sc:YI)(σ:ba)(Γ:bD)(da:List Yy)(b:Bool):Prop:=
 ∀(A:Yz) (env:Env) (pr:List XM) (s:XG) (Q:Bool->XG->Prop) (E:XF->XG->Prop),cs A k->cT G sc env->a4 G σ pr s->bg σ pr s.heap env Γ->(∀J,bb s J->Q b J)->wpAny (model G.prog G.w) A (x' da env) Q E s
theorem pq.nil:pq G k sc σ Γ [] true:=by
 intro A env pr s Q E R aa W F h
 exact aeM (h s (.refl _ _))
theorem pq.one{c:Yy}{b:Bool}(O:fp G k sc σ Γ c b):pq G k sc σ Γ [c] b:=by
 intro A env pr s Q E R aa W F h
 exact wpAny_tests_one (O A env pr s Q E R aa W F h)
def Kw(G:GE)(k:Nat)(sc:YI)(σ:ba)(bh:Yy)(da:List Yy)(elt:Yy)(Γ:bD)(xs:List Str)(d:V)(out:List V):Prop:=
 ∃Γ₁ b,hH G k sc σ bh d Γ Γ₁ xs/\Sub Γ Γ₁/\pq G k sc σ Γ₁ da b/\((b=false/\out=[])\/(b=true/\∃e,aN G k sc σ Γ₁ elt e/\out=[e]))
inductive d3(G:GE)(k:Nat)(sc:YI)(σ:ba)(bh:Yy)(da:List Yy)(elt:Yy)(Γ:bD)(xs:List Str):List V->List V->Prop
 |nil:d3 G k sc σ bh da elt Γ xs [] []
 |cons {d ds out outs}:Kw G k sc σ bh da elt Γ xs d out->d3 G k sc σ bh da elt Γ xs ds outs->d3 G k sc σ bh da elt Γ xs (d::ds) (out++outs)
theorem d3.on{h f:α->V}{l:List α}:(∀a∈l,∃Γ₁,hH G k sc σ bh (h a) Γ Γ₁ xs/\Sub Γ Γ₁/\aN G k sc σ Γ₁ elt (f a))->d3 G k sc σ bh [] elt Γ xs (l.map h) (l.map f):=by
 induction l with
 |nil=>exact λ_=>.nil
 |cons a l ih=>
  intro af
  refine gU (af a (.head _)) λΓ₁ O ae a2=>?_
  exact .cons (out:=[f a]) ⟨Γ₁,true,O,ae,.nil,.inr ⟨rfl,_,a2,rfl⟩⟩ (ih λb H=>af b (.tail _ H))
theorem d3.map(f:V->V)(af:∀d∈ds,∃Γ₁,hH G k sc σ bh d Γ Γ₁ xs/\Sub Γ Γ₁/\aN G k sc σ Γ₁ elt (f d)):d3 G k sc σ bh [] elt Γ xs ds (ds.map f):=by
 have:=d3.on (h:=λd=>d) af
 rwa [adC]at this
theorem d3.filterMap(p:V->Bool)(f:V->V):(∀d∈ds,∃Γ₁,hH G k sc σ bh d Γ Γ₁ xs/\Sub Γ Γ₁/\pq G k sc σ Γ₁ da (p d)/\(p d=true->aN G k sc σ Γ₁ elt (f d)))->d3 G k sc σ bh da elt Γ xs ds ((ds.filter p).map f):=by
 induction ds with
 |nil=>exact λ_=>.nil
 |cons d ds ih=>
  intro h
  refine oc (h d (.head _)) λΓ₁ b s t e=>?_
  have ih:=ih λd hd=>h d (.tail _ hd)
  simp only[abn]
  cases ar:p d with
  |true=>exact .cons (out:=[f d]) ⟨Γ₁,true,b,s,ar▸t,.inr ⟨rfl,_,e ar,rfl⟩⟩ ih
  |false=>exact .cons (out:=[]) ⟨Γ₁,false,b,s,ar▸t,.inl ⟨rfl,rfl⟩⟩ ih
structure Apart(env:Env)(D:XM)(wr bY:List XM)(pr:List XM):Prop where
 hZ:D∈pr
 lE:¬b0 env D
 jR:D∉wr
 qW:D∉bY
 gN:∀b∈wr,b∈pr
 jn:∀b,b0 env b->b∉wr
 ps:∀b,b0 env b->b∉bY
def jS(env:Env)(xs:List Str)(D:XM)(wr:List XM)(b:XM):Prop:=hX env xs b\/b=D\/b∈wr
theorem Apart.al{D:XM}{bY:List XM}(X:Apart env D wr bY pr)(F:bg σ pr s.heap env Γ):∀b,jS env xs D wr b->¬aT σ pr b:=λb H q=>by
 rcases H with H|rfl|H
 ·exact F.hW b H.b0 q
 ·exact q.2 X.hZ
 ·exact q.2 (X.gN b H)
theorem Apart.Kx{D:XM}{bY:List XM}(X:Apart env D wr bY pr)(F:bg σ pr s.heap env Γ):∀b,jS env xs D wr b->b∈pr:=λb H=>by
 rcases H with H|rfl|H
 ·exact F.c' b H.b0
 ·exact X.hZ
 ·exact X.gN b H
theorem Ky{D:XM}{e:V}{Q:Unit->XG->Prop}(R:cs A k)(aa:cT G sc env)(W:a4 G σ pr s)(F:bg σ pr s.heap env Γ)(eY:D∈pr)(WG:¬b0 env D)
  (a:Acc (aT σ pr) s.heap D items) (hsz:items.length<=YD) (O:aN G k sc σ Γ elt e) (h:∀J,KB (λb=>b=D) s J->Acc (aT σ pr) J.heap D (items++[e])->Q () J):wpAny (model G.prog G.w) A (pm elt (.ref D) env) Q E s:=by
 refine XA (O A env pr s _ _ R aa W F λv aj ax a0=>XA ?_)
 have jo:∀b,b=D->¬aT σ pr b:=λb H q=>q.2 (H▸eY)
 obtain⟨vs,p,r⟩:=a.aJ ax (λ_ q=>q.elim) (λq=>q.elim)
 refine abf p (λah dK aG=>XK ?_) (by rw[X3,r.length];exact hsz)
 have aM:KB (λb=>b=D) aj {aj with heap:=ah}:=.hr aG rfl
 refine h _ ((ax.mono λ_ q=>q.elim).trans aM) ⟨vs++[v],by simpa using dK,(r.aJ aM jo).append (.one (a0.aJ aM jo))⟩
theorem ya{D aa:XM}{bY:List XM}{St:(XM->Prop)->Zu->List V->Prop}{R:aaB->XG->Prop}{cd:Code}
  (aR:cd.quiet=true) (oh:(model G.prog G.w).den cd=(sH bh iter da (.ref aa) env cd (pm elt (.ref D) env)).onRaise (λx=>do noteFrame x env;theTreesLotGoes x)) (ef:A.under cd=A)
  (aW:cs A k) (jT:cT G sc env) (cx:g9 G A σ bh wr bY aa St) (X:Apart env D wr bY pr) :
  ∀(ds outs items:List V) (s:XG),d3 G k sc σ bh da elt Γ xs ds outs->a4 G σ pr s->bg σ pr s.heap env Γ->Acc (aT σ pr) s.heap D items->St (aT σ pr) s.heap ds->items.length+outs.length<=YD->
   (∀J,KB (jS env xs D wr) s J->bg σ pr J.heap env Γ->Acc (aT σ pr) J.heap D (items++outs)->R (.ok .next) J)->codeAny (model G.prog G.w) A cd R s:=by
 intro ds
 induction ds with
 |nil=>
  intro outs items s br W F a st hsz h
  cases br
  refine ZA ?_
  simp only[ef,oh]
  refine acv ?_
  refine XA (Yl (XA (cx.done pr s _ _ W st λJ bN=>XK ?_)))
  have dy:∀b,b∈wr->¬aT σ pr b:=λb H q=>q.2 (X.gN b H)
  exact h J (bN.mono λb q=>.inr (.inr q)) (F.aJ bN dy λb H q=>X.jn b q H) (by simpa using a.aJ bN dy X.jR)
 |cons d ds ih=>
  intro WH items s br W F a st hsz h
  cases br with
  |cons aq ai=>
  rename_i out outs
  refine bC λ_ a'=>?_
  obtain⟨Γ₁,b,lF,hI,Kz,KA⟩:=aq
  refine a' ?_
  refine ZA ?_
  simp only[ef,oh]
  refine acv ?_
  have dy:∀b,b∈wr->¬aT σ pr b:=λb H q=>q.2 (X.gN b H)
  refine XA (Yl (XA (cx.next pr s _ _ d ds W X.gN st λv aj ax a0 go=>?_)))
  dsimp only
  refine XA (go _ _ λao aM fO=>?_)
  have g_:=ax.trans aM
  have bo:=W.aJ g_ X.gN
  have bQ:=F.aJ g_ dy λb H q=>X.jn b q H
  have pt:=a.aJ g_ dy X.jR
  refine XA (lF A env pr ao v _ _ aW jT bo bQ (a0.aJ aM dy) λbI cu fx=>?_)
  have eH:=bo.aJ cu λb H=>bQ.c' b H.b0
  have pv:=cx.mono _ _ _ _ _ fO (λb o p e=>⟨p,cu.keep b o (λq=>bQ.hW b q.b0 p) e⟩) λb o H e=>cu.keep b o (λq=>H.elim (X.jn b q.b0) (X.ps b q.b0)) e
  have pw:=pt.aJ cu (λb H=>bQ.hW b H.b0) λq=>X.lE q.b0
  refine XA (Kz A env pr bI _ _ aW jT eH fx λbM dz=>?_)
  have e9:=eH.keep dz
  have eZ:=fx.keep dz
  have d7:=cx.mono _ _ _ _ _ pv (λb o p e=>⟨p,dz.get e⟩) λb o H e=>dz.get e
  have qX:=pw.aJ dz (λ_ q=>q.elim) λq=>q.elim
  have bt:KB (jS env xs D wr) s bM:=((g_.mono λb q=>.inr (.inr q)).trans (cu.mono λb q=>.inl q)).trans (dz.mono λ_ q=>q.elim)
  rcases KA with ⟨rfl,rfl⟩|⟨rfl,e,he,rfl⟩
  ·refine XK ⟨aR,ih outs items bM ai e9 (eZ.sub hI) qX d7 (by simpa using hsz) λJ bN b7 ip=>h J (bt.trans bN) b7 (by simpa using ip)⟩
  ·simp only[if_true]
   refine XA (Ky aW jT e9 eZ X.hZ X.lE qX (by simp at hsz;exact o8) he λez dA KC=>XK ⟨aR,?_⟩)
   have jo:∀b,b=D->¬aT σ pr b:=λb H q=>q.2 (H▸X.hZ)
   refine ih outs (items++[e]) ez ai (e9.aJ dA λb H=>H▸X.hZ) ((eZ.sub hI).aJ dA jo λb H q=>X.lE (H▸q)) KC ?_ (by simp at hsz ⊢;exact xJ) λJ bN b7 ip=>h J ((bt.trans (dA.mono λb q=>.inr (.inl q))).trans bN) b7 (by simpa using ip)
   exact cx.mono _ _ _ _ _ d7 (λb o p e=>⟨p,dA.keep b o (λq=>jo b q p) e⟩) λb o H e=>dA.keep b o (λq=>H.elim (λH=>X.jR (q▸H)) λH=>X.qW (q▸H)) e
noncomputable def fP(scope sc:YI):YI:={scope with names:=scope.names.map λ(n,k)=>if(k==.free&&sc.kind==.function&&sc.names.lookup n==some .cell)then(n,.cell)else(n,k)}
theorem Dm(h:env.scope=sc):relabel scope env=fP scope sc:=by subst h;rfl
noncomputable def hs(scope:YI)(Γ:bD):bD:=scope.names.filterMap λn=>if n.2==.free then(Γ.lookup n.1).map (n.1,·)else none
noncomputable def dC(cells:List (Str×XM))(names:List (Str×Zj)):List (Str×XM):=((names.filter (·.2==.free)).reverse).map λn=>(n.1,(cells.lookup n.1).getD 0)
theorem sI{names:List (Str×Zj)}{x:Str}:(names.filterMap λn=>if n.2==.free then(Γ.lookup n.1).map (n.1,·)else none).lookup x=some d->Γ.lookup x=some d/\(x,Yj)∈names:=by
 induction names with
 |nil=>intro h;simp at h
 |cons p r sI=>
  obtain⟨y,fM⟩:=p
  intro h
  rw[Z8]at h
  by_cases aL:(fM==Yj)=true
  ·simp only[aL,if_true]at h
   cases e:Γ.lookup y with
   |none=>
    rw[e]at h
    refine bC λ_ a'=>?_
    refine d6 (sI h) λa b=>?_
    refine a' ?_
    exact⟨a,.tail _ b⟩
   |some dM=>
    rw[e]at h
    simp only[afV]at h
    by_cases ag:x=y
    ·subst ag
     replace h:=kV▸h;cases h
     have:fM=.free:=by simpa using aL
     subst this
     exact⟨e,.head _⟩
    ·rw[kU ag]at h
     refine d6 (sI h) λa b=>?_
     exact⟨a,.tail _ b⟩
  ·simp only[aL]at h
   refine d6 (sI h) λa b=>?_
   exact⟨a,.tail _ b⟩
theorem Dn(h:∀x,(x,Yj)∈scope.names->∃c,env.cells.lookup x=some c):closureFor scope env=pure (dC env.cells scope.names):=by
 have go:∀(names:List (Str×Zj)) (oi:List (Str×XM)),(∀x,(x,Yj)∈names->∃c,env.cells.lookup x=some c)->
   (forIn names oi λ(x:Str×Zj) (r:List (Str×XM))=>if(x.2==Yj)=true then(do let a <-cellOf env x.1;pure (aaS ((x.1,a)::r)))else pure (aaS r):Sem (List (Str×XM))) =
   pure (((names.filter (·.2==.free)).reverse).map (λn=>(n.1,(env.cells.lookup n.1).getD 0))++oi):=by
  intro names
  induction names with
  |nil=>intro oi _;rfl
  |cons p r ih=>
   intro oi bK
   obtain⟨y,fM⟩:=p
   rw[acM]
   by_cases aL:(fM==Yj)=true
   ·have:fM=.free:=by simpa using aL
    subst this
    obtain⟨c,au⟩:=bK y (.head _)
    have e:cellOf env y=pure c:=by unfold cellOf;rw[au]
    simp only[aL,if_true,e]
    show(forIn r ((y,c)::oi) _:Sem _)=_
    simp only[ih _ λx ag=>bK x (.tail _ ag)]
    rw[abn,if_pos (by rfl),ZI,Yx,YK]
    simp[au]
   ·have iS:(fM==Yj)=false:=by simpa using aL
    simp only[iS,aa5,if_false]
    show(forIn r oi _:Sem _)=_
    rw[ih _ λx ag=>bK x (.tail _ ag),abn,if_neg (by simp[iS])]
 have:=go scope.names [] h
 rw[Y0]at this
 show((forIn scope.names [] λ(x:Str×Zj) (r:List (Str×XM))=>if(x.2==Yj)=true then(do let a <-cellOf env x.1;pure (aaS ((x.1,a)::r)))else pure (aaS r):Sem (List (Str×XM))) >>= λoi=>pure oi)=_
 rw[this]
 rfl
theorem qY{cells:List (Str×XM)}{names:List (Str×Zj)}{x:Str}{c:XM}(au:∀x,(x,Yj)∈names->∃c,cells.lookup x=some c)(h:(x,c)∈dC cells names):(x,Yj)∈names/\cells.lookup x=some c:=by
 refine bB (XZ.mp h) λp ar e=>?_
 rw[YS,Z3]at ar
 obtain⟨y,fM⟩:=p
 cases e
 have:fM=.free:=by simpa using ar.2
 subst this
 refine cS (au y ar.1) λcq kR=>?_
 exact⟨ar.1,by simp[kR]⟩
theorem KD{x:Str}{l:List (Str×α)}(e:l.lookup x=none)(c:α):(x,c)∉l:=by
 induction l with
 |nil=>exact λh=>cZ h
 |cons p r ih=>
  obtain⟨y,d⟩:=p
  intro hm
  by_cases ag:x=y
  ·subst ag;rw[kV]at e;cases e
  ·rw[kU ag]at e
   exact(XH.mp hm).elim (λh=>ag (aaj h).1) (ih e)
theorem sJ{cells:List (Str×XM)}{names:List (Str×Zj)}{x:Str}(au:∀x,(x,Yj)∈names->∃c,cells.lookup x=some c)(h:(x,Yj)∈names):(dC cells names).lookup x=cells.lookup x:=by
 have hm:∃c,(x,c)∈dC cells names:=⟨_,XZ.mpr ⟨(x,.free),YS.mpr (Z3.mpr ⟨h,by rfl⟩),rfl⟩⟩
 cases e:(dC cells names).lookup x with
 |some c=>exact(qY au (mem_of_lookup e)).2.symm
 |none=>
  refine cS hm λc hm=>?_
  exact absurd hm (KD e c)
theorem Dp{cells:List (Str×XM)}{names:List (Str×Zj)}(eG:(names.map (·.1)).Nodup)(sF:cells.Pairwise λx y=>x.2≠y.2)(au:∀x,(x,Yj)∈names->∃c,cells.lookup x=some c):(dC cells names).Pairwise λx y=>x.2≠y.2:=by
 delta dC
 rw[ab6,ae8]
 have key:∀(l:List (Str×Zj)),(l.map (·.1)).Nodup->(∀p∈l,p∈names)->(l.filter (·.2==.free)).Pairwise λa b=>((cells.lookup b.1).getD 0)≠((cells.lookup a.1).getD 0):=by
  intro l
  induction l with
  |nil=>intro _ _;exact .nil
  |cons p r ih=>
   intro az aG
   rw[Yb,Yn]at az
   have Dq:=ih az.2 λq aR=>aG q (.tail _ aR)
   simp only[abn]
   split
   ·rename_i aL
    refine List.pairwise_cons.mpr ⟨λq aR e=>?_,Dq⟩
    obtain⟨y,fM⟩:=p
    obtain⟨z,u1⟩:=q
    have a3:fM=.free:=by simpa using aL
    have iq:=Z3.mp aR
    have bH:u1=.free:=by simpa using iq.2
    subst a3 bH
    obtain⟨eR,O⟩:=au y (aG _ (.head _))
    obtain⟨eI,ae⟩:=au z (aG _ (.tail _ iq.1))
    have px:y=z:=by
     refine name_of_addr sF (mem_of_lookup O) ?_
     simp only[O,ae,aaN]at e
     exact e▸mem_of_lookup ae
    exact az.1 (px▸YA (f:=λp:Str×Zj=>p.1) iq.1)
   ·exact Dq
 exact key names eG λ_ h=>h
def e0(G:GE)(k:Nat)(sc:YI)(σ:ba)(S:List XM)(Γ:bD)(ew iter:Yy)(ds:List V):Prop:=
 ∀(A:Yz) (env:Env) (pr:List XM) (s:XG) (Q E:XF->XG->Prop),cs A k->cT G sc env->a4 G σ pr s->bg σ pr s.heap env Γ->
  (∀x aj,bb s aj->(∀(bX cI:XF->XG->Prop),(∀aa wr bY St np ao,bb aj ao->(∀Y,g9 G A Y ew wr bY aa St)->(∀b∈np,s.heap.objs.size<=b/\b<ao.heap.objs.size)->(∀b∈wr,b∈np)->(∀b∈bY,(b∉pr/\b∉np/\b<ao.heap.objs.size)/\(b∈S\/b∉σ.at))->
   St (aT σ (np++pr)) ao.heap ds->bX (.ref aa) ao)->wpAny (model G.prog G.w) A (pyIter x) bX cI aj)->Q x aj)->wpAny (model G.prog G.w) A (eval iter env) Q E s
section
variable{pos:Pos}
theorem bg.d'{np:List XM}(F:bg σ pr s.heap env Γ)(bx:bb s J)(az:∀b∈np,s.heap.objs.size<=b):bg σ (np++pr) J.heap env Γ where
 ns:=let ⟨m,n⟩:=F.ns;⟨m,n.keeps bx.all⟩
 vars:=λx d e=>(F.vars x d e).mono (λb o p e=>⟨qS p (sC az e),bx.get e⟩) (λo e=>bx.get e) λc o au e=>bx.get e
 fL:=XQ _ F.fL
 d1:=λx c hm=>let ⟨a,b,v,bJ⟩:=F.d1 x c hm;⟨XQ _ a,b,v,bJ.keeps bx.all⟩
 apart:=F.apart
 fT:=F.fT
theorem Dr{x:Str}{fM:Zj}(eG:(scope.names.map (·.1)).Nodup)(h:(fP scope sc).names.lookup x=some fM):scope.names.lookup x=some fM\/(fM=.cell/\scope.names.lookup x=some .free):=by
 have hm:=mem_of_lookup h
 refine bB (XZ.mp hm) λp ar e=>?_
 obtain⟨y,u1⟩:=p
 simp only at e
 split at e
 ·rename_i au
  cases e
  simp only[Yp]at au
  have:u1=.free:=by simpa using au.1.1
  subst this
  exact .inr ⟨rfl,mem_lookup eG ar⟩
 ·cases e
  exact .inl (mem_lookup eG ar)
theorem KG{x:Str}{fM:Zj}(eG:(scope.names.map (·.1)).Nodup)(h:scope.names.lookup x=some fM):(fP scope sc).names.lookup x=some fM\/(fM=.free/\(fP scope sc).names.lookup x=some .cell):=by
 have hm:=mem_of_lookup h
 have Ds:((fP scope sc).names.map (·.1)).Nodup:=by
  delta fP
  simp only[X_]
  have:(λ(p:Str×Zj)=>p.1)∘(λ(p:Str×Zj)=>if(p.2==Yj&&sc.kind==ScopeKind.function&&sc.names.lookup p.1==some abR)then(p.1,abR)else(p.1,p.2))=λp=>p.1:=by
   funext p;obtain⟨y,fM⟩:=p;simp only[abU];split<;>rfl
  exact this.symm▸eG
 by_cases au:(fM==Yj&&sc.kind==.function&&sc.names.lookup x==some .cell)=true
 ·refine .inr ⟨?_,mem_lookup Ds (XZ.mpr ⟨(x,fM),hm,by simp only[au,if_true]⟩)⟩
  simp only[Yp]at au
  simpa using au.1.1
 ·exact .inl (mem_lookup Ds (XZ.mpr ⟨(x,fM),hm,if_neg au⟩))
theorem KH{np:List XM}{cells:List (Str×XM)}{cenv:Env}(eG:(scope.names.map (·.1)).Nodup)(m7:∀x,(x,Yj)∈scope.names->sc.names.lookup x=some .cell\/sc.names.lookup x=some .free)(aa:cT G sc env)(F:bg σ pr s.heap env Γ)
  (L:Laid scope (dC env.cells scope.names) σ pr s J C cells np) (O:cenv.scope=fP scope sc) (ae:cenv.locals=C) (a2:cenv.cells=cells):bg σ (np++pr) J.heap cenv (hs scope Γ) where
 ns:=⟨_,ae▸L.ns⟩
 vars:=λx d e=>by
  refine d6 (sI e) λa3 bH=>?_
  have ag:=mem_lookup eG bH
  have bK:=λx ag=>F.fT x (by unfold Yh;rw[aa.scope];exact m7 x ag)
  rcases F.vars x d a3 with ⟨a,m,v,n,b8,r⟩|⟨a,c,v,b8,au,r⟩
  ·exfalso
   delta Yh at a
   replace a:=aa.scope▸a
   rcases m7 x bH with q|q<;>rw[a]at q<;>cases q
  ·refine .inr ⟨?_,c,v,by rw[a2,L.old x ag,sJ bK bH,b8],au.keeps L.keep.all,r.d' L.keep L.kl⟩
   delta Yh
   rw[O]
   rcases KG (sc:=sc) eG ag with q|⟨_,q⟩
   ·exact .inr q
   ·exact .inl q
 fL:=ae▸XS _ L.pj
 d1:=λx c hm=>by rw[a2]at hm;rw[ae];exact L.d1 x c hm
 apart:=by rw[a2];exact L.apart
 fT:=λx ag=>by
  have bK:=λx ag=>F.fT x (by unfold Yh;rw[aa.scope];exact m7 x ag)
  delta Yh at ag
  rw[O]at ag
  rw[a2]
  have u2:scope.names.lookup x=some .free->∃c,cells.lookup x=some c:=λq=>by
   rw[L.old x q,sJ bK (mem_of_lookup q)]
   exact bK x (mem_of_lookup q)
  rcases ag with ag|ag
  ·rcases Dr eG ag with q|⟨_,q⟩
   ·exact L.own x q
   ·exact u2 q
  ·rcases Dr eG ag with q|⟨q,_⟩
   ·exact u2 q
   ·cases q
theorem KI{x:Str}(eG:(scope.names.map (·.1)).Nodup)(iX:sc.kind=.function)(h:(fP scope sc).names.lookup x=some .free):scope.names.lookup x=some .free/\sc.names.lookup x≠some .cell:=by
 have hm:=mem_of_lookup h
 refine bB (XZ.mp hm) λp ar e=>?_
 obtain⟨y,u1⟩:=p
 simp only at e
 split at e
 ·cases e
 ·rename_i au
  cases e
  refine⟨mem_lookup eG ar,λq=>au ?_⟩
  rw[iX,q]
  rfl
structure gO(sc scope:YI)(xs:List Str):Prop where
 hJ:sc.kind=.function
 k:scope.kind=.function
 c2:(scope.names.map (·.1)).Nodup
 free:∀x,(x,Yj)∈scope.names->sc.names.lookup x=some .cell\/sc.names.lookup x=some .free
 xs:∀x∈xs,scope.names.lookup x≠some .free
noncomputable def mq(sc scope:YI)(xs:List Str):Bool:=decide (sc.kind=.function)&&(decide (scope.kind=.function)&&(decide (scope.names.map (·.1)).Nodup&&((scope.names.all λp=>p.2 !=.free||(sc.names.lookup p.1==some .cell||sc.names.lookup p.1==some .free))&&xs.all λx=>scope.names.lookup x !=some .free)))
theorem gO.of(h:mq sc scope xs=true):gO sc scope xs:=by
 delta mq at h
 simp only[Yp,decide_eq_true_eq]at h
 exact⟨h.1,h.2.1,h.2.2.1,λx ag=>by simpa using X9.mp h.2.2.2.1 _ ag,λx ag=>by simpa using X9.mp h.2.2.2.2 x ag⟩
theorem gO.bK(c:gO sc scope xs)(aa:cT G sc env)(F:bg σ pr h env Γ)(x:Str)(ag:(x,Yj)∈scope.names):∃d,env.cells.lookup x=some d:=F.fT x (by unfold Yh;rw[aa.scope];exact c.free x ag)
theorem gO.kS(c:gO sc scope xs)(aa:cT G sc env)(F:bg σ pr h env Γ):closureFor scope env=pure (dC env.cells scope.names):=Dn (c.bK aa F)
theorem gO.loc(c:gO sc scope xs)(x:Str×Zj)(ag:x∈scope.names)(aw:x.2=.local):scope.names.lookup x.1=some .local:=mem_lookup c.c2 (by rw[<-aw];exact ag)
structure sL(G:GE)(sc scope:YI)(σ:ba)(Γ:bD)(xs:List Str)(wr bY np pr:List XM)(ao:XG)(D:XM)(cenv:Env)(bM:XG)(dW:List XM):Prop where
 aa:cT G (fP scope sc) cenv
 W:a4 G σ dW bM
 F:bg σ dW bM.heap cenv (hs scope Γ)
 X:Apart cenv D wr bY dW
 acc:Acc (aT σ dW) bM.heap D []
 bt:bb ao bM
 new:∀b,jS cenv xs D wr b->b∉wr->ao.heap.objs.size<=b
 up:∀b o,aT σ (np++pr) b->ao.heap.get? b=some o->aT σ dW b/\bM.heap.get? b=some o
 sub:∀b,b∈cenv.locals::D::pr->b∈dW
 jq:ao.heap.objs.size<=D
 oj:D<cenv.locals
theorem Dt{bY np:List XM}{bI bM:XG}{cenv:Env}(c:gO sc scope xs)(aa:cT G sc env)(bo:a4 G σ (np++pr) ao)(bQ:bg σ (np++pr) ao.heap env Γ)(m8:∀x c,(x,c)∈env.cells->c∈pr)(cg:∀b∈np,b∉pr)(cH:∀b∈wr,b∈np)
  (dX:∀b∈bY,b∉pr/\b∉np/\b<ao.heap.objs.size) (bx:bb ao bI) (sM:bI.heap.objs.size=ao.heap.objs.size+1) (KJ:bI.heap.get? ao.heap.objs.size=some (gW [] 0)) (fZ:{bI with heap:=pushCells (bI.heap.push {cls:=.type "dict",data:=.dict #[]}) scope.names}=bM)
  (eR:cenv.scope=fP scope sc) (eI:cenv.locals=bI.heap.objs.size) (fy:cenv.cells=cellsFrom (bI.heap.objs.size+1) scope.names (dC env.cells scope.names)) (cJ:cenv.globals=YJ) (c4:cenv.builtins=Y6):∃dW,sL G sc scope σ Γ xs wr bY np pr ao ao.heap.objs.size cenv bM dW:=by
 have bK:=c.bK aa bQ
 have eH:=bo.uU bx (XT _) (by rw[sM];exact Yt _)
 have fx:=bQ.d' bx λb H=>by rw[XD.mp H];exact XT _
 have L:=x9 (scope:=scope) (cl:=dC env.cells scope.names) "dict" c.c2 eH (λx c hm=>by
  refine d6 (qY bK hm) λ_ e=>?_
  refine gH (fx.d1 x c (mem_of_lookup e)) λa b v=>?_
  exact⟨a,v⟩) (Dp c.c2 bQ.apart bK) λx d hm=>mem_lookup c.c2 (qY bK hm).1
 replace L:=fZ▸L
 have jq:ao.heap.objs.size<bI.heap.objs.size:=by rw[sM];exact Yt _
 have yb:=λb H=>bo.lt b (.inr H)
 have yc:∀b,b0 cenv b->ao.heap.objs.size<b\/b∈pr:=λb H=>by
  rcases H with rfl|⟨x,ag⟩
  ·exact eI.symm▸.inl jq
  ·rw[fy]at ag
   rw[ph]at ag
   rcases XY.mp ag with ag|ag
   ·exact .inl (XE jq (L.kl _ (.tail _ (YA (f:=λp:Str×XM=>p.2) ag))))
   ·refine d6 (qY bK ag) λ_ e=>?_
    exact .inr (m8 x b (mem_of_lookup e))
 exact⟨_,{
  aa:=⟨eR,cJ,c4,λx ag=>by
   refine d6 (KI c.c2 c.hJ ag) λqZ q0=>?_
   simp only[fy,L.old x qZ,sJ bK (mem_of_lookup qZ)]
   exact aa.kS x ((c.free x (mem_of_lookup qZ)).resolve_left q0)⟩
  W:=eH.d' L.keep L.kl L.x8
  F:=KH c.c2 c.free aa fx L eR eI fy
  X:={
   hZ:=XQ _ (.head _)
   lE:=λq=>(yc _ q).elim (λq=>XN _ q) λq=>XN _ (yb _ (XQ _ q))
   jR:=λq=>XN _ (yb _ (XS _ (cH _ q)))
   qW:=λq=>XN _ (dX _ q).2.2
   gN:=λb H=>XQ _ (.tail _ (XS _ (cH b H)))
   jn:=λb H q=>(yc b H).elim (λh=>XN _ (aao (yb b (XS _ (cH b q))) h)) λh=>cg b (cH b q) h
   ps:=λb H q=>(yc b H).elim (λh=>XN _ (aao (dX b q).2.2 h)) λh=>(dX b q).1 h}
  acc:=⟨[],⟨0,L.keep.get KJ⟩,.nil⟩
  bt:=bx.trans L.keep
  new:=λb H bz=>by
   rcases H with (rfl|⟨x,ag,au⟩)|rfl|H
   ·exact eI.symm▸Ye jq
   ·rw[fy]at au
    exact XC (Ye jq) (L.kl b (L.new x b au (c.xs x ag)))
   ·exact XT _
   ·exact absurd H bz
  up:=λb o p e=>⟨qS (qS p (λq=>by rw[XD.mp q]at e;exact XN _ (XX e))) (sC L.kl (bx.get e)),L.keep.get (bx.get e)⟩
  sub:=λb H=>by
   rcases XH.mp H with rfl|H
   ·rw[eI];exact XS _ L.pj
   ·rcases XH.mp H with rfl|H
    ·exact XQ _ (.head _)
    ·exact XQ _ (.tail _ (XQ _ H))
  jq:=XT _
  oj:=by rw[eI];exact jq}⟩
theorem Du{f0:XF->XM->aaB->XG->Prop}(c:gO sc scope xs)(aa:cT G sc env){it:XM}{bY np:List XM}{St:(XM->Prop)->Zu->List V->Prop}(bo:a4 G σ (np++pr) ao)(bQ:bg σ (np++pr) ao.heap env Γ)(m8:∀x c,(x,c)∈env.cells->c∈pr)
  (cx:g9 G A σ bh wr bY it St) (cg:∀b∈np,b∉pr) (cH:∀b∈wr,b∈np) (dX:∀b∈bY,b∉pr/\b∉np/\b<ao.heap.objs.size) (st:St (aT σ (np++pr)) ao.heap ds) {aO:List abK}
  (h:∀D cenv bM dW,sL G sc scope σ Γ xs wr bY np pr ao D cenv bM dW->St (aT σ dW) bM.heap ds->codeAny (model G.prog G.w) A (.compLoop (.ListComp elt (⟨bh,iter,da,0⟩::aO) scope pos) 0 (.ref it) (.ref D) cenv) (f0 (.ref D) cenv.locals) bM) :
  wpAny (model G.prog G.w) A (newList []) (λacc bI=>wpAny (model G.prog G.w) A (newFunctionEnv scope env.globals (dC env.cells scope.names) [] env.qual none .none (some env)) (λcenv bM=>
   codeAny (model G.prog G.w) A (.compStart (.ListComp elt (⟨bh,iter,da,0⟩::aO) scope pos) 0 (.ref it) acc {cenv with scope:=relabel scope env}) (f0 acc cenv.locals) bM) E bI) E ao:=by
 refine aat (Dk ?_)
 obtain⟨dW,f⟩:=Dt (cenv:={newEnv scope (ao.heap.push (gW [] 0)).objs.size env.globals (cellsFrom ((ao.heap.push (gW [] 0)).objs.size+1) scope.names (dC env.cells scope.names)) env.qual none .none (some env) 0 with scope:=relabel scope env}) c aa bo bQ m8 cg cH dX (.push _ ao.toks) (Yk ..) (XU _ rfl) rfl (Dm aa.scope) rfl rfl aa.globals aa.builtins
 have d7:=cx.mono _ _ _ _ _ st f.up λb o _ e=>f.bt.get e
 exact codeAny_compStart_list (h _ _ _ _ f d7) (cx.self _ _ _ _ _ d7 (h _ _ _ _ f d7))
theorem Dv{f0:XF->XM->aaB->XG->Prop}(c:gO sc scope xs)
  (aa:cT G sc env) {it:XM} {wr bY np:List XM} {St:(XM->Prop)->Zu->List V->Prop} {ao:XG} (bo:a4 G σ (np++pr) ao) (bQ:bg σ (np++pr) ao.heap env Γ) (m8:∀x c,(x,c)∈env.cells->c∈pr) (cx:g9 G A σ bh wr bY it St) (cg:∀b∈np,b∉pr)
  (cH:∀b∈wr,b∈np) (dX:∀b∈bY,b∉pr/\b∉np/\b<ao.heap.objs.size) (st:St (aT σ (np++pr)) ao.heap ds) {aO:List abK}
  (yd:∀(cenv:Env) (D:XM) (pr:List XM) (s:XG) (jU:aaB->XG->Prop),cT G (fP scope sc) cenv->a4 G σ pr s->bg σ pr s.heap cenv (hs scope Γ)->Acc (aT σ pr) s.heap D []->St (aT σ pr) s.heap ds->Apart cenv D wr bY pr->(∀b∈bY,b<s.heap.objs.size)->
   (∀J,KB (jS cenv xs D wr) s J->bg σ pr J.heap cenv (hs scope Γ)->Acc (aT σ pr) J.heap D outs->jU (.ok .next) J)->codeAny (model G.prog G.w) A (.compLoop (.ListComp elt (⟨bh,iter,da,0⟩::aO) scope pos) 0 (.ref it) (.ref D) cenv) jU s)
  (m9:∀D C J,KB (·∈wr) ao J->(∃m,J.heap.Ns C m)->ao.heap.objs.size<=D->ao.heap.objs.size<=C->C≠D->(∃n vs,J.heap.get? D=some (gW vs n)/\a5 (aT σ (C::D::pr)) J.heap vs outs)->f0 (.ref D) C (.ok .next) J) :
  wpAny (model G.prog G.w) A (newList []) (λacc bI=>wpAny (model G.prog G.w) A (newFunctionEnv scope env.globals (dC env.cells scope.names) [] env.qual none .none (some env)) (λcenv bM=>
   codeAny (model G.prog G.w) A (.compStart (.ListComp elt (⟨bh,iter,da,0⟩::aO) scope pos) 0 (.ref it) acc {cenv with scope:=relabel scope env}) (f0 acc cenv.locals) bM) E bI) E ao:=
 Du c aa bo bQ m8 cx cg cH dX st λD cenv bM dW f d7=>yd cenv _ _ bM _ f.aa f.W f.F f.acc d7 f.X (λb H=>XE (dX b H).2.2 f.bt.size) λJ aJ b7 ip=>by
  obtain⟨vs,⟨n,p⟩,r⟩:=ip
  exact m9 _ _ J ⟨λb o bz e=>aJ.keep b o (λq=>XN _ (XE (XX e) (f.new b q bz))) (f.bt.get e),XC f.bt.size aJ.size,aJ.os.trans f.bt.os,f.bt.gens.trans aJ.gens⟩
   b7.ns f.jq (XC f.jq (Ye f.oj)) (Zf f.oj) ⟨n,vs,p,r.mono λb o q e=>⟨⟨q.1,λH=>q.2 (f.sub b H)⟩,e⟩⟩
theorem Dw{f0:XF->XM->aaB->XG->Prop}(c:gO sc scope xs)
  (aa:cT G sc env) (W:a4 G σ pr s) (F:bg σ pr s.heap env Γ) {it:XM} {wr bY np:List XM} {St:(XM->Prop)->Zu->List V->Prop} {ao:XG} (aM:bb s ao) (cx:g9 G A σ bh wr bY it St) (cg:∀b∈np,s.heap.objs.size<=b/\b<ao.heap.objs.size)
  (cH:∀b∈wr,b∈np) (dX:∀b∈bY,b∉pr/\b∉np/\b<ao.heap.objs.size) (st:St (aT σ (np++pr)) ao.heap ds) {aO:List abK}
  (yd:∀(cenv:Env) (D:XM) (pr:List XM) (s:XG) (jU:aaB->XG->Prop),cT G (fP scope sc) cenv->a4 G σ pr s->bg σ pr s.heap cenv (hs scope Γ)->Acc (aT σ pr) s.heap D []->St (aT σ pr) s.heap ds->Apart cenv D wr bY pr->(∀b∈bY,b<s.heap.objs.size)->
   (∀J,KB (jS cenv xs D wr) s J->bg σ pr J.heap cenv (hs scope Γ)->Acc (aT σ pr) J.heap D outs->jU (.ok .next) J)->codeAny (model G.prog G.w) A (.compLoop (.ListComp elt (⟨bh,iter,da,0⟩::aO) scope pos) 0 (.ref it) (.ref D) cenv) jU s)
  (m9:∀D C J,bb s J->(∃m,J.heap.Ns C m)->s.heap.objs.size<=D->s.heap.objs.size<=C->C≠D->(∃n vs,J.heap.get? D=some (gW vs n)/\a5 (aT σ (C::D::pr)) J.heap vs outs)->f0 (.ref D) C (.ok .next) J) :
  wpAny (model G.prog G.w) A (newList []) (λacc bI=>wpAny (model G.prog G.w) A (newFunctionEnv scope env.globals (dC env.cells scope.names) [] env.qual none .none (some env)) (λcenv bM=>
   codeAny (model G.prog G.w) A (.compStart (.ListComp elt (⟨bh,iter,da,0⟩::aO) scope pos) 0 (.ref it) acc {cenv with scope:=relabel scope env}) (f0 acc cenv.locals) bM) E bI) E ao:=
 Dv c aa (W.d' aM (λb H=>(cg b H).1) λb H=>(cg b H).2) (F.d' aM λb H=>(cg b H).1) (λx c h=>(F.d1 x c h).1) cx (λb H q=>XN _ (XE (W.lt b (.inr q)) (cg b H).1)) cH dX st yd λD C J aJ br eY fV b' aw=>
  m9 D C J ⟨λb o _ e=>aJ.keep b o (λq=>XN _ (XE (XX e) (cg b (cH b q)).1)) (aM.get e),XC aM.size aJ.size,aJ.os.trans aM.os,aM.gens.trans aJ.gens⟩ br (XC aM.size eY) (XC aM.size fV) b' aw
theorem ye{f0:XF->XM->aaB->XG->Prop}(c:gO sc scope xs)
  (R:cs A k) (aa:cT G sc env) (W:a4 G σ pr s) (F:bg σ pr s.heap env Γ) {it:XM} {wr bY np:List XM} {St:(XM->Prop)->Zu->List V->Prop} {ao:XG} (aM:bb s ao) (cx:g9 G A σ bh wr bY it St) (cg:∀b∈np,s.heap.objs.size<=b/\b<ao.heap.objs.size)
  (cH:∀b∈wr,b∈np) (dX:∀b∈bY,b∉pr/\b∉np/\b<ao.heap.objs.size) (st:St (aT σ (np++pr)) ao.heap ds) (br:d3 G k (fP scope sc) σ bh da elt (hs scope Γ) xs ds outs) (hsz:outs.length<=YD)
  (m9:∀D C J,bb s J->(∃m,J.heap.Ns C m)->s.heap.objs.size<=D->s.heap.objs.size<=C->C≠D->(∃n vs,J.heap.get? D=some (gW vs n)/\a5 (aT σ (C::D::pr)) J.heap vs outs)->f0 (.ref D) C (.ok .next) J) :
  wpAny (model G.prog G.w) A (newList []) (λacc bI=>wpAny (model G.prog G.w) A (newFunctionEnv scope env.globals (dC env.cells scope.names) [] env.qual none .none (some env)) (λcenv bM=>
   codeAny (model G.prog G.w) A (.compStart (.ListComp elt [⟨bh,iter,da,0⟩] scope pos) 0 (.ref it) acc {cenv with scope:=relabel scope env}) (f0 acc cenv.locals) bM) E bI) E ao:=
 Dw c aa W F aM cx cg cH dX st (λcenv D pr s jU pz W F acc st X _ h=>
  ya (k:=k) (sc:=fP scope sc) (xs:=xs) rfl (by show((compTurn (.ListComp elt [⟨bh,iter,da,0⟩] scope pos) 0 (.ref it) (.ref D) cenv).onRaise λx=>do noteFrame x cenv;theTreesLotGoes x)=_;rw[u0]) (aay rfl) R pz cx X ds outs [] s br W F acc st (by simpa using hsz) h) m9
end
section
variable{pos:Pos}
def e1(σ:ba)(S:List XM)(d:V)(ds:List V):Prop:=d=.list ds\/∃a dd,d=.raw (.ref a)/\(a,cf.list (.type "list") dd ds)∈σ/\a∈S
theorem e1.list:e1 σ S (.list ds) ds:=.inl rfl
theorem e1.is{v:XF}(L:e1 σ S d ds)(W:a4 G σ pr s)(r:bu (aT σ pr) s.heap v d):∃a vs,v=.ref a/\s.heap.IsList a vs.toArray/\a5 (aT σ pr) s.heap vs ds/\a∉pr/\(a∈S\/a∉σ.at)/\a<s.heap.objs.size/\(∃o n,s.heap.get? a=some o/\o.cls=.type "list"/\o.data=.seq vs.toArray n):=by
 rcases L with rfl|⟨a,dd,rfl,hm,ki⟩
 ·refine bC λ_ a'=>?_
  refine fm r.iR λa vs n aB e p q=>?_
  subst aB
  refine a' ?_
  exact⟨a,vs,rfl,m3 e,q,p.2,.inr p.1,XX e,_,n,e,rfl,rfl⟩
 ·have:=r.dB
  subst this
  refine bC λ_ fq=>?_
  obtain⟨vs,n,bE,e,q,_⟩:=W.store _ hm
  refine fq ?_
  exact⟨a,vs.toList,rfl,⟨_,e,rfl,n,by simp⟩,q,W.apart a (YA (f:=λp:XM×cf=>p.1) hm),.inl ki,XX e,_,n,e,rfl,by simp⟩
theorem aN.comp(O:e0 G k sc σ S Γ bh iter ds)(ae:d3 G k (fP scope sc) σ bh da elt (hs scope Γ) xs ds outs)(hsz:outs.length<=YD)(au:autoParam (mq sc scope xs=true) aD)
  (aG:autoParam (∀env x,YM iter env x=pure x) aI):aN G k sc σ Γ (.ListComp elt [⟨bh,iter,da,0⟩] scope pos) (.list outs):=by
 intro A env pr s Q E R aa W F h
 have c:=gO.of au
 refine Zw (use:=none) (cl:=dC env.cells scope.names) rfl (aG env) (c.kS aa F) c.k c.loc ?_
 refine O A env pr s _ _ R aa W F λx aj ax fr=>fr _ _ λit wr bY St np ao aM cx cg cH dX st=>?_
 refine ye (f0:=λacc C=>compPost (model G.prog G.w) A E none Q acc C) c R aa W F (ax.trans aM) (cx _) cg cH (λb H=>(dX b H).1) st ae hsz ?_
 intro D C J ks br eY fV jr aw
 refine cS br λm hm=>?_
 refine⟨m,hm,λah c1=>?_⟩
 refine g8 aw λn vs a3 r=>?_
 have d0:KB (λb=>b=C) J {J with heap:=ah}:=.hr c1 rfl
 refine h _ _ ⟨λb o _ e=>d0.keep b o (λq=>XN _ (XE (XX e) (q▸fV))) (ks.get e),XC ks.size d0.size,ks.os,ks.gens⟩ (.list (n:=n) (vs:=vs) (d0.keep D _ (λq=>jr q.symm) a3) (W.gs eY) ?_)
 exact(r.aJ d0 λb H q=>q.2 (H▸.head _)).mono λb o q e=>⟨⟨q.1,λH=>q.2 (.tail _ (.tail _ H))⟩,e⟩
theorem e0.list{x:Str}(O:aN G k sc σ Γ e d)(cU:e1 σ S d ds):e0 G k sc σ S Γ (.Name x p) e ds:=by
 intro A env pr s Q E R aa W F h
 refine O A env pr s _ _ R aa W F λv aj ax a0=>h v aj ax λbX cI aA=>?_
 refine o' (cU.is (W.keep ax) a0) λa vs aB h1 e_ dY pA lt _=>?_
 subst aB
 refine aaQ h1 ?_
 have bx:bb aj {aj with heap:=aj.heap.push {cls:=.type "list_iterator",data:=.fields #[.ref a,.int 0 0]}}:=.push _ aj.toks
 refine aA _ [aj.heap.objs.size] [a] (x3 aj.heap.objs.size a) [aj.heap.objs.size] _ bx (λ_=>C' (Ys lt) R.handled λv s Q E i aq aR=>sE aR) (λb H=>?_) (λb H=>H) (λb H=>?_) ⟨vs,0,⟨_,XU _ rfl,rfl,rfl⟩,Heap.IsList.at h1 (λo e=>bx.get e),?_⟩
 ·rw[XD.mp H];exact⟨ax.size,by simp⟩
 ·rw[XD.mp H];exact⟨⟨dY,λq=>XN _ (XD.mp q▸lt),XE lt bx.size⟩,pA⟩
 ·exact e_.d' bx λb H=>by rw[XD.mp H];exact XT _
theorem e0.yf{iU:List Yy}{er:Nat}(O:aN G k sc σ Γ e d)(cU:e1 σ S d ds):e0 G k sc σ S Γ (.Tuple iU er p) e ds:=by
 intro A env pr s Q E R aa W F h
 refine O A env pr s _ _ R aa W F λv aj ax a0=>h v aj ax λbX cI aA=>?_
 refine o' (cU.is (W.keep ax) a0) λa vs aB h1 e_ dY pA lt _=>?_
 subst aB
 refine aaQ h1 ?_
 have bx:bb aj {aj with heap:=aj.heap.push {cls:=.type "list_iterator",data:=.fields #[.ref a,.int 0 0]}}:=.push _ aj.toks
 refine aA _ [aj.heap.objs.size] [a] (x3 aj.heap.objs.size a) [aj.heap.objs.size] _ bx (λ_=>C' (Ys lt) R.handled λv s Q E i aq aR=>Km aq aR) (λb H=>?_) (λb H=>H) (λb H=>?_) ⟨vs,0,⟨_,XU _ rfl,rfl,rfl⟩,Heap.IsList.at h1 (λo e=>bx.get e),?_⟩
 ·rw[XD.mp H];exact⟨ax.size,by simp⟩
 ·rw[XD.mp H];exact⟨⟨dY,λq=>XN _ (XD.mp q▸lt),XE lt bx.size⟩,pA⟩
 ·exact e_.d' bx λb H=>by rw[XD.mp H];exact XT _
inductive Calls(G:GE):XF->Prop
 |dV (id:String):Calls G (.builtin id)
 |type (T:String):Calls G (.type T)
 |func {f:XM} {o:Obj} {fd:acZ}:G.h₀.get? f=some o->o.data=.func fd->Calls G (.ref f)
theorem iY{f:XF}{first:List XF}{Q:XF->XG->Prop}(au:Calls G f)(R:cs A k)(aa:cT G sc env)(W:a4 G σ pr s)(F:bg σ pr s.heap env Γ)(O:gM G k sc σ Γ (e::aZ) ds)(he:X5 (e::aZ) env=(false,eval e env)::X5 aZ env)(fg:(Yw p (X5 aZ env)).any (·.1)=false)
  (h:∀vs J,bb s J->a5 (aT σ pr) J.heap vs ds->wpAny (model G.prog G.w) A (call f (first++vs)) Q E J):wpAny (model G.prog G.w) A (Z5 p f first (Yw p (X5 (e::aZ) env)) []) Q E s:=by
 have H:Yw p (X5 (e::aZ) env)=(false,eval e env)::Yw p (X5 aZ env):=by rw[he];rfl
 have km:(Yw p (X5 (e::aZ) env)).any (·.1)=false:=by rw[H,abu,fg];rfl
 have key:∀(f:XF) (bX:Args->XG->Prop),(∀vs J,bb s J->a5 (aT σ pr) J.heap vs ds->bX ⟨vs,[]⟩ J)->wpAny (model G.prog G.w) A (evalArgs f true (Yw p (X5 (e::aZ) env)) []) bX E s:=λf bX aR=>by
  rw[H]
  refine abp ?_
  exact H▸O A env pr s p _ _ R aa W F aR
 cases au with
 |dV id=>exact ZH km (key _ _ h)
 |type T=>exact abl km (key _ _ h)
 |func aP hd=>exact ag6 (o:=_) (fd:=_) (key _ _ λvs J bN bV=>⟨⟨bN.get (W.base _ _ aP),hd⟩,h vs J bN bV⟩)
theorem aN.call{f:XF}{dD:Yy}(hf:aN G k sc σ Γ dD (.raw f))(au:Calls G f)(O:gM G k sc σ Γ (e::aZ) ds)(ae:bW G k σ f ds d)
  (he:autoParam (dU e aZ) aI) (fg:autoParam (BT pos aZ) aI)
  (aR:autoParam (ik dD (e::aZ) pos) aI):aN G k sc σ Γ (.Call dD (e::aZ) [] pos) d:=by
 intro A env pr s Q E R aa W F h
 rw[aR]
 refine XA (hf A env pr s _ _ R aa W F λv aj ax a0=>?_)
 have cM:=a0.dB
 subst cM
 refine iY au R aa (W.keep ax) (F.keep ax) O (he env) (fg env) λvs ao aM bG=>?_
 exact ae A pr ao vs _ _ R ((W.keep ax).keep aM) bG λv J bN bV=>h v J ((ax.trans aM).trans bN) bV
def q1(T:String):V->Prop
 |.str _=>T = "str"
 |.int _=>T = "int"
 |.list _=>T = "list"
 |.tuple _=>T = "tuple"
 |_=>False
theorem q1.is{T:String}{P:XM->Prop}{v:XF}(h:q1 T d)(r:bu P s.heap v d):s.TypeIs v T/\∀a,v=.ref a->∃jV,s.heap.get? a=some jV/\jV.dict=none:=by
 cases r with
 |int i t=>obtain rfl:T = "int":=h;exact⟨rfl,λ_ e=>nomatch e⟩
 |str x t=>obtain rfl:T = "str":=h;exact⟨rfl,λ_ e=>nomatch e⟩
 |tuple e _ _=>obtain rfl:T = "tuple":=h;exact⟨⟨_,e,rfl⟩,λa q=>afG q▸⟨_,e,rfl⟩⟩
 |list e _ _=>obtain rfl:T = "list":=h;exact⟨⟨_,e,rfl⟩,λa q=>afG q▸⟨_,e,rfl⟩⟩
 |none=>exact aek h
 |bool b=>exact aek h
 |raw v=>exact aek h
theorem aN.pB{name:Str}{T:String}{d₀:V}(h0:aN G k sc σ Γ o d₀)(aU:q1 T d₀)(dY:ag1 T)(slot:Slot T name id)(jW:typeOf (.builtin id)=pure (.type "method_descriptor"))(O:gM G k sc σ Γ (e::aZ) ds)(ae:bW G k σ (.builtin id) (d₀::ds) d)
  (he:autoParam (dU e aZ) aI) (fg:autoParam (BT pos aZ) aI)
  (et:autoParam (∀env,YB o name env (eval o env)=eval o env) aI)
  (g':autoParam (∀env,((Yw pos (X5 (e::aZ) env)).all (λx=>!x.1)&&(backToKw pos (Zh [] env)).all (λx=>x.1.isSome)&&decide ((e::aZ).length+([]:List aab).length+(if([]:List aab).isEmpty then 0 else 1)<30))=true) aI)
  (ha:autoParam ((apos.endLine==pos.line)=true) aI):aN G k sc σ Γ (.Call (.Attribute o name apos) (e::aZ) [] pos) d:=by
 intro A env pr s Q E R aa W F h
 refine ZQ (et env) (g' env) ha dY slot jW (h0 A env pr s _ _ R aa W F λv aj ax a0=>⟨(aU.is a0).1,(aU.is a0).2,?_⟩)
 refine iY (.dV id) R aa (W.keep ax) (F.keep ax) O (he env) (fg env) λvs ao aM bG=>?_
 exact ae A pr ao (v::vs) _ _ R ((W.keep ax).keep aM) (.cons (a0.keep aM) bG) λv J bN bV=>h v J ((ax.trans aM).trans bN) bV
theorem aN.yg{name:Str}{T:String}{d₀:V}(h0:aN G k sc σ Γ o d₀)(aU:q1 T d₀)(dY:ag1 T)(slot:Slot T name id)(jW:typeOf (.builtin id)=pure (.type "method_descriptor"))(ae:bW G k σ (.builtin id) [d₀] d)
  (et:autoParam (∀env,YB o name env (eval o env)=eval o env) aI)
  (g':autoParam (∀env,((Yw pos (X5 [] env)).all (λx=>!x.1)&&(backToKw pos (Zh [] env)).all (λx=>x.1.isSome)&&decide (([]:List Yy).length+([]:List aab).length+(if([]:List aab).isEmpty then 0 else 1)<30))=true) aI)
  (ha:autoParam ((apos.endLine==pos.line)=true) aI):aN G k sc σ Γ (.Call (.Attribute o name apos) [] [] pos) d:=by
 intro A env pr s Q E R aa W F h
 refine ZQ (et env) (g' env) ha dY slot jW (h0 A env pr s _ _ R aa W F λv aj ax a0=>⟨(aU.is a0).1,(aU.is a0).2,?_⟩)
 refine ZH rfl (Z2 ?_)
 exact ae A pr aj [v] _ _ R (W.keep ax) (.cons a0 .nil) λv J bN bV=>h v J (ax.trans bN) bV
noncomputable def lG(a:Int)(n:Nat):List V:=(XO n).map λ(i:Nat)=>V.int (a+(i:Int))
theorem Dx{bX cI:XF->XG->Prop}{P:XM->Prop}{Dy:List XM}{r:XM}{a b:Int}{t u v:Tok}{x:Str}{cY:XG}(bK:A.handled=none)(ai:IsRange s.heap r a b 1 t u v)(aY:-(2^62)<=a)(q2:a<2^62)(H:-(2^62)<=b)(eP:b<2^62)(k0:cY.heap.objs.size<=s.heap.objs.size)
  (aA:∀aa wr bY St np ao,bb s ao->(∀Y,g9 G A Y (.Name x p) wr bY aa St)->(∀b∈np,cY.heap.objs.size<=b/\b<ao.heap.objs.size)->(∀b∈wr,b∈np)->(∀b∈bY,(b∉pr/\b∉np/\b<ao.heap.objs.size)/\(b∈S\/b∉σ.at))->
   St (aT σ (np++pr)) ao.heap (lG a (b-a).toNat)->bX (.ref aa) ao):wpAny (model G.prog G.w) A (pyIter (.ref r)) bX cI s:=by
 refine agU ai (small_one aY q2 H eP) ?_
 refine aA _ [s.heap.objs.size] [] (Dc s.heap.objs.size) [s.heap.objs.size] _ (.push _ s.toks) (λ_=>Kn bK) (λb H=>?_) (λb H=>H) (λb H=>cZ H) ⟨a,?_,?_⟩
 ·rw[XD.mp H];exact⟨k0,by simp⟩
 ·have:((lG a (b-a).toNat).length:Int)=adF a b 1:=by
   simp only[rangeSize_one]
   delta lG
   simp only[XJ,Yc]
   split<;>lia
  rw[this]
  exact XU _ rfl
 ·delta lG
  simp
theorem e0.q3{x:Str}{f:Yy}{n:Int}(hf:aN G k sc σ Γ f (.raw (.type "range")))(O:aN G k sc σ Γ e (.int n))(az:n<2^62)(jN:-(2^62)<=n)
  (he:autoParam (dU e []) aI)
  (aR:autoParam (ik f [e] pos) aI):e0 G k sc σ S Γ (.Name x p) (.Call f [e] [] pos) (lG 0 n.toNat):=by
 intro A env pr s Q E R aa W F h
 rw[aR]
 refine XA (hf A env pr s _ _ R aa W F λv aj ax a0=>?_)
 have cM:=a0.dB
 subst cM
 refine iY (.type _) R aa (W.keep ax) (F.keep ax) (.cons O .nil he) (he env) rfl λvs ao aM bG=>?_
 refine bB bG.inv1 λ_ aB a=>?_
 subst aB
 obtain⟨t,rfl⟩:=a.int_inv
 refine call_range_1 ?_
 have bx:bb ao {ao with heap:=ao.heap.push {cls:=.type "range",data:=.fields #[.int 0 ao.toks,.int n t,.int 1 (ao.toks+1)]},toks:=ao.toks+1+1}:=.push _ _
 refine h _ _ ((ax.trans aM).trans bx) λbX cI aA=>?_
 have:=Dx (S:=S) (G:=G) (σ:=σ) (pr:=pr) (P:=jk) (Dy:=[]) (x:=x) (p:=p) (cY:=s) (bX:=bX) (cI:=cI) R.handled (s:={ao with heap:=ao.heap.push {cls:=.type "range",data:=.fields #[.int 0 ao.toks,.int n t,.int 1 (ao.toks+1)]},toks:=ao.toks+1+1}) (XU _ rfl) aH aH jN az ((ax.trans aM).trans bx).size (by simpa using aA)
 exact this
theorem e0.u3{x:Str}{f:Yy}{n m:Int}(hf:aN G k sc σ Γ f (.raw (.type "range")))(O:aN G k sc σ Γ e (.int m))(ae:aN G k sc σ Γ b8 (.int n))(hm:m<2^62)(kX:-(2^62)<=m)(az:n<2^62)(jN:-(2^62)<=n)
  (he:autoParam (dU e [b8]) aI) (gY:autoParam (dU b8 []) aI)
  (aR:autoParam (ik f [e,b8] pos) aI):e0 G k sc σ S Γ (.Name x p) (.Call f [e,b8] [] pos) (lG m (n-m).toNat):=by
 intro A env pr s Q E R aa W F h
 rw[aR]
 refine XA (hf A env pr s _ _ R aa W F λv aj ax a0=>?_)
 have cM:=a0.dB
 subst cM
 refine iY (.type _) R aa (W.keep ax) (F.keep ax) (.cons O (.cons ae .nil gY) he) (he env) (by rw[gY];rfl) λvs ao aM bG=>?_
 refine gI bG.inv2 λ_ _ aB a b=>?_
 subst aB
 obtain⟨t,rfl⟩:=a.int_inv
 obtain⟨u,rfl⟩:=b.int_inv
 refine call_range_2 ?_
 have bx:bb ao {ao with heap:=ao.heap.push {cls:=.type "range",data:=.fields #[.int m t,.int n u,.int 1 ao.toks]},toks:=ao.toks+1}:=.push _ _
 refine h _ _ ((ax.trans aM).trans bx) λbX cI aA=>?_
 exact Dx (S:=S) (G:=G) (σ:=σ) (pr:=pr) (P:=jk) (Dy:=[]) (x:=x) (p:=p) (cY:=s) (bX:=bX) (cI:=cI) R.handled (s:={ao with heap:=ao.heap.push {cls:=.type "range",data:=.fields #[.int m t,.int n u,.int 1 ao.toks]},toks:=ao.toks+1}) (XU _ rfl) kX hm jN az ((ax.trans aM).trans bx).size aA
noncomputable def kn(ds:List V):List V:=ds.zipIdx.map λp=>V.tuple [.int (p.2:Int),p.1]
theorem e0.enum{iU:List Yy}{er:Nat}{f:Yy}(hf:aN G k sc σ Γ f (.raw (.type "enumerate")))(O:aN G k sc σ Γ e d)(cU:e1 σ S d ds)
  (he:autoParam (dU e []) aI)
  (aR:autoParam (ik f [e] pos) aI):e0 G k sc σ S Γ (.Tuple iU er p) (.Call f [e] [] pos) (kn ds):=by
 intro A env pr s Q E R aa W F h
 rw[aR]
 refine XA (hf A env pr s _ _ R aa W F λv aj ax a0=>?_)
 have cM:=a0.dB
 subst cM
 refine iY (.type _) R aa (W.keep ax) (F.keep ax) (.cons O .nil he) (he env) rfl λvs ao aM bG=>?_
 refine bB bG.inv1 λ_ aB a=>?_
 subst aB
 refine o' (cU.is ((W.keep ax).keep aM) a) λl vs aB js ko pl bE dE _=>?_
 subst aB
 refine agK js λah a3 bH hz aL=>?_
 have bx:bb ao {ao with heap:=ah}:=.heap aL (by rw[hz];exact Cw)
 refine h _ _ ((ax.trans aM).trans bx) λbX cI aA=>?_
 refine ag4 a3 ?_
 refine aA _ [ao.heap.objs.size+1,ao.heap.objs.size] [l] (x5 (ao.heap.objs.size+1) ao.heap.objs.size l) [ao.heap.objs.size+1,ao.heap.objs.size] _ (.refl _ _) (λ_=>Dd (Ys dE) (Ys (Y5 dE)) (abq _) R.handled) (λb H=>?_) (λb H=>H) (λb H=>?_) ⟨vs,0,.none,ds,a3,bH,Heap.IsList.at js (λo e=>bx.get e),?_,?_⟩
 ·have:=(ax.trans aM).size
  have pa:=hz
  rcases XH.mp H with rfl|H
  ·exact⟨XC this (YF _),by show _<ah.objs.size;lia⟩
  ·rw[XD.mp H];exact⟨this,by show _<ah.objs.size;lia⟩
 ·rw[XD.mp H]
  refine⟨⟨pl,λq=>?_,XE dE bx.size⟩,bE⟩
  rcases XH.mp q with q|q
  ·exact XN _ (aao (Yt _) (q▸dE))
  ·exact XN _ (XD.mp q▸dE)
 ·exact ko.d' bx λb H=>by
   rcases XH.mp H with rfl|H
   ·exact YF _
   ·exact(XD.mp H).symm▸XT _
 ·refine Yf λy _=>?_
  simp
end
mutual
noncomputable def V.py:V->aeu
 |.none=>.none
 |.bool b=>.bool b
 |.int i=>.int i
 |.str x=>.str x
 |.tuple l=>.tuple (V.hK l)
 |.list l=>.list (V.hK l)
 |.raw _=>.none
noncomputable def V.hK:List V->List aeu
 | []=>[]
 |d::ds=>d.py::V.hK ds
end
mutual
def V.fit:Nat->V->Prop
 |_,.none=>True
 |_,.bool _=>True
 |_,.int _=>True
 |_,.str x=>Ym x=true
 |0,.tuple _=>False
 |0,.list _=>False
 |n+1,.tuple l=>V.fits n l
 |n+1,.list l=>V.fits n l
 |_,.raw _=>False
def V.fits:Nat->List V->Prop
 |_,[]=>True
 |n,d::ds=>V.fit n d/\V.fits n ds
end
theorem V.WI(l:List V):V.hK l=l.map V.py:=by
 induction l with
 |nil=>rfl
 |cons d ds ih=>exact congrArg (d.py::·) ih
theorem V.yh{l:List V}:V.fits n l↔∀d∈l,V.fit n d:=by
 induction l with
 |nil=>exact⟨λ_ _ h=>(cZ h),λ_=>trivial⟩
 |cons d ds ih=>exact⟨λh=>ac3.mpr ⟨h.1,ih.mp h.2⟩,λh=>(ac3.mp h).imp id ih.mpr⟩
theorem bu.reads{P:XM->Prop}{v:XF}(n:Nat)(r:bu P h v d)(f:V.fit n d):∃as,Reads h v d.py as:=
 bu.rec (motive_1:=λv d _=>∀n,V.fit n d->∃as,Reads h v d.py as) (motive_2:=λvs ds _=>∀n,V.fits n ds->∃as,ReadsAll h vs (V.hK ds) as) (λ_ _=>⟨_,.none⟩) (λb _ _=>⟨_,.bool b⟩) (λi t _ _=>⟨_,.int i t⟩) (λx t _ _=>⟨_,.str x t⟩)
  (λe _ _ k n f=>by
   cases n with
   |zero=>exact f.elim
   |succ n=>exact(k n f).elim λas q=>⟨_,.tuple e rfl rfl q⟩)
  (λe _ _ k n f=>by
   cases n with
   |zero=>exact f.elim
   |succ n=>exact(k n f).elim λas q=>⟨_,.list e rfl rfl q⟩)
  (λ_ n f=>by cases n<;>exact f.elim) (λ_ _=>⟨_,.nil⟩) (λ_ _ k1 k2 n f=>(k1 n f.1).elim λ_ q=>(k2 n f.2).elim λ_ p=>⟨_,.cons q p⟩) r n f
theorem a5.reads{P:XM->Prop}{vs:List XF}(n:Nat)(r:a5 P h vs ds)(f:V.fits n ds):∃as,ReadsAll h vs (V.hK ds) as:=
 a5.ind (motive:=λvs ds=>V.fits n ds->∃as,ReadsAll h vs (V.hK ds) as) (λ_=>⟨_,.nil⟩) (λa _ k f=>(a.reads n f.1).elim λ_ q=>(k f.2).elim λ_ p=>⟨_,.cons q p⟩) r f
theorem V.yi(n:Nat)(d:V)(f:V.fit n d):d.py.canLay0=true/\d.py.depth<=n:=
 V.rec (motive_1:=λd=>∀n,V.fit n d->d.py.canLay0=true/\d.py.depth<=n) (motive_2:=λds=>∀n,V.fits n ds->afs (V.hK ds)=true/\adR (V.hK ds)<=n)
  (λ_ _=>⟨rfl,Yd _⟩) (λ_ _ _=>⟨rfl,Yd _⟩) (λ_ _ _=>⟨rfl,Yd _⟩) (λ_ n f=>⟨by cases n<;>exact f,Yd _⟩)
  (λ_ k n f=>by
   cases n with
   |zero=>exact f.elim
   |succ n=>exact⟨(k n f).1,aae (k n f).2⟩)
  (λ_ k n f=>by
   cases n with
   |zero=>exact f.elim
   |succ n=>exact⟨(k n f).1,aae (k n f).2⟩)
  (λ_ n f=>by cases n<;>exact f.elim) (λ_ _=>⟨rfl,Yd _⟩) (λ_ _ k1 k2 n f=>⟨Zl.mpr ⟨(k1 n f.1).1,(k2 n f.2).1⟩,Nat.max_le.mpr ⟨(k1 n f.1).2,(k2 n f.2).2⟩⟩) d n f
theorem V.shaped(f:V.fit n d)(az:n<=64):Z6 d.py=true:=by
 have:=V.yi n d f
 delta Z6
 simp only[this.1,Bool.true_and]
 exact decide_eq_true (XC this.2 az)
def gv(σ:ba)(d:V)(p:aeu):Prop:=Z6 p=true/\∀(pr:List XM) (G:GE) (s:XG) (v:XF),a4 G σ pr s->bu (aT σ pr) s.heap v d->∃as,Reads s.heap v p as
theorem gv.of(n:Nat)(f:V.fit n d)(az:autoParam (n<=64) aD):gv σ d d.py:=⟨V.shaped f az,λ_ _ _ _ _ r=>r.reads n f⟩
theorem gv.store{dd:Option XM}(n:Nat)(hm:(a,cf.list (.type "list") dd items)∈σ)(f:V.fits n items)(az:autoParam (n+1<=64) aD):gv σ (.raw (.ref a)) (.list (V.hK items)):=by
 refine⟨?_,λpr G s v W r=>?_⟩
 ·have:=V.shaped (n:=n+1) (d:=.list items) f az
  exact this
 ·have:=r.dB
  subst this
  refine bC λ_ a'=>?_
  obtain⟨vs,m,bE,e,q,_⟩:=W.store _ hm
  obtain⟨as,p⟩:=q.reads n f
  refine a' ?_
  exact⟨_,.list e rfl rfl p⟩
section
variable{pos:Pos}{pC:List V}{a b:Int}{iQ q4:aeu}
theorem cs.u4(R:cs A k):A.units+64<cLine:=by have:=R.units;lia
theorem cs.Dz(R:cs A k):A.units+65<cLine:=by have:=R.units;lia
theorem a8.eq(O:gv σ bZ iQ)(ae:gv σ d₂ q4):a8 G k σ (compareOp .Eq) bZ d₂ (.bool (Za iQ q4)):=λA pr s cN d2 Q E R W a0 bG h=>by
 obtain⟨as,pD⟩:=O.2 pr G s cN W a0
 obtain⟨bs,pE⟩:=ae.2 pr G s d2 W bG
 exact eq_dataH pD pE O.1 ae.1 R.u4 (h _ s (.refl _ _) (.bool _))
theorem a8.ne(O:gv σ bZ iQ)(ae:gv σ d₂ q4):a8 G k σ (compareOp .NotEq) bZ d₂ (.bool (!PyData.eqv iQ q4)):=λA pr s cN d2 Q E R W a0 bG h=>by
 obtain⟨as,pD⟩:=O.2 pr G s cN W a0
 obtain⟨bs,pE⟩:=ae.2 pr G s d2 W bG
 exact ne_dataH pD pE O.1 ae.1 R.u4 (h _ s (.refl _ _) (.bool _))
theorem a8.ii{op:XF->XF->Sem XF}{c:Int}(af:∀{A:Yz} {s:XG} {t u:Tok} {Q E:XF->XG->Prop},(∀z,Q (.int c z) {s with toks:=s.toks+1})->wpAny (model G.prog G.w) A (op (.int a t) (.int b u)) Q E s):a8 G k σ op (.int a) (.int b) (.int c):=λA pr s cN d2 Q E R W a0 bG h=>by
 obtain⟨t,rfl⟩:=a0.int_inv;obtain⟨u,rfl⟩:=bG.int_inv
 exact af λz=>h _ _ (.tok _) (.int _ _)
theorem a8.sN{op:XF->XF->Sem XF}{c:Bool}(af:∀{A:Yz} {s:XG} {t u:Tok} {Q E:XF->XG->Prop},Q (.bool c) s->wpAny (model G.prog G.w) A (op (.int a t) (.int b u)) Q E s):a8 G k σ op (.int a) (.int b) (.bool c):=λA pr s cN d2 Q E R W a0 bG h=>by
 obtain⟨t,rfl⟩:=a0.int_inv;obtain⟨u,rfl⟩:=bG.int_inv
 exact af (h _ s (.refl _ _) (.bool _))
theorem a8.u5:a8 G k σ (compareOp .Eq) (.int a) (.int b) (.bool (a==b)):=.sN λh=>eq_int h
theorem a8.yj:a8 G k σ (compareOp .NotEq) (.int a) (.int b) (.bool (a !=b)):=.sN λh=>ne_int h
theorem a8.m_:a8 G k σ (compareOp .Lt) (.int a) (.int b) (.bool (decide (a<b))):=.sN λh=>lt_int h
theorem a8.KL:a8 G k σ (compareOp .Gt) (.int a) (.int b) (.bool (decide (b<a))):=.sN λh=>gt_int h
theorem a8.DA:a8 G k σ (compareOp .LtE) (.int a) (.int b) (.bool (decide (a<=b))):=.sN λh=>PySem.P.le_int h
theorem DB{xs:List aeu}(h:Z6 (.list xs)=true):afs xs=true:=by
 delta Z6 at h
 rw[Yp]at h
 simpa [PyData.canLay0] using h.1
theorem DC{p:aeu}(h:Z6 p=true):p.canLay0=true/\p.depth<=64:=by
 delta Z6 at h
 rw[Yp]at h
 exact⟨h.1,of_decide_eq_true h.2⟩
theorem a8.KN{xs:List aeu}(O:gv σ bZ iQ)(ae:gv σ d₂ (.list xs)):a8 G k σ (compareOp .In) bZ d₂ (.bool (xs.any λy=>Za y iQ)):=λA pr s cN d2 Q E R W a0 bG h=>by
 obtain⟨as,pD⟩:=O.2 pr G s cN W a0
 obtain⟨bs,pE⟩:=ae.2 pr G s d2 W bG
 have a:=DC O.1
 have:=R.Dz
 exact ah1 pE pD (DB ae.1) a.1 (by have:=aaU (adR xs) iQ.depth;lia) (h _ s (.refl _ _) (.bool _))
theorem a8.KO{xs:List aeu}(O:gv σ bZ iQ)(ae:gv σ d₂ (.list xs)):a8 G k σ (compareOp .NotIn) bZ d₂ (.bool (!xs.any λy=>Za y iQ)):=λA pr s cN d2 Q E R W a0 bG h=>by
 obtain⟨as,pD⟩:=O.2 pr G s cN W a0
 obtain⟨bs,pE⟩:=ae.2 pr G s d2 W bG
 have a:=DC O.1
 have:=R.Dz
 exact ahZ pE pD (DB ae.1) a.1 (by have:=aaU (adR xs) iQ.depth;lia) (h _ s (.refl _ _) (.bool _))
theorem a8.addInt:a8 G k σ (binaryOp .Add) (.int a) (.int b) (.int (a+b)):=.ii λh=>add_int (h _)
theorem a8.pF:a8 G k σ (binaryOp .Sub) (.int a) (.int b) (.int (a-b)):=.ii λh=>sub_int (h _)
theorem KP{x:Int}(O:-(2^63)<x)(ae:x<2^63):Zz x<=64:=intBits_le_64 (by lia) (by lia)
theorem a8.KQ(O:-(2^63)<a)(ae:a<2^63):a8 G k σ (binaryOp .Mult) (.int a) (.int b) (.int (a*b)):=.ii λh=>PySem.P.mul_int (h _) (.of_left (KP O ae))
theorem a8.DD(H:b≠0):a8 G k σ (binaryOp .Mod) (.int a) (.int b) (.int (a.fmod b)):=.ii λh=>mod_int H (h _)
theorem a8.divInt(H:b≠0)(ar:ZZ a b=false):a8 G k σ (binaryOp .FloorDiv) (.int a) (.int b) (.int (a.fdiv b)):=.ii λh=>agO (by simpa using H) (by rw[ar];exact X') (h _)
theorem a8.KR(az:0<=b)(hsz:(Zz a:Int)*b<=2^27):a8 G k σ (binaryOp .Pow) (.int a) (.int b) (.int (a^b.toNat)):=.ii λh=>pow_int az hsz (h _)
theorem a8.KS(az:0<=b)(hsz:(Zz a:Int)+b<=2^27):a8 G k σ (binaryOp .LShift) (.int a) (.int b) (.int (a*2^b.toNat)):=.ii λh=>lshift_int az hsz (h _)
theorem a8.KU(az:0<=b):a8 G k σ (binaryOp .RShift) (.int a) (.int b) (.int (a.fdiv (2^b.toNat))):=.ii λh=>rshift_int az (h _)
theorem a8.KV:a8 G k σ (binaryOp .BitXor) (.int a) (.int b) (.int (Builtin.bitXor a b)):=.ii λh=>xor_int (h _)
theorem pd.hb:pd G k σ (unaryOp .USub) (.int a) (.int (-a)):=λA pr s cN Q E R W a0 h=>by
 refine cS a0.int_inv λt aB=>?_
 subst aB
 exact PySem.P.neg_int (h _ _ (.tok _) (.int _ _))
theorem pd.yk:pd G k σ (unaryOp .Invert) (.int a) (.int (acO a)):=λA pr s cN Q E R W a0 h=>by
 refine cS a0.int_inv λt aB=>?_
 subst aB
 exact invert_int (h _ _ (.tok _) (.int _ _))
theorem pd.not{b:Bool}(O:kh G k σ d b):pd G k σ (unaryOp .Not) d (.bool (!b)):=λA pr s cN Q E R W a0 h=>
 not_value (O A pr s cN _ _ R W a0 λJ bN=>h _ J bN (.bool _))
theorem a8.m'{x:Str}(hsz:x.length+y.length<=YD):a8 G k σ (binaryOp .Add) (.str x) (.str y) (.str (x++y)):=λA pr s cN d2 Q E R W a0 bG h=>by
 obtain⟨t,rfl⟩:=a0.str_inv;obtain⟨u,rfl⟩:=bG.str_inv
 exact ad6 (λfE cD=>h _ _ (.tok _) (.str _ _)) hsz
theorem a8.h2(hsz:ds.length+pC.length<=YD):a8 G k σ (binaryOp .Add) (.list ds) (.list pC) (.list (ds++pC)):=λA pr s cN d2 Q E R W a0 bG h=>by
 refine fm a0.iR λa vs n aB a3 cb cV=>?_
 subst aB
 refine fm bG.iR λb ws m aB bH dw dN=>?_
 subst aB
 have bx:bb s {s with heap:=s.heap.push {cls:=.type "list",data:=.seq (vs.toArray++ws.toArray)}}:=.push _ s.toks
 refine PySem.P.add_list a3 bH (h _ _ bx (.list (vs:=vs++ws) (n:=0) ?_ (W.gs (XT _)) ((cV.append dN).keep bx))) (by rw[X3,X3,cV.length,dN.length];exact hsz)
 rw[XU _ rfl]
 simp
theorem a8.KW(hsz:ds.length+pC.length<=YD)(O:ds≠[])(ae:pC≠[]):a8 G k σ (binaryOp .Add) (.tuple ds) (.tuple pC) (.tuple (ds++pC)):=λA pr s cN d2 Q E R W a0 bG h=>by
 refine fm a0.jM λa vs n aB a3 cb cV=>?_
 subst aB
 refine fm bG.jM λb ws m aB bH dw dN=>?_
 subst aB
 have bx:bb s {s with heap:=s.heap.push {cls:=.type "tuple",data:=.seq (vs.toArray++ws.toArray)}}:=.push _ s.toks
 have eJ:¬vs.toArray.isEmpty=true:=by
  intro q
  have:vs=[]:=by simpa using q
  subst this
  have:=cV.length
  exact O (acn.mp this.symm)
 have eX:¬ws.toArray.isEmpty=true:=by
  intro q
  have:ws=[]:=by simpa using q
  subst this
  have:=dN.length
  exact ae (acn.mp this.symm)
 refine PySem.P.add_tuple a3 bH eJ eX (h _ _ bx (.tuple (vs:=vs++ws) (n:=0) ?_ (W.gs (XT _)) ((cV.append dN).keep bx))) (by rw[X3,X3,cV.length,dN.length];exact hsz)
 rw[XU _ rfl]
 simp
theorem kh.bool{b:Bool}:kh G k σ (.bool b) b:=λA pr s v Q E R W r h=>by
 have:=r.bool_inv;subst this
 exact aaP (h s (.refl _ _))
theorem kh.int:kh G k σ (.int a) (a !=0):=λA pr s v Q E R W r h=>by
 refine cS r.int_inv λt aB=>?_
 subst aB
 exact ahy (h s (.refl _ _))
theorem kh.list(hsz:ds.length<2^62):kh G k σ (.list ds) (!ds.isEmpty):=λA pr s v Q E R W r h=>by
 refine fm r.iR λa vs n aB a3 cb cV=>?_
 subst aB
 have H:vs.toArray.isEmpty=ds.isEmpty:=by
  have:=cV.length
  rw[afm]
  cases vs<;>cases ds<;>simp at this ⊢
 refine ag3 (m3 a3) (by rw[X3,cV.length];exact mY) ?_
 exact H▸h _ (.tok _)
theorem a8.iZ{i:Int}(aq:0<=i)(ag:ds[i.toNat]?=some d)(hf:i<2^63):a8 G k σ getItem (.list ds) (.int i) d:=λA pr s cN d2 Q E R W a0 bG h=>by
 refine fm a0.iR λa vs n aB a3 cb cV=>?_
 subst aB
 refine cS bG.int_inv λt aB=>?_
 subst aB
 refine bB (cV.get ag) λv bJ ej=>?_
 exact agV (m3 a3) aq hf (x:=v) (by simpa using bJ) (h v s (.refl _ _) ej)
theorem a8.getLast(ag:ds.getLast?=some d)(hf:ds.length<2^62):a8 G k σ getItem (.list ds) (.int (-1)) d:=λA pr s cN d2 Q E R W a0 bG h=>by
 refine fm a0.iR λa vs n aB a3 cb cV=>?_
 subst aB
 obtain⟨t,rfl⟩:=bG.int_inv
 replace ag:=List.getLast?_eq_getElem?▸ag
 have kp:0<ds.length:=by
  cases ds with
  |nil=>simp at ag
  |cons _ _=>simp
 refine bB (cV.get ag) λv bJ ej=>?_
 have aw:=cV.length
 refine wpAny_getItem_list_neg (m3 a3) aH (by rw[X3,aw];lia) aH (x:=v) ?_ (h v s (.refl _ _) ej)
 rw[X3,aw]
 rw[(show((-1:Int)+(ds.length:Int)).toNat=ds.length-1 from Cr)]
 simpa using bJ
theorem a8.mr{i:Int}(aq:0<=i)(ag:ds[i.toNat]?=some d)(hf:i<2^63):a8 G k σ getItem (.tuple ds) (.int i) d:=λA pr s cN d2 Q E R W a0 bG h=>by
 refine fm a0.jM λa vs n aB a3 cb cV=>?_
 subst aB
 refine cS bG.int_inv λt aB=>?_
 subst aB
 refine bB (cV.get ag) λv bJ ej=>?_
 have ct:i.toNat<vs.length:=by
  rcases acH i.toNat vs.length with q|q
  ·exact q
  ·cases (X8 q).symm.trans bJ
 refine ahC (C4 a3) (by lia) hf (j:=i.toNat) (agp aq (by rw[X3];exact CK)) (x:=v) (by simpa using bJ) (h v s (.refl _ _) ej)
theorem a8.yl{i:Int}{x:Str}{c:Nat}(aq:0<=i)(ag:x.cps[i.toNat]?=some c)(hf:i<2^63):a8 G k σ getItem (.str x) (.int i) (.str ⟨#[c]⟩):=λA pr s cN d2 Q E R W a0 bG h=>by
 obtain⟨t,rfl⟩:=a0.str_inv
 obtain⟨u,rfl⟩:=bG.int_inv
 have ct:i.toNat<x.length:=by
  rcases acH i.toNat x.cps.size with q|q
  ·exact q
  ·cases (aa9 q).symm.trans ag
 refine PySem.P.getItem_str (by simp;lia) (c:=c) ?_ (h _ _ (.tok _) (.str _ _))
 rw[agp aq CK]
 exact ag
theorem aN.sub{value slice:Yy}{T:String}(O:aN G k sc σ Γ value bZ)(ae:aN G k sc σ Γ slice d₂)(aU:q1 T bZ)(aw:typeLookup (.type T) "__getitem__" = pure (some (.builtin id)))(a2:a8 G k σ getItem bZ d₂ d)
  (aG:autoParam (∀o i,ZG slice false o i=operate [o,i] (getItem o i)) aI):aN G k sc σ Γ (.Subscript value slice pos) d:=by
 intro A env pr s Q E R aa W F h
 refine abE (O A env pr s _ _ R aa W F λcN aj ax a0=>ae A env pr aj _ _ R aa (W.keep ax) (F.keep ax) λd2 ao aM bG=>?_)
 refine ago (aU.is (a0.keep aM)).1 aw ?_ (aG _ _)
 exact a2 A pr ao cN d2 _ _ R ((W.keep ax).keep aM) (a0.keep aM) bG λv J bN bV=>h v J ((ax.trans aM).trans bN) bV
theorem aN.gZ{value slice:Yy}(O:aN G k sc σ Γ value (.list ds))(ae:aN G k sc σ Γ slice d₂)(a2:a8 G k σ getItem (.list ds) d₂ d)(aG:autoParam (∀o i,ZG slice false o i=operate [o,i] (getItem o i)) aI):aN G k sc σ Γ (.Subscript value slice pos) d:=
 .sub O ae (T:="list") rfl slot_list_getitem.lookup a2 aG
theorem aN.mu{value slice:Yy}(O:aN G k sc σ Γ value (.tuple ds))(ae:aN G k sc σ Γ slice d₂)(a2:a8 G k σ getItem (.tuple ds) d₂ d)(aG:autoParam (∀o i,ZG slice false o i=operate [o,i] (getItem o i)) aI):aN G k sc σ Γ (.Subscript value slice pos) d:=
 .sub O ae (T:="tuple") rfl slot_tuple_getitem.lookup a2 aG
theorem aN.u6{value slice:Yy}{x:Str}(O:aN G k sc σ Γ value (.str x))(ae:aN G k sc σ Γ slice d₂)(a2:a8 G k σ getItem (.str x) d₂ d)(aG:autoParam (∀o i,ZG slice false o i=operate [o,i] (getItem o i)) aI):aN G k sc σ Γ (.Subscript value slice pos) d:=
 .sub O ae (T:="str") rfl F.slot_str_getitem.lookup a2 aG
def jt(G:GE)(k:Nat)(sc:YI)(σ:ba)(Γ:bD):Option Yy->Option Int->Prop
 |none,o=>o=none
 |some e,o=>∃i,o=some i/\aN G k sc σ Γ e (.int i)
theorem jt.none:jt G k sc σ Γ none none:=rfl
theorem jt.some(h:aN G k sc σ Γ e (.int a)):jt G k sc σ Γ (some e) (some a):=⟨a,rfl,h⟩
noncomputable def f3(o:Option Int)(t:Tok):XF:=match o with|Option.none=>Value.none|Option.some i=>.int i t
theorem q5(o:Option Int)(t:Tok):IsPart (f3 o t) o:=by cases o with|none=>exact .none|some i=>exact .int i t
theorem jt.part{x:Option Yy}{o:Option Int}(DE:jt G k sc σ Γ x o){Q:XF->XG->Prop}(R:cs A k)(aa:cT G sc env)(W:a4 G σ pr s)(F:bg σ pr s.heap env Γ)
  (h:∀v J,bb s J->(∃t:Tok,v=f3 o t)->Q v J):wpAny (model G.prog G.w) A (evalPart x env) Q E s:=by
 cases x with
 |none=>
  have:=DE
  subst this
  exact XK (h _ s (.refl _ _) ⟨0,rfl⟩)
 |some e=>
  refine bC λ_ a'=>?_
  obtain⟨i,rfl,he⟩:=DE
  refine a' ?_
  exact he A env pr s _ _ R aa W F λv J bN bV=>by
   refine cS bV.int_inv λt aB=>?_
   subst aB
   exact h _ J bN ⟨t,rfl⟩
noncomputable def fQ(xs:List α)(lo aq st:Option Int):List α:=(sliceRange (sliceBounds lo aq st xs.length).1 (sliceBounds lo aq st xs.length).2.1 (sliceBounds lo aq st xs.length).2.2).filterMap (xs[·]?)
theorem a5.pick{P:XM->Prop}{vs:List XF}(r:a5 P h vs ds)(pG:List Nat):a5 P h (pG.filterMap (vs[·]?)) (pG.filterMap (ds[·]?)):=by
 induction pG with
 |nil=>exact .nil
 |cons j pG ih=>
  simp only[Z8,Z8]
  cases e:ds[j]? with
  |none=>
   have:vs[j]?=Option.none:=by
    rw[aez]at e ⊢
    rw[r.length];exact e
   rw[this];exact ih
  |some d=>
   refine bB (r.get e) λv bJ ej=>?_
   rw[bJ];exact .cons ej ih
theorem listAt{l:XM}{vs:Array XF}(x:h.IsList l vs)(k:∀o,h.get? l=some o->ah.get? l=some o):ah.IsList l vs:=by obtain⟨o,e,q⟩:=x;exact⟨o,k o e,q⟩
theorem aN.DF{value:Yy}{lo aq st:Option Yy}{fR f5 os:Option Int}(cU:e1 σ S d ds)(O:aN G k sc σ Γ value d)(aw:jt G k sc σ Γ lo fR)(bK:jt G k sc σ Γ aq f5)(aG:jt G k sc σ Γ st os)(h0:os≠some 0)(hsz:ds.length<=YD)
  (hI:autoParam (∀o i,∃kq,ZG (.Slice lo aq st p) false o i=operate kq (getItem o i)) aX):aN G k sc σ Γ (.Subscript value (.Slice lo aq st p) pos) (.list (fQ ds fR f5 os)):=by
 intro A env pr s Q E R aa W F h
 refine abE (O A env pr s _ _ R aa W F λcN aj ax a0=>adw (aw.part R aa (W.keep ax) (F.keep ax) λKX ao aM ym=>bK.part R aa ((W.keep ax).keep aM) ((F.keep ax).keep aM) λKY bI cu yn=>aG.part R aa (((W.keep ax).keep aM).keep cu) (((F.keep ax).keep aM).keep cu) λvs bM dz sO=>?_))
 refine bC λ_ a'=>?_
 obtain⟨gw,rfl⟩:=ym;obtain⟨ht,rfl⟩:=yn;obtain⟨cG,rfl⟩:=sO
 obtain⟨a,ws,rfl,h1,e_,_,_,_,o,on,yo,KZ,WJ⟩:=cU.is (W.keep ax) a0
 refine a' ?_
 generalize DG:({bM with heap:=bM.heap.push {cls:=.type "slice",data:=.fields #[(f3 fR gw),(f3 f5 ht),(f3 os cG)]}}:XG)=ez
 have ol:bb aj ez:=((aM.trans cu).trans dz).trans (show bb bM ez from DG▸.push _ bM.toks)
 refine cS (hI (.ref a) (.ref bM.heap.objs.size)) λkq pH=>?_
 refine ago (T:="list") ⟨_,ol.get yo,KZ⟩ slot_list_getitem.lookup ?_ pH
 have K0:=(W.keep ax).keep ol
 have sP:bb ez {ez with heap:=ez.heap.push {cls:=.type "list",data:=.seq (slicePick ws.toArray fR f5 os)}}:=.push _ ez.toks
 refine wpAny_getItem_list_slice (listAt h1 λo e=>ol.get e) (by rw[<-DG];exact .new _ _ _ _) (q5 _ _) (q5 _ _) (q5 _ _) h0 ?_ (by rw[X3,e_.length];exact hsz)
 refine h _ _ ((ax.trans ol).trans sP) (.list (n:=0) (vs:=(sliceRange (sliceBounds fR f5 os ws.length).1 (sliceBounds fR f5 os ws.length).2.1 (sliceBounds fR f5 os ws.length).2.2).filterMap (ws[·]?)) ?_ (K0.gs (XT _)) ?_)
 ·rw[XU _ rfl]
  delta slicePick
  simp
 ·have:=((e_.keep ol).keep sP).pick (sliceRange (sliceBounds fR f5 os ws.length).1 (sliceBounds fR f5 os ws.length).2.1 (sliceBounds fR f5 os ws.length).2.2)
  unfold fQ
  rw[<-e_.length]
  exact this
theorem aN.i0{value:Yy}{lo aq st:Option Yy}{fR f5 os:Option Int}(O:aN G k sc σ Γ value (.list ds))(aw:jt G k sc σ Γ lo fR)(bK:jt G k sc σ Γ aq f5)(aG:jt G k sc σ Γ st os)(h0:os≠some 0)(hsz:ds.length<=YD)
  (hI:autoParam (∀o i,∃kq,ZG (.Slice lo aq st p) false o i=operate kq (getItem o i)) aX):aN G k sc σ Γ (.Subscript value (.Slice lo aq st p) pos) (.list (fQ ds fR f5 os)):=
 .DF (S:=[]) .list O aw bK aG h0 hsz hI
end
inductive hu where
 |next (σ:ba) (Γ:bD)
 |brk (σ:ba) (Γ:bD)
 |ret (σ:ba) (d:V)
noncomputable def hu.st:hu->ba
 |.next σ _=>σ
 |.brk σ _=>σ
 |.ret σ _=>σ
def hu.at(G:GE)(env:Env)(pr:List XM)(J:XG):hu->Flow->Prop
 |.next σ Γ,f=>f=.next/\a4 G σ pr J/\bg σ pr J.heap env Γ
 |.brk σ Γ,f=>f=.brk/\a4 G σ pr J/\bg σ pr J.heap env Γ
 |.ret σ d,f=>a4 G σ pr J/\∃v,f=.ret v/\bu (aT σ pr) J.heap v d
def iu(sc:YI)(x:Str):Prop:=sc.names.lookup x=some .local\/sc.names.lookup x=some .cell
def eb(sc:YI)(env:Env)(b:XM):Prop:=b=env.locals\/∃x,iu sc x/\env.cells.lookup x=some b
theorem eb.b0(h:eb sc env b):b0 env b:=h.imp_right λq=>bB q λx _ ag=>⟨x,mem_of_lookup ag⟩
theorem hX.eb(h:hX env xs b)(aL:∀x∈xs,iu sc x):eb sc env b:=h.imp_right λq=>bB q λx hm ag=>⟨x,aL x hm,ag⟩
structure b4(C:XM->Prop)(σ Y:ba)(s J:XG):Prop where
 aJ:KB C s J
 new:∀b∈Y.at,b∈σ.at\/s.heap.objs.size<=b
 old:∀b∈σ.at,b∈Y.at
section
variable{C:XM->Prop}
theorem b4.of(aJ:KB C s J):b4 C σ σ s J:=⟨aJ,λ_ h=>.inl h,λ_ h=>h⟩
theorem b4.dF(aJ:bb s J):b4 C σ σ s J:=⟨aJ.mono λ_ q=>q.elim,λ_ h=>.inl h,λ_ h=>h⟩
theorem b4.trans(O:b4 C σ a9 s aj)(ae:b4 om a9 cC aj ao)(br:∀b,om b->C b\/s.heap.objs.size<=b):b4 C σ cC s ao:=
 ⟨⟨λb o c e=>ae.aJ.keep b o (λq=>(br b q).elim c λq=>XN _ (XE (XX e) q)) (O.aJ.keep b o c e),XC O.aJ.size ae.aJ.size,ae.aJ.os.trans O.aJ.os,O.aJ.gens.trans ae.aJ.gens⟩,λb H=>(ae.new b H).elim (O.new b) λq=>.inr (XC O.aJ.size q),λb H=>ae.old b (O.old b H)⟩
theorem b4.trans'(O:b4 C σ a9 s aj)(ae:b4 C a9 cC aj ao):b4 C σ cC s ao:=O.trans ae λ_ q=>.inl q
theorem b4.mono(h:b4 C σ Y s J)(br:∀b,C b->om b):b4 om σ Y s J:=⟨h.aJ.mono br,h.new,h.old⟩
theorem b4.al(h:b4 C σ Y s J){o:Obj}(aY:aT σ pr b)(e:s.heap.get? b=some o):aT Y pr b:=
 ⟨λq=>(h.new b q).elim aY.1 λq=>XN _ (XE (XX e) q),aY.2⟩
theorem bu.stp{v:XF}(r:bu (aT σ pr) s.heap v d)(h:b4 C σ Y s J)(br:∀b,C b->¬aT σ pr b):bu (aT Y pr) J.heap v d:=
 r.mono λb o p e=>⟨h.al p e,h.aJ.keep b o (λq=>br b q p) e⟩
theorem a5.stp{v:List XF}{d:List V}(r:a5 (aT σ pr) s.heap v d)(h:b4 C σ Y s J)(br:∀b,C b->¬aT σ pr b):a5 (aT Y pr) J.heap v d:=
 r.mono λb o p e=>⟨h.al p e,h.aJ.keep b o (λq=>br b q p) e⟩
theorem bg.stp(F:bg σ pr s.heap env Γ)(h:b4 C σ Y s J)(br:∀b,C b->¬aT σ pr b)(iT:∀b,C b->¬b0 env b):bg Y pr J.heap env Γ where
 ns:=by obtain⟨m,n⟩:=F.ns;exact⟨m,n.at' λo e=>h.aJ.keep _ o (λq=>iT _ q (.inl rfl)) e⟩
 vars:=λx d e=>(F.vars x d e).mono (λb o p e=>⟨h.al p e,h.aJ.keep b o (λq=>br b q p) e⟩) (λo e=>h.aJ.keep _ o (λq=>iT _ q (.inl rfl)) e) λc o au e=>h.aJ.keep c o (λq=>iT _ q (.inr ⟨x,mem_of_lookup au⟩)) e
 fL:=F.fL
 d1:=λx c hm=>by obtain⟨a,b,v,o,aP,hd⟩:=F.d1 x c hm;exact⟨a,b,v,o,h.aJ.keep c o (λq=>iT _ q (.inr ⟨x,hm⟩)) aP,hd⟩
 apart:=F.apart
 fT:=F.fT
theorem a4.ei{np:List XM}(W:a4 G σ (np++pr) s):a4 G σ pr s where
 ok:=W.ok
 base:=W.base
 store:=λp ar=>(W.store p ar).mono (λb o q e=>⟨uV q,e⟩) λo e=>e
 nodup:=W.nodup
 apart:=λb H q=>W.apart b H (XQ _ q)
 lt:=λb H=>W.lt b (H.imp_right (XQ _))
 above:=λb H=>W.above b (H.imp_right (XQ _))
theorem bg.ei{np:List XM}(F:bg σ (np++pr) h env Γ)(aw:env.locals∈pr)(au:∀x c,(x,c)∈env.cells->c∈pr):bg σ pr h env Γ where
 ns:=F.ns
 vars:=λx d e=>(F.vars x d e).mono (λb o p e=>⟨uV p,e⟩) (λo e=>e) λc o au e=>e
 fL:=aw
 d1:=λx c hm=>by obtain⟨a,b,v,q⟩:=F.d1 x c hm;exact⟨au x c hm,b,v,q⟩
 apart:=F.apart
 fT:=F.fT
theorem a4.drop{ec:ba}(W:a4 G (ec++σ) pr s):a4 G σ pr s where
 ok:=W.ok
 base:=W.base
 store:=λp ar=>(W.store p (XQ _ ar)).mono (λb o q e=>⟨⟨λh=>q.1 (by unfold ba.at;rw[Yx];exact XQ _ h),q.2⟩,e⟩) λo e=>e
 nodup:=by
  have:=W.nodup
  unfold ba.at at this
  rw[Yx]at this
  exact(Zd.mp this).2.1
 apart:=λb H=>W.apart b (by unfold ba.at;rw[Yx];exact XQ _ H)
 lt:=λb H=>W.lt b (H.imp_left λH=>by unfold ba.at;rw[Yx];exact XQ _ H)
 above:=λb H=>W.above b (H.imp_left λH=>by unfold ba.at;rw[Yx];exact XQ _ H)
theorem bu.drop{ec:ba}{v:XF}(r:bu (aT (ec++σ) pr) h v d):bu (aT σ pr) h v d:=
 r.mono λb o q e=>⟨⟨λh=>q.1 (by unfold ba.at;rw[Yx];exact XQ _ h),q.2⟩,e⟩
theorem a5.drop'{ec:ba}{v:List XF}{d:List V}(r:a5 (aT (ec++σ) pr) h v d):a5 (aT σ pr) h v d:=
 r.mono λb o q e=>⟨⟨λh=>q.1 (by unfold ba.at;rw[Yx];exact XQ _ h),q.2⟩,e⟩
theorem a4.freeze(W:a4 G ((a,.list (.type "list") none items)::σ) pr s):bu (aT σ pr) s.heap (.ref a) (.list items):=by
 refine bC λ_ a'=>?_
 obtain⟨vs,n,bE,e,r,aG⟩:=W.store _ (.head _)
 refine a' ?_
 have:=aG rfl
 subst this
 have aY:=(Yn.mp W.nodup).1
 exact .list (by rw[e]) ⟨aY,W.apart a (.head _)⟩ (r.mono λb o q e=>⟨⟨λh=>q.1 (.tail _ h),q.2⟩,e⟩)
end
def yp(G:GE)(sc:YI)(T:List XM)(σ:ba)(env:Env)(pr:List XM)(s:XG)(P:hu->Prop)(Q:Flow->XG->Prop):Prop:=∀o f J,P o->b4 (λb=>b∈T\/eb sc env b) σ o.st s J->o.at G env pr J f->Q f J
def K1(G:GE)(T:List XM)(σ:ba)(env:Env)(Γ:bD)(pr:List XM)(s:XG)(P:ba->V->Prop)(Q:XF->XG->Prop):Prop:=∀Y d v J,P Y d->b4 (·∈T) σ Y s J->a4 G Y pr J->bg Y pr J.heap env Γ->bu (aT Y pr) J.heap v d->Q v J
def K2(G:GE)(T:List XM)(σ:ba)(pr:List XM)(s:XG)(P:ba->V->Prop)(Q:XF->XG->Prop):Prop:=∀Y d v J,P Y d->b4 (·∈T) σ Y s J->a4 G Y pr J->bu (aT Y pr) J.heap v d->Q v J
def bR(G:GE)(k:Nat)(sc:YI)(T:List XM)(σ:ba)(Γ:bD)(st:ZF)(P:hu->Prop):Prop:=
 ∀(A:Yz) (env:Env) (pr:List XM) (s:XG) (Q:Flow->XG->Prop) (E:XF->XG->Prop),cs A k->cT G sc env->a4 G σ pr s->bg σ pr s.heap env Γ->
  yp G sc T σ env pr s P Q->wpAny (model G.prog G.w) A (exec st env) Q E s
def cp(G:GE)(k:Nat)(sc:YI)(T:List XM)(σ:ba)(Γ:bD)(ju:List ZF)(P:hu->Prop):Prop:=
 ∀(A:Yz) (env:Env) (pr:List XM) (s:XG) (Q:Flow->XG->Prop) (E:XF->XG->Prop),cs A k->cT G sc env->a4 G σ pr s->bg σ pr s.heap env Γ->
  yp G sc T σ env pr s P Q->wpAny (model G.prog G.w) A (execs ju env) Q E s
def cc(G:GE)(k:Nat)(sc:YI)(T:List XM)(σ:ba)(Γ:bD)(e:Yy)(P:ba->V->Prop):Prop:=
 ∀(A:Yz) (env:Env) (pr:List XM) (s:XG) (Q E:XF->XG->Prop),cs A k->cT G sc env->a4 G σ pr s->bg σ pr s.heap env Γ->
  K1 G T σ env Γ pr s P Q->wpAny (model G.prog G.w) A (eval e env) Q E s
def cy(G:GE)(k:Nat)(T:List XM)(σ:ba)(f:XF)(ds:List V)(P:ba->V->Prop):Prop:=
 ∀(A:Yz) (pr:List XM) (s:XG) (vs:List XF) (Q E:XF->XG->Prop),cs A k->a4 G σ pr s->a5 (aT σ pr) s.heap vs ds->
  K2 G T σ pr s P Q->wpAny (model G.prog G.w) A (call f vs) Q E s
section
variable{pos:Pos}{st:ZF}
theorem cc.of(h:aN G k sc σ Γ e d):cc G k sc T σ Γ e (λY dM=>Y=σ/\dM=d):=by
 intro A env pr s Q E R aa W F aA
 exact h A env pr s Q E R aa W F λv J bN bV=>aA σ d v J ⟨rfl,rfl⟩ (.dF bN) (W.keep bN) (F.keep bN) bV
theorem cc.mono(h:cc G k sc T σ Γ e gP)(cz:∀Y d,gP Y d->R Y d):cc G k sc T σ Γ e R:=by
 intro A env pr s Q E R aa W F aA
 exact h A env pr s Q E R aa W F (λY d v J p=>aA Y d v J (cz _ _ p))
theorem cy.mono{f:XF}(h:cy G k T σ f ds gP)(cz:∀Y d,gP Y d->R Y d):cy G k T σ f ds R:=by
 intro A pr s vs Q E R W r aA
 exact h A pr s vs Q E R W r (λY d v J p=>aA Y d v J (cz _ _ p))
theorem cy.room{f:XF}{j:Nat}(h:cy G k T σ f ds R)(bq:k<=j):cy G j T σ f ds R:=λA pr s vs Q E R=>h A pr s vs Q E (R.mono bq)
theorem bW.room{f:XF}{j:Nat}(h:bW G k σ f ds d)(bq:k<=j):bW G j σ f ds d:=λA pr s vs Q E R=>h A pr s vs Q E (R.mono bq)
theorem cy.DH{f:XF}(h:cy G k [] σ f ds (λY dM=>Y=σ/\dM=d)):bW G k σ f ds d:=by
 intro A pr s vs Q E R W r aA
 refine h A pr s vs Q E R W r (λY dM v J p st bc bV=>?_)
 obtain⟨rfl,rfl⟩:=p
 exact aA v J (st.aJ.mono λ_ q=>by simp at q) bV
theorem bR.mono(h:bR G k sc T σ Γ st eA)(cz:∀o,eA o->P o):bR G k sc T σ Γ st P:=by
 intro A env pr s Q E R aa W F aA
 exact h A env pr s Q E R aa W F (λo f J p=>aA o f J (cz _ p))
theorem cp.mono(h:cp G k sc T σ Γ bS eA)(cz:∀o,eA o->P o):cp G k sc T σ Γ bS P:=by
 intro A env pr s Q E R aa W F aA
 exact h A env pr s Q E R aa W F (λo f J p=>aA o f J (cz _ p))
theorem cp.nil(h:P (.next σ Γ)):cp G k sc T σ Γ [] P:=by
 intro A env pr s Q E R aa W F aA
 exact aa_ (aA _ _ s h (.of (.refl _ _)) ⟨rfl,W,F⟩)
theorem cp.cons(O:bR G k sc T σ Γ st eA)(ae:∀o,eA o->match o with
  |.next a9 Γ₁=>∃T',(∀b∈T',b∈T\/(b∈a9.at/\b∉σ.at))/\cp G k sc T' a9 Γ₁ bS P
  |o=>P o):cp G k sc T σ Γ (st::bS) P:=by
 intro A env pr s Q E R aa W F aA
 refine Ze (O A env pr s _ _ R aa W F (λo f aj p gx jX=>?_))
 have:=ae o p
 cases o with
 |next a9 Γ₁=>
  obtain⟨T',jv,ae⟩:=this
  obtain⟨rfl,cA,cX⟩:=jX
  refine ae A env pr aj _ _ R aa cA cX (λo f J p fO yq=>aA o f J p (gx.trans fO (λb H=>H.elim (λH=>(jv b H).elim (λq=>.inl (.inl q)) λq=>(gx.new b q.1).elim (λp=>absurd p q.2) .inr) λq=>.inl (.inr q))) yq)
 |brk a9 Γ₁=>
  obtain⟨rfl,cA,cX⟩:=jX
  exact aA _ _ aj this gx ⟨rfl,cA,cX⟩
 |ret a9 d=>
  obtain⟨cA,v,rfl,r⟩:=jX
  exact aA _ _ aj this gx ⟨cA,v,rfl,r⟩
theorem cp.seq(O:bR G k sc T σ Γ st (·=.next a9 Γ₁))(ae:cp G k sc T a9 Γ₁ bS P):cp G k sc T σ Γ (st::bS) P:=
 .cons O λo aP=>by subst aP;exact⟨T,λb H=>.inl H,ae⟩
theorem cp.one(O:bR G k sc T σ Γ st P):cp G k sc T σ Γ [st] P:=
 .cons O λo aP=>by
  cases o with
  |next a9 Γ₁=>exact⟨T,λb H=>.inl H,.nil aP⟩
  |brk=>exact aP
  |ret=>exact aP
theorem DI{C:XM->Prop}(F:bg σ pr s.heap env Γ)(aJ:KB (hX env xs) s J)(iv:∀x∈xs,iu sc x):b4 (λb=>b∈T\/eb sc env b) σ σ s J:=.of (aJ.mono λb q=>.inr (q.eb iv))
theorem bR.letE{x:Str}(O:cc G k sc T σ Γ e R)(cz:∀Y d,R Y d->P (.next Y ((x,d)::Γ)))(ag:autoParam (sc.names.lookup x=some .local\/sc.names.lookup x=some .cell) aF)(aL:autoParam (sc.kind=.function) aI)
  (aG:autoParam (∀env,swapsWith e (some (.Name x pos)) p.line env=pure false) aI):bR G k sc T σ Γ (.Assign [.Name x pos] e p) P:=by
 intro A env pr s Q E R aa W F aA
 refine acw (O A env pr s _ _ R aa W F (λY d v J ar st bc b7 r=>?_)) (aG env)
 refine lD (by rw[aa.scope];exact aL) (by unfold Yh;rw[aa.scope];exact ag) b7 r λdn aJ iw=>?_
 refine aA _ _ dn (cz Y d ar) ?_ ⟨rfl,bc.aJ aJ λb H=>b7.c' b H.b0,iw⟩
 exact(st.mono λ_ q=>.inl q).trans (.of aJ) λb H=>.inl (.inr (H.eb λy bk=>by rw[XD.mp bk];exact ag))
theorem bR.eS{x:Str}(O:aN G k sc σ Γ e d)(ag:autoParam (sc.names.lookup x=some .local\/sc.names.lookup x=some .cell) aF)(aL:autoParam (sc.kind=.function) aI)
  (aG:autoParam (∀env,swapsWith e (some (.Name x pos)) p.line env=pure false) aI):bR G k sc T σ Γ (.Assign [.Name x pos] e p) (·=.next σ ((x,d)::Γ)):=
 .letE (.of O) (λY dM h=>by obtain⟨rfl,rfl⟩:=h;rfl) ag aL aG
theorem bR.unpack{cG:List Yy}{er:Nat}(O:aN G k sc σ Γ e d)(H:hH G k sc σ (.Tuple cG er pos) d Γ fo xs)(iv:∀x∈xs,iu sc x)
  (aG:autoParam (∀env,swapsWithSole [.Tuple cG er pos] e p.line env=pure false) aI) (bz:autoParam (∀env,env.scope=sc->swappedStores [.Tuple cG er pos] e env=pure none) aI) (e8:autoParam (∀env,(assignEach [.Tuple cG er pos] env).map (·.2)=[assign (.Tuple cG er pos) env]) aI):bR G k sc T σ Γ (.Assign [.Tuple cG er pos] e p) (·=.next σ fo):=by
 intro A env pr s Q E R aa W F aA
 refine agI (O A env pr s _ _ R aa W F λv J bN r=>?_) (aG env) (bz env aa.scope)
 rw[e8]
 refine H A env pr J v _ _ R aa (W.keep bN) (F.keep bN) r λdn aJ iw=>?_
 refine aA _ _ dn rfl ?_ ⟨rfl,(W.keep bN).aJ aJ λb H=>(F.keep bN).c' b H.b0,iw⟩
 exact(b4.dF bN).trans' (DI (C:=jk) (F.keep bN) aJ iv)
theorem bR.fz{test:Yy}{b:Bool}(h:fp G k sc σ Γ test b)(O:b=true->cp G k sc T σ Γ body P)(ae:b=false->cp G k sc T σ Γ orelse P):bR G k sc T σ Γ (.If test body orelse p) P:=by
 intro A env pr s Q E R aa W F aA
 refine wpAny_If (h A env pr s _ _ R aa W F λaj ax=>?_)
 have go:∀ju,cp G k sc T σ Γ ju P->wpAny (model G.prog G.w) A (execs ju env) Q E aj:=λju yr=>
  yr A env pr aj _ _ R aa (W.keep ax) (F.keep ax) (λo f J p st at'=>aA o f J p ((b4.dF ax).trans' st) at')
 cases b with
 |true=>exact go _ (O rfl)
 |false=>exact go _ (ae rfl)
theorem bR.ret(O:aN G k sc σ Γ e d):bR G k sc T σ Γ (.Return (some e) p) (·=.ret σ d):=by
 intro A env pr s Q E R aa W F aA
 exact Z9 (O A env pr s _ _ R aa W F λv J bN r=>aA _ _ J rfl (.dF bN) ⟨W.keep bN,v,rfl,r⟩)
theorem bR.sQ(O:cc G k sc T σ Γ e R)(cz:∀Y d,R Y d->P (.ret Y d)):bR G k sc T σ Γ (.Return (some e) p) P:=by
 intro A env pr s Q E R aa W F aA
 exact Z9 (O A env pr s _ _ R aa W F (λY d v J ar st bc b7 r=>aA _ _ J (cz _ _ ar) (st.mono λ_ q=>.inl q) ⟨bc,v,rfl,r⟩))
theorem bR.K3:bR G k sc T σ Γ (.Return none p) (·=.ret σ .none):=by
 intro A env pr s Q E R aa W F aA
 exact wpAny_Return_none (aA _ _ s rfl (.of (.refl _ _)) ⟨W,_,rfl,.none⟩)
theorem bR.expr(O:cc G k sc T σ Γ e R)(cz:∀Y d,R Y d->P (.next Y Γ))(aq:autoParam (∀env,env.scope=sc->interactive env=false) aC)(aG:autoParam (∀env,swapsWith e none p.line env=pure false) aI):bR G k sc T σ Γ (.Expr e p) P:=by
 intro A env pr s Q E R aa W F aA
 exact ahO (O A env pr s _ _ R aa W F (λY d v J ar st bc b7 r=>aA _ _ J (cz _ _ ar) (st.mono λ_ q=>.inl q) ⟨rfl,bc,b7⟩)) (aq env aa.scope) (aG env)
theorem bR.brk:bR G k sc T σ Γ (.Break p) (·=.brk σ Γ):=by
 intro A env pr s Q E R aa W F aA
 exact wpAny_Break (aA _ _ s rfl (.of (.refl _ _)) ⟨rfl,W,F⟩)
def hL(G:GE)(k:Nat)(sc:YI)(T:List XM)(ew:Yy)(body:List ZF)(P:hu->Prop):List V->ba->bD->Prop
 | [],σ,Γ=>P (.next σ Γ)
 |d::ds,σ,Γ=>∃Γ₁ xs eA,hH G k sc σ ew d Γ Γ₁ xs/\(∀x∈xs,iu sc x)/\cp G k sc T σ Γ₁ body eA/\∀o,eA o->match o with
  |.next Y fo=>hL G k sc T ew body P ds Y fo
  |.brk Y fo=>P (.next Y fo)
  |.ret Y d=>P (.ret Y d)
theorem bR.kY(es:e0 G k sc σ S Γ ew iter ds)(aU:∀b∈T,b∈σ.at)(ki:∀b∈S,b∉T)(cU:hL G k sc T ew body P ds σ Γ)(aG:autoParam (∀env x,YM iter env x=pure x) aI):bR G k sc T σ Γ (.For ew iter body [] pos) P:=by
 intro A env pr s Q E R aa W F aA
 refine wpAny_For (es A env pr s _ _ R aa W F λx aj ax fr=>fr _ _ λit wr bY St np ao aM cx cg cH dX st=>?_) (aG env)
 have jY:bb s ao:=ax.trans aM
 have bo:=W.d' jY (λb H=>(cg b H).1) λb H=>(cg b H).2
 have bQ:=F.d' jY λb H=>(cg b H).1
 have c':∀b,eb sc env b->b∈pr:=λb H=>F.c' b H.b0
 have na:∀b∈wr,b∈np++pr:=λb H=>XS _ (cH b H)
 have pI:∀b∈wr,¬b0 env b:=λb H q=>by
  have O:=W.lt b (.inr (F.c' b q))
  exact XN _ (XE O (cg b (cH b H)).1)
 have WK:∀b,b∈wr->∀{o},s.heap.get? b=some o->False:=λb H o e=>XN _ (XE (XX e) (cg b (cH b H)).1)
 let C:XM->Prop:=λb=>(b∈T\/eb sc env b)
 refine codeAny_forLoop_any (λn J=>∃dg Y fo,n=dg.length/\hL G k sc T ew body P dg Y fo/\b4 C σ Y s J/\a4 G Y (np++pr) J/\bg Y (np++pr) J.heap env fo/\St (aT Y (np++pr)) J.heap dg/\∀b∈T,b∈Y.at)
  (λn J es=>?_) ds.length ⟨ds,σ,Γ,rfl,cU,.dF jY,bo,bQ,st,aU⟩
 refine bC λg cE=>?_
 obtain⟨dg,Y,fo,az,nc,df,bc,b7,sR,jv⟩:=es
 have back:∀{e' lH} {dn:XG},bg e' (np++pr) dn.heap env lH->bg e' pr dn.heap env lH:=λiw=>iw.ei F.fL λx c hm=>(F.d1 x c hm).1
 have dy:∀{e'} b,b∈wr->¬aT e' (np++pr) b:=λb H q=>q.2 (na b H)
 have new:∀{dn:XG} (b:XM),b∈wr->(C b\/s.heap.objs.size<=b):=λb H=>.inr (cg b (cH b H)).1
 cases dg with
 |nil=>
  refine cE <| (cx Y).done (np++pr) J _ _ bc sR λdn aJ=>aa_ ?_
  have yt:=df.trans (.of aJ) (new (dn:=dn))
  exact aA _ _ dn nc yt ⟨rfl,(bc.aJ aJ na).ei,back (b7.aJ aJ (dy (e':=Y)) λb H=>pI b H)⟩
 |cons d dg=>
  obtain⟨Γ₁,xs,eA,lF,iv,nd,pJ⟩:=nc
  refine cE <| (cx Y).next (np++pr) J _ _ d dg bc na sR λv bI cu lI go=>?_
  dsimp only
  refine go _ _ λbM dz d7=>?_
  have oo:=cu.trans dz
  have e9:=bc.aJ oo na
  have eZ:=b7.aJ oo (dy (e':=Y)) λb H=>pI b H
  refine lF A env (np++pr) bM v _ _ R aa e9 eZ (lI.aJ dz (dy (e':=Y))) λez dA sS=>?_
  have lJ:=e9.aJ dA λb H=>eZ.c' b H.b0
  have sT:∀b∈bY,¬C b:=λb H q=>q.elim (λq=>(dX b H).2.elim (λh=>ki b h q) λh=>h (aU b q)) λq=>(dX b H).1.1 (c' b q)
  have sU:∀b∈wr,¬C b:=λb H q=>q.elim (λq=>XN _ (XE (W.lt b (.inl (aU b q))) (cg b (cH b H)).1)) λq=>pI b H q.b0
  have yu:=(cx Y).mono _ _ _ _ _ d7 (λb o p e=>⟨p,dA.keep b o (λq=>eZ.hW b q.b0 p) e⟩) λb o H e=>dA.keep b o (λq=>by
   have jP:C b:=.inr (q.eb iv)
   exact H.elim (λH=>sU b H jP) λH=>sT b H jP) e
  have yv:=(df.trans (.of oo) (new (dn:=bM))).trans (.of dA) λb q=>.inl (.inr (q.eb iv))
  refine nd A env (np++pr) ez _ _ R aa lJ sS (λo f hc p lK pK=>?_)
  have jN:=pJ o p
  have pL:=yv.trans' lK
  cases o with
  |next e' lH=>
   obtain⟨rfl,hv,kZ⟩:=pK
   refine⟨dg.length,by rw[az];exact Yt _,dg,e',lH,rfl,jN,pL,hv,kZ,?_,λb H=>lK.old b (jv b H)⟩
   refine(cx Y).mono _ _ _ _ _ yu (λb o p e=>⟨lK.al p e,lK.aJ.keep b o (λq=>q.elim (λq=>p.1 (jv b q)) λq=>p.2 (XQ _ (c' b q))) e⟩) λb o H e=>lK.aJ.keep b o (λq=>H.elim (λH=>sU b H q) λH=>sT b H q) e
  |brk e' lH=>
   obtain⟨rfl,hv,kZ⟩:=pK
   exact aA _ _ hc jN pL ⟨rfl,hv.ei,back kZ⟩
  |ret e' yw=>
   obtain⟨hv,v,rfl,r⟩:=pK
   exact aA _ _ hc jN pL ⟨hv.ei,v,rfl,r.ei⟩
end
section
variable{pos:Pos}{st:ZF}
theorem DJ(f:Str×XF->PUnit->Sem (ForInStep PUnit))(hf:∀n v u,f (n,v) u=(do storeName env n v;pure (.yield ⟨⟩)))(aL:env.scope.kind=.function)(names:List Str):
  ∀(vs:List XF) (ds:List V) (Γ:bD) (s:XG) (Q:PUnit->XG->Prop),names.length=ds.length->bg σ pr s.heap env Γ->a5 (aT σ pr) s.heap vs ds->(∀x∈names,env.kindOf x=some .local\/env.kindOf x=some .cell)->
   (∀J,KB (hX env names) s J->bg σ pr J.heap env ((names.zip ds).reverse++Γ)->Q ⟨⟩ J)->wpAny (model G.prog G.w) A (forIn (names.zip vs) ⟨⟩ f) Q E s:=by
 induction names with
 |nil=>exact λvs ds Γ s Q aw F r az h=>x2 (h s (.refl _ _) F)
 |cons x names ih=>
  intro vs ds Γ s Q aw F r az h
  rcases ds with _|⟨d,ds⟩
  ·exact Cs aw
  obtain⟨v,vs,rfl,a,r⟩:=r.jL
  refine qT ?_
  rw[hf]
  refine XA (lD aL (az x (.head _)) F a λaj ax cX=>XK ⟨_,rfl,ih vs ds _ aj Q (aep aw) cX (r.aJ ax λb H=>F.hW b H.b0) (λy bk=>az y (.tail _ bk)) λJ bN b7=>h J ?_ ?_⟩)
  ·exact(ax.mono λb H=>H.mono λy bk=>by rw[XD.mp bk];exact .head _).trans (bN.mono λb H=>H.mono λy bk=>.tail _ bk)
  ·simp only[aa1,ZI,YK]
   exact b7
def yx(G:GE)(k:Nat)(sc:YI)(cd:XF)(ix:Str)(T:List XM)(σ:ba)(Γ:bD)(ju:List ZF)(P:hu->Prop):Prop:=
 ∀(A:Yz) (env:Env) (pr:List XM) (s:XG) (Q:Flow->XG->Prop) (E:XF->XG->Prop),cs A k->cT G sc env->env.code=cd->env.qual=ix->a4 G σ pr s->bg σ pr s.heap env Γ->
  yp G sc T σ env pr s P Q->wpAny (model G.prog G.w) A (execs ju env) Q E s
theorem cp.yy(h:cp G k sc T σ Γ bS P):yx G k sc cd ix T σ Γ bS P:=λA env pr s Q E R aa _ _ W F=>h A env pr s Q E R aa W F
theorem yz{o:Obj}{fd:acZ}{vs ws:List XF}{Q:XF->XG->Prop}(aW:cs A (k+1))(W:a4 G σ pr s)
  (aP:s.heap.get? a=some o) (hd:o.data=.func fd) (oq:fd.scope=sc) (nd:fd.body=.stmts body) (yA:fd.globals=YJ) (u7:fd.builtins=Y6) (kr:s.heap.CodeRec fd.code fd.qualname)
  (yB:ahf s fd ⟨vs,[]⟩ (names.zip ws)) (b2:names.length=ds.length) (r:a5 (aT σ pr) s.heap ws ds)
  (fN:∀x c,(x,c)∈fd.closure->c∈pr/\∃v,s.heap.IsCell c v) (sF:fd.closure.Pairwise λx y=>x.2≠y.2) (x_:∀x c,(x,c)∈fd.closure->sc.names.lookup x=some .free) (m7:∀x,sc.names.lookup x=some .free->∃c,fd.closure.lookup x=some c)
  (c6:∀x d,gy.lookup x=some d->sc.names.lookup x=some .free/\∃c v,fd.closure.lookup x=some c/\s.heap.IsCell c (some v)/\bu (aT σ pr) s.heap v d)
  (eG:(sc.names.map (·.1)).Nodup) (k4:∀x∈names,iu sc x) (nf:sc.isCoroutine=false) (pM:sc.isGenerator=false) (aL:sc.kind=.function)
  (K4:∀x,sc.names.lookup x=some .free->fd.closure.lookup x=G.cl.lookup x) (dO:yx G k sc fd.code (fd.qualname++Yr ".<locals>.") T σ ((names.zip ds).reverse++gy) body P)
  (aA:∀o f J np,P o->b4 (λb=>b∈T) σ o.st s J->(match o with | .next Y _=>f=Value.none/\a4 G Y (np++pr) J | .brk Y _=>f=Value.none/\a4 G Y (np++pr) J | .ret Y d=>a4 G Y (np++pr) J/\bu (aT Y (np++pr)) J.heap f d)->Q f J) :
  wpAny (model G.prog G.w) A (call (.ref a) vs) Q E s:=by
 subst oq
 refine aa' (codeAny_call_function aW.limit aP hd nf pM nd kr (yB _ _ _ _ ?_))
 simp only[newFunctionEnv,aff,aa5,if_false]
 refine XA (agm ?_)
 refine XA (aeZ _ (λname kind cells=>by cases kind<;>rfl) _ _ _ _ ?_)
 rw[show({s with heap:=s.heap.push {cls:=.type "frame",data:=.dict #[]}}:XG).heap.objs.size=s.heap.objs.size+1 from Yk ..]
 have L:=x9 (scope:=fd.scope) (cl:=fd.closure) "frame" eG W fN sF x_
 generalize k6:({s with heap:=pushCells (s.heap.push {cls:=.type "frame",data:=.dict #[]}) fd.scope.names}:XG)=aj at L
 generalize hM:({scope:=fd.scope,locals:=s.heap.objs.size,globals:=fd.globals,cells:=cellsFrom (s.heap.objs.size+1) fd.scope.names fd.closure,qual:=fd.qualname++Yr ".<locals>.",func:=some a,code:=fd.code,frame:=some s.heap.objs.size,builtins:=fd.builtins}:Env)=env
 have eR:env.scope=fd.scope:=by rw[<-hM]
 have eI:env.locals=s.heap.objs.size:=by rw[<-hM]
 have fy:env.cells=cellsFrom (s.heap.objs.size+1) fd.scope.names fd.closure:=by rw[<-hM]
 generalize cg:s.heap.objs.size::(cellsFrom (s.heap.objs.size+1) fd.scope.names []).map (·.2)=np at L
 have k7:=L.keep
 have cA:a4 G σ (np++pr) aj:=W.d' k7 L.kl L.x8
 have cX:bg σ (np++pr) aj.heap env gy:={
  ns:=⟨_,eI▸L.ns⟩
  vars:=λx d e=>by
   obtain⟨ag,c,v,b8,au,bV⟩:=c6 x d e
   refine .inr ⟨.inr (by unfold Yh;rw[eR];exact ag),c,v,by rw[fy,L.old x ag];exact b8,au.keeps k7.all,bV.d' k7 L.kl⟩
  fL:=eI▸XS _ L.pj
  d1:=λx c hm=>by rw[fy]at hm;rw[eI];exact L.d1 x c hm
  apart:=by rw[fy];exact L.apart
  fT:=λx ag=>by
   delta Yh at ag
   rw[eR]at ag
   rw[fy]
   rcases ag with ag|ag
   ·exact L.own x ag
   ·exact(L.old x ag).symm▸m7 x ag}
 refine XA ?_
 refine DJ _ (λ_ _ _=>rfl) (by rw[eR];exact aL) names ws ds gy aj _ b2 cX (r.d' k7 L.kl) (λx ag=>by unfold Yh;rw[eR];exact k4 x ag) λao aM bQ=>XK ⟨?_,?_⟩
 ·have bo:=cA.aJ aM λb H=>cX.c' b H.b0
  exact W.ok.nolimit.keeps bo.base
 ·have bo:=cA.aJ aM λb H=>cX.c' b H.b0
  have ng:∀b,eb fd.scope env b->b∈np:=λb H=>by
   rcases H with rfl|⟨x,ag,au⟩
   ·exact eI.symm▸L.pj
   ·rw[fy]at au
    exact L.new x b au (by rcases ag with ag|ag<;>rw[ag]<;>decide)
  have iy:=λb H=>L.kl b (ng b H)
  refine codeAny_func (dO (A.deeper env) env (np++pr) ao _ _ (aW.deeper env) ⟨eR,by rw[<-hM];exact yA,by rw[<-hM];exact u7,λx ag=>by rw[fy,L.old x ag];exact K4 x ag⟩ (by rw[<-hM]) (by rw[<-hM]) bo bQ (λo f J ar st at'=>?_))
  have nh:=((b4.dF (C:=λb=>b∈T) k7).trans (.of aM) λb H=>.inr (iy b (H.eb k4))).trans st λb H=>H.elim .inl λH=>.inr (iy b H)
  cases o with
  |next Y fo=>
   obtain⟨rfl,bc,b7⟩:=at'
   exact aA _ _ J np ar nh ⟨rfl,bc⟩
  |brk Y fo=>
   obtain⟨rfl,bc,b7⟩:=at'
   exact aA _ _ J np ar nh ⟨rfl,bc⟩
  |ret Y d=>
   obtain⟨bc,v,rfl,bV⟩:=at'
   exact aA _ _ J np ar nh ⟨bc,bV⟩
structure i1(G:GE)(a:XM)(names:List Str)(sc:YI)(body:List ZF)(cd:XF)(ix:Str):Prop where
 ex:∃o fd,G.h₀.get? a=some o/\o.data=.func fd/\fd.scope=sc/\fd.body=.stmts body/\fd.globals=YJ/\fd.builtins=Y6/\fd.closure=[]/\G.h₀.CodeRec fd.code fd.qualname/\
  (∀vs:List XF,vs.length=names.length->bindArgs fd ⟨vs,[]⟩=pure (names.zip vs))/\fd.code=cd/\fd.qualname=ix
 c2:(sc.names.map (·.1)).Nodup
 nm:∀x∈names,iu sc x
 sV:∀x,sc.names.lookup x≠some .free
 co:sc.isCoroutine=false
 gen:sc.isGenerator=false
 kind:sc.kind=.function
def fa(G:GE)(a:XM)(names:List Str)(sc:YI)(body:List ZF):Prop:=∃cd ix,i1 G a names sc body cd ix
theorem i1.calls(h:i1 G a names sc body cd ix):Calls G (.ref a):=by obtain⟨o,fd,O,ae,_⟩:=h.ex;exact .func O ae
theorem fa.calls(h:fa G a names sc body):Calls G (.ref a):=by obtain⟨_,_,h⟩:=h;exact h.calls
theorem cy.sW(h:i1 G a names sc body cd ix)(b2:names.length=ds.length)(dO:yx G k sc cd (ix++Yr ".<locals>.") T σ (names.zip ds).reverse body P)
  (cz:∀o,P o->match o with | .next g0 _=>∃ec Y,g0=ec++Y/\(∀b∈σ.at,b∈Y.at)/\R Y .none | .brk _ _=>False | .ret g0 d=>∃ec Y,g0=ec++Y/\(∀b∈σ.at,b∈Y.at)/\R Y d):cy G (k+1) T σ (.ref a) ds R:=by
 intro A pr s vs Q E aW W r aA
 refine bC λ_ a'=>?_
 obtain⟨o,fd,O,ae,a2,b_,cn,gQ,dJ,fA,kt,pN,pO⟩:=h.ex
 refine a' ?_
 subst pN pO
 refine yz (gy:=[]) (ws:=vs) (ds:=ds) aW W (W.base _ _ O) ae a2 b_ cn gQ (fA.keeps W.base) (.of_eq (kt vs (by rw[r.length,b2]))) b2 r (by rw[dJ];intro _ _ q;cases q) (by rw[dJ];exact .nil) (by rw[dJ];intro _ _ q;cases q) (λx ag=>absurd ag (h.sV x)) (λx d e=>by simp at e) h.c2 h.nm h.co h.gen h.kind (λx ag=>absurd ag (h.sV x)) (by rw[Y0];exact dO) λo f J np ar st b9=>?_
 have:=cz o ar
 have fin:∀{ec Y:ba},b4 (λb=>b∈T) σ (ec++Y) s J->(∀b∈σ.at,b∈Y.at)->b4 (·∈T) σ Y s J:=λst aP=>⟨st.aJ,λb H=>st.new b (by unfold ba.at;rw[Yx];exact XQ _ H),aP⟩
 cases o with
 |next g0 sX=>
  obtain⟨ec,Y,rfl,aP,ai⟩:=this
  refine od b9 λbc=>?_
  exact aA Y _ _ J ai (fin st aP) bc.ei.drop .none
 |brk g0 sX=>exact this.elim
 |ret g0 DK=>
  obtain⟨ec,Y,rfl,aP,ai⟩:=this
  exact aA Y _ _ J ai (fin st aP) b9.1.ei.drop b9.2.ei.drop
theorem cy.of_body(h:fa G a names sc body)(b2:names.length=ds.length)(dO:cp G k sc T σ (names.zip ds).reverse body P)
  (cz:∀o,P o->match o with | .next g0 _=>∃ec Y,g0=ec++Y/\(∀b∈σ.at,b∈Y.at)/\R Y .none | .brk _ _=>False | .ret g0 d=>∃ec Y,g0=ec++Y/\(∀b∈σ.at,b∈Y.at)/\R Y d):cy G (k+1) T σ (.ref a) ds R:=by
 obtain⟨cd,ix,h⟩:=h
 exact .sW h b2 dO.yy cz
theorem bW.of_body(h:fa G a names sc body)(b2:names.length=ds.length)(dO:cp G k sc [] σ (names.zip ds).reverse body (·=.ret σ d)):bW G (k+1) σ (.ref a) ds d:=
 cy.DH (.of_body h b2 dO λo aP=>by subst aP;exact⟨[],σ,rfl,λ_ h=>h,rfl,rfl⟩)
theorem cc.call{f:XF}{dD:Yy}(hf:aN G k sc σ Γ dD (.raw f))(au:Calls G f)(O:gM G k sc σ Γ (e::aZ) ds)(ae:cy G k T σ f ds R)(aU:∀b∈T,b∈σ.at)
  (he:autoParam (dU e aZ) aI) (fg:autoParam (BT pos aZ) aI)
  (aR:autoParam (ik dD (e::aZ) pos) aI):cc G k sc T σ Γ (.Call dD (e::aZ) [] pos) R:=by
 intro A env pr s Q E aW aa W F aA
 rw[aR]
 refine XA (hf A env pr s _ _ aW aa W F λv aj ax a0=>?_)
 have cM:=a0.dB
 subst cM
 refine iY au aW aa (W.keep ax) (F.keep ax) O (he env) (fg env) λvs ao aM bG=>?_
 have bt:bb s ao:=ax.trans aM
 have bo:=W.keep bt
 have bQ:=F.keep bt
 refine ae A pr ao vs _ _ aW bo bG (λY d v J ar st bc bV=>aA Y d v J ar ((b4.dF bt).trans' st) bc ?_ bV)
 exact bQ.stp st (λb H q=>q.1 (aU b H)) λb H q=>bo.apart b (aU b H) (bQ.c' b q)
end
noncomputable abbrev hw(l:List Int):List V:=l.map V.int
section
variable{pos:Pos}{a b:Int}{x:Str}
theorem a5.sY{P:XM->Prop}{vs:List XF}(r:a5 P h vs (hw ns)):adE vs ns:=by
 induction ns generalizing vs with
 |nil=>rw[r.m2];exact .nil
 |cons n ns k=>
  refine gI r.jL λ_ _ aB a q=>?_
  subst aB
  refine cS a.int_inv λ_ aB=>?_
  subst aB
  exact .cons _ _ (k q)
theorem bW.len(cU:e1 σ S d ds)(hsz:ds.length<2^62):bW G k σ (.builtin "len") [d] (.int ds.length):=λA pr s vs Q E R W r h=>by
 refine bB r.inv1 λ_ aB bO=>?_
 subst aB
 refine qL (cU.is W bO) λa vs aB h1 e_ _=>?_
 subst aB
 refine call_len_list h1 (by rw[X3,e_.length];exact mY) ?_
 rw[X3,e_.length]
 exact h _ _ (.tok _) (.int _ _)
theorem bW.K5(hsz:x.length<2^62):bW G k σ (.builtin "len") [.str x] (.int x.length):=λA pr s vs Q E R W r h=>by
 refine bB r.inv1 λ_ aB bO=>?_
 subst aB
 obtain⟨t,rfl⟩:=bO.str_inv
 exact afI (by lia) (h _ _ (.tok _) (.int _ _))
theorem bW.sum(cU:e1 σ S d (hw ns)):bW G k σ (.builtin "sum") [d] (.int ns.sum):=λA pr s vs Q E R W r h=>by
 refine bB r.inv1 λ_ aB bO=>?_
 subst aB
 refine o' (cU.is W bO) λa vs aB h1 e_ dY pA lt _=>?_
 subst aB
 have aq:=a5.sY e_
 have b2:vs.length=ns.length:=by rw[e_.length];simp
 refine jO (call_sum_walkG (aaQ h1 ?_))
 have bx:bb s {s with heap:=s.heap.push {cls:=.type "list_iterator",data:=.fields #[.ref a,.int 0 0]}}:=.push _ s.toks
 refine⟨s.heap.objs.size,[s.heap.objs.size,a],[s.heap.objs.size],vs.toArray.size,_,_,λi=>ns.getD i 0,rfl,Walks.list (A:=A.in1) (show A.in1.handled=none from R.handled) _ a (Ys lt) vs.toArray,⟨⟨_,XU _ rfl,rfl,rfl⟩,Heap.IsList.at h1 (λo e=>bx.get e)⟩,λb H=>?_,λi v bJ=>?_,λah cD fE aL hz=>?_⟩
 ·rcases XH.mp H with rfl|H
  ·simp
  ·exact(XD.mp H).symm▸XE lt bx.size
 ·have pg:vs[i]?=some v:=by simpa using bJ
  obtain⟨w,bz,K6⟩:=e_.get (i:=i) (d:=V.int (ns.getD i 0)) (by
   have eQ:i<ns.length:=by
    rcases acH i vs.length with q|q
    ·exact JF
    ·cases (X8 q).symm.trans pg
   simp[XB,XI eQ])
  cases pg.symm.trans bz
  exact K6.int_inv
 ·have e:preSum (λi=>ns.getD i 0) vs.toArray.size=ns.sum:=by
   simp only[preSum_getD,X3,b2,abm]
  rw[e]
  refine h _ _ ⟨λb o _ a3=>aL b o (λq=>XN _ (XD.mp q▸XX a3)) (bx.get a3),hz,rfl,.refl _⟩ (.int _ _)
theorem bW.K7:bW G k σ (.builtin "isinstance") [.tuple ds,.raw (.type "tuple")] (.bool true):=λA pr s vs Q E R W r h=>by
 obtain⟨_,_,rfl,bO,dq⟩:=r.inv2;obtain rfl:=dq.dB;obtain⟨a,vs,n,rfl,e,_,_⟩:=bO.jM;exact IsiPair.tuple_tuple e rfl (h _ s (.refl _ _) (.bool _))
theorem bW.K8:bW G k σ (.builtin "isinstance") [.str x,.raw (.type "tuple")] (.bool false):=λA pr s vs Q E R W r h=>by
 obtain⟨_,_,rfl,bO,dq⟩:=r.inv2;obtain rfl:=dq.dB;obtain⟨t,rfl⟩:=bO.str_inv;exact IsiPair.str_tuple (h _ _ (.tok _) (.bool _))
theorem bW.K9:bW G k σ (.builtin "isinstance") [.str x,.raw (.type "int")] (.bool false):=λA pr s vs Q E R W r h=>by
 obtain⟨_,_,rfl,bO,dq⟩:=r.inv2;obtain rfl:=dq.dB;obtain⟨t,rfl⟩:=bO.str_inv;exact IsiPair.str_int (h _ _ (.tok _) (.bool _))
theorem bW.K_:bW G k σ (.builtin "isinstance") [.int a,.raw (.type "int")] (.bool true):=λA pr s vs Q E R W r h=>by
 obtain⟨_,_,rfl,bO,dq⟩:=r.inv2;obtain rfl:=dq.dB;obtain⟨t,rfl⟩:=bO.int_inv;exact IsiPair.int_int (h _ _ (.refl _ _) (.bool _))
theorem bW.yC:bW G k σ (.builtin "isinstance") [.int a,.raw (.type "bool")] (.bool false):=λA pr s vs Q E R W r h=>by
 obtain⟨_,_,rfl,bO,dq⟩:=r.inv2;obtain rfl:=dq.dB;obtain⟨t,rfl⟩:=bO.int_inv;exact IsiPair.int_bool (h _ _ (.tok _) (.bool _))
theorem bW.K'{b:Bool}:bW G k σ (.builtin "isinstance") [.bool b,.raw (.type "bool")] (.bool true):=λA pr s vs Q E R W r h=>by
 obtain⟨_,_,rfl,bO,dq⟩:=r.inv2;obtain rfl:=dq.dB;obtain rfl:=bO.bool_inv;exact IsiPair.bool_bool (h _ _ (.refl _ _) (.bool _))
theorem bW.divmod(H:b≠0)(ar:ZZ a b=false):bW G k σ (.builtin "divmod") [.int a,.int b] (.tuple [.int (a.fdiv b),.int (a.fmod b)]):=λA pr s vs Q E R W r h=>by
 obtain⟨_,_,rfl,bO,dq⟩:=r.inv2;obtain⟨t,rfl⟩:=bO.int_inv;obtain⟨u,rfl⟩:=dq.int_inv
 have q6:ZZ a b=false\/PylongRoom (model G.prog G.w) A s:=.inl ar
 refine divmod_int H ?_
 exact h _ _ (.push _ _) (.tuple (vs:=[.int (a.fdiv b) s.toks,.int (a.fmod b) (s.toks+1)]) (n:=0) (XU _ rfl) (W.gs (XT _)) (.cons (.int _ _) (.cons (.int _ _) .nil)))
theorem bW.yD:bW G k σ (.builtin "int.bit_length") [.int a] (.int (Zz a)):=λA pr s vs Q E R W r h=>by
 obtain⟨_,rfl,bO⟩:=r.inv1;obtain⟨t,rfl⟩:=bO.int_inv;exact call_int_bit_length (h _ _ (.tok _) (.int _ _))
theorem bW.La(aY:a.natAbs.log2<1920):bW G k σ (.type "str") [.int a] (.str (toString a)):=λA pr s vs Q E R W r h=>by
 obtain⟨_,rfl,bO⟩:=r.inv1;obtain⟨t,rfl⟩:=bO.int_inv;exact PySem.P.str_of_int aY (h _ _ (.tok _) (.str _ _))
theorem bW.Lb{n:Int}(az:ags x=some n)(aw:x.length<=640):bW G k σ (.type "int") [.str x] (.int n):=λA pr s vs Q E R W r h=>by
 obtain⟨_,rfl,bO⟩:=r.inv1;obtain⟨t,rfl⟩:=bO.str_inv;exact ahY az aw (h _ _ (.tok _) (.int _ _))
theorem bW.index{j:Nat}(cU:e1 σ S d (hw ns))(bq:j<ns.length)(hsz:ns.length<2^62)(fr:ns[j]=a)(k8:∀m (hm:m<ns.length),m<j->ns[m]≠a):bW G k σ (.builtin "list.index") [d,.int a] (.int j):=λA pr s vs Q E R W r h=>by
 refine bC λ_ a'=>?_
 refine gI r.inv2 λ_ _ aB bO dq=>?_
 subst aB
 refine cS dq.int_inv λt aB=>?_
 subst aB
 obtain⟨l,ws,rfl,h1,e_,dY,pA,lt,o,n,aP,au,hd⟩:=cU.is W bO
 obtain⟨cls,dd,data,bE⟩:=o
 refine a' ?_
 simp only at au hd
 subst au hd
 have b2:ws.length=ns.length:=by rw[e_.length];simp
 have item:∀m (hm:m<ns.length),∃u,ws[m]?=some (.int ns[m] u):=λm hm=>by
  refine bB (e_.get (i:=m) (d:=V.int ns[m]) (by simp[XI hm])) λv bJ ej=>?_
  refine cS ej.int_inv λu aB=>?_
  subst aB
  exact⟨u,bJ⟩
 have DL:∀m (hm:m<ws.toArray.size) (kX:m<ns.length),∃u,ws.toArray[m]=.int ns[m] u:=λm hm kX=>by
  refine cS (item m kX) λu dh=>?_
  refine⟨u,?_⟩
  rw[X3]at hm
  rw[XI hm]at dh
  simpa using dh
 let DM:XF->Bool:=λv=>match v with | .int i _=>i==a|_=>false
 refine adK aco ⟨_,aP,rfl⟩ F.entry_list_index (F.args_list_index_2 _ _) (ah0 l ws.toArray n dd bE (.int a t) DM j (by rw[X3,b2];exact bq) (by lia) ?_ ?_) ⟨aP,λy bk=>?_,?_⟩
 ·obtain⟨u,dh⟩:=DL j (by rw[X3,b2];exact bq) bq
  rw[dh]
  simp[DM,fr]
 ·intro m hm sZ
  have kX:m<ns.length:=by rw[X3,b2]at hm;exact hm
  obtain⟨u,dh⟩:=DL m hm kX
  rw[dh]
  have:=k8 m kX sZ
  exact beq_false_of_ne this
 ·obtain⟨m,hm,rfl⟩:=List.mem_iff_getElem.mp (by simpa using bk)
  obtain⟨u,dh⟩:=item m (by rw[<-b2];exact hm)
  rw[XI hm]at dh
  injection dh with dh
  rw[dh]
  exact(afe _ _ _ _).at _ _
 ·exact h _ _ (.tok _) (.int _ _)
inductive DN(aa a:XM)(P:XM->Prop)(h:Zu)(ds:List V):Prop
 |mk (vs:List XF) (aq:h.IsRevIter aa a ((ds.length:Int)-1)) (gR:ds.length<=vs.length) (aw:h.IsList a vs.toArray) (r:a5 P h (vs.take ds.length).reverse ds)
theorem Lc{aa a:XM}(b':a≠aa)(bK:A.handled=none){x:Str}:g9 G A σ (.Name x p) [aa] [a] aa (DN aa a) where
 mono:=λP P' h ah ds aG aL bz=>by
  cases aG with|mk vs aq gR aw r=>
  exact⟨vs,aq.at λo e=>bz aa o (.inl (.head _)) e,gR,Heap.IsList.at aw λo e=>bz a o (.inr (.head _)) e,r.mono aL⟩
 next:=λpr s Q E d ds W cH aG aA=>by
  cases aG with|mk vs aq gR aw r=>
  have es:¬aT σ pr aa:=λq=>q.2 (cH aa (.head _))
  have ct:ds.length<vs.length:=by have:=gR;rw[Yi]at this;exact n_
  have hd:(vs.take (d::ds).length).reverse=vs[ds.length]::(vs.take ds.length).reverse:=by
   simp
  rw[hd]at r
  refine d6 r.both λa1 bO=>?_
  refine wpAny_pyNext_rev_item (by simpa using aq) aw (x:=vs[ds.length]) (by simp[ct]) λah kT c1=>?_
  have k:KB (·∈[aa]) s {s with heap:=ah}:=.sameBut c1 (.head _)
  have br:∀b,b∈[aa]->¬aT σ pr b:=λb H=>by rcases XD.mp H with rfl;exact es
  exact aA _ {s with heap:=ah} k (a1.aJ k br) λbX cI aR=>sE (aR _ (.refl _ _) ⟨vs,kT,Ye ct,aw.extBut c1.extBut b',bO.aJ k br⟩)
 done:=λpr s Q E W aG aA=>by
  cases aG with|mk vs aq gR aw r=>
  refine jO (wpAny_pyNext_rev_end bK (by simpa using aq) λah he hz=>?_)
  exact aA _ (.extBut he (.head _) hz)
 self:=λP s Q E ds aG aA=>by
  cases aG with|mk vs aq gR aw r=>
  exact agk aq aA
theorem e0.reversed{x:Str}{f:Yy}(hf:aN G k sc σ Γ f (.raw (.type "reversed")))(O:aN G k sc σ Γ e d)(cU:e1 σ S d ds)
  (he:autoParam (dU e []) aI)
  (aR:autoParam (ik f [e] pos) aI):e0 G k sc σ S Γ (.Name x p) (.Call f [e] [] pos) ds.reverse:=by
 intro A env pr s Q E R aa W F h
 rw[aR]
 refine XA (hf A env pr s _ _ R aa W F λv aj ax a0=>?_)
 have cM:=a0.dB
 subst cM
 refine iY (.type _) R aa (W.keep ax) (F.keep ax) (.cons O .nil he) (he env) rfl λvs ao aM bG=>?_
 refine bB bG.inv1 λ_ aB a=>?_
 subst aB
 refine o' (cU.is ((W.keep ax).keep aM) a) λl vs aB js ko pl bE dE _=>?_
 subst aB
 refine call_reversed_list js ?_
 have bx:bb ao {ao with heap:=ao.heap.push (revObj l ((vs.toArray.size:Int)-1))}:=.push _ _
 refine h _ _ ((ax.trans aM).trans bx) λbX cI aA=>?_
 have aq:({ao with heap:=ao.heap.push (revObj l ((vs.toArray.size:Int)-1))}:XG).heap.IsRevIter ao.heap.objs.size l ((vs.toArray.size:Int)-1):=⟨_,XU _ rfl,rfl,rfl⟩
 refine agk aq ?_
 refine aA _ [ao.heap.objs.size] [l] (DN ao.heap.objs.size l) [ao.heap.objs.size] _ (.refl _ _) (λ_=>Lc (Ys dE) R.handled) (λb H=>?_) (λb H=>H) (λb H=>?_) ⟨vs,?_,?_,Heap.IsList.at js (λo e=>bx.get e),?_⟩
 ·exact(XD.mp H).symm▸⟨(ax.trans aM).size,by simp⟩
 ·rw[XD.mp H]
  exact⟨⟨pl,λq=>XN _ (XD.mp q▸dE),XE dE bx.size⟩,bE⟩
 ·rw[Zp,<-ko.length];have:=aq;rw[X3]at this;exact this
 ·rw[Zp,<-ko.length];exact XT _
 ·simp only[Zp,<-ko.length,abm]
  exact ko.reverse.d' bx λb H=>by rw[XD.mp H];exact XT _
end
theorem DO(xs:List α)(a b:Nat):((XO (b-a)).map (a+·)).filterMap (xs[·]?)=(xs.drop a).take (b-a):=by
 generalize b-a=m
 induction m generalizing a with
 |zero=>rfl
 |succ m ih=>
  simp only[Z',Yb,Z8,X_,(show((λx=>a+x)∘afu)=λx=>(a+1)+x from funext λx=>(Zt a x).symm),ih (a+1),acJ]
  by_cases h:a<xs.length
  ·simp only[XI h,YR h,afz]
  ·have h:=Yu h
   simp only[X8 h,aaa h,aaa (YP h),adn,adn]
theorem s4(xs:List α)(lo aq:Option Int):fQ xs lo aq none=(xs.drop (lo.elim 0 (clipAt xs.length))).take (aq.elim xs.length (clipAt xs.length)-lo.elim 0 (clipAt xs.length)):=by
 delta fQ
 rw[sliceBounds_plain]
 simp only
 simp only[sliceRange_one,DO]
theorem DP(m n:Nat):(max 0 (min (m:Int) (n:Int))).toNat=min m n:=by
 rcases abP m n with h|h
 ·simp only[ZP h,agS (abQ.mpr h),agB (YH _),X0]
 ·simp only[aaV h,Int.min_eq_right (abQ.mpr h),agB (YH _),X0]
theorem s5(n a:Nat):clipAt n (a:Int)=min a n:=by
 delta clipAt
 exact(if_neg (Int.not_lt.mpr (YH a)))▸DP a n
theorem DQ(n:Nat):clipAt n (-1)=n-1:=by
 delta clipAt
 rw[if_pos aH]
 cases n with
 |zero=>rfl
 |succ m=>
  rw[show(-1:Int)+((m+1:Nat):Int)=(m:Int)from Int.neg_add_cancel_left 1 m▸congrArg ((-1:Int)+·) (afa m 1),DP]
  exact ZP (YF m)
theorem DR(a b n:Nat):min (min b n-min a n) (n-a)=min (b-a) (n-a):=by
 rcases abP n a with h|h
 ·simp only[acX h,ahn,ahn]
 ·rw[ZP h]
  rcases abP b n with q|q
  ·rw[ZP q]
  ·rw[aaV q,ae5,aaV (afv q a)]
theorem yE(xs:List α)(a:Nat):xs.drop (min a xs.length)=xs.drop a:=by
 rcases abP a xs.length with h|h
 ·simp only[ZP h]
 ·simp only[aaV h,aaa h,agf]
theorem pick_from(xs:List α)(a:Nat):fQ xs (some (a:Int)) none none=xs.drop a:=by
 rw[s4]
 show(xs.drop (clipAt xs.length a)).take (xs.length-clipAt xs.length a)=_
 rw[s5,<-YG,abm,yE]
theorem q7(xs:List α)(a:Nat):fQ xs none (some (a:Int)) none=xs.take a:=by
 rw[s4]
 show xs.take (clipAt xs.length a)=_
 rw[s5]
 exact List.take_eq_take_min.symm
theorem pick_run(xs:List α)(a b:Nat):fQ xs (some (a:Int)) (some (b:Int)) none=(xs.take b).drop a:=by
 rw[s4]
 show(xs.drop (clipAt xs.length a)).take (clipAt xs.length b-clipAt xs.length a)=_
 rw[s5,s5,yE,List.drop_take,ae7,YG]
 exact DR ..
theorem Ld(xs:List α):fQ xs none (some (-1)) none=xs.dropLast:=by
 simp only[s4]
 show xs.take (clipAt xs.length (-1))=_
 simp only[DQ,ae_]
theorem Le(xs:List α)(a:Nat):fQ xs (some (a:Int)) (some (-1)) none=(xs.drop a).dropLast:=by
 rw[s4]
 show(xs.drop (clipAt xs.length a)).take (clipAt xs.length (-1)-clipAt xs.length a)=_
 rw[s5,DQ,yE,ae_,YG,ae7,YG,<-ZP (Zn xs.length 1),DR,Nat.sub_right_comm,ZP (Zn _ _)]
theorem Lf(xs:List α):fQ xs none none (some (-1))=xs.reverse:=by
 delta fQ
 rw[(show sliceBounds none none (some (-1)) xs.length=((xs.length:Int)-1,-1,-1)from rfl)]
 simp only
 delta sliceRange
 rw[if_neg aH]
 have au:(if(xs.length:Int)-1 > -1 then((xs.length:Int)-1 - -1 - -1-1) / (- -1)else 0)=(xs.length:Int):=by
  rw[show(- -1:Int)=1 from rfl,Int.ediv_one]
  split<;>lia
 simp only[au,X0]
 have a3:List.map (λ(k:Nat)=>((xs.length:Int)-1+-1*(k:Int)).toNat) (XO xs.length)=(XO xs.length).reverse:=by
  rw[ZU,List.reverse_range',<-ZU]
  refine Yf λk aL=>?_
  have:=X2.mp aL
  exact Ju
 have bH:(XO xs.length).filterMap (λx=>xs[x]?)=xs:=by
  have:=DO xs 0 xs.length
  simpa using this
 simp only[a3,List.filterMap_reverse,bH]
def cj[DecidableEq α](enc:α->V):Prop:=∀a b,Za (enc a).py (enc b).py=decide (a=b)
theorem DS[BEq α][LawfulBEq α][DecidableEq α](a b:α):(a==b)=decide (a=b):=aa0.mpr (beq_iff_eq.trans decide_eq_true_iff.symm)
theorem cj.int:cj V.int:=λ_ _=>rfl
theorem cj.nat:cj (λn:Nat=>V.int (n:Int)):=λa b=>(decide_eq_decide.mpr acg:decide ((a:Int)=b)=_)
theorem cj.bool:cj V.bool:=λa b=>DS a b
theorem cj.str:cj V.str:=λa b=>DS a b
theorem u9[DecidableEq α]{enc:α->V}(h:cj enc)(l m:List α):aeo (V.hK (l.map enc)) (V.hK (m.map enc))=decide (l=m):=by
 induction l generalizing m with
 |nil=>cases m<;>rfl
 |cons a l ih=>
  cases m with
  |nil=>rfl
  |cons b m=>
   show(Za (enc a).py (enc b).py&&aeo (V.hK (l.map enc)) (V.hK (m.map enc)))=_
   rw[h a b,ih,<-acP]
   exact decide_eq_decide.mpr List.cons_eq_cons.symm
theorem cj.list[DecidableEq α]{enc:α->V}(h:cj enc):cj (λl:List α=>V.list (l.map enc)):=λa b=>u9 h a b
theorem cj.u_[DecidableEq α][DecidableEq β]{enc:α->V}{jw:β->V}(h:cj enc)(ah:cj jw):cj (λp:α×β=>V.tuple [enc p.1,jw p.2]):=λa b=>by
 show(Za (enc a.1).py (enc b.1).py&&(Za (jw a.2).py (jw b.2).py&&true))=_
 rw[h,ah,ads,<-acP]
 exact decide_eq_decide.mpr aeT.symm
theorem cj.Lg{bl:Type}[DecidableEq α][DecidableEq β][DecidableEq bl]{enc:α->V}{jw:β->V}{pP:bl->V}(h:cj enc)(ah:cj jw)(jl:cj pP):cj (λp:α×β×bl=>V.tuple [enc p.1,jw p.2.1,pP p.2.2]):=λa b=>by
 show(Za (enc a.1).py (enc b.1).py&&(Za (jw a.2.1).py (jw b.2.1).py&&(Za (pP a.2.2).py (pP b.2.2).py&&true)))=_
 rw[h,ah,jl,ads,<-acP,<-acP]
 exact decide_eq_decide.mpr ((and_congr_right λ_=>aeT.symm).trans aeT.symm)
theorem DT[DecidableEq α]{enc:α->V}(h:cj enc)(a:α)(l:List α):(V.hK (l.map enc)).any (λy=>Za y (enc a).py)=decide (a∈l):=by
 induction l with
 |nil=>rfl
 |cons b l ih=>
  show(Za (enc b).py (enc a).py||(V.hK (l.map enc)).any λy=>Za y (enc a).py)=_
  rw[h b a,ih,<-Bool.decide_or]
  exact decide_eq_decide.mpr ((or_congr_left eq_comm).trans XH.symm)
def cO(n:Nat)(enc:α->V):Prop:=∀a,V.fit n (enc a)
theorem cO.fits{enc:α->V}(h:cO n enc)(l:List α):V.fits n (l.map enc):=V.yh.mpr λd hd=>by
 refine bB (XZ.mp hd) λa _ aB=>?_
 subst aB
 exact h a
theorem cO.list{enc:α->V}(h:cO n enc):cO (n+1) (λl:List α=>V.list (l.map enc)):=λl=>h.fits l
theorem cO.int:cO n V.int:=λ_=>by cases n<;>trivial
theorem cO.nat:cO n (λk:Nat=>V.int (k:Int)):=λk=>cO.int (k:Int)
theorem cO.bool:cO n V.bool:=λ_=>by cases n<;>trivial
theorem cO.u_{enc:α->V}{jw:β->V}(h:cO n enc)(ah:cO n jw):cO (n+1) (λp:α×β=>V.tuple [enc p.1,jw p.2]):=λ_=>⟨h _,ah _,trivial⟩
theorem cO.Lg{bl:Type}{enc:α->V}{jw:β->V}{pP:bl->V}(h:cO n enc)(ah:cO n jw)(jl:cO n pP):cO (n+1) (λp:α×β×bl=>V.tuple [enc p.1,jw p.2.1,pP p.2.2]):=λ_=>⟨h _,ah _,jl _,trivial⟩
section
variable{i2:List XM}{value slice:Yy}{pos:Pos}{a b:Int}{x:Str}
theorem gv.ls(cU:e1 σ S d ds)(n:Nat)(f:V.fits n ds)(az:autoParam (n+1<=64) aD):gv σ d (.list (V.hK ds)):=by
 rcases cU with rfl|⟨a,dd,rfl,hm,_⟩
 ·have:=gv.of (σ:=σ) (d:=.list ds) (n+1) f az
  exact this
 ·exact gv.store n hm f az
theorem a8.k9[DecidableEq α]{enc:α->V}{l m:List α}(h:cj enc)(n:Nat)(hf:cO n enc)(O:e1 σ S bZ (l.map enc))(ae:e1 σ i2 d₂ (m.map enc))(az:autoParam (n+1<=64) aD):a8 G k σ (compareOp .Eq) bZ d₂ (.bool (decide (l=m))):=by
 have:=a8.eq (G:=G) (k:=k) (gv.ls O n (hf.fits l) az) (gv.ls ae n (hf.fits m) az)
 rw[Za,u9 h]at this
 exact this
theorem a8.DU[DecidableEq α]{enc:α->V}{l m:List α}(h:cj enc)(n:Nat)(hf:cO n enc)(O:e1 σ S bZ (l.map enc))(ae:e1 σ i2 d₂ (m.map enc))(az:autoParam (n+1<=64) aD):a8 G k σ (compareOp .NotEq) bZ d₂ (.bool (!decide (l=m))):=by
 have:=a8.ne (G:=G) (k:=k) (gv.ls O n (hf.fits l) az) (gv.ls ae n (hf.fits m) az)
 rw[Za,u9 h]at this
 exact this
theorem a8.DV[DecidableEq α]{enc:α->V}{l:List α}{z:α}(h:cj enc)(n:Nat)(hf:cO n enc)(ae:e1 σ S d₂ (l.map enc))(az:autoParam (n+1<=64) aD):a8 G k σ (compareOp .In) (enc z) d₂ (.bool (decide (z∈l))):=by
 have:=a8.KN (G:=G) (k:=k) (gv.of (σ:=σ) n (hf z) o8) (gv.ls ae n (hf.fits l) az)
 rw[DT h]at this
 exact this
theorem a8.s6[DecidableEq α]{enc:α->V}{l:List α}{z:α}(h:cj enc)(n:Nat)(hf:cO n enc)(ae:e1 σ S d₂ (l.map enc))(az:autoParam (n+1<=64) aD):a8 G k σ (compareOp .NotIn) (enc z) d₂ (.bool (!decide (z∈l))):=by
 have:=a8.KO (G:=G) (k:=k) (gv.of (σ:=σ) n (hf z) o8) (gv.ls ae n (hf.fits l) az)
 rw[DT h]at this
 exact this
theorem a8.u'{i:Int}(cU:e1 σ S bZ ds)(aq:0<=i)(ag:ds[i.toNat]?=some d)(hf:i<2^63):a8 G k σ getItem bZ (.int i) d:=λA pr s cN d2 Q E R W a0 bG h=>by
 refine qL (cU.is W a0) λa vs aB h1 e_ _=>?_
 subst aB
 refine cS bG.int_inv λt aB=>?_
 subst aB
 refine bB (e_.get ag) λv bJ ej=>?_
 exact agV h1 aq hf (x:=v) (by simpa using bJ) (h v s (.refl _ _) ej)
theorem aN.va(cU:e1 σ S bZ ds)(O:aN G k sc σ Γ value bZ)(ae:aN G k sc σ Γ slice d₂)(a2:a8 G k σ getItem bZ d₂ d)(aG:autoParam (∀o i,ZG slice false o i=operate [o,i] (getItem o i)) aI):aN G k sc σ Γ (.Subscript value slice pos) d:=by
 intro A env pr s Q E R aa W F h
 refine abE (O A env pr s _ _ R aa W F λcN aj ax a0=>ae A env pr aj _ _ R aa (W.keep ax) (F.keep ax) λd2 ao aM bG=>?_)
 refine bC λ_ a'=>?_
 obtain⟨a,vs,rfl,h1,e_,_,_,_,o,n,aP,au,_⟩:=cU.is ((W.keep ax).keep aM) (a0.keep aM)
 refine a' ?_
 refine ago (T:="list") ⟨_,aP,au⟩ slot_list_getitem.lookup ?_ (aG _ _)
 exact a2 A pr ao (.ref a) d2 _ _ R ((W.keep ax).keep aM) (a0.keep aM) bG λv J bN bV=>h v J ((ax.trans aM).trans bN) bV
theorem aN.yF{name:Str}{T:String}{d₀:V}(h0:aN G k sc σ Γ o d₀)(aU:q1 T d₀)(dY:ag1 T)(slot:Slot T name id)(jW:typeOf (.builtin id)=pure (.type "method_descriptor"))(O:gM G k sc σ Γ (e::aZ) ds)(ae:bW G k σ (.builtin id) (d₀::ds) d)
  (he:autoParam (dU e aZ) aI) (fg:autoParam (BT pos aZ) aI)
  (et:autoParam (∀env,YB o name env (eval o env)=eval o env) aI)
  (g':autoParam (∀env,((Yw pos (X5 (e::aZ) env)).all (λx=>!x.1)&&(backToKw pos (Zh [] env)).all (λx=>x.1.isSome)&&decide ((e::aZ).length+([]:List aab).length+(if([]:List aab).isEmpty then 0 else 1)<30))=true) aI)
  (ha:autoParam ((apos.endLine==pos.line)=true) aI):aN G k sc σ Γ (.Call (.Attribute o name apos) (e::aZ) [] pos) d:=.pB h0 aU dY slot jW O ae he fg et g' ha
theorem Lh{l:List Nat}(h:l≠[]):(l.map λn:Nat=>V.int (n:Int)).getLast?=some (V.int ((l.getLastD 0:Nat):Int)):=by
 rw[List.getLast?_map,aey,adZ h]
 rfl
end
noncomputable abbrev ay(n:Nat):V:=V.int (n:Int)
abbrev aV(l:List Nat):List V:=l.map ay
theorem s7(f:α->β)(l:List α)(lo aq st:Option Int):fQ (l.map f) lo aq st=(fQ l lo aq st).map f:=by
 delta fQ
 rw[XJ]
 generalize sliceRange _ _ _=pG
 induction pG with
 |nil=>rfl
 |cons j pG ih=>
  rw[Z8,Z8,X1]
  cases h:l[j]? with
  |none=>exact ih
  |some a=>exact congrArg _ ih
theorem c7(h:autoParam (Nat.ble n 100000=true) aI):n<=YD:=XC (aai h) aH
theorem b1(h:n<=100000):n<=YD:=XC h aH
theorem Sub.nil:Sub [] Γ:=λ_ _ e=>by simp at e
theorem Sub.cv{x:Str}(h:Γ₁.lookup x=some d)(r:Sub Γ Γ₁):Sub ((x,d)::Γ) Γ₁:=λy e he=>by
 by_cases bk:y=x
 ·subst bk;rw[kV]at he;cases he;exact h
 ·rw[kU bk]at he;exact r y e he
section
variable{pos:Pos}{st:ZF}
theorem aN.Li(h:aN G k sc σ Γ e d)(aG:Sub Γ Γ₁):aN G k sc σ Γ₁ e d:=λA env pr s Q E R aa W F=>h A env pr s Q E R aa W (F.sub aG)
theorem cp.Li(h:cp G k sc T σ Γ bS P)(aG:Sub Γ Γ₁):cp G k sc T σ Γ₁ bS P:=λA env pr s Q E R aa W F=>h A env pr s Q E R aa W (F.sub aG)
theorem cp.shrink(h:cp G k sc T σ Γ bS eA)(cz:∀o,eA o->match o with
  |.next a9 Γ₁=>∃ey,Sub ey Γ₁/\P (.next a9 ey)
  |.brk a9 Γ₁=>∃ey,Sub ey Γ₁/\P (.brk a9 ey)
  |.ret a9 d=>P (.ret a9 d)):cp G k sc T σ Γ bS P:=by
 intro A env pr s Q E aW aa W F aA
 refine h A env pr s Q E aW aa W F (λo f J p st b9=>?_)
 have:=cz o p
 cases o with
 |next a9 Γ₁=>
  obtain⟨ey,aG,ar⟩:=this
  obtain⟨rfl,bc,b7⟩:=b9
  exact aA (.next a9 ey) _ J ar st ⟨rfl,bc,b7.sub aG⟩
 |brk a9 Γ₁=>
  obtain⟨ey,aG,ar⟩:=this
  obtain⟨rfl,bc,b7⟩:=b9
  exact aA (.brk a9 ey) _ J ar st ⟨rfl,bc,b7.sub aG⟩
 |ret a9 d=>exact aA _ _ J this st b9
theorem cp.end_{ey:bD}(h:cp G k sc T σ Γ bS (·=.next a9 Γ₁))(aG:Sub ey Γ₁):cp G k sc T σ Γ bS (·=.next a9 ey):=
 h.shrink λo aP=>by subst aP;exact⟨ey,aG,rfl⟩
theorem cp.fin(aG:Sub Γ₁ Γ):cp G k sc T σ Γ [] (·=.next σ Γ₁):=cp.end_ (.nil rfl) aG
theorem hL.fold(enc:β->V)(ec:α->ba)(eT:α->bD)(f:α->β->α)(Inv:Nat->α->Prop)(bs:List β):∀(n:Nat) (a:α),Inv n a->
  (∀i a b,b∈bs->i<n+bs.length->Inv i a->Inv (i+1) (f a b)/\∃Γ₁ xs,hH G k sc (ec a) ew (enc b) (eT a) Γ₁ xs/\(∀x∈xs,iu sc x)/\cp G k sc T (ec a) Γ₁ body (·=.next (ec (f a b)) (eT (f a b))))->
  hL G k sc T ew body (·=.next (ec (bs.foldl f a)) (eT (bs.foldl f a))) (bs.map enc) (ec a) (eT a):=by
 induction bs with
 |nil=>exact λn a _ _=>rfl
 |cons b bs ih=>
  intro n a es h
  refine bC λ_ a'=>?_
  obtain⟨Lj,Γ₁,xs,H,ag,dO⟩:=h n a b (.head _) (ZC (ZL _)) es
  refine a' ?_
  refine⟨Γ₁,xs,_,H,ag,dO,λo aP=>?_⟩
  subst aP
  exact ih (n+1) (f a b) Lj λi a b H aq=>h i a b (.tail _ H) (Zt n _▸aq)
theorem hL.DW{f:α->β->α}{Inv:Nat->α->Prop}(bs:List β):∀(n:Nat) (a:α),Inv n a->(∀i a b,b∈bs->i<n+bs.length->Inv i a->Inv (i+1) (f a b))->Inv (n+bs.length) (bs.foldl f a):=by
 induction bs with
 |nil=>exact λn a h _=>h
 |cons b bs ih=>
  intro n a h aG
  have:=ih (n+1) (f a b) (aG n a b (.head _) (ZC (ZL _)) h) λi a b H aq=>aG i a b (.tail _ H) (Zt n _▸aq)
  rwa [Zt]at this
end
section
variable{pos:Pos}
theorem bR.yG{x:Str}(O:e0 G k sc σ S Γ bh iter ds)(ae:d3 G k (fP scope sc) σ bh da elt (hs scope Γ) xs ds outs)(hsz:outs.length<=YD)(pQ:autoParam (∀env,env.scope=sc->swapsWithSole [.Name x pos] (.ListComp elt [⟨bh,iter,da,0⟩] scope dK) p.line env=pure true) aC)
  (ag:autoParam (sc.names.lookup x=some .local) aI) (au:autoParam (mq sc scope xs=true) aD)
  (aG:autoParam (∀env x,YM iter env x=pure x) aI):bR G k sc T σ Γ (.Assign [.Name x pos] (.ListComp elt [⟨bh,iter,da,0⟩] scope dK) p) (·=.next σ ((x,.list outs)::Γ)):=by
 intro A env pr s Q E R aa W F aA
 have c:=gO.of au
 refine XA (Yl ?_)
 rw[pQ env aa.scope]
 refine XA (XK ?_)
 rw[if_pos rfl]
 refine XA ?_
 have a3:∀u,evalThenUse (.ListComp elt [⟨bh,iter,da,0⟩] scope dK) env u=(do let _ <-comprehension (.ListComp elt [⟨bh,iter,da,0⟩] scope dK) scope env (firstIterPos [⟨bh,iter,da,0⟩] dK) (newList []) (firstAsync [⟨bh,iter,da,0⟩]) (firstIter [⟨bh,iter,da,0⟩] env) (some u)):=λu=>rfl
 rw[a3]
 refine XA (m:=comprehension _ _ _ _ _ _ _ _) ?_
 refine Zw (use:=some _) (cl:=dC env.cells scope.names) rfl (aG env) (c.kS aa F) c.k c.loc ?_
 refine O A env pr s _ _ R aa W F λx aj ax fr=>fr _ _ λit wr bY St np ao aM cx cg cH dX st=>?_
 refine ye (f0:=λacc C=>compPost (model G.prog G.w) A _ (some _) _ acc C) c R aa W F (ax.trans aM) (cx _) cg cH (λb H=>(dX b H).1) st ae hsz ?_
 intro D C J ks br eY fV jr aw
 obtain⟨m,hm⟩:=br
 refine g8 aw λn vs a3 r=>?_
 have bc:=W.d' ks (λb H=>by rw[XD.mp H];exact fV) λb H=>by rw[XD.mp H];obtain⟨o,_,_,aP,_⟩:=hm;exact XX aP
 have b7:=F.d' ks λb H=>by rw[XD.mp H];exact fV
 have ni:bu (aT σ ([C]++pr)) J.heap (.ref D) (.list outs):=by
  refine .list a3 ⟨(W.gs eY).1,λq=>?_⟩ (r.mono λb o q e=>⟨⟨q.1,λH=>q.2 ?_⟩,e⟩)
  ·rcases XH.mp q with q|q
   ·exact jr q.symm
   ·exact(W.gs eY).2 q
  ·rcases XH.mp H with rfl|H
   ·exact .head _
   ·exact .tail _ (.tail _ H)
 refine aeb (lD (by rw[aa.scope];exact c.hJ) (.inl (by unfold Yh;rw[aa.scope];exact ag)) b7 ni λbI cu fx=>?_)
 have s8:¬b0 env C:=λq=>XN _ (XE (W.lt C (.inr (F.c' C q))) fV)
 refine⟨m,hm.at' (λo e=>cu.keep C o (λq=>s8 q.b0) e),λah c1=>?_⟩
 have dz:KB (λb=>b=C) bI {bI with heap:=ah}:=.hr c1 rfl
 have eZ:=fx.aJ dz (λb H q=>q.2 (H▸.head _)) λb H q=>s8 (H▸q)
 have e9:=(bc.aJ cu λb H=>b7.c' b H.b0).aJ dz λb H=>H▸.head _
 refine XK (XK (aA _ _ {bI with heap:=ah} rfl ?_ ⟨rfl,e9.ei,eZ.ei F.fL λx c hm=>(F.d1 x c hm).1⟩))
 refine((b4.dF ks).trans (.of cu) λb H=>.inl (.inr (H.eb λy bk=>by rw[XD.mp bk];exact .inl ag))).trans (.of dz) λb H=>.inr (H▸fV)
theorem DX(aL:env.scope.kind=.function)(names:List Str):∀(vs:List XF) (ds:List V) (Γ:bD) (s:XG) (Q:Unit->XG->Prop),names.length=ds.length->bg σ pr s.heap env Γ->a5 (aT σ pr) s.heap vs ds->(∀x∈names,env.kindOf x=some .local)->
   (∀J,KB (hX env names) s J->bg σ pr J.heap env ((names.zip ds).reverse++Γ)->Q ⟨⟩ J)->wpAny (model G.prog G.w) A (assignInOrder (names.map λn=>bindName env n) vs) Q E s:=by
 induction names with
 |nil=>
  intro vs ds Γ s Q aw F r az h
  obtain rfl:=Zs aw.symm
  obtain rfl:=r.m2
  exact XK (h s (.refl _ _) F)
 |cons x names ih=>
  intro vs ds Γ s Q aw F r az h
  rcases ds with _|⟨d,ds⟩
  ·exact Cs aw
  obtain⟨v,vs,rfl,a,r⟩:=r.jL
  refine XA (X7 (wpAny_bindName (lD aL (.inl (az x (.head _))) F a λaj ax cX=>?_)))
  refine ih vs ds _ aj Q (aep aw) cX (r.aJ ax λb H=>F.hW b H.b0) (λy bk=>az y (.tail _ bk)) λJ bN b7=>h J ?_ ?_
  ·exact(ax.mono λb H=>H.mono λy bk=>by rw[XD.mp bk];exact .head _).trans (bN.mono λb H=>H.mono λy bk=>.tail _ bk)
  ·simp only[aa1,ZI,YK]
   exact b7
theorem bR.swap(O:aN G k sc σ Γ e (.tuple ds))(b2:names.length=ds.length)(az:∀x∈names,sc.names.lookup x=some .local)(iX:autoParam (sc.kind=.function) aI)
  (pQ:autoParam (∀env,swapsWithSole [ew] e p.line env=pure false) aI) (e8:autoParam (∀env,env.scope=sc->swappedStores [ew] e env=pure (some names)) aC):bR G k sc T σ Γ (.Assign [ew] e p) (·=.next σ ((names.reverse.zip ds.reverse).reverse++Γ)):=by
 intro A env pr s Q E R aa W F aA
 refine XA (Yl ?_)
 rw[pQ env]
 refine XA (XK ?_)
 rw[if_neg aH]
 refine XA (O A env pr s _ _ R aa W F λv aj ax r=>?_)
 rw[e8 env aa.scope]
 refine XA (XK ?_)
 refine fm r.jM λa vs n aB ku dY e_=>?_
 subst aB
 show wpAny _ _ (do rule "assign.swapped-stores";let items <-unpackItems (.ref a) names.length none;assignInOrder (names.reverse.map λn=>bindName env n) items.reverse;pure Flow.next) _ _ _
 refine XA (aaw ?_)
 rw[(show names.length=vs.toArray.size from by rw[X3,e_.length,b2])]
 refine XA (jO (acU R.handled (qQ ku) λah ag hz=>?_))
 have k:bb aj {aj with heap:=ah}:=.heap (λb o e=>ag b o (Ys (XX e)) e) hz
 have bt:bb s {aj with heap:=ah}:=ax.trans k
 refine XA (DX (σ:=σ) (pr:=pr) (by rw[aa.scope];exact iX) names.reverse vs.reverse ds.reverse Γ _ _ (by simpa using b2) (F.keep bt) ((e_.keep k).reverse) (λx ag=>by unfold Yh;rw[aa.scope];exact az x (YS.mp ag)) λao aM bQ=>XK ?_)
 refine aA _ _ ao rfl ((b4.dF bt).trans (.of aM) λb H=>.inl (.inr (H.eb λy bk=>.inl (az y (YS.mp bk))))) ⟨rfl,(W.keep bt).aJ aM λb H=>(F.keep bt).c' b H.b0,bQ⟩
end
noncomputable def ba.set(σ:ba)(a:XM)(m:cf):ba:=σ.map λp=>if p.1=a then(a,m)else p
section
variable{pos:Pos}{m:cf}
theorem h3:(σ.set a m).at=σ.at:=by
 delta ba.set ba.at
 rw[X_]
 refine Yf λp _=>?_
 simp only[abU]
 split
 ·rename_i h;exact h.symm
 ·rfl
theorem dr(h:(a,m)∈σ):a∈σ.at:=YA (f:=λp:XM×cf=>p.1) h
theorem pR(h:(a,s9)∈σ):(a,m)∈σ.set a m:=XZ.mpr ⟨(a,s9),h,if_pos rfl⟩
theorem f6(h:(b,s9)∈σ)(H:b≠a):(b,s9)∈σ.set a m:=XZ.mpr ⟨(b,s9),h,if_neg H⟩
theorem Lk{q:XM×cf}(h:q∈σ.set a m):q=(a,m)\/(q∈σ/\q.1≠a):=by
 refine bB (XZ.mp h) λp ar e=>?_
 by_cases aR:p.1=a
 ·rw[if_pos aR]at e;exact .inl e.symm
 ·rw[if_neg aR]at e;subst e;exact .inr ⟨ar,aR⟩
theorem vb(h:a∉σ.at):ba.set ((a,s9)::σ) a m=(a,m)::σ:=by
 delta ba.set
 rw[Yb,if_pos rfl]
 congr 1
 refine(Yf λp ar=>?_).trans (afk σ)
 rw[if_neg (show p.1≠a from λq=>h (q▸dr (m:=p.2) ar))];rfl
theorem vc(h:σ.at=Y.at)(x:aT σ pr b):aT Y pr b:=⟨λq=>x.1 (h▸q),x.2⟩
theorem bu.at'(h:σ.at=Y.at){ar:Zu}{v:XF}(r:bu (aT σ pr) ar v d):bu (aT Y pr) ar v d:=r.mono λb o q e=>⟨vc h q,e⟩
theorem a5.at'(h:σ.at=Y.at){ar:Zu}{v:List XF}{d:List V}(r:a5 (aT σ pr) ar v d):a5 (aT Y pr) ar v d:=r.mono λb o q e=>⟨vc h q,e⟩
theorem a4.put(W:a4 G σ pr s)(aJ:KB (λb=>b=a) s J)(aY:a∈σ.at)(hm:m.on (aT σ pr) J.heap G a):a4 G (σ.set a m) pr J where
 ok:=W.ok
 base:=λb o e=>aJ.keep b o (λq=>by rw[q,W.above a (.inl aY)]at e;cases e) (W.base b o e)
 store:=λp ar=>by
  rcases Lk ar with rfl|⟨ar,b'⟩
  ·exact hm.mono (λb o q e=>⟨vc h3.symm q,e⟩) λo e=>e
  ·exact(W.store p ar).mono (λb o q e=>⟨vc h3.symm q,aJ.keep b o (λz=>q.1 (z▸aY)) e⟩) λo e=>aJ.keep _ o b' e
 nodup:=by rw[h3];exact W.nodup
 apart:=by rw[h3];exact W.apart
 lt:=by rw[h3];exact λb H=>XE (W.lt b H) aJ.size
 above:=by rw[h3];exact W.above
theorem b4.put(aJ:KB (λb=>b=a) s J)(aY:a∈T):b4 (·∈T) σ (σ.set a m) s J:=⟨aJ.mono λb q=>q▸aY,λb H=>.inl (by rwa [h3]at H),λb H=>by rwa [h3]⟩
theorem dy(W:a4 G σ pr s)(aY:a∈σ.at):∀b,b=a->¬aT σ pr b:=λb H q=>q.1 (H▸aY)
theorem bg.put(F:bg σ pr s.heap env Γ)(W:a4 G σ pr s)(aJ:KB (λb=>b=a) s J)(aY:a∈σ.at):bg (σ.set a m) pr J.heap env Γ:=
 F.stp (b4.put (T:=[a]) aJ (.head _)) (λb H q=>q.1 (by rw[XD.mp H];exact aY)) λb H q=>by
  rw[XD.mp H]at q
  exact W.apart a aY (F.c' a q)
theorem bu.put{v:XF}(r:bu (aT σ pr) s.heap v d)(aJ:KB (λb=>b=a) s J)(aY:a∈σ.at):bu (aT (σ.set a m) pr) J.heap v d:=(r.aJ aJ λb H q=>q.1 (H▸aY)).at' h3.symm
theorem a5.put{v:List XF}(r:a5 (aT σ pr) s.heap v ds)(aJ:KB (λb=>b=a) s J)(aY:a∈σ.at):a5 (aT (σ.set a m) pr) J.heap v ds:=(r.aJ aJ λb H q=>q.1 (H▸aY)).at' h3.symm
theorem a4.new(W:a4 G σ pr s)(k:bb s J)(aY:s.heap.objs.size<=a)(q2:a<J.heap.objs.size)(hm:m.on (aT ((a,m)::σ) pr) J.heap G a):a4 G ((a,m)::σ) pr J where
 ok:=W.ok
 base:=λb o e=>k.get (W.base b o e)
 store:=λp ar=>by
  rcases XH.mp ar with rfl|ar
  ·exact hm
  ·exact(W.store p ar).mono (λb o q e=>⟨⟨λz=>(XH.mp z).elim (λz=>XN _ (XE (XX e) (z▸aY))) q.1,q.2⟩,k.get e⟩) λo e=>k.get e
 nodup:=Yn.mpr ⟨λq=>XN _ (XE (W.lt a (.inl q)) aY),W.nodup⟩
 apart:=λb H q=>by
  rcases XH.mp H with rfl|H
  ·exact XN _ (XE (W.lt _ (.inr q)) aY)
  ·exact W.apart b H q
 lt:=λb H=>by
  rcases H with H|H
  ·rcases XH.mp H with rfl|H
   ·exact q2
   ·exact XE (W.lt b (.inl H)) k.size
  ·exact XE (W.lt b (.inr H)) k.size
 above:=λb H=>by
  rcases H with H|H
  ·rcases XH.mp H with rfl|H
   ·exact W.qR aY
   ·exact W.above b (.inl H)
  ·exact W.above b (.inr H)
theorem b4.fresh{C:XM->Prop}(k:bb s J)(aY:s.heap.objs.size<=a):b4 C σ ((a,m)::σ) s J:=
 ⟨k.mono λ_ q=>q.elim,λb H=>(XH.mp H).elim (λq=>.inr (q▸aY)) .inl,λb H=>.tail _ H⟩
theorem s_(W:a4 G σ pr s)(aY:s.heap.objs.size<=a):a∉σ.at:=λq=>XN _ (XE (W.lt a (.inl q)) aY)
theorem cc.yH(O:gM G k sc σ Γ aZ ds)(hsz:ds.length<=YD):cc G k sc T σ Γ (.List aZ pos) (λY d=>∃a,a∉σ.at/\Y=(a,.list (.type "list") none ds)::σ/\d=.raw (.ref a)):=by
 intro A env pr s Q E R aa W F aA
 refine agW (O A env pr s pos _ _ R aa W F λvs aj ax a0=>⟨by rw[a0.length];exact hsz,?_⟩)
 have bx:bb aj {aj with heap:=aj.heap.push {cls:=.type "list",data:=.seq vs.toArray}}:=.push _ aj.toks
 have bt:bb s {aj with heap:=aj.heap.push {cls:=.type "list",data:=.seq vs.toArray}}:=ax.trans bx
 refine aA _ _ _ _ ⟨aj.heap.objs.size,s_ W ax.size,rfl,rfl⟩ (.fresh bt ax.size) ?_ ?_ (.raw _)
 ·refine W.new bt ax.size (by simp) ⟨vs.toArray,0,#[],XU _ rfl,?_,λ_=>rfl⟩
  refine a0.mono λb o q e=>⟨⟨λz=>(XH.mp z).elim (λz=>XN _ (by have:=XX e;rw[z]at this;exact this)) q.1,q.2⟩,bx.get e⟩
 ·refine(F.keep ax).stp (σ:=σ) (C:=jk) (s:=aj) ⟨bx,?_,λb H=>.tail _ H⟩ (λ_ q=>q.elim) λ_ q=>q.elim
  exact λb H=>(XH.mp H).elim (λq=>.inr (q▸XT _)) .inl
theorem a4.lst(W:a4 G σ pr s)(h:(a,cf.list (.type "list") none items)∈σ):∃vs n,s.heap.get? a=some {cls:=.type "list",dict:=none,data:=.seq vs n,slots:=#[]}/\a5 (aT σ pr) s.heap vs.toList items:=by
 refine bC λ_ a'=>?_
 obtain⟨vs,n,bE,e,r,z⟩:=W.store _ h
 refine a' ?_
 have:=z rfl
 subst this
 exact⟨vs,n,e,r⟩
theorem Ll{P:XM->Prop}{v:XF}(ej:bu P h v d){aZ:List V}:∀{ws:List XF} (m:Nat),a5 P h ws aZ->a5 P h (ws.set m v) (aZ.set m d):=by
 induction aZ with
 |nil=>
  intro ws m r
  obtain rfl:=r.m2
  exact .nil
 |cons e aZ ih=>
  intro ws m r
  obtain⟨_,_,rfl,a,r⟩:=r.jL
  cases m with
  |zero=>exact .cons ej r
  |succ m=>exact .cons a (ih m r)
theorem vd{ws:Array XF}{kk:Nat}{bp:List V}(W:a4 G σ pr s)(F:bg σ pr s.heap env Γ)(b9:a∈σ.at)(aY:a∈T)(b8:ah.get? a=some {cls:=.type "list",dict:=none,data:=.seq ws kk,slots:=#[]})(c1:aac a s.heap ah)(r:a5 (aT σ pr) s.heap ws.toList bp):
  KB (λb=>b=a) s {s with heap:=ah,toks:=t}/\b4 (·∈T) σ (σ.set a (.list (.type "list") none bp)) s {s with heap:=ah,toks:=t}/\a4 G (σ.set a (.list (.type "list") none bp)) pr {s with heap:=ah,toks:=t}/\bg (σ.set a (.list (.type "list") none bp)) pr ah env Γ:=by
 have aJ:KB (λb=>b=a) s {s with heap:=ah,toks:=t}:=.hr c1 rfl
 exact⟨aJ,.put aJ aY,W.put aJ b9 ⟨ws,kk,#[],b8,r.aJ aJ (dy W b9),λ_=>rfl⟩,F.put W aJ b9⟩
theorem Lm{m:Nat}(h:n<m)(hm:m<=100000):(n:Int)<2^63/\(n:Int)<m:=⟨o9,abe.mpr h⟩
theorem Ln{m:Nat}(h:n<m)(hm:m<=100000):adv (n:Int)=true/\seqIndex? (n:Int) m=some n/\m<=YD:=
 ⟨fitsIndex_of g7 o9,by rw[agp (k:=(n:Int)) (n:=m) g7 (by lia),X0],b1 hm⟩
theorem Lo{vs:Array XF}(h:n<vs.size):(vs.eraseIdxIfInBounds n).toList=vs.toList.eraseIdx n:=by
 simp[h]
theorem Lp{P:XM->Prop}{ws:List XF}{aZ:List V}(m:Nat)(r:a5 P h ws aZ):a5 P h (ws.eraseIdx m) (aZ.eraseIdx m):=by
 simp only[Zk,Zk]
 exact(r.take m).append (r.drop (m+1))
theorem cc.append(h0:aN G k sc σ Γ o (.raw (.ref a)))(hm:(a,cf.list (.type "list") none items)∈σ)(aY:a∈T)(O:aN G k sc σ Γ e d)(hsz:items.length<=YD)
  (he:autoParam (dU e []) aI) (et:autoParam (∀env,YB o "append" env (eval o env)=eval o env) aI)
  (g':autoParam (∀env,((Yw pos (X5 [e] env)).all (λx=>!x.1)&&(backToKw pos (Zh [] env)).all (λx=>x.1.isSome)&&decide ([e].length+([]:List aab).length+(if([]:List aab).isEmpty then 0 else 1)<30))=true) aI)
  (ha:autoParam ((apos.endLine==pos.line)=true) aI):cc G k sc T σ Γ (.Call (.Attribute o "append" apos) [e] [] pos) (λY dM=>Y=σ.set a (.list (.type "list") none (items++[d]))/\dM=.none):=by
 intro A env pr s Q E R aa W F aA
 have b9:=dr hm
 refine ZQ (et env) (g' env) ha aaq PySem.F.slot_list_append PySem.F.type_list_append (h0 A env pr s _ _ R aa W F λv aj ax a0=>?_)
 have cM:=a0.dB
 subst cM
 refine g8 ((W.keep ax).lst hm) λyI Lq hx _=>?_
 refine⟨⟨_,hx,rfl⟩,λb H=>by cases H;exact⟨_,hx,rfl⟩,?_⟩
 refine iY (.dV _) R aa (W.keep ax) (F.keep ax) (.cons O .nil he) (he env) rfl λws ao aM bG=>?_
 refine bB bG.inv1 λ_ aB pS=>?_
 subst aB
 have bt:bb s ao:=ax.trans aM
 have bo:=W.keep bt
 refine g8 (bo.lst hm) λvs n a3 bO=>?_
 refine abf ⟨n,a3⟩ (λah dK c1=>?_) (by rw[<-aas,bO.length];exact hsz)
 obtain⟨kk,b8⟩:=dK
 obtain⟨_,st,bc,b7⟩:=vd (t:=ao.toks) bo (F.keep bt) b9 aY b8 c1 (by rw[afN];exact bO.append (.one pS))
 exact aA _ _ _ _ ⟨rfl,rfl⟩ ((b4.dF bt).trans' st) bc b7 .none
theorem cc.reverse(h0:aN G k sc σ Γ o (.raw (.ref a)))(hm:(a,cf.list (.type "list") none items)∈σ)(aY:a∈T)(hsz:items.length<=YD)
  (et:autoParam (∀env,YB o "reverse" env (eval o env)=eval o env) aI)
  (g':autoParam (∀env,((Yw pos (X5 [] env)).all (λx=>!x.1)&&(backToKw pos (Zh [] env)).all (λx=>x.1.isSome)&&decide (([]:List Yy).length+([]:List aab).length+(if([]:List aab).isEmpty then 0 else 1)<30))=true) aI)
  (ha:autoParam ((apos.endLine==pos.line)=true) aI):cc G k sc T σ Γ (.Call (.Attribute o "reverse" apos) [] [] pos) (λY dM=>Y=σ.set a (.list (.type "list") none items.reverse)/\dM=.none):=by
 intro A env pr s Q E R aa W F aA
 have b9:=dr hm
 refine ZQ (et env) (g' env) ha aaq ad4 PySem.F.type_list_reverse (h0 A env pr s _ _ R aa W F λv aj ax a0=>?_)
 have cM:=a0.dB
 subst cM
 have cA:=W.keep ax
 refine g8 (cA.lst hm) λvs n a3 bO=>?_
 refine⟨⟨_,a3,rfl⟩,λb H=>by cases H;exact⟨_,a3,rfl⟩,?_⟩
 refine ZH rfl (Z2 ?_)
 refine adK ad4 ⟨_,a3,rfl⟩ PySem.F.entry_list_reverse (PySem.F.args_list_reverse_1 _) (ag_ a vs n (by rw[<-aas,bO.length];exact hsz)) ⟨a3,?_⟩
 obtain⟨_,st,bc,b7⟩:=vd (t:=aj.toks) cA (F.keep ax) b9 aY (YZ (YY λx=>x.reverse) a3 rfl) (YV ..) (by rw[Array.toList_reverse];exact bO.reverse)
 exact aA _ _ _ _ ⟨rfl,rfl⟩ ((b4.dF ax).trans' st) bc b7 .none
theorem cc.Lr(h0:aN G k sc σ Γ o (.raw (.ref a)))(hm:(a,cf.list (.type "list") none items)∈σ)(aY:a∈T)(O:aN G k sc σ Γ e (.int n))(az:items[n]?=some d)(hsz:items.length<=100000)
  (he:autoParam (dU e []) aI) (et:autoParam (∀env,YB o "pop" env (eval o env)=eval o env) aI)
  (g':autoParam (∀env,((Yw pos (X5 [e] env)).all (λx=>!x.1)&&(backToKw pos (Zh [] env)).all (λx=>x.1.isSome)&&decide ([e].length+([]:List aab).length+(if([]:List aab).isEmpty then 0 else 1)<30))=true) aI)
  (ha:autoParam ((apos.endLine==pos.line)=true) aI):cc G k sc T σ Γ (.Call (.Attribute o "pop" apos) [e] [] pos) (λY dM=>Y=σ.set a (.list (.type "list") none (items.eraseIdx n))/\dM=d):=by
 intro A env pr s Q E R aa W F aA
 have b9:=dr hm
 have ct:=(Y9.mp az).1
 refine ZQ (et env) (g' env) ha aaq aeG PySem.F.type_list_pop (h0 A env pr s _ _ R aa W F λv aj ax a0=>?_)
 have cM:=a0.dB
 subst cM
 refine g8 ((W.keep ax).lst hm) λyI Lq hx _=>?_
 refine⟨⟨_,hx,rfl⟩,λb H=>by cases H;exact⟨_,hx,rfl⟩,?_⟩
 refine iY (.dV _) R aa (W.keep ax) (F.keep ax) (.cons O .nil he) (he env) rfl λws ao aM bG=>?_
 refine bB bG.inv1 λ_ aB pS=>?_
 subst aB
 obtain⟨t,rfl⟩:=pS.int_inv
 have bt:bb s ao:=ax.trans aM
 have bo:=W.keep bt
 refine g8 (bo.lst hm) λvs z a3 bO=>?_
 have aw:vs.size=items.length:=bO.length
 refine bB (bO.get az) λv bJ ej=>?_
 have pg:=(abi ..).symm.trans bJ
 refine bC λ_ lL=>?_
 refine gH (Ln (aw▸ct) (aw▸hsz)) λDY ve sO=>?_
 obtain⟨i,aq⟩:∃i:Int,i=n:=⟨_,rfl⟩
 refine lL ?_
 rw[<-aq]at DY ve
 rw[<-aq]
 refine adK aeG ⟨_,a3,rfl⟩ PySem.F.entry_list_pop (PySem.F.args_list_pop_2 _ _) (ag9 a vs z i t n v DY ve pg sO) ⟨a3,?_⟩
 obtain⟨aJ,st,bc,b7⟩:=vd (t:=ao.toks) bo (F.keep bt) b9 aY (YZ (YY λxs=>xs.eraseIdxIfInBounds n) a3 rfl) (YV ..) (by rw[Lo (aw▸ct)];exact Lp n bO)
 exact aA _ _ _ _ ⟨rfl,rfl⟩ ((b4.dF bt).trans' st) bc b7 ((ej.aJ aJ (dy bo b9)).at' h3.symm)
theorem bR.yJ{s':Pos}{value:Yy}(bJ:aN G k sc σ Γ value d)(h0:aN G k sc σ Γ o (.raw (.ref a)))(hm:(a,cf.list (.type "list") none items)∈σ)(aY:a∈T)(O:aN G k sc σ Γ i (.int n))(az:n<items.length)(hsz:items.length<=100000)
  (aG:autoParam (∀env,swapsWith value (some (.Subscript o i s')) p.line env=pure false) aI):bR G k sc T σ Γ (.Assign [.Subscript o i s'] value p) (·=.next (σ.set a (.list (.type "list") none (items.set n d))) Γ):=by
 intro A env pr s Q E R aa W F aA
 have b9:=dr hm
 refine ac7 (bJ A env pr s _ _ R aa W F λv aj ax ej=>h0 A env pr aj _ _ R aa (W.keep ax) (F.keep ax) λiz ao aM bG=>O A env pr ao _ _ R aa ((W.keep ax).keep aM) ((F.keep ax).keep aM) λLs bI cu lI=>?_) (aG env)
 have ta:=bG.dB
 subst ta
 obtain⟨t,rfl⟩:=lI.int_inv
 have bt:bb s bI:=(ax.trans aM).trans cu
 have eH:=W.keep bt
 refine g8 (eH.lst hm) λvs z a3 bO=>?_
 have aw:vs.size=items.length:=bO.length
 refine d6 (Lm (aw▸az) (aw▸hsz)) λfI gc=>?_
 refine PySem.W.ki_setAt (items:=vs) (n:=z) a3 (YH _) fI gc ?_
 obtain⟨_,st,bc,b7⟩:=vd (t:=bI.toks) eH (F.keep bt) b9 aY (YZ (YY (·.setIfInBounds (n:Int).toNat v)) a3 rfl) (YV ..) (by rw[X0,Array.toList_setIfInBounds];exact Ll ((ej.keep aM).keep cu) n bO)
 exact aA _ _ _ rfl (((b4.dF bt).trans' st).mono λ_ q=>.inl q) ⟨rfl,bc,b7⟩
theorem DZ{P:XM->Prop}{x:Str}{aZ:List (Str×V)}:∀{fJ:List (Str×XF)},fJ.map (·.1)=aZ.map (·.1)->a5 P h (fJ.map (·.2)) (aZ.map (·.2))->aZ.lookup x=some d->∃v,valueAt fJ x=some v/\bu P h v d:=by
 induction aZ with
 |nil=>exact λ_ _ ag=>mW ag
 |cons e aZ ih=>
  intro fJ aL r ag
  obtain⟨z,dM⟩:=e
  rcases fJ with _|⟨⟨y,v⟩,fJ⟩
  ·exact xA aL
  refine d6 (acT aL) λO ae=>?_
  obtain rfl:y=z:=O
  obtain⟨a,r⟩:=r.both
  by_cases bk:x=y
  ·obtain rfl:=bk
   obtain rfl:=YW (kV.symm.trans ag)
   exact⟨v,by simp[valueAt],a⟩
  ·rw[kU bk]at ag
   obtain⟨u,dh,Lu⟩:=ih ae r ag
   refine⟨u,?_,Lu⟩
   delta valueAt at dh ⊢
   rw[List.find?_cons_of_neg (by simpa using λq=>bk q.symm)]
   exact dh
theorem strKind_is{x:Str}{t:Tok}:(aes prog w).is x (.str x t)=true:=by
 show agL x (.str x t)=true
 delta agL
 simp
theorem aN.g1{value slice:Yy}{aZ:List (Str×V)}{x:Str}(O:aN G k sc σ Γ value (.raw (.ref a)))(hm:(a,cf.dict aZ)∈σ)(ae:aN G k sc σ Γ slice (.str x))(ag:aZ.lookup x=some d)
  (aG:autoParam (∀o i,ZG slice false o i=operate [o,i] (getItem o i)) aI):aN G k sc σ Γ (.Subscript value slice pos) d:=by
 intro A env pr s Q E R aa W F h
 refine abE (O A env pr s _ _ R aa W F λcN aj ax a0=>ae A env pr aj _ _ R aa (W.keep ax) (F.keep ax) λd2 ao aM bG=>?_)
 have cM:=a0.dB
 subst cM
 obtain⟨t,rfl⟩:=bG.str_inv
 have bo:=(W.keep ax).keep aM
 refine bC λ_ a'=>?_
 obtain⟨fJ,eY,aL,r⟩:=bo.store _ hm
 refine bB (DZ aL r ag) λv bJ ej=>?_
 refine a' ?_
 refine ago (T:="dict") eY.typeIs slot_dict_getitem.lookup ?_ (aG _ _)
 exact wpAny_getItem_of (knd:=aes G.prog G.w) strKind_is eY.mapOf bJ (h v _ ((ax.trans aM).trans (bb.tok _)) ej)
noncomputable def mv(aZ:List (Str×V))(x:Str)(d:V):List (Str×V):=aZ.map λp=>if p.1=x then(p.1,d)else p
theorem Lv{P:XM->Prop}{x:Str}{v:XF}(ej:bu P h v d){aZ:List (Str×V)}:∀{fJ:List (Str×XF)},fJ.map (·.1)=aZ.map (·.1)->a5 P h (fJ.map (·.2)) (aZ.map (·.2))->
  (fJ.map λiA=>if iA.1=x then(iA.1,v)else iA).map (·.1)=(mv aZ x d).map (·.1)/\a5 P h ((fJ.map λiA=>if iA.1=x then(iA.1,v)else iA).map (·.2)) ((mv aZ x d).map (·.2)):=by
 induction aZ with
 |nil=>
  intro fJ aL _
  obtain rfl:=afA.mp aL
  exact⟨rfl,.nil⟩
 |cons e aZ ih=>
  intro fJ aL r
  obtain⟨z,dM⟩:=e
  rcases fJ with _|⟨⟨y,u⟩,fJ⟩
  ·exact xA aL
  refine d6 (acT aL) λO ae=>?_
  obtain rfl:y=z:=O
  obtain⟨a,r⟩:=r.both
  obtain⟨hy,h4⟩:=ih ae r
  delta mv at hy h4 ⊢
  rw[Yb,Yb,Yb,Yb,Yb,Yb]
  by_cases bk:y=x
  ·rw[if_pos bk,if_pos bk]
   exact⟨congrArg _ hy,.cons ej h4⟩
  ·rw[if_neg bk,if_neg bk]
   exact⟨congrArg _ hy,.cons a h4⟩
theorem bR.D0{aZ:List (Str×V)}{x:Str}{s':Pos}{value:Yy}(bJ:aN G k sc σ Γ value d)(h0:aN G k sc σ Γ o (.raw (.ref a)))(hm:(a,cf.dict aZ)∈σ)(aY:a∈T)(O:aN G k sc σ Γ i (.str x))(ag:(aZ.lookup x).isSome=true)(hsz:aZ.length<=100000)
  (aG:autoParam (∀env,swapsWith value (some (.Subscript o i s')) p.line env=pure false) aI):bR G k sc T σ Γ (.Assign [.Subscript o i s'] value p) (·=.next (σ.set a (.dict (mv aZ x d))) Γ):=by
 intro A env pr s Q E R aa W F aA
 have b9:=dr hm
 refine ac7 (bJ A env pr s _ _ R aa W F λv aj ax ej=>h0 A env pr aj _ _ R aa (W.keep ax) (F.keep ax) λiz ao aM bG=>O A env pr ao _ _ R aa ((W.keep ax).keep aM) ((F.keep ax).keep aM) λLs bI cu lI=>?_) (aG env)
 have ta:=bG.dB
 subst ta
 obtain⟨t,rfl⟩:=lI.str_inv
 have bt:bb s bI:=(ax.trans aM).trans cu
 have eH:=W.keep bt
 refine bC λ_ a'=>?_
 obtain⟨fJ,eY,aL,r⟩:=eH.store _ hm
 refine a' ?_
 have b2:fJ.length=aZ.length:=by
  have:=congrArg aaO aL
  simpa using this
 refine wpAny_setItem_pairs (knd:=aes G.prog G.w) strKind_is eY (λah D1 c1=>?_) (by rw[b2];exact b1 hsz)
 have aJ:KB (λb=>b=a) bI {bI with heap:=ah,toks:=bI.toks+1}:=.hr c1 rfl
 refine aA _ _ _ rfl (((b4.dF bt).trans' (.put aJ aY)).mono λ_ q=>.inl q) ⟨rfl,eH.put aJ b9 ?_,(F.keep bt).put eH aJ b9⟩
 refine bC λ_ fq=>?_
 obtain⟨d₀,Lw⟩:=ab4.mp ag
 obtain⟨u,dh,_⟩:=DZ aL r Lw
 refine fq ?_
 have km:(fJ.any λiA=>iA.1=x)=true:=by
  delta valueAt at dh
  cases hf:fJ.find? (λiA=>iA.1=x)with
  |none=>rw[hf]at dh;cases dh
  |some q=>exact abo.mpr ⟨q,List.mem_of_find?_eq_some hf,List.find?_some (p:=λiA:Str×XF=>decide (iA.1=x)) hf⟩
 have e8:stored fJ x v=fJ.map λiA=>if iA.1=x then(iA.1,v)else iA:=by
  delta stored
  rw[if_pos km]
 rw[e8]at D1
 refine d6 (Lv (x:=x) ((ej.keep aM).keep cu) aL r) λLx Ly=>?_
 exact⟨_,D1,Lx,Ly.aJ aJ (dy eH b9)⟩
end
def lM(G:GE)(k:Nat)(sc:YI)(T:List XM)(σ:ba)(Γ:bD)(aZ:List Yy)(P:ba->List V->Prop):Prop:=
 ∀(A:Yz) (env:Env) (pr:List XM) (s:XG) (pos:Pos) (Q:List XF->XG->Prop) (E:XF->XG->Prop),cs A k->cT G sc env->a4 G σ pr s->bg σ pr s.heap env Γ->
  (∀Y ds vs J,P Y ds->b4 (·∈T) σ Y s J->a4 G Y pr J->bg Y pr J.heap env Γ->a5 (aT Y pr) J.heap vs ds->Q vs J)->wpAny (model G.prog G.w) A (spliced (Yw pos (X5 aZ env))) Q E s
section
variable{r:Yy}{pos:Pos}
theorem b4.x(h:b4 (·∈T) σ Y s J){dn:XG}(aJ:KB (·∈T) J dn):KB (·∈T) s dn:=(h.trans' (.of (σ:=Y) aJ)).aJ
theorem lM.nil(h:RL σ []):lM G k sc T σ Γ [] RL:=by
 intro A env pr s pos Q E aW aa W F aA
 exact Zc (aA σ [] [] s h (.of (.refl _ _)) W F .nil)
theorem lM.cons(aU:∀b∈T,b∈σ.at)(O:cc G k sc T σ Γ e gP)(ae:∀a9 d,gP a9 d->lM G k sc T a9 Γ aZ (λY ds=>RL Y (d::ds)))(he:autoParam (dU e aZ) aI):lM G k sc T σ Γ (e::aZ) RL:=by
 intro A env pr s pos Q E aW aa W F aA
 refine YE (O A env pr s _ _ aW aa W F (λa9 d v aj p gx cA cX a0=>?_)) (he _)
 have jZ:=λb H=>gx.old b (aU b H)
 refine ae a9 d p A env pr aj pos _ _ aW aa cA cX (λY ds vs J dK df bc b7 bV=>?_)
 exact aA Y _ (v::vs) J dK (gx.trans' df) bc b7 (.cons (a0.stp df λb H q=>q.1 (jZ b H)) bV)
theorem lM.of(h:gM G k sc σ Γ aZ ds):lM G k sc T σ Γ aZ (λY dg=>Y=σ/\dg=ds):=by
 intro A env pr s pos Q E aW aa W F aA
 exact h A env pr s pos Q E aW aa W F λvs J bN bV=>aA σ ds vs J ⟨rfl,rfl⟩ (.dF bN) (W.keep bN) (F.keep bN) bV
theorem cc.bin{op:Operator}{R₂:ba->V->ba->V->Prop}(aU:∀b∈T,b∈σ.at)(O:cc G k sc T σ Γ l gP)(ae:∀a9 bZ,gP a9 bZ->cc G k sc T a9 Γ r (R₂ a9 bZ))(a2:∀a9 bZ cC d₂,gP a9 bZ->R₂ a9 bZ cC d₂->∃d,a8 G k cC (binaryOp op) bZ d₂ d/\R cC d):cc G k sc T σ Γ (.BinOp l op r pos) R:=by
 intro A env pr s Q E aW aa W F aA
 refine abM (O A env pr s _ _ aW aa W F (λa9 bZ cN aj iQ gx cA cX a0=>?_))
 have jZ:=λb H=>gx.old b (aU b H)
 refine ae a9 bZ iQ A env pr aj _ _ aW aa cA cX (λcC d₂ d2 ao q4 fO bo bQ bG=>?_)
 refine bB (a2 a9 bZ cC d₂ iQ q4) λd aY ai=>?_
 exact aY A pr ao cN d2 _ _ aW bo (a0.stp fO λb H q=>q.1 (jZ b H)) bG λv J bN bV=>aA cC d v J ai ((gx.trans' fO).trans' (.dF bN)) (bo.keep bN) (bQ.keep bN) bV
theorem cc.il{b:Bool}(O:fp G k sc σ Γ e b)(ae:b=true->cc G k sc T σ Γ l R)(a2:b=false->cc G k sc T σ Γ r R):cc G k sc T σ Γ (.IfExp e l r pos) R:=by
 intro A env pr s Q E aW aa W F aA
 refine agn (O A env pr s _ _ aW aa W F λaj ax=>?_)
 have go:∀x,cc G k sc T σ Γ x R->wpAny (model G.prog G.w) A (eval x env) Q E aj:=λx ag=>
  ag A env pr aj _ _ aW aa (W.keep ax) (F.keep ax) (λY d v J p st bc b7 bV=>aA Y d v J p ((b4.dF ax).trans' st) bc b7 bV)
 cases b with
 |true=>exact go _ (ae rfl)
 |false=>exact go _ (a2 rfl)
theorem cc.list{j0:ba->List V->Prop}(O:lM G k sc T σ Γ aZ j0)(hsz:∀Y ds,j0 Y ds->ds.length<=YD)(dT:∀Y ds,j0 Y ds->R Y (.list ds)):cc G k sc T σ Γ (.List aZ pos) R:=by
 intro A env pr s Q E aW aa W F aA
 refine agW (O A env pr s pos _ _ aW aa W F (λY ds vs aj p st cA cX a0=>⟨by rw[a0.length];exact hsz Y ds p,?_⟩))
 have bx:bb aj {aj with heap:=aj.heap.push {cls:=.type "list",data:=.seq vs.toArray}}:=.push _ aj.toks
 exact aA Y _ _ _ (dT Y ds p) (st.trans' (.dF bx)) (cA.keep bx) (cX.keep bx) (.list (n:=0) (XU _ rfl) (cA.gs (XT _)) (a0.keep bx))
theorem cc.tuple{er:Nat}{j0:ba->List V->Prop}(O:lM G k sc T σ Γ aZ j0)(hsz:∀Y ds,j0 Y ds->ds.length<=YD)(dT:∀Y ds,j0 Y ds->R Y (.tuple ds)):cc G k sc T σ Γ (.Tuple aZ er pos) R:=by
 intro A env pr s Q E aW aa W F aA
 refine aeB (O A env pr s pos _ _ aW aa W F (λY ds vs aj p st cA cX a0=>⟨by rw[a0.length];exact hsz Y ds p,?_⟩))
 have bx:bb aj {aj with heap:=aj.heap.push {cls:=.type "tuple",data:=.seq vs.toArray}}:=.push _ aj.toks
 exact aA Y _ _ _ (dT Y ds p) (st.trans' (.dF bx)) (cA.keep bx) (cX.keep bx) (.tuple (n:=0) (XU _ rfl) (cA.gs (XT _)) (a0.keep bx))
def mw(G:GE)(k:Nat)(sc:YI)(T:List XM)(bh elt:Yy)(Γ:bD)(xs:List Str)(RL:ba->List V->Prop):List V->ba->List V->Prop
 | [],σ,acc=>RL σ acc
 |d::ds,σ,acc=>∃Γ₁ R,hH G k sc σ bh d Γ Γ₁ xs/\Sub Γ Γ₁/\cc G k sc T σ Γ₁ elt R/\∀Y e,R Y e->mw G k sc T bh elt Γ xs RL ds Y (acc++[e])
def vf(env:Env)(xs:List Str)(D:XM)(wr T:List XM)(b:XM):Prop:=jS env xs D wr b\/b∈T
theorem Lz{D aa:XM}{bY:List XM}{St:(XM->Prop)->Zu->List V->Prop}{jU:aaB->XG->Prop}{cd:Code}
  (aR:cd.quiet=true) (oh:(model G.prog G.w).den cd=(sH bh iter [] (.ref aa) env cd (pm elt (.ref D) env)).onRaise (λx=>do noteFrame x env;theTreesLotGoes x)) (ef:A.under cd=A)
  (aW:cs A k) (jT:cT G sc env) (cx:∀Y,g9 G A Y bh wr bY aa St) (X:Apart env D wr bY pr) (pT:∀b∈bY,b∉T) :
  ∀(ds items:List V) (σ:ba) (s:XG),(∀b∈T,b∈σ.at)->mw G k sc T bh elt Γ xs RL ds σ items->a4 G σ pr s->bg σ pr s.heap env Γ->Acc (aT σ pr) s.heap D items->St (aT σ pr) s.heap ds->items.length+ds.length<=YD->
   (∀Y outs J,RL Y outs->b4 (vf env xs D wr T) σ Y s J->a4 G Y pr J->bg Y pr J.heap env Γ->Acc (aT Y pr) J.heap D outs->jU (.ok .next) J)->codeAny (model G.prog G.w) A cd jU s:=by
 intro ds
 induction ds with
 |nil=>
  intro items σ s aU br W F a st hsz h
  refine ZA ?_
  simp only[ef,oh]
  refine acv ?_
  refine XA (Yl (XA ((cx σ).done pr s _ _ W st λJ bN=>XK ?_)))
  have dy:∀b,b∈wr->¬aT σ pr b:=λb H q=>q.2 (X.gN b H)
  exact h σ items J br (.of (bN.mono λb q=>.inl (.inr (.inr q)))) (W.aJ bN X.gN) (F.aJ bN dy λb H q=>X.jn b q H) (a.aJ bN dy X.jR)
 |cons d ds ih=>
  intro items σ s aU br W F a st hsz h
  refine bC λ_ a'=>?_
  obtain⟨Γ₁,R,lF,hI,yK,pJ⟩:=br
  refine a' ?_
  refine ZA ?_
  simp only[ef,oh]
  refine acv ?_
  have dy:∀{e'} b,b∈wr->¬aT e' pr b:=λb H q=>q.2 (X.gN b H)
  refine XA (Yl (XA ((cx σ).next pr s _ _ d ds W X.gN st λv aj ax a0 go=>?_)))
  dsimp only
  refine XA (go _ _ λao aM fO=>?_)
  have g_:=ax.trans aM
  have bo:=W.aJ g_ X.gN
  have bQ:=F.aJ g_ (dy (e':=σ)) λb H q=>X.jn b q H
  have pt:=a.aJ g_ (dy (e':=σ)) X.jR
  refine XA (lF A env pr ao v _ _ aW jT bo bQ (a0.aJ aM (dy (e':=σ))) λbI cu fx=>?_)
  have eH:=bo.aJ cu λb H=>bQ.c' b H.b0
  have pv:=(cx σ).mono _ _ _ _ _ fO (λb o p e=>⟨p,cu.keep b o (λq=>bQ.hW b q.b0 p) e⟩) λb o H e=>cu.keep b o (λq=>H.elim (X.jn b q.b0) (X.ps b q.b0)) e
  have pw:=pt.aJ cu (λb H=>bQ.hW b H.b0) λq=>X.lE q.b0
  refine XA (aeM ?_)
  refine XA (XA (yK A env pr bI _ _ aW jT eH fx (λgz e yL bM yM d7 e9 eZ ot=>XA ?_)))
  have q8:∀b∈T,b∈gz.at:=λb H=>d7.old b (aU b H)
  have tb:∀b,b∈T->¬aT σ pr b:=λb H q=>q.1 (aU b H)
  have tc:∀b,b∈T->b∉pr:=λb H=>W.apart b (aU b H)
  have stI:St (aT gz pr) bM.heap ds:=(cx σ).mono _ _ _ _ _ pv (λb o p e=>⟨d7.al p e,d7.aJ.keep b o (λq=>tb b q p) e⟩) λb o H e=>d7.aJ.keep b o (λq=>H.elim (λH=>tc b q (X.gN b H)) λH=>pT b H q) e
  have qX:Acc (aT gz pr) bM.heap D items:=by
   obtain⟨vs,p,r⟩:=pw
   exact⟨vs,p.at λo e=>d7.aJ.keep D o (λq=>tc D q X.hZ) e,r.stp d7 tb⟩
  obtain⟨vs,yN,ni⟩:=qX
  have jo:∀b,b=D->¬aT gz pr b:=λb H q=>q.2 (H▸X.hZ)
  refine abf yN (λah dK aG=>XK (XK ⟨aR,?_⟩)) (by rw[X3,ni.length];simp at hsz;exact o8)
  have dA:KB (λb=>b=D) bM {bM with heap:=ah}:=.hr aG rfl
  have yO:b4 (vf env xs D wr T) σ gz s {bM with heap:=ah}:=
   (((b4.of (g_.mono λb q=>.inl (.inr (.inr q)))).trans' (.of (cu.mono λb q=>.inl (.inl q)))).trans' (d7.mono λb q=>.inr q)).trans' (.of (dA.mono λb q=>.inl (.inr (.inl q))))
  refine ih (items++[e]) gz {bM with heap:=ah} q8 (pJ gz e yM) (e9.aJ dA λb H=>H▸X.hZ) ((eZ.sub hI).aJ dA jo λb H q=>X.lE (H▸q)) ⟨vs++[yL],by simpa using dK,(ni.aJ dA jo).append (.one (ot.aJ dA jo))⟩ ?_ (by simp at hsz ⊢;exact xJ) λY outs J ar df bc b7 ip=>h Y outs J ar (yO.trans' df) bc b7 ip
  exact(cx σ).mono _ _ _ _ _ stI (λb o p e=>⟨p,dA.keep b o (λq=>jo b q p) e⟩) λb o H e=>dA.keep b o (λq=>H.elim (λH=>X.jR (q▸H)) λH=>X.qW (q▸H)) e
end
section
variable{pos:Pos}
theorem a4.td{q9:List XM}(W:a4 G σ pr s)(h:∀b∈q9,b∈pr):a4 G σ q9 s where
 ok:=W.ok
 base:=W.base
 store:=λp ar=>(W.store p ar).mono (λb o q e=>⟨⟨q.1,λz=>q.2 (h b z)⟩,e⟩) λo e=>e
 nodup:=W.nodup
 apart:=λb H q=>W.apart b H (h b q)
 lt:=λb H=>W.lt b (H.imp_right (h b))
 above:=λb H=>W.above b (H.imp_right (h b))
theorem sL.D2{bY np dW:List XM}{bM:XG}{D:XM}{cenv:Env}(f:sL G sc scope σ Γ xs wr bY np pr ao D cenv bM dW)(aM:bb s ao)(cg:∀b∈np,s.heap.objs.size<=b/\b<ao.heap.objs.size)(cH:∀b∈wr,b∈np)(b:XM)(H:jS cenv xs D wr b):s.heap.objs.size<=b:=by
 by_cases bz:b∈wr
 ·exact(cg b (cH b bz)).1
 ·exact XC aM.size (f.new b H bz)
theorem D3{f0:XF->XM->aaB->XG->Prop}(c:gO sc scope xs)
  (R:cs A k) (aa:cT G sc env) (W:a4 G σ pr s) (F:bg σ pr s.heap env Γ) {it:XM} {wr bY np:List XM} {St:(XM->Prop)->Zu->List V->Prop} {ao:XG} (aM:bb s ao) (cx:∀Y,g9 G A Y bh wr bY it St) (cg:∀b∈np,s.heap.objs.size<=b/\b<ao.heap.objs.size)
  (cH:∀b∈wr,b∈np) (dX:∀b∈bY,b∉pr/\b∉np/\b<ao.heap.objs.size) (st:St (aT σ (np++pr)) ao.heap ds) (aU:∀b∈T,b∈σ.at) (pT:∀b∈bY,b∉T) (br:mw G k (fP scope sc) T bh elt (hs scope Γ) xs RL ds σ []) (hsz:ds.length<=YD)
  (m9:∀D C J Y outs,RL Y outs->b4 (·∈T) σ Y s J->a4 G Y (C::D::pr) J->(∃m,J.heap.Ns C m)->s.heap.objs.size<=D->s.heap.objs.size<=C->C≠D->D∉Y.at->(∃n vs,J.heap.get? D=some (gW vs n)/\a5 (aT Y (C::D::pr)) J.heap vs outs)->f0 (.ref D) C (.ok .next) J) :
  wpAny (model G.prog G.w) A (newList []) (λacc bI=>wpAny (model G.prog G.w) A (newFunctionEnv scope env.globals (dC env.cells scope.names) [] env.qual none .none (some env)) (λcenv bM=>
   codeAny (model G.prog G.w) A (.compStart (.ListComp elt [⟨bh,iter,[],0⟩] scope pos) 0 (.ref it) acc {cenv with scope:=relabel scope env}) (f0 acc cenv.locals) bM) E bI) E ao:=by
 refine Du c aa (W.d' aM (λb H=>(cg b H).1) λb H=>(cg b H).2) (F.d' aM λb H=>(cg b H).1) (λx c h=>(F.d1 x c h).1) (cx σ) (λb H q=>XN _ (XE (W.lt b (.inr q)) (cg b H).1)) cH dX st λD cenv bM dW f d7=>?_
 refine Lz (k:=k) (sc:=fP scope sc) (xs:=xs) (Γ:=hs scope Γ) (elt:=elt) (T:=T) (RL:=RL) (pr:=dW) (wr:=wr) (bY:=bY) (bh:=bh) (iter:=iter) (env:=cenv) rfl (by show((compTurn (.ListComp elt [⟨bh,iter,[],0⟩] scope pos) 0 (.ref it) (.ref D) cenv).onRaise λx=>do noteFrame x cenv;theTreesLotGoes x)=_;rw[u0]) (aay rfl) R f.aa cx f.X pT ds [] σ bM aU br f.W f.F f.acc d7 (by simpa using hsz) λY outs J ar stp bc b7 ip=>?_
 have yP:=(b4.dF (C:=(·∈T)) (aM.trans f.bt)).trans stp λb H=>H.elim (λq=>.inr (f.D2 aM cg cH b q)) .inl
 obtain⟨vs,⟨n,p⟩,r⟩:=ip
 exact m9 _ _ J Y outs ar yP (bc.td f.sub) b7.ns (XC aM.size f.jq) (XC aM.size (XC f.jq (Ye f.oj))) (Zf f.oj) (λq=>bc.apart _ q f.X.hZ) ⟨n,vs,p,r.mono λb o q e=>⟨⟨q.1,λH=>q.2 (f.sub b H)⟩,e⟩⟩
theorem cc.comp(O:e0 G k sc σ S Γ bh iter ds)(aU:∀b∈T,b∈σ.at)(ki:∀b∈S,b∉T)(ae:mw G k (fP scope sc) T bh elt (hs scope Γ) xs RL ds σ [])(dT:∀Y outs,RL Y outs->R Y (.list outs))(hsz:ds.length<=YD)(au:autoParam (mq sc scope xs=true) aD)
  (aG:autoParam (∀env x,YM iter env x=pure x) aI):cc G k sc T σ Γ (.ListComp elt [⟨bh,iter,[],0⟩] scope pos) R:=by
 intro A env pr s Q E aW aa W F aA
 have c:=gO.of au
 refine Zw (use:=none) (cl:=dC env.cells scope.names) rfl (aG env) (c.kS aa F) c.k c.loc ?_
 refine O A env pr s _ _ aW aa W F λx aj ax fr=>fr _ _ λit wr bY St np ao aM cx cg cH dX st=>?_
 refine D3 (f0:=λacc C=>compPost (model G.prog G.w) A E none Q acc C) c aW aa W F (ax.trans aM) cx cg cH (λb H=>(dX b H).1) st aU (λb H q=>(dX b H).2.elim (λh=>ki b h q) λh=>h (aU b q)) ae hsz ?_
 intro D C J Y outs ar stp bc br eY fV jr te aw
 refine cS br λm hm=>?_
 refine⟨m,hm,λah c1=>?_⟩
 refine g8 aw λn vs a3 r=>?_
 have d0:KB (λb=>b=C) J {J with heap:=ah}:=.hr c1 rfl
 have yQ:=bc.aJ d0 λb H=>H▸.head _
 have b7:=F.stp stp (λb H q=>q.1 (aU b H)) λb H q=>W.apart b (aU b H) (F.c' b q)
 have iw:bg Y pr {J with heap:=ah}.heap env Γ:=by
  have yR:bg Y ([C]++pr) J.heap env Γ:=by
   have tf:=F.d' (.refl _ _) λb H=>by rw[XD.mp H];exact fV
   exact tf.stp stp (λb H q=>q.1 (aU b H)) λb H q=>W.apart b (aU b H) (F.c' b q)
  exact(yR.aJ d0 (λb H q=>q.2 (H▸.head _)) λb H q=>(λq=>XN _ (XE (W.lt C (.inr (F.c' C q))) fV)) (H▸q)).ei F.fL λx c hm=>(F.d1 x c hm).1
 refine aA Y (.list outs) (.ref D) _ (dT Y outs ar) (stp.trans (.of d0) λb H=>.inr (H▸fV)) (yQ.td λb H=>.tail _ (.tail _ H)) iw ?_
 refine .list (n:=n) (vs:=vs) (d0.keep D _ (λq=>jr q.symm) a3) ⟨te,(λq=>XN _ (XE (W.lt D (.inr q)) eY))⟩ ?_
 exact(r.aJ d0 λb H q=>q.2 (H▸.head _)).mono λb o q e=>⟨⟨q.1,λH=>q.2 (.tail _ (.tail _ H))⟩,e⟩
theorem bR.LA{x:Str}(O:e0 G k sc σ S Γ bh iter ds)(aU:∀b∈T,b∈σ.at)(ki:∀b∈S,b∉T)(ae:mw G k (fP scope sc) T bh elt (hs scope Γ) xs RL ds σ [])(dT:∀Y outs,RL Y outs->P (.next Y ((x,.list outs)::Γ)))(hsz:ds.length<=YD)
  (pQ:autoParam (∀env,env.scope=sc->swapsWithSole [.Name x pos] (.ListComp elt [⟨bh,iter,[],0⟩] scope dK) p.line env=pure true) aC)
  (ag:autoParam (sc.names.lookup x=some .local) aI) (au:autoParam (mq sc scope xs=true) aD)
  (aG:autoParam (∀env x,YM iter env x=pure x) aI):bR G k sc T σ Γ (.Assign [.Name x pos] (.ListComp elt [⟨bh,iter,[],0⟩] scope dK) p) P:=by
 intro A env pr s Q E aW aa W F aA
 have c:=gO.of au
 refine XA (Yl ?_)
 rw[pQ env aa.scope]
 refine XA (XK ?_)
 rw[if_pos rfl]
 refine XA ?_
 have a3:∀u,evalThenUse (.ListComp elt [⟨bh,iter,[],0⟩] scope dK) env u=(do let _ <-comprehension (.ListComp elt [⟨bh,iter,[],0⟩] scope dK) scope env (firstIterPos [⟨bh,iter,[],0⟩] dK) (newList []) (firstAsync [⟨bh,iter,[],0⟩]) (firstIter [⟨bh,iter,[],0⟩] env) (some u)):=λu=>rfl
 rw[a3]
 refine XA (m:=comprehension _ _ _ _ _ _ _ _) ?_
 refine Zw (use:=some _) (cl:=dC env.cells scope.names) rfl (aG env) (c.kS aa F) c.k c.loc ?_
 refine O A env pr s _ _ aW aa W F λx aj ax fr=>fr _ _ λit wr bY St np ao aM cx cg cH dX st=>?_
 refine D3 (f0:=λacc C=>compPost (model G.prog G.w) A _ (some _) _ acc C) c aW aa W F (ax.trans aM) cx cg cH (λb H=>(dX b H).1) st aU (λb H q=>(dX b H).2.elim (λh=>ki b h q) λh=>h (aU b q)) ae hsz ?_
 intro D C J Y outs ar stp bc br eY fV jr te aw
 obtain⟨m,hm⟩:=br
 refine g8 aw λn vs a3 r=>?_
 have s8:¬b0 env C:=λq=>XN _ (XE (W.lt C (.inr (F.c' C q))) fV)
 have b7:bg Y ([C]++pr) J.heap env Γ:=by
  have tf:=F.d' (.refl _ _) λb H=>by rw[XD.mp H];exact fV
  exact tf.stp stp (λb H q=>q.1 (aU b H)) λb H q=>W.apart b (aU b H) (F.c' b q)
 have k_:=bc.td λb H=>by
  rcases XH.mp H with rfl|H
  ·exact .head _
  ·exact .tail _ (.tail _ H)
 have ni:bu (aT Y ([C]++pr)) J.heap (.ref D) (.list outs):=by
  refine .list a3 ⟨te,λq=>?_⟩ (r.mono λb o q e=>⟨⟨q.1,λH=>q.2 ?_⟩,e⟩)
  ·rcases XH.mp q with q|q
   ·exact jr q.symm
   ·exact(λq=>XN _ (XE (W.lt D (.inr q)) eY)) q
  ·rcases XH.mp H with rfl|H
   ·exact .head _
   ·exact .tail _ (.tail _ H)
 refine aeb (lD (by rw[aa.scope];exact c.hJ) (.inl (by unfold Yh;rw[aa.scope];exact ag)) b7 ni λbI cu fx=>?_)
 refine⟨m,hm.at' (λo e=>cu.keep C o (λq=>s8 q.b0) e),λah c1=>?_⟩
 have dz:KB (λb=>b=C) bI {bI with heap:=ah}:=.hr c1 rfl
 have eZ:=fx.aJ dz (λb H q=>q.2 (H▸.head _)) λb H q=>s8 (H▸q)
 refine XK (XK (aA _ _ {bI with heap:=ah} (dT Y outs ar) ?_ ⟨rfl,(show a4 G Y ([C]++pr) {bI with heap:=ah}from(k_.aJ cu λb H=>b7.c' b H.b0).aJ dz λb H=>H▸.head _).ei,eZ.ei F.fL λx c hm=>(F.d1 x c hm).1⟩))
 exact((stp.mono λb H=>(.inl H:b∈T\/eb sc env b)).trans (.of cu) λb H=>.inl (.inr (H.eb λy bk=>by rw[XD.mp bk];exact .inl ag))).trans (.of dz) λb H=>.inr (H▸fV)
end
theorem D4{pos mx:Pos}{c hV:XF}(l:List XF)(h:ahk l)(az:codeAmong pos (l++[rawInt mx.line,rawInt mx.col,c])=some hV):codeAmong pos l=some hV\/hV=c:=by
 fun_induction ahk l with
 |case1=>
  simp only[acL,rawInt,codeAmong]at az
  split at az
  ·right;cases az;rfl
  ·cases az
 |case2 a t b u x bS ih=>
  simp only[agh,codeAmong]at az ⊢
  split at az
  ·rename_i au;rw[if_pos au];exact .inl az
  ·rename_i au;rw[if_neg au];exact ih h az
 |case3 l O ae=>exact h.elim
theorem yS{m gu:cf}:∀{σ:ba},σ.at.Nodup->(a,m)∈σ->(a,gu)∈σ->m=gu:=by
 intro σ
 induction σ with
 |nil=>exact λ_ h=>cZ h
 |cons p r ih=>
  intro az O ae
  have az:=Yn.mp az
  rcases XH.mp O with rfl|O<;>rcases XH.mp ae with bH|ae
  ·exact(aaj bH).2.symm
  ·exact absurd (dr ae) az.1
  ·exact absurd (dr O) (by have:=az.1;rw[<-bH]at this;exact this)
  ·exact ih az.2 O ae
section
variable{pos:Pos}{params:ahu}{name:Str}{c:XM}
theorem D5(tg:params.defaults=[])(LB:params.kw_defaults=[])(aY:annTrees params none env=[])(aW:cs A k)(aa:cT G sc env)(W:a4 G σ pr s)(F:bg σ pr s.heap env Γ)
  (hm:(fh,cf.tab c q)∈σ) (aU:fh∈T) (lN:env.code=.ref c) (aR:qualnameIn env name name=q) (iX:sc.kind=.function) (ag:iu sc name)
  (H:∃bm o,G.mg "__builtins__" = some (.ref bm)/\bm≠Y6/\bm≠YJ/\G.h₀.get? bm=some o/\o.cls=.type "module"/\o.dict=some Y6/\o.data=.plain)
  (m7:∀x,(x,Yj)∈scope.names->sc.names.lookup x=some .cell\/sc.names.lookup x=some .free)
  (h:∀f J,b4 (λb=>b∈T\/eb sc env b) σ σ s J->a4 G σ pr J->bg σ pr J.heap env ((name,.raw (.ref f))::Γ)->aT σ pr f->
   (∃doc lO cq h5,aT σ pr cq/\J.heap.get? f=some {cls:=.type "function",data:=.func (fnX name q params body scope (dC env.cells scope.names) .none .none doc lO none (.ref cq) h5)}/\J.heap.CodeRec (.ref cq) q)->Q .next J) :
  wpAny (model G.prog G.w) A (exec (.FunctionDef name params body [] none [] scope none name pos) env) Q E s:=by
 have b9:=dr hm
 refine bC λ_ a'=>?_
 obtain⟨C,th,av,cz,a_,vg⟩:=W.store _ hm
 refine a' ?_
 have bK:=λx ag=>F.fT x (by unfold Yh;rw[aa.scope];exact m7 x ag)
 have fN:=Dn (scope:=scope) (env:=env) bK
 have cE:=W.ok.g.keeps W.base
 have D6:=W.above fh (.inl b9)
 have LC:YJ≠fh:=λe=>by
  refine bC λ_ fq=>?_
  obtain⟨o,_,_,aP,_⟩:=W.ok.g
  refine fq ?_
  rw[e,D6]at aP;cases aP
 have D7:s.heap.BuiltinsAt G.mg fh:=by
  refine xK H λbm o O ae a2 b_ cn=>?_
  exact⟨bm,o,O,ae,a2,(λe=>by rw[e,D6]at b_;cases b_),W.base _ _ b_,cn⟩
 refine nestDef_K tg LB aY ?_
 rw[aR]
 have fin:∀(f:XM) (aj:XG) (cq:XM) (doc lO h5:XF),b4 (λb=>b∈T) σ σ s aj->a4 G σ pr aj->bg σ pr aj.heap env Γ->s.heap.objs.size<=f->aT σ pr cq->
   aj.heap.get? f=some {cls:=.type "function",data:=.func (fnX name q params body scope (dC env.cells scope.names) .none .none doc lO none (.ref cq) h5)}->aj.heap.CodeRec (.ref cq) q->
   wpAny (model G.prog G.w) A (storeName env name (.ref f)) (λ_ dn=>Q .next dn) E aj:=λf aj cq doc lO h5 st cA cX hf kR a3 bH=>by
  refine lD (by rw[aa.scope];exact iX) (by unfold Yh;rw[aa.scope];exact ag) cX (.raw _) λao aM bQ=>?_
  have q_:=W.gs hf
  have D8:∀{b},aT σ pr b->¬hX env [name] b:=λH aR=>F.hW _ aR.b0 H
  refine h f ao ((st.mono λ_ q=>.inl q).trans' (.of (aM.mono λb q=>.inr (q.eb λy bk=>by rw[XD.mp bk];exact ag)))) (cA.aJ aM λb H=>cX.c' b H.b0) bQ q_ ⟨doc,lO,cq,h5,kR,aM.keep f _ (D8 q_) a3,?_⟩
  refine bC λ_ LD=>?_
  obtain⟨z,gX,ws,t,iV,iW,k'⟩:=bH
  refine LD ?_
  cases iV
  exact⟨cq,gX,ws,t,rfl,aM.keep cq _ (D8 kR) iW,k'⟩
 cases hf:codeAmong pos av.toList with
 |none=>
  refine makeFunction_K fN aa.globals cE lN C cz a_ hf LC D7 λcq h5 doc ah cD lP yT xS lQ D9=>?_
  generalize k6:({s with heap:=ah.push (fnMade name q params body scope (dC env.cells scope.names) doc ((G.mg "__name__").getD .none) cq h5),toks:=cD}:XG)=aj
  have ti:aj.heap=ah.push (fnMade name q params body scope (dC env.cells scope.names) doc ((G.mg "__name__").getD .none) cq h5):=by rw[<-k6]
  have aJ:KB (λb=>b=fh) s aj:=by
   simp only[<-k6]
   refine⟨λb o D_ e=>X6 _ (lP b o D_ e),?_,rfl,.refl _⟩
   rw[Yk];lia
  have my:=W.gs yT
  have D':aj.heap.CodeRec (.ref cq) q:=by rw[ti];exact lQ.push _
  have q':∀b,b=fh->¬aT σ pr b:=λb H q=>q.1 (H▸b9)
  have nj:a4 G (σ.set fh (.tab c q)) pr aj:=by
   refine W.put aJ b9 ⟨?_,th,av++#[rawInt pos.line,rawInt pos.col,.ref cq],?_,?_,λmx hV nk=>?_⟩
   ·refine bC λ_ lL=>?_
    obtain⟨o,vs,file,hN,vh,vi,vj,pU,ra,e,r⟩:=C
    refine lL ?_
    exact⟨o,vs,file,hN,vh,vi,vj,pU,ra,aJ.keep c o (λq=>q' c q th) e,r⟩
   ·exact ti.symm▸X6 _ D9
   ·rw[aaW];exact ahT _ _ _ _ a_
   ·rw[aaW]at nk
    rcases D4 _ a_ nk with nk|rfl
    ·refine bC λ_ tj=>?_
     obtain⟨nl,rfl,tk,y,gX,ws,t,a3,bH,dP⟩:=vg mx hV nk
     refine tj ?_
     cases a3
     exact⟨nl,rfl,tk,nl,gX,ws,t,rfl,aJ.keep nl gX (λq=>q' nl q tk) bH,dP⟩
    ·exact⟨cq,rfl,my,D'⟩
  have yU:σ.set fh (.tab c q)=σ:=by
   unfold ba.set
   refine(Yf λp ar=>?_).trans (afk σ)
   by_cases nn:p.1=fh
   ·rw[if_pos nn]
    obtain⟨cb,dw⟩:=p
    simp only at nn
    subst nn
    rw[yS W.nodup hm ar];rfl
   ·rw[if_neg nn];rfl
  rw[yU]at nj
  have cX:bg σ pr aj.heap env Γ:=F.aJ aJ q' λb H q=>W.apart b (H▸b9) (F.c' b q)
  have hsz:s.heap.objs.size<=ah.objs.size:=by lia
  exact fin ah.objs.size aj cq doc _ h5 (.of (aJ.mono λb q=>q▸aU)) nj cX hsz my (by rw[ti];exact XU _ rfl) D'
 |some hV=>
  refine gU (vg pos hV hf) λcq aB my lQ=>?_
  subst aB
  refine makeFunction_hit fN aa.globals cE lN C cz a_ hf D7 λh5 doc ah cD aL hz=>?_
  generalize k6:({s with heap:=ah.push {cls:=.type "function",data:=.func (fnX name q params body scope (dC env.cells scope.names) .none .none doc ((G.mg "__name__").getD .none) none (.ref cq) h5)},toks:=cD}:XG)=aj
  have ti:aj.heap=ah.push {cls:=.type "function",data:=.func (fnX name q params body scope (dC env.cells scope.names) .none .none doc ((G.mg "__name__").getD .none) none (.ref cq) h5)}:=by rw[<-k6]
  have bx:bb s aj:=by
   rw[<-k6]
   refine .heap (λb o e=>X6 _ (aL b o e)) ?_
   rw[Yk];exact xB
  refine fin ah.objs.size aj cq doc _ h5 (.dF bx) (W.keep bx) (F.keep bx) hz my (by rw[ti];exact XU _ rfl) ?_
  exact lQ.keeps bx.all
end
section
variable{pos:Pos}
structure i3(G:GE)(f:XM)(names:List Str)(sc:YI)(body:List ZF):Prop where
 ex:∃o fd,G.h₀.get? f=some o/\o.data=.func fd/\fd.scope=sc/\fd.body=.stmts body/\fd.globals=YJ/\fd.builtins=Y6/\fd.closure=G.cl/\G.h₀.CodeRec fd.code fd.qualname/\
  ∀vs:List XF,vs.length=names.length->bindArgs fd ⟨vs,[]⟩=pure (names.zip vs)
 ap:G.cl.Pairwise λx y=>x.2≠y.2
 keys:(G.cl.map (·.1)).Nodup
 Ea:∀x c,(x,c)∈G.cl->sc.names.lookup x=some .free
 LF:∀x,sc.names.lookup x=some .free->∃c,G.cl.lookup x=some c
 c2:(sc.names.map (·.1)).Nodup
 nm:∀x∈names,iu sc x
 co:sc.isCoroutine=false
 gen:sc.isGenerator=false
 kind:sc.kind=.function
theorem i3.calls(h:i3 G f names sc body):Calls G (.ref f):=by obtain⟨_,_,O,ae,_⟩:=h.ex;exact .func O ae
def yV(G:GE)(σ:ba)(pr:List XM)(h:Zu)(gy:bD):Prop:=
 (∀x c,(x,c)∈G.cl->c∈pr/\∃v,h.IsCell c v)/\∀x d,gy.lookup x=some d->∃c v,G.cl.lookup x=some c/\h.IsCell c (some v)/\bu (aT σ pr) h v d
def hg(G:GE)(k:Nat)(T:List XM)(σ:ba)(f:XF)(gy:bD)(ds:List V)(R:ba->V->Prop):Prop:=
 ∀(A:Yz) (pr:List XM) (s:XG) (vs:List XF) (Q E:XF->XG->Prop),cs A k->a4 G σ pr s->a5 (aT σ pr) s.heap vs ds->yV G σ pr s.heap gy->
  (∀Y d v J,R Y d->b4 (·∈T) σ Y s J->a4 G Y pr J->bu (aT Y pr) J.heap v d->Q v J)->wpAny (model G.prog G.w) A (call f vs) Q E s
theorem hg.of_body(h:i3 G f names sc body)(b2:names.length=ds.length)(c6:∀x d,gy.lookup x=some d->sc.names.lookup x=some .free)(dO:cp G k sc T σ ((names.zip ds).reverse++gy) body P)
  (cz:∀o,P o->match o with | .next Y _=>R Y .none | .brk _ _=>False | .ret Y d=>R Y d):hg G (k+1) T σ (.ref f) gy ds R:=by
 intro A pr s vs Q E aW W r au aA
 obtain⟨o,fd,O,ae,a2,b_,cn,gQ,dJ,fA,kt⟩:=h.ex
 refine yz (gy:=gy) (ws:=vs) (ds:=ds) aW W (W.base _ _ O) ae a2 b_ cn gQ (fA.keeps W.base) (.of_eq (kt vs (by rw[r.length,b2]))) b2 r (by rw[dJ];exact au.1) (by rw[dJ];exact h.ap) (by rw[dJ];exact h.Ea) (λx ag=>by rw[dJ];exact h.LF x ag)
  (λx d e=>by rw[dJ];exact⟨c6 x d e,au.2 x d e⟩) h.c2 h.nm h.co h.gen h.kind (λx ag=>by rw[dJ]) dO.yy λo f J np ar st b9=>?_
 have:=cz o ar
 cases o with
 |next g0 sX=>
  refine od b9 λbc=>?_
  exact aA g0 _ _ J this st bc.ei .none
 |brk g0 sX=>exact this.elim
 |ret g0 DK=>exact aA g0 _ _ J this st b9.1.ei b9.2.ei
theorem hg.room{j:Nat}{f:XF}(h:hg G k T σ f gy ds R)(bq:k<=j):hg G j T σ f gy ds R:=λA pr s vs Q E aW=>h A pr s vs Q E (aW.mono bq)
theorem LG(h:i3 G f names sc body)(aa:cT G sc env)(F:bg σ pr s.heap env Γ)(c6:∀x d,gy.lookup x=some d->Γ.lookup x=some d/\sc.names.lookup x=some .free):yV G σ pr s.heap gy:=by
 refine⟨λx c hm=>?_,λx d hd=>?_⟩
 ·have a3:=aa.kS x (h.Ea x c hm)
  rw[mem_lookup h.keys hm]at a3
  refine gH (F.d1 x c (mem_of_lookup a3)) λa _ v=>?_
  exact⟨a,v⟩
 ·refine d6 (c6 x d hd) λO ae=>?_
  rcases F.vars x d O with ⟨a,_⟩|⟨_,c,v,e,au,r⟩
  ·delta Yh at a
   rw[aa.scope,ae]at a;cases a
  ·exact⟨c,v,by rw[<-aa.kS x ae];exact e,au,r⟩
theorem cc.callC{dD:Yy}(h:i3 G f names sc body)(hf:aN G k sc σ Γ dD (.raw (.ref f)))(O:gM G k sc σ Γ (e::aZ) ds)(c6:∀x d,gy.lookup x=some d->Γ.lookup x=some d/\sc.names.lookup x=some .free)(ae:hg G k T σ (.ref f) gy ds R)(aU:∀b∈T,b∈σ.at)
  (he:autoParam (dU e aZ) aI) (fg:autoParam (BT pos aZ) aI)
  (aR:autoParam (ik dD (e::aZ) pos) aI):cc G k sc T σ Γ (.Call dD (e::aZ) [] pos) R:=by
 intro A env pr s Q E aW aa W F aA
 rw[aR]
 refine XA (hf A env pr s _ _ aW aa W F λv aj ax a0=>?_)
 have cM:=a0.dB
 subst cM
 refine iY h.calls aW aa (W.keep ax) (F.keep ax) O (he env) (fg env) λvs ao aM bG=>?_
 have bt:bb s ao:=ax.trans aM
 have bo:=W.keep bt
 have bQ:=F.keep bt
 refine ae A pr ao vs _ _ aW bo bG (LG h aa bQ c6) λY d v J ar st bc bV=>aA Y d v J ar ((b4.dF bt).trans' st) bc ?_ bV
 exact bQ.stp st (λb H q=>q.1 (aU b H)) λb H q=>bo.apart b (aU b H) (bQ.c' b q)
theorem LH{names':List (Str×Zj)}(fN:G.cl=dC env.cells names')(bK:∀x,(x,Yj)∈names'->∃c,env.cells.lookup x=some c)(aa:env.scope=sc)(F:bg σ pr s.heap env Γ)(c6:∀x d,gy.lookup x=some d->Γ.lookup x=some d/\sc.names.lookup x=some .cell/\(x,Yj)∈names'):yV G σ pr s.heap gy:=by
 refine⟨λx c hm=>?_,λx d hd=>?_⟩
 ·rw[fN]at hm
  refine d6 (qY bK hm) λ_ a3=>?_
  refine gH (F.d1 x c (mem_of_lookup a3)) λa _ v=>?_
  exact⟨a,v⟩
 ·refine gH (c6 x d hd) λO ae a2=>?_
  rcases F.vars x d O with ⟨a,_⟩|⟨_,c,v,e,au,r⟩
  ·delta Yh at a
   rw[aa,ae]at a;cases a
  ·exact⟨c,v,by rw[fN,sJ bK a2];exact e,au,r⟩
noncomputable def GE.wide(G:GE)(h:Zu)(cl:List (Str×XM)):GE:={G with h₀:=h,cl:=cl}
theorem a4.wide(W:a4 G σ pr s)(cl:List (Str×XM)):a4 (G.wide (hideAll s.heap (σ.at++pr)) cl) σ pr s where
 ok:=by
  have keep:=λb o e=>abN _ (W.base b o e) λH=>by
   have:=W.above b (XY.mp H)
   cases this.symm.trans e
  refine bB W.ok.nodigits λsA LI hd=>?_
  exact⟨W.ok.g.keeps keep,W.ok.b.keeps keep,W.ok.nolimit.keeps keep,⟨sA,LI.keeps keep,hd⟩,W.ok.builtins⟩
 base:=λb o e=>ae2 _ e
 store:=λp ar=>by
  have:=W.store p ar
  obtain⟨a,m⟩:=p
  cases m<;>exact this
 nodup:=W.nodup
 apart:=W.apart
 lt:=W.lt
 above:=λb H=>aed _ (XY.mpr H)
theorem a4.narrow{cl:List (Str×XM)}(W:a4 (G.wide h cl) σ pr s)(ok:G.Ok)(aL:∀b o,G.h₀.get? b=some o->h.get? b=some o):a4 G σ pr s where
 ok:=ok
 base:=λb o e=>W.base b o (aL b o e)
 store:=λp ar=>by
  have:=W.store p ar
  obtain⟨a,m⟩:=p
  cases m<;>exact this
 nodup:=W.nodup
 apart:=W.apart
 lt:=W.lt
 above:=λb H=>by
  have:h.get? b=none:=W.above b H
  cases e:G.h₀.get? b with
  |none=>rfl
  |some o=>rw[aL b o e]at this;cases this
end
section
variable{bt:Nat}{pos:Pos}
theorem aN.bf:aN G k sc σ Γ (.Constant (.int (n:Int)) bt pos) (ay n):=.C8
theorem V.la{a b:Int}(h:a=b):V.int a=V.int b:=by rw[h]
theorem a8.to{f:XF->XF->Sem XF}(h:a8 G k σ f bZ d₂ d)(e:d=dM):a8 G k σ f bZ d₂ dM:=e▸h
theorem a8.g2:a8 G k σ (binaryOp .Add) (ay n) (ay m) (ay (n+m)):=a8.addInt.to (V.la JI)
theorem a8.ou(h:m<=n):a8 G k σ (binaryOp .Sub) (ay n) (ay m) (ay (n-m)):=a8.pF.to (V.la JN)
theorem a8.tl(h:n<2^63):a8 G k σ (binaryOp .Mult) (ay n) (ay m) (ay (n*m)):=(a8.KQ xD mY).to (V.la (by rw[agR]))
theorem a8.j1(h:0<m):a8 G k σ (binaryOp .Mod) (ay n) (ay m) (ay (n%m)):=(a8.DD (by lia)).to (V.la (by rw[aeA _ g7,Int.natCast_emod]))
theorem yW{a b:Int}(h:b.natAbs<2^64):ZZ a b=false:=by
 delta ZZ
 have:¬((if(b==0)=true then 0 else b.natAbs.log2 / 30+1)>300):=by
  split
  ·exact aH
  ·rename_i H
   have eP:b.natAbs≠0:=by
    intro q
    apply H
    simpa using q
   have:=(Nat.log2_lt eP).mpr h
   lia
 simp only[Bool.and_eq_false_iff,decide_eq_false_iff_not]
 exact .inl this
theorem a8.kv(h:0<m)(az:m<2^63):a8 G k σ (binaryOp .FloorDiv) (ay n) (ay m) (ay (n / m)):=(a8.divInt (by lia) (yW CG)).to (V.la (by rw[ab1 _ g7,agA]))
theorem a8.lR:a8 G k σ (compareOp .Eq) (ay n) (ay m) (.bool (n==m)):=a8.u5.to (by
 congr 1
 rw[aa0,beq_iff_eq,beq_iff_eq]
 exact acg)
theorem a8.neN:a8 G k σ (compareOp .NotEq) (ay n) (ay m) (.bool (n !=m)):=a8.yj.to (by
 congr 1
 rw[aa0,bne_iff_ne,bne_iff_ne]
 exact not_congr acg)
theorem a8.LJ:a8 G k σ (compareOp .Gt) (ay n) (ay m) (.bool (decide (m<n))):=a8.KL.to (by
 congr 1
 rw[aa0,decide_eq_true_iff,decide_eq_true_iff]
 exact abe)
theorem a8.ltN:a8 G k σ (compareOp .Lt) (ay n) (ay m) (.bool (decide (n<m))):=a8.m_.to (by
 congr 1
 rw[aa0,decide_eq_true_iff,decide_eq_true_iff]
 exact abe)
theorem a8.WL:a8 G k σ (compareOp .LtE) (ay n) (ay m) (.bool (decide (n<=m))):=a8.DA.to (by
 congr 1
 rw[aa0,decide_eq_true_iff,decide_eq_true_iff]
 exact abQ)
theorem a8.yX:a8 G k σ (binaryOp .RShift) (ay n) (ay m) (ay (n / 2^m)):=(a8.KU g7).to (V.la (by
 rw[X0,ab1 _ (Int.pow_nonneg aH),agA,aej]
 rfl))
theorem a8.yY(O:n<2^64)(ae:m<=100000):a8 G k σ (binaryOp .LShift) (ay n) (ay m) (ay (n*2^m)):=(a8.KS g7 (by
 have:=afd (k:=(n:Int)) xD mY
 lia)).to (V.la (by rw[X0,agR,aej];rfl))
theorem a8.rb(O:n<2^64)(ae:m<=100000):a8 G k σ (binaryOp .Pow) (ay n) (ay m) (ay (n^m)):=(a8.KR g7 (by
 have:=afd (k:=(n:Int)) xD mY
 exact ahq (show(Zz (n:Int):Int)*(m:Int)<=64*100000 from Int.mul_le_mul (by lia) (by lia) g7 aH) aH)).to (V.la (by rw[X0,aej]))
theorem LK(x s:Nat):x &&& (x / 2^s*2^s)=x / 2^s*2^s:=by
 apply Nat.eq_of_testBit_eq
 intro i
 simp only[Nat.testBit_and,Nat.testBit_mul_two_pow,Nat.testBit_div_two_pow]
 by_cases h:s<=i
 ·simp[h,qI]
 ·simp[h]
theorem a8.LL(s:Nat):a8 G k σ (binaryOp .BitXor) (ay n) (ay (n / 2^s*2^s)) (ay (n%2^s)):=a8.KV.to (V.la (by
 rw[bitXor_and]
 have O:af4 (n:Int) ((n / 2^s*2^s:Nat):Int)=((n / 2^s*2^s:Nat):Int):=by
  delta af4
  simp only[YH,decide_true,X0,LK]
 rw[O]
 have:=aei n (2^s)
 rw[YT]at this
 lia))
end
theorem LM(xs:List α):fQ xs none (some (-((1:Nat):Int))) none=xs.dropLast:=Ld xs
theorem LN(xs:List α)(a:Nat):fQ xs (some (a:Int)) (some (-((1:Nat):Int))) none=(xs.drop a).dropLast:=Le xs a
theorem Eb(xs:List α):fQ xs none none (some (-((1:Nat):Int)))=xs.reverse:=Lf xs
theorem LO{m gu:cf}:(σ.set a m).set a gu=σ.set a gu:=by
 delta ba.set
 simp only[X_]
 refine Yf λp _=>?_
 simp only[abU]
 by_cases h:p.1=a
 ·rw[if_pos h,if_pos rfl,if_pos h]
 ·rw[if_neg h,if_neg h]
section
variable{r:Yy}{pos:Pos}
theorem Ec{o:Obj}{vs:List XF}{x:Int}{u:Tok}{Q:XF->XG->Prop}(aP:s.heap.get? a=some o)(au:o.cls=.type "list")(hd:o.data=.seq vs.toArray n)(pV:-(2^62)<=x)(vk:x<2^62)(hsz:vs.length*x.toNat<=256)
  (h:Q (.ref s.heap.objs.size) {s with heap:=s.heap.push (gW (XR x.toNat vs).flatten 0)}):wpAny (model G.prog G.w) A (binaryOp .Mult (.ref a) (.int x u)) Q E s:=by
 obtain⟨cls,dd,data,bE⟩:=o
 simp only at au hd
 subst au hd
 have WM:vs.toArray.size*x.toNat<=256:=by simpa using hsz
 refine wpAny_binaryOp_repeat_ref (T:="list") (U:="int") aH ⟨_,aP,rfl⟩ (λJ=>adW J x u) noFill_list_mul PySem.F.fills_int_mul aeH repeat_list PySem.F.slot_int_index.lookup
  (ac8 aeH (adW s x u) PySem.F.entry_int_rmul (PySem.F.args_int_rmul_2 _ _) (lm_int_rmul_list_any x u a vs.toArray n dd bE) ⟨aP,rfl,⟨_,aP,rfl⟩,?_⟩)
 refine ac8 PySem.F.slot_list_mul ⟨_,aP,rfl⟩ PySem.F.entry_list_mul (PySem.F.args_list_mul_2 _ _) (lm_list_mul_any a vs.toArray n dd bE x u (by simp[adv];lia) (by lia) (by simp[abC,YD];exact dt)) ⟨aP,?_⟩
 rw[listMul_foldl_if]
 exact h
theorem a5.flat{P:XM->Prop}{vs:List XF}(q:a5 P h vs ds):∀n,a5 P h (XR n vs).flatten (XR n ds).flatten:=by
 intro n
 induction n with
 |zero=>exact .nil
 |succ n ih=>rw[abG,abG,ab7,ab7];exact q.append ih
theorem a8.LP{x:Int}(pV:-(2^62)<=x)(vk:x<2^62)(hsz:ds.length*x.toNat<=256):a8 G k σ (binaryOp .Mult) (.list ds) (.int x) (.list (XR x.toNat ds).flatten):=λA pr s cN d2 Q E R W a0 bG h=>by
 refine fm a0.iR λa vs n aB a3 cb cV=>?_
 subst aB
 obtain⟨t,rfl⟩:=bG.int_inv
 have bx:bb s {s with heap:=s.heap.push (gW (XR x.toNat vs).flatten 0)}:=.push _ s.toks
 exact Ec a3 rfl rfl pV vk (by rw[cV.length];exact hsz) (h _ _ bx (.list (n:=0) (XU _ rfl) (W.gs (XT _)) ((cV.flat _).keep bx)))
theorem cc.LQ{x:Int}(O:aN G k sc σ Γ l (.list ds))(ae:aN G k sc σ Γ r (.int x))(pV:-(2^62)<=x)(vk:x<2^62)(hsz:ds.length*x.toNat<=256):
  cc G k sc T σ Γ (.BinOp l .Mult r pos) (λY d=>∃a,a∉σ.at/\Y=(a,.list (.type "list") none (XR x.toNat ds).flatten)::σ/\d=.raw (.ref a)):=by
 intro A env pr s Q E R aa W F aA
 refine abM (O A env pr s _ _ R aa W F λcN aj ax a0=>ae A env pr aj _ _ R aa (W.keep ax) (F.keep ax) λd2 ao aM bG=>?_)
 refine fm ((a0.keep aM).iR) λa vs n aB a3 cb cV=>?_
 subst aB
 obtain⟨t,rfl⟩:=bG.int_inv
 have jY:bb s ao:=ax.trans aM
 refine Ec a3 rfl rfl pV vk (by rw[cV.length];exact hsz) ?_
 have bx:bb ao {ao with heap:=ao.heap.push (gW (XR x.toNat vs).flatten 0)}:=.push _ ao.toks
 have bt:bb s {ao with heap:=ao.heap.push (gW (XR x.toNat vs).flatten 0)}:=jY.trans bx
 refine aA _ _ _ _ ⟨ao.heap.objs.size,s_ W jY.size,rfl,rfl⟩ (.fresh bt jY.size) ?_ ?_ (.raw _)
 ·refine W.new bt jY.size (by simp) ⟨_,0,#[],XU _ rfl,?_,λ_=>rfl⟩
  refine(cV.flat _).mono λb o q e=>⟨⟨λz=>(XH.mp z).elim (λz=>XN _ (by have:=XX e;rw[z]at this;exact this)) q.1,q.2⟩,bx.get e⟩
 ·refine(F.keep jY).stp (σ:=σ) (C:=jk) (s:=ao) ⟨bx,?_,λb H=>.tail _ H⟩ (λ_ q=>q.elim) λ_ q=>q.elim
  exact λb H=>(XH.mp H).elim (λq=>.inr (q▸XT _)) .inl
theorem Ed{dD:Yy}{LR:YI}{LS:List ZF}{names':List (Str×Zj)}{Q:XF->XG->Prop}(h:i3 G f names LR LS)(aW:cs A k)(aa:cT G sc env)(W:a4 G σ pr s)(F:bg σ pr s.heap env Γ)
  (fN:G.cl=dC env.cells names') (bK:∀x,(x,Yj)∈names'->∃c,env.cells.lookup x=some c) (hf:aN G k sc σ Γ dD (.raw (.ref f))) (O:gM G k sc σ Γ (e::aZ) ds)
  (c6:∀x d,gy.lookup x=some d->Γ.lookup x=some d/\sc.names.lookup x=some .cell/\(x,Yj)∈names') (ae:hg G k T σ (.ref f) gy ds R) (aU:∀b∈T,b∈σ.at)
  (aA:∀Y d v J,R Y d->b4 (·∈T) σ Y s J->a4 G Y pr J->bg Y pr J.heap env Γ->bu (aT Y pr) J.heap v d->Q v J)
  (he:autoParam (dU e aZ) aI) (fg:autoParam (BT pos aZ) aI)
  (aR:autoParam (ik dD (e::aZ) pos) aI):wpAny (model G.prog G.w) A (eval (.Call dD (e::aZ) [] pos) env) Q E s:=by
 rw[aR]
 refine XA (hf A env pr s _ _ aW aa W F λv aj ax a0=>?_)
 have cM:=a0.dB
 subst cM
 refine iY h.calls aW aa (W.keep ax) (F.keep ax) O (he env) (fg env) λvs ao aM bG=>?_
 have bt:bb s ao:=ax.trans aM
 have bo:=W.keep bt
 have bQ:=F.keep bt
 refine ae A pr ao vs _ _ aW bo bG (LH fN bK aa.scope bQ c6) λY d v J ar st bc bV=>aA Y d v J ar ((b4.dF bt).trans' st) bc ?_ bV
 exact bQ.stp st (λb H q=>q.1 (aU b H)) λb H q=>bo.apart b (aU b H) (bQ.c' b q)
theorem i1.wide{cl:List (Str×XM)}(x:i1 G a names sc body cd ix)(aL:∀b o,G.h₀.get? b=some o->h.get? b=some o):i1 (G.wide h cl) a names sc body cd ix:=by
 refine bC λ_ a'=>?_
 obtain⟨⟨o,fd,O,ae,a2,b_,cn,gQ,dJ,fA,kt⟩,c2,nm,LU,co,gen,kind⟩:=x
 refine a' ?_
 exact⟨⟨o,fd,aL _ _ O,ae,a2,b_,cn,gQ,dJ,fA.keeps aL,kt⟩,c2,nm,LU,co,gen,kind⟩
theorem vl(W:a4 G σ pr s):∀b o,G.h₀.get? b=some o->(hideAll s.heap (σ.at++pr)).get? b=some o:=λb o e=>abN _ (W.base b o e) λH=>by
 have:=W.above b (XY.mp H)
 cases this.symm.trans e
theorem cT.wide{cl:List (Str×XM)}(aa:cT G sc env)(az:∀x,sc.names.lookup x≠some .free):cT (G.wide h cl) sc env:=⟨aa.scope,aa.globals,aa.builtins,λx ag=>absurd ag (az x)⟩
theorem i3.of{name:Str}{params:ahu}{doc lO h5:XF}{cq:XM}(F:bg σ pr s.heap env Γ)(hf:aT σ pr f)(kR:aT σ pr cq)
  (aP:s.heap.get? f=some {cls:=.type "function",data:=.func (fnX name q params body scope (dC env.cells scope.names) .none .none doc lO none (.ref cq) h5)}) (lQ:s.heap.CodeRec (.ref cq) q)
  (bK:∀x,(x,Yj)∈scope.names->∃c,env.cells.lookup x=some c) (eG:(scope.names.map (·.1)).Nodup) (k4:∀x∈names,iu scope x) (nf:scope.isCoroutine=false) (pM:scope.isGenerator=false) (rd:scope.kind=.function)
  (H:∀vs:List XF,vs.length=names.length->bindArgs (fnX name q params body scope (dC env.cells scope.names) .none .none doc lO none (.ref cq) h5) ⟨vs,[]⟩=pure (names.zip vs)) :
  i3 (G.wide (hideAll s.heap (σ.at++pr)) (dC env.cells scope.names)) f names scope body:=by
 have Ee:∀{b},aT σ pr b->b∉σ.at++pr:=λH q=>(XY.mp q).elim H.1 H.2
 have LV:(hideAll s.heap (σ.at++pr)).CodeRec (.ref cq) q:=by
  refine bC λ_ a'=>?_
  obtain⟨z,gX,ws,t,iV,iW,k'⟩:=lQ
  refine a' ?_
  cases iV
  exact⟨cq,gX,ws,t,rfl,abN _ iW (Ee kR),k'⟩
 refine⟨⟨_,_,abN _ aP (Ee hf),rfl,rfl,rfl,rfl,rfl,rfl,LV,H⟩,Dp eG F.apart bK,?_,λx c hm=>mem_lookup eG (qY bK hm).1,λx ag=>?_,eG,k4,nf,pM,rd⟩
 ·show((dC env.cells scope.names).map (·.1)).Nodup
  delta dC
  simp only[X_]
  simp only[(show((λx:Str×XM=>x.1)∘λn:Str×Zj=>(n.1,(env.cells.lookup n.1).getD 0))=λn:Str×Zj=>n.1 from by funext n;rfl),aaR]
  exact ae8.mpr ((eG.sublist (List.filter_sublist.map _)).imp λh=>h.symm)
 ·obtain⟨c,au⟩:=bK x (mem_of_lookup ag)
  exact⟨c,by show(dC env.cells scope.names).lookup x=some c;rw[sJ bK (mem_of_lookup ag)];exact au⟩
theorem bR.run{st:ZF}(h:bR G k sc T σ Γ st P)(aW:cs A k)(aa:cT G sc env)(W:a4 G σ pr s)(F:bg σ pr s.heap env Γ)
  (aA:∀o f J,P o->b4 (λb=>b∈T\/eb sc env b) σ o.st s J->o.at G env pr J f->Q f J):wpAny (model G.prog G.w) A (exec st env) Q E s:=h A env pr s Q E aW aa W F aA
theorem fp.run{b:Bool}{Q:Bool->XG->Prop}(h:fp G k sc σ Γ e b)(aW:cs A k)(aa:cT G sc env)(W:a4 G σ pr s)(F:bg σ pr s.heap env Γ)
  (aA:∀J,bb s J->Q b J):wpAny (model G.prog G.w) A (isTrue e env (eval e env)) Q E s:=h A env pr s Q E aW aa W F aA
theorem aN.run{Q:XF->XG->Prop}(h:aN G k sc σ Γ e d)(aW:cs A k)(aa:cT G sc env)(W:a4 G σ pr s)(F:bg σ pr s.heap env Γ)
  (aA:∀v J,bb s J->bu (aT σ pr) J.heap v d->Q v J):wpAny (model G.prog G.w) A (eval e env) Q E s:=h A env pr s Q E aW aa W F aA
theorem kh.ls(cU:e1 σ S d ds)(hsz:ds.length<2^62):kh G k σ d (!ds.isEmpty):=λA pr s v Q E R W r h=>by
 refine qL (cU.is W r) λa vs aB h1 e_ _=>?_
 subst aB
 have H:vs.toArray.isEmpty=ds.isEmpty:=by
  have:=e_.length
  rw[afm]
  cases vs<;>cases ds<;>simp at this ⊢
 refine ag3 h1 (by rw[X3,e_.length];exact mY) ?_
 exact H▸h _ (.tok _)
theorem bR.yZ{cG:List Yy}{er:Nat}(O:cc G k sc T σ Γ e R)(H:∀Y d,R Y d->∃fo xs,hH G k sc Y (.Tuple cG er pos) d Γ fo xs/\(∀x∈xs,iu sc x)/\P (.next Y fo))
  (aG:autoParam (∀env,swapsWithSole [.Tuple cG er pos] e p.line env=pure false) aI) (bz:autoParam (∀env,env.scope=sc->swappedStores [.Tuple cG er pos] e env=pure none) aI) (e8:autoParam (∀env,(assignEach [.Tuple cG er pos] env).map (·.2)=[PySem.assign (.Tuple cG er pos) env]) aI):bR G k sc T σ Γ (.Assign [.Tuple cG er pos] e p) P:=by
 intro A env pr s Q E R aa W F aA
 refine agI (O A env pr s _ _ R aa W F (λY d v J p st bc b7 r=>?_)) (aG env) (bz env aa.scope)
 rw[e8]
 refine gI (H Y d p) λfo xs eP iv ar=>?_
 refine eP A env pr J v _ _ R aa bc b7 r λdn aJ iw=>?_
 refine aA _ _ dn ar ?_ ⟨rfl,bc.aJ aJ λb H=>b7.c' b H.b0,iw⟩
 exact(st.mono λ_ q=>.inl q).trans' (DI (C:=jk) b7 aJ iv)
theorem vm{x:Str}(ag:iu sc x)(bk:iu sc y):∀z∈[x]++([y]++[]),iu sc z:=by
 intro z hz
 rcases XH.mp hz with rfl|hz
 ·exact ag
 ·exact(XD.mp hz).symm▸bk
end
section
variable{r:Yy}{pos:Pos}
inductive Ef(aa a:XM)(P:XM->Prop)(h:Zu)(ds:List V):Prop
 |mk (vs:List XF) (i:Nat) (aq:h.IsTupleIter aa a i) (aw:h.IsTuple a vs.toArray) (r:a5 P h (vs.drop i) ds)
theorem LW{aa:XM}(b':a≠aa)(bK:A.handled=none){x:Str}:g9 G A σ (.Name x p) [aa] [a] aa (Ef aa a) where
 mono:=λP P' h ah ds aG aL bz=>by
  cases aG with|mk vs i aq aw r=>
  exact⟨vs,i,by obtain⟨o,e,q⟩:=aq;exact⟨o,bz aa o (.inl (.head _)) e,q⟩,by obtain⟨o,e,q⟩:=aw;exact⟨o,bz a o (.inr (.head _)) e,q⟩,r.mono aL⟩
 next:=λpr s Q E d ds W cH aG aA=>by
  cases aG with|mk vs i aq aw r=>
  have es:¬aT σ pr aa:=λq=>q.2 (cH aa (.head _))
  generalize e:vs.drop i=ws at r
  refine gI r.jL λ_ _ aB hd ai=>?_
  subst aB
  rename_i v ws
  refine wpAny_pyNext_tuple_item aq aw (x:=v) (by simpa using(by rw[<-ad',e];rfl)) λah kT c1=>?_
  have k:KB (·∈[aa]) s {s with heap:=ah}:=.sameBut c1 (.head _)
  have br:∀b,b∈[aa]->¬aT σ pr b:=λb H=>by rcases XD.mp H with rfl;exact es
  refine aA v {s with heap:=ah} k (hd.aJ k br) λbX cI aR=>sE (aR _ (.refl _ _) ⟨vs,i+1,kT,by obtain⟨o,e,q⟩:=aw;exact⟨o,c1.extBut _ _ b' e,q⟩,?_⟩)
  rw[(show vs.drop (i+1)=ws from by rw[<-aeq,e];rfl)]
  exact ai.aJ k br
 done:=λpr s Q E W aG aA=>by
  cases aG with|mk vs i aq aw r=>
  have az:vs[i]?=none:=by
   generalize e:vs.drop i=ws at r
   cases r
   have:=congrArg aaO e
   simp at this
   exact X8 xH
  refine jO (wpAny_pyNext_tuple_end bK aq aw (by simpa using az) λah he hz=>?_)
  exact aA _ (.extBut he (.head _) hz)
 self:=λP s Q E ds aG aA=>by
  cases aG with|mk vs i aq aw r=>
  exact wpAny_pyIter_tupleiter aq aA
theorem e0.tuple{x:Str}(O:aN G k sc σ Γ e (.tuple ds)):e0 G k sc σ S Γ (.Name x p) e ds:=by
 intro A env pr s Q E R aa W F h
 refine O A env pr s _ _ R aa W F λv aj ax a0=>h v aj ax λbX cI aA=>?_
 refine fm a0.jM λa vs n aB ku dY e_=>?_
 subst aB
 have lt:=XX ku
 refine wpAny_pyIter_tuple (qQ ku) ?_
 have bx:bb aj {aj with heap:=aj.heap.push {cls:=.type "tuple_iterator",data:=.fields #[.ref a,.int 0 0]}}:=.push _ aj.toks
 refine aA _ [aj.heap.objs.size] [a] (Ef aj.heap.objs.size a) [aj.heap.objs.size] _ bx (λ_=>LW (Ys lt) R.handled) (λb H=>?_) (λb H=>H) (λb H=>?_) ⟨vs,0,⟨_,XU _ rfl,rfl,rfl⟩,qQ (bx.get ku),?_⟩
 ·rw[XD.mp H];exact⟨ax.size,by simp⟩
 ·rw[XD.mp H];exact⟨⟨dY.2,λq=>XN _ (XD.mp q▸lt),XE lt bx.size⟩,.inr dY.1⟩
 ·exact e_.d' bx λb H=>by rw[XD.mp H];exact XT _
end
section
variable{r:Yy}{pos:Pos}
theorem cc.Eg(O:e0 G k sc σ S Γ bh iter ds)(ae:d3 G k (fP scope sc) σ bh da elt (hs scope Γ) xs ds outs)(hsz:outs.length<=YD)(au:autoParam (mq sc scope xs=true) aD)
  (aG:autoParam (∀env x,YM iter env x=pure x) aI):cc G k sc T σ Γ (.ListComp elt [⟨bh,iter,da,0⟩] scope pos) (λY d=>∃a,a∉σ.at/\Y=(a,.list (.type "list") none outs)::σ/\d=.raw (.ref a)):=by
 intro A env pr s Q E R aa W F aA
 have c:=gO.of au
 refine Zw (use:=none) (cl:=dC env.cells scope.names) rfl (aG env) (c.kS aa F) c.k c.loc ?_
 refine O A env pr s _ _ R aa W F λx aj ax fr=>fr _ _ λit wr bY St np ao aM cx cg cH dX st=>?_
 refine ye (f0:=λacc C=>compPost (model G.prog G.w) A E none Q acc C) c R aa W F (ax.trans aM) (cx _) cg cH (λb H=>(dX b H).1) st ae hsz ?_
 intro D C J ks br eY fV jr aw
 refine cS br λm hm=>?_
 refine⟨m,hm,λah c1=>?_⟩
 refine g8 aw λn vs a3 r=>?_
 have d0:KB (λb=>b=C) J {J with heap:=ah}:=.hr c1 rfl
 have hJ:bb s {J with heap:=ah}:=⟨λb o _ e=>d0.keep b o (λq=>XN _ (XE (XX e) (q▸fV))) (ks.get e),XC ks.size d0.size,ks.os,ks.gens⟩
 have bH:=d0.keep D _ (λq=>jr q.symm) a3
 refine aA _ _ _ _ ⟨D,s_ W eY,rfl,rfl⟩ (.fresh hJ eY) (W.new hJ eY (XX bH) ⟨vs.toArray,n,#[],bH,?_,λ_=>rfl⟩) ?_ (.raw _)
 ·refine(r.aJ d0 λb H q=>q.2 (H▸.head _)).mono λb o q e=>⟨⟨λH=>?_,λH=>q.2 (.tail _ (.tail _ H))⟩,e⟩
  rcases XH.mp H with rfl|H
  ·exact q.2 (.tail _ (.head _))
  ·exact q.1 H
 ·exact F.stp (Y:=(D,cf.list (.type "list") none outs)::σ) (C:=jk) (.fresh hJ eY) (λ_ q=>q.elim) λ_ q=>q.elim
theorem bR.y0(O:cc G k sc T σ Γ e R)(cz:∀Y d,R Y d->∃ds,d=.tuple ds/\names.length=ds.length/\P (.next Y ((names.reverse.zip ds.reverse).reverse++Γ)))(az:∀x∈names,sc.names.lookup x=some .local)(iX:autoParam (sc.kind=.function) aI)
  (pQ:autoParam (∀env,swapsWithSole [ew] e p.line env=pure false) aI) (e8:autoParam (∀env,env.scope=sc->swappedStores [ew] e env=pure (some names)) aC):bR G k sc T σ Γ (.Assign [ew] e p) P:=by
 intro A env pr s Q E R aa W F aA
 refine XA (Yl ?_)
 rw[pQ env]
 refine XA (XK ?_)
 rw[if_neg aH]
 refine XA (O A env pr s _ _ R aa W F (λY d v aj pp st cA cX r=>?_))
 refine gU (cz Y d pp) λds aB b2 ar=>?_
 subst aB
 rw[e8 env aa.scope]
 refine XA (XK ?_)
 refine fm r.jM λa vs n aB ku dY e_=>?_
 subst aB
 show wpAny _ _ (do rule "assign.swapped-stores";let items <-unpackItems (.ref a) names.length none;assignInOrder (names.reverse.map λn=>bindName env n) items.reverse;pure Flow.next) _ _ _
 refine XA (aaw ?_)
 rw[(show names.length=vs.toArray.size from by rw[X3,e_.length,b2])]
 refine XA (jO (acU R.handled (qQ ku) λah ag hz=>?_))
 have k:bb aj {aj with heap:=ah}:=.heap (λb o e=>ag b o (Ys (XX e)) e) hz
 refine XA (DX (σ:=Y) (pr:=pr) (by rw[aa.scope];exact iX) names.reverse vs.reverse ds.reverse Γ _ _ (by simpa using b2) (cX.keep k) ((e_.keep k).reverse) (λx ag=>by unfold Yh;rw[aa.scope];exact az x (YS.mp ag)) λao aM bQ=>XK ?_)
 refine aA _ _ ao ar (((st.mono λ_ q=>.inl q).trans' (.dF k)).trans (.of aM) λb H=>.inl (.inr (H.eb λy bk=>.inl (az y (YS.mp bk))))) ⟨rfl,(cA.keep k).aJ aM λb H=>(cX.keep k).c' b H.b0,bQ⟩
end
noncomputable def y1(aK:Nat->XM):List (Str×XF):=[("parse229",.ref (aK 5)),("_div2n1n",.ref (aK 8)),("_div3n2n",.ref (aK 9)),("_int2digits",.ref (aK 10)),("_digits2int",.ref (aK 11)),("_divmod_pos",.ref (aK 12)),("int_divmod",.ref (aK 13)),("_law_read",.ref (aK 18)),("_law_reply",.ref (aK 19)),("_law_plain",.ref (aK 20)),("_law_next",.ref (aK 21)),("_law_house",.ref (aK 22)),("_law_ring",.ref (aK 23)),("_law_throw",.ref (aK 24)),("_law_drawn",.ref (aK 25)),("_law_walked",.ref (aK 26)),("_law_parted",.ref (aK 27)),("_law_numbered",.ref (aK 28)),("_law_order",.ref (aK 29)),("_law_right",.ref (aK 30)),("_Accumulator",.ref (aK 16)),("error_reply",.ref (aK 3)),("error_proto",.ref (aK 4))]
noncomputable def vn:List (Str×XF):=[("len",.builtin "len"),("range",.type "range"),("sum",.builtin "sum"),("isinstance",.builtin "isinstance"),("tuple",.type "tuple"),("int",.type "int"),("bool",.type "bool"),("str",.type "str"),("sorted",.builtin "sorted"),("reversed",.type "reversed"),("zip",.type "zip"),("enumerate",.type "enumerate"),("divmod",.builtin "divmod"),("super",.type "super"),("ValueError",.type "ValueError")]
noncomputable def vo:List (Nat×List Str):=[(5,["resp","peer"]),(8,["a","b","n"]),(9,["a12","a3","b","b1","b2","n"]),(10,["a","n"]),(11,["digits","n"]),(12,["a","b"]),(13,["a","b"]),(18,["text"]),(19,["way","rooms","dress"]),(20,["pair","kinds"]),(21,["house","room"]),(22,["ways","dress","size"]),(23,["lead","room"]),(24,["house","ring"]),(25,["house","draw"]),(26,["house","order"]),(27,["number","way"]),(28,["ways"]),(29,["rooms","number"]),(30,["house","size"])]
structure cK(G:GE)(aK:Nat->XM):Prop where
 g:∀x v,(y1 aK).lookup x=some v->G.mg x=some v
 lim:∃t,G.mg "_DIV_LIMIT" = some (.int 4000 t)
 emp:∃t,G.mg "EMPTYSTRING" = some (.str "" t)
 b:∀x v,vn.lookup x=some v->G.mg x=none
 fn:∀i names,vo.lookup i=some names->fa G (aK i) names (b6 i).2 (b6 i).1
 vp:i1 G (aK 10) ["a","n"] (b6 10).2 (b6 10).1 (.ref 85) "_int2digits"
 vq:i1 G (aK 11) ["digits","n"] (b6 11).2 (b6 11).1 (.ref 92) "_digits2int"
 bm:∃bm o,G.mg "__builtins__" = some (.ref bm)/\bm≠Y6/\bm≠YJ/\G.h₀.get? bm=some o/\o.cls=.type "module"/\o.dict=some Y6/\o.data=.plain
theorem cK.wide{cl:List (Str×XM)}(P:cK G aK)(aL:∀b o,G.h₀.get? b=some o->h.get? b=some o):cK (G.wide h cl) aK where
 g:=P.g
 lim:=P.lim
 emp:=P.emp
 b:=P.b
 fn:=λi names e=>by obtain⟨cd,ix,x⟩:=P.fn i names e;exact⟨cd,ix,x.wide aL⟩
 vp:=P.vp.wide aL
 vq:=P.vq.wide aL
 bm:=by obtain⟨bm,o,O,ae,a2,b_,cn⟩:=P.bm;exact⟨bm,o,O,ae,a2,aL _ _ b_,cn⟩
theorem LX:(vn.all λp=>bootBuiltins p.1==some p.2&&p.1 !=("__name__":Str))=true:=by kernel_rfl
section
variable{x:Str}{pos:Pos}{v:XF}
theorem aN.globT(P:cK G aK)(h:(y1 aK).lookup x=some v)(aL:autoParam (sc.kind=.function) aI)(ag:autoParam (sc.names.lookup x=some .globalImplicit) aI)(hd:autoParam ((x==("__debug__":Str))=false) aD):aN G k sc σ Γ (.Name x pos) (.raw v):=.glob (P.g x v h) aL ag hd
theorem aN.cF(P:cK G aK)(h:vn.lookup x=some v)(aL:autoParam (sc.kind=.function) aI)(ag:autoParam (sc.names.lookup x=some .globalImplicit) aI)(hd:autoParam ((x==("__debug__":Str))=false) aD):aN G k sc σ Γ (.Name x pos) (.raw v):=by
 have:=X9.mp LX _ (mem_of_lookup h)
 simp only[Yp,beq_iff_eq,bne_iff_ne]at this
 exact .dV (P.b x v h) this.1 this.2 aL ag hd
theorem cK.calls(P:cK G aK){i:Nat}(h:vo.lookup i=some names):Calls G (.ref (aK i)):=(P.fn i names h).calls
end
noncomputable def i4(lead a6:List Nat):List Nat:=if a6.getLastD 0 !=0&&!decide (a6.getLastD 0∈a6.dropLast)then a6++[lead.getD (a6.getLastD 0) 0]else a6
def mz(lead:List Nat)(room:Nat):List Nat:=lead.foldl (λw _=>i4 lead w) [room]
def f7(lead:List Nat)(room:Nat):List Nat:=let w:=mz lead room;if w.getLastD 0 !=0 then(w.drop (w.idxOf (w.getLastD 0))).dropLast else[]
abbrev LY:List ZF:=(b6 23).1
abbrev LZ:YI:=(b6 23).2
theorem L0:cO 0 ay:=cO.nat
theorem rf{w:List Nat}(h:w≠[])(hsz:w.length<2^62):a8 G k σ getItem (.list (aV w)) (.int (-1)) (ay (w.getLastD 0)):=.getLast (Lh h) (by simpa using hsz)
theorem Eh{l:List Nat}{z:Nat}(h:∀x∈l,x<n)(az:0<n):l.getD z 0<n:=by
 rw[XB]
 cases e:l[z]? with
 |none=>exact az
 |some x=>exact h x (ZV e)
theorem y2{l:List Nat}(h:l≠[]):l.getLastD 0∈l:=by
 simp only[aey,adZ h]
 exact List.getLast_mem h
def tm(lead:List Nat)(i:Nat)(w:List Nat):Prop:=w≠[]/\(∀x∈w,x<lead.length)/\w.length<=i+1
theorem Ei{lead w:List Nat}{i:Nat}(mA:∀x∈lead,x<lead.length)(es:tm lead i w):tm lead (i+1) (i4 lead w):=by
 obtain⟨O,ae,a2⟩:=es
 delta i4
 split
 ·refine⟨by simp,λx ag=>?_,by simp;exact qI⟩
  rcases XY.mp ag with ag|ag
  ·exact ae x ag
  ·simp only[XD.mp ag]
   exact Eh mA (XW (Yd _) (ae _ (y2 O)))
 ·exact⟨O,ae,xB⟩
theorem L1{lead:List Nat}{room:Nat}(mA:∀x∈lead,x<lead.length)(ov:room<lead.length):tm lead lead.length (mz lead room):=by
 have:=hL.DW (f:=λw _=>i4 lead w) (Inv:=tm lead) lead 0 [room] ⟨by simp,by simpa using ov,by simp⟩ λi a b _ _ h=>Ei mA h
 simpa [mz] using this
theorem L2(P:cK G aK){lead:List Nat}{room:Nat}(cU:e1 σ S d (aV lead))(mA:∀x∈lead,x<lead.length)(ov:room<lead.length)(hsz:lead.length<1000):
  cp G k LZ [] σ [("room",ay room),("lead",d)] LY (·=.ret σ (.list (aV (f7 lead room)))):=by
 refine cp.seq (.eS (.list (.cons (.name rfl) .nil) c7)) ?_
 refine cp.seq (a9:=σ) (Γ₁:=[("way",.list (aV (mz lead room))),("room",ay room),("lead",d)]) (.kY (S:=S) (.list (.name rfl) cU) (by simp) (by simp) ?_) ?_
 ·refine hL.fold ay (λ_=>σ) (λw=>[("way",.list (aV w)),("room",ay room),("lead",d)]) (λw _=>i4 lead w) (tm lead) lead 0 [room] ⟨by simp,by simpa using ov,by simp⟩ λi w b H aq es=>⟨Ei mA es,_,_,.name,?_,?_⟩
  ·intro x ag;rw[XD.mp ag];exact .inl rfl
  ·refine bC λ_ a'=>?_
   obtain⟨O,ae,a2⟩:=es
   refine a' ?_
   have hz:=ae _ (y2 O)
   have bz:w.length<2000:=by lia
   refine .one (.fz (b:=((w.getLastD 0:Nat):Int) !=0&&(!decide (w.getLastD 0∈w.dropLast)&&true)) ?_ ?_ ?_)
   ·refine .and (.cmp (.gZ (.name rfl) (.un .bf .hb) (rf O mi)) .bf .yj) λ_=>.and (.cmp (.gZ (.name rfl) (.un .bf .hb) (rf O mi)) (.i0 (.name rfl) .none (.some (.un .bf .hb)) .none aH (b1 (by simp;exact jK))) ?_) λ_=>.and_nil
    rw[s7,LM]
    exact .s6 (S:=[]) cj.nat 0 L0 .list
   ·intro H
    have y3:i4 lead w=w++[lead.getD (w.getLastD 0) 0]:=by
     unfold i4
     rw[if_pos]
     simp only[Yp,bne_iff_ne,ads]at H ⊢
     exact⟨by have:=H.1;lia,H.2⟩
    rw[y3]
    refine cp.seq (.eS (.bin (.name rfl) (.list (.cons (.va cU (.name rfl) (.gZ (.name rfl) (.un .bf .hb) (rf O mi)) (.u' cU g7 (d:=ay (lead.getD (w.getLastD 0) 0)) ?_ (by lia))) .nil) c7) (.h2 (b1 (by simp;exact jK))))) (.fin (.cv ?_ (.cv rfl (.cv rfl .nil))))
    ·rw[X0,X1,XI hz,XB,XI hz];rfl
    ·rw[kV];simp
   ·intro H
    have y3:i4 lead w=w:=by
     unfold i4
     rw[if_neg]
     intro q
     simp only[Yp,bne_iff_ne]at q
     have:((((w.getLastD 0:Nat):Int) !=0&&(!decide (w.getLastD 0∈w.dropLast)&&true))=true):=by
      simp only[Yp,bne_iff_ne,ads]
      exact⟨by have:=q.1;lia,q.2⟩
     rw[H]at this
     cases this
    rw[y3]
    exact .fin (.cv rfl (.cv rfl (.cv rfl .nil)))
 ·have ai:f7 lead room=if(mz lead room).getLastD 0 !=0 then((mz lead room).drop ((mz lead room).idxOf ((mz lead room).getLastD 0))).dropLast else[]:=rfl
  rw[ai]
  obtain⟨O,ae,a2⟩:=L1 mA ov
  generalize mz lead room=w at *
  have bz:w.length<2000:=by lia
  have hm:=y2 O
  have bq:w.idxOf (w.getLastD 0)<w.length:=ZE hm
  refine .one (.mono (.ret (.il (b:=((w.getLastD 0:Nat):Int) !=0) (.cmp (.gZ (.name rfl) (.un .bf .hb) (rf O mi)) .bf .yj)
   (λ_=>.i0 (.name rfl) (.some (.pB (.name rfl) (T:="list") (d₀:=.list (aV w)) rfl ad1 aco ad0 (.cons (.gZ (.name rfl) (.un .bf .hb) (rf O mi)) .nil) (bW.index (S:=[]) (ns:=w.map λn:Nat=>(n:Int)) (j:=w.idxOf (w.getLastD 0)) (.inl (by simp[hw])) (by simpa using bq) (by simpa using aao bz aH) (by simp) ?_))) (.some (.un .bf .hb)) .none aH (b1 (by simp;exact jK)))
   (λ_=>.list .nil aH))) ?_)
  ·intro m y4 sZ
   have L3:m<w.length:=by simpa using y4
   have:=aeW (p:=λx=>x==w.getLastD 0) (xs:=w) (i:=m) sZ
   simp only[Zy]
   intro q
   have jP:w[m]=w.getLastD 0:=acg.mp q
   simp[jP]at this
  ·intro o aP
   subst aP
   by_cases hz:w.getLastD 0=0
   ·have a3:(((w.getLastD 0:Nat):Int) !=0)=false:=by rw[hz];rfl
    have bH:(w.getLastD 0 !=0)=false:=by rw[hz];rfl
    rw[a3,bH]
    rfl
   ·have a3:(((w.getLastD 0:Nat):Int) !=0)=true:=by rw[bne_iff_ne];lia
    have bH:(w.getLastD 0 !=0)=true:=by rw[bne_iff_ne];exact hz
    rw[a3,bH,s7,LN]
    rfl
theorem Ej(P:cK G aK){lead:List Nat}{room:Nat}(cU:e1 σ S d (aV lead))(mA:∀x∈lead,x<lead.length)(ov:room<lead.length)(hsz:lead.length<1000):
  bW G (k+1) σ (.ref (aK 23)) [d,ay room] (.list (aV (f7 lead room))):=
 .of_body (P.fn 23 _ rfl) rfl (L2 P cU mA ov hsz)
abbrev Ek:List ZF:=(b6 10).1
abbrev nq:YI:=(b6 10).2
abbrev vr:List ZF:=(defOf ((b6 10).1[1]?)).1
abbrev i5:YI:=(defOf ((b6 10).1[1]?)).2
noncomputable def fill(n:Nat):Nat->Nat->Nat->Nat->List Nat->List Nat
 |0,x,L,R,l=>l.set L x
 |f+1,x,L,R,l=>if L+1=R then l.set L x else
  fill n f (x / 2^(((L+R) / 2^1-L)*n)) ((L+R) / 2^1) R (fill n f (x%2^(((L+R) / 2^1-L)*n)) L ((L+R) / 2^1) l)
theorem tn{f:Nat}(O:1<m)(h:m<=2^(f+1)):∃a b,m=a+b/\0<a/\0<b/\a<=2^f/\b<=2^f/\∀L,(L+(L+m)) / 2^1=L+a:=by
 rw[aam]at h
 exact⟨m / 2,m-m / 2,(Zq (abF ..)).symm,ad8 O aH,abb (Nat.div_lt_self (aao aan O) aH),Nat.div_le_of_le_mul (YT ..▸h),by lia,λL=>by rw[Nat.pow_one,<-Yo,<-Nat.two_mul,agQ aH]⟩
theorem tp(h0:0<m)(h:¬L+1=L+m):1<m:=ab0 h0 λq=>h (congrArg (L+·) q)
theorem y5{f x R:Nat}{l:List Nat}:fill n (f+1) x L R l=if L+1=R then l.set L x else
  fill n f (x / 2^(((L+R) / 2^1-L)*n)) ((L+R) / 2^1) R (fill n f (x%2^(((L+R) / 2^1-L)*n)) L ((L+R) / 2^1) l):=rfl
theorem El(f:Nat):∀(x L R:Nat) (l:List Nat),(fill n f x L R l).length=l.length:=by
 induction f with
 |zero=>exact λx L R l=>ZO
 |succ f ih=>
  intro x L R l
  simp only[y5]
  by_cases h:L+1=R
  ·rw[if_pos h];exact ZO
  ·rw[if_neg h,ih,ih]
noncomputable abbrev bD.vt(Γ:bD)(x:Str):Option V:=Γ.lookup x
section
variable{ad:XM}
def c8(f ad:XM)(n:Nat):bD:=[("a_digits",.raw (.ref ad)),("n",ay n),("inner",.raw (.ref f))]
theorem lS{P:α->Prop}{a b:α}(aY:P a)(H:P b):∀x∈[a,b],P x:=λx ag=>by
 rcases XH.mp ag with rfl|ag
 ·exact aY
 ·exact XD.mp ag▸H
theorem rg{P:α->Prop}{a b c:α}(aY:P a)(H:P b)(au:P c):∀x∈[a,b,c],P x:=λx ag=>by
 rcases XH.mp ag with rfl|ag
 ·exact aY
 ·exact lS H au x ag
theorem rh{x iV iW k':Str}{d hY kW nr:α}{P:Str->α->Prop}(h:([(iV,hY),(iW,kW),(k',nr)]:List (Str×α)).lookup x=some d)(O:P iV hY)(ae:P iW kW)(a2:P k' nr):P x d:=by
 rcases XH.mp (mem_of_lookup h)with h|h
 ·obtain⟨rfl,rfl⟩:=aaj h;exact O
 rcases XH.mp h with h|h
 ·obtain⟨rfl,rfl⟩:=aaj h;exact ae
 ·obtain⟨rfl,rfl⟩:=aaj (XD.mp h);exact a2
theorem vu{x:Str}(h:(c8 f ad n).lookup x=some d):i5.names.lookup x=some .free:=rh (P:=λx _=>i5.names.lookup x=some .free) h rfl rfl rfl
theorem Em{a b c e r q t:V}{x:Str}(h:(c8 f ad n).lookup x=some d):bD.vt [("lower",a),("upper",b),("shift",c),("mid",e),("R",r),("L",q),("x",t),("a_digits",.raw (.ref ad)),("n",ay n),("inner",.raw (.ref f))] x=some d:=
 rh (P:=λx d=>bD.vt [("lower",a),("upper",b),("shift",c),("mid",e),("R",r),("L",q),("x",t),("a_digits",.raw (.ref ad)),("n",ay n),("inner",.raw (.ref f))] x=some d) h rfl rfl rfl
abbrev lT(l:List Nat):cf:=.list (.type "list") none (aV l)
def Lay(σ:ba)(ad:XM)(l:List Nat)(Y:ba)(d:V):Prop:=Y=σ.set ad (lT l)/\d=.none
variable{x:Nat}{l:List Nat}
theorem En(au:i3 G f ["x","L","R"] i5 vr)(cU:L<l.length)(aw:l.length<=1000)(f9:(ad,lT l)∈σ):hg G (m+1) [ad] σ (.ref f) (c8 f ad n) [ay x,ay L,ay (L+1)] (Lay σ ad (l.set L x)):=by
 refine hg.of_body (P:=(·=.ret (σ.set ad (lT (l.set L x))) .none)) au rfl (λx d h=>vu h) ?_ λo aP=>by subst aP;exact⟨rfl,rfl⟩
 refine cp.cons (eA:=(·=.ret (σ.set ad (lT (l.set L x))) .none)) (.fz (b:=L+1==L+1) (.cmp (.bin (.name rfl) .bf .g2) (.name rfl) .lR) (λ_=>?_) (λh=>absurd (beq_self_eq_true (L+1)) (by rw[h];decide))) λo aP=>by subst aP;rfl
 refine cp.seq (.yJ (n:=L) (a:=ad) (.name rfl) (.name rfl) f9 (.head _) (.name rfl) (by rw[XJ];exact cU) (by rw[XJ];exact XC aw aH)) ?_
 exact aha▸.one .K3
theorem L4(au:i3 G f ["x","L","R"] i5 vr){a b:Nat}{c9 dQ:List Nat}(H:0<b)(aY:0<a)(jx:(L+(L+(a+b))) / 2^1=L+a)(ag:x<2^64)(aG:a*n<=1000)(az:n<=1000)(cU:L+a<=1000)(f9:(ad,lT l)∈σ)
  (hy:hg G (m+1) [ad] σ (.ref f) (c8 f ad n) [ay (x%2^(a*n)),ay L,ay (L+a)] (Lay σ ad c9)) (h4:hg G (m+1) [ad] (σ.set ad (lT c9)) (.ref f) (c8 f ad n) [ay (x / 2^(a*n)),ay (L+a),ay (L+(a+b))] (Lay σ ad dQ)) :
  hg G (m+2) [ad] σ (.ref f) (c8 f ad n) [ay x,ay L,ay (L+(a+b))] (Lay σ ad dQ):=by
 have b9:∀b∈[ad],b∈σ.at:=λb H=>by rw[XD.mp H];exact dr f9
 have b':¬L+1=L+(a+b):=λq=>by have:=ZN q;lia
 refine hg.of_body (P:=λo=>∃Γ,o=.next (σ.set ad (lT dQ)) Γ) au rfl (λx d h=>vu h) ?_ λo aP=>by obtain⟨Γ,rfl⟩:=aP;exact⟨rfl,rfl⟩
 refine cp.seq (.fz (b:=L+1==L+(a+b)) (.cmp (.bin (.name rfl) .bf .g2) (.name rfl) .lR) (λh=>absurd (beq_iff_eq.mp h) b') (λ_=>.nil rfl)) ?_
 refine cp.seq (.eS (d:=ay (L+a)) (.to (.bin (.bin (.name rfl) (.name rfl) .g2) .bf .yX) (by rw[jx]))) ?_
 refine cp.seq (.eS (d:=ay (a*n)) (.to (.bin (.bin (.name rfl) (.name rfl) (.ou (X4 L a))) (.name rfl) (.tl CJ)) (by rw[ZD]))) ?_
 refine cp.seq (.eS (d:=ay (x / 2^(a*n))) (.bin (.name rfl) (.name rfl) .yX)) ?_
 refine cp.seq (.eS (d:=ay (x%2^(a*n))) (.bin (.name rfl) (.bin (.name rfl) (.name rfl) (.yY (XW (abF _ _) ag) dt)) (.LL _))) ?_
 refine cp.seq (a9:=σ.set ad (lT c9)) (.expr (.callC au (.name rfl) (.cons (.name rfl) (.cons (.name rfl) (.cons (.name rfl) .nil))) (λx d h=>⟨Em h,vu h⟩) hy b9) (λY d h=>by rw[h.1])) ?_
 exact .cons (.expr (.callC au (.name rfl) (.cons (.name rfl) (.cons (.name rfl) (.cons (.name rfl) .nil))) (λx d h=>⟨Em h,vu h⟩) h4 (λb H=>by rw[h3];exact b9 b H)) (P:=λo=>∃Γ,o=.next (σ.set ad (lT dQ)) Γ) (λY d h=>by rw[h.1];exact⟨_,rfl⟩)) λo aP=>by obtain⟨Γ,rfl⟩:=aP;exact⟨[ad],λb H=>.inl H,.nil ⟨_,rfl⟩⟩
theorem L5(au:i3 G f ["x","L","R"] i5 vr)(az:n<=1000)(m:Nat):∀(x L r:Nat) (l:List Nat) (σ:ba),0<r->r<=2^m->L+r<=l.length->l.length<=1000->x<2^64->r*n<=1000->(ad,lT l)∈σ->
  hg G (m+1) [ad] σ (.ref f) (c8 f ad n) [ay x,ay L,ay (L+r)] (Lay σ ad (fill n m x L (L+r) l)):=by
 induction m with
 |zero=>
  intro x L r l σ h0 hm dT aw ag y6 f9
  obtain rfl:r=1:=Y' hm h0
  exact En au dT aw f9
 |succ m ih=>
  intro x L r l σ h0 hm dT aw ag y6 f9
  simp only[y5]
  by_cases nt:L+1=L+r
  ·rw[if_pos nt]
   obtain rfl:=ZN nt
   exact En au dT aw f9
  ·rw[if_neg nt]
   refine sr (tn (tp h0 nt) hm) λa b aB aY H nu kx jx=>?_
   subst aB
   have aG:=XC (abz n (X4 a b)) y6
   have tq:=XC (YC (X4 a b) L) dT
   rw[jx,ZD]
   have hy:=ih (x%2^(a*n)) L a l σ aY nu tq aw (XW (Nat.mod_le _ _) ag) aG f9
   have mB:=El (n:=n) m (x%2^(a*n)) L (L+a) l
   have h4:=ih (x / 2^(a*n)) (L+a) b (fill n m (x%2^(a*n)) L (L+a) l) (σ.set ad (lT (fill n m (x%2^(a*n)) L (L+a) l))) H kx (by rw[mB,Yo];exact dT) (by rw[mB];exact aw) (XW (abF _ _) ag) (XC (abz n (Y1 b a)) y6) (pR f9)
   unfold Lay at h4
   rw[LO,Yo]at h4
   exact L4 au H aY (jx L) ag aG az (XC tq aw) f9 hy h4
end
noncomputable def cV:Str:=Yr "_int2digits"++Yr ".<locals>."++"inner"
noncomputable def ek(a:Nat):Nat:=Zz (a:Int)
def gd(a n:Nat):List Nat:=if a=0 then XR ((ek a+n-1) / n) 0 else fill n 5 a 0 ((ek a+n-1) / n) (XR ((ek a+n-1) / n) 0)
theorem L6:∀x,nq.names.lookup x≠some .free:=by
 intro x h
 have:=mem_of_lookup h
 revert this
 have:(nq.names.all λp=>p.2 !=.free)=true:=by rfl
 intro hm
 have:=X9.mp this _ hm
 simp at this
theorem Eo:∀x,(x,Yj)∈i5.names->nq.names.lookup x=some .cell:=by
 have:(i5.names.all λp=>p.2 !=.free||nq.names.lookup p.1==some .cell)=true:=by kernel_rfl
 intro x ag
 have:=X9.mp this _ ag
 simpa using this
theorem Ep(m:Nat):(XR m [ay 0]).flatten=aV (XR m 0):=by
 induction m with
 |zero=>rfl
 |succ m ih=>rw[abG,ab7,ih,abG];rfl
theorem Er(P:cK G aK){a:Nat}(hm:(fh,.tab 85 cV)∈σ)(az:0<n)(y7:n<=20)(aY:ek a<=60)(b2:(ek a+n-1) / n<=32):
  cy G (k+8) [fh] σ (.ref (aK 10)) [ay a,ay n] (λY d=>Y=σ/\d=.list (aV (gd a n))):=by
 have L7:a<2^64:=by
  have:=(intBits_le_iff (x:=(a:Int)) (m:=60)).mp aY
  simp at this
  exact mi
 generalize y8:(ek a+n-1) / n=m at b2
 have ri:gd a n=if a=0 then XR m 0 else fill n 5 a 0 m (XR m 0):=by unfold gd;rw[y8]
 refine cy.sW (P:=(·=.ret σ (.list (aV (gd a n))))) P.vp rfl (k:=k+7) ?_ λo aP=>by subst aP;exact⟨[],σ,rfl,λ_ h=>h,rfl,rfl⟩
 intro A env pr s Q E aW aa kr y9 W F aA
 have L8:=dr hm
 have bK:=λx ag=>F.fT x (.inl (by unfold Yh;rw[aa.scope];exact Eo x ag))
 have y_:bR G (k+7) nq [fh] σ [("n",ay n),("a",ay a)] (Ek.head!) (λo=>∃ad,ad∉σ.at/\o=.next ((ad,.list (.type "list") none (aV (XR m 0)))::σ) [("a_digits",.raw (.ref ad)),("n",ay n),("a",ay a)]):=by
  refine bR.letE (R:=λY d=>∃ad,ad∉σ.at/\Y=(ad,.list (.type "list") none (aV (XR m 0)))::σ/\d=.raw (.ref ad)) ?_ λY d h=>by obtain⟨ad,O,rfl,rfl⟩:=h;exact⟨ad,O,rfl⟩
  refine .mono (.LQ (ds:=[ay 0]) (x:=((m:Nat):Int)) (.list (.cons .bf .nil) aH) (.to (d:=ay ((ek a+n-1) / n)) (.bin (.bin (.bin (.yg (.name rfl) (T:="int") (d₀:=ay a) rfl acf abw abv (d:=ay (ek a)) .yD) (.name rfl) .g2) (by exact .bf) (.ou (XC az (Y1 _ _)))) (.name rfl) (.kv az (XW y7 aH))) (by rw[y8])) (YH _) oa (by simp;exact dt)) λY d h=>by
   rw[X0,Ep]at h;exact h
 refine Ze (y_.run aW aa W F λo f aj p st jX=>?_)
 obtain⟨ad,lb,rfl⟩:=p
 obtain⟨rfl,cA,cX⟩:=jX
 dsimp only[hu.st]at st
 have Es:=(st.new ad (.head _)).resolve_left lb
 refine Ze (D5 (T:=[fh,ad]) (σ:=(ad,.list (.type "list") none (aV (XR m 0)))::σ) rfl rfl rfl aW aa cA cX (.tail _ hm) (.head _) kr (by unfold qualnameIn Yh;rw[aa.scope,y9];rfl) rfl (.inr rfl) P.bm (λx ag=>.inl (Eo x ag)) λf ao fO bo bQ q_ hf=>?_)
 refine bC λ_ a'=>?_
 obtain⟨doc,lO,cq,h5,my,y',lQ⟩:=hf
 refine a' ?_
 have za:=bo.wide (dC env.cells i5.names)
 have zb:=aa.wide (h:=hideAll ao.heap (ba.at ((ad,.list (.type "list") none (aV (XR m 0)))::σ)++pr)) (cl:=dC env.cells i5.names) L6
 have au:i3 (G.wide (hideAll ao.heap (ba.at ((ad,.list (.type "list") none (aV (XR m 0)))::σ)++pr)) (dC env.cells i5.names)) f ["x","L","R"] i5 vr:=
  .of bQ q_ my y' lQ bK aQ (rg (P:=λx=>i5.names.lookup x=some .local\/i5.names.lookup x=some .cell) (.inl rfl) (.inl rfl) (.inl rfl)) rfl rfl rfl ?_
 ·refine Ze (wpAny_If (fp.run (.val (d:=ay a) (.name rfl) .int) aW aa bo bQ λbI cu=>?_))
  -- WN is left L9 L_ digits WO
  have fin:∀(l:List Nat) (bM:XG),l=gd a n->b4 (λb=>b∈[ad]) ((ad,cf.list (.type "list") none (aV (XR m 0)))::σ) ((ad,cf.list (.type "list") none (aV l))::σ) ao bM->a4 G ((ad,cf.list (.type "list") none (aV l))::σ) pr bM->
    bg ((ad,cf.list (.type "list") none (aV l))::σ) pr bM.heap env [("inner",.raw (.ref f)),("a_digits",.raw (.ref ad)),("n",ay n),("a",ay a)]->
    wpAny (model G.prog G.w) A (execs (Ek.drop 3) env) Q E bM:=λl bM aw d7 e9 eZ=>by
   refine Ze (Z9 (aN.run (sc:=nq) (d:=.raw (.ref ad)) (.name rfl) aW aa e9 eZ λv ez dA pW=>?_))
   have L':=pW.dB
   subst L'
   have lJ:=e9.keep dA
   refine aA _ _ ez rfl ?_ ⟨lJ.drop (ec:=[(ad,cf.list (.type "list") none (aV l))]),_,rfl,by rw[<-aw];exact lJ.freeze⟩
   have Ma:b4 (λb=>b∈[fh]\/eb nq env b) σ ((ad,cf.list (.type "list") none (aV l))::σ) s ez:=
    ((st.trans fO λb H=>H.elim (λH=>(XH.mp H).elim (λq=>.inl (.inl (by rw[q];exact .head _))) λq=>.inr (by rw[XD.mp q];exact Es)) λq=>.inl (.inr q)).trans d7 λb H=>.inr (by rw[XD.mp H];exact Es)).trans' (.dF dA)
   exact⟨Ma.aJ,λb H=>.inl H,λb H=>H⟩
  have eH:=bo.keep cu
  have fx:=bQ.keep cu
  by_cases vv:a=0
  ·have a3:((a:Int) !=0)=false:=by rw[vv];rfl
   rw[a3]
   refine aa_ (fin _ bI (by rw[ri,if_pos vv]) (.dF cu) eH fx)
  ·have a3:=bne_iff_ne.mpr λq=>vv (Int.natCast_eq_zero.mp q)
   rw[a3]
   have Mb:ek a≠0:=by
    delta ek Zz
    rw[if_neg (by simp;exact qI)]
    lia
   have zc:0<m:=by rw[<-y8];exact ad8 JL az
   have aq:=L5 (ad:=ad) (n:=n) au (XC y7 aH) 5 a 0 m (XR m 0) ((ad,cf.list (.type "list") none (aV (XR m 0)))::σ) zc b2 (by rw[Yq,Zb];exact XT m) (by rw[Zb];exact XC b2 aH) L7 (XC (ade b2 y7) aH) (.head _)
   unfold Lay at aq
   rw[vb lb,Yq]at aq
   have Mc:fill n 5 a 0 m (XR m 0)=gd a n:=by rw[ri,if_neg vv]
   rw[Mc]at aq
   refine Ze (ahO (Ed (G:=G.wide (hideAll ao.heap (ba.at ((ad,cf.list (.type "list") none (aV (XR m 0)))::σ)++pr)) (dC env.cells i5.names)) (sc:=nq) (T:=[ad]) (ds:=[ay a,ay 0,ay m]) (names':=i5.names) au aW zb (za.keep cu) fx rfl bK (.name rfl) (.cons (.name rfl) (.cons .bf (.cons (.to (d:=.int ((aV (XR m 0)).length:Nat)) (.call (.cF (P.wide (vl bo)) rfl) (.dV _) (.cons (.name rfl) .nil) (bW.len (S:=[ad]) (.inr ⟨ad,none,rfl,.head _,.head _⟩) (by rw[XJ,Zb];exact XW b2 aH))) (by rw[XJ,Zb])) .nil))) ?_ (aq.room (Y1 _ _)) (λb H=>by rw[XD.mp H];exact .head _) ?_) (by unfold interactive;rw[aa.scope];rfl) rfl)
   ·intro x d h
    exact rh (P:=λx d=>adY x ([("inner",.raw (.ref f)),("a_digits",.raw (.ref ad)),("n",ay n),("a",ay a)]:bD)=some d/\adY x nq.names=some .cell/\(x,Yj)∈i5.names) h ⟨rfl,rfl,mem_of_lookup (by rfl)⟩ ⟨rfl,rfl,mem_of_lookup (by rfl)⟩ ⟨rfl,rfl,mem_of_lookup (by rfl)⟩
   ·intro Y d v bM ai d7 e9 eZ ot
    obtain⟨rfl,rfl⟩:=ai
    refine aa_ (fin _ bM rfl ((b4.dF cu).trans' d7) (e9.narrow W.ok (vl bo)) eZ)
 ·intro vs bJ
  rcases vs with _|⟨x,_|⟨y,_|⟨z,_|⟨t,vs⟩⟩⟩⟩<;>first|rfl|exact nomatch bJ
abbrev WQ:List ZF:=(b6 11).1
abbrev ow:YI:=(b6 11).2
abbrev vw:List ZF:=(defOf ((b6 11).1[0]?)).1
abbrev i6:YI:=(defOf ((b6 11).1[0]?)).2
noncomputable def mC(n:Nat):Nat->Nat->Nat->List Nat->Nat
 |0,L,R,l=>l.getD L 0
 |f+1,L,R,l=>if L+1=R then l.getD L 0 else mC n f ((L+R) / 2^1) R l*2^(((L+R) / 2^1-L)*n)+mC n f L ((L+R) / 2^1) l
theorem zd{f R:Nat}{l:List Nat}:mC n (f+1) L R l=if L+1=R then l.getD L 0 else mC n f ((L+R) / 2^1) R l*2^(((L+R) / 2^1-L)*n)+mC n f L ((L+R) / 2^1) l:=rfl
theorem Md{l:List Nat}(aw:∀x∈l,x<2^n)(f:Nat):∀(L r:Nat),0<r->r<=2^f->mC n f L (L+r) l<2^(n*r):=by
 have h0:∀L,l.getD L 0<2^(n*1):=λL=>(ad7 n).symm▸Eh aw (aeg n)
 induction f with
 |zero=>
  intro L r Me ai
  obtain rfl:r=1:=Y' ai Me
  exact h0 L
 |succ f ih=>
  intro L r ar ai
  simp only[zd]
  by_cases h:L+1=L+r
  ·rw[if_pos h]
   obtain rfl:=ZN h
   exact h0 L
  ·rw[if_neg h]
   refine sr (tn (tp ar h) ai) λa b aB aY H nu kx jx=>?_
   subst aB
   rw[jx,ZD,<-Yo,aa7,ada,YT a n,YT (2^(n*a))]
   exact XE (abJ (ih L a aY nu) _) (by rw[<-Nat.succ_mul];exact abz _ (ih (L+a) b H kx))
section
variable{dd:V}
def du(f:XM)(n:Nat)(dd:V):bD:=[("n",ay n),("digits",dd),("inner",.raw (.ref f))]
theorem vx{x:Str}(h:(du f n dd).lookup x=some d):i6.names.lookup x=some .free:=rh (P:=λx _=>i6.names.lookup x=some .free) h rfl rfl rfl
theorem Et{c e r q:V}{x:Str}(h:(du f n dd).lookup x=some d):bD.vt [("shift",c),("mid",e),("R",r),("L",q),("n",ay n),("digits",dd),("inner",.raw (.ref f))] x=some d:=
 rh (P:=λx d=>bD.vt [("shift",c),("mid",e),("R",r),("L",q),("n",ay n),("digits",dd),("inner",.raw (.ref f))] x=some d) h rfl rfl rfl
def mD(σ:ba)(d₀:V)(Y:ba)(d:V):Prop:=Y=σ/\d=d₀
variable{l:List Nat}
theorem Eu(au:i3 G f ["L","R"] i6 vw)(cU:e1 σ S dd (aV l))(ky:l.length<=1000)(hz:L<l.length):hg G (m+1) [] σ (.ref f) (du f n dd) [ay L,ay (L+1)] (mD σ (ay (l.getD L 0))):=by
 refine hg.of_body (P:=(·=.ret σ (ay (l.getD L 0)))) au rfl (λx d h=>vx h) ?_ λo aP=>by subst aP;exact⟨rfl,rfl⟩
 refine cp.cons (eA:=(·=.ret σ (ay (l.getD L 0)))) (.fz (b:=L+1==L+1) (.cmp (.bin (.name rfl) .bf .g2) (.name rfl) .lR) (λ_=>.one (.ret (.va cU (.name rfl) (.name rfl) (.u' cU (YH _) ?_ o9)))) (λh=>absurd (beq_self_eq_true (L+1)) (by rw[h];decide))) λo aP=>by subst aP;rfl
 rw[X0,X1,XI hz,XB,XI hz];rfl
theorem Mf(au:i3 G f ["L","R"] i6 vw){a b u v:Nat}(aY:0<a)(H:0<b)(jx:(L+(L+(a+b))) / 2^1=L+a)(aG:a*n<=1000)(az:n<=1000)(cU:L+a<=1000)(dh:u<2^64)
  (hy:hg G (m+1) [] σ (.ref f) (du f n dd) [ay (L+a),ay (L+(a+b))] (mD σ (ay u))) (h4:hg G (m+1) [] σ (.ref f) (du f n dd) [ay L,ay (L+a)] (mD σ (ay v))) :
  hg G (m+2) [] σ (.ref f) (du f n dd) [ay L,ay (L+(a+b))] (mD σ (ay (u*2^(a*n)+v))):=by
 have b':¬L+1=L+(a+b):=λq=>by have:=ZN q;lia
 refine hg.of_body (P:=(·=.ret σ (ay (u*2^(a*n)+v)))) au rfl (λx d h=>vx h) ?_ λo aP=>by subst aP;exact⟨rfl,rfl⟩
 refine cp.seq (.fz (b:=L+1==L+(a+b)) (.cmp (.bin (.name rfl) .bf .g2) (.name rfl) .lR) (λh=>absurd (beq_iff_eq.mp h) b') (λ_=>.nil rfl)) ?_
 refine cp.seq (.eS (d:=ay (L+a)) (.to (.bin (.bin (.name rfl) (.name rfl) .g2) .bf .yX) (by rw[jx]))) ?_
 refine cp.seq (.eS (d:=ay (a*n)) (.to (.bin (.bin (.name rfl) (.name rfl) (.ou (X4 L a))) (.name rfl) (.tl CJ)) (by rw[ZD]))) ?_
 refine .one (.sQ (R:=mD σ (ay (u*2^(a*n)+v))) ?_ (λY d h=>by rw[h.1,h.2]))
 refine .bin (gP:=mD σ (ay (u*2^(a*n)))) (R₂:=λ_ _=>mD σ (ay v)) (λb H=>cZ H) ?_ ?_ ?_
 ·refine .bin (gP:=mD σ (ay u)) (R₂:=λ_ _=>mD σ (ay (a*n))) (λb H=>cZ H) (.callC au (.name rfl) (.cons (.name rfl) (.cons (.name rfl) .nil)) (λx d h=>⟨Et h,vx h⟩) hy λb H=>cZ H) ?_ ?_
  ·rintro a9 bZ ⟨rfl,rfl⟩
   exact .of (.name rfl)
  ·rintro a9 bZ cC d₂ ⟨rfl,rfl⟩ ⟨rfl,rfl⟩
   exact⟨_,.yY dh (XC aG aH),rfl,rfl⟩
 ·rintro a9 bZ ⟨rfl,rfl⟩
  exact .callC au (.name rfl) (.cons (.name rfl) (.cons (.name rfl) .nil)) (λx d h=>⟨Et h,vx h⟩) h4 λb H=>cZ H
 ·rintro a9 bZ cC d₂ ⟨rfl,rfl⟩ ⟨rfl,rfl⟩
  exact⟨_,.g2,rfl,rfl⟩
theorem Mg(au:i3 G f ["L","R"] i6 vw)(cU:e1 σ S dd (aV l))(aw:∀x∈l,x<2^n)(lU:n*l.length<=60)(ky:l.length<=1000)(az:n<=1000)(m:Nat):∀(L r:Nat),0<r->r<=2^m->L+r<=l.length->
  hg G (m+1) [] σ (.ref f) (du f n dd) [ay L,ay (L+r)] (mD σ (ay (mC n m L (L+r) l))):=by
 induction m with
 |zero=>
  intro L r h0 hm dT
  obtain rfl:r=1:=Y' hm h0
  exact Eu au cU ky dT
 |succ m ih=>
  intro L r h0 hm dT
  simp only[zd]
  by_cases nt:L+1=L+r
  ·rw[if_pos nt]
   obtain rfl:=ZN nt
   exact Eu au cU ky dT
  ·rw[if_neg nt]
   refine sr (tn (tp h0 nt) hm) λa b aB aY H nu kx jx=>?_
   subst aB
   have Ev:=XC (Y1 _ L) dT
   have tq:=XC (YC (X4 a b) L) dT
   have hy:=ih (L+a) b H kx (by rw[Yo];exact dT)
   have fI:=Md aw m (L+a) b H kx
   rw[jx,ZD]
   rw[Yo]at hy fI
   exact Mf au aY H (jx L) (XC (YT a n▸ZM n (XC (X4 a b) Ev)) (XC lU aH)) az (XC tq ky) (XE fI (ZY aH (XC (ZM n (XC (Y1 b a) Ev)) (XC lU aH)))) hy (ih L a aY nu tq)
end
noncomputable def dN:Str:=Yr "_digits2int"++Yr ".<locals>."++"inner"
def rj(l:List Nat)(n:Nat):Nat:=if l=[]then 0 else mC n 5 0 l.length l
theorem Mh:∀x,ow.names.lookup x≠some .free:=by
 intro x h
 have:=mem_of_lookup h
 revert this
 have:(ow.names.all λp=>p.2 !=.free)=true:=by rfl
 intro hm
 have:=X9.mp this _ hm
 simp at this
theorem Ew:∀x,(x,Yj)∈i6.names->ow.names.lookup x=some .cell:=by
 have:(i6.names.all λp=>p.2 !=.free||ow.names.lookup p.1==some .cell)=true:=by kernel_rfl
 intro x ag
 have:=X9.mp this _ ag
 simpa using this
theorem Mi(P:cK G aK){dd:V}{l:List Nat}(hm:(fh,.tab 92 dN)∈σ)(cU:e1 σ S dd (aV l))(aw:∀x∈l,x<2^n)(lU:n*l.length<=60)(ky:l.length<=32)(az:n<=1000):
  cy G (k+8) [fh] σ (.ref (aK 11)) [dd,ay n] (λY d=>Y=σ/\d=ay (rj l n)):=by
 refine cy.sW (P:=(·=.ret σ (ay (rj l n)))) P.vq rfl (k:=k+7) ?_ λo aP=>by subst aP;exact⟨[],σ,rfl,λ_ h=>h,rfl,rfl⟩
 intro A env pr s Q E aW aa kr y9 W F aA
 have L8:=dr hm
 have bK:=λx ag=>F.fT x (.inl (by unfold Yh;rw[aa.scope];exact Ew x ag))
 refine Ze (D5 (T:=[fh]) (σ:=σ) rfl rfl rfl aW aa W F hm (.head _) kr (by unfold qualnameIn Yh;rw[aa.scope,y9];rfl) rfl (.inr rfl) P.bm (λx ag=>.inl (Ew x ag)) λf ao fO bo bQ q_ hf=>?_)
 obtain⟨doc,lO,cq,h5,my,y',lQ⟩:=hf
 have za:=bo.wide (dC env.cells i6.names)
 have zb:=aa.wide (h:=hideAll ao.heap (σ.at++pr)) (cl:=dC env.cells i6.names) Mh
 have au:i3 (G.wide (hideAll ao.heap (σ.at++pr)) (dC env.cells i6.names)) f ["L","R"] i6 vw:=
  .of bQ q_ my y' lQ bK aQ (lS (P:=λx=>i6.names.lookup x=some .local\/i6.names.lookup x=some .cell) (.inl rfl) (.inl rfl)) rfl rfl rfl ?_
 ·refine Ze (Z9 (agn (fp.run (sc:=ow) (.val (d:=dd) (.name rfl) (.ls cU (by rw[XJ];exact XW ky aH))) aW aa bo bQ λbI cu=>?_)))
  have eH:=bo.keep cu
  have fx:=bQ.keep cu
  simp only[(show(aV l).isEmpty=l.isEmpty from by cases l<;>rfl)]
  by_cases rk:l=[]
  ·subst rk
   refine aN.run (sc:=ow) (d:=ay 0) .bf aW aa eH fx λv bM dz ot=>?_
   exact aA (.ret σ (ay 0)) (.ret v) bM rfl (fO.trans' (.dF (cu.trans dz))) ⟨eH.keep dz,v,rfl,ot⟩
  ·have kp:=aav.mpr rk
   rw[(show(!l.isEmpty)=true from by cases l<;>first|rfl|exact absurd rfl rk)]
   have hd:rj l n=mC n 5 0 l.length l:=by unfold rj;rw[if_neg rk]
   have aq:=Mg au cU aw lU (XC ky aH) az 5 0 l.length kp ky (Yg (Yq _))
   rw[Yq,<-hd]at aq
   rw[if_pos rfl]
   refine Ed (G:=G.wide (hideAll ao.heap (σ.at++pr)) (dC env.cells i6.names)) (sc:=ow) (T:=[]) (ds:=[ay 0,ay l.length]) (names':=i6.names) au aW zb (za.keep cu) fx rfl bK (.name rfl) (.cons .bf (.cons (.to (d:=.int ((aV l).length:Nat)) (.call (.cF (P.wide (vl bo)) rfl) (.dV _) (.cons (.name rfl) .nil) (bW.len cU (by simp;exact jJ))) (by simp)) .nil)) ?_ (aq.room hT) (λb H=>cZ H) ?_
   ·intro x d h
    exact rh (P:=λx d=>adY x ([("inner",.raw (.ref f)),("n",ay n),("digits",dd)]:bD)=some d/\adY x ow.names=some .cell/\(x,Yj)∈i6.names) h ⟨rfl,rfl,mem_of_lookup (by rfl)⟩ ⟨rfl,rfl,mem_of_lookup (by rfl)⟩ ⟨rfl,rfl,mem_of_lookup (by rfl)⟩
   ·intro Y d v bM ai d7 e9 eZ ot
    obtain⟨rfl,rfl⟩:=ai
    exact aA _ (.ret v) bM rfl ((fO.trans' (.dF cu)).trans' (d7.mono λ_ H=>cZ H)) ⟨e9.narrow W.ok (vl bo),v,rfl,ot⟩
 ·intro vs bJ
  rcases vs with _|⟨x,_|⟨y,_|⟨t,vs⟩⟩⟩<;>first|rfl|exact nomatch bJ
noncomputable def hh(B:Nat):List Nat->Nat
 | []=>0
 |d::r=>d+B*hh B r
theorem vy{B d:Nat}{r:List Nat}:hh B (d::r)=d+B*hh B r:=rfl
theorem vz(B:Nat)(a b:List Nat):hh B (a++b)=hh B a+B^a.length*hh B b:=by
 induction a with
 |nil=>rw[Z4,abc,adb];exact(Yq _).symm
 |cons d a ih=>rw[agh,vy,vy,ih,Yi,aam,aa7,<-aeP,YT B (B^a.length),Yo]
theorem WR(B d:Nat):hh B [d]=d:=rfl
theorem Mj{l:List Nat}(f:Nat)(O:0<m)(ae:m<=2^f)(a2:L+m<=l.length):mC n f L (L+m) l=hh (2^n) ((l.drop L).take m):=by
 have one:∀{L},L+1<=l.length->l.getD L 0=hh (2^n) ((l.drop L).take 1):=λ{L} h=>by
  simp only[YR h,afz,List.take_zero,XB,XI h]
  rfl
 induction f generalizing L m with
 |zero=>
  obtain rfl:m=1:=Y' ae O
  exact one a2
 |succ f ih=>
  simp only[zd]
  split
  ·rename_i h
   obtain rfl:=ZN h
   exact one a2
  ·rename_i h
   refine sr (tn (tp O h) ae) λa b aB aY H nu kx jx=>?_
   subst aB
   have b_:=Yo ..▸a2
   have cn:=XC (X4 ..) b_
   rw[jx,ZD,<-Yo,ih H kx b_,ih aY nu cn,List.take_add,vz,List.drop_drop,ZJ (by rw[YG];exact afg cn),<-ac',YT n a,YT,YL]
theorem Mk{l:List Nat}(h:l.length<=32):rj l n=hh (2^n) l:=by
 delta rj
 split
 ·rename_i e;subst e;rfl
 ·rename_i e
  have:=Mj (n:=n) (l:=l) 5 (L:=0) (aav.mpr e) h (Yg (Yq _))
  rwa [Yq,abT,abm]at this
theorem Ml{a j:Nat}(x:Nat)(h:j<a):x%2^(n*a) / 2^(n*j)%2^n=x / 2^(n*j)%2^n:=by
 refine cS (Nat.exists_eq_add_of_lt h) λk aB=>?_
 subst aB
 simp only[Yo,aa7,ada,Nat.mod_mul_right_div_self,aa7,ad7,ada,YT (2^(n*k)),Nat.mod_mul_right_mod]
theorem Mm(f:Nat){x:Nat}{l:List Nat}(O:0<m)(ae:m<=2^f)(a2:L+m<=l.length)(ag:x<2^(n*m))(i:Nat):(fill n f x L (L+m) l)[i]?=if L<=i/\i<L+m then some (x / 2^(n*(i-L))%2^n)else l[i]?:=by
 have one:∀{x L:Nat} {l:List Nat},L+1<=l.length->x<2^(n*1)->(l.set L x)[i]?=if L<=i/\i<L+1 then some (x / 2^(n*(i-L))%2^n)else l[i]?:=λ{x L l} h ag=>by
  by_cases aq:L=i
  ·subst aq
   rw[acy h,if_pos ⟨XT _,Yt _⟩,acE,acF,abc,ad9,acu (ad7 n▸ag)]
  ·rw[afn aq,if_neg λq=>aq (Y' q.1 (YU q.2))]
 induction f generalizing x L m l with
 |zero=>
  obtain rfl:m=1:=Y' ae O
  exact one a2 ag
 |succ f ih=>
  simp only[y5]
  split
  ·rename_i h
   obtain rfl:=ZN h
   exact one a2 ag
  ·rename_i h
   refine sr (tn (tp O h) ae) λa b aB aY H nu kx jx=>?_
   subst aB
   have b_:=Yo ..▸a2
   rw[aa7,ada]at ag
   rw[jx,ZD,YT a n,<-Yo,ih H kx (by rw[El];exact b_) (afw ag),ih aY nu (XC (X4 ..) b_) (YO _ (aeg _))]
   by_cases a1:L+a<=i
   ·have Mn:=XC (X4 ..) a1
    rw[if_neg (show ¬(L<=i/\i<L+a)from λq=>ZS.mpr a1 q.2)]
    refine ite_congr (propext ⟨λq=>⟨Mn,q.2⟩,λq=>⟨a1,q.2⟩⟩) (λ_=>?_) λ_=>rfl
    rw[aaH,<-ada,<-aa7,Nat.sub_add_eq,Zq (afg a1)]
   ·have a1:=abr a1
    rw[if_neg (show ¬(L+a<=i/\i<L+a+b)from λq=>ZS.mpr q.1 a1)]
    refine ite_congr (propext ⟨λq=>⟨q.1,XE q.2 (X4 ..)⟩,λq=>⟨q.1,a1⟩⟩) (λq=>?_) λ_=>rfl
    rw[Ml x (aeJ q.1 a1)]
theorem Ex{a:Nat}(hm:(ek a+n-1) / n=m)(az:0<n)(vA:m<=32):gd a n=(XO m).map λi=>a / 2^(n*i)%2^n:=by
 delta gd
 rw[hm]
 split
 ·rename_i h
  subst h
  rw[show(λi=>0 / 2^(n*i)%2^n)=λ_=>0 from funext λi=>by rw[acD,ahm],ad_,Yc]
 ·rename_i h
  have H:a<2^ek a:=(ZT (x:=(a:Int)) (m:=ek a)).mp (XT _)
  have Mb:=aaF λq=>h (aev.mp (q▸H:a<2^0))
  have k4:ek a<=n*m:=by
   have:=Nat.lt_mul_div_succ (ek a+n-1) az
   rw[hm,aa7,ad7]at this
   lia
  have zc:=hm▸ad8 JK az
  refine adD λi=>?_
  have:=Mm 5 (L:=0) (l:=XR m 0) zc vA (by rw[Zb,Yq];exact XT _) (XE H (ZY aH k4)) i
  rw[Yq]at this
  simp only[this,X1]
  by_cases aq:i<m
  ·rw[if_pos ⟨Yd _,aq⟩,YN aq];rfl
  ·rw[if_neg λq=>aq q.2,Y2,if_neg aq,X8 (by rw[Yc];exact Yu aq)];rfl
theorem Mo(B m a:Nat):hh B ((XO m).map λi=>a / B^i%B)=a%B^m:=by
 induction m generalizing a with
 |zero=>rw[abc,Nat.mod_one];rfl
 |succ m ih=>
  have e:((λi=>a / B^i%B)∘afu)=λi=>(a / B) / B^i%B:=funext λi=>by
   rw[aaH,YT B,<-aam];rfl
  simp only[Z',Yb,X_,vy,e,ih,abc,ad9,aam,YT (B^m) B,Nat.mod_mul]
noncomputable def lV(B b:Nat)(s:Nat×List Nat)(d:Nat):Nat×List Nat:=((s.1*B+d)%b,s.2++[(s.1*B+d) / b])
theorem Mp{B b:Nat}(H:0<b)(ds:List Nat){tr:List Nat}{v:Nat}(O:r=v%b)(ae:hh B tr.reverse=v / b):
  (ds.foldl (lV B b) (r,tr)).1=hh B (ds.reverse++[v])%b/\hh B (ds.foldl (lV B b) (r,tr)).2.reverse=hh B (ds.reverse++[v]) / b:=by
 induction ds generalizing tr v r with
 |nil=>exact⟨O,ae⟩
 |cons d ds ih=>
  have bJ:hh B ((d::ds).reverse++[v])=hh B (ds.reverse++[v*B+d]):=by
   rw[ZI,YK,vz,vz (b:=[v*B+d])]
   refine congrArg (λz:Nat=>hh B ds.reverse+B^ds.reverse.length*z) ?_
   show d+B*(v+B*0)=v*B+d+B*0
   simp only[acF,acJ,acJ,YT B v,YL]
  have e:v*B+d=b*(v / b*B)+(v%b*B+d):=by rw[<-Yo,<-aeP,<-ahF,aei]
  simp only[List.foldl_cons,bJ]
  refine ih (v:=v*B+d) ?_ ?_
  ·rw[O,e,Nat.mul_add_mod]
  ·rw[List.reverse_append,List.reverse_singleton,List.singleton_append,vy,ae,O,e,agQ H,YL,YT]
theorem aN.lim{pos:Pos}(P:cK G aK)(aL:autoParam (sc.kind=.function) aI)(ag:autoParam (sc.names.lookup ("_DIV_LIMIT":Str)=some .globalImplicit) aI):aN G k sc σ Γ (.Name "_DIV_LIMIT" pos) (.int 4000):=by
 intro A env pr s Q E R aa W F h
 refine cS P.lim λt a_=>?_
 refine aau (by rw[aa.scope];exact aL) (by unfold Yh;rw[aa.scope];exact ag) ?_
 refine aec («env»:=env) (mg:=G.mg) ?_ a_ (h _ s (.refl _ _) (.int _ _))
 exact aa.globals▸W.ok.g.keeps W.base
theorem Mq(P:cK G aK){x b:Nat}(H:0<b)(kx:b<2^63)(ag:ek x<=1000):bW G (k+1) σ (.ref (aK 8)) [ay x,ay b,ay n] (.tuple [ay (x / b),ay (x%b)]):=by
 refine .of_body (P.fn 8 _ rfl) rfl ?_
 refine cp.cons (eA:=(·=.ret σ (.tuple [ay (x / b),ay (x%b)]))) (.fz (b:=decide ((((ek x:Nat):Int)-(n:Int))<=4000)) (.cmp (.bin (.yg (.name rfl) (T:="int") (d₀:=ay x) rfl acf abw abv (d:=ay (ek x)) .yD) (.name rfl) .pF) (.lim P) .DA) (λ_=>.one (.ret (.to (.call (.cF P rfl) (.dV _) (.cons (.name rfl) (.cons (.name rfl) .nil)) (bW.divmod (a:=(x:Int)) (b:=(b:Int)) (by lia) (yW CG))) ?_))) (λh=>?_)) λo aP=>by subst aP;rfl
 ·rw[ab1 _ g7,aeA _ g7]
  rfl
 ·have:=of_decide_eq_false h
  lia
abbrev ts(r:Nat)(a b n:Nat)(ds:List Nat)(e2:XM):bD:=[("q_digits",.raw (.ref e2)),("r",ay r),("a_digits",.list (aV ds)),("n",ay n),("b",ay b),("a",ay a)]
theorem cy.wT{f:XF}(h:cy G k T σ f ds R)(aU:∀b∈T,b∈T'):cy G k T' σ f ds R:=λA pr s vs Q E aW W r aA=>
 h A pr s vs Q E aW W r (λY d v J p st bc bV=>aA Y d v J p (st.mono aU) bc bV)
theorem Mr(P:cK G aK){a b:Nat}(O:(bw,.tab 85 cV)∈σ)(ae:(bL,.tab 92 dN)∈σ)(H:0<b)(kx:b<2^20)(kz:ek b=n)(aY:ek a<=60)(hm:(ek a+n-1) / n=m)(k4:n*m<=60)(Ms:m<=32):
  cy G (k+12) [bw,bL] σ (.ref (aK 12)) [ay a,ay b] (λY d=>Y=σ/\d=.tuple [ay (a / b),ay (a%b)]):=by
 have az:0<n:=by
  rw[<-kz]
  delta ek Zz
  rw[if_neg (by simp;exact JE)]
  exact Cv
 have D_:b<2^n:=by
  have:=(ZT (x:=(b:Int)) (m:=ek b)).mp (XT _)
  rw[kz]at this
  simpa using this
 have Ey:n<=20:=by
  have:ek b<=20:=(ZT (x:=(b:Int)) (m:=20)).mpr (by simpa using kx)
  exact JG
 have WS:=XC (Nat.le_mul_of_pos_left m az) k4
 have nv:=Ex hm az Ms
 have pX:∀x∈gd a n,x<2^n:=λx ag=>by
  replace ag:=nv▸ag
  refine bB (XZ.mp ag) λi _ aB=>?_
  subst aB
  exact YO _ (aeg n)
 have b2:(gd a n).length=m:=by rw[nv];simp
 have t1:=dr O
 have jy:=dr ae
 have iB:∀b∈[bw,bL],b∈σ.at:=λb H=>by
  rcases XH.mp H with rfl|H
  ·exact t1
  ·exact(XD.mp H).symm▸jy
 generalize ri:(gd a n).reverse.foldl (lV (2^n) b) (0,[])=res
 have Ez:∀(i:Nat) (st:Nat×List Nat) (d:Nat),d<2^n->(st.1<b/\(∀q∈st.2,q<2^n)/\st.2.length=i)->((lV (2^n) b st d).1<b/\(∀q∈(lV (2^n) b st d).2,q<2^n)/\(lV (2^n) b st d).2.length=i+1):=λi st d hd es=>by
  refine gH es λhy h4 vB=>?_
  refine⟨YO _ H,λq aR=>?_,by simp[lV,vB]⟩
  rcases XY.mp aR with aR|aR
  ·exact h4 q aR
  ·rw[XD.mp aR,Nat.div_lt_iff_lt_mul H]
   have:(st.1+1)*2^n<=b*2^n:=abz _ hy
   rw[ahF,adb]at this
   rw[YT (2^n) b]
   lia
 have EA:res.1<b/\(∀q∈res.2,q<2^n)/\res.2.length=m:=by
  have:=hL.DW (f:=lV (2^n) b) (Inv:=λi st=>st.1<b/\(∀q∈st.2,q<2^n)/\st.2.length=i) (gd a n).reverse 0 (0,[]) ⟨H,by simp,rfl⟩ λi st d hd _ es=>Ez i st d (pX d (YS.mp hd)) es
  rw[ri]at this
  simpa [b2] using this
 have vC:res.1=a%b/\hh (2^n) res.2.reverse=a / b:=by
  have:=Mp (B:=2^n) (tr:=[]) (v:=0) (r:=0) H (gd a n).reverse (ahm _).symm (acD _).symm
  rw[ri,List.reverse_reverse,vz]at this
  have Mt:hh (2^n) (gd a n)=a:=by
   rw[nv]
   have e:(λi=>a / 2^(n*i)%2^n)=λi=>a / (2^n)^i%2^n:=by funext i;rw[<-ac']
   rw[e,Mo,<-ac']
   refine acu (XE (m:=2^ek a) ?_ (ZY aH ?_))
   ·have:=(ZT (x:=(a:Int)) (m:=ek a)).mp (XT _)
    simpa using this
   ·rw[<-hm]
    have:=aei (ek a+n-1) n
    have ae:=YO (ek a+n-1) az
    lia
  rwa [Mt,(show hh (2^n) [0]=0+2^n*0 from rfl),acF,Yq,acF,acJ]at this
 refine cy.of_body (k:=k+11) (P:=λo=>∃e2 m,o=.ret ((e2,m)::σ) (.tuple [ay (a / b),ay (a%b)])) (P.fn 12 _ rfl) rfl ?_ λo aP=>by obtain⟨e2,m,rfl⟩:=aP;exact⟨[(e2,m)],σ,rfl,λ_ h=>h,rfl,rfl⟩
 refine cp.seq (.eS (d:=ay n) (.yg (.name rfl) (T:="int") (d₀:=ay b) rfl acf abw abv (by rw[<-kz];exact .yD))) ?_
 refine cp.seq (a9:=σ) (Γ₁:=[("a_digits",.list (aV (gd a n))),("n",ay n),("b",ay b),("a",ay a)]) (.letE (R:=λY d=>Y=σ/\d=.list (aV (gd a n))) (.call (.globT P rfl) (P.calls (i:=10) rfl) (.cons (.name rfl) (.cons (.name rfl) .nil)) ((Er P (k:=k+3) O az Ey aY CB).wT (by simp)) iB) (λY d h=>by rw[h.1,h.2];rfl)) ?_
 refine cp.seq (.eS (d:=ay 0) .bf) ?_
 refine cp.cons (.letE (P:=λo=>∃e2,e2∉σ.at/\o=.next ((e2,.list (.type "list") none (aV []))::σ) [("q_digits",.raw (.ref e2)),("r",ay 0),("a_digits",.list (aV (gd a n))),("n",ay n),("b",ay b),("a",ay a)]) (cc.yH .nil aH) (λY d h=>by obtain⟨e2,O,rfl,rfl⟩:=h;exact⟨e2,O,rfl⟩)) ?_
 rintro o ⟨e2,ze,rfl⟩
 refine⟨[e2,bw,bL],λb H=>?_,?_⟩
 ·rcases XH.mp H with rfl|H
  ·exact .inr ⟨.head _,ze⟩
  ·exact .inl H
 have EB:∀(m:cf),∀b∈[e2,bw,bL],b∈ba.at ((e2,m)::σ):=λm b H=>by
  rcases XH.mp H with rfl|H
  ·exact .head _
  ·exact .tail _ (iB b H)
 refine cp.seq (a9:=(e2,.list (.type "list") none (aV res.2))::σ) (Γ₁:=ts res.1 a b n (gd a n) e2) (.kY (S:=[]) (.reversed (.cF P rfl) (d:=.list (aV (gd a n))) (.name rfl) .list) (EB _) (λb H=>cZ H) ?_) ?_
 ·rw[<-aaR,<-ri]
  refine hL.fold ay (λst:Nat×List Nat=>(e2,cf.list (.type "list") none (aV st.2))::σ) (λst=>ts st.1 a b n (gd a n) e2) (lV (2^n) b) (λi st=>st.1<b/\(∀q∈st.2,q<2^n)/\st.2.length=i) (gd a n).reverse 0 (0,[]) ⟨H,by simp,rfl⟩ λi st d hd aq es=>⟨Ez i st d (pX d (YS.mp hd)) es,_,_,.name,λx ag=>by rw[XD.mp ag];exact .inl rfl,?_⟩
  obtain⟨hy,h4,vB⟩:=es
  have oy:=pX d (YS.mp hd)
  have eQ:i<=32:=by rw[Zp,b2]at aq;lia
  have Mu:st.1<2^64:=by lia
  have Mv:(2:Nat)^n<=2^20:=ZY aH Ey
  have ag:ek (st.1*2^n+d)<=1000:=by
   refine XC ((ZT (x:=((st.1*2^n+d:Nat):Int)) (m:=60)).mpr ?_) aH
   have:st.1*2^n<=2^20*2^20:=ade (by lia) Mv
   rw[afZ]
   lia
  have e:(e2,cf.list (.type "list") none (aV (lV (2^n) b st d).2))::σ=ba.set ((e2,cf.list (.type "list") none (aV st.2))::σ) e2 (.list (.type "list") none (aV st.2++[ay ((st.1*2^n+d) / b)])):=by
   rw[vb ze]
   simp[lV]
  refine cp.end_ (Γ₁:=("r",ay ((st.1*2^n+d)%b))::("q_digit",ay ((st.1*2^n+d) / b))::("a_digit",ay d)::ts st.1 a b n (gd a n) e2) ?_ (.cv rfl (.cv rfl (.cv rfl (.cv rfl (.cv rfl (.cv rfl .nil))))))
  refine cp.seq (.unpack (d:=.tuple [ay ((st.1*2^n+d) / b),ay ((st.1*2^n+d)%b)]) (.call (.globT P rfl) (P.calls (i:=8) rfl) (.cons (.bin (.bin (.name rfl) (.name rfl) (.yY Mu dt)) (.name rfl) .g2) (.cons (.name rfl) (.cons (.name rfl) .nil))) ((Mq P (k:=0) (n:=n) H JH ag).room hT)) (.tuple (.cons .name (.cons .name .nil))) ?_) ?_
  ·intro x ag
   rcases XH.mp ag with rfl|ag
   ·exact .inl rfl
   ·rw[XD.mp ag];exact .inl rfl
  ·refine .one (.expr (.append (a:=e2) (.name rfl) (.head _) (.head _) (.name rfl) (b1 (by simp;exact CC))) λY d h=>by rw[h.1,<-e])
 ·have EC:res.2.length<=32:=by lia
  refine cp.seq (a9:=(e2,.list (.type "list") none (aV res.2.reverse))::σ) (Γ₁:=ts res.1 a b n (gd a n) e2) (.expr (.reverse (a:=e2) (.name rfl) (.head _) (.head _) (b1 (by simp;exact dt))) λY d h=>by rw[h.1,vb ze,<-aaR]) ?_
  have pY:=Mk (n:=n) (l:=res.2.reverse) (by simpa using EC)
  rw[vC.2]at pY
  have aR:=Mi P (k:=k+3) (n:=n) (σ:=(e2,.list (.type "list") none (aV res.2.reverse))::σ) (S:=[e2]) (dd:=.raw (.ref e2)) (l:=res.2.reverse) (.tail _ ae) (.inr ⟨e2,none,rfl,.head _,.head _⟩) (λx ag=>EA.2.1 x (YS.mp ag)) (by rw[Zp,EA.2.2];exact k4) (by rw[Zp];exact EC) dt
  rw[pY]at aR
  refine cp.seq (a9:=(e2,.list (.type "list") none (aV res.2.reverse))::σ) (Γ₁:=("q",ay (a / b))::ts res.1 a b n (gd a n) e2) (.letE (cc.call (.globT P rfl) (P.calls (i:=11) rfl) (.cons (.name rfl) (.cons (.name rfl) .nil)) (aR.wT (λb H=>by rw[XD.mp H];exact .tail _ (.tail _ (.head _)))) (EB _)) (λY d h=>by rw[h.1,h.2])) ?_
  refine .one (.mono (.ret (d:=.tuple [ay (a / b),ay res.1]) (.tuple (.cons (.name rfl) (.cons (.name rfl) .nil)) c7)) λo aP=>by subst aP;rw[vC.1];exact⟨e2,_,rfl⟩)
theorem zf(P:cK G aK){a:Nat}(O:(bw,.tab 85 cV)∈σ)(ae:(bL,.tab 92 dN)∈σ)(aY:a<2^30):
  cy G (k+13) [bw,bL] σ (.ref (aK 13)) [ay a,.int 8] (λY d=>Y=σ/\d=.tuple [ay (a / 8),ay (a%8)]):=by
 have iB:∀b∈[bw,bL],b∈σ.at:=λb H=>by
  rcases XH.mp H with rfl|H
  ·exact dr O
  ·exact(XD.mp H).symm▸dr ae
 have az:ek a<=30:=(ZT (x:=(a:Int)) (m:=30)).mpr (by simpa using aY)
 have hm:(ek a+4-1) / 4<=8:=by lia
 refine cy.of_body (k:=k+12) (P:=(·=.ret σ (.tuple [ay (a / 8),ay (a%8)]))) (P.fn 13 _ rfl) rfl ?_ λo aP=>by subst aP;exact⟨[],σ,rfl,λ_ h=>h,rfl,rfl⟩
 refine .one (.fz (b:=(8:Int)==((0:Nat):Int)) (.cmp (.name rfl) .bf .u5) (λh=>by simp at h) λ_=>.one (.fz (b:=decide ((8:Int)<((0:Nat):Int))) (.cmp (.name rfl) .bf .m_) (λh=>by simp at h) λ_=>.one (.fz (b:=decide (a<0)) (.cmp (.name rfl) .bf .ltN) (λh=>by simp at h) λ_=>.one (.sQ (.call (.globT P rfl) (P.calls (i:=12) rfl) (ds:=[ay a,ay 8]) (.cons (.name rfl) (.cons (.name rfl) .nil)) (Mr P (n:=4) O ae aH aH aQ dt rfl (by lia) dt) iB) λY d h=>by rw[h.1,h.2]))))
theorem ED(P:cK G aK){a:Nat}{x:Int}(ag:x=-1-(a:Int))(O:(bw,.tab 85 cV)∈σ)(ae:(bL,.tab 92 dN)∈σ)(aY:a<2^30):
  cy G (k+14) [bw,bL] σ (.ref (aK 13)) [.int x,.int 8] (λY d=>Y=σ/\d=.tuple [.int (-1-((a / 8:Nat):Int)),.int (7-((a%8:Nat):Int))]):=by
 have iB:∀b∈[bw,bL],b∈σ.at:=λb H=>by
  rcases XH.mp H with rfl|H
  ·exact dr O
  ·exact(XD.mp H).symm▸dr ae
 have rl:decide (x<((0:Nat):Int))=true:=by rw[ag];simp;lia
 refine cy.of_body (k:=k+13) (P:=(·=.ret σ (.tuple [.int (-1-((a / 8:Nat):Int)),.int (7-((a%8:Nat):Int))]))) (P.fn 13 _ rfl) rfl ?_ λo aP=>by subst aP;exact⟨[],σ,rfl,λ_ h=>h,rfl,rfl⟩
 refine .one (.fz (b:=(8:Int)==((0:Nat):Int)) (.cmp (.name rfl) .bf .u5) (λh=>by simp at h) λ_=>.one (.fz (b:=decide ((8:Int)<((0:Nat):Int))) (.cmp (.name rfl) .bf .m_) (λh=>by simp at h) λ_=>.one (.fz (b:=decide (x<((0:Nat):Int))) (.cmp (.name rfl) .bf .m_) (λ_=>?_) λh=>by rw[rl]at h;cases h)))
 refine cp.seq (a9:=σ) (Γ₁:=[("r",ay (a%8)),("q",ay (a / 8)),("b",.int 8),("a",.int x)]) (.yZ (R:=λY d=>Y=σ/\d=.tuple [ay (a / 8),ay (a%8)]) (.call (.globT P rfl) (P.calls (i:=13) rfl) (ds:=[ay a,.int 8]) (.cons (.to (.un (.name rfl) .yk) (V.la (by unfold acO;lia))) (.cons (.name rfl) .nil)) (zf P O ae aY) iB) λY d h=>?_) ?_
 ·rw[h.1,h.2]
  exact⟨_,_,.tuple (.cons .name (.cons .name .nil)),vm (.inl rfl) (.inl rfl),rfl⟩
 ·refine .one (.mono (.ret (.tuple (.cons (.un (.name rfl) .yk) (.cons (.bin (.name rfl) (.un (.name rfl) .yk) .addInt) .nil)) c7)) λo aP=>?_)
  rw[aP]
  congr 3
  ·congr 1
   unfold acO;lia
  ·congr 2
   unfold acO;lia
theorem EE(P:cK G aK){x y q r:Int}{j:Nat}(tt:y=-x)(O:(bw,.tab 85 cV)∈σ)(ae:(bL,.tab 92 dN)∈σ)(h:cy G j [bw,bL] σ (.ref (aK 13)) [.int y,.int 8] (λY d=>Y=σ/\d=.tuple [.int q,.int r])):
  cy G (j+1) [bw,bL] σ (.ref (aK 13)) [.int x,.int (-8)] (λY d=>Y=σ/\d=.tuple [.int q,.int (-r)]):=by
 have iB:∀b∈[bw,bL],b∈σ.at:=λb H=>by
  rcases XH.mp H with rfl|H
  ·exact dr O
  ·exact(XD.mp H).symm▸dr ae
 refine cy.of_body (k:=j) (P:=(·=.ret σ (.tuple [.int q,.int (-r)]))) (P.fn 13 _ rfl) rfl ?_ λo aP=>by subst aP;exact⟨[],σ,rfl,λ_ h=>h,rfl,rfl⟩
 refine .one (.fz (b:=(-8:Int)==((0:Nat):Int)) (.cmp (.name rfl) .bf .u5) (λh=>by simp at h) λ_=>.one (.fz (b:=decide ((-8:Int)<((0:Nat):Int))) (.cmp (.name rfl) .bf .m_) (λ_=>?_) λh=>by simp at h))
 refine cp.seq (a9:=σ) (Γ₁:=[("r",.int r),("q",.int q),("b",.int (-8)),("a",.int x)]) (.yZ (R:=λY d=>Y=σ/\d=.tuple [.int q,.int r]) (.call (.globT P rfl) (P.calls (i:=13) rfl) (ds:=[.int y,.int 8]) (.cons (.to (.un (.name rfl) .hb) (V.la tt.symm)) (.cons (.to (.un (.name rfl) .hb) (V.la aH)) .nil)) h iB) λY d h=>?_) ?_
 ·rw[h.1,h.2]
  exact⟨_,_,.tuple (.cons .name (.cons .name .nil)),vm (.inl rfl) (.inl rfl),rfl⟩
 ·exact .one (.ret (.tuple (.cons (.name rfl) (.cons (.un (.name rfl) .hb) .nil)) c7))
noncomputable def zg:V->Bool
 |.int _=>true
 |_=>false
def Mw:V->Prop
 |.int _=>True
 |.str _=>True
 |_=>False
theorem Mx(P:cK G aK){x:Str}{fM:V}:bW G (k+1) σ (.ref (aK 20)) [.str x,fM] (.bool false):=by
 refine .of_body (P.fn 20 _ rfl) rfl ?_
 refine .one (.ret (.to (.pe (d₂:=.none) (b:=false) (.call (.cF P rfl) (.dV _) (ds:=[.str x,.raw (.type "tuple")]) (.cons (.name rfl) (.cons (.cF P rfl) .nil)) .K8) .bool (λh=>by cases h)) rfl))
theorem EF(P:cK G aK){bs:List Bool}(hd:∀d∈ds,Mw d)(hsz:ds.length<=10):bW G (k+1) σ (.ref (aK 20)) [.tuple ds,.list (bs.map .bool)] (.bool (decide (ds.map zg=bs))):=by
 refine .of_body (P.fn 20 _ rfl) rfl ?_
 refine .one (.ret (.to (.pe (b:=true) (.call (.cF P rfl) (.dV _) (ds:=[.tuple ds,.raw (.type "tuple")]) (.cons (.name rfl) (.cons (.cF P rfl) .nil)) .K7) .bool (λ_=>.cmp (bZ:=.list ((ds.map zg).map .bool)) ?_ (.name rfl) (.k9 (S:=[]) (i2:=[]) cj.bool 0 cO.bool .list .list))) rfl))
 refine .comp (S:=[]) (ds:=ds) (xs:=["one"]) (.tuple (.name rfl)) ?_ (b1 (by simp;exact dt))
 simp only[X_]
 refine d3.map (λd=>V.bool (zg d)) λd oy=>⟨_,.name,.cons .refl rfl,?_⟩
 have:=hd d oy
 cases d with
 |int i=>
  refine .to (.pe (b:=true) (.call (.cF P rfl) (.dV _) (ds:=[.int i,.raw (.type "int")]) (.cons (.name rfl) (.cons (.cF P rfl) .nil)) .K_) .bool (λ_=>.un (bZ:=.bool false) (.call (.cF P rfl) (.dV _) (ds:=[.int i,.raw (.type "bool")]) (.cons (.name rfl) (.cons (.cF P rfl) .nil)) .yC) (.not .bool))) rfl
 |str x=>
  refine .to (.pe (d₂:=.none) (b:=false) (.call (.cF P rfl) (.dV _) (ds:=[.str x,.raw (.type "int")]) (.cons (.name rfl) (.cons (.cF P rfl) .nil)) .K9) .bool (λh=>by cases h)) rfl
 |_=>exact this.elim
theorem vD(P:cK G aK){N a6 j:Nat}{x zh q r:Int}{res:V}(O:(bw,.tab 85 cV)∈σ)(ae:(bL,.tab 92 dN)∈σ)(bz:a6<4)(ag:[V.int (N:Int),.int (-(N:Int)),.int (-1-(N:Int)),.int ((N:Int)+1)][a6]?=some (.int x))(H:(bif (a6%2==1)then(-8:Int)else 8)=zh)
  (h:cy G j [bw,bL] σ (.ref (aK 13)) [.int x,.int zh] (λY d=>Y=σ/\d=.tuple [.int q,.int r])) (bq:3<=j) (ai:[V.tuple [.int q,.int r],.tuple [.int q,.int (-r)],.tuple [.int (-1-q),.int (7-r)],.tuple [.int (-1-q),.int (7+r)]][a6]?=some res) :
  cy G (j+1) [bw,bL] σ (.ref (aK 27)) [ay N,ay a6] (λY d=>Y=σ/\d=res):=by
 have iB:∀b∈[bw,bL],b∈σ.at:=λb H=>by
  rcases XH.mp H with rfl|H
  ·exact dr O
  ·exact(XD.mp H).symm▸dr ae
 refine cy.of_body (k:=j) (P:=(·=.ret σ res)) (P.fn 27 _ rfl) rfl ?_ λo aP=>by subst aP;exact⟨[],σ,rfl,λ_ h=>h,rfl,rfl⟩
 refine cp.seq (a9:=σ) (Γ₁:=[("told",.tuple [.int q,.int r]),("way",ay a6),("number",ay N)]) (.letE (R:=λY d=>Y=σ/\d=.tuple [.int q,.int r]) (.call (.globT P rfl) (P.calls (i:=13) rfl) (ds:=[.int x,.int zh])
  (.cons (.gZ (ds:=[ay N,.int (-(N:Int)),.int (-1-(N:Int)),.int ((N:Int)+1)]) (.list (.cons (.name rfl) (.cons (.un (.name rfl) .hb) (.cons (.bin (.un .bf .hb) (.name rfl) .pF) (.cons (.bin (.name rfl) .bf .g2) .nil)))) c7) (.name rfl) (.iZ g7 (by rw[X0];exact ag) mY)) (.cons (.to (.il (b:=a6%2==1) (.cmp (.bin (.name rfl) .bf (.j1 aH)) .bf .lR) (λ_=>(.un .bf .hb)) (λ_=>.bf)) (by rw[<-H];cases (a6%2==1)<;>rfl)) .nil)) h iB) λY d h=>by rw[h.1,h.2];rfl) ?_
 refine cp.seq (a9:=σ) (Γ₁:=[("rest",.int r),("left",.int q),("told",.tuple [.int q,.int r]),("way",ay a6),("number",ay N)]) (.unpack (d:=.tuple [.int q,.int r]) (.to (.il (b:=true) (bZ:=.tuple [.int q,.int r]) (d₂:=.none) (.val (d:=.bool true) (.call (.globT P rfl) (P.calls (i:=20) rfl) (ds:=[.tuple [.int q,.int r],.list [.bool true,.bool true]]) (.cons (.name rfl) (.cons (.list (.cons .m5 (.cons .m5 .nil)) aH) .nil)) ((EF P (k:=0) (bs:=[true,true]) (by intro d hd;simp at hd;rcases hd with rfl|rfl<;>trivial) (by simp)).room (by lia))) .bool) (λ_=>(.name rfl)) (λh=>by cases h)) rfl) (.tuple (.cons .name (.cons .name .nil))) (vm (.inl rfl) (.inl rfl))) ?_
 refine .one (.ret (.gZ (ds:=[V.tuple [.int q,.int r],.tuple [.int q,.int (-r)],.tuple [.int (-1-q),.int (7-r)],.tuple [.int (-1-q),.int (7+r)]]) (.list (.cons (.tuple (.cons (.name rfl) (.cons (.name rfl) .nil)) c7) (.cons (.tuple (.cons (.name rfl) (.cons (.un (.name rfl) .hb) .nil)) c7) (.cons ?_ (.cons ?_ .nil)))) c7) (.name rfl) (.iZ g7 (by rw[X0];exact ai) mY)))
 ·exact .to (.tuple (.cons (.bin (.un .bf .hb) (.name rfl) .pF) (.cons (.bin .bf (.name rfl) .pF) .nil)) c7) rfl
 ·exact .to (.tuple (.cons (.bin (.un .bf .hb) (.name rfl) .pF) (.cons (.bin .bf (.name rfl) .addInt) .nil)) c7) rfl
theorem My{p:Nat->Prop}(h0:p 0)(O:p 1)(ae:p 2)(a2:p 3)(n:Nat)(h:n<4):p n:=by
 cases n with
 |zero=>exact h0
 |succ n=>cases n with
  |zero=>exact O
  |succ n=>cases n with
   |zero=>exact ae
   |succ n=>cases n with
    |zero=>exact a2
    |succ n=>exact absurd h (agw (Y1 4 n))
theorem Mz(P:cK G aK){N a6:Nat}(O:(bw,.tab 85 cV)∈σ)(ae:(bL,.tab 92 dN)∈σ)(bz:a6<4)(lc:N<2^29):
  cy G (k+17) [bw,bL] σ (.ref (aK 27)) [ay N,ay a6] (λY d=>Y=σ/\d=.tuple [ay (N / 8),ay (N%8)]):=by
 have fin:∀{q r:Int},q=((N / 8:Nat):Int)->r=((N%8:Nat):Int)->some (V.tuple [.int q,.int r])=some (V.tuple [ay (N / 8),ay (N%8)]):=λO ae=>by rw[O,ae]
 refine My (p:=λn=>cy G (k+17) [bw,bL] σ (.ref (aK 27)) [ay N,ay n] _) ?_ ?_ ?_ ?_ a6 bz
 ·exact vD P O ae aH rfl rfl ((zf P (k:=k) O ae mi).room (j:=k+16) n9) hT rfl
 ·exact vD P O ae aH rfl rfl ((EE P (y:=((N:Nat):Int)) (by lia) O ae (zf P (k:=k) O ae mi)).room (j:=k+16) (by lia)) hT (fin rfl (by lia))
 ·exact vD P O ae aH rfl rfl ((ED P (k:=k) rfl O ae mi).room (j:=k+16) n9) hT (fin (by lia) (by lia))
 ·exact vD P O ae aH rfl rfl ((EE P (y:=-1-((N:Nat):Int)) (by lia) O ae (ED P (k:=k) rfl O ae mi)).room (j:=k+16) Cu) hT (fin (by lia) (by lia))
theorem vE(n:Nat):lG 0 n=aV (XO n):=by
 refine Yf λi _=>?_
 simp
theorem vF(n:Nat):lG 1 n=aV ((XO n).map (·+1)):=by
 delta lG aV
 simp only[X_]
 refine Yf λi _=>?_
 congr 1
 lia
theorem tu{b:Nat}(H:b<=9)(a_:t<=18):b^t<2^63:=XW (XC (Nat.pow_le_pow_left H t) (ZY aH a_)) aH
noncomputable def i7(cP:Nat)(st:List Nat×List Nat)(t:Nat):List Nat×List Nat:=(st.1.eraseIdx (cP / 5^t%st.1.length),st.2++[st.1.getD (cP / 5^t%st.1.length) 0])
def tv(rooms cP:Nat):List Nat×List Nat:=(XO rooms).foldl (i7 cP) ((XO rooms).map (·+1),[])
def e3(rooms cP:Nat):List Nat:=(tv rooms cP).2
theorem e0.to(h:e0 G k sc σ S Γ ew iter ds)(e:ds=dg):e0 G k sc σ S Γ ew iter dg:=e▸h
theorem zi(P:cK G aK){rooms cP:Nat}(ai:rooms<=10):bW G (k+1) σ (.ref (aK 29)) [ay rooms,ay cP] (.list (aV (e3 rooms cP))):=by
 refine cy.DH (cy.of_body (P:=λo=>∃ad m,o=.ret ((ad,m)::σ) (.list (aV (e3 rooms cP)))) (P.fn 29 _ rfl) rfl ?_ λo aP=>by obtain⟨ad,m,rfl⟩:=aP;exact⟨[(ad,m)],σ,rfl,λ_ h=>h,rfl,rfl⟩)
 refine cp.cons (eA:=λo=>∃ad,ad∉σ.at/\o=.next ((ad,.list (.type "list") none (aV ((XO rooms).map (·+1))))::σ) [("left",.raw (.ref ad)),("order",.list []),("number",ay cP),("rooms",ay rooms)]) (.y0 (names:=["left","order"]) (R:=λY d=>∃ad,ad∉σ.at/\Y=(ad,.list (.type "list") none (aV ((XO rooms).map (·+1))))::σ/\d=.tuple [.raw (.ref ad),.list []]) ?_ ?_ ?_) ?_
 ·refine .tuple (j0:=λY ds=>∃ad,ad∉σ.at/\Y=(ad,.list (.type "list") none (aV ((XO rooms).map (·+1))))::σ/\ds=[.raw (.ref ad),.list []]) (.cons (λb H=>cZ H) (.Eg (S:=[]) (xs:=["room"]) (.to (.u3 (.cF P rfl) (m:=((1:Nat):Int)) (n:=((rooms+1:Nat):Int)) .bf (.bin (.name rfl) .bf .g2) aH aH (by lia) n') (dg:=aV ((XO rooms).map (·+1))) ?_) (outs:=aV ((XO rooms).map (·+1))) ?_ (b1 (by simp;exact dt))) ?_) ?_ ?_
  ·exact(show(((rooms+1:Nat):Int)-((1:Nat):Int)).toNat=rooms from by lia).symm▸vF rooms
  ·conv=>arg 11;rw[(show aV ((XO rooms).map (·+1))=(aV ((XO rooms).map (·+1))).map λd=>d from by simp)]
   exact d3.map (λd=>d) λd hd=>⟨_,.name,.cons .refl rfl,.name rfl⟩
  ·intro a9 d dG
   refine gU dG λad lb aB jm=>?_
   subst aB jm
   refine lM.cons (λb H=>cZ H) (.of (d:=.list []) (.list .nil aH)) λcC d₂ ae=>lM.nil ?_
   obtain⟨rfl,rfl⟩:=ae
   exact⟨ad,lb,rfl,rfl⟩
  ·rintro a9 d ⟨ad,lb,rfl,rfl⟩
   exact b1 (by simp)
  ·rintro a9 d ⟨ad,lb,rfl,rfl⟩
   exact⟨ad,lb,rfl,rfl⟩
 ·intro a9 d dG
  refine gU dG λad lb aB jm=>?_
  subst aB jm
  exact⟨_,rfl,rfl,ad,lb,rfl⟩
 ·intro x ag
  rcases XH.mp ag with rfl|ag
  ·rfl
  ·rw[XD.mp ag];rfl
 ·rintro o ⟨ad,lb,rfl⟩
  refine⟨[ad],λb H=>.inr ⟨by rw[XD.mp H];exact .head _,by rw[XD.mp H];exact lb⟩,?_⟩
  have aU:∀(m:cf),∀b∈[ad],b∈ba.at ((ad,m)::σ):=λm b H=>by rw[XD.mp H];exact .head _
  refine cp.seq (a9:=(ad,.list (.type "list") none (aV (tv rooms cP).1))::σ) (Γ₁:=[("left",.raw (.ref ad)),("order",.list (aV (tv rooms cP).2)),("number",ay cP),("rooms",ay rooms)]) (.kY (S:=[]) (.to (.q3 (.cF P rfl) (n:=(rooms:Int)) (.name rfl) oa n') (dg:=aV (XO rooms)) (by rw[X0];exact vE rooms)) (aU _) (λb H=>cZ H) ?_) ?_
  ·refine hL.fold ay (λst:List Nat×List Nat=>(ad,cf.list (.type "list") none (aV st.1))::σ) (λst=>[("left",.raw (.ref ad)),("order",.list (aV st.2)),("number",ay cP),("rooms",ay rooms)]) (i7 cP) (λi st=>st.1.length+i=rooms/\st.2.length=i) (XO rooms) 0 ((XO rooms).map (·+1),[]) ⟨by simp,rfl⟩ λi st t a_ aq es=>?_
   obtain⟨hy,h4⟩:=es
   have eQ:i<rooms:=by simpa using aq
   have rm:=X2.mp a_
   have kp:0<st.1.length:=by lia
   have bq:cP / 5^t%st.1.length<st.1.length:=YO _ kp
   refine⟨⟨?_,?_⟩,_,_,.name,λx ag=>by rw[XD.mp ag];exact .inl rfl,?_⟩
   ·show(st.1.eraseIdx _).length+(i+1)=rooms
    rw[afl,if_pos bq];lia
   ·show(st.2++[_]).length=i+1
    simp[h4]
   ·have e:(ad,cf.list (.type "list") none (aV (i7 cP st t).1))::σ=ba.set ((ad,cf.list (.type "list") none (aV st.1))::σ) ad (.list (.type "list") none ((aV st.1).eraseIdx (cP / 5^t%st.1.length))):=by
     rw[vb lb]
     have:aV (st.1.eraseIdx (cP / 5^t%st.1.length))=(aV st.1).eraseIdx (cP / 5^t%st.1.length):=by
      unfold aV;rw[Zk,Zk,Yx,aeK,ado]
     simp only[i7,this]
    refine cp.end_ (Γ₁:=[("order",.list (aV (i7 cP st t).2)),("turn",ay t),("left",.raw (.ref ad)),("order",.list (aV st.2)),("number",ay cP),("rooms",ay rooms)]) ?_ (.cv rfl (.cv rfl (.cv rfl (.cv rfl .nil))))
    refine .one (.letE (R:=λY d=>Y=(ad,cf.list (.type "list") none (aV (i7 cP st t).1))::σ/\d=.list (aV (i7 cP st t).2)) ?_ (λY d h=>by rw[h.1,h.2]))
    refine .bin (gP:=λY d=>Y=(ad,cf.list (.type "list") none (aV st.1))::σ/\d=.list (aV st.2)) (R₂:=λ_ _ Y d=>Y=(ad,cf.list (.type "list") none (aV (i7 cP st t).1))::σ/\d=.list [ay (st.1.getD (cP / 5^t%st.1.length) 0)]) (aU _) (.of (.name rfl)) ?_ ?_
    ·rintro a9 bZ ⟨rfl,rfl⟩
     refine .list (j0:=λY ds=>Y=(ad,cf.list (.type "list") none (aV (i7 cP st t).1))::σ/\ds=[ay (st.1.getD (cP / 5^t%st.1.length) 0)]) (.cons (aU _) (.Lr (a:=ad) (n:=cP / 5^t%st.1.length) (d:=ay (st.1.getD (cP / 5^t%st.1.length) 0)) (.name rfl) (.head _) (.head _) ?_ ?_ (by simp;lia)) λcC d₂ ae=>.nil ?_) ?_ ?_
     ·refine .bin (.bin (.name rfl) (.bin .bf (.name rfl) (.rb aH uN)) (.kv (ab9 aH) (tu aH uN))) (.to (.call (.cF P rfl) (.dV _) (.cons (.name rfl) .nil) (bW.len (S:=[ad]) (ds:=aV st.1) (.inr ⟨ad,none,rfl,.head _,.head _⟩) (by simp;lia))) (dM:=ay st.1.length) (by simp)) (.j1 kp)
     ·rw[X1,XI bq,XB,XI bq];rfl
     ·rw[ae.1,ae.2,e];exact⟨rfl,rfl⟩
     ·rintro Y ds ⟨_,rfl⟩;exact b1 (by simp)
     ·rintro Y ds ⟨rfl,rfl⟩;exact⟨rfl,rfl⟩
    ·rintro a9 bZ cC d₂ ⟨rfl,rfl⟩ ⟨rfl,rfl⟩
     exact⟨_,.h2 (b1 (by simp;lia)),rfl,by simp[i7]⟩
  ·exact .one (.mono (.ret (d:=.list (aV (tv rooms cP).2)) (.name rfl)) λo aP=>by subst aP;exact⟨ad,_,rfl⟩)
structure AC(G:GE)(K:ach)(C:XM):Prop where
 X:K.In G.h₀
 cd:∃cd,clsIn K C=some cd/\cd.mro=[.ref C,.type "list",.type "object"]/\cd.hasDict=true/\cd.abstract=false/\cd.hasDel=false/\cd.qualname = "_Accumulator"
 mt:typeIn K (.ref C)=some (.type "type")
 op:nsIn K cStatics "thirdparty.any" = some none
 ga:findIn K (.ref C) "__getattribute__" = some (some (.builtin "list.__getattribute__"))
 zj:findIn K (.ref C) "__getattr__" = some none
section
variable{pos:Pos}{x:XM}{m:cf}
theorem MA{m:Str->Option XF}(n:h.Ns a m):∃o,h.get? a=some o/\∀name,lookIn name o=some (m name):=by
 refine bC λ_ a'=>?_
 obtain⟨o,aZ,kg,aP,hd,aL,hf⟩:=n
 refine a' ?_
 refine⟨o,aP,λname=>?_⟩
 delta lookIn
 rw[hd]
 dsimp only
 have O:=hf name
 dsimp only[nsFind,findBy]at O
 rw[<-Array.find?_toList]at O
 split
 ·rename_i e he
  rw[he]at O
  rw[<-O];rfl
 ·rename_i he
  rw[he]at O
  rw[if_neg,<-O];· rfl
  intro q
  refine bB (abo.mp q) λe hm ai=>?_
  refine qK (aL e (by simpa using hm)) λzk ra az=>?_
  rw[DictEntry.refKey,az]at ai
  cases ai
structure e4(C:XM)(σ:ba)(x bT:XM)(eu:List (Str×V))(items:List V):Prop where
 l:(x,cf.list (.ref C) (some bT) items)∈σ
 i:(bT,cf.inst eu)∈σ
theorem a4.kA(W:a4 G σ pr s)(h:e4 C σ x bT eu items):∃vs n bE eg,s.heap.get? x=some {cls:=.ref C,dict:=some bT,data:=.seq vs n,slots:=bE}/\a5 (aT σ pr) s.heap vs.toList items/\
  InstAt s.heap x {cls:=.ref C,dict:=some bT,data:=.seq vs n,slots:=bE} C (some eg)/\(∀name,match eu.lookup name with|some d=>∃v,lookIn name eg=some (some v)/\bu (aT σ pr) s.heap v d|none=>lookIn name eg=some none):=by
 refine bC λ_ a'=>?_
 obtain⟨vs,n,bE,e,r,z⟩:=W.store _ h.l
 obtain⟨m,az,hm⟩:=W.store _ h.i
 refine bB (MA az) λeg aP aw=>?_
 refine a' ?_
 refine⟨vs,n,bE,eg,e,r,⟨e,rfl,rfl,aP⟩,λname=>?_⟩
 have:=hm name
 cases q:eu.lookup name with
 |none=>rw[q]at this;exact(aw name).trans (congrArg some this)
 |some d=>rw[q]at this;obtain⟨v,bJ,ej⟩:=this;exact⟨v,(aw name).trans (congrArg some bJ),ej⟩
structure oz(K:ach)(C:XM)(name:Str)(f:XF):Prop where
 fd:findIn K (.ref C) name=some (some f)
 ty:typeIn K f=some (.type "function")\/typeIn K f=some (.type "method_descriptor")
theorem vG{f:XF}{name:Str}{pl:Sem Bool}{Q:XF×List XF->XG->Prop}(a:AC G K C)(W:a4 G σ pr s)(h:e4 C σ x bT eu items)(hm:oz K C name f)(az:eu.lookup name=none)(aR:Q (f,[.ref x]) s):
  wpAny (model G.prog G.w) A (getMethod (.ref x) name pl) Q E s:=by
 refine iP (W.kA h) λvs n bE eg e r aa aw=>?_
 have nx:=a.X.keeps W.base
 have O:=aw name
 rw[az]at O
 refine XA (XA (aa.type.here ((Z0 nx a.ga).here ?_)))
 dsimp only
 rw[(show(aeU "list.__getattribute__" !="object.__getattribute__")=false from by kernel_rfl),if_neg aH]
 refine XA (XA (aa.type.here ((Z0 nx a.zj).here ?_)))
 have fin:wpAny (model G.prog G.w) A (do
   if let .ref a:=ZR x then
    if let some d:=(<-loadPart a (some headPart)).dict then
     if(<-nsGet d name).isSome then return (<-getAttr (ZR x) name,([]:List XF))
   rule "call.method-form"
   return (f,[ZR x])) Q E s:=by
  refine XA (acb aa.at_ ?_)
  refine XA (XA (acb aa.dict ?_))
  exact(nsLook_of O)▸XK (XA (aaw (XK aR)))
 refine XA (XA (aa.type.here ((Z0 nx hm.fd).here ?_)))
 rcases hm.ty with a_|a_
 ·refine XA ((afT nx a_).here ?_)
  rw[if_neg aQ]
  exact fin
 ·refine XA ((afT nx a_).here ?_)
  rw[if_neg aQ]
  exact fin
theorem cc.EG{f:XF}{name:Str}(a:AC G K C)(h:e4 C σ x bT eu items)(hm:oz K C name f)(az:eu.lookup name=none)(au:Calls G f)(h0:aN G k sc σ Γ o (.raw (.ref x)))(O:gM G k sc σ Γ (e::aZ) ds)(ae:cy G k T σ f (.raw (.ref x)::ds) R)(aU:∀b∈T,b∈σ.at)
  (he:autoParam (dU e aZ) aI) (fg:autoParam (BT pos aZ) aI)
  (aR:autoParam (∀env,∃pl,eval (.Call (.Attribute o name apos) (e::aZ) [] pos) env=(do
   let iz <-YB o name env (eval o env)
   standAt apos.atName
   let (f,first) <-holding [iz] (getMethod iz name pl)
   Z5 pos f first (Yw pos (X5 (e::aZ) env)) [])) aX) (et:autoParam (∀env,YB o name env (eval o env)=eval o env) aI):cc G k sc T σ Γ (.Call (.Attribute o name apos) (e::aZ) [] pos) R:=by
 intro A env pr s Q E aW aa W F aA
 obtain⟨pl,aR⟩:=aR env
 simp only[aR,et]
 refine XA (h0 A env pr s _ _ aW aa W F λv aj ax a0=>XA (Yl (XA (X7 ?_))))
 have cM:=a0.dB
 subst cM
 refine vG a (W.keep ax) h hm az ?_
 refine iY (first:=[.ref x]) au aW aa (W.keep ax) (F.keep ax) O (he env) (fg env) λvs ao aM bG=>?_
 have bt:bb s ao:=ax.trans aM
 have bo:=W.keep bt
 have bQ:=F.keep bt
 refine ae A pr ao (.ref x::vs) _ _ aW bo (.cons (.raw _) bG) (λY d v J ar st bc bV=>aA Y d v J ar ((b4.dF bt).trans' st) bc ?_ bV)
 exact bQ.stp st (λb H q=>q.1 (aU b H)) λb H q=>bo.apart b (aU b H) (bQ.c' b q)
theorem zl{f:XF}{first:List XF}{Q:XF->XG->Prop}(au:Calls G f)(W:a4 G σ pr s)(h:wpAny (model G.prog G.w) A (call f (first++[])) Q E s):wpAny (model G.prog G.w) A (Z5 p f first (Yw p (X5 [] env)) []) Q E s:=by
 have key:∀(f:XF) (bX:Args->XG->Prop),bX ⟨[],[]⟩ s->wpAny (model G.prog G.w) A (evalArgs f true (Yw p (X5 [] env)) []) bX E s:=λf bX aR=>Z2 aR
 cases au with
 |dV id=>exact ZH rfl (key _ _ h)
 |type T=>exact abl rfl (key _ _ h)
 |func aP hd=>exact ag6 (o:=_) (fd:=_) (key _ _ ⟨⟨W.base _ _ aP,hd⟩,h⟩)
theorem cc.tw{f:XF}{name:Str}(a:AC G K C)(h:e4 C σ x bT eu items)(hm:oz K C name f)(az:eu.lookup name=none)(au:Calls G f)(h0:aN G k sc σ Γ o (.raw (.ref x)))(ae:cy G k T σ f [.raw (.ref x)] R)(aU:∀b∈T,b∈σ.at)
  (aR:autoParam (∀env,∃pl,eval (.Call (.Attribute o name apos) [] [] pos) env=(do
   let iz <-YB o name env (eval o env)
   standAt apos.atName
   let (f,first) <-holding [iz] (getMethod iz name pl)
   Z5 pos f first (Yw pos (X5 [] env)) [])) aX) (et:autoParam (∀env,YB o name env (eval o env)=eval o env) aI):cc G k sc T σ Γ (.Call (.Attribute o name apos) [] [] pos) R:=by
 intro A env pr s Q E aW aa W F aA
 obtain⟨pl,aR⟩:=aR env
 rw[aR,et]
 refine XA (h0 A env pr s _ _ aW aa W F λv aj ax a0=>XA (Yl (XA (X7 ?_))))
 have cM:=a0.dB
 subst cM
 refine vG a (W.keep ax) h hm az ?_
 have bo:=W.keep ax
 have bQ:=F.keep ax
 refine zl (first:=[.ref x]) au bo ?_
 refine ae A pr aj [.ref x] _ _ aW bo (.cons (.raw _) .nil) (λY d v J ar st bc bV=>aA Y d v J ar ((b4.dF ax).trans' st) bc ?_ bV)
 exact bQ.stp st (λb H q=>q.1 (aU b H)) λb H q=>bo.apart b (aU b H) (bQ.c' b q)
theorem aN.tw{f:XF}{name:Str}(a:AC G K C)(h:e4 C σ x bT eu items)(hm:oz K C name f)(az:eu.lookup name=none)(au:Calls G f)(h0:aN G k sc σ Γ o (.raw (.ref x)))(ae:bW G k σ f [.raw (.ref x)] d)
  (aR:autoParam (∀env,∃pl,eval (.Call (.Attribute o name apos) [] [] pos) env=(do
   let iz <-YB o name env (eval o env)
   standAt apos.atName
   let (f,first) <-holding [iz] (getMethod iz name pl)
   Z5 pos f first (Yw pos (X5 [] env)) [])) aX) (et:autoParam (∀env,YB o name env (eval o env)=eval o env) aI):aN G k sc σ Γ (.Call (.Attribute o name apos) [] [] pos) d:=by
 intro A env pr s Q E aW aa W F aA
 obtain⟨pl,aR⟩:=aR env
 rw[aR,et]
 refine XA (h0 A env pr s _ _ aW aa W F λv aj ax a0=>XA (Yl (XA (X7 ?_))))
 have cM:=a0.dB
 subst cM
 refine vG a (W.keep ax) h hm az ?_
 have bo:=W.keep ax
 refine zl (first:=[.ref x]) au bo ?_
 exact ae A pr aj [.ref x] _ _ aW bo (.cons (.raw _) .nil) λv J bN bV=>aA v J (ax.trans bN) bV
end
section
variable{pos:Pos}{x:XM}{m:cf}
theorem EH{i owner n:String}{self:XF}{bS:List XF}{kw:List (Str×XF)}{Q:Unit->XG->Prop}
  (aL:builtinKind i=some .method\/builtinKind i=some .slot) (aG:splitId i=some (owner,n)) (aq:Z_ M s.heap (isInstance self (.type owner)) true) (aY:argsOk i ⟨self::bS,kw⟩) (q:Q () s) :
  wpAny M A (checkBuiltinCall i ⟨self::bS,kw⟩) Q E s:=by
 rcases aL with aL|aL
 ·simp only[checkBuiltinCall,aL,aG]
  refine XA (aq.here ?_)
  cases zm:abt i with
  |none=>exact XK q
  |some vH=>
   simp only[argsOk,zm]at aY
   have ae:=aY
   show wpAny M A (ac5 i vH ⟨self::bS,kw⟩) Q E s
   exact ae.symm▸XK q
 ·exact ae3 aL aG aq aY q
structure lW(id:String)(n:String)(B:Y4):Prop where
 plain:plainId id=true
 kind:builtinKind id=some .method\/builtinKind id=some .slot
 split:splitId id=some ("list",n)
 entry:entryFor table id=some B
theorem MB:lW "list.append" "append" Y4.«list.append»:=⟨by kernel_rfl,.inl aQ,by kernel_rfl,ZX aQ⟩
theorem MC:lW "list.pop" "pop" Y4.«list.pop»:=⟨by kernel_rfl,.inl aQ,by kernel_rfl,ZX aQ⟩
theorem MD:lW "list.__len__" "__len__" Y4.«list.__len__»:=⟨by kernel_rfl,.inr aQ,by kernel_rfl,ZX aQ⟩
theorem ME:lW "list.__init__" "__init__" Y4.«list.__init__»:=⟨by kernel_rfl,.inr aQ,by kernel_rfl,ZX aQ⟩
theorem vI:lW "list.__iter__" "__iter__" Y4.«list.__iter__»:=⟨by kernel_rfl,.inr aQ,by kernel_rfl,ZX aQ⟩
theorem MF:lW "list.__getitem__" "__getitem__" Y4.«list.__getitem__»:=⟨by decide +kernel,by first|exact .inr (by decide +kernel)|exact .inl (by decide +kernel),by decide +kernel,ZX (by kernel_rfl)⟩
theorem MG:lW "list.__setitem__" "__setitem__" Y4.«list.__setitem__»:=⟨by kernel_rfl,.inr aQ,by kernel_rfl,ZX aQ⟩
theorem zo(a:AC G K C)(X:K.In h)(aa:InstAt h x ox C eg):Z_ M h (isInstance (.ref x) (.type "list")) true:=by
 refine gU a.cd λcd O ae _=>?_
 refine aa.type.andThen (agr X ?_)
 delta mroIn
 rw[O,adB,ae,if_neg (by intro q;cases q)]
 rfl
theorem vJ{n:String}{B:Y4}{bS:List XF}{Q:XF->XG->Prop}(L:lW id n B)(a:AC G K C)(W:a4 G σ pr s)(h:e4 C σ x bT eu items)(aY:argsOk id ⟨.ref x::bS,[]⟩)
  (aR:wpAny (model G.prog G.w) A.in1 (B ⟨.ref x::bS,[]⟩) (λfin J=>match fin with | .done f=>wants Q E (.ok f) J | .again cq=>cq.quiet=true/\codeAny (model G.prog G.w) A cq (wants Q E) J) (λe J=>E e J) s) :
  wpAny (model G.prog G.w) A (call (.builtin id) (.ref x::bS)) Q E s:=by
 refine iP (W.kA h) λvs n bE eg e r aa aw=>?_
 exact aa' (abO L.plain L.entry (EH L.kind L.split (zo a (a.X.keeps W.base) aa) aY aR))
theorem MH:lW "list.__getattribute__" "__getattribute__" Y4.«object.__getattribute__»:=⟨by kernel_rfl,.inr aQ,by kernel_rfl,entryFor_alias (id':="object.__getattribute__") (by rw[ag5];kernel_rfl) aQ aQ (by rw[ag5];kernel_rfl)⟩
theorem MI:Slot "list" "__getattribute__" "list.__getattribute__":=.of (owner:="list") (n:="__getattribute__") (by rw[adh,abA];kernel_rfl) aQ aQ aQ
 (by first|exact .inl aQ|exact .inr aQ) (by rw[ady];kernel_rfl)
theorem EI{v:XF}{name:Str}{expr:Bool}{Q:XF->XG->Prop}(a:AC G K C)(W:a4 G σ pr s)(ar:e4 C σ x bT eu items)(aa:InstAt s.heap x ox C eg)(hf:findObj K C eg name=some (.value v))(bK:handedIn v=true)(aR:Q v {s with toks:=s.toks+1}):
  wpAny (model G.prog G.w) A (getAttr (.ref x) name expr) Q E s:=by
 have nx:=a.X.keeps W.base
 obtain⟨h,g,d,t,os⟩:=s
 have rn:=aa.type (M:=model G.prog G.w)
 have MJ:=Z0 (M:=model G.prog G.w) nx a.ga
 have MK:=Z0 (M:=model G.prog G.w) nx a.zj
 have ML:=looks_find (M:=model G.prog G.w) nx aa hf
 refine XA (afS (X7 (XA (rn.at (XA (MJ.at ?_))))))
 show wpAny _ _ (getAttrByItsOwn (.ref x) (.str name t) (.ref C) (.builtin "list.__getattribute__") true expr) _ _ _
 delta getAttrByItsOwn hookBefore callGetattribute boundAndCalled
 refine XA (MK.at ?_)
 rw[(show(expr&&onTheHeap (.builtin "list.__getattribute__"))=false from by cases expr<;>rfl),if_neg aH]
 refine XA (acB (X7 ?_))
 refine XA (Zg (MI.bind _) ?_)
 refine vJ MH a (W.keep (bb.tok (s:=⟨h,g,d,t,os⟩) (t+1))) ar (by unfold argsOk;kernel_rfl) ?_
 refine XA (XK ?_)
 refine XA (XK (XA (rn.at (XA (ML.at ?_)))))
 refine XK ?_
 show wpAny _ _ (handedOut v) _ _ _
 rw[handedOut_of bK]
 exact XK aR
theorem e4.ro(h:e4 C σ x bT eu items):x∈σ.at:=dr h.l
theorem cy.MM(ac:AC G K C)(h:e4 C σ x bT eu items)(aU:x∈T)(hsz:items.length<=100000):cy G k T σ (.builtin "list.append") [.raw (.ref x),d] (λY dM=>Y=σ.set x (.list (.ref C) (some bT) (items++[d]))/\dM=.none):=by
 intro A pr s vs Q E aW W r aA
 refine gI r.inv2 λ_ _ aB bO pS=>?_
 subst aB
 rename_i v
 have tx:=bO.dB
 subst tx
 refine iP (W.kA h) λvs n bE eg a3 g3 aa _=>?_
 have b9:=h.ro
 have aw:vs.size=items.length:=by rw[<-aas,g3.length]
 refine vJ MB ac W h (PySem.args_list_append _ _) ?_
 show wpAny _ _ (updateSeq x (·.push v) >>= λ_=>ret .none) _ _ s
 refine XA (abW (hz:=b1 CB) a3 rfl (XK ?_))
 have aJ:KB (λb=>b=x) s {s with heap:=s.heap.update x (YY λxs=>xs.push v)}:=.hr (YV ..) rfl
 have bH:=YZ (YY λxs=>xs.push v) a3 rfl
 refine aA _ _ _ _ ⟨rfl,rfl⟩ (.put aJ aU) (W.put aJ b9 ⟨vs.push v,_,bE,bH,?_,λq=>mX q⟩) .none
 rw[afN]
 exact(g3.aJ aJ (dy W b9)).append (.one (pS.aJ aJ (dy W b9)))
end
def dZ(j:Nat):List ZF×YI:=defOf ((b6 16).1[j]?)
noncomputable def EJ:List (Nat×Str):=[(0,"__init__"),(1,"push"),(2,"pop_from"),(3,"pop"),(4,"__len__"),(5,"__str__"),(7,"is_onlyws"),(8,"part_count")]
structure zp(G:GE)(K:ach)(C:XM)(ck:Nat->XM):Prop where
 ac:AC G K C
 m:∀j name,EJ.lookup j=some name->oz K C name (.ref (ck j))
 app:oz K C "append" (.builtin "list.append")
 f1:fa G (ck 1) ["self","fws","string"] (dZ 1).2 (dZ 1).1
section
variable{pos:Pos}{x:XM}{m:cf}
theorem MN(a:zp G K C ck)(h:e4 C σ x bT eu items)(az:eu.lookup ("append":Str)=none)(hsz:items.length<=100000):
  cy G (k+1) [x] σ (.ref (ck 1)) [.raw (.ref x),bZ,d₂] (λY dM=>Y=σ.set x (.list (.ref C) (some bT) (items++[.tuple [bZ,d₂]]))/\dM=.none):=by
 refine cy.of_body (k:=k) (σ:=σ) (P:=λo=>∃Γ,o=.next (σ.set x (.list (.ref C) (some bT) (items++[.tuple [bZ,d₂]]))) Γ) a.f1 rfl ?_ λo aP=>by
  obtain⟨Γ,rfl⟩:=aP
  exact⟨[],σ.set x (.list (.ref C) (some bT) (items++[.tuple [bZ,d₂]])),rfl,λb H=>by rw[h3];exact H,rfl,rfl⟩
 refine cp.one (bR.expr (R:=λY dM=>Y=σ.set x (.list (.ref C) (some bT) (items++[.tuple [bZ,d₂]]))/\dM=.none) ?_ ?_)
 ·refine cc.EG a.ac h a.app az (.dV _) ?_ ?_ (cy.MM (d:=.tuple [bZ,d₂]) a.ac h (.head _) hsz) ?_
  ·exact aN.name rfl
  ·refine .cons (.tuple (.cons (aN.name rfl) (.cons (aN.name rfl) .nil)) c7) .nil
  ·intro b H;rw[XD.mp H];exact h.ro
 ·rintro Y d ⟨rfl,rfl⟩
  exact⟨_,rfl⟩
end
theorem zq:Slot "wrapper_descriptor" "__get__" "wrapper_descriptor.__get__":=.of (owner:="wrapper_descriptor") (n:="__get__") (by rw[adh,abA];kernel_rfl) aQ aQ aQ
 (by first|exact .inl aQ|exact .inr aQ) (by rw[ady];kernel_rfl)
theorem EK:Slot "method_descriptor" "__get__" "method_descriptor.__get__":=.of (owner:="method_descriptor") (n:="__get__") (by rw[adh,abA];kernel_rfl) aQ aQ aQ
 (by first|exact .inl aQ|exact .inr aQ) (by rw[ady];kernel_rfl)
theorem MO:entryFor table "wrapper_descriptor.__get__" = some Y4.«wrapper_descriptor.__get__»:=ZX aQ
theorem MP:entryFor table "method_descriptor.__get__" = some Y4.«method_descriptor.__get__»:=ZX aQ
theorem MQ(a b c:XF):argsOk "wrapper_descriptor.__get__" ⟨[a,b,c],[]⟩:=by unfold argsOk;kernel_rfl
theorem MR(a b c:XF):argsOk "method_descriptor.__get__" ⟨[a,b,c],[]⟩:=by unfold argsOk;kernel_rfl
noncomputable abbrev kB(fW:String)(id:String)(x:XM):Obj:={cls:=.type fW,data:=.fields #[.builtin id,.ref x]}
section
variable{g:Array aaI}{d:Drawn}{x:XM}
theorem EL{Q:XF->XG->Prop}(jW:typeOf (.builtin id)=pure (.type "wrapper_descriptor"))(aq:Z_ (model prog w) h (isInstance (.ref x) (.type "list")) true)(zr : ".".intercalate (id.cutAt '.').dropLast = "list")
  (aR:Q (.ref h.objs.size) ⟨h.push (kB "method-wrapper" id x),g,d,t,os⟩) :
  wpAny (model prog w) A (call (.builtin "wrapper_descriptor.__get__") [.builtin id,.ref x,.ref C]) Q E ⟨h,g,d,t,os⟩:=by
 rw[<-zr]at aq
 refine aaA zq jW MO ?_ (MQ _ _ _)
 repeat lk
 exact⟨_,rfl,aR⟩
theorem MS{Q:XF->XG->Prop}(jW:typeOf (.builtin id)=pure (.type "method_descriptor"))(aq:Z_ (model prog w) h (isInstance (.ref x) (.type "list")) true)(zr : ".".intercalate (id.cutAt '.').dropLast = "list")(hm:Manifest.toldItsClass.contains id=false)
  (aR:Q (.ref h.objs.size) ⟨h.push (kB "builtin_function_or_method" id x),g,d,t,os⟩) :
  wpAny (model prog w) A (call (.builtin "method_descriptor.__get__") [.builtin id,.ref x,.ref C]) Q E ⟨h,g,d,t,os⟩:=by
 rw[<-zr]at aq
 refine aaA EK jW MP ?_ (MR _ _ _)
 refine XA (Zg (a:=(.builtin id,some (.ref x),some (.ref C))) rfl (fK (by rw[hm];exact X') ?_))
 repeat lk
 exact⟨_,rfl,aR⟩
theorem MT: ".".intercalate ("list.__len__".cutAt '.').dropLast = "list":=by kernel_rfl
theorem MU: ".".intercalate ("list.pop".cutAt '.').dropLast = "list":=by kernel_rfl
theorem MV: ".".intercalate ("list.__init__".cutAt '.').dropLast = "list":=by kernel_rfl
theorem MW:Manifest.toldItsClass.contains "list.pop" = false:=by kernel_rfl
noncomputable abbrev vK(C x:XM):Obj:={cls:=.type "super",dict:=none,data:=.fields #[.ref C,.ref x,.ref C],slots:=#[]}
structure rp(name:Str)(id:String)(mE TT fW:String):Prop where
 own:fastBuiltinOwn "list" name=some (.builtin id)
 ty:typeOf (.builtin id)=pure (.type TT)
 get:typeLookup (.type TT) "__get__" = pure (some (.builtin mE))
 EM:(name==("__class__":Str))=false
theorem MX{name:Str}{cD:Tok}{mE TT fW:String}{Q:Fin->XG->Prop}(B:rp name id mE TT fW)
  (rq:h.get? ny=some (vK C x)) (k8:Z_ (model prog w) h (opaqueClassAbove (.ref C)) none)
  (br:Z_ (model prog w) h (mroOf (.ref C)) [.ref C,.type "list",.type "object"]) (X:K.In h) (pZ:x≠C)
  (tA:∀(A:Yz) (Q:XF->XG->Prop) (E:XF->XG->Prop),Q (.ref h.objs.size) ⟨h.push (kB fW id x),g,d,t,os⟩->wpAny (model prog w) A (call (.builtin mE) [.builtin id,.ref x,.ref C]) Q E ⟨h,g,d,t,os⟩)
  (aR:Q (.done (.ret (.ref h.objs.size))) ⟨h.push (kB fW id x),g,d,t,os⟩) :
  wpAny (model prog w) A (Y4.«super.__getattribute__» ⟨[.ref ny,.str name cD],[]⟩) Q E ⟨h,g,d,t,os⟩:=by
 have rr:(vK C x).data=.fields #[.ref C,.ref x,.ref C]:=rfl
 refine XA (Zg (a:=some name) rfl (fK X' (XA (Zg (a:=some name) rfl ?_))))
 refine XA (Zv rq rr (x:=.ref C) rfl (XA (Zv rq rr (x:=.ref x) rfl (XA (Zv rq rr (x:=.ref C) rfl (fK ?_ ?_))))))
 ·exact B.EM.symm▸X'
 refine XA (ks_wpAny_notOpaque k8 (fK X' (XA (Looks.at br ?_))))
 rw[(show(([.ref C,.type "list",.type "object"]:List XF).dropWhile (· !=.ref C)).drop 1=[.type "list",.type "object"]from by simp)]
 refine XA (ks_forIn_along X (λ_ _=>rfl) rfl ?_ (show alongIn K name [.type "list",.type "object"]=some (some (.builtin id))from by simp only[alongIn,ownIn,B.own]))
 refine XA (Zg B.ty (XA (Zg B.get ?_)))
 rw[(if_neg λq=>pZ (by injection eq_of_beq q))]
 refine XA (X7 (tA _ _ _ ?_))
 exact XA (XK (XK (XK aR)))
end
section
variable{g:Array aaI}{d:Drawn}{x:XM}
theorem MY{name:Str}{mE TT fW:String}{pl:Sem Bool}{Q:XF×List XF->XG->Prop}(B:rp name id mE TT fW)
  (rq:h.get? ny=some (vK C x)) (k8:Z_ (model prog w) h (opaqueClassAbove (.ref C)) none)
  (br:Z_ (model prog w) h (mroOf (.ref C)) [.ref C,.type "list",.type "object"]) (X:K.In h) (pZ:x≠C)
  (tA:∀(A:Yz) (t:Nat) (Q:XF->XG->Prop) (E:XF->XG->Prop),Q (.ref h.objs.size) ⟨h.push (kB fW id x),g,d,t,os⟩->wpAny (model prog w) A (call (.builtin mE) [.builtin id,.ref x,.ref C]) Q E ⟨h,g,d,t,os⟩)
  (aR:Q (.ref h.objs.size,[]) ⟨h.push (kB fW id x),g,d,t+1,os⟩) :
  wpAny (model prog w) A (getMethod (.ref ny) name pl) Q E ⟨h,g,d,t,os⟩:=by
 have EN:=abZ.lookup
 have MZ:=PySem.F.ks_canon_super_ga
 have aU:∀fE,(⟨h,g,d,fE,os⟩:XG).TypeIs (.ref ny) "super":=λ_=>⟨_,rq,rfl⟩
 refine XA (aeN (aU _) EN ?_)
 show wpAny _ _ (if(aeU "super.__getattribute__" !="object.__getattribute__")=true then _ else _) _ _ _
 rw[if_pos MZ]
 refine XA (XA (afS (X7 (XA (afP (aU _) (XA (Zg EN ?_)))))))
 refine XA (Zg (show(if onTheHeap (.type "super")then typeLookup (.type "super") "__getattr__" else pure none)=pure none from rfl) ?_)
 refine XA (acB (X7 ?_))
 refine XA (Zg (abZ.bind _) ?_)
 refine Zi (Q:=λv J=>v=.ref h.objs.size/\J=⟨h.push (kB fW id x),g,d,t+1,os⟩) (E:=λ_ _=>False)
  (aaA abZ (aU _) PySem.F.ks_entry_super_ga (MX B rq k8 br X pZ (λA Q E=>tA A _ Q E) ⟨_,rfl,rfl,rfl⟩) (PySem.F.ks_gaArgs_super _ _)) (λv J bJ=>?_) λ_ _ z=>z.elim
 obtain⟨rfl,rfl⟩:=bJ
 exact XK (XK aR)
theorem M0{fW n:String}{B:Y4}{bS:List XF}{R:aaB->XG->Prop}(L:lW id n B)(H:s.heap.get? b=some (kB fW id x))(rt:fW = "method-wrapper"\/fW = "builtin_function_or_method")
  (zt:∀(A:Yz) (Q:Unit->XG->Prop) (E:XF->XG->Prop),Q () s->wpAny (model prog w) A (checkBoundCall id ⟨.ref x::bS,[]⟩) Q E s)
  (aR:wpAny (model prog w) A.in1 (B ⟨.ref x::bS,[]⟩) (λfin J=>match fin with | .done f=>R (.ok f) J | .again cq=>cq.quiet=true/\codeAny (model prog w) A cq R J) (λe J=>R (.error e) J) s) :
  codeAny (model prog w) A (.call (.ref b) ⟨bS,[]⟩) R s:=by
 refine ZA ?_
 refine XA (acd H ?_)
 have fin:wpAny (model prog w) A.in1 (do checkBoundCall id ⟨.ref x::bS,[]⟩;again (ahe id ⟨.ref x::bS,[]⟩)) (λfin J=>match fin with | .done f=>R (.ok f) J | .again cq=>cq.quiet=true/\codeAny (model prog w) A cq R J) (λe J=>R (.error e) J) s:=by
  refine XA (zt _ _ _ (XK ⟨aa8 L.plain _,?_⟩))
  refine abX L.entry ?_
  exact(aak L.plain _)▸aR
 rcases rt with rfl|rfl
 ·exact fin
 ·exact fin
theorem EO{bS:List XF}(aL:builtinKind id=some .slot)(aY:argsOk id ⟨.ref x::bS,[]⟩)(A:Yz)(Q:Unit->XG->Prop)(E:XF->XG->Prop)(q:Q () s):wpAny (model prog w) A (checkBoundCall id ⟨.ref x::bS,[]⟩) Q E s:=by
 delta checkBoundCall
 cases zm:abt id with
 |none=>exact XK q
 |some vH=>
  delta argsOk at aY
  rw[zm]at aY
  rw[aL]
  show wpAny _ A (ac5 id vH ⟨.ref x::bS,[]⟩) Q E s
  rw[(show ac5 id vH ⟨.ref x::bS,[]⟩=pure ()from aY)];exact XK q
theorem M1:builtinKind "list.pop" = some .method:=by kernel_rfl
theorem M2:Manifest.varargsMethods.contains "list.pop" = false:=by kernel_rfl
theorem M3:abt "list.pop" = some ⟨.positional,"list.pop","pop",.self,[⟨"index",.posOnly,false⟩]⟩:=by
 rw[signature?_of (id:="list.pop") (n:=['p','o','p']) (o:=['t','s','i','l']) aQ PySem.F.owner_list];kernel_rfl
theorem M4(a:XF):ac5 "list.pop" ⟨.positional,"_Accumulator.pop","pop",.self,[⟨"index",.posOnly,false⟩]⟩ ⟨[a],[]⟩=pure ():=by kernel_rfl
theorem M5:toString (Str.toString "_Accumulator")++toString "."++toString (Bind.lastOf "list.pop") = "_Accumulator.pop":=by kernel_rfl
theorem M6{cd:afM}(M7:Z_ (model prog w) s.heap (isInstance (.ref x) (.type "module")) false)(aU:Z_ (model prog w) s.heap (isType (.ref x)) false)(a_:Z_ (model prog w) s.heap (typeOf (.ref x)) (.ref C))
  (kr:Z_ (model prog w) s.heap (classData C) cd) (M8:cd.qualname = "_Accumulator") (tB:Z_ (model prog w) s.heap (typeOf (.ref C)) (.type "type")) (A:Yz) (Q:Unit->XG->Prop) (E:XF->XG->Prop) (q:Q () s):wpAny (model prog w) A (checkBoundCall "list.pop" ⟨[.ref x],[]⟩) Q E s:=by
 delta checkBoundCall
 have aL:=M1
 have bJ:=M2
 rw[M3,aL]
 have aY:=M4 (.ref x)
 have hf:=M5
 refine fK aH (gL M7 (fK (by rw[bJ];exact X') (gL aU (fK X' (gL a_ (gL kr (gL tB (pc rfl ?_))))))))
 rw[M8,hf,aY]
 exact XK q
end
structure lX(G:GE)(C:XM)(h:Zu)(env:Env)(x:XM):Prop where
 kind:env.scope.kind=.function
 ks:env.kindOf "super" = some .globalImplicit
 d0:env.kindOf "__class__" = some .free
 ru:env.kindOf "self" = some .local
 gl:env.globals=YJ
 p0:env.builtins=Y6
 fn:∃f of fd h6,env.func=some f/\h.get? f=some of/\of.data=.func fd/\(fd.params.posonlyargs++fd.params.args).head?=some h6/\h6.arg = "self"
 code:∃hA fF vs file hN,env.code=.ref hA/\h.get? hA=some fF/\fF.data=.fields vs/\vs[2]?=some (.str file hN)/\(G.prog.main.file==file)=true
 top:(G.prog.main.scope.names.lookup ("super":Str)).isSome=false
 cell:∃c,env.cells.lookup ("__class__":Str)=some c/\h.IsCell c (some (.ref C))
 self:∃m,h.Ns env.locals m/\m "self" = some (.ref x)
theorem lX.keeps{x:XM}(S:lX G C h env x)(k:∀b o,h.get? b=some o->ah.get? b=some o):lX G C ah env x where
 kind:=S.kind
 ks:=S.ks
 d0:=S.d0
 ru:=S.ru
 gl:=S.gl
 p0:=S.p0
 fn:=by obtain⟨f,of,fd,h6,O,ae,a2⟩:=S.fn;exact⟨f,of,fd,h6,O,k _ _ ae,a2⟩
 code:=by obtain⟨hA,fF,vs,file,hN,O,ae,a2⟩:=S.code;exact⟨hA,fF,vs,file,hN,O,k _ _ ae,a2⟩
 top:=S.top
 cell:=by obtain⟨c,O,ae⟩:=S.cell;exact⟨c,O,ae.keeps k⟩
 self:=by obtain⟨m,O,ae⟩:=S.self;exact⟨m,O.keeps k,ae⟩
section
variable{x:XM}
theorem AC.mro(a:AC G K C)(X:K.In h):Z_ M h (mroOf (.ref C)) [.ref C,.type "list",.type "object"]:=by
 refine gU a.cd λcd O ae _=>?_
 exact ae▸(adx X O).andThen .now
theorem AC.sub(a:AC G K C)(X:K.In h){b:XF}:Z_ M h (isSubtype (.ref C) b) (([.ref C,.type "list",.type "object"]:List XF).contains b):=by
 refine gU a.cd λcd O ae _=>?_
 refine agr X ?_
 delta mroIn
 rw[O,adB,ae,if_neg (by intro q;cases q)]
theorem M9{cd:afM}(X:K.In h)(e:clsIn K C=some cd):∃oA cd,h.get? C=some oA/\oA.data=.cls cd:=by
 delta clsIn at e
 rcases aL:K.lookup C with _|⟨c,d,zu,bE⟩
 ·replace e:=aL▸e;cases e
 ·replace e:=aL▸e
  cases zu<;>first|(cases e;done)|exact⟨_,_,X _ _ aL,rfl⟩
theorem AC.obj(a:AC G K C)(X:K.In h):∃oA cd,h.get? C=some oA/\oA.data=.cls cd:=by
 refine gU a.cd λcd O ae _=>?_
 exact M9 X O
theorem M_{h7 cb:Pos}{name:Str}{uZ:Sem XF}{Q:XF->XG->Prop}(a:AC G K C)(S:lX G C s.heap env x)(ok:G.Ok)(H:∀b o,G.h₀.get? b=some o->s.heap.get? b=some o)(lg:G.mg "super" = none)
  (aa:InstAt s.heap x ox C eg) (zv:∀c,ox.data≠.cls c) (b9:(name==("__class__":Str))=false)
  (aR:∀ah,ah.get? s.heap.objs.size=some (vK C x)->(∀y o,s.heap.get? y=some o->ah.get? y=some o)->Q (.ref s.heap.objs.size) {s with heap:=ah}) :
  aee (model G.prog G.w) A (.func body env) (YB (.Call (.Name "super" h7) [] [] cb) name env uZ) Q E s:=by
 refine bC λ_ a'=>?_
 obtain⟨f,of,fd,h6,f1,f2,uR,f4,tC⟩:=S.fn
 obtain⟨hA,fF,vs,file,hN,eR,eI,fy,cJ,c4⟩:=S.code
 refine bB S.cell λc hY kW=>?_
 refine bB S.self λm gq hU=>?_
 refine a' ?_
 have X:=a.X.keeps H
 refine g8 (a.obj X) λoA cd a3 bH=>?_
 refine ks_wpAt_super_base S.ks S.d0 b9 f1 f2 uR f4 eR eI fy cJ c4 S.top ?_
 refine ks_loadName_global S.kind S.ks (ace («env»:=env) (mg:=G.mg) (mb:=G.mb) (by rw[S.gl];exact ok.g.keeps H) lg (by rw[S.p0];exact ok.b.keeps H) ((ok.builtins "super" aH).trans aQ) ⟨rfl,?_⟩)
 refine agH S.kind S.d0 hY kW ?_
 simp only[tC]
 refine aaX S.kind S.ru gq hU ?_
 refine ks_wpAny_isType_cls a3 bH ⟨rfl,?_⟩
 exact ks_wpAny_call_super (ox:=ox) a3 bH aa.at_ aa.cls zv (by have:=a.sub (M:=model G.prog G.w) X (b:=.ref C);simpa using this) λah k1 k2=>aR ah k1 k2
end
structure i8(G:GE)(C:XM)(a:XM)(names:List Str)(sc:YI)(body:List ZF):Prop where
 ex:∃o fd,G.h₀.get? a=some o/\o.data=.func fd/\fd.scope=sc/\fd.body=.stmts body/\fd.globals=YJ/\fd.builtins=Y6/\G.h₀.CodeRec fd.code fd.qualname/\
  (∀(s:XG) (vs:List XF),(∀b o,G.h₀.get? b=some o->s.heap.get? b=some o)->vs.length=names.length->ahf s fd ⟨vs,[]⟩ (names.zip vs))/\(∃c,fd.closure.lookup ("__class__":Str)=some c/\G.h₀.IsCell c (some (.ref C)))/\
  (∃h6,(fd.params.posonlyargs++fd.params.args).head?=some h6/\h6.arg = "self")/\∃hA fF vs file hN,fd.code=.ref hA/\G.h₀.get? hA=some fF/\fF.data=.fields vs/\vs[2]?=some (.str file hN)/\(G.prog.main.file==file)=true
 EP:∀y∈sc.names,y.2≠.cell
 nm:∀y∈names,sc.names.lookup y=some .local
 self:∃ns,names=("self":Str)::ns
 c2:names.Nodup
 ks:sc.names.lookup ("super":Str)=some .globalImplicit
 d0:sc.names.lookup ("__class__":Str)=some .free
 co:sc.isCoroutine=false
 gen:sc.isGenerator=false
 kind:sc.kind=.function
 top:(G.prog.main.scope.names.lookup ("super":Str)).isSome=false
theorem i8.calls(h:i8 G C a names sc body):Calls G (.ref a):=by obtain⟨o,fd,O,ae,_⟩:=h.ex;exact .func O ae
section
variable{x:XM}
theorem ER{vs:List XF}{Q:XF->XG->Prop}(af:i8 G C f names sc body)(aW:cs A (k+1))(ok:G.Ok)(H:∀b o,G.h₀.get? b=some o->s.heap.get? b=some o)(aw:vs.length=names.length)(lY:vs.head?=some (.ref x))
  (h:∀env ah,lX G C ah env x->env.scope=sc->env.locals=s.heap.objs.size->(∀b o,s.heap.get? b=some o->ah.get? b=some o)->s.heap.objs.size<ah.objs.size->ah.Ns env.locals (λy=>(names.zip vs).reverse.lookup y)->cs (A.deeper env) k->
   aee (model G.prog G.w) (A.deeper env) (.func body env) (execs body env) (λhB J=>Q (match hB with | .ret v=>v|_=>.none) J) (λ_ _=>False) {s with heap:=ah,toks:=s.toks+(names.zip vs).length}) :
  wpAny (model G.prog G.w) A (call (.ref f) vs) Q E s:=by
 refine bC λ_ a'=>?_
 obtain⟨o,fd,O,ae,a2,b_,cn,gQ,dJ,fA,⟨c,eR,eI⟩,⟨h6,a1,cw⟩,hA,fF,ws,file,hN,cb,dw,el,dW,nz⟩:=af.ex
 refine a' ?_
 subst a2
 obtain⟨ns,eU⟩:=af.self
 refine aa' (af_ aW.limit (H _ _ O) ae (ok.nolimit.keeps H) (dJ.keeps H) b_ (fA s vs H aw) af.EP (λy bk=>?_) (λah az aL=>?_) af.co af.gen af.kind)
 ·have:y.1∈names:=by
   exact(acK bk).1
  exact af.nm _ this
 ·refine ks_wpAt_mono (h (callEnv fd s.heap.objs.size f) ah ?_ rfl rfl aL az.lt az (aW.deeper _)) (λhB J q=>q) λ_ _ q=>q.elim
  refine⟨af.kind,af.ks,af.d0,?_,cn,gQ,⟨f,o,fd,h6,rfl,aL _ _ (H _ _ O),ae,a1,cw⟩,⟨hA,fF,ws,file,hN,cb,aL _ _ (H _ _ dw),el,dW,nz⟩,af.top,⟨c,eR,(eI.keeps H).keeps aL⟩,⟨_,az,?_⟩⟩
  ·refine af.nm _ ?_
   exact eU.symm▸.head _
  ·have eG:=af.c2
   subst eU
   cases vs with
   |nil=>cases lY
   |cons v vs=>
    simp only[agz,aeI]at lY
    subst lY
    rw[aa1,ZI,aaz,x7 λc au=>?_]
    ·rw[af'];exact kV
    ·have O:=(acK (YS.mp au)).1
     exact(Yn.mp eG).1 O
theorem M':rp "__len__" "list.__len__" "wrapper_descriptor.__get__" "wrapper_descriptor" "method-wrapper":=⟨by kernel_rfl,by kernel_rfl,zq.lookup,by decide⟩
theorem Na:rp "__init__" "list.__init__" "wrapper_descriptor.__get__" "wrapper_descriptor" "method-wrapper":=⟨by kernel_rfl,by kernel_rfl,zq.lookup,by decide⟩
theorem Nb:rp "pop" "list.pop" "method_descriptor.__get__" "method_descriptor" "builtin_function_or_method":=⟨by kernel_rfl,by kernel_rfl,EK.lookup,by decide⟩
theorem Nc{fW:String}{Q:XF->XG->Prop}(rt:fW = "method-wrapper"\/fW = "builtin_function_or_method")(H:s.heap.get? b=some (kB fW id x))(h:wpAny (model G.prog G.w) A (call (.ref b) []) Q E s):
  wpAny (model G.prog G.w) A (Z5 p (.ref b) [] (Yw p (X5 [] env)) []) Q E s:=by
 refine XA (X7 (Z2 (XA (Yl ?_))))
 refine XA (m:=keeperOf (.ref b)) ?_
 refine XA (acd H ?_)
 rcases rt with rfl|rfl
 ·exact XK (XA (Zi h (λr ao ai=>XA (X7 (abL (XK ai)))) λ_ _ x=>x))
 ·exact XK (XA (Zi h (λr ao ai=>XA (X7 (abL (XK ai)))) λ_ _ x=>x))
theorem zw{h7 cb pos:Pos}{name:Str}{mE TT fW n:String}{B:Y4}{pl:Sem Bool}{Q:XF->XG->Prop}(a:AC G K C)(S:lX G C s.heap env x)(ok:G.Ok)(H:∀b o,G.h₀.get? b=some o->s.heap.get? b=some o)(lg:G.mg "super" = none)
  (aa:InstAt s.heap x ox C eg) (zv:∀c,ox.data≠.cls c) (pZ:x≠C) (SB:rp name id mE TT fW) (L:lW id n B) (rt:fW = "method-wrapper"\/fW = "builtin_function_or_method")
  (tA:∀(A:Yz) (s:XG) (Q:XF->XG->Prop) (E:XF->XG->Prop),Z_ (model G.prog G.w) s.heap (isInstance (.ref x) (.type "list")) true->Q (.ref s.heap.objs.size) {s with heap:=s.heap.push (kB fW id x)}->wpAny (model G.prog G.w) A (call (.builtin mE) [.builtin id,.ref x,.ref C]) Q E s)
  (zt:∀(A:Yz) (s:XG) (Q:Unit->XG->Prop) (E:XF->XG->Prop),K.In s.heap->InstAt s.heap x ox C eg->Q () s->wpAny (model G.prog G.w) A (checkBoundCall id ⟨[.ref x],[]⟩) Q E s)
  (aR:∀ah fE,bb s {s with heap:=ah,toks:=fE}->wpAny (model G.prog G.w) A.in1 (B ⟨[.ref x],[]⟩) (λfin J=>match fin with | .done f=>wants Q E (.ok f) J | .again cq=>cq.quiet=true/\codeAny (model G.prog G.w) A cq (wants Q E) J) (λe J=>E e J) {s with heap:=ah,toks:=fE})
  (he:autoParam (eval (.Call (.Attribute (.Call (.Name "super" h7) [] [] cb) name apos) [] [] pos) env=(do
   let iz <-YB (.Call (.Name "super" h7) [] [] cb) name env (eval (.Call (.Name "super" h7) [] [] cb) env)
   standAt apos.atName
   let (f,first) <-holding [iz] (getMethod iz name pl)
   Z5 pos f first (Yw pos (X5 [] env)) [])) aI) :
  aee (model G.prog G.w) A (.func body env) (eval (.Call (.Attribute (.Call (.Name "super" h7) [] [] cb) name apos) [] [] pos) env) Q E s:=by
 refine ks_wpAt_MethodCall (pl:=pl) ?_ he
 refine M_ a S ok H lg aa zv SB.EM λO k1 k2=>?_
 have tD:=(a.X.keeps H).keeps k2
 have tE:InstAt O x ox C eg:=⟨k2 _ _ aa.at_,aa.cls,aa.no,by
  have:=aa.dict
  revert this
  cases ox.dict<;>cases eg<;>intro q<;>first|exact q|exact q.elim|exact k2 _ _ q⟩
 have WT:s.heap.objs.size<O.objs.size:=XX k1
 refine MY SB k1 (looks_opaque tD a.op) (a.mro tD) tD pZ (λfi fE bX cI q=>tA fi ⟨O,s.gens,s.drawn,fE,s.os⟩ bX cI (zo a tD tE) q) ?_
 have k3:∀y o,O.get? y=some o->(O.push (kB fW id x)).get? y=some o:=λy o e=>X6 _ e
 have ES:(O.push (kB fW id x)).get? O.objs.size=some (kB fW id x):=XU _ rfl
 refine Nc rt ES (aa' (M0 L ES rt (λfi bX cI q=>zt fi _ bX cI (tD.keeps k3) ?_ q) ?_))
 ·exact⟨k3 _ _ tE.at_,tE.cls,tE.no,by
   have:=tE.dict
   revert this
   cases ox.dict<;>cases eg<;>intro q<;>first|exact q|exact q.elim|exact k3 _ _ q⟩
 ·exact aR _ _ (.heap (λy o e=>k3 _ _ (k2 _ _ e)) (by rw[Yk];lia))
end
section
variable{x:XM}
theorem ET(a:AC G K C)(W:a4 G σ pr s)(h:e4 C σ x bT eu items):x≠C:=by
 intro q
 refine g8 (a.obj a.X) λoA cd a3 _=>?_
 have:=W.above x (.inl h.ro)
 rw[q,a3]at this
 cases this
theorem EU(a:AC G K C)(af:i8 G C f ["self"] (dZ 8).2 (dZ 8).1)(lg:G.mg "super" = none)(h:e4 C σ x bT eu items):bW G (k+1) σ (.ref f) [.raw (.ref x)] (.int items.length):=by
 intro A pr s vs Q E aW W r aA
 refine bB r.inv1 λ_ aB bO=>?_
 subst aB
 have tx:=bO.dB
 subst tx
 refine ER (k:=k) af aW W.ok W.base rfl rfl λenv ah S oq zx aL ct eU kO=>?_
 have bt:bb s {s with heap:=ah,toks:=s.toks+([("self":Str)].zip [ZR x]).length}:=.heap aL (Ye ct)
 have bc:=W.keep bt
 refine iP (bc.kA h) λvs n bE eg a3 g3 aa _=>?_
 refine aaK (adH (zw a S W.ok bc.base lg aa (λc q=>nomatch q) (ET a W h) M' MD (.inl rfl) (λA s Q E aq q=>?_) (λA s Q E X aa q=>EO aQ (PySem.F.args_list_len_1 _) A Q E q) λeh vL aM=>?_))
 ·exact EL aQ aq MT q
 ·have bH:=aM.get a3
  have hJ:=bt.trans aM
  repeat (first|(with_reducible refine wpAny_loadPart_at bH ?_)|wp_step)
  refine aA (.int (vs.size:Nat) vL) _ (hJ.trans (bb.tok _)) ?_
  rw[(show vs.size=items.length from by rw[<-aas,g3.length])]
  exact .int _ _
end
section
variable{x:XM}{pos:Pos}
theorem Nd{f:XF}{name:Str}{Q:XF->XG->Prop}(a:AC G K C)(W:a4 G σ pr s)(h:e4 C σ x bT eu items)(hm:oz K C name f)(az:eu.lookup name=none)(au:Calls G f)(h0:∀bX:XF->XG->Prop,bX (.ref x) s->wpAny (model G.prog G.w) A (eval o env) bX E s)(ae:wpAny (model G.prog G.w) A (call f [.ref x]) Q E s)
  (aR:autoParam (∃pl,eval (.Call (.Attribute o name apos) [] [] pos) env=(do
   let iz <-YB o name env (eval o env)
   standAt apos.atName
   let (f,first) <-holding [iz] (getMethod iz name pl)
   Z5 pos f first (Yw pos (X5 [] env)) [])) aX) (et:autoParam (YB o name env (eval o env)=eval o env) aI):wpAny (model G.prog G.w) A (eval (.Call (.Attribute o name apos) [] [] pos) env) Q E s:=by
 refine cS aR λpl aR=>?_
 rw[aR,et]
 refine XA (h0 _ (XA (Yl (XA (X7 ?_)))))
 refine vG a W h hm az ?_
 exact zl (first:=[.ref x]) au W ae
theorem EV{pos:Pos}(S:lX G C s.heap env x)(bX:XF->XG->Prop)(h:bX (.ref x) s):wpAny (model G.prog G.w) A (eval (.Name "self" pos) env) bX E s:=by
 refine bB S.self λm gq hU=>?_
 exact ac6 (aaX S.kind S.ru gq hU h)
theorem Nf{l:XM}{vs:Array XF}{y:XF}{Q:Fin->XG->Prop}(aw:s.heap.get? l=some ox)(hd:ox.data=.seq vs n)(bk:vs[vs.size-1]?=some y)(k6:vs.size<=YD)
  (h:Q (.done (.ret y)) {s with heap:=s.heap.update l (YY λxs=>xs.eraseIdxIfInBounds (vs.size-1))}):wpAny (model G.prog G.w) A (Y4.«list.pop» ⟨[.ref l],[]⟩) Q E s:=by
 obtain⟨fF,eg,zu,bE⟩:=ox
 dsimp only at hd
 subst hd
 have kp:0<vs.size:=by
  rcases Nat.eq_zero_or_pos vs.size with h0|h0
  ·simp[h0]at bk
  ·exact h0
 have b':¬vs.isEmpty=true:=by
  intro he;have:vs.size=0:=by simpa using he
  lia
 have aL:seqIndex? (-1) vs.size=some (vs.size-1):=by
  rw[seqIndex_neg aH (by lia)];congr 1;exact JP
 wp_walk using wpAny_loadPart' aw
 simp only[aL,bk,adB,afV]
 have pa:(vs.eraseIdxIfInBounds (vs.size-1)).size<=YD+1:=by
  refine XC ?_ (YP k6)
  rw[aea]
  split<;>simp
 wp_walk using(abW aw rfl (hz:=k6) (_hz':=pa)),wpAny_loadPart' aw
 exact h
end
section
variable{x:XM}{pos:Pos}
def EW(C x bT:XM)(σ:ba)(items:List V)(Y:ba)(d:V):Prop:=
 (items=[]/\Y=σ/\d=.tuple [.str "",.str ""])\/(∃l e,items=l++[e]/\Y=σ.set x (.list (.ref C) (some bT) l)/\d=e)
theorem Ng(a:AC G K C)(af:i8 G C f ["self"] (dZ 3).2 (dZ 3).1)(EX:i8 G C Nh ["self"] (dZ 8).2 (dZ 8).1)(hm:oz K C "part_count" (.ref Nh))(lg:G.mg "super" = none)(h:e4 C σ x bT eu items)(az:eu.lookup ("part_count":Str)=none)(hsz:items.length<=100000):
  cy G (k+2) [x] σ (.ref f) [.raw (.ref x)] (EW C x bT σ items):=by
 intro A pr s vs Q E aW W r aA
 refine bB r.inv1 λ_ aB bO=>?_
 subst aB
 have tx:=bO.dB
 subst tx
 refine ER (k:=k+1) af aW W.ok W.base rfl rfl λenv ah S oq zx aL ct eU kO=>?_
 have bt:bb s {s with heap:=ah,toks:=s.toks+([("self":Str)].zip [ZR x]).length}:=.heap aL (Ye ct)
 have bc:=W.keep bt
 refine aaK (ks_wpAt_If (acA (af9 (Nd a bc h hm az EX.calls (λbX q=>EV S bX q) ?_) rfl)))
 refine EU a EX lg h _ pr _ [.ref x] _ _ kO bc (.cons (.raw _) .nil) λv aj ax a0=>?_
 obtain⟨t,rfl⟩:=a0.int_inv
 refine agX (eq_int (aaP ?_))
 have lZ:bb s {aj with toks:=aj.toks+1}:=(bt.trans ax).trans (bb.tok _)
 have nj:=W.keep lZ
 have St:=S.keeps ax.all
 refine iP (nj.kA h) λvs n bE eg a3 g3 aa _=>?_
 have aw:vs.size=items.length:=by rw[<-aas,g3.length]
 cases q:(((items.length:Nat):Int)==0)with
 |true=>
  have h0:items=[]:=by
   have:=beq_iff_eq.mp q
   exact acn.mp (by lia)
  rw[if_pos rfl]
  refine aaK (adH (acA (aeB (YE (ZW (YE (ZW (Zc ⟨b1 (by simp),?_⟩)) rfl)) rfl))))
  have EY:=lZ.trans ((bb.tok (s:={aj with toks:=aj.toks+1}) (aj.toks+1+1+1)).trans (show bb {aj with toks:=aj.toks+1+1+1} {aj with heap:=aj.heap.push {cls:=.type "tuple",data:=.seq [abj "" (aj.toks+1),abj "" (aj.toks+1+1)].toArray},toks:=aj.toks+1+1+1}from .push _ (aj.toks+1+1+1)))
  refine aA σ (.tuple [.str "",.str ""]) _ _ (.inl ⟨h0,rfl,rfl⟩) (.dF EY) (W.keep EY) (.tuple (n:=0) (XU _ rfl) (nj.gs (XT _)) (.cons (.str _ _) (.cons (.str _ _) .nil)))
 |false=>
  have h0:items≠[]:=by
   rintro rfl
   simp at q
  rw[if_neg aH]
  refine bC λ_ fq=>?_
  obtain⟨l,e,rfl⟩:∃l e,items=l++[e]:=⟨items.dropLast,items.getLast h0,(List.dropLast_concat_getLast h0).symm⟩
  refine fq ?_
  have kp:vs.size=l.length+1:=by rw[aw];simp
  obtain⟨y,bk,Ni⟩:∃y,vs.toList[l.length]?=some y/\bu (aT σ pr) aj.heap y e:=g3.get (i:=l.length) (by simp)
  refine acA (aa_ ?_)
  refine aaK (adH (zw (s:={aj with toks:=aj.toks+1}) a St W.ok nj.base lg aa (λc q=>nomatch q) (ET a W h) Nb MC (.inr rfl) (λA s Q E aq q=>?_) (λA s Q E X aa q=>?_) λeh vL aM=>?_))
  ·exact MS aQ aq MU MW q
  ·refine uQ a.cd λcd c8 du eK kC jz p1=>?_
   refine M6 (C:=C) (cd:=cd) ?_ ?_ aa.type (adx X c8) p1 (afT X a.mt) A Q E q
   ·have hz:([.ref C,.type "list",.type "object"]:List XF).contains (.type "module")=false:=by simp
    have:=Looks.andThen (f:=λt=>isSubtype t (.type "module")) (aa.type (M:=model G.prog G.w)) (a.sub X)
    rw[hz]at this
    exact this
   ·intro fi bX cI J bN jP
    obtain⟨bK,WU,dd,ra,WV⟩:=J
    exact ks_wpAny_isType_inst (bN _ _ aa.at_) (λc q=>nomatch q) jP
  ·have bH:=aM.get a3
   have hJ:=lZ.trans aM
   have zy:=W.keep hJ
   have b9:=h.ro
   refine Nf bH rfl (y:=y) (by rw[kp];simpa using bk) (b1 (by simp at hsz;lia)) ?_
   have c1:aac x eh (eh.update x (YY λxs=>xs.eraseIdxIfInBounds (vs.size-1))):=YV ..
   have dP:=YZ (YY λxs=>xs.eraseIdxIfInBounds (vs.size-1)) bH rfl
   have aJ:KB (λb=>b=x) {aj with heap:=eh,toks:=vL} {aj with heap:=eh.update x (YY λxs=>xs.eraseIdxIfInBounds (vs.size-1)),toks:=vL}:=.hr c1 rfl
   refine aA (σ.set x (.list (.ref C) (some bT) l)) e _ _ (.inr ⟨l,e,rfl,rfl,rfl⟩) ((b4.dF hJ).trans' (.put aJ (.head _))) (zy.put aJ b9 ⟨_,_,bE,dP,?_,λq=>mX q⟩) ((((Ni.keep (bb.tok _)).keep aM).aJ aJ (dy zy b9)).at' h3.symm)
   have:(vs.eraseIdxIfInBounds (vs.size-1)).toList=vs.toList.take l.length:=by
    have Nj:vs.size-1<vs.size:=by lia
    have O:(vs.eraseIdxIfInBounds (vs.size-1)).toList=vs.toList.eraseIdx (vs.size-1):=by
     rw[aea]
     simp[Nj]
    rw[O,Zk,aaa (by simp;lia),Y0,kp,adz]
   rw[this]
   have h8:=(g3.keep aM).take l.length
   rw[List.take_left' rfl]at h8
   exact h8.aJ aJ (dy zy b9)
end
section
open Builtin Builtin.ObjectAttr
theorem WW(self:XF):refuseLoop self "__setattr__" [.type "list",.type "object"]=pure ():=by kernel_rfl
section
variable{x:XM}{pos:Pos}
structure p2(K:ach)(C:XM):Prop where
 pA:findIn K (.ref C) "__setattr__" = some (some (.builtin "object.__setattr__"))
 no:findIn K (.ref C) "_initial_size" = some none
theorem Nk{v:XF}{Q:Unit->XG->Prop}(D:s.heap.get? bT=some emptyDict)
  (h:∀ah aG,ah.get? bT=some {cls:=.type "dict",data:=.dict #[⟨aG,.str "_initial_size" s.toks,v⟩] 1}->aac bT s.heap ah->Q () {s with heap:=ah,toks:=s.toks+1}):wpAny M A (nsSet bT "_initial_size" v) Q E s:=by
 refine XA (XA (acW (XK (XA (afS (XA (acb D ?_)))))))
 have c:(!(#[]:Array abg).any (·.key.isStr "_initial_size")&&(#[]:Array abg).any (·.refKey))=false:=by simp
 dsimp only
 rw[aRefKeyMayBeTheName_at,c]
 refine wpAny_updatePart D ?_
 generalize (if(Yr "_initial_size").cps.isEmpty=true then(0:Int)else reduceHash (M.w.params.strHash (Yr "_initial_size").cps))=aG
 have hx:ahD "_initial_size" aG (.str "_initial_size" s.toks) v emptyDict={cls:=.type "dict",data:=.dict #[⟨aG,.str "_initial_size" s.toks,v⟩] 1}:=rfl
 have bH:=YZ (ahD "_initial_size" aG (.str "_initial_size" s.toks) v) D (by rw[hx];rfl)
 rw[hx]at bH
 exact h _ _ bH (YV ..)
theorem Nl{aG:Int}{t:Tok}{v:XF}(bH:h.get? bT=some {cls:=.type "dict",data:=.dict #[⟨aG,.str "_initial_size" t,v⟩] 1}):h.Ns bT (λy=>if y = "_initial_size" then some v else none):=by
 refine⟨_,_,_,bH,rfl,λe he=>?_,λname=>?_⟩
 ·obtain rfl:=Array.mem_singleton.mp he
  exact⟨_,_,rfl⟩
 ·delta nsFind findBy
  by_cases az:name = "_initial_size"
  ·subst az
   rfl
  ·simp[(show ∀n,Value.isStr (.str (Yr "_initial_size") t) n=(Yr "_initial_size"==n)from λ_=>rfl),az,(show ¬(Yr "_initial_size" = name)from λq=>az q.symm)]
theorem Nm{v:XF}{Q:Unit->XG->Prop}(a:AC G K C)(am:p2 K C)(X:K.In s.heap)(aa:InstAt s.heap x ox C (some emptyDict))(hd:ox.dict=some bT)
  (h:∀ah,ah.Ns bT (λy=>if y = "_initial_size" then some v else none)->aac bT s.heap ah->Q () {s with heap:=ah,toks:=s.toks+2}):wpAny (model G.prog G.w) A (setAttr (.ref x) "_initial_size" v) Q E s:=by
 refine oc a.cd λcd c8 du eK _=>?_
 have rn:=aa.type (M:=model G.prog G.w)
 have D:=aa.dict
 replace D:=hd▸D
 have ag:=aa.at_
 have fN:=aa.cls
 obtain⟨fF,Nn,WX,WY⟩:=ox
 obtain rfl:Nn=_:=hd
 obtain rfl:fF=_:=fN
 refine set_plain X aa am.pA ?_
 have c_:=PySem.F.store_object
 refine abO c_.slot.plain c_.entry (@ae3 (model G.prog G.w) _ _ _ "object.__setattr__" "object" "__setattr__" (.ref x) [.str "_initial_size" s.toks,v] [] _ c_.kind c_.split (rn.andThen (a.sub (M:=model G.prog G.w) X (b:=.type "object"))) (c_.args (.ref x) (.str "_initial_size" s.toks) v) ?_)
 simp only[osa_eq,refuse_eq]
 refine XA (gL rn (gL (a.mro (M:=model G.prog G.w) X) ?_))
 refine XK (gL rn (gL (Z0 (M:=model G.prog G.w) X am.no) (XA (XK (XA (XK (XA (XA (acb ag (gL (adx X c8) ?_))))))))))
 simp only[eK]
 exact XK (a:=some bT) (XA (XK (XA (Nk (s:={s with toks:=s.toks+1}) D λah _ bH aG=>XA (wpAny_lookBehind bH (pastItsLine_dict (by simp)) (XK (h ah (Nl bH) aG)))))))
end
end
section
open Builtin Builtin.ObjectAttr
section
variable{x:XM}{pos:Pos}
noncomputable abbrev hO(C bT:XM)(vs:Array XF)(n:Nat):Obj:={cls:=.ref C,dict:=some bT,data:=.seq vs n}
theorem Np{Q:Fin->XG->Prop}(ag:s.heap.get? x=some (hO C bT #[] n))
  (h:∀ah,aac x s.heap ah->(∃kk,ah.get? x=some (hO C bT #[] kk))->Q (.done (.ret .none)) {s with heap:=ah}):wpAny (model G.prog G.w) A (Y4.«list.__init__» ⟨[.ref x],[]⟩) Q E s:=by
 wp_walk using(abW ag rfl),wpAny_loadPart' ag
 exact h _ (YV ..) ⟨_,YZ (YY λ_=>#[]) ag rfl⟩
theorem lX.but(S:lX G C h env x)(hd:h.get? bT=some emptyDict)(aw:env.locals≠bT)(k:∀b o,b≠bT->h.get? b=some o->ah.get? b=some o):lX G C ah env x where
 kind:=S.kind
 ks:=S.ks
 d0:=S.d0
 ru:=S.ru
 gl:=S.gl
 p0:=S.p0
 fn:=by
  refine iP S.fn λf of fd h6 O ae a2 b_=>?_
  refine⟨f,of,fd,h6,O,k _ _ ?_ ae,a2,b_⟩
  rintro rfl
  replace ae:=hd▸ae;cases ae;cases a2
 code:=by
  obtain⟨hA,fF,vs,file,hN,O,ae,a2,b_⟩:=S.code
  refine⟨hA,fF,vs,file,hN,O,k _ _ ?_ ae,a2,b_⟩
  rintro rfl
  cases hd.symm.trans ae;cases a2
 top:=S.top
 cell:=by
  refine bC λ_ lL=>?_
  obtain⟨c,O,o,ae,a2⟩:=S.cell
  refine lL ?_
  refine⟨c,O,o,k _ _ ?_ ae,a2⟩
  rintro rfl
  cases hd.symm.trans ae;cases a2
 self:=by
  refine bC λ_ tj=>?_
  obtain⟨m,⟨o,aZ,kg,O,ae⟩,a2⟩:=S.self
  refine tj ?_
  exact⟨m,⟨o,aZ,kg,k _ _ aw O,ae⟩,a2⟩
end
end
def vM(Γ:Ctx):Prop:=(Γ.code::Γ.below.map (·.1)).any adq=true
def vN(Γ:Ctx):Prop:=(Γ.below.map (·.1)).any adq=true
def bj(M:Model)(A:Yz)(t:Sem α)(Q:α->XG->Prop)(E:XF->XG->Prop)(s:XG):Prop:=
 ∀Γ p,Γ.In A->vM Γ->ag0 M Γ t (λa _ J=>Q a J) (λe _ J=>E e J) p s
def fB(M:Model)(A:Yz)(c:Code)(R:aaB->XG->Prop)(s:XG):Prop:=
 ∀Γ p,Γ.code=c->Γ.Below A->vN Γ->wpCode M Γ R p s
theorem vN.has{Γ:Ctx}(h:vN Γ):vM Γ:=by
 delta vM
 rw[abu,h,Bool.or_true]
section
variable{c:Code}{R kO:aaB->XG->Prop}
theorem cL{t:Sem α}{Q:α->XG->Prop}(h:wpAny M A t Q E s):bj M A t Q E s:=λΓ p c6 _=>h Γ p c6
theorem fb{a:α}{Q:α->XG->Prop}(h:Q a s):bj M A (pure a) Q E s:=λ_ _ _ _=>h
theorem WZ{e:XF}{Q:α->XG->Prop}(h:E e s):bj M A (throw e:Sem α) Q E s:=λ_ _ _ _=>h
theorem mF{t:Sem α}{Q bX:α->XG->Prop}{cI:XF->XG->Prop}(h:bj M A t Q E s)(aA:∀a s,Q a s->bX a s)(dO:∀e s,E e s->cI e s):bj M A t bX cI s:=
 λΓ p c6 au=>aa6 M Γ t (λa _ s=>aA a s) (λe _ s=>dO e s) p s (h Γ p c6 au)
theorem d8{m:Sem α}{f:α->Sem β}{Q:β->XG->Prop}(h:bj M A m (λa J=>bj M A (f a) Q E J) E s):bj M A (m >>= f) Q E s:=λΓ p c6 au=>by
 simp only[ahl]
 exact aa6 M Γ m (λa dK J ah=>ah Γ dK c6 au) (λ_ _ _ ah=>ah) p s (h Γ p c6 au)
theorem fC{m:Sem α}{f:α->Sem β}{Q:β->XG->Prop}{EZ:α->XG->Prop}(h:bj M A m EZ E s)(k:∀a J,EZ a J->bj M A (f a) Q E J):bj M A (m >>= f) Q E s:=
 d8 (mF h k λ_ _ x=>x)
theorem W0{m:Sem α}{k:XF->Sem α}{Q:α->XG->Prop}(h:bj M A m Q (λe J=>bj M A (k e) Q E J) s):bj M A (tryCatch m k) Q E s:=λΓ p c6 au=>by
 simp only[Sem.wp_tryCatch']
 exact aa6 M Γ m (λ_ _ _ ah=>ah) (λe dK J ah=>ah Γ dK c6 au) p s (h Γ p c6 au)
theorem tF{m:Sem α}{k:XF->Sem Unit}{Q:α->XG->Prop}(h:bj M A m Q (λe J=>bj M A (k e) (λ_ dn=>E e dn) E J) s):bj M A (m.onRaise k) Q E s:=λΓ p c6 au=>by
 simp only[Sem.wp_onRaise]
 exact aa6 M Γ m (λ_ _ _ ah=>ah) (λe dK J ah=>ah Γ dK c6 au) p s (h Γ p c6 au)
theorem E0{m:Sem α}{Q:Except XF α->XG->Prop}(h:bj M A m (λa=>Q (.ok a)) (λe=>Q (.error e)) s):bj M A m.attempt Q E s:=λΓ p c6 au=>by
 rw[Sem.wp_attempt];exact h Γ p c6 au
theorem nA{vs:List XF}{m:Sem α}{Q:α->XG->Prop}(h:bj M A m Q E s):bj M A (holding vs m) Q E s:=λΓ p c6 au=>by
 rw[Sem.wp_holding];exact h Γ p c6 au
theorem E1{vs:List XF}{m:Sem α}{Q:α->XG->Prop}(h:bj M A m Q E s):bj M A (m.keep vs) Q E s:=λΓ p c6 au=>by
 rw[Sem.wp_keep];exact h Γ p c6 au
theorem iC{pos:Pos}{f:Unit->Sem α}{Q:α->XG->Prop}(h:bj M A (f ()) Q E s):bj M A (standAt pos >>= f) Q E s:=d8 (cL (Yl h))
theorem zz{a:α}{m:Sem α}{f:α->Sem β}{Q:β->XG->Prop}(e:m=pure a)(h:bj M A (f a) Q E s):bj M A (m >>= f) Q E s:=by
 exact e.symm▸d8 (fb h)
theorem zA{c:Prop}[Decidable c]{a b:Sem α}{Q:α->XG->Prop}(n:¬c)(h:bj M A b Q E s):bj M A (if c then a else b) Q E s:=by rw[if_neg n];exact h
theorem Nq{c:Prop}[Decidable c]{a b:Sem α}{Q:α->XG->Prop}(h:bj M A a Q E s)(ah:bj M A b Q E s):bj M A (if c then a else b) Q E s:=by split<;>assumption
theorem W1(h:codeAny M A c R s):fB M A c R s:=λΓ p au c6 _=>h Γ p au c6
theorem Nr(h:fB M A c R s)(dT:∀r s,R r s->kO r s):fB M A c kO s:=λΓ p au c6 br=>wpCode_mono dT (h Γ p au c6 br)
theorem W2(h:fB M A.in1 c R s):fB M A c R s:=
 λΓ p au c6=>h Γ p au ⟨c6.1,c6.2.1,c6.2.2.1,c6.2.2.2.1,YP c6.2.2.2.2⟩
theorem E2{Γ:Ctx}{h:Option XF}(br:vM Γ):vN (Γ.enter c h p):=br
theorem E3{h:Option XF}(au:fB M (A.mark h) c (λr J=>match r with | .ok f=>Q f J | .error e=>E e J) s)(kz:h≠some byPass):bj M A (run c h) Q E s:=
 λΓ p c6 br=>by rw[Sem.wp_run];exact au _ p rfl (c6.enter c h p kz) (E2 br)
theorem Nt{Q:XF->XG->Prop}(au:fB M A c (λr J=>match r with | .ok (.ret v)=>Q v J | .ok _=>False | .error e=>E e J) s):bj M A (runValue c) Q E s:=
 λΓ p c6 br=>by rw[Sem.wp_runValue];exact au _ p rfl (c6.enter c none p (by intro x;cases x)) (E2 br)
theorem zB{f:XF}{pos:List XF}{kw:List (Str×XF)}{Q:XF->XG->Prop}(au:fB M A (.call f ⟨pos,kw⟩) (λr J=>match r with | .ok (.ret v)=>Q v J | .ok _=>False | .error e=>E e J) s):bj M A (call f pos kw) Q E s:=Nt au
theorem mG(h:bj M (A.under c) (M.den c) (λfin J=>match fin with | .done f=>R (.ok f) J | .again cq=>cq.quiet=true/\fB M A cq R J) (λe J=>R (.error e) J) s):fB M A c R s:=λΓ p au c6 br=>by
 rw[wpCode_iff_wp,au]
 refine aa6 M Γ _ (λfin dK J ah=>?_) (λ_ _ _ ah=>ah) p s (h Γ p (au▸c6.in) br.has)
 cases fin with
 |done f=>exact ah
 |again cq=>exact⟨ah.1,ah.2 (Γ.goto cq) dK rfl (c6.goto cq) br⟩
theorem Nu(aR:c.quiet=true)(aa:Nat->XG->Prop)
  (turn:∀n s,aa n s->bj M (A.under c) (M.den c) (λfin J=>match fin with | .done f=>R (.ok f) J | .again cq=>(cq=c/\∃m,m<n/\aa m J)\/(cq.quiet=true/\fB M A cq R J)) (λe J=>R (.error e) J) s)
  (n:Nat) (h:aa n s):fB M A c R s:=by
 induction n using Nat.strongRecOn generalizing s with
 |ind n ih=>
  refine mG (mF (turn n s h) (λfin J hf=>?_) λ_ _ ah=>ah)
  cases fin with
  |done f=>exact hf
  |again cq=>
   rcases hf with ⟨rfl,m,hm,es⟩|hf
   ·exact⟨aR,ih m hm es⟩
   ·exact hf
end
theorem E4(h:Q .next s):bj M A (execs [] env) Q E s:=λ_ _ _ _=>h
theorem p3{st bS}(h:bj M A (exec st env) (λf J=>match f with | .next=>bj M A (execs bS env) Q E J|f=>Q f J) E s):bj M A (execs (st::bS) env) Q E s:=by
 refine fC h λf J ah=>?_
 cases f with
 |next=>exact ah
 |_=>exact fb ah
theorem E5{x mx value pos}(h:bj M A (eval value env) (λv aj=>bj M A (storeName env x v) (λ_=>Q .next) E aj) E s)(aG:swapsWith value (some (.Name x mx)) pos.line env=pure false):
  bj M A (exec (.Assign [.Name x mx] value pos) env) Q E s:=by
 rw[exec_Assign_Name env x mx value pos aG]
 refine iC (fC h λv aj dc=>iC (d8 ?_))
 refine mF (Q:=λ_=>Q .next) (λΓ p c6 au=>?_) (λ_ _ q=>fb q) λ_ _ x=>x
 simp only[Sem.wp_bindName]
 exact dc Γ p c6 au
theorem E6{test body orelse pos}(h:bj M A (isTrue test env (eval test env)) (λb ao=>bj M A (execs (if b then body else orelse) env) Q E ao) E s):bj M A (exec (.If test body orelse pos) env) Q E s:=by
 refine iC (fC h λb ao eh=>?_)
 cases b<;>exact eh
theorem E7{e pos}(h:bj M A (eval e env) (λv=>Q (.ret v)) E s):bj M A (exec (.Return (some e) pos) env) Q E s:=by
 simp only[exec_Return_some]
 exact iC (fC h λv J ah=>fb ah)
def nB(M:Model)(A:Yz)(env:Env)(E:XF->XG->Prop):XF->XG->Prop:=λx J=>bj M A (noteFrame x env) (λ_ dn=>E x dn) E J
def E8(M:Model)(A:Yz)(env:Env)(E:XF->XG->Prop):XF->XG->Prop:=λx J=>bj M A (do
  if(<-field x 1)==.none then unsupported "frame.own-activation:exception-without-traceback"
  setFlight x env.frame) (λ_ dn=>E x dn) E J
theorem Nv{c:Code}{h:Option XF}(au:fB M (A.mark h) c (λr J=>match r with | .ok f=>Q f J | .error e=>E8 M A env E e J) s)(kz:h≠some byPass):bj M A (runOwn c env h) Q E s:=by
 exact tF (E3 au kz)
theorem vO{m:Sem α}{Q:α->XG->Prop}(h:bj M A m Q (nB M A env E) s):bj M A (m.onRaise λx=>do noteFrame x env;theTreesLotGoes x) Q E s:=
 tF (mF h (λ_ _ q=>q) λ_ _ ag=>fC ag λ_ _ e=>cL (wpAny_theTreesLotGoes e))
theorem Nw{m:Sem α}{pos:Pos}{Q:α->XG->Prop}(h:bj M A m Q (nB M A env E) s):bj M A (m.onRaise λx=>do noteFrame x env;standAt pos) Q E s:=
 tF (mF h (λ_ _ q=>q) λ_ _ ag=>fC ag λ_ _ e=>cL (Yl e))
theorem E9{pos:Pos}{Q:List XF->XG->Prop}(h:Q [] s):bj M A (spliced (Yw pos (X5 [] env))) Q E s:=fb h
theorem E_{pos:Pos}{bS:List Yy}{Q:List XF->XG->Prop}(h:bj M A (eval e env) (λv aj=>bj M A (spliced (Yw pos (X5 bS env))) (λvs ao=>Q (v::vs) ao) E aj) E s)
  (he:autoParam (X5 (e::bS) env=(false,eval e env)::X5 bS env) aI):bj M A (spliced (Yw pos (X5 (e::bS) env))) Q E s:=by
 rw[he]
 show bj M A (do
  let v <-eval e env
  let here <-(pure [v]:Sem (List XF))
  return here++(<-holding here (spliced (Yw pos (X5 bS env))))) Q E s
 exact fC h λv aj dc=>d8 (fb (fC (nA dc) λvs ao eh=>fb eh))
theorem vP{f:XF}{x:Sem XF}{bS:List (Bool×Sem XF)}{Q:Args->XG->Prop}(h:bj M A (spliced ((false,x)::bS)) (λvs J=>Q ⟨vs,[]⟩ J) E s):bj M A (evalArgs f true ((false,x)::bS) []) Q E s:=by
 exact fC h λvs J ah=>nA (d8 (fb (d8 (fb (fb ah)))))
theorem zC{pos:Pos}{o:Obj}{fd:acZ}{first:List XF}{args:List (Bool×Sem XF)}{Q:XF->XG->Prop}
  (h:bj M A (evalArgs (.ref a) true args []) (λx aj=>(aj.heap.get? a=some o/\o.data=.func fd)/\bj M A (call (.ref a) (first++x.pos) x.kw) Q E aj) E s):bj M A (Z5 pos (.ref a) first args []) Q E s:=by
 refine fC (nA h) λx aj dc=>iC ?_
 have tail:∀{t:Sem XF},bj M A t Q E aj->bj M A (t >>= λr=>holding [r] point >>= λ_=>pure r) Q E aj:=
  λa_=>fC a_ λr ao ai=>d8 (cL (X7 (abL (fb ai))))
 have E':∀{vs:List XF},bj M A ((call (.ref a) (first++x.pos) x.kw).keep vs) Q E aj:=E1 dc.2
 generalize (args.any (·.1)||List.any ([]:List (Option Str×Sem XF)) (·.1.isNone))=b
 refine d8 (m:=keeperOf (.ref a)) (cL (XA (acd dc.1.1 ?_)))
 rw[dc.1.2]
 refine XK ?_
 cases b
 ·exact Nq (tail dc.2) (tail E')
 ·exact tail E'
theorem zD{pos:Pos}{first:List XF}{args:List (Bool×Sem XF)}{Q:XF->XG->Prop}(zE:args.any (·.1)=false)
  (h:bj M A (evalArgs (.builtin id) true args []) (λa aj=>bj M A (call (.builtin id) (first++a.pos) a.kw) Q E aj) E s):bj M A (Z5 pos (.builtin id) first args []) Q E s:=by
 refine fC (nA h) λa aj dc=>iC ?_
 rw[zE]
 refine d8 (fb ?_)
 exact fC dc λr ao ai=>d8 (cL (X7 (abL (fb ai))))
theorem vQ{pos:Pos}{T:String}{first:List XF}{args:List (Bool×Sem XF)}{Q:XF->XG->Prop}(zE:args.any (·.1)=false)
  (h:bj M A (evalArgs (.type T) true args []) (λa aj=>bj M A (call (.type T) (first++a.pos) a.kw) Q E aj) E s):bj M A (Z5 pos (.type T) first args []) Q E s:=by
 refine fC (nA h) λa aj dc=>iC ?_
 rw[zE]
 refine d8 (fb ?_)
 exact fC dc λr ao ai=>d8 (cL (X7 (abL (fb ai))))
theorem Nx{bh iter body orelse pos}(h:bj M A (eval iter env) (λx aj=>bj M A (pyIter x) (λit ao=>fB M A (.forLoop bh it body orelse env) (λr J=>match r with | .ok f=>Q f J | .error e=>E8 M A env E e J) ao) E aj) E s)
  (aG:autoParam (∀x,YM iter env x=pure x) aI):bj M A (exec (.For bh iter body orelse pos) env) Q E s:=by
 exact iC (fC h λx aj dc=>zz (aG x) (iC (fC (nA dc) λit ao eh=>Nv eh nofun)))
section
variable{R:aaB->XG->Prop}
theorem Ny{e pos}(h:bj (model prog w) A (eval e env) (λ_=>Q .next) E s)(aq:interactive env=false)(aG:swapsWith e none pos.line env=pure false):bj (model prog w) A (exec (.Expr e pos) env) Q E s:=by
 rw[exec_Expr env e pos aq aG]
 exact iC (fC h λv J ah=>cL (wpAny_dropValue ah))
theorem Nz{args:Args}{o:Obj}{fd:acZ}(ov:A.depth<ahP)(aP:s.heap.get? a=some o)
  (oy:o.data=.func fd) (nf:fd.scope.isCoroutine=false) (pM:fd.scope.isGenerator=false) (nd:fd.body=.stmts body) (kr:s.heap.CodeRec fd.code fd.qualname)
  (h:wpAny (model prog w) A.in1 (bindArgs fd args) (λFb aj=>wpAny (model prog w) A.in1 (newFunctionEnv fd.scope fd.globals fd.closure Fb (fd.qualname++".<locals>.") (some a) fd.code none fd.builtins)
    (λenv ao=>ao.heap.NoLimit/\fB (model prog w) A (.func body env) R ao) (λe J=>R (.error e) J) aj) (λe J=>R (.error e) J) s):fB (model prog w) A (.call (.ref a) args) R s:=by
 refine mG ?_
 show bj _ A.in1 (callAny (.ref a) args) _ _ s
 refine bC λ_ a'=>?_
 obtain⟨c,fF,vs,W3,au,NA,NB,aR⟩:=kr
 refine a' ?_
 refine cL (XA (acd aP ?_))
 rw[oy]
 show wpAny _ _ (callFunction a fd args) _ _ _
 delta callFunction
 rw[au,nd,pM,nf]
 rw[au]at h
 refine XA (m:=field (.ref c) 1) (Zv NA NB aR (XA (XK ?_)))
 exact XA (Zi h (λFb aj dc=>XA (Zi dc (λenv ao eh=>XA (wpAny_enterFrame eh.1 ov (XK (And.intro rfl eh.2)))) λ_ _ ah=>ah)) λ_ _ ah=>ah)
theorem NC{body env}(h:bj (model prog w) (A.deeper env) (execs body env) (λf J=>R (.ok (.ret (match f with | .ret v=>v|_=>.none))) J)
   (λe J=>bj (model prog w) (A.deeper env) (leaving env e) (λ_ dn=>R (.error e) dn) (λb8 dn=>R (.error b8) dn) J) s):fB (model prog w) A (.func body env) R s:=by
 refine mG ?_
 show bj _ (A.deeper env) (do point;match <-(execs body env).onRaise (leaving env)with | .ret v=>ret v|_=>ret .none) _ _ s
 refine d8 (cL (abL (d8 (tF (mF h (λf J ah=>?_) λ_ _ ah=>ah)))))
 cases f<;>exact fb ah
theorem ND{stmts:List ZF}(h:bj (model prog w) A (execs stmts env) (λf J=>R (.ok f) J) (nB (model prog w) A env λe J=>R (.error e) J) s):fB (model prog w) A (.block stmts env) R s:=by
 refine mG ?_
 show bj _ _ (do return Fin.done (<-(execs stmts env).onRaise (λx=>do noteFrame x env;theTreesLotGoes x))) _ _ s
 exact fC (vO h) λf J ah=>fb ah
theorem NF{bh it body orelse env}(aa:Nat->XG->Prop)
  (turn:∀n s,aa n s->bj (model prog w) A (pyNext it) (λr aj=>match r with
   |none=>bj (model prog w) A (execs orelse env) (λf bI=>R (.ok f) bI) (nB (model prog w) A env λe J=>R (.error e) J) aj
   |some v=>bj (model prog w) A (letOwnedTupleGo bh it v) (λ_ Fc=>
     bj (model prog w) A (assign bh env v) (λ_ ao=>bj (model prog w) A (execs body env) (λf bI=>match f with
      |.next | .cont=>∃m,m<n/\aa m bI
      |.brk=>R (.ok .next) bI
      |.ret v=>R (.ok (.ret v)) bI) (nB (model prog w) A env λe J=>R (.error e) J) ao) (nB (model prog w) A env λe J=>R (.error e) J) Fc) (nB (model prog w) A env λe J=>R (.error e) J) aj) (nB (model prog w) A env λe J=>R (.error e) J) s)
  (n:Nat) (h:aa n s):fB (model prog w) A (.forLoop bh it body orelse env) R s:=by
 refine Nu rfl aa (λn s es=>?_) n h
 show bj _ A ((forTurn bh it body orelse env).onRaise (λx=>do noteFrame x env;theTreesLotGoes x)) _ _ s
 refine vO ?_
 refine iC (fC (tF (mF (turn n s es) (λ_ _ q=>q) λ_ _ ah=>cL (Yl ah))) λr aj dc=>?_)
 cases r with
 |none=>exact fb (.inr ⟨rfl,ND dc⟩)
 |some v=>
  refine fC dc λ_ Fc NG=>fC NG λ_ ao eh=>fC eh λf bI hi=>?_
  cases f with
  |next=>exact fb (.inl ⟨rfl,hi⟩)
  |cont=>exact fb (.inl ⟨rfl,hi⟩)
  |brk=>exact fb hi
  |ret v=>exact fb hi
theorem NH{elt bh iter da bS scope pos it acc env}
  (h0:fB (model prog w) A (.compLoop (.ListComp elt (⟨bh,iter,da,0⟩::bS) scope pos) 0 it acc env) R s)
  (h:wpAny (model prog w) A (pyIter it) (λjQ J=>fB (model prog w) A (.compLoop (.ListComp elt (⟨bh,iter,da,0⟩::bS) scope pos) 0 jQ acc env) R J)
   (nB (model prog w) A env λx J=>R (.error x) J) s):fB (model prog w) A (.compStart (.ListComp elt (⟨bh,iter,da,0⟩::bS) scope pos) 0 it acc env) R s:=by
 refine mG ?_
 show bj _ _ ((compStart (.ListComp elt (⟨bh,iter,da,0⟩::bS) scope pos) 0 it acc env).onRaise (λx=>do noteFrame x env;standAt theWindowsPlace)) _ _ s
 refine Nw ?_
 refine d8 (cL (acW ?_))
 split
 ·exact d8 (fb (fb (And.intro rfl h0)))
 ·refine d8 (cL (aaw ?_))
  exact iC (fC (cL h) λjQ J ah=>fb (And.intro rfl ah))
theorem NI{c:Prop}[Decidable c]{pos:Pos}{k:PUnit->Sem α}{Q:α->XG->Prop}(h:bj M A (k ()) Q E s):bj M A (if c then(standAt pos >>= k)else k ()) Q E s:=by
 split
 ·exact iC h
 ·exact h
theorem NJ{pos:Pos}{Fd first:Sem XF}{g:abK}{aO:List abK}{cl:List (Str×XM)}{Q:XF->XG->Prop}
  (fN:clausesOf e=g::aO) (aG:∀x,YM g.iter env x=pure x) (NK:closureFor scope env=pure cl)
  (rd:scope.kind=.function) (NL:∀x∈scope.names,x.2=.local->scope.names.lookup x.1=some .local)
  (h:bj M A first (λx aj=>bj M A (pyIter x) (λit ao=>bj M A Fd (λacc bI=>
   bj M A (newFunctionEnv scope env.globals cl [] env.qual none .none (some env)) (λcenv bM=>
    fB M A (.compStart e 0 it acc {cenv with scope:=relabel scope env}) (compPost M A E none Q acc cenv.locals) bM) E bI) E ao) E aj) E s) :
  bj M A (comprehension e scope env pos Fd false first none) Q E s:=by
 delta comprehension
 rw[NK,fN]
 refine fC h λx aj dc=>iC (zz (aG x) (fC (nA dc) λit ao eh=>?_))
 refine NI (fC eh λacc bI hi=>d8 (fb (fC hi λcenv bM p4=>?_)))
 dsimp only
 have bJ:∀x∈(scope.names.filter λx=>(x.2==.local||x.2==.cell)&&x.1 !=(".0":Str)).reverse,x.2=.local->
   Yh {cenv with scope:=relabel scope env} x.1=some .local:=λx ag aw=>lookup_relabel_local (NL x (Z3.mp (YS.mp ag)).1 aw)
 refine nA (d8 (E0 (nA (E3 (Nr p4 λr J ai=>?_) nofun))))
 cases r with
 |ok f=>
  obtain⟨m,az,ai⟩:=ai
  exact cL (XA (X7 (ahi (cenv:={cenv with scope:=relabel scope env}) rd _ J m bJ az λah gu _ c1=>XK (ai ah c1))))
 |error x=>
  obtain⟨m,az,ai⟩:=ai
  exact cL (XA (X7 (ahi (cenv:={cenv with scope:=relabel scope env}) rd _ J m bJ az λah gu _ c1=>Zi (ai ah c1 _ rfl) (λ_ _ f=>f.elim) λ_ _ y=>y)))
end
theorem vR{bl:Type}{m:Sem α}{a:α}{f:α->Sem β}{t:Sem bl}(e:m=pure a)(h:∃K,f a=(t >>= K)):∃K,(m >>= f)=(t >>= K):=by rw[e];exact h
theorem zF{bl:Type}{c:Prop}[Decidable c]{a b:Sem β}{t:Sem bl}(h:¬c)(k:∃K,b=(t >>= K)):∃K,(if c then a else b)=(t >>= K):=by rw[if_neg h];exact k
theorem NM(t:Tok):Y4.«int.__new__» ⟨[.type "int",.str "x" t],[]⟩=((int_private% "intFromText") (.str "x" t) [120] 10 >>= λv=>ret v):=by kernel_rfl
theorem NN(v:XF):∃K,Y4.«type.__call__» ⟨[.type "int",v],[]⟩=(Sem.keep (List.filter Value.isRef [agM "int.__new__"]) (call (.builtin "int.__new__") [.type "int",v]) >>= K):=by
 delta Y4.«type.__call__»
 refine zF aH ?_
 refine zF (by rw[F.called_int.canCreate];decide) (vR (F.typeCall_int_1 v) ?_)
 refine vR (show mroOf (.type "int")=pure [.type "int",.type "object"]from by kernel_rfl) (zF aH ?_)
 refine vR (show aht (.type "int")=pure (some "int.__new__")from by kernel_rfl) (vR (a:=agM "int.__new__") rfl ?_)
 exact⟨_,by rw[<-holding_eq_keep]⟩
theorem NO(t:Tok):∃f:Str->Str,(f (reprText "x")).length<=1000/\(int_private% "intFromText") (.str "x" t) [120] 10=(rule "int.__new__.invalid-literal" >>= λ_=>pyRepr (.str "x" t) >>= λshown=>mkStr (f shown) >>= λm=>newExc (.type "ValueError") [m] >>= λr=>markTheRefusal ["int.__new__"] r >>= λ_=>raiseNew r):=by
 refine⟨_,?_,by rfl⟩
 decide +kernel
section
variable{R:aaB->XG->Prop}
theorem NP{own:List String}{e:XF}{Q:Unit->XG->Prop}(h:Q () s):bj M A (markTheRefusal own e) Q E s:=λΓ p c6 br=>by
 delta markTheRefusal
 rw[ahl]
 show ag0 M Γ (if pythonCodeMadeTheCall own (((Γ.code,p)::Γ.below).map (·.1))=true then _ else _) _ _ p s
 have e:pythonCodeMadeTheCall own (((Γ.code,p)::Γ.below).map (·.1))=false:=by
  show((!((((Γ.code,p)::Γ.below).map (·.1)).any adq)&&_)&&_)=false
  rw[(show((((Γ.code,p)::Γ.below).map (·.1)).any adq)=true from br)];rfl
 rw[e,if_neg aH]
 exact h
theorem Fe{args:Args}{b:Y4}(H:entryFor table id=some b)
  (h:bj (model prog w) (A.under (.builtin id args)) (b args) (λfin J=>match fin with | .done f=>R (.ok f) J | .again cq=>cq.quiet=true/\fB (model prog w) A cq R J) (λe J=>R (.error e) J) s) :
  fB (model prog w) A (.builtin id args) R s:=by
 refine mG ?_
 show bj _ _ (match entryFor table id with|some b=>b args|none=>unsupported ((withoutEnding? id "#data").getD id)) _ _ s
 exact H.symm▸h
theorem NQ{args:Args}{b:Y4}(aR:plainId id=true)(H:entryFor table id=some b)(NR:checkBuiltinCall id args=pure ())
  (h:bj (model prog w) A.in1 (b args) (λfin J=>match fin with | .done f=>R (.ok f) J | .again cq=>cq.quiet=true/\fB (model prog w) A cq R J) (λe J=>R (.error e) J) s):fB (model prog w) A (.call (.builtin id) args) R s:=by
 refine mG ?_
 show bj _ A.in1 (do checkBuiltinCall id args;again (.builtin id args)) _ _ s
 refine zz NR (fb ⟨aa8 aR args,Fe H ?_⟩)
 exact(aak aR args)▸h
theorem NS{t:Tok}{Q:XF->XG->Prop}(bK:A.handled=none)(h:∀e ah cD m,ac4 s.heap ah e (.type "ValueError") [m]->E (.ref e) {s with heap:=ah,toks:=cD}):bj (model prog w) A (call (.type "int") [.str "x" t]) Q E s:=by
 refine zB (mG ?_)
 refine fb ⟨afL _ aQ,Fe PySem.F.entry_type_call ?_⟩
 rw[Around.under_plain (weight_type_call_type "int" [.str "x" t] []) rfl]
 refine cS (NN (.str "x" t)) λK NT=>?_
 simp only[NT]
 refine d8 (E1 (zB (NQ aQ F.entry_int_new (F.newCall_int_1 _) ?_)))
 simp only[NM t]
 refine bB (NO t) λf hf ag=>?_
 simp only[ag]
 refine d8 (d8 (cL (aaw ?_)))
 refine d8 (cL (wpAny_pyRepr_str ?_ aQ))
 refine d8 (cL (wpAny_mkStr ?_ (XC hf aH)))
 refine d8 (cL (wpAny_newExc_plain plainExc_ValueError (λah e hm=>?_) (by show(1:Nat)<=YD;decide)))
 refine d8 (NP (cL (agG bK ?_)))
 exact h e ah _ _ ⟨hm.keeps,hm.new,hm.there⟩
end
noncomputable def dm(A:Yz):List XM:=(A.frames.getD []).filterMap (·.frame)
structure c_(A:Yz)(C:XM->Prop)(σ Y:ba)(s J:XG):Prop where
 keep:∀b o,¬C b->s.heap.get? b=some o->∃bE,J.heap.get? b=some {o with slots:=bE}/\(b∉dm A->bE=o.slots)
 size:s.heap.objs.size<=J.heap.objs.size
 os:J.os=s.os
 gens:kf s.gens J.gens
 new:∀b∈Y.at,b∈σ.at\/s.heap.objs.size<=b
 old:∀b∈σ.at,b∈Y.at
def c5(A:Yz)(own:Option XM)(pr:List XM)(h:Zu):Prop:=∃l,A.frames=some l/\∀e∈l,e.scope.kind=.function/\∃L,e.frame=some L/\L∈pr/\(some L=own\/∃m,h.Ns L m)
theorem vS{L:XM}{m:Str->Option XF}(n:h.Ns L m)(k:∀o,h.get? L=some o->∃bE,ah.get? L=some {o with slots:=bE}):ah.Ns L m:=by
 refine bC λ_ a'=>?_
 obtain⟨o,aZ,kg,aP,hd,r⟩:=n
 refine cS (k o aP) λbE e=>?_
 refine a' ?_
 exact⟨_,aZ,kg,e,hd,r⟩
theorem Ff{c:XM}{v:Option XF}(n:h.IsCell c v)(k:∀o,h.get? c=some o->∃bE,ah.get? c=some {o with slots:=bE}):ah.IsCell c v:=by
 obtain⟨o,aP,hd⟩:=n
 refine cS (k o aP) λbE e=>?_
 exact⟨_,e,hd⟩
theorem NU{c:XM}{v:Option XF}{m:Str->Option XF}(n:h.IsCell c v)(k:h.Ns c m):False:=by
 obtain⟨o,aP,hd⟩:=n
 obtain⟨gX,aZ,kg,p5,oy,_⟩:=k
 cases aP.symm.trans p5
 cases hd.symm.trans oy
section
variable{C:XM->Prop}{q9 np:List XM}{own:Option XM}
theorem c_.get(x:c_ A C σ Y s J){o:Obj}(c:¬C b)(f:b∉dm A)(e:s.heap.get? b=some o):J.heap.get? b=some o:=by
 refine bB (x.keep b o c e) λbE O ae=>?_
 rw[ae f]at O;exact O
theorem c_.of(st:b4 C σ Y s J):c_ A C σ Y s J:=⟨λb o c e=>⟨o.slots,st.aJ.keep b o c e,λ_=>rfl⟩,st.aJ.size,st.aJ.os,st.aJ.gens,st.new,st.old⟩
theorem c_.trans(O:c_ A C σ a9 s aj)(ae:c_ A om a9 cC aj ao)(br:∀b,om b->C b\/s.heap.objs.size<=b):c_ A C σ cC s ao where
 keep:=λb o c e=>by
  refine bB (O.keep b o c e) λbE a3 f1=>?_
  refine bB (ae.keep b _ (λq=>(br b q).elim c λq=>XN _ (XE (XX e) q)) a3) λog bH f2=>?_
  exact⟨og,bH,λhf=>(f2 hf).trans (f1 hf)⟩
 size:=XC O.size ae.size
 os:=ae.os.trans O.os
 gens:=O.gens.trans ae.gens
 new:=λb H=>(ae.new b H).elim (O.new b) λq=>.inr (XC O.size q)
 old:=λb H=>ae.old b (O.old b H)
theorem c_.trans'(O:c_ A C σ a9 s aj)(ae:c_ A C a9 cC aj ao):c_ A C σ cC s ao:=O.trans ae λ_ q=>.inl q
theorem c_.mono(x:c_ A C σ Y s J)(br:∀b,C b->om b):c_ A om σ Y s J:=⟨λb o c e=>x.keep b o (λq=>c (br b q)) e,x.size,x.os,x.gens,x.new,x.old⟩
theorem c_.al(x:c_ A C σ Y s J){o:Obj}(aY:aT σ pr b)(e:s.heap.get? b=some o):aT Y pr b:=
 ⟨λq=>(x.new b q).elim aY.1 λq=>XN _ (XE (XX e) q),aY.2⟩
theorem zG{l:List Env}(aw:A.frames=some l):b∈dm A↔∃e∈l,e.frame=some b:=by
 delta dm
 rw[aw,aaN,afJ]
theorem c5.dm(K:c5 A own pr h)(H:b∈dm A):b∈pr/\(some b=own\/∃m,h.Ns b m):=by
 refine bC λ_ a'=>?_
 obtain⟨l,aw,aL⟩:=K
 refine bB ((zG aw).mp H) λe he hf=>?_
 obtain⟨_,L,O,ae,a2⟩:=aL e he
 refine a' ?_
 cases hf.symm.trans O
 exact⟨ae,a2⟩
theorem bu.eB{v:XF}(r:bu (aT σ pr) s.heap v d)(x:c_ A C σ Y s J)(br:∀b,C b->¬aT σ pr b)(hf:∀b∈Internal.dm A,b∈pr):bu (aT Y pr) J.heap v d:=
 r.mono λb o p e=>⟨x.al p e,x.get (λq=>br b q p) (λq=>p.2 (hf b q)) e⟩
theorem a5.eB{v:List XF}{d:List V}(r:a5 (aT σ pr) s.heap v d)(x:c_ A C σ Y s J)(br:∀b,C b->¬aT σ pr b)(hf:∀b∈Internal.dm A,b∈pr):a5 (aT Y pr) J.heap v d:=
 r.mono λb o p e=>⟨x.al p e,x.get (λq=>br b q p) (λq=>p.2 (hf b q)) e⟩
theorem bg.eB(F:bg σ pr s.heap env Γ)(x:c_ A C σ Y s J)(br:∀b,C b->¬aT σ pr b)(iT:∀b,C b->¬b0 env b)(hf:∀b∈Internal.dm A,b∈pr):bg Y pr J.heap env Γ where
 ns:=by obtain⟨m,n⟩:=F.ns;exact⟨m,vS n λo e=>by obtain⟨bE,O,_⟩:=x.keep _ o (λq=>iT _ q (.inl rfl)) e;exact⟨bE,O⟩⟩
 vars:=λy d e=>by
  rcases F.vars y d e with ⟨a,m,v,n,e,r⟩|⟨a,c,v,e,au,r⟩
  ·exact .inl ⟨a,m,v,vS n λo e=>by obtain⟨bE,O,_⟩:=x.keep _ o (λq=>iT _ q (.inl rfl)) e;exact⟨bE,O⟩,e,r.eB x br hf⟩
  ·exact .inr ⟨a,c,v,e,Ff au λo aP=>by obtain⟨bE,O,_⟩:=x.keep _ o (λq=>iT _ q (.inr ⟨y,mem_of_lookup e⟩)) aP;exact⟨bE,O⟩,r.eB x br hf⟩
 fL:=F.fL
 d1:=λy c hm=>by obtain⟨a,b,v,bJ⟩:=F.d1 y c hm;exact⟨a,b,v,Ff bJ λo aP=>by obtain⟨bE,O,_⟩:=x.keep _ o (λq=>iT _ q (.inr ⟨y,hm⟩)) aP;exact⟨bE,O⟩⟩
 apart:=F.apart
 fT:=F.fT
theorem c5.eB(K:c5 A own pr s.heap)(x:c_ A C σ Y s J)(br:∀b∈Internal.dm A,C b->some b=own):c5 A own pr J.heap:=by
 obtain⟨l,aw,aL⟩:=K
 refine⟨l,aw,λe he=>?_⟩
 refine bC λ_ a'=>?_
 obtain⟨h0,L,O,ae,a2⟩:=aL e he
 refine a' ?_
 refine⟨h0,L,O,ae,?_⟩
 rcases a2 with a2|⟨m,hm⟩
 ·exact .inl a2
 ·by_cases au:C L
  ·exact .inl (br L ((zG aw).mpr ⟨e,he,O⟩) au)
  ·exact .inr ⟨m,vS hm λo e=>by obtain⟨bE,O,_⟩:=x.keep _ o au e;exact⟨bE,O⟩⟩
theorem c5.aJ(K:c5 A own pr s.heap)(x:KB C s J)(br:∀b∈Internal.dm A,C b->some b=own):c5 A own pr J.heap:=K.eB (σ:=[]) (Y:=[]) (c_.of (b4.of x)) br
theorem c5.keeps(K:c5 A own pr s.heap)(x:bb s J):c5 A own pr J.heap:=K.aJ x λ_ _ q=>q.elim
theorem c5.more(K:c5 A own pr h)(ar:∀b∈pr,b∈q9):c5 A own q9 h:=by
 obtain⟨l,aw,aL⟩:=K
 exact⟨l,aw,λe he=>by obtain⟨h0,L,O,ae,a2⟩:=aL e he;exact⟨h0,L,O,ar _ ae,a2⟩⟩
theorem c5.back{Fg:Option XM}(K:c5 A own pr h)(d9:c5 A Fg q9 ah):c5 A Fg pr ah:=by
 refine bC λ_ fq=>?_
 obtain⟨l,aw,aL⟩:=K
 obtain⟨gf,kd,iS⟩:=d9
 refine fq ?_
 cases aw.symm.trans kd
 refine⟨l,aw,λe he=>?_⟩
 refine bC λ_ a'=>?_
 obtain⟨h0,L,O,ae,a2⟩:=aL e he
 obtain⟨_,NV,tG,_,zH⟩:=iS e he
 refine a' ?_
 cases O.symm.trans tG
 exact⟨h0,L,O,ae,zH⟩
theorem c5.full(K:c5 A (some env.locals) pr h)(F:bg σ pr h env Γ):c5 A none pr h:=by
 obtain⟨l,aw,aL⟩:=K
 refine⟨l,aw,λe he=>?_⟩
 refine bC λ_ a'=>?_
 obtain⟨h0,L,O,ae,a2⟩:=aL e he
 refine a' ?_
 refine⟨h0,L,O,ae,?_⟩
 rcases a2 with a2|a2
 ·cases a2;exact .inr F.ns
 ·exact .inr a2
theorem c5.loose(K:c5 A none pr h):c5 A own pr h:=by
 obtain⟨l,aw,aL⟩:=K
 exact⟨l,aw,λe he=>by obtain⟨h0,L,O,ae,a2⟩:=aL e he;exact⟨h0,L,O,ae,a2.elim (λq=>mX q) .inr⟩⟩
theorem c5.rv(K:c5 A (some env.locals) pr s.heap)(F:bg σ pr s.heap env Γ):∀b∈Internal.dm A,b0 env b->some b=some env.locals:=λb H au=>by
 rcases au with rfl|⟨x,ag⟩
 ·rfl
 ·obtain⟨_,_,v,bJ⟩:=F.d1 x b ag
  rcases(K.dm H).2 with q|⟨m,hm⟩
  ·exact q
  ·exact(NU bJ hm).elim
theorem c5.lt(K:c5 A own pr h)(W:a4 G σ pr s)(H:b∈Internal.dm A):b<s.heap.objs.size:=W.lt b (.inr (K.dm H).1)
end
def Fh(G:GE)(A:Yz)(sc:YI)(T:List XM)(σ:ba)(env:Env)(pr:List XM)(s:XG)(P:hu->Prop)(Q:Flow->XG->Prop):Prop:=∀o f J,P o->c_ A (λb=>b∈T\/eb sc env b) σ o.st s J->c5 A (some env.locals) pr J.heap->o.at G env pr J f->Q f J
def NW(G:GE)(A:Yz)(T:List XM)(σ:ba)(env:Env)(Γ:bD)(pr:List XM)(s:XG)(P:ba->V->Prop)(Q:XF->XG->Prop):Prop:=∀Y d v J,P Y d->c_ A (·∈T) σ Y s J->c5 A (some env.locals) pr J.heap->a4 G Y pr J->bg Y pr J.heap env Γ->bu (aT Y pr) J.heap v d->Q v J
def NX(G:GE)(A:Yz)(T:List XM)(σ:ba)(pr:List XM)(s:XG)(P:ba->V->Prop)(Q:XF->XG->Prop):Prop:=∀Y d v J,P Y d->c_ A (·∈T) σ Y s J->c5 A none pr J.heap->a4 G Y pr J->bu (aT Y pr) J.heap v d->Q v J
def gg(G:GE)(k:Nat)(sc:YI)(T:List XM)(σ:ba)(Γ:bD)(st:ZF)(P:hu->Prop):Prop:=
 ∀(A:Yz) (env:Env) (pr:List XM) (s:XG) (Q:Flow->XG->Prop) (E:XF->XG->Prop),cs A k->c5 A (some env.locals) pr s.heap->cT G sc env->a4 G σ pr s->bg σ pr s.heap env Γ->
  Fh G A sc T σ env pr s P Q->bj (model G.prog G.w) A (exec st env) Q E s
def d4(G:GE)(k:Nat)(sc:YI)(T:List XM)(σ:ba)(Γ:bD)(ju:List ZF)(P:hu->Prop):Prop:=
 ∀(A:Yz) (env:Env) (pr:List XM) (s:XG) (Q:Flow->XG->Prop) (E:XF->XG->Prop),cs A k->c5 A (some env.locals) pr s.heap->cT G sc env->a4 G σ pr s->bg σ pr s.heap env Γ->
  Fh G A sc T σ env pr s P Q->bj (model G.prog G.w) A (execs ju env) Q E s
def f_(G:GE)(k:Nat)(sc:YI)(T:List XM)(σ:ba)(Γ:bD)(e:Yy)(P:ba->V->Prop):Prop:=
 ∀(A:Yz) (env:Env) (pr:List XM) (s:XG) (Q E:XF->XG->Prop),cs A k->c5 A (some env.locals) pr s.heap->cT G sc env->a4 G σ pr s->bg σ pr s.heap env Γ->
  NW G A T σ env Γ pr s P Q->bj (model G.prog G.w) A (eval e env) Q E s
def lh(G:GE)(k:Nat)(sc:YI)(T:List XM)(σ:ba)(Γ:bD)(aZ:List Yy)(P:ba->List V->Prop):Prop:=
 ∀(A:Yz) (env:Env) (pr:List XM) (s:XG) (pos:Pos) (Q:List XF->XG->Prop) (E:XF->XG->Prop),cs A k->c5 A (some env.locals) pr s.heap->cT G sc env->a4 G σ pr s->bg σ pr s.heap env Γ->
  (∀Y ds vs J,P Y ds->c_ A (·∈T) σ Y s J->c5 A (some env.locals) pr J.heap->a4 G Y pr J->bg Y pr J.heap env Γ->a5 (aT Y pr) J.heap vs ds->Q vs J)->bj (model G.prog G.w) A (spliced (Yw pos (X5 aZ env))) Q E s
def fs(G:GE)(k:Nat)(T:List XM)(σ:ba)(f:XF)(ds:List V)(P:ba->V->Prop):Prop:=
 ∀(A:Yz) (pr:List XM) (s:XG) (vs:List XF) (Q E:XF->XG->Prop),cs A k->c5 A none pr s.heap->a4 G σ pr s->a5 (aT σ pr) s.heap vs ds->
  NX G A T σ pr s P Q->bj (model G.prog G.w) A (call f vs) Q E s
section
variable{pos:Pos}{st:ZF}
theorem gg.of(h:bR G k sc T σ Γ st P)(aU:∀b∈T,b∈σ.at):gg G k sc T σ Γ st P:=by
 intro A env pr s Q E R K aa W F aA
 refine cL (h A env pr s Q E R aa W F (λo f J p stp b9=>aA o f J p (.of stp) (K.eB (.of stp) λb H au=>?_) b9))
 rcases au with au|au
 ·exact absurd (K.dm H).1 (W.apart b (aU b au))
 ·exact K.rv F b H au.b0
theorem d4.of(h:cp G k sc T σ Γ bS P)(aU:∀b∈T,b∈σ.at):d4 G k sc T σ Γ bS P:=by
 intro A env pr s Q E R K aa W F aA
 refine cL (h A env pr s Q E R aa W F (λo f J p stp b9=>aA o f J p (.of stp) (K.eB (.of stp) λb H au=>?_) b9))
 rcases au with au|au
 ·exact absurd (K.dm H).1 (W.apart b (aU b au))
 ·exact K.rv F b H au.b0
theorem f_.of(h:cc G k sc T σ Γ e R)(aU:∀b∈T,b∈σ.at):f_ G k sc T σ Γ e R:=by
 intro A env pr s Q E aW K aa W F aA
 exact cL <| h A env pr s Q E aW aa W F (λY d v J p stp bc b7 r=>aA Y d v J p (.of stp) (K.eB (.of stp) λb H au=>absurd (K.dm H).1 (W.apart b (aU b au))) bc b7 r)
theorem f_.pu(h:aN G k sc σ Γ e d):f_ G k sc T σ Γ e (λY dM=>Y=σ/\dM=d):=by
 intro A env pr s Q E aW K aa W F aA
 exact cL (h A env pr s Q E aW aa W F λv J bN bV=>aA σ d v J ⟨rfl,rfl⟩ (.of (.dF bN)) (K.keeps bN) (W.keep bN) (F.keep bN) bV)
theorem fs.of{f:XF}(h:cy G k T σ f ds R)(aU:∀b∈T,b∈σ.at):fs G k T σ f ds R:=by
 intro A pr s vs Q E aW K W r aA
 exact cL <| h A pr s vs Q E aW W r (λY d v J p stp bc r=>aA Y d v J p (.of stp) (K.eB (.of stp) λb H au=>absurd (K.dm H).1 (W.apart b (aU b au))) bc r)
theorem f_.mono(h:f_ G k sc T σ Γ e gP)(cz:∀Y d,gP Y d->R Y d):f_ G k sc T σ Γ e R:=λA env pr s Q E aW K aa W F aA=>h A env pr s Q E aW K aa W F λY d v J p=>aA Y d v J (cz _ _ p)
theorem fs.mono{f:XF}(h:fs G k T σ f ds gP)(cz:∀Y d,gP Y d->R Y d):fs G k T σ f ds R:=λA pr s vs Q E aW K W r aA=>h A pr s vs Q E aW K W r λY d v J p=>aA Y d v J (cz _ _ p)
theorem fs.room{f:XF}{j:Nat}(h:fs G k T σ f ds R)(bq:k<=j):fs G j T σ f ds R:=λA pr s vs Q E aW=>h A pr s vs Q E (aW.mono bq)
theorem fs.g4{f:XF}(h:fs G k T σ f ds R)(aU:∀b∈T,b∈T'):fs G k T' σ f ds R:=λA pr s vs Q E aW K W r aA=>h A pr s vs Q E aW K W r λY d v J p stp=>aA Y d v J p (stp.mono aU)
theorem d4.mono(h:d4 G k sc T σ Γ bS eA)(cz:∀o,eA o->P o):d4 G k sc T σ Γ bS P:=λA env pr s Q E R K aa W F aA=>h A env pr s Q E R K aa W F λo f J p=>aA o f J (cz _ p)
theorem gg.mono(h:gg G k sc T σ Γ st eA)(cz:∀o,eA o->P o):gg G k sc T σ Γ st P:=λA env pr s Q E R K aa W F aA=>h A env pr s Q E R K aa W F λo f J p=>aA o f J (cz _ p)
theorem d4.nil(h:P (.next σ Γ)):d4 G k sc T σ Γ [] P:=by
 intro A env pr s Q E R K aa W F aA
 exact E4 (aA _ _ s h (.of (.of (.refl _ _))) K ⟨rfl,W,F⟩)
theorem d4.cons(O:gg G k sc T σ Γ st eA)(ae:∀o,eA o->match o with
  |.next a9 Γ₁=>∃T',(∀b∈T',b∈T\/(b∈a9.at/\b∉σ.at))/\d4 G k sc T' a9 Γ₁ bS P
  |o=>P o):d4 G k sc T σ Γ (st::bS) P:=by
 intro A env pr s Q E R K aa W F aA
 refine p3 (O A env pr s _ _ R K aa W F λo f aj p gx rx jX=>?_)
 have:=ae o p
 cases o with
 |next a9 Γ₁=>
  obtain⟨T',jv,ae⟩:=this
  obtain⟨rfl,cA,cX⟩:=jX
  exact ae A env pr aj _ _ R rx aa cA cX λo f J p fO j2 yq=>aA o f J p (gx.trans fO (λb H=>H.elim (λH=>(jv b H).elim (λq=>.inl (.inl q)) λq=>(gx.new b q.1).elim (λp=>absurd p q.2) .inr) λq=>.inl (.inr q))) j2 yq
 |brk a9 Γ₁=>
  obtain⟨rfl,cA,cX⟩:=jX
  exact aA _ _ aj this gx rx ⟨rfl,cA,cX⟩
 |ret a9 d=>
  obtain⟨cA,v,rfl,r⟩:=jX
  exact aA _ _ aj this gx rx ⟨cA,v,rfl,r⟩
theorem d4.seq(O:gg G k sc T σ Γ st (·=.next a9 Γ₁))(ae:d4 G k sc T a9 Γ₁ bS P):d4 G k sc T σ Γ (st::bS) P:=
 .cons O λo aP=>by subst aP;exact⟨T,λb H=>.inl H,ae⟩
theorem d4.one(O:gg G k sc T σ Γ st P):d4 G k sc T σ Γ [st] P:=
 .cons O λo aP=>by
  cases o with
  |next a9 Γ₁=>exact⟨T,λb H=>.inl H,.nil aP⟩
  |brk=>exact aP
  |ret=>exact aP
theorem d4.shrink(h:d4 G k sc T σ Γ bS eA)(cz:∀o,eA o->match o with
  |.next a9 Γ₁=>∃ey,Sub ey Γ₁/\P (.next a9 ey)
  |.brk a9 Γ₁=>∃ey,Sub ey Γ₁/\P (.brk a9 ey)
  |.ret a9 d=>P (.ret a9 d)):d4 G k sc T σ Γ bS P:=by
 intro A env pr s Q E aW K aa W F aA
 refine h A env pr s Q E aW K aa W F λo f J p st d9 b9=>?_
 have:=cz o p
 cases o with
 |next a9 Γ₁=>
  obtain⟨ey,aG,ar⟩:=this
  obtain⟨rfl,bc,b7⟩:=b9
  exact aA (.next a9 ey) _ J ar st d9 ⟨rfl,bc,b7.sub aG⟩
 |brk a9 Γ₁=>
  obtain⟨ey,aG,ar⟩:=this
  obtain⟨rfl,bc,b7⟩:=b9
  exact aA (.brk a9 ey) _ J ar st d9 ⟨rfl,bc,b7.sub aG⟩
 |ret a9 d=>exact aA _ _ J this st d9 b9
theorem gg.letE{x:Str}(O:f_ G k sc T σ Γ e R)(cz:∀Y d,R Y d->P (.next Y ((x,d)::Γ)))(ag:autoParam (sc.names.lookup x=some .local\/sc.names.lookup x=some .cell) aF)(aL:autoParam (sc.kind=.function) aI)
  (aG:autoParam (∀env,swapsWith e (some (.Name x pos)) p.line env=pure false) aI):gg G k sc T σ Γ (.Assign [.Name x pos] e p) P:=by
 intro A env pr s Q E R K aa W F aA
 refine E5 (O A env pr s _ _ R K aa W F λY d v J ar st d9 bc b7 r=>?_) (aG env)
 refine cL <| lD (by rw[aa.scope];exact aL) (by unfold Yh;rw[aa.scope];exact ag) b7 r λdn aJ iw=>?_
 refine aA _ _ dn (cz Y d ar) ?_ (d9.aJ aJ λb H au=>d9.rv b7 b H au.b0) ⟨rfl,bc.aJ aJ λb H=>b7.c' b H.b0,iw⟩
 exact(st.mono λ_ q=>.inl q).trans (.of (.of aJ)) λb H=>.inl (.inr (H.eb λy bk=>by rw[XD.mp bk];exact ag))
theorem gg.fz{test:Yy}{b:Bool}(h:fp G k sc σ Γ test b)(O:b=true->d4 G k sc T σ Γ body P)(ae:b=false->d4 G k sc T σ Γ orelse P):gg G k sc T σ Γ (.If test body orelse p) P:=by
 intro A env pr s Q E R K aa W F aA
 refine E6 (cL (h A env pr s _ _ R aa W F λaj ax=>?_))
 have go:∀ju,d4 G k sc T σ Γ ju P->bj (model G.prog G.w) A (execs ju env) Q E aj:=λju yr=>
  yr A env pr aj _ _ R (K.keeps ax) aa (W.keep ax) (F.keep ax) λo f J p st d9 at'=>aA o f J p ((c_.of (b4.dF ax)).trans' st) d9 at'
 cases b with
 |true=>exact go _ (O rfl)
 |false=>exact go _ (ae rfl)
theorem gg.sQ(O:f_ G k sc T σ Γ e R)(cz:∀Y d,R Y d->P (.ret Y d)):gg G k sc T σ Γ (.Return (some e) p) P:=by
 intro A env pr s Q E R K aa W F aA
 exact E7 (O A env pr s _ _ R K aa W F λY d v J ar st d9 bc b7 r=>aA _ _ J (cz _ _ ar) (st.mono λ_ q=>.inl q) d9 ⟨bc,v,rfl,r⟩)
theorem gg.expr(O:f_ G k sc T σ Γ e R)(cz:∀Y d,R Y d->P (.next Y Γ))(aq:autoParam (∀env,env.scope=sc->interactive env=false) aC)(aG:autoParam (∀env,swapsWith e none p.line env=pure false) aI):gg G k sc T σ Γ (.Expr e p) P:=by
 intro A env pr s Q E R K aa W F aA
 exact Ny (O A env pr s _ _ R K aa W F λY d v J ar st d9 bc b7 r=>aA _ _ J (cz _ _ ar) (st.mono λ_ q=>.inl q) d9 ⟨rfl,bc,b7⟩) (aq env aa.scope) (aG env)
theorem lh.nil(h:RL σ []):lh G k sc T σ Γ [] RL:=by
 intro A env pr s pos Q E aW K aa W F aA
 exact E9 (aA σ [] [] s h (.of (.of (.refl _ _))) K W F .nil)
theorem lh.cons(aU:∀b∈T,b∈σ.at)(O:f_ G k sc T σ Γ e gP)(ae:∀a9 d,gP a9 d->lh G k sc T a9 Γ aZ (λY ds=>RL Y (d::ds)))(he:autoParam (dU e aZ) aI):lh G k sc T σ Γ (e::aZ) RL:=by
 intro A env pr s pos Q E aW K aa W F aA
 refine E_ (O A env pr s _ _ aW K aa W F λa9 d v aj p gx rx cA cX a0=>?_) (he _)
 have jZ:=λb H=>gx.old b (aU b H)
 refine ae a9 d p A env pr aj pos _ _ aW rx aa cA cX λY ds vs J dK df d9 bc b7 bV=>?_
 exact aA Y _ (v::vs) J dK (gx.trans' df) d9 bc b7 (.cons (a0.eB df (λb H q=>q.1 (jZ b H)) λb H=>(rx.dm H).1) bV)
theorem lh.of(h:gM G k sc σ Γ aZ ds):lh G k sc T σ Γ aZ (λY dg=>Y=σ/\dg=ds):=by
 intro A env pr s pos Q E aW K aa W F aA
 exact cL <| h A env pr s pos Q E aW aa W F λvs J bN bV=>aA σ ds vs J ⟨rfl,rfl⟩ (.of (.dF bN)) (K.keeps bN) (W.keep bN) (F.keep bN) bV
theorem lh.mono{Fi:ba->List V->Prop}(h:lh G k sc T σ Γ aZ Fi)(cz:∀Y d,Fi Y d->RL Y d):lh G k sc T σ Γ aZ RL:=λA env pr s pos Q E aW K aa W F aA=>h A env pr s pos Q E aW K aa W F λY d v J p=>aA Y d v J (cz _ _ p)
theorem f_.call{f:XF}{dD:Yy}(hf:aN G k sc σ Γ dD (.raw f))(au:Calls G f)(aU:∀b∈T,b∈σ.at)(O:lh G k sc T σ Γ (e::aZ) RL)(ae:∀a9 ds,RL a9 ds->fs G k T a9 f ds R)
  (he:autoParam (dU e aZ) aI) (fg:autoParam (BT pos aZ) aI)
  (aR:autoParam (ik dD (e::aZ) pos) aI):f_ G k sc T σ Γ (.Call dD (e::aZ) [] pos) R:=by
 intro A env pr s Q E aW K aa W F aA
 rw[aR]
 refine d8 (cL (hf A env pr s _ _ aW aa W F λv aj ax a0=>?_))
 have cM:=a0.dB
 subst cM
 have H:Yw pos (X5 (e::aZ) env)=(false,eval e env)::Yw pos (X5 aZ env):=by rw[he];rfl
 have km:(Yw pos (X5 (e::aZ) env)).any (·.1)=false:=by rw[H,abu,fg];rfl
 have key:∀(f:XF) (bX:Args->XG->Prop),(∀cC ds vs J,RL cC ds->c_ A (·∈T) σ cC aj J->c5 A (some env.locals) pr J.heap->a4 G cC pr J->bg cC pr J.heap env Γ->a5 (aT cC pr) J.heap vs ds->bX ⟨vs,[]⟩ J)->bj (model G.prog G.w) A (evalArgs f true (Yw pos (X5 (e::aZ) env)) []) bX E aj:=λf bX aR=>by
  rw[H]
  refine vP ?_
  exact H▸O A env pr aj pos _ _ aW (K.keeps ax) aa (W.keep ax) (F.keep ax) aR
 have fin:∀cC ds vs ao,RL cC ds->c_ A (·∈T) σ cC aj ao->c5 A (some env.locals) pr ao.heap->a4 G cC pr ao->bg cC pr ao.heap env Γ->a5 (aT cC pr) ao.heap vs ds->bj (model G.prog G.w) A (acp v vs) Q E ao:=λcC ds vs ao ai fO j2 bo bQ bG=>by
  have oB:=λb H=>fO.old b (aU b H)
  refine ae cC ds ai A pr ao vs _ _ aW (j2.full bQ) bo bG λY d v J ar df d9 bc bV=>?_
  exact aA Y d v J ar (((c_.of (b4.dF ax)).trans' fO).trans' df) d9.loose bc (bQ.eB df (λb H q=>q.1 (oB b H)) (λb H q=>bo.apart b (oB b H) (bQ.c' b q)) λb H=>(j2.dm H).1) bV
 cases au with
 |dV id=>exact zD km (key _ _ fin)
 |type T=>exact vQ km (key _ _ fin)
 |func aP hd=>exact zC (o:=_) (fd:=_) (key _ _ λcC ds vs J ai df d9 bc b7 bV=>⟨⟨bc.base _ _ aP,hd⟩,fin cC ds vs J ai df d9 bc b7 bV⟩)
theorem f_.ry{f:XF}{dD:Yy}(hf:aN G k sc σ Γ dD (.raw f))(au:Calls G f)(aU:∀b∈T,b∈σ.at)(O:gM G k sc σ Γ (e::aZ) ds)(ae:fs G k T σ f ds R)
  (he:autoParam (dU e aZ) aI) (fg:autoParam (BT pos aZ) aI)
  (aR:autoParam (ik dD (e::aZ) pos) aI):f_ G k sc T σ Γ (.Call dD (e::aZ) [] pos) R:=
 .call hf au aU (.of O) (λa9 dg h=>by obtain⟨rfl,rfl⟩:=h;exact ae) he fg aR
end
section
variable{pos:Pos}{st:ZF}
theorem zI{o:Obj}{fd:acZ}{vs ws:List XF}{Q:XF->XG->Prop}(aW:cs A (k+1))(W:a4 G σ pr s)
  (aP:s.heap.get? a=some o) (hd:o.data=.func fd) (oq:fd.scope=sc) (nd:fd.body=.stmts body) (yA:fd.globals=YJ) (u7:fd.builtins=Y6) (kr:s.heap.CodeRec fd.code fd.qualname)
  (yB:ahf s fd ⟨vs,[]⟩ (names.zip ws)) (b2:names.length=ds.length) (r:a5 (aT σ pr) s.heap ws ds) (fN:fd.closure=[]) (Fj:∀x,sc.names.lookup x≠some .free)
  (eG:(sc.names.map (·.1)).Nodup) (k4:∀x∈names,iu sc x) (nf:sc.isCoroutine=false) (pM:sc.isGenerator=false) (aL:sc.kind=.function)
  (af:∀(env:Env) (np:List XM) (ao:XG),cT G sc env->env.code=fd.code->env.qual=fd.qualname++Yr ".<locals>."->env.frame=some env.locals->env.locals∈np->(∀b,eb sc env b->b∈np)->(∀b∈np,s.heap.objs.size<=b)->bb s ao->cs (A.deeper env) k->a4 G σ (np++pr) ao->
   bg σ (np++pr) ao.heap env (names.zip ds).reverse->
   bj (model G.prog G.w) (A.deeper env) (execs body env) (λf J=>Q (match f with | .ret v=>v|_=>.none) J) (λe J=>bj (model G.prog G.w) (A.deeper env) (leaving env e) (λ_ dn=>E e dn) (λb8 dn=>E b8 dn) J) ao) :
  bj (model G.prog G.w) A (call (.ref a) vs) Q E s:=by
 subst oq
 refine zB (Nz aW.limit aP hd nf pM nd kr (yB _ _ _ _ ?_))
 simp only[newFunctionEnv,aff,aa5,if_false]
 refine XA (agm ?_)
 refine XA (aeZ _ (λname kind cells=>by cases W4:kind==abR<;>simp) _ _ _ _ ?_)
 rw[show({s with heap:=s.heap.push {cls:=.type "frame",data:=.dict #[]}}:XG).heap.objs.size=s.heap.objs.size+1 from Yk ..]
 have L:=x9 (scope:=fd.scope) (cl:=fd.closure) "frame" eG W (by rw[fN];intro _ _ q;cases q) (by rw[fN];exact .nil) (by rw[fN];intro _ _ q;cases q)
 generalize k6:({s with heap:=pushCells (s.heap.push {cls:=.type "frame",data:=.dict #[]}) fd.scope.names}:XG)=aj at L
 generalize hM:({scope:=fd.scope,locals:=s.heap.objs.size,globals:=fd.globals,cells:=cellsFrom (s.heap.objs.size+1) fd.scope.names fd.closure,qual:=fd.qualname++Yr ".<locals>.",func:=some a,code:=fd.code,frame:=some s.heap.objs.size,builtins:=fd.builtins}:Env)=env
 have eR:env.scope=fd.scope:=by rw[<-hM]
 have eI:env.locals=s.heap.objs.size:=by rw[<-hM]
 have fy:env.cells=cellsFrom (s.heap.objs.size+1) fd.scope.names fd.closure:=by rw[<-hM]
 generalize cg:s.heap.objs.size::(cellsFrom (s.heap.objs.size+1) fd.scope.names []).map (·.2)=np at L
 have k7:=L.keep
 have cA:=W.d' k7 L.kl L.x8
 have cX:bg σ (np++pr) aj.heap env []:={
  ns:=⟨_,eI▸L.ns⟩
  vars:=λx d e=>by simp at e
  fL:=eI▸XS _ L.pj
  d1:=λx c hm=>by rw[fy]at hm;rw[eI];exact L.d1 x c hm
  apart:=by rw[fy];exact L.apart
  fT:=λx ag=>by
   delta Yh at ag
   rw[eR]at ag
   rw[fy]
   rcases ag with ag|ag
   ·exact L.own x ag
   ·exact absurd ag (Fj x)}
 have ng:∀b,eb fd.scope env b->b∈np:=λb H=>by
  rcases H with rfl|⟨x,ag,au⟩
  ·exact eI.symm▸L.pj
  ·replace au:=fy▸au
   exact L.new x b au (by rcases ag with ag|ag<;>rw[ag]<;>decide)
 refine XA ?_
 refine DJ _ (λ_ _ _=>rfl) (by rw[eR];exact aL) names ws ds [] aj _ b2 cX (r.d' k7 L.kl) (λx ag=>by unfold Yh;rw[eR];exact k4 x ag) λao aM bQ=>XK ⟨?_,?_⟩
 ·have bo:=cA.aJ aM λb H=>cX.c' b H.b0
  exact W.ok.nolimit.keeps bo.base
 ·have bo:=cA.aJ aM λb H=>cX.c' b H.b0
  rw[Y0]at bQ
  exact NC (af env np ao ⟨eR,by rw[<-hM];exact yA,by rw[<-hM];exact u7,λx ag=>absurd ag (Fj x)⟩ (by rw[<-hM]) (by rw[<-hM]) (by rw[<-hM]) (eI▸L.pj) ng L.kl ⟨λb o _ e=>aM.keep b o (λq=>XN _ (XE (XX e) (L.kl b (ng b (q.eb k4))))) (k7.get e),XC k7.size aM.size,aM.os.trans k7.os,k7.gens.trans aM.gens⟩ (aW.deeper env) bo bQ)
theorem Fk{l:List Env}(aw:A.frames=some l)(hf:env.frame=some env.locals):dm (A.deeper env)=env.locals::dm A:=by
 delta dm
 simp only[aaL aw,aw,aaN,aaN,Z8,hf]
theorem c5.deeper{np:List XM}(K:c5 A none pr s.heap)(k:bb s J)(aL:env.scope.kind=.function)(hf:env.frame=some env.locals)(hm:env.locals∈np):c5 (A.deeper env) (some env.locals) (np++pr) J.heap:=by
 obtain⟨l,aw,bK⟩:=K.keeps k
 refine⟨env::l,aaL aw,λe he=>?_⟩
 rcases XH.mp he with rfl|he
 ·exact⟨aL,_,hf,XS _ hm,.inl rfl⟩
 ·refine bC λ_ a'=>?_
  obtain⟨h0,L,O,ae,a2⟩:=bK e he
  refine a' ?_
  exact⟨h0,L,O,XQ _ ae,.inr (a2.elim (λq=>mX q) id)⟩
theorem c5.outer{np:List XM}(K:c5 A none pr s.heap)(W:a4 G σ pr s)(d9:c5 (A.deeper env) (some env.locals) (np++pr) J.heap)(aw:s.heap.objs.size<=env.locals):c5 A none pr J.heap:=by
 obtain⟨l,hP,bK⟩:=K
 obtain⟨gf,NY,NZ⟩:=d9
 cases (aaL hP).symm.trans NY
 refine⟨l,hP,λe he=>?_⟩
 refine bC λ_ a'=>?_
 obtain⟨h0,L,O,ae,a2⟩:=bK e he
 obtain⟨_,NV,tG,_,zH⟩:=NZ e (.tail _ he)
 refine a' ?_
 replace tG:=O▸tG;cases tG
 refine⟨h0,L,O,ae,.inr (zH.resolve_left λq=>?_)⟩
 cases q
 exact XN _ (XE (W.lt _ (.inr ae)) aw)
theorem c_.outer{l:List Env}(aw:A.frames=some l)(hf:env.frame=some env.locals)(az:s.heap.objs.size<=env.locals){C:XM->Prop}(x:c_ (A.deeper env) C σ Y s J):c_ A C σ Y s J:=
 ⟨λb o c e=>by obtain⟨bE,a3,f1⟩:=x.keep b o c e;exact⟨bE,a3,λH=>f1 λq=>by
  replace q:=(Fk aw hf)▸q
  rcases XH.mp q with rfl|q
  ·exact XN _ (XE (XX e) az)
  ·exact H q⟩,x.size,x.os,x.gens,x.new,x.old⟩
theorem fs.of_body(h:fa G a names sc body)(b2:names.length=ds.length)(dO:d4 G k sc T σ (names.zip ds).reverse body P)
  (cz:∀o,P o->match o with | .next g0 _=>∃ec Y,g0=ec++Y/\(∀b∈σ.at,b∈Y.at)/\R Y .none | .brk _ _=>False | .ret g0 d=>∃ec Y,g0=ec++Y/\(∀b∈σ.at,b∈Y.at)/\R Y d):fs G (k+1) T σ (.ref a) ds R:=by
 intro A pr s vs Q E aW K W r aA
 refine bC λ_ a'=>?_
 obtain⟨cd,ix,h⟩:=h
 obtain⟨o,fd,O,ae,a2,b_,cn,gQ,dJ,fA,kt,pN,pO⟩:=h.ex
 refine a' ?_
 subst pN pO
 refine zI (ws:=vs) (ds:=ds) aW W (W.base _ _ O) ae a2 b_ cn gQ (fA.keeps W.base) (.of_eq (kt vs (by rw[r.length,b2]))) b2 r dJ h.sV h.c2 h.nm h.co h.gen h.kind λenv np ao aa au aR hP p6 ng cg bt kD bo bQ=>?_
 have lU:=cg _ p6
 obtain⟨l,oC,_⟩:=id K
 refine dO (A.deeper env) env (np++pr) ao _ _ kD (K.deeper bt (by rw[aa.scope];exact h.kind) hP p6) aa bo bQ λo f J ar st d9 b9=>?_
 have:=cz o ar
 have y_:=(c_.of (A:=A.deeper env) (b4.dF (C:=(·∈T)) bt)).trans st λb H=>H.elim .inl λq=>.inr (cg b (ng b q))
 have nh:=y_.outer oC hP lU
 have Fl:=K.outer W d9 lU
 have fin:∀{ec Y:ba},c_ A (·∈T) σ (ec++Y) s J->(∀b∈σ.at,b∈Y.at)->c_ A (·∈T) σ Y s J:=λst aP=>⟨st.keep,st.size,st.os,st.gens,λb H=>st.new b (by unfold ba.at;rw[Yx];exact XQ _ H),aP⟩
 cases o with
 |next g0 sX=>
  obtain⟨ec,Y,rfl,aP,ai⟩:=this
  obtain⟨rfl,bc,_⟩:=b9
  exact aA Y _ _ J ai (fin nh aP) Fl bc.ei.drop .none
 |brk g0 sX=>exact this.elim
 |ret g0 DK=>
  obtain⟨ec,Y,rfl,aP,ai⟩:=this
  obtain⟨bc,v,rfl,bV⟩:=b9
  exact aA Y _ _ J ai (fin nh aP) Fl bc.ei.drop bV.ei.drop
def p7(G:GE)(k:Nat)(sc:YI)(T:List XM)(ew:Yy)(body:List ZF)(P:hu->Prop):List V->ba->bD->Prop
 | [],σ,Γ=>P (.next σ Γ)
 |d::ds,σ,Γ=>∃Γ₁ xs eA,hH G k sc σ ew d Γ Γ₁ xs/\(∀x∈xs,iu sc x)/\d4 G k sc T σ Γ₁ body eA/\∀o,eA o->match o with
  |.next Y fo=>p7 G k sc T ew body P ds Y fo
  |.brk Y fo=>P (.next Y fo)
  |.ret Y d=>P (.ret Y d)
theorem gg.kY(es:e0 G k sc σ S Γ ew iter ds)(aU:∀b∈T,b∈σ.at)(ki:∀b∈S,b∉T)(cU:p7 G k sc T ew body P ds σ Γ)(aG:autoParam (∀env x,YM iter env x=pure x) aI):gg G k sc T σ Γ (.For ew iter body [] pos) P:=by
 intro A env pr s Q E R K aa W F aA
 refine Nx (cL (es A env pr s _ _ R aa W F λx aj ax fr=>cL (fr _ _ λit wr bY St np ao aM cx cg cH dX st=>?_))) (aG env)
 have jY:bb s ao:=ax.trans aM
 have bo:=W.d' jY (λb H=>(cg b H).1) λb H=>(cg b H).2
 have bQ:=F.d' jY λb H=>(cg b H).1
 have c':∀b,eb sc env b->b∈pr:=λb H=>F.c' b H.b0
 have na:∀b∈wr,b∈np++pr:=λb H=>XS _ (cH b H)
 have pI:∀b∈wr,¬b0 env b:=λb H q=>by
  have O:=W.lt b (.inr (F.c' b q))
  exact XN _ (XE O (cg b (cH b H)).1)
 have zJ:∀b∈dm A,b∉wr:=λb H q=>XN _ (XE (K.lt W H) (cg b (cH b q)).1)
 have tH:∀b∈dm A,b∈pr:=λb H=>(K.dm H).1
 let C:XM->Prop:=λb=>(b∈T\/eb sc env b)
 refine NF (λn J=>∃dg Y fo,n=dg.length/\p7 G k sc T ew body P dg Y fo/\c_ A C σ Y s J/\c5 A (some env.locals) pr J.heap/\a4 G Y (np++pr) J/\bg Y (np++pr) J.heap env fo/\St (aT Y (np++pr)) J.heap dg/\∀b∈T,b∈Y.at)
  (λn J es=>?_) ds.length ⟨ds,σ,Γ,rfl,cU,.of (.dF jY),K.keeps jY,bo,bQ,st,aU⟩
 refine bC λg cE=>?_
 obtain⟨dg,Y,fo,az,nc,df,d9,bc,b7,sR,jv⟩:=es
 have back:∀{e' lH} {dn:XG},bg e' (np++pr) dn.heap env lH->bg e' pr dn.heap env lH:=λiw=>iw.ei F.fL λx c hm=>(F.d1 x c hm).1
 have dy:∀{e'} b,b∈wr->¬aT e' (np++pr) b:=λb H q=>q.2 (na b H)
 have new:∀{dn:XG} (b:XM),b∈wr->(C b\/s.heap.objs.size<=b):=λb H=>.inr (cg b (cH b H)).1
 cases dg with
 |nil=>
  refine cE <| cL <| (cx Y).done (np++pr) J _ _ bc sR λdn aJ=>E4 ?_
  have yt:=df.trans (.of (.of aJ)) (new (dn:=dn))
  exact aA _ _ dn nc yt (d9.aJ aJ λb H q=>absurd q (zJ b H)) ⟨rfl,(bc.aJ aJ na).ei,back (b7.aJ aJ (dy (e':=Y)) λb H=>pI b H)⟩
 |cons d dg=>
  obtain⟨Γ₁,xs,eA,lF,iv,nd,pJ⟩:=nc
  refine cE <| cL <| (cx Y).next (np++pr) J _ _ d dg bc na sR λv bI cu lI go=>?_
  dsimp only
  refine cL <| go _ _ λbM dz d7=>?_
  have oo:=cu.trans dz
  have e9:=bc.aJ oo na
  have eZ:=b7.aJ oo (dy (e':=Y)) λb H=>pI b H
  have vT:=d9.aJ oo λb H q=>absurd q (zJ b H)
  refine cL <| lF A env (np++pr) bM v _ _ R aa e9 eZ (lI.aJ dz (dy (e':=Y))) λez dA sS=>?_
  have lJ:=e9.aJ dA λb H=>eZ.c' b H.b0
  have N0:c5 A (some env.locals) (np++pr) ez.heap:=(vT.aJ dA λb H q=>vT.rv (back eZ) b H q.b0).more (λb H=>XQ _ H)
  have sT:∀b∈bY,¬C b:=λb H q=>q.elim (λq=>(dX b H).2.elim (λh=>ki b h q) λh=>h (aU b q)) λq=>(dX b H).1.1 (c' b q)
  have sU:∀b∈wr,¬C b:=λb H q=>q.elim (λq=>XN _ (XE (W.lt b (.inl (aU b q))) (cg b (cH b H)).1)) λq=>pI b H q.b0
  have yu:=(cx Y).mono _ _ _ _ _ d7 (λb o p e=>⟨p,dA.keep b o (λq=>eZ.hW b q.b0 p) e⟩) λb o H e=>dA.keep b o (λq=>by
   have jP:C b:=.inr (q.eb iv)
   exact H.elim (λH=>sU b H jP) λH=>sT b H jP) e
  have yv:=(df.trans (.of (.of oo)) (new (dn:=bM))).trans (.of (.of dA)) λb q=>.inl (.inr (q.eb iv))
  refine nd A env (np++pr) ez _ _ R N0 aa lJ sS λo f hc p lK N1 pK=>?_
  have jN:=pJ o p
  have pL:=yv.trans' lK
  have zK:c5 A (some env.locals) pr hc.heap:=K.back N1
  cases o with
  |next e' lH=>
   obtain⟨rfl,hv,kZ⟩:=pK
   refine⟨dg.length,by rw[az];exact Yt _,dg,e',lH,rfl,jN,pL,zK,hv,kZ,?_,λb H=>lK.old b (jv b H)⟩
   refine(cx Y).mono _ _ _ _ _ yu (λb o p e=>⟨lK.al p e,lK.get (λq=>q.elim (λq=>p.1 (jv b q)) λq=>p.2 (XQ _ (c' b q))) (λq=>p.2 (XQ _ (tH b q))) e⟩) λb o H e=>lK.get (λq=>H.elim (λH=>sU b H q) λH=>sT b H q) (λq=>H.elim (zJ b q) λH=>(dX b H).1.1 (tH b q)) e
  |brk e' lH=>
   obtain⟨rfl,hv,kZ⟩:=pK
   exact aA _ _ hc jN pL zK ⟨rfl,hv.ei,back kZ⟩
  |ret e' yw=>
   obtain⟨hv,v,rfl,r⟩:=pK
   exact aA _ _ hc jN pL zK ⟨hv.ei,v,rfl,r.ei⟩
end
section
variable{pos:Pos}{st:ZF}
def tI(G:GE)(k:Nat)(sc:YI)(T:List XM)(bh elt:Yy)(Γ:bD)(xs:List Str)(RL:ba->List V->Prop):List V->ba->List V->Prop
 | [],σ,acc=>RL σ acc
 |d::ds,σ,acc=>∃Γ₁ R,hH G k sc σ bh d Γ Γ₁ xs/\Sub Γ Γ₁/\f_ G k sc T σ Γ₁ elt R/\∀Y e,R Y e->tI G k sc T bh elt Γ xs RL ds Y (acc++[e])
theorem N2{D aa:XM}{bY:List XM}{St:(XM->Prop)->Zu->List V->Prop}{jU:aaB->XG->Prop}{cd:Code}
  (aR:cd.quiet=true) (oh:(model G.prog G.w).den cd=(sH bh iter [] (.ref aa) env cd (pm elt (.ref D) env)).onRaise (λx=>do noteFrame x env;theTreesLotGoes x)) (ef:A.under cd=A)
  (aW:cs A k) (jT:cT G sc env) (cx:∀Y,g9 G A Y bh wr bY aa St) (X:Apart env D wr bY pr) (pT:∀b∈bY,b∉T) (rz:∀b∈dm A,b∉wr/\b∉bY/\b≠D) :
  ∀(ds items:List V) (σ:ba) (s:XG),(∀b∈T,b∈σ.at)->tI G k sc T bh elt Γ xs RL ds σ items->c5 A none pr s.heap->a4 G σ pr s->bg σ pr s.heap env Γ->env.locals∉dm A->Acc (aT σ pr) s.heap D items->St (aT σ pr) s.heap ds->items.length+ds.length<=YD->
   (∀Y outs J,RL Y outs->c_ A (vf env xs D wr T) σ Y s J->c5 A none pr J.heap->a4 G Y pr J->bg Y pr J.heap env Γ->Acc (aT Y pr) J.heap D outs->jU (.ok .next) J)->fB (model G.prog G.w) A cd jU s:=by
 intro ds
 induction ds with
 |nil=>
  intro items σ s aU br K W F fN a st hsz h
  refine mG ?_
  simp only[ef,oh]
  refine vO ?_
  refine iC (d8 (cL ((cx σ).done pr s _ _ W st λJ bN=>fb ?_)))
  have dy:∀b,b∈wr->¬aT σ pr b:=λb H q=>q.2 (X.gN b H)
  exact h σ items J br (.of (.of (bN.mono λb q=>.inl (.inr (.inr q))))) (K.aJ bN λb H q=>absurd q (rz b H).1) (W.aJ bN X.gN) (F.aJ bN dy λb H q=>X.jn b q H) (a.aJ bN dy X.jR)
 |cons d ds ih=>
  intro items σ s aU br K W F fN a st hsz h
  refine bC λ_ a'=>?_
  obtain⟨Γ₁,R,lF,hI,yK,pJ⟩:=br
  refine a' ?_
  refine mG ?_
  simp only[ef,oh]
  refine vO ?_
  have dy:∀{e'} b,b∈wr->¬aT e' pr b:=λb H q=>q.2 (X.gN b H)
  refine iC (d8 (cL ((cx σ).next pr s _ _ d ds W X.gN st λv aj ax a0 go=>?_)))
  dsimp only
  refine d8 (cL (go _ _ λao aM fO=>?_))
  have g_:=ax.trans aM
  have bo:=W.aJ g_ X.gN
  have bQ:=F.aJ g_ (dy (e':=σ)) λb H q=>X.jn b q H
  have j2:=K.aJ g_ λb H q=>absurd q (rz b H).1
  have pt:=a.aJ g_ (dy (e':=σ)) X.jR
  refine d8 (cL (lF A env pr ao v _ _ aW jT bo bQ (a0.aJ aM (dy (e':=σ))) λbI cu fx=>?_))
  have eH:=bo.aJ cu λb H=>bQ.c' b H.b0
  have N3:=j2.aJ cu λb H q=>by
   have:=j2.loose.rv bQ b H q.b0
   cases this
   exact absurd H fN
  have pv:=(cx σ).mono _ _ _ _ _ fO (λb o p e=>⟨p,cu.keep b o (λq=>bQ.hW b q.b0 p) e⟩) λb o H e=>cu.keep b o (λq=>H.elim (X.jn b q.b0) (X.ps b q.b0)) e
  have pw:=pt.aJ cu (λb H=>bQ.hW b H.b0) λq=>X.lE q.b0
  refine d8 (cL (aeM ?_))
  simp only[if_true]
  unfold pm
  refine d8 (d8 (yK A env pr bI _ _ aW N3.loose jT eH fx λgz e yL bM yM d7 N4 e9 eZ ot=>d8 (cL ?_)))
  have vT:c5 A none pr bM.heap:=N4.full eZ
  have q8:∀b∈T,b∈gz.at:=λb H=>d7.old b (aU b H)
  have tb:∀b,b∈T->¬aT σ pr b:=λb H q=>q.1 (aU b H)
  have tc:∀b,b∈T->b∉pr:=λb H=>W.apart b (aU b H)
  have tH:∀b∈dm A,b∈pr:=λb H=>(K.dm H).1
  have stI:St (aT gz pr) bM.heap ds:=(cx σ).mono _ _ _ _ _ pv (λb o p e=>⟨d7.al p e,d7.get (λq=>tb b q p) (λq=>p.2 (tH b q)) e⟩) λb o H e=>d7.get (λq=>H.elim (λH=>tc b q (X.gN b H)) λH=>pT b H q) (λq=>H.elim (rz b q).1 (rz b q).2.1) e
  have qX:Acc (aT gz pr) bM.heap D items:=by
   obtain⟨vs,p,r⟩:=pw
   exact⟨vs,p.at λo e=>d7.get (λq=>tc D q X.hZ) (λq=>(rz D q).2.2 rfl) e,r.eB d7 tb tH⟩
  obtain⟨vs,yN,ni⟩:=qX
  have jo:∀b,b=D->¬aT gz pr b:=λb H q=>q.2 (H▸X.hZ)
  refine abf yN (λah dK aG=>fb (fb ⟨aR,?_⟩)) (by rw[X3,ni.length];simp at hsz;exact o8)
  have dA:KB (λb=>b=D) bM {bM with heap:=ah}:=.hr aG rfl
  have yO:c_ A (vf env xs D wr T) σ gz s {bM with heap:=ah}:=
   (((c_.of (b4.of (g_.mono λb q=>.inl (.inr (.inr q))))).trans' (.of (.of (cu.mono λb q=>.inl (.inl q))))).trans' (d7.mono λb q=>.inr q)).trans' (.of (.of (dA.mono λb q=>.inl (.inr (.inl q)))))
  refine ih (items++[e]) gz {bM with heap:=ah} q8 (pJ gz e yM) (vT.aJ dA λb H q=>absurd q (rz b H).2.2) (e9.aJ dA λb H=>H▸X.hZ) ((eZ.sub hI).aJ dA jo λb H q=>X.lE (H▸q)) fN ⟨vs++[yL],by simpa using dK,(ni.aJ dA jo).append (.one (ot.aJ dA jo))⟩ ?_ (by simp at hsz ⊢;exact xJ) λY outs J ar df d9 bc b7 ip=>h Y outs J ar (yO.trans' df) d9 bc b7 ip
  exact(cx σ).mono _ _ _ _ _ stI (λb o p e=>⟨p,dA.keep b o (λq=>jo b q p) e⟩) λb o H e=>dA.keep b o (λq=>H.elim (λH=>X.jR (q▸H)) λH=>X.qW (q▸H)) e
end
section
variable{pos:Pos}
theorem N5{f0:XF->XM->aaB->XG->Prop}(c:gO sc scope xs)
  (R:cs A k) (aa:cT G sc env) (K:c5 A (some env.locals) pr s.heap) (W:a4 G σ pr s) (F:bg σ pr s.heap env Γ) {it:XM} {wr bY np:List XM} {St:(XM->Prop)->Zu->List V->Prop} {ao:XG} (aM:bb s ao) (cx:∀Y,g9 G A Y bh wr bY it St) (cg:∀b∈np,s.heap.objs.size<=b/\b<ao.heap.objs.size)
  (cH:∀b∈wr,b∈np) (dX:∀b∈bY,b∉pr/\b∉np/\b<ao.heap.objs.size) (st:St (aT σ (np++pr)) ao.heap ds) (aU:∀b∈T,b∈σ.at) (pT:∀b∈bY,b∉T) (br:tI G k (fP scope sc) T bh elt (hs scope Γ) xs RL ds σ []) (hsz:ds.length<=YD)
  (m9:∀D C J Y outs,RL Y outs->c_ A (·∈T) σ Y s J->c5 A none pr J.heap->a4 G Y (C::D::pr) J->(∃m,J.heap.Ns C m)->s.heap.objs.size<=D->s.heap.objs.size<=C->C≠D->D∉Y.at->(∃n vs,J.heap.get? D=some (gW vs n)/\a5 (aT Y (C::D::pr)) J.heap vs outs)->f0 (.ref D) C (.ok .next) J) :
  bj (model G.prog G.w) A (newList []) (λacc bI=>bj (model G.prog G.w) A (newFunctionEnv scope env.globals (dC env.cells scope.names) [] env.qual none .none (some env)) (λcenv bM=>
   fB (model G.prog G.w) A (.compStart (.ListComp elt [⟨bh,iter,[],0⟩] scope pos) 0 (.ref it) acc {cenv with scope:=relabel scope env}) (f0 acc cenv.locals) bM) E bI) E ao:=by
 refine cL (aat (cL (Dk ?_)))
 obtain⟨dW,f⟩:=Dt (cenv:={newEnv scope (ao.heap.push (gW [] 0)).objs.size env.globals (cellsFrom ((ao.heap.push (gW [] 0)).objs.size+1) scope.names (dC env.cells scope.names)) env.qual none .none (some env) 0 with scope:=relabel scope env}) c aa (W.d' aM (λb H=>(cg b H).1) λb H=>(cg b H).2) (F.d' aM λb H=>(cg b H).1) (λx c h=>(F.d1 x c h).1) (λb H q=>XN _ (XE (W.lt b (.inr q)) (cg b H).1)) cH dX (.push _ ao.toks) (Yk ..) (XU _ rfl) rfl (Dm aa.scope) rfl rfl aa.globals aa.builtins
 have d7:=(cx σ).mono _ _ _ _ _ st f.up λb o _ e=>f.bt.get e
 have loop:∀{D cenv bM},sL G sc scope σ Γ xs wr bY np pr ao D cenv bM dW->St (aT σ dW) bM.heap ds->fB (model G.prog G.w) A (.compLoop (.ListComp elt [⟨bh,iter,[],0⟩] scope pos) 0 (.ref it) (.ref D) cenv) (f0 (.ref D) cenv.locals) bM:=by
  intro D cenv bM f d7
  have zL:∀b∈dm A,b<s.heap.objs.size:=λb H=>K.lt W H
  refine N2 (k:=k) (sc:=fP scope sc) (xs:=xs) (Γ:=hs scope Γ) (elt:=elt) (T:=T) (RL:=RL) (pr:=dW) (wr:=wr) (bY:=bY) (bh:=bh) (iter:=iter) (env:=cenv) rfl (by show((compTurn (.ListComp elt [⟨bh,iter,[],0⟩] scope pos) 0 (.ref it) (.ref D) cenv).onRaise λx=>do noteFrame x cenv;theTreesLotGoes x)=_;rw[u0]) (aay rfl) R f.aa cx f.X pT (λb H=>⟨λq=>XN _ (XE (zL b H) (cg b (cH b q)).1),λq=>(dX b q).1 (K.dm H).1,λq=>XN _ (XE (zL b H) (q▸XC aM.size f.jq))⟩) ds [] σ bM aU br
   (((K.full F).keeps (aM.trans f.bt)).more λb H=>f.sub b (.tail _ (.tail _ H))) f.W f.F (λq=>XN _ (XE (zL _ q) (XC aM.size (XC f.jq (Ye f.oj))))) f.acc d7 (by simpa using hsz) λY outs J ar stp d9 bc b7 ip=>?_
  have yP:=(c_.of (b4.dF (C:=(·∈T)) (aM.trans f.bt))).trans stp λb H=>H.elim (λq=>.inr (f.D2 aM cg cH b q)) .inl
  obtain⟨vs,⟨n,p⟩,r⟩:=ip
  exact m9 _ _ J Y outs ar yP ((K.full F).back d9) (bc.td f.sub) b7.ns (XC aM.size f.jq) (XC aM.size (XC f.jq (Ye f.oj))) (Zf f.oj) (λq=>bc.apart _ q f.X.hZ) ⟨n,vs,p,r.mono λb o q e=>⟨⟨q.1,λH=>q.2 (f.sub b H)⟩,e⟩⟩
 exact NH (loop f d7) ((cx σ).self _ _ _ _ _ d7 (loop f d7))
theorem f_.comp(O:e0 G k sc σ S Γ bh iter ds)(aU:∀b∈T,b∈σ.at)(ki:∀b∈S,b∉T)(ae:tI G k (fP scope sc) T bh elt (hs scope Γ) xs RL ds σ [])(dT:∀Y outs,RL Y outs->R Y (.list outs))(hsz:ds.length<=YD)(au:autoParam (mq sc scope xs=true) aD)
  (aG:autoParam (∀env x,YM iter env x=pure x) aI):f_ G k sc T σ Γ (.ListComp elt [⟨bh,iter,[],0⟩] scope pos) R:=by
 intro A env pr s Q E aW K aa W F aA
 have c:=gO.of au
 refine NJ (cl:=dC env.cells scope.names) rfl (aG env) (c.kS aa F) c.k c.loc ?_
 refine cL (O A env pr s _ _ aW aa W F λx aj ax fr=>cL (fr _ _ λit wr bY St np ao aM cx cg cH dX st=>?_))
 refine N5 (f0:=λacc C=>compPost (model G.prog G.w) A E none Q acc C) c aW aa K W F (ax.trans aM) cx cg cH (λb H=>(dX b H).1) st aU (λb H q=>(dX b H).2.elim (λh=>ki b h q) λh=>h (aU b q)) ae hsz ?_
 intro D C J Y outs ar stp d9 bc br eY fV jr te aw
 obtain⟨m,hm⟩:=br
 refine⟨m,hm,λah c1=>?_⟩
 refine g8 aw λn vs a3 r=>?_
 have d0:KB (λb=>b=C) J {J with heap:=ah}:=.hr c1 rfl
 have yQ:=bc.aJ d0 λb H=>H▸.head _
 have iw:bg Y pr {J with heap:=ah}.heap env Γ:=by
  have yR:bg Y ([C]++pr) J.heap env Γ:=by
   have tf:=F.d' (.refl _ _) λb H=>by rw[XD.mp H];exact fV
   exact tf.eB stp (λb H q=>q.1 (aU b H)) (λb H q=>W.apart b (aU b H) (F.c' b q)) λb H=>XQ _ ((λb H=>(K.dm H).1) b H)
  exact(yR.aJ d0 (λb H q=>q.2 (H▸.head _)) λb H q=>(λq=>XN _ (XE (W.lt C (.inr (F.c' C q))) fV)) (H▸q)).ei F.fL λx c hm=>(F.d1 x c hm).1
 have N6:c5 A (some env.locals) pr ({J with heap:=ah}:XG).heap:=d9.loose.aJ d0 λb H q=>by
  subst q
  exact absurd (K.lt W H) (ZS.mpr fV)
 refine aA Y (.list outs) (.ref D) _ (dT Y outs ar) (stp.trans (.of (.of d0)) λb H=>.inr (H▸fV)) N6 (yQ.td λb H=>.tail _ (.tail _ H)) iw ?_
 refine .list (n:=n) (vs:=vs) (d0.keep D _ (λq=>jr q.symm) a3) ⟨te,(λq=>XN _ (XE (W.lt D (.inr q)) eY))⟩ ?_
 exact(r.aJ d0 λb H q=>q.2 (H▸.head _)).mono λb o q e=>⟨⟨q.1,λH=>q.2 (.tail _ (.tail _ H))⟩,e⟩
end
noncomputable abbrev Fm:List XF:=[.type "Exception",.type "BaseException",.type "object"]
structure mH(G:GE)(x:Str)(C:XM):Prop where
 own:OwnCls x C Fm "Exception.__new__" G.mg G.h₀
def tJ(w:Option Str)(args:List XF):Prop:=∀x,w=some x->∃t,args=[.str x t]
def iD(G:GE)(k:Nat)(sc:YI)(σ:ba)(Γ:bD)(ju:List ZF)(cls:XF)(w:Option Str):Prop:=
 ∀(A:Yz) (env:Env) (pr:List XM) (s:XG) (Q:Flow->XG->Prop) (E:XF->XG->Prop),cs A k->cT G sc env->a4 G σ pr s->bg σ pr s.heap env Γ->
  (∀e ao args ah cD ey,KB (eb sc env) s ao->bg σ pr ao.heap env ey->tJ w args->ac4 ao.heap ah e cls args->E (.ref e) {ao with heap:=ah,toks:=cD})->bj (model G.prog G.w) A (execs ju env) Q E s
def oD(G:GE)(k:Nat)(sc:YI)(σ:ba)(Γ:bD)(st:ZF)(cls:XF)(w:Option Str):Prop:=
 ∀(A:Yz) (env:Env) (pr:List XM) (s:XG) (Q:Flow->XG->Prop) (E:XF->XG->Prop),cs A k->cT G sc env->a4 G σ pr s->bg σ pr s.heap env Γ->
  (∀e ao args ah cD ey,KB (eb sc env) s ao->bg σ pr ao.heap env ey->tJ w args->ac4 ao.heap ah e cls args->E (.ref e) {ao with heap:=ah,toks:=cD})->bj (model G.prog G.w) A (exec st env) Q E s
def vU(G:GE)(k:Nat)(sc:YI)(σ:ba)(Γ:bD)(ex:Yy)(cls:XF)(w:Option Str):Prop:=
 ∀(A:Yz) (env:Env) (pr:List XM) (s:XG) (Q:XF->XG->Prop) (E:XF->XG->Prop),cs A k->cT G sc env->a4 G σ pr s->bg σ pr s.heap env Γ->
  (∀e ao args ah cD ey,KB (eb sc env) s ao->bg σ pr ao.heap env ey->tJ w args->ac4 ao.heap ah e cls args->E (.ref e) {ao with heap:=ah,toks:=cD})->bj (model G.prog G.w) A (eval ex env) Q E s
section
variable{pos np:Pos}{st:ZF}{w:Option Str}{x:Str}
theorem Fn{t:Sem α}{Q:α->XG->Prop}(h:bj M A t (λa J=>s.heap.objs.size<=J.heap.objs.size->Q a J) (λe J=>s.heap.objs.size<=J.heap.objs.size->E e J) s):bj M A t Q E s:=λΓ p c6 au=>
 aa6 M Γ t (λa dK J x=>x.2 x.1) (λe dK J x=>x.2 x.1) p s (C_ M Γ _ t _ _ p s (XT _) (h Γ p c6 au))
theorem iD.head(h:oD G k sc σ Γ st cls w):iD G k sc σ Γ (st::bS) cls w:=λA env pr s Q E R aa W F dO=>p3 (h A env pr s _ E R aa W F dO)
theorem iD.seq(O:bR G k sc [] σ Γ st (·=.next σ Γ₁))(ae:iD G k sc σ Γ₁ bS cls w):iD G k sc σ Γ (st::bS) cls w:=by
 intro A env pr s Q E R aa W F dO
 refine p3 (cL (O A env pr s _ E R aa W F (λo f J aP stp b9=>?_)))
 subst aP
 obtain⟨rfl,cA,cX⟩:=b9
 have aJ:=stp.aJ.mono λb q=>q.elim (λq=>cZ q) id
 exact ae A env pr J Q E R aa cA cX λe ao args ah cD ey zM=>dO e ao args ah cD ey (aJ.trans zM)
theorem oD.fz{test:Yy}(O:fp G k sc σ Γ test true)(ae:iD G k sc σ Γ body cls w):oD G k sc σ Γ (.If test body orelse p) cls w:=by
 intro A env pr s Q E R aa W F dO
 refine E6 (cL (O A env pr s _ _ R aa W F λaj ax=>?_))
 exact ae A env pr aj Q E R aa (W.keep ax) (F.keep ax) λe ao args ah cD ey zM=>dO e ao args ah cD ey ((ax.mono λ_ q=>q.elim).trans zM)
theorem oD.eS(O:vU G k sc σ Γ e cls w)(aG:autoParam (∀env,swapsWith e (some (.Name x pos)) p.line env=pure false) aI):oD G k sc σ Γ (.Assign [.Name x pos] e p) cls w:=by
 intro A env pr s Q E R aa W F dO
 exact E5 (O A env pr s _ E R aa W F dO) (aG env)
theorem vU.int{dD:Yy}(hf:aN G k sc σ Γ dD (.raw (.type "int")))(O:aN G k sc σ Γ e (.str "x"))
  (he:autoParam (dU e []) aI) (aR:autoParam (ik dD [e] pos) aI):vU G k sc σ Γ (.Call dD [e] [] pos) (.type "ValueError") none:=by
 intro A env pr s Q E aW aa W F dO
 rw[aR]
 refine d8 (cL (hf A env pr s _ _ aW aa W F λv aj ax a0=>?_))
 have cM:=a0.dB
 subst cM
 refine vQ (by rw[he];rfl) ?_
 have H:Yw pos (X5 [e] env)=(false,eval e env)::Yw pos (X5 [] env):=by rw[he];rfl
 rw[H]
 refine vP ?_
 rw[<-H]
 refine E_ (cL (O A env pr aj _ _ aW aa (W.keep ax) (F.keep ax) λv ao aM bG=>E9 ?_)) (he _)
 refine cS bG.str_inv λt aB=>?_
 subst aB
 refine NS aW.handled λe ah cD m hm=>?_
 exact dO e ao [m] ah cD Γ ((ax.trans aM).mono λ_ q=>q.elim) ((F.keep ax).keep aM) (λx q=>mW q) hm
theorem oD.raise{zN:Pos}(P:mH G x C)(a_:aN G k sc σ Γ (.Name x np) (.raw (.ref C)))(O:aN G k sc σ Γ e (.str y))
  (he:autoParam (dU e []) aI):oD G k sc σ Γ (.Raise (some (.Call (.Name x np) [e] [] zN)) none pos) (.ref C) (some y):=by
 intro A env pr s Q E aW aa W F dO
 refine bC λ_ a'=>?_
 obtain⟨gw,N,nm,q,bs,hdct,sn,sub,ab,col,dd,k0,k1,k2,k3,k5,mN,br,lc,N7,T⟩:=P.own.obj
 refine a' ?_
 refine cL (wpAny_Raise_call_subT (C:=C) (nm:=nm) (q:=q) (N:=N) (bs:=bs) (bm:=gw) (hdct:=hdct) (sn:=sn) (sub:=sub) (ab:=ab) (col:=col) (dd:=dd) (k0:=k0) (k1:=k1) (k2:=k2) (k3:=k3) (k5:=k5)
  ad5 (mN:=mN) (T.hasType ad5.hasBase) aW.handled (by rw[he];rfl) N7 (a_ A env pr s _ _ aW aa W F λv aj ax a0=>⟨a0.dB,?_⟩))
 have H:Yw zN (X5 [e] env)=(false,eval e env)::Yw zN (X5 [] env):=by rw[he];rfl
 rw[H]
 refine Calls.evalArgs_plain ?_
 rw[<-H]
 refine YE (O A env pr aj _ _ aW aa (W.keep ax) (F.keep ax) λv ao aM bG=>Zc ?_) (he _)
 refine cS bG.str_inv λt aB=>?_
 subst aB
 have bo:=(W.keep ax).keep aM
 refine⟨rfl,(show(1:Nat)<=YD by decide),bo.base _ _ br,lc.keeps bo.base,T.keeps bo.base,λah e hm=>?_⟩
 exact dO e ao _ ah ao.toks Γ ((ax.trans aM).mono λ_ q=>q.elim) ((F.keep ax).keep aM) (λx q=>by cases q;exact⟨t,rfl⟩) hm
theorem N8{l:List Env}(K:c5 A none pr h)(aw:A.frames=some l)(H:∀b∈dm A,base.get? b=none):h.FunFrames base l:=by
 obtain⟨gf,kd,aL⟩:=K
 cases aw.symm.trans kd
 have key:∀gf:List Env,(∀e∈gf,e∈l)->h.FunFrames base gf:=by
  intro gf
  induction gf with
  |nil=>intro _;trivial
  |cons e r ih=>
   intro hm
   refine bC λ_ a'=>?_
   obtain⟨h0,L,O,ae,a2⟩:=aL e (hm e (.head _))
   obtain⟨m,o,aZ,kg,aP,hd,_⟩:=a2.resolve_left λq=>mX q
   refine a' ?_
   refine⟨by rw[h0];decide,⟨L,o,O,H L ((zG aw).mpr ⟨e,hm e (.head _),O⟩),aP,λvs q=>by rw[hd]at q;cases q⟩,ih λe he=>hm e (.tail _ he)⟩
 exact key l λ_ h=>h
def nC(G:GE)(k:Nat)(σ:ba)(f:XF)(ds:List V)(cls:XF)(w:Option Str):Prop:=
 ∀(A:Yz) (pr:List XM) (s:XG) (vs:List XF) (Q E:XF->XG->Prop),cs A k->c5 A none pr s.heap->a4 G σ pr s->a5 (aT σ pr) s.heap vs ds->
  (∀e t args l J,A.frames=some l->acz (hideAll s.heap (dm A)) l e cls (.ref t) J.heap->J.heap.TupAt t args->tJ w args->c_ A jk σ σ s J->E (.ref e) J)->bj (model G.prog G.w) A (call f vs) Q E s
theorem nC.of_body(h:fa G a names sc body)(b2:names.length=ds.length)(dO:iD G k sc σ (names.zip ds).reverse body cls w):nC G (k+1) σ (.ref a) ds cls w:=by
 intro A pr s vs Q E aW K W r zO
 refine Fn ?_
 refine bC λ_ a'=>?_
 obtain⟨cd,ix,h⟩:=h
 obtain⟨o,fd,O,ae,a2,b_,cn,gQ,dJ,fA,kt,pN,pO⟩:=h.ex
 refine a' ?_
 subst pN pO
 refine zI (ws:=vs) (ds:=ds) aW W (W.base _ _ O) ae a2 b_ cn gQ (fA.keeps W.base) (.of_eq (kt vs (by rw[r.length,b2]))) b2 r dJ h.sV h.c2 h.nm h.co h.gen h.kind λenv np ao aa au aR hP p6 ng cg bt kD bo bQ=>?_
 obtain⟨l,oC,_⟩:=id K
 have new:=λb H=>cg b (ng b H)
 refine dO (A.deeper env) env (np++pr) ao _ _ kD aa bo bQ λe bI args ah cD ey aJ fx aY hm=>?_
 have Fo:=λb o e=>aJ.keep b o (λq=>XN _ (XE (XX e) (new b q))) (bt.get e)
 have N9:(hideAll s.heap (dm A)).get? env.locals=none:=by
  cases q:(hideAll s.heap (dm A)).get? env.locals with
  |none=>rfl
  |some o=>exact absurd (XX (ae2 _ q)) (ZS.mpr (cg _ p6))
 have N_:=(K.keeps bt).aJ aJ λb H au=>absurd ((λb H=>K.lt W H) b H) (ZS.mpr (new b au))
 refine cS fx.ns λW5 eU=>?_
 have N':=ahc (by rw[aa.scope,h.kind];decide) hP eU N9 (N8 N_ oC λb H=>aed _ H)
 refine cL (wpAny_leaves_madeW (h:=bI.heap) (args:=args) (aaL oC) hP (λb o e=>Fo b o (ae2 _ e)) N' hm λjl t kE nD W6 Oa hsz=>?_)
 refine zO e t args l _ oC kE nD aY ⟨λb o _ iE=>?_,?_,aJ.os.trans bt.os,bt.gens.trans aJ.gens,λb H=>.inl H,λb H=>H⟩
 ·by_cases H:b∈dm A
  ·have dP:=Fo b o iE
   have:∀vs,o.data≠.fields vs:=by
    refine bC λ_ fq=>?_
    refine d6 (K.dm H) λ_ lc=>?_
    obtain⟨m,gX,aZ,kg,aP,hd,_⟩:=lc.resolve_left λq=>mX q
    refine fq ?_
    cases iE.symm.trans aP
    intro vs q;rw[hd]at q;cases q
   obtain⟨bE,fZ⟩:=Oa b o (hm.keeps b o dP) this
   exact⟨bE,fZ,λq=>absurd H q⟩
  ·exact⟨o.slots,kE.1 b o (abN _ iE H),λ_=>rfl⟩
 ·exact hsz
end
noncomputable def e5(gr:Nat):Str:=⟨#[("|!/#":Str).cps.getD gr 0]⟩
noncomputable def fc(a6 rooms ak:Nat):Nat:=bif decide (rooms<a6)then 1+(a6+ak)%7 else 0
noncomputable def tK(a6 b c3:Nat):Str:=bif c3==5 then "x" else acC "0" ((b:Nat):Int)++(toString ((a6:Nat):Int):String)
def rA(mark:Str)(a6 b c3:Nat):Str:="229 ("++acC mark ((3:Nat):Int)++tK a6 b c3++mark++")"
noncomputable def Fp(mark t:Str):List Str:=[t,"230"++Z1 t (some ((3:Nat):Int)) none,Txt.replace t "(" "[",Txt.replace t "(" "(x",Txt.replace t "(" ("("++mark),t]
def tL(mark t:Str):List Str:=Fp mark t++[Txt.replace t ("("++mark) "(",Z1 t none (some (-((1:Nat):Int)))]
def hj(mark:Str)(a6 b c3:Nat):Str:=(tL mark (rA mark a6 b c3)).getD c3 ""
noncomputable def nE(c3:Nat)(pU:Str):Str:=bif c3==0 then "far" else bif c3==1 then "reply "++pU else bif c3==5 then "value" else "proto "++pU
inductive zP where
 |ok (n:Int)
 |p8
 |oE
 |value
 |bad
deriving DecidableEq
noncomputable def lj(x:Str):Int:=afr x "("
def j3(x:Str):Int:=aeR x ")" (lj x+((1:Nat):Int))
def tM(x:Str):Option Nat:=x.cps[(lj x+((1:Nat):Int)).toNat]?
def vV(x:Str):Option Nat:=x.cps[(j3 x-((1:Nat):Int)).toNat]?
def ll(x:Str)(c:Nat):List Str:=Txt.split (Z1 x (some (lj x+((1:Nat):Int))) (some (j3 x))) ⟨#[c]⟩
def h9(x:Str):zP:=
 if(Z1 x none (some ((3:Nat):Int)) !="229")=true then .p8
 else if lj x<0 then .oE
 else if j3 x<0 then .oE
 else if ¬(1<=j3 x)then .bad
 else match tM x,vV x with
  |some c,some d=>if((⟨#[c]⟩:Str) !=⟨#[d]⟩)=true then .oE
   else if((ll x c).length !=5)=true then .oE
   else match(ll x c)[3]? with
    |some y=>match ags y with
     |some n=>if y.length<=640 then .ok n else .bad
     |none=>if y = "x" then .value else .bad
    |none=>.bad
  |_,_=>.bad
noncomputable def rB(a6 c3:Nat):zP:=if c3=0 then .ok a6 else if c3=1 then .p8 else if c3=5 then .value else .oE
noncomputable def zQ(x:Str):Bool:=x.cps.toList.all (·<0x110000)
theorem kF{x:Str}(h:zQ x=true):Ym x=true:=by
 unfold Ym;rw[<-aci];exact h
def Fq(t:Str)(k:zP):Bool:=decide (t.length<=20)&&decide (h9 t=k)&&!(t=="")&&zQ t
def Ob(m b:Nat):Bool:=(XO 8).all λw=>(XO 8).all λn=>Fq (hj (e5 m) w b n) (rB w n)
theorem Oc{b:Nat}(hm:m<4)(H:b<3):Ob m b=true:=by
 have O:m=0\/m=1\/m=2\/m=3:=by lia
 have ae:b=0\/b=1\/b=2:=by lia
 rcases O with rfl|rfl|rfl|rfl<;>rcases ae with rfl|rfl|rfl<;>decide +kernel
theorem zR{a6 b c3:Nat}(hm:m<4)(H:b<3)(bz:a6<=7)(az:c3<=7):h9 (hj (e5 m) a6 b c3)=rB a6 c3/\(hj (e5 m) a6 b c3=="")=false/\Ym (hj (e5 m) a6 b c3)=true/\(hj (e5 m) a6 b c3).length<=20:=by
 have O:=X9.mp (X9.mp (Oc hm H) a6 (X2.mpr jJ)) c3 (X2.mpr jJ)
 unfold Fq at O
 rw[Yp,Yp,Yp]at O
 exact⟨of_decide_eq_true O.1.1.2,by simpa using O.1.2,kF O.2,of_decide_eq_true O.1.1.1⟩
theorem Fs:h9 "" = .p8:=by kernel_rfl
section
open Builtin Builtin.Str
section
variable{r:Yy}{pos:Pos}{st:ZF}{x z:Str}
theorem zS(s:XG):KeptByPush (bb s):=λJ jV k h=>h.trans (bb.push jV k)
theorem Od(O:x.length<=64)(ae:n<=64):MulOk x (n:Int):=by
 refine⟨by simp;exact oa,λa2 _=>?_,λa2 _=>?_⟩
 ·have b_:(1:Int)<=n:=by lia
  have:(144115188075855871:Int)<=(2^63-1) / (n:Int):=by
   rw[Int.le_ediv_iff_mul_le (by lia)]
   lia
  lia
 ·have e:=ade O qI
  have:=b1 (n:=64*64) aH
  exact decide_eq_false (by lia)
theorem a8.zT(O:x.length<=64)(ae:n<=64):a8 G k σ (binaryOp .Mult) (.str x) (ay n) (.str (acC x n)):=λA pr s cN d2 Q E R W a0 bG h=>by
 obtain⟨t,rfl⟩:=a0.str_inv;obtain⟨u,rfl⟩:=bG.int_inv
 exact SB.mul (Od O ae) λfE k=>h _ _ (bb.tok _) (.str _ _)
theorem a8.zU:a8 G k σ (compareOp .NotEq) (.str x) (.str y) (.bool (x !=y)):=λA pr s cN d2 Q E R W a0 bG h=>by
 obtain⟨t,rfl⟩:=a0.str_inv;obtain⟨u,rfl⟩:=bG.str_inv
 exact ahz (h _ s (.refl _ _) (.bool _))
theorem bW.find:bW G k σ (.builtin "str.find") [.str x,.str y] (.int (afr x y)):=λA pr s vs Q E R W r h=>by
 obtain⟨_,_,rfl,bO,dq⟩:=r.inv2;obtain⟨t,rfl⟩:=bO.str_inv;obtain⟨u,rfl⟩:=dq.str_inv;exact SC.find (h _ _ (bb.tok _) (.int _ _))
theorem bW.find3{i:Int}:bW G k σ (.builtin "str.find") [.str x,.str y,.int i] (.int (aeR x y i)):=λA pr s vs Q E R W r h=>by
 obtain⟨_,_,_,rfl,bO,dq,h8⟩:=r.xZ;obtain⟨t,rfl⟩:=bO.str_inv;obtain⟨u,rfl⟩:=dq.str_inv;obtain⟨v,rfl⟩:=h8.int_inv;exact SC.find3 (h _ _ (bb.tok _) (.int _ _))
theorem Ft{P:XM->Prop}:∀(l:List (Str×Tok)),a5 P h (strValues l) ((l.map (·.1)).map V.str)
 | []=>.nil
 | (x,t)::l=>.cons (.str x t) (Ft l)
theorem bW.split(bk:(y.length==0)=false)(ag:x.length<=1000)(az:(partsBetween x (occurrences x y 0 x.length (x.length+1)) y.length).length<=2000):bW G k σ (.builtin "str.split") [.str x,.str y] (.list ((Txt.split x y).map V.str)):=λA pr s vs Q E R W r h=>by
 obtain⟨_,_,rfl,bO,dq⟩:=r.inv2;obtain⟨t,rfl⟩:=bO.str_inv;obtain⟨u,rfl⟩:=dq.str_inv
 have fin:∀(L:List (Str×Tok)) cD,L.map (·.1)=Txt.split x y->Q (.ref s.heap.objs.size) {s with toks:=cD,heap:=s.heap.push {cls:=.type "list",data:=.seq (strValues L).toArray}}:=λL cD e=>by
  refine h _ _ (.push _ _) (.list (n:=0) (XU _ rfl) (W.gs (XT _)) ?_)
  exact e▸Ft L
 cases O:(decide (x.length<y.length)||decide (strKind x<strKind y))
 ·cases hf:(occurrences x y 0 x.length (x.length+1)).isEmpty
  ·refine ac8 ael (aaY _ _ _) ad2 (adO _ _) (meets_str_split_sep x y t u O bk hf (b1 dt) (b1 dt)) ?_
   rw[strsFrom_eq]
   exact fin (numbered s.toks _) _ ((numbered_texts _ _).trans ((if_neg (ne_true_of_eq_false O)).trans (if_neg (ne_true_of_eq_false hf))).symm)
  ·exact ac8 ael (aaY _ _ _) ad2 (adO _ _) (meets_str_split_not_found x y t u O bk hf) (fin [(x,t)] s.toks ((if_neg (ne_true_of_eq_false O)).trans (if_pos hf)).symm)
 ·exact ac8 ael (aaY _ _ _) ad2 (adO _ _) (meets_str_split_cannot_occur x y t u O) (fin [(x,t)] s.toks (if_pos O).symm)
theorem aN.zV{value aq:Yy}{j:Int}(O:aN G k sc σ Γ value (.str x))(ae:aN G k sc σ Γ aq (.int j))(ag:x.length<=1000)
  (hI:autoParam (∀o i,∃kq,ZG (.Slice none (some aq) none p) false o i=operate kq (getItem o i)) aX) (a_:autoParam (∀o r,letTemporaryGo value o r=pure ()) aI):aN G k sc σ Γ (.Subscript value (.Slice none (some aq) none p) pos) (.str (Z1 x none (some j))):=by
 intro A env pr s Q E R aa W F h
 refine abE (O A env pr s _ _ R aa W F λcN aj ax a0=>adw (XK (ae A env pr aj _ _ R aa (W.keep ax) (F.keep ax) λd2 ao aM bG=>XK ?_)))
 obtain⟨t,rfl⟩:=a0.str_inv;obtain⟨u,rfl⟩:=bG.int_inv
 obtain⟨kq,pH⟩:=hI (.str x t) (.ref ao.heap.objs.size)
 exact ae0 (SBG.sliceItem_ns (zS ao) (.refl _ _) (λJ fE aL=>h _ J ((ax.trans aM).trans aL) (.str _ _)) (b1 dt)) pH (a_ _)
theorem aN.Oe{value lo:Yy}{j:Int}(O:aN G k sc σ Γ value (.str x))(ae:aN G k sc σ Γ lo (.int j))(ag:x.length<=1000)
  (hI:autoParam (∀o i,∃kq,ZG (.Slice (some lo) none none p) false o i=operate kq (getItem o i)) aX) (a_:autoParam (∀o r,letTemporaryGo value o r=pure ()) aI):aN G k sc σ Γ (.Subscript value (.Slice (some lo) none none p) pos) (.str (Z1 x (some j) none)):=by
 intro A env pr s Q E R aa W F h
 refine abE (O A env pr s _ _ R aa W F λcN aj ax a0=>adw (ae A env pr aj _ _ R aa (W.keep ax) (F.keep ax) λd2 ao aM bG=>XK (XK ?_)))
 obtain⟨t,rfl⟩:=a0.str_inv;obtain⟨u,rfl⟩:=bG.int_inv
 obtain⟨kq,pH⟩:=hI (.str x t) (.ref ao.heap.objs.size)
 exact ae0 (SBG.sliceItem_sn (zS ao) (.refl _ _) (λJ fE aL=>h _ J ((ax.trans aM).trans aL) (.str _ _)) (b1 dt)) pH (a_ _)
theorem aN.Of{value lo aq:Yy}{i j:Int}(O:aN G k sc σ Γ value (.str x))(ae:aN G k sc σ Γ lo (.int i))(a2:aN G k sc σ Γ aq (.int j))(ag:x.length<=1000)
  (hI:autoParam (∀o i,∃kq,ZG (.Slice (some lo) (some aq) none p) false o i=operate kq (getItem o i)) aX) (a_:autoParam (∀o r,letTemporaryGo value o r=pure ()) aI):aN G k sc σ Γ (.Subscript value (.Slice (some lo) (some aq) none p) pos) (.str (Z1 x (some i) (some j))):=by
 intro A env pr s Q E R aa W F h
 refine abE (O A env pr s _ _ R aa W F λcN aj ax a0=>adw (ae A env pr aj _ _ R aa (W.keep ax) (F.keep ax) λd2 ao aM bG=>a2 A env pr ao _ _ R aa ((W.keep ax).keep aM) ((F.keep ax).keep aM) λFu bI cu lI=>XK ?_))
 obtain⟨t,rfl⟩:=a0.str_inv;obtain⟨u,rfl⟩:=bG.int_inv;obtain⟨w,rfl⟩:=lI.int_inv
 obtain⟨kq,pH⟩:=hI (.str x t) (.ref bI.heap.objs.size)
 exact ae0 (SBG.sliceItem_ss (zS bI) (.refl _ _) (λJ fE aL=>h _ J (((ax.trans aM).trans cu).trans aL) (.str _ _)) (b1 dt)) pH (a_ _)
end
end
section
open Builtin Builtin.Str
section
variable{r:Yy}{pos:Pos}{x z:Str}
def mI(G:GE)(k:Nat)(sc:YI)(σ:ba)(Γ:bD)(n:Nat)(e:Yy)(z:Str):Prop:=
 ∀(A:Yz) (env:Env) (pr:List XM) (s:XG) (Q E:XF->XG->Prop),cs A k->cT G sc env->a4 G σ pr s->bg σ pr s.heap env Γ->
  (∀t J,s.toks+n<=t->t<J.toks->bb s J->Q (.str z t) J)->wpAny (model G.prog G.w) A (eval e env) Q E s
def p9(G:GE)(k:Nat)(sc:YI)(σ:ba)(Γ:bD)(e:Yy)(d:V):Prop:=
 ∀(A:Yz) (env:Env) (pr:List XM) (s:XG) (Q E:XF->XG->Prop),0<s.toks->cs A k->cT G sc env->a4 G σ pr s->bg σ pr s.heap env Γ->
  (∀v J,bb s J->bu (aT σ pr) J.heap v d->Q v J)->wpAny (model G.prog G.w) A (eval e env) Q E s
def zW(G:GE)(k:Nat)(sc:YI)(σ:ba)(Γ:bD)(e:Yy)(d:V):Prop:=
 ∀(A:Yz) (env:Env) (pr:List XM) (s:XG) (Q E:XF->XG->Prop),cs A k->cT G sc env->a4 G σ pr s->bg σ pr s.heap env Γ->
  (∀v J,0<J.toks->bb s J->bu (aT σ pr) J.heap v d->Q v J)->wpAny (model G.prog G.w) A (eval e env) Q E s
def rC(G:GE)(k:Nat)(sc:YI)(σ:ba)(Γ:bD)(aZ:List Yy)(ds:List V):Prop:=
 ∀(A:Yz) (env:Env) (pr:List XM) (s:XG) (pos:Pos) (Q:List XF->XG->Prop) (E:XF->XG->Prop),0<s.toks->cs A k->cT G sc env->a4 G σ pr s->bg σ pr s.heap env Γ->
  (∀vs J,bb s J->a5 (aT σ pr) J.heap vs ds->Q vs J)->wpAny (model G.prog G.w) A (spliced (Yw pos (X5 aZ env))) Q E s
theorem mI.const{bt:Nat}:mI G k sc σ Γ 0 (.Constant (.str z) bt pos) z:=by
 intro A env pr s Q E R aa W F h
 exact ZW (h _ _ (XT _) (Yt _) (bb.tok _))
theorem mI.add{bt:Nat}(O:aN G k sc σ Γ r (.str y))(ag:(x.length==0)=false)(bk:(y.length==0)=false)(hsz:x.length+y.length<=1000):mI G k sc σ Γ 1 (.BinOp (.Constant (.str x) bt p) .Add r pos) (x++y):=by
 intro A env pr s Q E R aa W F h
 have k0:bb s {s with toks:=s.toks+1}:=bb.tok _
 refine abM (ZW (abV (n:=s.toks+1) (XT _) (O A env pr _ _ _ R aa (W.keep k0) (F.keep k0) λv aj ax a0 a_=>?_)))
 refine cS a0.str_inv λu aB=>?_
 subst aB
 refine PySem.P.add_str ?_
 rw[ag,bk]
 refine⟨?_,h _ _ a_ (Yt _) ((k0.trans ax).trans (bb.tok _))⟩
 exact b1 (by rw[(ZK ..)];exact dt)
theorem p9.of(h:aN G k sc σ Γ e d):p9 G k sc σ Γ e d:=λA env pr s Q E _=>h A env pr s Q E
theorem rC.nil:rC G k sc σ Γ [] []:=by
 intro A env pr s pos Q E _ R aa W F h
 exact Zc (h [] s (.refl _ _) .nil)
theorem rC.cons(O:p9 G k sc σ Γ e d)(ae:rC G k sc σ Γ aZ ds)(he:autoParam (dU e aZ) aI):rC G k sc σ Γ (e::aZ) (d::ds):=by
 intro A env pr s pos Q E a_ R aa W F h
 refine YE (abV (n:=1) a_ (O A env pr s _ _ a_ R aa W F λcN aj ax a0 rD=>ae A env pr aj pos _ _ rD R aa (W.keep ax) (F.keep ax) λvs ao aM bG=>?_)) (he _)
 exact h (cN::vs) ao (ax.trans aM) (.cons (a0.keep aM) bG)
theorem gM.Og(O:zW G k sc σ Γ e d)(ae:rC G k sc σ Γ aZ ds)(he:autoParam (dU e aZ) aI):gM G k sc σ Γ (e::aZ) (d::ds):=by
 intro A env pr s pos Q E R aa W F h
 refine YE (O A env pr s _ _ R aa W F λcN aj rD ax a0=>ae A env pr aj pos _ _ rD R aa (W.keep ax) (F.keep ax) λvs ao aM bG=>?_) (he _)
 exact h (cN::vs) ao (ax.trans aM) (.cons (a0.keep aM) bG)
theorem zW.add{bt:Nat}(O:aN G k sc σ Γ r bZ)(ae:a8 G k σ (binaryOp .Add) (.str x) bZ d):zW G k sc σ Γ (.BinOp (.Constant (.str x) bt p) .Add r pos) d:=by
 intro A env pr s Q E R aa W F h
 have k0:bb s {s with toks:=s.toks+1}:=bb.tok _
 refine abM (ZW (abV (n:=1) (Y1 _ _) (O A env pr _ _ _ R aa (W.keep k0) (F.keep k0) λv aj ax a0 a_=>?_)))
 refine abV (n:=1) a_ (ae A pr aj (.str x s.toks) v _ _ R ((W.keep k0).keep ax) (.str _ _) a0 λkj J bN bV rm=>?_)
 exact h kj J rm ((k0.trans ax).trans bN) bV
theorem Fv(h0:aN G k sc σ Γ o (.str x))(O:mI G k sc σ Γ n e y)(ae:mI G k sc σ Γ m b8 z)(px:(y==z)=false)(ag:x.length<=1000)(hz:z.length<=14)
  (he:autoParam (dU e [b8]) aI) (gY:autoParam (dU b8 []) aI) (fg:autoParam (BT pos [b8]) aI) (et:autoParam (∀env,YB o "replace" env (eval o env)=eval o env) aI)
  (g':autoParam (∀env,((Yw pos (X5 [e,b8] env)).all (λx=>!x.1)&&(backToKw pos (Zh [] env)).all (λx=>x.1.isSome)&&decide ([e,b8].length+([]:List aab).length+(if([]:List aab).isEmpty then 0 else 1)<30))=true) aI)
  (ha:autoParam ((apos.endLine==pos.line)=true) aI):∀(A:Yz) (env:Env) (pr:List XM) (s:XG) (Q E:XF->XG->Prop),0<s.toks+n->cs A k->cT G sc env->a4 G σ pr s->bg σ pr s.heap env Γ->
  (∀v J,bb s J->bu (aT σ pr) J.heap v (.str (Txt.replace x y z))->Q v J)->wpAny (model G.prog G.w) A (eval (.Call (.Attribute o "replace" apos) [e,b8] [] pos) env) Q E s:=by
 intro A env pr s Q E a_ R aa W F h
 refine ZQ (et env) (g' env) ha Zm PySem.F.slot_str_replace PySem.F.type_str_replace (abV (n:=s.toks) (XT _) (h0 A env pr s _ _ R aa W F λv aj ax a0 rD=>?_))
 refine cS a0.str_inv λt aB=>?_
 subst aB
 refine⟨aaY _ _ _,λa q=>(nomatch q),?_⟩
 have H:Yw pos (X5 [e,b8] env)=(false,eval e env)::Yw pos (X5 [b8] env):=by rw[he];rfl
 refine ZH (by rw[H,abu,fg];rfl) ?_
 rw[H]
 refine abp ?_
 rw[<-H]
 refine YE (O A env pr aj _ _ R aa (W.keep ax) (F.keep ax) λu ao dh W7 aM=>YE (ae A env pr ao _ _ R aa ((W.keep ax).keep aM) ((F.keep ax).keep aM) λv bI bJ pg cu=>Zc ?_) (gY _)) (he _)
 refine SC.replace (Zf (show(0:Nat)<u by lia)) (Zf (show(0:Nat)<v by lia)) (Ys (show(u:Nat)<v by lia)) px ?_ λfE cD=>h _ _ (((ax.trans aM).trans cu).trans (bb.tok _)) (.str _ _)
 have:(x.length+1)*z.length<=1001*14:=ade JB hz
 lia
theorem p9.tN(h0:aN G k sc σ Γ o (.str x))(O:mI G k sc σ Γ n e y)(ae:mI G k sc σ Γ m b8 z)(px:(y==z)=false)(ag:x.length<=1000)(hz:z.length<=14)
  (he:autoParam (dU e [b8]) aI) (gY:autoParam (dU b8 []) aI) (fg:autoParam (BT pos [b8]) aI) (et:autoParam (∀env,YB o "replace" env (eval o env)=eval o env) aI)
  (g':autoParam (∀env,((Yw pos (X5 [e,b8] env)).all (λx=>!x.1)&&(backToKw pos (Zh [] env)).all (λx=>x.1.isSome)&&decide ([e,b8].length+([]:List aab).length+(if([]:List aab).isEmpty then 0 else 1)<30))=true) aI)
  (ha:autoParam ((apos.endLine==pos.line)=true) aI):p9 G k sc σ Γ (.Call (.Attribute o "replace" apos) [e,b8] [] pos) (.str (Txt.replace x y z)):=
 λA env pr s Q E a_=>Fv h0 O ae px ag hz he gY fg et g' ha A env pr s Q E (by lia)
theorem aN.tN(h0:aN G k sc σ Γ o (.str x))(O:mI G k sc σ Γ 1 e y)(ae:mI G k sc σ Γ m b8 z)(px:(y==z)=false)(ag:x.length<=1000)(hz:z.length<=14)
  (he:autoParam (dU e [b8]) aI) (gY:autoParam (dU b8 []) aI) (fg:autoParam (BT pos [b8]) aI) (et:autoParam (∀env,YB o "replace" env (eval o env)=eval o env) aI)
  (g':autoParam (∀env,((Yw pos (X5 [e,b8] env)).all (λx=>!x.1)&&(backToKw pos (Zh [] env)).all (λx=>x.1.isSome)&&decide ([e,b8].length+([]:List aab).length+(if([]:List aab).isEmpty then 0 else 1)<30))=true) aI)
  (ha:autoParam ((apos.endLine==pos.line)=true) aI):aN G k sc σ Γ (.Call (.Attribute o "replace" apos) [e,b8] [] pos) (.str (Txt.replace x y z)):=
 λA env pr s Q E=>Fv h0 O ae px ag hz he gY fg et g' ha A env pr s Q E Cv
end
end
section
open Builtin Builtin.Str
theorem rE(m:Nat):(e5 m).length=1:=rfl
theorem Fw{a6 b c3:Nat}(bz:a6<=7)(H:b<=2):(tK a6 b c3).length<=3:=by
 delta tK
 cases c3==5
 ·rcases(show a6=0\/a6=1\/a6=2\/a6=3\/a6=4\/a6=5\/a6=6\/a6=7 from by lia)with rfl|rfl|rfl|rfl|rfl|rfl|rfl|rfl<;>rcases(show b=0\/b=1\/b=2 from by lia)with rfl|rfl|rfl<;>decide +kernel
 ·exact Ye (show(1:Nat)<3 by decide)
theorem Fx(m:Nat):(acC (e5 m) ((3:Nat):Int)).length=3:=by
 have:=len_mul_k1 (n:=((3:Nat):Int)) (rE m)
 rw[if_neg aH]at this
 lia
theorem Oh{a6 b c3:Nat}(bz:a6<=7)(H:b<=2):(rA (e5 m) a6 b c3).length<=20:=by
 have:=Fw (c3:=c3) bz H
 delta rA
 simp only[ZK,Fx,rE]
 have a3:("229 (":Str).length=5:=rfl
 have bH:(")":Str).length=1:=rfl
 lia
theorem Fy{a6 b c3:Nat}(hm:m<4)(H:b<3)(bz:a6<=7)(az:c3<=7):(hj (e5 m) a6 b c3).length<=20:=(zR hm H bz az).2.2.2
theorem Oi(m:Nat):(Yr "("==Yr "("++e5 m)=false:=by
 refine beq_eq_false_iff_ne.mpr λh=>?_
 have:=congrArg ahU h
 rw[ZK,rE]at this
 exact absurd this aH
theorem Oj(m:Nat):(Yr "("++e5 m==Yr "(")=false:=by
 refine beq_eq_false_iff_ne.mpr λh=>?_
 have:=congrArg ahU h
 rw[ZK,rE]at this
 exact absurd this aH
theorem Ol(a6 rooms ak:Nat):fc a6 rooms ak<=7:=by
 delta fc
 cases decide (rooms<a6)
 ·exact Yd _
 ·show 1+(a6+ak)%7<=7
  lia
def zX(a6 rooms ak:Nat):V:=.tuple [.str (acC " " ((ak%5:Nat):Int)),.str (hj (e5 (ak%4)) a6 (ak%3) (fc a6 rooms ak)),.str (nE (fc a6 rooms ak) (hj (e5 (ak%4)) a6 (ak%3) (fc a6 rooms ak)))]
theorem Om{x:Str}{c:Nat}(h:x.cps.getD n 0=c)(az:n<x.cps.size):x.cps[((n:Nat):Int).toNat]?=some c:=by
 subst h
 simp only[X0,YX,aaT az]
 rfl
theorem Oo(h:n<=7):((n:Nat):Int).natAbs.log2<1920:=by
 exact XW (Nat.log2_le_self n) jJ
theorem p9.name{x:Str}{pos:Pos}(ag:Γ.lookup x=some d)(aL:autoParam (sc.kind=.function) aI)(hd:autoParam ((x==("__debug__":Str))=false) aD)(az:autoParam ((x==("__classdict__":Str))=false) aD):p9 G k sc σ Γ (.Name x pos) d:=.of (.name ag aL hd az)
theorem Oq(P:cK G aK){a6 rooms:Nat}(bz:a6<=7)(hd:ak<2^40):bW G (k+1) σ (.ref (aK 19)) [ay a6,ay rooms,ay ak] (zX a6 rooms ak):=by
 have H:=Ol a6 rooms ak
 have Fz:ak%4<4:=YO _ aH
 have Ot:ak%3<3:=YO _ aH
 have W8:ak%5<5:=YO _ aH
 have b2:=Fy Fz Ot bz H
 have rk:=Oh (m:=ak%4) (c3:=fc a6 rooms ak) bz (Cx:ak%3<=2)
 have ar:=Fw (c3:=fc a6 rooms ak) bz (Cx:ak%3<=2)
 refine bW.of_body (P.fn 19 _ rfl) rfl ?_
 refine .seq (.swap (names:=["mark","bent"]) (ds:=[.str (e5 (ak%4)),ay (fc a6 rooms ak)]) (.tuple (.cons ?_ (.cons ?_ .nil)) c7) rfl ?_) ?_
 ·exact .u6 (x:="|!/#") .dx (by exact .bin (.name rfl) .bf (.j1 aH)) (.yl g7 (Om rfl (by exact Fz)) mY)
 ·refine .to (.il (b:=decide (rooms<a6)) (bZ:=ay (1+(a6+ak)%7)) (d₂:=ay 0) (.cmp (.name rfl) (.name rfl) .LJ) (λ_=>(.bin .bf (.bin (.bin (.name rfl) (.name rfl) .g2) .bf (.j1 aH)) .g2)) (λ_=>.bf)) ?_
  delta fc
  cases decide (rooms<a6)<;>rfl
 ·intro x ag
  rcases XH.mp ag with rfl|ag
  ·rfl
  ·rw[XD.mp ag];rfl
 generalize Ou:fc a6 rooms ak=c3 at *
 generalize Ov:ak%4=m at *
 refine .seq (.eS (d:=.str (rA (e5 m) a6 (ak%3) c3)) ?_) ?_
 ·have a3:("229 (":Str).length=5:=rfl
  have bH:(")":Str).length=1:=rfl
  have dP:=Fx m
  have fZ:=rE m
  refine .bin (.bin (.bin (.bin .dx (.bin (.name rfl) .bf (.zT (n:=3) (by rw[fZ];decide) aH)) (.m' (b1 (by rw[a3,dP];decide)))) ?_ (.m' (b1 (by rw[ZK,a3,dP];lia)))) (.name rfl) (.m' (b1 (by simp only[ZK];lia)))) .dx (.m' (b1 (by simp only[ZK];lia)))
  refine .to (.il (b:=c3==5) (bZ:=.str "x") (d₂:=.str (acC "0" ((ak%3:Nat):Int)++(toString ((a6:Nat):Int):String))) (.cmp (.name rfl) .bf .lR) (λ_=>.dx) (λcn=>?_)) ?_
  ·refine .bin (.bin .dx (by exact .bin (.name rfl) .bf (.j1 aH)) (.zT aH jK)) (.call (.cF P rfl) (.type _) (.cons (.name rfl) .nil) (.La (Oo bz))) (.m' (b1 ?_))
   delta tK at ar
   rw[cn]at ar
   simp only[cond_false,ZK]at ar
   exact dt
  ·delta tK
   cases c3==5<;>rfl
 generalize Ow:rA (e5 m) a6 (ak%3) c3=jA at *
 have a3:("230":Str).length=3:=rfl
 have bH:("(":Str).length=1:=rfl
 have pk:=rE m
 have aZ:=adJ jA (some ((3:Nat):Int)) none
 refine .seq (.eS (d:=.list ((Fp (e5 m) jA).map V.str)) (.list (.cons (.name rfl) (.Og (.add (.Oe (.name rfl) .bf dt) (.m' (b1 (XC (YC (adJ _ _ _) _) (by rw[a3];lia))))) (.cons (.tN (.name rfl) .const .const aH dt aH) (.cons (.tN (.name rfl) .const .const aH dt aH) (.cons (.tN (.name rfl) .const (.add (.name rfl) aH (by rw[pk];rfl) (by rw[pk];decide)) (Oi m) dt (by rw[ZK,pk];decide)) (.cons (.name rfl) .nil)))))) (b1 (show(6:Nat)<=100000 by decide)))) ?_
 refine .seq (.eS (d:=.str (hj (e5 m) a6 (ak%3) c3)) (.gZ (ds:=(tL (e5 m) jA).map V.str) (.bin (.name rfl) (.list (.cons (.tN (.name rfl) (.add (.name rfl) aH (by rw[pk];rfl) (by rw[pk];decide)) .const (Oj m) dt aH) (.cons (.zV (.name rfl) (.un .bf .hb) dt) .nil)) (b1 (show(2:Nat)<=100000 by decide))) (.h2 (b1 (show(6+2:Nat)<=100000 by decide)))) (.name rfl) (.iZ g7 ?_ oa))) ?_
 ·rw[(show hj (e5 m) a6 (ak%3) c3=(tL (e5 m) jA).getD c3 "" from by unfold hj;rw[Ow]),X1,X0,XB]
  cases he:(tL (e5 m) jA)[c3]? with
  |none=>
   have:=aez.mp he
   have e:(tL (e5 m) jA).length=8:=rfl
   lia
  |some z=>rfl
 refine .seq (.eS (d:=.str (nE c3 (hj (e5 m) a6 (ak%3) c3))) ?_) ?_
 ·generalize hj (e5 m) a6 (ak%3) c3=mJ at *
  have c9:("reply ":Str).length=6:=rfl
  have dQ:("proto ":Str).length=6:=rfl
  refine .to (.il (b:=c3==0) (bZ:=.str "far") (d₂:=.str (bif c3==1 then "reply "++mJ else bif c3==5 then "value" else "proto "++mJ)) (.cmp (.name rfl) .bf .lR) (λ_=>.dx) λ_=>?_) (by unfold nE;cases c3==0<;>rfl)
  refine .to (.il (b:=c3==1) (bZ:=.str ("reply "++mJ)) (d₂:=.str (bif c3==5 then "value" else "proto "++mJ)) (.cmp (.name rfl) .bf .lR) (λ_=>.bin .dx (.name rfl) (.m' (b1 uO))) λ_=>?_) (by cases c3==1<;>rfl)
  exact .to (.il (b:=c3==5) (bZ:=.str "value") (d₂:=.str ("proto "++mJ)) (.cmp (.name rfl) .bf .lR) (λ_=>.dx) λ_=>.bin .dx (.name rfl) (.m' (b1 uO))) (by cases c3==5<;>rfl)
 refine .one (.ret (.to (.tuple (.cons (.bin .dx (.bin (.name rfl) .bf (.j1 aH)) (.zT (n:=ak%5) aH jK)) (.cons (.name rfl) (.cons (.name rfl) .nil))) (b1 (show(3:Nat)<=100000 by decide))) ?_))
 unfold zX
 rw[Ou,Ov]
end
section
open Builtin Builtin.Str
theorem FA(x y:Str):(partsBetween x (occurrences x y 0 x.length (x.length+1)) y.length).length<=x.length+2:=by
 have:=StrLaws.occ_length_le x y 0 x.length (x.length+1)
 delta partsBetween
 simp only[XJ,abB,Yi,Yv,Z4]
 lia
theorem split_len(x y:Str):(Txt.split x y).length<=x.length+2:=by
 have:=FA x y
 delta Txt.split
 split
 ·simp
 ·split
  ·simp
  ·exact this
section
variable{x:Str}
theorem FC(x y:Str):-1<=afr x y:=by
 delta afr
 split<;>lia
def vW(x:Str):bD:=[("peer",.tuple [.str "far",ay 21]),("resp",.str x)]
def tO(x:Str):bD:=("left",.int (lj x))::vW x
def oF(x:Str):bD:=("right",.int (j3 x))::tO x
abbrev W9:List ZF:=(b6 5).1
abbrev kG:YI:=(b6 5).2
abbrev l0(i:Nat):ZF:=((b6 5).1[i]?).getD (.Break default)
theorem W_(x y:Str)(i:Int):-1<=aeR x y i:=by
 delta aeR
 split<;>lia
theorem zY(ag:x.length<=100)(h:(Z1 x none (some ((3:Nat):Int)) !="229")=false):bR G k kG [] σ (vW x) (l0 0) (·=.next σ (vW x)):=
 .fz (b:=false) (h▸.cmp (.zV (.name rfl) .bf dt) .dx .zU) (λq=>iN q) λ_=>.nil rfl
theorem zZ:bR G k kG [] σ (vW x) (l0 1) (·=.next σ (tO x)):=.eS (.yF (.name rfl) rfl Zm aeF aeE (.cons .dx .nil) .find)
theorem z0(h:¬lj x<0):bR G k kG [] σ (tO x) (l0 2) (·=.next σ (tO x)):=
 .fz (b:=false) (decide_eq_false h▸.cmp (.name rfl) .bf .m_) (λq=>iN q) λ_=>.nil rfl
theorem z1:bR G k kG [] σ (tO x) (l0 3) (·=.next σ (oF x)):=.eS (.yF (.name rfl) rfl Zm aeF aeE (.cons .dx (.cons (.bin (.name rfl) .bf .addInt) .nil)) .find3)
theorem z2(h:¬j3 x<0):bR G k kG [] σ (oF x) (l0 4) (·=.next σ (oF x)):=
 .fz (b:=false) (decide_eq_false h▸.cmp (.name rfl) .bf .m_) (λq=>iN q) λ_=>.nil rfl
theorem FD{c:Nat}(ag:x.length<=100)(h0:-1<=lj x)(ef:tM x=some c):a8 G k σ getItem (.str x) (.int (lj x+((1:Nat):Int))) (.str ⟨#[c]⟩):=by
 have O:=(aaM.mp ef).1
 have ae:x.cps.size=x.length:=rfl
 exact .yl (by lia) ef (by lia)
theorem Ox{c:Nat}(ag:x.length<=100)(h0:1<=j3 x)(ea:vV x=some c):a8 G k σ getItem (.str x) (.int (j3 x-((1:Nat):Int))) (.str ⟨#[c]⟩):=by
 have O:=(aaM.mp ea).1
 have ae:x.cps.size=x.length:=rfl
 exact .yl (by lia) ea (by lia)
theorem FE{c d:Nat}(ag:x.length<=100)(O:1<=j3 x)(ef:tM x=some c)(ea:vV x=some d){b:Bool}(h:((⟨#[c]⟩:Str) !=⟨#[d]⟩)=b){t:Yy}{tP z3:List ZF}(a_:l0 5=.If t tP z3 p):fp G k kG σ (oF x) t b:=by
 cases a_
 exact h▸.cmp (.u6 (.name rfl) (.bin (.name rfl) .bf .addInt) (FD ag (FC _ _) ef)) (.u6 (.name rfl) (.bin (.name rfl) .bf .pF) (Ox ag O ea)) .zU
def rF(x:Str)(c:Nat):bD:=("parts",.list ((ll x c).map V.str))::oF x
theorem Oy{c:Nat}(ag:x.length<=100):(ll x c).length<=102:=by
 have O:=split_len (Z1 x (some (lj x+((1:Nat):Int))) (some (j3 x))) ⟨#[c]⟩
 have ae:=adJ x (some (lj x+((1:Nat):Int))) (some (j3 x))
 delta ll
 lia
theorem z4{c:Nat}(ag:x.length<=100)(ef:tM x=some c):bR G k kG [] σ (oF x) (l0 6) (·=.next σ (rF x c)):=by
 have ae:=adJ x (some (lj x+((1:Nat):Int))) (some (j3 x))
 have a2:=FA (Z1 x (some (lj x+((1:Nat):Int))) (some (j3 x))) ⟨#[c]⟩
 exact .eS (.yF (.Of (.name rfl) (.bin (.name rfl) .bf .addInt) (.name rfl) dt) rfl Zm PySem.F.slot_str_split PySem.F.type_str_split (.cons (.u6 (.name rfl) (.bin (.name rfl) .bf .addInt) (FD ag (FC _ _) ef)) .nil) (.split rfl (XC ae dt) (XC a2 (by lia))))
theorem FF(P:cK G aK){c:Nat}(ag:x.length<=100){b:Bool}(h:((ll x c).length !=5)=b){t:Yy}{tP z3:List ZF}(a_:l0 7=.If t tP z3 p):fp G k kG σ (rF x c) t b:=by
 cases a_
 have:=Oy (c:=c) ag
 exact h▸.cmp (.to (.call (.cF P rfl) (.dV _) (.cons (.name rfl) .nil) (bW.len (S:=[]) (ds:=(ll x c).map V.str) .list (by simp;exact jJ))) (dM:=ay (ll x c).length) (by simp)) .bf .neN
theorem z5{c d:Nat}(ag:x.length<=100)(O:1<=j3 x)(ef:tM x=some c)(ea:vV x=some d)(h:((⟨#[c]⟩:Str) !=⟨#[d]⟩)=false):bR G k kG [] σ (oF x) (l0 5) (·=.next σ (oF x)):=
 .fz (b:=false) (FE ag O ef ea h rfl) (λq=>iN q) λ_=>.nil rfl
theorem FG(P:cK G aK){c:Nat}(ag:x.length<=100)(h:((ll x c).length !=5)=false):bR G k kG [] σ (rF x c) (l0 7) (·=.next σ (rF x c)):=
 .fz (b:=false) (FF P ag h rfl) (λq=>iN q) λ_=>.nil rfl
theorem FH{c:Nat}:bR G k kG [] σ (rF x c) (l0 8) (·=.next σ (("host",.str "far")::rF x c)):=.eS (.mu (.name rfl) .bf (.mr aH rfl aH))
theorem FI{c:Nat}(bk:(ll x c)[3]?=some y):((ll x c).map V.str)[((3:Nat):Int).toNat]?=some (.str y):=by
 rw[X1]
 show Option.map V.str ((ll x c)[3]?)=_
 rw[bk];rfl
theorem Oz(P:cK G aK){n:Int}(ag:x.length<=100)(h:h9 x=.ok n):bW G (k+1) σ (.ref (aK 5)) [.str x,.tuple [.str "far",ay 21]] (.tuple [.str "far",.int n]):=by
 delta h9 at h
 split at h
 ·cases h
 rename_i l1
 split at h
 ·cases h
 rename_i c8
 split at h
 ·cases h
 rename_i du
 split at h
 ·cases h
 rename_i eK
 have eK:=adg.mp eK
 split at h
 ·rename_i c d ef ea
  split at h
  ·cases h
  rename_i kC
  split at h
  ·cases h
  rename_i jz
  split at h
  ·rename_i y bk
   split at h
   ·rename_i m hm
    split at h
    rotate_left
    ·cases h
    rename_i OA
    cases h
    refine bW.of_body (P.fn 5 _ rfl) rfl (.seq (zY ag (by simpa using l1)) (.seq zZ (.seq (z0 c8) (.seq z1 (.seq (z2 du) (.seq (z5 ag eK ef ea (by simpa using kC)) (.seq (z4 ag ef) (.seq (FG P ag (by simpa using jz)) (.seq FH (.seq (.eS (d:=.int n) ?_) (.one (.ret (.tuple (.cons (.name rfl) (.cons (.name rfl) .nil)) (b1 (show(2:Nat)<=100000 by decide)))))))))))))))
    refine .call (.cF P rfl) (.type _) (.cons (.gZ (.name rfl) .bf (.iZ (d:=.str y) aH ?_ aH)) .nil) (.Lb hm ?_)
    ·exact FI bk
    ·exact OA
   ·split at h<;>cases h
  ·cases h
 ·cases h
theorem OB(P:cK G aK){pos:Pos}:aN G k kG σ Γ (.Name "error_reply" pos) (.raw (.ref (aK 3))):=.globT P rfl
theorem vX(P:cK G aK){pos:Pos}:aN G k kG σ Γ (.Name "error_proto" pos) (.raw (.ref (aK 4))):=.globT P rfl
theorem OC(P:cK G aK)(X:mH G "error_reply" (aK 3))(ag:x.length<=100)(h:h9 x=.p8):nC G (k+1) σ (.ref (aK 5)) [.str x,.tuple [.str "far",ay 21]] (.ref (aK 3)) (some x):=by
 have l1:(Z1 x none (some ((3:Nat):Int)) !="229")=true:=by
  delta h9 at h
  split at h
  ·assumption
  ·repeat' (split at h<;>try cases h)
 refine nC.of_body (P.fn 5 _ rfl) rfl (.head (.fz (l1▸.cmp (.zV (.name rfl) .bf dt) .dx .zU) (.head (.raise X (OB P) (.name rfl)))))
theorem OD(P:cK G aK)(X:mH G "error_proto" (aK 4))(ag:x.length<=100)(h:h9 x=.oE):nC G (k+1) σ (.ref (aK 5)) [.str x,.tuple [.str "far",ay 21]] (.ref (aK 4)) (some x):=by
 refine nC.of_body (P.fn 5 _ rfl) rfl ?_
 delta h9 at h
 split at h
 ·cases h
 rename_i l1
 refine .seq (zY ag (by simpa using l1)) (.seq zZ ?_)
 split at h
 ·rename_i c8
  exact .head (.fz (decide_eq_true c8▸.cmp (.name rfl) .bf .m_) (.head (.raise X (vX P) (.name rfl))))
 rename_i c8
 refine .seq (z0 c8) (.seq z1 ?_)
 split at h
 ·rename_i du
  exact .head (.fz (decide_eq_true du▸.cmp (.name rfl) .bf .m_) (.head (.raise X (vX P) (.name rfl))))
 rename_i du
 refine .seq (z2 du) ?_
 split at h
 ·cases h
 rename_i eK
 have eK:=adg.mp eK
 split at h
 ·rename_i c d ef ea
  split at h
  ·rename_i kC
   exact .head (.fz (FE ag eK ef ea kC rfl) (.head (.raise X (vX P) (.name rfl))))
  rename_i kC
  refine .seq (z5 ag eK ef ea (by simpa using kC)) (.seq (z4 ag ef) ?_)
  split at h
  ·rename_i jz
   exact .head (.fz (FF P ag jz rfl) (.head (.raise X (vX P) (.name rfl))))
  repeat' (split at h<;>try cases h)
 ·cases h
theorem OE(P:cK G aK)(ag:x.length<=100)(h:h9 x=.value):nC G (k+1) σ (.ref (aK 5)) [.str x,.tuple [.str "far",ay 21]] (.type "ValueError") none:=by
 refine nC.of_body (P.fn 5 _ rfl) rfl ?_
 delta h9 at h
 split at h
 ·cases h
 rename_i l1
 split at h
 ·cases h
 rename_i c8
 split at h
 ·cases h
 rename_i du
 split at h
 ·cases h
 rename_i eK
 have eK:=adg.mp eK
 split at h
 ·rename_i c d ef ea
  split at h
  ·cases h
  rename_i kC
  split at h
  ·cases h
  rename_i jz
  split at h
  ·rename_i y bk
   split at h
   ·split at h<;>cases h
   ·split at h
    ·rename_i uT
     subst uT
     refine iD.seq (zY ag (by simpa using l1)) (iD.seq zZ (iD.seq (z0 c8) (iD.seq z1 (iD.seq (z2 du) (iD.seq (z5 ag eK ef ea (by simpa using kC)) (iD.seq (z4 ag ef) (iD.seq (FG P ag (by simpa using jz)) (iD.seq FH (iD.head ?_)))))))))
     exact oD.eS (vU.int (.cF P rfl) (.gZ (.name rfl) .bf (.iZ (d:=.str "x") aH (FI bk) aH)))
    ·cases h
  ·cases h
 ·cases h
end
end
section
open Builtin Builtin.Str
structure vY(G:GE)(K:ach)(C D:XM):Prop where
 X:K.In G.h₀
 rep:mH G "error_reply" C
 FJ:mH G "error_proto" D
 hA:exmOne K (.ref C) (.ref C)=some true
 FK:exmOne K (.ref D) (.ref C)=some false
 dd:exmOne K (.ref D) (.ref D)=some true
 FL:exmOne K (.type "ValueError") (.ref C)=some false
 FN:exmOne K (.type "ValueError") (.ref D)=some false
 FO:exmOne K (.type "ValueError") (.type "ValueError")=some true
 FP:findIn K (.ref C) "__str__" = some (some (.builtin "BaseException.__str__"))
 FQ:findIn K (.ref D) "__str__" = some (some (.builtin "BaseException.__str__"))
 FR:mroIn K C (.type "BaseException")=some true
 FS:mroIn K D (.type "BaseException")=some true
section
variable{x e jA:XM}{m:Str}{cD:Tok}
theorem OF:Slot "Exception" "__str__" "BaseException.__str__":=.of (owner:="BaseException") (n:="__str__") (by rw[adh,abA];kernel_rfl) aQ aQ aQ
 (by first|exact .inl aQ|exact .inr aQ) (by rw[ady];kernel_rfl)
theorem OG{items:List XF}{o:Obj}{vs:Array XF}{Q:XF×List XF->XG->Prop}(aP:s.heap.get? e=some o)(hd:o.data=.fields vs)(h0:vs[0]?=some (.ref jA))(a_:s.heap.TupAt jA items)(aR:Q (.ref jA,items) s):
  wpAny M A (afD (.ref e)) Q E s:=by
 refine bC λ_ a'=>?_
 obtain⟨FT,k,OH,_,OI⟩:=a_
 refine a' ?_
 refine XA (Zv aP hd h0 (XA (aal OH OI ?_)))
 have:items.toArray.toList=items:=rfl
 show wpAny M A (pure (ZR jA,items.toArray.toList)) Q E s
 exact this.symm▸XK aR
theorem OJ{o:Obj}{vs:Array XF}{Q:Fin->XG->Prop}(aP:s.heap.get? e=some o)(hd:o.data=.fields vs)(h0:vs[0]?=some (.ref jA))(a_:s.heap.TupAt jA [.str m cD])(aR:Q (.done (.ret (.str m cD))) s):
  wpAny (model prog w) A (Y4.«BaseException.__str__» ⟨[.ref e],[]⟩) Q E s:=by
 repeat (first|with_reducible refine OG aP hd h0 a_ ?_|wp_step)
 exact aR
theorem z6{name:Str}{as:List XF}{Q:Option XF->XG->Prop}(X:K.In s.heap)(LT:Z_ (model prog w) s.heap (typeOf (.ref x)) (.ref C))(aG:findIn K (.ref C) name=some (some (.builtin id)))
  (H:∀self,bindSpecial (.builtin id) self=pure (.builtin id,[self])) (h:wpAny (model prog w) A (call (.builtin id) (.ref x::as)) (λv=>Q (some v)) E s):wpAny (model prog w) A (callSpecial? (.ref x) name as) Q E s:=
 XA (XA (LT.here ((Z0 X aG).here (X7 (XA ((Looks.of_pure (H _)).here (XA (Zi h (λ_ _ z=>XK z) λ_ _ z=>z))))))))
theorem OK{vs:Array XF}{Q:XF->XG->Prop}(dh:A.in1.in1.units<cLine)(X:K.In s.heap)(aP:s.heap.get? x=some ox)(fN:ox.cls=.ref C)(aG:findIn K (.ref C) "__str__" = some (some (.builtin "BaseException.__str__")))(hm:mroIn K C (.type "BaseException")=some true)
  (hd:ox.data=.fields vs) (h0:vs[0]?=some (.ref jA)) (a_:s.heap.TupAt jA [.str m cD]) (aR:Q (.str m cD) s):wpAny (model prog w) A (call (.type "str") [.ref x]) Q E s:=by
 have LT:Z_ (model prog w) s.heap (typeOf (.ref x)) (.ref C):=by rw[<-fN];exact(acY aP).andThen .now
 refine callType_codes (T:="str") (Bi:=Y4.«object.__init__») (Q₁:=λr aj=>∃y u,r=.str y u/\Q r aj) ac_ (PySem.F.typeCall_str_1 _) PySem.F.entry_object_init ?_ ?_
 ·refine ZA ?_
  show wpAny _ A.in1.in1 (do checkBuiltinCall "str.__new__" ⟨[.type "str",.ref x],[]⟩;again (.builtin "str.__new__" ⟨[.type "str",.ref x],[]⟩)) _ _ s
  refine XA (Zg (PySem.F.newCall_str_1 _) (XK ⟨aa8 aQ _,abX PySem.F.entry_str_new ?_⟩))
  rw[aak aQ _]
  rw[str_new_tree]
  refine XA (XK ?_)
  refine XA (Zg isSubtype_str_str ?_)
  have key:wpAny (model prog w) A.in1.in1 (adi (.ref x)) (λr aj=>∃y u,r=.str y u/\Q r aj) E s:=by
   delta adi
   rw[show isExactStr (.ref x)=false from rfl]
   refine XA (m:=cRoomFor _ _) (ahN dh ?_)
   refine XA (m:=callSpecial? (.ref x) (Yr "__str__")) (z6 X LT aG OF.bind ?_)
   refine aa' (abO aQ PySem.F.entry_bexc_str (ae3 (i:="BaseException.__str__") (owner:="BaseException") (n:="__str__") aQ aQ (LT.andThen (agr X hm)) (PySem.F.args_bexc_str _) ?_))
   exact OJ aP hd h0 a_ (XK ⟨_,_,rfl,aR⟩)
  exact XA (Zi key (λr aj ai=>XK ai) λ_ _ y=>y)
 ·intro obj aj dG
  refine g8 dG λy u aB aR=>?_
  subst aB
  exact⟨aaY _ _ _,PySem.F.args_object_init_2 _ _,object_init_meets ac_.init.lookup ac_.made aH prog w A.in1 _ aj ⟨aaY _ _ _,rfl,aR⟩⟩
theorem tQ{x:Str}{pos:Pos}{v:XF}{m:Str->Option XF}{Q:XF->XG->Prop}(aL:env.scope.kind=.function)(aw:env.kindOf x=some .local)(n:s.heap.Ns env.locals m)(e:m x=some v)(h:Q v s)(hd:autoParam ((x==("__debug__":Str))=false) aD):wpAny M A (eval (.Name x pos) env) Q E s:=
 ac6 (aaX aL aw n e h) hd
theorem p_{x:Str}{pos:Pos}{v:XF}{Q:XF->XG->Prop}(ok:G.Ok)(H:∀b o,G.h₀.get? b=some o->s.heap.get? b=some o)(aa:cT G sc env)(hm:G.mg x=some v)(h:Q v s)(aL:autoParam (sc.kind=.function) aI)(ag:autoParam (sc.names.lookup x=some .globalImplicit) aI)(hd:autoParam ((x==("__debug__":Str))=false) aD):wpAny M A (eval (.Name x pos) env) Q E s:=by
 refine aau (by rw[aa.scope];exact aL) (by unfold Yh;rw[aa.scope];exact ag) ?_ hd
 refine aec («env»:=env) (mg:=G.mg) ?_ hm h
 exact aa.globals▸ok.g.keeps H
theorem FU{x:Str}{pos:Pos}{v:XF}{Q:XF->XG->Prop}(ok:G.Ok)(H:∀b o,G.h₀.get? b=some o->s.heap.get? b=some o)(aa:cT G sc env)(hm:G.mg x=none)(bJ:bootBuiltins x=some v)(b':x≠"__name__")(h:Q v s)(aL:autoParam (sc.kind=.function) aI)(ag:autoParam (sc.names.lookup x=some .globalImplicit) aI)(hd:autoParam ((x==("__debug__":Str))=false) aD):wpAny M A (eval (.Name x pos) env) Q E s:=by
 refine aau (by rw[aa.scope];exact aL) (by unfold Yh;rw[aa.scope];exact ag) ?_ hd
 refine ace («env»:=env) (mg:=G.mg) (mb:=G.mb) ?_ hm ?_ ((ok.builtins x b').trans bJ) h
 ·rw[aa.globals];exact ok.g.keeps H
 ·rw[aa.builtins];exact ok.b.keeps H
end
structure hC(base:Zu)(S:List XM)(l:List Env)(L e t:XM)(cls:XF)(args:List XF)(cY h:Zu):Prop where
 hB:acz base l e cls (.ref t) h
 tup:h.TupAt t args
 ns:∃m,h.Ns L m
 up:∀b∈S,∀o,cY.get? b=some o->∃bE,h.get? b=some {o with slots:=bE}
theorem hC.next{l:List Env}{L e t:XM}(x:hC base S l L e t cls args cY h)(hd:∀b∈S,∀o,cY.get? b=some o->∀vs,o.data≠.fields vs)(f:acz base l e cls (.ref t) ah)(u:h.UpToSlots ah):hC base S l L e t cls args cY ah:=
 ⟨f,x.tup.of_slots u,by obtain⟨m,n⟩:=x.ns;exact⟨m,u.ns n⟩,λb H o aP=>by obtain⟨bE,e⟩:=x.up b H o aP;exact by obtain⟨vZ,b8⟩:=u b _ e (hd b H o aP);exact⟨vZ,b8⟩⟩
section
variable{outer:List Env}{e t:XM}{Q:Unit->XG->Prop}
theorem z7(hP:A.frames=some (env::outer))(hf:env.frame=some env.locals)(hd:∀b∈S,∀o,cY.get? b=some o->∀vs,o.data≠.fields vs)(x:hC base S (env::outer) env.locals e t cls args cY s.heap)
  (h:∀ah,hC base S (env::outer) env.locals e t cls args cY ah->Q () {s with heap:=ah}):wpAny M A (noteFrame (.ref e) env) (λ_ aj=>wpAny M A (setFlight (.ref e) none) Q E aj) E s:=by
 refine wpAny_looks_onW hP hf x.hB λdc OL OM=>?_
 refine wpAny_landsW (s:={s with heap:=dc}) OL λeh ON OO=>h eh (x.next hd ON (OM.trans OO))
theorem FV(hd:∀b∈S,∀o,cY.get? b=some o->∀vs,o.data≠.fields vs){fi:Yz}(x:hC base S (env::outer) env.locals e t cls args cY s.heap)
  (h:∀ah,hC base S (env::outer) env.locals e t cls args cY ah->Q () {s with heap:=ah}):wpAny M fi (setFlight (.ref e) none) Q E s:=by
 exact wpAny_setFlight_noneW x.hB.1 x.hB.2.2.1 x.hB.2.2.2.at λah k1 k2 k3 OP=>h ah (x.next hd ⟨k1,x.hB.2.1,k2,k3⟩ λb o H az=>⟨o.slots,OP b o H az⟩)
theorem hC.first{l:List Env}{L:XM}(x:hC base S l L e t cls args cY h):∃nF vs,h.get? e=some nF/\nF.cls=cls/\nF.data=.fields vs/\vs[0]?=some (.ref t)/\e≠L:=by
 refine qL x.hB.first λnF vs O ae a2 b_=>?_
 refine⟨nF,vs,O,ae,a2,b_,λq=>?_⟩
 obtain⟨m,o,aZ,kg,aP,hd,_⟩:=x.ns
 rw[<-q,O]at aP;cases aP
 cases a2.symm.trans hd
theorem hC.type{l:List Env}{L:XM}(x:hC base S l L e t cls args cY h):Z_ M h (typeOf (.ref e)) cls:=by
 refine gI x.first λnF vs O ae _=>?_
 subst ae
 exact(acY O).andThen .now
end
section
variable{outer:List Env}{e t:XM}{c:XF}{nG:Yy}{name:Option Str}{pos:Pos}{bS:List afC}
theorem z8(X:K.In s.heap)(x:hC base S (env::outer) env.locals e t cls args cY s.heap)(ag:exmOne K cls c=some false)(a_:∀(fi:Yz) (bX cI:XF->XG->Prop),bX c s->wpAny (model prog w) fi (eval nG env) bX cI s)
  (h:wpAny (model prog w) A (handleBy (.ref e) env bS) Q E s):wpAny (model prog w) A (handleBy (.ref e) env (.ExceptHandler (some nG) name body pos::bS)) Q E s:=by
 refine adG (adm (a_ _ _ _ ?_)) (by intro q;cases q)
 refine(exm_one X x.type ag).here ?_
 exact h
theorem OQ{tR:ZF}(X:K.In s.heap)(x:hC base S (env::outer) env.locals e t cls args cY s.heap)(hd:∀b∈S,∀o,cY.get? b=some o->∀vs,o.data≠.fields vs)(ag:exmOne K cls c=some true)(a_:∀(fi:Yz) (bX cI:XF->XG->Prop),bX c s->wpAny (model prog w) fi (eval nG env) bX cI s)
  (h:∀cI ah,hC base S (env::outer) env.locals e t cls args cY ah->wpAny (model prog w) (A.mark (some (.ref e))) (execs (tR::body) env) Q cI {s with heap:=ah}):wpAny (model prog w) A (handleBy (.ref e) env (.ExceptHandler (some nG) none (tR::body) pos::bS)) Q E s:=by
 refine adG (adm (a_ _ _ _ ?_)) (by intro q;cases q)
 refine(exm_one X x.type ag).here ?_
 exact codeAny_handlers_suite (FV hd x λah z9=>h _ ah z9)
theorem FW{tR:ZF}{n:Str}(X:K.In s.heap)(x:hC base S (env::outer) env.locals e t cls args cY s.heap)(hd:∀b∈S,∀o,cY.get? b=some o->∀vs,o.data≠.fields vs)(ag:exmOne K cls c=some true)(a_:∀(fi:Yz) (bX cI:XF->XG->Prop),bX c s->wpAny (model prog w) fi (eval nG env) bX cI s)
  (h:∀cI ah,hC base S (env::outer) env.locals e t cls args cY ah->wpAny (model prog w) (A.mark (some (.ref e))) (storeName env n (.ref e)) (λ_ bI=>wpAny (model prog w) (A.mark (some (.ref e))) (execs (tR::body) env) (λf bM=>wpAny (model prog w) A (do bindName env n .none;unbindBehindTheSuite env n pos) (λ_ ez=>Q f ez) E bM) (AsSuiteRaised (model prog w) (A.mark (some (.ref e))) env n pos (notedBy (model prog w) (A.mark (some (.ref e))) env (cameBackBy (model prog w) A env E))) bI) cI {s with heap:=ah}):wpAny (model prog w) A (handleBy (.ref e) env (.ExceptHandler (some nG) (some n) (tR::body) pos::bS)) Q E s:=by
 refine adG (adm (a_ _ _ _ ?_)) (by intro q;cases q)
 refine(exm_one X x.type ag).here ?_
 exact codeAny_handlers_suite_as (FV hd x λah z9=>h _ ah z9)
end
end
section
open Builtin Builtin.Str
theorem OR{h₀:afC}{aG:List afC}{pos:Pos}
  (h:bj (model prog w) A (execs body env) (λf aj=>match f with | .next=>bj (model prog w) A (execs orelse env) Q E aj|f=>Q f aj)
   (λe aj=>bj (model prog w) A (noteFrame e env) (λ_ ao=>bj (model prog w) A (setFlight e none) (λ_ bI=>bj (model prog w) A (handleBy e env (h₀::aG)) Q E bI) E ao) E aj) s) :
  bj (model prog w) A (exec (.Try body (h₀::aG) orelse [] pos) env) Q E s:=by
 refine iC ?_
 refine d8 (E0 (mF h (λf aj dc=>?_) λe aj dc=>?_))
 ·cases f<;>first|exact dc|exact fb dc
 ·exact fC dc λ_ _ eh=>zA X' (fC eh λ_ _ hi=>zA X' (zA X' hi))
theorem z_{pos:Pos}{w:Option Str}{f:XF}{dD:Yy}{Q:XF->XG->Prop}(hf:aN G k sc σ Γ dD (.raw f))(au:Calls G f)(O:gM G k sc σ Γ (e::aZ) ds)(ae:nC G k σ f ds cls w)
  (aW:cs A k) (K:c5 A (some env.locals) pr s.heap) (aa:cT G sc env) (W:a4 G σ pr s) (F:bg σ pr s.heap env Γ)
  (dO:∀aj e t args l J,bb s aj->A.frames=some l->acz (hideAll aj.heap (dm A)) l e cls (.ref t) J.heap->J.heap.TupAt t args->tJ w args->c_ A jk σ σ aj J->E (.ref e) J)
  (he:autoParam (dU e aZ) aI) (fg:autoParam (BT pos aZ) aI)
  (aR:autoParam (ik dD (e::aZ) pos) aI):bj (model G.prog G.w) A (eval (.Call dD (e::aZ) [] pos) env) Q E s:=by
 rw[aR]
 refine d8 (cL (hf A env pr s _ _ aW aa W F λv aj ax a0=>?_))
 have cM:=a0.dB
 subst cM
 have H:Yw pos (X5 (e::aZ) env)=(false,eval e env)::Yw pos (X5 aZ env):=by rw[he];rfl
 have km:(Yw pos (X5 (e::aZ) env)).any (·.1)=false:=by rw[H,abu,fg];rfl
 have key:∀(f:XF) (bX:Args->XG->Prop),(∀vs J,bb aj J->a5 (aT σ pr) J.heap vs ds->bX ⟨vs,[]⟩ J)->bj (model G.prog G.w) A (evalArgs f true (Yw pos (X5 (e::aZ) env)) []) bX E aj:=λf bX aR=>by
  rw[H]
  refine vP ?_
  exact H▸cL (O A env pr aj pos _ _ aW aa (W.keep ax) (F.keep ax) aR)
 have fin:∀vs ao,bb aj ao->a5 (aT σ pr) ao.heap vs ds->bj (model G.prog G.w) A (acp v vs) Q E ao:=λvs ao aM bG=>
  ae A pr ao vs _ _ aW ((K.keeps (ax.trans aM)).full (F.keep (ax.trans aM))) (W.keep (ax.trans aM)) bG λe t args l J=>dO ao e t args l J (ax.trans aM)
 cases au with
 |dV id=>exact zD km (key _ _ fin)
 |type T=>exact vQ km (key _ _ fin)
 |func aP hd=>exact zC (o:=_) (fd:=_) (key _ _ λvs J bN bV=>⟨⟨(W.keep (ax.trans bN)).base _ _ aP,hd⟩,fin vs J bN bV⟩)
def gA(x:Str):V:=match h9 x with
 |.ok n=>.tuple [.str "far",.int n]
 |.p8=>.str ("reply "++x)
 |.oE=>.str ("proto "++x)
 |.value=>.str "value"
 |.bad=>.none
abbrev W':List ZF:=(b6 18).1
abbrev Xa:YI:=(b6 18).2
section
variable{x:Str}{outer:List Env}{e t:XM}
structure rG(base:Zu)(S:List XM)(cY h:Zu):Prop where
 base:base.StaysIn h
 up:∀b∈S,∀o,cY.get? b=some o->∃bE,h.get? b=some {o with slots:=bE}
theorem hC.done{l:List Env}{L:XM}(x:hC base S l L e t cls args cY h):rG base S cY h:=⟨x.hB.1,x.up⟩
theorem rG.but{L:XM}(x:rG base S cY h)(H:base.get? L=none)(cU:L∉S)(b:aac L h ah):rG base S cY ah:=
 ⟨λc o e=>(b.2 c (λq=>by rw[q,H]at e;cases e)).trans (x.base c o e),λc au o aP=>by obtain⟨bE,e⟩:=x.up c au o aP;exact⟨bE,(b.2 c (λq=>cU (q▸au))).trans e⟩⟩
theorem FX{n pre:Str}{u:Tok}{d0:Nat}{cb dw el dW nz rH pos:Pos}{OS cI:XF->XG->Prop}(ok:G.Ok)(OT:K.In G.h₀)(H:∀b o,G.h₀.get? b=some o->base.get? b=some o)(x:hC base S (env::outer) env.locals e t (.ref C) [.str y u] cY s.heap)(aG:findIn K (.ref C) "__str__" = some (some (.builtin "BaseException.__str__")))(hm:mroIn K C (.type "BaseException")=some true)
  (dh:A.units+10<cLine) (hP:env.locals∉S) (kz:base.get? env.locals=none) (aa:cT G sc env) (OU:G.mg "str" = none) (iv:sc.names.lookup ("str":Str)=some aaZ) (aL:sc.kind=.function) (az:sc.names.lookup n=some .local) (hsz:pre.length+y.length<=1000) (OV:(n==("__debug__":Str))=false)
  (aA:∀cD ah toks,rG base S cY ah->Q (.ret (.str (pre++y) cD)) {s with heap:=ah,toks:=toks}) :
  wpAny (model G.prog G.w) (A.mark (some (.ref e))) (storeName env n (.ref e)) (λ_ bI=>wpAny (model G.prog G.w) (A.mark (some (.ref e))) (execs [.Return (some (.BinOp (.Constant (.str pre) d0 cb) .Add (.Call (.Name "str" dw) [.Name n el] [] dW) nz)) rH] env) (λf bM=>wpAny (model G.prog G.w) A (do bindName env n .none;unbindBehindTheSuite env n pos) (λ_ ez=>Q f ez) E bM) OS bI) cI s:=by
 have iS:env.scope.kind=.function:=by rw[aa.scope];exact aL
 have aw:env.kindOf n=some .local:=by unfold Yh;rw[aa.scope];exact az
 have ar:(env.scope.kind==.class||(env.scope.kind==.module&&env.locals !=env.globals))=false:=by rw[iS];rfl
 refine cS x.ns λrI eU=>?_
 refine xK x.first λnF vs a3 bH dP fZ h_=>?_
 refine af7 aw eU (λdc FY z'=>?_) ar
 have FZ:=x.done.but kz hP z'
 have F0:=λb o q=>FZ.base b o (H b o q)
 have OW:=(z'.2 e h_).trans a3
 have rD:dc.TupAt t [.str y u]:=by
  obtain⟨FT,bt,lC,mn,rJ⟩:=x.tup
  refine⟨FT,bt,(z'.2 t λq=>?_).trans lC,mn,rJ⟩
  obtain⟨o,aZ,kg,aP,hd,_⟩:=eU
  rw[<-q,lC]at aP;cases aP
  cases rJ.symm.trans hd
 refine Ze (Z9 (abM (ZW ?_)))
 rw[show eval (.Call (.Name "str" dw) [.Name n el] [] dW) env=(do Z5 dW (<-eval (.Name "str" dw) env) [] (Yw dW (X5 [.Name n el] env)) (backToKw dW (Zh [] env)))from rfl]
 refine XA (FU ok F0 aa OU (by rfl) aH ?_ aL iv)
 refine abl rfl ?_
 refine abp (YE (tQ iS aw FY (if_pos rfl) (Zc ?_) OV) rfl)
 refine OK (by show A.units+1+1<cLine;lia) (OT.keeps F0) OW bH aG hm dP fZ rD ?_
 refine ad6 (λfE Xb=>?_) (b1 dt)
 refine wpAny_nameGoes aw FY ar λeh i9 F1 oG=>?_
 exact aA _ eh _ (FZ.but kz hP oG)
theorem c_.OX(x:c_ A jk σ σ s J):KB (·∈dm A) s J:=⟨λb o H e=>x.get (λq=>q) H e,x.size,x.os,x.gens⟩
theorem OY(P:cK G aK)(Z:vY G K (aK 3) (aK 4))(ag:x.length<=100)(ar:h9 x≠.bad):fs G (k+2) [] σ (.ref (aK 18)) [.str x] (λY d=>Y=σ/\d=gA x):=by
 intro A pr s vs Q E aW oH W r aA
 refine Fn ?_
 refine bC λ_ a'=>?_
 obtain⟨cd,ix,h⟩:=P.fn 18 _ rfl
 obtain⟨o,fd,O,ae,a2,b_,cn,gQ,dJ,fA,kt,pN,pO⟩:=h.ex
 refine a' ?_
 subst pN pO
 refine zI (ws:=vs) (ds:=[.str x]) aW W (W.base _ _ O) ae a2 b_ cn gQ (fA.keeps W.base) (.of_eq (kt vs r.length)) rfl r dJ h.sV h.c2 h.nm h.co h.gen h.kind λenv np ao aa au aR hP p6 ng cg bt kD bo bQ=>?_
 obtain⟨F2,oC,_⟩:=id oH
 have lU:=cg _ p6
 have j2:=oH.deeper bt (by rw[aa.scope];exact h.kind) hP p6
 have v0:(A.deeper env).frames=some (env::F2):=aaL oC
 have Aa:=Fk oC hP
 have F3:env.locals∉dm A:=λq=>absurd (oH.lt W q) (ZS.mpr lU)
 have rK:∀b∈dm A,∀o,s.heap.get? b=some o->∀vs,o.data≠.fields vs:=λb H o aP vs q=>by
  refine d6 (oH.dm H) λ_ lc=>?_
  obtain⟨m,gX,aZ,kg,p5,hd,_⟩:=lc.resolve_left λq=>mX q
  cases aP.symm.trans p5
  cases hd.symm.trans q
 refine p3 (OR (p3 (E7 ?_)))
 -- L9 L_ words are refused
 have fin:∀(aj J:XG) (y:Str) (cD:Tok) (ah:Zu) (toks:Nat),bb ao aj->c_ (A.deeper env) jk σ σ aj J->gA x=.str y->rG (hideAll aj.heap (dm (A.deeper env))) (dm A) s.heap ah->s.heap.objs.size<=ah.objs.size->Q (.str y cD) {J with heap:=ah,toks:=toks}:=by
  intro aj J y cD ah toks ks eB bk D hsz
  have st:c_ A jk σ σ s {J with heap:=ah,toks:=toks}:=by
   refine⟨λb o _ e=>?_,hsz,eB.os.trans (ks.os.trans bt.os),bt.gens.trans (ks.gens.trans eB.gens),λb H=>.inl H,λb H=>H⟩
   by_cases H:b∈dm A
   ·refine cS (D.up b H o e) λbE b8=>?_
    exact⟨bE,b8,λq=>absurd H q⟩
   ·refine⟨o.slots,D.base b o (abN _ (ks.get (bt.get e)) ?_),λ_=>rfl⟩
    rw[Aa]
    intro q
    rcases XH.mp q with rfl|q
    ·exact absurd (XX e) (ZS.mpr lU)
    ·exact H q
  have bc:=W.aJ st.OX λb H=>(oH.dm H).1
  exact aA σ (gA x) _ _ ⟨rfl,rfl⟩ (st.mono λ_ q=>q.elim) (oH.eB st λ_ _ q=>q.elim) bc (bk▸.str _ _)
 have Ab:∀(aj J:XG) (e t:XM) (args:List XF) (cls:XF) (l:List Env),bb ao aj->(A.deeper env).frames=some l->acz (hideAll aj.heap (dm (A.deeper env))) l e cls (.ref t) J.heap->J.heap.TupAt t args->c_ (A.deeper env) jk σ σ aj J->hC (hideAll aj.heap (dm (A.deeper env))) (dm A) (env::F2) env.locals e t cls args s.heap J.heap:=by
  intro aj J e t args cls l ks aw kE nD eB
  cases v0.symm.trans aw
  obtain⟨m,hm⟩:=bQ.ns
  refine⟨kE,nD,⟨m,vS hm λo aP=>by obtain⟨bE,a3,_⟩:=eB.keep _ o (λq=>q) (ks.get aP);exact⟨bE,a3⟩⟩,λb H o aP=>?_⟩
  refine bB (eB.keep b o (λq=>q) (ks.get (bt.get aP))) λbE a3 _=>?_
  exact⟨bE,a3⟩
 have kz:∀(aj:XG),(hideAll aj.heap (dm (A.deeper env))).get? env.locals=none:=λaj=>aed _ (by rw[Aa];exact .head _)
 have et:∀(aj:XG),bb ao aj->∀b o,G.h₀.get? b=some o->(hideAll aj.heap (dm (A.deeper env))).get? b=some o:=λaj ks b o e=>by
  refine abN _ (ks.get (bo.base b o e)) λq=>?_
  rw[Aa]at q
  have H:=XX (W.base b o e)
  rcases XH.mp q with rfl|q
  ·exact absurd H (ZS.mpr lU)
  ·rw[W.above b (.inr (oH.dm q).1)]at e;cases e
 cases nH:h9 x with
 |ok n=>
  refine cL (aN.run (d:=.tuple [.str "far",.int n]) ?_ kD aa bo bQ λv J ks ej hsz=>?_)
  ·exact .call (.globT P rfl) (P.calls (i:=5) rfl) (.cons (.name rfl) (.cons (.tuple (.cons .dx (.cons .bf .nil)) aH) .nil)) (Oz P ag nH)
  have st:c_ A (·∈[]) σ σ s J:=.of (.dF (bt.trans ks))
  refine aA σ (gA x) v J ⟨rfl,rfl⟩ st (oH.keeps (bt.trans ks)) (W.keep (bt.trans ks)) ?_
  unfold gA
  rw[nH]
  exact ej.ei
 |p8=>
  refine z_ (ds:=[.str x,.tuple [.str "far",ay 21]]) ?_ (P.calls (i:=5) rfl) ?_ (OC P Z.rep ag nH) kD j2 aa bo bQ λaj e t args l J ks aw kE nD v1 eB=>?_
  ·exact .globT P rfl
  ·exact .cons (.name rfl) (.cons (.tuple (.cons .dx (.cons .bf .nil)) aH) .nil)
  have X:=Ab aj J e t args _ l ks aw kE nD eB
  obtain⟨u,rfl⟩:=v1 x rfl
  refine cL (Zi (z7 v0 hP rK X (λah j4=>?_)) (λ_ _ q=>cL q) λ_ _ q=>q)
  have eP:∀b o,G.h₀.get? b=some o->ah.get? b=some o:=λb o q=>j4.hB.1 b o (et aj ks b o q)
  refine cL (FW (c:=.ref (aK 3)) (K:=K) (s:={J with heap:=ah}) (Z.X.keeps eP) j4 rK Z.hA (λfi bX cI q=>p_ W.ok eP aa (P.g "error_reply" _ rfl) q) λF4 jl tS=>?_)
  refine FX (s:={J with heap:=jl}) (A:=A.deeper env) (n:="refusal") (pre:="reply ") W.ok Z.X (et aj ks) tS Z.FP Z.FR (by have:=kD.units;lia) F3 (kz aj) aa (P.b "str" _ rfl) rfl rfl rfl (by have:("reply ":Str).length=6:=rfl;exact uO) aH ?_
  intro cD a2 toks D hsz
  exact fin aj J _ cD a2 toks ks eB (by unfold gA;rw[nH]) D hsz
 |oE=>
  refine z_ (ds:=[.str x,.tuple [.str "far",ay 21]]) ?_ (P.calls (i:=5) rfl) ?_ (OD P Z.FJ ag nH) kD j2 aa bo bQ λaj e t args l J ks aw kE nD v1 eB=>?_
  ·exact .globT P rfl
  ·exact .cons (.name rfl) (.cons (.tuple (.cons .dx (.cons .bf .nil)) aH) .nil)
  have X:=Ab aj J e t args _ l ks aw kE nD eB
  obtain⟨u,rfl⟩:=v1 x rfl
  refine cL (Zi (z7 v0 hP rK X (λah j4=>?_)) (λ_ _ q=>cL q) λ_ _ q=>q)
  have eP:∀b o,G.h₀.get? b=some o->ah.get? b=some o:=λb o q=>j4.hB.1 b o (et aj ks b o q)
  refine cL (z8 (c:=.ref (aK 3)) (K:=K) (s:={J with heap:=ah}) (Z.X.keeps eP) j4 Z.FK (λfi bX cI q=>p_ W.ok eP aa (P.g "error_reply" _ rfl) q) ?_)
  refine FW (c:=.ref (aK 4)) (K:=K) (s:={J with heap:=ah}) (Z.X.keeps eP) j4 rK Z.dd (λfi bX cI q=>p_ W.ok eP aa (P.g "error_proto" _ rfl) q) λF4 jl tS=>?_
  refine FX (s:={J with heap:=jl}) (A:=A.deeper env) (n:="refusal") (pre:="proto ") W.ok Z.X (et aj ks) tS Z.FQ Z.FS (by have:=kD.units;lia) F3 (kz aj) aa (P.b "str" _ rfl) rfl rfl rfl (by have:("proto ":Str).length=6:=rfl;exact uO) aH ?_
  intro cD a2 toks D hsz
  exact fin aj J _ cD a2 toks ks eB (by unfold gA;rw[nH]) D hsz
 |value=>
  refine z_ (ds:=[.str x,.tuple [.str "far",ay 21]]) ?_ (P.calls (i:=5) rfl) ?_ (OE P ag nH) kD j2 aa bo bQ λaj e t args l J ks aw kE nD v1 eB=>?_
  ·exact .globT P rfl
  ·exact .cons (.name rfl) (.cons (.tuple (.cons .dx (.cons .bf .nil)) aH) .nil)
  have X:=Ab aj J e t args _ l ks aw kE nD eB
  refine cL (Zi (z7 v0 hP rK X (λah j4=>?_)) (λ_ _ q=>cL q) λ_ _ q=>q)
  have eP:∀b o,G.h₀.get? b=some o->ah.get? b=some o:=λb o q=>j4.hB.1 b o (et aj ks b o q)
  refine cL (z8 (c:=.ref (aK 3)) (K:=K) (s:={J with heap:=ah}) (Z.X.keeps eP) j4 Z.FL (λfi bX cI q=>p_ W.ok eP aa (P.g "error_reply" _ rfl) q) ?_)
  refine z8 (c:=.ref (aK 4)) (K:=K) (s:={J with heap:=ah}) (Z.X.keeps eP) j4 Z.FN (λfi bX cI q=>p_ W.ok eP aa (P.g "error_proto" _ rfl) q) ?_
  refine OQ (c:=.type "ValueError") (K:=K) (s:={J with heap:=ah}) (Z.X.keeps eP) j4 rK Z.FO (λfi bX cI q=>FU W.ok eP aa (P.b "ValueError" _ rfl) (by rfl) aH q) λF4 jl tS=>?_
  refine Ze (Z9 (ZW ?_))
  intro hsz
  exact fin aj J _ _ jl _ ks eB (by unfold gA;rw[nH]) tS.done hsz
 |bad=>exact absurd nH ar
end
end
section
open Builtin Builtin.ObjectAttr
theorem OZ:builtinKind "list.__new__" = some .builtinFn:=by kernel_rfl
theorem O0:splitId "list.__new__" = some ("list","__new__"):=by kernel_rfl
theorem O1:abt "list.__new__" = some ⟨.any,"list","list",.cls,[⟨"args",.varPos,false⟩,⟨"kwargs",.varKw,false⟩]⟩:=by kernel_rfl
structure nI(K:ach)(C ln:XM):Prop where
 bE:∃fF eg cd bE,K.lookup C=some ⟨fF,eg,.cls cd,bE⟩/\(bE.toList[4]?).join=some (.builtin "list.__new__")
 call:specialIn K (.ref C) "__call__" = some (some (.builtin "type.__call__"))
 typ:instIn K (.ref C) (.type "type")=some true
 init:findIn K (.ref C) "__init__" = some (some (.ref ln))
 fn:typeIn K (.ref ln)=some (.type "function")
section
variable{R:aaB->XG->Prop}{g:Array aaI}{d:Drawn}
theorem Ac(X:K.In h)(a:AC G K C)(mk:nI K C ln):Z_ M h (aht (.ref C)) (some "list.__new__"):=by
 refine su mk.bE λfF eg cd bE aP aG=>?_
 refine gU a.cd λF5 c8 du _=>?_
 have au:clsIn K C=some cd:=by unfold clsIn;rw[aP]
 cases au.symm.trans c8
 intro A Q E s k q
 refine XA ((show Z_ M h (mroOf (.ref C)) cd.mro from(adx X au).andThen .now) A _ E s k ?_)
 rw[du,acM]
 refine XA (XA (XA (XA (acb (k _ _ (X _ _ aP)) (XK ?_)))))
 dsimp only
 rw[<-abi,aG]
 exact XK (XK (XK q))
theorem O2(X:K.In h)(a:AC G K C)(mk:nI K C ln):Z_ M h (Bind.staticBase (.ref C)) (.ref C):=by
 refine gU a.cd λcd c8 du _=>?_
 have made:=Ac (M:=M) X a mk
 intro A Q E s k q
 refine XA ((show Z_ M h (mroOf (.ref C)) cd.mro from(adx X c8).andThen .now) A _ E s k ?_)
 rw[du,acM]
 exact XA (XA (XA (made A _ E s k (XK (XK (XK q))))))
theorem O3{bS:List XF}(X:K.In h)(a:AC G K C)(mk:nI K C ln):Z_ (model prog w) h (checkBuiltinCall "list.__new__" ⟨.ref C::bS,[]⟩) ():=by
 have made:=Ac (M:=model prog w) X a mk
 have base:=O2 (M:=model prog w) X a mk
 intro A Q E s k q
 delta checkBuiltinCall
 rw[OZ,O0,O1]
 refine pc aH ?_
 refine su mk.bE λfF eg cd bE aP aG=>?_
 refine gL ((show Z_ (model prog w) h (isType (.ref C)) true from(acY (X _ _ aP)).andThen .now).keeps k) (fK aH ?_)
 refine gL ((show Z_ (model prog w) h (isSubtype (.ref C) (.type "list")) true from a.sub (M:=model prog w) X (b:=.type "list")).keeps k) (fK aH ?_)
 refine gL (base.keeps k) (gL (made.keeps k) (fK aH ?_))
 exact Zg aQ q
theorem O4{bS:List XF}(X:K.In h)(a:AC G K C)(mk:nI K C ln)
  (aR:R (.ok (.ret (.ref (h.objs.size+1)))) ⟨(h.push emptyDict).push (hO C h.objs.size #[] 0),g,d,t,os⟩) :
  codeAny (model prog w) A (.call (.builtin "list.__new__") ⟨.ref C::bS,[]⟩) R ⟨h,g,d,t,os⟩:=by
 refine su mk.bE λfF eg cd bE aP aG=>?_
 have br:=X _ _ aP
 refine uQ a.cd λF5 c8 du eK kC jz p1=>?_
 have tB:clsIn K C=some cd:=by unfold clsIn;rw[aP]
 cases tB.symm.trans c8
 have it:Z_ (model prog w) h (isType (.ref C)) true:=(acY br).andThen .now
 refine ZA ?_
 show wpAny _ A.in1 (do checkBuiltinCall "list.__new__" ⟨.ref C::bS,[]⟩;again (.builtin "list.__new__" ⟨.ref C::bS,[]⟩)) _ _ _
 refine gL (O3 X a mk) (XK ⟨aa8 aet _,codeAny_builtin_stack PySem.F.entry_list_new rfl λp st=>?_⟩)
 rw[aak aet _]
 have O5:Z_ (model prog w) h (isSubtype (.ref C) (.type (("list.__new__".splitOn ".__new__").headD ""))) true:=ahQ▸(a.sub (M:=model prog w) X (b:=.type "list"))
 refine gL it (fK aH (gL O5 (fK aH ?_)))
 rw[ahQ]
 show wpAny _ _ (pure (Data.seq #[]) >>= _) _ _ _
 refine XA (XK (fK X' ?_))
 repeat lk
 refine nd_load (X6 _ (X6 _ br)) (XK ?_)
 dsimp only
 rw[jz]
 refine XK ?_
 rw[if_neg aH]
 refine XK (XK ?_)
 show R _ _
 rw[Yk]
 exact aR
theorem O6{bS:List XF}(X:K.In h)(a:AC G K C)(mk:nI K C ln)
  (aR:codeAny (model prog w) (A.under (.builtin "type.__call__" ⟨.ref C::bS,[]⟩)) (.call (.ref ln) ⟨.ref (h.objs.size+1)::bS,[]⟩) (InitBack (h.objs.size+1) R) ⟨(h.push emptyDict).push (hO C h.objs.size #[] 0),g,d,t,os⟩) :
  codeAny (model prog w) A (.call (.ref C) ⟨bS,[]⟩) R ⟨h,g,d,t,os⟩:=by
 refine su mk.bE λfF eg cd bE aP aG=>?_
 have br:=X _ _ aP
 refine uQ a.cd λF5 c8 du eK kC jz p1=>?_
 have tB:clsIn K C=some cd:=by unfold clsIn;rw[aP]
 cases tB.symm.trans c8
 have made:=Ac (M:=model prog w) X a mk
 have call:=ahw (M:=model prog w) X mk.call
 have typ:=looks_instIn (M:=model prog w) X mk.typ
 have aq:=Z0 (M:=model prog w) X mk.init
 have H:=bind_fn (M:=model prog w) X (.ref (h.objs.size+1)) mk.fn
 have self:Z_ (model prog w) h (isSubtype (.ref C) (.ref C)) true:=by
  have:=a.sub (M:=model prog w) X (b:=.ref C)
  rwa [show([.ref C,.type "list",.type "object"]:List XF).contains (.ref C)=true by simp]at this
 refine ZA ?_
 refine nd_load br ?_
 show wpAny _ _ (afc (.ref C) _) _ _ _
 unfold afc
 refine XA (call.at ?_)
 dsimp only
 rw[tc_bind]
 refine XA (XK (XA (XK ?_)))
 refine XK (a:=Fin.again (.call (.builtin "type.__call__") ⟨.ref C::bS,[]⟩)) (And.intro rfl ?_)
 refine codeAny_call_builtin_at (afL _ aQ) entry_typeCall (ae3 tc_kind tc_split typ (PySem.W.tc_args _ _ _) ?_)
 unfold Y4.«type.__call__»
 have hm:Z_ (model prog w) h (mroOf (.ref C)) cd.mro:=((acY (part:=none) br).andThen .now).andThen .now
 refine fK (λq=>adV q) (gL hm (fK (λq=>adV ((show cd.mro.isEmpty=false from by rw[du];rfl).symm.trans q)) (gL made (XA (XK (XA (X7 (aa' (O4 X a mk ?_)))))))))
 have k:∀b o,h.get? b=some o->((h.push emptyDict).push (hO C h.objs.size #[] 0)).get? b=some o:=λb o e=>X6 _ (X6 _ e)
 have ag:((h.push emptyDict).push (hO C h.objs.size #[] 0)).get? (h.objs.size+1)=some (hO C h.objs.size #[] 0):=by
  have:=XU (h.push emptyDict) (o:=hO C h.objs.size #[] 0) rfl
  rwa [Yk]at this
 have t1:Z_ (model prog w) ((h.push emptyDict).push (hO C h.objs.size #[] 0)) (typeOf (.ref (h.objs.size+1))) (.ref C):=(acY ag).andThen .now
 have s1:=self.keeps k
 have hy:=aq.keeps k
 have fI:=H.keeps k
 have s2:Z_ (model prog w) ((h.push emptyDict).push (hO C h.objs.size #[] 0)) (isInstance (.ref (h.objs.size+1)) (.ref C)) true:=t1.andThen s1
 have O7:Z_ (model prog w) ((h.push emptyDict).push (hO C h.objs.size #[] 0)) (specialOf (.ref (h.objs.size+1)) "__init__") (some (.ref ln)):=t1.andThen hy
 refine gL s2 (fK (λq=>adV q) (XA (X7 ?_)))
 unfold callSpecial?
 refine gL O7 ?_
 repeat (first|with_reducible refine aa' ?_|lk)
 refine codeAny_mono aR λr J z=>?_
 rcases r with e|(v|_|_|_)<;>first|exact z|exact z.elim|skip
 obtain⟨rfl,z⟩:=z
 exact XK (XK z)
end
end
section
open Builtin Builtin.ObjectAttr
section
variable{x:XM}{dD:Yy}{pos:Pos}
theorem O8{first:List XF}{args:List (Bool×Sem XF)}{Q:XF->XG->Prop}(mk:nI K C ln)(fg:args.any (·.1)=false)
  (h:wpAny (model G.prog G.w) A (evalArgs (.ref C) true args []) (λa aj=>K.In aj.heap/\wpAny (model G.prog G.w) A (call (.ref C) (first++a.pos) a.kw) Q E aj) E s):wpAny (model G.prog G.w) A (Z5 pos (.ref C) first args []) Q E s:=by
 refine XA (X7 (Zi h (λa aj dc=>XA (Yl ?_)) λ_ _ x=>x))
 refine d6 dc λX au=>?_
 refine su mk.bE λfF eg cd bE aP aG=>?_
 have br:=X _ _ aP
 have O9:=ahw (M:=model G.prog G.w) X mk.call
 refine XA ?_
 refine XA (acd br ?_)
 refine XA (O9.here ?_)
 rw[if_pos (by rfl)]
 refine XK ?_
 exact fg▸XA (Zi au (λr J ai=>XA (X7 (abL (XK ai)))) λ_ _ x=>x)
theorem O_{vs:List XF}{R:aaB->XG->Prop}(af:i8 G C f names sc body)(aW:cs A (k+1))(ok:G.Ok)(H:∀b o,G.h₀.get? b=some o->s.heap.get? b=some o)(aw:vs.length=names.length)(lY:vs.head?=some (.ref x))
  (h:∀env ah,lX G C ah env x->env.scope=sc->env.locals=s.heap.objs.size->(∀b o,s.heap.get? b=some o->ah.get? b=some o)->s.heap.objs.size<ah.objs.size->ah.Ns env.locals (λy=>(names.zip vs).reverse.lookup y)->cs (A.deeper env) k->
   aee (model G.prog G.w) (A.deeper env) (.func body env) (execs body env) (λhB J=>R (.ok (.ret (match hB with | .ret v=>v|_=>.none))) J) (λ_ _=>False) {s with heap:=ah,toks:=s.toks+(names.zip vs).length}) :
  codeAny (model G.prog G.w) A (.call (.ref f) ⟨vs,[]⟩) R s:=by
 refine bC λ_ a'=>?_
 obtain⟨o,fd,O,ae,a2,b_,cn,gQ,dJ,fA,⟨c,eR,eI⟩,⟨h6,a1,cw⟩,hA,fF,ws,file,hN,cb,dw,el,dW,nz⟩:=af.ex
 refine a' ?_
 subst a2
 obtain⟨ns,eU⟩:=af.self
 refine(af_ aW.limit (H _ _ O) ae (ok.nolimit.keeps H) (dJ.keeps H) b_ (fA s vs H aw) af.EP (λy bk=>?_) (λah az aL=>?_) af.co af.gen af.kind)
 ·have:y.1∈names:=by
   exact(acK bk).1
  exact af.nm _ this
 ·refine ks_wpAt_mono (h (callEnv fd s.heap.objs.size f) ah ?_ rfl rfl aL az.lt az (aW.deeper _)) (λhB J q=>q) λ_ _ q=>q.elim
  refine⟨af.kind,af.ks,af.d0,?_,cn,gQ,⟨f,o,fd,h6,rfl,aL _ _ (H _ _ O),ae,a1,cw⟩,⟨hA,fF,ws,file,hN,cb,aL _ _ (H _ _ dw),el,dW,nz⟩,af.top,⟨c,eR,(eI.keeps H).keeps aL⟩,⟨_,az,?_⟩⟩
  ·refine af.nm _ ?_
   exact eU.symm▸.head _
  ·have eG:=af.c2
   subst eU
   cases vs with
   |nil=>cases lY
   |cons v vs=>
    simp only[agz,aeI]at lY
    subst lY
    rw[aa1,ZI,aaz,x7 λc au=>?_]
    ·rw[af'];exact kV
    ·have O:=(acK (YS.mp au)).1
     exact(Yn.mp eG).1 O
theorem O'{v:XF}{R:aaB->XG->Prop}(a:AC G K C)(am:p2 K C)(af:i8 G C f ["self","initial_size"] (dZ 0).2 (dZ 0).1)(lg:G.mg "super" = none)(aW:cs A (k+1))(ok:G.Ok)(H:∀b o,G.h₀.get? b=some o->s.heap.get? b=some o)
  (ag:s.heap.get? x=some (hO C bT #[] n)) (j5:s.heap.get? bT=some emptyDict) (b':x≠bT) (rl:G.h₀.get? x=none) (tg:G.h₀.get? bT=none)
  (h:∀J,KB (λb=>b=x\/b=bT) s J->(∃kk,J.heap.get? x=some (hO C bT #[] kk))->J.heap.Ns bT (λy=>if y = "_initial_size" then some v else none)->R (.ok (.ret .none)) J):codeAny (model G.prog G.w) A (.call (.ref f) ⟨[.ref x,v],[]⟩) R s:=by
 refine O_ (k:=k) af aW ok H rfl rfl λenv ah S oq zx aL ct eU kO=>?_
 have bt:bb s {s with heap:=ah,toks:=s.toks+([("self":Str),"initial_size"].zip [ZR x,v]).length}:=.heap aL (Ye ct)
 have aa:InstAt ah x (hO C bT #[] n) C (some emptyDict):=⟨aL _ _ ag,rfl,rfl,aL _ _ j5⟩
 refine aaK (ks_wpAt_Assign_Attr (acA (ac6 (aaX (v:=v) S.kind ?_ eU ?_ (EV (s:={s with heap:=ah,toks:=s.toks+([("self":Str),"initial_size"].zip [ZR x,v]).length}) S _ (Nm (v:=v) (bT:=bT) a am ((a.X.keeps H).keeps aL) aa rfl λeh F1 oG=>?_))))))
 ·unfold Yh;rw[oq];rfl
 ·rfl
 ·have Pa:=aL _ _ j5
  have q0:=(oG.2 x b').trans (aL _ _ ag)
  have Pb:env.locals≠bT:=by
   exact zx▸λq=>XN _ (q▸XX j5)
  have Ad:∀b o,b≠bT->ah.get? b=some o->eh.get? b=some o:=λb o eP e=>(oG.2 b eP).trans e
  have nJ:=S.but Pa Pb Ad
  refine bC λ_ a'=>?_
  obtain⟨p',Pc,Pd,F6,Pe⟩:=F1
  refine a' ?_
  have Pf:=λb o e=>Ad b o (λq=>by rw[q,tg]at e;cases e) (aL _ _ (H _ _ e))
  have pZ:x≠C:=by
   intro q
   refine g8 (a.obj a.X) λoA cd a3 _=>?_
   rw[q,a3]at rl;cases rl
  refine aaK (ks_wpAt_Expr_any (zw (s:={s with heap:=eh,toks:=s.toks+([("self":Str),"initial_size"].zip [ZR x,v]).length+2}) a nJ ok Pf lg (show InstAt eh x (hO C bT #[] n) C (some p')from⟨q0,rfl,rfl,F6⟩) (λc q=>nomatch q) pZ Na ME (.inl rfl) (λA s Q E aq q=>?_) (λA s Q E X aa q=>EO aQ (PySem.F.args_list_init_1 _) A Q E q) λhi Xc cu=>?_) ?_ rfl)
  ·exact EL aQ aq MV q
  ·refine Np (cu.get q0) λp4 Ae Pg=>?_
   refine acA (aa_ ?_)
   have Ph:=cu.size
   dsimp only at Ph
   refine h _ ⟨λb o eP e=>?_,?_,rfl,.refl _⟩ Pg ?_
   ·exact(Ae.2 b λq=>eP (.inl q)).trans (cu.get (Ad b o (λq=>eP (.inr q)) (aL _ _ e)))
   ·have Pj:=oG.1
    have Pk:=Ae.1
    dsimp only at Pj Pk ⊢
    lia
   ·exact⟨p',Pc,Pd,(Ae.2 bT (agt b')).trans (cu.get F6),Pe⟩
  ·unfold interactive;rw[oq];rfl
theorem a4.yH{ec:ba}(W:a4 G σ pr s)(k:bb s J)(aY:∀p∈ec,s.heap.objs.size<=p.1/\p.1<J.heap.objs.size)(az:ec.at.Nodup)(hm:∀p∈ec,p.2.on (aT (ec++σ) pr) J.heap G p.1):a4 G (ec++σ) pr J:=by
 have b9:(ec++σ:ba).at=ec.at++σ.at:=by unfold ba.at;rw[Yx]
 have tT:∀b∈ec.at,s.heap.objs.size<=b/\b<J.heap.objs.size:=λb H=>by
  refine bB (XZ.mp H) λp ar aB=>?_
  subst aB
  exact aY p ar
 refine⟨W.ok,λb o e=>k.get (W.base b o e),λp ar=>?_,?_,λb H q=>?_,λb H=>?_,λb H=>?_⟩
 ·rcases XY.mp ar with ar|ar
  ·exact hm p ar
  ·refine(W.store p ar).mono (λb o q e=>⟨⟨λz=>?_,q.2⟩,k.get e⟩) λo e=>k.get e
   rw[b9]at z
   rcases XY.mp z with z|z
   ·exact XN _ (XE (XX e) (tT b z).1)
   ·exact q.1 z
 ·simp only[b9]
  refine Zd.mpr ⟨az,W.nodup,λb H c au q=>?_⟩
  subst q
  exact XN _ (XE (W.lt b (.inl au)) (tT b H).1)
 ·rw[b9]at H
  rcases XY.mp H with H|H
  ·exact XN _ (XE (W.lt b (.inr q)) (tT b H).1)
  ·exact W.apart b H q
 ·rw[b9]at H
  rcases H with H|H
  ·rcases XY.mp H with H|H
   ·exact(tT b H).2
   ·exact XE (W.lt b (.inl H)) k.size
  ·exact XE (W.lt b (.inr H)) k.size
 ·rw[b9]at H
  rcases H with H|H
  ·rcases XY.mp H with H|H
   ·exact W.qR (tT b H).1
   ·exact W.above b (.inl H)
  ·exact W.above b (.inr H)
theorem cc.Pl(a:AC G K C)(am:p2 K C)(mk:nI K C ln)(af:i8 G C ln ["self","initial_size"] (dZ 0).2 (dZ 0).1)(lg:G.mg "super" = none)(hf:aN G (k+3) sc σ Γ dD (.raw (.ref C)))(O:aN G (k+3) sc σ Γ e d)
  (he:autoParam (dU e []) aI)
  (aR:autoParam (ik dD [e] pos) aI):cc G (k+3) sc T σ Γ (.Call dD [e] [] pos) (λY r=>∃x bT,x∉σ.at/\bT∉σ.at/\x≠bT/\Y=(x,.list (.ref C) (some bT) [])::(bT,.inst [("_initial_size",d)])::σ/\r=.raw (.ref x)):=by
 intro A env pr s Q E aW aa W F aA
 rw[aR]
 refine XA (hf A env pr s _ _ aW aa W F λv aj ax a0=>?_)
 have cM:=a0.dB
 subst cM
 have H:Yw pos (X5 [e] env)=(false,eval e env)::Yw pos (X5 [] env):=by rw[he];rfl
 refine O8 mk (by rw[H];rfl) ?_
 rw[H]
 refine abp ?_
 rw[<-H]
 refine YE (O A env pr aj _ _ aW aa (W.keep ax) (F.keep ax) λv ao aM bG=>Zc ?_) (he _)
 have bt:bb s ao:=ax.trans aM
 have bo:=W.keep bt
 have bQ:=F.keep bt
 have F7:=a.X.keeps bo.base
 refine⟨F7,aa' ?_⟩
 obtain⟨h,g,v2,t,os⟩:=ao
 refine O6 F7 a mk ?_
 have kD:cs (A.under (.builtin "type.__call__" ⟨[.ref C,v],[]⟩)) (k+2):=by
  have bO:=aW.depth
  have dq:=aW.units
  refine⟨?_,?_,aW.handled⟩
  ·show A.depth+1+(k+2)<900
   lia
  ·show A.units+1+3*(k+2)+80<cLine
   lia
 show codeAny _ (A.under (ahe "type.__call__" ⟨[.ref C,v],[]⟩)) _ _ _
 generalize Af:A.under (.builtin "type.__call__" ⟨[.ref C,v],[]⟩)=fi
 rw[Af]at kD
 let bI:XG:=⟨(h.push emptyDict).push (hO C h.objs.size #[] 0),g,v2,t,os⟩
 have k3:bb ⟨h,g,v2,t,os⟩ bI:=.heap (λb o e=>X6 _ (X6 _ e)) (by show h.objs.size<=((h.push emptyDict).push _).objs.size;rw[Yk,Yk];lia)
 have v3:bI.heap.get? (h.objs.size+1)=some (hO C h.objs.size #[] 0):=by
  have:=XU (h.push emptyDict) (o:=hO C h.objs.size #[] 0) rfl
  rwa [Yk]at this
 have rl:=bo.qR (YF _)
 have tg:=bo.qR (XT _)
 refine O' (s:=bI) (x:=h.objs.size+1) (bT:=h.objs.size) a am af lg kD bo.ok (λb o e=>k3.get (bo.base b o e)) v3 (X6 _ (XU h rfl)) (abq _) rl tg λJ aJ lP eU=>?_
 obtain⟨kk,lP⟩:=lP
 refine⟨rfl,?_⟩
 have hJ:bb ⟨h,g,v2,t,os⟩ J:=⟨λb o _ iE=>aJ.keep b o (λq=>by
  have ct:b<h.objs.size:=XX iE
  rcases q with q|q<;>rw[q]at ct
  ·exact absurd ct (ZS.mpr (YF _))
  ·exact XN _ ct) (k3.get iE),XC k3.size aJ.size,aJ.os.trans k3.os,k3.gens.trans aJ.gens⟩
 have iy:h.objs.size+1+1<=J.heap.objs.size:=by
  have:=aJ.size
  show h.objs.size+1+1<=_
  rw[<-(show((h.push emptyDict).push (hO C h.objs.size #[] 0)).objs.size=h.objs.size+1+1 from by rw[Yk,Yk])];exact this
 have al:∀b o,aT σ pr b->h.get? b=some o->aT ([(h.objs.size+1,cf.list (.ref C) (some h.objs.size) []),(h.objs.size,.inst [("_initial_size",d)])]++σ) pr b:=λb o q iE=>by
  refine⟨λz=>?_,q.2⟩
  have ct:b<h.objs.size:=XX iE
  rcases XH.mp z with z|z
  ·have Ag:b=h.objs.size+1:=z
   rw[Ag]at ct
   exact absurd ct (ZS.mpr (YF _))
  rcases XH.mp z with z|z
  ·have Ag:b=h.objs.size:=z
   rw[Ag]at ct
   exact XN _ ct
  ·exact q.1 z
 have bc:a4 G ([(h.objs.size+1,cf.list (.ref C) (some h.objs.size) []),(h.objs.size,.inst [("_initial_size",d)])]++σ) pr J:=by
  refine bo.yH hJ (λp ar=>?_) ?_ λp ar=>?_
  ·rcases XH.mp ar with rfl|ar
   ·exact⟨YF _,iy⟩
   ·rw[XD.mp ar];exact⟨XT _,Nat.lt_of_succ_lt iy⟩
  ·show[h.objs.size+1,h.objs.size].Nodup
   simp
  ·rcases XH.mp ar with rfl|ar
   ·exact⟨#[],kk,#[],lP,.nil,λq=>mX q⟩
   ·rw[XD.mp ar]
    refine⟨_,eU,λy=>?_⟩
    by_cases bk:y = "_initial_size"
    ·subst bk
     exact⟨v,if_pos rfl,bG.mono λb o q iE=>⟨al b o q iE,hJ.get iE⟩⟩
    ·rw[kU bk]
     exact if_neg bk
 have st:b4 jk σ ([(h.objs.size+1,cf.list (.ref C) (some h.objs.size) []),(h.objs.size,.inst [("_initial_size",d)])]++σ) ⟨h,g,v2,t,os⟩ J:=⟨hJ,λb H=>by
  rcases XH.mp H with rfl|H
  ·exact .inr (YF _)
  rcases XH.mp H with rfl|H
  ·exact .inr (XT _)
  ·exact .inl H,λb H=>.tail _ (.tail _ H)⟩
 refine aA _ _ _ J ⟨h.objs.size+1,h.objs.size,s_ bo (YF _),s_ bo (XT _),abq _,rfl,rfl⟩ ((b4.dF bt).trans (st.mono λ_ q=>q.elim) λ_ q=>.inl q) bc (bQ.stp st (λ_ q=>q.elim) λ_ q=>q.elim) (.raw _)
end
end
section
open Builtin Builtin.ObjectAttr
def v5(h:Zu)(x:XM)(items:Array XF):Prop:=∃o n,h.get? x=some o/\o.data=.seq items n
section
variable{x it l:XM}{i:Nat}{items:Array XF}
theorem Pm{v:XF}{Q:Option XF->XG->Prop}(fr:s.heap.IsListIter it l i)(aw:v5 s.heap l items)(ag:items[i]?=some v)
  (aA:∀ah,ah.IsListIter it l (i+1)->aac it s.heap ah->Q (some v) {s with heap:=ah}):wpAny (model prog w) A (pyNext (.ref it)) Q E s:=by
 refine bC λ_ a'=>?_
 obtain⟨o,aP,au,hd⟩:=id fr
 obtain⟨fR,Pn,h',pX⟩:=aw
 refine a' ?_
 refine XA (acB (acV (name:=Yr "__next__") fr.typeIs aba (aaA aba fr.typeIs agJ ?_ (agY _))))
 show wpAny _ _ (field (.ref it) 0 >>= _) _ _ s
 refine XA (Zv aP hd (x:=.ref l) rfl ?_)
 rw[if_neg (show ¬((ZR l==Value.none)=true)from X')]
 refine XA (Zv aP hd (x:=.int i 0) rfl ?_)
 refine XA (aal h' pX ?_)
 simp only[X0,ag]
 refine XA (ahL aP hd (by simp) (XK ⟨v,rfl,XK (aA _ ?_ (YV ..))⟩))
 exact⟨_,YZ _ aP (Obj.isFreed_of_fields (afW hd _)),(Obj.cls_mapFields ..).trans au,by
  rw[afW hd];simp[rawInt]⟩
theorem Po{Q:Option XF->XG->Prop}(bK:A.handled=none)(fr:s.heap.IsListIter it l i)(aw:v5 s.heap l items)(ag:items[i]?=none)
  (aA:∀ah,ahr it s.heap ah->Q none {s with heap:=ah}):wpAny (model prog w) A (pyNext (.ref it)) Q E s:=by
 refine bC λ_ a'=>?_
 obtain⟨o,aP,au,hd⟩:=id fr
 obtain⟨fR,Pn,h',pX⟩:=aw
 refine a' ?_
 refine XA (acB (acV (name:=Yr "__next__") fr.typeIs aba (aaA aba fr.typeIs agJ ?_ (agY _))))
 show wpAny _ _ (field (.ref it) 0 >>= _) _ _ s
 refine XA (Zv aP hd (x:=.ref l) rfl ?_)
 rw[if_neg (show ¬((ZR l==Value.none)=true)from X')]
 refine XA (Zv aP hd (x:=.int i 0) rfl ?_)
 refine XA (aal h' pX ?_)
 simp only[X0,ag]
 refine XA (aaw (XA (ahL aP hd (by simp) ?_)))
 refine XA ?_
 unfold newExc newTuple
 refine XA (aat ?_ (by size_fits))
 refine XA (m:=firstArgMember _ _) (Zg (a:=Value.none) rfl ?_)
 refine aat (agG bK ?_) (by size_fits)
 refine XA (abD (T:="StopIteration") (b:=true) ⟨_,XU _ rfl,rfl⟩ ahS ?_)
 exact XK (aA _ (((YV ..).extBut.push _).push _))
theorem Pp{v f:XF}{name:Str}{r:XF×List XF}{Q:Option (XF×List XF)->XG->Prop}(L:Z_ M s.heap (specialOf v name) (some f))(H:bindSpecial f v=pure r)(h:Q (some r) s):wpAny M A (bindSpecialIfBound? v name) Q E s:=by
 refine gL L ?_
 have eP:∀{E},wpAny M A (bindSpecial f v >>= λa=>pure (some a)) Q E s:=by rw[H];exact XA (XK (XK h))
 exact XA (acW (wpAny_ite (by split<;>first|exact eP|exact wpAny_tryCatch eP)))
theorem Pq{Q:XF->XG->Prop}(a:AC G K C)(X:K.In s.heap)(aa:InstAt s.heap x ox C eg)(aq:findIn K (.ref C) "__iter__" = some (some (.builtin "list.__iter__")))
  (aA:Q (.ref s.heap.objs.size) {s with heap:=s.heap.push {cls:=.type "list_iterator",data:=.fields #[.ref x,.int 0 0]}}):wpAny (model G.prog G.w) A (pyIter (.ref x)) Q E s:=by
 have L:Z_ (model G.prog G.w) s.heap (specialOf (.ref x) "__iter__") (some (.builtin "list.__iter__")):=(aa.type (M:=model G.prog G.w)).andThen (Z0 (M:=model G.prog G.w) X aq)
 refine gL L ?_
 refine XA ?_
 refine X7 (XA (Pp L (slot_list_iter.bind _) (fK X' (XA (aa' (abO vI.plain vI.entry (EH vI.kind vI.split (zo a X aa) (args_list_iter _) ?_)))))))
 show wpAny _ _ (do ret (<-newFields "list_iterator" [.ref x,rawInt 0])) _ _ s
 exact XA (aat (XK (XK (XA (aeN (T:="list_iterator") ⟨_,XU _ rfl,rfl⟩ aba.lookup (XK aA))))))
structure Ah(aa x:XM)(items:Array XF)(cG:List (XM×Array XF))(i:Nat)(h:Zu):Prop where
 it:h.IsListIter aa x i
 v7:v5 h x items
 ht:∀p∈cG,h.IsTuple p.1 p.2
theorem Pr{aa:XM}{cG:List (XM×Array XF)}(bK:A.handled=none)(ag:x≠aa)(a_:∀p∈cG,p.1≠aa)(aq:items.toList=cG.map λp=>ZR p.1):
  WalksU prog w A aa (aa::x::cG.map (·.1)) [aa] cG.length (λi iF=>∃T,cG[i]?=some (T,iF)) (Ah aa x items cG) (λi T h=>Ah aa x items cG (i+1) h/\T≠aa) where
 sub:=λb H=>by rw[XD.mp H];exact .head _
 frame:=λi h ah st aL=>by
  refine bC λ_ a'=>?_
  obtain⟨⟨o,a3,bH⟩,⟨gX,n,dP,fZ⟩,ht⟩:=st
  refine a' ?_
  refine⟨⟨o,aL _ (.head _) _ a3,bH⟩,⟨gX,n,aL _ (.tail _ (.head _)) _ dP,fZ⟩,λp ar=>?_⟩
  obtain⟨jV,h_,nK⟩:=ht p ar
  exact⟨jV,aL _ (.tail _ (.tail _ (YA (f:=λp:XM×Array XF=>p.1) ar))) _ h_,nK⟩
 item:=λi s Q E ct st aA=>by
  obtain⟨it,v7,ht⟩:=st
  have cE:=XI ct
  have bJ:items[i]?=some (.ref cG[i].1):=by
   rw[<-abi,aq,X1,cE];rfl
  refine Pm it v7 bJ λah jQ aG=>?_
  have hm:=Ya ct
  have F8:∀p∈cG,ah.IsTuple p.1 p.2:=λp ar=>by obtain⟨jV,h_,nK⟩:=ht p ar;exact⟨jV,(aG.2 _ (a_ p ar)).trans h_,nK⟩
  have Pt:v5 ah x items:=by obtain⟨gX,n,dP,fZ⟩:=v7;exact⟨gX,n,(aG.2 _ ag).trans dP,fZ⟩
  exact aA cG[i].1 cG[i].2 ah s.toks ⟨cG[i].1,cE⟩ (F8 _ hm) ⟨⟨jQ,Pt,F8⟩,a_ _ hm⟩ λb o H e=>(aG.2 b λq=>H (q▸.head _)).trans e
 go:=λiU k pos i T s Q E ⟨st,_⟩ aA=>by
  refine bC λ_ fq=>?_
  obtain⟨o,aP,au,hd⟩:=id st.it
  refine fq ?_
  refine XA (acd aP ?_)
  rw[au,hd]
  exact XK (aA s.heap st λb o _ e=>e)
 apart:=λi T h ⟨_,q⟩ hm=>q (XD.mp hm)
 done:=λs Q E st aA=>by
  refine Po bK st.it st.v7 (by rw[<-abi,aq,X1,X8 (XT _)];rfl) λah he=>aA ah s.toks λb o H e=>he b o (λq=>H (q▸.head _)) e
 self:=λi s Q E st aA=>af8 st.it aA
end
end
section
open Builtin Builtin.ObjectAttr
section
variable{pos:Pos}{c:XM}
theorem yU{m:cf}(az:σ.at.Nodup)(hm:(fh,m)∈σ):σ.set fh m=σ:=by
 refine(Yf λp ar=>?_).trans (afk σ)
 by_cases nn:p.1=fh
 ·rw[if_pos nn]
  obtain⟨cb,dw⟩:=p
  simp only at nn
  subst nn
  rw[yS az hm ar];rfl
 ·rw[if_neg nn];rfl
theorem Pu{Q:XF->XG->Prop}(W:a4 G σ pr s)(hm:(fh,cf.tab c q)∈σ)(lN:env.code=.ref c)(h:∀code J,KB (λb=>b=fh) s J->a4 G σ pr J->J.gens=s.gens->Q code J):wpAny M A (genexprCode env pos q scope) Q E s:=by
 have b9:=dr hm
 refine bC λ_ a'=>?_
 obtain⟨C,th,av,cz,a_,vg⟩:=W.store _ hm
 refine a' ?_
 have rL:=C.code cz a_
 have Pw:s.heap.TableAt c fh av:=by
  refine bC λ_ fq=>?_
  obtain⟨o,vs,file,hN,vh,vi,vj,pU,ra,a3,bH,dP,fZ,_⟩:=C
  refine fq ?_
  exact⟨⟨o,vs,a3,bH,dP,fZ⟩,cz⟩
 cases hf:codeAmong pos av.toList with
 |some hV=>exact wpAny_genexprCode_hit lN rL hf (h hV s (.refl _ _) W rfl)
 |none=>
  refine jO (wpAny_genexprCodeX lN rL Pw hf λcq ah cD ag yT xS Xd lQ Px D9 hsz=>?_)
  have aJ:KB (λb=>b=fh) s {s with heap:=ah,toks:=cD}:=⟨λb o H e=>ag b o H e,hsz,rfl,.refl _⟩
  have my:=W.gs yT
  have q':∀b,b=fh->¬aT σ pr b:=λb H q=>q.1 (H▸b9)
  have nj:a4 G (σ.set fh (.tab c q)) pr {s with heap:=ah,toks:=cD}:=by
   refine W.put aJ b9 ⟨?_,th,av++#[rawInt pos.line,rawInt pos.col,.ref cq],Px.2,?_,λmx hV nk=>?_⟩
   ·refine bC λ_ lL=>?_
    obtain⟨o,vs,file,hN,vh,vi,vj,pU,ra,e,r⟩:=C
    refine lL ?_
    exact⟨o,vs,file,hN,vh,vi,vj,pU,ra,aJ.keep c o (λq=>q' c q th) e,r⟩
   ·rw[aaW];exact ahT _ _ _ _ a_
   ·rw[aaW]at nk
    rcases D4 _ a_ nk with nk|rfl
    ·refine bC λ_ tj=>?_
     obtain⟨nl,rfl,tk,y,gX,ws,t,a3,bH,dP⟩:=vg mx hV nk
     refine tj ?_
     cases a3
     exact⟨nl,rfl,tk,nl,gX,ws,t,rfl,aJ.keep nl gX (λq=>q' nl q tk) bH,dP⟩
    ·exact⟨cq,rfl,my,lQ⟩
  rw[yU W.nodup hm]at nj
  exact h _ _ aJ nj rfl
end
def rM(G:GE)(A:Yz)(wr:List XM)(qa:Array aaI)(a:XM)(n:Nat)(F:Nat->XF->Prop)(s:XG):Prop:=
 ∃l2 g St,WalksS G.prog G.w A.in4 a l2 wr (GenOnlyQ g) n F St/\St 0 s/\(∀i J,St i J->J.TypeIs (.ref a) "generator")/\a∈l2/\(∀b∈l2,b<s.heap.objs.size)/\∀b,GenOnlyQ g s.gens b->kf qa b
theorem F9{a:Array aaI}{x:aaI}(ag:x.bare=true):∀b,GenOnlyQ a.size (a.push x) b->kf a b:=by
 intro b H
 have key:kf a (a.push x):=⟨λi g e=>by
  have:=(aaM.mp e).1
  rw[afo,if_neg (Ys this)];exact e,λi g aq e=>by
  replace e:=afo▸e
  split at e
  ·cases e;exact ag
  ·cases (aa9 aq).symm.trans e⟩
 rcases H with rfl|⟨⟨hz,aL⟩,v8⟩
 ·exact key
 ·refine⟨λi g e=>?_,λi g aq e=>?_⟩
  ·have:=(aaM.mp e).1
   exact(aL i (Ys this))▸key.1 i g e
  ·by_cases eQ:i=a.size
   ·subst eQ;exact v8 g e
   ·rw[aL i eQ]at e
    exact key.2 i g aq e
noncomputable def eC(p:Str×Str):V:=.tuple [.str p.1,.str p.2]
structure Py(P:XM->Prop)(h:Zu)(vs:List XF)(av:List (Str×Str))(cG:List (XM×Array XF)):Prop where
 eq:vs=cG.map (λp=>ZR p.1)
 at_:∀p∈cG,h.IsTuple p.1 p.2/\p.1<h.objs.size/\P p.1
 len:cG.length=av.length
 get:∀(i:Nat) (T:XM) (iF:Array XF),cG[i]?=some (T,iF)->∃(p:Str×Str) (t u:Tok),av[i]?=some p/\iF=#[abj p.1 t,abj p.2 u]
theorem Pz{P:XM->Prop}:∀{vs:List XF},a5 P h vs (av.map eC)->∃cG:List (XM×Array XF),Py P h vs av cG:=by
 induction av with
 |nil=>
  intro vs r
  obtain rfl:=r.m2
  exact⟨[],⟨rfl,λp ar=>(cZ ar),rfl,λi T iF e=>mW e⟩⟩
 |cons p av ih=>
  intro vs r
  refine bC λ_ a'=>?_
  obtain⟨_,_,rfl,bO,r⟩:=r.jL
  obtain⟨cG,T⟩:=ih r
  refine fm bO.jM λa ws n aB ku dY e_=>?_
  subst aB
  refine gI e_.inv2 λ_ _ aB cV dN=>?_
  subst aB
  obtain⟨t,rfl⟩:=cV.str_inv
  obtain⟨u,rfl⟩:=dN.str_inv
  refine a' ?_
  refine⟨(a,#[abj p.1 t,abj p.2 u])::cG,⟨congrArg (_::·) T.eq,λdK q6=>?_,congrArg afu T.len,λi T' iF e=>?_⟩⟩
  ·rcases XH.mp q6 with rfl|q6
   ·exact⟨qQ ku,XX ku,dY⟩
   ·exact T.at_ dK q6
  ·cases i with
   |zero=>exact⟨p,t,u,rfl,(aaj (YW e)).2.symm⟩
   |succ i=>exact T.get i T' iF e
section
variable{pos:Pos}{c:XM}{x:XM}
theorem F_{F' dY rN PA:Pos}{lZ:Nat}{rO:Str->Str->XF->Prop}{Q:XF->XG->Prop}(P:cK G aK)(a:AC G K C)(aW:cs A k)(aa:cT G sc env)(W:a4 G σ pr s)(F:bg σ pr s.heap env Γ)(lY:Γ.lookup ("self":Str)=some (V.raw (.ref x)))(PB:sc.kind=.function)
  (ar:e4 C σ x bT eu (av.map eC)) (hm:(fh,cf.tab c q)∈σ) (lN:env.code=.ref c) (aR:env.qual++"<genexpr>" = q) (fr:findIn K (.ref C) "__iter__" = some (some (.builtin "list.__iter__")))
  (dO:∀(fi:Yz) (cI:XF->XG->Prop) (cenv:Env) (b p:Str) (t u:Tok) (ao:XG) (i9:Str->Option XF),(b,p)∈av->fi.handled=none->cenv.scope=scope->cenv.globals=YJ->cenv.builtins=Y6->ao.heap.Ns cenv.locals i9->i9 "fws" = some (.str b t)->i9 "part" = some (.str p u)->(∀b o,G.h₀.get? b=some o->ao.heap.get? b=some o)->wpAny (model G.prog G.w) fi (eval elt cenv) (λy bI=>rO b p y/\Keeps ao bI) cI ao)
  (h:∀g ez wr,KB (λb=>b=fh) s ez->a4 G σ (wr++pr) ez->(∀b∈wr,s.heap.objs.size<=b)->rM G A wr s.gens g av.length (λi y=>∃p,av[i]?=some p/\rO p.1 p.2 y) ez->Q (.ref g) ez)
  (nf:autoParam (scope.isCoroutine=false) aI) (m7:autoParam ((scope.names.all λx=>x.2 !=.free)=true) aD) (PC:autoParam ((scope.names.all λx=>x.2 !=.cell)=true) aD) (h0:autoParam (scope.names.lookup (".0":Str)=some NameKind.local) aI) (PD:autoParam (scope.names.lookup ("fws":Str)=some NameKind.local) aI) (PE:autoParam (scope.names.lookup ("part":Str)=some NameKind.local) aI) (rd:autoParam (scope.kind=.function) aI)
  (aG:autoParam (∀env x,genFold (.Name "self" F') env x=pure x) aI):wpAny (model G.prog G.w) A (eval (.GeneratorExp elt [⟨.Tuple [.Name "fws" dY,.Name "part" rN] lZ PA,.Name "self" F',[],0⟩] scope pos) env) Q E s:=by
 have PF:=λx ag=>by have:=X9.mp m7 x ag;simpa using this
 have PG:=λx ag=>by have:=X9.mp PC x ag;simpa using this
 have b9:=dr hm
 refine wpAny_GeneratorExp_walksQT aW.handled nf (closureFor_none PF) PG h0 PD PE aH rd aW.limit ?_ (aG env)
 refine aN.run (k:=k) (.name lY PB) aW aa W F λv aj ax a0=>?_
 have cM:=a0.dB
 subst cM
 have cA:=W.keep ax
 refine bC λg cE=>?_
 refine iP (cA.kA ar) λvs n bE eg e r hD aw=>?_
 refine cE <| Pq (x:=x) (eg:=some eg) a (a.X.keeps cA.base) hD fr ?_
 have bx:bb aj {aj with heap:=aj.heap.push {cls:=.type "list_iterator",data:=.fields #[.ref x,.int 0 0]}}:=.push _ aj.toks
 have bo:=cA.d' (np:=[aj.heap.objs.size]) bx (λb H=>by rw[XD.mp H];exact XT _) λb H=>by rw[XD.mp H];show _<(aj.heap.push _).objs.size;rw[(Yk ..)];exact Yt _
 refine⟨bo.ok.nolimit.keeps bo.base,?_⟩
 simp only[aR]
 refine Pu bo hm lN λcode bI ia eH Xe=>bC λg cE=>?_
 refine o' P.bm λbm jV fI gc oI oJ tU rP nL=>?_
 obtain⟨cG,t1,jy,PH,tV⟩:=Pz r
 refine cE <| wpAny_builtinsFor (m:=G.mg) (bm:=bm) (o:=jV) (by rw[aa.globals];exact eH.ok.g.keeps eH.base) fI gc (eH.base _ _ oJ) tU rP nL ?_
 have PI:aj.heap.objs.size≠fh:=λq=>by
  have:=cA.lt fh (.inl b9)
  rw[<-q]at this
  exact XN _ this
 have PJ:x≠fh:=λq=>by
  have:=yS W.nodup (q▸ar.l) hm
  cases this
 have PK:=Ys (XX e)
 have Ga:=ia.keep _ _ PI (XU _ rfl)
 have v3:=ia.keep _ _ PJ (bx.get e)
 have PL:∀p∈cG,p.1≠fh:=λp ar q=>(jy p ar).2.2.1 (q▸b9)
 have nh:Ah aj.heap.objs.size x vs cG 0 bI.heap:=⟨⟨_,Ga,rfl,rfl⟩,⟨_,n,v3,rfl⟩,λp ar=>by
  obtain⟨⟨Gb,h_,nK⟩,_⟩:=jy p ar
  exact⟨Gb,ia.keep _ _ (PL p ar) (bx.get h_),nK⟩⟩
 have PM:=XX Ga
 refine⟨aj.heap.objs.size,_,[aj.heap.objs.size],cG.length,_,_,_,λ_=>true,λi y=>∃p,av[i]?=some p/\rO p.1 p.2 y,rfl,λfi Af=>Pr Af PK (λp ar=>Ys (jy p ar).2.1) (by rw[t1]),?_,nh,?_,eH.ok.nolimit.keeps eH.base,?_,?_,?_⟩
 ·intro i iF dG
  refine cS dG λT aU=>?_
  obtain⟨p,t,u,_,bJ⟩:=tV i T iF aU
  exact⟨_,_,bJ⟩
 ·intro b H
  rcases XH.mp H with rfl|H
  ·exact PM
  rcases XH.mp H with rfl|H
  ·exact XX v3
  ·refine bB (XZ.mp H) λp ar aB=>?_
   subst aB
   obtain⟨Gb,h_,nK⟩:=nh.ht p ar
   exact XX h_
 ·intro H
  have O:=XD.mp H
  obtain⟨sA,⟨fF,_,_,au,_⟩,_⟩:=cA.ok.nolimit
  have:=XX (cA.base _ _ au)
  rw[O]at this
  exact XN _ this
 ·intro Xf aL
  refine⟨λfi cI i PN PO ao i9 ef cz az O ae a2=>?_,λfi cI i PN PO ao i9 ef cz _ az O ae a2=>?_⟩
  ·exact XK ⟨rfl,ao.heap,ao.toks,rfl,λ_ _ e=>e⟩
  ·refine bC λ_ lL=>?_
   obtain⟨T,aU⟩:=cz
   obtain⟨p,t,u,Gd,bJ⟩:=tV i T _ aU
   refine lL ?_
   cases bJ
   refine Zi (dO fi cI _ p.1 p.2 t u ao i9 (ZV Gd) ef rfl aa.globals rfl az O ae λb o iE=>?_) (λy Xg bk=>⟨⟨p,Gd,bk.1⟩,bk.2⟩) λ_ _ q=>q
   have dP:=eH.base b o iE
   refine a2 b (X2.mpr (XX dP)) (λH=>?_) o (aL b o dP)
   have O:=XD.mp H
   have:=XX (cA.base b o iE)
   rw[O]at this
   exact XN _ this
 ·intro g v9 cD aO v8 ct hz PQ v_ PR
  have Ge:bb bI {bI with gens:=bI.gens.push aO,toks:=cD,heap:=v9}:=by
   refine⟨λb o _ e=>PQ b o e,?_,rfl,?_⟩
   ·show bI.heap.objs.size<=v9.objs.size
    rw[hz];lia
   ·exact F9 v8 _ (.inl rfl)
  refine h g _ [bI.heap.objs.size,aj.heap.objs.size] ?_ (eH.d' (np:=[bI.heap.objs.size]) Ge (λb H=>by rw[XD.mp H];exact XT _) λb H=>by rw[XD.mp H];show _<v9.objs.size;rw[hz];exact Y5 ct) ?_ ?_
  ·exact((((ax.trans bx).mono λ_ q=>q.elim).trans ia).trans (Ge.mono λ_ q=>q.elim))
  ·intro b H
   rcases XH.mp H with rfl|H
   ·exact XC (ax.trans bx).size ia.size
   ·rw[XD.mp H];exact ax.size
  ·have b2:(passing (λ_=>true) cG.length 0).length=av.length:=by
    unfold passing
    rw[abT,adk.mpr (λ_ _=>rfl),Yc,PH]
   have PS:∀(j i:Nat),(passing (λ_=>true) cG.length 0)[j]?=some i->i=j:=by
    intro j i bq
    unfold passing at bq
    rw[abT,adk.mpr (λ_ _=>rfl)]at bq
    obtain⟨aw,he⟩:=Y9.mp bq
    simp at he
    exact he.symm
   have Gf:=v_.imp (P':=λi y=>∃p,av[i]?=some p/\rO p.1 p.2 y) λj y q=>bB q λi bq bk=>PS j i bq▸bk
   rw[b2]at Gf
   refine⟨_,_,_,Gf,PR,λi J st=>st.1.typeIs,.head _,λb H=>?_,λb H=>?_⟩
   ·show b<v9.objs.size
    rw[hz]
    rcases XH.mp H with rfl|H
    ·exact Yt _
    rcases XH.mp H with rfl|H
    ·exact Y5 ct
    ·exact Y5 (aao (X2.mp H) ct)
   ·exact(((ax.trans bx).gens.trans ia.gens)).trans (F9 v8 b H)
end
end
section
open Builtin Builtin.ObjectAttr
theorem PT(a b:XF):argsOk "sum" ⟨[a,b],[]⟩:=by unfold argsOk;kernel_rfl
section
variable{g:XM}{Q:XF->XG->Prop}
noncomputable def qb(st:Int)(val:Nat->Int):Nat->Int
 |0=>st
 |j+1=>val j
def PU(P:Nat->XF->Prop):Nat->XF->Prop
 |0,_=>False
 |j+1,v=>P j v
def PV(P:Nat->XG->Prop):Nat->XG->Prop
 |0,_=>False
 |j+1,v=>P j v
theorem PW{aa:XM}{l2:List XM}{Gg:Array aaI->Array aaI->Prop}{P:Nat->XF->Prop}{St:Nat->XG->Prop}(W:WalksS prog w A aa l2 wr Gg n P St):WalksS prog w A aa l2 wr Gg (n+1) (PU P) (PV St) where
 sub:=W.sub
 grefl:=W.grefl
 gtrans:=W.gtrans
 frame:=λi s ah cD st a_ aL=>by
  cases i with
  |zero=>exact st.elim
  |succ i=>exact W.frame i s ah cD st a_ aL
 item:=λi s Q E aq st aA=>by
  cases i with
  |zero=>exact st.elim
  |succ i=>exact W.item i s Q E (acI aq) st aA
 done:=λs Q E st aA=>W.done s Q E st aA
 self:=λi s Q E st aA=>by
  cases i with
  |zero=>exact st.elim
  |succ i=>exact W.self i s Q E st aA
theorem PX{b:Bool}{st:Int}{t:Tok}{eT:XF×Int->Sem ac0}{Q:ac0->XG->Prop}(h:∀cD l3 aj,(l3=0\/l3=2)->aj={s with toks:=aj.toks}->s.toks<=aj.toks->wpAny (model G.prog G.w) A (eT (.int st cD,l3)) Q E aj):
  wpAny (model G.prog G.w) A (if b=true then(rule "sum.start-copied" >>= λ_=>mkInt st >>= λv=>pure (v,0) >>= eT)else pure (adI st t,2) >>= eT) Q E s:=by
 by_cases hf:b=true
 ·exact pc hf (XA (aaw (XA (wpAny_mkInt (XA (XK (h _ _ _ (.inl rfl) rfl (YF _))))))))
 ·exact fK hf (XA (XK (h _ _ _ (.inr rfl) rfl (XT _))))
theorem PY{st:Int}{t:Tok}(R:rM G A wr qa g n F s)(val:Nat->Int)(vC:∀i v,F i v->∃t,v=.int (val i) t)
  (h:∀J fE,KB (·∈wr) {s with gens:=qa} J->Q (.int (preSum (qb st val) (n+1)) fE) J):wpAny (model G.prog G.w) A (call (.builtin "sum") [.ref g,.int st t]) Q E s:=by
 refine bC λ_ a'=>?_
 obtain⟨l2,Ai,St,W,e8,jW,aY,tW,tX⟩:=R
 refine a' ?_
 have W:=W.in4_1
 refine jO ?_
 refine call_function_tree PySem.F.kind_sum PySem.F.plain_sum PySem.F.entry_sum (PT _ _) ?_
 delta Y4.«sum»
 refine fK (XN 2) (XA (Zg (show agT "sum" ["start"] 0 ⟨[.int st t],[]⟩=pure [some (.int st t)]from rfl) ?_))
 refine XA (W.self 0 _ _ _ e8 ?_)
 have fin:∀(cD:Tok) (l3:Int) (aj:XG),(l3=0\/l3=2)->aj={s with toks:=aj.toks}->s.toks<=aj.toks->codeAny (model G.prog G.w) A (.builtin "sum.loop" ⟨[.ref g,.ref aj.heap.objs.size,rawInt l3,rawInt 0],[]⟩) (λr J=>match r with | .ok (.ret v)=>(s.heap.objs.size<=J.heap.objs.size->Q v J) | .ok _=>False | .error e=>E e J) {aj with heap:=aj.heap.push {cls:=.type "list",data:=.seq #[.int st cD]}}:=by
  intro cD l3 aj aG bK a_
  have PZ:St 0 aj:=by
   rw[bK]
   exact W.frame 0 s s.heap aj.toks e8 a_ λ_ _ _ e=>e
  have Gh:aj.heap=s.heap:=by rw[bK]
  have P0:=λhm=>XN _ ((show ∀b∈l2,b<aj.heap.objs.size from λb H=>by rw[Gh];exact tW b H) _ hm)
  have bc:=PW W
  refine codeAny_sum_loopAnyS bc (qb st val) (λi v bJ=>?_) aj.heap.objs.size P0 n 1 _ cD 0 l3 aG rfl (Y1 _ _)
   (bc.frame 1 aj _ _ PZ (XT _) λb _ o e=>X6 _ e) ?_ λJ fE hm=>?_
  ·cases i with
   |zero=>exact bJ.elim
   |succ i=>exact vC i v bJ
  ·have:=XU aj.heap (o:={cls:=.type "list",data:=.seq #[.int st cD]}) rfl
   simp only[this]
   simp[preSum,qb]
  ·have kX:=hm.drop_new (XT _)
   intro hsz
   exact h J fE ⟨λb o H e=>kX.heap b o H (by rw[Gh];exact e),hsz,(by have:=kX.os;rw[this,bK]),tX _ (by have:=kX.gens;rw[bK]at this;exact this)⟩
 refine PX λcD l3 aj O ae a2=>?_
 refine XA (qT (XA (abD (T:="int") (b:=false) (adW _ _ _) PySem.sub_int_str (fK X' (XK ⟨_,rfl,?_⟩)))))
 refine qT (XA (abD (T:="int") (b:=false) (adW _ _ _) PySem.sub_int_bytes (fK X' (XK ⟨_,rfl,?_⟩))))
 refine qT (XA (abD (T:="int") (b:=false) (adW _ _ _) PySem.sub_int_bytearray (fK X' (XK ⟨_,rfl,x2 ?_⟩))))
 exact XA (aat (XK ⟨aa8 PySem.F.plain_sum_loop _,fin cD l3 aj O ae a2⟩))
theorem P1{sep:Str}{t:Tok}(R:rM G A wr qa g n F s)(mJ:Nat->Str)(tY:∀i v,F i v->∃u,v=.str (mJ i) u)(rL:JoinOk sep ((XO n).map mJ)=true)(hsz:n<=YD)
  (h:∀J fE,KB (·∈wr) {s with gens:=qa} J->Q (.str (abY sep ((XO n).map mJ)) fE) J):wpAny (model G.prog G.w) A (call (.builtin "str.join") [.str sep t,.ref g]) Q E s:=by
 refine bC λ_ a'=>?_
 obtain⟨l2,Ai,St,W,e8,jW,aY,tW,tX⟩:=R
 refine a' ?_
 have W:=W.in4_2
 refine jO ?_
 refine SC.joinGen W jW e8 tW aY (λj v bJ=>by obtain⟨u,e⟩:=tY j v bJ;exact⟨_,u,e⟩) (λJ lt hm Gi=>?_) hsz
 have aw:lt.map (·.1)=(XO n).map mJ:=by
  apply adD
  intro j
  have hsz:lt.length=n:=by simpa [strValues] using Gi.1
  by_cases bq:j<n
  ·have jB:=hsz▸bq
   refine cS (tY j _ (Gi.2 j (.str lt[j].1 lt[j].2) (by simp[strValues,XI jB]))) λu bJ=>?_
   injection bJ with O _
   simp[XI jB,bq,O]
  ·rw[X8 (by simpa [hsz] using Yu bq),X8 (by simpa using Yu bq)]
 exact aw▸⟨rL,λfE k hsz=>h {J with toks:=k} fE ⟨λb o H e=>hm.heap b o H e,hsz,hm.os,tX _ hm.gens⟩⟩
end
end
section
open Builtin Builtin.ObjectAttr
section
variable{pos:Pos}{c:XM}{x:XM}{g:XM}
theorem AC.dict(a:AC G K C):hasDictIn K C=true:=by
 refine oc a.cd λcd O ae a2 _=>?_
 delta hasDictIn
 exact O.symm▸a2
theorem aN.P2{i:Int}{name:Str}(a:AC G K C)(ar:e4 C σ x bT eu items)(h0:aN G k sc σ Γ o (.raw (.ref x)))(aw:eu.lookup name=some (.int i))(k8:findIn K (.ref C) name=some none)
  (et:autoParam (∀env,YB o name env (eval o env)=eval o env) aI) (a_:autoParam (∀gX r,letTemporaryGo o gX r=pure ()) aI):aN G k sc σ Γ (.Attribute o name pos) (.int i):=by
 intro A env pr s Q E R aa W F h
 simp only[arm_eval_Attribute,et]
 refine XA (h0 A env pr s _ _ R aa W F λv aj ax a0=>?_)
 have cM:=a0.dB
 subst cM
 have cA:=W.keep ax
 refine iP (cA.kA ar) λvs n bE eg e r hD tZ=>?_
 have:=tZ name
 rw[aw]at this
 refine bB this λv bJ ej=>?_
 refine cS ej.int_inv λt aB=>?_
 subst aB
 refine XA (Yl (XA (X7 (EI a cA ar hD (findObj_own a.dict k8 rfl bJ) rfl ?_))))
 refine XA (Zg (a_ _ _) (XK ?_))
 exact h _ _ (ax.trans (bb.tok _)) (.int _ _)
theorem P4{i:Int}{name:Str}{cb:Pos}{Q:XF->XG->Prop}(a:AC G K C)(W:a4 G σ pr s)(F:bg σ pr s.heap env Γ)(aa:cT G sc env)(lY:Γ.lookup ("self":Str)=some (V.raw (.ref x)))(aL:sc.kind=.function)(P5:sc.names.lookup ("self":Str)=some NameKind.local)(ar:e4 C σ x bT eu items)(aw:eu.lookup name=some (.int i))(k8:findIn K (.ref C) name=some none)
  (h:∀t,Q (.int i t) {s with toks:=s.toks+1}) (et:autoParam (YB (.Name "self" cb) name env (eval (.Name "self" cb) env)=eval (.Name "self" cb) env) aI) (a_:autoParam (∀gX r,letTemporaryGo (.Name "self" cb) gX r=pure ()) aI):wpAny (model G.prog G.w) A (eval (.Attribute (.Name "self" cb) name pos) env) Q E s:=by
 have Gj:env.kindOf "self" = some .local:=by unfold Yh;rw[aa.scope];exact P5
 rcases F.vars "self" _ lY with ⟨a1,m,v,n,e,r⟩|⟨a1,c,v,e,au,r⟩
 ·refine XA (tQ (by rw[aa.scope];exact aL) Gj n e ?_)
  have cM:=r.dB
  subst cM
  refine iP (W.kA ar) λvs n bE eg e r hD tZ=>?_
  have:=tZ name
  rw[aw]at this
  refine bB this λv bJ ej=>?_
  refine cS ej.int_inv λt aB=>?_
  subst aB
  refine XA (Yl (XA (X7 (EI a W ar hD (findObj_own a.dict k8 rfl bJ) rfl ?_))))
  exact XA (Zg (a_ _ _) (XK (h t)))
 ·replace a1:=Gj▸a1
  rcases a1 with a1|a1<;>cases a1
theorem rM.frame(R:rM G A wr qa g n F s){cD:Nat}(a_:s.toks<=cD)(aL:∀b o,s.heap.get? b=some o->ah.get? b=some o)(hz:s.heap.objs.size<=ah.objs.size):rM G A wr qa g n F {s with heap:=ah,toks:=cD}:=by
 refine bC λ_ a'=>?_
 obtain⟨l2,Ai,St,W,e8,jW,aY,tW,tX⟩:=R
 refine a' ?_
 exact⟨l2,Ai,St,W,W.frame 0 s ah cD e8 a_ λb _ o e=>aL b o e,jW,aY,λb H=>XE (tW b H) hz,tX⟩
structure v'(G:GE)(K:ach)(C:XM)(ck:Nat->XM)(cJ c4 bA bF:XM):Prop where
 it:findIn K (.ref C) "__iter__" = some (some (.builtin "list.__iter__"))
 f4:i1 G (ck 4) ["self"] (dZ 4).2 (dZ 4).1 (.ref cJ) "_Accumulator.__len__"
 tC:i1 G (ck 5) ["self"] (dZ 5).2 (dZ 5).1 (.ref c4) "_Accumulator.__str__"
noncomputable def mK:Str:="_Accumulator.__len__"++Yr ".<locals>."++"<genexpr>"
noncomputable def nM:Str:="_Accumulator.__str__"++Yr ".<locals>."++"<genexpr>"
theorem Gk{u:Tok}{cenv:Env}{cb dw el:Pos}{nm:Str}{fi:Yz}{i9:Str->Option XF}{Q:XF->XG->Prop}{cI:XF->XG->Prop}(ok:G.Ok)(H:∀b o,G.h₀.get? b=some o->ao.heap.get? b=some o)(b2:G.mg "len" = none)(hsz:y.length<2^62)
  (aL:cenv.scope.kind=.function) (cE:cenv.globals=YJ) (lp:cenv.builtins=Y6) (P6:cenv.scope.names.lookup ("len":Str)=some aaZ) (ag:cenv.scope.names.lookup nm=some NameKind.local) (az:ao.heap.Ns cenv.locals i9) (hm:i9 nm=some (.str y u)) (hd:(nm==("__debug__":Str))=false)
  (h:∀t cD,Q (.int y.length t) {ao with toks:=cD}):wpAny (model G.prog G.w) fi (eval (.Call (.Name "len" cb) [.Name nm dw] [] el) cenv) Q cI ao:=by
 rw[show eval (.Call (.Name "len" cb) [.Name nm dw] [] el) cenv=(do Z5 el (<-eval (.Name "len" cb) cenv) [] (Yw el (X5 [.Name nm dw] cenv)) (backToKw el (Zh [] cenv)))from rfl]
 refine XA ?_
 refine aau aL (by unfold Yh;exact P6) ?_ aH
 refine ace («env»:=cenv) (mg:=G.mg) (mb:=G.mb) ?_ b2 ?_ ((ok.builtins "len" aH).trans rfl) ?_
 ·rw[cE];exact ok.g.keeps H
 ·rw[lp];exact ok.b.keeps H
 refine ZH rfl (abp (YE (tQ aL (by unfold Yh;exact ag) az hm (Zc ?_) hd) rfl))
 exact afI (by lia) (h _ _)
theorem P7{dD:Yy}{Q:XF->XG->Prop}(h:wpAny M A (do Z5 pos (<-eval dD env) [] (Yw pos (X5 aZ env)) (backToKw pos (Zh [] env))) Q E s)(aR:autoParam (eval (.Call dD aZ [] pos) env=(do Z5 pos (<-eval dD env) [] (Yw pos (X5 aZ env)) (backToKw pos (Zh [] env)))) aI):wpAny M A (eval (.Call dD aZ [] pos) env) Q E s:=aR▸h
theorem Aj{f:XF}{Q:Args->XG->Prop}(h:wpAny M A (spliced (Yw pos (X5 (e::aZ) env))) (λvs J=>Q ⟨vs,[]⟩ J) E s)(he:autoParam (X5 (e::aZ) env=(false,eval e env)::X5 aZ env) aI):wpAny M A (evalArgs f true (Yw pos (X5 (e::aZ) env)) []) Q E s:=by
 have H:Yw pos (X5 (e::aZ) env)=(false,eval e env)::Yw pos (X5 aZ env):=by rw[he];rfl
 rw[H]
 refine abp ?_
 exact H▸h
noncomputable def i_(av:List (Str×Str)):Int:=((av.map λp=>((p.1.length:Int)+(p.2.length:Int)))).sum
theorem P8(st:Int)(l:List Int):preSum (qb st λi=>l.getD i 0) (l.length+1)=st+l.sum:=by
 have key:∀n,n<=l.length->preSum (qb st λi=>l.getD i 0) (n+1)=st+(l.take n).sum:=by
  intro n
  induction n with
  |zero=>intro _;simp[preSum,qb]
  |succ n ih=>
   intro az
   show preSum (qb st λi=>l.getD i 0) (n+1)+l.getD n 0=_
   rw[ih o8,List.take_succ_eq_append_getElem n_,agx,XB,XI n_]
   simp
   lia
 simp only[key _ (XT _),abm]
theorem Gl(P:cK G aK)(a:AC G K C)(am:p2 K C)(B:v' G K C ck cJ c4 bA bF)(hm:(bA,cf.tab cJ mK)∈σ)(ar:e4 C σ x bT eu (av.map eC)){i:Int}(aw:eu.lookup ("_initial_size":Str)=some (.int i))(b2:∀p∈av,p.1.length<=1000/\p.2.length<=1000)(Gm:G.mg "len" = none)(t0:G.mg "sum" = none):
  cy G (k+1) [bA] σ (.ref (ck 4)) [.raw (.ref x)] (λY d=>Y=σ/\d=.int (i+i_ av)):=by
 refine cy.sW (P:=λo=>o=.ret σ (.int (i+i_ av))) B.f4 rfl ?_ λo aP=>by subst aP;exact⟨[],σ,rfl,λ_ h=>h,rfl,rfl⟩
 intro A env pr s Q E aW aa lN Ak W F aA
 refine Ze (Z9 ?_)
 refine P7 ?_
 refine XA (aN.run (k:=k) (sc:=(dZ 4).2) (.dV (x:="sum") t0 (by rfl) aH) aW aa W F λv aj ax a0=>?_)
 have cM:=a0.dB
 subst cM
 have cA:=W.keep ax
 have cX:=F.keep ax
 refine ZH rfl (Aj (YE ?_ rfl))
 refine F_ (av:=av) (q:=mK) (rO:=λb p y=>∃t,y=adI ((b.length:Int)+(p.length:Int)) t) P a aW aa cA cX rfl rfl ar hm lN (by rw[Ak];rfl) B.it ?_ λg ao wr oK bo cH R₂=>?_
 ·intro fi cI cenv b p t u ao i9 f9 ef aG cE lp az H Al aL
  have Gn:cenv.scope.kind=.function:=aG▸rfl
  have mB:cenv.scope.names.lookup ("len":Str)=some aaZ:=aG▸rfl
  refine abM (Gk W.ok aL Gm (XW (b2 _ f9).1 aH) Gn cE lp mB (aG▸rfl) az H aH λt1 P9=>?_)
  refine Gk (ao:={ao with toks:=P9}) W.ok aL Gm (XW (b2 _ f9).2 aH) Gn cE lp mB (aG▸rfl) az Al aH λjy Xh=>?_
  refine wpAny_add_int ?_
  exact⟨⟨_,rfl⟩,ao.heap,_,rfl,λ_ _ e=>e⟩
 ·have bQ:=cX.aJ oK (dy cA (dr hm)) λb H q=>W.apart b (H▸dr hm) (F.c' b q)
  refine YE (P4 a bo.ei bQ aa rfl rfl rfl ar aw am.no λt=>Zc ?_) rfl
  have P_:=R₂.frame (cD:=ao.toks+1) (ah:=ao.heap) (YF _) (λ_ _ e=>e) (XT _)
  refine PY P_ (λj=>(av.map λp=>((p.1.length:Int)+(p.2.length:Int))).getD j 0) (λj v bJ=>?_) λJ fE ia=>?_
  ·obtain⟨p,bq,t,rfl⟩:=bJ
   exact⟨t,by simp[XB,bq]⟩
  ·have Gp:=P8 i (av.map λp=>((p.1.length:Int)+(p.2.length:Int)))
   rw[XJ]at Gp
   simp only[Gp]
   have bc:=((show a4 G σ (wr++pr) {ao with gens:=aj.gens,toks:=ao.toks+1}from⟨bo.ok,bo.base,bo.store,bo.nodup,bo.apart,bo.lt,bo.above⟩).aJ ia λb H=>XS _ H).ei
   have aJ:KB (λb=>b=bA) s J:=by
    refine⟨λb o H e=>ia.keep b o (λq=>?_) (oK.keep b o H (ax.get e)),XC ax.size (XC oK.size ia.size),ia.os.trans (oK.os.trans ax.os),ax.gens.trans ia.gens⟩
    exact XN _ (XE (XE (XX e) ax.size) (cH b q))
   exact aA _ _ J rfl (.of (aJ.mono λb q=>.inl (q▸.head _))) ⟨bc,_,rfl,.int _ _⟩
end
end
section
open Builtin Builtin.ObjectAttr
section
variable{pos:Pos}{c:XM}{x:XM}{g:XM}
theorem Qa{b p:Str}{t u nG:Tok}{cenv:Env}{cb dw el dW nz rH:Pos}{lZ:Nat}{fi:Yz}{i9:Str->Option XF}{cI:XF->XG->Prop}(ok:G.Ok)(H:∀b o,G.h₀.get? b=some o->ao.heap.get? b=some o)(aa:cT G sc cenv)(wa:G.mg "EMPTYSTRING" = some (.str "" nG))(u7:b.length<=1000)(fg:p.length<=1000)
  (aL:sc.kind=.function) (Am:sc.names.lookup ("EMPTYSTRING":Str)=some aaZ) (ag:sc.names.lookup ("fws":Str)=some NameKind.local) (q0:sc.names.lookup ("part":Str)=some NameKind.local) (az:ao.heap.Ns cenv.locals i9) (hm:i9 "fws" = some (.str b t)) (Qb:i9 "part" = some (.str p u)) (ha:(dw.endLine==rH.line)=true)
  (et:autoParam (YB (.Name "EMPTYSTRING" cb) "join" cenv (eval (.Name "EMPTYSTRING" cb) cenv)=eval (.Name "EMPTYSTRING" cb) cenv) aI)
  (g':autoParam (((Yw rH (X5 [.Tuple [.Name "fws" el,.Name "part" dW] lZ nz] cenv)).all (λx=>!x.1)&&(backToKw rH (Zh [] cenv)).all (λx=>x.1.isSome)&&decide ([Expr.Tuple [.Name "fws" el,.Name "part" dW] lZ nz].length+([]:List aab).length+(if([]:List aab).isEmpty then 0 else 1)<30))=true) aI) :
  wpAny (model G.prog G.w) fi (eval (.Call (.Attribute (.Name "EMPTYSTRING" cb) "join" dw) [.Tuple [.Name "fws" el,.Name "part" dW] lZ nz] [] rH) cenv) (λy bI=>(∃t,y=.str (abY "" [b,p]) t)/\Keeps ao bI) cI ao:=by
 have iS:cenv.scope.kind=.function:=by rw[aa.scope];exact aL
 refine ZQ et g' ha Zm acr acq (p_ ok H aa wa ⟨aaY _ _ _,λa q=>(nomatch q),?_⟩ aL Am)
 refine ZH rfl (Aj (YE ?_ rfl))
 refine aeB (YE (tQ iS (by unfold Yh;rw[aa.scope];exact ag) az hm (YE (tQ iS (by unfold Yh;rw[aa.scope];exact q0) az Qb (Zc ⟨(show(2:Nat)<=YD by decide),Zc ?_⟩)) rfl)) rfl)
 refine ahA (ys:=[b,p]) (C4 (n:=0) (vs:=[abj b t,.str p u]) (XU _ rfl)) (.cons _ _ (.cons _ _ .nil)) ?_ λfE cD=>?_
 ·simp
  have:("":Str).length=0:=rfl
  lia
 ·exact⟨⟨fE,rfl⟩,_,cD,rfl,λb o e=>X6 _ e⟩
noncomputable def nN(p:Str×Str):Str:=abY "" [p.1,p.2]
def hE(av:List (Str×Str)):Str:=abY "" (av.map nN)
theorem Qc(p:Str×Str):(nN p).length=p.1.length+p.2.length:=by
 show(p.1.cps++("":Str).cps++p.2.cps).size=p.1.cps.size+p.2.cps.size
 simp only[afO,afO]
 have:("":Str).cps.size=0:=rfl
 lia
theorem Gq(P:cK G aK)(a:AC G K C)(am:p2 K C)(B:v' G K C ck cJ c4 bA bF)(hm:(bF,cf.tab c4 nM)∈σ)(ar:e4 C σ x bT eu (av.map eC))(b2:∀p∈av,p.1.length<=1000/\p.2.length<=1000)(mL:av.length<=1000):
  cy G (k+1) [bF] σ (.ref (ck 5)) [.raw (.ref x)] (λY d=>Y=σ/\d=.str (hE av)):=by
 refine cS P.emp λnG wa=>?_
 refine cy.sW (P:=λo=>o=.ret σ (.str (hE av))) B.tC rfl ?_ λo aP=>by subst aP;exact⟨[],σ,rfl,λ_ h=>h,rfl,rfl⟩
 intro A env pr s Q E aW aa lN Ak W F aA
 refine Ze (Z9 ?_)
 refine ZQ rfl rfl rfl Zm acr acq (p_ W.ok W.base aa wa ⟨aaY _ _ _,λa q=>(nomatch q),?_⟩)
 refine ZH rfl (Aj (YE ?_ rfl))
 refine F_ (av:=av) (q:=nM) (rO:=λb p y=>∃t,y=abj (abY "" [b,p]) t) P a aW aa W F rfl rfl ar hm lN (by rw[Ak];rfl) B.it ?_ λg ao wr oK bo cH R₂=>?_
 ·intro fi cI cenv b p t u ao i9 f9 ef aG cE lp az H Al aL
  have pz:cT G cenv.scope cenv:=⟨rfl,cE,lp,λx ag=>by
   replace ag:=aG▸ag
   exact absurd (mem_of_lookup ag) ((show ∀(l:List (Str×Zj)),(l.all λp=>p.2 !=.free)=true->(x,Yj)∉l from λl h hm=>by have:=X9.mp h _ hm;simp at this) _ aH)⟩
  exact Qa W.ok aL pz wa (b2 _ f9).1 (b2 _ f9).2 (aG▸rfl) (aG▸rfl) (aG▸rfl) (aG▸rfl) az H Al rfl
 ·refine Zc ?_
  have tY:(XO av.length).map (λj=>(av.map nN).getD j "")=av.map nN:=by
   apply adD
   intro j
   by_cases bq:j<av.length
   ·simp[bq]
   ·simp[Yu bq]
  refine P1 R₂ (λj=>(av.map nN).getD j "") (λj v bJ=>?_) (by
   rw[tY]
   refine ahB ?_
   have:∀(l:List (Str×Str)),(∀p∈l,p.1.length<=1000/\p.2.length<=1000)->((l.map nN).map (·.length)).sum<=l.length*2000:=by
    intro l
    induction l with
    |nil=>intro _;simp
    |cons p l ih=>
     intro h
     have O:=ih λq aR=>h q (.tail _ aR)
     have ae:=h p (.head _)
     have a2:=Qc p
     simp only[Yb,aaJ,Yi]
     rw[a2]
     lia
   have O:=this av b2
   rw[(show("":Str).length=0 from rfl)]
   lia) (b1 dt) λJ fE ia=>?_
  ·obtain⟨p,bq,t,rfl⟩:=bJ
   exact⟨t,by simp[XB,bq,nN]⟩
  ·rw[tY]
   have bc:=((show a4 G σ (wr++pr) {ao with gens:=s.gens}from⟨bo.ok,bo.base,bo.store,bo.nodup,bo.apart,bo.lt,bo.above⟩).aJ ia λb H=>XS _ H).ei
   have aJ:KB (λb=>b=bF) s J:=by
    refine⟨λb o H e=>ia.keep b o (λq=>?_) (oK.keep b o H e),XC oK.size ia.size,ia.os.trans oK.os,ia.gens⟩
    exact XN _ (XE (XX e) (cH b q))
   exact aA _ _ J rfl (.of (aJ.mono λb q=>.inl (q▸.head _))) ⟨bc,_,rfl,.str _ _⟩
end
end
section
open Builtin Builtin.ObjectAttr
section
variable{pos:Pos}{x:XM}{r:Yy}{b:Bool}{n:Int}
theorem b4.step(st:b4 (·∈T) σ σ s J):KB (·∈T) s J:=st.aJ
theorem cc.Qd(O:cc G k sc T σ Γ l (λY d=>Y=σ/\d=.bool b))(ae:b=false->cc G k sc T σ Γ r R)(dT:b=true->R σ (.bool true)):cc G k sc T σ Γ (.BoolOp .Or [l,r] pos) R:=by
 intro A env pr s Q E aW aa W F aA
 refine wpAny_Or2 (O A env pr s _ _ aW aa W F (λY d v aj ar st cA cX a0=>?_))
 obtain⟨rfl,rfl⟩:=ar
 have cM:=a0.bool_inv
 subst cM
 refine aaP ?_
 cases b with
 |true=>exact aA _ _ _ aj (dT rfl) st cA cX a0
 |false=>exact ae rfl A env pr aj _ _ aW aa cA cX (λY d v J ar df=>aA Y d v J ar (st.trans' df))
theorem cc.Qe(O:cc G k sc T σ Γ l (λY d=>Y=σ/\d=.bool b))(ae:b=true->cc G k sc T σ Γ r R)(dT:b=false->R σ (.bool false)):cc G k sc T σ Γ (.BoolOp .And [l,r] pos) R:=by
 intro A env pr s Q E aW aa W F aA
 refine wpAny_And2 (O A env pr s _ _ aW aa W F (λY d v aj ar st cA cX a0=>?_))
 obtain⟨rfl,rfl⟩:=ar
 have cM:=a0.bool_inv
 subst cM
 refine aaP ?_
 cases b with
 |false=>exact aA _ _ _ aj (dT rfl) st cA cX a0
 |true=>exact ae rfl A env pr aj _ _ aW aa cA cX (λY d v J ar df=>aA Y d v J ar (st.trans' df))
theorem Gr{Q:Fin->XG->Prop}(j6:K.In s.heap)(aa:InstAt s.heap x ox C eg)(aG:findIn K (.ref C) "__len__" = some (some (.ref f)))(hf:typeIn K (.ref f)=some (.type "function"))
  (h:wpAny (model G.prog G.w) A (call (.ref f) [.ref x]) (λv J=>∃n t,v=.int n t/\0<=n/\n<2^63/\Q (.done (.ret (.int n J.toks))) {J with toks:=J.toks+1}) E s):wpAny (model G.prog G.w) A (Y4.«len» ⟨[.ref x],[]⟩) Q E s:=by
 refine XA (m:=oneArg "len" _) (XK ?_)
 refine XA (m:=callSpecial? (.ref x) (Yr "__len__")) (special_fn j6 aa aG hf (Zi h (λv J bJ=>?_) λ_ _ z=>z))
 refine qL bJ λn t aB h0 O aR=>?_
 subst aB
 refine XA (X7 (m:=asIndex (.int n t)) (XK ?_))
 refine XA (agl ?_)
 rw[if_neg (by lia),if_neg (by lia)]
 exact XA (wpAny_mkInt (XK aR))
theorem cy.Qf(a:AC G K C)(ar:e4 C σ x bT eu items)(aG:findIn K (.ref C) "__len__" = some (some (.ref f)))(hf:typeIn K (.ref f)=some (.type "function"))(h0:0<=n)(O:n<2^63)(h:cy G k T σ (.ref f) [.raw (.ref x)] (λY d=>Y=σ/\d=.int n)):cy G (k+1) T σ (.builtin "len") [.raw (.ref x)] (λY d=>Y=σ/\d=.int n):=by
 intro A pr s vs Q E aW W r aA
 refine bB r.inv1 λ_ aB bO=>?_
 subst aB
 have cM:=bO.dB
 subst cM
 refine iP (W.kA ar) λws m bE eg e r hD aw=>?_
 refine call_function_entry kind_len plain_len entry_len (args_len1 _) (Gr (a.X.keeps W.base) hD aG hf ?_)
 refine h A.in1 pr s _ _ _ aW.in1 W (.cons (.raw _) .nil) (λY d v J hd st bc bV=>?_)
 obtain⟨rfl,rfl⟩:=hd
 refine cS bV.int_inv λt aB=>?_
 subst aB
 exact⟨n,t,rfl,h0,O,_,rfl,aA _ _ _ _ ⟨rfl,rfl⟩ (st.trans' (.dF (bb.tok _))) (bc.keep (bb.tok _)) (.int _ _)⟩
theorem cy.Gs(a:AC G K C)(ar:e4 C σ x bT eu items)(aG:findIn K (.ref C) "__str__" = some (some (.ref f)))(hf:typeIn K (.ref f)=some (.type "function"))(h:cy G k T σ (.ref f) [.raw (.ref x)] (λY d=>Y=σ/\d=.str y)):cy G (k+2) T σ (.type "str") [.raw (.ref x)] (λY d=>Y=σ/\d=.str y):=by
 intro A pr s vs Q E aW W r aA
 refine bB r.inv1 λ_ aB bO=>?_
 subst aB
 have cM:=bO.dB
 subst cM
 refine iP (W.kA ar) λws m bE eg e r hD aw=>?_
 have dh:=aW.u4
 refine kso_call (by show A.units+1+1<cLine;lia) (a.X.keeps W.base) hD aG (beq_iff_eq.mpr hf) ?_
 refine h A.in1.in1 pr s _ _ _ aW.in1.in1 W (.cons (.raw _) .nil) (λY d v J hd st bc bV=>?_)
 obtain⟨rfl,rfl⟩:=hd
 refine cS bV.str_inv λt aB=>?_
 subst aB
 exact aA _ _ _ _ ⟨rfl,rfl⟩ st bc (.str _ _)
theorem cc.Qg(a:AC G K C)(ar:e4 C σ x bT eu items)(Qh:findIn K (.ref C) "__bool__" = some none)(aG:findIn K (.ref C) "__len__" = some (some (.ref f)))(hf:typeIn K (.ref f)=some (.type "function"))(h0:0<=n)(O:n<2^63)(aU:∀b∈T,b∈σ.at)(aP:aN G (k+1) sc σ Γ o (.raw (.ref x)))(h:cy G k T σ (.ref f) [.raw (.ref x)] (λY d=>Y=σ/\d=.int n)):
  cc G (k+1) sc T σ Γ (.UnaryOp .Not o pos) (λY d=>Y=σ/\d=.bool (n==0)):=by
 intro A env pr s Q E aW aa W F aA
 refine wpAny_UnaryOp (aP A env pr s _ _ aW aa W F λv aj ax a0=>?_)
 have cM:=a0.dB
 subst cM
 have cA:=W.keep ax
 have cX:=F.keep ax
 refine iP (cA.kA ar) λws m bE eg e r hD aw=>?_
 have j6:=a.X.keeps cA.base
 refine not_value ?_
 refine XA (m:=callSpecial? (.ref x) (Yr "__bool__")) (XA (XA (hD.type.here ((Z0 j6 Qh).here (XK ?_)))))
 refine XA (XA (hD.type.here ((Z0 j6 aG).here ?_)))
 rw[if_neg (show ¬((some (ZR f)).isNone=true)from X')]
 refine XA (wpAny_runValue (abX entry_len ?_))
 refine Gr j6 hD aG hf ?_
 refine h A.in1 pr aj _ _ _ aW.in1 cA (.cons (.raw _) .nil) (λY d v J hd st bc bV=>?_)
 refine bC λ_ fq=>?_
 obtain⟨rfl,rfl⟩:=hd
 refine cS bV.int_inv λt aB=>?_
 subst aB
 refine fq ?_
 refine⟨n,t,rfl,h0,O,?_⟩
 refine XK ?_
 have b7:=cX.stp st (λb H q=>q.1 (aU b H)) λb H q=>cA.apart b (aU b H) (cX.c' b q)
 exact(show(!(n !=0))=(n==0)from by cases az:(n==0)<;>simp_all)▸aA _ _ _ _ ⟨rfl,rfl⟩ ((b4.dF ax).trans' (st.trans' (.dF (bb.tok _)))) (bc.keep (bb.tok _)) (b7.keep (bb.tok _)) (.bool _)
theorem cc.space(aU:∀b∈T,b∈σ.at)(h0:cc G k sc T σ Γ o (λY d=>Y=σ/\d=.str y))
  (et:autoParam (∀env,YB o "isspace" env (eval o env)=eval o env) aI)
  (g':autoParam (∀env,((Yw pos (X5 [] env)).all (λx=>!x.1)&&(backToKw pos (Zh [] env)).all (λx=>x.1.isSome)&&decide (([]:List Yy).length+([]:List aab).length+(if([]:List aab).isEmpty then 0 else 1)<30))=true) aI)
  (ha:autoParam ((apos.endLine==pos.line)=true) aI):cc G k sc T σ Γ (.Call (.Attribute o "isspace" apos) [] [] pos) (λY d=>Y=σ/\d=.bool (ad3 y)):=by
 intro A env pr s Q E R aa W F aA
 refine ZQ (et env) (g' env) ha Zm aef PySem.F.type_str_isspace (h0 A env pr s _ _ R aa W F (λY d v aj hd st cA cX a0=>?_))
 obtain⟨rfl,rfl⟩:=hd
 refine cS a0.str_inv λt aB=>?_
 subst aB
 refine⟨aaY _ _ _,λa q=>(nomatch q),?_⟩
 refine ZH rfl (Z2 ?_)
 refine call_gives aef (aaY _ _ _) PySem.F.entry_str_isspace (PySem.F.args_str_isspace_1 _) (gives_str_isspace y t) ?_
 exact aA _ _ _ aj ⟨rfl,rfl⟩ st cA cX (.bool _)
end
end
section
open PySem.SeqAt
structure gh{α:Type}(lt:α->α->Bool):Prop where
 wb:∀a,lt a a=false
 kH:∀a b c,lt a b=true->lt b c=true->lt a c=true
 t2:∀a b,lt a b=false->lt b a=false->a=b
theorem gh.int:gh (λa b:Int=>decide (a<b)):=⟨λa=>by simp,λa b c O ae=>by simp at *;lia,λa b O ae=>by simp at *;lia⟩
theorem gh.ep[DecidableEq α]{lt:α->α->Bool}(h:gh lt):gh (ep lt) where
 wb:=λa=>by
  induction a with
  |nil=>rfl
  |cons x xs ih=>exact(if_pos rfl).trans ih
 kH:=λa=>by
  induction a with
  |nil=>
   intro b c O ae
   cases b with
   |nil=>exact iN (O:false=true)
   |cons y ys=>cases c with
    |nil=>exact iN (ae:false=true)
    |cons z zs=>rfl
  |cons x xs ih=>
   intro b c O ae
   cases b with
   |nil=>exact iN (O:false=true)
   |cons y ys=>
    cases c with
    |nil=>exact iN (ae:false=true)
    |cons z zs=>
     simp only[sz]
     replace O:=sz.symm.trans O
     replace ae:=sz.symm.trans ae
     by_cases a3:x=y
     ·subst a3
      rw[if_pos rfl]at O
      by_cases bH:x=z
      ·subst bH;rw[if_pos rfl]at ae ⊢;exact ih _ _ O ae
      ·rw[if_neg bH]at ae ⊢;exact ae
     ·rw[if_neg a3]at O
      by_cases bH:y=z
      ·subst bH;rw[if_neg a3];exact O
      ·replace ae:=(if_neg bH)▸ae
       have:=h.kH _ _ _ O ae
       rw[if_neg (λe=>by subst e;rw[h.wb]at this;cases this)];exact this
 t2:=λa=>by
  induction a with
  |nil=>intro b O ae;cases b with
   |nil=>rfl
   |cons y ys=>exact sm (O:true=false)
  |cons x xs ih=>
   intro b O ae
   cases b with
   |nil=>exact sm (ae:true=false)
   |cons y ys=>
    replace O:=sz.symm.trans O
    replace ae:=sz.symm.trans ae
    by_cases e:x=y
    ·subst e;rw[if_pos rfl]at O ae;rw[ih _ O ae]
    ·rw[if_neg e]at O;rw[if_neg (λq=>e q.symm)]at ae
     exact absurd (h.t2 _ _ O ae) e
theorem gh.ltI:gh ltI:=gh.int.ep
theorem gh.gV:gh gV:=gh.ltI.ep
noncomputable def gi(lt:α->α->Bool)(l:List α):List α:=l.mergeSort λa b=>!lt b a
section
variable{lt:α->α->Bool}
theorem rQ(l:List α):(gi lt l).Perm l:=List.mergeSort_perm _ _
theorem Gu(h:gh lt)(l:List α):(gi lt l).Pairwise λa b=>lt b a=false:=by
 have:=List.pairwise_mergeSort (le:=λa b=>!lt b a) (λa b c O ae=>?_) (λa b=>?_) l
 ·exact this.imp λx=>by simpa using x
 ·simp only[ab8]at *
  cases au:lt c a with
  |false=>rfl
  |true=>
   cases H:lt a b with
   |true=>rw[h.kH _ _ _ au H]at ae;cases ae
   |false=>
    have e:=h.t2 _ _ H O
    subst e
    cases au.symm.trans ae
 ·cases O:lt b a with
  |false=>simp
  |true=>
   cases ae:lt a b with
   |false=>simp
   |true=>
    have:=h.kH _ _ _ O ae
    rw[h.wb]at this;cases this
theorem Gv(h:gh lt){l gf:List α}(ar:gf.Perm l)(aG:gf.Pairwise λa b=>lt b a=false):gf=gi lt l:=
 List.Perm.eq_of_pairwise (le:=λa b=>lt b a=false) (λa b _ _ O ae=>h.t2 _ _ ae O) aG (Gu h l) (ar.trans (rQ l).symm)
theorem wc(h:gh lt){l gf:List α}(ar:gf.Perm l):gi lt gf=gi lt l:=Gv h ((rQ gf).trans ar) (Gu h gf)
noncomputable def oL(lt:α->α->Bool)(l:List α)(x:α):Nat:=l.countP λy=>lt y x
theorem Gw(h:gh lt){l:List α}{x y:α}(ag:x∈l)(tt:lt x y=true):oL lt l x<oL lt l y:=by
 delta oL
 induction l with
 |nil=>cases ag
 |cons z zs ih=>
  have le:zs.countP (λu=>lt u x)<=zs.countP (λu=>lt u y):=List.countP_mono_left λu _ dh=>h.kH _ _ _ dh tt
  simp only[agg,agg]
  by_cases e:z=x
  ·subst e
   rw[h.wb,tt];simp;exact Cy
  ·have lP:x∈zs:=by
    rcases XH.mp ag with q|q
    ·exact absurd q.symm e
    ·exact q
   have:=ih lP
   cases hz:lt z x with
   |false=>simp;split<;>lia
   |true=>rw[h.kH _ _ _ hz tt];simp;exact qI
theorem An(h:gh lt){l:List α}{x y:α}(ag:x∈l)(bk:y∈l):decide (oL lt l x<oL lt l y)=lt x y:=by
 cases au:lt x y with
 |true=>exact decide_eq_true (Gw h ag au)
 |false=>
  refine decide_eq_false λai=>?_
  cases hd:lt y x with
  |true=>have:=Gw h bk hd;lia
  |false=>rw[h.t2 _ _ au hd]at ai;lia
theorem Gx(h:gh lt){l:List α}{d:α}{p:List Nat}(ar:p.Perm (XO l.length))(aG:(p.map λi=>oL lt l (l.getD i d)).Pairwise (·<=·)):(p.map λi=>l.getD i d)=gi lt l:=by
 have hm:∀i∈p,l.getD i d∈l:=λi aq=>by
  have:i<l.length:=by have:=ar.mem_iff.mp aq;simpa using this
  rw[(show l.getD i d=l[i]from by simp[this])];exact Ya this
 refine Gv h ?_ ?_
 ·have e:(XO l.length).map (λi=>l.getD i d)=l:=by
   apply Y3
   ·simp
   ·intro i O ae;simp at O ⊢;simp[O]
  have:=ar.map λi=>l.getD i d
  rwa [e]at this
 ·rw[ab6]at aG ⊢
  refine ahp (λ{i j} aq bq gR=>?_) aG
  rw[<-An h (hm j bq) (hm i aq)]
  exact decide_eq_false CA
end
end
section
open PySem.SeqAt
abbrev hk(x:List Int):V:=.tuple (hw x)
abbrev gB(x:List (List Int)):V:=.list (x.map hk)
theorem cj.Ao[DecidableEq α]{enc:α->V}(h:cj enc):cj (λl:List α=>V.tuple (l.map enc)):=λa b=>by
 exact u9 h a b
theorem cO.Ao{enc:α->V}(h:cO n enc):cO (n+1) (λl:List α=>V.tuple (l.map enc)):=λl=>by
 exact h.fits l
theorem cj.hk:cj hk:=cj.Ao cj.int
theorem cO.hk:cO (n+1) hk:=cO.Ao cO.int
theorem cj.gB:cj gB:=cj.list cj.hk
theorem cO.gB:cO (n+2) gB:=cO.list cO.hk
section
variable{P:XM->Prop}
theorem Qi{vs:List XF}{l:List (List Int)}(r:a5 P h vs (l.map hk))(b':∀x∈l,x≠[]):∃mm,KatTups h vs mm/\mm.length=vs.length/\∀v∈mm,∃n t,v=adI n t:=by
 induction l generalizing vs with
 |nil=>rw[r.m2];exact⟨[],.nil,rfl,λv bJ=>cZ bJ⟩
 |cons x l ih=>
  refine bC λ_ a'=>?_
  refine gI r.jL λ_ _ aB bO q=>?_
  subst aB
  refine gU (ih q λy bk=>b' y (.tail _ bk)) λmm k aw hf=>?_
  refine fm bO.jM λa ws n aB e _ g3=>?_
  subst aB
  refine qK (aaf (b' x (.head _))) λi y aB=>?_
  subst aB
  refine gI g3.jL λ_ _ aB dq _=>?_
  subst aB
  refine cS dq.int_inv λt aB=>?_
  subst aB
  refine a' ?_
  exact⟨.int i t::mm,.cons e rfl rfl rfl k,congrArg (·+1) aw,λv bJ=>(XH.mp bJ).elim (λe=>⟨i,t,e⟩) (hf v)⟩
theorem Qj{Q:Bool->XG->Prop}{vs ws:List XF}{xs ys:List Int}(i:Nat)(ag:adE vs xs)(bk:adE ws ys)(h:Q (ltI xs ys) s):KatLex prog w A true (decide (xs.length<ys.length)) Q (vs.zip ws) i s:=by
 induction ag generalizing ws ys i with
 |nil=>cases bk<;>exact kat_nil h
 |cons n t a ih=>
  cases bk with
  |nil=>exact kat_nil h
  | @cons m _ _ u b=>
   simp only[aa1,Yi,Yi,(decide_eq_decide.mpr aft)]
   refine kat_cons (ahh ?_)
   by_cases q:n=m
   ·have ah:Q (if n=m then ltI _ _ else decide (n<m)) s:=h
    rw[if_pos q]at ah
    rw[show(n==m)=true from beq_iff_eq.mpr q]
    exact kat_yes (ih (i+1) b ah)
   ·have ah:Q (if n=m then ltI _ _ else decide (n<m)) s:=h
    rw[if_neg q]at ah
    rw[show(n==m)=false from beq_eq_false_iff_ne.mpr q]
    refine kat_no ?_
    cases (true&&i==0)with
    |true=>exact oneLt_int ah
    |false=>exact kat_one _ _ (lt_int ah)
theorem Qk{vs ws:List XF}{xs ys:List Int}{Q:Bool->XG->Prop}(aY:s.heap.get? a=some (gK vs n))(H:s.heap.get? b=some (gK ws m))(ag:adE vs xs)(bk:adE ws ys)(h:Q (ltI xs ys) s):
  wpAny (model prog w) A (keyLt' (tuples' true) (.ref a) (.ref b)) Q E s:=by
 refine kat_lt aY rfl H rfl ?_
 have a3:vs.toArray.size=xs.length:=by rw[X3];exact acN ag
 rw[a3,(show ws.toArray.size=ys.length from by rw[X3];exact acN bk)]
 exact Qj 0 ag bk h
theorem ints_get{vs:List XF}{xs:List Int}(h:adE vs xs)(j:Nat)(bq:j<vs.length):∃t,vs[j]=adI (xs.getD j 0) t:=by
 induction h generalizing j with
 |nil=>exact absurd bq (Y_ _)
 |cons n t a ih=>
  cases j with
  |zero=>exact⟨t,rfl⟩
  |succ j=>exact ih j (acI bq)
theorem qN.tuples{vs ws:List XF}{xs ys:List Int}(dh:A.units<cLine)(aY:s.heap.get? a=some (gK vs n))(H:s.heap.get? b=some (gK ws m))(ag:adE vs xs)(bk:adE ws ys):qN A s (.ref a) (.ref b) (ltI xs ys):=λprog w E Q h=>by
 have a3:=acN ag
 have bH:=acN bk
 refine richCompare_meets_room (op:=.Lt) ⟨_,aY,rfl⟩ ⟨_,H,rfl⟩ F.slot_tuple_lt F.entry_tuple_lt (F.args_tuple_lt_2 _ _) (J9 a b vs.toArray ws.toArray n m none none #[] #[] (λj=>decide (xs.getD j 0=ys.getD j 0)) (λj=>decide (xs.getD j 0<ys.getD j 0))) ⟨aY,H,λj O ae=>?_,?_⟩ dh
 ·refine bC λ_ a'=>?_
  obtain⟨t,wd⟩:=ints_get ag j O
  obtain⟨u,we⟩:=ints_get bk j ae
  refine a' ?_
  rw[show vs.toArray[j]=_ from wd,show ws.toArray[j]=_ from we]
  exact⟨λ_ _ _ _ q=>ahh q,λ_ _ _ _ q=>lt_int q⟩
 ·simp only[X3,X3,a3,bH,(CX (λa b:Int=>decide (a<b)) 0 xs ys)]
  exact⟨λq=>(nomatch q),h⟩
theorem oM{enc:α->V}{vs:List XF}{l:List α}(r:a5 P h vs (l.map enc))(d:α)(j:Nat)(bq:j<vs.length):bu P h vs[j] (enc (l.getD j d))/\l.getD j d∈l:=by
 have aw:=(r.length.trans (XJ _))▸bq
 obtain⟨v,bJ,ej⟩:=r.get (i:=j) (d:=enc l[j]) (by rw[X1,XI aw];rfl)
 rw[XI bq]at bJ
 rw[(show l.getD j d=l[j]from by rw[XB,XI aw];rfl),YW bJ]
 exact⟨ej,Ya aw⟩
theorem Gy{enc:α->V}{vs:List XF}{l:List α}(r:a5 P h vs (l.map enc))(d:α)(p:List Nat)(ar:∀i∈p,i<l.length):a5 P h (p.map λi=>vs.getD i Value.none) (p.map λi=>enc (l.getD i d)):=by
 induction p with
 |nil=>exact .nil
 |cons i p ih=>
  have aq:=(r.length.trans (XJ _))▸ar i (.head _)
  rw[Yb,Yb,(show vs.getD i Value.none=vs[i]from by rw[XB,XI aq];rfl)]
  exact .cons (oM r d i aq).1 (ih λj bq=>ar j (.tail _ bq))
theorem Ql{vs ws:List XF}{xs ys:List (List Int)}{Q:Bool->XG->Prop}(dh:A.units+10<cLine)(aY:s.heap.get? a=some (gW vs n))(H:s.heap.get? b=some (gW ws m))(ag:a5 P s.heap vs (xs.map hk))(bk:a5 P s.heap ws (ys.map hk))(h:Q (gV xs ys) s):
  wpAny (model prog w) A (keyLt' oneType' (.ref a) (.ref b)) Q E s:=by
 have a3:=ag.length.trans (XJ _)
 have bH:=bk.length.trans (XJ _)
 refine XA (ahN JQ ?_)
 refine XA (wpAny_callSpecialIfBound?_slot (T:="list") ⟨_,aY,rfl⟩ ahs (ac8 ahs ⟨_,aY,rfl⟩ F.entry_list_lt (F.args_list_lt_2 _ _)
  (J8 a b vs.toArray ws.toArray n m none none #[] #[] (λj=>decide (xs.getD j []=ys.getD j [])) (λj=>ltI (xs.getD j []) (ys.getD j []))) ⟨aY,H,λj O ae=>?_,?_⟩))
 ·have bO:=(oM ag [] j O).1
  have dq:=(oM bk [] j ae).1
  rw[show vs.toArray[j]=vs[j]from rfl,show ws.toArray[j]=ws[j]from rfl]
  constructor
  ·refine bC λ_ fq=>?_
   obtain⟨as,cb⟩:=bO.reads 1 (cO.hk (n:=0) _)
   obtain⟨bs,dw⟩:=dq.reads 1 (cO.hk (n:=0) _)
   refine fq ?_
   have f1:=V.yi 1 _ (cO.hk (n:=0) (xs.getD j []))
   have f2:=V.yi 1 _ (cO.hk (n:=0) (ys.getD j []))
   intro prog w E Q q
   refine eqBoolOverData prog w _ E s _ _ _ _ as bs Q cb dw f1.1 f2.1 ?_ ?_
   ·have:=aeh (hk (xs.getD j [])).py.depth (hk (ys.getD j [])).py.depth
    have:=f1.2
    lia
   ·rw[cj.hk]
    exact q
  ·refine fm bO.jM λa1 Ap eJ c8 du _ eK=>?_
   refine fm dq.jM λcw Gz eX k1 k2 _ k3=>?_
   simp only[c8,k1]
   exact qN.tuples (by show A.units+1<cLine;lia) du k2 eK.sY k3.sY
 ·rw[X3,X3,a3,bH,(CX ltI [] xs ys)]
  exact aaP h
end
theorem bW.GA{l:List (List Int)}(b':∀x∈l,x≠[])(m1:l.length<64):bW G k σ (.builtin "sorted") [.list (l.map hk)] (.list ((gi ltI l).map hk)):=λA pr s vs Q E R W r h=>by
 refine bB r.inv1 λ_ aB bO=>?_
 subst aB
 refine fm bO.iR λa ws n aB e _ g3=>?_
 subst aB
 have b2:ws.length=l.length:=by rw[g3.length];simp
 refine C2 (κ:=tuples' true) (key:=λi=>oL ltI l (l.getD i [])) (m3 e) xC (λae J bX cI c1 aR=>?_) (λi j J C aq bq c1 br=>?_) (λp c ah ar aG aL hz eY=>?_)
 ·refine gU (Qi (g3.mono (P':=λ_=>True) (ah:=J.heap) λb o _ e=>⟨trivial,c1 b o e⟩) b') λmm lZ aw hf=>?_
  exact kat_kind (T:=.type "int") lZ (by lia) (λv bJ=>by obtain⟨n,t,rfl⟩:=hf v bJ;exact .now) rfl aR
 ·have bO:=oM (g3.mono (P':=λ_=>True) (ah:=J.heap) λb o _ e=>⟨trivial,c1 b o e⟩) [] i aq
  have dq:=oM (g3.mono (P':=λ_=>True) (ah:=J.heap) λb o _ e=>⟨trivial,c1 b o e⟩) [] j bq
  rw[(show ws.getD i Value.none=ws[i]from by simp[aq]),(show ws.getD j Value.none=ws[j]from by simp[bq])]
  rw[An gh.ltI bO.2 dq.2]at br
  refine fm bO.1.jM λa1 Ap eJ c8 du _ eK=>?_
  refine fm dq.1.jM λcw Gz eX k1 k2 _ k3=>?_
  simp only[c8,k1]
  exact Qk du k2 eK.sY k3.sY br
 ·have bx:bb s {s with heap:=ah}:=.heap aL (by lia)
  replace ar:=b2▸ar
  refine h _ _ bx ?_
  rw[<-Gx gh.ltI (d:=[]) ar aG,X_]
  exact .list eY (W.gs (YF _)) (Gy (g3.keep bx) [] p λi aq=>by have:=ar.mem_iff.mp aq;simpa using this)
theorem bW.t3{l:List (List (List Int))}(m1:l.length<64):bW G k σ (.builtin "sorted") [.list (l.map gB)] (.list ((gi gV l).map gB)):=λA pr s vs Q E R W r h=>by
 refine bB r.inv1 λ_ aB bO=>?_
 subst aB
 refine fm bO.iR λa ws n aB e _ g3=>?_
 subst aB
 have b2:ws.length=l.length:=by rw[g3.length];simp
 refine C2 (κ:=oneType') (key:=λi=>oL gV l (l.getD i [])) (m3 e) xC (λae J bX cI c1 aR=>?_) (λi j J C aq bq c1 br=>?_) (λp c ah ar aG aL hz eY=>?_)
 ·refine kas_kind (T:=.type "list") ae (λv bJ=>?_) rfl rfl aR
  refine bC λ_ fq=>?_
  obtain⟨j,bq,rfl⟩:=Z7 bJ
  refine fm ((oM g3 [] j bq).1.iR) λa1 Ap eJ c8 du _ eK=>?_
  refine fq ?_
  exact c8▸(acY (c1 _ _ du)).andThen .now
 ·have bO:=oM (g3.mono (P':=λ_=>True) (ah:=J.heap) λb o _ e=>⟨trivial,c1 b o e⟩) [] i aq
  have dq:=oM (g3.mono (P':=λ_=>True) (ah:=J.heap) λb o _ e=>⟨trivial,c1 b o e⟩) [] j bq
  rw[(show ws.getD i Value.none=ws[i]from by simp[aq]),(show ws.getD j Value.none=ws[j]from by simp[bq])]
  rw[An gh.gV bO.2 dq.2]at br
  refine fm bO.1.iR λa1 Ap eJ c8 du _ eK=>?_
  refine fm dq.1.iR λcw Gz eX k1 k2 _ k3=>?_
  simp only[c8,k1]
  exact Ql (by have:=R.u4;show A.units+1+1+10<cLine;lia) du k2 eK k3 br
 ·have bx:bb s {s with heap:=ah}:=.heap aL (by lia)
  replace ar:=b2▸ar
  refine h _ _ bx ?_
  rw[<-Gx gh.gV (d:=[]) ar aG,X_]
  exact .list eY (W.gs (YF _)) (Gy (g3.keep bx) [] p λi aq=>by have:=ar.mem_iff.mp aq;simpa using this)
end
theorem Aq{x:Str}(ag:Ym x=true)(bk:Ym y=true):Ym (x++y)=true:=by
 delta Ym at *
 show(x.cps++y.cps).all _=true
 rw[Array.all_append,ag,bk];rfl
def rep(a6 rooms ak:Nat):Str×Str×Str:=(acC " " ((ak%5:Nat):Int),hj (e5 (ak%4)) a6 (ak%3) (fc a6 rooms ak),nE (fc a6 rooms ak) (hj (e5 (ak%4)) a6 (ak%3) (fc a6 rooms ak)))
noncomputable abbrev gj(t:Str×Str×Str):V:=.tuple [.str t.1,.str t.2.1,.str t.2.2]
theorem Qm(a6 rooms ak:Nat):zX a6 rooms ak=gj (rep a6 rooms ak):=rfl
theorem GB(a6 rooms ak:Nat):fc a6 rooms ak<=7:=by
 delta fc
 cases decide (rooms<a6)
 ·exact Yd _
 ·show 1+(a6+ak)%7<=7
  have:=YO (a6+ak) (show 0<7 by decide)
  lia
theorem Qn:((XO 5).all λd=>zQ (acC " " ((d:Nat):Int))&&decide ((acC " " ((d:Nat):Int)).length<=4))=true:=by kernel_rfl
structure Qo(a6 rooms:Nat)(t:Str×Str×Str):Prop where
 len:t.2.1.length<=20
 ne:(t.2.1=="")=false
 ok:h9 t.2.1≠.bad
 led:a6<=rooms->gA t.2.1=.tuple [.str "far",ay a6]/\t.2.2 = "far"
 not:rooms<a6->gA t.2.1=.str t.2.2
 s1:Ym t.1=true
 s2:Ym t.2.1=true
 s3:Ym t.2.2=true
 p0:t.1.length<=4
theorem GC{a6 rooms:Nat}(bz:a6<=7):Qo a6 rooms (rep a6 rooms ak):=by
 have az:=GB a6 rooms ak
 refine so (zR (m:=ak%4) (b:=ak%3) (YO _ aH) (YO _ aH) bz az) λO ae a2 _=>?_
 have H:=X9.mp Qn (ak%5) (X2.mpr (YO _ aH))
 rw[Yp]at H
 refine⟨Fy (YO _ aH) (YO _ aH) bz az,ae,?_,λh=>?_,λh=>?_,kF H.1,a2,?_,of_decide_eq_true H.2⟩
 ·show h9 (hj (e5 (ak%4)) a6 (ak%3) (fc a6 rooms ak))≠.bad
  rw[O];unfold rB;repeat' split
  all_goals exact λq=>nomatch q
 ·have e:fc a6 rooms ak=0:=by unfold fc;rw[decide_eq_false CA];rfl
  show gA (hj (e5 (ak%4)) a6 (ak%3) (fc a6 rooms ak))=_/\nE (fc a6 rooms ak) _=_
  rw[e]at O ⊢
  delta gA
  exact O▸⟨rfl,rfl⟩
 ·have e:fc a6 rooms ak≠0:=by unfold fc;rw[decide_eq_true h];show 1+_≠0;lia
  show gA (hj (e5 (ak%4)) a6 (ak%3) (fc a6 rooms ak))=.str (nE (fc a6 rooms ak) _)
  delta gA
  rw[O]
  delta rB nE
  rw[if_neg e,show(fc a6 rooms ak==0)=false by simpa using e]
  by_cases a3:fc a6 rooms ak=1
  ·rw[if_pos a3,a3];rfl
  ·rw[if_neg a3,show(fc a6 rooms ak==1)=false by simpa using a3]
   by_cases h_:fc a6 rooms ak=5
   ·rw[if_pos h_,h_];rfl
   ·rw[if_neg h_,show(fc a6 rooms ak==5)=false by simpa using h_];rfl
 ·show Ym (nE (fc a6 rooms ak) _)=true
  delta nE
  cases fc a6 rooms ak==0
  ·cases fc a6 rooms ak==1
   ·cases fc a6 rooms ak==5
    ·exact Aq (x:="proto ") (kF aQ) a2
    ·exact kF (x:="value") aQ
   ·exact Aq (x:="reply ") (kF aQ) a2
  ·exact kF (x:="far") aQ
structure eD(G:GE)(aK ck:Nat->XM)(K:ach)(cJ c4 bA bF:XM):Prop where
 P:cK G aK
 dY:zp G K (aK 16) ck
 am:p2 K (aK 16)
 Qp:nI K (aK 16) (ck 0)
 ex:vY G K (aK 3) (aK 4)
 rN:v' G K (aK 16) ck cJ c4 bA bF
 s0:i8 G (aK 16) (ck 0) ["self","initial_size"] (dZ 0).2 (dZ 0).1
 s3:i8 G (aK 16) (ck 3) ["self"] (dZ 3).2 (dZ 3).1
 Ar:i8 G (aK 16) (ck 8) ["self"] (dZ 8).2 (dZ 8).1
noncomputable def dO(oN Qq gone lead right rings:V):List (Str×V):=[("rows",oN),("piles",Qq),("gone",gone),("lead",lead),("right",right),("rings",rings)]
theorem Qr{a b c e f v:V}:mv (dO a b c d e f) "right" v=dO a b c d v f:=by
 delta mv dO
 simp only[Yb,aeX]
 rw[if_neg aH,if_neg aH,if_neg aH,if_neg aH,if_pos trivial,if_neg aH]
theorem Qs{a b c e f v:V}:mv (dO a b c d e f) "rings" v=dO a b c d e v:=by
 delta mv dO
 simp only[Yb,aeX]
 rw[if_neg aH,if_neg aH,if_neg aH,if_neg aH,if_neg aH,if_pos trivial]
structure eE where
 h:XM
 g:XM
 l:XM
 av:List XM
 cB:List XM
noncomputable def eE.cW(af:eE):List XM:=af.h::af.g::af.l::af.av
noncomputable def eE.all(af:eE):List XM:=af.h::af.g::af.l::(af.av++af.cB)
structure cm where
 gone:List Nat
 lead:List Nat
 right:Nat
 rings:List (List (List Int))
def kH(I:List (List Nat))(ak room at_:Nat):Str×Str×Str:=rep ((I.getD room []).getD at_ 0) (I.length-1) (ak+5*room+11*at_)
def dH(I:List (List Nat))(ak room:Nat):List (Str×Str×Str):=(XO (I.getD room []).length).map (kH I ak room)
def lq(I:List (List Nat))(ak:Nat):List (List (Str×Str×Str)):=(XO I.length).map (dH I ak)
noncomputable def i'(I:List (List Nat))(room g:Nat):Nat:=match(I.getD room [])[g]? with
 |some w=>if w<=I.length-1 then w else room
 |none=>0
noncomputable abbrev gk(t:Str×Str×Str):Str×Str:=(t.1,t.2.1)
def ib(row:List (Str×Str×Str))(g:Nat):List V:=((row.drop g).map λt=>eC (gk t)).reverse
structure b3(C:XM)(σ:ba)(af:eE)(I:List (List Nat))(ak size:Nat)(dv:List Nat)(st:cm):Prop where
 d:(af.h,cf.dict (dO (.list ((lq I ak).map λr=>.list (r.map gj))) (.list (af.av.map λa=>.raw (.ref a))) (.raw (.ref af.g)) (.raw (.ref af.l)) (.list (XR st.right (.bool true))) (.list (st.rings.map gB))))∈σ
 g:(af.g,cf.list (.type "list") none (aV st.gone))∈σ
 l:(af.l,cf.list (.type "list") none (aV st.lead))∈σ
 p:∀r,r<I.length->e4 C σ (af.av.getD r 0) (af.cB.getD r 0) [("_initial_size",ay size)] (ib (dH I ak r) (dv.getD r 0))
 fj:st.gone.length=I.length
 dE:st.lead.length=I.length
 lo:dv.length=I.length
 ed:af.av.length=I.length
 ep:af.cB.length=I.length
 c2:af.all.Nodup
structure di(T:List XM)(σ Y:ba):Prop where
 at_:Y.at=σ.at
 keep:∀a m,a∉T->(a,m)∈σ->(a,m)∈Y
theorem di.refl:di T σ σ:=⟨rfl,λ_ _ _ h=>h⟩
theorem di.trans(a:di T σ a9)(b:di T a9 cC):di T σ cC:=⟨b.at_.trans a.at_,λx m h e=>b.keep x m h (a.keep x m h e)⟩
theorem di.set{m:cf}(h:a∈T):di T σ (σ.set a m):=⟨h3,λx gu ag e=>f6 e λq=>ag (q▸h)⟩
theorem As{l:List α}(h:l.Nodup){i j:Nat}(aq:i<l.length)(bq:j<l.length)(e:l[i]=l[j]):i=j:=(List.getElem_inj h).mp e
noncomputable def mM:Str×Str:=("","")
noncomputable def rR:Str×Str×Str:=("","","reply ")
section
variable{room:Nat}{st:cm}
theorem b3.ft(h:b3 C σ af I ak size dv st):∀b∈af.cW,b∈σ.at:=λb H=>by
 rcases XH.mp H with rfl|H
 ·exact dr h.d
 rcases XH.mp H with rfl|H
 ·exact dr h.g
 rcases XH.mp H with rfl|H
 ·exact dr h.l
 obtain⟨i,aq,rfl⟩:=Z7 H
 have:=(h.p i (by rw[<-h.ed];exact aq)).l
 rw[(show af.av.getD i 0=af.av[i]from by simp[aq])]at this
 exact dr this
theorem b3.sep(h:b3 C σ af I ak size dv st):af.h≠af.g/\af.h≠af.l/\af.g≠af.l/\(∀r,r<I.length->af.av.getD r 0≠af.h/\af.av.getD r 0≠af.g/\af.av.getD r 0≠af.l/\af.cB.getD r 0≠af.h/\af.cB.getD r 0≠af.g/\af.cB.getD r 0≠af.l)/\
  (∀r q,r<I.length->q<I.length->af.av.getD r 0≠af.cB.getD q 0/\(r≠q->af.av.getD r 0≠af.av.getD q 0)):=by
 have c2:=h.c2
 unfold eE.all at c2
 rw[Yn,Yn,Yn]at c2
 refine so c2 λeJ eX oO rS=>?_
 have mp:∀r,r<I.length->af.av.getD r 0∈af.av:=λr ai=>by
  have dj:r<af.av.length:=by rw[h.ed];exact ai
  rw[(show af.av.getD r 0=af.av[r]from by simp[dj])];exact Ya dj
 have rT:∀r,r<I.length->af.cB.getD r 0∈af.cB:=λr ai=>by
  have dj:r<af.cB.length:=by rw[h.ep];exact ai
  rw[(show af.cB.getD r 0=af.cB[r]from by simp[dj])];exact Ya dj
 refine⟨λq=>eJ (by rw[q];exact .head _),λq=>eJ (by rw[q];exact .tail _ (.head _)),λq=>eX (by rw[q];exact .head _),λr ai=>⟨λq=>?_,λq=>?_,λq=>?_,λq=>?_,λq=>?_,λq=>?_⟩,λr q ai aR=>⟨λe=>?_,λb' e=>?_⟩⟩
 ·exact eJ (.tail _ (.tail _ (XS _ (q▸mp r ai))))
 ·exact eX (.tail _ (XS _ (q▸mp r ai)))
 ·exact oO (XS _ (q▸mp r ai))
 ·exact eJ (.tail _ (.tail _ (XQ _ (q▸rT r ai))))
 ·exact eX (.tail _ (XQ _ (q▸rT r ai)))
 ·exact oO (XQ _ (q▸rT r ai))
 ·exact(Zd.mp rS).2.2 _ (mp r ai) _ (rT q aR) e
 ·have ar:=(Zd.mp rS).1
  have dj:r<af.av.length:=by rw[h.ed];exact ai
  have iq:q<af.av.length:=by rw[h.ed];exact aR
  rw[(show af.av.getD r 0=af.av[r]from by simp[dj]),(show af.av.getD q 0=af.av[q]from by simp[iq])]at e
  exact b' (As ar dj iq e)
theorem b3.same(h:b3 C σ af I ak size dv st)(s:di T σ Y)(aU:∀a∈af.all,a∉T):b3 C Y af I ak size dv st:=by
 have mp:∀r,r<I.length->af.av.getD r 0∈af.all:=λr ai=>by
  have dj:r<af.av.length:=by rw[h.ed];exact ai
  rw[(show af.av.getD r 0=af.av[r]from by simp[dj])];exact .tail _ (.tail _ (.tail _ (XS _ (Ya dj))))
 have rT:∀r,r<I.length->af.cB.getD r 0∈af.all:=λr ai=>by
  have dj:r<af.cB.length:=by rw[h.ep];exact ai
  rw[(show af.cB.getD r 0=af.cB[r]from by simp[dj])];exact .tail _ (.tail _ (.tail _ (XQ _ (Ya dj))))
 exact{d:=s.keep _ _ (aU _ (.head _)) h.d,g:=s.keep _ _ (aU _ (.tail _ (.head _))) h.g,l:=s.keep _ _ (aU _ (.tail _ (.tail _ (.head _)))) h.l,p:=λr ai=>⟨s.keep _ _ (aU _ (mp r ai)) (h.p r ai).l,s.keep _ _ (aU _ (rT r ai)) (h.p r ai).i⟩,fj:=h.fj,dE:=h.dE,lo:=h.lo,ed:=h.ed,ep:=h.ep,c2:=h.c2}
structure rU(t:Str×Str×Str)(w:Option Nat):Prop where
 len:t.2.1.length<=20
 ok:h9 t.2.1≠.bad
 tell:match w with
  |some a6=>gA t.2.1=.tuple [.str "far",ay a6]/\t.2.2 = "far"
  |none=>gA t.2.1=.str t.2.2
 s1:Ym t.1=true
 s2:Ym t.2.1=true
 s3:Ym t.2.2=true
def ev(I:List (List Nat))(ak room g:Nat):Str×Str×Str:=(dH I ak room)[g]?.getD rR
noncomputable def jC(I:List (List Nat))(room g:Nat):Option Nat:=match(I.getD room [])[g]? with
 |some w=>if w<=I.length-1 then some w else none
 |none=>none
theorem Qt(h:g<(I.getD room []).length):(dH I ak room)[g]?=some (kH I ak room g):=by
 delta dH
 rw[X1,YN h];rfl
theorem GD(h:¬g<(I.getD room []).length):(dH I ak room)[g]?=none:=by
 delta dH
 rw[X8];simpa using h
theorem Qu(fA:∀row∈I,∀w∈row,w<=7)(ai:room<I.length):rU (ev I ak room g) (jC I room g)/\i' I room g=(match jC I room g with
  |some w=>w
  |none=>bif decide (gk (ev I ak room g)=mM)then 0 else room):=by
 delta ev jC i'
 by_cases cE:g<(I.getD room []).length
 ·rw[Qt cE]
  have bz:=XI cE
  have e:(I.getD room []).getD g 0=(I.getD room [])[g]:=by rw[XB,bz];rfl
  have hm:I.getD room []∈I:=by
   rw[(show I.getD room []=I[room]from by simp[ai])];exact Ya ai
  have R:=GC (a6:=(I.getD room []).getD g 0) (rooms:=I.length-1) (ak:=ak+5*room+11*g) (by rw[e];exact fA _ hm _ (Ya cE))
  rw[bz]
  show rU (kH I ak room g) (if(I.getD room [])[g]<=I.length-1 then some _ else none)/\_
  dsimp only[Option.getD]
  by_cases gR:(I.getD room [])[g]<=I.length-1
  ·rw[if_pos gR,if_pos gR]
   have q:=R.led (by rw[e];exact gR)
   rw[e]at q
   refine⟨⟨R.len,R.ok,?_,R.s1,R.s2,R.s3⟩,rfl⟩
   dsimp only[kH]
   rw[e]
   exact q
  ·rw[if_neg gR,if_neg gR]
   have q:=R.not (by rw[e];exact JC)
   refine⟨⟨R.len,R.ok,q,R.s1,R.s2,R.s3⟩,?_⟩
   have b':¬gk (kH I ak room g)=mM:=λq=>by
    have:=congrArg agP q
    have ae:=R.ne
    rw[show(rep ((I.getD room []).getD g 0) (I.length-1) (ak+5*room+11*g)).2.1 = "" from this]at ae
    exact absurd ae aH
   show room=bif decide (gk (kH I ak room g)=mM)then 0 else room
   rw[decide_eq_false b'];rfl
 ·rw[GD cE,X8 qJ]
  refine⟨⟨by decide,by rw[show((none:Option (Str×Str×Str)).getD rR).2.1 = "" from rfl,Fs];exact(λq=>nomatch q),?_,kF (x:="") aQ,kF (x:="") aQ,kF (x:="reply ") aQ⟩,by show 0=bif decide (gk rR=mM)then 0 else room;rw[decide_eq_true (show gk rR=mM from rfl)];rfl⟩
  show gA "" = .str "reply "
  delta gA
  rw[Fs];rfl
end
section
variable{room:Nat}{st:cm}{pos:Pos}
theorem b3.row(h:b3 (aK 16) σ af I ak size dv st)(ai:room<I.length)(O:aN G k sc σ Γ e (.raw (.ref af.h)))(ae:aN G k sc σ Γ i (ay room)){cb dw:Pos}{bt:Nat}
  (aG:autoParam (∀o hl,ZG i false o hl=operate [o,hl] (getItem o hl)) aI) (hsz:I.length<=1000):aN G k sc σ Γ (.Subscript (.Subscript e (.Constant (.str "rows") bt cb) dw) i pos) (.list ((dH I ak room).map gj)):=by
 refine .gZ (.g1 O h.d .dx rfl) ae (.iZ g7 ?_ o9) aG
 simp only[X0]
 delta lq
 rw[X1,X1,YN ai];rfl
theorem b3.GF(h:b3 (aK 16) σ af I ak size dv st)(ai:room<I.length)(O:aN G k sc σ Γ e (.raw (.ref af.h)))(ae:aN G k sc σ Γ i (ay room)){cb dw:Pos}{bt:Nat}
  (aG:autoParam (∀o hl,ZG i false o hl=operate [o,hl] (getItem o hl)) aI) (hsz:I.length<=1000):aN G k sc σ Γ (.Subscript (.Subscript e (.Constant (.str "gone") bt cb) dw) i pos) (ay (st.gone.getD room 0)):=by
 refine .va (S:=[af.g]) (ds:=aV st.gone) (.inr ⟨af.g,none,rfl,h.g,.head _⟩) (.g1 O h.d .dx rfl) ae (.u' (S:=[af.g]) (ds:=aV st.gone) (.inr ⟨af.g,none,rfl,h.g,.head _⟩) g7 ?_ o9) aG
 have aw:room<st.gone.length:=by rw[h.fj];exact ai
 rw[X0,X1,XI aw,XB,XI aw];rfl
theorem b3.GG(h:b3 (aK 16) σ af I ak size dv st)(ai:room<I.length)(O:aN G k sc σ Γ e (.raw (.ref af.h)))(ae:aN G k sc σ Γ i (ay room)){cb dw:Pos}{bt:Nat}
  (aG:autoParam (∀o hl,ZG i false o hl=operate [o,hl] (getItem o hl)) aI) (hsz:I.length<=1000):aN G k sc σ Γ (.Subscript (.Subscript e (.Constant (.str "lead") bt cb) dw) i pos) (ay (st.lead.getD room 0)):=by
 refine .va (S:=[af.l]) (ds:=aV st.lead) (.inr ⟨af.l,none,rfl,h.l,.head _⟩) (.g1 O h.d .dx rfl) ae (.u' (S:=[af.l]) (ds:=aV st.lead) (.inr ⟨af.l,none,rfl,h.l,.head _⟩) g7 ?_ o9) aG
 have aw:room<st.lead.length:=by rw[h.dE];exact ai
 rw[X0,X1,XI aw,XB,XI aw];rfl
theorem b3.Qv(h:b3 (aK 16) σ af I ak size dv st)(ai:room<I.length)(O:aN G k sc σ Γ e (.raw (.ref af.h)))(ae:aN G k sc σ Γ i (ay room)){cb dw:Pos}{bt:Nat}
  (aG:autoParam (∀o hl,ZG i false o hl=operate [o,hl] (getItem o hl)) aI) (hsz:I.length<=1000):aN G k sc σ Γ (.Subscript (.Subscript e (.Constant (.str "piles") bt cb) dw) i pos) (.raw (.ref (af.av.getD room 0))):=by
 refine .gZ (.g1 O h.d .dx rfl) ae (.iZ g7 ?_ o9) aG
 have aw:room<af.av.length:=by rw[h.ed];exact ai
 rw[X0,X1,XI aw,XB,XI aw];rfl
theorem oP:(dH I ak room).length=(I.getD room []).length:=by unfold dH;rw[XJ,Yc]
theorem cy.g4{f:XF}(h:cy G k T σ f ds R)(aU:∀b∈T,b∈T'):cy G k T' σ f ds R:=λA pr s vs Q E aW W r aA=>h A pr s vs Q E aW W r (λY d v J p st=>aA Y d v J p ⟨st.aJ.mono aU,λb H=>st.new b H,λb H=>st.old b H⟩)
theorem GH{l:List Nat}{i j v d:Nat}(h:i≠j):(l.set i v).getD j d=l.getD j d:=by
 simp only[XB,XB,afn h]
theorem GI{l:List Nat}{i v d:Nat}(h:i<l.length):(l.set i v).getD i d=v:=by
 rw[XB,acy h];rfl
theorem b3.popped(h:b3 (aK 16) σ af I ak size dv st)(ai:room<I.length)(ar:EW (aK 16) (af.av.getD room 0) (af.cB.getD room 0) σ (ib (dH I ak room) (dv.getD room 0)) Y d):
  d=eC (gk (ev I ak room (dv.getD room 0)))/\b3 (aK 16) Y af I ak size (dv.set room (dv.getD room 0+1)) st/\di af.cW σ Y:=by
 have mL:af.av.getD room 0∈af.cW:=by
  have dj:room<af.av.length:=by rw[h.ed];exact ai
  rw[(show af.av.getD room 0=af.av[room]from by simp[dj])];exact .tail _ (.tail _ (.tail _ (Ya dj)))
 have pV:room<dv.length:=by rw[h.lo];exact ai
 by_cases cE:dv.getD room 0<(I.getD room []).length
 ·have gC:dv.getD room 0<(dH I ak room).length:=by unfold dH;simpa using cE
  have ag:(dH I ak room)[dv.getD room 0]=ev I ak room (dv.getD room 0):=by
   delta ev
   rw[XI gC];rfl
  have aq:ib (dH I ak room) (dv.getD room 0)=ib (dH I ak room) (dv.getD room 0+1)++[eC (gk (ev I ak room (dv.getD room 0)))]:=by
   delta ib
   simp only[YR gC,Yb,ZI,ag]
  rcases ar with ⟨h0,_,_⟩|⟨l,e,aw,rfl,rfl⟩
  ·rw[aq]at h0;simp at h0
  ·replace aw:=aq▸aw
   have:=List.append_inj_left' aw rfl
   have ae:=List.append_inj_right' aw rfl
   have bH:=(acT ae).1.symm
   refine⟨bH,?_,.set mL⟩
   subst this
   refine{d:=f6 h.d (h.sep.2.2.2.1 room ai).1.symm,g:=f6 h.g (h.sep.2.2.2.1 room ai).2.1.symm,l:=f6 h.l (h.sep.2.2.2.1 room ai).2.2.1.symm,p:=λr dj=>?_,fj:=h.fj,dE:=h.dE,lo:=(ZO ..).trans h.lo,ed:=h.ed,ep:=h.ep,c2:=h.c2}
   by_cases e:r=room
   ·subst e
    simp only[GI pV]
    exact⟨pR (h.p r ai).l,f6 (h.p r ai).i (h.sep.2.2.2.2 r r ai ai).1.symm⟩
   ·simp only[GH (λq=>e q.symm)]
    exact⟨f6 (h.p r dj).l ((h.sep.2.2.2.2 r room dj ai).2 e),f6 (h.p r dj).i (h.sep.2.2.2.2 room r ai dj).1.symm⟩
 ·have hd:(dH I ak room).drop (dv.getD room 0)=[]:=aaa (by rw[oP];exact qJ)
  have aq:ib (dH I ak room) (dv.getD room 0)=[]:=by unfold ib;rw[hd];rfl
  have eQ:ib (dH I ak room) (dv.getD room 0+1)=[]:=by
   have oy:(dH I ak room).drop (dv.getD room 0+1)=[]:=aaa (by rw[oP];lia)
   unfold ib;rw[oy];rfl
  have a_:ev I ak room (dv.getD room 0)=rR:=by unfold ev;rw[GD cE];rfl
  rcases ar with ⟨_,rfl,rfl⟩|⟨l,e,aw,_,_⟩
  ·refine⟨by rw[a_];rfl,?_,.refl⟩
   exact{h with
       p:=λr dj=>by
        by_cases e:r=room
        ·subst e
         rw[GI pV,eQ,<-aq]
         exact h.p r ai
        ·rw[GH (λq=>e q.symm)]
         exact h.p r dj
       lo:=by rw[ZO];exact h.lo}
  ·rw[aq]at aw;simp at aw
theorem a8.GJ{p q:Str×Str}(O:Ym p.1=true)(ae:Ym p.2=true)(a2:Ym q.1=true)(b_:Ym q.2=true):a8 G k σ (compareOp .Eq) (eC p) (eC q) (.bool (decide (p=q))):=by
 have:=a8.eq (G:=G) (k:=k) (σ:=σ) (.of (d:=eC p) 1 ⟨O,ae,trivial⟩) (.of (d:=eC q) 1 ⟨a2,b_,trivial⟩)
 rw[show Za (eC p).py (eC q).py=decide (p=q)from cj.u_ cj.str cj.str p q]at this
 exact this
theorem a8.GK{x:Str}(O:Ym x=true)(ae:Ym y=true):a8 G k σ (compareOp .Eq) (.str x) (.str y) (.bool (decide (x=y))):=by
 have:=a8.eq (G:=G) (k:=k) (σ:=σ) (.of (d:=.str x) 0 O) (.of (d:=.str y) 0 ae)
 rw[show Za (V.str x).py (V.str y).py=decide (x=y)from cj.str x y]at this
 exact this
def ja(I:List (List Nat))(st:cm)(room:Nat):cm:={gone:=st.gone.set room (st.gone.getD room 0+1),lead:=st.lead.set room (i' I room (st.gone.getD room 0)),right:=st.right+1,rings:=st.rings}
abbrev j7(i:Nat):ZF:=((b6 21).1[i]?).getD (.Break default)
abbrev qc:YI:=(b6 21).2
theorem Qw:(b6 21).1=[j7 0,j7 1,j7 2,j7 3,j7 4,j7 5,j7 6]:=rfl
def GL(af:eE)(room:Nat):bD:=[("room",ay room),("house",.raw (.ref af.h))]
def Au(af:eE)(I:List (List Nat))(ak room g:Nat):bD:=([("row",.list ((dH I ak room).map gj)),("at",ay g),("piece",eC (gk (ev I ak room g)))]:bD)++GL af room
theorem Qx(L:eD G aK ck K cJ c4 bA bF)(h:b3 (aK 16) σ af I ak size dv st)(ai:room<I.length)(hsz:I.length<=1000)(aP:dv.getD room 0=st.gone.getD room 0)(gC:∀r,(I.getD r []).length<=1000):
  bR G (k+2) qc af.cW σ (GL af room) (j7 0) (λo=>∃Y,o=.next Y (Au af I ak room (st.gone.getD room 0))/\b3 (aK 16) Y af I ak size (dv.set room (dv.getD room 0+1)) st/\di af.cW σ Y):=by
 have aU:=h.ft
 refine .y0 (names:=["row","at","piece"]) (R:=λY d=>d=.tuple [.list ((dH I ak room).map gj),ay (st.gone.getD room 0),eC (gk (ev I ak room (st.gone.getD room 0)))]/\b3 (aK 16) Y af I ak size (dv.set room (dv.getD room 0+1)) st/\di af.cW σ Y) ?_ ?_ ?_
 ·refine .tuple (j0:=λY ds=>ds=[.list ((dH I ak room).map gj),ay (st.gone.getD room 0),eC (gk (ev I ak room (st.gone.getD room 0)))]/\b3 (aK 16) Y af I ak size (dv.set room (dv.getD room 0+1)) st/\di af.cW σ Y)
   (.cons aU (.of (h.row ai (.name rfl) (.name rfl) (hsz:=hsz))) λa9 d O=>?_) (λY ds q=>by rw[q.1];exact b1 (by simp)) (λY ds q=>⟨by rw[q.1],q.2⟩)
  obtain⟨rfl,rfl⟩:=O
  refine .cons aU (.of (h.GF ai (.name rfl) (.name rfl) (hsz:=hsz))) λcC d₂ ae=>?_
  obtain⟨rfl,rfl⟩:=ae
  have mL:af.av.getD room 0∈af.cW:=by
   have dj:room<af.av.length:=by rw[h.ed];exact ai
   rw[(show af.av.getD room 0=af.av[room]from by simp[dj])];exact .tail _ (.tail _ (.tail _ (Ya dj)))
  refine .cons aU (cc.tw L.dY.ac (h.p room ai) (L.dY.m 3 "pop" rfl) rfl L.s3.calls (h.Qv ai (.name rfl) (.name rfl) (hsz:=hsz)) (cy.g4 (Ng L.dY.ac L.s3 L.Ar (L.dY.m 8 "part_count" rfl) (L.P.b "super" _ rfl) (h.p room ai) rfl ?_) λb H=>by rw[XD.mp H];exact mL) aU) λl4 rV a2=>.nil ?_
  ·delta ib dH
   simp only[Zp,XJ,YG,XJ,Yc]
   have:=gC room;exact xG
  ·refine gH (h.popped ai a2) λa1 cw e7=>?_
   rw[aP]at a1
   exact⟨by rw[a1],cw,e7⟩
 ·intro Y d dG
  obtain⟨rfl,cw,e7⟩:=dG
  exact⟨_,rfl,rfl,Y,rfl,cw,e7⟩
 ·intro x ag
  rcases XH.mp ag with rfl|ag
  ·rfl
  rcases XH.mp ag with rfl|ag
  ·rfl
  ·rw[XD.mp ag];rfl
end
section
variable{room:Nat}{st:cm}{pos:Pos}
def nO(af:eE)(I:List (List Nat))(ak:Nat)(st:cm):List (Str×V):=dO (.list ((lq I ak).map λr=>.list (r.map gj))) (.list (af.av.map λa=>.raw (.ref a))) (.raw (.ref af.g)) (.raw (.ref af.l)) (.list (XR st.right (.bool true))) (.list (st.rings.map gB))
theorem b3.putD(h:b3 C σ af I ak size dv st)(cE:df.gone=st.gone)(aw:df.lead=st.lead):b3 C (σ.set af.h (.dict (nO af I ak df))) af I ak size dv df:=by
 exact{d:=pR h.d,g:=by rw[cE];exact f6 h.g h.sep.1.symm,l:=by rw[aw];exact f6 h.l h.sep.2.1.symm,p:=λr ai=>⟨f6 (h.p r ai).l (h.sep.2.2.2.1 r ai).1,f6 (h.p r ai).i (h.sep.2.2.2.1 r ai).2.2.2.1⟩,fj:=by rw[cE];exact h.fj,dE:=by rw[aw];exact h.dE,lo:=h.lo,ed:=h.ed,ep:=h.ep,c2:=h.c2}
theorem b3.Qy(h:b3 C σ af I ak size dv st){go:List Nat}(cE:go.length=st.gone.length):b3 C (σ.set af.g (.list (.type "list") none (aV go))) af I ak size dv {st with gone:=go}:=by
 exact{d:=f6 h.d h.sep.1,g:=pR h.g,l:=f6 h.l h.sep.2.2.1.symm,p:=λr ai=>⟨f6 (h.p r ai).l (h.sep.2.2.2.1 r ai).2.1,f6 (h.p r ai).i (h.sep.2.2.2.1 r ai).2.2.2.2.1⟩,fj:=cE.trans h.fj,dE:=h.dE,lo:=h.lo,ed:=h.ed,ep:=h.ep,c2:=h.c2}
theorem b3.putL(h:b3 C σ af I ak size dv st){le:List Nat}(aw:le.length=st.lead.length):b3 C (σ.set af.l (.list (.type "list") none (aV le))) af I ak size dv {st with lead:=le}:=by
 exact{d:=f6 h.d h.sep.2.1,g:=f6 h.g h.sep.2.2.1,l:=pR h.l,p:=λr ai=>⟨f6 (h.p r ai).l (h.sep.2.2.2.1 r ai).2.2.1,f6 (h.p r ai).i (h.sep.2.2.2.1 r ai).2.2.2.2.2⟩,fj:=h.fj,dE:=aw.trans h.dE,lo:=h.lo,ed:=h.ed,ep:=h.ep,c2:=h.c2}
theorem GN{l:List Nat}{i v:Nat}:(aV l).set i (ay v)=aV (l.set i v):=by unfold aV;rw[aha]
def Av(af:eE)(I:List (List Nat))(ak room g:Nat):bD:=([("due",.str (ev I ak room g).2.2),("text",.str (ev I ak room g).2.1),("blanks",.str (ev I ak room g).1)]:bD)++Au af I ak room g
def Aw(af:eE)(I:List (List Nat))(ak room g:Nat):bD:=("told",gA (ev I ak room g).2.1)::Av af I ak room g
def qd(af:eE)(I:List (List Nat))(ak room g:Nat):bD:=("led",.bool (jC I room g).isSome)::Aw af I ak room g
theorem Qz(P:cK G aK)(gC:(I.getD room []).length<=1000)(Xi:g<=1000):bR G (k+2) qc T σ (Au af I ak room g) (j7 1) (·=.next σ (Av af I ak room g)):=by
 refine .unpack (d:=gj (ev I ak room g)) (.to (.il (b:=decide (g<(dH I ak room).length)) (bZ:=gj (ev I ak room g)) (d₂:=gj rR) ?_ (λH=>?_) (λ_=>?_)) ?_) (.tuple (.cons .name (.cons .name (.cons .name .nil)))) ?_
 ·exact .cmp (.name rfl) (.to (.call (.cF P rfl) (.dV _) (.cons (.name rfl) .nil) (bW.len (S:=[]) .list (by rw[XJ,oP];exact jJ))) (dM:=ay (dH I ak room).length) (by rw[XJ])) .ltN
 ·have cE:=of_decide_eq_true H
  refine .gZ (.name rfl) (.name rfl) (.iZ g7 ?_ oa)
  simp only[X0,X1]
  delta ev
  rw[XI cE];rfl
 ·exact .tuple (.cons .dx (.cons .dx (.cons .dx .nil))) c7
 ·by_cases cE:g<(dH I ak room).length
  ·rw[decide_eq_true cE];rfl
  ·rw[decide_eq_false cE]
   delta ev
   rw[X8 qJ];rfl
 ·intro x ag
  simp only[XY,XD,Zx,or_false]at ag
  rcases ag with rfl|rfl|rfl<;>exact .inl rfl
theorem QA(P:cK G aK)(Z:vY G K (aK 3) (aK 4)){w:Option Nat}(t:rU (ev I ak room g) w)(aU:∀b∈T,b∈σ.at):gg G (k+2) qc T σ (Av af I ak room g) (j7 2) (·=.next σ (Aw af I ak room g)):=by
 refine .letE (R:=λY d=>Y=σ/\d=gA (ev I ak room g).2.1) (.ry (.globT P rfl) (P.calls (i:=18) rfl) aU (.cons (d:=.str (ev I ak room g).2.1) (.mu (.name rfl) .bf (.mr aH rfl aH)) .nil) (fs.g4 (OY P Z (XC t.len aH) t.ok) λb H=>cZ H)) λY d h=>?_
 rw[h.1,h.2];rfl
theorem QB(P:cK G aK)(t:rU (ev I ak room g) (jC I room g)):bR G (k+2) qc T σ (Aw af I ak room g) (j7 3) (·=.next σ (qd af I ak room g)):=by
 refine .eS (.call (.globT P rfl) (P.calls (i:=20) rfl) (ds:=[gA (ev I ak room g).2.1,.list [.bool false,.bool true]]) (.cons (.name rfl) (.cons (.list (.cons .m5 (.cons .m5 .nil)) c7) .nil)) ?_)
 have a_:=t.tell
 cases bz:jC I room g with
 |some a6=>
  rw[bz]at a_
  rw[a_.1]
  exact EF P (k:=k+1) (ds:=[.str "far",ay a6]) (bs:=[false,true]) (by intro d hd;simp at hd;rcases hd with rfl|rfl<;>trivial) (by simp)
 |none=>
  replace a_:=bz▸a_
  rw[a_]
  exact Mx P
theorem QC(P:cK G aK){st:cm}(h:b3 (aK 16) σ af I ak size dv st)(t:rU (ev I ak room g) (jC I room g))(hsz:st.right<=1000):bR G (k+2) qc af.cW σ (qd af I ak room g) (j7 4) (·=.next (σ.set af.h (.dict (nO af I ak {st with right:=st.right+1}))) (qd af I ak room g)):=by
 have a_:=t.tell
 rw[<-(show mv (nO af I ak st) "right" (.list (XR (st.right+1) (.bool true)))=nO af I ak {st with right:=st.right+1}from Qr)]
 refine .D0 (aZ:=nO af I ak st) ?_ (.name rfl) h.d (.head _) .dx rfl (by show 6<=100000;exact hT)
 simp only[afj]
 refine .bin (.g1 (.name rfl) h.d .dx rfl) (.list (.cons (d:=.bool true) ?_ .nil) c7) (.h2 (b1 (by simp;exact dt)))
 refine .to (.pe (b:=true) (bZ:=.bool true) (d₂:=.bool true) ?_ .bool (λ_=>?_)) rfl
 ·exact .to (.cmp (.name rfl) (.tuple (.cons (.name rfl) (.cons (.name rfl) .nil)) c7) (a8.GJ (p:=gk (ev I ak room g)) (q:=gk (ev I ak room g)) t.s1 t.s2 t.s1 t.s2)) (by rw[decide_eq_true rfl])
 ·cases bz:jC I room g with
  |some a6=>
   rw[bz]at a_
   refine .to (.cmp (.il (b:=true) (bZ:=.str "far") (d₂:=.none) (.val (d:=.bool true) (.name (by show some (V.bool (jC I room g).isSome)=_;rw[bz];rfl)) .bool) (λ_=>.mu (ds:=[.str "far",ay a6]) (.name (by show some (gA (ev I ak room g).2.1)=_;rw[a_.1])) .bf (.mr aH rfl aH)) (λq=>sm q)) (.name rfl) (a8.GK (kF (x:="far") aQ) t.s3)) ?_
   rw[a_.2,decide_eq_true rfl]
  |none=>
   replace a_:=bz▸a_
   refine .to (.cmp (.il (b:=false) (bZ:=.none) (d₂:=.str (ev I ak room g).2.2) (.val (d:=.bool false) (.name (by show some (V.bool (jC I room g).isSome)=_;rw[bz];rfl)) .bool) (λq=>iN q) (λ_=>.name (by show some (gA (ev I ak room g).2.1)=_;rw[a_]))) (.name rfl) (a8.GK t.s3 t.s3)) ?_
   rw[decide_eq_true rfl]
theorem QD(P:cK G aK){st:cm}(h:b3 (aK 16) σ af I ak size dv st)(t:rU (ev I ak room g) (jC I room g))(ai:room<I.length)(hsz:I.length<=1000){v:Nat}(bJ:v=match jC I room g with
  |some w=>w
  |none=>bif decide (gk (ev I ak room g)=mM)then 0 else room) :
  bR G (k+2) qc af.cW σ (qd af I ak room g) (j7 5) (·=.next (σ.set af.l (.list (.type "list") none (aV (st.lead.set room v)))) (qd af I ak room g)):=by
 have a_:=t.tell
 rw[<-GN]
 refine .yJ (a:=af.l) (items:=aV st.lead) (n:=room) ?_ (.g1 (.name rfl) h.d .dx rfl) h.l (.tail _ (.tail _ (.head _))) (.name rfl) (by simp;rw[h.dE];exact ai) (by simp;rw[h.dE];exact dt)
 cases bz:jC I room g with
 |some a6=>
  rw[bz]at a_ bJ
  rw[bJ]
  exact .to (.il (b:=true) (bZ:=ay a6) (d₂:=.none) (.val (d:=.bool true) (.name (by show some (V.bool (jC I room g).isSome)=_;rw[bz];rfl)) .bool) (λ_=>.mu (ds:=[.str "far",ay a6]) (.name (by show some (gA (ev I ak room g).2.1)=_;rw[a_.1])) .bf (.mr aH rfl aH)) (λq=>sm q)) rfl
 |none=>
  replace bJ:=bz▸bJ
  rw[bJ]
  refine .to (.il (b:=false) (bZ:=.none) (d₂:=ay (bif decide (gk (ev I ak room g)=mM)then 0 else room)) (.val (d:=.bool false) (.name (by show some (V.bool (jC I room g).isSome)=_;rw[bz];rfl)) .bool) (λq=>iN q) (λ_=>?_)) rfl
  refine .to (.il (b:=decide (gk (ev I ak room g)=mM)) (bZ:=ay 0) (d₂:=ay room) (.cmp (.name rfl) (.tuple (.cons .dx (.cons .dx .nil)) c7) (a8.GJ (p:=gk (ev I ak room g)) (q:=mM) t.s1 t.s2 (kF (x:="") aQ) (kF (x:="") aQ))) (λ_=>.bf) (λ_=>.name rfl)) ?_
  cases decide (gk (ev I ak room g)=mM)<;>rfl
theorem QE(P:cK G aK){st:cm}(h:b3 (aK 16) σ af I ak size dv st)(ai:room<I.length)(hsz:I.length<=1000):
  bR G (k+2) qc af.cW σ (qd af I ak room g) (j7 6) (·=.next (σ.set af.g (.list (.type "list") none (aV (st.gone.set room (g+1))))) (qd af I ak room g)):=by
 rw[<-GN]
 exact .yJ (a:=af.g) (items:=aV st.gone) (n:=room) (.bin (.name rfl) .bf .g2) (.g1 (.name rfl) h.d .dx rfl) h.g (.tail _ (.head _)) (.name rfl) (by simp;rw[h.fj];exact ai) (by simp;rw[h.fj];exact dt)
theorem GO(L:eD G aK ck K cJ c4 bA bF)(h:b3 (aK 16) σ af I ak size st.gone st)(ai:room<I.length)(hsz:I.length<=1000)(gC:∀r,(I.getD r []).length<=1000)(fA:∀row∈I,∀w∈row,w<=7)(Ax:st.right<=1000)(x4:st.gone.getD room 0<=1000):
  fs G (k+3) af.cW σ (.ref (aK 21)) [.raw (.ref af.h),ay room] (λY d=>b3 (aK 16) Y af I ak size (ja I st room).gone (ja I st room)/\di af.cW σ Y/\d=.none):=by
 refine d6 (Qu (ak:=ak) (g:=st.gone.getD room 0) fA ai) λt mA=>?_
 refine fs.of_body (k:=k+2) (P:=λo=>∃Y Γ,o=.next Y Γ/\b3 (aK 16) Y af I ak size (ja I st room).gone (ja I st room)/\di af.cW σ Y) (L.P.fn 21 _ rfl) rfl ?_ ?_
 ·simp only[Qw]
  refine d4.cons (.of (Qx L h ai hsz rfl gC) h.ft) λo aP=>?_
  refine gU aP λa9 aB dc hQ=>?_
  subst aB
  refine⟨af.cW,λb H=>.inl H,?_⟩
  have jX:=dc.ft
  refine .seq (.of (Qz L.P (gC room) x4) jX) (.seq (QA L.P L.ex t jX) (.seq (.of (QB L.P t) jX) (.seq (.of (QC L.P dc t Ax) jX) ?_)))
  have eh:=dc.putD (df:={st with right:=st.right+1}) rfl rfl
  refine .seq (.of (QD L.P eh t ai hsz mA) eh.ft) ?_
  have hi:=eh.putL (le:=st.lead.set room (i' I room (st.gone.getD room 0))) (by rw[ZO])
  refine .seq (.of (QE L.P hi ai hsz) hi.ft) ?_
  have p4:=hi.Qy (go:=st.gone.set room (st.gone.getD room 0+1)) (by rw[ZO])
  exact .nil ⟨_,_,rfl,p4,((hQ.trans (.set (.head _))).trans (.set (.tail _ (.tail _ (.head _))))).trans (.set (.tail _ (.head _)))⟩
 ·intro o t4
  refine gI t4 λY Γ aB a1 cw=>?_
  subst aB
  exact⟨[],Y,rfl,λb H=>by rw[cw.at_];exact H,a1,cw,rfl⟩
end
structure eL(I:List (List Nat)):Prop where
 len:I.length<=5
 row:∀r,(I.getD r []).length<=10
 wg:∀row∈I,∀w∈row,w<=7
def em(st:cm)(n:Nat):Prop:=st.right+n<=1000/\∀r,st.gone.getD r 0+n<=1000
theorem em.mono{st:cm}(h:em st n)(hm:m<=n):em st m:=⟨XC (YC hm _) h.1,λr=>XC (YC hm _) (h.2 r)⟩
theorem em.next{st:cm}{room:Nat}(h:em st (n+1)):em (ja I st room) n:=by
 refine⟨by show st.right+1+n<=1000;rw[Yo,YL 1];exact h.1,λr=>?_⟩
 show(st.gone.set room (st.gone.getD room 0+1)).getD r 0+n<=1000
 rw[XB,afY]
 split
 ·split
  ·show st.gone.getD room 0+1+n<=1000
   rw[Yo,YL 1];exact h.2 room
  ·exact XC (aah (Yd _) (YF _)) (h.2 room)
 ·exact XB▸XC (YC (YF _) _) (h.2 r)
def iG(I:List (List Nat))(st:cm)(rooms:List Nat):cm:=rooms.foldl (ja I) st
def lr(st:cm)(ring:List Nat):List (List Int):=gi ltI (ring.map λr:Nat=>[(r:Int),((st.gone.getD r 0:Nat):Int),((st.lead.getD r 0:Nat):Int)])
def gD(I:List (List Nat))(st:cm)(ring:List Nat):cm:=iG I {st with rings:=st.rings++[lr st ring]} ring
section
variable{room:Nat}{st:cm}{pos:Pos}
theorem oQ(L:eD G aK ck K cJ c4 bA bF)(bP:eL I){h7 cb dw el dW:Pos}(c6:Γ.lookup ("house":Str)=some (.raw (.ref af.h)))(Ay:Γ.lookup ("room":Str)=none)(iX:sc.kind=.function)(ag:sc.names.lookup ("_law_next":Str)=some .globalImplicit)(Az:sc.names.lookup ("room":Str)=some .local)(rooms:List Nat):
  ∀(σ:ba) (st:cm) (acc:List V),b3 (aK 16) σ af I ak size st.gone st->di af.cW fu σ->em st rooms.length->(∀r∈rooms,r<I.length)->
   tI G (k+3) sc af.cW (.Name "room" h7) (.Call (.Name "_law_next" cb) [.Name "house" dw,.Name "room" el] [] dW) Γ ["room"] (λY _=>b3 (aK 16) Y af I ak size (iG I st rooms).gone (iG I st rooms)/\di af.cW fu Y) (aV rooms) σ acc:=by
 induction rooms with
 |nil=>exact λσ st acc h S _ _=>⟨h,S⟩
 |cons r rooms ih=>
  intro σ st acc h S ea ai
  have QF:=ai r (.head _)
  have aG:∀{a},a+(rooms.length+1)<=1000->a<=1000:=λh=>XC (X4 _ _) h
  refine⟨("room",ay r)::Γ,_,.name (.inl Az) iX,Sub.cons .refl Ay,f_.ry (.globT L.P rfl iX ag) (L.P.calls (i:=21) rfl) h.ft (.cons (d:=.raw (.ref af.h)) (.name ?_ iX) (.cons (d:=ay r) (.name kV iX) .nil))
   (GO (k:=k) L h QF (XC bP.len aH) (λr=>XC (bP.row r) aH) bP.wg (aG ea.1) (aG (ea.2 r))),λY e q=>?_⟩
  ·rw[kU aH];exact c6
  ·exact ih Y (ja I st r) _ q.1 (S.trans q.2.1) (em.next ea) λx lP=>ai x (.tail _ lP)
abbrev Xj:List ZF:=(b6 24).1
abbrev GP:YI:=(b6 24).2
abbrev AA(i:Nat):ZF:=((b6 24).1[i]?).getD (.Break default)
def AB(af:eE)(ring:List Nat):bD:=[("ring",.list (aV ring)),("house",.raw (.ref af.h))]
theorem QG(L:eD G aK ck K cJ c4 bA bF)(bP:eL I)(h:b3 (aK 16) σ af I ak size dv st){ring:List Nat}(ai:∀r∈ring,r<I.length)(m1:ring.length<64)(gE:st.rings.length<=1000):
  bR G (k+4) GP af.cW σ (AB af ring) (AA 0) (·=.next (σ.set af.h (.dict (nO af I ak {st with rings:=st.rings++[lr st ring]}))) (AB af ring)):=by
 rw[<-(show mv (nO af I ak st) "rings" (.list ((st.rings++[lr st ring]).map gB))=nO af I ak {st with rings:=st.rings++[lr st ring]}from Qs),Yx]
 refine .D0 (aZ:=nO af I ak st) ?_ (.name rfl) h.d (.head _) .dx rfl (by show 6<=100000;exact hT)
 refine .bin (.g1 (.name rfl) h.d .dx rfl) (.list (.cons (d:=gB (lr st ring)) ?_ .nil) c7) (.h2 (b1 (by simp;exact dt)))
 refine .call (.cF L.P rfl) (.dV _) (.cons (d:=.list ((ring.map λr:Nat=>[(r:Int),((st.gone.getD r 0:Nat):Int),((st.lead.getD r 0:Nat):Int)]).map hk)) ?_ .nil) (bW.GA (λx ag=>by obtain⟨r,_,rfl⟩:=XZ.mp ag;exact λq=>uL q) (by simpa using m1))
 refine .comp (S:=[]) (ds:=aV ring) (xs:=["room"]) (.list (.name rfl) .list) ?_ (b1 (by simp;exact jK))
 simp only[X_]
 refine d3.on λr dj=>?_
 refine⟨_,.name,.cons .refl rfl,?_⟩
 have aw:=ai r dj
 have hsz:I.length<=1000:=XC bP.len aH
 exact .to (.tuple (.cons (.name rfl) (.cons (h.GF aw (.name rfl) (.name rfl) (hsz:=hsz)) (.cons (h.GG aw (.name rfl) (.name rfl) (hsz:=hsz)) .nil))) c7) rfl
def jD(C:XM)(af:eE)(I:List (List Nat))(ak size:Nat)(fu:ba)(Γ:bD)(st:cm)(o:hu):Prop:=∃Y,o=.next Y Γ/\b3 C Y af I ak size st.gone st/\di af.cW fu Y
theorem GQ(L:eD G aK ck K cJ c4 bA bF)(bP:eL I)(h:b3 (aK 16) σ af I ak size st.gone st){ring:List Nat}(ai:∀r∈ring,r<I.length)(m1:ring.length<64)(gE:st.rings.length<=1000)(ea:em st ring.length):
  fs G (k+5) af.cW σ (.ref (aK 24)) [.raw (.ref af.h),.list (aV ring)] (λY d=>b3 (aK 16) Y af I ak size (gD I st ring).gone (gD I st ring)/\di af.cW σ Y):=by
 refine fs.of_body (k:=k+4) (P:=λo=>∃Y d,o=.ret Y d/\b3 (aK 16) Y af I ak size (gD I st ring).gone (gD I st ring)/\di af.cW σ Y) (L.P.fn 24 _ rfl) rfl ?_ ?_
 ·show d4 G (k+4) GP af.cW σ (AB af ring) [AA 0,AA 1] _
  refine .seq (.of (QG L bP h ai m1 gE) h.ft) ?_
  have eh:=h.putD (df:={st with rings:=st.rings++[lr st ring]}) rfl rfl
  refine .one (.sQ (R:=λY d=>b3 (aK 16) Y af I ak size (gD I st ring).gone (gD I st ring)/\di af.cW σ Y) ?_ λY d q=>⟨Y,d,rfl,q⟩)
  refine f_.comp (S:=[]) (ds:=aV ring) (xs:=["room"]) (.list (.name rfl) .list) eh.ft (λb H=>cZ H) (oQ (k:=k+1) (ak:=ak) (size:=size) L bP rfl rfl rfl rfl rfl ring _ {st with rings:=st.rings++[lr st ring]} [] eh (.set (.head _)) ea ai) (λY outs q=>q) (b1 (by simp;exact jK))
 ·intro o dG
  refine gI dG λY d aB a1 cw=>?_
  subst aB
  exact⟨[],Y,rfl,λb H=>by rw[cw.at_];exact H,a1,cw⟩
end
theorem QH(lead w:List Nat):(i4 lead w).length<=w.length+1:=by unfold i4;split<;>simp
theorem QI(lead:List Nat):∀(l w:List Nat),(l.foldl (λw _=>i4 lead w) w).length<=w.length+l.length:=by
 intro l
 induction l with
 |nil=>exact λw=>XT _
 |cons x l ih=>exact λw=>XC (ih (i4 lead w)) (XC (Zo (QH lead w) _) (Yg (Yo _ 1 _▸YL 1 l.length▸rfl)))
theorem GR(lead:List Nat)(room:Nat):(f7 lead room).length<=lead.length:=by
 delta f7
 have:=QI lead lead [room]
 delta mz
 dsimp only
 split
 ·rw[List.length_dropLast,YG];exact XC (afv (Zn ..) 1) (abx (YL ..▸this))
 ·simp
theorem QJ{lead:List Nat}(aw:∀x∈lead,x<n)(h0:0<n):∀(l w:List Nat),(∀x∈w,x<n)->∀x∈l.foldl (λw _=>i4 lead w) w,x<n:=by
 intro l
 induction l with
 |nil=>exact λw h=>h
 |cons a l ih=>
  intro w h
  refine ih (i4 lead w) λx ag=>?_
  unfold i4 at ag
  split at ag
  ·rcases XY.mp ag with ag|ag
   ·exact h x ag
   ·rw[XD.mp ag]
    by_cases aq:w.getLastD 0<lead.length
    ·rw[XB,XI aq];exact aw _ (Ya aq)
    ·rw[XB,X8 (Yu aq)];exact h0
  ·exact h x ag
theorem QK{lead:List Nat}{room:Nat}(aw:∀x∈lead,x<n)(ai:room<n):∀x∈f7 lead room,x<n:=by
 intro x ag
 delta f7 at ag
 dsimp only at ag
 split at ag
 ·exact QJ aw (by lia) lead [room] (λy bk=>by rw[XD.mp bk];exact ai) x (Y7 ((List.dropLast_sublist _).mem ag))
 ·cases ag
def qe(lead:List Nat)(n:Nat):List (List Nat):=(((XO n).map (·+1)).map (f7 lead)).filter λr=>!decide (r=[])
def jb(I:List (List Nat))(draw:Nat):Nat->Nat->cm->cm
 |0,_,st=>st
 |f+1,t,st=>if qe st.lead (I.length-1)=[]then st else
   jb I draw f (t+1) (gD I st ((qe st.lead (I.length-1)).getD (draw / 4^t%(qe st.lead (I.length-1)).length) []))
def gS(I:List (List Nat))(st:cm):Prop:=∀x∈st.lead,x<I.length
theorem GS{room:Nat}(ai:room<I.length):i' I room g<I.length:=by
 delta i'
 split
 ·split<;>lia
 ·lia
theorem gS.next{st:cm}{room:Nat}(h:gS I st)(ai:room<I.length):gS I (ja I st room):=λx ag=>by
 rcases List.mem_or_eq_of_mem_set ag with ag|rfl
 ·exact h x ag
 ·exact GS ai
theorem gS.oQ:∀{rooms:List Nat} {st:cm},gS I st->(∀r∈rooms,r<I.length)->gS I (iG I st rooms):=by
 intro rooms
 induction rooms with
 |nil=>exact λ{st} h _=>h
 |cons r rooms ih=>exact λ{st} h ai=>ih (h.next (ai r (.head _))) λx ag=>ai x (.tail _ ag)
theorem gS.throw{st:cm}{ring:List Nat}(h:gS I st)(ai:∀r∈ring,r<I.length):gS I (gD I st ring):=gS.oQ (st:={st with rings:=st.rings++[lr st ring]}) h ai
theorem em.oQ:∀{rooms:List Nat} {st:cm},em st (rooms.length+n)->em (iG I st rooms) n:=by
 intro rooms
 induction rooms with
 |nil=>exact λ{st} h=>h.mono (Yg (Yq _).symm)
 |cons r rooms ih=>exact λ{st} h=>ih (em.next (h.mono (by simp;lia)))
theorem em.throw{st:cm}{ring:List Nat}(h:em st (ring.length+n)):em (gD I st ring) n:=em.oQ (st:={st with rings:=st.rings++[lr st ring]}) h
theorem AD:∀{rooms:List Nat} {st:cm},(iG I st rooms).rings=st.rings
 | [],_=>rfl
 |r::rooms,st=>AD (rooms:=rooms) (st:=ja I st r)
theorem wh{st:cm}{ring:List Nat}:(gD I st ring).rings=st.rings++[lr st ring]:=AD
section
variable{room draw:Nat}{st:cm}{pos:Pos}
abbrev t5:YI:=(b6 25).2
abbrev QL(i:Nat):ZF:=((b6 25).1[i]?).getD (.Break default)
abbrev nP(s:ZF):List ZF:=(defOf (some s)).1
abbrev nQ(i:Nat):ZF:=((nP (QL 0))[i]?).getD (.Break default)
def nR(af:eE)(draw:Nat):bD:=[("draw",ay draw),("house",.raw (.ref af.h))]
abbrev dI(r:List Nat):V:=.list (aV r)
theorem cj.dI:cj dI:=cj.list cj.nat
theorem cO.dI:cO (n+1) dI:=cO.list cO.nat
noncomputable def wi:V->Bool
 |.list []=>false
 |_=>true
theorem AE(r:List Nat):wi (dI r)=!decide (r=[]):=by cases r<;>rfl
theorem GU(l:List (List Nat)):(l.filter λr=>!decide (r=[])).map dI=(l.map dI).filter wi:=by
 simp only[List.filter_map]
 congr 1
 exact List.filter_congr λx _=>(AE x).symm
theorem QM(L:eD G aK ck K cJ c4 bA bF)(bP:eL I)(h:b3 (aK 16) σ af I ak size dv st)(aw:gS I st):
  bR G (k+6) t5 af.cW σ (("turn",ay t)::nR af draw) (nQ 0) (·=.next σ (("found",.list ((qe st.lead (I.length-1)).map dI))::("turn",ay t)::nR af draw)):=by
 have e:(qe st.lead (I.length-1)).map dI=((((XO (I.length-1)).map (·+1)).map λr=>dI (f7 st.lead r)).filter wi).map λd=>d:=by
  simp only[adC]
  delta qe
  rw[GU,X_ (f:=f7 st.lead)];rfl
 rw[e]
 refine .yG (S:=[]) (ds:=((XO (I.length-1)).map (·+1)).map λr=>dI (f7 st.lead r)) (xs:=["ring"]) (.list ?_ .list) (d3.filterMap _ _ λd hd=>?_) (b1 (by have:=bP.len;refine XC (Yg (XJ ..)) (XC (abk ..) ?_);simp;exact dt))
 ·refine .comp (S:=[]) (ds:=aV ((XO (I.length-1)).map (·+1))) (xs:=["room"]) (.to (.u3 (.cF L.P rfl) (m:=((1:Nat):Int)) (n:=((I.length:Nat):Int)) .bf (.to (.call (.cF L.P rfl) (.dV _) (.cons (.g1 (.name rfl) h.d .dx rfl) .nil) (bW.len (S:=[]) .list (by unfold lq;simp;have:=bP.len;exact jJ))) (dM:=ay I.length) (by unfold lq;simp)) aH aH (by have:=bP.len;exact oa) (by have:=bP.len;exact n')) ?_) ?_ (b1 (by have:=bP.len;simp;exact dt))
  ·exact(show(((I.length:Nat):Int)-((1:Nat):Int)).toNat=I.length-1 from CD).symm▸vF _
  ·have bH:(((XO (I.length-1)).map (·+1)).map λr=>dI (f7 st.lead r))=(aV ((XO (I.length-1)).map (·+1))).map λd=>match d with | .int r=>dI (f7 st.lead r.toNat)|_=>.none:=by
    unfold aV;rw[X_ (f:=ay)];refine Yf λr _=>?_
    rfl
   simp only[bH]
   refine d3.map _ λd hd=>?_
   refine bB (XZ.mp hd) λr ai aB=>?_
   subst aB
   refine bB (XZ.mp ai) λi aq aB=>?_
   subst aB
   have eQ:=X2.mp aq
   refine⟨_,.name,.cons .refl rfl,?_⟩
   have:=bP.len
   exact .to (.call (.globT L.P rfl) (L.P.calls (i:=23) rfl) (.cons (.g1 (.name rfl) h.d .dx rfl) (.cons (.name rfl) .nil)) (bW.room (Ej L.P (k:=0) (S:=[af.l]) (lead:=st.lead) (room:=i+1) (.inr ⟨af.l,none,rfl,h.l,.head _⟩) (by rw[h.dE];exact aw) (by rw[h.dE];exact JJ) (by rw[h.dE];exact jJ)) hT)) (rfl)
 ·refine bB (XZ.mp hd) λr ai aB=>?_
  subst aB
  refine⟨_,.name,.cons .refl rfl,.one ?_,λ_=>.name rfl⟩
  have aR:=a8.DU (G:=G) (k:=k+6) (σ:=σ) (S:=[]) (i2:=[]) (l:=f7 st.lead r) (m:=([]:List Nat)) cj.nat 0 cO.nat .list .list
  simp only[AE]
  exact .cmp (.name rfl) (.list .nil c7) aR
end
section
variable{room draw:Nat}{st:cm}{pos:Pos}
def fD(st:cm)(I:List (List Nat)):List (List Nat):=qe st.lead (I.length-1)
theorem wj{f:Nat}:jb I draw (f+1) t st=if fD st I=[]then st else jb I draw f (t+1) (gD I st ((fD st I).getD (draw / 4^t%(fD st I).length) [])):=rfl
theorem QN:(fD st I).length<=I.length-1:=by
 exact XC (abk ..) (Yg (by rw[XJ,XJ,Yc]))
theorem AF{j:Nat}(aw:gS I st)(ky:st.lead.length=I.length):(∀r∈(fD st I).getD j [],r<I.length)/\((fD st I).getD j []).length<=I.length:=by
 rw[XB]
 by_cases bq:j<(fD st I).length
 ·rw[XI bq]
  have hm:=Ya bq
  refine bC λ_ a'=>?_
  refine bB (XZ.mp (Z3.mp hm).1) λr ai e=>?_
  refine bB (XZ.mp ai) λi aq aB=>?_
  subst aB
  refine a' ?_
  have eQ:=X2.mp aq
  have b8:=e.symm
  exact b8▸⟨QK aw (afy eQ),ky▸GR _ _⟩
 ·rw[X8 (Yu bq)]
  exact⟨λr ai=>(cZ ai),Yd _⟩
def t6(af:eE)(draw t:Nat)(mO:List (List Nat)):bD:=("found",.list (mO.map dI))::("turn",ay t)::nR af draw
theorem GV(L:eD G aK ck K cJ c4 bA bF){mO:List (List Nat)}(O:mO=[]->P (.ret σ (.raw (.ref af.h))))(ae:mO≠[]->P (.next σ (t6 af draw t mO))):
  bR G (k+6) t5 T σ (t6 af draw t mO) (nQ 1) P:=by
 have aR:=a8.k9 (G:=G) (k:=k+6) (σ:=σ) (S:=[]) (i2:=[]) (l:=mO) (m:=([]:List (List Nat))) cj.dI 1 cO.dI .list .list
 refine .fz (b:=decide (mO=[])) (.cmp (.name rfl) (.list .nil c7) aR) (λH=>?_) (λH=>?_)
 ·exact .one (.mono (.ret (d:=.raw (.ref af.h)) (.name rfl)) λo aP=>by subst aP;exact O (of_decide_eq_true H))
 ·exact .nil (ae (of_decide_eq_false H))
def t7(I:List (List Nat))(draw t:Nat)(st:cm):Nat:=draw / 4^t%(fD st I).length
def AG(I:List (List Nat))(draw t:Nat)(st:cm):List Nat:=(fD st I).getD (t7 I draw t st) []
def rW(I:List (List Nat))(draw t:Nat)(st:cm):cm:=gD I st (AG I draw t st)
theorem QO(L:eD G aK ck K cJ c4 bA bF)(bP:eL I)(h:b3 (aK 16) σ af I ak size st.gone st)(aw:gS I st)(a_:t<=16)(b':fD st I≠[])(gE:st.rings.length<=1000)(ea:em st 10):
  gg G (k+6) t5 af.cW σ (t6 af draw t (fD st I)) (nQ 2) (jD (aK 16) af I ak size σ (t6 af draw t (fD st I)) (rW I draw t st)):=by
 have kp:=aav.mpr b'
 have b2:(fD st I).length<=4:=XC QN (abx bP.len)
 have bq:t7 I draw t st<(fD st I).length:=YO _ kp
 have QP:=XE bq b2
 refine d6 (AF (j:=t7 I draw t st) aw h.dE) λc8 du=>?_
 have jz:=XC du bP.len
 refine .expr (R:=λY d=>b3 (aK 16) Y af I ak size (rW I draw t st).gone (rW I draw t st)/\di af.cW σ Y) ?_ (λY d q=>⟨Y,rfl,q⟩)
 refine .ry (.globT L.P rfl) (L.P.calls (i:=24) rfl) h.ft (.cons (d:=.raw (.ref af.h)) (.name rfl) (.cons (d:=.list (aV (AG I draw t st))) ?_ .nil)) ((GQ (k:=k) L bP h c8 (XW jz aH) gE (ea.mono (XC jz aH))).room (YF _))
 refine .gZ (ds:=(fD st I).map dI) (d₂:=ay (t7 I draw t st)) (.name rfl) ?_ (.iZ (YH _) ?_ (abe.mpr (aao QP aH)))
 ·exact .bin (.bin (.name rfl) (.bin .bf (.name rfl) (.rb aH dt)) (.kv (ab9 aH) (tu aH (XC a_ aH)))) (.to (.call (.cF L.P rfl) (.dV _) (.cons (.name rfl) .nil) (bW.len (S:=[]) .list (by rw[XJ];exact XW b2 aH))) (dM:=ay (fD st I).length) (by rw[XJ])) (.j1 kp)
 ·simp only[X0,X1,XI bq]
  delta AG
  rw[XB,XI bq];rfl
def GW(C:XM)(af:eE)(I:List (List Nat))(ak size draw:Nat)(fu:ba)(df:cm)(o:hu):Prop:=∃Y,(o=.ret Y (.raw (.ref af.h))\/o=.next Y (nR af draw))/\b3 C Y af I ak size df.gone df/\di af.cW fu Y
theorem QQ{a f:Nat}(h:a<=5):a+(10+10*f)<=10+10*(f+1):=by lia
def GX(C:XM)(af:eE)(I:List (List Nat))(ak size draw t:Nat)(σ:ba)(st:cm)(Γ:bD)(o:hu):Prop:=(fD st I=[]/\o=.ret σ (.raw (.ref af.h)))\/(fD st I≠[]/\jD C af I ak size σ Γ (rW I draw t st) o)
theorem QR(L:eD G aK ck K cJ c4 bA bF)(bP:eL I)(h:b3 (aK 16) σ af I ak size st.gone st)(aw:gS I st)(a_:t<=16)(gE:st.rings.length<=1000)(ea:em st 10):
  d4 G (k+6) t5 af.cW σ (("turn",ay t)::nR af draw) [nQ 0,nQ 1,nQ 2] (GX (aK 16) af I ak size draw t σ st (t6 af draw t (fD st I))):=by
 refine .seq (.of (QM L bP h aw) h.ft) ?_
 by_cases b':fD st I=[]
 ·refine d4.cons (eA:=(·=.ret σ (.raw (.ref af.h)))) (.of (GV L (mO:=fD st I) (λ_=>rfl) (λq=>absurd b' q)) h.ft) λo aP=>?_
  subst aP
  exact .inl ⟨b',rfl⟩
 ·exact .seq (.of (GV L (mO:=fD st I) (λq=>absurd q b') (λ_=>rfl)) h.ft) (.one (.mono (QO L bP h aw a_ b' gE ea) λo q=>.inr ⟨b',q⟩))
theorem QS(L:eD G aK ck K cJ c4 bA bF)(bP:eL I)(f:Nat):∀(t:Nat) (σ:ba) (st:cm),t+f<=16->b3 (aK 16) σ af I ak size st.gone st->gS I st->di af.cW fu σ->st.rings.length+f<=1000->em st (10+10*f)->
  p7 G (k+6) t5 af.cW (.Name "turn" pos) [nQ 0,nQ 1,nQ 2] (GW (aK 16) af I ak size draw fu (jb I draw f t st)) ((Zr t f).map ay) σ (nR af draw):=by
 induction f with
 |zero=>exact λt σ st _ h _ S _ _=>⟨σ,.inr rfl,h,S⟩
 |succ f ih=>
  intro t σ st a_ h aw S gE ea
  refine⟨("turn",ay t)::nR af draw,["turn"],GX (aK 16) af I ak size draw t σ st (nR af draw),.name,λx ag=>by rw[XD.mp ag];exact .inl rfl,.shrink (QR L bP h aw (XC (X4 _ _) a_) (XC (X4 _ _) gE) (ea.mono (X4 _ _))) ?_,?_⟩
  ·rintro o (⟨a1,rfl⟩|⟨a1,Y,rfl,cw⟩)
   ·exact .inl ⟨a1,rfl⟩
   ·exact⟨nR af draw,.cv rfl (.cv rfl .nil),.inr ⟨a1,Y,rfl,cw⟩⟩
  ·rintro o (⟨a1,rfl⟩|⟨a1,Y,rfl,cw,e7⟩)
   ·refine⟨σ,.inl rfl,?_,S⟩
    rw[wj,if_pos a1];exact h
   ·obtain⟨c8,du⟩:=AF (j:=t7 I draw t st) aw h.dE
    have ai:(rW I draw t st).rings.length+f<=1000:=by
     delta rW
     rw[wh,Yv,Yo,acS,YL 1 f];exact gE
    have:=ih (t+1) Y _ (by rw[aaC];exact a_) cw (aw.throw c8) (S.trans e7) ai (em.throw (ea.mono (QQ (XC du bP.len))))
    simp only[wj,if_neg a1]
    exact this
theorem AH(n:Nat):lG 0 n=(Zr 0 n).map ay:=by rw[vE,ZU]
theorem QT(L:eD G aK ck K cJ c4 bA bF)(bP:eL I)(h:b3 (aK 16) σ af I ak size st.gone st)(aw:gS I st)(gE:st.rings=[])(ea:em st 200):
  fs G (k+7) af.cW σ (.ref (aK 25)) [.raw (.ref af.h),ay draw] (λY d=>d=.raw (.ref af.h)/\b3 (aK 16) Y af I ak size (jb I draw 16 0 st).gone (jb I draw 16 0 st)/\di af.cW σ Y):=by
 refine fs.of_body (k:=k+6) (P:=λo=>∃Y,o=.ret Y (.raw (.ref af.h))/\b3 (aK 16) Y af I ak size (jb I draw 16 0 st).gone (jb I draw 16 0 st)/\di af.cW σ Y) (L.P.fn 25 _ rfl) rfl ?_ ?_
 ·refine d4.cons (eA:=GW (aK 16) af I ak size draw σ (jb I draw 16 0 st)) (.kY (S:=[]) (.to (.q3 (.cF L.P rfl) (n:=((16:Nat):Int)) .bf aH aH) (AH 16)) h.ft (λb H=>cZ H) (QS L bP 16 0 σ st (XT _) h aw .refl (by rw[gE];decide) (ea.mono aH))) λo aP=>?_
  obtain⟨Y,rfl|rfl,a1,cw⟩:=aP
  ·exact⟨Y,rfl,a1,cw⟩
  ·refine⟨af.cW,λb H=>.inl H,.one (.mono (.of (.ret (d:=.raw (.ref af.h)) (.name rfl)) a1.ft) λo q=>?_)⟩
   subst q
   exact⟨Y,rfl,a1,cw⟩
 ·intro o dG
  refine gU dG λY aB a1 cw=>?_
  subst aB
  exact⟨[],Y,rfl,λb H=>by rw[cw.at_];exact H,rfl,a1,cw⟩
end
noncomputable abbrev f':=cm×List Nat×Nat
def eF(I:List (List Nat))(x:f'):f':=if x.2.2∈x.2.1 then(gD I x.1 (x.2.1.drop (x.2.1.idxOf x.2.2)),x.2.1.take (x.2.1.idxOf x.2.2),x.2.2)else x
noncomputable def fX(a7:List Nat)(x:f'):f':=if x.2.2∉a7 then(x.1,x.2.1++[x.2.2],x.1.lead.getD x.2.2 0)else x
def eM(I:List (List Nat))(a7:List Nat):Nat->f'->f'
 |0,x=>x
 |f+1,x=>eM I a7 f (fX a7 (eF I x))
def l5(I:List (List Nat)):List Nat->cm×List Nat->cm×List Nat
 | [],x=>x
 |s::order,x=>l5 I order ((eM I x.2 20 (x.1,[],s)).1,x.2++(eM I x.2 20 (x.1,[],s)).2.1)
def jc(I:List (List Nat))(order:List Nat)(st:cm):cm:=(l5 I order (st,[0])).1
section
variable{room:Nat}{st:cm}{pos:Pos}
abbrev qf:YI:=(b6 26).2
abbrev QU(i:Nat):ZF:=((b6 26).1[i]?).getD (.Break default)
abbrev qg(i:Nat):ZF:=((nP (QU 1))[i]?).getD (.Break default)
abbrev qh(i:Nat):ZF:=((nP (qg 1))[i]?).getD (.Break default)
def rX(af:eE)(order a7:List Nat)(start:Nat)(a6:List Nat)(room:Nat):bD:=[("way",.list (aV a6)),("room",ay room),("start",ay start),("home",.list (aV a7)),("order",.list (aV order)),("house",.raw (.ref af.h))]
def mP(af:eE)(order a7:List Nat)(start:Nat)(a6:List Nat)(room t:Nat):bD:=("turn",ay t)::rX af order a7 start a6 room
theorem AI{w:List Nat}{x:Nat}(ag:x∈w)(bz:w.length<2000):bW G k σ (.builtin "list.index") [.list (aV w),ay x] (ay (w.idxOf x)):=by
 have bq:=ZE ag
 refine bW.index (S:=[]) (ns:=w.map λn:Nat=>(n:Int)) (j:=w.idxOf x) (.inl (by simp[hw])) (by simpa using bq) (by simpa using aao bz aH) (by simp) ?_
 intro m y4 sZ
 have L3:m<w.length:=by simpa using y4
 have:=aeW (p:=λy=>y==x) (xs:=w) (i:=m) sZ
 simp only[Zy]
 intro q
 simp[(show w[m]=x from acg.mp q)]at this
structure iH(I:List (List Nat))(f n:Nat)(x:f'):Prop where
 l:gS I x.1
 w:∀r∈x.2.1,r<I.length
 r:x.2.2<I.length
 len:x.2.1.length+f<=40
 b:em x.1 (x.2.1.length+f+n)
theorem iH.t1{f:Nat}{x:f'}(h:iH I f n x):iH I f n (eF I x):=by
 delta eF
 split
 ·rename_i hm
  have bq:=Ye (ZE hm)
  have hd:(x.2.1.drop (x.2.1.idxOf x.2.2)).length+(x.2.1.take (x.2.1.idxOf x.2.2)).length=x.2.1.length:=by rw[YG,ZJ bq,aaE bq]
  exact⟨h.l.throw λr ai=>h.w r (Y7 ai),λr ai=>h.w r (ac1 ai),h.r,XC (Zo (hd▸Y1 _ _) f) h.len,em.throw (by rw[Yo,<-Yo (_:Nat),hd,<-Yo];exact h.b)⟩
 ·exact h
theorem iH.jy{f:Nat}{x:f'}(h0:0<I.length)(h:iH I (f+1) n x):iH I f n (fX a7 x):=by
 have e:(x.2.1++[x.2.2]).length+f=x.2.1.length+(f+1):=by rw[Yv,Yo,acS,YL 1 f]
 delta fX
 split
 ·refine⟨h.l,λr ai=>?_,?_,?_,?_⟩
  ·rcases XY.mp ai with ai|ai
   ·exact h.w r ai
   ·rw[XD.mp ai];exact h.r
  ·show x.1.lead.getD x.2.2 0<I.length
   rw[XB]
   by_cases aq:x.2.2<x.1.lead.length
   ·rw[XI aq];exact h.l _ (Ya aq)
   ·rw[X8 (Yu aq)];exact h0
  ·exact e.symm▸h.len
  ·exact h.b.mono (by rw[e];exact XT _)
 ·exact⟨h.l,h.w,h.r,abd h.len,h.b.mono (Zo (YF _) n)⟩
theorem QV(L:eD G aK ck K cJ c4 bA bF)(bP:eL I){i:Nat}(h:b3 (aK 16) σ af I ak size st.gone st)(aq:bW G (k+6) σ (.builtin "list.index") [.list (aV a6),ay room] (ay i))(bz:∀r∈a6,r<I.length)(aw:a6.length<=40)(gE:st.rings.length<=900)(ea:em st a6.length):
  d4 G (k+6) qf af.cW σ (mP af order a7 start a6 room t) (nP (qh 0)) (jD (aK 16) af I ak size σ (mP af order a7 start (a6.take i) room t) (gD I st (a6.drop i))):=by
 have hd:(a6.drop i).length<=a6.length:=by rw[YG];exact Zn _ _
 refine .shrink (eA:=jD (aK 16) af I ak size σ (([("way",.list (aV (a6.take i))),("ring",.list (aV (a6.drop i)))]:bD)++mP af order a7 start a6 room t) (gD I st (a6.drop i))) ?_ ?_
 ·refine .seq (.of (.swap (names:=["way","ring"]) (ds:=[.list (aV (a6.take i)),.list (aV (a6.drop i))]) (.tuple (.cons ?_ (.cons ?_ .nil)) c7) rfl (lS rfl rfl)) h.ft) ?_
  ·refine .to (.i0 (.name rfl) .none (.some (.pB (.name rfl) (T:="list") (d₀:=.list (aV a6)) rfl ad1 aco ad0 (.cons (.name rfl) .nil) aq)) .none aH (b1 (by rw[XJ];exact XC aw aH))) ?_
   rw[s7,q7]
  ·refine .to (.i0 (.name rfl) (.some (.pB (.name rfl) (T:="list") (d₀:=.list (aV a6)) rfl ad1 aco ad0 (.cons (.name rfl) .nil) aq)) .none .none aH (b1 (by rw[XJ];exact XC aw aH))) ?_
   rw[s7,pick_from]
  ·refine .one (.expr (R:=λY d=>b3 (aK 16) Y af I ak size (gD I st (a6.drop i)).gone (gD I st (a6.drop i))/\di af.cW σ Y) ?_ (λY d q=>⟨Y,rfl,q⟩))
   exact .ry (.globT L.P rfl) (L.P.calls (i:=24) rfl) h.ft (.cons (d:=.raw (.ref af.h)) (.name rfl) (.cons (d:=.list (aV (a6.drop i))) (.name rfl) .nil)) ((GQ (k:=k) L bP h (λr ai=>bz r (Y7 ai)) (XW (XC hd aw) aH) (XC gE aH) (ea.mono hd)).room (YF _))
 ·rintro o ⟨Y,rfl,q⟩
  exact⟨_,.cv rfl (.cv rfl (.cv rfl (.cv rfl (.cv rfl (.cv rfl (.cv rfl .nil)))))),Y,rfl,q⟩
theorem QW(L:eD G aK ck K cJ c4 bA bF)(bP:eL I){f:Nat}{x:f'}(h:b3 (aK 16) σ af I ak size x.1.gone x.1)(W:iH I f n x)(gE:x.1.rings.length<=900):
  gg G (k+6) qf af.cW σ (mP af order a7 start x.2.1 x.2.2 t) (qh 0) (jD (aK 16) af I ak size σ (mP af order a7 start (eF I x).2.1 (eF I x).2.2 t) (eF I x).1):=by
 have aw:=XC (X4 _ _) W.len
 refine .fz (b:=decide (x.2.2∈x.2.1)) (.cmp (.name rfl) (.name rfl) (a8.DV (S:=[]) (l:=x.2.1) (z:=x.2.2) cj.nat 0 cO.nat .list)) (λH=>?_) (λH=>?_)
 ·have hm:=of_decide_eq_true H
  rw[show eF I x=(gD I x.1 (x.2.1.drop (x.2.1.idxOf x.2.2)),x.2.1.take (x.2.1.idxOf x.2.2),x.2.2)from if_pos hm]
  exact QV L bP h (AI hm (XW aw aH)) W.w aw gE (W.b.mono (XC (X4 _ _) (X4 _ _)))
 ·rw[show eF I x=x from if_neg (of_decide_eq_false H)]
  exact .nil ⟨σ,rfl,h,.refl⟩
theorem QX(L:eD G aK ck K cJ c4 bA bF)(bP:eL I){f:Nat}{x:f'}(h:b3 (aK 16) σ af I ak size x.1.gone x.1)(W:iH I f n x)(bK:a7.length<=1000):
  gg G (k+6) qf af.cW σ (mP af order a7 start x.2.1 x.2.2 t) (qh 1) (λo=>o=.next σ (mP af order a7 start (fX a7 x).2.1 (fX a7 x).2.2 t)):=by
 have aw:=XC (X4 _ _) W.len
 refine .fz (b:=!decide (x.2.2∈a7)) (.cmp (.name rfl) (.name rfl) (a8.s6 (S:=[]) (l:=a7) (z:=x.2.2) cj.nat 0 cO.nat .list)) (λH=>?_) (λH=>?_)
 ·have hm:x.2.2∉a7:=by simpa using H
  have e:fX a7 x=(x.1,x.2.1++[x.2.2],x.1.lead.getD x.2.2 0):=if_pos hm
  rw[e]
  refine .shrink (eA:=λo=>o=.next σ (([("way",.list (aV (x.2.1++[x.2.2]))),("room",ay (x.1.lead.getD x.2.2 0))]:bD)++mP af order a7 start x.2.1 x.2.2 t)) ?_ ?_
  ·refine .one (.of (.swap (names:=["way","room"]) (ds:=[.list (aV (x.2.1++[x.2.2])),ay (x.1.lead.getD x.2.2 0)]) (.tuple (.cons (.to (.bin (.name rfl) (.list (.cons (.name rfl) .nil) c7) (.h2 (b1 (by rw[XJ];exact XC (aae aw) aH)))) (by unfold aV;rw[Yx];rfl)) (.cons (h.GG W.r (.name rfl) (.name rfl) (hsz:=XC bP.len aH)) .nil)) c7) rfl ?_) h.ft)
   exact lS rfl rfl
  ·rintro o rfl
   exact⟨_,.cv rfl (.cv rfl (.cv rfl (.cv rfl (.cv rfl (.cv rfl (.cv rfl .nil)))))),rfl⟩
 ·have hm:x.2.2∈a7:=by simpa using H
  have e:fX a7 x=x:=if_neg (λq=>q hm)
  rw[e]
  exact .nil rfl
end
section
variable{room:Nat}{st:cm}{pos:Pos}
theorem GY(f:Nat):∀x:f',0<I.length->iH I f n x->iH I 0 n (eM I a7 f x):=by
 induction f with
 |zero=>exact λx _ h=>h
 |succ f ih=>exact λx h0 h=>ih _ h0 (iH.jy h0 h.t1)
theorem GZ(x:f'):(fX a7 x).1=x.1:=by unfold fX;split<;>rfl
theorem G0(x:f'):(fX a7 (eF I x)).1.rings.length<=x.1.rings.length+1:=by
 rw[GZ]
 delta eF
 split
 ·rw[wh,Yv];exact XT _
 ·exact YF _
theorem QY(f:Nat):∀x:f',(eM I a7 f x).1.rings.length<=x.1.rings.length+f:=by
 induction f with
 |zero=>exact λx=>XT _
 |succ f ih=>exact λx=>XC (ih _) (by rw[YL f 1,<-Yo];exact Zo (G0 x) f)
theorem QZ(L:eD G aK ck K cJ c4 bA bF)(bP:eL I){f:Nat}{x:f'}(bK:a7.length<=1000)(h:b3 (aK 16) σ af I ak size x.1.gone x.1)(W:iH I f n x)(ai:x.1.rings.length<=900)(S:di af.cW fu σ):
  d4 G (k+6) qf af.cW σ (mP af order a7 start x.2.1 x.2.2 t) [qh 0,qh 1] (jD (aK 16) af I ak size fu (mP af order a7 start (fX a7 (eF I x)).2.1 (fX a7 (eF I x)).2.2 t) (fX a7 (eF I x)).1):=by
 refine d4.cons (QW L bP h W ai) λo aP=>?_
 obtain⟨a9,rfl,dc,hQ⟩:=aP
 refine⟨af.cW,λb H=>.inl H,.one (.mono (QX L bP dc W.t1 bK) λo aP=>?_)⟩
 subst aP
 exact⟨a9,rfl,(GZ (a7:=a7) (eF I x)).symm▸dc,S.trans hQ⟩
theorem Q0(L:eD G aK ck K cJ c4 bA bF)(bP:eL I)(h0:0<I.length)(bK:a7.length<=1000)(f:Nat):∀(t:Nat) (σ:ba) (x:f'),b3 (aK 16) σ af I ak size x.1.gone x.1->iH I f n x->x.1.rings.length+f<=900->di af.cW fu σ->
  p7 G (k+6) qf af.cW (.Name "turn" pos) [qh 0,qh 1] (jD (aK 16) af I ak size fu (rX af order a7 start (eM I a7 f x).2.1 (eM I a7 f x).2.2) (eM I a7 f x).1) ((Zr t f).map ay) σ (rX af order a7 start x.2.1 x.2.2):=by
 induction f with
 |zero=>exact λt σ x h W ai S=>⟨σ,rfl,h,S⟩
 |succ f ih=>
  intro t σ x h W ai S
  refine⟨("turn",ay t)::rX af order a7 start x.2.1 x.2.2,["turn"],jD (aK 16) af I ak size fu (rX af order a7 start (fX a7 (eF I x)).2.1 (fX a7 (eF I x)).2.2) (fX a7 (eF I x)).1,.name,λz hz=>by rw[XD.mp hz];exact .inl rfl,.shrink (QZ (t:=t) L bP bK h W (XC (X4 _ _) ai) S) ?_,?_⟩
  ·rintro o ⟨a9,rfl,q⟩
   exact⟨_,.cv rfl (.cv rfl (.cv rfl (.cv rfl (.cv rfl (.cv rfl .nil))))),a9,rfl,q⟩
  ·rintro o ⟨a9,rfl,dc,hQ⟩
   exact ih (t+1) a9 _ dc (iH.jy h0 W.t1) (XC (by rw[YL f 1,<-Yo];exact Zo (G0 x) f) ai) hQ
def t8(af:eE)(order a7:List Nat):bD:=[("home",.list (aV a7)),("order",.list (aV order)),("house",.raw (.ref af.h))]
def oR(I:List (List Nat))(a7:List Nat)(st:cm)(s:Nat):f':=eM I a7 20 (st,[],s)
theorem Q1(L:eD G aK ck K cJ c4 bA bF)(bP:eL I)(h0:0<I.length){s:Nat}(h:b3 (aK 16) σ af I ak size st.gone st)(W:iH I 20 n (st,[],s))(ai:st.rings.length+20<=900)(bK:a7.length<=900)(bz:(oR I a7 st s).2.1.length<=40)(S:di af.cW fu σ):
  d4 G (k+6) qf af.cW σ (("start",ay s)::t8 af order a7) [qg 0,qg 1,qg 2] (jD (aK 16) af I ak size fu (("home",.list (aV (a7++(oR I a7 st s).2.1)))::rX af order a7 s (oR I a7 st s).2.1 (oR I a7 st s).2.2) (oR I a7 st s).1):=by
 refine .seq (.of (.swap (names:=["way","room"]) (ds:=[.list [],ay s]) (.tuple (.cons (.list .nil c7) (.cons (.name rfl) .nil)) c7) rfl (lS rfl rfl)) h.ft) ?_
 refine d4.cons (.kY (S:=[]) (.to (.q3 (.cF L.P rfl) (n:=((20:Nat):Int)) .bf aH aH) (AH 20)) h.ft (λb H=>cZ H) (Q0 (order:=order) (start:=s) (fu:=fu) L bP h0 (n:=n) (XC bK aH) 20 0 σ (st,[],s) h W ai S)) λo p5=>?_
 obtain⟨a9,rfl,dc,hQ⟩:=p5
 refine⟨af.cW,λb H=>.inl H,.one (.mono (.of (.eS (d:=.list (aV (a7++(oR I a7 st s).2.1))) ?_) dc.ft) λo q=>?_)⟩
 ·exact .to (.bin (.name rfl) (.name rfl) (.h2 (b1 (by rw[XJ,XJ];exact XC (aah bK bz) aH)))) (by unfold aV;rw[Yx];rfl)
 ·subst q
  exact⟨a9,rfl,dc,hQ⟩
theorem Q2{a:Nat}(h:a+40*(n+1)<=900):a<=900/\∀b,b<=40->a+b+40*n<=900:=⟨o8,λb H=>by lia⟩
theorem Q3{a:Nat}(h:a+20*(n+1)<=900):a+20<=900/\∀b,b<=a+20->b+20*n<=900:=⟨by lia,λb H=>by lia⟩
theorem Q4(L:eD G aK ck K cJ c4 bA bF)(bP:eL I)(h0:0<I.length){t9:List Nat}(order:List Nat):∀(σ:ba) (st:cm) (a7:List Nat),b3 (aK 16) σ af I ak size st.gone st->gS I st->(∀r∈order,r<I.length)->em st (20*order.length)->a7.length+40*order.length<=900->st.rings.length+20*order.length<=900->di af.cW fu σ->
  p7 G (k+6) qf af.cW (.Name "start" pos) [qg 0,qg 1,qg 2] (λo=>∃Γ,Γ.lookup ("house":Str)=some (.raw (.ref af.h))/\jD (aK 16) af I ak size fu Γ (l5 I order (st,a7)).1 o) (aV order) σ (t8 af t9 a7):=by
 induction order with
 |nil=>exact λσ st a7 h aw aP ea bK ai S=>⟨_,rfl,σ,rfl,h,S⟩
 |cons s order ih=>
  intro σ st a7 h aw aP ea bK ai S
  have W:iH I 20 (20*order.length) (st,[],s):=⟨aw,λr ai=>(cZ ai),aP s (.head _),aai rfl,ea.mono (by rw[Yi,acG,YL];exact Yg (by rw[Z4,Yq]))⟩
  have bc:=GY (a7:=a7) 20 (st,[],s) h0 W
  obtain⟨fI,Q5⟩:=Q2 bK
  obtain⟨gc,Q6⟩:=Q3 ai
  have bz:=bc.len
  refine⟨("start",ay s)::t8 af t9 a7,["start"],jD (aK 16) af I ak size fu (t8 af t9 (a7++(oR I a7 st s).2.1)) (oR I a7 st s).1,.name,λz hz=>by rw[XD.mp hz];exact .inl rfl,.shrink (Q1 (order:=t9) L bP h0 h W gc fI bz S) ?_,?_⟩
  ·rintro o ⟨a9,rfl,q⟩
   exact⟨_,.cv rfl (.cv rfl (.cv rfl .nil)),a9,rfl,q⟩
  ·rintro o ⟨a9,rfl,dc,hQ⟩
   exact ih a9 _ _ dc bc.l (λr ai=>aP r (.tail _ ai)) (bc.b.mono (Y1 _ _)) (by rw[Yv];exact Q5 _ bz) (Q6 _ (QY (I:=I) (a7:=a7) 20 (st,[],s))) hQ
theorem G1(L:eD G aK ck K cJ c4 bA bF)(bP:eL I)(h0:0<I.length)(h:b3 (aK 16) σ af I ak size st.gone st)(aw:gS I st)(gE:st.rings=[])(ea:em st 200)(aP:∀r∈order,r<I.length)(h':order.length<=5):
  fs G (k+7) af.cW σ (.ref (aK 26)) [.raw (.ref af.h),.list (aV order)] (λY d=>d=.raw (.ref af.h)/\b3 (aK 16) Y af I ak size (jc I order st).gone (jc I order st)/\di af.cW σ Y):=by
 refine fs.of_body (k:=k+6) (P:=λo=>∃Y,o=.ret Y (.raw (.ref af.h))/\b3 (aK 16) Y af I ak size (jc I order st).gone (jc I order st)/\di af.cW σ Y) (L.P.fn 26 _ rfl) rfl ?_ ?_
 ·refine .seq (a9:=σ) (Γ₁:=t8 af order [0]) (.of (.eS (d:=.list (aV [0])) (.list (.cons .bf .nil) c7)) h.ft) ?_
  refine d4.cons (.kY (S:=[]) (.list (.name rfl) .list) h.ft (λb H=>cZ H) (Q4 (t9:=order) (fu:=σ) L bP h0 order σ st [0] h aw aP (ea.mono (XC (ZM 20 h') aH)) (XC (YC (ZM 40 h') _) aH) (by rw[gE,Z4,Yq];exact XC (ZM 20 h') aH) .refl)) λo p5=>?_
  refine bC λ_ a'=>?_
  obtain⟨Γ,c6,Y,rfl,a1,cw⟩:=p5
  refine a' ?_
  refine⟨af.cW,λb H=>.inl H,.one (.mono (.of (.ret (d:=.raw (.ref af.h)) (.name c6)) a1.ft) λo q=>?_)⟩
  subst q
  exact⟨Y,rfl,a1,cw⟩
 ·intro o dG
  refine gU dG λY aB a1 cw=>?_
  subst aB
  exact⟨[],Y,rfl,λb H=>by rw[cw.at_];exact H,rfl,a1,cw⟩
end
section
open PySem.F
noncomputable abbrev wk(p:V×V):V:=.tuple [p.1,p.2]
theorem qi{i l:XM}(x:h.IsListIter i l n)(k:∀o,h.get? i=some o->ah.get? i=some o):ah.IsListIter i l n:=by obtain⟨o,e,q⟩:=x;exact⟨o,k o e,q⟩
end
section
open PySem.F
noncomputable abbrev hn:=XM×XM×List XF×List V
structure l6(bp:List hn)(z TI c0:XM):Prop where
 c2:(z::TI::c0::bp.map (·.1)).Nodup
 ls:∀t∈bp,t.2.1∉z::TI::c0::bp.map (·.1)
structure gT(k:Nat)(bp:List hn)(h₀ h:Zu)(z TI c0:XM)(jd:XF)(n:Nat)(dp:List XF):Prop where
 je:IsZip h z TI c0 jd
 lu:h.get? TI=some (gK (bp.map λt=>.ref t.1) 0)
 to:h.get? c0=some (gK dp 0)
 it:∀(j:Nat) (t:hn),bp[j]?=some t->h.IsListIter t.1 t.2.1 (if j<n then k+1 else k)/\h.IsList t.2.1 t.2.2.1.toArray
 iy:h.objs.size=h₀.objs.size
 bx:∀c o,c≠z->c≠c0->c∉bp.map (·.1)->h₀.get? c=some o->h.get? c=some o
section
variable{h₀:Zu}{z:XM}{jd:XF}{dp:List XF}
theorem l6.wm(D:l6 bp z TI c0){j:Nat}{t:hn}(e:bp[j]?=some t):t.1∈bp.map (·.1):=YA (f:=λt:hn=>t.1) (ZV e)
theorem l6.ne(D:l6 bp z TI c0):z≠TI/\z≠c0/\TI≠c0/\∀(j:Nat) (t:hn),bp[j]?=some t->t.1≠z/\t.1≠TI/\t.1≠c0/\t.2.1≠z/\t.2.1≠TI/\t.2.1≠c0/\∀(i:Nat) (u:hn),bp[i]?=some u->t.2.1≠u.1/\(i≠j->u.1≠t.1):=by
 have O:=Yn.mp D.c2
 have ae:=Yn.mp O.2
 have a2:=Yn.mp ae.2
 refine⟨λq=>O.1 (q▸.head _),λq=>O.1 (q▸.tail _ (.head _)),λq=>ae.1 (q▸.head _),λj t e=>?_⟩
 have m:=D.wm e
 have l:=D.ls t (ZV e)
 refine⟨λq=>O.1 (q▸.tail _ (.tail _ m)),λq=>ae.1 (q▸.tail _ m),λq=>a2.1 (q▸m),λq=>l (q▸.head _),λq=>l (q▸.tail _ (.head _)),λq=>l (q▸.tail _ (.tail _ (.head _))),λi u we=>⟨λq=>l (q▸.tail _ (.tail _ (.tail _ (D.wm we)))),λml q=>ml ?_⟩⟩
 obtain⟨bq,Q7⟩:=Y9.mp e
 obtain⟨aq,Q8⟩:=Y9.mp we
 exact As a2.2 (i:=i) (j:=j) (by rw[XJ];exact aq) (by rw[XJ];exact bq) (by rw[Zy,Zy,Q8,Q7,q])
theorem Q9{j a b:Nat}(h:¬j=n):(if j<n+1 then a else b)=if j<n then a else b:=by
 by_cases q:j<n
 ·rw[if_pos q,if_pos (Y5 q)]
 ·rw[if_neg q,if_neg λz=>h (Y' (YU z) (Yu q))]
theorem gT.draw{t:hn}{x:XF}{Q:XF->XG->Prop}(D:l6 bp z TI c0)(Z:gT k bp h₀ s.heap z TI c0 jd n dp)(a_:bp[n]?=some t)(ag:t.2.2.1[k]?=some x)
  (aA:∀ah,gT k bp h₀ ah z TI c0 jd (n+1) dp->Q x {s with heap:=ah}):wpAny (model prog w) A (agj (.ref t.1)) Q E s:=by
 refine d6 (Z.it n t a_) λa1 cw=>?_
 refine uP (D.ne.2.2.2 n t a_) λgq hU mZ gr mQ t_ rI=>?_
 rw[if_neg (XN _)]at a1
 refine wpAny_nextOf_list_item a1 cw (x:=x) (by rw[ae9];exact ag) λah aq aG=>aA ah ⟨aG.extBut _ _ gq.symm Z.je,aG.extBut _ _ hU.symm Z.lu,aG.extBut _ _ mZ.symm Z.to,λj u dh=>?_,aG.1.trans Z.iy,λc o eR eI fy e=>aG.extBut _ _ (λq=>fy (q▸D.wm a_)) (Z.bx c o eR eI fy e)⟩
 refine d6 (Z.it j u dh) λfI gc=>?_
 refine⟨?_,listAt gc λo e=>aG.extBut _ _ (((D.ne.2.2.2 j u dh).2.2.2.2.2.2 n t a_).1) e⟩
 by_cases bq:j=n
 ·subst bq
  cases a_.symm.trans dh
  exact(if_pos (Yt _)).symm▸aq
 ·rw[Q9 bq]
  exact qi fI λo e=>aG.extBut _ _ ((rI j u dh).2 bq) e
theorem Q_{T:XM}{x:XF}{j:Nat}{Q:Unit->XG->Prop}(aU:s.heap.get? T=some (gK dp 0))(hsz:dp.length<=100)
  (h:∀ah,ah.get? T=some (gK (dp.set j x) 0)->aac T s.heap ah->Q () {s with heap:=ah}):wpAny (model prog w) A (updateSeq T (·.setIfInBounds j x)) Q E s:=by
 refine abW aU rfl (h _ ?_ (YV ..)) (XC hsz (b1 aH)) (by rw[Array.size_setIfInBounds];exact YP (XC hsz (b1 aH)))
 rw[YZ _ aU rfl]
 simp[YY]
theorem gT.put{x:XF}{j:Nat}{Q:Unit->XG->Prop}(D:l6 bp z TI c0)(Z:gT k bp h₀ s.heap z TI c0 jd n dp)(hsz:dp.length<=100)
  (aA:∀ah,gT k bp h₀ ah z TI c0 jd n (dp.set j x)->Q () {s with heap:=ah}):wpAny (model prog w) A (updateSeq c0 (·.setIfInBounds j x)) Q E s:=by
 refine Q_ Z.to hsz λah aP aG=>aA ah ⟨aG.extBut _ _ D.ne.2.1 Z.je,aG.extBut _ _ D.ne.2.2.1 Z.lu,aP,λj u dh=>?_,aG.1.trans Z.iy,λc o eR eI fy e=>aG.extBut _ _ eI (Z.bx c o eR eI fy e)⟩
 refine d6 (Z.it j u dh) λfI gc=>?_
 refine uP (D.ne.2.2.2 j u dh) λgq hU mZ gr mQ t_ rI=>?_
 exact⟨qi fI λo e=>aG.extBut _ _ mZ e,listAt gc λo e=>aG.extBut _ _ t_ e⟩
theorem gT.Q'{g:XF}{Q:Unit->XG->Prop}(D:l6 bp z TI c0)(Z:gT k bp h₀ s.heap z TI c0 jd n dp)
  (aA:∀ah,gT k bp h₀ ah z TI c0 g n dp->Q () {s with heap:=ah}):wpAny (model prog w) A (setField (.ref z) 0 g) Q E s:=by
 refine aca Z.je (acs 4) λah hz aG=>aA ah ⟨hz,aG.extBut _ _ D.ne.1.symm Z.lu,aG.extBut _ _ D.ne.2.1.symm Z.to,λj u dh=>?_,aG.1.trans Z.iy,λc o eR eI fy e=>aG.extBut _ _ eR (Z.bx c o eR eI fy e)⟩
 refine d6 (Z.it j u dh) λfI gc=>?_
 refine uP (D.ne.2.2.2 j u dh) λgq hU mZ gr mQ t_ rI=>?_
 exact⟨qi fI λo e=>aG.extBut _ _ gq e,listAt gc λo e=>aG.extBut _ _ gr e⟩
theorem take_set{x:α}{dp xs:List α}(az:n<dp.length)(ag:xs[n]?=some x)(a_:dp.take n=xs.take n):(dp.set n x).take (n+1)=xs.take (n+1):=by
 simp only[afX,afX,List.take_set,<-a_,List.set_eq_of_length_le (Yg (ZJ (Ye az))),ag,acy az]
theorem Ra{init:β}{f:XF×Nat->β->Sem (ForInStep β)}{xs:List XF}{Q:β->XG->Prop}{i:Nat}(aq:i<=bp.length)(ag:xs.length=bp.length)
  (H:∀(n:Nat) (t:hn) (x:XF) (dp:List XF) (h:Zu) (bX:ForInStep β->XG->Prop),n<i->bp[n]?=some t->xs[n]?=some x->gT k bp h₀ h z TI c0 jd n dp->dp.length=bp.length->(∀ah,gT k bp h₀ ah z TI c0 jd (n+1) (dp.set n x)->bX (.yield init) {s with heap:=ah})->wpAny (model prog w) A (f (.ref t.1,n) init) bX E {s with heap:=h})
  (he:∀(dp:List XF) (h:Zu),gT k bp h₀ h z TI c0 jd i dp->dp.length=bp.length->dp.take i=xs.take i->wpAny (model prog w) A (forIn (((bp.drop i).map λt=>ZR t.1).zipIdx i) init f) Q E {s with heap:=h}) (m:Nat) :
  ∀(n:Nat) (dp:List XF) (h:Zu),n+m=i->gT k bp h₀ h z TI c0 jd n dp->dp.length=bp.length->dp.take n=xs.take n->wpAny (model prog w) A (forIn (((bp.drop n).map λt=>ZR t.1).zipIdx n) init f) Q E {s with heap:=h}:=by
 induction m with
 |zero=>
  rintro n dp h rfl Z aw a_
  exact he dp h Z aw a_
 |succ m ih=>
  intro n dp h ai Z aw a_
  have ct:n<i:=ai▸ZC (ZL m)
  have az:=XE ct aq
  have G2:xs[n]?=some xs[n]:=XI (ag▸az)
  exact(YR az)▸qT (H n bp[n] xs[n] dp h _ ct (XI az) G2 Z aw λah Rb=>⟨init,rfl,ih (n+1) _ ah ((Zt n m).trans ai) Rb (ZO.trans aw) (take_set (aw▸az) G2 a_)⟩)
structure AJ(k:Nat)(bp:List hn)(h ah:Zu)(z TI c0:XM)(xs:List XF):Prop where
 je:IsZip ah z TI c0 (rawInt h.objs.size)
 lu:ah.get? TI=some (gK (bp.map λt=>.ref t.1) 0)
 to:ah.get? c0=some (gK xs 0)
 it:∀t∈bp,ah.IsListIter t.1 t.2.1 (k+1)
 nw:ah.get? h.objs.size=some (gK xs 0)
 iy:ah.objs.size=h.objs.size+1
 bx:∀d o,d≠z->d≠c0->d∉bp.map (·.1)->h.get? d=some o->ah.get? d=some o
theorem Rc{xs:List XF}{Q:Unit->XG->Prop}(D:l6 bp z TI c0)(Z:gT k bp h s.heap z TI c0 .ellipsis bp.length xs)
  (aA:∀ah,AJ k bp h ah z TI c0 xs->Q () {s with heap:=ah}):wpAny (model prog w) A (agi (.ref z) (.ref s.heap.objs.size)) Q E {s with heap:=s.heap.push (gK xs 0)}:=by
 have hz:=Z.je
 have G3:=XX hz
 refine XA (aca (X6 _ hz) (acs 4) λXk Rd AK=>aca (vs:=#[rawInt s.heap.objs.size,.bool false,.bool false,.ref TI,.ref c0]) Rd (aad (acs 3)) λg Rf t0=>?_)
 have up:∀d o,d≠z->s.heap.get? d=some o->g.get? d=some o:=λd o hY e=>t0.extBut _ _ hY (AK.extBut _ _ hY (X6 _ e))
 have iy:=Z.iy
 refine aA g ⟨iy▸Rf,up _ _ D.ne.1.symm Z.lu,up _ _ D.ne.2.1.symm Z.to,λt a_=>?_,iy▸t0.extBut _ _ (Zf G3) (AK.extBut _ _ (Zf G3) (XU _ rfl)),?_,λd o hY kW nr e=>up d o hY (Z.bx d o hY kW nr e)⟩
 ·obtain⟨j,bq,e⟩:=Z7 a_
  have b8:=Y9.mpr ⟨bq,e⟩
  have:=(Z.it j t b8).1
  rw[if_pos bq]at this
  exact qi this λo=>up _ o (D.ne.2.2.2 j t b8).1
 ·simp only[t0.1,AK.1,Yk,iy]
theorem Rg{i:Nat}{xs:List XF}{Q:ac0->XG->Prop}(b':bp≠[])(bK:A.handled=none)(D:l6 bp z TI c0)(Z:gT k bp s.heap s.heap z TI c0 .none 0 dp)(aw:dp.length=bp.length)(nS:bp.length<=100)(aq:i<=bp.length)(ag:xs.length=bp.length)(iv:∀(n:Nat) (t:hn),n<i->bp[n]?=some t->t.2.2.1[k]?=xs[n]?)
  (au:(i=bp.length/\∀ah,AJ k bp s.heap ah z TI c0 xs->Q (.done (.ret (.ref s.heap.objs.size))) {s with heap:=ah})\/
   (∃a,bp[i]?=some a/\a.2.2.1[k]?=none)/\∀ah e,(∀d o,d≠z->d≠c0->d∉bp.map (·.1)->s.heap.get? d=some o->ah.get? d=some o)->(∃o,ah.get? e=some o/\o.cls=.type "StopIteration")->E (.ref e) {s with heap:=ah}) :
  wpAny (model prog w) A (Y4.«zip.__next__» ⟨[.ref z],[]⟩) Q E s:=by
 have hz:=Z.je
 show wpAny _ _ (field (.ref z) 2 >>= _) _ _ _
 refine XA (Zv hz rfl (x:=.bool false) rfl ?_)
 refine XA (Zv hz rfl (x:=.ref TI) rfl (XA (aal Z.lu rfl (fK ?_ ?_))))
 ·rcases bp with _|⟨a,r⟩
  ·exact absurd rfl b'
  ·exact X'
 refine XA ?_
 refine XA (Zv hz rfl (x:=.none) rfl (XK (pc rfl (XA (aaw (XA (Zv hz rfl (x:=.ref c0) rfl (XA (Z.Q' D λdc Rh=>XA ?_)))))))))
 refine Ra (s:=s) (i:=i) (xs:=xs) aq ag (λn t x dp h bX ct a_ Ri Z aw Rj=>?_) (λdp h nT aw a_=>?_) i 0 dp dc (Yq i) Rh aw rfl
 ·refine XA (wpAny_onRaise ?_)
  refine XA (gT.draw (s:={s with heap:=h}) D Z a_ ((iv n t ct a_).trans Ri) λeh nT=>XK ?_)
  refine XA (aal nT.to rfl ?_)
  refine XA (gT.put (s:={s with heap:=eh}) D nT (aw▸nS) λhi Rk=>?_)
  exact XA (agl (XK (Rj hi Rk)))
 rcases au with ⟨rfl,aA⟩|⟨⟨a,aY,Rl⟩,dO⟩
 ·rw[aeV (Yg aw),aeV (Yg ag)]at a_
  subst a_
  rw[agf]
  refine x2 (XA (aal nT.to rfl (XA (ahM (hsz:=XC (ag▸nS) (b1 aH)) ?_))))
  refine XA (Rc (s:={s with heap:=h}) D nT λah R=>XK ?_)
  have q:=aA ah R
  replace q:=nT.iy.symm▸q
  exact q
 ·obtain⟨ct,rfl⟩:=Y9.mp aY
  rw[YR ct]
  refine qT (XA (wpAny_onRaise ?_))
  refine d6 (nT.it i _ aY) λa1 cw=>?_
  rw[if_neg (XN _)]at a1
  refine XA (wpAny_nextOf_list_end (s:={s with heap:=h}) bK a1 cw (by rw[ae9];exact Rl) λeh e oG he=>?_)
  refine bB he λnF AL hM=>?_
  have G4:=oG _ _ (D.ne.2.2.2 i _ aY).1.symm nT.je
  have Rm:e≠z:=λx=>by
   rw[x,G4]at AL
   obtain rfl:=YW AL
   exact absurd (aic hM) aH
  exact aca G4 (acs 4) λhi _ G5=>dO hi e (λd o hY kW nr x=>G5.extBut _ _ hY (oG _ _ (λq=>nr (q▸D.wm aY)) (nT.bx d o hY kW nr x))) ⟨nF,G5.extBut _ _ Rm AL,hM⟩
theorem G6{i:Nat}{xs:List XF}{Q:Option XF->XG->Prop}(b':bp≠[])(bK:A.handled=none)(D:l6 bp z TI c0)(Z:gT k bp s.heap s.heap z TI c0 .none 0 dp)(aw:dp.length=bp.length)(nS:bp.length<=100)(aq:i<=bp.length)(ag:xs.length=bp.length)(iv:∀(n:Nat) (t:hn),n<i->bp[n]?=some t->t.2.2.1[k]?=xs[n]?)
  (au:(i=bp.length/\∀ah,AJ k bp s.heap ah z TI c0 xs->Q (some (.ref s.heap.objs.size)) {s with heap:=ah})\/
   (∃a,bp[i]?=some a/\a.2.2.1[k]?=none)/\∀ah,(∀d o,d≠z->d≠c0->d∉bp.map (·.1)->s.heap.get? d=some o->ah.get? d=some o)->Q none {s with heap:=ah}):wpAny (model prog w) A (pyNext (.ref z)) Q E s:=by
 have aU:s.TypeIs (.ref z) "zip":=⟨_,Z.je,rfl⟩
 refine XA (acB (acV (name:=Yr "__next__") aU ahd (aaA ahd aU F.entry_zip_next (Rg b' bK D Z aw nS aq ag iv ?_) (F.args_zip_next_1 _))))
 refine au.imp (λG7=>⟨G7.1,λah R=>⟨_,rfl,XK (G7.2 ah R)⟩⟩) λag=>⟨ag.1,λah e aL au=>?_⟩
 exact XA (abD (T:="StopIteration") (b:=true) au ahS (XK (ag.2 _ aL)))
end
noncomputable abbrev wo(bp:List hn)(i:Nat):V:=.tuple (bp.map λt=>t.2.2.2.getD i .none)
structure AM(bp:List hn)(L i:Nat):Prop where
 ge:∀t∈bp,L<=t.2.2.1.length
 at_:∃a,bp[i]?=some a/\a.2.2.1.length=L
 gt:∀(n:Nat) (t:hn),n<i->bp[n]?=some t->L<t.2.2.1.length
inductive G8(bp:List hn)(L:Nat)(z TI c0:XM)(P:XM->Prop)(h:Zu)(ds:List V):Prop
 |mk (k:Nat) (dp:List XF) (aL:k<=L) (aw:dp.length=bp.length) (Z:gT k bp h h z TI c0 .none 0 dp) (ai:∀t∈bp,a5 P h t.2.2.1 t.2.2.2) (q:ds=(Zr k (L-k)).map (wo bp))
section
variable{z:XM}
theorem gT.fresh{jd:XF}{G9:List XF}(je:IsZip ah z TI c0 jd)(lu:ah.get? TI=some (gK (bp.map λt=>.ref t.1) 0))(to:ah.get? c0=some (gK G9 0))(it:∀t∈bp,ah.IsListIter t.1 t.2.1 k/\ah.IsList t.2.1 t.2.2.1.toArray):gT k bp ah ah z TI c0 jd 0 G9:=
 ⟨je,lu,to,λj t e=>it t (ZV e),rfl,λ_ _ _ _ _ e=>e⟩
theorem gT.mem{jd:XF}{dp:List XF}(Z:gT k bp h h z TI c0 jd 0 dp):∀t∈bp,h.IsListIter t.1 t.2.1 k/\h.IsList t.2.1 t.2.2.1.toArray:=λt a_=>by
 refine cS (ac2 a_) λj e=>?_
 exact Z.it j t e
theorem Rn{P:XM->Prop}(ai:∀t∈bp,a5 P h t.2.2.1 t.2.2.2/\k<t.2.2.1.length):a5 P h (bp.map λt=>t.2.2.1.getD k .none) (bp.map λt=>t.2.2.2.getD k .none):=by
 induction bp with
 |nil=>exact .nil
 |cons t r ih=>
  refine d6 (ai t (.head _)) λO ae=>?_
  have hd:=O.length▸ae
  refine bB (O.get (XI hd)) λv bJ ej=>?_
  refine .cons ?_ (ih λu dh=>ai u (.tail _ dh))
  simp only[XB,XB,bJ,XI hd]
  exact ej
theorem Ro{i:Nat}(D:l6 bp z TI c0)(cU:AM bp L i)(nS:bp.length<=100)(bK:A.handled=none){iU:List Yy}{er:Nat}:g9 G A σ (.Tuple iU er p) (z::TI::c0::bp.map (·.1)) (bp.map (·.2.1)) z (G8 bp L z TI c0) where
 mono:=λP P' h ah ds aG iS bz=>by
  refine bC λ_ a'=>?_
  obtain⟨k,dp,aL,aw,Z,ai,q⟩:=aG
  refine a' ?_
  refine⟨k,dp,aL,aw,.fresh (bz _ _ (.inl (.head _)) Z.je) (bz _ _ (.inl (.tail _ (.head _))) Z.lu) (bz _ _ (.inl (.tail _ (.tail _ (.head _)))) Z.to) λt a_=>?_,λt a_=>(ai t a_).mono iS,q⟩
  refine d6 (Z.mem t a_) λfI gc=>?_
  exact⟨qi fI λo=>bz _ o (.inl (.tail _ (.tail _ (.tail _ (YA (f:=λt:hn=>t.1) a_))))),listAt gc λo=>bz _ o (.inr (YA (f:=λt:hn=>t.2.1) a_))⟩
 next:=λpr s Q E d ds W cH aG aA=>by
  obtain⟨k,dp,aL,aw,Z,ai,q⟩:=aG
  have br:∀b,b∈z::TI::c0::bp.map (·.1)->¬aT σ pr b:=λb H q=>q.2 (cH b H)
  have aL:=abr λz=>by
   rw[acX z]at q
   exact uL q
  rw[<-aaE (abb aL),ahE,List.range'_succ,Yb]at q
  refine d6 (acT q) λaB jm=>?_
  subst aB jm
  have ct:=λt a_=>XE aL (cU.ge t a_)
  refine G6 (i:=bp.length) (xs:=bp.map λt=>t.2.2.1.getD k .none) (λq=>by obtain⟨a,aY,_⟩:=cU.at_;rw[q]at aY;exact mW aY) bK D Z aw nS (XT _) (XJ _) (λn t _ e=>?_) (.inl ⟨rfl,λah R=>?_⟩)
  ·simp only[X1,e]
   show _=some (t.2.2.1.getD k .none)
   rw[XB,XI (ct t (ZV e))]
   rfl
  have bt:KB (·∈z::TI::c0::bp.map (·.1)) s {s with heap:=ah}:=⟨λb o H x=>R.bx b o (λq=>H (q▸.head _)) (λq=>H (q▸.tail _ (.tail _ (.head _)))) (λq=>H (.tail _ (.tail _ (.tail _ q)))) x,by rw[show({s with heap:=ah}:XG).heap.objs.size=_ from R.iy];exact YF _,rfl,.refl _⟩
  refine aA _ {s with heap:=ah} bt ?_ λbX cI aR=>?_
  ·exact .tuple (n:=0) R.nw (W.gs (XT _)) (Rn λt a_=>⟨(ai t a_).aJ bt br,ct t a_⟩)
  ·refine wpAny_letOwnedTupleGo_zip R.je λjl eR qU=>?_
   have k2:KB (·∈z::TI::c0::bp.map (·.1)) {s with heap:=ah} {s with heap:=jl}:=.hr qU (.head _)
   have ny:∀b o,b≠z->ah.get? b=some o->jl.get? b=some o:=λb o H x=>qU.extBut _ _ H x
   refine aR _ k2 ⟨k+1,_,aL,XJ _,.fresh eR (ny _ _ D.ne.1.symm R.lu) (ny _ _ D.ne.2.1.symm R.to) λt a_=>?_,λt a_=>((ai t a_).aJ bt br).aJ k2 br,rfl⟩
   refine bC λ_ lL=>?_
   obtain⟨j,e⟩:=ac2 a_
   refine uP (D.ne.2.2.2 j t e) λgq hU mZ gr mQ t_ rI=>?_
   refine lL ?_
   refine⟨qi (R.it t a_) λo=>ny _ o gq,listAt (Z.mem t a_).2 λo e=>ny _ o gr (R.bx _ o gr t_ (λq=>?_) e)⟩
   refine bB (XZ.mp q) λfE rm b8=>?_
   obtain⟨i,bH⟩:=ac2 rm
   exact(rI i fE bH).1 b8.symm
 done:=λpr s Q E W aG aA=>by
  obtain⟨k,dp,aL,aw,Z,ai,q⟩:=aG
  refine bB cU.at_ λa aY tZ=>?_
  have b':bp≠[]:=λq=>by rw[q]at aY;exact mW aY
  have jP:=congrArg aaO q
  rw[XJ,aa3]at jP
  obtain rfl:k=L:=Y' aL (afh jP.symm)
  refine jO (G6 (i:=i) (xs:=bp.map λt=>t.2.2.1.getD k .none) b' bK D Z aw nS (Ye (Y9.mp aY).1) (XJ _) (λn t az e=>?_) (.inr ⟨⟨a,aY,X8 (Yg tZ)⟩,λah nL hz=>aA _ ⟨λb o H x=>nL b o (λq=>H (q▸.head _)) (λq=>H (q▸.tail _ (.tail _ (.head _)))) (λq=>H (.tail _ (.tail _ (.tail _ q)))) x,hz,rfl,.refl _⟩⟩))
  rw[X1,e]
  show _=some (t.2.2.1.getD k .none)
  rw[XB,XI (cU.gt n t az e)]
  rfl
 self:=λP s Q E ds aG aA=>by
  obtain⟨k,dp,aL,aw,Z,ai,q⟩:=aG
  exact ahg Z.je aA
end
end
def rY(G:GE)(k:Nat)(sc:YI)(σ:ba)(S:List XM)(bh fU ff elt:Yy)(Γ:bD)(xs xs':List Str):List V->List V->Prop
 | [],outs=>outs=[]
 |d::ds,outs=>∃Γ₁ dg rZ p',hH G k sc σ bh d Γ Γ₁ xs/\Sub Γ Γ₁/\e0 G k sc σ S Γ₁ fU ff dg/\d3 G k sc σ fU [] elt Γ₁ xs' dg rZ/\rY G k sc σ S bh fU ff elt Γ xs xs' ds p'/\outs=rZ++p'
section
variable{fU ff:Yy}{pos:Pos}{xs':List Str}
theorem Rp{g:abK}{it acc:XF}{R:aaB->XG->Prop}
  (h0:codeAny (model G.prog G.w) A (.compLoop (.ListComp elt [g,⟨bh,iter,[],0⟩] scope pos) 1 it acc env) R s)
  (h:wpAny (model G.prog G.w) A (pyIter it) (λjQ J=>codeAny (model G.prog G.w) A (.compLoop (.ListComp elt [g,⟨bh,iter,[],0⟩] scope pos) 1 jQ acc env) R J) (notedBy (model G.prog G.w) A env λx J=>R (.error x) J) s) :
  codeAny (model G.prog G.w) A (.compStart (.ListComp elt [g,⟨bh,iter,[],0⟩] scope pos) 1 it acc env) R s:=by
 refine ZA ?_
 show wpAny _ _ ((compStart (.ListComp elt [g,⟨bh,iter,[],0⟩] scope pos) 1 it acc env).onRaise (λx=>do noteFrame x env;standAt theWindowsPlace)) _ _ s
 refine wpAny_notedAt ?_
 refine XA (acW (wpAny_ite ?_))
 split
 ·first
   |exact XA (XK (XK (And.intro rfl h0)))
   |exact XK (And.intro rfl h0)
 ·first
   |exact XA (aaw (XA (Yl (XA (Zi h (λjQ J ah=>XK (And.intro rfl ah)) λ_ _ x=>x)))))
   | (refine XA (aaw ?_);show wpAny _ _ (standAt iter.pos >>= _) _ _ s;exact XA (Yl (XA (Zi h (λjQ J ah=>XK (And.intro rfl ah)) λ_ _ x=>x))))
theorem Rq{D aa:XM}{bY:List XM}{St:(XM->Prop)->Zu->List V->Prop}{R:aaB->XG->Prop}
  (aW:cs A k) (jT:cT G sc env) (cx:g9 G A σ bh wr bY aa St) (X:Apart env D wr bY pr) (c1:∀env x,YM ff env x=pure x) :
  ∀(ds outs items:List V) (s:XG),rY G k sc σ S bh fU ff elt Γ xs xs' ds outs->a4 G σ pr s->bg σ pr s.heap env Γ->Acc (aT σ pr) s.heap D items->St (aT σ pr) s.heap ds->(∀b∈bY,b<s.heap.objs.size)->items.length+outs.length<=YD->
   (∀J,KB (jS env (xs++xs') D wr) s J->bg σ pr J.heap env Γ->Acc (aT σ pr) J.heap D (items++outs)->R (.ok .next) J)->
   codeAny (model G.prog G.w) A (.compLoop (.ListComp elt [⟨bh,iter,[],0⟩,⟨fU,ff,[],0⟩] scope pos) 0 (.ref aa) (.ref D) env) R s:=by
 intro ds
 have ef:∀(j:Nat) (i a:XF),A.under (.compLoop (.ListComp elt [⟨bh,iter,[],0⟩,⟨fU,ff,[],0⟩] scope pos) j i a env)=A:=λj i a=>aay rfl
 have dy:∀b,b∈wr->¬aT σ pr b:=λb H q=>q.2 (X.gN b H)
 induction ds with
 |nil=>
  intro outs items s br W F a st r0 hsz h
  subst br
  refine ZA ?_
  rw[ef]
  show wpAny _ _ ((compTurn (.ListComp elt [⟨bh,iter,[],0⟩,⟨fU,ff,[],0⟩] scope pos) 0 (.ref aa) (.ref D) env).onRaise λx=>do noteFrame x env;theTreesLotGoes x) _ _ s
  rw[Dl]
  refine acv ?_
  refine XA (Yl (XA (cx.done pr s _ _ W st λJ bN=>XK ?_)))
  exact h J (bN.mono λb q=>.inr (.inr q)) (F.aJ bN dy λb H q=>X.jn b q H) (by simpa using a.aJ bN dy X.jR)
 |cons d ds ih=>
  intro outs items s br W F a st r0 hsz h
  refine bC λ_ a'=>?_
  obtain⟨Γ₁,dg,rZ,p',lF,hI,es,Rr,Rt,rfl⟩:=br
  refine a' ?_
  refine ZA ?_
  rw[ef]
  show wpAny _ _ ((compTurn (.ListComp elt [⟨bh,iter,[],0⟩,⟨fU,ff,[],0⟩] scope pos) 0 (.ref aa) (.ref D) env).onRaise λx=>do noteFrame x env;theTreesLotGoes x) _ _ s
  rw[Dl]
  refine acv ?_
  refine XA (Yl (XA (cx.next pr s _ _ d ds W X.gN st λv aj ax a0 go=>?_)))
  dsimp only
  refine XA (go _ _ λao aM fO=>?_)
  have g_:=ax.trans aM
  have bo:=W.aJ g_ X.gN
  have bQ:=F.aJ g_ dy λb H q=>X.jn b q H
  have pt:=a.aJ g_ dy X.jR
  refine XA (lF A env pr ao v _ _ aW jT bo bQ (a0.aJ aM dy) λbI cu fx=>?_)
  have eH:=bo.aJ cu λb H=>bQ.c' b H.b0
  have pv:=cx.mono _ _ _ _ _ fO (λb o p e=>⟨p,cu.keep b o (λq=>bQ.hW b q.b0 p) e⟩) λb o H e=>cu.keep b o (λq=>H.elim (X.jn b q.b0) (X.ps b q.b0)) e
  have pw:=pt.aJ cu (λb H=>bQ.hW b H.b0) λq=>X.lE q.b0
  refine XA (pq.nil A env pr bI _ _ aW jT eH fx λbM dz=>?_)
  have e9:=eH.keep dz
  have eZ:=fx.keep dz
  refine XA (es A env pr bM _ _ aW jT e9 eZ λx ez dA fr=>?_)
  refine XA (Yl ?_)
  simp only[c1,pure_bind]
  refine XA (X7 (fr _ _ λjQ wq Ru Xl np hc oS G_ cg wt G' df=>?_))
  have wu:bb bM hc:=dA.trans oS
  have hv:=e9.d' wu (λb H=>(cg b H).1) λb H=>(cg b H).2
  have kZ:=eZ.d' wu λb H=>(cg b H).1
  have wx:bb bI hc:=dz.trans wu
  have Rv:Acc (aT σ (np++pr)) hc.heap D items:=by
   refine bC λ_ fq=>?_
   obtain⟨vs,⟨n,p⟩,r⟩:=pw
   refine fq ?_
   exact⟨vs,⟨n,wx.get p⟩,(r.keep dz).d' wu λb H=>(cg b H).1⟩
  have Rw:D<bM.heap.objs.size:=e9.lt D (.inr X.hZ)
  have c':∀b,b0 env b->b∈pr:=F.c'
  have Rx:∀b,b0 env b->b<bM.heap.objs.size:=λb H=>e9.lt b (.inr (c' b H))
  have j4:Apart env D wq Ru (np++pr):={
   hZ:=XQ _ X.hZ
   lE:=X.lE
   jR:=λq=>XN _ (XE Rw (cg _ (wt _ q)).1)
   qW:=λq=>(G' _ q).1.1 X.hZ
   gN:=λb H=>XS _ (wt b H)
   jn:=λb H q=>XN _ (XE (Rx b H) (cg _ (wt _ q)).1)
   ps:=λb H q=>(G' _ q).1.1 (c' b H)}
  have Ry:s.heap.objs.size<=bM.heap.objs.size:=XC g_.size (XC cu.size dz.size)
  have Rz:KB (jS env (xs++xs') D wr) s hc:=((g_.mono λb q=>.inr (.inr q)).trans (cu.mono λb q=>.inl (q.mono λx ag=>XS _ ag))).trans (wx.mono λ_ q=>q.elim)
  rw[Yv]at hsz
  have Ha:codeAny (model G.prog G.w) A (.compLoop (.ListComp elt [⟨bh,iter,[],0⟩,⟨fU,ff,[],0⟩] scope pos) 1 (.ref jQ) (.ref D) env) (λr J=>match r with | .ok f=>wpAny (model G.prog G.w) A (again (.compLoop (.ListComp elt [⟨bh,iter,[],0⟩,⟨fU,ff,[],0⟩] scope pos) 0 (.ref aa) (.ref D) env)) (λfin J=>match fin with | .done f=>R (.ok f) J | .again cq=>cq.quiet=true/\codeAny (model G.prog G.w) A cq R J) (notedBy (model G.prog G.w) A env λe J=>R (.error e) J) J | .error e=>cameBackBy (model G.prog G.w) A env (notedBy (model G.prog G.w) A env λe J=>R (.error e) J) e J) hc:=by
   refine ya (k:=k) (sc:=sc) (xs:=xs') (cd:=.compLoop (.ListComp elt [⟨bh,iter,[],0⟩,⟨fU,ff,[],0⟩] scope pos) 1 (.ref jQ) (.ref D) env) rfl (by show((compTurn (.ListComp elt [⟨bh,iter,[],0⟩,⟨fU,ff,[],0⟩] scope pos) 1 (.ref jQ) (.ref D) env).onRaise λx=>do noteFrame x env;theTreesLotGoes x)=_;rw[Kv]) (ef _ _ _) aW jT (G_ σ) j4 dg rZ items hc Rr hv kZ Rv df (by lia) λr1 wy RA RB=>?_
   refine XK ⟨rfl,?_⟩
   have Hb:∀b,b∈wq->bM.heap.objs.size<=b:=λb H=>(cg b (wt b H)).1
   have Hc:∀b,jS env xs' D wq b->b∈np++pr:=j4.Kx kZ
   have RC:a4 G σ pr r1:=(hv.aJ wy Hc).ei
   have RD:bg σ pr r1.heap env Γ:=(RA.ei F.fL λx c hm=>(F.d1 x c hm).1).sub hI
   have RE:Acc (aT σ pr) r1.heap D (items++rZ):=by
    obtain⟨vs,p,r⟩:=RB
    exact⟨vs,p,r.ei⟩
   have Hd:KB (jS env (xs++xs') D wr) s r1:=by
    refine(b4.trans (om:=jS env xs' D wq) (.of (σ:=σ) Rz) (.of wy) λb H=>?_).aJ
    rcases H with H|H|H
    ·exact .inl (.inl (H.mono λx ag=>XQ _ ag))
    ·exact .inl (.inr (.inl H))
    ·exact .inr (XC Ry (Hb b H))
   have RF:St (aT σ pr) r1.heap ds:=cx.mono _ _ _ _ _ pv (λb o p e=>⟨p,wy.keep b o (λq=>?_) (wx.get e)⟩) λb o H e=>wy.keep b o (λq=>?_) (wx.get e)
   ·refine ih p' (items++rZ) r1 Rt RC RD RE RF (λb H=>XE (r0 b H) Hd.size) (by rw[Yv];lia) λRG RH RI RJ=>h RG (Hd.trans RH) RI (by rw[<-YK];exact RJ)
   ·rcases XY.mp (Hc b q)with H|H
    ·exact XN _ (XE (XX (dz.get e)) (cg b H).1)
    ·exact p.2 H
   ·rcases q with q|q|q
    ·exact H.elim (X.jn b q.b0) (X.ps b q.b0)
    ·exact H.elim (λH=>X.jR (q▸H)) λH=>X.qW (q▸H)
    ·exact XN _ (XE (XX (dz.get e)) (Hb b q))
  exact XA (wpAny_runOwn (h:=none) (Rp Ha ((G_ σ).self _ _ _ _ _ df Ha)))
theorem aN.RK(O:e0 G k sc σ S Γ bh iter ds)(ae:rY G k (fP scope sc) σ S bh fU ff elt (hs scope Γ) xs xs' ds outs)(hsz:outs.length<=YD)(au:autoParam (mq sc scope (xs++xs')=true) aD)
  (aG:autoParam (∀env x,YM iter env x=pure x) aI) (c1:autoParam (∀env x,YM ff env x=pure x) aI):aN G k sc σ Γ (.ListComp elt [⟨bh,iter,[],0⟩,⟨fU,ff,[],0⟩] scope pos) (.list outs):=by
 intro A env pr s Q E R aa W F h
 have c:=gO.of au
 refine Zw (use:=none) (cl:=dC env.cells scope.names) rfl (aG env) (c.kS aa F) c.k c.loc ?_
 refine O A env pr s _ _ R aa W F λx aj ax fr=>fr _ _ λit wr bY St np ao aM cx cg cH dX st=>?_
 refine Dw (f0:=λacc C=>compPost (model G.prog G.w) A E none Q acc C) c aa W F (ax.trans aM) (cx _) cg cH (λb H=>(dX b H).1) st (λcenv D pr s jU pz W F acc st X r0 h=>Rq R pz (cx _) X c1 ds outs [] s ae W F acc st r0 (by simpa using hsz) h) ?_
 intro D C J ks br eY fV jr aw
 refine cS br λm hm=>?_
 refine⟨m,hm,λah c1=>?_⟩
 refine g8 aw λn vs a3 r=>?_
 have d0:KB (λb=>b=C) J {J with heap:=ah}:=.hr c1 rfl
 refine h _ _ ⟨λb o _ e=>d0.keep b o (λq=>XN _ (XE (XX e) (q▸fV))) (ks.get e),XC ks.size d0.size,ks.os,ks.gens⟩ (.list (n:=n) (vs:=vs) (d0.keep D _ (λq=>jr q.symm) a3) (W.gs eY) ?_)
 exact(r.aJ d0 λb H q=>q.2 (H▸.head _)).mono λb o q e=>⟨⟨q.1,λH=>q.2 (.tail _ (.tail _ H))⟩,e⟩
end
section
open PySem.F
noncomputable abbrev wz:=(Str×Nat×Pos)×Yy
noncomputable def He(env:Env)(pos:Pos)(p:wz):Sem XF×Sem XF:=(eval (.Constant (.str p.1.1) p.1.2.1 p.1.2.2) env,do let x <-eval p.2 env;standAt pos;pure x)
def r2(G:GE)(k:Nat)(sc:YI)(T:List XM)(pos:Pos)(σ:ba)(Γ:bD)(av:List wz)(P:ba->List V->Prop):Prop:=
 ∀(A:Yz) (env:Env) (pr:List XM) (s:XG) (Q:List (XF×XF)->XG->Prop) (E:XF->XG->Prop),cs A k->cT G sc env->a4 G σ pr s->bg σ pr s.heap env Γ->
  (∀Y ds vs J,P Y ds->b4 (·∈T) σ Y s J->a4 G Y pr J->bg Y pr J.heap env Γ->allStrKeys vs=true->(strPairs vs).map (·.1)=av.map (·.1.1)->a5 (aT Y pr) J.heap ((strPairs vs).map (·.2)) ds->Q vs J)->wpAny (model G.prog G.w) A (evalPairs (av.map (He env pos))) Q E s
section
variable{pos:Pos}{m:cf}
theorem r2.nil(h:RL σ []):r2 G k sc T pos σ Γ [] RL:=by
 intro A env pr s Q E aW aa W F aA
 exact evalPairs_nil (aA σ [] [] s h (.of (.refl _ _)) W F rfl rfl .nil)
theorem r2.cons{bt:Str×Nat×Pos}{av:List wz}(aU:∀b∈T,b∈σ.at)(O:cc G k sc T σ Γ e gP)(ae:∀a9 d,gP a9 d->r2 G k sc T pos a9 Γ av (λY ds=>RL Y (d::ds))):r2 G k sc T pos σ Γ ((bt,e)::av) RL:=by
 intro A env pr s Q E aW aa W F aA
 refine evalPairs_cons (aN.dx A env pr s _ _ aW aa W F λv cY AN RM=>?_)
 refine cS RM.str_inv λt aB=>?_
 subst aB
 refine XA (O A env pr cY _ _ aW aa (W.keep AN) (F.keep AN) (λa9 d v aj p gx cA cX a0=>XA (Yl (XK ?_))))
 have jZ:=λb H=>gx.old b (aU b H)
 have RN:=(b4.dF AN).trans' gx
 refine ae a9 d p A env pr aj _ _ aW aa cA cX (λY ds vs J dK df bc b7 a1 cw bV=>?_)
 exact aA Y _ _ J dK (RN.trans' df) bc b7 a1 (congrArg (bt.1::·) cw) (.cons (a0.stp df λb H q=>q.1 (jZ b H)) bV)
theorem AO(h:aT σ (a::pr) b):aT ((a,m)::σ) pr b:=⟨λq=>(XH.mp q).elim (λq=>h.2 (q▸.head _)) h.1,λq=>h.2 (.tail _ q)⟩
theorem a4.take(W:a4 G σ (a::pr) s)(aJ:KB (λb=>b=a) s J)(aY:a∉pr)(hm:m.on (aT ((a,m)::σ) pr) J.heap G a):a4 G ((a,m)::σ) pr J where
 ok:=W.ok
 base:=λb o e=>aJ.keep b o (λq=>by have:=W.above b (.inr (q▸.head _));rw[this]at e;cases e) (W.base b o e)
 store:=λp ar=>by
  rcases XH.mp ar with rfl|ar
  ·exact hm
  ·exact(W.store p ar).mono (λb o q e=>⟨AO q,aJ.keep b o (λz=>q.2 (z▸.head _)) e⟩) λo e=>aJ.keep _ o (λz=>W.apart p.1 (dr ar) (z▸.head _)) e
 nodup:=Yn.mpr ⟨λq=>W.apart a q (.head _),W.nodup⟩
 apart:=λb H q=>by
  rcases XH.mp H with rfl|H
  ·exact aY q
  ·exact W.apart b H (.tail _ q)
 lt:=λb H=>by
  refine XE (W.lt b ?_) aJ.size
  rcases H with H|H
  ·rcases XH.mp H with rfl|H
   ·exact .inr (.head _)
   ·exact .inl H
  ·exact .inr (.tail _ H)
 above:=λb H=>by
  rcases H with H|H
  ·rcases XH.mp H with rfl|H
   ·exact W.above _ (.inr (.head _))
   ·exact W.above b (.inl H)
  ·exact W.above b (.inr (.tail _ H))
theorem bg.take(F:bg σ (a::pr) s.heap env Γ)(aJ:KB (λb=>b=a) s J)(aw:env.locals∈pr)(au:∀x c,(x,c)∈env.cells->c∈pr)(aY:a∉pr):bg ((a,m)::σ) pr J.heap env Γ where
 ns:=by obtain⟨m,n⟩:=F.ns;exact⟨m,n.at' λo e=>aJ.keep _ o (λq=>aY (q▸aw)) e⟩
 vars:=λx d e=>(F.vars x d e).mono (λb o p e=>⟨AO p,aJ.keep b o (λq=>p.2 (q▸.head _)) e⟩) (λo e=>aJ.keep _ o (λq=>aY (q▸aw)) e) λc o h e=>aJ.keep c o (λq=>aY (q▸au x c (mem_of_lookup h))) e
 fL:=aw
 d1:=λx c hm=>by obtain⟨_,b,v,o,aP,hd⟩:=F.d1 x c hm;exact⟨au x c hm,b,v,o,aJ.keep c o (λq=>aY (q▸au x c hm)) aP,hd⟩
 apart:=F.apart
 fT:=F.fT
theorem cc.newD{keys:List (Option Yy)}{Hf:List Yy}{av:List wz}(aU:∀b∈T,b∈σ.at)(h:r2 G k sc T pos σ Γ av RL)(aw:∀Y ds,RL Y ds->ds.length=av.length)
  (dT:∀a9 ds a,RL a9 ds->a∉a9.at->R ((a,.dict ((av.map (·.1.1)).zip ds))::a9) (.raw (.ref a)))
  (RO:∀env,(evalEachOpt keys env).zip ((evalEach Hf env).map λv=>do let x <-v;standAt pos;pure x)=(av.map (He env pos)).map λp=>(some p.1,p.2)) (h0:av≠[]) (b2:av.length<=15) (eG:(av.map (·.1.1)).Nodup):cc G k sc T σ Γ (.Dict keys Hf pos) R:=by
 intro A env pr s Q E aW aa W F aA
 refine wpAny_Dict_pairs (knd:=strKind G.prog G.w) (RO env) (λq=>h0 (afA.mp q)) (by simpa using b2) ?_
 have bx:bb s {s with heap:=s.heap.push {cls:=.type "dict",data:=.dict #[]}}:=.push _ s.toks
 generalize wA:({s with heap:=s.heap.push {cls:=.type "dict",data:=.dict #[]}}:XG)=cY at bx
 have Hg:=W.uU bx (XT _) (by rw[(show cY.heap.objs.size=s.heap.objs.size+1 from by rw[<-wA];exact Yk ..)];exact Yt _)
 have RP:=F.d' bx λb H=>by rw[XD.mp H];exact XT _
 have Hh:=λq=>XN _ (W.lt _ (.inr q))
 refine h A env (s.heap.objs.size::pr) cY _ _ aW aa Hg RP (λa9 ds vs aj p gx cA cX a1 cw a0=>?_)
 have a3:=(show cY.heap.DictOf (strKind G.prog G.w) s.heap.objs.size []from by rw[<-wA];exact ah4 s.heap).at λo e=>gx.aJ.keep _ o (λq=>Hg.apart _ (aU _ q) (.head _)) e
 refine display_done_str a1 (by rw[cw];exact eG) a3 λah hd aG=>?_
 have aM:KB (λb=>b=s.heap.objs.size) aj {aj with heap:=ah,toks:=aj.toks+vs.length}:=.hr aG rfl
 have hz:(av.map (·.1.1)).length=ds.length:=by rw[XJ];exact(aw _ _ p).symm
 have st:b4 (·∈T) σ ((s.heap.objs.size,cf.dict ((av.map (·.1.1)).zip ds))::a9) s {aj with heap:=ah,toks:=aj.toks+vs.length}:=by
  have s1:=(b4.dF bx).trans' gx
  refine⟨(s1.trans (.of (σ:=a9) aM) λb H=>.inr (by rw[H];exact XT _)).aJ,λb H=>?_,λb H=>.tail _ (s1.old b H)⟩
  rcases XH.mp H with rfl|H
  ·exact .inr (XT _)
  ·exact s1.new b H
 refine aA _ _ _ _ (dT _ _ _ p λq=>cA.apart _ q (.head _)) st (cA.take aM Hh ⟨strPairs vs,hd,?_,?_⟩) (cX.take aM F.fL (λx c hm=>(F.d1 x c hm).1) Hh) (.raw _)
 ·rw[List.map_fst_zip (by lia),cw]
 ·rw[age (by lia)]
  exact a0.mono λb o q e=>⟨AO q,aM.keep b o (λz=>q.2 (z▸.head _)) e⟩
end
end
section
open PySem.F
theorem RQ(a b c:XF):checkTypeCall "zip" ⟨[a,b,c],[]⟩=pure ():=by kernel_rfl
theorem RR(a b c:XF):checkBuiltinCall "zip.__new__" ⟨[.type "zip",a,b,c],[]⟩=pure ():=by kernel_rfl
theorem RS(a b c d:XF):argsOk "object.__init__" ⟨[a,b,c,d],[]⟩:=by
 unfold argsOk;rw[signature?_of (id:="object.__init__") (n:=['_','_','t','i','n','i','_','_']) (o:=['t','c','e','j','b','o']) aQ owner_object];kernel_rfl
noncomputable abbrev wB(h:Zu)(c9:XM):Zu:=h.push {cls:=.type "list_iterator",data:=.fields #[.ref c9,.int 0 0]}
abbrev wC(h:Zu)(c9 dQ:XM):Zu:=(wB h c9).push {cls:=.type "list_iterator",data:=.fields #[.ref dQ,.int 0 0]}
abbrev wD(h:Zu)(c9 dQ fe:XM):Zu:=(wC h c9 dQ).push {cls:=.type "list_iterator",data:=.fields #[.ref fe,.int 0 0]}
abbrev wF(h:Zu)(c9 dQ fe:XM):Zu:=(wD h c9 dQ fe).push {cls:=.type "tuple",data:=.seq #[.ref h.objs.size,.ref (wB h c9).objs.size,.ref (wC h c9 dQ).objs.size]}
abbrev wG(h:Zu)(c9 dQ fe:XM):Zu:=(wF h c9 dQ fe).push {cls:=.type "tuple",data:=.seq #[.none,.none,.none]}
abbrev qj(h:Zu)(c9 dQ fe:XM):Zu:=(wG h c9 dQ fe).push {cls:=.type "zip",data:=.fields #[.none,.bool false,.bool false,.ref (wD h c9 dQ fe).objs.size,.ref (wF h c9 dQ fe).objs.size]}
theorem RT(c9 dQ fe:XM)(xs ys zs:Array XF):
  Meets (Y4.«zip.__new__» ⟨[.type "zip",.ref c9,.ref dQ,.ref fe],[]⟩) (λ_ R s=>s.heap.IsList c9 xs/\s.heap.IsList dQ ys/\s.heap.IsList fe zs/\
   R (.ok (.ret (.ref (wG s.heap c9 dQ fe).objs.size))) {s with heap:=qj s.heap c9 dQ fe}):=
 .of_wp λprog w A R s h=>by
  obtain⟨ar,g,d,cD,os⟩:=s;obtain⟨mB,AP,AQ,h⟩:=h
  have hI:=sub_zip
  have RU:=mB
  wp_walk using aaQ RU,aaQ (adf AP _),aaQ (adf (adf AQ _) _)
  exact⟨_,rfl,h⟩
theorem RV{c9 dQ fe:XM}{xs ys zs:Array XF}{Q:XF->XG->Prop}(mB:s.heap.IsList c9 xs)(AP:s.heap.IsList dQ ys)(AQ:s.heap.IsList fe zs)
  (h:∀ah,IsZip ah (s.heap.objs.size+5) (s.heap.objs.size+3) (s.heap.objs.size+4) .none->ah.get? (s.heap.objs.size+3)=some (gK [.ref s.heap.objs.size,.ref (s.heap.objs.size+1),.ref (s.heap.objs.size+2)] 0)->
   ah.get? (s.heap.objs.size+4)=some (gK [.none,.none,.none] 0)->ah.IsListIter s.heap.objs.size c9 0->ah.IsListIter (s.heap.objs.size+1) dQ 0->ah.IsListIter (s.heap.objs.size+2) fe 0->ah.objs.size=s.heap.objs.size+6->
   (∀c o,s.heap.get? c=some o->ah.get? c=some o)->Q (.ref (s.heap.objs.size+5)) {s with heap:=ah}) :
  wpAny (model prog w) A (call (.type "zip") [.ref c9,.ref dQ,.ref fe]) Q E s:=by
 refine callType_new F.called_zip aH (RQ _ _ _) (RR _ _ _) (λobj=>RS obj _ _ _) F.entry_zip_new
  (RT c9 dQ fe xs ys zs) ⟨mB,AP,AQ,?_⟩
 have iV:(wB s.heap c9).objs.size=s.heap.objs.size+1:=Yk ..
 have iW:(wC s.heap c9 dQ).objs.size=s.heap.objs.size+2:=by rw[Yk,iV]
 have k':(wD s.heap c9 dQ fe).objs.size=s.heap.objs.size+3:=by rw[Yk,iW]
 have AR:(wF s.heap c9 dQ fe).objs.size=s.heap.objs.size+4:=by rw[Yk,k']
 have AS:(wG s.heap c9 dQ fe).objs.size=s.heap.objs.size+5:=by rw[Yk,AR]
 have p:∀{h:Zu} {c:XM} {o q:Obj},h.get? c=some o->(h.push q).get? c=some o:=λe=>X6 _ e
 have p1:(qj s.heap c9 dQ fe).get? (wG s.heap c9 dQ fe).objs.size=some _:=XU _ rfl
 have jz:(qj s.heap c9 dQ fe).get? (wF s.heap c9 dQ fe).objs.size=some _:=p (XU _ rfl)
 have kC:(qj s.heap c9 dQ fe).get? (wD s.heap c9 dQ fe).objs.size=some _:=p (p (XU _ rfl))
 have eK:(qj s.heap c9 dQ fe).get? (wC s.heap c9 dQ).objs.size=some _:=p (p (p (XU _ rfl)))
 have du:(qj s.heap c9 dQ fe).get? (wB s.heap c9).objs.size=some _:=p (p (p (p (XU _ rfl))))
 have c8:(qj s.heap c9 dQ fe).get? s.heap.objs.size=some _:=p (p (p (p (p (XU _ rfl)))))
 show _/\_
 rw[k',AR,AS]at p1
 rw[AR]at jz
 rw[iV,iW,k']at kC
 rw[iW]at eK
 rw[iV]at du
 rw[AS]
 exact⟨⟨_,p1,rfl⟩,h _ p1 kC jz ⟨_,c8,rfl,rfl⟩ ⟨_,du,rfl,rfl⟩ ⟨_,eK,rfl,rfl⟩ (by rw[Yk,AS]) λc o x=>p (p (p (p (p (p x)))))⟩
structure RW(bp:List hn)(h ah:Zu)(z TI c0:XM)(dp:List XF):Prop where
 je:IsZip ah z TI c0 .none
 lu:ah.get? TI=some (gK (bp.map λt=>.ref t.1) 0)
 to:ah.get? c0=some (gK dp 0)
 it:∀t∈bp,ah.IsListIter t.1 t.2.1 0
 c2:(z::TI::c0::bp.map (·.1)).Nodup
 nw:∀b∈z::TI::c0::bp.map (·.1),h.objs.size<=b/\b<ah.objs.size
 bx:∀c o,h.get? c=some o->ah.get? c=some o
section
variable{pos:Pos}
def Hi(σ:ba)(pr S:List XM)(s:XG)(t:hn):Prop:=s.heap.IsList t.2.1 t.2.2.1.toArray/\a5 (aT σ pr) s.heap t.2.2.1 t.2.2.2/\t.2.1∉pr/\(t.2.1∈S\/t.2.1∉σ.at)/\t.2.1<s.heap.objs.size
theorem e1.z{v:XF}(i:XM)(x:e1 σ S d ds)(W:a4 G σ pr s)(r:bu (aT σ pr) s.heap v d):∃l vs,v=.ref l/\Hi σ pr S s (i,l,vs,ds)/\vs.length=ds.length:=by
 refine o' (x.is W r) λl vs e js ko pl bE dE _=>?_
 exact⟨l,vs,e,⟨js,ko,pl,bE,dE⟩,ko.length⟩
theorem Hj{i:Nat}{z:XM}{dp:List XF}{cY:XG}{ew:List Yy}{er:Nat}{bX cI:XF->XG->Prop}(N:RW bp ao.heap ah z TI c0 dp)(aw:dp.length=bp.length)(nS:bp.length<=100)(cU:∀t∈bp,Hi σ pr S ao t)(uS:AM bp L i)
  (bK:A.handled=none) (hz:cY.heap.objs.size<=ao.heap.objs.size)
  (aA:∀aa wr bY St np bI,bb {ao with heap:=ah} bI->(∀Y,g9 G A Y (.Tuple ew er p) wr bY aa St)->(∀b∈np,cY.heap.objs.size<=b/\b<bI.heap.objs.size)->(∀b∈wr,b∈np)->(∀b∈bY,(b∉pr/\b∉np/\b<bI.heap.objs.size)/\(b∈S\/b∉σ.at))->
   St (aT σ (np++pr)) bI.heap ((Zr 0 L).map (wo bp))->bX (.ref aa) bI):wpAny (model G.prog G.w) A (pyIter (.ref z)) bX cI {ao with heap:=ah}:=by
 have gR:=XC (N.nw z (.head _)).1 (Ye (N.nw z (.head _)).2)
 refine ahg N.je (aA z _ _ (G8 bp L z TI c0) (z::TI::c0::bp.map (·.1)) _ (.refl _ _) (λ_=>Ro ⟨N.c2,λt a_ q=>ZS.mpr (N.nw _ q).1 (cU t a_).2.2.2.2⟩ uS nS bK) (λb H=>⟨XC hz (N.nw b H).1,(N.nw b H).2⟩) (λb H=>H) (λb H=>?_)
  ⟨0,dp,Yd _,aw,.fresh N.je N.lu N.to λt a_=>⟨N.it t a_,listAt (cU t a_).1 (N.bx _)⟩,λt a_=>(cU t a_).2.1.d' (.heap N.bx gR) λb H=>(N.nw b H).1,rfl⟩)
 refine bC λ_ a'=>?_
 refine bB (XZ.mp H) λt a_ aB=>?_
 subst aB
 obtain⟨_,_,a2,b_,cn⟩:=cU t a_
 refine a' ?_
 exact⟨⟨a2,λq=>ZS.mpr (N.nw _ q).1 cn,XE cn gR⟩,b_⟩
theorem RX{i l hl gf:XM}{vs nU:List XF}(az:dg.length<=ds.length):(Zr 0 dg.length).map (wo [(i,l,vs,ds),(hl,gf,nU,dg)])=(ds.zip dg).map wk:=by
 refine Y3 ?_ λj O ae=>?_
 ·simp only[XJ,aa3,XJ,abB,aaV az]
 ·rw[XJ,aa3]at O
  have h0:=XE O az
  simp only[Zy,Zy,afB,adT,adb,Yq]
  show V.tuple [ds.getD j .none,dg.getD j .none]=V.tuple [ds[j],dg[j]]
  rw[XB,XB,XI O,XI h0]
  rfl
theorem RY{a b:hn}(h:b.2.2.1.length<=a.2.2.1.length):∃i,AM [a,b] b.2.2.1.length i:=by
 by_cases e:a.2.2.1.length=b.2.2.1.length
 ·exact⟨0,lS h (XT _),⟨a,rfl,e⟩,λn t az=>absurd az (Y_ n)⟩
 ·refine⟨1,lS h (XT _),⟨b,rfl,rfl⟩,λn t az a_=>?_⟩
  obtain rfl:=aev.mp az
  obtain rfl:=YW a_
  exact ab0 h λq=>e q.symm
theorem Hk{os:List Nat}(O:os.Nodup)(ae:∀o∈os,o<m):(os.map (n+·)).Nodup/\∀b∈os.map (n+·),n<=b/\b<n+m:=
 ⟨aho _ (λ_ _ h q=>h (ZN q)) O,λb H=>by
  refine bB (XZ.mp H) λo aP aB=>?_
  subst aB
  exact⟨X4 _ _,abJ (ae o aP) _⟩⟩
theorem e0.zip{iU:List Yy}{er:Nat}{f:Yy}(hf:aN G k sc σ Γ f (.raw (.type "zip")))(O:aN G k sc σ Γ e d)(ae:aN G k sc σ Γ b8 dM)(cU:e1 σ S d ds)(nc:e1 σ S dM dg)(az:dg.length<=ds.length)
  (he:autoParam (dU e [b8]) aI) (gY:autoParam (dU b8 []) aI)
  (aR:autoParam (ik f [e,b8] pos) aI):e0 G k sc σ S Γ (.Tuple iU er p) (.Call f [e,b8] [] pos) ((ds.zip dg).map wk):=by
 intro A env pr s Q E R aa W F h
 rw[aR]
 refine XA (hf A env pr s _ _ R aa W F λv aj ax a0=>?_)
 have cM:=a0.dB
 subst cM
 refine iY (.type _) R aa (W.keep ax) (F.keep ax) (.cons O (.cons ae .nil gY) he) (he env) (by rw[gY env];rfl) λvs ao aM bG=>?_
 refine gI bG.inv2 λ_ _ aB a ip=>?_
 subst aB
 have bo:=(W.keep ax).keep aM
 have hz:=(ax.trans aM).size
 refine bC λ_ a'=>?_
 refine gI (cU.z ao.heap.objs.size bo a) λl vs aB t' iV=>?_
 subst aB
 obtain⟨gf,nU,rfl,ua,iW⟩:=nc.z (ao.heap.objs.size+1) bo ip
 obtain⟨i,Z⟩:=RY (a:=(ao.heap.objs.size,l,vs,ds)) (b:=(ao.heap.objs.size+1,gf,nU,dg)) (iV.symm▸iW.symm▸az)
 refine a' ?_
 refine call_zip_2 t'.1 ua.1 λah fI gc oI oJ tU rP nL=>?_
 refine h _ _ ((ax.trans aM).trans (show bb ao {ao with heap:=ah}from .heap nL (rP▸X4 _ _))) λbX cI aA=>?_
 obtain⟨lC,mn⟩:=Hk (n:=ao.heap.objs.size) (m:=5) (os:=[4,2,3,0,1]) aH aH
 refine Hj (ew:=iU) (er:=er) (p:=p) (bp:=[(ao.heap.objs.size,l,vs,ds),(ao.heap.objs.size+1,gf,nU,dg)]) ⟨fI,gc,oI,lS oJ tU,lC,rP.symm▸mn,nL⟩ rfl (aai rfl) (lS t' ua) Z R.handled hz ?_
 rw[show nU.length=dg.length from iW,RX az]
 exact aA
end
end
section
open PySem.F
noncomputable abbrev ub(p:V×V×V):V:=.tuple [p.1,p.2.1,p.2.2]
section
variable{pos:Pos}
theorem RZ{i l hl gf R0 AU:XM}{vs nU AV:List XF}(eJ:ds.length=dg.length)(eX:ds.length=oT.length):(Zr 0 ds.length).map (wo [(i,l,vs,ds),(hl,gf,nU,dg),(R0,AU,AV,oT)])=(ds.zip (dg.zip oT)).map ub:=by
 refine Y3 ?_ λj O ae=>?_
 ·simp only[XJ,aa3,XJ,abB,abB,<-eJ,<-eX,ae5,ae5]
 ·rw[XJ,aa3]at O
  simp only[Zy,Zy,afB,adT,adT,adb,Yq]
  show V.tuple [ds.getD j .none,dg.getD j .none,oT.getD j .none]=V.tuple [ds[j],dg[j]'(eJ▸O),oT[j]'(eX▸O)]
  simp only[XB,XB,XB,XI O,XI (eJ▸O),XI (eX▸O)]
  rfl
theorem e0.AW{iU:List Yy}{er:Nat}{f:Yy}(hf:aN G k sc σ Γ f (.raw (.type "zip")))(O:aN G k sc σ Γ e d)(ae:aN G k sc σ Γ b8 dM)(a2:aN G k sc σ Γ l7 yw)(cU:e1 σ S d ds)(nc:e1 σ S dM dg)(R1:e1 σ S yw oT)(eJ:ds.length=dg.length)(eX:ds.length=oT.length)
  (he:autoParam (dU e [b8,l7]) aI) (gY:autoParam (dU b8 [l7]) aI) (pf:autoParam (dU l7 []) aI)
  (aR:autoParam (ik f [e,b8,l7] pos) aI):e0 G k sc σ S Γ (.Tuple iU er p) (.Call f [e,b8,l7] [] pos) ((ds.zip (dg.zip oT)).map ub):=by
 intro A env pr s Q E R aa W F h
 rw[aR]
 refine XA (hf A env pr s _ _ R aa W F λv aj ax a0=>?_)
 have cM:=a0.dB
 subst cM
 refine iY (.type _) R aa (W.keep ax) (F.keep ax) (.cons O (.cons ae (.cons a2 .nil pf) gY) he) (he env) (by rw[gY env,pf env];rfl) λvs ao aM bG=>?_
 refine fm bG.xZ λ_ _ _ aB a ip R2=>?_
 subst aB
 have bo:=(W.keep ax).keep aM
 have hz:=(ax.trans aM).size
 refine gI (cU.z ao.heap.objs.size bo a) λl vs aB t' iV=>?_
 subst aB
 refine gI (nc.z (ao.heap.objs.size+1) bo ip) λgf nU aB ua iW=>?_
 subst aB
 refine gI (R1.z (ao.heap.objs.size+2) bo R2) λAU AV aB Hl k'=>?_
 subst aB
 refine RV t'.1 ua.1 Hl.1 λah fI gc oI oJ tU rP nL Hm=>?_
 refine h _ _ ((ax.trans aM).trans (show bb ao {ao with heap:=ah}from .heap Hm (nL▸X4 _ _))) λbX cI aA=>?_
 refine d6 (Hk (n:=ao.heap.objs.size) (m:=6) (os:=[5,3,4,0,1,2]) aH aH) λlC mn=>?_
 refine Hj (ew:=iU) (er:=er) (p:=p) (bp:=[(ao.heap.objs.size,l,vs,ds),(ao.heap.objs.size+1,gf,nU,dg),(ao.heap.objs.size+2,AU,AV,oT)]) ⟨fI,gc,oI,rg oJ tU rP,lC,nL.symm▸mn,Hm⟩ rfl (aai rfl) (rg t' ua Hl) ⟨rg (Yg iV.symm) (Yg (eJ.trans iW.symm)) (Yg (eX.trans k'.symm)),⟨_,rfl,iV⟩,λn t az=>absurd az (Y_ n)⟩ R.handled hz ?_
 exact(RZ eJ eX)▸aA
end
end
theorem wH(enc:α->V)(d:α)(l:List α):kn (l.map enc)=(XO l.length).map λi=>V.tuple [ay i,enc (l.getD i d)]:=by
 delta kn
 refine Y3 (by simp) λi O ae=>?_
 simp[ay,XB,(by simpa using ae)]
structure gm(C:XM)(σ:ba)(n:Nat)(av cB:List XM)(size:Nat)(bp:Nat->List V):Prop where
 p:∀r,r<n->e4 C σ (av.getD r 0) (cB.getD r 0) [("_initial_size",ay size)] (bp r)
 ed:av.length=n
 ep:cB.length=n
 c2:(av++cB).Nodup
section
variable{av:List XM}{bp:Nat->List V}
theorem getD_at{l:List XM}{i:Nat}(h:i<l.length):l.getD i 0=l[i]:=by simp[h]
theorem gm.sep(h:gm C σ n av cB size bp):∀r q,r<n->q<n->av.getD r 0≠cB.getD q 0/\(r≠q->av.getD r 0≠av.getD q 0):=λr q ai aR=>by
 refine gH (Zd.mp h.c2) λeJ eX oO=>?_
 have dj:r<av.length:=by rw[h.ed];exact ai
 have iq:q<cB.length:=by rw[h.ep];exact aR
 have Hn:q<av.length:=by rw[h.ed];exact aR
 refine⟨λe=>?_,λb' e=>b' ?_⟩
 ·rw[getD_at dj,getD_at iq]at e
  exact oO _ (Ya dj) _ (Ya iq) e
 ·rw[getD_at dj,getD_at Hn]at e
  exact As eJ dj Hn e
theorem gm.set(h:gm C σ n av cB size bp)(ai:r<n)(l:List V):gm C (σ.set (av.getD r 0) (.list (.ref C) (some (cB.getD r 0)) l)) n av cB size (λq=>if q=r then l else bp q) where
 p:=λq aR=>by
  by_cases e:q=r
  ·subst e
   exact(if_pos rfl)▸⟨pR (h.p q ai).l,f6 (h.p q ai).i (h.sep q q ai ai).1.symm⟩
  ·exact(if_neg e)▸⟨f6 (h.p q aR).l ((h.sep q r aR ai).2 e),f6 (h.p q aR).i (h.sep r q ai aR).1.symm⟩
 ed:=h.ed
 ep:=h.ep
 c2:=h.c2
theorem gm.congr(h:gm C σ n av cB size bp)(e:∀r,r<n->bp r=R3 r):gm C σ n av cB size R3:=⟨λr ai=>e r ai▸h.p r ai,h.ed,h.ep,h.c2⟩
theorem gm.mem(h:gm C σ n av cB size bp)(ai:r<n):av.getD r 0∈av:=by
 have dj:r<av.length:=by rw[h.ed];exact ai
 rw[getD_at dj];exact Ya dj
theorem gm.at_(h:gm C σ n av cB size bp):∀b∈av++cB,b∈σ.at:=λb H=>by
 rcases XY.mp H with H|H
 ·obtain⟨i,aq,rfl⟩:=Z7 H
  have:=(h.p i (by rw[<-h.ed];exact aq)).l
  rw[getD_at aq]at this
  exact dr this
 ·obtain⟨i,aq,rfl⟩:=Z7 H
  have:=(h.p i (by rw[<-h.ep];exact aq)).i
  rw[getD_at aq]at this
  exact dr this
end
abbrev l8:YI:=(b6 22).2
abbrev e8(i:Nat):ZF:=((b6 22).1[i]?).getD (.Break default)
def AX(I:List (List Nat))(ak size:Nat):bD:=[("size",ay size),("dress",ay ak),("ways",.list (I.map dI))]
def j8(I:List (List Nat))(ak:Nat):List V:=(lq I ak).map λr=>.list (r.map gj)
def AY(I:List (List Nat))(ak size:Nat):bD:=("rows",.list (j8 I ak))::AX I ak size
def kI(I:List (List Nat))(ak size:Nat)(av:List XM):bD:=("piles",.list (av.map λa=>.raw (.ref a)))::AY I ak size
section
variable{room:Nat}
theorem qk:(j8 I ak).length=I.length:=by simp[j8,lq]
theorem AZ:j8 I ak=(XO I.length).map λi=>V.list ((dH I ak i).map gj):=by unfold j8 lq;rw[X_];rfl
theorem wA(P:cK G aK)(bP:eL I)(hd:ak<2^39):bR G (k+6) l8 T σ (AX I ak size) (e8 0) (·=.next σ (AY I ak size)):=by
 have nV:=bP.len
 refine .yG (S:=[]) (ds:=kn (I.map dI)) (xs:=["room","row"]) (.enum (.cF P rfl) (.name rfl) .list) ?_ (b1 (by rw[qk];exact dt))
 rw[wH dI [],AZ]
 refine d3.on λi aq=>⟨_,.tuple (.cons .name (.cons .name .nil)),.cons (.cons .refl rfl) rfl,?_⟩
 have eQ:=X2.mp aq
 have gC:=bP.row i
 refine .comp (S:=[]) (ds:=kn (aV (I.getD i []))) (xs:=["at","way"]) (.enum (.cF P rfl) (.name rfl) .list) ?_ (b1 (by rw[XJ,oP];exact dt))
 simp only[wH ay 0]
 delta dH
 simp only[X_]
 refine d3.on λj bq=>⟨_,.tuple (.cons .name (.cons .name .nil)),.cons (.cons .refl rfl) rfl,?_⟩
 have jB:=X2.mp bq
 have hm:(I.getD i []).getD j 0<=7:=by
  rw[XB,XI jB]
  exact bP.wg _ (by rw[(show I.getD i []=I[i]from by simp[eQ])];exact Ya eQ) _ (Ya jB)
 have aR:=(Oq P (G:=G) (k:=k+5) (σ:=σ) (a6:=(I.getD i []).getD j 0) (rooms:=I.length-1) (ak:=ak+5*i+11*j) hm (by lia))
 refine .to (.call (.globT P rfl) (P.calls (i:=19) rfl) (.cons (.name rfl) (.cons (.bin (.to (.call (.cF P rfl) (.dV _) (.cons (.name rfl) .nil) (bW.len (S:=[]) .list (by simp;exact jJ))) (dM:=ay I.length) (by simp)) (.bf (n:=1)) (.ou (m:=1) (by lia))) (.cons (.bin (.bin (.name rfl) (.bin .bf (.name rfl) (.tl aH)) .g2) (.bin .bf (.name rfl) (.tl aH)) .g2) .nil))) aR) ?_
 exact Qm _ _ _
end
noncomputable abbrev l9:=Str×Str×Str
theorem Ho{l:List α}{a d:α}(h:r<l.length):(l++[a]).getD r d=l.getD r d:=by rw[XB,XB,ab5 h]
theorem Hp{l:List α}{a d:α}(h:l.length=r):(l++[a]).getD r d=a:=by
 rw[XB,abS (Yg h),h,acE];rfl
theorem A0{l:List α}{a:α}(h:l.length=n):(l++[a]).length=n+1:=by rw[Yv,h];rfl
section
variable{av:List XM}{bp:Nat->List V}{x:XM}
theorem gm.snoc(h:gm C σ n av cB size λ_=>[])(ag:x∉σ.at)(j5:bT∉σ.at)(b':x≠bT):
  gm C ((x,.list (.ref C) (some bT) [])::(bT,.inst [("_initial_size",ay size)])::σ) (n+1) (av++[x]) (cB++[bT]) size λ_=>[] where
 p:=λr ai=>by
  by_cases e:r<n
  ·rw[Ho (h.ed.symm▸e),Ho (h.ep.symm▸e)]
   exact⟨.tail _ (.tail _ (h.p r e).l),.tail _ (.tail _ (h.p r e).i)⟩
  ·obtain rfl:r=n:=Y' (YU ai) (Yu e)
   rw[Hp h.ed,Hp h.ep]
   exact⟨.head _,.tail _ (.head _)⟩
 ed:=A0 h.ed
 ep:=A0 h.ep
 c2:=by
  refine gH (Zd.mp h.c2) λeJ eX oO=>?_
  have a1:=λb H=>h.at_ b (XS _ H)
  have cw:=λb H=>h.at_ b (XQ _ H)
  refine Zd.mpr ⟨Zd.mpr ⟨eJ,ack _ _,λa aY b H=>?_⟩,Zd.mpr ⟨eX,ack _ _,λa aY b H=>?_⟩,λa aY b H=>?_⟩
  ·rw[XD.mp H];exact λq=>ag (q▸a1 a aY)
  ·rw[XD.mp H];exact λq=>j5 (q▸cw a aY)
  ·rcases XY.mp aY with aY|aY<;>rcases XY.mp H with H|H
   ·exact oO a aY b H
   ·rw[XD.mp H];exact λq=>j5 (q▸a1 a aY)
   ·rw[XD.mp aY];exact λq=>ag (q▸cw b H)
   ·rw[XD.mp aY,XD.mp H];exact b'
end
noncomputable abbrev j9(av:List XM):List V:=av.map λa=>.raw (.ref a)
structure hR(σ Y:ba)(new:List XM):Prop where
 old:∀p∈σ,p∈Y
 new:∀a∈new,a∉σ.at
section
variable{room:Nat}{av:List XM}
theorem hR.snoc{x:XM}(h:gm C σ n av cB size λ_=>[])(M:hR fu σ (av++cB))(ag:x∉σ.at)(j5:bT∉σ.at){m gu:cf}:hR fu ((x,m)::(bT,gu)::σ) ((av++[x])++(cB++[bT])) where
 old:=λp ar=>.tail _ (.tail _ (M.old p ar))
 new:=λa aY q=>by
  have b9:a∈σ.at:=by
   refine bB (XZ.mp q) λp ar aB=>?_
   subst aB
   exact YA (f:=λp:XM×cf=>p.1) (M.old p ar)
  rcases XY.mp aY with aY|aY<;>rcases XY.mp aY with aY|aY
  ·exact M.new a (XS _ aY) q
  ·exact ag (XD.mp aY▸b9)
  ·exact M.new a (XQ _ aY) q
  ·exact j5 (XD.mp aY▸b9)
theorem R4(L:eD G aK ck K cJ c4 bA bF){h7 cb dw el:Pos}(c6:Γ.lookup ("size":Str)=some (ay size))(Ay:Γ.lookup ("row":Str)=none)(iX:sc.kind=.function)(ag:sc.names.lookup ("_Accumulator":Str)=some .globalImplicit)(Az:sc.names.lookup ("row":Str)=some .local)(oN:List V):
  ∀(m:Nat) (σ:ba) (av cB:List XM),gm (aK 16) σ m av cB size (λ_=>[])->hR fu σ (av++cB)->
   mw G (k+3) sc [] (.Name "row" h7) (.Call (.Name "_Accumulator" cb) [.Name "size" dw] [] el) Γ ["row"] (λY outs=>∃av cB,outs=j9 av/\gm (aK 16) Y (m+oN.length) av cB size (λ_=>[])/\hR fu Y (av++cB)) oN σ (j9 av):=by
 induction oN with
 |nil=>exact λm σ av cB h M=>⟨av,cB,rfl,h,M⟩
 |cons r oN ih=>
  intro m σ av cB h M
  refine⟨("row",r)::Γ,_,.name (.inl Az) iX,Sub.cons .refl Ay,cc.Pl (d:=ay size) L.dY.ac L.am L.Qp L.s0 (L.P.b _ _ rfl) (.globT L.P rfl iX ag) (.name ?_ iX),λY e q=>?_⟩
  ·rw[kU aH];exact c6
  ·refine xK q λx bT qZ j5 b' aB jm=>?_
   subst aB jm
   have:=ih (m+1) _ (av++[x]) (cB++[bT]) (h.snoc qZ j5 b') (M.snoc h qZ j5)
   rw[show m+1+oN.length=m+(r::oN).length from(Nat.add_right_comm m 1 _),show j9 (av++[x])=j9 av++[.raw (.ref x)]from Yx]at this
   exact this
theorem k6(L:eD G aK ck K cJ c4 bA bF)(bP:eL I):bR G (k+6) l8 [] σ (AY I ak size) (e8 1) (λo=>∃Y av cB,o=.next Y (kI I ak size av)/\gm (aK 16) Y I.length av cB size (λ_=>[])/\hR σ Y (av++cB)):=by
 have nV:=bP.len
 refine .LA (S:=[]) (ds:=j8 I ak) (xs:=["row"]) (RL:=λY outs=>∃av cB,outs=j9 av/\gm (aK 16) Y (0+(j8 I ak).length) av cB size (λ_=>[])/\hR σ Y (av++cB)) (.list (.name rfl) .list) (λ_ q=>cZ q) (λ_ q=>cZ q) ?_ ?_ (b1 (by rw[qk];exact dt))
 ·exact R4 (k:=k+3) L rfl rfl rfl rfl rfl (j8 I ak) 0 σ [] [] ⟨λr ai=>absurd ai (Y_ _),rfl,rfl,.nil⟩ ⟨λ_ h=>h,λ_ h=>cZ h⟩
 ·intro Y outs dG
  refine gI dG λav cB aB h M=>?_
  subst aB
  rw[Yq,qk]at h
  exact⟨Y,av,cB,rfl,h,M⟩
theorem rY.on{fU ff:Yy}{xs':List Str}{h:α->V}{items:α->List β}{aq f:α->β->V}{l:List α}:(∀a∈l,∃Γ₁,hH G k sc σ bh (h a) Γ Γ₁ xs/\Sub Γ Γ₁/\e0 G k sc σ S Γ₁ fU ff ((items a).map (aq a))/\d3 G k sc σ fU [] elt Γ₁ xs' ((items a).map (aq a)) ((items a).map (f a)))->
   rY G k sc σ S bh fU ff elt Γ xs xs' (l.map h) (l.flatMap λa=>(items a).map (f a)):=by
 induction l with
 |nil=>exact λ_=>rfl
 |cons a l ih=>
  intro q
  refine oc (q a (.head _)) λΓ₁ cV dN uc mK=>?_
  exact⟨Γ₁,_,_,_,cV,dN,uc,mK,ih λb H=>q b (.tail _ H),rfl⟩
def ql(I:List (List Nat))(ak:Nat):List (Nat×l9):=(XO I.length).flatMap λi=>(dH I ak i).reverse.map λt=>(i,t)
abbrev A1(av:List XM)(p:Nat×l9):V:=.tuple [.raw (.ref (av.getD p.1 0)),gj p.2]
def nW(l:List (Nat×l9))(r:Nat):List V:=(l.filter λp=>decide (p.1=r)).map λp=>eC (gk p.2)
theorem R5{L:List (Nat×l9)}:∀n,r<n->((XO n).flatMap λi=>if i=r then L else[])=L:=by
 intro n
 induction n with
 |zero=>intro h;exact absurd h (Y_ _)
 |succ n ih=>
  intro h
  simp only[agy,List.flatMap_append]
  by_cases e:r=n
  ·subst e
   have h0:((XO r).flatMap λi=>if i=r then L else[])=[]:=by
    rw[List.flatMap_eq_nil_iff]
    intro i aq
    rw[if_neg (by have:=X2.mp aq;exact JD)]
   rw[h0];simp
  ·rw[ih (by lia)]
   simp[(show ¬n=r from λq=>e q.symm)]
theorem R6(ai:room<I.length):nW (ql I ak) room=ib (dH I ak room) 0:=by
 delta nW ql ib
 rw[List.filter_flatMap]
 have:∀i,((dH I ak i).reverse.map λt=>(i,t)).filter (λp:Nat×l9=>decide (p.1=room))=if i=room then(dH I ak room).reverse.map λt=>(room,t)else[]:=λi=>by
  split
  ·next e=>subst e;exact adk.mpr λp ar=>by obtain⟨t,_,rfl⟩:=XZ.mp ar;simp
  ·next e=>exact List.filter_eq_nil_iff.mpr λp ar=>by obtain⟨t,_,rfl⟩:=XZ.mp ar;simpa using e
 simp only[this]
 rw[R5 _ ai,X_,abT,<-aaR]
 rfl
abbrev Hq:ZF:=((nP (e8 2))[0]?).getD (.Break default)
theorem R7{f:α->List β}(h:∀i,(f i).length<=m)(l:List α):(l.flatMap f).length<=m*l.length:=by
 induction l with
 |nil=>exact Yd _
 |cons x l ih=>
  rw[List.flatMap_cons,Yv,Yi,acG,YL]
  exact aah ih (h x)
theorem R8{ij:List (Nat×l9)}{t:l9}(q:Nat):nW (ij++[(r,t)]) q=if q=r then nW ij r++[eC (gk t)]else nW ij q:=by
 delta nW
 by_cases e:q=r
 ·obtain rfl:=e
  rw[if_pos rfl]
  simp
 ·rw[if_neg e]
  simp[(show ¬r=q from λz=>e z.symm)]
theorem R9(L:eD G aK ck K cJ c4 bA bF){cb dw el:Pos}{k1:Nat}{t:l9}{bp:List V}(h:e4 (aK 16) σ (av.getD r 0) (cB.getD r 0) [("_initial_size",ay size)] bp)(hm:av.getD r 0∈av)(b9:∀b∈av,b∈σ.at)(hsz:bp.length<=1000):
  cp G (k+6) l8 av σ (("piece",gj t)::("pile",.raw (.ref (av.getD r 0)))::kI I ak size av) [Hq] (·=.next (σ.set (av.getD r 0) (.list (.ref (aK 16)) (some (cB.getD r 0)) (bp++[eC (gk t)]))) (("piece",gj t)::("pile",.raw (.ref (av.getD r 0)))::kI I ak size av)):=by
 refine .one (.expr (cc.EG (f:=.ref (ck 1)) L.dY.ac h (L.dY.m 1 _ rfl) rfl L.dY.f1.calls (.name rfl) (.cons (.mu (.name rfl) .bf (.mr aH rfl aH)) (.cons (.mu (.name rfl) .bf (.mr aH rfl aH)) .nil)) (((MN (k:=k) L.dY h rfl (XC hsz aH)).g4 λb H=>by rw[XD.mp H];exact hm).room (YC aH k)) b9) ?_)
 rintro Y d ⟨rfl,rfl⟩
 rfl
theorem R_(L:eD G aK ck K cJ c4 bA bF){cb dw el:Pos}{k1:Nat}(r3:List (Nat×l9)):∀(ij:List (Nat×l9)) (σ:ba),(∀p∈r3,p.1<n)->ij.length+r3.length<=1000->
  gm (aK 16) σ n av cB size (nW ij)->di av a9 σ->
  hL G (k+6) l8 av (.Tuple [.Name "pile" cb,.Name "piece" dw] k1 el) [Hq] (λo=>∃Y,o=.next Y (kI I ak size av)/\gm (aK 16) Y n av cB size (nW (ij++r3))/\di av a9 Y) (r3.map (A1 av)) σ (kI I ak size av):=by
 induction r3 with
 |nil=>exact λij σ _ _ h S=>⟨σ,rfl,(Y0 ij).symm▸h,S⟩
 |cons p r3 ih=>
  intro ij σ ar b2 h S
  have ai:=ar _ (.head _)
  have hm:=h.mem ai
  refine⟨("piece",gj p.2)::("pile",.raw (.ref (av.getD p.1 0)))::kI I ak size av,_,(·=.next (σ.set (av.getD p.1 0) (.list (.ref (aK 16)) (some (cB.getD p.1 0)) (nW ij p.1++[eC (gk p.2)]))) (kI I ak size av)),.tuple (.cons .name (.cons .name .nil)),vm (.inl rfl) (.inl rfl),?_,?_⟩
  ·exact cp.end_ (R9 (cb:=cb) (dw:=dw) (el:=el) (k1:=k1) L (h.p p.1 ai) hm (λb H=>h.at_ b (XS _ H)) (XC (XC (Yg (XJ _)) (abk ..)) (XC (X4 _ _) b2))) (.cv rfl (.cv rfl (.cv rfl (.cv rfl (.cv rfl .nil)))))
  ·rintro o rfl
   have:=ih (ij++[(p.1,p.2)]) _ (λp q6=>ar p (.tail _ q6)) (by rw[A0 rfl,aaC];exact b2) ((h.set ai _).congr λq _=>(R8 q).symm) (S.trans (.set hm))
   rw[YK]at this
   exact this
theorem hL.mono(cz:∀o,eA o->P o):∀{σ:ba} {Γ:bD},hL G k sc T ew body eA ds σ Γ->hL G k sc T ew body P ds σ Γ:=by
 induction ds with
 |nil=>exact λh=>cz _ h
 |cons d ds ih=>
  intro σ Γ h
  refine bC λ_ a'=>?_
  obtain⟨Γ₁,xs,R',O,ae,a2,b_⟩:=h
  refine a' ?_
  refine⟨Γ₁,xs,R',O,ae,a2,λo aP=>?_⟩
  have:=b_ o aP
  cases o with
  |next _ _=>exact ih this
  |brk _ _=>exact cz _ this
  |ret _ _=>exact cz _ this
theorem Sa(L:eD G aK ck K cJ c4 bA bF)(bP:eL I)(h:gm (aK 16) σ I.length av cB size (λ_=>[])):
  bR G (k+6) l8 av σ (kI I ak size av) (e8 2) (λo=>∃Y,o=.next Y (kI I ak size av)/\gm (aK 16) Y I.length av cB size (λr=>ib (dH I ak r) 0)/\di av σ Y):=by
 have nV:=bP.len
 have b2:(ql I ak).length<=1000:=by
  have:=R7 (f:=λi=>(dH I ak i).reverse.map λt=>(i,t)) (m:=10) (λi=>by rw[XJ,Zp,oP];exact bP.row i) (XO I.length)
  replace this:=Yc▸this
  exact XC this (by lia)
 have hz:(((j9 av).zip (j8 I ak)).map wk)=(XO I.length).map λi=>V.tuple [.raw (.ref (av.getD i 0)),.list ((dH I ak i).map gj)]:=by
  rw[AZ]
  refine Y3 (by simp[j9,h.ed]) λi O ae=>?_
  simp[j9,XB,(show i<av.length from by rw[h.ed];simpa using ae)]
 refine .kY (S:=[]) (ds:=(ql I ak).map (A1 av)) (.yf (aN.RK (S:=[]) (ds:=(XO I.length).map λi=>V.tuple [.raw (.ref (av.getD i 0)),.list ((dH I ak i).map gj)]) (xs:=["pile","row"]) (xs':=["piece"]) ?_ ?_ (b1 (by simp;exact dt))) .list) (λb H=>h.at_ b (XS _ H)) (λ_ q=>cZ q) ?_
 ·simp only[<-hz]
  exact .zip (.cF L.P rfl) (.name rfl) (.name rfl) .list .list (by rw[AZ];simp[j9,h.ed])
 ·have e:(ql I ak).map (A1 av)=(XO I.length).flatMap λi=>((dH I ak i).reverse).map λt=>V.tuple [.raw (.ref (av.getD i 0)),gj t]:=by
   delta ql
   rw[List.map_flatMap]
   simp only[X_]
   rfl
  simp only[e]
  refine rY.on (aq:=λ_ t=>gj t) λi aq=>⟨_,.tuple (.cons .name (.cons .name .nil)),.cons (.cons .refl rfl) rfl,.list (.to (.i0 (fR:=none) (f5:=none) (os:=some (-((1:Nat):Int))) (.name rfl) .none .none (.some (.un .bf .hb)) aH (b1 (by have:=bP.row i;rw[XJ,oP];exact dt))) (by rw[Eb,<-aaR])) .list,?_⟩
  exact d3.on λt a_=>⟨_,.name,.cons .refl rfl,.tuple (.cons (.name rfl) (.cons (.name rfl) .nil)) c7⟩
 ·refine hL.mono ?_ (R_ (a9:=σ) L (ql I ak) [] σ (λp ar=>?_) (by simpa using b2) (h.congr λ_ _=>rfl) .refl)
  ·intro o dG
   refine gU dG λY aB O ae=>?_
   subst aB
   exact⟨Y,rfl,O.congr λr ai=>R6 ai,ae⟩
  ·refine bB (agd.mp ar) λi aq ar=>?_
   refine bB (XZ.mp ar) λt _ aB=>?_
   subst aB
   exact X2.mp aq
end
noncomputable def it(f:Nat->Nat):Nat->Nat->Nat
 |0,x=>x
 |k+1,x=>it f k (f x)
structure gn(W:Nat->Nat->Nat)(n:Nat)(bl:Nat->Nat)(c:List Nat):Prop where
 ne:c≠[]
 c2:c.Nodup
 en:∀r∈c,1<=r/\r<=n
 cl:∀r∈c,W r (bl r)∈c
 co:∀x∈c,∀y∈c,∃k,it (λr=>W r (bl r)) k x=y
noncomputable def fS(bl:Nat->Nat)(c:List Nat):Nat->Nat:=λr=>if r∈c then bl r+1 else bl r
def jf(W:Nat->Nat->Nat)(bl:Nat->Nat)(c:List Nat):List (List Int):=gi ltI (c.map λr:Nat=>[(r:Int),((bl r:Nat):Int),((W r (bl r):Nat):Int)])
section
variable{nX:Nat->Nat}{d:List Nat}{ls ms:List (List (List Int))}
theorem A2{f:Nat->Nat}(h:∀r∈c,f r∈c):∀k x,x∈c->it f k x∈c:=λk=>by
 induction k with
 |zero=>exact λ_ h=>h
 |succ k ih=>exact λx ag=>ih _ (h x ag)
theorem wI{f g:Nat->Nat}(h:∀r∈c,f r∈c)(e:∀r∈c,f r=g r):∀k x,x∈c->it f k x=it g k x:=λk=>by
 induction k with
 |zero=>exact λ_ _=>rfl
 |succ k ih=>exact λx ag=>(congrArg (it f k) (e x ag)).trans (ih _ (e x ag▸h x ag))
theorem gn.sub(h:gn W n bl c)(ah:gn W n bl d){x:Nat}(au:x∈c)(hd:x∈d):∀y∈c,y∈d:=λy bk=>by
 refine cS (h.co x au y bk) λk aB=>?_
 subst aB
 exact A2 ah.cl k x hd
theorem gn.perm(h:gn W n bl c)(ah:gn W n bl d){x:Nat}(au:x∈c)(hd:x∈d):c.Perm d:=
 (List.perm_ext_iff_of_nodup h.c2 ah.c2).mpr λy=>⟨h.sub ah au hd y,ah.sub h hd au y⟩
theorem Sb(p:c.Perm d):jf W bl c=jf W bl d:=wc gh.ltI (p.map _)
theorem Sd(p:c.Perm d):fS bl c=fS bl d:=by
 funext r
 delta fS
 by_cases h:r∈c
 ·rw[if_pos h,if_pos (p.mem_iff.mp h)]
 ·rw[if_neg h,if_neg λq=>h (p.mem_iff.mpr q)]
theorem jE(h:r∉c):fS bl c r=bl r:=if_neg h
theorem l_(h:r∈c):fS bl c r=bl r+1:=if_pos h
theorem gn.agree(h:gn W n bl c)(e:∀r∈c,W r (bl r)=bc r (nX r)):gn bc n nX c where
 ne:=h.ne
 c2:=h.c2
 en:=h.en
 cl:=λr ai=>e r ai▸h.cl r ai
 co:=λx ag y bk=>by
  obtain⟨k,aL⟩:=h.co x ag y bk
  exact⟨k,by rw[<-wI h.cl e k x ag];exact aL⟩
theorem gn.after(h:gn W n bl d)(hd:∀x∈c,x∉d):gn W n (fS bl c) d:=h.agree λr ai=>by rw[jE λq=>hd r q ai]
theorem Hr(hd:∀x∈c,x∉d):jf W (fS bl c) d=jf W bl d:=by
 delta jf
 congr 1
 refine Yf λr ai=>?_
 rw[jE λq=>hd r q ai]
theorem Se(hd:∀x∈c,x∉d):fS (fS bl c) d=fS (fS bl d) c:=by
 funext r
 by_cases O:r∈c
 ·simp only[jE (hd r O),l_ O,l_ O,jE (hd r O)]
 ·by_cases ae:r∈d
  ·simp only[l_ ae,jE O,jE O,l_ ae]
  ·simp only[jE ae,jE O,jE O,jE ae]
inductive Run(W:Nat->Nat->Nat)(n:Nat):(Nat->Nat)->List (List (List Int))->(Nat->Nat)->Prop
 |nil {bl:Nat->Nat}:Run W n bl [] bl
 |cons {bl:Nat->Nat} {c:List Nat} {ls:List (List (List Int))} {ee:Nat->Nat}:gn W n bl c->Run W n (fS bl c) ls ee->Run W n bl (jf W bl c::ls) ee
def l'(W:Nat->Nat->Nat)(n:Nat)(bl:Nat->Nat):Prop:=∀c,¬gn W n bl c
theorem Sf(h:Run W n bl ls ee)(iT:l' W n ee):∀c,gn W n bl c->∃ms,Run W n (fS bl c) ms ee/\ls.Perm (jf W bl c::ms):=by
 induction h with
 |nil=>intro c au;exact absurd au (iT c)
 | @cons bl d ls ee hd ai ih=>
  intro c au
  by_cases ag:∃x,x∈c/\x∈d
  ·refine bB ag λx O ae=>?_
   have p:=au.perm hd O ae
   exact⟨ls,by rw[Sd p];exact ai,by rw[Sb p]⟩
  ·have A3:∀x∈c,x∉d:=λx O ae=>ag ⟨x,O,ae⟩
   have Hs:∀x∈d,x∉c:=λx O ae=>ag ⟨x,ae,O⟩
   refine bB (ih iT c (au.after Hs)) λms O ae=>?_
   refine⟨jf W bl d::ms,?_,?_⟩
   ·rw[<-Hr (c:=c) A3]
    exact .cons (hd.after A3) (by rw[Se A3];exact O)
   ·rw[Hr Hs]at ae
    exact(ae.cons _).trans (.swap _ _ _)
theorem A4(h:Run W n bl ls ee)(iT:l' W n ee)(ah:Run W n bl ms nX)(wJ:l' W n nX):ee=nX/\ls.Perm ms:=by
 induction ah generalizing ls with
 |nil=>
  cases h with
  |nil=>exact⟨rfl,.refl _⟩
  |cons au _=>exact absurd au (wJ _)
 | @cons bl c ms nX au ai ih=>
  refine bB (Sf h iT c au) λXm O ae=>?_
  refine d6 (ih O wJ) λe p=>?_
  exact⟨e,ae.trans (p.cons _)⟩
theorem ud(h:Run W n bl ls ee):∀r,bl r<=ee r:=by
 induction h with
 |nil=>exact λr=>XT _
 | @cons bl c ls ee au ai ih=>
  intro r
  refine XC ?_ (ih r)
  delta fS
  split<;>lia
theorem Xn(h:Run W n bl ls ee)(e:∀r g,1<=r->r<=n->g<ee r->W r g=bc r g):Run bc n bl ls ee:=by
 induction h with
 |nil=>exact .nil
 | @cons bl c ls ee au ai ih=>
  have ct:∀r∈c,W r (bl r)=bc r (bl r):=λr kJ=>by
   have:=ud ai r
   rw[l_ kJ]at this
   exact e r _ (au.en r kJ).1 (au.en r kJ).2 n_
  have js:jf W bl c=jf bc bl c:=by
   delta jf
   congr 1
   refine Yf λr kJ=>?_
   rw[ct r kJ]
  exact js▸.cons (au.agree ct) (ih e)
theorem Ht(h:∀r,1<=r->r<=n->∃k,it (λr=>W r (bl r)) k r=0):l' W n bl:=λc au=>by
 obtain⟨r,l,rfl⟩:∃r l,c=r::l:=by
  cases c with
  |nil=>exact absurd rfl au.ne
  |cons r l=>exact⟨r,l,rfl⟩
 obtain⟨k,aL⟩:=h r (au.en r (.head _)).1 (au.en r (.head _)).2
 have:=A2 au.cl k r (.head _)
 rw[aL]at this
 have:=(au.en 0 this).1
 lia
end
noncomputable def wK(n:Nat):Nat->List (List Nat)
 |0=>[[]]
 |k+1=>(XO (n+1)).flatMap λx=>(wK n k).map (x::·)
theorem Hu:∀{k:Nat} {l:List Nat},l.length=k->(∀x∈l,x<=n)->l∈wK n k
 |0,[],_,_=>.head _
 |k+1,x::l,aw,ag=>agd.mpr ⟨x,X2.mpr (aap (ag x (.head _))),XZ.mpr ⟨l,Hu (by simpa using aw) λy bk=>ag y (.tail _ bk),rfl⟩⟩
noncomputable def kK(lead:List Nat)(x:Nat):Nat:=lead.getD x 0
def A5(n:Nat)(lead c:List Nat):Bool:=decide c.Nodup&&(c.all λr=>decide (1<=r)&&decide (r<=n))&&(c.all λr=>c.contains (kK lead r))&&(c.all λx=>c.all λy=>(XO (n+1)).any λk=>it (kK lead) k x==y)
def ue(n:Nat)(lead:List Nat):Bool:=((XO n).all λi=>A5 n lead (f7 lead (i+1)))&&(((XO n).any λi=>!(f7 lead (i+1)).isEmpty)||(XO n).all λi=>(XO (n+1)).any λk=>it (kK lead) k (i+1)==0)
theorem Sg:((wK 3 3).all λl=>ue 3 (0::l))=true:=by kernel_rfl
theorem Sh:((wK 4 4).all λl=>ue 4 (0::l))=true:=by kernel_rfl
theorem Hv(az:n=3\/n=4){lead:List Nat}(aw:lead.length=n+1)(h0:lead.getD 0 0=0)(ag:∀x∈lead,x<n+1):ue n lead=true:=by
 match lead,aw with
 |y::l,aw=>
  subst h0
  have hm:=Hu (by simpa using aw) λx h=>YU (ag x (.tail _ h))
  rcases az with rfl|rfl
  ·exact X9.mp Sg l hm
  ·exact X9.mp Sh l hm
structure qm(n:Nat)(lead c:List Nat):Prop where
 c2:c.Nodup
 en:∀r∈c,1<=r/\r<=n
 cl:∀r∈c,kK lead r∈c
 co:∀x∈c,∀y∈c,∃k,it (kK lead) k x=y
theorem Si{lead:List Nat}(h:A5 n lead c=true):qm n lead c:=by
 delta A5 at h
 simp only[Yp,X9,decide_eq_true_eq]at h
 obtain⟨⟨⟨O,ae⟩,a2⟩,b_⟩:=h
 refine⟨O,ae,λr ai=>by simpa using a2 r ai,λx ag y bk=>?_⟩
 refine bB (abo.mp (b_ x ag y bk)) λk _ aL=>?_
 exact⟨k,by simpa using aL⟩
section
variable{lead:List Nat}
theorem Hw(az:n=3\/n=4)(aw:lead.length=n+1)(h0:lead.getD 0 0=0)(ag:∀x∈lead,x<n+1){i:Nat}(aq:i<n):qm n lead (f7 lead (i+1)):=by
 have h:=Hv az aw h0 ag
 unfold ue at h
 rw[Yp]at h
 exact Si (X9.mp h.1 i (X2.mpr aq))
theorem Sj(az:n=3\/n=4)(aw:lead.length=n+1)(h0:lead.getD 0 0=0)(ag:∀x∈lead,x<n+1)(he:∀i,i<n->f7 lead (i+1)=[]):∀r,1<=r->r<=n->∃k,it (kK lead) k r=0:=λr O ae=>by
 have h:=Hv az aw h0 ag
 unfold ue at h
 rw[Yp,Bool.or_eq_true]at h
 rcases h.2 with h|h
 ·refine bB (abo.mp h) λi aq aR=>?_
  replace aR:=(he i (X2.mp aq))▸aR
  cases aR
 ·have:=X9.mp h (r-1) (X2.mpr xF)
  rw[show r-1+1=r by lia]at this
  refine bB (abo.mp this) λk _ aL=>?_
  exact⟨k,by simpa using aL⟩
end
def cQ(I:List (List Nat))(r g:Nat):Nat:=i' I r (g-1)
noncomputable def bU(st:cm)(r:Nat):Nat:=st.gone.getD r 0
structure Good(I:List (List Nat))(st:cm):Prop where
 n:I.length=4\/I.length=5
 fj:st.gone.length=I.length
 dE:st.lead.length=I.length
 ld:∀r,1<=r->r<I.length->st.lead.getD r 0=cQ I r (bU st r)
 qn:st.lead.getD 0 0=0
 en:gS I st
section
variable{st:cm}
theorem Hx{l:List Nat}{i j v:Nat}(aq:i<l.length):(l.set i v).getD j 0=if j=i then v else l.getD j 0:=by
 rw[XB,XB,afY]
 by_cases h:i=j
 ·subst h
  rw[if_pos rfl,if_pos aq,if_pos rfl];rfl
 ·rw[if_neg h,if_neg λq=>h q.symm]
theorem Hy{x:Nat}{a b:α}(e:r≠x):(if r∈x::rooms then a else b)=if r∈rooms then a else b:=ite_congr (propext (XH.trans (or_iff_right e))) (λ_=>rfl) λ_=>rfl
theorem oU(ar:0<n)(h:r<=n-1):r<n:=XW h (aaD ar aan)
theorem Good.pos(h:Good I st):0<I.length:=h.n.elim (λe=>e▸by decide) λe=>e▸by decide
theorem Hz{st:cm}(O:st.gone.length=I.length)(ae:st.lead.length=I.length)(eG:rooms.Nodup)(ai:∀r∈rooms,r<I.length):
  (iG I st rooms).gone.length=I.length/\(iG I st rooms).lead.length=I.length/\(∀r,bU (iG I st rooms) r=fS (bU st) rooms r)/\∀r,(iG I st rooms).lead.getD r 0=if r∈rooms then i' I r (bU st r)else st.lead.getD r 0:=by
 induction rooms generalizing st with
 |nil=>exact⟨O,ae,λr=>(if_neg Zx).symm,λr=>(if_neg Zx).symm⟩
 |cons x rooms ih=>
  have ag:=ai x (.head _)
  refine d6 (Yn.mp eG) λHA c2=>?_
  have a3:∀r,bU (ja I st x) r=if r=x then bU st x+1 else bU st r:=λr=>Hx (O▸ag)
  refine so (ih (st:=ja I st x) (ZO.trans O) (ZO.trans ae) c2 λr h=>ai r (.tail _ h)) λa1 cw e7 gJ=>?_
  refine⟨a1,cw,λr=>(e7 r).trans ?_,λr=>(gJ r).trans ?_⟩
  ·delta fS
   rw[a3]
   by_cases e:r=x
   ·subst e;rw[if_neg HA,if_pos rfl,if_pos (.head _)]
   ·rw[if_neg e,Hy e]
  ·rw[(show ∀r,(ja I st x).lead.getD r 0=if r=x then i' I x (bU st x)else st.lead.getD r 0 from λr=>Hx (ae▸ag)),a3]
   by_cases e:r=x
   ·subst e;rw[if_neg HA,if_pos rfl,if_pos (.head _)]
   ·rw[if_neg e,if_neg e,Hy e]
theorem HB(h:Good I st)(eG:c.Nodup)(ai:∀r∈c,1<=r/\r<=I.length-1):Good I (gD I st c)/\bU (gD I st c)=fS (bU st) c/\lr st c=jf (cQ I) (bU st) c:=by
 have dj:=λr q=>oU h.pos (ai r q).2
 refine so (Hz (rooms:=c) (st:={st with rings:=st.rings++[lr st c]}) h.fj h.dE eG dj) λa1 cw e7 gJ=>?_
 have dP:bU (gD I st c)=fS (bU st) c:=funext e7
 have fZ:∀r,(gD I st c).lead.getD r 0=if r∈c then i' I r (bU st r)else st.lead.getD r 0:=gJ
 refine⟨⟨h.n,a1,cw,λr O ae=>?_,?_,h.en.throw dj⟩,dP,?_⟩
 ·simp only[fZ,dP]
  by_cases hm:r∈c
  ·rw[if_pos hm,l_ hm];rfl
  ·rw[if_neg hm,jE hm];exact h.ld r O ae
 ·rw[fZ,if_neg λq=>aby _ (ai 0 q).1];exact h.qn
 ·exact congrArg (gi ltI) (Yf λr q=>by rw[h.ld r (ai r q).1 (dj r q)];rfl)
theorem HC(h:Good I st)(O:1<=r)(ae:r<=I.length-1):kK st.lead r=cQ I r (bU st r):=h.ld r O (oU h.pos ae)
theorem qm.HD{lead:List Nat}(e:∀r,1<=r->r<=n->kK lead r=W r (bl r))(b':c≠[])(au:qm n lead c):gn W n bl c:=by
 have b8:=λr ai=>e r (au.en r ai).1 (au.en r ai).2
 exact⟨b',au.c2,au.en,λr ai=>b8 r ai▸au.cl r ai,λx ag y bk=>(au.co x ag y bk).imp λk aL=>(wI au.cl b8 k x ag).symm.trans aL⟩
theorem qm.ring(h:Good I st)(b':c≠[])(au:qm (I.length-1) st.lead c):gn (cQ I) (I.length-1) (bU st) c:=au.HD (λ_=>HC h) b'
theorem HE{lead:List Nat}(az:n=3\/n=4)(aw:lead.length=n+1)(h0:lead.getD 0 0=0)(ag:∀x∈lead,x<n+1)(e:∀r,1<=r->r<=n->kK lead r=W r (bl r))(he:∀i,i<n->f7 lead (i+1)=[]):l' W n bl:=λc au=>by
 refine qK (aaf au.ne) λr l aB=>?_
 subst aB
 refine cS (Sj az aw h0 ag he r (au.en r (.head _)).1 (au.en r (.head _)).2) λk aL=>?_
 have m:=A2 au.cl k r (.head _)
 rw[wI au.cl (λr ai=>(e r (au.en r ai).1 (au.en r ai).2).symm) k r (.head _),aL]at m
 exact aby _ (au.en 0 m).1
theorem Good.eJ(h:Good I st):I.length-1=3\/I.length-1=4:=h.n.imp (congrArg (· - 1)) (congrArg (· - 1))
theorem Good.c9(h:Good I st):st.lead.length=I.length-1+1:=h.dE.trans (aax h.pos).symm
theorem Good.in1(h:Good I st)(x:Nat)(ag:x∈st.lead):x<I.length-1+1:=aag (h.en x ag) (aax h.pos).symm
noncomputable def left(I:List (List Nat))(bl:Nat->Nat):Nat:=((XO I.length).map λr=>(I.getD r []).length+1-bl r).sum
theorem wL{f g:Nat->Nat}{l:List Nat}(h:∀i∈l,f i<=g i):(l.map f).sum<=(l.map g).sum:=by
 induction l with
 |nil=>exact XT _
 |cons x l ih=>exact aah (h x (.head _)) (ih λi aq=>h i (.tail _ aq))
theorem Sk{f g:Nat->Nat}{a:Nat}{l:List Nat}(h:∀i∈l,f i<=g i)(aY:a∈l)(ct:f a<g a):(l.map f).sum<(l.map g).sum:=by
 induction l with
 |nil=>cases aY
 |cons x l ih=>
  have O:∀i∈l,f i<=g i:=λi aq=>h i (.tail _ aq)
  rcases XH.mp aY with rfl|aY
  ·exact Nat.add_lt_add_of_lt_of_le ct (wL O)
  ·exact aew (h x (.head _)) (ih O aY)
theorem HF(h:(I.getD r []).length<g):cQ I r g=0:=by unfold cQ i';rw[X8 (Y8 h)]
theorem gn.low(h:gn (cQ I) n bl c)(ai:r∈c):bl r<=(I.getD r []).length:=
 Yu λct=>aby _ (HF ct▸(h.en _ (h.cl r ai)).1)
theorem Sl(bl:Nat->Nat)(c:List Nat)(r:Nat):bl r<=fS bl c r:=by
 delta fS
 split
 ·exact YF _
 ·exact XT _
theorem r4(h:gn (cQ I) (I.length-1) bl c)(ar:0<I.length):left I (fS bl c)<left I bl:=by
 refine qK (aaf h.ne) λr l aB=>?_
 subst aB
 have ai:r∈r::l:=.head _
 refine Sk (a:=r) (λi _=>abI (Sl bl _ i) _) (X2.mpr (oU ar (h.en r ai).2)) ?_
 exact(l_ ai)▸Nat.sub_lt_sub_left (aap (h.low ai)) (Yt _)
end
section
variable{st:cm}{draw:Nat}
theorem HG:c∈fD st I↔(∃i,i<I.length-1/\f7 st.lead (i+1)=c)/\c≠[]:=by
 refine Z3.trans (and_congr ⟨λm=>?_,λm=>?_⟩ ⟨λq e=>(by rw[decide_eq_true e]at q;cases q),λq=>by rw[decide_eq_false q];rfl⟩)
 ·refine bB (XZ.mp m) λr ai e=>?_
  refine bB (XZ.mp ai) λi aq aB=>?_
  subst aB
  exact⟨i,X2.mp aq,e⟩
 ·refine bB m λi aq e=>?_
  exact XZ.mpr ⟨i+1,XZ.mpr ⟨i,X2.mpr aq,rfl⟩,e⟩
theorem Sm(h:Good I st)(he:fD st I=[]):l' (cQ I) (I.length-1) (bU st):=
 HE h.eJ h.c9 h.qn h.in1 (λ_=>HC h) λi aq=>abH λq=>Zx (he▸HG.mpr ⟨⟨i,aq,rfl⟩,q⟩)
theorem Sn(h:Good I st){j:Nat}(bq:j<(fD st I).length):gn (cQ I) (I.length-1) (bU st) ((fD st I).getD j []):=by
 simp only[XB,XI bq]
 obtain⟨⟨i,aq,e⟩,b'⟩:=HG.mp (Ya bq)
 exact qm.ring h b' (e▸Hw h.eJ h.c9 h.qn h.in1 aq)
theorem So(f t:Nat){st:cm}(h:Good I st)(hf:left I (bU st)<=f):∃ls,Run (cQ I) (I.length-1) (bU st) ls (bU (jb I draw f t st))/\(jb I draw f t st).rings=st.rings++ls/\l' (cQ I) (I.length-1) (bU (jb I draw f t st))/\Good I (jb I draw f t st):=by
 induction f generalizing t st with
 |zero=>exact⟨[],.nil,(Y0 _).symm,λc au=>Y_ _ (XE (r4 au h.pos) hf),h⟩
 |succ f ih=>
  simp only[wj]
  by_cases he:fD st I=[]
  ·rw[if_pos he]
   exact⟨[],.nil,(Y0 _).symm,Sm h he,h⟩
  ·rw[if_neg he]
   have dT:=Sn h (YO (draw / 4^t) (aav.mpr he))
   generalize (fD st I).getD (draw / 4^t%(fD st I).length) []=c at *
   refine gH (HB h dT.c2 dT.en) λc8 du eK=>?_
   refine oc (ih (t+1) c8 (du▸YU (XE (r4 dT h.pos) hf))) λls bO dq h8 nY=>?_
   exact⟨_::ls,.cons dT (du▸bO),by rw[dq,wh,eK,YK];rfl,h8,nY⟩
end
section
variable{st:cm}{x:f'}
theorem Sp(f g:Nat->Nat)(l:List Nat):(l.map λi=>f i+g i).sum=(l.map f).sum+(l.map g).sum:=by
 induction l with
 |nil=>rfl
 |cons x l ih=>exact(congrArg (f x+g x+·) ih).trans (Nat.add_add_add_comm ..)
theorem Sq(p:Nat->Prop)[DecidablePred p](l:List Nat):(l.map λi=>if p i then 1 else 0).sum=(l.filter λi=>decide (p i)).length:=by
 induction l with
 |nil=>rfl
 |cons x l ih=>
  simp only[Yb,aaJ,ih,abn]
  by_cases h:p x
  ·rw[if_pos h,if_pos (decide_eq_true h),YL];rfl
  ·rw[if_neg h,if_neg λq=>h (of_decide_eq_true q),Yq]
theorem HH(az:c.Nodup)(h:∀r∈c,r<m):c.length<=((XO m).map λi=>if i∈c then 1 else 0).sum:=by
 simp only[Sq]
 exact aie az λr ai=>Z3.mpr ⟨X2.mpr (h r ai),decide_eq_true ai⟩
theorem Sr(az:c.Nodup)(h:∀r∈c,r<I.length/\cQ I r (bl r)≠0):c.length<=left I bl:=by
 refine XC (HH az λr ai=>(h r ai).1) (wL λi _=>?_)
 by_cases aq:i∈c
 ·rw[if_pos aq]
  exact abb (aap (Yu λq=>(h i aq).2 (HF q)))
 ·rw[if_neg aq];exact Yd _
theorem Ss(h:gn (cQ I) (I.length-1) bl c)(ar:0<I.length):left I (fS bl c)+c.length<=left I bl:=by
 refine XC (YC (HH h.c2 λr ai=>oU ar (h.en r ai).2) _) ?_
 delta left
 rw[<-Sp]
 refine wL λi _=>?_
 by_cases aq:i∈c
 ·rw[if_pos aq,l_ aq,Nat.succ_sub (h.low aq),afi];exact XT _
 ·rw[if_neg aq,jE aq];exact XT _
structure jF(I:List (List Nat))(a7:List Nat)(x:f'):Prop where
 g:Good I x.1
 wn:x.2.1.Nodup
 nZ:∀r∈x.2.1,1<=r/\r<=I.length-1/\r∉a7
 ch:∀i,i<x.2.1.length->cQ I (x.2.1.getD i 0) (bU x.1 (x.2.1.getD i 0))=(x.2.1++[x.2.2]).getD (i+1) 0
 A6:x.2.2<=I.length-1
structure j_(I:List (List Nat))(bl:Nat->Nat)(a7:List Nat):Prop where
 z:0∈a7
 cl:∀r∈a7,cQ I r (bl r)∈a7
 out:∀r∈a7,∃k,it (λr=>cQ I r (bl r)) k r=0
theorem j_.step(h:j_ I bl a7)(hd:∀r∈c,r∉a7):j_ I (fS bl c) a7:=by
 have e:∀r∈a7,cQ I r (bl r)=cQ I r (fS bl c r):=λr ai=>by rw[jE λq=>hd r q ai]
 refine⟨h.z,λr ai=>by rw[<-e r ai];exact h.cl r ai,λr ai=>?_⟩
 obtain⟨k,aL⟩:=h.out r ai
 exact⟨k,by rw[<-wI h.cl e k r ai];exact aL⟩
theorem r5{l:List Nat}{i:Nat}(h:i<l.length):l.getD i 0=l[i]:=by rw[XB,XI h];rfl
theorem n0{l m:List Nat}{i:Nat}(h:i<l.length):(l++m).getD i 0=l.getD i 0:=by rw[XB,ab5 h,<-XB]
theorem uf{l:List Nat}{a:Nat}:(l++[a]).getD l.length 0=a:=by rw[XB,abS (XT _),acE];rfl
theorem r6{l:List Nat}{j y:Nat}:y∈l.drop j↔∃i,j+i<l.length/\l.getD (j+i) 0=y:=
 List.mem_iff_getElem?.trans (exists_congr λi=>by
  rw[List.getElem?_drop,Y9]
  exact⟨λq=>q.elim λh e=>⟨h,(r5 h).trans e⟩,λq=>⟨q.1,(r5 q.1).symm.trans q.2⟩⟩)
theorem HI(f:Nat->Nat)(a b y:Nat):it f (a+b) y=it f b (it f a y):=by
 induction a generalizing y with
 |zero=>rw[Yq];rfl
 |succ a ih=>rw[aaC];exact ih (f y)
theorem jF.go(W:jF I a7 x)(k i:Nat)(aq:i+k<=x.2.1.length):it (λr=>cQ I r (bU x.1 r)) k ((x.2.1++[x.2.2]).getD i 0)=(x.2.1++[x.2.2]).getD (i+k) 0:=by
 induction k generalizing i with
 |zero=>rfl
 |succ k ih=>
  have ct:=XE (ZC (ZL k)) aq
  simp only[n0 ct]
  show it (λr=>cQ I r (bU x.1 r)) k (cQ I (x.2.1.getD i 0) (bU x.1 (x.2.1.getD i 0)))=_
  simp only[W.ch i ct,ih (i+1) (Zt i k▸aq),Zt]
theorem mem_getD{l:List Nat}{y:Nat}:y∈l↔∃i,i<l.length/\l.getD i 0=y:=(r6 (j:=0)).trans (exists_congr λi=>by rw[Yq])
theorem jF.next(W:jF I a7 x)(ai:r∈x.2.1):cQ I r (bU x.1 r)∈x.2.1\/cQ I r (bU x.1 r)=x.2.2:=by
 refine bB (mem_getD.mp ai) λi aq aB=>?_
 subst aB
 rw[W.ch i aq]
 rcases aaG (adL aq)with h|h
 ·rw[n0 h];exact .inl (mem_getD.mpr ⟨_,h,rfl⟩)
 ·rw[show i+1=x.2.1.length from h,uf];exact .inr rfl
theorem jF.ends(W:jF I a7 x)(ai:r∈x.2.1):∃k,it (λr=>cQ I r (bU x.1 r)) k r=x.2.2:=by
 refine bB (mem_getD.mp ai) λi aq aB=>?_
 subst aB
 have:=W.go (x.2.1.length-i) i (Yg (Zq (Ye aq)))
 rw[n0 aq,Zq (Ye aq),uf]at this
 exact⟨_,this⟩
theorem jF.ring(W:jF I a7 x)(hm:x.2.2∈x.2.1):gn (cQ I) (I.length-1) (bU x.1) (x.2.1.drop (x.2.1.idxOf x.2.2)):=by
 have bq:=ZE hm
 have ug:=(r5 bq).trans (adt bq)
 generalize x.2.1.idxOf x.2.2=j at *
 have ch:=W.ch
 have first:=r6.mpr ⟨0,bq,ug⟩
 refine⟨List.ne_nil_of_mem first,W.wn.sublist (List.drop_sublist _ _),λr ai=>⟨(W.nZ r (Y7 ai)).1,(W.nZ r (Y7 ai)).2.1⟩,λr ai=>?_,λy bk z hz=>?_⟩
 ·refine bB (r6.mp ai) λi aq aB=>?_
  subst aB
  simp only[ch _ aq]
  rcases aaG (adL aq)with h|h
  ·rw[n0 h];exact r6.mpr ⟨i+1,h,rfl⟩
  ·rw[show j+i+1=x.2.1.length from h,uf];exact first
 ·refine cS (W.ends (Y7 bk)) λk O=>?_
  refine bB (r6.mp hz) λhl eQ aB=>?_
  subst aB
  have ae:=W.go hl j (Ye eQ)
  rw[n0 bq,ug,n0 eQ]at ae
  exact⟨_,(HI ..).trans ((congrArg _ O).trans ae)⟩
end
section
variable{st:cm}{x:f'}
theorem A7{l:List Nat}{i j:Nat}(h:i<j):(l.take j).getD i 0=l.getD i 0:=by rw[XB,XB,adu,if_pos h]
theorem Su(W:jF I a7 x)(af:j_ I (bU x.1) a7):∃ls,Run (cQ I) (I.length-1) (bU x.1) ls (bU (eF I x).1)/\(eF I x).1.rings=x.1.rings++ls/\jF I a7 (eF I x)/\j_ I (bU (eF I x).1) a7/\(eF I x).2.2∉(eF I x).2.1/\
  x.2.1.length+left I (bU (eF I x).1)<=(eF I x).2.1.length+left I (bU x.1)/\(eF I x).2.2=x.2.2:=by
 by_cases hm:x.2.2∈x.2.1
 ·have R:=W.ring hm
  have bq:=ZE hm
  have ug:=adt bq
  rw[(show eF I x=(gD I x.1 (x.2.1.drop (x.2.1.idxOf x.2.2)),x.2.1.take (x.2.1.idxOf x.2.2),x.2.2)from if_pos hm)]
  generalize x.2.1.idxOf x.2.2=j at *
  refine gH (HB W.g R.c2 R.en) λc8 du eK=>?_
  have aw:=Ss R W.g.pos
  have rr:∀r∈x.2.1.take j,r∉x.2.1.drop j:=λr O ae=>(Zd.mp ((acR j x.2.1).symm▸W.wn)).2.2 r O r ae rfl
  have ct:=ZJ (Ye bq)
  refine⟨[_],.cons R (du▸.nil),by rw[wh,eK],⟨c8,W.wn.sublist (List.take_sublist _ _),λr ai=>W.nZ r (ac1 ai),λi aq=>?_,W.A6⟩,?_,λq=>rr _ q (show x.2.2∈x.2.1.drop j from by rw[YR bq,ug];exact .head _),?_,rfl⟩
  ·show cQ I ((x.2.1.take j).getD i 0) (bU (gD I x.1 (x.2.1.drop j)) ((x.2.1.take j).getD i 0))=(x.2.1.take j++[x.2.2]).getD (i+1) 0
   have aq:=aq
   have pb:=ct▸aq
   have az:=rr _ (mem_getD.mpr ⟨i,aq,rfl⟩)
   rw[A7 pb]at az ⊢
   rw[du,jE az,W.ch i (aao pb bq),(show x.2.1.take j++[x.2.2]=x.2.1.take (j+1)from by rw[<-ug,ab_]),A7 (aad pb),n0 (XW pb bq)]
  ·rw[du]
   exact af.step λr ai=>(W.nZ r (Y7 ai)).2.2
  ·rw[du,ct]
   refine XC (Yg ?_) (YC aw j)
   rw[YG,Nat.add_left_comm,Zq (Ye bq),YL]
 ·rw[(show eF I x=x from if_neg hm)]
  exact⟨[],.nil,(Y0 _).symm,W,af,hm,XT _,rfl⟩
theorem Good.Sv(h:Good I st)(r:Nat):st.lead.getD r 0<=I.length-1:=by
 rw[XB]
 cases aq:st.lead[r]? with
 |none=>exact Yd _
 |some y=>exact Y8 (h.en _ (ZV aq))
theorem Sw(W:jF I a7 x)(af:j_ I (bU x.1) a7)(hm:x.2.2∉x.2.1)(bK:x.2.2∉a7):jF I a7 (fX a7 x)/\(fX a7 x).1=x.1/\(fX a7 x).2.1.length=x.2.1.length+1:=by
 have hz:1<=x.2.2:=aaF λq=>bK (q▸af.z)
 rw[(show fX a7 x=(x.1,x.2.1++[x.2.2],x.1.lead.getD x.2.2 0)from if_pos bK)]
 refine⟨⟨W.g,?_,λr ai=>?_,λi aq=>?_,W.g.Sv _⟩,rfl,Yv⟩
 ·exact Zd.mpr ⟨W.wn,ack ..,λa aY b H q=>hm (XD.mp H▸q▸aY)⟩
 ·rcases XY.mp ai with ai|ai
  ·exact W.nZ r ai
  ·exact(XD.mp ai).symm▸⟨hz,W.A6,bK⟩
 ·have aw:(x.2.1++[x.2.2]).length=x.2.1.length+1:=Yv
  rcases aaG (YU (aag aq aw))with eQ|rfl
  ·simp only[n0 eQ,W.ch i eQ,n0 (aag (aad eQ) aw.symm)]
  ·simp only[uf,<-W.g.ld _ hz (oU W.g.pos W.A6),<-aw,uf]
end
section
variable{st:cm}{x:f'}
theorem HJ{nX HK:Nat->Nat}{ls ms:List (List (List Int))}(h:Run W n bl ls nX)(ah:Run W n nX ms HK):Run W n bl (ls++ms) HK:=by
 induction h with
 |nil=>exact ah
 |cons au _ ih=>exact .cons au (ih ah)
theorem Sx(f:Nat){x:f'}(O:x.2.2∈a7)(ae:x.2.2∉x.2.1):eM I a7 f x=x:=by
 induction f with
 |zero=>rfl
 |succ f ih=>
  show eM I a7 f (fX a7 (eF I x))=x
  simp only[show eF I x=x from if_neg ae,show fX a7 x=x from if_neg λq=>q O,ih]
theorem Sy{f a b c d e:Nat}(h:f+(g+1)+b<=c+e)(k:a+e<=g+d):f+1+a+b<=c+d:=by lia
theorem Sz(f:Nat){x:f'}(W:jF I a7 x)(af:j_ I (bU x.1) a7):∃ls,Run (cQ I) (I.length-1) (bU x.1) ls (bU (eM I a7 f x).1)/\(eM I a7 f x).1.rings=x.1.rings++ls/\jF I a7 (eM I a7 f x)/\j_ I (bU (eM I a7 f x).1) a7/\
  ((eM I a7 f x).2.2∈a7\/f+x.2.1.length+left I (bU (eM I a7 f x).1)<=(eM I a7 f x).2.1.length+left I (bU x.1)):=by
 induction f generalizing x with
 |zero=>exact⟨[],.nil,(Y0 _).symm,W,af,.inr (Yg (congrArg (·+_) (Yq _)))⟩
 |succ f ih=>
  obtain⟨ls,bO,dq,k_,eo,eJ,c9,a3⟩:=Su W af
  rw[show eM I a7 (f+1) x=eM I a7 f (fX a7 (eF I x))from rfl]
  by_cases bK:(eF I x).2.2∈a7
  ·rw[show fX a7 (eF I x)=eF I x from if_neg λq=>q bK,Sx f bK eJ]
   exact⟨ls,bO,dq,k_,eo,.inl bK⟩
  ·refine bC λ_ fq=>?_
   refine gH (Sw k_ eo eJ bK) λSA bH dQ=>?_
   obtain⟨ms,s1,s2,s3,A8,qo⟩:=ih SA (by rw[bH];exact eo)
   refine fq ?_
   rw[bH]at s1 s2 qo
   refine⟨ls++ms,HJ bO s1,by rw[s2,dq,YK],s3,A8,qo.imp_right λqo=>Sy (dQ▸qo) c9⟩
theorem SD(H:left I (bU x.1)<20)(h0:x.2.1=[])(W:jF I a7 x)(af:j_ I (bU x.1) a7):∃ls,Run (cQ I) (I.length-1) (bU x.1) ls (bU (eM I a7 20 x).1)/\(eM I a7 20 x).1.rings=x.1.rings++ls/\Good I (eM I a7 20 x).1/\j_ I (bU (eM I a7 20 x).1) (a7++(eM I a7 20 x).2.1)/\(eM I a7 20 x).2.2∈a7:=by
 refine o_ (Sz 20 W af) λls bO dq k_ eo c9=>?_
 generalize eM I a7 20 x=y at *
 have n1:y.2.2∈a7:=by
  refine c9.elim id λc9=>abH λq=>?_
  have:=Sr (I:=I) (bl:=bU y.1) k_.wn λr ai=>⟨oU W.g.pos (k_.nZ r ai).2.1,(k_.next ai).elim (λh=>Zf (k_.nZ _ h).1) λh e=>q (h▸e▸eo.z)⟩
  rw[h0,Z4]at c9
  lia
 refine⟨ls,bO,dq,k_.g,⟨XS _ eo.z,λr ai=>?_,λr ai=>?_⟩,n1⟩
 ·rcases XY.mp ai with ai|ai
  ·exact XS _ (eo.cl r ai)
  ·exact(k_.next ai).elim (XQ _) λh=>XS _ (h▸n1)
 ·rcases XY.mp ai with ai|ai
  ·exact eo.out r ai
  ·refine cS (k_.ends ai) λk aL=>?_
   refine cS (eo.out _ n1) λm hm=>?_
   exact⟨k+m,by rw[HI,aL];exact hm⟩
end
section
variable{st:cm}{x:f'}{s:Nat}
theorem SE(h:(x.2.1++[x.2.2]).head?=some s):((eF I x).2.1++[(eF I x).2.2]).head?=some s:=by
 obtain⟨st,a6,room⟩:=x
 delta eF
 split
 ·rename_i hm
  have wd:=ab_ (ZE hm)
  rw[adt]at wd
  refine(congrArg List.head? wd).trans ?_
  cases a6 with
  |nil=>cases hm
  |cons a l=>exact h
 ·exact h
theorem SF(h:(x.2.1++[x.2.2]).head?=some s):((fX a7 x).2.1++[(fX a7 x).2.2]).head?=some s:=by
 delta fX
 split
 ·rw[List.head?_append,h];rfl
 ·exact h
theorem SG(f:Nat){x:f'}(h:(x.2.1++[x.2.2]).head?=some s):((eM I a7 f x).2.1++[(eM I a7 f x).2.2]).head?=some s:=by
 induction f generalizing x with
 |zero=>exact h
 |succ f ih=>exact ih (SF (SE h))
theorem SH(H:left I (bU st)<20)(aG:s<=I.length-1)(G:Good I st)(af:j_ I (bU st) a7):
  ∃ls,Run (cQ I) (I.length-1) (bU st) ls (bU (eM I a7 20 (st,[],s)).1)/\(eM I a7 20 (st,[],s)).1.rings=st.rings++ls/\Good I (eM I a7 20 (st,[],s)).1/\j_ I (bU (eM I a7 20 (st,[],s)).1) (a7++(eM I a7 20 (st,[],s)).2.1)/\s∈a7++(eM I a7 20 (st,[],s)).2.1:=by
 refine o_ (SD (x:=(st,[],s)) H rfl ⟨G,.nil,λr ai=>(cZ ai),λi aq=>absurd aq (Y_ _),aG⟩ af) λls bO dq h8 nY wM=>?_
 refine⟨ls,bO,dq,h8,nY,?_⟩
 have hd:=SG (I:=I) (a7:=a7) (s:=s) 20 (x:=(st,[],s)) rfl
 cases bz:(eM I a7 20 (st,[],s)).2.1 with
 |cons a l=>
  rw[bz]at hd
  exact YW hd▸XQ _ (.head _)
 |nil=>
  replace hd:=bz▸hd
  exact YW hd▸XS _ wM
theorem SI{ls:List (List (List Int))}(h:Run (cQ I) (I.length-1) bl ls ee):left I ee<=left I bl:=wL λr _=>abI (ud h r) _
theorem SJ(H:left I (bU st)<20)(aP:∀s∈order,s<=I.length-1)(G:Good I st)(af:j_ I (bU st) a7):
  ∃ls,Run (cQ I) (I.length-1) (bU st) ls (bU (l5 I order (st,a7)).1)/\(l5 I order (st,a7)).1.rings=st.rings++ls/\Good I (l5 I order (st,a7)).1/\j_ I (bU (l5 I order (st,a7)).1) (l5 I order (st,a7)).2/\(∀s∈a7,s∈(l5 I order (st,a7)).2)/\∀s∈order,s∈(l5 I order (st,a7)).2:=by
 induction order generalizing st a7 with
 |nil=>exact⟨[],.nil,(Y0 _).symm,G,af,λs aG=>aG,λs aG=>(cZ aG)⟩
 |cons s order ih=>
  refine o_ (SH H (aP s (.head _)) G af) λls bO dq h8 nY wM=>?_
  refine uQ (ih (XW (SI bO) H) (λz hz=>aP z (.tail _ hz)) h8 nY) λms s1 s2 s3 A8 qo SK=>?_
  refine⟨ls++ms,HJ bO s1,by rw[<-YK,<-dq];exact s2,s3,A8,λz hz=>qo z (XS _ hz),λz hz=>?_⟩
  rcases XH.mp hz with rfl|hz
  ·exact qo z wM
  ·exact SK z hz
theorem HL(H:left I (bU st)<20)(aP:∀s∈order,s<=I.length-1)(uh:∀r,1<=r->r<=I.length-1->r∈order)(G:Good I st)(h0:I.getD 0 []=[]):
  ∃ls,Run (cQ I) (I.length-1) (bU st) ls (bU (jc I order st))/\(jc I order st).rings=st.rings++ls/\l' (cQ I) (I.length-1) (bU (jc I order st))/\Good I (jc I order st):=by
 refine bC λ_ a'=>?_
 obtain⟨ls,bO,dq,h8,nY,wM,SM⟩:=SJ (a7:=[0]) H aP G ⟨.head _,λr ai=>by rw[XD.mp ai,(show ∀g,cQ I 0 g=0 from λg=>by unfold cQ i';rw[h0];rfl)];exact .head _,λr ai=>⟨0,XD.mp ai⟩⟩
 refine a' ?_
 exact⟨ls,bO,dq,Ht λr O ae=>nY.out r (SM r (uh r O ae)),h8⟩
end
noncomputable def fG:List Nat->Nat
 | []=>0
 |w::l=>w+8*fG l
theorem wN{row:List Nat}(h:∀w∈row,w<=7)(k:Nat):fG row / 8^k%8=row.getD k 0:=by
 induction row generalizing k with
 |nil=>rw[show fG []=0 from rfl,acD];rfl
 |cons w l ih=>
  have bz:w<8:=aap (h w (.head _))
  cases k with
  |zero=>rw[abc,ad9,show fG (w::l)=w+8*fG l from rfl,Nat.add_mul_mod_self_left,acu bz];rfl
  |succ k=>
   rw[aam,YT (8^k) 8,<-aaH,show fG (w::l)=w+8*fG l from rfl,afx _ _ aH,adX bz,Yq]
   exact ih (λx ag=>h x (.tail _ ag)) k
theorem A9{row:List Nat}(h:∀w∈row,w<=7):fG row<8^row.length:=by
 induction row with
 |nil=>exact aan
 |cons w l ih=>
  have O:=ZM 8 (ih λx ag=>h x (.tail _ ag))
  simp only[Yi,aam,YT (8^_)]
  exact XE (XW (Yg (YL w _)) (abJ (aap (h w (.head _))) _)) O
theorem SN(a k:Nat):a / 8^(k+1)=a / 8^k / 8:=by rw[aam,aaH]
theorem SO(ai:r<I.length):I.getD r []∈I:=by rw[XB,XI ai];exact Ya ai
theorem SP(dJ:∀row∈I,∀w∈row,w<=7)(ai:r<I.length)(cE:1<=g):cQ I r g=if fG (I.getD r []) / 8^(g-1)%8<I.length then fG (I.getD r []) / 8^(g-1)%8 else r:=by
 have ar:=XW (Yd _) ai
 rw[wN (dJ _ (SO ai)),XB]
 delta cQ i'
 cases (I.getD r [])[g-1]? with
 |none=>exact(if_pos ar).symm
 |some w=>exact ite_congr (propext ⟨oU ar,Y8⟩) (λ_=>rfl) λ_=>rfl
noncomputable def g5(I:List (List Nat))(bl:Nat->Nat)(eV:List Nat):List (List Nat):=(XO I.length).map λr=>if r=0 then[]else(I.getD r []).take (bl r-1)++[eV.getD r 0]++(I.getD r []).drop (bl r)
theorem wO:(g5 I bl eV).length=I.length:=(XJ _).trans Yc
theorem A_(O:1<=r)(ai:r<I.length):(g5 I bl eV).getD r []=(I.getD r []).take (bl r-1)++([eV.getD r 0]++(I.getD r []).drop (bl r)):=by
 delta g5
 rw[XB,X1,YN ai,<-YK]
 exact if_neg (Zf O)
theorem A'(gR:bl r<=(I.getD r []).length+1):((I.getD r []).take (bl r-1)).length=bl r-1:=ZJ (abx gR)
theorem SQ(O:1<=r)(ai:r<I.length)(cE:1<=g)(ma:g<bl r)(gR:bl r<=(I.getD r []).length+1):cQ I r g=cQ (g5 I bl eV) r g:=by
 have ct:=Nat.sub_lt_sub_right cE ma
 delta cQ i'
 rw[A_ O ai,wO,ab5 ((A' gR).symm▸ct),adu,if_pos ct]
theorem SR(O:1<=r)(ai:r<I.length)(ma:1<=bl r)(gR:bl r<=(I.getD r []).length+1)(a_:eV.getD r 0<=I.length-1):cQ (g5 I bl eV) r (bl r)=eV.getD r 0:=by
 delta cQ i'
 rw[A_ O ai,wO,abS (Yg (A' gR)),A' gR,acE]
 exact if_pos a_
def d_(I:List (List Nat))(aO:List Nat):List Nat:=(XO I.length).map λr=>cQ I r (aO.getD r 0)
def j'(lead:List Nat)(n:Nat):List (List Nat):=(((XO n).map λi=>n-i).map (f7 lead)).filter λr=>!decide (r=[])
noncomputable def iI(aO c:List Nat):List Nat:=(XO aO.length).map λr=>if r∈c then aO.getD r 0+1 else aO.getD r 0
def oV(I:List (List Nat))(aO c:List Nat):List (List Int):=gi ltI (c.map λr:Nat=>[(r:Int),((aO.getD r 0:Nat):Int),(((d_ I aO).getD r 0:Nat):Int)])
def ic(I:List (List Nat)):Nat->List Nat->List (List (List Int))->List Nat×List (List (List Int))
 |0,aO,rings=>(aO,rings)
 |f+1,aO,rings=>if j' (d_ I aO) (I.length-1)=[]then(aO,rings)else
   ic I f (iI aO ((j' (d_ I aO) (I.length-1)).getD 0 [])) (rings++[oV I aO ((j' (d_ I aO) (I.length-1)).getD 0 [])])
noncomputable def fv(aO:List Nat)(r:Nat):Nat:=if r=0 then 0 else aO.getD r 0
structure GoodG(I:List (List Nat))(aO:List Nat):Prop where
 n:I.length=4\/I.length=5
 fj:aO.length=I.length
 z:I.getD 0 []=[]
theorem GoodG.pos(h:GoodG I aO):0<I.length:=h.n.elim (λe=>e▸by decide) λe=>e▸by decide
theorem GoodG.lt(h:GoodG I aO)(ai:r<=I.length-1):r<I.length:=oU h.pos ai
theorem GoodG.eJ(h:GoodG I aO):I.length-1=3\/I.length-1=4:=h.n.imp (congrArg (· - 1)) (congrArg (· - 1))
theorem qp:(d_ I aO).length=I.length:=(XJ _).trans Yc
theorem wQ(ai:r<I.length):(d_ I aO).getD r 0=cQ I r (aO.getD r 0):=by
 delta d_
 rw[XB,X1,YN ai];rfl
theorem Ba(h:GoodG I aO):(d_ I aO).getD 0 0=0:=by
 rw[wQ h.pos]
 delta cQ i'
 rw[h.z];rfl
theorem HM(h:GoodG I aO):(d_ I aO).length=I.length-1+1:=qp.trans (aax h.pos).symm
theorem Bb(h:GoodG I aO):∀x∈d_ I aO,x<I.length-1+1:=λx ag=>by
 refine bB (XZ.mp ag) λr ai aB=>?_
 subst aB
 exact aag (GS (X2.mp ai)) (aax h.pos).symm
theorem r7(ai:1<=r):fv aO r=aO.getD r 0:=if_neg (Zf ai)
theorem wR(ai:r<aO.length):(iI aO c).getD r 0=if r∈c then aO.getD r 0+1 else aO.getD r 0:=by
 delta iI
 rw[XB,X1,YN ai];rfl
theorem Bc:(iI aO c).length=aO.length:=(XJ _).trans Yc
theorem HN{l:List Nat}(h:l.length<=r):l.getD r 0=0:=by rw[XB,X8 h];rfl
theorem HO(h:GoodG I aO)(au:∀r∈c,1<=r/\r<=I.length-1):fv (iI aO c)=fS (fv aO) c:=by
 funext r
 delta fS
 cases r with
 |zero=>rw[if_neg λq=>aby _ (au 0 q).1];rfl
 |succ r=>
  show(iI aO c).getD (r+1) 0=if r+1∈c then aO.getD (r+1) 0+1 else aO.getD (r+1) 0
  by_cases ai:r+1<aO.length
  ·exact wR ai
  ·have ai:=Yu ai
   rw[HN (XC (Yg Bc) ai),HN ai,if_neg λq=>XN _ (XE (h.lt (au _ q).2) (h.fj▸ai))]
theorem GoodG.kK(h:GoodG I aO)(r:Nat)(O:1<=r)(ae:r<=I.length-1):Internal.kK (d_ I aO) r=cQ I r (fv aO r):=by
 exact(r7 O)▸wQ (h.lt ae)
theorem HP{lead:List Nat}:c∈j' lead n↔(∃i,i<n/\f7 lead (i+1)=c)/\c≠[]:=by
 refine Z3.trans (and_congr ⟨λm=>?_,λm=>?_⟩ ⟨λq e=>(by rw[decide_eq_true e]at q;cases q),λq=>by rw[decide_eq_false q];rfl⟩)
 ·refine bB (XZ.mp m) λr ai e=>?_
  refine bB (XZ.mp ai) λi aq aB=>?_
  subst aB
  have aq:=abb (X2.mp aq)
  exact⟨n-i-1,XE (aaD aq aan) (Zn ..),by rw[aaE aq];exact e⟩
 ·refine bB m λi aq e=>?_
  exact XZ.mpr ⟨i+1,XZ.mpr ⟨n-(i+1),X2.mpr (aaD (XW (Yd _) aq) (ZL _)),agv aq⟩,e⟩
theorem HQ(h:GoodG I aO)(bq:j' (d_ I aO) (I.length-1)≠[]):gn (cQ I) (I.length-1) (fv aO) ((j' (d_ I aO) (I.length-1)).getD 0 []):=by
 refine bC λ_ a'=>?_
 refine qK (aaf bq) λc l e=>?_
 obtain⟨⟨i,aq,rfl⟩,b'⟩:=HP.mp (show c∈j' (d_ I aO) (I.length-1) by rw[e];exact .head _)
 refine a' ?_
 rw[e]
 exact(Hw h.eJ (HM h) (Ba h) (Bb h) aq).HD h.kK b'
theorem SS(h:GoodG I aO)(he:j' (d_ I aO) (I.length-1)=[]):l' (cQ I) (I.length-1) (fv aO):=
 HE h.eJ (HM h) (Ba h) (Bb h) h.kK λi aq=>abH λq=>Zx (he▸HP.mpr ⟨⟨i,aq,rfl⟩,q⟩)
theorem SU(f:Nat)(h:GoodG I aO)(hf:left I (fv aO)<=f):∃ls,Run (cQ I) (I.length-1) (fv aO) ls (fv (ic I f aO rings).1)/\(ic I f aO rings).2=rings++ls/\l' (cQ I) (I.length-1) (fv (ic I f aO rings).1)/\GoodG I (ic I f aO rings).1:=by
 induction f generalizing aO rings with
 |zero=>exact⟨[],.nil,(Y0 _).symm,λc au=>Y_ _ (XE (r4 au h.pos) hf),h⟩
 |succ f ih=>
  dsimp only[ic]
  by_cases he:j' (d_ I aO) (I.length-1)=[]
  ·rw[if_pos he]
   exact⟨[],.nil,(Y0 _).symm,SS h he,h⟩
  ·rw[if_neg he]
   have R:=HQ h he
   generalize (j' (d_ I aO) (I.length-1)).getD 0 []=c at *
   have iE:=HO h R.en
   refine oc (ih (aO:=iI aO c) (rings:=rings++[oV I aO c]) ⟨h.n,Bc.trans h.fj,h.z⟩ (iE▸YU (XE (r4 R h.pos) hf))) λls bO dq h8 nY=>?_
   exact⟨_::ls,.cons R (iE▸bO),by rw[dq,(show oV I aO c=jf (cQ I) (fv aO) c from congrArg (gi ltI) (Yf λr ai=>by rw[r7 (R.en r ai).1,wQ (h.lt (R.en r ai).2)])),YK];rfl,h8,nY⟩
noncomputable def jg(I:List (List Nat)):List Nat:=(XO (I.length-1)).map (·+1)
noncomputable def bare(I:List (List Nat)):cm:={gone:=XR I.length 0,lead:=XR I.length 0,right:=0,rings:=[]}
def eN(I:List (List Nat)):cm:=iG I (bare I) (jg I)
theorem oW:r∈jg I↔1<=r/\r<=I.length-1:=by
 delta jg
 rw[XZ]
 constructor
 ·intro dG
  refine bB dG λi aq aB=>?_
  subst aB
  have:=X2.mp aq
  lia
 ·rintro⟨O,ae⟩
  exact⟨r-1,X2.mpr xF,CE⟩
theorem SV:(jg I).Nodup:=by
 delta jg
 rw[aer,ab6]
 exact(aer.mp agb).imp λh q=>h (by lia)
theorem HR:bU (bare I) r=0:=by
 delta bU bare
 simp only[XB,Y2]
 split<;>rfl
theorem lx(az:I.length=4\/I.length=5):Good I (eN I)/\bU (eN I)=fv (XR I.length 1)/\(eN I).rings=[]:=by
 refine bC λ_ a'=>?_
 obtain⟨a1,cw,e7,gJ⟩:=Hz (I:=I) (rooms:=jg I) (st:=bare I) (by simp[bare]) (by simp[bare]) SV λr ai=>by have:=(oW.mp ai).2;exact ob
 refine a' ?_
 have SW:bU (eN I)=fv (XR I.length 1):=by
  funext r
  show bU (iG I (bare I) (jg I)) r=_
  simp only[e7 r]
  delta fS fv
  rw[HR]
  by_cases h0:r=0
  ·subst h0
   rw[if_neg λq=>by have:=(oW.mp q).1;lia,if_pos rfl]
  ·rw[if_neg h0,XB,Y2]
   by_cases ai:r<I.length
   ·rw[if_pos (oW.mpr ⟨by lia,xE⟩),if_pos ai];rfl
   ·rw[if_neg λq=>by have:=(oW.mp q).2;lia,if_neg ai];rfl
 refine⟨⟨az,a1,cw,λr O ae=>?_,?_,?_⟩,SW,AD⟩
 ·have hm:r∈jg I:=oW.mpr ⟨O,xE⟩
  show(iG I (bare I) (jg I)).lead.getD r 0=cQ I r (bU (iG I (bare I) (jg I)) r)
  rw[gJ r,if_pos hm,e7 r,l_ hm];rfl
 ·show(iG I (bare I) (jg I)).lead.getD 0 0=0
  rw[gJ 0,if_neg λq=>by have:=(oW.mp q).1;lia]
  delta bare
  rw[XB,Y2]
  split<;>rfl
 ·exact gS.oQ (st:=bare I) (λx ag=>by
   rw[(List.mem_replicate.mp ag).2];exact mj) λr ai=>by have:=(oW.mp ai).2;exact ob
def oX(I:List (List Nat))(ak size:Nat)(af:eE):bD:=("house",.raw (.ref af.h))::kI I ak size af.av
section
variable{room:Nat}{av:List XM}
noncomputable def Bd:YI:={kind:=.function,names:=[(".0",.local),("row",.local)],isGenerator:=false,isCoroutine:=false}
theorem HS(bP:eL I){pos cV dN uc:Pos}{bt:Nat}:cc G (k+6) l8 T σ (kI I ak size av) (.ListComp (.Constant (.int 0) bt cV) [⟨.Name "row" dN,.Name "rows" uc,[],0⟩] Bd pos) (λY d=>∃a,a∉σ.at/\Y=(a,.list (.type "list") none (aV (XR I.length 0)))::σ/\d=.raw (.ref a)):=by
 have nV:=bP.len
 rw[(show aV (XR I.length 0)=(j8 I ak).map λ_=>ay 0 from by rw[ad_,qk,aV,aa2])]
 refine .Eg (S:=[]) (ds:=j8 I ak) (xs:=["row"]) (.list (.name rfl) .list) ?_ (b1 (by rw[XJ,qk];exact dt))
 have:=d3.on (G:=G) (k:=k+6) (σ:=σ) (Γ:=hs Bd (kI I ak size av)) (sc:=fP Bd l8) (bh:=.Name "row" dN) (elt:=.Constant (.int 0) bt cV) (xs:=["row"]) (h:=λd:V=>d) (f:=λ_=>ay 0) (l:=j8 I ak) λd _=>⟨_,.name,.cons .refl rfl,.bf⟩
 rw[adC]at this
 exact this
theorem HT(h:∀p∈σ,p∈Y)(aY:a∈σ.at):a∈Y.at:=by
 refine bB (XZ.mp aY) λp ar aB=>?_
 subst aB
 exact YA (f:=λp:XM×cf=>p.1) (h p ar)
theorem ui(L:eD G aK ck K cJ c4 bA bF)(bP:eL I)(h:gm (aK 16) σ I.length av cB size (λr=>ib (dH I ak r) 0))(aU:∀b∈T,b∈σ.at):
  bR G (k+6) l8 T σ (kI I ak size av) (e8 3) (λo=>∃Y af,o=.next Y (oX I ak size af)/\af.av=av/\af.cB=cB/\b3 (aK 16) Y af I ak size (bare I).gone (bare I)/\hR σ Y [af.h,af.g,af.l]):=by
 have nV:=bP.len
 refine .letE (R:=λY d=>∃af:eE,d=.raw (.ref af.h)/\af.av=av/\af.cB=cB/\b3 (aK 16) Y af I ak size (bare I).gone (bare I)/\hR σ Y [af.h,af.g,af.l]) ?_ (λY d q=>o_ q λaf cV dN uc mK nM=>⟨Y,af,by subst cV;subst dN;rfl,dN,uc,mK,nM⟩)
 refine cc.newD (av:=[(("rows",0,default),_),(("piles",0,default),_),(("gone",0,default),_),(("lead",0,default),_),(("right",0,default),_),(("rings",0,default),_)]) (RL:=λY ds=>∃g l,g∉σ.at/\l∉ba.at ((g,.list (.type "list") none (aV (XR I.length 0)))::σ)/\Y=(l,.list (.type "list") none (aV (XR I.length 0)))::(g,.list (.type "list") none (aV (XR I.length 0)))::σ/\ds=[.list (j8 I ak),.list (j9 av),.raw (.ref g),.raw (.ref l),.list [],.list []]) aU ?_ ?_ ?_ (λ_=>rfl) (λq=>uL q) aH aQ
 ·refine .cons aU (.of (d:=.list (j8 I ak)) (.name rfl)) ?_
  rintro a9 d ⟨rfl,rfl⟩
  refine .cons aU (.of (d:=.list (j9 av)) (.name rfl)) ?_
  rintro cC d ⟨rfl,rfl⟩
  refine .cons aU (HS bP) ?_
  intro l4 d dG
  refine gU dG λg cE aB jm=>?_
  subst aB jm
  have HU:∀b∈T,b∈ba.at ((g,cf.list (.type "list") none (aV (XR I.length 0)))::cC):=λb H=>.tail _ (aU b H)
  refine .cons HU (HS bP) ?_
  intro gz d dG
  refine gU dG λl aw aB jm=>?_
  subst aB jm
  have q8:∀b∈T,b∈ba.at ((l,cf.list (.type "list") none (aV (XR I.length 0)))::(g,cf.list (.type "list") none (aV (XR I.length 0)))::cC):=λb H=>.tail _ (HU b H)
  refine .cons q8 (.of (.list .nil c7)) ?_
  rintro wS d ⟨rfl,rfl⟩
  refine .cons q8 (.of (.list .nil c7)) ?_
  rintro SX d ⟨rfl,rfl⟩
  exact .nil ⟨g,l,cE,aw,rfl,rfl⟩
 ·intro Y ds dG
  refine qL dG λg l _ _ _ aB=>?_
  subst aB
  rfl
 ·rintro Y ds a ⟨g,l,cE,aw,rfl,rfl⟩ aY
  have kd:l∉σ.at:=λq=>aw (.tail _ q)
  have q2:a∉σ.at:=λq=>aY (.tail _ (.tail _ q))
  have b9:=h.at_
  refine⟨⟨a,g,l,av,cB⟩,rfl,rfl,rfl,{d:=.head _,g:=.tail _ (.tail _ (.head _)),l:=.tail _ (.head _),p:=λr ai=>?_,fj:=by simp[bare],dE:=by simp[bare],lo:=by simp[bare],ed:=h.ed,ep:=h.ep,c2:=?_},λp ar=>.tail _ (.tail _ (.tail _ ar)),λb H=>?_⟩
  ·have e:(bare I).gone.getD r 0=0:=by simp[bare,XB,ai]
   rw[e]
   exact⟨.tail _ (.tail _ (.tail _ (h.p r ai).l)),.tail _ (.tail _ (.tail _ (h.p r ai).i))⟩
  ·refine Yn.mpr ⟨λq=>?_,Yn.mpr ⟨λq=>?_,Yn.mpr ⟨λq=>kd (b9 _ q),h.c2⟩⟩⟩
   ·rcases XH.mp q with q|q
    ·exact(show a≠g from λq=>aY (q▸.tail _ (.head _))) q
    ·rcases XH.mp q with q|q
     ·exact(show a≠l from λq=>aY (q▸.head _)) q
     ·exact q2 (b9 _ q)
   ·rcases XH.mp q with q|q
    ·exact(show l≠g from λq=>aw (q▸.head _)) q.symm
    ·exact cE (b9 _ q)
  ·simp only[XH,Zx,or_false]at H
   rcases H with rfl|rfl|rfl
   ·exact q2
   ·exact cE
   ·exact kd
end
section
variable{room:Nat}{av:List XM}
abbrev HV:ZF:=((nP (e8 4))[0]?).getD (.Break default)
theorem SY(L:eD G aK ck K cJ c4 bA bF)(bP:eL I){st:cm}(h:b3 (aK 16) σ af I ak size st.gone st)(ai:r<I.length)(O:st.right<=1000)(ae:st.gone.getD r 0<=1000):
  d4 G (k+6) l8 af.cW σ (("room",ay r)::oX I ak size af) [HV] (jD (aK 16) af I ak size σ (("room",ay r)::oX I ak size af) (ja I st r)):=by
 refine .one (.expr (.ry (.globT L.P rfl) (L.P.calls (i:=21) rfl) h.ft (.cons (d:=.raw (.ref af.h)) (.name rfl) (.cons (d:=ay r) (.name rfl) .nil))
  ((GO (k:=k) L h ai (XC bP.len aH) (λr=>XC (bP.row r) aH) bP.wg O ae).room (YC aH k))) ?_)
 intro Y d dG
 refine gH dG λcV dN _=>?_
 exact⟨Y,rfl,cV,dN⟩
theorem S0(L:eD G aK ck K cJ c4 bA bF)(bP:eL I){h7:Pos}(rooms:List Nat):∀(σ:ba) (st:cm),b3 (aK 16) σ af I ak size st.gone st->di af.cW fu σ->em st rooms.length->(∀r∈rooms,r<I.length)->
  p7 G (k+6) l8 af.cW (.Name "room" h7) [HV] (jD (aK 16) af I ak size fu (oX I ak size af) (iG I st rooms)) (aV rooms) σ (oX I ak size af):=by
 induction rooms with
 |nil=>exact λσ st h S _ _=>⟨σ,rfl,h,S⟩
 |cons r rooms ih=>
  intro σ st h S ea ai
  have aG:∀{a},a+(rooms.length+1)<=1000->a<=1000:=λh=>XC (X4 _ _) h
  refine⟨("room",ay r)::oX I ak size af,["room"],jD (aK 16) af I ak size σ (oX I ak size af) (ja I st r),.name,λz hz=>by rw[XD.mp hz];exact .inl rfl,.shrink (SY L bP h (ai r (.head _)) (aG ea.1) (aG (ea.2 r))) ?_,?_⟩
  ·rintro o ⟨Y,rfl,q⟩
   exact⟨_,.cv rfl (.cv rfl (.cv rfl (.cv rfl (.cv rfl (.cv rfl .nil))))),Y,rfl,q⟩
  ·rintro o ⟨Y,rfl,cV,dN⟩
   exact ih Y (ja I st r) cV (S.trans dN) (em.next ea) λx lP=>ai x (.tail _ lP)
theorem Be:em (bare I) 900:=by
 refine⟨aai rfl,λr=>?_⟩
 have:=HR (I:=I) (r:=r)
 unfold bU at this
 exact this.symm▸aai rfl
theorem Bf{x a b c:α}{l:List α}(h:x∈a::b::c::l):x=a\/x=b\/x=c\/x∈l:=by
 rcases XH.mp h with h|h
 ·exact .inl h
 rcases XH.mp h with h|h
 ·exact .inr (.inl h)
 exact .inr (.inr (XH.mp h))
theorem S1(L:eD G aK ck K cJ c4 bA bF)(bP:eL I)(h0:0<I.length)(hd:ak<2^39):
  fs G (k+7) [] σ (.ref (aK 22)) [.list (I.map dI),ay ak,ay size] (λY d=>∃af,d=.raw (.ref af.h)/\b3 (aK 16) Y af I ak size (eN I).gone (eN I)/\hR σ Y af.all):=by
 have nV:=bP.len
 refine fs.of_body (k:=k+6) (P:=λo=>∃Y af,o=.ret Y (.raw (.ref af.h))/\b3 (aK 16) Y af I ak size (eN I).gone (eN I)/\hR σ Y af.all) (L.P.fn 22 _ rfl) rfl ?_ ?_
 ·show d4 G (k+6) l8 [] σ (AX I ak size) [e8 0,e8 1,e8 2,e8 3,e8 4,e8 5] _
  refine .seq (.of (wA L.P bP hd) (λ_ q=>cZ q)) ?_
  refine d4.cons (.of (k6 L bP) (λ_ q=>cZ q)) ?_
  rintro o ⟨a9,av,cB,rfl,dc,wU⟩
  refine⟨av,(λb H=>.inr ⟨dc.at_ b (XS _ H),wU.new b (XS _ H)⟩),?_⟩
  have HW:=λb H=>dc.at_ b (XS _ H)
  refine d4.cons (.of (Sa L bP dc) HW) ?_
  rintro o ⟨cC,rfl,eh,nJ⟩
  have HX:∀b∈av,b∈cC.at:=λb H=>by rw[nJ.at_];exact HW b H
  refine⟨av,λb H=>.inl H,?_⟩
  refine d4.cons (.of (ui L bP eh HX) HX) ?_
  rintro o ⟨l4,af,rfl,rfl,rfl,hi,qq⟩
  have HY:∀p∈σ,p∈cC:=λp ar=>nJ.keep p.1 p.2 (λq=>wU.new p.1 (XS _ q) (dr ar)) (wU.old p ar)
  have S2:∀b∈af.cW,b∈af.av\/(b∈l4.at/\b∉cC.at):=λb H=>by
   have:=hi.ft b H
   rcases Bf H with rfl|rfl|rfl|H
   ·exact .inr ⟨this,qq.new _ (.head _)⟩
   ·exact .inr ⟨this,qq.new _ (.tail _ (.head _))⟩
   ·exact .inr ⟨this,qq.new _ (.tail _ (.tail _ (.head _)))⟩
   ·exact .inl H
  refine⟨af.cW,S2,?_⟩
  refine d4.cons (eA:=jD (aK 16) af I ak size l4 (oX I ak size af) (eN I)) (.kY (S:=[]) (ds:=aV (jg I)) (.to (.u3 (.cF L.P rfl) (m:=((1:Nat):Int)) (n:=((I.length:Nat):Int)) .bf (.to (.call (.cF L.P rfl) (.dV _) (.cons (.name rfl) .nil) (bW.len (S:=[]) .list (by rw[qk];exact jJ))) (dM:=ay I.length) (by rw[qk])) aH aH oa n') ?_) hi.ft (λb H=>cZ H) (S0 L bP (jg I) l4 (bare I) hi .refl (Be.mono ?_) λr ai=>?_)) λo aP=>?_
  ·exact(show(((I.length:Nat):Int)-((1:Nat):Int)).toNat=I.length-1 from CD).symm▸vF _
  ·unfold jg;simp;exact dt
  ·have:=(oW.mp ai);lia
  ·obtain⟨gz,rfl,p4,S3⟩:=aP
   refine⟨af.cW,λb H=>.inl H,.one (.mono (.of (.ret (d:=.raw (.ref af.h)) (.name rfl)) p4.ft) λo q=>?_)⟩
   subst q
   have HZ:∀a∈af.all,a∉σ.at:=λa aY=>by
    have up:∀{a:XM},a∈σ.at->a∈cC.at:=λh=>HT HY h
    rcases Bf aY with rfl|rfl|rfl|aY
    ·exact λq=>qq.new _ (.head _) (up q)
    ·exact λq=>qq.new _ (.tail _ (.head _)) (up q)
    ·exact λq=>qq.new _ (.tail _ (.tail _ (.head _))) (up q)
    ·exact wU.new a aY
   refine⟨gz,af,rfl,p4,λp ar=>S3.keep p.1 p.2 (λq=>HZ p.1 ?_ (dr ar)) (qq.old p (HY p ar)),HZ⟩
   rcases Bf q with q|q|q|q
   ·exact q▸.head _
   ·exact q▸.tail _ (.head _)
   ·exact q▸.tail _ (.tail _ (.head _))
   ·exact .tail _ (.tail _ (.tail _ (XS _ q)))
 ·intro o dG
  refine gI dG λY af aB a1 cw=>?_
  subst aB
  exact⟨[],Y,rfl,λb H=>HT cw.old H,af,rfl,a1,cw⟩
end
noncomputable def wV(a:Int)(n:Nat):List V:=(XO n).map λ(i:Nat)=>V.int (a-(i:Int))
inductive H0(aa:XM)(P:XM->Prop)(h:Zu)(ds:List V):Prop
 |mk (x:Int) (aq:IsRangeIter h aa x ds.length (-1)) (r:ds=(XO ds.length).map λ(i:Nat)=>V.int (x-(i:Int)))
theorem S4{aa:XM}(bK:A.handled=none){x:Str}:g9 G A σ (.Name x p) [aa] [] aa (H0 aa) where
 mono:=λP P' h ah ds aG aL bz=>by
  cases aG with|mk x aq r=>
  exact⟨x,bz aa _ (.inl (.head _)) aq,r⟩
 next:=λpr s Q E d ds W cH aG aA=>by
  cases aG with|mk x aq r=>
  refine afE aq (Int.natCast_pos.mpr (ZL _)) λah kT c1=>?_
  rw[Yi,Z',Yb,X_]at r
  injection r with bO dq
  refine aA _ {s with heap:=ah,toks:=s.toks+1} (.sameBut c1 (.head _)) (by rw[bO];exact(Int.sub_zero x).symm▸bu.int x _) λbX cI aR=>sE (aR _ (.refl _ _) ⟨x+-1,?_,?_⟩)
  ·rw[Yi,aa4,Int.natCast_one,af1]at kT
   exact kT
  ·conv=>lhs;rw[dq]
   refine Yf λi _=>?_
   show V.int (x-((i+1:Nat):Int))=V.int (x+-1-(i:Int))
   rw[aa4,afa (i:Int),<-ahG];rfl
 done:=λpr s Q E W aG aA=>by
  cases aG with|mk x aq r=>
  refine jO (afQ bK aq (Int.le_refl 0) λah he hz=>?_)
  exact aA _ (.extBut he (.head _) hz)
 self:=λP s Q E ds aG aA=>by
  cases aG with|mk x aq r=>
  exact afR aq aA
section
variable{pos:Pos}
theorem e0.S5{x:Str}{f:Yy}{n m:Int}(hf:aN G k sc σ Γ f (.raw (.type "range")))(O:aN G k sc σ Γ e (.int m))(ae:aN G k sc σ Γ b8 (.int n))(a2:aN G k sc σ Γ l7 (.int (-1)))(hm:m<2^60)(kX:-(2^60)<=m)(az:n<2^60)(jN:-(2^60)<=n)
  (he:autoParam (dU e [b8,l7]) aI) (gY:autoParam (dU b8 [l7]) aI) (pf:autoParam (dU l7 []) aI)
  (aR:autoParam (ik f [e,b8,l7] pos) aI):e0 G k sc σ S Γ (.Name x p) (.Call f [e,b8,l7] [] pos) (wV m (m-n).toNat):=by
 intro A env pr s Q E R aa W F h
 rw[aR]
 refine XA (hf A env pr s _ _ R aa W F λv aj ax a0=>?_)
 have cM:=a0.dB
 subst cM
 refine iY (.type _) R aa (W.keep ax) (F.keep ax) (.cons O (.cons ae (.cons a2 .nil pf) gY) he) (he env) (by rw[gY env,pf env];rfl) λvs ao aM bG=>?_
 refine fm bG.xZ λ_ _ _ aB a b c=>?_
 subst aB
 obtain⟨t,rfl⟩:=a.int_inv
 obtain⟨u,rfl⟩:=b.int_inv
 obtain⟨v,rfl⟩:=c.int_inv
 refine call_range_3 aH ?_ (.inl (yW aH))
 have bx:bb ao {ao with heap:=ao.heap.push {cls:=.type "range",data:=.fields #[.int m t,.int n u,.int (-1) v]}}:=.push _ _
 refine h _ _ ((ax.trans aM).trans bx) λbX cI aA=>?_
 generalize ui:({ao with heap:=ao.heap.push {cls:=.type "range",data:=.fields #[.int m t,.int n u,.int (-1) v]}}:XG)=bI at bx aA
 refine agU (by rw[<-ui];exact XU _ rfl) (small_down (by lia) (by lia) (by lia) (by lia)) ?_
 refine aA _ [bI.heap.objs.size] [] (H0 bI.heap.objs.size) [bI.heap.objs.size] _ (.push _ bI.toks) (λ_=>S4 R.handled) (λb H=>?_) (λb H=>H) (λb H=>cZ H) ⟨m,?_,?_⟩
 ·rw[XD.mp H];exact⟨((ax.trans aM).trans bx).size,by simp⟩
 ·have:((wV m (m-n).toNat).length:Int)=adF m n (-1):=by
   simp only[rangeSize_downNat]
   delta wV
   simp only[XJ,Yc]
  rw[this]
  exact XU _ rfl
 ·delta wV
  simp only[XJ,Yc]
theorem bR.Bg{x:Str}(O:cc G k sc T σ Γ e R)(cz:∀Y d,R Y d->P (.next Y ((x,d)::Γ)))(ag:autoParam (sc.names.lookup x=some .cell) aI)(aL:autoParam (sc.kind=.function) aI)
  (aG:autoParam (∀env,env.scope=sc->swapsWith e (some (.Name x pos)) p.line env=pure false) aC):bR G k sc T σ Γ (.Assign [.Name x pos] e p) P:=by
 intro A env pr s Q E R aa W F aA
 refine acw (O A env pr s _ _ R aa W F (λY d v J ar st bc b7 r=>?_)) (aG env aa.scope)
 refine lD (by rw[aa.scope];exact aL) (.inr (by unfold Yh;rw[aa.scope];exact ag)) b7 r λdn aJ iw=>?_
 refine aA _ _ dn (cz Y d ar) ?_ ⟨rfl,bc.aJ aJ λb H=>b7.c' b H.b0,iw⟩
 exact(st.mono λ_ q=>.inl q).trans (.of aJ) λb H=>.inl (.inr (H.eb λy bk=>by rw[XD.mp bk];exact .inr ag))
theorem bR.Bh{x:Str}(O:aN G k sc σ Γ e d)(ag:autoParam (sc.names.lookup x=some .cell) aI)(aL:autoParam (sc.kind=.function) aI)
  (aG:autoParam (∀env,env.scope=sc->swapsWith e (some (.Name x pos)) p.line env=pure false) aC):bR G k sc T σ Γ (.Assign [.Name x pos] e p) (·=.next σ ((x,d)::Γ)):=
 .Bg (.of O) (λY dM h=>by obtain⟨rfl,rfl⟩:=h;rfl) ag aL aG
theorem mw.on{h f:α->V}{l:List α}:∀{acc:List V},(∀a∈l,∃Γ₁,hH G k sc σ bh (h a) Γ Γ₁ xs/\Sub Γ Γ₁/\cc G k sc T σ Γ₁ elt (λY d=>Y=σ/\d=f a))->mw G k sc T bh elt Γ xs (λY outs=>Y=σ/\outs=acc++l.map f) (l.map h) σ acc:=by
 induction l with
 |nil=>exact λ_=>⟨rfl,(Y0 _).symm⟩
 |cons a l ih=>
  intro acc af
  refine gU (af a (.head _)) λΓ₁ O ae a2=>?_
  refine⟨Γ₁,_,O,ae,a2,λY e q=>?_⟩
  rw[q.1,q.2]
  have:=ih (acc:=acc++[f a]) λb H=>af b (.tail _ H)
  rw[YK]at this
  exact this
theorem uj{f:Nat->V}:kn ((XO n).map f)=(XO n).map λi=>V.tuple [ay i,f i]:=by
 delta kn
 refine Y3 ?_ λi O ae=>?_
 ·simp only[XJ,List.length_zipIdx,XJ,XJ]
 ·simp[ay]
end
theorem S6(l:List Nat):∀k:Nat,((XO l.length).map λj=>((l.getD j 0*8^(j+k):Nat):Int)).sum=((8^k*fG l:Nat):Int):=by
 induction l with
 |nil=>exact λk=>rfl
 |cons w l ih=>
  intro k
  simp only[Yi,Z',Yb,X_,aaJ]
  have e:(XO l.length).map ((λj=>(((w::l).getD j 0*8^(j+k):Nat):Int))∘afu)=(XO l.length).map λj=>((l.getD j 0*8^(j+(k+1)):Nat):Int):=by
   refine Yf λj _=>?_
   show((l.getD j 0*8^(j.succ+k):Nat):Int)=_
   rw[aaC,<-Nat.add_succ]
  simp only[e,ih (k+1)]
  show((w*8^(0+k):Nat):Int)+_=((8^k*(w+8*fG l):Nat):Int)
  simp only[<-aa4,Yq,aam,aa7,YT w,aeP]
abbrev n2:YI:=(b6 28).2
abbrev qr(i:Nat):ZF:=((b6 28).1[i]?).getD (.Break default)
abbrev mR(i:Nat):ZF:=((nP (qr 2))[i]?).getD (.Break default)
def iJ(I:List (List Nat))(r:Nat):Nat:=fG (I.getD r [])
def mc(I:List (List Nat))(aO:List Nat)(r:Nat):V:=.tuple [ay (iJ I r / 8^aO.getD r 0),ay (iJ I r / 8^(aO.getD r 0-1)%8),ay (aO.getD r 0)]
def g6(I:List (List Nat))(aO:List Nat):List V:=(XO I.length).map (mc I aO)
def oY(I:List (List Nat)):List Nat:=(XO I.length).map (iJ I)
def H1(I:List (List Nat)):bD:=[("rings",.list []),("numbers",.list (aV (oY I))),("ways",.list (I.map dI))]
def uk(I:List (List Nat))(aO:List Nat)(rings:List (List (List Int))):bD:=[("hands",.list (g6 I aO)),("rings",.list (rings.map gB)),("numbers",.list (aV (oY I))),("ways",.list (I.map dI))]
noncomputable def gF(I:List (List Nat)):List Nat:=XR I.length 1
structure ly(I:List (List Nat))(aO:List Nat):Prop where
 g:GoodG I aO
 pos:∀r,r<I.length->1<=aO.getD r 0
theorem ly.len(N:ly I aO):I.length<=5/\0<I.length:=by have:=N.g.n;lia
theorem oZ{f:α->V}{l:List α}(h:l.length<=5):(l.map f).length<=YD:=b1 (by rw[XJ];exact XC h aH)
theorem qs{f:Nat->V}(h:n<=5):((XO n).map f).length<=YD:=oZ (by rw[Yc];exact h)
theorem wW{f:α->V}{l:List α}(h:l.length<=5):(l.map f).length<2^62:=by rw[XJ];exact XW h aH
theorem H2(h:n<=5):(n:Int)<2^60/\-(2^60)<=(n:Int):=by lia
theorem r8(ai:r<I.length):I.getD r []∈I:=by
 rw[(show I.getD r []=I[r]from by simp[ai])];exact Ya ai
theorem H3(dJ:∀row∈I,∀w∈row,w<=7)(cn:∀r,(I.getD r []).length<=5):iJ I r<2^29:=by
 by_cases ai:r<I.length
 ·refine XE (A9 (dJ _ (r8 ai))) (XC (ZY aH (cn r)) aH)
 ·delta iJ
  rw[(show I.getD r []=[]from by simp[XB,ai])];decide
theorem S7(P:cK G aK)(dJ:∀row∈I,∀w∈row,w<=7)(az:I.length<=5)(cn:∀r,(I.getD r []).length<=5):bR G (k+18) n2 T σ [("ways",.list (I.map dI))] (qr 0) (·=.next σ (H1 I)):=by
 refine .swap (names:=["rings","numbers"]) (ds:=[.list [],.list (aV (oY I))]) (.tuple (.cons (.list .nil c7) (.cons ?_ .nil)) c7) rfl ?_
 ·have a3:I.map dI=(XO I.length).map λi=>dI (I.getD i []):=by
   refine Y3 (by simp) λi O ae=>?_
   simp[XB,(by simpa using ae)]
  have bH:aV (oY I)=(XO I.length).map λi=>ay (iJ I i):=by unfold oY aV;rw[X_];rfl
  refine .comp (S:=[]) (ds:=I.map dI) (xs:=["row"]) (.list (.name rfl) .list) ?_ (bH▸qs az)
  rw[a3,bH]
  refine d3.on λi aq=>⟨_,.name,.cons .refl rfl,?_⟩
  have H4:=cn i
  refine .to (.call (.cF P rfl) (.dV _) (.cons (d:=.list (hw ((XO (I.getD i []).length).map λj=>(((I.getD i []).getD j 0*8^(j+0):Nat):Int)))) ?_ .nil) (bW.sum (S:=[]) .list)) ?_
  ·refine .comp (S:=[]) (ds:=kn (aV (I.getD i []))) (xs:=["at","way"]) (.enum (.cF P rfl) (.name rfl) .list) ?_ (oZ (by rw[XJ,Yc];exact H4))
   simp only[wH ay 0,hw,X_]
   refine d3.on λj bq=>⟨_,.tuple (.cons .name (.cons .name .nil)),.cons (.cons .refl rfl) rfl,?_⟩
   have jB:=X2.mp bq
   have bz:(I.getD i []).getD j 0<=7:=by
    rw[XB,XI jB]
    exact dJ _ (r8 (X2.mp aq)) _ (Ya jB)
   exact .bin (.name rfl) (.bin .bf (.name rfl) (.rb aH (by have:=XE jB H4;exact jK))) (.tl (XW bz aH))
  ·rw[S6,abc,adb];rfl
 ·exact lS rfl rfl
theorem H5{N w k1:Nat}{cb dw el dW:Pos}{a3 bH dP:Yy}(P:cK G aK)(O:(bw,.tab 85 cV)∈σ)(ae:(bL,.tab 92 dN)∈σ)(aU:∀b∈[bw,bL],b∈σ.at)(bz:w<4)(lc:N<2^29)(Bj:aN G (k+18) sc σ Γ a3 (ay N))(Bk:aN G (k+18) sc σ Γ bH (ay w))(Bl:aN G (k+18) sc σ Γ dP (ay g))
  (aL:autoParam (sc.kind=.function) aI) (ag:autoParam (sc.names.lookup ("_law_parted":Str)=some .globalImplicit) aI) (he:autoParam (dU a3 [bH]) aI) (gY:autoParam (dU bH []) aI) (wX:autoParam (dU dP []) aI) :
  cc G (k+18) sc [bw,bL] σ Γ (.BinOp (.Call (.Name "_law_parted" cb) [a3,bH] [] dw) .Add (.Tuple [dP] k1 el) dW) (λY d=>Y=σ/\d=.tuple [ay (N / 8),ay (N%8),ay g]):=by
 refine .bin (gP:=λY d=>Y=σ/\d=.tuple [ay (N / 8),ay (N%8)]) (R₂:=λ_ _ Y d=>Y=σ/\d=.tuple [ay g]) aU (.call (.globT P rfl aL ag) (P.calls (i:=27) rfl) (.cons Bj (.cons Bk .nil gY) he) ((Mz (k:=k) P O ae bz lc).room Cu) aU he (λenv=>by rw[gY];rfl)) ?_ ?_
 ·intro a9 bZ t4
  refine bC λ_ Bm=>?_
  obtain⟨rfl,rfl⟩:=t4
  refine Bm ?_
  exact .of (.tuple (.cons Bl .nil wX) c7)
 ·rintro a9 bZ cC d₂ ⟨rfl,rfl⟩ ⟨rfl,rfl⟩
  exact⟨_,.KW c7 (by simp) (by simp),rfl,rfl⟩
theorem S8(ai:r<I.length):mc I (gF I) r=.tuple [ay (iJ I r / 8),ay (iJ I r%8),ay 1]:=by
 delta mc
 rw[(show(gF I).getD r 0=1 from by simp[gF,XB,ai])];simp
theorem S9(P:cK G aK)(O:(bw,.tab 85 cV)∈σ)(ae:(bL,.tab 92 dN)∈σ)(aU:∀b∈[bw,bL],b∈σ.at)(dJ:∀row∈I,∀w∈row,w<=7)(az:I.length<=5)(cn:∀r,(I.getD r []).length<=5):bR G (k+18) n2 [bw,bL] σ (H1 I) (qr 1) (·=.next σ (uk I (gF I) [])):=by
 have hx:aV (oY I)=(XO I.length).map λi=>ay (iJ I i):=by unfold oY aV;rw[X_];rfl
 refine .Bg (R:=λY d=>Y=σ/\d=.list (g6 I (gF I))) (.comp (S:=[]) (ds:=kn (aV (oY I))) (xs:=["room","number"]) (RL:=λY outs=>Y=σ/\outs=[]++g6 I (gF I)) (.enum (.cF P rfl) (.name rfl) .list) aU (λ_ q=>cZ q) ?_ (λY outs q=>⟨q.1,by rw[q.2];rfl⟩) (by rw[hx,uj];exact qs az)) ?_
 ·simp only[hx,uj]
  refine mw.on λi aq=>⟨_,.tuple (.cons .name (.cons .name .nil)),.cons (.cons .refl rfl) rfl,?_⟩
  rw[S8 (X2.mp aq)]
  exact H5 P O ae aU (YO _ aH) (H3 dJ cn) (.name rfl) (.bin (.name rfl) (.bf (n:=4)) (.j1 aH)) .bf
 ·rintro Y d ⟨rfl,rfl⟩
  rfl
def Bn(I:List (List Nat))(aO:List Nat)(rings:List (List (List Int)))(t:Nat):bD:=("turn",ay t)::uk I aO rings
def Bo(I:List (List Nat))(aO:List Nat)(rings:List (List (List Int)))(t:Nat):bD:=("lead",.list (aV (d_ I aO)))::Bn I aO rings t
def ie(I:List (List Nat))(aO:List Nat):List (List Nat):=j' (d_ I aO) (I.length-1)
def qt(I:List (List Nat))(aO:List Nat)(rings:List (List (List Int)))(t:Nat):bD:=("found",.list ((ie I aO).map dI))::Bo I aO rings t
theorem H6(P:cK G aK)(N:ly I aO)(dJ:∀row∈I,∀w∈row,w<=7):bR G (k+18) n2 T σ (Bn I aO rings t) (mR 0) (·=.next σ (Bo I aO rings t)):=by
 have az:=N.len.1
 have a3:aV (d_ I aO)=(XO I.length).map λi=>ay (cQ I i (aO.getD i 0)):=by unfold d_ aV;rw[X_];rfl
 refine .Bh (.comp (S:=[]) (ds:=kn (g6 I aO)) (xs:=["room","left","rest","gone"]) (.enum (.cF P rfl) (.name rfl) .list) ?_ (a3▸qs az))
 simp only[a3]
 unfold g6
 rw[uj]
 refine d3.on λi aq=>⟨_,.tuple (.cons .name (.cons (.tuple (.cons .name (.cons .name (.cons .name .nil)))) .nil)),.cons (.cons (.cons (.cons .refl rfl) rfl) rfl) rfl,?_⟩
 have eQ:=X2.mp aq
 refine .to (.il (b:=decide (iJ I i / 8^(aO.getD i 0-1)%8<I.length)) (bZ:=ay (iJ I i / 8^(aO.getD i 0-1)%8)) (d₂:=ay i) (.cmp (.name rfl) (.to (.call (.cF P rfl) (.dV _) (.cons (.name rfl) .nil) (bW.len (S:=[]) .list (wW az))) (dM:=ay I.length) (by rw[XJ])) .ltN) (λ_=>.name rfl) λ_=>.name rfl) ?_
 rw[SP dJ eQ (N.pos i eQ)]
 by_cases h:iJ I i / 8^(aO.getD i 0-1)%8<I.length
 ·have ah:fG (I.getD i []) / 8^(aO.getD i 0-1)%8<I.length:=h
  rw[if_pos ah,decide_eq_true h];rfl
 ·have ah:¬fG (I.getD i []) / 8^(aO.getD i 0-1)%8<I.length:=h
  rw[if_neg ah,decide_eq_false h];rfl
theorem H7(P:cK G aK)(N:ly I aO):bR G (k+18) n2 T σ (Bo I aO rings t) (mR 1) (·=.next σ (qt I aO rings t)):=by
 have Bp:I.length-1<=5:=XC (Zn _ _) N.len.1
 have e:(ie I aO).map dI=((((XO (I.length-1)).map λi=>I.length-1-i).map λr=>dI (f7 (d_ I aO) r)).filter wi).map λd=>d:=by
  simp only[adC]
  delta ie j'
  rw[GU,X_ (f:=f7 (d_ I aO))];rfl
 refine .Bh ?_
 rw[e]
 refine .comp (S:=[]) (ds:=((XO (I.length-1)).map λi=>I.length-1-i).map λr=>dI (f7 (d_ I aO) r)) (xs:=["ring"]) (.list ?_ .list) (d3.filterMap _ _ λd hd=>?_) (b1 (by refine XC (Yg (XJ ..)) (XC (abk ..) ?_);rw[XJ,XJ,Yc];exact XC (XC (Zn _ _) N.len.1) aH))
 ·rw[X_]
  refine .comp (S:=[]) (ds:=(XO (I.length-1)).map λi=>ay (I.length-1-i)) (xs:=["room"]) (.to (.S5 (.cF P rfl) (m:=((I.length-1:Nat):Int)) (n:=((0:Nat):Int)) (.bin (.to (.call (.cF P rfl) (.dV _) (.cons (.name rfl) .nil) (bW.len (S:=[]) .list (wW N.len.1))) (dM:=ay I.length) (by rw[XJ])) (.bf (n:=1)) (.ou (m:=1) N.len.2)) .bf (.to (.un (.bf (n:=1)) .hb) rfl) (H2 Bp).1 (H2 Bp).2 aH aH) ?_) ?_ (qs Bp)
  ·rw[show(((I.length-1:Nat):Int)-((0:Nat):Int)).toNat=I.length-1 from X0 _]
   exact Yf λi aq=>congrArg V.int (ahb (Ye (X2.mp aq))).symm
  ·refine d3.on λi aq=>⟨_,.name,.cons .refl rfl,?_⟩
   exact .call (.globT P rfl) (P.calls (i:=23) rfl) (.cons (.name rfl) (.cons (.name rfl) .nil)) (bW.room (Ej P (k:=0) (S:=[]) (lead:=d_ I aO) (room:=I.length-1-i) .list (λx ag=>aag (Bb N.g x ag) (qp.trans (aax N.len.2).symm).symm) (qp.symm▸XW (Zn _ _) (aaD N.len.2 aan)) (XW (qp.symm▸N.len.1) aH)) (Y1 _ _))
 ·refine bB (XZ.mp hd) λr ai aB=>?_
  subst aB
  refine⟨_,.name,.cons .refl rfl,.one ?_,λ_=>.name rfl⟩
  have aR:=a8.DU (G:=G) (k:=k+18) (σ:=σ) (S:=[]) (i2:=[]) (l:=f7 (d_ I aO) r) (m:=([]:List Nat)) cj.nat 0 cO.nat .list .list
  rw[AE]
  exact .cmp (.name rfl) (.list .nil c7) aR
section
variable{st:cm}{draw:Nat}
theorem um{l m:List Nat}(h:l.length=m.length)(e:∀i,i<l.length->l.getD i 0=m.getD i 0):l=m:=by
 apply Y3 h
 intro i O ae
 have:=e i O
 rwa [r5 O,r5 ae]at this
theorem Good.S_(h:Good I st)(ah:Good I df)(e:bU st=bU df):st.lead=df.lead:=by
 refine um (h.dE.trans ah.dE.symm) λi aq=>?_
 by_cases h0:i=0
 ·subst h0;rw[h.qn,ah.qn]
 ·have O:=aaF h0
  have ae:=h.dE▸aq
  simp only[h.ld i O ae,ah.ld i O ae,e]
theorem Good.Xo(h:Good I st)(ah:Good I df)(e:bU st=bU df):st.gone=df.gone:=um (h.fj.trans ah.fj.symm) λi _=>congrFun e i
theorem Good.S'(h:Good I st)(ah:GoodG I aO)(e:bU st=fv aO):st.lead=d_ I aO:=by
 refine um (h.dE.trans qp.symm) λi aq=>?_
 replace aq:=h.dE▸aq
 by_cases h0:i=0
 ·subst h0;rw[h.qn,Ba ah]
 ·have O:=aaF h0
  simp only[h.ld i O aq,wQ aq,e,r7 O]
theorem Ta(az:I.length=4\/I.length=5)(h0:I.getD 0 []=[])(H:left I (bU (eN I))<=16)(aP:∀s∈order,s<=I.length-1)(uh:∀r,1<=r->r<=I.length-1->r∈order):
  let one:=jb I draw 16 0 (eN I)
  let uo:=jc I order (eN I)
  let uq:=ic I 16 (XR I.length 1) []
  Good I one/\Good I uo/\GoodG I uq.1/\bU uo=bU one/\bU one=fv uq.1/\uo.lead=one.lead/\one.lead=d_ I uq.1/\gi gV uo.rings=gi gV one.rings/\gi gV uq.2=gi gV one.rings/\
   Run (cQ I) (I.length-1) (bU (eN I)) one.rings (bU one):=by
 intro one uo uq
 refine bC λ_ a'=>?_
 refine gH (lx az) λl1 hx Tb=>?_
 refine oc (So (draw:=draw) 16 0 l1 H) λc9 a1 cw e7 gJ=>?_
 refine oc (HL (order:=order) (XW H aH) aP uh l1 h0) λdQ fI gc oI oJ=>?_
 obtain⟨fe,eR,eI,fy,cJ⟩:=SU (I:=I) (aO:=XR I.length 1) (rings:=[]) 16 ⟨az,Zb,h0⟩ (by rw[<-hx];exact H)
 refine a' ?_
 rw[Tb,acL]at cw gc
 rw[acL]at eI
 rw[<-hx]at eR
 refine d6 (A4 fI oI a1 e7) λcV cb=>?_
 obtain⟨dN,dw⟩:=A4 eR fy a1 e7
 refine⟨gJ,oJ,cJ,cV,dN.symm,oJ.S_ gJ cV,gJ.S' cJ dN.symm,?_,?_,?_⟩
 ·rw[cw,gc];exact wc gh.gV cb
 ·rw[cw,eI];exact wc gh.gV dw
 ·rw[cw];exact a1
theorem H8{ls:List (List (List Int))}(h:Run (cQ I) (I.length-1) bl ls ee)(ma:∀r,bl r<=(I.getD r []).length+1):∀r,ee r<=(I.getD r []).length+1:=by
 induction h with
 |nil=>exact ma
 | @cons bl c ls ee au ai ih=>
  refine ih λr=>?_
  by_cases hm:r∈c
  ·rw[l_ hm];exact aae (au.low hm)
  ·rw[jE hm];exact ma r
end
def gb(I:List (List Nat))(aO:List Nat):List Nat:=(ie I aO).getD 0 []
def ur(I:List (List Nat))(aO:List Nat)(rings wY:List (List (List Int)))(t:Nat):bD:=("rings",.list (wY.map gB))::qt I aO rings t
theorem Bq(N:ly I aO)(h:ie I aO≠[]):(∀r∈gb I aO,1<=r/\r<I.length)/\(gb I aO).length<=5/\gn (cQ I) (I.length-1) (fv aO) (gb I aO):=by
 have R:=HQ N.g h
 have az:=N.len
 refine⟨λr ai=>⟨(R.en r ai).1,XW (R.en r ai).2 (aaD az.2 aan)⟩,?_,R⟩
 ·have hm:gb I aO∈ie I aO:=by
   have ar:=aav.mpr h
   delta gb
   simp only[XB,XI ar]
   exact Ya ar
  refine bB (XZ.mp (Z3.mp hm).1) λq _ e=>?_
  have:=GR (d_ I aO) q
  rw[e,qp]at this
  exact XC this az.1
theorem H9(h:ie I aO≠[]){cb dw el:Pos}{bt:Nat}(v:aN G k sc σ Γ (.Name "found" cb) (.list ((ie I aO).map dI))):aN G k sc σ Γ (.Subscript (.Name "found" cb) (.Constant (.int 0) bt dw) el) (.list (aV (gb I aO))):=by
 have ar:=aav.mpr h
 refine .gZ v .bf (.iZ (i:=((0:Nat):Int)) aH ?_ aH)
 delta gb
 rw[X0,X1,XI ar,XB,XI ar];rfl
theorem H_(P:cK G aK){P':hu->Prop}(O:ie I aO=[]->P' (.brk σ (qt I aO rings t)))(ae:ie I aO≠[]->P' (.next σ (qt I aO rings t))):bR G (k+18) n2 T σ (qt I aO rings t) (mR 2) P':=by
 have aR:=a8.k9 (G:=G) (k:=k+18) (σ:=σ) (S:=[]) (i2:=[]) (l:=ie I aO) (m:=([]:List (List Nat))) cj.dI 1 cO.dI .list .list
 refine .fz (b:=decide (ie I aO=[])) (.cmp (.name rfl) (.list .nil c7) aR) (λH=>?_) (λH=>?_)
 ·exact .one (.mono .brk λo aP=>by subst aP;exact O (of_decide_eq_true H))
 ·exact .nil (ae (of_decide_eq_false H))
theorem Tc(ai:r<I.length):(g6 I aO)[((r:Nat):Int).toNat]?=some (mc I aO r):=by
 delta g6
 rw[X0,X1,YN ai];rfl
theorem Td(ai:r<I.length):(aV (d_ I aO))[((r:Nat):Int).toNat]?=some (ay ((d_ I aO).getD r 0)):=by
 have:r<(d_ I aO).length:=by rw[qp];exact ai
 rw[X0,X1,XI this,XB,XI this];rfl
theorem Te(P:cK G aK)(N:ly I aO)(h:ie I aO≠[])(gE:rings.length<=1000):bR G (k+18) n2 T σ (qt I aO rings t) (mR 3) (·=.next σ (ur I aO rings (rings++[oV I aO (gb I aO)]) t)):=by
 refine gH (Bq N h) λn1 b2 _=>?_
 delta ur
 rw[Yx]
 refine .eS (.bin (.name rfl) (.list (.cons (d:=gB (oV I aO (gb I aO))) ?_ .nil) c7) (.h2 (b1 (by rw[XJ];exact XC (aae gE) aH))))
 refine .call (.cF P rfl) (.dV _) (.cons (d:=.list (((gb I aO).map λr:Nat=>[(r:Int),((aO.getD r 0:Nat):Int),(((d_ I aO).getD r 0:Nat):Int)]).map hk)) ?_ .nil) (bW.GA (λx ag=>by obtain⟨r,_,rfl⟩:=XZ.mp ag;exact λq=>uL q) (by rw[XJ];exact XW b2 aH))
 simp only[X_]
 refine .comp (S:=[]) (ds:=aV (gb I aO)) (xs:=["room"]) (.list (H9 h (.name rfl)) .list) ?_ (oZ b2)
 refine d3.on λr ai=>⟨_,.name,.cons .refl rfl,?_⟩
 have dj:=(n1 r ai).2
 have H:((r:Nat):Int)<2^62:=abe.mpr (XE dj (XC N.len.1 aH))
 exact .to (.tuple (.cons (.name rfl) (.cons (.mu (.gZ (.name rfl) (.name rfl) (.iZ (YH _) (Tc dj) (by lia))) (.bf (n:=2)) (.mr aH rfl aH)) (.cons (.gZ (.name rfl) (.name rfl) (.iZ (YH _) (Td dj) (by lia))) .nil))) c7) rfl
theorem Tf(P:cK G aK)(N:ly I aO)(O:(bw,.tab 85 cV)∈σ)(ae:(bL,.tab 92 dN)∈σ)(aU:∀b∈[bw,bL],b∈σ.at)(dJ:∀row∈I,∀w∈row,w<=7)(cn:∀r,(I.getD r []).length<=5)(h:ie I aO≠[]){wY:List (List (List Int))}:
  bR G (k+18) n2 [bw,bL] σ (ur I aO rings wY t) (mR 4) (·=.next σ (("hands",.list (g6 I (iI aO (gb I aO))))::ur I aO rings wY t)):=by
 refine gH (Bq N h) λn1 b2 _=>?_
 refine .Bg (R:=λY d=>Y=σ/\d=.list (g6 I (iI aO (gb I aO)))) (.comp (S:=[]) (ds:=kn (g6 I aO)) (xs:=["room","hand"]) (RL:=λY outs=>Y=σ/\outs=[]++g6 I (iI aO (gb I aO))) (.enum (.cF P rfl) (.name rfl) .list) aU (λ_ q=>cZ q) ?_ (λY outs q=>⟨q.1,by rw[q.2];rfl⟩) (by unfold g6;rw[uj];exact qs N.len.1)) ?_
 ·delta g6
  simp only[uj]
  refine mw.on λi aq=>⟨_,.tuple (.cons .name (.cons .name .nil)),.cons (.cons .refl rfl) rfl,?_⟩
  have eQ:=X2.mp aq
  have cE:i<aO.length:=by rw[N.g.fj];exact eQ
  have kp:=N.pos i eQ
  have aR:=a8.DV (G:=G) (k:=k+18) (σ:=σ) (S:=[]) (z:=i) (l:=gb I aO) cj.nat 0 cO.nat .list
  refine .il (b:=decide (i∈gb I aO)) (.cmp (.name rfl) (H9 h (.name rfl)) aR) (λH=>?_) λH=>?_
  ·have hm:=of_decide_eq_true H
   have e:mc I (iI aO (gb I aO)) i=.tuple [ay (iJ I i / 8^aO.getD i 0 / 8),ay (iJ I i / 8^aO.getD i 0%8),ay (aO.getD i 0+1)]:=by
    delta mc
    rw[wR cE,if_pos hm,SN,adz]
   rw[e]
   exact H5 P O ae aU (YO _ aH) (XW (abF _ _) (H3 dJ cn)) (.mu (.name rfl) (.bf (n:=0)) (.mr aH rfl aH)) (.bin (.bin (.name rfl) (.name rfl) .g2) (.bf (n:=4)) (.j1 aH)) (.bin (.mu (.name rfl) (.bf (n:=2)) (.mr aH rfl aH)) (.bf (n:=1)) .g2)
  ·have hm:=of_decide_eq_false H
   have e:mc I (iI aO (gb I aO)) i=mc I aO i:=by
    delta mc
    rw[wR cE,if_neg hm]
   rw[e]
   exact .of (.name rfl)
 ·rintro Y d ⟨rfl,rfl⟩
  rfl
theorem ly.bump(N:ly I aO)(h:ie I aO≠[]):ly I (iI aO (gb I aO))/\left I (fv (iI aO (gb I aO)))<left I (fv aO):=by
 refine gH (Bq N h) λn1 b2 R=>?_
 refine⟨⟨⟨N.g.n,(Bc).trans N.g.fj,N.g.z⟩,λr ai=>?_⟩,?_⟩
 ·rw[wR (by rw[N.g.fj];exact ai)]
  have:=N.pos r ai
  split
  ·exact YP this
  ·exact this
 ·rw[HO N.g λr ai=>⟨(n1 r ai).1,Y8 (n1 r ai).2⟩]
  exact r4 R N.len.2
def Br(I:List (List Nat))(aO:List Nat)(rings:List (List (List Int))):bD:=("lead",.list (aV (d_ I aO)))::uk I aO rings
def Tg(I:List (List Nat))(aO:List Nat)(rings:List (List (List Int)))(σ:ba)(o:hu):Prop:=(ie I aO=[]/\o=.brk σ (Br I aO rings))\/(ie I aO≠[]/\o=.next σ (uk I (iI aO (gb I aO)) (rings++[oV I aO (gb I aO)])))
theorem Th(P:cK G aK)(O:(bw,.tab 85 cV)∈σ)(ae:(bL,.tab 92 dN)∈σ)(aU:∀b∈[bw,bL],b∈σ.at)(dJ:∀row∈I,∀w∈row,w<=7)(cn:∀r,(I.getD r []).length<=5){pos:Pos}(f:Nat):∀(t:Nat) (aO:List Nat) (rings:List (List (List Int))),ly I aO->left I (fv aO)<f->rings.length+f<=1000->
  hL G (k+18) n2 [bw,bL] (.Name "turn" pos) [mR 0,mR 1,mR 2,mR 3,mR 4] (·=.next σ (Br I (ic I f aO rings).1 (ic I f aO rings).2)) ((Zr t f).map ay) σ (uk I aO rings):=by
 induction f with
 |zero=>exact λt aO rings _ aw _=>absurd aw (Y_ _)
 |succ f ih=>
  intro t aO rings N aw gE
  have ai:=XC (X4 _ _) gE
  refine⟨Bn I aO rings t,["turn"],Tg I aO rings σ,.name,λx ag=>by rw[XD.mp ag];exact .inr rfl,?_,?_⟩
  ·by_cases b':ie I aO=[]
   ·refine .shrink (eA:=(·=.brk σ (qt I aO rings t))) (.seq (H6 P N dJ) (.seq (H7 P N) (.cons (H_ P (λ_=>rfl) λq=>absurd b' q) ?_))) ?_
    ·rintro o rfl
     rfl
    ·rintro o rfl
     exact⟨Br I aO rings,.cv rfl (.cv rfl (.cv rfl (.cv rfl (.cv rfl .nil)))),.inl ⟨b',rfl⟩⟩
   ·refine .shrink (eA:=(·=.next σ (("hands",.list (g6 I (iI aO (gb I aO))))::ur I aO rings (rings++[oV I aO (gb I aO)]) t))) (.seq (H6 P N dJ) (.seq (H7 P N) (.seq (H_ P (λq=>absurd q b') λ_=>rfl) (.seq (Te P N b' ai) (.one (Tf P N O ae aU dJ cn b')))))) ?_
    rintro o rfl
    exact⟨_,.cv rfl (.cv rfl (.cv rfl (.cv rfl .nil))),.inr ⟨b',rfl⟩⟩
  ·rintro o (⟨a1,rfl⟩|⟨a1,rfl⟩)
   ·dsimp only[ic]
    rw[if_pos (show j' (d_ I aO) (I.length-1)=[]from a1)]
   ·refine d6 (N.bump a1) λTi kd=>?_
    dsimp only[ic]
    rw[if_neg (show ¬j' (d_ I aO) (I.length-1)=[]from a1)]
    exact ih (t+1) (iI aO (gb I aO)) (rings++[oV I aO (gb I aO)]) Ti (XE kd (YU aw)) (by rw[Yv,Yo,acS,YL 1 f];exact gE)
theorem Tj(P:cK G aK)(O:(bw,.tab 85 cV)∈σ)(ae:(bL,.tab 92 dN)∈σ)(aU:∀b∈[bw,bL],b∈σ.at)(dJ:∀row∈I,∀w∈row,w<=7)(cn:∀r,(I.getD r []).length<=5)(az:I.length=4\/I.length=5)(hz:I.getD 0 []=[])(aw:left I (fv (gF I))<16):
  cy G (k+19) [bw,bL] σ (.ref (aK 28)) [.list (I.map dI)] (λY d=>Y=σ/\d=.tuple [.list (aV (d_ I (ic I 16 (gF I) []).1)),.list ((ic I 16 (gF I) []).2.map gB),.list (g6 I (ic I 16 (gF I) []).1)]):=by
 have N:ly I (gF I):=⟨⟨az,Zb,hz⟩,λr ai=>by simp[gF,XB,ai]⟩
 refine cy.of_body (k:=k+18) (P:=(·=.ret σ (.tuple [.list (aV (d_ I (ic I 16 (gF I) []).1)),.list ((ic I 16 (gF I) []).2.map gB),.list (g6 I (ic I 16 (gF I) []).1)]))) (P.fn 28 _ rfl) rfl ?_ ?_
 ·show cp G (k+18) n2 [bw,bL] σ [("ways",.list (I.map dI))] [qr 0,qr 1,qr 2,qr 3] _
  refine .seq (S7 P dJ N.len.1 cn) (.seq (S9 P O ae aU dJ N.len.1 cn) (.seq (.kY (S:=[]) (.to (.q3 (.cF P rfl) (n:=((16:Nat):Int)) .bf aH aH) (AH 16)) aU (λb H=>cZ H) (Th P O ae aU dJ cn 16 0 (gF I) [] N aw aH)) (.one (.ret (.tuple (.cons (.name rfl) (.cons (.name rfl) (.cons (.name rfl) .nil))) c7)))))
 ·rintro o rfl
  exact⟨[],σ,rfl,λb H=>H,rfl,rfl⟩
structure SL(K:ach)(C:XM):Prop where
 g:findIn K (.ref C) "__getitem__" = some (some (.builtin "list.__getitem__"))
 s:findIn K (.ref C) "__setitem__" = some (some (.builtin "list.__setitem__"))
section
variable{pos dK:Pos}{x:XM}
theorem Tn{P:α->Sem Bool}{a:α}{Q:Bool->XG->Prop}(h:wpAny M A (P a) (λb J=>b=false/\Q false J) E s):wpAny M A ([a].anyM P) Q E s:=
 XA (Zi h (λb J x=>by obtain⟨rfl,q⟩:=x;exact XK q) λ_ _ x=>x)
theorem H'{key:XF}{name:Str}{Q:XF->XG->Prop}(a:AC G K C)(j6:K.In s.heap)(aa:InstAt s.heap x ox C eg)(h:Q key s):wpAny (model G.prog G.w) A (sequenceKey (.ref x) key name) Q E s:=by
 refine XA (aa.type.here ?_)
 exact XA (Tn ((a.sub (M:=model G.prog G.w) j6 (b:=.type "collections.deque")).here ⟨rfl,XK h⟩))
theorem Ia{n:Int}{Q:XF->XG->Prop}(O:aN G k sc σ Γ i (.int n))(R:cs A k)(aa:cT G sc env)(W:a4 G σ pr s)(F:bg σ pr s.heap env Γ)
  (h:∀z J gw ht cG,bb s J->J.heap.IsSliceOf z (f3 (some n) gw) (f3 none ht) (f3 none cG)->Q (.ref z) J):wpAny (model G.prog G.w) A (eval (.Slice (some i) none none p) env) Q E s:=by
 refine adw ((jt.some O).part R aa W F λKX ao aM ym=>jt.none.part R aa (W.keep aM) (F.keep aM) λKY bI cu yn=>jt.none.part R aa ((W.keep aM).keep cu) ((F.keep aM).keep cu) λvs bM dz sO=>?_)
 obtain⟨gw,rfl⟩:=ym;obtain⟨ht,rfl⟩:=yn;obtain⟨cG,rfl⟩:=sO
 exact h _ _ gw ht cG (((aM.trans cu).trans dz).trans (bb.push _ bM.toks)) (.new _ _ _ _)
section
variable{z:XM}{n:Int}{gw ht cG:Tok}
theorem Ib{Q}(hz:s.heap.IsSliceOf z (f3 (some n) gw) (f3 none ht) (f3 none cG))(h:Q none s):wpAny (model prog w) A (abh (.ref z)) Q E s:=by
 refine bC λ_ a'=>?_
 obtain⟨os,qu,wZ,nv⟩:=hz
 refine a' ?_
 exact XA (aeN ⟨os,qu,wZ⟩ slice_no_index (pc rfl (XK h)))
theorem Ic{Q}(hz:s.heap.IsSliceOf z (f3 (some n) gw) (f3 none ht) (f3 none cG))(h:Q (rawPart (some n),rawPart none,rawPart none) s):wpAny (model prog w) A (ahI (.ref z)) Q E s:=by
 refine bC λ_ a'=>?_
 obtain⟨os,qu,wZ,nv⟩:=hz
 refine a' ?_
 rw[listSliceParts_eq]
 exact XA (Zv qu nv (x:=f3 none cG) rfl (XA (aeY (q5 _ _) (fK X' (XA (Zv qu nv (x:=f3 (some n) gw) rfl (XA (aeY (q5 _ _) (XA (Zv qu nv (x:=f3 none ht) rfl (XA (aeY (q5 _ _) (XK h)))))))))))))
theorem Ie{Q}(hz:s.heap.IsSliceOf z (f3 (some n) gw) (f3 none ht) (f3 none cG))(h:Q (.type "slice") s):wpAny (model prog w) A (typeOf (.ref z)) Q E s:=by
 refine bC λ_ a'=>?_
 obtain⟨os,qu,wZ,nv⟩:=hz
 refine a' ?_
 exact afP ⟨os,qu,wZ⟩ h
theorem To(ws:Array XF)(n:Nat):slicePick ws (some (n:Int)) none none=(ws.toList.drop n).toArray:=by
 have:=pick_from ws.toList n
 unfold fQ at this
 delta slicePick
 simp only[<-this]
 simp
theorem Tp(ws:Array XF):ws.extract 0 (0:Int).toNat++#[]++ws.extract (max 0 (ws.size:Int)).toNat=#[]:=by
 simp
theorem Tq{n:Nat}(h:n<=100000):¬(abC n=true):=by
 have:=b1 h
 delta abC
 rw[decide_eq_true_iff]
 exact ZS.mpr this
theorem Tr{ws:Array XF}{c:XF}{d:Option XM}{bE:Array (Option XF)}{n:Nat}{Q:ac0->XG->Prop}(hz:s.heap.IsSliceOf z (f3 (some (n:Int)) gw) (f3 none ht) (f3 none cG))(e:s.heap.get? x=some ⟨c,d,.seq ws m,bE⟩)(hsz:ws.size<=YD)
  (h:Q (.done (.ret (.ref s.heap.objs.size))) {s with heap:=s.heap.push {cls:=.type "list",data:=.seq (slicePick ws (some (n:Int)) none none)}}):wpAny (model G.prog G.w) A (Y4.«list.__getitem__» ⟨[.ref x,.ref z],[]⟩) Q E s:=by
 show wpAny _ _ (abh (.ref z) >>= _) _ _ _
 refine XA (Ib hz ?_)
 refine XA (Ie hz (fK aH (XA (Ic hz ?_))))
 refine XA (m:=ahJ (.ref x)) ?_
 refine XA (aal e rfl (XK (XA (Zg (ahj (some (n:Int)) none none ws.size nofun) ?_))))
 exact XA (aat (XK h) (XC (slicePick_size_le ws (some (n:Int)) none none) hsz))
theorem Ts{ws:Array XF}{zk:Nat}{c:XF}{w0:XM}{d:Option XM}{bE:Array (Option XF)}{Q:ac0->XG->Prop}(hz:s.heap.IsSliceOf z (f3 (some (0:Int)) gw) (f3 none ht) (f3 none cG))(e:s.heap.get? x=some ⟨c,d,.seq ws m,bE⟩)(uu:s.heap.get? w0=some {cls:=.type "list",data:=.seq #[] zk})(b':x≠w0)(hsz:ws.size<=100000)
  (h:∀ah,(∃gu,ah.get? x=some ⟨c,d,.seq #[] gu,bE⟩)->aac x s.heap ah->Q (.done (.ret .none)) {s with heap:=ah}):wpAny (model G.prog G.w) A (Y4.«list.__setitem__» ⟨[.ref x,.ref z,.ref w0],[]⟩) Q E s:=by
 show wpAny _ _ (abh (.ref z) >>= _) _ _ _
 refine XA (Ib hz ?_)
 refine XA (Ie hz (fK aH (XA (Ic hz ?_))))
 refine fK (λq=>b' (eq_of_beq q)) ?_
 refine XA (m:=ahK _ _) ?_
 refine XA (afP ⟨_,uu,rfl⟩ (pc aH ?_))
 refine XA (aal uu rfl (XK (XA (XA (aal e rfl (XK ?_))))))
 refine XA (Zg (ahj (some (0:Int)) none none ws.size nofun) ?_)
 have H:sliceBounds (some (0:Int)) none none ws.size=(0,(ws.size:Int),1):=by
  show(max 0 (min 0 (ws.size:Int)),(ws.size:Int),(1:Int))=_
  rw[agS (YH _)]
  rfl
 rw[H]
 refine pc aH (XA (aaw (fK (Tq hsz) ?_)))
 refine XA (m:=ahH _ _) ?_
 have hf:=Tp ws
 refine abW (hz:=b1 qI) (_hz':=by rw[hf];exact Yd _) e rfl (XA (agl (XK (h _ ?_ (YV ..)))))
 obtain⟨gu,b8⟩:=(show ∀f:Array XF->Array XF,f ws=#[]->∃gu,YY f ⟨c,d,.seq ws m,bE⟩=⟨c,d,.seq #[] gu,bE⟩from λf hf=>⟨_,by show Obj.mk c d (.seq (f ws) _) bE=_;rw[hf]⟩) (λxs=>xs.extract 0 (0:Int).toNat++#[]++xs.extract (max 0 (ws.size:Int)).toNat) hf
 exact⟨gu,(YZ _ e rfl).trans (congrArg some b8)⟩
end
theorem aN.Tt(a:AC G K C)(bE:SL K C)(ar:e4 C σ x bT eu items)(h0:aN G k sc σ Γ o (.raw (.ref x)))(O:aN G k sc σ Γ i (.int (n:Int)))(hsz:items.length<=100000):aN G k sc σ Γ (.Subscript o (.Slice (some i) none none p) pos) (.list (items.drop n)):=by
 intro A env pr s Q E R aa W F h
 refine abE (h0 A env pr s _ _ R aa W F λcN aj ax a0=>Ia O R aa (W.keep ax) (F.keep ax) λz ez gw ht cG dA hz=>?_)
 have cM:=a0.dB
 subst cM
 have ol:=ax.trans dA
 have lJ:=W.keep ol
 refine iP (lJ.kA ar) λws m vZ eg e r hD aw=>?_
 have j6:=a.X.keeps lJ.base
 delta subscriptTail
 rw[getitemInPython_of_ne (o:=.ref x) nofun]
 refine XA (XA (m:=specialOf (.ref x) (Yr "__getitem__")) ?_)
 refine XA (hD.type.here ((Z0 j6 bE.g).here (XK (XA (ahv ?_)))))
 refine X7 (XA (H' a j6 hD (XA (z6 j6 hD.type bE.g slot_list_getitem.bind (vJ MF a lJ ar (args_list_getitem _ _) (Tr hz e (XC (Yg (r.length)) (b1 hsz)) (XK (XA (wpAny_letTemporaryGo (XK ?_))))))))))
 have sP:bb ez {ez with heap:=ez.heap.push {cls:=.type "list",data:=.seq (slicePick ws (some (n:Int)) none none)}}:=.push _ ez.toks
 refine h _ _ (ol.trans sP) (.list (n:=0) (vs:=ws.toList.drop n) ((XU _ rfl).trans ?_) (lJ.gs (XT _)) ((r.drop n).keep sP))
 rw[To]
theorem bR.Tu{cb dw el dW:Pos}(a:AC G K C)(bE:SL K C)(ar:e4 C σ x bT eu items)(ag:x∈T)(h0:aN G k sc σ Γ o (.raw (.ref x)))(O:aN G k sc σ Γ i (.int 0))(hsz:items.length<=100000):
  bR G k sc T σ Γ (.Assign [.Subscript o (.Slice (some i) none none cb) dw] (.List [] el) dW) (·=.next (σ.set x (.list (.ref C) (some bT) [])) Γ):=by
 intro A env pr s Q E R aa W F aA
 refine ac7 ((show aN G k sc σ Γ (.List [] el) (.list [])from .list .nil c7) A env pr s _ _ R aa W F λXp aj ax ej=>h0 A env pr aj _ _ R aa (W.keep ax) (F.keep ax) λiz ao aM bG=>Ia O R aa ((W.keep ax).keep aM) ((F.keep ax).keep aM) λz hc gw ht cG oS hz=>?_) rfl
 have ta:=bG.dB
 subst ta
 have Ig:=aM.trans oS
 have Bs:=ax.trans Ig
 have hv:=W.keep Bs
 refine iP (hv.kA ar) λws m vZ eg e r hD aw=>?_
 have j6:=a.X.keeps hv.base
 refine fm ((ej.keep Ig).iR) λw0 Xq zk aB uu Xr Tv=>?_
 subst aB
 obtain rfl:=Tv.m2
 refine X7 (XA (H' a j6 hD (XA (z6 j6 hD.type bE.s slot_list_setitem.bind (vJ MG a hv ar (args_list_setitem _ _ _) (Ts hz e uu ?_ (XC (Yg (r.length)) hsz) λah he c1=>XK ?_))))))
 ·rintro rfl
  cases uu.symm.trans e
 refine cS he λgu bH=>?_
 have aJ:KB (λb=>b=x) hc {hc with heap:=ah}:=.hr c1 rfl
 exact aA _ _ _ rfl (((b4.dF Bs).trans' (.put aJ ag)).mono λ_ q=>.inl q) ⟨rfl,hv.put aJ ar.ro ⟨_,_,vZ,bH,.nil,λq=>mX q⟩,(F.keep Bs).put hv aJ ar.ro⟩
end
structure Bt(G:GE)(a:XM):Prop where
 ex:∃o fd t,G.h₀.get? a=some o/\o.data=.func fd/\fd.scope=(dZ 2).2/\fd.body=.stmts (dZ 2).1/\fd.globals=YJ/\fd.builtins=Y6/\fd.closure=[]/\G.h₀.CodeRec fd.code fd.qualname/\
  ∀(s:XG) (v:XF),(∀b o,G.h₀.get? b=some o->s.heap.get? b=some o)->ahf s fd ⟨[v],[]⟩ [("self",v),("i",.int 0 t)]
structure w1(G:GE)(K:ach)(C:XM)(ck:Nat->XM):Prop where
 tV:typeIn K (.ref (ck 4))=some (.type "function")
 Ih:typeIn K (.ref (ck 5))=some (.type "function")
 tP:findIn K (.ref C) "__bool__" = some none
 bE:SL K C
 f2:Bt G (ck 2)
 Ii:fa G (ck 7) ["self"] (dZ 7).2 (dZ 7).1
section
variable{x:XM}
theorem cy.Tw(h:Bt G a)(dO:cp G k (dZ 2).2 T σ [("i",.int 0),("self",d)] (dZ 2).1 P)
  (cz:∀o,P o->∃Y e,o=.ret Y e/\(∀b∈σ.at,b∈Y.at)/\R Y e):cy G (k+1) T σ (.ref a) [d] R:=by
 intro A pr s vs Q E aW W r aA
 obtain⟨o,fd,t,O,ae,a2,b_,cn,gQ,dJ,fA,kt⟩:=h.ex
 refine bB r.inv1 λ_ aB bO=>?_
 subst aB
 rename_i v
 have k8:∀y,(dZ 2).2.names.lookup y≠some .free:=λy q=>by
  have:=X9.mp (show((dZ 2).2.names.all λp=>p.2 !=.free)=true from by kernel_rfl) _ (mem_of_lookup q)
  simp at this
 refine yz (gy:=[]) (names:=["self","i"]) (vs:=[v]) (ws:=[v,.int 0 t]) (ds:=[d,.int 0]) aW W (W.base _ _ O) ae a2 b_ cn gQ (fA.keeps W.base) (kt s v W.base) rfl (.cons bO (.cons (.int _ _) .nil)) (by rw[dJ];intro _ _ q;cases q) (by rw[dJ];exact .nil) (by rw[dJ];intro _ _ q;cases q) (λx ag=>absurd ag (k8 x)) (λx d e=>by simp at e) aQ (λy bk=>by
  rcases XH.mp bk with rfl|bk
  ·exact .inl rfl
  ·rw[XD.mp bk];exact .inl rfl) rfl rfl rfl (λx ag=>absurd ag (k8 x)) (by rw[Y0];exact dO.yy) λo f J np ar st b9=>?_
 refine gI (cz o ar) λY e aB aP ai=>?_
 subst aB
 exact aA Y _ _ J ai ⟨st.aJ,st.new,aP⟩ b9.1.ei b9.2.ei
theorem Tx(L:eD G aK ck K cJ c4 bA bF)(B:w1 G K (aK 16) ck)(h:e4 (aK 16) σ x bT eu items)(hsz:items.length<=100000):
  cy G (k+1) [x] σ (.ref (ck 2)) [.raw (.ref x)] (λY d=>Y=σ.set x (.list (.ref (aK 16)) (some bT) [])/\d=.list items):=by
 refine cy.Tw (P:=(·=.ret (σ.set x (.list (.ref (aK 16)) (some bT) [])) (.list items))) B.f2 ?_ ?_
 ·refine .seq (a9:=σ) (Γ₁:=[("popped",.list (items.drop 0)),("i",.int 0),("self",.raw (.ref x))]) (.eS (aN.Tt (n:=0) L.dY.ac B.bE h (.name rfl) (.name rfl) hsz)) (.seq (bR.Tu L.dY.ac B.bE h (.head _) (.name rfl) (.name rfl) hsz) (.one (.ret (.name rfl))))
 ·rintro o rfl
  exact⟨_,_,rfl,λb H=>by rw[h3];exact H,rfl,rfl⟩
theorem Tz(L:eD G aK ck K cJ c4 bA bF)(B:w1 G K (aK 16) ck)(b_:(bA,cf.tab cJ mK)∈σ)(cn:(bF,cf.tab c4 nM)∈σ)(ar:e4 (aK 16) σ x bT [("_initial_size",ay n)] (av.map eC))(az:n<=10)
  (b2:∀p∈av,p.1.length<=1000/\p.2.length<=1000) (mL:av.length<=1000) (rk:0<=i_ av) (mB:i_ av<2^62) (b':av≠[]->i_ av≠0/\ad3 (hE av)=false) :
  cy G (k+6) [bA,bF] σ (.ref (ck 7)) [.raw (.ref x)] (λY d=>Y=σ/\d=.bool (decide (n=0)&&decide (av=[]))):=by
 have aU:∀b∈[bA,bF],b∈σ.at:=λb H=>by
  rcases XH.mp H with rfl|H
  ·exact dr b_
  ·rw[XD.mp H];exact dr cn
 refine cy.of_body (k:=k+5) (P:=(·=.ret σ (.bool (decide (n=0)&&decide (av=[]))))) B.Ii rfl ?_ ?_
 ·refine .one (.sQ (R:=λY d=>Y=σ/\d=.bool (decide (n=0)&&decide (av=[]))) (.Qe (b:=n==0) (.of (.cmp (aN.P2 L.dY.ac ar (.name rfl) rfl L.am.no) (.bf (n:=0)) .lR)) (λH=>?_) λH=>?_) ?_)
  ·have TA:n=0:=by simpa using H
   subst TA
   have TB:=(Gl (k:=k+3) L.P L.dY.ac L.am L.rN b_ ar (i:=((0:Nat):Int)) rfl b2 (L.P.b _ _ rfl) (L.P.b _ _ rfl)).g4 (T':=[bA,bF]) λb H=>by rw[XD.mp H];exact .head _
   have TC:=(Gq (k:=k+2) L.P L.dY.ac L.am L.rN cn ar b2 mL).g4 (T':=[bA,bF]) λb H=>by rw[XD.mp H];exact .tail _ (.head _)
   have hx:((((0:Nat):Int)+i_ av)==0)=decide (av=[]):=by
    by_cases he:av=[]
    ·subst he;rfl
    ·have:=(b' he).1
     simp only[decide_eq_false he]
     simp[this]
   refine .Qd (b:=decide (av=[])) (.mono (cc.Qg L.dY.ac ar B.tP ((L.dY.m 4 _ rfl).fd) B.tV (by lia) (by lia) aU (.name rfl) (TB.room mh)) (λY d q=>⟨q.1,by rw[q.2,hx]⟩)) (λH=>?_) λH=>⟨rfl,by rw[H];rfl⟩
   have he:=of_decide_eq_false H
   refine .mono (cc.space (y:=hE av) aU (.call (.cF L.P rfl) (.type _) (.cons (.name rfl) .nil) ((cy.Gs L.dY.ac ar ((L.dY.m 5 _ rfl).fd) B.Ih TC).wT λb H=>H) aU)) λY d q=>⟨q.1,?_⟩
   rw[q.2,(b' he).2,decide_eq_false he]
   rfl
  ·have:decide (n=0)=false:=by simpa using H
   exact⟨rfl,by rw[this];rfl⟩
  ·rintro Y d ⟨rfl,rfl⟩
   rfl
 ·rintro o rfl
  exact⟨[],σ,rfl,λb H=>H,rfl,rfl⟩
end
noncomputable abbrev gG(x:Str):List Nat:=x.cps.toList
theorem TF{x:Str}(h:gG x=gG y):x=y:=by
 cases x;cases y
 congr 1
 exact af5.mp h
theorem qv(x y:Str):gG (x++y)=gG x++gG y:=by
 show(x.cps++y.cps).toList=_
 rw[aaW]
theorem qw(x:Str):x.length=(gG x).length:=by
 show x.cps.size=_
 dsimp only[aas]
theorem Ij:∀l:List Str,gG (agZ "" l)=(l.map gG).flatten
 | []=>rfl
 | [x]=>by simp[agZ]
 |x::y::r=>by
  show gG (x++""++agZ "" (y::r))=_
  simp only[qv,qv,Ij (y::r)]
  rw[(show gG ("":Str)=[]from rfl)];simp
theorem Ik(l:List Str):gG (abY "" l)=(l.map gG).flatten:=by
 delta abY
 simp only[StrLaws.glued_eq_join,Ij]
theorem piece_app(p:Str×Str):nN p=p.1++p.2:=TF (by
 delta nN
 rw[Ik,qv];simp)
theorem Il:∀l:List (Str×Str),(((l.map λp=>gG (p.1++p.2)).flatten.length:Nat):Int)=i_ l
 | []=>rfl
 |p::l=>by
  have ih:=Il l
  unfold i_ at *
  simp only[Yb,ab7,Yv,Yb,aaJ,<-ih,qv,Yv,<-qw,<-qw]
  lia
theorem Im:hE av=abY "" (av.map λp=>p.1++p.2):=by
 delta hE
 rw[Yf λp _=>piece_app p]
theorem Bu:gG (hE av)=(av.map λp=>gG (p.1++p.2)).flatten:=by
 rw[Im,Ik,X_];rfl
theorem Io:((hE av).length:Int)=i_ av:=by rw[qw,Bu,Il]
theorem TG(h:∀p∈av,Ym p.1=true/\Ym p.2=true):Ym (hE av)=true:=by
 delta Ym
 rw[<-aci]
 show(gG (hE av)).all _=true
 rw[Bu,X9]
 intro c au
 refine bB (agc.mp au) λl aw au=>?_
 refine bB (XZ.mp aw) λp ar aB=>?_
 subst aB
 have:=Aq (h p ar).1 (h p ar).2
 unfold Ym at this
 rw[<-aci,X9]at this
 exact this c au
theorem TH(b':av≠[])(h:∀p∈av,50∈gG p.2):i_ av≠0/\ad3 (hE av)=false:=by
 refine qK (aaf b') λp r aB=>?_
 subst aB
 have hm:50∈gG (hE (p::r)):=by
  rw[Bu]
  refine agc.mpr ⟨_,YA (.head _),?_⟩
  rw[qv]
  exact XQ _ (h p (.head _))
 constructor
 ·rw[<-Io,qw]
  have:=List.length_pos_of_mem hm
  lia
 ·delta ad3
  have:(hE (p::r)).cps.all afH=false:=by
   rw[<-aci]
   cases aR:(gG (hE (p::r))).all afH with
   |false=>rfl
   |true=>have:=X9.mp aR 50 hm;revert this;decide +kernel
  simp only[this,Bool.and_false]
theorem TJ{x:Str}{l u:Option Int}{c:Nat}(h:c∈gG (Z1 x l u)):c∈gG x:=by
 delta Z1 at h
 split at h
 ·exact h
 ·refine bB (afJ.mp h) λi _ aq=>?_
  exact afb.mpr (acQ aq)
theorem TK{a6 b c3:Nat}(hm:m<4)(H:b<3)(bz:a6<=7)(az:c3<=7):50∈gG (hj (e5 m) a6 b c3):=by
 by_cases O:c3=1
 ·subst O
  show 50∈gG (("230":Str)++Z1 (rA (e5 m) a6 b 1) (some ((3:Nat):Int)) none)
  rw[qv]
  exact XS _ aH
 ·refine d6 (zR hm H bz az) λae _=>?_
  have a2:rB a6 c3≠.p8:=by
   delta rB
   rw[if_neg O]
   repeat' split
   all_goals exact λq=>nomatch q
  refine TJ (l:=none) (u:=some ((3:Nat):Int)) ?_
  by_cases b_:(Z1 (hj (e5 m) a6 b c3) none (some ((3:Nat):Int)) !="229")=true
  ·rw[<-ae]at a2
   delta h9 at a2
   rw[if_pos b_]at a2
   exact absurd rfl a2
  ·rw[(show Z1 (hj (e5 m) a6 b c3) none (some ((3:Nat):Int)) = "229" from by simpa using b_)];decide
abbrev o1:YI:=(b6 30).2
abbrev TL(i:Nat):ZF:=((b6 30).1[i]?).getD (.Break default)
abbrev jG(i:Nat):ZF:=((nP (TL 1))[i]?).getD (.Break default)
def Bv(I:List (List Nat))(ak r g:Nat):List l9:=((dH I ak r).drop g).reverse
def fY(I:List (List Nat))(ak r g:Nat):List (Str×Str):=(Bv I ak r g).map gk
section
variable{x:XM}
theorem TM{P:XM->Prop}{vs:List XF}(r:a5 P h vs (xs.map V.str)):StrsAre vs xs:=by
 induction xs generalizing vs with
 |nil=>rw[r.m2];exact .nil
 |cons x xs ih=>
  refine gI r.jL λv ws e a q=>?_
  subst e
  refine cS a.str_inv λt aB=>?_
  subst aB
  exact .cons _ _ (ih q)
theorem bW.TN{sep:Str}(rL:(xs.map (·.length)).sum+xs.length*sep.length<=16777216):bW G k σ (.builtin "str.join") [.str sep,.list (xs.map V.str)] (.str (abY sep xs)):=by
 intro A pr s vs Q E aW W q aA
 refine gI q.inv2 λ_ _ aB a b=>?_
 subst aB
 refine cS a.str_inv λt aB=>?_
 subst aB
 refine fm b.iR λl ws n aB e p ko=>?_
 subst aB
 exact join_list (m3 e) (TM ko) rL λfE cD=>aA _ _ (bb.tok _) (.str _ _)
theorem Ip:(fY I ak r g).map eC=ib (dH I ak r) g:=by
 delta fY Bv ib
 rw[X_,aaR];rfl
theorem Bw:(fY I ak r g).length<=(I.getD r []).length:=by
 delta fY Bv
 rw[XJ,Zp,YG,oP];exact Jz
theorem w2(bP:eL I)(ai:r<I.length){p:Str×Str}(ar:p∈fY I ak r g):(p.1.length<=4/\p.2.length<=20)/\(Ym p.1=true/\Ym p.2=true)/\50∈gG p.2:=by
 refine bB (XZ.mp ar) λt a_ aB=>?_
 subst aB
 have rm:=Y7 (YS.mp a_)
 refine bB (XZ.mp rm) λj bq aB=>?_
 subst aB
 have jB:=X2.mp bq
 have bz:(I.getD r []).getD j 0<=7:=by
  rw[XB,XI jB]
  exact bP.wg _ (r8 ai) _ (Ya jB)
 have R:=GC (rooms:=I.length-1) (ak:=ak+5*r+11*j) bz
 exact⟨⟨R.p0,R.len⟩,⟨R.s1,R.s2⟩,TK (YO _ aH) (YO _ aH) bz (GB ..)⟩
theorem Iq:∀{av:List (Str×Str)},(∀p∈av,p.1.length<=4/\p.2.length<=20)->0<=i_ av/\i_ av<=24*(av.length:Int):=by
 intro av
 induction av with
 |nil=>exact λ_=>by decide
 |cons p av ih=>
  intro h
  have ih:=ih λq aR=>h q (.tail _ aR)
  have ar:=h p (.head _)
  unfold i_ at *
  simp only[Yb,aaJ,Yi]
  lia
def r9(af:eE)(size m:Nat):bD:=[("right",.list (XR m (.bool true))),("size",ay size),("house",.raw (.ref af.h))]
def w3(af:eE)(I:List (List Nat))(ak size m r g:Nat):bD:=([("gone",ay g),("row",.list ((dH I ak r).map gj)),("pile",.raw (.ref (af.av.getD r 0)))]:bD)++r9 af size m
def w4(af:eE)(I:List (List Nat))(ak size m r g:Nat):bD:=("left",.list ((fY I ak r g).map eC))::w3 af I ak size m r g
def uv(af:eE)(I:List (List Nat))(ak size m r g:Nat):bD:=("whole",.str (hE (fY I ak r g)))::w4 af I ak size m r g
def ka(av:List (Str×Str))(size:Nat):List V:=[.str (hE av),.int ((size:Int)+i_ av),ay av.length,.bool (decide (size=0)&&decide (av=[])),.list (av.map eC),.str ""]
def uw(af:eE)(I:List (List Nat))(ak size m r g:Nat):bD:=("told",.list (ka (fY I ak r g) size))::uv af I ak size m r g
def w5(af:eE)(I:List (List Nat))(ak size m r g:Nat):bD:=("kinds",.bool true)::uw af I ak size m r g
theorem TO(bP:eL I):bR G (k+10) o1 T σ (w3 af I ak size m r g) (jG 0) (·=.next σ (w4 af I ak size m r g)):=by
 have gC:=bP.row r
 have aw:(dH I ak r).length<=10:=by rw[oP];exact gC
 delta w4
 rw[(show(fY I ak r g).map eC=(((dH I ak r).drop g).map λt=>eC (gk t)).reverse from by rw[Ip];rfl)]
 refine .eS (.to (.i0 (fR:=none) (f5:=none) (os:=some (-((1:Nat):Int))) (ds:=((dH I ak r).drop g).map λt=>eC (gk t)) ?_ .none .none (.some (.un .bf .hb)) aH (b1 (by rw[XJ,YG];exact xG))) (by rw[Eb]))
 refine .comp (S:=[]) (ds:=((dH I ak r).drop g).map gj) (xs:=["blanks","text","due"]) (.yf (.to (.i0 (fR:=some (g:Int)) (f5:=none) (os:=none) (.name rfl) (.some (.name rfl)) .none .none aH (b1 (by rw[XJ];exact dt))) (by rw[pick_from,ado])) .list) ?_ (b1 (by rw[XJ,YG];exact xG))
 exact d3.on λt a_=>⟨_,.tuple (.cons .name (.cons .name (.cons .name .nil))),.cons (.cons (.cons .refl rfl) rfl) rfl,.tuple (.cons (.name rfl) (.cons (.name rfl) .nil)) c7⟩
theorem TP(bP:eL I)(ai:r<I.length):bR G (k+10) o1 T σ (w4 af I ak size m r g) (jG 1) (·=.next σ (uv af I ak size m r g)):=by
 have gC:=bP.row r
 have aw:=Bw (I:=I) (ak:=ak) (r:=r) (g:=g)
 delta uv
 rw[Im]
 refine .eS (.pB .dx rfl Zm acr acq (.cons (d:=.list (((fY I ak r g).map λp=>p.1++p.2).map V.str)) ?_ .nil) (bW.TN ?_))
 ·simp only[X_]
  refine .comp (S:=[]) (ds:=(fY I ak r g).map eC) (xs:=["blanks","text"]) (.yf (.name rfl) .list) ?_ (b1 (by rw[XJ];exact uM))
  refine d3.on λp ar=>⟨_,.tuple (.cons .name (.cons .name .nil)),.cons (.cons .refl rfl) rfl,.bin (.name rfl) (.name rfl) (.m' (b1 ?_))⟩
  have:=(w2 bP ai ar).1
  lia
 ·simp only[(show("":Str).length=0 from rfl),acF,acJ]
  have H:∀l:List (Str×Str),(∀p∈l,p.1.length<=4/\p.2.length<=20)->((l.map λp=>p.1++p.2).map (·.length)).sum<=24*l.length:=by
   intro l
   induction l with
   |nil=>intro _;simp
   |cons p l ih=>
    intro h
    have O:=ih λq aR=>h q (.tail _ aR)
    have ae:=h p (.head _)
    have a2:(p.1++p.2).length=p.1.length+p.2.length:=by rw[qw,qv,Yv,<-qw,<-qw]
    simp only[Yb,aaJ,Yi,a2]
    lia
  have:=H (fY I ak r g) λp ar=>(w2 bP ai ar).1
  lia
end
section
variable{x:XM}
structure kL(G:GE)(aK ck:Nat->XM)(K:ach)(cJ c4 bA bF:XM)(σ:ba):Prop where
 L:eD G aK ck K cJ c4 bA bF
 B:w1 G K (aK 16) ck
 b_:(bA,cf.tab cJ mK)∈σ
 cn:(bF,cf.tab c4 nM)∈σ
theorem TQ(R:kL G aK ck K cJ c4 bA bF σ)(bP:eL I)(ai:r<I.length)(hsz:size<=10)(ar:e4 (aK 16) σ (af.av.getD r 0) bT [("_initial_size",ay size)] (ib (dH I ak r) g))(ag:af.av.getD r 0∈af.av)(mL:∀b∈af.av,b∈σ.at)(b_:af.av.getD r 0≠bA)(cn:af.av.getD r 0≠bF)(j5:bT≠af.av.getD r 0):
  bR G (k+10) o1 (bA::bF::af.av) σ (uv af I ak size m r g) (jG 2) (·=.next (σ.set (af.av.getD r 0) (.list (.ref (aK 16)) (some bT) [])) (uw af I ak size m r g)):=by
 generalize Am:af.av.getD r 0=x at ar ag b_ cn j5
 have gC:=bP.row r
 have aw:=Bw (I:=I) (ak:=ak) (r:=r) (g:=g)
 have f9:=λp ar=>w2 (ak:=ak) (g:=g) bP ai (p:=p) ar
 generalize w6:fY I ak r g=av at aw f9
 rw[<-Ip,w6]at ar
 have a:=R.L.dY.ac
 have b2:∀p∈av,p.1.length<=1000/\p.2.length<=1000:=λp ar=>by have:=(f9 p ar).1;lia
 refine d6 (Iq (av:=av) λp ar=>(f9 p ar).1) λTR fI=>?_
 have aU:∀b∈bA::bF::af.av,b∈σ.at:=λb H=>by
  rcases XH.mp H with rfl|H
  ·exact dr R.b_
  ·rcases XH.mp H with rfl|H
   ·exact dr R.cn
   ·exact mL b H
 have jv:∀b∈bA::bF::af.av,b∈(σ.set x (.list (.ref (aK 16)) (some bT) [])).at:=λb H=>by rw[h3];exact aU b H
 have Ir:∀{σ:ba} {av:List (Str×Str)},(bF,cf.tab c4 nM)∈σ->e4 (aK 16) σ x bT [("_initial_size",ay size)] (av.map eC)->(∀p∈av,p.1.length<=1000/\p.2.length<=1000)->av.length<=1000->cy G (k+10) (bA::bF::af.av) σ (.type "str") [.raw (.ref x)] (λY d=>Y=σ/\d=.str (hE av)):=λcn ar b2 mL=>
  ((cy.Gs a ar ((R.L.dY.m 5 _ rfl).fd) R.B.Ih (Gq (k:=k+7) R.L.P a R.L.am R.L.rN cn ar b2 mL)).g4 (λb H=>by rw[XD.mp H];exact .tail _ (.head _))).room mh
 have TS:e4 (aK 16) (σ.set x (.list (.ref (aK 16)) (some bT) [])) x bT [("_initial_size",ay size)] (([]:List (Str×Str)).map eC):=⟨pR ar.l,f6 ar.i j5⟩
 have nm:∀{σ:ba} {pos:Pos},aN G (k+10) o1 σ (uv af I ak size m r g) (.Name "pile" pos) (.raw (.ref x)):=λ{σ pos}=>by rw[<-Am];exact .name rfl
 refine .letE (R:=λY d=>Y=σ.set x (.list (.ref (aK 16)) (some bT) [])/\d=.list (ka av size)) ?_ ?_
 ·refine .list (j0:=λY ds=>Y=σ.set x (.list (.ref (aK 16)) (some bT) [])/\ds=ka av size) ?_ ?_ ?_
  ·refine .cons aU (.call (.cF R.L.P rfl) (.type _) (.cons nm .nil) (Ir R.cn ar b2 uM) aU) ?_
   rintro a9 bZ ⟨rfl,rfl⟩
   refine .cons aU (.call (.cF R.L.P rfl) (.dV _) (.cons nm .nil) (((cy.Qf a ar ((R.L.dY.m 4 _ rfl).fd) R.B.tV (by lia) (by lia) (Gl (k:=k+8) R.L.P a R.L.am R.L.rN R.b_ ar (i:=((size:Nat):Int)) rfl b2 (R.L.P.b _ _ rfl) (R.L.P.b _ _ rfl))).g4 (λb H=>by rw[XD.mp H];exact .head _)).room mh) aU) ?_
   rintro cC d₂ ⟨rfl,rfl⟩
   refine .cons aU (.of (aN.tw (f:=.ref (ck 8)) a ar (R.L.dY.m 8 _ rfl) rfl R.L.Ar.calls nm ((EU (k:=k+9) a R.L.Ar (R.L.P.b _ _ rfl) ar).room mh))) ?_
   rintro l4 rV ⟨rfl,rfl⟩
   refine .cons aU (cc.tw (f:=.ref (ck 7)) a ar (R.L.dY.m 7 _ rfl) rfl R.B.Ii.calls nm (((Tz (k:=k+4) R.L R.B R.b_ R.cn ar hsz b2 uM TR (by lia) λb'=>TH b' λp ar=>(f9 p ar).2.2).g4 λb H=>by
    rcases XH.mp H with rfl|H
    ·exact .head _
    ·rw[XD.mp H];exact .tail _ (.head _)).room mh) aU) ?_
   rintro gz TU ⟨rfl,rfl⟩
   refine .cons aU (cc.tw (f:=.ref (ck 2)) a ar (R.L.dY.m 2 _ rfl) rfl (by obtain⟨o,fd,t,cV,dN,_⟩:=R.B.f2.ex;exact .func cV dN) nm (((Tx (k:=k+9) R.L R.B ar (by rw[XJ];exact uM)).g4 λb H=>by rw[XD.mp H];exact .tail _ (.tail _ ag)).room mh) aU) ?_
   rintro wS Xs ⟨rfl,rfl⟩
   refine .cons jv (.call (.cF R.L.P rfl) (.type _) (.cons nm .nil) (Ir (f6 R.cn cn.symm) TS (λ_ q=>cZ q) (by simp)) jv) ?_
   rintro SX Xt ⟨rfl,rfl⟩
   refine .nil ⟨rfl,?_⟩
   rw[XJ]
   rfl
  ·rintro Y ds ⟨rfl,rfl⟩
   exact b1 (by simp[ka])
  ·rintro Y ds ⟨rfl,rfl⟩
   exact⟨rfl,rfl⟩
 ·rintro Y d ⟨rfl,rfl⟩
  unfold uw
  rw[w6]
theorem TV(P:cK G aK):bR G (k+10) o1 T σ (uw af I ak size m r g) (jG 3) (·=.next σ (w5 af I ak size m r g)):=by
 generalize w6:fY I ak r g=av
 have aR:=a8.k9 (G:=G) (k:=k+10) (σ:=σ) (S:=[]) (i2:=[]) (l:=[false,true]) (m:=[false,true]) cj.bool 0 cO.bool .list .list
 refine .eS (.cmp (.comp (S:=[]) (ds:=[ay av.length,.bool (decide (size=0)&&decide (av=[]))]) (xs:=["one"]) (.list (.to (.i0 (ds:=ka av size) (fR:=some ((2:Nat):Int)) (f5:=some ((4:Nat):Int)) (os:=none) (.name (by unfold uw;rw[w6];rfl)) (.some .bf) (.some .bf) .none aH (b1 (by simp[ka]))) (by rw[pick_run];rfl)) .list) ?_ c7) (.list (.cons .m5 (.cons .m5 .nil)) c7) (.to aR rfl))
 rw[(show List.map V.bool [false,true]=[V.bool false]++([V.bool true]++[])from rfl)]
 exact .cons ⟨_,true,.name,.cons .refl rfl,.nil,.inr ⟨rfl,_,.call (.cF P rfl) (.dV _) (.cons (.name rfl) (.cons (.cF P rfl) .nil)) bW.yC,rfl⟩⟩ (.cons ⟨_,true,.name,.cons .refl rfl,.nil,.inr ⟨rfl,_,.call (.cF P rfl) (.dV _) (.cons (.name rfl) (.cons (.cF P rfl) .nil)) bW.K',rfl⟩⟩ .nil)
theorem TX(aL:∀p∈av,Ym p.1=true/\Ym p.2=true):a8 G k σ (compareOp .Eq) (.list (ka av size)) (.list (ka av size)) (.bool true):=by
 have hf:V.fit 3 (.list (ka av size)):=by
  refine⟨TG aL,trivial,trivial,trivial,V.yh.mpr λd hd=>?_,kF aQ,trivial⟩
  refine bB (XZ.mp hd) λp ar aB=>?_
  subst aB
  exact⟨(aL p ar).1,(aL p ar).2,trivial⟩
 have e:Za (V.list (ka av size)).py (V.list (ka av size)).py=true:=by
  have a3:=cj.str (hE av) (hE av)
  have bH:=cj.int ((size:Int)+i_ av) ((size:Int)+i_ av)
  have dP:=cj.int ((av.length:Nat):Int) ((av.length:Nat):Int)
  have fZ:=cj.bool (decide (size=0)&&decide (av=[])) (decide (size=0)&&decide (av=[]))
  have h_:Za (V.list (av.map eC)).py (V.list (av.map eC)).py=decide (av=av):=cj.list (enc:=eC) (cj.u_ cj.str cj.str) av av
  have nK:=cj.str "" ""
  rw[decide_eq_true rfl]at a3 bH dP fZ h_ nK
  delta ka
  show aeo (V.hK _) (V.hK _)=true
  have w:∀{a b:Bool},a=true->b=true->(a&&b)=true:=λh k=>Zl.mpr ⟨h,k⟩
  exact w a3 (w bH (w dP (w fZ (w h_ (w nK rfl)))))
 have:=a8.eq (G:=G) (k:=k) (.of (σ:=σ) 3 hf) (.of (σ:=σ) 3 hf)
 rw[e]at this
 exact this
theorem TY(P:cK G aK)(bP:eL I)(ai:r<I.length)(hm:m<=1000)(hsz:size<=10):bR G (k+10) o1 T σ (w5 af I ak size m r g) (jG 4) (·=.next σ (("right",.list (XR (m+1) (.bool true)))::w5 af I ak size m r g)):=by
 have gC:=bP.row r
 have aw:=Bw (I:=I) (ak:=ak) (r:=r) (g:=g)
 have f9:=λp ar=>w2 (ak:=ak) (g:=g) bP ai (p:=p) ar
 have H:=Iq (av:=fY I ak r g) λp ar=>(f9 p ar).1
 have b2:=Io (av:=fY I ak r g)
 rw[afj]
 have aR:a8 G (k+10) σ (compareOp .Eq) (.list ((fY I ak r g).map eC)) (.list []) (.bool (decide (fY I ak r g=[]))):=by
  have hf:V.fit 2 (.list ((fY I ak r g).map eC)):=V.yh.mpr λd hd=>by
   refine bB (XZ.mp hd) λp ar aB=>?_
   subst aB
   exact⟨(f9 p ar).2.1.1,(f9 p ar).2.1.2,trivial⟩
  have:=a8.eq (G:=G) (k:=k+10) (.of (σ:=σ) 2 hf) (.of (σ:=σ) (d:=.list []) 2 trivial)
  rw[show Za (V.list ((fY I ak r g).map eC)).py (V.list []).py=decide (fY I ak r g=[])from cj.list (enc:=eC) (cj.u_ cj.str cj.str) (fY I ak r g) []]at this
  exact this
 refine .eS (.bin (.name rfl) (.list (.cons (d:=.bool true) (.to (.pe (b:=true) (bZ:=.bool true) (d₂:=.bool true) (.name rfl) .bool λ_=>.cmp (.name rfl) (.to (.list (.cons (.name rfl) (.cons (.bin (.name rfl) (.to (.call (.cF P rfl) (.dV _) (.cons (.name rfl) .nil) (bW.K5 (by lia))) (dM:=ay (hE (fY I ak r g)).length) rfl) .g2) (.cons (.to (.call (.cF P rfl) (.dV _) (.cons (.name rfl) .nil) (bW.len (S:=[]) .list (by rw[XJ];exact CL))) (dM:=ay (fY I ak r g).length) (by rw[XJ])) (.cons (d:=.bool (decide (size=0)&&decide (fY I ak r g=[]))) ?_ (.cons (.name rfl) (.cons .dx .nil)))))) c7) (dM:=.list (ka (fY I ak r g) size)) ?_) (TX λp ar=>(f9 p ar).2.1)) rfl) .nil) c7) (.h2 (b1 (by simp;exact dt))))
 ·refine .to (.pe (b:=size==0) (bZ:=.bool (size==0)) (d₂:=.bool (decide (fY I ak r g=[]))) (.cmp (.name rfl) (.bf (n:=0)) .lR) .bool λ_=>.cmp (.name rfl) (.list .nil c7) aR) ?_
  by_cases h:size=0
  ·subst h;rfl
  ·rw[(show(size==0)=false from by simpa using h),decide_eq_false h];rfl
 ·delta ka
  rw[<-b2]
  rfl
end
section
variable{x:XM}{st:cm}
theorem kL.same(R:kL G aK ck K cJ c4 bA bF σ)(S:di T σ Y)(h:bA∉T/\bF∉T):kL G aK ck K cJ c4 bA bF Y:=⟨R.L,R.B,S.keep _ _ h.1 R.b_,S.keep _ _ h.2 R.cn⟩
def w7(af:eE)(I:List (List Nat))(ak:Nat)(aO:List Nat)(r:Nat):V:=.tuple [.raw (.ref (af.av.getD r 0)),.list ((dH I ak r).map gj),ay (aO.getD r 0)]
structure r_(C:XM)(σ:ba)(af:eE)(I:List (List Nat))(ak size:Nat)(aO:List Nat)(r:Nat):Prop where
 p:∀q,r<=q->q<I.length->e4 C σ (af.av.getD q 0) (af.cB.getD q 0) [("_initial_size",ay size)] (ib (dH I ak q) (aO.getD q 0))
 mem:∀q,q<I.length->af.av.getD q 0∈af.av
 sep:∀r q,r<I.length->q<I.length->af.av.getD r 0≠af.cB.getD q 0/\(r≠q->af.av.getD r 0≠af.av.getD q 0)
 at_:∀b∈af.av,b∈σ.at
theorem TZ(bP:eL I)(hsz:size<=10)(cz:∀a∈af.av,a≠bA/\a≠bF)(ai:r<I.length)(hm:m+r<1000)(R:kL G aK ck K cJ c4 bA bF σ)(h:r_ (aK 16) σ af I ak size aO r):
  cp G (k+10) o1 (bA::bF::af.av) σ (w3 af I ak size (m+r) r (aO.getD r 0)) [jG 0,jG 1,jG 2,jG 3,jG 4] (·=.next (σ.set (af.av.getD r 0) (.list (.ref (aK 16)) (some (af.cB.getD r 0)) [])) (r9 af size (m+(r+1)))):=by
 have ag:=h.mem r ai
 refine cp.end_ (Γ₁:=("right",.list (XR (m+r+1) (.bool true)))::w5 af I ak size (m+r) r (aO.getD r 0)) ?_ (.cv rfl (.cv rfl (.cv rfl .nil)))
 exact .seq (TO bP) (.seq (TP bP ai) (.seq (TQ R bP ai hsz (h.p r (XT _) ai) ag h.at_ (cz _ ag).1 (cz _ ag).2 (h.sep r r ai ai).1.symm) (.seq (TV R.L.P) (.one (TY R.L.P bP ai JA hsz)))))
theorem r_.next(h:r_ C σ af I ak size aO r)(ai:r<I.length){l:List V}:r_ C (σ.set (af.av.getD r 0) (.list (.ref C) (some (af.cB.getD r 0)) l)) af I ak size aO (r+1):=
 ⟨λq aR iq=>⟨f6 (h.p q (abd aR) iq).l ((h.sep q r iq ai).2 (Zf aR)),f6 (h.p q (abd aR) iq).i (h.sep r q ai iq).1.symm⟩,h.mem,h.sep,λb H=>by rw[h3];exact h.at_ b H⟩
theorem T1(bP:eL I)(hsz:size<=10)(cz:∀a∈af.av,a≠bA/\a≠bF){cb dw el dW:Pos}{k1:Nat}(f:Nat):∀(r:Nat) (σ:ba),r+f=I.length->m+I.length<=1000->kL G aK ck K cJ c4 bA bF σ->r_ (aK 16) σ af I ak size aO r->di af.av fu σ->
  hL G (k+10) o1 (bA::bF::af.av) (.Tuple [.Name "pile" cb,.Name "row" dw,.Name "gone" el] k1 dW) [jG 0,jG 1,jG 2,jG 3,jG 4] (λo=>∃Y,o=.next Y (r9 af size (m+I.length))/\di af.av fu Y) ((Zr r f).map (w7 af I ak aO)) σ (r9 af size (m+r)):=by
 induction f with
 |zero=>exact λr σ ai _ R h S=>⟨σ,by rw[<-ai];rfl,S⟩
 |succ f ih=>
  intro r σ ai hm R h S
  have dj:r<I.length:=ai▸ZC (ZL f)
  have ag:=h.mem r dj
  refine⟨w3 af I ak size (m+r) r (aO.getD r 0),_,(·=.next (σ.set (af.av.getD r 0) (.list (.ref (aK 16)) (some (af.cB.getD r 0)) [])) (r9 af size (m+(r+1)))),.tuple (.cons .name (.cons .name (.cons .name .nil))),rg (.inl rfl) (.inl rfl) (.inl rfl),TZ bP hsz cz dj (XE (abJ dj m) hm) R h,?_⟩
  rintro o rfl
  have Is:di af.av σ (σ.set (af.av.getD r 0) (.list (.ref (aK 16)) (some (af.cB.getD r 0)) [])):=.set ag
  exact ih (r+1) _ (by rw[aaC];exact ai) hm (R.same Is ⟨λq=>(cz _ q).1 rfl,λq=>(cz _ q).2 rfl⟩) (h.next dj) (S.trans Is)
theorem Bx(R:kL G aK ck K cJ c4 bA bF σ)(bP:eL I)(h:b3 (aK 16) σ af I ak size st.gone st)(hsz:size<=10)(cz:∀a∈af.all,a≠bA/\a≠bF)(Ax:st.right<=900):
  cy G (k+11) (bA::bF::af.av) σ (.ref (aK 30)) [.raw (.ref af.h),ay size] (λY d=>di af.av σ Y/\d=.bool true):=by
 have nV:=bP.len
 have T2:=λa aY=>cz a (.tail _ (.tail _ (.tail _ (XS _ aY))))
 have aU:∀b∈bA::bF::af.av,b∈σ.at:=λb H=>by
  rcases XH.mp H with rfl|H
  ·exact dr R.b_
  ·rcases XH.mp H with rfl|H
   ·exact dr R.cn
   ·exact h.ft b (.tail _ (.tail _ (.tail _ H)))
 have T3:af.g∉af.av:=by
  have:=(Yn.mp (Yn.mp h.c2).2).1
  exact λq=>this (.tail _ (XS _ q))
 have xW:r_ (aK 16) σ af I ak size st.gone 0:=⟨λq _ aR=>h.p q aR,λq aR=>by
  have iq:q<af.av.length:=by rw[h.ed];exact aR
  rw[getD_at iq];exact Ya iq,h.sep.2.2.2.2,λb H=>h.ft b (.tail _ (.tail _ (.tail _ H)))⟩
 refine cy.of_body (k:=k+10) (P:=λo=>∃Y,o=.ret Y (.bool true)/\di af.av σ Y) (R.L.P.fn 30 _ rfl) rfl ?_ ?_
 ·have hz:(((j9 af.av).zip (((lq I ak).map λr=>V.list (r.map gj)).zip (aV st.gone))).map ub)=(Zr 0 I.length).map (w7 af I ak st.gone):=by
   rw[<-ZU]
   refine Y3 (by simp[j9,h.ed,lq,h.fj]) λi O ae=>?_
   have aq:i<I.length:=by simpa using ae
   simp[j9,lq,w7,XB,aq,(show i<af.av.length from by rw[h.ed];exact aq),(show i<st.gone.length from by rw[h.fj];exact aq)]
  refine .seq (.eS (.g1 (.name rfl) h.d .dx rfl)) ?_
  refine cp.cons (eA:=λo=>∃Y,o=.next Y (r9 af size (st.right+I.length))/\di af.av σ Y) (.kY (S:=[af.g]) (ds:=(Zr 0 I.length).map (w7 af I ak st.gone)) (.to (.AW (.cF R.L.P rfl) (.g1 (.name rfl) h.d .dx rfl) (.g1 (.name rfl) h.d .dx rfl) (.g1 (.name rfl) h.d .dx rfl) .list .list (.inr ⟨af.g,none,rfl,h.g,.head _⟩) (by rw[XJ,XJ,h.ed];exact((XJ _).trans Yc).symm) (by rw[XJ,XJ];exact h.ed.trans h.fj.symm)) hz) aU (λb H=>by
   rw[XD.mp H]
   intro q
   rcases XH.mp q with q|q
   ·exact(cz af.g (.tail _ (.head _))).1 q
   ·rcases XH.mp q with q|q
    ·exact(cz af.g (.tail _ (.head _))).2 q
    ·exact T3 q) (T1 (m:=st.right) (aO:=st.gone) bP hsz T2 I.length 0 σ (Yq _) (XC (aah Ax nV) aH) R xW .refl)) ?_
  intro o dG
  refine bB dG λY aB S=>?_
  subst aB
  refine⟨bA::bF::af.av,λb H=>.inl H,.one (.mono (.ret (d:=.bool true) ?_) λo q=>⟨Y,q,S⟩)⟩
  have aR:=a8.s6 (G:=G) (k:=k+10) (σ:=Y) (S:=[]) (z:=false) (l:=XR (st.right+I.length) true) (d₂:=.list ((XR (st.right+I.length) true).map V.bool)) cj.bool 0 cO.bool .list
  refine .cmp .m5 (.to (.name rfl) ?_) (.to aR ?_)
  ·rw[aa2]
  ·have:false∉XR (st.right+I.length) true:=λq=>by have:=ab' q;cases this
   rw[decide_eq_false this];rfl
 ·intro o dG
  refine bB dG λY aB S=>?_
  subst aB
  exact⟨[],Y,rfl,λb H=>by rw[S.at_];exact H,S,rfl⟩
end
section
variable{rooms cP:Nat}
theorem T4{st:List Nat×List Nat}(h:0<st.1.length):((i7 cP st t).1++(i7 cP st t).2).Perm (st.1++st.2):=by
 have bq:cP / 5^t%st.1.length<st.1.length:=YO _ h
 generalize T5:cP / 5^t%st.1.length=j at bq
 have cb:st.1.Perm (st.1[j]::(st.1.take j++st.1.drop (j+1))):=by
  conv=>lhs;rw[(show st.1=st.1.take j++st.1[j]::st.1.drop (j+1)from by rw[<-YR bq,acR])]
  exact List.perm_middle
 show(st.1.eraseIdx (cP / 5^t%st.1.length)++(st.2++[st.1.getD (cP / 5^t%st.1.length) 0])).Perm _
 rw[T5,(show st.1.getD j 0=st.1[j]from by simp[bq]),Zk,<-YK]
 refine List.perm_append_comm.trans ?_
 exact(cb.append_right st.2).symm
theorem It:∀(m t:Nat) (st:List Nat×List Nat),st.1.length=m->((Zr t m).foldl (i7 cP) st).1=[]/\(((Zr t m).foldl (i7 cP) st).2).Perm (st.1++st.2)
 |0,t,st,h=>⟨Zs h,by rw[Zs h];exact .refl _⟩
 |m+1,t,st,h=>by
  have ar:=T4 (cP:=cP) (st:=st) (t:=t) (by lia)
  have aw:(i7 cP st t).1.length=m:=by
   show(st.1.eraseIdx _).length=m
   rw[afl,if_pos (YO _ (by lia))];exact JO
  refine d6 (It m (t+1) (i7 cP st t) aw) λa b=>?_
  exact⟨a,b.trans ar⟩
theorem By:(e3 rooms cP).Perm ((XO rooms).map (·+1)):=by
 refine d6 (It (cP:=cP) rooms 0 ((XO rooms).map (·+1),[]) (by simp)) λ_ b=>?_
 delta e3 tv
 rw[ZU]
 simpa [ZU] using b
theorem r':r∈e3 rooms cP↔1<=r/\r<=rooms:=by
 rw[By.mem_iff,XZ]
 constructor
 ·rintro⟨i,aq,rfl⟩;have:=X2.mp aq;lia
 ·rintro⟨O,ae⟩;exact⟨r-1,X2.mpr xF,CE⟩
theorem ux:(e3 rooms cP).length=rooms:=by rw[By.length_eq];simp
theorem T6:(e3 rooms cP).Nodup:=By.nodup_iff.mpr (by
 rw[List.Nodup,ab6]
 exact(agb (n:=rooms)).imp λh q=>h (by lia))
end
theorem T7{row:List Nat}(h:∀w∈row,w<=7)(k:Nat):fG row / 8^k=fG (row.drop k):=by
 induction k generalizing row with
 |zero=>rw[abc,ad9];rfl
 |succ k ih=>
  cases row with
  |nil=>exact acD _
  |cons w l=>
   rw[List.drop_succ_cons,<-ih λx ag=>h x (.tail _ ag),aam,YT,<-aaH,show fG (w::l)=w+8*fG l from rfl,afx _ _ aH,adX (aap (h w (.head _))),Yq]
section
variable{l:List Nat}
def iK(l:List Nat):List Nat:=gd (fG l) 3
theorem Iu{a j:Nat}:ek a<=3*j↔a<8^j:=by
 have:=ZT (x:=(a:Int)) (m:=3*j)
 delta ek
 simp only[this,afZ,ac']
theorem T8{a j:Nat}:(a+3-1) / 3<=j↔a<=3*j:=(Nat.div_le_iff_le_mul_add_pred aH).trans Nat.add_le_add_iff_right
theorem T9(h:∀w∈l,w<=7)(aw:l.length<=10):(iK l).length<=l.length/\iK l++XR (l.length-(iK l).length) 0=l/\(iK l≠[]->(iK l).getLastD 0≠0)/\ek (fG l)<=30/\(ek (fG l)+3-1) / 3<=32:=by
 have Bz:∀j,(ek (fG l)+3-1) / 3<=j↔fG l<8^j:=λj=>T8.trans Iu
 have uy:=(Bz _).mpr (A9 h)
 generalize hm:(ek (fG l)+3-1) / 3=m at *
 have am:=(Bz m).mp (XT _)
 have vA:m<=32:=XC uy (XC aw aH)
 have e:iK l=l.take m:=by
  delta iK
  rw[Ex hm aH vA]
  refine um ((XJ _).trans (Yc.trans (ZJ uy).symm)) λi aq=>?_
  have aq:=aag aq ((XJ _).trans Yc)
  rw[XB,X1,YN aq,A7 aq,<-wN h i,<-ac' 2 3 i]
  rfl
 have b2:=(congrArg _ e).trans (ZJ uy)
 refine⟨b2▸uy,?_,λb'=>?_,(XC (Iu.mpr (A9 h)) (ZM 3 aw)),vA⟩
 ·have hd:l.drop m=XR (l.length-m) 0:=List.eq_replicate_iff.mpr ⟨YG,λy bk=>by
   refine bB (r6.mp bk) λi _ aB=>?_
   subst aB
   rw[<-wN h,adX (XE am (ZY aH (X4 ..)))]⟩
  rw[b2,e,<-hd,acR]
 ·refine cS (Nat.exists_eq_succ_of_ne_zero (n:=m) λq=>b' (Zs (b2.trans q))) λn aB=>?_
  subst aB
  have T_:(iK l).getLastD 0=l.getD n 0:=by
   rw[e,<-ab_ uy,List.getLastD_concat,r5]
  have ae:=afw (aam ..▸am)
  simp only[T_,<-wN h,acu ae]
  exact Zf (ad8 (Yu λq=>absurd ((Bz _).mpr q) (Nat.not_succ_le_self n)) (ab9 aH))
end
noncomputable def md(rooms draw:Nat)(order:List Nat):List Nat:=0::(XO rooms).map λi=>(0::order.take (order.idxOf (i+1))).getD (draw / 9^(i+1)%(1+order.idxOf (i+1))) 0
structure Tree(n:Nat)(eV:List Nat):Prop where
 len:eV.length=n+1
 z:eV.getD 0 0=0
 le:∀r,eV.getD r 0<=n
 out:∃uz:Nat->Nat,∀r,1<=r->r<=n->eV.getD r 0=0\/(1<=eV.getD r 0/\uz (eV.getD r 0)<uz r)
theorem Ua(eG:order.Nodup){j:Nat}(ai:r∈order)(bq:j<=order.idxOf r):(0::order.take (order.idxOf r)).getD j 0=0\/((0::order.take (order.idxOf r)).getD j 0∈order/\order.idxOf ((0::order.take (order.idxOf r)).getD j 0)<order.idxOf r):=by
 cases j with
 |zero=>exact .inl rfl
 |succ j=>
  have aq:=aeL.mpr ai
  have jB:j<order.length:=by lia
  have e:(0::order.take (order.idxOf r)).getD (j+1) 0=order[j]:=by
   rw[adj,XB,adu,if_pos n_,XI jB];rfl
  rw[e]
  refine .inr ⟨Ya jB,?_⟩
  rw[eG.idxOf_getElem]
  exact n_
theorem Ub{rooms draw cP:Nat}:Tree rooms (md rooms draw (e3 rooms cP)):=by
 have b9:∀r,1<=r->r<=rooms->(md rooms draw (e3 rooms cP)).getD r 0=(0::(e3 rooms cP).take ((e3 rooms cP).idxOf r)).getD (draw / 9^r%(1+(e3 rooms cP).idxOf r)) 0:=λr O ae=>by
  obtain⟨i,rfl⟩:∃i,r=i+1:=⟨r-1,by lia⟩
  delta md
  rw[adj,XB,X1,YN n_];rfl
 have key:∀r,1<=r->r<=rooms->(md rooms draw (e3 rooms cP)).getD r 0=0\/((md rooms draw (e3 rooms cP)).getD r 0∈e3 rooms cP/\(e3 rooms cP).idxOf ((md rooms draw (e3 rooms cP)).getD r 0)<(e3 rooms cP).idxOf r):=λr O ae=>by
  rw[b9 r O ae]
  exact Ua T6 (r'.mpr ⟨O,ae⟩) (by have:=YO (draw / 9^r) (show 0<1+(e3 rooms cP).idxOf r by lia);lia)
 refine⟨by simp[md],rfl,λr=>?_,(e3 rooms cP).idxOf,λr O ae=>(key r O ae).imp id λh=>⟨(r'.mp h.1).1,h.2⟩⟩
 by_cases h:1<=r/\r<=rooms
 ·rcases key r h.1 h.2 with q|q
  ·rw[q];exact Yd _
  ·exact(r'.mp q.1).2
 ·by_cases h0:r=0
  ·subst h0;exact Yd _
  ·rw[XB,X8 (by simp[md];lia)];exact Yd _
section
variable{ls:List (List (List Int))}
theorem Uc(h:Run W n bl ls ee)(ma:∀r,1<=r->r<=n->1<=bl r)(e:∀r g,1<=r->r<=n->1<=g->g<ee r->W r g=bc r g):Run bc n bl ls ee:=by
 induction h with
 |nil=>exact .nil
 | @cons bl c ls ee au ai ih=>
  have ct:=λr kJ=>by
   have:=ud ai r
   rw[l_ kJ]at this
   exact e r _ (au.en r kJ).1 (au.en r kJ).2 (ma r (au.en r kJ).1 (au.en r kJ).2) n_
  have js:jf W bl c=jf bc bl c:=by
   delta jf
   congr 1
   refine Yf λr kJ=>?_
   rw[ct r kJ]
  rw[js]
  refine .cons (au.agree ct) (ih (λr O ae=>?_) e)
  have:=ma r O ae
  delta fS
  split<;>lia
variable{st:cm}
theorem Ud(az:I.length=n+1)(T:Tree n eV)(ma:∀r,1<=r->r<=n->cQ I r (bl r)=eV.getD r 0):l' (cQ I) n bl:=by
 refine cS T.out λuz Ue=>?_
 have key:∀m r,uz r<m->1<=r->r<=n->∃k,it (λr=>cQ I r (bl r)) k r=0:=by
  intro m
  induction m with
  |zero=>intro r h;exact absurd h (Y_ _)
  |succ m ih=>
   intro r ai O ae
   rcases Ue r O ae with q|⟨cV,dN⟩
   ·exact⟨1,by show cQ I r (bl r)=0;rw[ma r O ae,q]⟩
   ·refine cS (ih (eV.getD r 0) (by lia) cV (T.le r)) λk aL=>?_
    refine⟨k+1,?_⟩
    show it _ k (cQ I r (bl r))=0
    rw[ma r O ae];exact aL
 exact Ht λr O ae=>key (uz r+1) r (Yt _) O ae
theorem Ug(az:I.length=4\/I.length=5)(me:Run (cQ I) (I.length-1) (bU (eN I)) rings ee)(T:Tree (I.length-1) eV)
  (H:left (g5 I ee eV) (bU (eN (g5 I ee eV)))<20) (aP:∀s∈order,s<=I.length-1) (uh:∀r,1<=r->r<=I.length-1->r∈order) :
  (jc (g5 I ee eV) order (eN (g5 I ee eV))).lead=eV/\gi gV (jc (g5 I ee eV) order (eN (g5 I ee eV))).rings=gi gV rings/\Good (g5 I ee eV) (jc (g5 I ee eV) order (eN (g5 I ee eV))):=by
 have h':(g5 I ee eV).length=I.length:=wO
 refine bC λ_ a'=>?_
 refine gH (lx az) λl1 hx sa=>?_
 obtain⟨c8,a3,bO⟩:=lx (I:=g5 I ee eV) (by rw[h'];exact az)
 refine a' ?_
 have Iv:∀r,1<=r->r<=I.length-1->bU (eN I) r=1:=λr O ae=>by
  rw[hx,r7 O,XB,Y2,if_pos ob];rfl
 have Uh:∀r,bU (eN I) r<=(I.getD r []).length+1:=λr=>by
  rw[hx]
  delta fv
  split
  ·exact Ct
  ·simp only[XB,Y2]
   split<;>simp
 have top:=H8 me Uh
 have low:=λr O ae=>by
  have:=ud me r
  rw[Iv r O ae]at this;exact this
 have v_:=λr O ae=>SR O ob (low r O ae) (top r) (T.le r)
 have wJ:=Ud (by rw[h'];exact CI) T v_
 have z:(g5 I ee eV).getD 0 []=[]:=by
  delta g5
  rw[XB,X1,YN mj];rfl
 obtain⟨fe,eR,eI,fy,cJ⟩:=HL (order:=order) H (by rw[h'];exact aP) (by rw[h'];exact uh) c8 z
 rw[h',(show bU (eN (g5 I ee eV))=bU (eN I)from by rw[hx,a3,h'])]at eR
 rw[h']at fy
 rw[bO,acL]at eI
 obtain⟨q,p⟩:=A4 eR fy (Uc me (λr O ae=>by rw[Iv r O ae];exact mh) λr g O ae cE qx=>SQ O ob cE qx (top r)) wJ
 refine⟨?_,by rw[eI];exact wc gh.gV p,cJ⟩
 refine um (by rw[cJ.dE,h',T.len];exact CI) λi aq=>?_
 rw[cJ.dE,h']at aq
 by_cases h0:i=0
 ·subst h0;rw[cJ.qn,T.z]
 ·rw[cJ.ld i (by lia) (by rw[h'];exact aq),q]
  exact v_ i (by lia) xE
end
abbrev fw:YI:=(b6 31).2
abbrev lst(i:Nat):ZF:=((b6 31).1[i]?).getD (.Break default)
noncomputable def qy:List Nat:=[716,29394,53361,37955,2409,98765]
def kM(ns:List Int)(i:Nat):Nat:=qy.getD i 0+((fQ ns (some (i:Int)) (some ((60:Nat):Int)) (some ((6:Nat):Int))).map λz=>(z.fmod 1000000).toNat).sum
def jH(ns:List Int):List Nat:=(XO 6).map (kM ns)
section
theorem Iw(xs:List α)(lo aq:Option Int){st:Int}(h:0<st):(fQ xs lo aq (some st)).length<=xs.length:=by
 refine XC (List.length_filterMap_le _ _) (sliceRange_length_le _ _ _ _ (λau=>?_) λau=>?_)
 ·simp only[sliceBounds,aaN,gt_iff_lt,h,if_true]
  constructor
  ·cases lo with
   |none=>simp
   |some i=>exact Int.le_max_left ..
  ·cases aq with
   |none=>simp
   |some i=>exact Int.max_le.mpr ⟨YH _,Int.min_le_right ..⟩
 ·simp only[sliceBounds,aaN,gt_iff_lt]at au
  exact absurd h au
theorem Xu(z:Int):V.int (z.fmod 1000000)=V.int (((z.fmod 1000000).toNat:Nat):Int):=by
 have:=ae' z (show(0:Int)<1000000 by decide)
 simp only[afK this]
theorem Ix:∀l:List Int,(l.map λz=>z.fmod 1000000).sum=(((l.map λz=>(z.fmod 1000000).toNat).sum:Nat):Int)
 | []=>rfl
 |z::l=>by
  have:=ae' z (show(0:Int)<1000000 by decide)
  simp only[Yb,aaJ,Ix l,aa4,afK this]
section
variable{pos:Pos}
theorem Ui{Q:XF->XG->Prop}{it:XM}{bY np:List XM}{St:(XM->Prop)->Zu->List V->Prop}(aW:cs A k)(aa:cT G sc env)(O:∀bX:XF->XG->Prop,(∀ao,bb s ao->bX (.ref it) ao)->wpAny (model G.prog G.w) A (eval iter env) bX E s)(W:a4 G σ (np++pr) s)(F:bg σ (np++pr) s.heap env Γ)(kE:env.locals∈pr)(m8:∀x c,(x,c)∈env.cells->c∈pr)
  (cx:g9 G A σ bh wr bY it St) (cg:∀b∈np,b∉pr) (cH:∀b∈wr,b∈np) (dX:∀b∈bY,b∉pr/\b∉np/\b<s.heap.objs.size) (st:St (aT σ (np++pr)) s.heap ds) (ae:d3 G k (fP scope sc) σ bh da elt (hs scope Γ) xs ds outs) (hsz:outs.length<=YD)
  (aA:∀v J,KB (·∈wr) s J->bg σ pr J.heap env Γ->bu (aT σ pr) J.heap v (.list outs)->Q v J) (au:autoParam (mq sc scope xs=true) aD)
  (aG:autoParam (∀env x,YM iter env x=pure x) aI):wpAny (model G.prog G.w) A (eval (.ListComp elt [⟨bh,iter,da,0⟩] scope pos) env) Q E s:=by
 have c:=gO.of au
 refine Zw (use:=none) (cl:=dC env.cells scope.names) rfl (aG env) (c.kS aa F) c.k c.loc ?_
 refine O _ λao aM=>?_
 have bo:=W.keep aM
 have bQ:=F.keep aM
 have fO:=cx.mono _ _ _ _ _ st (λb o p e=>⟨p,aM.get e⟩) λb o _ e=>aM.get e
 refine cx.self _ _ _ _ _ fO ?_
 refine Dv (f0:=λacc C=>compPost (model G.prog G.w) A E none Q acc C) c aa bo bQ m8 cx cg cH (λb H=>⟨(dX b H).1,(dX b H).2.1,XE (dX b H).2.2 aM.size⟩) fO (λcenv D pr s jU pz W F acc st X _ h=>ya (k:=k) (sc:=fP scope sc) (xs:=xs) rfl (by show((compTurn (.ListComp elt [⟨bh,iter,da,0⟩] scope pos) 0 (.ref it) (.ref D) cenv).onRaise λx=>do noteFrame x cenv;theTreesLotGoes x)=_;rw[u0]) (aay rfl) aW pz cx X ds outs [] s ae W F acc st (by simpa using hsz) h) ?_
 intro D C J ks br eY fV jr aw
 obtain⟨m,hm⟩:=br
 refine⟨m,hm,λah c1=>?_⟩
 refine g8 aw λn vs a3 r=>?_
 have d0:KB (λb=>b=C) J {J with heap:=ah}:=.hr c1 rfl
 have Uj:∀b,b0 env b->b∈pr:=λb H=>by
  rcases H with rfl|⟨x,ag⟩
  ·exact kE
  ·exact m8 x b ag
 have Xv:=λb H=>bo.lt b (.inr (XQ _ H))
 have hJ:KB (·∈wr) ao {J with heap:=ah}:=⟨λb o H e=>d0.keep b o (λq=>XN _ (XE (XX e) (q▸fV))) (ks.keep b o H e),XC ks.size d0.size,ks.os,ks.gens⟩
 refine aA _ _ ((aM.mono λ_ q=>q.elim).trans hJ) ((bQ.aJ hJ (λb H q=>q.2 (XS _ (cH b H))) λb H q=>cg b (cH b H) (Uj b q)).ei kE m8) (.list (n:=n) (vs:=vs) (d0.keep D _ (λq=>jr q.symm) a3) ((bo.ei).gs eY) ?_)
 exact(r.aJ d0 λb H q=>q.2 (H▸.head _)).mono λb o q e=>⟨⟨q.1,λH=>q.2 (.tail _ (.tail _ H))⟩,e⟩
end
theorem Uk(P:cK G aK)(eU:ns.length<=63){P':hu->Prop}(h:d4 G (k+24) fw T σ [("cells",.list (aV (jH ns)))] bS P'):
  d4 G (k+24) fw T σ [("script",.list (hw ns))] (lst 0::lst 1::bS) P':=by
 intro A env pr s Q E aW K aa W F aA
 refine p3 (cL (acw ?_ rfl))
 refine XA ((aN.cF (k:=k+24) (sc:=fw) (σ:=σ) P rfl) A env pr s _ _ aW aa W F λv aj ax a0=>?_)
 have cM:=a0.dB
 subst cM
 refine iY (k:=k+24) (sc:=fw) (Γ:=[("script",.list (hw ns))]) (ds:=[.list (aV qy)]) (.type _) aW aa (W.keep ax) (F.keep ax) (.cons (.list (.cons .bf (.cons .bf (.cons .bf (.cons .bf (.cons .bf (.cons .bf .nil)))))) c7) .nil) rfl rfl λvs ao aM bG=>?_
 refine bB bG.inv1 λ_ aB a=>?_
 subst aB
 refine fm a.iR λl BA Ul aB js pl ko=>?_
 subst aB
 have dE:=XX js
 refine agK (m3 js) λah a3 bH hz aL=>?_
 have bx:bb ao {ao with heap:=ah}:=.heap aL (by rw[hz];exact Cw)
 have Iy:bb s ao:=ax.trans aM
 generalize ui:({ao with heap:=ah}:XG)=bI at bx
 have BB:bI.heap=ah:=by rw[<-ui]
 have sb:bb s bI:=Iy.trans bx
 generalize es:ao.heap.objs.size=eT at a3 bH hz dE
 have uA:=es▸Iy.size
 have qz:∀b∈[eT+1,eT],eT<=b/\b<eT+2:=λb H=>by
  rcases XH.mp H with rfl|H
  ·exact⟨YF _,Yt _⟩
  ·exact(XD.mp H).symm▸⟨XT _,Y5 (Yt _)⟩
 have sM:bI.heap.objs.size=eT+2:=by rw[BB];exact hz
 have fx:bg σ ([eT+1,eT]++pr) bI.heap env [("script",.list (hw ns))]:=F.d' sb λb H=>XC uA (qz b H).1
 refine lD (x:="numbers") (d:=.raw (.ref (eT+1))) (by rw[aa.scope];rfl) (.inl (by unfold Yh;rw[aa.scope];rfl)) fx (.raw _) λbM dz eZ=>?_
 have e9:a4 G σ ([eT+1,eT]++pr) bM:=(W.d' sb (λb H=>XC uA (qz b H).1) λb H=>by rw[sM];exact(qz b H).2).aJ dz λb H=>fx.c' b H.b0
 have Iz:∀b,b0 env b->b<eT:=λb H=>XE (W.lt b (.inr (F.c' b H))) uA
 have Um:IsEnum bM.heap (eT+1) eT 0 .none:=dz.keep _ _ (λq=>XN _ (aao (Yt _) (Iz _ q.b0))) (by rw[BB];exact a3)
 have Un:bM.heap.IsListIter eT l 0:=qi (h:=bI.heap) (by rw[BB];exact bH) λo e=>dz.keep _ _ (λq=>XN _ (Iz _ q.b0)) e
 have Uo:bM.heap.get? l=some (gW BA Ul):=dz.keep _ _ (λq=>F.hW l q.b0 pl) (bx.get js)
 have Up:a5 (aT σ ([eT+1,eT]++pr)) bM.heap BA (aV qy):=((ko.d' bx λb H=>by rw[es];exact(qz b H).1)).aJ dz λb H q=>fx.hW b H.b0 q
 show bj _ _ (execs (lst 1::bS) env) _ _ bM
 refine p3 (cL (acw ?_ (by cases env;cases aa.scope;rfl)))
 have r0:∀b∈[l],b∉pr/\b∉[eT+1,eT]/\b<bM.heap.objs.size:=λb H=>by
  rw[XD.mp H]
  refine⟨pl.2,λq=>XN _ (XE dE (qz _ q).1),XE dE (XC (by rw[sM];exact YP (YF _)) dz.size)⟩
 refine Ui (k:=k+24) (sc:=fw) (pr:=pr) (np:=[eT+1,eT]) (wr:=[eT+1,eT]) (bY:=[l]) (it:=eT+1) (St:=x5 (eT+1) eT l) (ds:=kn (aV qy)) (outs:=aV (jH ns)) (xs:=["at","first"]) (Γ:=("numbers",.raw (.ref (eT+1)))::[("script",.list (hw ns))]) aW aa (λbX aR=>(aN.name (k:=k+24) (sc:=fw) rfl) A env _ bM _ _ aW aa e9 eZ λv ez dA pW=>?_) e9 eZ F.fL (λx c hm=>(F.d1 x c hm).1) (Dd (Ys dE) (Ys (Y5 dE)) (abq _) aW.handled) (λb H q=>XN _ (XE (W.lt b (.inr q)) (XC uA (qz b H).1))) (λb H=>H) r0 ⟨BA,0,.none,aV qy,Um,Un,m3 Uo,by rw[abT];exact Up,?_⟩ ?_ (b1 (by simp[jH])) (λv ez dA sS pW=>?_)
 ·have:=pW.dB
  subst this
  exact aR ez dA
 ·unfold kn
  refine Yf λy _=>?_
  simp
 ·rw[wH ay 0]
  unfold jH
  rw[aV,X_]
  refine d3.on λi aq=>⟨_,.tuple (.cons .name (.cons .name .nil)),.cons (.cons .refl rfl) rfl,?_⟩
  have ar:∀lo aq,(fQ ns lo aq (some ((6:Nat):Int))).length<=63:=λlo aq=>XC (Iw ns lo aq aH) eU
  refine .to (.bin (.name rfl) (.call (.cF P rfl) (.dV _) (.cons (d:=.list (hw ((fQ ns (some (i:Int)) (some ((60:Nat):Int)) (some ((6:Nat):Int))).map λz=>z.fmod 1000000))) ?_ .nil) (bW.sum (S:=[]) .list)) .addInt) ?_
  ·have e:hw ((fQ ns (some (i:Int)) (some ((60:Nat):Int)) (some ((6:Nat):Int))).map λz=>z.fmod 1000000)=(fQ ns (some (i:Int)) (some ((60:Nat):Int)) (some ((6:Nat):Int))).map λz=>V.int (z.fmod 1000000):=by unfold hw;rw[X_];rfl
   rw[e]
   refine .comp (S:=[]) (ds:=hw (fQ ns (some (i:Int)) (some ((60:Nat):Int)) (some ((6:Nat):Int)))) (xs:=["number"]) (.list (.to (.i0 (fR:=some (i:Int)) (f5:=some ((60:Nat):Int)) (os:=some ((6:Nat):Int)) (.name rfl) (.some (.name rfl)) (.some .bf) (.some .bf) aH (b1 (by rw[XJ];exact dt))) (by rw[s7])) .list) ?_ (b1 (by rw[XJ];exact XC (ar _ _) aH))
   exact d3.on λz hz=>⟨_,.name,.cons .refl rfl,.bin (.name rfl) .C8 (.DD aH)⟩
  ·rw[Ix,<-aa4]
   rfl
 ·refine lD (x:="cells") (d:=.list (aV (jH ns))) (by rw[aa.scope];rfl) (.inr (by unfold Yh;rw[aa.scope];rfl)) sS pW λhc oS kZ=>?_
  have BC:KB (eb fw env) s hc:=by
   refine⟨λb o H e=>?_,XC sb.size (XC dz.size (XC dA.size oS.size)),oS.os.trans (dA.os.trans (dz.os.trans sb.os)),sb.gens.trans (dz.gens.trans (dA.gens.trans oS.gens))⟩
   have lt:=XX e
   refine oS.keep b o (λq=>H (q.eb λy bk=>by rw[XD.mp bk];exact .inr rfl)) (dA.keep b o (λq=>XN _ (XE lt (XC uA (qz b q).1))) (dz.keep b o (λq=>H (q.eb λy bk=>by rw[XD.mp bk];exact .inl rfl)) (sb.get e)))
  have Uq:∀b,eb fw env b->b∈pr:=λb H=>F.c' b H.b0
  have st:b4 (λb=>b∈T\/eb fw env b) σ σ s hc:=(b4.of BC).mono λb H=>.inr H
  show bj _ _ (execs bS env) _ _ hc
  refine h A env pr hc Q E aW (K.aJ BC λb H au=>K.rv F b H au.b0) aa (W.aJ BC Uq) (kZ.sub λx d e=>?_) λo f J p eB d9 at'=>aA o f J p ((c_.of st).trans' eB) d9 at'
  by_cases ag:x = "cells"
  ·subst ag;exact e
  ·rw[kU ag]at e
   cases e
end
section
variable(ns:List Int)
def dk:Nat:=3+kM ns 0%2
def iL:Nat:=kM ns 0 / 2%3
def fk:Nat:=kM ns 5
def mf(r:Nat):Nat:=kM ns 0 / 6 / 5^r%(8-dk ns)
def qA(r:Nat):List Nat:=(XO (mf ns r)).map λj=>kM ns (r+1) / 8^j%8
def b5:List (List Nat):=[]::(XO (dk ns)).map (qA ns)
def Ur:bD:=[("cells",.list (aV (jH ns)))]
def BD:bD:=[("draw",ay (fk ns)),("size",ay (iL ns)),("rooms",ay (dk ns)),("cells",.list (aV (jH ns)))]
def BE:bD:=("highs",.list (aV ((XO (dk ns)).map (mf ns))))::BD ns
def w8:bD:=("ways",.list ((b5 ns).map dI))::BE ns
end
section
variable{ns:List Int}
theorem kb:dk ns=3\/dk ns=4:=by unfold dk;lia
theorem IA(r:Nat):mf ns r<=4/\(dk ns=4->mf ns r<=3):=by
 have h:=YO (kM ns 0 / 6 / 5^r) (show 0<8-dk ns by have:=kb (ns:=ns);exact CH)
 delta mf
 rcases kb (ns:=ns)with e|e<;>(rw[e]at h ⊢;lia)
theorem BF{i:Nat}(aq:i<6):(aV (jH ns))[((i:Nat):Int).toNat]?=some (ay (kM ns i)):=by
 simp only[X0,X1]
 delta jH
 rw[X1,YN aq];rfl
theorem Us:bR G (k+24) fw T σ (Ur ns) (lst 2) (·=.next σ (BD ns)):=by
 have IB:∀{Γ:bD} {cb dw el:Pos} {bt:Nat},Γ.lookup ("cells":Str)=some (.list (aV (jH ns)))->aN G (k+24) fw σ Γ (.Subscript (.Name "cells" cb) (.Constant (.int 0) bt dw) el) (ay (kM ns 0)):=λh=>.gZ (.name h) (.bf (n:=0)) (.iZ aH (BF (i:=0) aH) aH)
 refine .unpack (d:=.tuple [ay (dk ns),ay (iL ns),ay (fk ns)]) (.tuple (.cons (.bin (.bf (n:=3)) (.bin (IB rfl) (.bf (n:=2)) (.j1 aH)) .g2) (.cons (.bin (.bin (IB rfl) (.bf (n:=2)) (.kv aH aH)) (.bf (n:=3)) (.j1 aH)) (.cons (.gZ (.name rfl) (.bf (n:=5)) (.iZ aH (BF (i:=5) aH) aH)) .nil))) c7) (.tuple (.cons .name (.cons .name (.cons .name .nil)))) (λx ag=>?_) (bz:=λenv h=>by cases env;cases h;rfl)
 simp only[XY,XH,Zx,or_false]at ag
 rcases ag with rfl|rfl|rfl<;>first|exact .inl rfl|exact .inr rfl
theorem Ut(P:cK G aK):bR G (k+24) fw T σ (BD ns) (lst 3) (·=.next σ (BE ns)):=by
 have ai:=kb (ns:=ns)
 refine .yG (S:=[]) (ds:=aV (XO (dk ns))) (xs:=["room"]) (.to (.q3 (.cF P rfl) (n:=((dk ns:Nat):Int)) (.name rfl) (by lia) n') (by rw[X0];exact vE _)) ?_ (b1 (by simp;exact iO))
 rw[aV,aV,X_]
 refine d3.on λr dj=>⟨_,.name,.cons .refl rfl,?_⟩
 have:=X2.mp dj
 exact .bin (.bin (.bin (.gZ (.name rfl) (.bf (n:=0)) (.iZ aH (BF (i:=0) aH) aH)) (.bf (n:=6)) (.kv aH aH)) (.bin (.bf (n:=5)) (.name rfl) (.rb aH CN)) (.kv (ab9 aH) (tu aH CN))) (.bin (.bf (n:=8)) (.name rfl) (.ou iO)) (.j1 CH)
theorem Uu(P:cK G aK):bR G (k+24) fw T σ (BE ns) (lst 4) (·=.next σ (w8 ns)):=by
 have ai:=kb (ns:=ns)
 have hz:((((aV (jH ns)).drop 1).zip (aV ((XO (dk ns)).map (mf ns)))).map wk)=(XO (dk ns)).map λr=>V.tuple [ay (kM ns (r+1)),ay (mf ns r)]:=by
  refine Y3 (by simp[jH];lia) λi O ae=>?_
  have aq:i<dk ns:=by simpa using ae
  simp[jH]
 have e:(b5 ns).map dI=[V.list []]++(XO (dk ns)).map λr=>dI (qA ns r):=by
  delta b5
  rw[Yb,X_];rfl
 delta w8
 rw[e]
 refine .eS (.bin (.list (.cons (.list .nil c7) .nil) c7) (.comp (S:=[]) (ds:=(XO (dk ns)).map λr=>V.tuple [ay (kM ns (r+1)),ay (mf ns r)]) (xs:=["cell","high"]) (.to (.zip (.cF P rfl) (.to (.i0 (fR:=some ((1:Nat):Int)) (f5:=none) (os:=none) (.name rfl) (.some .bf) .none .none aH (b1 (by simp[jH]))) (by rw[pick_from])) (.name rfl) .list .list (by simp[jH];exact iO)) hz) ?_ (b1 (by simp;exact iO))) (.h2 (b1 (by simp;lia))))
 refine d3.on λr dj=>⟨_,.tuple (.cons (.name (.inr rfl)) (.cons .name .nil)),.cons (.cons .refl rfl) rfl,?_⟩
 have bK:=(IA (ns:=ns) r).1
 refine .comp (S:=[]) (ds:=aV (XO (mf ns r))) (xs:=["at"]) (.to (.q3 (.cF P rfl) (n:=((mf ns r:Nat):Int)) (.name rfl) oa n') (by rw[X0];exact vE _)) ?_ (b1 (by rw[XJ];simp[qA];exact dt))
 delta qA
 rw[aV,aV,X_]
 refine d3.on λj bq=>⟨_,.name,.cons .refl rfl,?_⟩
 have:=X2.mp bq
 exact .bin (.bin (.name rfl) (.bin (.bf (n:=8)) (.name rfl) (.rb aH uN)) (.kv (ab9 aH) (tu aH uN))) (.bf (n:=8)) (.j1 aH)
end
section
variable{Xw:List XM}{m r:Yy}{pos:Pos}{rV:V}{w9 w_:CmpOp}
theorem f_.Uv{f:XF}{dD:Yy}(hf:aN G k sc σ Γ dD (.raw f))(au:Calls G f)(aU:∀b∈T,b∈σ.at)(O:lh G k sc T σ Γ (e::aZ) RL)(ae:∀a9 ds,RL a9 ds->∃T',(∀b∈T',b∈T\/(b∈a9.at/\b∉σ.at))/\fs G k T' a9 f ds R)
  (he:autoParam (dU e aZ) aI) (fg:autoParam (BT pos aZ) aI)
  (aR:autoParam (ik dD (e::aZ) pos) aI):f_ G k sc T σ Γ (.Call dD (e::aZ) [] pos) R:=by
 intro A env pr s Q E aW K aa W F aA
 rw[aR]
 refine d8 (cL (hf A env pr s _ _ aW aa W F λv aj ax a0=>?_))
 have cM:=a0.dB
 subst cM
 have H:Yw pos (X5 (e::aZ) env)=(false,eval e env)::Yw pos (X5 aZ env):=by rw[he];rfl
 have km:(Yw pos (X5 (e::aZ) env)).any (·.1)=false:=by rw[H,abu,fg];rfl
 have key:∀(f:XF) (bX:Args->XG->Prop),(∀cC ds vs J,RL cC ds->c_ A (·∈T) σ cC aj J->c5 A (some env.locals) pr J.heap->a4 G cC pr J->bg cC pr J.heap env Γ->a5 (aT cC pr) J.heap vs ds->bX ⟨vs,[]⟩ J)->bj (model G.prog G.w) A (evalArgs f true (Yw pos (X5 (e::aZ) env)) []) bX E aj:=λf bX aR=>by
  rw[H]
  refine vP ?_
  exact H▸O A env pr aj pos _ _ aW (K.keeps ax) aa (W.keep ax) (F.keep ax) aR
 have fin:∀cC ds vs ao,RL cC ds->c_ A (·∈T) σ cC aj ao->c5 A (some env.locals) pr ao.heap->a4 G cC pr ao->bg cC pr ao.heap env Γ->a5 (aT cC pr) ao.heap vs ds->bj (model G.prog G.w) A (acp v vs) Q E ao:=λcC ds vs ao ai fO j2 bo bQ bG=>by
  refine bB (ae cC ds ai) λT' jv ae=>?_
  have oB:=λb H=>(jv b H).elim (λq=>fO.old b (aU b q)) λq=>q.1
  refine ae A pr ao vs _ _ aW (j2.full bQ) bo bG λY d v J ar df d9 bc bV=>?_
  have IC:=(c_.of (b4.dF ax)).trans' fO
  exact aA Y d v J ar (IC.trans df λb H=>(jv b H).imp id λq=>(IC.new b q.1).elim (λz=>absurd z q.2) id) d9.loose bc (bQ.eB df (λb H q=>q.1 (oB b H)) (λb H q=>bo.apart b (oB b H) (bQ.c' b q)) λb H=>(j2.dm H).1) bV
 cases au with
 |dV id=>exact zD km (key _ _ fin)
 |type T=>exact vQ km (key _ _ fin)
 |func aP hd=>exact zC (o:=_) (fd:=_) (key _ _ λcC ds vs J ai df d9 bc b7 bV=>⟨⟨bc.base _ _ aP,hd⟩,fin cC ds vs J ai df d9 bc b7 bV⟩)
theorem aN.ID(O:aN G k sc σ Γ l bZ)(ae:aN G k sc σ Γ m d₂)(a2:aN G k sc σ Γ r rV)(a1:a8 G k σ (compareOp w9) bZ d₂ (.bool true))(cw:a8 G k σ (compareOp w_) d₂ rV d)
  (aR:autoParam (∀env,eval (.Compare l [w9,w_] [m,r] pos) env=(do compareChain pos (<-eval l env) [w9,w_] [eval m env,eval r env])) aI):aN G k sc σ Γ (.Compare l [w9,w_] [m,r] pos) d:=by
 intro A env pr s Q E R aa W F h
 rw[aR]
 refine XA (O A env pr s _ _ R aa W F λcN aj ax a0=>?_)
 have cA:=W.keep ax
 have cX:=F.keep ax
 refine XA (X7 (ae A env pr aj _ _ R aa cA cX λd2 ao aM bG=>XA (Yl ?_)))
 have bo:=cA.keep aM
 have bQ:=cX.keep aM
 refine XA (X7 (a1 A pr ao cN d2 _ _ R bo (a0.keep aM) bG λc bI cu lI=>?_))
 refine XA (wpAny_release ?_)
 have eH:=bo.keep cu
 have fx:=bQ.keep cu
 refine XA (X7 (kh.bool (b:=true) A pr bI c _ _ R eH lI λbM dz=>?_))
 rw[if_pos rfl]
 have e9:=eH.keep dz
 have eZ:=fx.keep dz
 refine XA (X7 (a2 A env pr bM _ _ R aa e9 eZ λFu ez dA pW=>XA (Yl (ahv ?_))))
 have IE:bb ao ez:=(cu.trans dz).trans dA
 exact cw A pr ez d2 Fu _ _ R (e9.keep dA) (bG.keep IE) pW λv J bN bV=>h v J (((ax.trans aM).trans IE).trans bN) bV
end
theorem n3:(b5 ns).length=dk ns+1:=by simp[b5]
theorem hF:(b5 ns).length=4\/(b5 ns).length=5:=by
 rw[n3];have:=kb (ns:=ns);lia
theorem Uw(ai:r<dk ns):(b5 ns).getD (r+1) []=qA ns r:=by
 delta b5
 rw[adj,XB,X1,YN ai];rfl
theorem IF(ai:dk ns<r):(b5 ns).getD r []=[]:=by
 rw[XB,X8 (by rw[n3];exact Cz)];rfl
theorem Ux(r:Nat):(qA ns r).length=mf ns r:=by simp[qA]
theorem n4(r:Nat):((b5 ns).getD r []).length<=4/\(dk ns=4->((b5 ns).getD r []).length<=3):=by
 cases r with
 |zero=>exact⟨Yd _,λ_=>Yd _⟩
 |succ r=>
  by_cases h:r<dk ns
  ·rw[Uw h,Ux];exact IA r
  ·rw[IF (by lia)];exact⟨Yd _,λ_=>Yd _⟩
theorem uB:∀row∈b5 ns,∀w∈row,w<=7:=by
 intro row ai w bz
 rcases XH.mp ai with rfl|ai
 ·cases bz
 ·refine bB (XZ.mp ai) λr _ aB=>?_
  subst aB
  refine bB (XZ.mp bz) λj _ aB=>?_
  subst aB
  lia
theorem mS:eL (b5 ns):=⟨by have:=hF (ns:=ns);exact iO,λr=>by have:=(n4 (ns:=ns) r).1;exact dt,uB⟩
theorem Uy{f:Nat->Nat}{b:Nat}(h:∀i,f (i+1)<=b):∀n,((XO (n+1)).map f).sum<=f 0+b*n:=by
 intro n
 induction n with
 |zero=>simp
 |succ n ih=>
  rw[agy,Yx,agx,acG,<-Yo]
  exact aah ih (h n)
theorem IG{b:Nat}(az:I.length=n+1)(h0:I.getD 0 []=[])(h:∀r,(I.getD (r+1) []).length+1-bl (r+1)<=b):left I bl<=1+b*n:=by
 delta left
 simp only[az]
 refine XC (Uy (f:=λr=>(I.getD r []).length+1-bl r) h n) ?_
 rw[h0];simp
theorem IH:fv (gF I) (r+1)=if r+1<I.length then 1 else 0:=by
 delta fv gF
 rw[if_neg (by lia),XB,Y2]
 split<;>rfl
theorem II:left (b5 ns) (fv (gF (b5 ns)))<16:=by
 have key:∀b,(∀r,((b5 ns).getD r []).length<=b)->1<=b->left (b5 ns) (fv (gF (b5 ns)))<=1+b*dk ns:=λb H O=>IG (n:=dk ns) (b:=b) n3 rfl λr=>by
  rw[IH]
  by_cases h:r+1<(b5 ns).length
  ·rw[if_pos h];have:=H (r+1);lia
  ·rw[n3]at h
   rw[IF (by lia)]
   simp;split<;>lia
 rcases kb (ns:=ns)with e|e
 ·have:=key 4 (λr=>(n4 r).1) aH
  rw[e]at this;exact jJ
 ·have:=key 3 (λr=>(n4 r).2 e) aH
  rw[e]at this;exact jJ
theorem Uz(eU:ns.length<=63){i:Nat}(aq:i<6):kM ns i<2^27:=by
 have ar:(fQ ns (some (i:Int)) (some ((60:Nat):Int)) (some ((6:Nat):Int))).length<=63:=XC (Iw ns _ _ aH) eU
 have aG:∀l:List Int,(l.map λz=>(z.fmod 1000000).toNat).sum<=1000000*l.length:=by
  intro l
  induction l with
  |nil=>simp
  |cons z l ih=>
   have:=Int.fmod_lt_of_pos z (show(0:Int)<1000000 by decide)
   rw[Yb,aaJ,Yi,acG,YL]
   exact aah ih (Int.toNat_le.mpr (Int.le_of_lt this))
 have O:=aG (fQ ns (some (i:Int)) (some ((60:Nat):Int)) (some ((6:Nat):Int)))
 have ae:qy.getD i 0<=98765:=by
  exact(show ∀j,j<6->qy.getD j 0<=98765 from by decide) i aq
 delta kM
 exact XW (aah ae (XC O (ZM _ ar))) aH
section
variable{new:List XM}{draw:Nat}{st:cm}
theorem hR.same(M:hR σ a9 new)(S:di T a9 Y)(aU:∀a∈T,a∈new):hR σ Y new:=⟨λp ar=>S.keep p.1 p.2 (λq=>M.new p.1 (aU _ q) (dr ar)) (M.old p ar),M.new⟩
theorem IJ:∀a∈af.cW,a∈af.all:=λa aY=>by
 simp only[eE.cW,XH]at aY
 simp only[eE.all,XH,XY]
 rcases aY with q|q|q|q
 ·exact .inl q
 ·exact .inr (.inl q)
 ·exact .inr (.inr (.inl q))
 ·exact .inr (.inr (.inr (.inl q)))
theorem BG(bP:eL I):em (eN I) 200:=em.oQ (Be.mono (by have:=bP.len;unfold jg;simp;exact dt))
def w'(C:XM)(σ Y:ba)(I:List (List Nat))(ak size:Nat)(st:cm)(d:V):Prop:=∃af:eE,d=.raw (.ref af.h)/\b3 C Y af I ak size st.gone st/\hR σ Y af.all
theorem BH(L:eD G aK ck K cJ c4 bA bF)(bP:eL I)(h0:0<I.length)(hd:ak<2^39){f:XF}{dD a3 bH dP:Yy}{h7 cb pos:Pos}(hf:aN G (k+24) sc σ Γ dD (.raw f))(au:Calls G f)(Bj:aN G (k+24) sc σ Γ a3 (.list (I.map dI)))(Bk:aN G (k+24) sc σ Γ bH (ay ak))(Bl:aN G (k+24) sc σ Γ dP (ay size))(ag:sc.names.lookup ("_law_house":Str)=some .globalImplicit)(aL:sc.kind=.function)
  (UA:∀a9,gM G (k+24) sc a9 Γ aZ ds)
  (ae:∀a9 af,b3 (aK 16) a9 af I ak size (eN I).gone (eN I)->fs G (k+24) af.cW a9 f (.raw (.ref af.h)::ds) (λY d=>d=.raw (.ref af.h)/\b3 (aK 16) Y af I ak size df.gone df/\di af.cW a9 Y))
  (IK:dU a3 [bH,dP]) (IL:dU bH [dP]) (wX:dU dP []) (x6:BT pos aZ)
  (UB:∀env,eval (.Call (.Name "_law_house" h7) [a3,bH,dP] [] cb) env=(do Z5 cb (<-eval (.Name "_law_house" h7) env) [] (Yw cb (X5 [a3,bH,dP] env)) (backToKw cb (Zh [] env))))
  (aR:∀env,eval (.Call dD (.Call (.Name "_law_house" h7) [a3,bH,dP] [] cb::aZ) [] pos) env=(do Z5 pos (<-eval dD env) [] (Yw pos (X5 (.Call (.Name "_law_house" h7) [a3,bH,dP] [] cb::aZ) env)) (backToKw pos (Zh [] env)))) :
  f_ G (k+24) sc [] σ Γ (.Call dD (.Call (.Name "_law_house" h7) [a3,bH,dP] [] cb::aZ) [] pos) (λY d=>w' (aK 16) σ Y I ak size df d):=by
 refine .Uv (RL:=λa9 dg=>∃af:eE,dg=.raw (.ref af.h)::ds/\b3 (aK 16) a9 af I ak size (eN I).gone (eN I)/\hR σ a9 af.all) hf au (λ_ q=>cZ q) (.cons (λ_ q=>cZ q) (.ry (.globT L.P rfl aL ag) (L.P.calls (i:=22) rfl) (λ_ q=>cZ q) (.cons Bj (.cons Bk (.cons Bl .nil wX) IL) IK) ((S1 (k:=k) L bP h0 hd).room n9) IK (λenv=>by rw[IL env,wX env];rfl) UB) ?_ (λ_=>rfl)) ?_ (λ_=>rfl) x6 aR
 ·rintro a9 d ⟨af,rfl,h,M⟩
  exact .mono (.of (UA a9)) λY dg q=>by
   obtain⟨rfl,rfl⟩:=q
   exact⟨af,rfl,h,M⟩
 ·rintro a9 dg ⟨af,rfl,h,M⟩
  refine⟨af.cW,λb H=>.inr ⟨h.ft b H,M.new b (IJ b H)⟩,(ae a9 af h).mono λY d q=>?_⟩
  obtain⟨rfl,ah,S⟩:=q
  exact⟨af,rfl,ah,M.same S IJ⟩
end
section
variable(ns:List Int)
def d5:cm:=jb (b5 ns) (fk ns) 16 0 (eN (b5 ns))
def kN:cm:=jc (b5 ns) (e3 (dk ns) (fk ns)) (eN (b5 ns))
def jh:List Nat×List (List (List Int)):=ic (b5 ns) 16 (gF (b5 ns)) []
def BI(O:XM):bD:=("one",.raw (.ref O))::w8 ns
def BJ(O ae:XM):bD:=("two",.raw (.ref ae))::BI ns O
def BK(O ae:XM):bD:=([("hands",.list (g6 (b5 ns) (jh ns).1)),("rings",.list ((jh ns).2.map gB)),("lead",.list (aV (d_ (b5 ns) (jh ns).1)))]:bD)++BJ ns O ae
end
section
variable{new:List XM}{ns:List Int}
theorem f_.g4(h:f_ G k sc T σ Γ e R)(aU:∀b∈T,b∈T'):f_ G k sc T' σ Γ e R:=by
 intro A env pr s Q E aW K aa W F aA
 exact h A env pr s Q E aW K aa W F λY d v J p st d9 bc b7 r=>aA Y d v J p (st.mono aU) d9 bc b7 r
theorem BL(eU:ns.length<=63):fk ns<2^27:=Uz eU aH
theorem UC(L:eD G aK ck K cJ c4 bA bF)(eU:ns.length<=63):gg G (k+24) fw T σ (w8 ns) (lst 5) (λo=>∃Y af,o=.next Y (BI ns af.h)/\b3 (aK 16) Y af (b5 ns) (fk ns / 2) (iL ns) (d5 ns).gone (d5 ns)/\hR σ Y af.all):=by
 have hd:=BL eU
 have az:=hF (ns:=ns)
 refine .letE (R:=λY d=>w' (aK 16) σ Y (b5 ns) (fk ns / 2) (iL ns) (d5 ns) d) (.g4 (BH (k:=k) (ds:=[ay (fk ns)]) L mS mj xI (.globT L.P rfl) (L.P.calls (i:=25) rfl) (.name rfl) (.bin (.name rfl) (.bf (n:=2)) (.kv aH aH)) (.name rfl) rfl rfl (λ_=>.cons (.name rfl) .nil) (λa9 af h=>?_) (λ_=>rfl) (λ_=>rfl) (λ_=>rfl) (λ_=>rfl) (λ_=>rfl) λ_=>rfl) λ_ q=>cZ q) ?_
 ·refine gH (lx az) λg _ sa=>?_
  exact(QT (k:=k+17) L mS h g.en sa (BG mS)).room mh
 ·rintro Y d ⟨af,rfl,h,M⟩
  exact⟨Y,af,rfl,h,M⟩
theorem UD(L:eD G aK ck K cJ c4 bA bF)(eU:ns.length<=63):gg G (k+24) fw T σ (BI ns O) (lst 6) (λo=>∃Y af,o=.next Y (BJ ns O af.h)/\b3 (aK 16) Y af (b5 ns) (fk ns / 5) (iL ns) (kN ns).gone (kN ns)/\hR σ Y af.all):=by
 have hd:=BL eU
 have az:=hF (ns:=ns)
 have ai:=kb (ns:=ns)
 refine .letE (R:=λY d=>w' (aK 16) σ Y (b5 ns) (fk ns / 5) (iL ns) (kN ns) d) (.g4 (BH (k:=k) (ds:=[.list (aV (e3 (dk ns) (fk ns)))]) L mS mj xI (.globT L.P rfl) (L.P.calls (i:=26) rfl) (.name rfl) (.bin (.name rfl) (.bf (n:=5)) (.kv aH aH)) (.name rfl) rfl rfl (λ_=>.cons (.call (.globT L.P rfl) (L.P.calls (i:=29) rfl) (.cons (.name rfl) (.cons (.name rfl) .nil)) ((zi (k:=0) L.P iO).room hT)) .nil) (λa9 af h=>?_) (λ_=>rfl) (λ_=>rfl) (λ_=>rfl) (λ_=>rfl) (λ_=>rfl) λ_=>rfl) λ_ q=>cZ q) ?_
 ·refine gH (lx az) λg _ sa=>?_
  exact(G1 (k:=k+17) L mS mj h g.en sa (BG mS) (λr dj=>by rw[n3];have:=(r'.mp dj).2;exact Cy) (by rw[ux];exact iO)).room mh
 ·rintro Y d ⟨af,rfl,h,M⟩
  exact⟨Y,af,rfl,h,M⟩
theorem UE(P:cK G aK)(t1:(bw,.tab 85 cV)∈σ)(jy:(bL,.tab 92 dN)∈σ)(aU:∀b∈T,b∈σ.at)(gq:bw∈T)(hU:bL∈T):bR G (k+24) fw T σ (BJ ns O ae) (lst 7) (·=.next σ (BK ns O ae)):=by
 have az:=hF (ns:=ns)
 have IM:∀b∈[bw,bL],b∈T:=λb H=>by
  rcases XH.mp H with rfl|H
  ·exact gq
  ·exact(XD.mp H).symm▸hU
 refine .yZ (R:=λY d=>Y=σ/\d=.tuple [.list (aV (d_ (b5 ns) (jh ns).1)),.list ((jh ns).2.map gB),.list (g6 (b5 ns) (jh ns).1)]) (.call (.globT P rfl) (P.calls (i:=28) rfl) (.cons (.name rfl) .nil) (((Tj (k:=k) P t1 jy (λb H=>aU b (IM b H)) uB (λr=>by have:=(n4 (ns:=ns) r).1;exact dt) az rfl II).g4 IM).room n9) aU) ?_
 rintro Y d ⟨rfl,rfl⟩
 refine⟨_,_,.tuple (.cons .name (.cons .name (.cons .name .nil))),λx ag=>?_,rfl⟩
 simp only[XY,XH,Zx,or_false]at ag
 rcases ag with rfl|rfl|rfl<;>exact .inl rfl
end
section
variable{st:cm}{draw:Nat}{ls:List (List (List Int))}
theorem UG:∀{rooms:List Nat} {st:cm},(iG I st rooms).lead.length=st.lead.length:=by
 intro rooms
 induction rooms with
 |nil=>exact λ{st}=>rfl
 |cons r rooms ih=>exact λ{st}=>(ih (st:=ja I st r)).trans (ZO ..)
theorem UH(bz:I.length<=5):∀(f t:Nat) (st:cm),gS I st->st.lead.length=I.length->em st (10*f+n)->em (jb I draw f t st) n:=by
 intro f
 induction f with
 |zero=>exact λ_ _ _ _ h=>h.mono hT
 |succ f ih=>
  intro t st aw ky h
  simp only[wj]
  split
  ·exact h.mono hT
  ·refine d6 (AF (j:=draw / 4^t%(fD st I).length) aw ky) λc8 du=>?_
   exact ih (t+1) _ (aw.throw c8) (UG.trans ky) (em.throw (h.mono (by lia)))
theorem UI(h0:0<I.length):∀(order:List Nat) (st:cm) (a7:List Nat),gS I st->(∀r∈order,r<I.length)->em st (20*order.length+n)->em (l5 I order (st,a7)).1 n:=by
 intro order
 induction order with
 |nil=>exact λ_ _ _ _ h=>h.mono (Yg (Yq _).symm)
 |cons s order ih=>
  intro st a7 aw aP h
  have W:iH I 20 (20*order.length+n) (st,[],s):=⟨aw,λr ai=>(cZ ai),aP s (.head _),by simp,h.mono (by simp;lia)⟩
  have bc:=GY (a7:=a7) 20 (st,[],s) h0 W
  exact ih _ _ bc.l (λr ai=>aP r (.tail _ ai)) (bc.b.mono hT)
theorem UJ(ar:0<I.length)(h:Run (cQ I) (I.length-1) bl ls ee):ls.length<=left I bl:=by
 induction h with
 |nil=>exact Yd _
 | @cons bl c ls ee au ai ih=>
  have:=r4 au ar
  rw[Yi];lia
end
theorem IP:left (b5 ns) (bU (eN (b5 ns)))<16:=by
 exact((lx (hF (ns:=ns))).2.1).symm▸II
theorem qB:r∈e3 (dk ns) m↔1<=r/\r<=(b5 ns).length-1:=by
 rw[r',n3];lia
theorem n5:Good (b5 ns) (d5 ns)/\Good (b5 ns) (kN ns)/\GoodG (b5 ns) (jh ns).1/\bU (kN ns)=bU (d5 ns)/\bU (d5 ns)=fv (jh ns).1/\(kN ns).lead=(d5 ns).lead/\(d5 ns).lead=d_ (b5 ns) (jh ns).1/\gi gV (kN ns).rings=gi gV (d5 ns).rings/\gi gV (jh ns).2=gi gV (d5 ns).rings/\
  Run (cQ (b5 ns)) ((b5 ns).length-1) (bU (eN (b5 ns))) (d5 ns).rings (bU (d5 ns)):=
 Ta (order:=e3 (dk ns) (fk ns)) (draw:=fk ns) hF rfl (Ye IP) (λs aG=>(qB.mp aG).2) λr O ae=>qB.mpr ⟨O,ae⟩
theorem BM:(d5 ns).rings.length<64/\(kN ns).rings.length<64/\(jh ns).2.length<64:=by
 refine bC λ_ a'=>?_
 obtain⟨_,_,_,_,_,_,_,a3,bH,me⟩:=n5 (ns:=ns)
 refine a' ?_
 have az:=hF (ns:=ns)
 have O:=UJ mj me
 have ae:=IP (ns:=ns)
 have c9:=congrArg aaO a3
 have dQ:=congrArg aaO bH
 rw[(rQ _).length_eq,(rQ _).length_eq]at c9 dQ
 lia
theorem IQ(bz:I.length<=5):em (eN I) 800:=em.oQ (Be.mono (by unfold jg;simp;exact dt))
theorem UK:(d5 ns).right<=900:=by
 refine gH (lx (hF (ns:=ns))) λg _ _=>?_
 have:=(UH (n:=600) (draw:=fk ns) (mS (ns:=ns)).len 16 0 _ g.en g.dE ((IQ (mS (ns:=ns)).len).mono hT)).1
 delta d5
 lia
theorem IS(az:I.length=4\/I.length=5)(aP:∀r∈order,r<I.length)(aw:order.length<=4):(jc I order (eN I)).right<=900:=by
 refine gH (lx az) λg _ _=>?_
 have:=(UI (n:=600) mj order (eN I) [0] g.en aP ((IQ iO).mono (by lia))).1
 delta jc
 lia
theorem UL:(kN ns).right<=900:=IS hF (λr ai=>by have:=(qB.mp ai).2;have:=hF (ns:=ns);exact ob) (by rw[ux];have:=kb (ns:=ns);exact iO)
structure sd(σ:ba)(af:eE)(I:List (List Nat))(ak:Nat)(st:cm):Prop where
 d:(af.h,cf.dict (dO (.list ((lq I ak).map λr=>.list (r.map gj))) (.list (af.av.map λa=>.raw (.ref a))) (.raw (.ref af.g)) (.raw (.ref af.l)) (.list (XR st.right (.bool true))) (.list (st.rings.map gB))))∈σ
 g:(af.g,cf.list (.type "list") none (aV st.gone))∈σ
 l:(af.l,cf.list (.type "list") none (aV st.lead))∈σ
def n6(ns:List Int)(O ae:XM)(m:Nat):bD:=("right",.list (XR m (.bool true)))::BK ns O ae
section
variable{new:List XM}{kW:Nat}{st:cm}
theorem b3.hd(h:b3 C σ af I ak size dv st):sd σ af I ak st:=⟨h.d,h.g,h.l⟩
theorem sd.same(h:sd σ af I ak st)(S:di T σ Y)(aU:af.h∉T/\af.g∉T/\af.l∉T):sd Y af I ak st:=⟨S.keep _ _ aU.1 h.d,S.keep _ _ aU.2.1 h.g,S.keep _ _ aU.2.2 h.l⟩
theorem b3.top(h:b3 C σ af I ak size dv st):af.h∉af.av/\af.g∉af.av/\af.l∉af.av:=by
 have eJ:=Yn.mp h.c2
 have eX:=Yn.mp eJ.2
 have oO:=Yn.mp eX.2
 exact⟨λq=>eJ.1 (.tail _ (.tail _ (XS _ q))),λq=>eX.1 (.tail _ (XS _ q)),λq=>oO.1 (XS _ q)⟩
theorem ho(h:a∈af.av):a∈af.all:=.tail _ (.tail _ (.tail _ (XS _ h)))
theorem di.g4(S:di T σ Y)(h:∀a∈T,a∈T'):di T' σ Y:=⟨S.at_,λa m aY hm=>S.keep a m (λq=>aY (h a q)) hm⟩
theorem UM(R:kL G aK ck K cJ c4 bA bF σ)(BN:b3 (aK 16) σ eo (b5 ns) hY (iL ns) (d5 ns).gone (d5 ns))(UN:b3 (aK 16) σ hS (b5 ns) kW (iL ns) (kN ns).gone (kN ns))(xa:∀a∈eo.all,a∉hS.all)(qC:∀a∈eo.all,a≠bA/\a≠bF)(xb:∀a∈hS.all,a≠bA/\a≠bF)
  (aU:∀b∈T,b∈σ.at) (gr:bA∈T) (mQ:bF∈T) (gq:∀b∈eo.av,b∈T) (hU:∀b∈hS.av,b∈T) :
  bR G (k+24) fw T σ (BK ns eo.h hS.h) (lst 8) (λo=>∃Y,o=.next Y (n6 ns eo.h hS.h 4)/\di (eo.av++hS.av) σ Y):=by
 have hsz:iL ns<=10:=by unfold iL;exact CM
 refine bC λ_ a'=>?_
 obtain⟨_,_,_,_,_,a3,bH,dP,fZ,_⟩:=n5 (ns:=ns)
 refine gH (BM (ns:=ns)) λbO dq h8=>?_
 refine a' ?_
 have P:=R.L.P
 have BO:∀b∈bA::bF::eo.av,b∈T:=λb H=>by
  rcases XH.mp H with rfl|H
  ·exact gr
  ·rcases XH.mp H with rfl|H
   ·exact mQ
   ·exact gq b H
 have UO:∀b∈bA::bF::hS.av,b∈T:=λb H=>by
  rcases XH.mp H with rfl|H
  ·exact gr
  ·rcases XH.mp H with rfl|H
   ·exact mQ
   ·exact hU b H
 refine .letE (R:=λY d=>d=.list [.bool true,.bool true,.bool true,.bool true]/\di (eo.av++hS.av) σ Y) ?_ ?_
 ·refine .list (j0:=λY ds=>ds=[.bool true,.bool true,.bool true,.bool true]/\di (eo.av++hS.av) σ Y) ?_ ?_ ?_
  ·refine .cons aU (.call (.globT P rfl) (P.calls (i:=30) rfl) (.cons (d:=.raw (.ref eo.h)) (.name rfl) (.cons (d:=ay (iL ns)) (.name rfl) .nil)) (((Bx (k:=k) R mS BN hsz qC UK).g4 BO).room n9) aU) ?_
   rintro a9 bZ ⟨hQ,rfl⟩
   have jZ:∀b∈T,b∈a9.at:=λb H=>by rw[hQ.at_];exact aU b H
   have gP:=R.same hQ ⟨λq=>(qC _ (ho q)).1 rfl,λq=>(qC _ (ho q)).2 rfl⟩
   have BP:=UN.same hQ λa aY q=>xa a (ho q) aY
   have UP:=BN.hd.same hQ BN.top
   refine .cons jZ (.call (.globT P rfl) (P.calls (i:=30) rfl) (.cons (d:=.raw (.ref hS.h)) (.name rfl) (.cons (d:=ay (iL ns)) (.name rfl) .nil)) (((Bx (k:=k) gP mS BP hsz xb UL).g4 UO).room n9) jZ) ?_
   rintro cC d₂ ⟨nJ,rfl⟩
   have oB:∀b∈T,b∈cC.at:=λb H=>by rw[nJ.at_];exact jZ b H
   have BQ:=UP.same nJ ⟨λq=>xa _ (.head _) (ho q),λq=>xa _ (.tail _ (.head _)) (ho q),λq=>xa _ (.tail _ (.tail _ (.head _))) (ho q)⟩
   have pY:=BP.hd.same nJ BP.top
   have UQ:=(hQ.g4 λa aY=>XS _ aY).trans (nJ.g4 λa aY=>XQ _ aY)
   refine .cons oB (.of (d:=.bool true) (.ID (.g1 (.name rfl) BQ.d .dx rfl) (.g1 (.name rfl) pY.d .dx rfl) (.name rfl) (.to (a8.k9 (l:=(d5 ns).lead) (m:=(kN ns).lead) (S:=[eo.l]) (i2:=[hS.l]) cj.nat 0 cO.nat (.inr ⟨eo.l,none,rfl,BQ.l,.head _⟩) (.inr ⟨hS.l,none,rfl,pY.l,.head _⟩)) ?_) (.to (a8.k9 (l:=(kN ns).lead) (m:=d_ (b5 ns) (jh ns).1) (S:=[hS.l]) (i2:=[]) cj.nat 0 cO.nat (.inr ⟨hS.l,none,rfl,pY.l,.head _⟩) .list) ?_))) ?_
   ·rw[decide_eq_true a3.symm]
   ·rw[decide_eq_true (a3.trans bH)]
   rintro l4 rV ⟨rfl,rfl⟩
   refine .cons oB (.of (d:=.bool true) (.ID (.call (.cF P rfl) (.dV _) (.cons (.g1 (.name rfl) BQ.d .dx rfl) .nil) (bW.t3 bO)) (.call (.cF P rfl) (.dV _) (.cons (.g1 (.name rfl) pY.d .dx rfl) .nil) (bW.t3 dq)) (.call (.cF P rfl) (.dV _) (.cons (.name rfl) .nil) (bW.t3 h8)) (.to (a8.k9 (S:=[]) (i2:=[]) cj.gB 2 cO.gB .list .list) ?_) (.to (a8.k9 (S:=[]) (i2:=[]) cj.gB 2 cO.gB .list .list) ?_))) ?_
   ·rw[decide_eq_true dP.symm]
   ·rw[decide_eq_true (dP.trans fZ.symm)]
   rintro gz TU ⟨rfl,rfl⟩
   exact .nil ⟨rfl,UQ⟩
  ·intro Y ds dG
   refine od dG λ_=>?_
   exact b1 aH
  ·intro Y ds dG
   refine od dG λS=>?_
   exact⟨rfl,S⟩
 ·intro Y d dG
  refine od dG λS=>?_
  exact⟨Y,rfl,S⟩
end
abbrev xc(i:Nat):ZF:=((nP (lst 9))[i]?).getD (.Break default)
theorem UR:∀r,(d5 ns).gone.getD r 0<=((b5 ns).getD r []).length+1:=by
 refine bC λ_ a'=>?_
 obtain⟨_,_,_,_,_,_,_,_,_,me⟩:=n5 (ns:=ns)
 refine a' ?_
 refine H8 me λr=>?_
 rw[(lx (hF (ns:=ns))).2.1]
 delta fv
 split
 ·exact Ct
 ·simp only[XB,Y2]
  split<;>simp
theorem US:iJ (b5 ns) r / 8^(jh ns).1.getD r 0=fG (((b5 ns).getD r []).drop ((d5 ns).gone.getD r 0)):=by
 by_cases h0:r=0
 ·subst h0
  simp only[(show iJ (b5 ns) 0=0 from rfl),acD]
  rw[(show(b5 ns).getD 0 []=[]from rfl),adp];rfl
 ·obtain⟨_,_,_,_,e,_⟩:=n5 (ns:=ns)
  have:=congrFun e r
  rw[r7 (aaF h0)]at this
  unfold bU at this
  rw[<-this]
  unfold iJ
  refine T7 (λw bz=>?_) _
  by_cases ai:r<(b5 ns).length
  ·exact uB _ (r8 ai) w bz
  ·have:(b5 ns).getD r []=[]:=by simp[XB,ai]
   rw[this]at bz;cases bz
theorem UT:∀w∈((b5 ns).getD r []).drop g,w<=7:=λw bz=>by
 by_cases ai:r<(b5 ns).length
 ·exact uB _ (r8 ai) w (Y7 bz)
 ·have:(b5 ns).getD r []=[]:=by simp[XB,ai]
  rw[this,adp]at bz;cases bz
def hp(ns:List Int)(r:Nat):List Nat:=((b5 ns).getD r []).drop ((d5 ns).gone.getD r 0)
def xd(ns:List Int)(r:Nat):V:=.tuple [dI ((b5 ns).getD r []),ay ((d5 ns).gone.getD r 0),mc (b5 ns) (jh ns).1 r]
def BR(ns:List Int)(O ae:XM)(m r:Nat):bD:=([("hand",mc (b5 ns) (jh ns).1 r),("gone",ay ((d5 ns).gone.getD r 0)),("row",dI ((b5 ns).getD r []))]:bD)++n6 ns O ae m
def uC(ns:List Int)(O ae:XM)(m r:Nat):bD:=([("due",.list (aV (hp ns r))),("told",.list (aV (iK (hp ns r))))]:bD)++BR ns O ae m r
theorem IT:(hp ns r).length<=4:=by unfold hp;rw[YG];exact XC (Zn _ _) (n4 (ns:=ns) r).1
theorem IU:(iK (hp ns r)).length<=(hp ns r).length/\iK (hp ns r)++XR ((hp ns r).length-(iK (hp ns r)).length) 0=hp ns r/\(iK (hp ns r)≠[]->(iK (hp ns r)).getLastD 0≠0)/\ek (fG (hp ns r))<=30/\(ek (fG (hp ns r))+3-1) / 3<=32:=
 T9 UT (XC (IT (ns:=ns) (r:=r)) aH)
theorem UU(P:cK G aK)(t1:(bw,.tab 85 cV)∈σ)(aU:∀b∈T,b∈σ.at)(gq:bw∈T):bR G (k+24) fw T σ (BR ns O ae m r) (xc 0) (·=.next σ (uC ns O ae m r)):=by
 have gC:=(n4 (ns:=ns) r).1
 refine sp (IU (ns:=ns) (r:=r)) λ_ _ _ fI gc=>?_
 refine .y0 (names:=["due","told"]) (R:=λY d=>Y=σ/\d=.tuple [.list (aV (hp ns r)),.list (aV (iK (hp ns r)))]) (.tuple (j0:=λY ds=>Y=σ/\ds=[.list (aV (hp ns r)),.list (aV (iK (hp ns r)))]) (.cons aU (.of (d:=.list (aV (hp ns r))) (.to (.i0 (fR:=some (((d5 ns).gone.getD r 0:Nat):Int)) (f5:=none) (os:=none) (.name rfl) (.some (.name rfl)) .none .none aH (b1 (by rw[XJ];exact XC gC aH))) (by rw[pick_from,aV,<-ado];rfl))) ?_) (λY ds q=>by rw[q.2];exact c7) λY ds q=>⟨q.1,by rw[q.2]⟩) (λY d q=>?_) λx ag=>?_
 ·rintro a9 bZ ⟨rfl,rfl⟩
  refine .cons aU (.call (.globT P rfl) (P.calls (i:=10) rfl) (.cons (d:=ay (fG (hp ns r))) (.to (.mu (.name rfl) (.bf (n:=0)) (.mr aH rfl aH)) (by show ay _=ay _;rw[US];rfl)) (.cons (.bf (n:=3)) .nil)) (((Er (k:=k) P t1 aH aH dt gc).g4 λb H=>by rw[XD.mp H];exact gq).room n9) aU) ?_
  rintro cC d₂ ⟨rfl,rfl⟩
  exact .nil ⟨rfl,rfl⟩
 ·obtain⟨rfl,rfl⟩:=q
  exact⟨_,rfl,rfl,rfl⟩
 ·exact lS (P:=λx=>fw.names.lookup x=some .local) rfl rfl x ag
theorem UW(P:cK G aK)(hm:m<=1000):bR G (k+24) fw T σ (uC ns O ae m r) (xc 1) (·=.next σ (("right",.list (XR (m+3) (.bool true)))::uC ns O ae m r)):=by
 refine sp (IU (ns:=ns) (r:=r)) λa1 cw e7 _ _=>?_
 have aw:=IT (ns:=ns) (r:=r)
 generalize hd:hp ns r=l at a1 cw e7 aw
 generalize hf:iK l=f at a1 cw e7
 have eJ:∀{p},aN G (k+24) fw σ (uC ns O ae m r) (.Name "due" p) (.list (aV l)):=λ{p}=>by rw[<-hd];exact .name rfl
 have eX:∀{p},aN G (k+24) fw σ (uC ns O ae m r) (.Name "told" p) (.list (aV f)):=λ{p}=>by rw[<-hf,<-hd];exact .name rfl
 have e:XR (m+3) (V.bool true)=XR m (V.bool true)++[.bool true,.bool true,.bool true]:=(adN ..).symm
 rw[e]
 refine .eS (.bin (.name rfl) (.list (.cons (d:=.bool true) ?_ (.cons (d:=.bool true) ?_ (.cons (d:=.bool true) ?_ .nil))) c7) (.h2 (b1 (by rw[Zb];exact XC (Zo hm 3) aH))))
 ·refine .cmp (.to (.bin eX (.bin (.list (.cons (.bf (n:=0)) .nil) c7) (.bin (.to (.call (.cF P rfl) (.dV _) (.cons eJ .nil) (bW.len (S:=[]) .list (wW (YP aw)))) (dM:=ay l.length) (by rw[XJ])) (.to (.call (.cF P rfl) (.dV _) (.cons eX .nil) (bW.len (S:=[]) .list (wW (YP (XC a1 aw))))) (dM:=ay f.length) (by rw[XJ])) (.ou a1)) (.LP n' JM (by simp;lia))) (.h2 (b1 (by simp;exact JS)))) (dM:=.list (aV l)) ?_) eJ (.to (a8.k9 (l:=l) (m:=l) (S:=[]) (i2:=[]) cj.nat 0 cO.nat .list .list) (by rw[decide_eq_true rfl]))
  rw[X0,Ep,(Yx (f:=ay)).symm.trans (congrArg aV cw)]
 ·have aR:=a8.s6 (G:=G) (k:=k+24) (σ:=σ) (S:=[]) (z:=true) (l:=XR f.length false) (d₂:=.list ((XR f.length false).map V.bool)) cj.bool 0 cO.bool .list
  refine .cmp .m5 (.comp (S:=[]) (ds:=aV f) (xs:=["figure"]) (.list eX .list) ?_ (by rw[aa2];exact b1 (by rw[Zb];exact XC (XC a1 aw) aH))) (.to aR ?_)
  ·have e:(XR f.length false).map V.bool=f.map λ_=>V.bool false:=by rw[aa2,ad_]
   rw[e]
   exact d3.on λx ag=>⟨_,.name,.cons .refl rfl,.call (.cF P rfl) (.dV _) (.cons (.name rfl) (.cons (.cF P rfl) .nil)) bW.yC⟩
  ·have:true∉XR f.length false:=λq=>by have:=ab' q;cases this
   rw[decide_eq_false this];rfl
 ·refine .to (.Kh (b:=decide (f=[])) (bZ:=.bool (decide (f=[]))) (d₂:=.bool true) (.cmp eX (.list .nil c7) (a8.k9 (l:=f) (m:=[]) (S:=[]) (i2:=[]) cj.nat 0 cO.nat .list .list)) .bool λH=>?_) ?_
  ·have b':=of_decide_eq_false H
   exact .cmp (.gZ eX (.un (.bf (n:=1)) .hb) (rf b' CL)) (.bf (n:=0)) (.to .neN (congrArg V.bool (bne_iff_ne.mpr (e7 b'))))
  ·by_cases h:f=[]
   ·rw[decide_eq_true h];rfl
   ·rw[decide_eq_false h];rfl
theorem UX(P:cK G aK)(t1:(bw,.tab 85 cV)∈σ)(aU:∀b∈T,b∈σ.at)(gq:bw∈T){cb dw el dW:Pos}{k1:Nat}(f:Nat):∀(r m:Nat),m+3*f<=1000->hL G (k+24) fw T (.Tuple [.Name "row" cb,.Name "gone" dw,.Name "hand" el] k1 dW) [xc 0,xc 1] (·=.next σ (n6 ns O ae (m+3*f))) ((Zr r f).map (xd ns)) σ (n6 ns O ae m):=by
 induction f with
 |zero=>exact λr m _=>rfl
 |succ f ih=>
  intro r m hm
  have e:m+3+3*f=m+3*(f+1):=by rw[acG,Yo,YL 3]
  refine⟨BR ns O ae m r,_,(·=.next σ (n6 ns O ae (m+3))),.tuple (.cons .name (.cons .name (.cons .name .nil))),rg (.inl rfl) (.inl rfl) (.inl rfl),?_,?_⟩
  ·refine cp.end_ (.seq (UU P t1 aU gq) (.one (UW P (XC (X4 _ _) hm)))) ?_
   exact .cv rfl (.cv rfl (.cv rfl (.cv rfl (.cv rfl (.cv rfl (.cv rfl (.cv rfl (.cv rfl (.cv rfl (.cv rfl (.cv rfl .nil)))))))))))
  ·rintro o rfl
   have:=ih (r+1) (m+3) (e.symm▸hm)
   replace this:=e▸this
   exact this
theorem UY(P:cK G aK)(t1:(bw,.tab 85 cV)∈σ)(aU:∀b∈T,b∈σ.at)(gq:bw∈T)(hd:sd σ eo (b5 ns) hY (d5 ns))(cE:eo.g∉T)(hm:m<=900):bR G (k+24) fw T σ (n6 ns eo.h ae m) (lst 9) (·=.next σ (n6 ns eo.h ae (m+3*(b5 ns).length))):=by
 have az:=hF (ns:=ns)
 refine so (n5 (ns:=ns)) λc8 _ eK _=>?_
 have hz:((((b5 ns).map dI).zip ((aV (d5 ns).gone).zip (g6 (b5 ns) (jh ns).1))).map ub)=(Zr 0 (b5 ns).length).map (xd ns):=by
  rw[<-ZU]
  refine Y3 (by simp[g6,c8.fj]) λi O ae=>?_
  have aq:i<(b5 ns).length:=by simpa using ae
  simp[g6,xd,XB,aq,(show i<(d5 ns).gone.length from by rw[c8.fj];exact aq)]
 exact .kY (S:=[eo.g]) (ds:=(Zr 0 (b5 ns).length).map (xd ns)) (.to (.AW (.cF P rfl) (.name rfl) (.g1 (.name rfl) hd.d .dx rfl) (.name rfl) .list (.inr ⟨eo.g,none,rfl,hd.g,.head _⟩) .list (by rw[XJ,XJ,c8.fj]) (by unfold g6;rw[XJ,XJ,Yc])) hz) aU (λb H=>by rw[XD.mp H];exact cE) (UX P t1 aU gq (b5 ns).length 0 m (by lia))
def jI(ns:List Int):List Nat:=md (dk ns) (fk ns) (e3 (dk ns) (fk ns / 7))
def eW(ns:List Int):List (List Nat):=g5 (b5 ns) (bU (d5 ns)) (jI ns)
def BS(ns:List Int)(O ae:XM)(m:Nat):bD:=("order",.list (aV (e3 (dk ns) (fk ns / 7))))::n6 ns O ae m
def xe(ns:List Int)(O ae:XM)(m:Nat):bD:=("tree",.list (aV (jI ns)))::BS ns O ae m
def xf(ns:List Int)(O ae:XM)(m:Nat):bD:=("other",.list ((eW ns).map dI))::xe ns O ae m
section
variable{pos:Pos}
theorem UZ(P:cK G aK):bR G (k+24) fw T σ (n6 ns O ae m) (lst 10) (·=.next σ (BS ns O ae m)):=by
 have ai:=kb (ns:=ns)
 exact .Bh (.call (.globT P rfl) (P.calls (i:=29) rfl) (.cons (.name rfl) (.cons (.bin (.name rfl) (.bf (n:=7)) (.kv aH aH)) .nil)) ((zi (k:=0) P iO).room hT))
theorem U0(P:cK G aK):bR G (k+24) fw T σ (BS ns O ae m) (lst 11) (·=.next σ (xe ns O ae m)):=by
 have ai:=kb (ns:=ns)
 have o2:dk ns<=4:=iO
 have e:aV (jI ns)=[ay 0]++(XO (dk ns)).map λi=>ay ((0::(e3 (dk ns) (fk ns / 7)).take ((e3 (dk ns) (fk ns / 7)).idxOf (i+1))).getD (fk ns / 9^(i+1)%(1+(e3 (dk ns) (fk ns / 7)).idxOf (i+1))) 0):=by
  delta jI md aV
  rw[Yb,X_];rfl
 delta xe
 rw[e]
 have gE:lG 1 (((dk ns+1:Nat):Int)-((1:Nat):Int)).toNat=(XO (dk ns)).map λi=>ay (i+1):=by
  rw[show(((dk ns+1:Nat):Int)-((1:Nat):Int)).toNat=dk ns by rw[aa4,af1,X0],vF,aV,X_];rfl
 refine .eS (.bin (.list (.cons (.bf (n:=0)) .nil) c7) (.comp (S:=[]) (ds:=(XO (dk ns)).map λi=>ay (i+1)) (xs:=["room"]) (.to (.u3 (.cF P rfl) (m:=((1:Nat):Int)) (n:=((dk ns+1:Nat):Int)) .bf (.bin (.name rfl) (.bf (n:=1)) .g2) aH aH (by lia) n') gE) ?_ (qs (YP o2))) (.h2 (b1 (by rw[XJ,Yc];exact XC (YC o2 1) aH))))
 refine d3.on λi aq=>⟨_,.name,.cons .refl rfl,?_⟩
 have eQ:=X2.mp aq
 have b2:=ux (rooms:=dk ns) (cP:=fk ns / 7)
 generalize qD:e3 (dk ns) (fk ns / 7)=order at b2
 have hm:i+1∈order:=by rw[<-qD];exact r'.mpr ⟨hT,Cz⟩
 have bq:=YO (fk ns / 9^(i+1)) (show 0<1+order.idxOf (i+1) by lia)
 have ve:=aeL.mpr hm
 have no:∀{sc:YI} {Γ:bD} {p},Γ.lookup ("order":Str)=some (.list (aV (e3 (dk ns) (fk ns / 7))))->sc.kind=.function->aN G (k+24) sc σ Γ (.Name "order" p) (.list (aV order)):=λ{sc Γ p} h aL=>by rw[<-qD];exact .name h aL
 refine .gZ (ds:=aV (0::order.take (order.idxOf (i+1)))) (d₂:=ay (fk ns / 9^(i+1)%(1+order.idxOf (i+1)))) (.to (.bin (.list (.cons (.bf (n:=0)) .nil) c7) (.i0 (fR:=none) (f5:=some ((order.idxOf (i+1):Nat):Int)) (os:=none) (no rfl rfl) .none (.some (.pB (no rfl rfl) (T:="list") (d₀:=.list (aV order)) rfl aaq aen aem (.cons (.name rfl) .nil) (AI hm (by lia)))) .none aH (b1 (by simp;exact CC))) (.h2 (b1 (by rw[q7];simp;lia)))) ?_) (.bin (.bin (.name rfl) (.bin (.bf (n:=9)) (.name rfl) (.rb aH CO)) (.kv (ab9 aH) (tu aH CO))) (.bin (.bf (n:=1)) (.pB (no rfl rfl) (T:="list") (d₀:=.list (aV order)) rfl aaq aen aem (.cons (.name rfl) .nil) (AI hm (by lia))) .g2) (.j1 (by lia))) (.iZ g7 ?_ (by lia))
 ·rw[q7,aV,aV,Yb,aeK];rfl
 ·have aw:fk ns / 9^(i+1)%(1+order.idxOf (i+1))<(0::order.take (order.idxOf (i+1))).length:=by rw[Yi,acm,ZP (Ye ve)];exact aag bq (YL ..)
  rw[X0,X1,XI aw,XB,XI aw];rfl
theorem IV(O:1<=r)(ae:r<(b5 ns).length):1<=(d5 ns).gone.getD r 0:=by
 refine bC λ_ a'=>?_
 obtain⟨_,_,_,_,_,_,_,_,_,me⟩:=n5 (ns:=ns)
 refine a' ?_
 have:=ud me r
 rw[(lx (hF (ns:=ns))).2.1,r7 O,XB,Y2,if_pos ae]at this
 exact this
theorem U1(P:cK G aK)(hd:sd σ eo (b5 ns) hY (d5 ns)):bR G (k+24) fw T σ (xe ns eo.h ae m) (lst 12) (·=.next σ (xf ns eo.h ae m)):=by
 have ai:=kb (ns:=ns)
 have o3:=n3 (ns:=ns)
 obtain⟨c8,_⟩:=n5 (ns:=ns)
 have gw:(jI ns).length=dk ns+1:=by unfold jI md;rw[Yi,XJ,Yc]
 have gl:=c8.fj.trans o3
 have o2:dk ns<=4:=iO
 let f:Nat->List Nat:=λi=>((b5 ns).getD (i+1) []).take ((d5 ns).gone.getD (i+1) 0-1)++[(jI ns).getD (i+1) 0]++((b5 ns).getD (i+1) []).drop ((d5 ns).gone.getD (i+1) 0)
 have e:(eW ns).map dI=[V.list []]++(XO (dk ns)).map λi=>dI (f i):=by
  delta eW g5
  simp only[o3,Z',Yb,Yb,X_,X_,if_pos rfl]
  rfl
 have hz:(((((b5 ns).map dI).drop 1).zip (((aV (d5 ns).gone).drop 1).zip ((aV (jI ns)).drop 1))).map ub)=(XO (dk ns)).map λi=>V.tuple [dI ((b5 ns).getD (i+1) []),ay ((d5 ns).gone.getD (i+1) 0),ay ((jI ns).getD (i+1) 0)]:=by
  refine Y3 (by simp[o3,gl,gw]) λi cV dN=>?_
  have aq:i<dk ns:=by simpa using dN
  have hy:i+1<(b5 ns).length:=o3▸aad aq
  have h4:i+1<(d5 ns).gone.length:=gl▸aad aq
  have vB:i+1<(jI ns).length:=gw▸aad aq
  simp[XB,hy,h4,vB,YL 1]
 unfold xf
 rw[e]
 refine .eS (.bin (.list (.cons (.list .nil c7) .nil) c7) (.comp (S:=[]) (ds:=(XO (dk ns)).map λi=>V.tuple [dI ((b5 ns).getD (i+1) []),ay ((d5 ns).gone.getD (i+1) 0),ay ((jI ns).getD (i+1) 0)]) (xs:=["row","gone","way"]) (.to (.AW (.cF P rfl) (.to (.i0 (fR:=some ((1:Nat):Int)) (f5:=none) (os:=none) (.name rfl) (.some .bf) .none .none aH (oZ (o3▸aae o2))) (by rw[pick_from])) (.to (.DF (S:=[eo.g]) (fR:=some ((1:Nat):Int)) (f5:=none) (os:=none) (.inr ⟨eo.g,none,rfl,hd.g,.head _⟩) (.g1 (.name rfl) hd.d .dx rfl) (.some .bf) .none .none aH (oZ (gl▸aae o2))) (by rw[pick_from])) (.to (.i0 (fR:=some ((1:Nat):Int)) (f5:=none) (os:=none) (.name rfl) (.some .bf) .none .none aH (oZ (gw▸aae o2))) (by rw[pick_from])) .list .list .list (by simp[o3,gl]) (by simp[o3,gw])) hz) ?_ (qs (YP o2))) (.h2 (b1 (by rw[XJ,Yc];exact XC (YC o2 1) aH))))
 refine d3.on λi aq=>⟨_,.tuple (.cons .name (.cons .name (.cons .name .nil))),.cons (.cons (.cons .refl rfl) rfl) rfl,?_⟩
 have eQ:=X2.mp aq
 have cE:=IV (ns:=ns) (r:=i+1) (ZL i) (o3▸aad eQ)
 have gC:=(n4 (ns:=ns) (i+1)).1
 refine .to (.bin (.bin (.i0 (fR:=none) (f5:=some (((d5 ns).gone.getD (i+1) 0-1:Nat):Int)) (os:=none) (.name rfl) .none (.some (.bin (.name rfl) (.bf (n:=1)) (.ou (m:=1) cE))) .none aH (oZ (YP gC))) (.list (.cons (.name rfl) .nil) c7) (.h2 (b1 ?_))) (.i0 (fR:=some (((d5 ns).gone.getD (i+1) 0:Nat):Int)) (f5:=none) (os:=none) (.name rfl) (.some (.name rfl)) .none .none aH (oZ (YP gC))) (.h2 (b1 ?_))) ?_
 ·rw[q7];simp only[acm,XJ,Yi,Z4];exact XC (Zo (XC (aaU ..) gC) _) aH
 ·rw[q7,pick_from];simp only[Yv,acm,YG,XJ,Yi,Z4];exact XC (aah (Zo (XC (aaU ..) gC) _) (XC (Zn ..) gC)) aH
 ·rw[q7,pick_from]
  show _=V.list (aV (f i))
  simp only[f,aV,Yx,aeK,ado,Yb,aeX]
end
section
variable{ns:List Int}
theorem o4:(eW ns).length=(b5 ns).length:=wO
theorem xg:(eW ns).length=4\/(eW ns).length=5:=by rw[o4];exact hF
theorem BU:(eW ns).getD 0 []=[]:=by
 have az:=hF (ns:=ns)
 unfold eW g5
 rw[XB,X1,YN mj];rfl
theorem IW(ai:(b5 ns).length<=r):(eW ns).getD r []=[]:=by
 rw[XB,X8 (by rw[o4];exact ai)];rfl
theorem IX(O:1<=r)(ai:r<(b5 ns).length):(eW ns).getD r []=((b5 ns).getD r []).take ((d5 ns).gone.getD r 0-1)++[(jI ns).getD r 0]++((b5 ns).getD r []).drop ((d5 ns).gone.getD r 0):=by
 unfold eW
 rw[A_ O ai]
 have:bU (d5 ns) r=(d5 ns).gone.getD r 0:=rfl
 rw[this,YK]
theorem IY:Tree ((b5 ns).length-1) (jI ns):=by
 exact n3▸Ub
theorem IZ(r:Nat):((eW ns).getD r []).length<=((b5 ns).getD r []).length+1:=by
 by_cases O:1<=r
 ·by_cases ai:r<(b5 ns).length
  ·rw[IX O ai]
   have cE:=UR (ns:=ns) r
   have U2:=IV (ns:=ns) O ai
   simp only[Yv,acm,YG,Yi,Z4]
   exact Jv U2 cE
  ·rw[IW qJ];exact Yd _
 ·have:r=0:=by lia
  subst this
  rw[BU];exact Yd _
theorem U3:∀row∈eW ns,∀w∈row,w<=7:=by
 intro row gC w bz
 obtain⟨r,ai,rfl⟩:=Z7 gC
 rw[o4]at ai
 have e:(eW ns)[r]=(eW ns).getD r []:=by rw[XB,XI (by rw[o4];exact ai)];rfl
 rw[e]at bz
 have hm:∀x∈(b5 ns).getD r [],x<=7:=λx ag=>uB _ (r8 ai) x ag
 by_cases O:1<=r
 ·rw[IX O ai]at bz
  rcases XY.mp bz with q|q
  ·rcases XY.mp q with q|q
   ·exact hm w (ac1 q)
   ·rw[XD.mp q]
    have:=(IY (ns:=ns)).le r
    have:=hF (ns:=ns)
    exact JR
  ·exact hm w (Y7 q)
 ·have:r=0:=by lia
  subst this
  rw[BU]at bz;cases bz
theorem xh:eL (eW ns):=⟨by have:=xg (ns:=ns);exact iO,λr=>by have:=IZ (ns:=ns) r;have:=(n4 (ns:=ns) r).1;lia,U3⟩
theorem U4:left (eW ns) (bU (eN (eW ns)))<20:=by
 have key:∀b,(∀r,((eW ns).getD r []).length<=b)->1<=b->left (eW ns) (fv (gF (eW ns)))<=1+b*dk ns:=λb H O=>IG (n:=dk ns) (b:=b) (o4.trans n3) BU λr=>by
  rw[IH]
  by_cases h:r+1<(eW ns).length
  ·rw[if_pos h];have:=H (r+1);lia
  ·rw[IW (by rw[<-o4];exact qJ)]
   simp;split<;>lia
 rw[(lx (xg (ns:=ns))).2.1]
 have aL:∀r,((eW ns).getD r []).length<=5/\(dk ns=4->((eW ns).getD r []).length<=4):=λr=>by
  have a:=IZ (ns:=ns) r
  have b:=n4 (ns:=ns) r
  exact⟨by lia,λq=>by have:=b.2 q;lia⟩
 rcases kb (ns:=ns)with e|e
 ·have:=key 5 (λr=>(aL r).1) aH
  rw[e]at this
  show left (eW ns) (fv (gF (eW ns)))<20
  exact jJ
 ·have:=key 4 (λr=>(aL r).2 e) aH
  rw[e]at this
  show left (eW ns) (fv (gF (eW ns)))<20
  exact jJ
end
section
variable(ns:List Int)
def lz:cm:=jc (eW ns) (e3 (dk ns) (fk ns / 3)) (eN (eW ns))
def BV(O ae a2:XM)(m:Nat):bD:=("three",.raw (.ref a2))::xf ns O ae m
end
section
variable{ns:List Int}
theorem U5:(lz ns).lead=jI ns/\gi gV (lz ns).rings=gi gV (d5 ns).rings/\(lz ns).right<=900/\(lz ns).rings.length<64/\Good (eW ns) (lz ns):=by
 refine bC λ_ a'=>?_
 obtain⟨_,_,_,_,_,_,_,_,_,me⟩:=n5 (ns:=ns)
 obtain⟨a,b,c⟩:=Ug (order:=e3 (dk ns) (fk ns / 3)) hF me IY U4 (λs aG=>(qB.mp aG).2) λr O ae=>qB.mpr ⟨O,ae⟩
 refine a' ?_
 refine⟨a,b,IS xg (λr ai=>by have:=(qB.mp ai).2;have:=hF (ns:=ns);rw[o4];exact ob) (by rw[ux];have:=kb (ns:=ns);exact iO),?_,c⟩
 have c9:=congrArg aaO b
 rw[(rQ _).length_eq,(rQ _).length_eq]at c9
 have:=(BM (ns:=ns)).1
 unfold lz
 unfold eW
 exact xC
theorem U6(L:eD G aK ck K cJ c4 bA bF)(eU:ns.length<=63):gg G (k+24) fw T σ (xf ns O ae m) (lst 13) (λo=>∃Y af,o=.next Y (BV ns O ae af.h m)/\b3 (aK 16) Y af (eW ns) (fk ns / 11) (iL ns) (lz ns).gone (lz ns)/\hR σ Y af.all):=by
 have hd:=BL eU
 have az:=xg (ns:=ns)
 have ai:=kb (ns:=ns)
 refine .letE (R:=λY d=>w' (aK 16) σ Y (eW ns) (fk ns / 11) (iL ns) (lz ns) d) (.g4 (BH (k:=k) (ds:=[.list (aV (e3 (dk ns) (fk ns / 3)))]) L xh mj xI (.globT L.P rfl) (L.P.calls (i:=26) rfl) (.name rfl) (.bin (.name rfl) (.bf (n:=11)) (.kv aH aH)) (.name rfl) rfl rfl (λ_=>.cons (.call (.globT L.P rfl) (L.P.calls (i:=29) rfl) (.cons (.name rfl) (.cons (.bin (.name rfl) (.bf (n:=3)) (.kv aH aH)) .nil)) ((zi (k:=0) L.P iO).room hT)) .nil) (λa9 af h=>?_) (λ_=>rfl) (λ_=>rfl) (λ_=>rfl) (λ_=>rfl) (λ_=>rfl) λ_=>rfl) λ_ q=>cZ q) ?_
 ·obtain⟨g,_,sa⟩:=lx az
  exact(G1 (k:=k+17) L xh mj h g.en sa (BG xh) (λr dj=>by rw[o4];have:=(qB.mp dj).2;have:=hF (ns:=ns);exact ob) (by rw[ux];exact iO)).room mh
 ·rintro Y d ⟨af,rfl,h,M⟩
  exact⟨Y,af,rfl,h,M⟩
end
section
variable{ig:eE}{nr:Nat}{st:cm}
theorem b3.qE(h:b3 C σ af I ak size dv st):∀b∈af.all,b∈σ.at:=λb H=>by
 rcases XH.mp H with rfl|H
 ·exact dr h.d
 rcases XH.mp H with rfl|H
 ·exact dr h.g
 rcases XH.mp H with rfl|H
 ·exact dr h.l
 rcases XY.mp H with H|H
 ·exact h.ft b (.tail _ (.tail _ (.tail _ H)))
 ·obtain⟨i,aq,rfl⟩:=Z7 H
  have:=(h.p i (by rw[<-h.ep];exact aq)).i
  rw[getD_at aq]at this
  exact dr this
theorem b3.keep(h:b3 C σ af I ak size dv st)(aL:∀p∈σ,p∈Y):b3 C Y af I ak size dv st:=⟨aL _ h.d,aL _ h.g,aL _ h.l,λr ai=>⟨aL _ (h.p r ai).l,aL _ (h.p r ai).i⟩,h.fj,h.dE,h.lo,h.ed,h.ep,h.c2⟩
theorem U7(R:kL G aK ck K cJ c4 bA bF σ)(bK:b3 (aK 16) σ ig (eW ns) nr (iL ns) (lz ns).gone (lz ns))(cz:∀a∈ig.all,a≠bA/\a≠bF)(aU:∀b∈T,b∈σ.at)(gr:bA∈T)(mQ:bF∈T)(mZ:∀b∈ig.av,b∈T)(hm:m<=900):
  bR G (k+24) fw T σ (BV ns O ae ig.h m) (lst 14) (λo=>∃Y,o=.next Y (("right",.list (XR (m+3) (.bool true)))::BV ns O ae ig.h m)/\di ig.av σ Y):=by
 refine bC λ_ a'=>?_
 refine sp (U5 (ns:=ns)) λa3 bH ai bO _=>?_
 obtain⟨_,_,_,_,_,_,_,_,fZ,_⟩:=n5 (ns:=ns)
 refine a' ?_
 have h8:=(BM (ns:=ns)).2.2
 have P:=R.L.P
 have BO:∀b∈bA::bF::ig.av,b∈T:=λb H=>by
  rcases XH.mp H with rfl|H
  ·exact gr
  ·rcases XH.mp H with rfl|H
   ·exact mQ
   ·exact mZ b H
 refine .letE (R:=λY d=>d=.list (XR (m+3) (.bool true))/\di ig.av σ Y) ?_ ?_
 ·refine .bin (gP:=λY d=>Y=σ/\d=.list (XR m (.bool true))) (R₂:=λa9 _ cC d₂=>d₂=.list [.bool true,.bool true,.bool true]/\di ig.av σ cC) aU (.of (.name rfl)) ?_ ?_
  ·intro fu d₀ U8
   refine bC λ_ U9=>?_
   obtain⟨rfl,rfl⟩:=U8
   refine U9 ?_
   refine .list (j0:=λY ds=>ds=[.bool true,.bool true,.bool true]/\di ig.av fu Y) ?_ ?_ ?_
   ·refine .cons aU (.call (.globT P rfl) (P.calls (i:=30) rfl) (.cons (d:=.raw (.ref ig.h)) (.name rfl) (.cons (d:=ay (iL ns)) (.name rfl) .nil)) (((Bx (k:=k) R xh bK (by unfold iL;exact CM) cz ai).g4 BO).room n9) aU) ?_
    rintro a9 bZ ⟨hQ,rfl⟩
    have jZ:∀b∈T,b∈a9.at:=λb H=>by rw[hQ.at_];exact aU b H
    have hd:=bK.hd.same hQ bK.top
    refine .cons jZ (.of (d:=.bool true) (.cmp (.g1 (.name rfl) hd.d .dx rfl) (.name rfl) (.to (a8.k9 (l:=(lz ns).lead) (m:=jI ns) (S:=[ig.l]) (i2:=[]) cj.nat 0 cO.nat (.inr ⟨ig.l,none,rfl,hd.l,.head _⟩) .list) ?_))) ?_
    ·rw[decide_eq_true a3]
    rintro cC d₂ ⟨rfl,rfl⟩
    refine .cons jZ (.of (d:=.bool true) (.cmp (.call (.cF P rfl) (.dV _) (.cons (.g1 (.name rfl) hd.d .dx rfl) .nil) (bW.t3 bO)) (.call (.cF P rfl) (.dV _) (.cons (.name rfl) .nil) (bW.t3 h8)) (.to (a8.k9 (S:=[]) (i2:=[]) cj.gB 2 cO.gB .list .list) ?_))) ?_
    ·rw[decide_eq_true (bH.trans fZ.symm)]
    rintro l4 rV ⟨rfl,rfl⟩
    exact .nil ⟨rfl,hQ⟩
   ·intro Y ds dG
    refine od dG λ_=>?_
    exact b1 aH
   ·intro Y ds dG
    refine od dG λq=>?_
    exact⟨rfl,q⟩
  ·rintro fu d₀ a9 bZ ⟨rfl,rfl⟩ ⟨rfl,q⟩
   exact⟨_,.h2 (b1 (by simp;exact dt)),by rw[(show XR (m+3) (V.bool true)=XR m (V.bool true)++[.bool true,.bool true,.bool true]from(adN ..).symm)],q⟩
 ·intro Y d dG
  refine od dG λq=>?_
  exact⟨Y,rfl,q⟩
theorem U_(h:Γ.lookup ("right":Str)=some (.list (XR n (.bool true)))):bR G (k+24) fw T σ Γ (lst 15) (·=.ret σ (.bool true)):=by
 refine .mono (.ret (d:=.bool true) ?_) λo q=>q
 have aR:=a8.s6 (G:=G) (k:=k+24) (σ:=σ) (S:=[]) (z:=false) (l:=XR n true) (d₂:=.list ((XR n true).map V.bool)) cj.bool 0 cO.bool .list
 refine .cmp .m5 (.to (.name h) ?_) (.to aR ?_)
 ·rw[aa2]
 ·have:false∉XR n true:=λq=>by have:=ab' q;cases this
  rw[decide_eq_false this];rfl
theorem U'(hf:fa G (aK 31) ["script"] (b6 31).2 (b6 31).1)(R:kL G aK ck K cJ c4 bA bF σ)(t1:(bw,.tab 85 cV)∈σ)(jy:(bL,.tab 92 dN)∈σ)(eU:ns.length<=63):
  fs G (k+25) [bw,bL,bA,bF] σ (.ref (aK 31)) [.list (hw ns)] (λY d=>d=.bool true/\(bw,.tab 85 cV)∈Y/\(bL,.tab 92 dN)∈Y/\(bA,.tab cJ mK)∈Y/\(bF,.tab c4 nM)∈Y):=by
 have P:=R.L.P
 have az:=hF (ns:=ns)
 have iB:∀b∈[bw,bL,bA,bF],b∈σ.at:=λb H=>by
  simp only[XH,Zx,or_false]at H
  rcases H with rfl|rfl|rfl|rfl
  ·exact dr t1
  ·exact dr jy
  ·exact dr R.b_
  ·exact dr R.cn
 refine fs.of_body (k:=k+24) (P:=λo=>∃Y,o=.ret Y (.bool true)/\(∀b∈σ.at,b∈Y.at)/\∀p∈σ,p.1∈[bw,bL,bA,bF]->p∈Y) hf rfl ?_ ?_
 ·show d4 G (k+24) fw [bw,bL,bA,bF] σ [("script",.list (hw ns))] [lst 0,lst 1,lst 2,lst 3,lst 4,lst 5,lst 6,lst 7,lst 8,lst 9,lst 10,lst 11,lst 12,lst 13,lst 14,lst 15] _
  refine Uk P eU ?_
  refine .seq (.of Us iB) (.seq (.of (Ut P) iB) (.seq (.of (Uu P) iB) (.cons (UC R.L eU) ?_)))
  intro o t4
  refine bC λ_ Bm=>?_
  obtain⟨a9,eo,rfl,c8,xi⟩:=t4
  refine Bm ?_
  have BW:∀b∈σ.at,b∈a9.at:=λb H=>by
   refine bB (XZ.mp H) λp ar aB=>?_
   subst aB
   exact dr (xi.old p ar)
  refine⟨eo.av++[bw,bL,bA,bF],λb H=>?_,.cons (UD R.L eU) ?_⟩
  ·rcases XY.mp H with q|q
   ·exact .inr ⟨c8.qE b (ho q),xi.new b (ho q)⟩
   ·exact .inl q
  rintro o ⟨cC,hS,rfl,du,se⟩
  have BX:∀b∈a9.at,b∈cC.at:=λb H=>by
   obtain⟨p,ar,rfl⟩:=XZ.mp H
   exact dr (se.old p ar)
  have BY:=c8.keep se.old
  have qC:=λa aY q=>xi.new a aY (iB a q)
  have xb:=λa aY q=>se.new a aY (BW a (iB a q))
  have xj:=λa aY q=>se.new a q (c8.qE a aY)
  have gr:=λp ar=>se.old p (xi.old p ar)
  have uD:∀b∈hS.av++(eo.av++[bw,bL,bA,bF]),b∈cC.at:=λb H=>by
   rcases XY.mp H with q|q
   ·exact du.qE b (ho q)
   ·rcases XY.mp q with q|q
    ·exact BX b (c8.qE b (ho q))
    ·exact BX b (BW b (iB b q))
  have sf:∀b∈[bw,bL,bA,bF],b∈hS.av++(eo.av++[bw,bL,bA,bF]):=λb H=>XQ _ (XQ _ H)
  refine⟨hS.av++(eo.av++[bw,bL,bA,bF]),λb H=>?_,.seq (.of (UE P (gr _ t1) (gr _ jy) uD (sf _ (.head _)) (sf _ (.tail _ (.head _)))) uD) ?_⟩
  ·rcases XY.mp H with q|q
   ·exact .inr ⟨du.qE b (ho q),se.new b (ho q)⟩
   ·exact .inl q
  have rS:∀{a:XM},a∉[bw,bL,bA,bF]->a≠bA/\a≠bF:=λh=>⟨λq=>h (q▸.tail _ (.tail _ (.head _))),λq=>h (q▸.tail _ (.tail _ (.tail _ (.head _))))⟩
  have I0:kL G aK ck K cJ c4 bA bF cC:=⟨R.L,R.B,gr _ R.b_,gr _ R.cn⟩
  refine .cons (.of (UM I0 BY du xj (λa aY=>rS (qC a aY)) (λa aY=>rS (xb a aY)) uD (sf _ (.tail _ (.tail _ (.head _)))) (sf _ (.tail _ (.tail _ (.tail _ (.head _))))) (λb H=>XQ _ (XS _ H)) λb H=>XS _ H) uD) ?_
  rintro o ⟨l4,rfl,sg⟩
  have np:∀a∈[bw,bL,bA,bF],a∉eo.av++hS.av:=λa aY q=>by
   rcases XY.mp q with q|q
   ·exact qC a (ho q) aY
   ·exact xb a (ho q) aY
  have o5:∀b∈[bw,bL,bA,bF],b∈l4.at:=λb H=>by rw[sg.at_];exact uD b (sf b H)
  have k1:=sg.keep _ _ (np _ (.head _)) (gr _ t1)
  have I1:=I0.same sg ⟨np _ (.tail _ (.tail _ (.head _))),np _ (.tail _ (.tail _ (.tail _ (.head _))))⟩
  have BZ:=BY.top
  have I2:=BY.hd.same sg ⟨λq=>(XY.mp q).elim BZ.1 λq=>xj _ (.head _) (ho q),λq=>(XY.mp q).elim BZ.2.1 λq=>xj _ (.tail _ (.head _)) (ho q),λq=>(XY.mp q).elim BZ.2.2 λq=>xj _ (.tail _ (.tail _ (.head _))) (ho q)⟩
  refine⟨[bw,bL,bA,bF],λb H=>.inl (sf b H),.seq (.of (UY P k1 o5 (.head _) I2 (λq=>qC _ (.tail _ (.head _)) q) hT) o5) (.seq (.of (UZ P) o5) (.seq (.of (U0 P) o5) (.seq (.of (U1 P I2) o5) (.cons (U6 R.L eU) ?_))))⟩
  rintro o ⟨gz,ig,rfl,eK,qF⟩
  have mT:∀b∈l4.at,b∈gz.at:=λb H=>by
   obtain⟨p,ar,rfl⟩:=XZ.mp H
   exact dr (qF.old p ar)
  have B0:∀b∈ig.av++[bw,bL,bA,bF],b∈gz.at:=λb H=>by
   rcases XY.mp H with q|q
   ·exact eK.qE b (ho q)
   ·exact mT b (o5 b q)
  have Va:kL G aK ck K cJ c4 bA bF gz:=⟨R.L,R.B,qF.old _ I1.b_,qF.old _ I1.cn⟩
  refine⟨ig.av++[bw,bL,bA,bF],λb H=>?_,.cons (.of (U7 Va eK (λa aY=>rS λq=>qF.new a aY (o5 a q)) B0 (XQ _ (.tail _ (.tail _ (.head _)))) (XQ _ (.tail _ (.tail _ (.tail _ (.head _))))) (λb H=>XS _ H) (by lia)) B0) ?_⟩
  ·rcases XY.mp H with q|q
   ·exact .inr ⟨eK.qE b (ho q),qF.new b (ho q)⟩
   ·exact .inl q
  intro o dG
  refine bB dG λwS aB I3=>?_
  subst aB
  have kQ:=I3.at_
  have Vb:∀b∈ig.av++[bw,bL,bA,bF],b∈wS.at:=λb H=>by rw[kQ];exact B0 b H
  refine⟨ig.av++[bw,bL,bA,bF],λb H=>.inl H,.one (.mono (.of (U_ rfl) Vb) λo q=>⟨wS,q,λb H=>?_,λp ar hm=>?_⟩)⟩
  ·rw[kQ]
   refine mT b ?_
   rw[sg.at_]
   exact BX b (BW b H)
  ·exact I3.keep _ _ (λq=>qF.new _ (ho q) (o5 _ hm)) (qF.old _ (sg.keep _ _ (np _ hm) (gr _ ar)))
 ·rintro o ⟨Y,rfl,H,aL⟩
  exact⟨[],Y,rfl,H,rfl,aL _ t1 (.head _),aL _ jy (.tail _ (.head _)),aL _ R.b_ (.tail _ (.tail _ (.head _))),aL _ R.cn (.tail _ (.tail _ (.tail _ (.head _))))⟩
end
noncomputable def B1:Data->Option acZ
 |.func f=>some f
 |_=>none
noncomputable def I4:Data->Option (Array XF)
 |.fields vs=>some vs
 |_=>none
noncomputable def I5:Data->Option XF
 |.cell v=>v
 |_=>none
noncomputable def B2:XF->Option XM
 |.ref c=>some c
 |_=>none
noncomputable def I6:XF->Option Str
 |.str x _=>some x
 |_=>none
noncomputable def uE(K:ach)(a:XM):Option Data:=(K.lookup a).map (·.data)
def fH(K:ach)(a:XM):acZ:=((uE K a).bind B1).getD default
def I7(K:ach)(a:XM):Bool:=((uE K a).bind B1).isSome
def B3(K:ach)(cd:XF)(i:Nat):Option Str:=(B2 cd).bind λc=>(uE K c).bind λo=>(I4 o).bind λvs=>(vs[i]?:Option XF).bind I6
def I8(K:ach)(cd:XF)(q:Str):Bool:=B3 K cd 1==some q
def I9(K:ach)(cd:XF)(q:Str):Bool:=B3 K cd 2==some q
def I_(K:ach)(cl:List (Str×XM))(x:Str)(C:XM):Bool:=((cl.lookup x).bind λc=>(uE K c).bind λo=>(I5 o).bind B2)==some C
def uF(K:ach)(a:XM):Bool:=I7 K a&&(fH K a).globals==YJ&&(fH K a).builtins==Y6&&I8 K (fH K a).code (fH K a).qualname
noncomputable def B4(sc:YI)(names:List Str):Bool:=decide ((sc.names.map (·.1)).Nodup)&&names.all (λx=>sc.names.lookup x==some .local||sc.names.lookup x==some .cell)&&sc.names.all (λp=>p.2 !=.free)&&!sc.isCoroutine&&!sc.isGenerator&&sc.kind==.function
noncomputable def I'(sc:YI)(names:List Str):Bool:=sc.names.all (λp=>p.2 !=.cell)&&names.all (λx=>sc.names.lookup x==some .local)&&decide names.Nodup&&sc.names.lookup ("super":Str)==some .globalImplicit&&sc.names.lookup ("__class__":Str)==some .free&&!sc.isCoroutine&&!sc.isGenerator&&sc.kind==.function
section
variable{x:Str}{cl:List (Str×XM)}
theorem Vc{d:Data}{f:acZ}(h:B1 d=some f):d=.func f:=by revert h;cases d<;>intro h<;>first|exact(aar _ h.symm).elim|exact congrArg _ (YW h)
theorem Vd{d:Data}{f:Array XF}(h:I4 d=some f):d=.fields f:=by revert h;cases d<;>intro h<;>first|exact(aar _ h.symm).elim|exact congrArg _ (YW h)
theorem Ja{d:XF}(h:B2 d=some a):d=.ref a:=by revert h;cases d<;>intro h<;>first|exact(aar _ h.symm).elim|exact congrArg _ (YW h)
theorem Ve{d:XF}(h:I6 d=some x):∃t,d=.str x t:=by revert h;cases d<;>intro h<;>first|exact(aar _ h.symm).elim|exact⟨_,congrArg (abj · _) (YW h)⟩
theorem Vf{d:Data}{v:XF}(h:I5 d=some v):d=.cell (some v):=by revert h;cases d<;>intro h<;>first|exact(aar _ h.symm).elim|exact congrArg _ h
theorem B5{d:Data}(h:uE K a=some d):∃o,K.lookup a=some o/\o.data=d:=Option.map_eq_some_iff.mp h
theorem Vg(e:I7 K a=true):∃o,K.lookup a=some o/\o.data=.func (fH K a):=by
 refine cS (ab4.mp e) λf hf=>?_
 refine bB (YQ.mp hf) λd O ae=>?_
 refine bB (B5 O) λo a2 b_=>?_
 exact⟨o,a2,b_.trans ((Vc ae).trans (congrArg _ (congrArg (·.getD default) hf.symm)))⟩
theorem Jb{i:Nat}(e:(B3 K cd i==some q)=true):∃c o vs t,cd=.ref c/\K.lookup c=some o/\o.data=.fields vs/\vs[i]?=some (.str q t):=by
 refine bB (YQ.mp (beq_iff_eq.mp e)) λc O e=>?_
 refine bB (YQ.mp e) λd ae e=>?_
 refine bB (YQ.mp e) λvs a2 e=>?_
 refine bB (YQ.mp e) λv b_ e=>?_
 refine bB (B5 ae) λo cn gQ=>?_
 refine cS (Ve e) λt dJ=>?_
 exact⟨c,o,vs,t,Ja O,cn,gQ.trans (Vd a2),dJ▸b_⟩
theorem Vh(X:K.In h)(e:I8 K cd q=true):h.CodeRec cd q:=by
 refine iP (Jb e) λc o vs t O ae a2 b_=>?_
 exact⟨c,o,vs,t,O,X _ _ ae,a2,b_⟩
theorem Vi(X:K.In h)(e:I9 K cd q=true):∃hA fF vs file hN,cd=.ref hA/\h.get? hA=some fF/\fF.data=.fields vs/\vs[2]?=some (.str file hN)/\(q==file)=true:=by
 refine iP (Jb e) λc o vs t O ae a2 b_=>?_
 exact⟨c,o,vs,q,t,O,X _ _ ae,a2,b_,beq_self_eq_true q⟩
theorem Vj(X:K.In h)(e:I_ K cl x C=true):∃c,cl.lookup x=some c/\h.IsCell c (some (.ref C)):=by
 refine bB (YQ.mp (beq_iff_eq.mp e)) λc O e=>?_
 refine bB (YQ.mp e) λd ae e=>?_
 refine bB (YQ.mp e) λv a2 e=>?_
 refine bB (B5 ae) λo cn gQ=>?_
 exact⟨c,O,o,X _ _ cn,gQ.trans ((Vf a2).trans (congrArg (λv=>Data.cell (some v)) (Ja e)))⟩
theorem B6(X:K.In h)(e:uF K a=true):∃o,h.get? a=some o/\o.data=.func (fH K a)/\(fH K a).globals=YJ/\(fH K a).builtins=Y6/\h.CodeRec (fH K a).code (fH K a).qualname:=by
 delta uF at e
 simp only[Yp]at e
 refine bC λ_ a'=>?_
 obtain⟨⟨⟨a3,bH⟩,dP⟩,fZ⟩:=e
 refine bB (Vg a3) λo O ae=>?_
 refine a' ?_
 exact⟨o,X _ _ O,ae,beq_iff_eq.mp bH,beq_iff_eq.mp dP,Vh X fZ⟩
theorem uG(X:K.In G.h₀)(e:uF K a=true)(aG:(fH K a).scope=sc)(H:(fH K a).body=.stmts body)(au:(fH K a).closure=[])(kr:(fH K a).code=cd)(aR:(fH K a).qualname=q)
  (lp:∀vs:List XF,vs.length=names.length->bindArgs (fH K a) ⟨vs,[]⟩=pure (names.zip vs)) (ok:B4 sc names=true):i1 G a names sc body cd q:=by
 refine o_ (B6 X e) λo O ae a2 b_ cn=>?_
 delta B4 at ok
 simp only[Yp,ab8]at ok
 refine bC λ_ fq=>?_
 obtain⟨⟨⟨⟨⟨lC,mn⟩,rJ⟩,B7⟩,B8⟩,B9⟩:=ok
 refine fq ?_
 refine⟨⟨o,_,O,ae,aG,H,a2,b_,au,cn,lp,kr,aR⟩,of_decide_eq_true lC,λy bk=>(Bool.or_eq_true_iff.mp (X9.mp mn y bk)).imp (λq=>beq_iff_eq.mp q) λq=>beq_iff_eq.mp q,λy bk=>?_,B7,B8,beq_iff_eq.mp B9⟩
 have:=X9.mp rJ _ (mem_of_lookup bk)
 simp at this
theorem hq(X:K.In G.h₀)(e:uF K a=true)(aG:(fH K a).scope=sc)(H:(fH K a).body=.stmts body)(au:(fH K a).closure=[])
  (lp:∀vs:List XF,vs.length=names.length->bindArgs (fH K a) ⟨vs,[]⟩=pure (names.zip vs)) (ok:B4 sc names=true):fa G a names sc body:=⟨_,_,uG X e aG H au rfl rfl lp ok⟩
theorem B_(X:K.In G.h₀)(e:uF K a=true)(aG:(fH K a).scope=sc)(H:(fH K a).body=.stmts body)(hf:I9 K (fH K a).code G.prog.main.file=true)(fN:I_ K (fH K a).closure "__class__" C=true)
  (ar:(((fH K a).params.posonlyargs++(fH K a).params.args).head?.any λh6=>h6.arg==("self":Str))=true) (a_:(G.prog.main.scope.names.lookup ("super":Str)).isSome=false) {ns:List Str} (az:names=("self":Str)::ns)
  (lp:∀(vs:List XF),vs.length=names.length->∀S,peek K S (bindArgs (fH K a) ⟨vs,[]⟩)=some (names.zip vs)) (ok:I' sc names=true):i8 G C a names sc body:=by
 refine o_ (B6 X e) λo O ae a2 b_ cn=>?_
 delta I' at ok
 simp only[Yp,ab8]at ok
 refine bC λ_ fq=>?_
 obtain⟨⟨⟨⟨⟨⟨⟨lC,mn⟩,rJ⟩,B7⟩,B8⟩,B9⟩,Vk⟩,Vl⟩:=ok
 refine fq ?_
 refine⟨⟨o,_,O,ae,aG,H,a2,b_,cn,λs vs aL bJ=>kp_binds (X.keeps aL) (lp vs bJ),Vj X fN,?_,Vi X hf⟩,λy bk=>?_,λy bk=>beq_iff_eq.mp (X9.mp mn y bk),⟨ns,az⟩,of_decide_eq_true rJ,beq_iff_eq.mp B7,beq_iff_eq.mp B8,B9,Vk,beq_iff_eq.mp Vl,a_⟩
 ·cases bK:((fH K a).params.posonlyargs++(fH K a).params.args).head? with
  |none=>rw[bK]at ar;cases ar
  |some h6=>rw[bK]at ar;exact⟨h6,rfl,beq_iff_eq.mp ar⟩
 ·have:=X9.mp lC y bk
  simpa using this
end
theorem yI{p:List XF->Prop}(h:p [])(vs:List XF)(e:vs.length=0):p vs:=Zs e▸h
theorem sh{p:List XF->Prop}(h:∀a vs,vs.length=n->p (a::vs))(vs:List XF)(e:vs.length=n+1):p vs:=by
 cases vs with
 |nil=>exact absurd e.symm (agu n)
 |cons a vs=>exact h a vs (aep e)
theorem n7{p:List XF->Prop}(h:∀a,p [a]):∀vs:List XF,vs.length=1->p vs:=sh λa=>yI (p:=λv=>p (a::v)) (h a)
theorem ji{p:List XF->Prop}(h:∀a b,p [a,b]):∀vs:List XF,vs.length=2->p vs:=sh λa=>n7 (p:=λv=>p (a::v)) (h a)
theorem uH{p:List XF->Prop}(h:∀a b c,p [a,b,c]):∀vs:List XF,vs.length=3->p vs:=sh λa=>ji (p:=λv=>p (a::v)) (h a)
theorem Vm{p:List XF->Prop}(h:∀a b c d e f,p [a,b,c,d,e,f]):∀vs:List XF,vs.length=6->p vs:=sh λa=>sh (p:=λv=>p (a::v)) λb=>sh (p:=λv=>p (a::b::v)) λc=>uH (p:=λv=>p (a::b::c::v)) (h a b c)
theorem Vn{c:ClaimW}{name:Str}{free:XM->Prop}{gens:Prop}{si:Zu->Prop}{f:XF}(hz:s.asleep)(Vo:s.gens=#[])
  (cE:s.heap.Ns YJ mg) (hf:mg name=some f)
  (spec:∀args,c.pre args=true->afU args=true->∀ord:List abg->List abg,(∀l,(ord l).Perm l)->∃vs aj,layAllW c.records (classAt s.heap) w.params ord args s=some (vs,aj)/\
   bj (model c.prog w) callerA (acp f vs) (λv J=>c.Ends s args vs aj (.ok (.ret v)) J/\J.os=s.os/\af6 J.gens/\si J.heap) (λe J=>c.Ends s args vs aj (.error e) J/\J.os=s.os/\af6 J.gens/\si J.heap) aj) :
  c.CallFrom (callStub name) w free gens si s:=by
 intro args mU uI ord qD
 refine bC λg qx=>?_
 refine g8 (spec args mU uI ord qD) λvs aj aw h=>?_
 have bS:=layAllW_rest _ _ _ aw
 have Vp:=cE.keeps (layAllW_keeps _ _ _ aw)
 have eV:bj (model c.prog w) callerA (callStub name vs).cur (λfin J=>∃hB,fin=.done hB/\((c.Ends s args vs aj (.ok hB) J/\J.os=s.os/\si J.heap)/\leftWithCleanup J.gens=false))
   (λe J=>(c.Ends s args vs aj (.error e) J/\J.os=s.os/\si J.heap)/\leftWithCleanup J.gens=false) aj:=by
  refine d8 (cL (wpAny_nsGet Vp ?_))
  rw[hf]
  refine d8 (mF h (λv J q=>fb ⟨_,rfl,⟨q.1,q.2.1,q.2.2.2⟩,aeC q.2.2.1⟩) λe J q=>⟨⟨q.1,q.2.1,q.2.2.2⟩,aeC q.2.2.1⟩)
 have run:=aa6 (model c.prog w) ⟨.builtin "claim.caller" {},none,none,[],none⟩ (callStub name vs).cur (post':=Sem.finPost (model c.prog w) ⟨.builtin "claim.caller" {},none,none,[],none⟩ λr J=>(c.Ends s args vs aj r J/\J.os=s.os/\si J.heap)/\leftWithCleanup J.gens=false) (λfin dK J q=>by
  obtain⟨hB,rfl,q⟩:=q
  exact q) (λ_ _ _ q=>q) default aj (eV _ default caller_in rfl)
 obtain⟨n,r,J,dn,O,ae,a2,b_,cn,gQ⟩:=wp_halts_full (Shared.asleep_of_life bS.2.2.2 hz) run
 refine sp (Shared.forget_eq a2) λJc _ _ yo _=>?_
 have ends:=b_.congr Jc
 have Vq:=(runN_life _ _ _ ae).trans bS.2.2.2
 refine qx ⟨vs,aj,aw,n,_,dn,O,bC λg cE=>?_,λ_ i x ag=>?_,by rw[Jc];exact gQ,by rw[Vq],Shared.rest_eq (yo.trans cn)⟩
 ·rcases ends with ⟨v,rfl,a1,cw,e7,gJ,kQ⟩|⟨e,jV,cls,rfl,a1,cw,e7,gJ,kQ⟩
  ·exact cE (.inl ⟨v,rfl,a1,cw,e7,λb o y _=>gJ b o y,kQ⟩)
  ·exact cE (.inr ⟨e,jV,cls,rfl,a1,cw,e7,gJ,λb o y _=>kQ b o y⟩)
 ·rw[Vo]at ag;simp at ag
abbrev B'(q:aeS)(loose:List Str)(XP:(Str->Option XF)->Zu->Prop)(sj:World->Zu->Prop)(r:RowW):Prop:=
 ∀(w:World) (cY aj:XG) (mg mb:Str->Option XF),Ground q loose r.records XP w cY mg mb aj.heap->sj w aj.heap->∀(args:List afF) (iF:List XF) (as:List XM),r.claim.pre args=true->afU args=true->_root_.PySem.W.Laid r.records w cY aj args iF as->
  (∀a∈as,(a==sysModules)=false)->∀f,mg r.name=some f->bj (model r.prog w) callerA (acp f iF) (λv J=>ag2 r.claim (classAt cY.heap) (ab2 cY.heap) args aj (.ok (.ret v)) J)
    (λe J=>ag2 r.claim (classAt cY.heap) (ab2 cY.heap) args aj (.error e) J) aj
theorem Vr{r:OpenRow}{q:aeS}{loose:List Str}{Ca:XG->Bool}{XP:(Str->Option XF)->Zu->Prop}{Jd:XG->α}{Je:World->α}{sj:World->Zu->Prop}{d:DefRec}{Cb:List (Str×Yy)}{N:Nat}
  (left:LeftO r.prog q loose Ca Jd Je N) (nV:∀w s,Jd s=Je w->sj w s.heap) (Vs:∀w h ah,sj w h->(∀b o,h.get? b=some o->ah.get? b=some o)->sj w ah)
  (zO:∀s,Ca s=true->XP (s.heap.nsMap YJ) s.heap) (Vt:∀mg h ah,XP mg h->(∀b o,h.get? b=some o->ah.get? b=some o)->XP mg ah)
  (Jf:_root_.PySem.W.defOf q r.name=some (d,Cb)) (ar:r.prog.theDef r.name=some (d.params,d.body,d.scope)) (aL:kwWritten? d.params.kwonlyargs d.params.kw_defaults=some Cb) (Vu:∀s,Ca s=true->RecFacts r.records s.heap) (cH:(!r.writes||r.records.isEmpty)=true)
  (k1:r.wellSaid=true) (ok:(chainsOk q&&opensWell r.prog&&(frees r.toRowW&&r.within.isEmpty))=true) (H:r.prog.bare) (bz:r.toRowW.promised)
  (call:B' q loose XP sj r.toRowW):r.Holds:=by
 simp only[Yp]at ok
 obtain⟨⟨ch,op⟩,u2,nZ⟩:=ok
 refine sp (frees_parts u2) λf1 f2 uR f4 tC=>?_
 have Jg:=left.behind (XP:=λmg h=>XP mg h/\RecFacts r.records h) (λs aG=>⟨zO s aG,Vu s aG⟩) ch
 refine⟨k1,bz,⟨H,op,by show r.makers.map _=[];rw[tC];rfl⟩,bz.witness,λw=>⟨(Jg w).1,λJ c1=>?_⟩⟩
 refine bC λg qx=>?_
 obtain⟨cY,a1,cw,s,e7,gJ,kQ,cE,G,y⟩:=(Jg w).2 J c1
 have xk:={G with X:=G.X.1}
 have Cc:=G.X.2
 have Cd:=Cc.ground xk
 have Jh:=Array.eq_empty_of_size_eq_zero (beq_iff_eq.mp kQ)
 refine bC λ_ fq=>?_
 obtain⟨a,o,lO,cd,doc,Xx,Xy,a3,bH,dP,fZ,h_⟩:=xk.fn Jf
 refine fq ?_
 have Ji:=a3
 refine qx ⟨cY,a1,cw,s,e7,λn az=>?_,Cc.1,Cc.2.1,Vn (c:=r.toRowW.claim) (name:=r.name) gJ Jh xk.T.g Ji λargs mU uI ord qD=>bC λg qx=>?_⟩
 ·have:n=r.name:=by split at az<;>simp_all
  subst this
  exact pinned_of_view cE xk Jf ar aL
 obtain⟨⟨vs,aj⟩,aw⟩:=ab4.mp (layAllW_isSome (P:=w.params) (ord:=ord) Cd.has args r.args s (pre_splitW mU).1)
 have xl:=layAllW_keeps _ _ _ aw
 have bS:=layAllW_rest _ _ _ aw
 refine gU (reads_layAllW qD _ _ _ aw uI aj.heap λ_ _ e=>e) λas fI gc oI=>?_
 have L:_root_.PySem.W.Laid r.records w s aj args vs as:=⟨⟨ord,qD,aw⟩,fI,gc,oI,xl,bS.1.trans Jh,bS.2.2.1⟩
 have fin:∀res J,ag2 r.toRowW.claim (classAt s.heap) (ab2 s.heap) args aj res J->r.toRowW.claim.Ends s args vs aj res J/\J.os=s.os/\af6 J.gens/\(r.writes=true->namesKept r.toRowW.claim.prog r.keeps s.heap J.heap/\∀x∈r.toRowW.claim.records,∀a,classAt s.heap x.1=some a->recordClass J.heap a x.1 (x.2.map (·.1))=true):=λres J g=>by
  have z:=GoodWG.laid (c:=r.toRowW.claim) f1 (List.isEmpty_iff.mp nZ) (ident_freeW f2 uR f4) L g
  exact⟨z.1,z.2.1,z.2.2,λq=>⟨namesKept_of e7 cE r.keeps xl g.2.1.old,noTable cH q⟩⟩
 exact qx ⟨vs,aj,aw,mF (call w s aj _ _ (Cd.keeps Vt xl) (Vs _ _ _ (nV w s y) xl) args vs as mU uI L (L.low Cd.low) _ Ji) (λv J g=>fin _ _ g) λe J g=>fin _ _ g⟩
theorem Vv(af:Hook)(k1:o7.wellSaid=true)(bz:o7.toRowW.promised)(call:Cf af/\B' mV xq (XL mV []) af.says o7.toRowW):o7.Holds:=
 have e:(_root_.PySem.W.defOf mV o7.name).isSome=true:=by kernel_rfl
 Vr (r:=o7) (d:=(ag' _ e).1) (Cb:=(ag' _ e).2) call.1 af.of af.keeps (λs e=>xl_of s (Zl.mp e).1) XL.keeps (Option.some_get e).symm (by kernel_rfl) (by kernel_rfl) (λs e=>recFacts_of (Zl.mp e).2) rfl k1 aQ ⟨rfl,rfl,rfl,rfl,rfl,by kernel_rfl⟩ bz call.2
theorem Vw(w:B' mV xq (XL mV []) xy.says o7.toRowW):PySem.Challenge.rw_wz0013_01.Holds:=
 holds_law (by kernel_rfl) λk1=>Vv xy k1 ⟨[WData.list []],of_decide_eq_true (by kernel_rfl),of_decide_eq_true (by kernel_rfl)⟩ ⟨Jt,w⟩
noncomputable def n8(i:Nat):XM:=(([(3,44),(4,56),(5,65),(8,72),(9,79),(10,86),(11,93),(12,100),(13,107),(16,187),(18,198),(19,205),(20,210),(21,217),(22,222),(23,229),(24,234),(25,239),(26,246),(27,253),(28,258),(29,263),(30,268),(31,273)]:List (Nat×XM)).lookup i).getD 0
noncomputable def o6(j:Nat):XM:=(([(0,124),(1,131),(2,139),(3,147),(4,154),(5,161),(7,176),(8,184)]:List (Nat×XM)).lookup j).getD 0
section
variable{P:ae4}
theorem Vx(X:(de P).In G.h₀):fa G 65 ["resp","peer"] (b6 5).2 (b6 5).1:=hq X aQ aQ aQ aQ (ji λa b=>by kernel_rfl) aQ
theorem Vy(X:(de P).In G.h₀):fa G 72 ["a","b","n"] (b6 8).2 (b6 8).1:=hq X aQ aQ aQ aQ (uH λa b c=>by kernel_rfl) aQ
theorem Vz(X:(de P).In G.h₀):fa G 79 ["a12","a3","b","b1","b2","n"] (b6 9).2 (b6 9).1:=hq X aQ aQ aQ aQ (Vm λa b c d e f=>by kernel_rfl) aQ
theorem Jj(X:(de P).In G.h₀):i1 G 86 ["a","n"] (b6 10).2 (b6 10).1 (.ref 85) "_int2digits":=uG X aQ aQ aQ aQ aQ aQ (ji λa b=>by kernel_rfl) aQ
theorem Jk(X:(de P).In G.h₀):i1 G 93 ["digits","n"] (b6 11).2 (b6 11).1 (.ref 92) "_digits2int":=uG X aQ aQ aQ aQ aQ aQ (ji λa b=>by kernel_rfl) aQ
theorem VA(X:(de P).In G.h₀):fa G 100 ["a","b"] (b6 12).2 (b6 12).1:=hq X aQ aQ aQ aQ (ji λa b=>by kernel_rfl) aQ
theorem VB(X:(de P).In G.h₀):fa G 107 ["a","b"] (b6 13).2 (b6 13).1:=hq X aQ aQ aQ aQ (ji λa b=>by kernel_rfl) aQ
theorem VC(X:(de P).In G.h₀):fa G 198 ["text"] (b6 18).2 (b6 18).1:=hq X aQ aQ aQ aQ (n7 λa=>by kernel_rfl) aQ
theorem VD(X:(de P).In G.h₀):fa G 205 ["way","rooms","dress"] (b6 19).2 (b6 19).1:=hq X aQ aQ aQ aQ (uH λa b c=>by kernel_rfl) aQ
theorem VE(X:(de P).In G.h₀):fa G 210 ["pair","kinds"] (b6 20).2 (b6 20).1:=hq X aQ aQ aQ aQ (ji λa b=>by kernel_rfl) aQ
theorem VF(X:(de P).In G.h₀):fa G 217 ["house","room"] (b6 21).2 (b6 21).1:=hq X aQ aQ aQ aQ (ji λa b=>by kernel_rfl) aQ
theorem VG(X:(de P).In G.h₀):fa G 222 ["ways","dress","size"] (b6 22).2 (b6 22).1:=hq X aQ aQ aQ aQ (uH λa b c=>by kernel_rfl) aQ
theorem VH(X:(de P).In G.h₀):fa G 229 ["lead","room"] (b6 23).2 (b6 23).1:=hq X aQ aQ aQ aQ (ji λa b=>by kernel_rfl) aQ
theorem VI(X:(de P).In G.h₀):fa G 234 ["house","ring"] (b6 24).2 (b6 24).1:=hq X aQ aQ aQ aQ (ji λa b=>by kernel_rfl) aQ
theorem VJ(X:(de P).In G.h₀):fa G 239 ["house","draw"] (b6 25).2 (b6 25).1:=hq X aQ aQ aQ aQ (ji λa b=>by kernel_rfl) aQ
theorem VK(X:(de P).In G.h₀):fa G 246 ["house","order"] (b6 26).2 (b6 26).1:=hq X aQ aQ aQ aQ (ji λa b=>by kernel_rfl) aQ
theorem VL(X:(de P).In G.h₀):fa G 253 ["number","way"] (b6 27).2 (b6 27).1:=hq X aQ aQ aQ aQ (ji λa b=>by kernel_rfl) aQ
theorem VM(X:(de P).In G.h₀):fa G 258 ["ways"] (b6 28).2 (b6 28).1:=hq X aQ aQ aQ aQ (n7 λa=>by kernel_rfl) aQ
theorem VN(X:(de P).In G.h₀):fa G 263 ["rooms","number"] (b6 29).2 (b6 29).1:=hq X aQ aQ aQ aQ (ji λa b=>by kernel_rfl) aQ
theorem VO(X:(de P).In G.h₀):fa G 268 ["house","size"] (b6 30).2 (b6 30).1:=hq X aQ aQ aQ aQ (ji λa b=>by kernel_rfl) aQ
theorem VP(X:(de P).In G.h₀):fa G 273 ["script"] (b6 31).2 (b6 31).1:=hq X aQ aQ aQ aQ (n7 λa=>by kernel_rfl) aQ
theorem VQ(X:(de P).In G.h₀):fa G 131 ["self","fws","string"] (dZ 1).2 (dZ 1).1:=hq X aQ aQ aQ aQ (uH λa b c=>by kernel_rfl) aQ
theorem VR(X:(de P).In G.h₀):fa G 176 ["self"] (dZ 7).2 (dZ 7).1:=hq X aQ aQ aQ aQ (n7 λa=>by kernel_rfl) aQ
theorem VS(X:(de P).In G.h₀):i1 G 154 ["self"] (dZ 4).2 (dZ 4).1 (.ref 153) "_Accumulator.__len__":=uG X aQ aQ aQ aQ aQ aQ (n7 λa=>by kernel_rfl) aQ
theorem VT(X:(de P).In G.h₀):i1 G 161 ["self"] (dZ 5).2 (dZ 5).1 (.ref 160) "_Accumulator.__str__":=uG X aQ aQ aQ aQ aQ aQ (n7 λa=>by kernel_rfl) aQ
theorem VU(X:(de P).In G.h₀)(ar:G.prog=PySem.Challenge.pw_wz0013_01):i8 G 187 124 ["self","initial_size"] (dZ 0).2 (dZ 0).1:=B_ X aQ aQ aQ (by rw[ar];kernel_rfl) aQ aQ (by rw[ar];kernel_rfl) rfl (ji λa b S=>by kernel_rfl) aQ
theorem VV(X:(de P).In G.h₀)(ar:G.prog=PySem.Challenge.pw_wz0013_01):i8 G 187 147 ["self"] (dZ 3).2 (dZ 3).1:=B_ X aQ aQ aQ (by rw[ar];kernel_rfl) aQ aQ (by rw[ar];kernel_rfl) rfl (n7 λa S=>by kernel_rfl) aQ
theorem VW(X:(de P).In G.h₀)(ar:G.prog=PySem.Challenge.pw_wz0013_01):i8 G 187 184 ["self"] (dZ 8).2 (dZ 8).1:=B_ X aQ aQ aQ (by rw[ar];kernel_rfl) aQ aQ (by rw[ar];kernel_rfl) rfl (n7 λa S=>by kernel_rfl) aQ
theorem VX(X:(de P).In G.h₀):Bt G 139:=by
 refine o_ (B6 (K:=de P) (a:=139) X aQ) λo O ae a2 b_ cn=>?_
 exact⟨o,_,378,O,ae,by kernel_rfl,by kernel_rfl,a2,b_,by kernel_rfl,cn,λs v aL=>kp_binds (X.keeps aL) λS=>by kernel_rfl⟩
end
noncomputable def Jl:Data->Option afM
 |.cls c=>some c
 |_=>none
theorem VY{d:Data}{f:afM}(h:Jl d=some f):d=.cls f:=by revert h;cases d<;>intro h<;>first|exact(aar _ h.symm).elim|exact congrArg _ (YW h)
def VZ(K:ach)(C:XM):Bool:=((K.lookup C).bind λo=>(Jl o.data).bind λ_=>(o.slots.toList[4]?).join)==some (.builtin "list.__new__")
noncomputable def Jm(K:ach)(C:XM):Bool:=(clsIn K C).any λcd=>cd.mro==[.ref C,.type "list",.type "object"]&&cd.hasDict&&!cd.abstract&&!cd.hasDel&&cd.qualname==("_Accumulator":Str)
theorem xm[BEq α][LawfulBEq α]{b:β}{a:α}:∀{l:List (α×β)},l.lookup a=some b->(a,b)∈l:=by
 intro l
 induction l with
 |nil=>exact λh=>mW h
 |cons p l ih=>
  obtain⟨x,y⟩:=p
  intro h
  rw[adS]at h
  cases H:a==x with
  |true=>rw[H]at h;cases h;rw[beq_iff_eq.mp H];exact .head _
  |false=>rw[H]at h;exact .tail _ (ih h)
section
variable{P:ae4}
theorem V0:((y1 n8).all λp=>nsIn (de P) YJ p.1==some (some p.2))=true:=by kernel_rfl
theorem V1:(vn.all λp=>nsIn (de P) YJ p.1==some none)=true:=by kernel_rfl
theorem V2(X:(de P).In G.h₀)(cE:G.h₀.Ns YJ G.mg)(H:∃bm o,G.mg "__builtins__" = some (.ref bm)/\bm≠Y6/\bm≠YJ/\G.h₀.get? bm=some o/\o.cls=.type "module"/\o.dict=some Y6/\o.data=.plain):cK G n8 where
 g:=λx v e=>mg_of X cE (beq_iff_eq.mp (X9.mp V0 _ (xm e)))
 lim:=⟨263,mg_of X cE aQ⟩
 emp:=⟨345,mg_of X cE aQ⟩
 b:=λx v e=>mg_none_of X cE (beq_iff_eq.mp (X9.mp V1 _ (xm e)))
 fn:=λi names e=>by
  have key:∀p∈vo,fa G (n8 p.1) p.2 (b6 p.1).2 (b6 p.1).1:=by
   delta vo
   simp only[ac3]
   exact⟨Vx X,Vy X,Vz X,⟨_,_,Jj X⟩,⟨_,_,Jk X⟩,VA X,VB X,VC X,VD X,VE X,VF X,VG X,VH X,VI X,VJ X,VK X,VL X,VM X,VN X,VO X,λ_ q=>cZ q⟩
  exact key _ (xm e)
 vp:=Jj X
 vq:=Jk X
 bm:=H
theorem V3(X:(de P).In G.h₀):AC G (de P) 187 where
 X:=X
 cd:=by
  have e:Jm (de P) 187=true:=by kernel_rfl
  delta Jm at e
  cases au:clsIn (de P) 187 with
  |none=>rw[au]at e;cases e
  |some cd=>
   rw[au]at e
   simp only[Option.any_some,Yp,ab8,beq_iff_eq]at e
   exact⟨cd,rfl,e.1.1.1.1,e.1.1.1.2,e.1.1.2,e.1.2,e.2⟩
 mt:=by kernel_rfl
 op:=by kernel_rfl
 ga:=by kernel_rfl
 zj:=by kernel_rfl
theorem V4:(EJ.all λp=>findIn (de P) (.ref 187) p.2==some (some (.ref (o6 p.1)))&&typeIn (de P) (.ref (o6 p.1))==some (.type "function"))=true:=by kernel_rfl
theorem V5(X:(de P).In G.h₀):zp G (de P) 187 o6 where
 ac:=V3 X
 m:=λj name e=>by
  have:=X9.mp (V4 (P:=P)) _ (xm e)
  refine d6 (Zl.mp this) λa b=>?_
  exact⟨beq_iff_eq.mp a,.inl (beq_iff_eq.mp b)⟩
 app:=⟨by kernel_rfl,.inr aQ⟩
 f1:=VQ X
theorem V6:nI (de P) 187 124 where
 bE:=by
  have e:VZ (de P) 187=true:=by kernel_rfl
  refine bB (YQ.mp (beq_iff_eq.mp e)) λo h e=>?_
  refine bB (YQ.mp e) λcd ae e=>?_
  obtain⟨c,d,zu,bE⟩:=o
  obtain rfl:=VY ae
  exact⟨_,_,_,_,h,e⟩
 call:=by kernel_rfl
 typ:=by kernel_rfl
 init:=by kernel_rfl
 fn:=by kernel_rfl
theorem V7:p2 (de P) 187:=⟨by kernel_rfl,by kernel_rfl⟩
theorem V8(X:(de P).In G.h₀)(O:mH G "error_reply" 44)(ae:mH G "error_proto" 56):vY G (de P) 44 56 where
 X:=X
 rep:=O
 FJ:=ae
 hA:=by kernel_rfl
 FK:=by kernel_rfl
 dd:=by kernel_rfl
 FL:=by kernel_rfl
 FN:=by kernel_rfl
 FO:=by kernel_rfl
 FP:=by kernel_rfl
 FQ:=by kernel_rfl
 FR:=by kernel_rfl
 FS:=by kernel_rfl
theorem V9(X:(de P).In G.h₀):v' G (de P) 187 o6 153 160 149 156:=⟨by kernel_rfl,VS X,VT X⟩
theorem V_(X:(de P).In G.h₀):w1 G (de P) 187 o6:=⟨by kernel_rfl,by kernel_rfl,by kernel_rfl,⟨by kernel_rfl,by kernel_rfl⟩,VX X,VR X⟩
theorem V'(X:(de P).In G.h₀)(ar:G.prog=PySem.Challenge.pw_wz0013_01)(cz:cK G n8)(O:mH G "error_reply" 44)(ae:mH G "error_proto" 56):eD G n8 o6 (de P) 153 160 149 156:=
 ⟨cz,V5 X,V7,V6,V8 X O ae,V9 X,VU X ar,VV X ar,VW X ar⟩
end
noncomputable abbrev uJ:RowW:=PySem.Challenge.rw_wz0013_01.row.toRowW
noncomputable def uK:List (XM×XM):=[(153,149),(160,156),(92,88),(85,81)]
def qG:ba:=[(81,.tab 85 cV),(88,.tab 92 dN),(149,.tab 153 mK),(156,.tab 160 nM)]
section
variable{dc:Zu}{xn:List (XM×XM)}{xo gw:List XF}{x:Str}{Jn:String}{cY:XG}{args:List afF}
theorem Wa(aU:TabsAt xn dc)(T:OwnTailQ dc xo gw):OwnTail (ghostOf dc xn) xo gw:=by
 induction T with
 |base=>exact .base
 |own ef lc aR _ ih=>exact .own (ghost_get aU ef (by intro q;cases q)) (ghost_ns aU lc) (aR _ (.head _)) ih
theorem Wb(aU:TabsAt xn dc)(cx:OwnClsQ x C xo Jn mg dc):OwnCls x C xo Jn mg (ghostOf dc xn):=by
 refine bC λ_ a'=>?_
 obtain⟨b,N,nm,q,bs,hd,sn,sub,ab,col,dd,k0,k1,k2,k3,k5,mN,br,lc,aR,T⟩:=cx.obj
 refine a' ?_
 exact⟨cx.bound,_,_,_,_,_,_,_,_,_,_,_,_,_,_,_,_,_,ghost_get aU br (by intro q;cases q),ghost_ns aU lc,aR _ (.head _),Wa aU T⟩
theorem Wc{y:afF}(h:acj [] y .int=true):∃n,y=.int n:=by
 cases y<;>first|exact⟨_,rfl⟩|exact(X' h).elim
theorem Wd{y:afF}(h:acj [] y (.list .int)=true):∃xs,y=.list xs/\adQ [] xs .int=true:=by
 cases y<;>first|exact⟨_,rfl,(Bool.or_false _).symm.trans h⟩|exact(X' h).elim
theorem We:∀{xs:List afF},adQ [] xs .int=true->∃ns:List Int,xs=ns.map .int:=by
 intro xs
 induction xs with
 |nil=>exact λ_=>⟨[],rfl⟩
 |cons y ys ih=>
  intro h
  refine d6 (Zl.mp (show(acj [] y .int&&adQ [] ys .int)=true from h)) λO ae=>?_
  refine cS (Wc O) λn aB=>?_
  subst aB
  refine cS (ih ae) λns aB=>?_
  subst aB
  exact⟨n::ns,rfl⟩
theorem Wf(h:ac9 [] args [.list .int]=true):∃ns:List Int,args=[.list (ns.map .int)]:=by
 rcases args with _|⟨a,_|⟨b,r⟩⟩
 ·exact iN h
 ·refine bB (Wd (Zl.mp (show(acj [] a (.list .int)&&ac9 [] [] [])=true from h)).1) λxs aB ae=>?_
  subst aB
  refine cS (We ae) λns aB=>?_
  subst aB
  exact⟨ns,rfl⟩
 ·exact iN ((Zl.mp (show(acj [] a (.list .int)&&ac9 [] (b::r) [])=true from h)).2)
theorem Wg{F:Option afF->Bool}{o d:Option afF}{x:Bool}(h:o=d)(k:x=F o):x=F d:=h▸k
theorem Wh{t:WTm}{e:WCtx}(h:WTm.value [] t e=some (.bool true)):WTm.holds [] (.and (.not t) (.lit (.bool true))) e=false:=
 Wg (F:=λo=>match(match(match o with|some (.bool b)=>some (afq (!b))|_=>none)with|some (.bool false)=>some (afq false)|some (.bool true)=>some (.bool true)|_=>none)with|some (.bool true)=>true|_=>false) h rfl
theorem Wi(mU:uJ.claim.pre args=true):∃ns:List Int,args=[.list (ns.map .int)]/\ns.length<=63:=by
 refine d6 (Zl.mp (show(ac9 [] args [.list .int]&&uJ.pre.holds [] {args:=args})=true from mU)) λO ae=>?_
 refine cS (Wf O) λns aB=>?_
 subst aB
 refine⟨ns,rfl,Yu λaw=>?_⟩
 have e:WTm.value [] (.lt (.lit (.int 63)) (.len (.arg 0))) {args:=[.list (ns.map .int)]}=some (.bool true):=congrArg (λb=>some (afq b)) (by rw[XJ];exact decide_eq_true (abe.mpr aw))
 exact iN ((Wh e).symm.trans ae)
theorem Wj{R:WRecords}{cl:Str->Option XM}{P:ae4}{ord:List abg->List abg}:∀{ns:List Int} {s:XG},∃vs J,layAllW R cl P ord (ns.map .int) s=some (vs,J)/\∀(Ce:XM->Prop) (h:Zu),a5 Ce h vs (hw ns):=by
 intro ns
 induction ns with
 |nil=>exact λ{s}=>⟨[],s,rfl,λ_ _=>.nil⟩
 |cons n ns ih=>
  intro s
  refine g8 (ih (s:={s with toks:=s.toks+1})) λvs J e r=>?_
  refine⟨.int n s.toks::vs,J,?_,λCe h=>.cons (.int _ _) (r Ce h)⟩
  show(match layAllW R cl P ord (ns.map .int) {s with toks:=s.toks+1}with|some r=>some (adI n s.toks::r.1,r.2)|none=>none)=_
  rw[e]
end
section
variable{cY:XG}{args:List afF}{f:XF}{loose:List Str}{Wk:ExcName->Option XF}
theorem sk{p:α->Prop}{a b c d:α}(aY:p a)(H:p b)(au:p c)(hd:p d):∀x∈[a,b,c,d],p x:=λx ag=>by
 rcases XH.mp ag with rfl|ag
 ·exact aY
 rcases XH.mp ag with rfl|ag
 ·exact H
 rcases XH.mp ag with rfl|ag
 ·exact au
 ·rw[XD.mp ag];exact hd
theorem Wl(T:Top mV loose Wk mg mb aj.heap)(qH:(de w.params).In aj.heap)(fA:∀P∈[149,156,88,81],aj.heap.get? P=some (tabObj #[]))(mU:uJ.claim.pre args=true)(L:_root_.PySem.W.Laid [] w cY aj args iF as)(hf:mg ("law":Str)=some f):
  bj (model PySem.Challenge.pw_wz0013_01 w) callerA (acp f iF) (λv J=>ag2 uJ.claim (classAt cY.heap) (ab2 cY.heap) args aj (.ok (.ret v)) J) (λe J=>ag2 uJ.claim (classAt cY.heap) (ab2 cY.heap) args aj (.error e) J) aj:=by
 have aU:TabsAt uK aj.heap:=sk ⟨aeD qH aQ,fA _ (.head _)⟩ ⟨aeD qH aQ,fA _ (.tail _ (.head _))⟩ ⟨aeD qH aQ,fA _ (.tail _ (.tail _ (.head _)))⟩ ⟨aeD qH aQ,fA _ (.tail _ (.tail _ (.tail _ (.head _))))⟩
 have xp:(de w.params).In (ghostOf aj.heap uK):=ghost_K aU qH aQ
 have GT:=ghost_top aU T
 let G:GE:={prog:=PySem.Challenge.pw_wz0013_01,w:=w,h₀:=ghostOf aj.heap uK,mg:=mg,mb:=mb}
 have ok:G.Ok:=⟨GT.g,GT.b,GT.nolimit,GT.nodigits,T.builtins⟩
 have H:∃bm o,G.mg "__builtins__" = some (.ref bm)/\bm≠Y6/\bm≠YJ/\G.h₀.get? bm=some o/\o.cls=.type "module"/\o.dict=some Y6/\o.data=.plain:=by
  obtain⟨bm,jV,a1,cw,e7,gJ,kQ,Jo⟩:=GT.bmain
  refine⟨bm,jV,a1,cw,λq=>?_,e7,gJ,kQ,Jo⟩
  obtain⟨o,aZ,kg,e,hd,_⟩:=GT.g
  rw[<-q,e7]at e
  cases e
  rw[Jo]at hd;cases hd
 have Wm:cK G n8:=V2 xp GT.g H
 have own:∀{x:Str} {D:XM},specOf mV x=some ("Exception.__new__",Fm)->nsIn (de w.params) YJ x=some (some (.ref D))->mH G x D:=λ{x D} aG az=>by
  obtain⟨C,cx,_⟩:=T.ownAt aG
  have e:=cx.bound
  rw[mg_of qH T.g az]at e
  cases e
  exact⟨Wb aU cx⟩
 have Wn:eD G n8 o6 (de w.params) 153 160 149 156:=V' xp rfl Wm (own aQ aQ) (own aQ aQ)
 have Wo:kL G n8 o6 (de w.params) 153 160 149 156 qG:=⟨Wn,V_ xp,.tail _ (.tail _ (.head _)),.tail _ (.tail _ (.tail _ (.head _)))⟩
 have Wq:f=.ref 273:=by
  rw[mg_of qH T.g (n:="law") (v:=.ref 273) aQ]at hf
  cases hf;rfl
 subst Wq
 obtain⟨ns,rfl,eU⟩:=Wi mU
 obtain⟨ord,_,aw⟩:=L.laid
 obtain⟨vs,J,e,r⟩:=Wj (R:=[]) (cl:=classAt cY.heap) (P:=w.params) (ord:=ord) (ns:=ns) (s:=cY)
 have kd:layAllW [] (classAt cY.heap) w.params ord [.list (ns.map .int)] cY=some ([.ref J.heap.objs.size],{J with heap:=J.heap.push {cls:=.type "list",data:=.seq vs.toArray}}):=by
  show(match(match layAllW [] (classAt cY.heap) w.params ord (ns.map .int) cY with|some r=>some (ZR r.2.heap.objs.size,{r.2 with heap:=r.2.heap.push {cls:=.type "list",data:=.seq r.1.toArray}})|none=>none)with|some a=>some ([a.1],a.2)|none=>none)=_
  rw[e]
 obtain⟨bJ,aG⟩:=aaj (YW (kd.symm.trans aw))
 have ku:aj.heap.get? J.heap.objs.size=some (gW vs 0):=by
  rw[<-aG]
  exact XU _ rfl
 have mT:∀b∈qG.at,aj.heap.get? b=some (tabObj #[]):=sk (fA _ (.tail _ (.tail _ (.tail _ (.head _))))) (fA _ (.tail _ (.tail _ (.head _)))) (fA _ (.head _)) (fA _ (.tail _ (.head _)))
 have pS:a5 (aT qG []) aj.heap iF [.list (hw ns)]:=by
  rw[<-bJ]
  refine .cons (.list ku ⟨λq=>?_,λq=>cZ q⟩ (r _ _)) .nil
  have:=mT _ q
  rw[ku]at this;cases this
 have W:a4 G qG [] aj:=by
  refine⟨ok,λb o q=>ae2 _ q,λp ar=>?_,by decide,λb _ q=>(cZ q),λb H=>?_,λb H=>?_⟩
  ·have one:∀{b c q},af3 aj.heap c b->aT qG [] c->aj.heap.get? b=some (tabObj #[])->cf.on (aT qG []) aj.heap G b (.tab c q):=λO ae a2=>⟨O,ae,#[],a2,trivial,λpos hV au=>mW au⟩
   exact sk (p:=λp=>cf.on (aT qG []) aj.heap G p.1 p.2) (one (aU (85,81) (.tail _ (.tail _ (.tail _ (.head _))))).1 ⟨by decide,λq=>(cZ q)⟩ (mT _ (.head _))) (one (aU (92,88) (.tail _ (.tail _ (.head _)))).1 ⟨by decide,λq=>(cZ q)⟩ (mT _ (.tail _ (.head _))))
    (one (aU (153,149) (.head _)).1 ⟨by decide,λq=>(cZ q)⟩ (mT _ (.tail _ (.tail _ (.head _))))) (one (aU (160,156) (.tail _ (.head _))).1 ⟨by decide,λq=>(cZ q)⟩ (mT _ (.tail _ (.tail _ (.tail _ (.head _)))))) p ar
  ·exact H.elim (λq=>XX (mT b q)) λq=>cZ q
  ·refine H.elim (λq=>aed _ ?_) λq=>cZ q
   exact sk (p:=λb=>b∈uK.map (·.2)) (.tail _ (.tail _ (.tail _ (.head _)))) (.tail _ (.tail _ (.head _))) (.head _) (.tail _ (.head _)) b q
 have room:cs callerA 25:=⟨by decide,by decide,rfl⟩
 have Wr:c5 callerA none [] aj.heap:=⟨[],rfl,λe q=>cZ q⟩
 refine U' (k:=0) (G:=G) (aK:=n8) (bw:=81) (bL:=88) (VP xp) Wo (.head _) (.tail _ (.head _)) eU callerA [] aj iF _ _ room Wr W pS ?_
 rintro Y d v ao ⟨rfl,gq,hU,gr,mQ⟩ eB d9 bc ej
 have Ws:v=.bool true:=by cases ej;rfl
 subst Ws
 have keep:∀b o,b∉[81,88,149,156]->aj.heap.get? b=some o->ao.heap.get? b=some o:=λb o H q=>eB.get H (λz=>cZ z) q
 have tab:∀{b c q},(b,cf.tab c q)∈Y->∃av,ao.heap.get? b=some (tabObj av):=λh=>by
  obtain⟨_,_,av,e,_⟩:=bc.store _ h
  exact⟨av,e⟩
 have Jp:∀b∈[81,88,149,156],∃av,ao.heap.get? b=some (tabObj av):=sk (tab gq) (tab hU) (tab gr) (tab mQ)
 have code:∀b∈[81,88,149,156],isCodeTable aj.heap b:=by
  have key:∀q∈uK,isCodeTable aj.heap q.2:=λq aR=>((aU q aR).1.tab (aU q aR).2).isCodeTable
  exact sk (key (85,81) (.tail _ (.tail _ (.tail _ (.head _))))) (key (92,88) (.tail _ (.tail _ (.head _)))) (key (153,149) (.head _)) (key (160,156) (.tail _ (.head _)))
 refine⟨.inl ⟨.bool true,.bool true,[],rfl,λ_=>rfl,.bool _,?_,λ_=>⟨.nil,λa q=>cZ q⟩⟩,⟨λb o q=>?_,λb o q=>?_⟩,eB.os,eB.gens.bare (by rw[L.gens];exact AllBare.empty)⟩
 ·show(acj [] (.bool true) .bool&&(WTm.eq .res (.lit (.bool true))).holds [] _)=true
  kernel_rfl
 ·by_cases H:b∈[81,88,149,156]
  ·obtain⟨av,ar⟩:=Jp b H
   have:=mT b H
   rw[q]at this
   cases this
   exact .inr (.inl ⟨code b H,rfl,#[],av,rfl,by rw[Array.empty_append];exact ar⟩)
  ·exact .inl (keep b o H q)
 ·by_cases H:b∈[81,88,149,156]
  ·obtain⟨av,ar⟩:=Jp b H
   exact⟨_,ar⟩
  ·exact⟨o,keep b o H q⟩
end
theorem Xz:PySem.Challenge.rw_wz0013_01.Holds:=
 Vw λw cY aj mg mb G bP args iF as mU uI L low f hf=>Wl G.T (km_in_of bP) (km_tabs_of bP) mU L hf
end
end Mine.Internal
theorem PySem.Challenge.cw_wz0013_01_holds : PySem.Challenge.rw_wz0013_01.Holds :=
 Mine.Internal.Xz
