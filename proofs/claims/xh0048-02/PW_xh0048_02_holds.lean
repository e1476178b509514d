import PyProof.Rows.All
import KE.HeadEqs
import Open.Tops
import Wide.FinOn
import OpenK.AllK
import Wide.All
import Lean
import PySem.Challenge.RW_xh0048_02
set_option Elab.async false
set_option linter.all false
set_option maxHeartbeats 4000000
set_option genSizeOf false
set_option compiler.extract_closed false
set_option hygiene false
open List renaming mem_cons_self->f',mem_cons_of_mem->j',length_map->Hb,mem_cons->Hc,mem_map->Hd,range->Hg,getD_eq_getElem?_getD->Hl,mem_singleton->Hm,getElem?_eq_getElem->Hn,lookup_cons->Hr,map_cons->Hw,getElem?_map->Hy,map_map->HB,map_append->HC,getElem?_eq_some_iff->HD,nodup_cons->HJ,length_cons->HK,all_eq_true->HM,mem_range->HN,mem_append->HP,length_append->HT,mem_filter->HU,mem_append_left->HW,mem_of_getElem?->HX,not_mem_nil->H0,take_of_length_le->H9,mem_append_right->Ig,pairwise_cons->Ih,map_congr_left->Ik,sum_cons->Iq,length_nil->Ir,replicate->Iu,lookup_append->IA,Pairwise->IC,getElem?_range->ID,length_take->IG,length_filter_le->II,foldl_cons->IJ,lookup_eq_none_iff->IK,size_toArray->IM,append_assoc->IP,mem_iff_getElem->IT,map_nil->IU,take_length->IY,length_eq_zero_iff->I1,pairwise_append->I3,append_nil->Jc,pairwise_iff_getElem->Jp,take_append_drop->Jr,getElem_mem->Jv,filter_cons->Jw,nodup_append->Jz,take_add_one->JA,forIn_cons->JF,lookup->JI,countP_cons->JL,mem_iff_getElem?->JQ,Perm->JU,range_succ->JV,toArray->J2,length_range->J3,getElem_drop->J4,zipWith->J5,pairwise_singleton->Kh,length_drop->Kn,filter_eq_nil_iff->Ks,drop_eq_nil_of_le->Ku,findIdx_le_length->Kv,drop->Ky,map_take->Kz,getElem?_eq_none->KA,perm_append_comm->KC,flatten_cons->KI,take_sublist->KJ,idxOf_lt_length_of_mem->KL,forall_mem_cons->KR,any_eq_true->K3,drop_eq_getElem_cons->K4,find?_cons->Ld,sum_append->Lf,nil_append->Lg,getElem_idxOf->Lk,not_lt->Lm,any_map->Ln,foldl_append->Lp,forIn_nil->Lu,drop_sublist->Lz,getElem_take->LB,nodup_nil->LC,map_fst_zip->LR,take_subset->LU,mem_flatMap->LV,map_drop->LX,map_id->LY,length_take_le'->L2,take_append_of_le_length->L3,eq_nil_of_length_eq_zero->L5,headD_cons->L9,mem_map_of_mem->Mb,filterMap_cons->Md,filter_sublist->Me,mem_filterMap->Mn,filter_append->Mp,getElem?_append_left->Mw,ext_getElem?->MC,findIdx_cons->MF,any_cons->MP,getElem?_cons_succ->M1,perm_middle->M3,nodup_range->M6,foldl->M7,append_eq_nil_iff->Ng,length_pos_of_mem->Nj,all_map->Nk,sum_nil->Nn,filter_map->Nr,length_singleton->Nv,contains_iff_mem->Nx,length->NB,drop_zero->NF,mem_erase_of_ne->NK,foldl_nil->NL,append_toArray->NP,flatMap_append->NR,forall_mem_nil->NT,countP_eq_zero->NU,filter_eq_self->NV,zip_cons_cons->N1,contains_cons->N4,filter_congr->Oq,cons_append->Oz,drop_length->OC,mem_toArray->OD,le_antisymm->OF,drop_subset->OG,length_zip->OR,length_set->OT,filter_nil->OV,countP_nil->OW,all_cons->Pa,cons->Pf,filter->PF,range'->PK,map->PM,Nodup->P0,getD->P2
open PySem renaming Value->y',wpAny_mono->G',wpAny_bind->Ha,Addr->He,Shared->Hh,wpAny->Hi,Heap->Ho,wpAny_execs_nil->Hq,DictEntry->Hs,wpAny_pure->Hu,execs->HA,Params->HF,starEach->HG,wpAny_loadPart'->HY,compareOp->HZ,foldedSetIterable->H4,Builtin->H8,wpAny_execs_cons->Ia,Obj->Ib,cellsFrom->Ie,mem_of_lookup->Ij,treeTable->Im,wpAny_holding->Ip,wpAny_newObj_type->IL,eval->IQ,NameKind->IS,PyData->IV,Comprehension->I4,wpAny_Call_NameR->I6,keywordEach->I8,Stmt->I9,Arguments->I',wpAny_standAt->Jb,Sem->Jj,attributeBase->Jk,wpAny_Call_method->Jl,Pos->Jm,backTo->Jo,FuncData->Jq,sysModules->Js,World->Jx,wpAny_callSpecial?_slot->JC,rawInt->JE,OsState->JH,wpAny_field->JJ,codeAmong->JK,Keyword->JN,Around->JR,backToKw->J1,holding->J',Program->Kc,swapsWith->Kg,wpAny_call_entry->Kl,mainGlobals->Kq,binaryOp->Kx,codeAny->KD,wpAny_Assign_Name->KG,builtinsNs->KN,wpAny_loadName_local->KO,subscripted->KP,callEnvC->KQ,compTurn->KS,wpAny_newFunctionEnv_cells->KU,wpAny_seqItems->KY,standAt->K8,pushCells_keeps->Lc,wpAny_Call_Name_kw->Li,wpAny_setField_rec->Lj,codeAny_call_function->LD,assignEach->LM,Fin->LN,callWith_function_kw->L0,pyIter->L6,codeAny_builtin->Ma,call_meetsIn->Mj,Env->Mm,wpAny_pyIter_tuple->Mo,wpAny_truthy_bool->Mz,dictEntries->MB,wpAny_comprehension_free->MH,plainId_quiet->MQ,wpAny_list_append_plain->MV,markedBehindIn_of_false->MW,wpAny_Name->M8,wpAny_rule->Nb,wpAny_call->Nc,call_meets->Nd,call->Nh,dictEpoch->Np,wpAny_storeName_local->Nt,wpAny_storeName_cell->Nz,wpAny_updateSeq_pair->NJ,callWith_type->NS,rangeSize_one->NW,wpAny_getItem_list->NX,slot_list_getitem->N6,wpAny_assign_Name->N7,codeAny_func->N9,meets_dict_values->Of,wpAny_sequenceKey->Og,slot_list_setitem->Oh,wpAny_typeOf->Ol,wpAny_askSetting->Ot,wpAny_getItem_of->Ox,lookBehind->Oy,wpAny_Dict_pairs->OA,wpAny_pyIter_zip->OE,wpAny_of_eq->OJ,wpAny_Slice->OK,evalArgs_kw->OL,wpAny_letGo->ON,isTrue_Compare1->OO,eval_Dict_empty->OS,wpAny_layCells->OX,Expr->OZ,typeIs_str->O0,sliceRange_one->O2,clipAt_nat->O3,wpAny_loadPart->O4,wpAny_setField->O5,wpAny_newTuple->O6,wpAny_fieldsOf->O7,wpAny_add_int->O9,wpAny_attempt->Pb,wpAny_onRaise->Pc,wpAny_newList->Pd,wpAny_lt_int->Ph,name_of_addr->Pj,cellsFrom_ok->Pk,codeAny_loop->Pm,callType_new->Py,wpAny_BinOp->PA,wpAny_alloc->PC,wpAny_noted->PE,wpAny_in_of->PL,clipAt_cast->PN,wpAny_List->PS,wpAny_load->PT,typeIs_int->PU,intKind_is->PW
open Nat renaming le_trans->Hf,le_refl->Hk,lt_of_lt_of_le->Ht,le_of_ble_eq_true->Hv,not_lt->HH,le_succ_of_le->HO,lt_irrefl->HR,le_of_succ_le->H5,le_add_right->H6,zero_le->H7,ne_of_lt->Iw,le_of_lt->IB,lt_succ_self->IX,le_succ->Jg,lt_of_le_of_lt->JM,min_eq_left->JW,ne_of_gt->JZ,sub_lt_sub_left->Kd,succ_le_succ->Kj,blt_eq->K0,min_le_right->K1,ble->La,le_antisymm->Lb,lt_of_add_right_lt->Lr,le_of_eq->Ly,le_of_sub_eq_zero->LF,lt_of_sub_eq_succ->LJ,lt_trans->Mf,zero_add->Mh,lt_succ_of_lt->ME,succ_add_eq_add_succ->MK,min_eq_right->M0,lt_add_of_pos_right->M4,blt->Nl,add_le_add->NG,not_le->NZ,lt_of_succ_lt->N5,lt_of_succ_le->N8,mul_zero->Oc,lt_succ_of_le->Od,le_zero->OM,not_lt_zero->OQ,add_zero->Po,min_self->Pp,add_comm->Pt,succ_pos->Pw
open PySem.Heap renaming get?_push_of_some->Hj,get?_push_size->Hp,lt_size->Hx,size_push->Io,SameBut->Iv,get?_update_self->JO,Ns->M9,get?_none_of_le->Ny,ExtBut->NA,IsSliceOf->O1,mk->Pn,IsTuple->Px,IsList->PG,IsCell->PH
open PyProof renaming noPylong_small->HI
open Ne renaming symm->H3
open Bool renaming and_eq_true->H',false_ne_true->Ii,false_eq_true->Jt,and_eq_true_iff->JX,not_eq_true'->JY,true_and->K7,false_or->LW,eq_false_iff->Om,not_eq_true->OI,or_eq_true->OP,eq_iff_iff->OU
open ForInStep renaming yield->Ic
open Int renaming fmod_nonneg_of_pos->Il,fmod_lt_of_pos->IW,natCast_nonneg->Je,toNat_natCast->JD,mul_one->J0,mul_zero->J6,toNat->Ko,zero_add->Kw,add_zero->Ml,ne_of_lt->Nf,add_comm->Nm,eq_natCast_toNat->ND,le_of_lt_add_one->NI,toNat_of_nonneg->NQ,lt_of_le_of_lt->N0,ofNat_lt->Oj,zero_mul->Oo,lt_irrefl->Pe,le_trans->Pq,toNat_lt->Pu,add_mul->PR
open PySem.Heap.SameBut renaming update->It
open Option renaming some->Iy,map_eq_some_iff->I5,isSome_iff_exists->J8,none->Kr,map_some->L7,isSome_some->NY,isSome_map->Oi,getD_some->OB,elim->PO
open PySem.Obj renaming mapSeq->IE,mapDictKeys->JG,putName->NH,data_mapFields->N2
open Option.some renaming inj->IF,injEq->My
open Lean renaming Syntax->IH,mkIdent->Pg
open PySem.W renaming behindTheImports->IZ,SharedT->JB,topRun->J9,instObj->Ke,emptyDict->Km,segRun_of->NN,hideAll_none->Oa,piece_app->OH
open PySem.Builtin.Str renaming strSliceIndices->I0,occurrences->MY
open List.Pairwise renaming nil->I7,sublist->Ja
open PUnit renaming unit->Jd
open PySem.PyData renaming eqv->Jf,keyHash->Ki,strOk->Mi,eqvAll->MM,canLayAll0->Oe,int->PY
open PySem.F renaming plainAttrs_dict->Jh,slot_dict_get->JP,slot_dict_values->Ka,plainAttrs_str->Kt,slot_dict_itemiterator_iter->K',plainAttrs_list->Ll,type_dict_get->LG,slot_str_join->LH,type_str_join->LI,args_dict_values_1->Ms,entry_dict_values->Mv,type_dict_values->MN,slot_list_append->MO,slot_dict_items->MZ,slot_list_count->M5,entry_dict_get->Ni,slot_int_rmul->Nw
open PySem.Value renaming isInt->Ji,ref->Ju,none->Mt,isStrOf->MI,int->NM,type->PZ
open Pure renaming pure->Jn
open List.Perm renaming refl->Jy,eq_of_pairwise->MS
open PySem.Builtin.SmallTypes renaming nextOf->JS
open Array renaming getElem?_eq_getElem->JT,getElem?_append_right->KH,length_toList->K6,append_assoc->Lh,getElem?_append_left->Mr,toList_inj->MX,getElem?_eq_none->Na,toList_append->NO,all_eq_true'->N3,getD->PX
open PySem.Env renaming kindOf->J7
open PySem.Builtin.Tuple renaming tupleExact->Kb
open PySem.Builtin.Int renaming intBits->Kf
open PySem.Builtin.List renaming listFitsIndex->KW
open PySem.Txt renaming join->KX,lower->P4
open PySem.Around renaming under_plainId->KZ
open PySem.Calls renaming spliced_cons->K2,evalArgs_plain->Lq,spliced_nil->LZ,Name_function_global->NC,callWith_builtin->Ou,call_len_list->O'
open PySem.Builtin.Slice renaming slicePlaces->K5,sliceAdjust->Mx
open Function renaming comp->K9
open PySem.Str renaming ofString->Lv
open PyProof.Rows renaming Subscript_->LK,callWith_method1->LP,callWith_method0->LQ,wpAny_AugAssign_Subscript_any->L1,callWith_type1->Mk,slot_tuple_getitem->Mu,subscriptTail_ops->MA,listUpdate_at->MT,get?_update_seq->Nq,slot_str_getitem->Ov,wpAny_operate'->OY,slicePart_none->O8,listItems_at->Pz,tail_any->PB,kws_cons->PI,seqEpoch_at->PQ,kws_nil->P1
open LawfulBEq renaming eq_of_beq->LL
open PySem.Challenge renaming pw_xh0048_02->L8
open PySem.Builtin.Range renaming small->Mc
open PySem.HeadEqs renaming codeAmongQ_eq->Mg,codeGoQ->Nu
open LawfulMonad renaming bind_assoc->Mq
open PySem.NameKind renaming cell->MG
open PySem.Sem renaming wrap_wrap->MJ,bind_eq_wrap'->Ob,pure->PJ
open List.Nodup renaming idxOf_getElem->MU
open PySem.Heap.Ns renaming lt->M',new->PD
open PySem PySem.W PyProof.Rows PySem.Calls
namespace Mine.Internal
abbrev Hz:=@if_neg
abbrev HE:=@if_pos
abbrev HQ:=@beq_false_of_ne
abbrev HS:=@decide_eq_true
abbrev HV:=@congrArg
abbrev H2:=@decide_eq_false
abbrev Iz:=@decide_eq_true_eq
def dr (s:String):String:=(s.drop 1).toString
def nd (k:String)(a:List IH):IH:= .node .none (if k=="" then `null else((if k.front=='.' then "Lean.Parser" else "") ++ k).toName) a.toArray
def aw (s:String):IH:= .atom .none s
def sq (t:IH):IH:=nd ".Tactic.tacticSeq" [nd ".Tactic.tacticSeq1Indented" [nd "" [t]]]
def kx (s:String):IH:=nd "PySem.W.tacticK_extra_" [aw "k_extra",nd "str" [aw s.quote]]
def tw (k a:String)(t:IH):IH:=nd (".Tactic." ++ k) [aw a,sq t]
def bx (x:String):IH:=nd ".Term.byTactic" [aw "by",sq (kx x)]
def dc (s:String):IH:=((s.splitOn " ").foldr (λx st=>if x.front=='\'' then aw (dr x)::st else if x.front=='=' then Pg (dr x).toName::st else if x.front=='%' then kx (dr x)::st else if x.front=='^' then bx (dr x)::st else let n:=x.front.toNat - 48;nd (dr x) (st.take n)::st.drop n) []).headD .missing
def fu (s:String):IH:=dc ("2.Term.fun 'fun 4.Term.basicFun 2 1.Term.hole '_ 1.Term.hole '_ 0 '=> " ++ s)
def ta (x:String):IH:=if x=="U" then fu "3.Term.anonymousCtor '⟨ 3 1.Term.hole '_ ', =rfl '⟩" else if x=="V" then fu "=rfl" else if x=="h" then nd ".Term.syntheticHole" [aw "?",aw "_"] else if x=="_" then nd ".Term.hole" [aw "_"] else bx x
def te (x:String):IH:=let l:=x.splitOn " ";if l.getD 1 ""=="!" then kx (l.getD 0 "") else nd ".Tactic.refine'" [aw "refine'",(let f:IH:=Pg (l.getD 0 "").toName;if l.length==1 then f else nd ".Term.app" [f,nd "" ((l.drop 1).map ta)])]
def fi (s:String):IH:=nd ".Tactic.first" [aw "first",nd "" ((s.splitOn ";").map λx=>nd "group" [aw "|",sq (te x)])]
def tk (s:String):Lean.MacroM IH:=match ("f#D#2.Tactic.withUnfoldingAll 'with_unfolding_all 1.Tactic.tacticSeq 1.Tactic.tacticSeq1Indented 1 1.Tactic.tacticRfl 'rfl@d#F#q !;z !;k !;v !@q#D#1PyProof.Rows.tacticKernel_rfl! 'kernel_rfl!@z#D#3.Tactic.paren '( 1.Tactic.tacticSeq 1.Tactic.tacticSeq1Indented 3 6.Tactic.dsimp 'dsimp 1.Tactic.optConfig 0 0 1 'only 3 '[ 5 3.Tactic.simpLemma 0 0 =mv ', 3.Tactic.simpLemma 0 0 =dT ', 3.Tactic.simpLemma 0 0 =bD '] 0 '; %k ')@k#D#2.Tactic.decide 'decide 1.Tactic.optConfig 1 1.Tactic.configItem 2.Tactic.posConfigItem '+ =kernel@v#D#1.Tactic.tacticRfl 'rfl@i#D#2.Tactic.repeat' 'repeat' 1.Tactic.tacticSeq 1.Tactic.tacticSeq1Indented 1 %w@L#W#a !;Nat.zero_le _;le_size a A;xI a A;Nat.le_of_lt a;Nat.lt_of_lt_of_le a a;Nat.lt_of_le_of_lt a a;Int.zero_add _@a#D#1.Tactic.assumption 'assumption@A#F#a !;v !@D#D#2.Tactic.decide 'decide 1.Tactic.optConfig 0@l#D#2.Tactic.lia 'lia 1.Tactic.optConfig 0@s#D#6.Tactic.simp 'simp 1.Tactic.optConfig 0 0 0 0 0@K#D#1tacticKernel_rfl 'kernel_rfl@n#F#j5 d;n8 d n@u#R#le_refl _;wH h n@r#W#xD;fL;jX d r;oi d;f !;Dy d r;n8 d r;pL d r;a !@rs#F#sJ f;R !@R#R#jK;aD r h@1#W#Ev.int;Ev.str;Ev.bool;Ev.none;Ev.var d r;Ev.BY a d f d;Ev.CF a d f d;Ev.bin h h h;Ev.cmp h h h k;Ev.un h h;Tr.cmp h h h h k;Tr.not h;Th.bool;ab.nil;ab.cons h h;bR.nil;bR.cons h h;aj.add;aj.sub;One.neg;aj.ltI;aj.E9;aj.DO;aj.Ba;aj.Fy;aj.FC;aj.dA;aj.eqB;aj.F8;aj.pq;aj.k9;aj.isNone f;aj.my;aj.isNotNone f@e#D#2.Tactic.repeat' 'repeat' 1.Tactic.tacticSeq 1.Tactic.tacticSeq1Indented 1 %1@w#W#1 !;trivial;Ev.a5 B h h;Ev.list h h;Ev.tuple h h;GU f;GH l;Gs s;cC.chr D D;aj.oR a;G !;GG f;G2 K;Ev.uR h h h h h h h h E E E;Gv D;GO D;aj.uM h;cj.nil;cj.cons h h h;aj.inD;GS h h;Tr.xM;aj.mod D;aj.floordiv D F;eh.some h;eh.kg;Ev.eb h h h h h h h U V@B#W#Ev.BY a d f d@F#W#PyProof.noPylong_small D@E#D#3.Tactic.paren '( 1.Tactic.tacticSeq 1.Tactic.tacticSeq1Indented 3 2.Tactic.intro 'intro 1 1.Term.hole '_ '; %f ')@H#D#2.Tactic.exact 'exact 2.Term.fun 'fun 4.Term.basicFun 1 1.Term.hole '_ 0 '=> 3.Term.anonymousCtor '⟨ 5 1.Term.hole '_ ', 1.Term.hole '_ ', ^f '⟩@G#D#2.Tactic.refine' 'refine' 2.Term.app =Ev.vJ 7 5.Term.namedArgument '( =ks ':= 3«term[_]» '[ 5 1.Term.hole '_ ', 1.Term.hole '_ ', 1.Term.hole '_ '] ') ^f ^f ^E 2.Term.syntheticHole '? '_ 2.Term.syntheticHole '? '_ 2.Term.syntheticHole '? '_@N#D#1.Tactic.tacticNofun 'nofun@I#D#2.Tactic.intro 'intro 1 1.Term.hole '_@p#P#Pl.bool;Pl.int;Pl.str;a !;Pl.lst h;Pl.tup h;Pl.au h;Pl.inst h;Pl.nil;Pl.dnil;Pl.map h;Pl.dmap h;Pl.cons h h;Pl.dcons h h;I !".splitOn "@").find? (·.startsWith (s ++ "#")) with
 |none=>Lean.Macro.throwUnsupported
 |some e=>let l:=e.splitOn "#";let b:=l.getD 2 "";let m:=l.getD 1 "";pure (if m=="D" then dc b else if m=="F" then fi b else if m=="W" then tw "withReducible" "with_reducible" (fi b) else if m=="R" then tw "tacticRepeat_" "repeat" (fi b) else tw "withReducible" "with_reducible" (tw "repeat'" "repeat'" (fi b)))
local macro_rules | `(tactic| k_extra $s) => tk s.getString
local macro_rules | `(tactic| fail) => tk "f"
local macro_rules | `(tactic| done) => tk "d"
local macro_rules | `(tactic| intros) => tk "i"
local macro_rules | `(tactic| lia) => tk "L"
def nf:IH:=kx "N"
def nh:IH:=kx "H"
def ng:IH:=kx "E"
theorem GU {n:Nat}(h:n.ble sizeLine=true):n<=sizeLine:=Hv h
theorem GH {n:Nat}(h:n<=sizeLine):n<=sizeLine:=h
theorem Gs {n:Option Int}(h:n≠some 0):n≠some 0:=h
theorem GG {α:Type}{l:List α}{a b:Bool}(h:(!List.isEmpty l && a && b)=true):(!List.isEmpty l && a && b)=true:=h
theorem G2 {α β:Type}{f:α->β->α}{a b:α}{l:List β}(h:M7 f a l=b):M7 f a l=b:=h
theorem Gv {n:Int}(h:0<=n):0<=n:=h
theorem GO {n:Int}(h:n<=(sizeLine:Int)):n<=(sizeLine:Int):=h
theorem le_size {n k:Nat}(h:n<=k)(e:La k 16777216=true):n<=sizeLine:=Hf h (Hv e)
theorem xI {n k m:Nat}(h:n<=k)(e:La k m=true):n<=m:=Hf h (Hv e)
noncomputable def Dk:I9->I'×Scope×List I9×Expr
 | .FunctionDef _ a b _ _ _ s _ _ _=>(a,s,b,default)
 | .ClassDef _ _ _ b _ _ _ _ _ _ _=>(default,default,b,default)
 | .For _ _ b _ _=>(default,default,b,default)
 | .If _ b _ _=>(default,default,b,default)
 | .Assign _ e _=>(default,default,[],e)
 |_=>(default,default,[],default)
noncomputable def D4:Expr->Bool×Int×Str×List (Option Expr)×List Expr
 | .Tuple _ _ _=>(true,0,default,[],[])
 | .Constant c _ _=>(false,(match c with | .int i=>i |_=>0),(match c with | .str x=>x |_=>default),[],[])
 | .Dict ks vs _=>(false,0,default,ks,vs)
 |_=>(false,0,default,[],[])
theorem c7 {p0 p1:Prop}{q:Prop}(h:p0/\p1)(k:p0->p1->q):q:=by
 obtain⟨h0,h1⟩:=h
 exact k h0 h1
theorem cZ {p0 p1 p2:Prop}{q:Prop}(h:p0/\p1/\p2)(k:p0->p1->p2->q):q:=by
 obtain⟨h0,h1,h2⟩:=h
 exact k h0 h1 h2
theorem lZ {p0 p1 p2 p3:Prop}{q:Prop}(h:p0/\p1/\p2/\p3)(k:p0->p1->p2->p3->q):q:=by
 obtain⟨h0,h1,h2,h3⟩:=h
 exact k h0 h1 h2 h3
theorem DC {p0 p1 p2 p3 p4:Prop}{q:Prop}(h:p0/\p1/\p2/\p3/\p4)(k:p0->p1->p2->p3->p4->q):q:=by
 obtain⟨h0,h1,h2,h3,h4⟩:=h
 exact k h0 h1 h2 h3 h4
theorem FT {p0 p1 p2 p3 p4 p5:Prop}{q:Prop}(h:p0/\p1/\p2/\p3/\p4/\p5)(k:p0->p1->p2->p3->p4->p5->q):q:=by
 obtain⟨h0,h1,h2,h3,h4,h5⟩:=h
 exact k h0 h1 h2 h3 h4 h5
theorem GX {p0 p1 p2 p3 p4 p5 p6:Prop}{q:Prop}(h:p0/\p1/\p2/\p3/\p4/\p5/\p6)(k:p0->p1->p2->p3->p4->p5->p6->q):q:=by
 obtain⟨h0,h1,h2,h3,h4,h5,h6⟩:=h
 exact k h0 h1 h2 h3 h4 h5 h6
theorem cA {α:Sort _}{p0:α->Prop}{q:Prop}(h:∃x,p0 x)(k:∀x,p0 x->q):q:=by
 obtain⟨x,h0⟩:=h
 exact k x h0
theorem ae {α:Sort _}{p0 p1:α->Prop}{q:Prop}(h:∃x,p0 x/\p1 x)(k:∀x,p0 x->p1 x->q):q:=by
 obtain⟨x,h0,h1⟩:=h
 exact k x h0 h1
theorem iI {α:Sort _}{p0 p1 p2:α->Prop}{q:Prop}(h:∃x,p0 x/\p1 x/\p2 x)(k:∀x,p0 x->p1 x->p2 x->q):q:=by
 obtain⟨x,h0,h1,h2⟩:=h
 exact k x h0 h1 h2
theorem rz {α:Sort _}{p0 p1 p2 p3:α->Prop}{q:Prop}(h:∃x,p0 x/\p1 x/\p2 x/\p3 x)(k:∀x,p0 x->p1 x->p2 x->p3 x->q):q:=by
 obtain⟨x,h0,h1,h2,h3⟩:=h
 exact k x h0 h1 h2 h3
theorem Bv {α:Sort _}{p0 p1 p2 p3 p4:α->Prop}{q:Prop}(h:∃x,p0 x/\p1 x/\p2 x/\p3 x/\p4 x)(k:∀x,p0 x->p1 x->p2 x->p3 x->p4 x->q):q:=by
 obtain⟨x,h0,h1,h2,h3,h4⟩:=h
 exact k x h0 h1 h2 h3 h4
theorem D1 {α:Sort _}{p0 p1 p2 p3 p4 p5:α->Prop}{q:Prop}(h:∃x,p0 x/\p1 x/\p2 x/\p3 x/\p4 x/\p5 x)(k:∀x,p0 x->p1 x->p2 x->p3 x->p4 x->p5 x->q):q:=by
 obtain⟨x,h0,h1,h2,h3,h4,h5⟩:=h
 exact k x h0 h1 h2 h3 h4 h5
theorem GY {α:Sort _}{p0 p1 p2 p3 p4 p5 p6:α->Prop}{q:Prop}(h:∃x,p0 x/\p1 x/\p2 x/\p3 x/\p4 x/\p5 x/\p6 x)(k:∀x,p0 x->p1 x->p2 x->p3 x->p4 x->p5 x->p6 x->q):q:=by
 obtain⟨x,h0,h1,h2,h3,h4,h5,h6⟩:=h
 exact k x h0 h1 h2 h3 h4 h5 h6
theorem fB {α β:Sort _}{p0:α->β->Prop}{q:Prop}(h:∃x,∃y,p0 x y)(k:∀x y,p0 x y->q):q:=by
 obtain⟨x,y,h0⟩:=h
 exact k x y h0
theorem aL {α β:Sort _}{p0 p1:α->β->Prop}{q:Prop}(h:∃x,∃y,p0 x y/\p1 x y)(k:∀x y,p0 x y->p1 x y->q):q:=by
 obtain⟨x,y,h0,h1⟩:=h
 exact k x y h0 h1
theorem bo {α β:Sort _}{p0 p1 p2:α->β->Prop}{q:Prop}(h:∃x,∃y,p0 x y/\p1 x y/\p2 x y)(k:∀x y,p0 x y->p1 x y->p2 x y->q):q:=by
 obtain⟨x,y,h0,h1,h2⟩:=h
 exact k x y h0 h1 h2
theorem ib {α β:Sort _}{p0 p1 p2 p3:α->β->Prop}{q:Prop}(h:∃x,∃y,p0 x y/\p1 x y/\p2 x y/\p3 x y)(k:∀x y,p0 x y->p1 x y->p2 x y->p3 x y->q):q:=by
 obtain⟨x,y,h0,h1,h2,h3⟩:=h
 exact k x y h0 h1 h2 h3
theorem Gy {α β:Sort _}{p0 p1 p2 p3 p4:α->β->Prop}{q:Prop}(h:∃x,∃y,p0 x y/\p1 x y/\p2 x y/\p3 x y/\p4 x y)(k:∀x y,p0 x y->p1 x y->p2 x y->p3 x y->p4 x y->q):q:=by
 obtain⟨x,y,h0,h1,h2,h3,h4⟩:=h
 exact k x y h0 h1 h2 h3 h4
theorem Cm {α β:Sort _}{p0 p1 p2 p3 p4 p5:α->β->Prop}{q:Prop}(h:∃x,∃y,p0 x y/\p1 x y/\p2 x y/\p3 x y/\p4 x y/\p5 x y)(k:∀x y,p0 x y->p1 x y->p2 x y->p3 x y->p4 x y->p5 x y->q):q:=by
 obtain⟨x,y,h0,h1,h2,h3,h4,h5⟩:=h
 exact k x y h0 h1 h2 h3 h4 h5
theorem G3 {α β:Sort _}{p0 p1 p2 p3 p4 p5 p6:α->β->Prop}{q:Prop}(h:∃x,∃y,p0 x y/\p1 x y/\p2 x y/\p3 x y/\p4 x y/\p5 x y/\p6 x y)(k:∀x y,p0 x y->p1 x y->p2 x y->p3 x y->p4 x y->p5 x y->p6 x y->q):q:=by
 obtain⟨x,y,h0,h1,h2,h3,h4,h5,h6⟩:=h
 exact k x y h0 h1 h2 h3 h4 h5 h6
theorem GQ {α β γ:Sort _}{p0:α->β->γ->Prop}{q:Prop}(h:∃x,∃y,∃z,p0 x y z)(k:∀x y z,p0 x y z->q):q:=by
 obtain⟨x,y,z,h0⟩:=h
 exact k x y z h0
theorem lO {α β γ:Sort _}{p0 p1:α->β->γ->Prop}{q:Prop}(h:∃x,∃y,∃z,p0 x y z/\p1 x y z)(k:∀x y z,p0 x y z->p1 x y z->q):q:=by
 obtain⟨x,y,z,h0,h1⟩:=h
 exact k x y z h0 h1
theorem wG {α β γ:Sort _}{p0 p1 p2:α->β->γ->Prop}{q:Prop}(h:∃x,∃y,∃z,p0 x y z/\p1 x y z/\p2 x y z)(k:∀x y z,p0 x y z->p1 x y z->p2 x y z->q):q:=by
 obtain⟨x,y,z,h0,h1,h2⟩:=h
 exact k x y z h0 h1 h2
theorem gB {α β γ:Sort _}{p0 p1 p2 p3:α->β->γ->Prop}{q:Prop}(h:∃x,∃y,∃z,p0 x y z/\p1 x y z/\p2 x y z/\p3 x y z)(k:∀x y z,p0 x y z->p1 x y z->p2 x y z->p3 x y z->q):q:=by
 obtain⟨x,y,z,h0,h1,h2,h3⟩:=h
 exact k x y z h0 h1 h2 h3
theorem D9 {α β γ:Sort _}{p0 p1 p2 p3 p4:α->β->γ->Prop}{q:Prop}(h:∃x,∃y,∃z,p0 x y z/\p1 x y z/\p2 x y z/\p3 x y z/\p4 x y z)(k:∀x y z,p0 x y z->p1 x y z->p2 x y z->p3 x y z->p4 x y z->q):q:=by
 obtain⟨x,y,z,h0,h1,h2,h3,h4⟩:=h
 exact k x y z h0 h1 h2 h3 h4
theorem GB {α β γ:Sort _}{p0 p1 p2 p3 p4 p5:α->β->γ->Prop}{q:Prop}(h:∃x,∃y,∃z,p0 x y z/\p1 x y z/\p2 x y z/\p3 x y z/\p4 x y z/\p5 x y z)(k:∀x y z,p0 x y z->p1 x y z->p2 x y z->p3 x y z->p4 x y z->p5 x y z->q):q:=by
 obtain⟨x,y,z,h0,h1,h2,h3,h4,h5⟩:=h
 exact k x y z h0 h1 h2 h3 h4 h5
theorem EN {α β γ:Sort _}{p0 p1 p2 p3 p4 p5 p6:α->β->γ->Prop}{q:Prop}(h:∃x,∃y,∃z,p0 x y z/\p1 x y z/\p2 x y z/\p3 x y z/\p4 x y z/\p5 x y z/\p6 x y z)(k:∀x y z,p0 x y z->p1 x y z->p2 x y z->p3 x y z->p4 x y z->p5 x y z->p6 x y z->q):q:=by
 obtain⟨x,y,z,h0,h1,h2,h3,h4,h5,h6⟩:=h
 exact k x y z h0 h1 h2 h3 h4 h5 h6
set_option maxRecDepth 100000
structure Cfg where
 prog:Kc
 w:Jx
 h₀:Ho
 os:JH
 mg:Str->Option y'
 mb:Str->Option y'
 tabs:List (He×He×Str)
noncomputable abbrev Cfg.aq (C:Cfg):List He:=C.tabs.map (·.2.1)
noncomputable abbrev Cfg.M (C:Cfg):Model:=model C.prog C.w
structure bN (h:Ho)(c P:He)(q:Str)(ps:Array y'):Prop where
 code:h.IsCode c P ps
 tab:h.TableAt c P ps
 recs:∀pos c',JK pos ps.toList=some c'->h.CodeRec c' q
theorem bN.keeps {h h':Ho}{c P:He}{q:Str}{ps:Array y'}(x:bN h c P q ps)(k:∀b o,h.get? b=some o->h'.get? b=some o):bN h' c P q ps:=
 ⟨x.code.keeps k,x.tab.keeps k,λpos c' e=>(x.recs pos c' e).keeps k⟩
theorem bN.lt {h:Ho}{c P:He}{q:Str}{ps:Array y'}(x:bN h c P q ps):c < h.objs.size/\P < h.objs.size:=x.code.lt
theorem bN.extBut {h h':Ho}{c P a:He}{q:Str}{ps:Array y'}(x:bN h c P q ps)(k:∀b o,b≠a->h.get? b=some o->h'.get? b=some o)(hc:c≠a)(hP:P≠a)(hr:∀o vs,h.get? a=some o->o.data= .fields vs->False):bN h' c P q ps:=
 ⟨x.code.extBut k hc hP,x.tab.extBut k hc hP,λpos c' e=>by
  obtain⟨c₂,o,vs,t,e1,e2,e3,e4⟩:=x.recs pos c' e
  exact⟨c₂,o,vs,t,e1,k _ _ (by rintro rfl;exact hr _ _ e2 e3) e2,e3,e4⟩⟩
structure ah (C:Cfg)(W:List He)(s J:Hh):Prop where
 keep:∀a o,a∉C.aq->a∉W->s.heap.get? a=some o->J.heap.get? a=some o
 size:s.heap.objs.size<=J.heap.objs.size
 tabs:∀t∈C.tabs,∀ps,bN s.heap t.1 t.2.1 t.2.2 ps->∃more,bN J.heap t.1 t.2.1 t.2.2 (ps ++ more)
 os:J.os=s.os
 gens:AllBare s.gens->AllBare J.gens
variable {C:Cfg}{W W':List He}{s P5 P6 J:Hh}
theorem ah.refl (s:Hh):ah C W s s:=⟨λ_ _ _ _ e=>e,Hk _,λt _ ps x=>⟨#[],(x)⟩,rfl,id⟩
theorem ah.trans (a:ah C W s P5)(b:ah C W P5 P6):ah C W s P6 where
 keep x o h1 h2 e:=b.keep x o h1 h2 (a.keep x o h1 h2 e)
 size:=Hf a.size b.size
 tabs t ht ps x:=by
  refine cA (a.tabs t ht ps x) λm y=> ?_
  obtain⟨m',z⟩:=b.tabs t ht _ y
  exact⟨m ++ m',by rwa [Lh] at z⟩
 os:=b.os.trans a.os
 gens h:=b.gens (a.gens h)
theorem ah.mono (a:ah C W s J)(h:∀x∈W,x∈W'):ah C W' s J:=⟨λx o h1 h2=>a.keep x o h1 λq=>h2 (h x q),a.size,a.tabs,a.os,a.gens⟩
theorem ah.up (a:ah C [] s J):ah C W s J:=a.mono (by simp)
theorem ah.of_keeps {h':Ho}{tk:Nat}(k:∀b o,s.heap.get? b=some o->h'.get? b=some o)(hz:s.heap.objs.size<=h'.objs.size):ah C W s {s with heap:=h',toks:=tk}:=
 ⟨λa o _ _ e=>k a o e,hz,λt _ ps x=>⟨#[],(x.keeps k)⟩,rfl,id⟩
theorem ah.tok (tk:Nat):ah C W s {s with toks:=tk}:=ah.of_keeps (λ_ _ e=>e) (Hk _)
theorem ah.push (o:Ib)(tk:Nat):ah C W s {s with heap:=s.heap.push o,toks:=tk}:=ah.of_keeps (λb o' e=>Hj _ e) (by simp)
structure Inv (C:Cfg)(s:Hh):Prop where
 sys:Js < C.h₀.objs.size
 old:∀a o,a∉C.aq->C.h₀.get? a=some o->s.heap.get? a=some o
 size:C.h₀.objs.size<=s.heap.objs.size
 tabs:∀t∈C.tabs,∃Qi more,C.h₀.TableAt t.1 t.2.1 Qi/\bN s.heap t.1 t.2.1 t.2.2 (Qi ++ more)
 os:s.os=C.os
 gens:AllBare s.gens
theorem Inv.aA (i:Inv C s)(x:ah C W s J)(hW:∀a∈W,C.h₀.get? a=none):Inv C J where
 sys:=i.sys
 old a o h e:=x.keep a o h (λq=>by replace e:=(hW a q)▸e;cases e) (i.old a o h e)
 size:=Hf i.size x.size
 tabs t ht:=by
  refine aL (i.tabs t ht) λps m y z=> ?_
  obtain⟨m',z'⟩:=x.tabs t ht _ z
  exact⟨ps,m ++ m',y,by rwa [Lh] at z'⟩
 os:=x.os.trans i.os
 gens:=x.gens i.gens
theorem Inv.jB (i:Inv C s)(x:ah C [] s J):Inv C J:=i.aA x (by simp)
theorem Inv.gm (i:Inv C s):∀a∈C.aq,a < s.heap.objs.size:=by
 intro a ha
 refine ae (Hd.mp ha) λt ht P8=> ?_;refine P8▸?_
 refine aL (i.tabs t ht) λ_ _ _ z=> ?_
 exact z.lt.2
theorem Inv.beyond {a:He}(i:Inv C s)(h:s.heap.objs.size<=a):C.h₀.get? a=none:=Ny (Hf i.size h)
theorem jm {h:Ho}{a:He}{W:List He}(h1:h.get? a=none)(h2:∀b∈W,h.get? b=none):∀b∈a::W,h.get? b=none:=λb hb=>by
 rcases Hc.mp hb with rfl |hb
 ·exact h1
 ·exact h2 b hb
theorem Inv.fZ (i:Inv C s):s.heap.objs.size≠Js:=λh=>HR _ (h▸Ht i.sys i.size)
theorem Inv.fresh (i:Inv C s):s.heap.objs.size∉C.aq:=λh=>HR _ (i.gm _ h)
theorem Inv.oldK (i:Inv C s):OldK C.h₀ s.heap:=by
 refine⟨λb o e=> ?_,λb o e=> ?_⟩
 ·by_cases h:b∈C.aq
  ·obtain⟨t,ht,rfl⟩:=Hd.mp h
   refine aL (i.tabs t ht) λps m y z=> ?_
   have:o={cls:= .none,data:= .fields ps}:=IF (e.symm.trans y.2)
   refine this▸?_
   exact .inr (.inl ⟨y.isCodeTable,rfl,ps,m,rfl,z.tab.2⟩)
  ·exact .inl (i.old b o h e)
 ·by_cases h:b∈C.aq
  ·obtain⟨t,ht,rfl⟩:=Hd.mp h
   refine aL (i.tabs t ht) λps m y z=> ?_
   exact⟨_,z.tab.2⟩
  ·exact⟨o,i.old b o h e⟩
inductive PV where
 |none
 |bool (b:Bool)
 |int (i:Int)
 |str (s:Str)
 |tup (xs:List PV)
 |lst (xs:List PV)
 |au (es:List (Str×PV))
 |raw (v:y')
 |obj (o:Ib)
 |inst (c:He) (es:List (Str×PV))
 deriving Inhabited
noncomputable def ao (vs:List y') (n:Nat):Ib:={cls:= .type "list",data:= .seq vs.toArray n}
noncomputable def dZ (vs:List y'):Ib:={cls:= .type "tuple",data:= .seq vs.toArray}
noncomputable def BM (c d:He):Ib:={cls:= .ref c,dict:=some d,data:= .plain}
noncomputable def bj (es:List Hs) (n:Nat):Ib:={cls:= .type "dict",data:= .dict es.toArray n}
mutual
noncomputable def Rp (P:He->List Hs->List (Str×y')->Prop) (N:He->Prop) (h:Ho) (v:y'):PV->Prop
 | .none=>v= .none
 | .bool b=>v= .bool b
 | .int i=>∃t,v= .int i t
 | .str x=>∃t,v= .str x t
 | .tup xs=>∃a vs,v= .ref a/\¬N a/\h.get? a=some (dZ vs)/\aR P N h vs xs
 | .lst xs=>∃a vs n,v= .ref a/\¬N a/\h.get? a=some (ao vs n)/\aR P N h vs xs
 | .au es=>∃a ds n kvs,v= .ref a/\¬N a/\h.get? a=some (bj ds n)/\P a ds kvs/\bC P N h kvs es
 | .raw u=>v=u
 | .obj _=>False
 | .inst c es=>∃a d ds n kvs,v= .ref a/\¬N a/\¬N d/\h.get? a=some (BM c d)/\h.get? d=some (bj ds n)/\P d ds kvs/\bC P N h kvs es
noncomputable def aR (P:He->List Hs->List (Str×y')->Prop) (N:He->Prop) (h:Ho):List y'->List PV->Prop
 |vs,[]=>vs=[]
 |vs,p::ps=>∃v r,vs=v::r/\Rp P N h v p/\aR P N h r ps
noncomputable def bC (P:He->List Hs->List (Str×y')->Prop) (N:He->Prop) (h:Ho):List (Str×y')->List (Str×PV)->Prop
 |ds,[]=>ds=[]
 |ds,(k,p)::ps=>∃v r,ds=(k,v)::r/\Rp P N h v p/\bC P N h r ps
end
def Ib.bq (o:Ib):Prop:=∀v,o.data≠.cell v
theorem PV.ind {M:PV->Prop}{ML:List PV->Prop}{MD:List (Str×PV)->Prop}(h0:M .none)(hb:∀b,M (.bool b))(hi:∀i,M (.int i))(hs:∀x,M (.str x))(ht:∀xs,ML xs->M (.tup xs))(hl:∀xs,ML xs->M (.lst xs))(hd:∀es,MD es->M (.au es))(hr:∀v,M (.raw v))(ho:∀o,M (.obj o))(hn:∀c es,MD es->M (.inst c es))
 (ln:ML [])(lc:∀p ps,M p->ML ps->ML (p::ps))(dn:MD [])(dc:∀x p ps,M p->MD ps->MD ((x,p)::ps)):(∀p,M p)/\(∀l,ML l)/\∀d,MD d:=
 have h:∀p,M p:=λp=>PV.rec (motive_1:=M) (motive_2:=ML) (motive_3:=MD) (motive_4:=λe=>M e.2) h0 hb hi hs ht hl hd hr ho hn ln lc dn (λe=>dc e.1 e.2) (λ_ _ h=>h) p
 ⟨h,λl=>l.rec ln λp ps=>lc p ps (h p),λd=>d.rec dn λe ps=>dc e.1 e.2 ps (h e.2)⟩
theorem Rp.yi {P:He->List Hs->List (Str×y')->Prop}{N N':He->Prop}{h h':Ho}(k:∀a o,¬N a->h.get? a=some o->Ib.bq o->¬N' a/\h'.get? a=some o):
 (∀p v,Rp P N h v p->Rp P N' h' v p)/\(∀ps vs,aR P N h vs ps->aR P N' h' vs ps)/\∀ps ds,bC P N h ds ps->bC P N' h' ds ps:=
 PV.ind (λ_ x=>x) (λ_ _ x=>x) (λ_ _ x=>x) (λ_ _ x=>x)
  (λ_ q _ x=>ib x λa vs e n g r=>have y:=k a _ n g λ_=>nofun;⟨a,vs,e,y.1,y.2,q _ r⟩)
  (λ_ q _ x=>gB x λa vs m e n g r=>have y:=k a _ n g λ_=>nofun;⟨a,vs,m,e,y.1,y.2,q _ r⟩)
  (λ_ q _ x=>cA x λa x=>D9 x λds m kvs e n g sd r=>have y:=k a _ n g λ_=>nofun;⟨a,ds,m,kvs,e,y.1,y.2,sd,q _ r⟩)
  (λ_ _ x=>x) (λ_ _ x=>x)
  (λ_ _ q _ x=>fB x λa d x=>EN x λds m kvs e n n' g g' sd r=>have y:=k a _ n g λ_=>nofun;have z:=k d _ n' g' λ_=>nofun;⟨a,d,ds,m,kvs,e,y.1,z.1,y.2,z.2,sd,q _ r⟩)
  (λ_ x=>x) (λ_ _ q1 q2 _ x=>bo x λv r e x y=>⟨v,r,e,q1 _ x,q2 _ y⟩)
  (λ_ x=>x) (λ_ _ _ q1 q2 _ x=>bo x λv r e x y=>⟨v,r,e,q1 _ x,q2 _ y⟩)
theorem Rp.eY {P:He->List Hs->List (Str×y')->Prop}{N N':He->Prop}{h h':Ho}(k:∀a o,¬N a->h.get? a=some o->Ib.bq o->¬N' a/\h'.get? a=some o){p:PV}{v:y'}:Rp P N h v p->Rp P N' h' v p:=(Rp.yi k).1 p v
theorem aR.eY {P:He->List Hs->List (Str×y')->Prop}{N N':He->Prop}{h h':Ho}(k:∀a o,¬N a->h.get? a=some o->Ib.bq o->¬N' a/\h'.get? a=some o){ps:List PV}{vs:List y'}:aR P N h vs ps->aR P N' h' vs ps:=(Rp.yi k).2.1 ps vs
theorem bC.eY {P:He->List Hs->List (Str×y')->Prop}{N N':He->Prop}{h h':Ho}(k:∀a o,¬N a->h.get? a=some o->Ib.bq o->¬N' a/\h'.get? a=some o){ps:List (Str×PV)}{ds:List (Str×y')}:bC P N h ds ps->bC P N' h' ds ps:=(Rp.yi k).2.2 ps ds
theorem Rp.mono {P:He->List Hs->List (Str×y')->Prop}{N N':He->Prop}{h h':Ho}(k:∀a o,¬N a->h.get? a=some o->¬N' a/\h'.get? a=some o){p:PV}{v:y'}(x:Rp P N h v p):Rp P N' h' v p:=Rp.eY (λa o n g _=>k a o n g) x
theorem aR.mono {P:He->List Hs->List (Str×y')->Prop}{N N':He->Prop}{h h':Ho}(k:∀a o,¬N a->h.get? a=some o->¬N' a/\h'.get? a=some o){p:List PV}{v:List y'}(x:aR P N h v p):aR P N' h' v p:=aR.eY (λa o n g _=>k a o n g) x
theorem bC.mono {P:He->List Hs->List (Str×y')->Prop}{N N':He->Prop}{h h':Ho}(k:∀a o,¬N a->h.get? a=some o->¬N' a/\h'.get? a=some o){p:List (Str×PV)}{v:List (Str×y')}(x:bC P N h v p):bC P N' h' v p:=bC.eY (λa o n g _=>k a o n g) x
theorem aR.length {P:He->List Hs->List (Str×y')->Prop}{N:He->Prop}{h:Ho}:∀{ps:List PV}{vs:List y'},aR P N h vs ps->vs.length=ps.length
 |[],_,x=>by rw [show _=([]:List y') from x];rfl
 |p::ps,_,⟨v,r,e,x,y⟩=>by simp only [e,HK,aR.length y]
theorem aR.get {P:He->List Hs->List (Str×y')->Prop}{N:He->Prop}{h:Ho}:∀{ps:List PV}{vs:List y'},aR P N h vs ps->∀{i:Nat}{p:PV},ps[i]? =some p->∃v,vs[i]? =some v/\Rp P N h v p
 |[],_,x,i,p,e=>by simp at e
 |q::ps,_,⟨v,r,e,x,y⟩,0,p,e'=>by
  have:q=p:=by simpa using e'
  refine this▸?_
  exact⟨v,by rw [e];rfl,x⟩
 |q::ps,_,⟨v,r,e,x,y⟩,i+1,p,e'=>by
  refine ae (aR.get y (i:=i) (p:=p) ((e'))) λu e1 e2=> ?_
  exact⟨u,by rw [e];exact e1,e2⟩
theorem aR.append {P:He->List Hs->List (Str×y')->Prop}{N:He->Prop}{h:Ho}:∀{ps qs:List PV}{vs us:List y'},aR P N h vs ps->aR P N h us qs->aR P N h (vs ++ us) (ps ++ qs)
 |[],qs,vs,us,x,y=>by rw [show vs=[] from x];exact y
 |p::ps,qs,_,us,⟨v,r,e,x,z⟩,y=>by rw [e];exact⟨v,r ++ us,rfl,x,aR.append z y⟩
noncomputable abbrev Own:=List (He×PV)
noncomputable abbrev Cfg.N (C:Cfg) (W:List He):He->Prop:=λa=>a∈C.aq\/a∈W
def Cfg.S (C:Cfg)(a:He)(ds:List Hs)(kvs:List (Str×y')):Prop:=a≠Js/\KeysOf (strKind C.prog C.w) ds.toArray/\Pairs (strKind C.prog C.w) ds kvs/\(kvs.map (·.1)).Nodup
abbrev Rr (C:Cfg)(W:List He)(h:Ho)(v:y')(p:PV):Prop:=Rp C.S (C.N W) h v p
abbrev fe (C:Cfg)(W:List He)(h:Ho)(v:List y')(p:List PV):Prop:=aR C.S (C.N W) h v p
noncomputable def dO (C:Cfg) (W:List He) (h:Ho) (a:He):PV->Prop
 | .lst xs=>∃vs n,h.get? a=some (ao vs n)/\fe C W h vs xs
 | .au es=>∃ds n kvs,h.get? a=some (bj ds n)/\C.S a ds kvs/\bC C.S (C.N W) h kvs es
 | .obj o=>h.get? a=some o/\Ib.bq o
 |_=>False
theorem ah.k (x:ah C W s J):∀a o,¬C.N W a->s.heap.get? a=some o->¬C.N W a/\J.heap.get? a=some o:=λa o n e=>⟨n,x.keep a o (λq=>n (.inl q)) (λq=>n (.inr q)) e⟩
theorem ah.rr {v:y'}{p:PV}(x:ah C W s J)(h:Rr C W s.heap v p):Rr C W J.heap v p:=Rp.mono x.k h
theorem ah.DU {v:List y'}{p:List PV}(x:ah C W s J)(h:fe C W s.heap v p):fe C W J.heap v p:=aR.mono x.k h
theorem ah.pC {v:y'}{p:PV}(x:ah C [] s J)(h:Rr C W s.heap v p):Rr C W J.heap v p:=x.up.rr h
theorem ah.jA {v:List y'}{p:List PV}(x:ah C [] s J)(h:fe C W s.heap v p):fe C W J.heap v p:=x.up.DU h
structure Sc where
 scope:Scope
 qual:Str
 code:y'
structure Bf (sc:Sc)(env:Mm):Prop where
 scope:env.scope=sc.scope
 globals:env.globals=Kq
 builtins:env.builtins=KN
 qual:env.qual=sc.qual
 code:env.code=sc.code
 kind:sc.scope.kind= .function
structure St (C:Cfg)(W:List He)(sc:Sc)(own:Own)(ρ:Str->Option PV)(env:Mm)(s:Hh):Prop where
 inv:Inv C s
 ok:Bf sc env
 low:∀a∈W,a < s.heap.objs.size
 owns:∀x∈own,x.1∈W/\dO C W s.heap x.1 x.2/\x.1∉C.aq
 loc:∃m,s.heap.Ns env.locals m/\∀x p,sc.scope.names.lookup x=some .local->ρ x=some p->∃v,m x=some v/\Rr C W s.heap v p
 cel:∀x,(sc.scope.names.lookup x=some .cell\/sc.scope.names.lookup x=some .free)->∃c cv,env.cells.lookup x=some c/\s.heap.IsCell c cv/\∀p,ρ x=some p->∃v,cv=some v/\Rr C W s.heap v p
 apart:env.cells.Pairwise λx y=>x.2≠y.2
 noLoc:env.locals∈W/\env.locals∉C.aq
 ownLoc:∀x∈own,x.1≠env.locals
 new:∀a∈W,C.h₀.get? a=none
 celW:∀x,(sc.scope.names.lookup x=some .cell\/sc.scope.names.lookup x=some .free)->∀c,env.cells.lookup x=some c->c∉W
structure ak (A:JR)(k:Nat):Prop where
 handled:A.handled=none
 depth:A.depth+k < 900
 units:A.units+10*k < 9000
theorem ak.mono {A:JR}{k k':Nat}(h:ak A k)(le:k'<=k):ak A k':=⟨h.handled,by have:=h.depth;lia,by have:=h.units;lia⟩
theorem ak.deeper {A:JR}{k:Nat}(h:ak A (k+1))(env:Mm):ak (A.deeper env) k:=⟨h.handled,by have:=h.depth;show A.depth+1+k < 900;lia,by have:=h.units;show A.units+3+10*k < 9000;lia⟩
theorem ak.in1 {A:JR}{k:Nat}(h:ak A (k+1)):ak A.in1 k:=⟨h.handled,by have:=h.depth;show A.depth+k < 900;exact N5 (by assumption),by have:=h.units;lia⟩
abbrev Gives (C:Cfg)(W:List He)(A:JR)(m:Jj y')(p:PV)(s:Hh):Prop:=
 Hi C.M A m (λv J=>ah C [] s J/\Rr C W J.heap v p) (λ_ _=>False) s
variable {sc:Sc}{own:Own}{ρ Qa:Str->Option PV}{env:Mm}{A:JR}{k:Nat}
theorem St.aA (x:St C W sc own ρ env s)(e:ah C [] s J):St C W sc own ρ env J where
 inv:=x.inv.jB e
 ok:=x.ok
 low a ha:=Ht (x.low a ha) e.size
 owns y hy:=by
  refine cZ (x.owns y hy) λh0 h h2=> ?_
  refine⟨h0,?_,h2⟩
  obtain⟨a,p⟩:=y
  cases p with
  |lst xs=>refine aL h λvs n g r=> ?_;exact⟨vs,n,e.keep _ _ h2 (by simp) g,e.jA r⟩
  |au xs=>refine wG h λvs n kvs g sd r=> ?_;exact⟨vs,n,kvs,e.keep _ _ h2 (by simp) g,sd,bC.mono e.up.k r⟩
  |obj o=>exact⟨e.keep _ _ h2 (by simp) h.1,h.2⟩
  |_=>exact h.elim
 loc:=by
  refine ae x.loc λm h r=> ?_
  refine⟨m,?_,λy p h1 h2=> ?_⟩
  ·refine lO h λo es ep g rest=> ?_
   exact⟨o,es,ep,e.keep _ _ x.noLoc.2 (by simp) g,rest⟩
  ·refine ae (r y p h1 h2) λv h3 h4=> ?_
   exact⟨v,h3,e.pC h4⟩
 cel y hy:=by
  refine bo (x.cel y hy) λc cv h1 h2 h3=> ?_
  refine⟨c,cv,h1,?_,λp hp=> ?_⟩
  ·refine ae h2 λo g d=> ?_
   refine⟨o,e.keep _ _ (λq=> ?_) (by simp) g,d⟩
   refine ae (Hd.mp q) λt ht P8=> ?_;subst P8
   refine aL (x.inv.tabs t ht) λ_ _ _ z=> ?_
   have:=z.tab.2
   rw [g] at this
   injection this with this
   replace d:=this▸d
   cases d
  ·refine ae (h3 p hp) λv h4 h5=> ?_
   exact⟨v,h4,e.pC h5⟩
 apart:=x.apart
 noLoc:=x.noLoc
 ownLoc:=x.ownLoc
 new:=x.new
 celW:=x.celW
theorem St.weaken (x:St C W sc own ρ env s)(h:∀y p,Qa y=some p->ρ y=some p):St C W sc own Qa env s where
 inv:=x.inv
 ok:=x.ok
 low:=x.low
 owns:=x.owns
 loc:=by refine ae x.loc λm a b=> ?_;exact⟨m,a,λy p h1 h2=>b y p h1 (h y p h2)⟩
 cel y hy:=by refine bo (x.cel y hy) λc cv h1 h2 h3=> ?_;exact⟨c,cv,h1,h2,λp hp=>h3 p (h y p hp)⟩
 apart:=x.apart
 noLoc:=x.noLoc
 ownLoc:=x.ownLoc
 new:=x.new
 celW:=x.celW
def Ev (C:Cfg)(k:Nat)(sc:Sc)(own:Own)(ρ:Str->Option PV)(e:Expr)(p:PV):Prop:=
 ∀W A env s,ak A k->St C W sc own ρ env s->Gives C W A (IQ e env) p s
def Tr (C:Cfg)(k:Nat)(sc:Sc)(own:Own)(ρ:Str->Option PV)(e:Expr)(b:Bool):Prop:=
 ∀W A env s,ak A k->St C W sc own ρ env s->Hi C.M A (isTrue e env (IQ e env)) (λv J=>ah C [] s J/\v=b) (λ_ _=>False) s
variable {pos:Jm}
theorem Ev.int {i:Int}{n:Nat}:Ev C k sc own ρ (.Constant (.int i) n pos) (.int i):=λW A env s r x=>
 wpAny_Constant_int ⟨ah.tok _,_,rfl⟩
theorem Ev.str {i:Str}{n:Nat}:Ev C k sc own ρ (.Constant (.str i) n pos) (.str i):=λW A env s r x=>
 wpAny_Constant_str ⟨ah.tok _,_,rfl⟩
theorem Ev.bool {i:Bool}{n:Nat}:Ev C k sc own ρ (.Constant (.bool i) n pos) (.bool i):=λW A env s r x=>
 wpAny_Constant_bool ⟨ah.refl _,rfl⟩
theorem Ev.none {n:Nat}:Ev C k sc own ρ (.Constant .none n pos) .none:=λW A env s r x=>
 wpAny_Constant_none ⟨ah.refl _,rfl⟩
noncomputable def F2 (names:List (Str×IS)) (x:Str):Bool:=(match names.lookup x with
 |some .local=>true
 |some .cell=>true
 |some .free=> !(x==("__classdict__":Str))
 |_=>false) && !(x==("__debug__":Str))
theorem Ev.local {x:Str}{p:PV}(hl:sc.scope.names.lookup x=some .local)(hp:ρ x=some p)(hd:(x==("__debug__":Str))=false):Ev C k sc own ρ (.Name x pos) p:=λW A env s r X=>by
 refine ae X.loc λm h1 h2=> ?_
 refine ae (h2 x p hl hp) λv h3 h4=> ?_
 exact M8 (KO (by rw [X.ok.scope];exact X.ok.kind) (by unfold J7;rw [X.ok.scope];exact hl) h1 h3 ⟨ah.refl _,h4⟩) hd
theorem Ev.cell {x:Str}{p:PV}(hl:sc.scope.names.lookup x=some .cell)(hp:ρ x=some p)(hd:(x==("__debug__":Str))=false):Ev C k sc own ρ (.Name x pos) p:=λW A env s r X=>by
 refine bo (X.cel x (.inl hl)) λc cv h1 h2 h3=> ?_
 refine ae (h3 p hp) λv Qq h4=> ?_;subst Qq
 exact M8 (wpAny_loadName_cell (by rw [X.ok.scope];exact X.ok.kind) (by unfold J7;rw [X.ok.scope];exact hl) h1 h2 ⟨ah.refl _,h4⟩) hd
theorem Ev.free {x:Str}{p:PV}(hl:sc.scope.names.lookup x=some .free)(hp:ρ x=some p)(hd:(x==("__debug__":Str))=false)(hn:(x==("__classdict__":Str))=false):Ev C k sc own ρ (.Name x pos) p:=λW A env s r X=>by
 refine bo (X.cel x (.inr hl)) λc cv h1 h2 h3=> ?_
 refine ae (h3 p hp) λv Qq h4=> ?_;subst Qq
 exact M8 (wpAny_loadName_free (by rw [X.ok.scope];exact X.ok.kind) (by unfold J7;rw [X.ok.scope];exact hl) h1 h2 ⟨ah.refl _,h4⟩ hn) hd
theorem Ev.var {x:Str}{p:PV}(h:F2 sc.scope.names x=true)(hp:ρ x=some p):Ev C k sc own ρ (.Name x pos) p:=by
 refine c7 (JX.mp h) λh1 h2=> ?_
 simp only [JY] at h2
 cases hl:sc.scope.names.lookup x with
 |none=>replace h1:=hl▸h1;cases h1
 |some kd=>
  rw [hl] at h1
  cases kd with
  |«local»=>exact Ev.local hl hp h2
  |cell=>exact Ev.cell hl hp h2
  |free=>exact Ev.free hl hp h2 (JY _▸h1)
  |_=>cases h1
structure Gd (C:Cfg)(W:List He)(s:Hh):Prop where
 inv:Inv C s
 low:∀a,C.N W a->a < s.heap.objs.size
 new:∀a∈W,C.h₀.get? a=none
theorem Gd.aA (g:Gd C W s)(e:ah C [] s J):Gd C W J:=⟨g.inv.jB e,λa h=>Ht (g.low a h) e.size,g.new⟩
theorem Gd.fresh (g:Gd C W s):¬C.N W s.heap.objs.size:=λh=>HR _ (g.low _ h)
theorem St.gd (x:St C W sc own ρ env s):Gd C W s:=⟨x.inv,λa h=>by
 rcases h with h |h
 ·exact x.inv.gm a h
 ·exact x.low a h,x.new⟩
abbrev aj (C:Cfg)(m:y'->y'->Jj y')(p q r:PV):Prop:=
 ∀W A s v u,ak A 0->Gd C W s->Rr C W s.heap v p->Rr C W s.heap u q->Gives C W A (m v u) r s
abbrev One (C:Cfg)(m:y'->Jj y')(p r:PV):Prop:=
 ∀W A s v,ak A 0->Gd C W s->Rr C W s.heap v p->Gives C W A (m v) r s
theorem ak.zero (h:ak A k):ak A 0:=h.mono (H7 _)
theorem Ev.two {e e':Expr}{p q r:PV}(h1:Ev C k sc own ρ e p)(h2:Ev C k sc own ρ e' q){m:y'->y'->Jj y'}(hm:aj C m p q r)(rm:ak A k)(x:St C W sc own ρ env s):
 Hi C.M A (IQ e env) (λa P5=>Hi C.M A (IQ e' env) (λb P6=>Hi C.M A (m a b) (λv J=>ah C [] s J/\Rr C W J.heap v r) (λ_ _=>False) P6) (λ_ _=>False) P5) (λ_ _=>False) s:=by
 refine G' (h1 _ A env s rm x) ?_ (λ_ _ h=>h)
 rintro v s1 ⟨e1,r1⟩
 refine G' (h2 _ A env s1 rm (x.aA e1)) ?_ (λ_ _ h=>h)
 rintro u s2 ⟨e2,r2⟩
 refine G' (hm _ A s2 v u rm.zero (x.aA (e1.trans e2)).gd (e2.pC r1) r2) ?_ (λ_ _ h=>h)
 rintro w s3 ⟨e3,r3⟩
 exact⟨(e1.trans e2).trans e3,r3⟩
theorem Ev.bin {l r:Expr}{op:Operator}{p q t:PV}(h1:Ev C k sc own ρ l p)(h2:Ev C k sc own ρ r q)(hm:aj C (Kx op) p q t):Ev C k sc own ρ (.BinOp l op r pos) t:=λW A env s rm x=>
 PA (Ev.two h1 h2 hm rm x)
theorem Ev.cmp {l r:Expr}{op:CmpOp}{p q t:PV}(h1:Ev C k sc own ρ l p)(h2:Ev C k sc own ρ r q)(hm:aj C (HZ op) p q t)(hb:behindInMarks op r=false):Ev C k sc own ρ (.Compare l [op] [r] pos) t:=λW A env s rm x=>
 wpAny_Compare1 (Ev.two h1 h2 hm rm x) hb
theorem Ev.un {e:Expr}{op:UnaryOp}{p t:PV}(h1:Ev C k sc own ρ e p)(hm:One C (unaryOp op) p t):Ev C k sc own ρ (.UnaryOp op e pos) t:=λW A env s rm x=>by
 refine wpAny_UnaryOp (G' (h1 _ A env s rm x) ?_ (λ_ _ h=>h))
 rintro v s1 ⟨e1,r1⟩
 refine G' (hm _ A s1 v rm.zero (x.aA e1).gd r1) ?_ (λ_ _ h=>h)
 rintro w s3 ⟨e3,r3⟩
 exact⟨e1.trans e3,r3⟩
theorem aj.add {a b:Int}:aj C (Kx .Add) (.int a) (.int b) (.int (a+b)):=λW A s v u _ g h1 h2=>by
 obtain⟨t,rfl⟩:=h1;obtain⟨t',rfl⟩:=h2
 exact O9 ⟨ah.tok _,_,rfl⟩
theorem aj.sub {a b:Int}:aj C (Kx .Sub) (.int a) (.int b) (.int (a - b)):=λW A s v u _ g h1 h2=>by
 obtain⟨t,rfl⟩:=h1;obtain⟨t',rfl⟩:=h2
 exact sub_int ⟨ah.tok _,_,rfl⟩
theorem aj.mul {a b:Int}(hm:IntMulOk a b):aj C (Kx .Mult) (.int a) (.int b) (.int (a*b)):=λW A s v u _ g h1 h2=>by
 obtain⟨t,rfl⟩:=h1;obtain⟨t',rfl⟩:=h2
 exact mul_int ⟨ah.tok _,_,rfl⟩ hm
theorem aj.mod {a b:Int}(hb:b≠0):aj C (Kx .Mod) (.int a) (.int b) (.int (a.fmod b)):=λW A s v u _ g h1 h2=>by
 obtain⟨t,rfl⟩:=h1;obtain⟨t',rfl⟩:=h2
 exact mod_int' hb ⟨ah.tok _,_,rfl⟩
theorem aj.floordiv {a b:Int}(hb:b≠0)(hp:H8.divisionGoesByPylong a b=false):aj C (Kx .FloorDiv) (.int a) (.int b) (.int (a.fdiv b)):=λW A s v u _ g h1 h2=>by
 obtain⟨t,rfl⟩:=h1;obtain⟨t',rfl⟩:=h2
 exact floordiv_int hb ⟨ah.tok _,_,rfl⟩ (.inl hp)
theorem One.neg {a:Int}:One C (unaryOp .USub) (.int a) (.int (-a)):=λW A s v _ g h1=>by
 obtain⟨t,rfl⟩:=h1
 exact neg_int ⟨ah.tok _,_,rfl⟩
theorem aj.ltI {a b:Int}:aj C (HZ .Lt) (.int a) (.int b) (.bool (decide (a < b))):=λW A s v u _ g h1 h2=>by
 obtain⟨t,rfl⟩:=h1;obtain⟨t',rfl⟩:=h2
 exact Ph ⟨ah.refl _,rfl⟩
theorem aj.E9 {a b:Int}:aj C (HZ .Gt) (.int a) (.int b) (.bool (decide (b < a))):=λW A s v u _ g h1 h2=>by
 obtain⟨t,rfl⟩:=h1;obtain⟨t',rfl⟩:=h2
 exact gt_int ⟨ah.refl _,rfl⟩
theorem aj.DO {a b:Int}:aj C (HZ .Eq) (.int a) (.int b) (.bool (a==b)):=λW A s v u _ g h1 h2=>by
 obtain⟨t,rfl⟩:=h1;obtain⟨t',rfl⟩:=h2
 exact eq_int ⟨ah.refl _,rfl⟩
theorem aj.Ba {a b:Int}:aj C (HZ .NotEq) (.int a) (.int b) (.bool (a !=b)):=λW A s v u _ g h1 h2=>by
 obtain⟨t,rfl⟩:=h1;obtain⟨t',rfl⟩:=h2
 exact ne_int ⟨ah.refl _,rfl⟩
def LstAt (C:Cfg)(W:List He)(h:Ho)(v:y')(xs:List PV):Prop:=∃a vs n,v= .ref a/\a∉C.aq/\h.get? a=some (ao vs n)/\fe C W h vs xs
def TupAt (C:Cfg)(W:List He)(h:Ho)(v:y')(xs:List PV):Prop:=∃a vs,v= .ref a/\a∉C.aq/\h.get? a=some (dZ vs)/\fe C W h vs xs
def pE (C:Cfg)(W:List He)(h:Ho)(v:y')(es:List (Str×PV)):Prop:=∃a ds n kvs,v= .ref a/\a∉C.aq/\h.get? a=some (bj ds n)/\C.S a ds kvs/\bC C.S (C.N W) h kvs es
theorem LstAt.of {h:Ho}{v:y'}{xs:List PV}(x:Rr C W h v (.lst xs)):LstAt C W h v xs:=by refine gB x λa vs n e f g r=> ?_;exact⟨a,vs,n,e,λq=>f (.inl q),g,r⟩
theorem TupAt.of {h:Ho}{v:y'}{xs:List PV}(x:Rr C W h v (.tup xs)):TupAt C W h v xs:=by refine ib x λa vs e f g r=> ?_;exact⟨a,vs,e,λq=>f (.inl q),g,r⟩
theorem pE.of {h:Ho}{v:y'}{xs:List (Str×PV)}(x:Rr C W h v (.au xs)):pE C W h v xs:=by obtain⟨a,vs,n,kvs,e,f,g,sd,r⟩:=x;exact⟨a,vs,n,kvs,e,λq=>f (.inl q),g,sd,r⟩
theorem ah.lst {v:y'}{xs:List PV}(e:ah C [] s J)(x:LstAt C W s.heap v xs):LstAt C W J.heap v xs:=by refine gB x λa vs n q f g r=> ?_;exact⟨a,vs,n,q,f,e.keep _ _ f (by simp) g,e.jA r⟩
theorem ah.tup {v:y'}{xs:List PV}(e:ah C [] s J)(x:TupAt C W s.heap v xs):TupAt C W J.heap v xs:=by refine ib x λa vs q f g r=> ?_;exact⟨a,vs,q,f,e.keep _ _ f (by simp) g,e.jA r⟩
theorem ah.au {v:y'}{xs:List (Str×PV)}(e:ah C [] s J)(x:pE C W s.heap v xs):pE C W J.heap v xs:=by obtain⟨a,vs,n,kvs,q,f,g,sd,r⟩:=x;exact⟨a,vs,n,kvs,q,f,e.keep _ _ f (by simp) g,sd,bC.mono e.up.k r⟩
def D6 (C:Cfg)(k:Nat)(sc:Sc)(own:Own)(ρ:Str->Option PV)(e:Expr)(xs:List PV):Prop:=
 ∀W A env s,ak A k->St C W sc own ρ env s->Hi C.M A (IQ e env) (λv J=>ah C [] s J/\LstAt C W J.heap v xs) (λ_ _=>False) s
def Fj (C:Cfg)(k:Nat)(sc:Sc)(own:Own)(ρ:Str->Option PV)(e:Expr)(xs:List PV):Prop:=
 ∀W A env s,ak A k->St C W sc own ρ env s->Hi C.M A (IQ e env) (λv J=>ah C [] s J/\TupAt C W J.heap v xs) (λ_ _=>False) s
def FA (C:Cfg)(k:Nat)(sc:Sc)(own:Own)(ρ:Str->Option PV)(e:Expr)(xs:List (Str×PV)):Prop:=
 ∀W A env s,ak A k->St C W sc own ρ env s->Hi C.M A (IQ e env) (λv J=>ah C [] s J/\pE C W J.heap v xs) (λ_ _=>False) s
theorem Ev.l {e:Expr}{xs:List PV}(h:Ev C k sc own ρ e (.lst xs)):D6 C k sc own ρ e xs:=λW A env s r x=>G' (h _ A env s r x) (λ_ _ q=>⟨q.1,.of q.2⟩) λ_ _ q=>q
theorem Ev.t {e:Expr}{xs:List PV}(h:Ev C k sc own ρ e (.tup xs)):Fj C k sc own ρ e xs:=λW A env s r x=>G' (h _ A env s r x) (λ_ _ q=>⟨q.1,.of q.2⟩) λ_ _ q=>q
theorem Ev.d {e:Expr}{xs:List (Str×PV)}(h:Ev C k sc own ρ e (.au xs)):FA C k sc own ρ e xs:=λW A env s r x=>G' (h _ A env s r x) (λ_ _ q=>⟨q.1,.of q.2⟩) λ_ _ q=>q
theorem Ev.lo {e:Expr}{a:He}{xs:List PV}(h:Ev C k sc own ρ e (.raw (.ref a)))(ho:(a,PV.lst xs)∈own):D6 C k sc own ρ e xs:=λW A env s r x=>
 G' (h _ A env s r x) (λv J q=>by
  refine⟨q.1,?_⟩
  refine cZ ((x.aA q.1).owns _ ho) λ_ z3 f=> ?_;refine aL z3 λvs n g r=> ?_
  exact⟨a,vs,n,q.2,f,g,r⟩) λ_ _ q=>q
theorem Ev.do {e:Expr}{a:He}{xs:List (Str×PV)}(h:Ev C k sc own ρ e (.raw (.ref a)))(ho:(a,PV.au xs)∈own):FA C k sc own ρ e xs:=λW A env s r x=>
 G' (h _ A env s r x) (λv J q=>by
  refine⟨q.1,?_⟩
  obtain⟨_,⟨vs,n,kvs,g,sd,r⟩,f⟩:=(x.aA q.1).owns _ ho
  exact⟨a,vs,n,kvs,q.2,f,g,sd,r⟩) λ_ _ q=>q
theorem aQ {h:Ho}{a:He}{vs:List y'}{n:Nat}(g:h.get? a=some (ao vs n)):h.IsList a vs.toArray:=⟨_,g,rfl,n,rfl⟩
theorem nT {h:Ho}{a:He}{vs:List y'}(g:h.get? a=some (dZ vs)):IsTup h a vs.toArray:=by exact⟨_,g,rfl,0,rfl⟩
theorem Ev.item {v i:Expr}{xs:List PV}{j:Int}{n:Nat}{p:PV}(h1:D6 C k sc own ρ v xs)(h2:Ev C k sc own ρ i (.int j))(hn:j=(n:Int))(hp:xs[n]? =some p)(hz:n < 2 ^ 62)
 (hs:∀o i',KP i false o i'=operate [o,i'] (getItem o i')):Ev C k sc own ρ (.Subscript v i pos) p:=λW A env s rm x=>by
 refine LK (G' (h1 _ A env s rm x) ?_ λ_ _ q=>q)
 rintro o s1 ⟨e1,l1⟩
 refine G' (h2 _ A env s1 rm (x.aA e1)) ?_ λ_ _ q=>q
 rintro iv s2 ⟨e2,t,rfl⟩
 refine gB (e2.lst l1) λa vs m QI f g r=> ?_;rw [QI]
 refine ae (aR.get r hp) λu hu ru=> ?_
 exact PB (aQ g).typeIs N6.lookup (NX (aQ g) (by simp_all) (by lia) (by simp_all) ⟨e1.trans e2,ru⟩) (hs _ _)
theorem Ev.b9 {v i:Expr}{xs:List PV}{j:Int}{n:Nat}{p:PV}(h1:Fj C k sc own ρ v xs)(h2:Ev C k sc own ρ i (.int j))(hn:j=(n:Int))(hp:xs[n]? =some p)(hz:n < 2 ^ 62)
 (hs:∀o i',KP i false o i'=operate [o,i'] (getItem o i')):Ev C k sc own ρ (.Subscript v i pos) p:=λW A env s rm x=>by
 refine LK (G' (h1 _ A env s rm x) ?_ λ_ _ q=>q)
 rintro o s1 ⟨e1,l1⟩
 refine G' (h2 _ A env s1 rm (x.aA e1)) ?_ λ_ _ q=>q
 rintro iv s2 ⟨e2,t,rfl⟩
 refine ib (e2.tup l1) λa vs P8 f g r=> ?_;refine P8▸?_
 refine ae (aR.get r hp) λu hu ru=> ?_
 have Qc:n < vs.length:=by
  have:=HD.mp hu
  exact this.1
 refine item_tupleT (j:=n) (l:=vs) (nT g) (by simp_all) (by lia) ?_ hu ⟨e1.trans e2,ru⟩ (hs _ _)
 simp only [seqIndex?];simp;lia
def ab (C:Cfg)(k:Nat)(sc:Sc)(own:Own)(ρ:Str->Option PV)(es:List Expr)(ps:List PV):Prop:=
 ∀W A env s pos,ak A k->St C W sc own ρ env s->Hi C.M A (spliced (Jo pos (HG es env))) (λvs J=>ah C [] s J/\fe C W J.heap vs ps) (λ_ _=>False) s
theorem ab.nil:ab C k sc own ρ [] []:=λW A env s pos rm x=>Hu ⟨ah.refl _,rfl⟩
theorem ab.cons {e:Expr}{es:List Expr}{p:PV}{ps:List PV}(h:Ev C k sc own ρ e p)(hs:ab C k sc own ρ es ps)(hn:autoParam (∀env,HG (e::es) env=(false,IQ e env)::HG es env) ng):ab C k sc own ρ (e::es) (p::ps):=λW A env s pos rm x=>by
 rw [hn]
 show Hi C.M A (spliced ((false,IQ e env)::Jo pos (HG es env))) _ _ s
 refine Ha (G' (h _ A env s rm x) ?_ λ_ _ q=>q)
 rintro v s1 ⟨e1,r1⟩
 refine Ha (Hu (Ha (Ip (G' (hs _ A env s1 pos rm (x.aA e1)) ?_ λ_ _ q=>q))))
 rintro vs s2 ⟨e2,r2⟩
 exact Hu ⟨e1.trans e2,v,vs,rfl,e2.pC r1,r2⟩
theorem Ev.list {es:List Expr}{ps:List PV}(h:ab C k sc own ρ es ps)(hz:ps.length<=sizeLine):Ev C k sc own ρ (.List es pos) (.lst ps):=λW A env s rm x=>by
 refine PS (G' (h _ A env s pos rm x) ?_ λ_ _ q=>q)
 rintro vs s1 ⟨e1,r1⟩
 refine⟨by rw [aR.length r1];exact hz,e1.trans (ah.push _ _),s1.heap.objs.size,vs,0,rfl,(x.aA e1).gd.fresh,Hp _ rfl,?_⟩
 exact(ah.push (C:=C) (W:=W) (s:=s1) _ s1.toks).DU r1
theorem Ev.tuple {es:List Expr}{ps:List PV}{n:Nat}(h:ab C k sc own ρ es ps)(hz:ps.length<=sizeLine):Ev C k sc own ρ (.Tuple es n pos) (.tup ps):=λW A env s rm x=>by
 refine wpAny_Tuple (G' (h _ A env s pos rm x) ?_ λ_ _ q=>q)
 rintro vs s1 ⟨e1,r1⟩
 refine⟨by rw [aR.length r1];exact hz,e1.trans (ah.push _ _),s1.heap.objs.size,vs,rfl,(x.aA e1).gd.fresh,Hp _ rfl,?_⟩
 exact(ah.push (C:=C) (W:=W) (s:=s1) _ s1.toks).DU r1
noncomputable abbrev bP:=Str->Option PV
noncomputable def upd (ρ:bP) (x:Str) (p:PV):bP:=λy=>if(y==x)=true then some p else ρ y
theorem fL {ρ:bP}{x:Str}{p:PV}:upd ρ x p x=some p:=by unfold upd;rw [HE (beq_self_eq_true x)]
theorem n8 {ρ:bP}{x y:Str}{p:PV}{r:Option PV}(h:(y==x)=false)(h2:ρ y=r):upd ρ x p y=r:=by unfold upd;rw [Hz (by rw [h];decide)];exact h2
noncomputable def aC:List (Str×PV)->bP
 |[]=>λ_=>none
 |(x,p)::r=>upd (aC r) x p
structure Cfg.Ok (C:Cfg):Prop where
 nolimit:C.h₀.NoLimit
 statics:cStatics∉C.aq
 g:C.h₀.Ns Kq C.mg
 gT:Kq∉C.aq
 b:C.h₀.Ns KN C.mb
 bT:KN∉C.aq
 noCode:∀t∈C.tabs,t.1∉C.aq
 inj:∀t∈C.tabs,∀t'∈C.tabs,t.2.1=t'.2.1->t=t'
 bmain:∃bm o,C.mg "__builtins__"=some (.ref bm)/\bm≠KN/\bm≠Kq/\bm∉C.aq/\C.h₀.get? bm=some o/\o.cls= .type "module"/\o.dict=some KN/\o.data= .plain
theorem Inv.ns (i:Inv C s){a:He}{m:Str->Option y'}(ha:a∉C.aq)(h:C.h₀.Ns a m):s.heap.Ns a m:=by refine lO h λo es ep g r=> ?_;exact⟨o,es,ep,i.old _ _ ha g,r⟩
theorem Inv.nolimit (i:Inv C s)(ok:C.Ok):s.heap.NoLimit:=by refine ae ok.nolimit λmc a b=> ?_;exact⟨mc,i.ns ok.statics a,b⟩
theorem Inv.ot (i:Inv C s){cd:y'}{q:Str}(h:C.h₀.CodeRec cd q)(hn:∀c,cd= .ref c->c∉C.aq):s.heap.CodeRec cd q:=by obtain⟨c,o,vs,t,e,g,d,r⟩:=h;exact⟨c,o,vs,t,e,i.old _ _ (hn c e) g,d,r⟩
inductive dz (C:Cfg) (W:List He) (h:Ho):List (Str×y')->List (Str×PV)->Prop
 |nil:dz C W h [] []
 |cons {x:Str} {v:y'} {p:PV} {r:List (Str×y')} {q:List (Str×PV)} (h1:Rr C W h v p) (h2:dz C W h r q):dz C W h ((x,v)::r) ((x,p)::q)
theorem dz.find {h:Ho}{b:List (Str×y')}{q:List (Str×PV)}(r:dz C W h b q):∀{x:Str}{p:PV},aC q x=some p->∃v,b.lookup x=some v/\Rr C W h v p:=by
 induction r with
 |nil=>intro x p e;cases e
 | @cons y v p r q h1 h2 ih=>
  intro x p' e
  replace e:(if(x==y)=true then some p else aC q x)=some p':=e
  split at e
  ·rename_i Ts
   cases e
   exact⟨v,by simp [Hr,Ts],h1⟩
  ·rename_i Ts
   refine ae (ih e) λu e1 e2=> ?_
   refine⟨u,?_,e2⟩
   simp only [Hr]
   have:(x==y)=false:=by simpa using Ts
   refine this▸?_;exact e1
theorem eo {x:Str}{v:y'}{r:List (Str×y')}(nd:(((x,v)::r).map (·.1)).Nodup):r.lookup x=none:=by
 cases q:r.lookup x with
 |none=>rfl
 |some u=>exact absurd (Hd.mpr ⟨_,mem_of_lookup q,rfl⟩) ((HJ.mp nd).1)
theorem kB {kindOf:Str->Option IS}{x:Str}:∀{b:List (Str×y')}{m:Str->Option y'},b.lookup x=none->bindL kindOf b m x=m x
 |[],_,_=>rfl
 |(n,v)::r,m,h=>by
  simp only [Hr] at h
  cases hx:x==n with
  |true=>replace h:=hx▸h;cases h
  |false=>
   replace h:=hx▸h
   simp only [bindL]
   rw [kB h]
   have:x≠n:=by simpa using hx
   split <;> simp [this]
theorem lM {kindOf:Str->Option IS}{x:Str}{v:y'}:∀{b:List (Str×y')}{m:Str->Option y'},(b.map (·.1)).Nodup->b.lookup x=some v->kindOf x=some .local->bindL kindOf b m x=some v
 |(n,u)::r,m,nd,h,hk=>by
  simp only [Hr] at h
  simp only [bindL]
  cases hx:x==n with
  |true=>
   replace h:=hx▸h
   cases h
   have e:x=n:=by simpa using hx
   subst e
   rw [kB (eo nd),HE hk]
   simp
  |false=>
   replace h:=hx▸h
   exact lM (HJ.mp nd).2 h hk
theorem hY {kindOf:Str->Option IS}{x:Str}:∀{b:List (Str×y')}{m:Str->Option y'},b.lookup x=none->bindC kindOf b m x=m x
 |[],_,_=>rfl
 |(n,v)::r,m,h=>by
  simp only [Hr] at h
  cases hx:x==n with
  |true=>replace h:=hx▸h;cases h
  |false=>
   replace h:=hx▸h
   simp only [bindC]
   rw [hY h]
   have:x≠n:=by simpa using hx
   split <;> simp [this]
theorem mH {kindOf:Str->Option IS}{x:Str}{v:y'}:∀{b:List (Str×y')}{m:Str->Option y'},(b.map (·.1)).Nodup->b.lookup x=some v->kindOf x≠some .local->bindC kindOf b m x=some v
 |(n,u)::r,m,nd,h,hk=>by
  simp only [Hr] at h
  simp only [bindC]
  cases hx:x==n with
  |true=>
   replace h:=hx▸h
   cases h
   have e:x=n:=by simpa using hx
   subst e
   rw [hY (eo nd),Hz hk]
   simp
  |false=>
   replace h:=hx▸h
   exact mH (HJ.mp nd).2 h hk
def vD (C:Cfg)(Wt:List He)(t:Hh)(a:He):Prop:=C.h₀.get? a=none/\(t.heap.objs.size<=a\/a∈Wt)
structure Bs (C:Cfg)(Wt:List He)(mine:Str->Bool)(t:Hh)(own:Own)(env:Mm)(s:Hh):Prop where
 aA:ah C Wt t s
 loc:vD C Wt t env.locals
 cel:∀x c,mine x=true->env.kindOf x=some .cell->env.cells.lookup x=some c->vD C Wt t c
 owns:∀x∈own,vD C Wt t x.1
theorem iC {L:He}{m cm:Str->Option y'}{cs:List (Str×He)}(x:InCallC s L m cs cm J):ah C [] s J:=by
 refine fB x.toInCall.same λh' tk P8=> ?_;subst P8
 have:=M' x.toInCall.ns
 exact ah.of_keeps x.toInCall.keep (Hf x.toInCall.fresh (IB this))
theorem N.grow {L:He}(hL:s.heap.objs.size<=L)(e:ah C [] s J):∀a o,¬C.N W a->s.heap.get? a=some o->¬C.N (L::W) a/\J.heap.get? a=some o:=λa o n g=>by
 refine⟨λq=> ?_,e.keep a o (λq=>n (.inl q)) (by simp) g⟩
 rcases q with q |q
 ·exact n (.inl q)
 ·rcases Hc.mp q with q |q
  ·exact HR _ (Ht (q▸(Hx g)) hL)
  ·exact n (.inr q)
theorem dO.grow {L:He}{a:He}{p:PV}(hL:s.heap.objs.size<=L)(e:ah C [] s J)(ha:a∉C.aq)(x:dO C W s.heap a p):dO C (L::W) J.heap a p:=by
 cases p with
 |lst xs=>refine aL x λvs n g r=> ?_;exact⟨vs,n,e.keep _ _ ha (by simp) g,aR.mono (N.grow hL e) r⟩
 |au xs=>refine wG x λvs n kvs g sd r=> ?_;exact⟨vs,n,kvs,e.keep _ _ ha (by simp) g,sd,bC.mono (N.grow hL e) r⟩
 |obj o=>exact⟨e.keep _ _ ha (by simp) x.1,x.2⟩
 |_=>exact x.elim
theorem St.enter {fd:Jq}{a:He}{binds:List (Str×y')}{q:List (Str×PV)}(g:Gd C W s)
 (Qb:∀x∈own,x.1∈W/\dO C W s.heap x.1 x.2/\x.1∉C.aq)
 (Ql:sc=⟨fd.scope,fd.qualname ++ ".<locals>.",fd.code⟩)(hg:fd.globals=Kq)(hb:fd.builtins=KN)(hk:fd.scope.kind= .function)
 (nd:(binds.map (·.1)).Nodup)(rep:dz C W s.heap binds q)(UL:∀x,fd.scope.names.lookup x≠some .free)
 (Rj:∀x,fd.scope.names.lookup x=some .cell->((Ie (s.heap.objs.size+1) fd.scope.names []).lookup x).isSome=true)
 (x:InCallC s (KQ fd s.heap.objs.size a).locals (bindL (KQ fd s.heap.objs.size a).kindOf binds λ_=>none) (KQ fd s.heap.objs.size a).cells (bindC (KQ fd s.heap.objs.size a).kindOf binds λ_=>none) J):
 St C (s.heap.objs.size::W) sc own (aC q) (KQ fd s.heap.objs.size a) J:=by
 have e:=iC (C:=C) x
 have Qn:∀y,(KQ fd s.heap.objs.size a).kindOf y=fd.scope.names.lookup y:=λ_=>rfl
 have gr:∀{v p},Rr C W s.heap v p->Rr C (s.heap.objs.size::W) J.heap v p:=λh=>Rp.mono (N.grow (Hk _) e) h
 refine⟨g.inv.jB e,⟨by rw [Ql];rfl,hg,hb,by rw [Ql];rfl,by rw [Ql];rfl,by rw [Ql];exact hk⟩,λb hb=> ?_,λy hy=> ?_,⟨_,x.toInCall.ns,λy p h1 h2=> ?_⟩,λy hy=> ?_,x.apart,⟨f',λh=>g.fresh (.inl h)⟩,λy hy h=>by
  have h1:=g.low y.1 (.inr (Qb y hy).1)
  rw [h] at h1
  exact HR _ h1,jm (g.inv.beyond (Hk _)) g.new,λy _ c hc hW=> ?_⟩
 ·rcases Hc.mp hb with rfl |hb
  ·exact M' x.toInCall.ns
  ·exact Ht (g.low b (.inr hb)) e.size
 ·refine cZ (Qb y hy) λh1 h2 h3=> ?_
  exact⟨j' _ h1,h2.grow (Hk _) e h3,h3⟩
 ·rw [Ql] at h1
  refine ae (rep.find h2) λv e1 e2=> ?_
  exact⟨v,lM nd e1 (by exact h1),gr e2⟩
 ·rw [Ql] at hy
  rcases hy with hy |hy
  ·refine cA (J8.mp (Rj y hy)) λc hc=> ?_
   refine⟨c,_,hc,x.cell y c hc,λp hp=> ?_⟩
   refine ae (rep.find hp) λv e1 e2=> ?_
   exact⟨v,mH nd e1 (by simp only [Qn,hy];decide),gr e2⟩
  ·exact absurd hy (UL y)
 ·have h1:=x.above y c (Ij hc)
  rcases Hc.mp hW with rfl |hW
  ·exact HR _ h1
  ·exact HR _ (Mf (g.low c (.inr hW)) h1)
variable {We Qp:List He}{mine:Str->Bool}{own':Own}{bs:Hh}
theorem dO.keep {h h':Ho}{a:He}{p:PV}(x:dO C W h a p)(k:∀b o,¬C.N W b->h.get? b=some o->Ib.bq o->¬C.N W b/\h'.get? b=some o)(ka:∀o,h.get? a=some o->Ib.bq o->h'.get? a=some o):dO C W h' a p:=by
 cases p with
 |lst xs=>refine aL x λvs n g r=> ?_;exact⟨vs,n,ka _ g λ_=>nofun,aR.eY k r⟩
 |au xs=>refine wG x λvs n kvs g sd r=> ?_;exact⟨vs,n,kvs,ka _ g λ_=>nofun,sd,bC.eY k r⟩
 |obj o=>exact⟨ka _ x.1 x.2,x.2⟩
 |_=>exact x.elim
theorem jy {x y:Str}{p q:PV}(h:upd ρ x p y=some q):y=x/\p=q\/y≠x/\ρ y=some q:=by
 unfold upd at h
 split at h
 ·exact .inl ⟨LL ‹_›,IF h⟩
 ·exact .inr ⟨λe=>‹¬_› (beq_iff_eq.mpr e),h⟩
theorem ah.turn {a:He}{h':Ho}{tk:Nat}{o:Ib}(i:Inv C s)(hs:Iv a s.heap h')(ho:s.heap.get? a=some o)(hd:∀vs,o.data≠.fields vs)(hW:a∈W):ah C W s {s with heap:=h',toks:=tk} where
 keep b o' _ hb e:=(hs.2 b (by rintro rfl;exact hb hW)).trans e
 size:=by simp only [show ({s with heap:=h',toks:=tk}:Hh).heap=h' from rfl,hs.1];exact Hk _
 tabs t ht ps x:=by
  have hc:t.1≠a:=by
   rintro rfl
   obtain⟨o2,vs,_,_,_,_,_,_,_,_,g,d,_⟩:=x.code
   replace g:=ho▸g;cases g
   exact hd _ d
  have hP:t.2.1≠a:=by
   intro e
   have g:=x.tab.2
   simp only [e,ho] at g
   cases g
   exact hd _ rfl
  refine⟨#[],?_⟩
  have:=x.extBut (h':=h') (a:=a) (λb o' hb e=>(hs.2 b hb).trans e) hc hP (λo' vs g d=>by replace g:=ho▸g;cases g;exact hd _ d)
  exact this
 os:=rfl
 gens:=id
theorem St.n5 (x:St C W sc own ρ env s):∃o es n,s.heap.get? env.locals=some o/\o.data= .dict es n:=by
 obtain⟨m,⟨o,es,ep,g,d,_⟩,_⟩:=x.loc
 exact⟨o,es,ep,g,d⟩
theorem Bs.turn {a:He}{h':Ho}{tk:Nat}(b:Bs C Qp mine bs own env s)(hs:Iv a s.heap h')(ha:vD C Qp bs a)(e:ah C [a] s {s with heap:=h',toks:=tk}):Bs C Qp mine bs own env {s with heap:=h',toks:=tk} where
 aA:=by
  refine⟨λc o h1 h2 g=> ?_,Hf b.aA.size e.size,λt ht ps x=> ?_,e.os.trans b.aA.os,λh=>e.gens (b.aA.gens h)⟩
  ·have lt:=Hx g
   refine(hs.2 c ?_).trans (b.aA.keep c o h1 h2 g)
   rintro rfl
   rcases ha.2 with q |q
   ·exact HR _ (Ht lt q)
   ·exact h2 q
  ·obtain⟨m,y⟩:=b.aA.tabs t ht ps x
   obtain⟨m',z⟩:=e.tabs t ht _ y
   exact⟨m ++ m',by rwa [Lh] at z⟩
 loc:=b.loc
 cel:=b.cel
 owns:=b.owns
theorem lU {cs:List (Str×He)}(hp:cs.Pairwise λx y=>x.2≠y.2){x y:Str}{c:He}(h1:cs.lookup x=some c)(h2:cs.lookup y=some c):x=y:=Pj hp (mem_of_lookup h1) (mem_of_lookup h2)
theorem St.A2 (X:St C W sc own ρ env s){c:He}{o:Ib}(g:s.heap.get? c=some o)(hd:∀vs,o.data≠.fields vs):c∉C.aq:=λq=>by
 refine ae (Hd.mp q) λt' RU P8=> ?_;subst P8
 refine aL (X.inv.tabs t' RU) λ_ _ _ z=> ?_
 exact hd _ (HV Ib.data (IF (g.symm.trans z.tab.2)))
theorem St.Bu {a:He}(e:ah C [a] s J)(ha:a∈W\/∃o v,s.heap.get? a=some o/\o.data= .cell v)(b:He)(o:Ib)(n:¬C.N W b)(g:s.heap.get? b=some o)(hc:Ib.bq o):¬C.N W b/\J.heap.get? b=some o:=
 ⟨n,e.keep b o (λq=>n (.inl q)) (λq=>by
  cases Hm.mp q
  rcases ha with q |⟨_,v,g',d⟩
  ·exact n (.inr q)
  ·exact hc v (IF (g.symm.trans g')▸d)) g⟩
theorem St.chg {a:He}(X:St C W sc own ρ env s)(e:ah C [a] s J)(h0:C.h₀.get? a=none)(ha:a∈W\/∃o v,s.heap.get? a=some o/\o.data= .cell v)
 (Qb:∀y∈own',(y.1=a/\a∈W/\a∉C.aq/\a≠env.locals/\dO C W J.heap a y.2)\/(y.1≠a/\y∈own))
 (Uc:∀m,s.heap.Ns env.locals m->∃m',J.heap.Ns env.locals m'/\∀x p,sc.scope.names.lookup x=some .local->Qa x=some p->(m' x=m x/\ρ x=some p)\/∃v,m' x=some v/\Rr C W J.heap v p)
 (Q4:∀x c,(sc.scope.names.lookup x=some .cell\/sc.scope.names.lookup x=some .free)->env.cells.lookup x=some c->(c≠a/\∀p,Qa x=some p->ρ x=some p)\/(c=a/\∃cv,J.heap.IsCell c cv/\∀p,Qa x=some p->∃v,cv=some v/\Rr C W J.heap v p)):St C W sc own' Qa env J:=by
 have kk:=St.Bu (W:=W) e ha
 refine⟨X.inv.aA e λb hb=>Hm.mp hb▸h0,X.ok,λb hb=>Ht (X.low b hb) e.size,λy hy=> ?_,?_,λy hy=> ?_,X.apart,X.noLoc,λy hy=> ?_,X.new,X.celW⟩
 ·rcases Qb y hy with ⟨h1,h2,h3,_,h4⟩ |⟨h1,h2⟩
  ·refine h1▸?_;exact⟨h2,h4,h3⟩
  ·have q:=X.owns y h2
   exact⟨q.1,q.2.1.keep kk (λo g _=>e.keep _ _ q.2.2 (λq=>h1 (Hm.mp q)) g),q.2.2⟩
 ·refine ae X.loc λm hm hl=> ?_
  refine ae (Uc m hm) λm' WE RP=> ?_
  refine⟨m',WE,λy q h1 h2=>(RP y q h1 h2).elim (λh3=> ?_) id⟩
  refine ae (hl y q h1 h3.2) λv h5 h6=> ?_
  exact⟨v,h3.1.trans h5,Rp.eY kk h6⟩
 ·refine bo (X.cel y hy) λc cv h1 z8 h3=> ?_;refine ae z8 λoc h2 Rn=> ?_
  rcases Q4 y c hy h1 with ⟨hc,hr⟩ |⟨_,T2,h4,h5⟩
  ·refine⟨c,cv,h1,⟨oc,e.keep _ _ (X.A2 h2 (by refine Rn▸?_;nofun)) (λq=>hc (Hm.mp q)) h2,Rn⟩,λq hq=> ?_⟩
   refine ae (h3 q (hr q hq)) λv h4 h5=> ?_
   exact⟨v,h4,Rp.eY kk h5⟩
  ·exact⟨c,T2,h1,h4,h5⟩
 ·exact(Qb y hy).elim (λh=>h.1▸h.2.2.2.1) λh=>X.ownLoc y h.2
theorem St.C4 (X:St C W sc own ρ env s)(h0:C.h₀.get? env.locals=none)(e:ah C [env.locals] s J)(hn:∀m,s.heap.Ns env.locals m->∃m',J.heap.Ns env.locals m'/\∀x p,sc.scope.names.lookup x=some .local->Qa x=some p->(m' x=m x/\ρ x=some p)\/∃v,m' x=some v/\Rr C W J.heap v p)
 (hr:∀x p,sc.scope.names.lookup x≠some .local->Qa x=some p->ρ x=some p):St C W sc own Qa env J:=
 X.chg e h0 (.inl X.noLoc.1) (λy hy=> .inr ⟨X.ownLoc y hy,hy⟩) hn λx c hx hc=> .inl ⟨λq=>X.celW x hx c hc (q▸X.noLoc.1),λp=>hr x p (by rcases hx with h |h <;> (rw [h];decide))⟩
theorem fx {x:Str}{v:y'}{p:PV}(X:St C W sc own ρ env s)(B:Bs C Qp mine bs own env s)(hl:sc.scope.names.lookup x=some .local)(hv:Rr C W s.heap v p){Q:Unit->Hh->Prop}{E:y'->Hh->Prop}
 (h:∀J,St C W sc own (upd ρ x p) env J->Bs C Qp mine bs own env J->(∀u q,Rr C W s.heap u q->Rr C W J.heap u q)->Q () J):Hi C.M A (storeName env x v) Q E s:=by
 refine ae X.loc λm hn _=> ?_
 refine lO X.n5 λo es n g d=> ?_
 refine Nt (by unfold J7;refine X.ok.scope▸?_;exact hl) hn (λh' Q' hs=> ?_) (by refine X.ok.scope▸X.ok.kind▸?_;rfl)
 have e:ah C [env.locals] s {s with heap:=h',toks:=s.toks+1}:=ah.turn X.inv hs g (by refine d▸?_;nofun) f'
 have rr:∀u q,Rr C W s.heap u q->Rr C W h' u q:=λu q r=>Rp.eY (St.Bu e (.inl X.noLoc.1)) r
 exact h _ (X.C4 B.loc.1 e (λm1 Z1=>⟨_,Q',λy q h1 h2=>(jy h2).elim (λa=> .inr ⟨v,HE a.1,a.2▸rr _ _ hv⟩) λa=> .inl ⟨(Hz a.1).trans (M9.agree hn Z1 y),a.2⟩⟩)
  λy q h1 h2=>(jy h2).elim (λa=>absurd (a.1▸hl) h1) And.right) (B.turn hs B.loc e) rr
theorem gv {x:Str}{v:y'}{p:PV}(X:St C W sc own ρ env s)(B:Bs C Qp mine bs own env s)(hl:sc.scope.names.lookup x=some .cell)(hm:mine x=true)(hv:Rr C W s.heap v p){Q:Unit->Hh->Prop}{E:y'->Hh->Prop}
 (h:∀J,St C W sc own (upd ρ x p) env J->Bs C Qp mine bs own env J->(∀u q,Rr C W s.heap u q->Rr C W J.heap u q)->Q () J):Hi C.M A (storeName env x v) Q E s:=by
 refine bo (X.cel x (.inl hl)) λc cv hc z8 hr=> ?_;refine ae z8 λoc g d=> ?_
 have UH:env.kindOf x=some .cell:=by unfold J7;refine X.ok.scope▸?_;exact hl
 refine Nz (by refine X.ok.scope▸?_;exact X.ok.kind) UH hc ⟨oc,g,d⟩ (λh' Q' hs=> ?_)
 have e:ah C [c] s {s with heap:=h',toks:=s.toks}:=ah.turn X.inv hs g (by refine d▸?_;nofun) f'
 have ha:c∈W\/∃o v,s.heap.get? c=some o/\o.data= .cell v:= .inr ⟨oc,cv,g,d⟩
 have rr:∀u q,Rr C W s.heap u q->Rr C W h' u q:=λu q r=>Rp.eY (St.Bu e ha) r
 have Xz:=B.cel x c hm UH hc
 have Wg:=X.celW x (.inl hl) c hc
 exact h _ (X.chg e Xz.1 ha (λy hy=> .inr ⟨λq=>Wg (q▸(X.owns y hy).1),hy⟩)
  (λm hm=>⟨m,(by refine lO hm λo es ep g1 r1=> ?_;exact⟨o,es,ep,(hs.2 _ λq=>Wg (q▸X.noLoc.1)).trans g1,r1⟩),λy q h1 h2=> .inl ⟨rfl,(jy h2).elim (λa=>nomatch (a.1▸h1).symm.trans hl) And.right⟩⟩)
  λy c' hy h1=>by
   by_cases q1:y=x
   ·cases q1
    cases IF (h1.symm.trans hc)
    exact .inr ⟨rfl,some v,Q',λq hq=>⟨v,rfl,(jy hq).elim (λa=>a.2▸rr _ _ hv) λa=>absurd rfl a.1⟩⟩
   ·exact .inl ⟨λq=>q1 (lU X.apart h1 (q▸hc)),λq hq=>(jy hq).elim (λa=>absurd a.1 q1) And.right⟩) (B.turn hs Xz e) rr
variable {t:Hh}
theorem dO.mono {h h':Ho}{a:He}{p:PV}(x:dO C W h a p)(k:∀b o,¬C.N W b->h.get? b=some o->¬C.N W' b/\h'.get? b=some o)(ka:∀o,h.get? a=some o->h'.get? a=some o):dO C W' h' a p:=by
 cases p with
 |lst xs=>refine aL x λvs n g r=> ?_;exact⟨vs,n,ka _ g,aR.mono k r⟩
 |au xs=>refine wG x λvs n kvs g sd r=> ?_;exact⟨vs,n,kvs,ka _ g,sd,bC.mono k r⟩
 |obj o=>exact⟨ka _ x.1,x.2⟩
 |_=>exact x.elim
theorem St.shift (x:St C W sc own ρ env s)(e:ah C [] s J)(k:∀b o,¬C.N W b->s.heap.get? b=some o->¬C.N W' b/\J.heap.get? b=some o)
 (hW:∀a∈W',a < J.heap.objs.size)(hN:∀a∈W',C.h₀.get? a=none)(hC:∀a∈W',a∈W\/s.heap.objs.size<=a)(ho:∀y∈own,y.1∈W')(hL:env.locals∈W'):St C W' sc own ρ env J:=by
 have x':=x.aA e
 refine⟨x'.inv,x.ok,hW,λy hy=> ?_,?_,λy hy=> ?_,x.apart,⟨hL,x.noLoc.2⟩,x.ownLoc,hN,λy hy c hc hW=>by
  rcases hC c hW with q |q
  ·exact x.celW y hy c hc q
  ·refine bo (x.cel y hy) λc' _ h1 z8 _=> ?_;refine ae z8 λ_ g _=> ?_
   replace h1:=hc▸h1;cases h1
   exact absurd (Hx g) (HH.mpr q)⟩
 ·refine cZ (x.owns y hy) λh1 h2 h3=> ?_
  exact⟨ho y hy,h2.mono k (λo g=>e.keep _ _ h3 (by simp) g),h3⟩
 ·refine ae x.loc λm h r=> ?_
  refine lO h λo es ep g rest=> ?_
  refine⟨m,⟨o,es,ep,e.keep _ _ x.noLoc.2 (by simp) g,rest⟩,λy p h1 h2=> ?_⟩
  refine ae (r y p h1 h2) λv h3 h4=> ?_
  exact⟨v,h3,Rp.mono k h4⟩
 ·refine bo (x.cel y hy) λc cv h1 h2 h3=> ?_
  refine bo (x'.cel y hy) λc' T2 Wn Rn Zb=> ?_
  replace Wn:=h1▸Wn;cases Wn
  refine⟨c,T2,h1,Rn,λp hp=> ?_⟩
  refine ae (Zb p hp) λv hv _=> ?_
  refine ae (h3 p hp) λWV U6 r=> ?_
  have:v=WV:=by
   refine ae h2 λo g d=> ?_
   refine ae Rn λo' g' d'=> ?_
   have gg:=e.keep c o (λq=>by
    refine ae (Hd.mp q) λt ht P8=> ?_;subst P8
    refine aL (x.inv.tabs t ht) λ_ _ _ z=> ?_
    have:=z.tab.2
    rw [g] at this
    injection this with this
    replace d:=this▸d
    cases d) (by simp) g
   replace g':=gg▸g';cases g'
   rw [d] at d'
   injection d' with d'
   simp only [hv,U6] at d'
   injection d' with d'
   exact d'.symm
  subst this
  exact⟨v,hv,Rp.mono k r⟩
theorem St.grow {I:He}(x:St C W sc own ρ env s)(e:ah C [] s J)(h1:s.heap.objs.size<=I)(h2:I < J.heap.objs.size):St C (I::W) sc own ρ env J:=
 x.shift e (N.grow h1 e) (λa ha=>by
  rcases Hc.mp ha with rfl |ha
  ·exact h2
  ·exact Ht (x.low a ha) e.size) (jm (x.inv.beyond h1) x.new) (λa ha=>by
  rcases Hc.mp ha with rfl |ha
  ·exact .inr h1
  ·exact .inl ha) (λy hy=>j' _ (x.owns y hy).1) (j' _ x.noLoc.1)
theorem St.iS {a:He}{p:PV}(x:St C W sc own ρ env s)(ha:a∈W)(hc:dO C W s.heap a p)(ht:a∉C.aq)(hL:a≠env.locals):St C W sc ((a,p)::own) ρ env s where
 inv:=x.inv
 ok:=x.ok
 low:=x.low
 owns y hy:=by
  rcases Hc.mp hy with rfl |hy
  ·exact⟨ha,hc,ht⟩
  ·exact x.owns y hy
 loc:=x.loc
 cel:=x.cel
 apart:=x.apart
 noLoc:=x.noLoc
 ownLoc y hy:=by
  rcases Hc.mp hy with rfl |hy
  ·exact hL
  ·exact x.ownLoc y hy
 new:=x.new
 celW:=x.celW
theorem St.less (x:St C W sc own ρ env s)(h:∀y∈own',y∈own):St C W sc own' ρ env s where
 inv:=x.inv
 ok:=x.ok
 low:=x.low
 owns y hy:=x.owns y (h y hy)
 loc:=x.loc
 cel:=x.cel
 apart:=x.apart
 noLoc:=x.noLoc
 ownLoc y hy:=x.ownLoc y (h y hy)
 new:=x.new
 celW:=x.celW
theorem St.drop (x:St C W sc own ρ env s)(h:∀a∈W',a∈W)(ho:∀y∈own,y.1∈W')(hL:env.locals∈W'):St C W' sc own ρ env s:=
 x.shift (ah.refl s) (λb o n g=>⟨λq=>n (q.elim .inl λq=> .inr (h b q)),g⟩) (λa ha=>x.low a (h a ha)) (λa ha=>x.new a (h a ha)) (λa ha=> .inl (h a ha)) ho hL
theorem Rr.drop {h:Ho}{v:y'}{p:PV}(x:Rr C W h v p)(hW:∀a∈W',a∈W):Rr C W' h v p:=Rp.mono (λb o n g=>⟨λq=>n (q.elim .inl λq=> .inr (hW b q)),g⟩) x
theorem Rr.grow {I:He}{v:y'}{p:PV}(x:Rr C W s.heap v p)(e:ah C [] s J)(h1:s.heap.objs.size<=I):Rr C (I::W) J.heap v p:=Rp.mono (N.grow h1 e) x
theorem Bs.less (b:Bs C Qp mine t own env s)(h:∀y∈own',∃p,(y.1,p)∈own):Bs C Qp mine t own' env s:=⟨b.aA,b.loc,b.cel,λy hy=>by obtain⟨p,hp⟩:=h y hy;exact b.owns (y.1,p) hp⟩
theorem Bs.more {a:He}{p:PV}(b:Bs C Qp mine t own env s)(h:vD C Qp t a):Bs C Qp mine t ((a,p)::own) env s:=⟨b.aA,b.loc,b.cel,λy hy=>by
 rcases Hc.mp hy with rfl |hy
 ·exact h
 ·exact b.owns _ hy⟩
theorem Bs.step (b:Bs C Qp mine t own env s)(e:ah C [] s J):Bs C Qp mine t own env J:=⟨b.aA.trans e.up,b.loc,b.cel,b.owns⟩
noncomputable def Cfg.turns (mine:Str->Bool) (own:Own) (env:Mm):List He:=env.locals::(env.scope.names.filterMap (λx=>if(mine x.1 && env.kindOf x.1==some .cell)=true then env.cells.lookup x.1 else none) ++ own.map (·.1))
theorem Bs.start (b:Bs C Qp mine t own env s):Bs C (Cfg.turns mine own env) mine s own env s where
 aA:=ah.refl s
 loc:=⟨b.loc.1,.inr f'⟩
 cel x c h1 hk h2:=⟨(b.cel x c h1 hk h2).1,.inr (j' _ (HW _ (Mn.mpr ⟨(x,.cell),mem_of_lookup hk,by simp_all⟩)))⟩
 owns x hx:=⟨(b.owns x hx).1,.inr (j' _ (Ig _ (Hd.mpr ⟨x,hx,rfl⟩)))⟩
theorem fQ {P:He->Prop}(hl:P env.locals)(hc:∀x c,mine x=true->env.kindOf x=some .cell->env.cells.lookup x=some c->P c)(ho:∀y∈own,P y.1):∀a∈Cfg.turns mine own env,P a:=λa ha=>by
 rcases Hc.mp ha with rfl |ha
 ·exact hl
 ·rcases HP.mp ha with ha |ha
  ·refine ae (Mn.mp ha) λx _ h=> ?_
   split at h
   ·rename_i q
    rw [H',beq_iff_eq] at q
    exact hc _ _ q.1 q.2 h
   ·cases h
  ·refine ae (Hd.mp ha) λy hy P8=> ?_;refine P8▸?_
   exact ho y hy
theorem Bs.iu (b:Bs C Qp mine t own env s):∀a∈Cfg.turns mine own env,vD C Qp t a:=fQ b.loc b.cel b.owns
theorem St.oJ {x:Str}{c:He}(X:St C W sc own ρ env s)(hk:env.kindOf x=some .cell)(hc:env.cells.lookup x=some c):∃o v,s.heap.get? c=some o/\o.data= .cell v:=by
 refine bo (X.cel x (.inl (X.ok.scope▸hk))) λ_ cv h1 z8 _=> ?_;refine ae z8 λo h2 h3=> ?_
 exact⟨o,cv,IF (h1.symm.trans hc)▸h2,h3⟩
theorem xJ (X:St C W sc own ρ env s):∀a∈Cfg.turns mine own env,a < s.heap.objs.size:=
 fQ (X.low _ X.noLoc.1) (λ_ _ _ hk hc=>by refine aL (X.oJ hk hc) λ_ _ g _=> ?_;exact Hx g) λy hy=>X.low _ (X.owns y hy).1
def Kp (C:Cfg)(W:List He)(L:Nat)(s J:Hh):Prop:=∀b o,¬C.N W b->s.heap.get? b=some o->Ib.bq o->b < L->J.heap.get? b=some o
theorem Kp.of {L:Nat}(x:St C W sc own ρ env s)(e:ah C We s J)(h:∀a∈We,a∈Cfg.turns mine own env\/L<=a):Kp C W L s J:=λb o n g nc lt=>
 e.keep b o (λq=>n (.inl q)) (λq=>(h b q).elim (λq=>fQ (P:=λa=>a≠b) (λq=>n (.inr (q▸x.noLoc.1)))
  (λ_ _ _ hk hc q=>by refine aL (x.oJ hk hc) λ_ v g' d=> ?_;exact nc v (IF (g.symm.trans (q▸g'))▸d)) (λy hy q=>n (.inr (q▸(x.owns y hy).1))) b q rfl)
  λq=>HR _ (Ht lt q)) g
theorem Bs.join (b:Bs C Qp mine t own env s)(e:ah C We s J)(h:∀a∈We,vD C Qp t a):Bs C Qp mine t own env J where
 aA:=by
  refine⟨λc o h1 h2 g=> ?_,Hf b.aA.size e.size,λt' ht ps x=> ?_,e.os.trans b.aA.os,λh=>e.gens (b.aA.gens h)⟩
  ·refine e.keep c o h1 (λq=> ?_) (b.aA.keep c o h1 h2 g)
   rcases(h c q).2 with q |q
   ·exact HR _ (Ht (Hx g) q)
   ·exact h2 q
  ·obtain⟨m,y⟩:=b.aA.tabs t' ht ps x
   obtain⟨m',z⟩:=e.tabs t' ht _ y
   exact⟨m ++ m',by rwa [Lh] at z⟩
 loc:=b.loc
 cel:=b.cel
 owns:=b.owns
theorem cg {h:Ho}{o:Ib}:h.objs.size < (h.push o).objs.size:=by simp only [Io];exact IX _
def dP (o:Ib):Prop:=(∃n,o.cls= .type n)/\∃vs,o.data= .fields vs/\vs.size<=8/\∀q t,vs[1]?≠some (.str q t)
def wC (o:Ib):Prop:=∃n,o.cls= .type n/\["enumerate","zip","dict_itemiterator","dict_reverseitemiterator","odict_iterator","itertools.zip_longest","itertools.pairwise"].contains n=false
structure BX (C:Cfg)(W:List He)(L:Nat)(it:y')(ps:List PV)(s:Hh)(I:He)(fp:List He)(P:Nat->y'->Prop)(Qm:Nat->Ho->Prop):Prop where
 it:it= .ref I
 lo:L<=I
 hi:I < s.heap.objs.size
 walks:∀A:JR,A.handled=none->Walks C.prog C.w A I fp [I] ps.length P Qm
 st:Qm 0 s.heap
 safe:∀b∈fp,b=I\/(b < L/\¬C.N W b/\∃o,s.heap.get? b=some o/\Ib.bq o)
 sz:ps.length<=sizeLine
 val:∀i v,P i v->∀J W',(∀a∈W',a∈W\/L<=a)->Kp C W L s J->∃p,ps[i]? =some p/\Rr C W' J.heap v p
 obj:∀i h,Qm i h->∃o,h.get? I=some o/\dP o/\wC o
 nt:I∉C.aq
def Src (C:Cfg)(W:List He)(L:Nat)(it:y')(ps:List PV)(s:Hh):Prop:=∃I fp P Qm,BX C W L it ps s I fp P Qm
def gU (C:Cfg)(k:Nat)(sc:Sc)(own:Own)(ρ:Str->Option PV)(e:Expr)(ps:List PV):Prop:=
 ∀W A env s,ak A k->St C W sc own ρ env s->Hi C.M A (IQ e env) (λv P5=>ah C [] s P5/\∀A':JR,∀Q:y'->Hh->Prop,∀E,
  (∀it P6,ah C [] P5 P6->Src C W P5.heap.objs.size it ps P6->Q it P6)->Hi C.M A' (L6 v) Q E P5) (λ_ _=>False) s
theorem getL {vs:List y'}{ps:List PV}{P:He->List Hs->List (Str×y')->Prop}{N:He->Prop}{h:Ho}(r:aR P N h vs ps){i:Nat}{v:y'}(e:vs[i]? =some v):∃p,ps[i]? =some p/\Rp P N h v p:=by
 have:i < ps.length:=by refine((aR.length r))▸?_;exact(HD.mp e).1
 refine ae (aR.get r (i:=i) (p:=ps[i]) (by simp)) λv' e' x=> ?_
 replace e':=e▸e';cases e'
 exact⟨_,by simp,x⟩
theorem N.less {s:Hh}(hW:∀a∈W',a∈W\/s.heap.objs.size<=a)(e:Kp C W s.heap.objs.size P6 J)(e0:ah C [] s P6):∀a o,¬C.N W a->s.heap.get? a=some o->Ib.bq o->¬C.N W' a/\J.heap.get? a=some o:=λa o n g nc=>
 ⟨λq=>by
  rcases q with q |q
  ·exact n (.inl q)
  ·rcases hW a q with q |q
   ·exact n (.inr q)
   ·exact HR _ (Ht (Hx g) q),e a o n (e0.keep a o (λq=>n (.inl q)) (by simp) g) nc (Hx g)⟩
theorem vN {v:y'}{xs:List PV}(i:Inv C P5)(hr:Rr C W P5.heap v (.lst xs))(hz:xs.length<=sizeLine){A':JR}{Q:y'->Hh->Prop}{E:y'->Hh->Prop}(hQ:∀it P6,ah C [] P5 P6->Src C W P5.heap.objs.size it xs P6->Q it P6):Hi C.M A' (L6 v) Q E P5:=by
 obtain⟨a,vs,n,rfl,f,g,r⟩:=hr
 refine wpAny_pyIter_list (aQ g) ?_
 have ep:ah C [] P5 {P5 with heap:=P5.heap.push {cls:= .type "list_iterator",data:= .fields #[.ref a,.int 0 0]}}:=ah.push _ P5.toks
 refine hQ _ _ ep ⟨P5.heap.objs.size,[P5.heap.objs.size,a],λi v=>vs.toArray[i]? =some v,λi h=>h.IsListIter P5.heap.objs.size a i/\h.IsList a vs.toArray,{it:=rfl,lo:=Hk _,hi:=cg,walks:= ?_,st:= ?_,safe:= ?_,sz:=hz,val:= ?_,obj:= ?_,nt:=i.fresh}⟩
 ·intro A' hh;have:=Walks.list (prog:=C.prog) (w:=C.w) (A:=A') hh P5.heap.objs.size a (Iw (Hx g)) vs.toArray
  simp only [<-aR.length r]
  exact this
 ·exact⟨⟨_,Hp _ rfl,rfl,rfl⟩,(aQ g).push _⟩
 ·intro b hb
  rcases Hc.mp hb with rfl |hb
  ·exact .inl rfl
  ·rw [Hm.mp hb]
   exact .inr ⟨Hx g,f,_,Hj _ g,λ_=>nofun⟩
 ·intro i v hv J W' hW e'
  exact getL (aR.eY (N.less hW e' ep) r) (by simpa using hv)
 ·intro i h zz;refine iI zz.1 λo ho hc hd=> ?_
  exact⟨o,ho,⟨⟨_,hc⟩,_,hd,by simp,by simp⟩,_,hc,by rfl⟩
theorem gU.lst {e:Expr}{xs:List PV}(h:Ev C k sc own ρ e (.lst xs))(hz:xs.length<=sizeLine):gU C k sc own ρ e xs:=λW A env s rm x=>G' (h _ A env s rm x) (λ_ _ q=>⟨q.1,λ_ _ _ hQ=>vN (x.aA q.1).inv q.2 hz hQ⟩) λ_ _ q=>q
theorem CJ {v:y'}{xs:List PV}(i:Inv C P5)(hr:Rr C W P5.heap v (.tup xs))(hz:xs.length<=sizeLine){A':JR}{Q:y'->Hh->Prop}{E:y'->Hh->Prop}(hQ:∀it P6,ah C [] P5 P6->Src C W P5.heap.objs.size it xs P6->Q it P6):Hi C.M A' (L6 v) Q E P5:=by
 obtain⟨a,vs,rfl,f,g,r⟩:=hr
 refine Mo (⟨_,g,rfl,_,rfl⟩) ?_
 have ep:ah C [] P5 {P5 with heap:=P5.heap.push {cls:= .type "tuple_iterator",data:= .fields #[.ref a,.int 0 0]}}:=ah.push _ P5.toks
 refine hQ _ _ ep ⟨P5.heap.objs.size,[P5.heap.objs.size,a],λi v=>vs.toArray[i]? =some v,λi h=>h.IsTupleIter P5.heap.objs.size a i/\h.IsTuple a vs.toArray,{it:=rfl,lo:=Hk _,hi:=cg,walks:= ?_,st:= ?_,safe:= ?_,sz:=hz,val:= ?_,obj:= ?_,nt:=i.fresh}⟩
 ·intro A' hh;have:=Walks.tuple (prog:=C.prog) (w:=C.w) (A:=A') hh P5.heap.objs.size a (Iw (Hx g)) vs.toArray
  simp only [<-aR.length r]
  exact this
 ·exact⟨⟨_,Hp _ rfl,rfl,rfl⟩,⟨_,Hj _ g,rfl,_,rfl⟩⟩
 ·intro b hb
  rcases Hc.mp hb with rfl |hb
  ·exact .inl rfl
  ·rw [Hm.mp hb]
   exact .inr ⟨Hx g,f,_,Hj _ g,λ_=>nofun⟩
 ·intro i v hv J W' hW e'
  exact getL (aR.eY (N.less hW e' ep) r) (by simpa using hv)
 ·intro i h zz;refine iI zz.1 λo ho hc hd=> ?_
  exact⟨o,ho,⟨⟨_,hc⟩,_,hd,by simp,by simp⟩,_,hc,by rfl⟩
theorem gU.tup {e:Expr}{xs:List PV}(h:Ev C k sc own ρ e (.tup xs))(hz:xs.length<=sizeLine):gU C k sc own ρ e xs:=λW A env s rm x=>G' (h _ A env s rm x) (λ_ _ q=>⟨q.1,λ_ _ _ hQ=>CJ (x.aA q.1).inv q.2 hz hQ⟩) λ_ _ q=>q
noncomputable def signs (x:Str):List PV:=x.cps.toList.map λc=> .str ⟨#[c]⟩
theorem gU.str {e:Expr}{x:Str}(h:Ev C k sc own ρ e (.str x))(hz:x.cps.size<=sizeLine):gU C k sc own ρ e (signs x):=λW A env s rm X=>by
 refine G' (h _ A env s rm X) ?_ λ_ _ q=>q
 rintro v P5 ⟨e1,tk,rfl⟩
 refine⟨e1,λA' Q E hQ=> ?_⟩
 have hl:(signs x).length=x.cps.size:=by simp [signs]
 have fin:∀(o:Ib) (cls:String) (St:Nat->Ho->Prop),(∀i h,St i h->h.IsStrIter P5.heap.objs.size cls x tk i)->["enumerate","zip","dict_itemiterator","dict_reverseitemiterator","odict_iterator","itertools.zip_longest","itertools.pairwise"].contains cls=false->(∀A':JR,A'.handled=none->Walks C.prog C.w A' P5.heap.objs.size [P5.heap.objs.size] [P5.heap.objs.size] x.cps.size (SignAt x) St)->St 0 (P5.heap.push o)->
  Q (.ref P5.heap.objs.size) {P5 with heap:=P5.heap.push o}:=λo cls St hi hn hw h0=>
  hQ _ _ (ah.push _ P5.toks) ⟨P5.heap.objs.size,[P5.heap.objs.size],SignAt x,St,{it:=rfl,lo:=Hk _,hi:=cg,walks:=λA' hA=>by refine hl▸?_;exact hw A' hA,st:=h0,safe:=λb hb=> .inl (Hm.mp hb),sz:=by rw [hl];exact hz,val:=λi v zz J W' hW e'=>aL zz λc u h1 h2=>⟨.str ⟨#[c]⟩,by simp [signs,h1],u,h2⟩,obj:=λi h q=>let ⟨o,ho,hc,hd⟩:=hi i h q;⟨o,ho,⟨⟨_,hc⟩,_,hd,by simp,by simp⟩,_,hc,hn⟩,nt:=(X.aA e1).inv.fresh}⟩
 cases ha:x.cps.all (· < 128)
 ·exact wpAny_pyIter_wide ha (fin _ _ _ (λ_ _ h=>h) (by rfl) (λA' hA=>Walks.strWide hA _ x tk) ⟨_,Hp _ rfl,rfl,rfl⟩)
 ·exact wpAny_pyIter_ascii ha (fin _ _ _ (λ_ _ h=>h) (by rfl) (λA' hA=>Walks.strAscii hA _ x tk) ⟨_,Hp _ rfl,rfl,rfl⟩)
theorem pX (h:Ho)(a:He)(f:Ib->Ib):(h.update a f).objs.size=h.objs.size:=(It ..).1
theorem jR {M:Model}{Γ:Ctx}{p:Jm}{t:Jj Fin}{fs:List Frame}{s J:Hh}{e:End}(h:Runs M Γ p t fs s e J):s.heap.objs.size<=J.heap.objs.size:=by
 induction h <;> (try simp only [Hh.setGen,Io,pX] at*) <;> first |lia |skip
theorem oq {M:Model}{Γ:Ctx}{p:Jm}{s J:Hh}{r:Result}(h:Returns M Γ p s r J):s.heap.objs.size<=J.heap.objs.size:=jR h
theorem qS {M:Model}{Γ:Ctx}{p:Jm}{g:Nat}{r:Resume}{s J:Hh}{res:GenResult}(h:Wakes M Γ p g r s res J):s.heap.objs.size<=J.heap.objs.size:=by
 unfold Wakes at h
 split at h
 ·exact h.elim
 ·split at h
  ·refine ib h λQH P5 hr _ _ WM=> ?_;refine WM▸?_;exact(jR hr:(s.setGen g .running).heap.objs.size<=P5.heap.objs.size)
  ·rw [h.2];exact Hk _
  ·rw [h.2];exact Hk _
 ·refine ib h λQH P5 hr _ _ WM=> ?_;rw [WM];exact(jR hr:(s.setGen g .running).heap.objs.size<=P5.heap.objs.size)
 ·rw [h.2];exact Hk _
 ·rw [h.2];exact Hk _
open Sem in
theorem yK {α:Type}(M:Model)(Γ:Ctx)(n:Nat)(t:Jj α):∀(Q:α->Jm->Hh->Prop)(E:y'->Jm->Hh->Prop)(p:Jm)(s:Hh),n<=s.heap.objs.size->wp M Γ t Q E p s->
 wp M Γ t (λa p' J=>n<=J.heap.objs.size/\Q a p' J) (λe p' J=>n<=J.heap.objs.size/\E e p' J) p s:=by
 induction t with
 |pure a=>intro Q E p s hn h;exact⟨hn,h⟩
 |raise e=>intro Q E p s hn h;exact⟨hn,h⟩
 |unsupported _=>intro Q E p s _ h;exact h
 |finish _=>intro Q E p s _ h;exact h
 |rule _ k ih=>intro Q E p s hn h;exact ih () Q E p s hn h
 |«at» p' k ih=>intro Q E p s hn h;exact ih () Q E p' s hn h
 |load a _ k ih=>intro Q E p s hn h;refine ae h λo ho h=> ?_;exact⟨o,ho,ih o Q E p s hn h⟩
 |update a _ f k ih=>intro Q E p s hn h;exact⟨h.1,ih () Q E p _ (by simpa only [pX] using hn) h.2⟩
 |loadIfAlive a k ih=>intro Q E p s hn h;exact ih _ Q E p s hn h
 |point _ k ih=>intro Q E p s hn h;exact ih () Q E p s hn h
 |register _ _=>intro Q E p s _ h;exact h
 |alloc o k ih=>intro Q E p s hn h;exact ih _ Q E p _ (by simp_all;exact Nat.le_add_right_of_le hn) h
 |fresh k ih=>intro Q E p s hn h;exact ih _ Q E p _ hn h
 |ask k ih=>intro Q E p s hn h;exact ih _ Q E p s hn h
 |choose src m k ih=>intro Q E p s hn h;exact⟨h.1,ih _ Q E p _ hn h.2⟩
 |os q _ k ih=>intro Q E p s hn h;exact ih _ Q E p _ hn h
 |call c hd _ _ k ih=>intro Q E p s hn h;refine aL h λr J hr h=> ?_;exact⟨r,J,hr,ih r Q E p J (Hf hn (oq hr)) h⟩
 |handled own k ih=>intro Q E p s hn h;exact ih _ Q E p s hn h
 |genState g k ih=>intro Q E p s hn h;refine ae h λst hs h=> ?_;exact⟨st,hs,ih _ Q E p s hn h⟩
 |newGen c k ih=>intro Q E p s hn h;exact ih _ Q E p _ hn h
 |resume g r _ k ih=>intro Q E p s hn h;refine aL h λres J hw h=> ?_;exact⟨res,J,hw,ih res Q E p J (Hf hn (qS hw)) h⟩
 |yield _ _ _ _=>intro Q E p s _ h;exact h
 |stack k ih=>intro Q E p s hn h;exact ih _ Q E p s hn h
 |fork _ _=>intro Q E p s _ h;exact h
 |thread k ih=>intro Q E p s hn h;exact ih _ Q E p s hn h
 |await _ _ _ _ _=>intro Q E p s _ h;exact h
variable {α:Type}{M:Model}
theorem mM {t:Jj α}{Q:α->Hh->Prop}{E:y'->Hh->Prop}{n:Nat}(hn:n<=s.heap.objs.size)(h:Hi M A t Q E s):
 Hi M A t (λa J=>n<=J.heap.objs.size/\Q a J) (λe J=>n<=J.heap.objs.size/\E e J) s:=
 λΓ p Y8=>yK M Γ n t _ _ p s hn (h Γ p Y8)
theorem ba {t:Jj α}{Q:α->Hh->Prop}{E:y'->Hh->Prop}
 (h:Hi M A t (λa J=>s.heap.objs.size<=J.heap.objs.size->Q a J) (λe J=>s.heap.objs.size<=J.heap.objs.size->E e J) s):Hi M A t Q E s:=
 G' (mM (Hk _) h) (λ_ _ x=>x.2 x.1) (λ_ _ x=>x.2 x.1)
variable {P7:bP}
theorem ah.ext {h':Ho}{tk:Nat}(he:NA s.heap.objs.size s.heap h')(hz:s.heap.objs.size<=h'.objs.size):ah C W s {s with heap:=h',toks:=tk}:=
 ah.of_keeps (λb o g=>he b o (Iw (Hx g)) g) hz
def bg (C:Cfg)(sc:Sc)(mine:Str->Bool)(ρ:bP)(target:Expr)(p:PV)(Qa:bP):Prop:=
 ∀W own A env s v t Wt,A.handled=none->St C W sc own ρ env s->Bs C Wt mine t own env s->Rr C W s.heap v p->
  Hi C.M A (assign target env v) (λ_ J=>St C W sc own Qa env J/\Bs C Wt mine t own env J/\∀u q,Rr C W s.heap u q->Rr C W J.heap u q) (λ_ _=>False) s
theorem bg.local {x:Str}{p:PV}(hl:sc.scope.names.lookup x=some .local):bg C sc mine ρ (.Name x pos) p (upd ρ x p):=λW own A env s v t Wt _ X B r=>
 N7 (fx X B hl r λJ a b c=>⟨a,b,c⟩)
theorem bg.cell {x:Str}{p:PV}(hl:sc.scope.names.lookup x=some .cell)(hm:mine x=true):bg C sc mine ρ (.Name x pos) p (upd ρ x p):=λW own A env s v t Wt _ X B r=>
 N7 (gv X B hl hm r λJ a b c=>⟨a,b,c⟩)
def bE (C:Cfg)(sc:Sc)(mine:Str->Bool)(ρ:bP)(targets:List Expr)(ps:List PV)(Qa:bP):Prop:=
 ∀W own A env s vs t Wt,A.handled=none->St C W sc own ρ env s->Bs C Wt mine t own env s->fe C W s.heap vs ps->
  Hi C.M A (assignInOrder ((LM targets env).map (·.2)) vs) (λ_ J=>St C W sc own Qa env J/\Bs C Wt mine t own env J/\∀u q,Rr C W s.heap u q->Rr C W J.heap u q) (λ_ _=>False) s
theorem bE.nil:bE C sc mine ρ [] [] ρ:=λW own A env s vs t Wt _ X B r=>by
 exact Hu ⟨X,B,λ_ _ h=>h⟩
theorem fe.Gq {h h':Ho}:∀{ps:List PV}{vs:List y'},(∀u q,Rr C W h u q->Rr C W h' u q)->fe C W h vs ps->fe C W h' vs ps
 |[],_,_,x=>x
 |p::ps,_,k,⟨v,r,e,x,y⟩=>⟨v,r,e,k _ _ x,fe.Gq k y⟩
theorem bE.cons {x:Expr}{xs:List Expr}{p:PV}{ps:List PV}(h:bg C sc mine ρ x p P7)(hs:bE C sc mine P7 xs ps Qa)(hn:∀env,LM (x::xs) env=(false,assign x env)::LM xs env):
 bE C sc mine ρ (x::xs) (p::ps) Qa:=λW own A env s vs t Wt hh X B r=>by
 refine bo r λv us P8 r1 r2=> ?_;rw [P8]
 rw [hn]
 refine Ha (Ip (G' (h _ _ A env s v t Wt hh X B r1) ?_ λ_ _ q=>q))
 intro _ s1 zz;refine cZ zz λX1 B1 k1=> ?_
 refine G' (hs _ _ A env s1 us t Wt hh X1 B1 (fe.Gq k1 r2)) ?_ λ_ _ q=>q
 intro _ s2 zz;refine cZ zz λX2 B2 k2=> ?_
 exact⟨X2,B2,λu q h=>k2 u q (k1 u q h)⟩
theorem bg.tuple {xs:List Expr}{n:Nat}{ps:List PV}(hs:bE C sc mine ρ xs ps Qa)(hn:∀env,(LM xs env).length=ps.length/\(LM xs env).findIdx? (·.1)=none):bg C sc mine ρ (.Tuple xs n pos) (.tup ps) Qa:=λW own A env s v t Wt hh X B r=>by
 obtain⟨a,vs,rfl,f,g,r⟩:=r
 refine Ha (Jb ?_)
 unfold unpack
 refine((hn env).2)▸(show (LM xs env).length=vs.toArray.size by refine((hn env).1)▸?_;exact(aR.length r).symm)▸?_
 refine Ha (Ip (ba (wpAny_unpackItems_tuple hh (⟨_,g,rfl,_,rfl⟩) λh' he hz=> ?_)))
 have e:ah C [] s {s with heap:=h'}:=ah.ext (tk:=s.toks) he hz
 refine G' (hs _ _ A env _ vs t Wt hh (X.aA e) (B.step e) (e.jA r)) ?_ λ_ _ q=>q.elim
 intro _ s2 zz;refine cZ zz λX2 B2 k2=> ?_
 exact⟨X2,B2,λu q h=>k2 u q (e.pC h)⟩
theorem Walks.next_item {I:He}{fp:List He}{n:Nat}{P:Nat->y'->Prop}{Qm:Nat->Ho->Prop}(Wk:Walks C.prog C.w A I fp [I] n P Qm){i:Nat}(hi:i < n)(st:Qm i s.heap){Q:Option y'->Hh->Prop}{E:y'->Hh->Prop}
 (hQ:∀v h' tk,P i v->Qm (i+1) h'->(∀b o,b≠I->s.heap.get? b=some o->h'.get? b=some o)->s.heap.objs.size<=h'.objs.size->Q (some v) {s with heap:=h',toks:=tk}):Hi C.M A (pyNext (.ref I)) Q E s:=
 ba (Wk.item i s _ _ hi st λv h' tk hp hs hk hz=>hQ v h' tk hp hs (λb o hb=>hk b o (by simpa using hb)) hz)
theorem Walks.ui {I:He}{fp:List He}{n:Nat}{P:Nat->y'->Prop}{Qm:Nat->Ho->Prop}(Wk:Walks C.prog C.w A I fp [I] n P Qm)(st:Qm n s.heap){Q:Option y'->Hh->Prop}{E:y'->Hh->Prop}
 (hQ:∀h' tk,(∀b o,b≠I->s.heap.get? b=some o->h'.get? b=some o)->s.heap.objs.size<=h'.objs.size->Q none {s with heap:=h',toks:=tk}):Hi C.M A (pyNext (.ref I)) Q E s:=
 ba (Wk.done s _ _ st λh' tk hk hz=>hQ h' tk (λb o hb=>hk b o (by simpa using hb)) hz)
theorem bN.i7 {h h':Ho}{c P I:He}{q:Str}{ps:Array y'}{o:Ib}(x:bN h c P q ps)(ho:h.get? I=some o)(hi:dP o)(k:∀b o,b≠I->h.get? b=some o->h'.get? b=some o):bN h' c P q ps:=by
 obtain⟨⟨n,hc⟩,vs,hd,hz,h1⟩:=hi
 have Yb:c≠I:=by
  rintro rfl
  refine ib x.tab.1 λo' Ve a _ b e=> ?_
  replace a:=ho▸a;cases a
  replace b:=hd▸b;cases b
  rw [Na (by exact xI hz rfl)] at e
  cases e
 have YC:P≠I:=by
  rintro rfl
  have a:=x.tab.2
  replace a:=ho▸a;cases a
  cases hc
 refine⟨x.code.extBut k Yb YC,x.tab.extBut k Yb YC,λpos c' e=> ?_⟩
 obtain⟨c₂,o',Ve,t',e1,e2,e3,e4⟩:=x.recs pos c' e
 refine⟨c₂,o',Ve,t',e1,k _ _ ?_ e2,e3,e4⟩
 rintro rfl
 replace e2:=ho▸e2;cases e2
 replace e3:=hd▸e3;cases e3
 exact h1 _ _ e4
theorem dP.bq {o:Ib}(h:dP o):Ib.bq o:=by
 obtain⟨_,vs,hd,_⟩:=h
 intro v e
 replace e:=hd▸e;cases e
theorem ah.i7 {I:He}{h':Ho}{tk:Nat}{o:Ib}(ho:s.heap.get? I=some o)(hi:dP o)(k:∀b o,b≠I->s.heap.get? b=some o->h'.get? b=some o)(hz:s.heap.objs.size<=h'.objs.size):ah C [I] s {s with heap:=h',toks:=tk} where
 keep b o' _ hb e:=k b o' (by simpa using hb) e
 size:=hz
 tabs t ht ps x:=⟨#[],(x.i7 ho hi k)⟩
 os:=rfl
 gens:=id
theorem rL {target:Expr}{I:He}{o:Ib}{v:y'}{Q:Unit->Hh->Prop}{E:y'->Hh->Prop}(ho:s.heap.get? I=some o)(hi:wC o)(h:Q () s):Hi C.M A (letOwnedTupleGo target (.ref I) v) Q E s:=by
 refine ae hi λn hc hn=> ?_
 have key:∀a,Hi C.M A (do
  let o <-load I
  match o.cls,o.data with
  | .type n,.fields vs=>
   if ["enumerate","zip","dict_itemiterator","dict_reverseitemiterator","odict_iterator","itertools.zip_longest","itertools.pairwise"].contains n && vs[0]? ==some (JE a) then
    rule "for.unpacks-the-owned-tuple"
    updateField I 0 .none
  |_,_=>pure ()) Q E s:=λa=>by
  refine Ha (PT ho ?_)
  refine hc▸?_
  cases o.data <;> first
   |exact Hu h
   |(simp only [hn,Bool.false_and,Jt,if_false];exact Hu h)
 cases target <;> first
  |exact Hu h
  |(cases v <;> first
   |exact Hu h
   |exact key _)
noncomputable def cB (e:Expr):Bool:=(D4 e).1
structure Dm (need:Bool)(C:Cfg)(W:List He)(L:Nat)(it:y')(ps:List PV)(s:Hh)(I:He)(Qm:Nat->Ho->Prop):Prop where
 it:it= .ref I
 lo:L<=I
 hi:I < s.heap.objs.size
 st:Qm 0 s.heap
 sz:ps.length<=sizeLine
 obj:∀i h,Qm i h->∃o,h.get? I=some o/\dP o
 nt:I∉C.aq
 frame:∀i (P5 P6:Hh),Kp C W L s P5->Qm i P5.heap->Kp C W L s P6->(∀o,P5.heap.get? I=some o->P6.heap.get? I=some o)->Qm i P6.heap
 step:∀{A:JR},A.handled=none->∀{i:Nat} {J:Hh} {target:Expr} {W':List He} {post:Option y'->Hh->Prop} {E:y'->Hh->Prop},i < ps.length->(need=true->cB target=true)->Qm i J.heap->Kp C W L s J->
  (∀a∈W',a∈W\/L<=a)->(∀a∈W',a < J.heap.objs.size)->
  (∀v P5,(∀(Q:Unit->Hh->Prop) (E':y'->Hh->Prop),(∀p h' tk,ps[i]? =some p->Qm (i+1) h'->(∀b o,b≠I->J.heap.get? b=some o->h'.get? b=some o)->J.heap.objs.size<=h'.objs.size->Rr C W' h' v p->Q () {J with heap:=h',toks:=tk})->
   Hi C.M A (letOwnedTupleGo target (.ref I) v) Q E' P5)->post (some v) P5)->
  Hi C.M A (pyNext (.ref I)) post E J
 done:∀{A:JR},A.handled=none->∀{J:Hh} {Q:Option y'->Hh->Prop} {E:y'->Hh->Prop},Qm ps.length J.heap->
  (∀h' tk,(∀b o,b≠I->J.heap.get? b=some o->h'.get? b=some o)->J.heap.objs.size<=h'.objs.size->Q none {J with heap:=h',toks:=tk})->Hi C.M A (pyNext (.ref I)) Q E J
 self:∀{A:JR},A.handled=none->∀{J:Hh} {Q:y'->Hh->Prop} {E:y'->Hh->Prop},Qm 0 J.heap->Q (.ref I) J->Hi C.M A (L6 (.ref I)) Q E J
def Sq (need:Bool)(C:Cfg)(W:List He)(L:Nat)(it:y')(ps:List PV)(s:Hh):Prop:=∃I Qm,Dm need C W L it ps s I Qm
theorem Kp.but {L:Nat}{I:He}{h':Ho}{tk:Nat}(x:Kp C W L s J)(hI:L<=I)(k:∀b o,b≠I->J.heap.get? b=some o->h'.get? b=some o):Kp C W L s {J with heap:=h',toks:=tk}:=λb o n g nc lt=>
 k b o (by rintro rfl;exact HR _ (Ht lt hI)) (x b o n g nc lt)
theorem BX.sq {L:Nat}{it:y'}{ps:List PV}{s:Hh}{I:He}{fp:List He}{P:Nat->y'->Prop}{Qm:Nat->Ho->Prop}(S:BX C W L it ps s I fp P Qm):Dm false C W L it ps s I Qm where
 it:=S.it
 lo:=S.lo
 hi:=S.hi
 st:=S.st
 sz:=S.sz
 obj i h q:=by obtain⟨o,h1,h2,_⟩:=S.obj i h q;exact⟨o,h1,h2⟩
 nt:=S.nt
 frame i P5 P6 k1 h1 k2 hI:=by
  refine(S.walks {} rfl).frame _ _ _ h1 λb hb o g=> ?_
  rcases S.safe b hb with q |⟨q1,q2,ob,q3,q4⟩
  ·subst q;exact hI o g
  ·have:=k1 b ob q2 q3 q4 q1
   rw [this] at g;cases g
   exact k2 b _ q2 q3 q4 q1
 step:=λ{A} hA {i} {J} {target} {W'} {post} {E} hi _ QT kp hW _ hQ=>by
  refine Walks.next_item (S.walks _ hA) hi QT λv h' tk hp Ri hk hz=> ?_
  obtain⟨o,ho,_,hf⟩:=S.obj _ _ Ri
  obtain⟨p,Ul,hr⟩:=S.val _ v hp {J with heap:=h',toks:=tk} _ hW (kp.but S.lo hk)
  exact hQ v _ λQ E' q=>rL ho hf (q p h' tk Ul Ri hk hz hr)
 done:=λ{A} hA {J} {Q} {E} QT hQ=>Walks.ui (S.walks _ hA) QT hQ
 self:=λ{A} hA {J} {Q} {E} QT hQ=>(S.walks _ hA).self 0 _ _ _ QT hQ
theorem Src.sq {L:Nat}{it:y'}{ps:List PV}{s:Hh}(S:Src C W L it ps s):Sq false C W L it ps s:=by obtain⟨_,_,_,_,S⟩:=S;exact⟨_,_,S.sq⟩
def eu (need:Bool)(C:Cfg)(k:Nat)(sc:Sc)(own:Own)(ρ:Str->Option PV)(e:Expr)(ps:List PV):Prop:=
 ∀W A env s,ak A k->St C W sc own ρ env s->Hi C.M A (IQ e env) (λv P5=>ah C [] s P5/\∀A':JR,∀Q:y'->Hh->Prop,∀E,
  (∀it P6,ah C [] P5 P6->Sq need C W P5.heap.objs.size it ps P6->Q it P6)->Hi C.M A' (L6 v) Q E P5) (λ_ _=>False) s
noncomputable abbrev aX:=eu false
theorem gU.g {e:Expr}{ps:List PV}(h:gU C k sc own ρ e ps):aX C k sc own ρ e ps:=λW A env s rm X=>
 G' (h W A env s rm X) (λv P5 q=>⟨q.1,λA' Q E hQ=>q.2 A' Q E λit P6 e2 S=>hQ it P6 e2 S.sq⟩) λ_ _ q=>q
theorem aX.lst {e:Expr}{xs:List PV}(h:Ev C k sc own ρ e (.lst xs))(hz:xs.length<=sizeLine):aX C k sc own ρ e xs:=(gU.lst h hz).g
theorem aX.tup {e:Expr}{xs:List PV}(h:Ev C k sc own ρ e (.tup xs))(hz:xs.length<=sizeLine):aX C k sc own ρ e xs:=(gU.tup h hz).g
theorem aX.str {e:Expr}{x:Str}(h:Ev C k sc own ρ e (.str x))(hz:x.cps.size<=sizeLine):aX C k sc own ρ e (signs x):=(gU.str h hz).g
variable {Wt:List He}{Q:Flow->Hh->Prop}{E:y'->Hh->Prop}{rest:List I9}
theorem St.turn {a:He}{h':Ho}{tk:Nat}{o:Ib}(x:St C W sc own ρ env s)(ha:a∈W)(hL:a≠env.locals)(hm:C.h₀.get? a=none)
 (k:∀b o,b≠a->s.heap.get? b=some o->h'.get? b=some o)(e:ah C [a] s {s with heap:=h',toks:=tk})(ho:s.heap.get? a=some o)(VN:Ib.bq o)
 (Qb:∀y∈own',(y.1=a/\dO C W h' a y.2)\/(y.1≠a/\y∈own)):St C W sc own' ρ env {s with heap:=h',toks:=tk}:=by
 have ht:a∉C.aq:=λq=>by
  refine ae (Hd.mp q) λt ht P8=> ?_;subst P8
  refine aL (x.inv.tabs t ht) λ_ _ y _=> ?_
  exact nomatch hm.symm.trans y.2
 exact x.chg e hm (.inl ha) (λy hy=>(Qb y hy).elim (λq=> .inl ⟨q.1,ha,ht,hL,q.2⟩) .inr)
  (λm hm=>⟨m,(by refine lO hm λo es ep g r=> ?_;exact⟨o,es,ep,k _ _ (H3 hL) g,r⟩),λ_ _ _ h=> .inl ⟨rfl,h⟩⟩) λy c hy hc=> .inl ⟨λq=>x.celW y hy c hc (q▸ha),λ_ h=>h⟩
theorem memC {α:Type}{P:α->Prop}{a:α}{l:List α}(h:P a)(hs:∀x∈l,P x):∀x∈a::l,P x:=KR.2 ⟨h,hs⟩
theorem cps {P:Prop}(h:∀G:Prop,(P->G)->G):P:=h P id
theorem jh {O own:Own}(h:O.map (·.1)=own.map (·.1))(y:He×PV)(hy:y∈O):∃p,(y.1,p)∈own:=by
 have q:y.1∈O.map (·.1):=Mb hy
 rw [h] at q
 refine ae (Hd.mp q) λz hz e=> ?_
 exact⟨z.2,e▸hz⟩
theorem mT {O:Own}{I:He}{p:PV}(h:O.map (·.1)=own.map (·.1)):∀a∈Cfg.turns mine ((I,p)::O) env,a∈I::Cfg.turns mine own env:=λa ha=>by
 unfold Cfg.turns at ha ⊢
 simp only [Hw,h] at ha
 simp only [Hc,HP] at ha ⊢
 rcases ha with h |h |h |h
 ·exact .inr (.inl h)
 ·exact .inr (.inr (.inl h))
 ·exact .inl h
 ·exact .inr (.inr (.inr h))
theorem uy {need:Bool}{target:Expr}{body:List I9}{ps:List PV}{v:y'}(X:St C W sc own ρ env s)(B:Bs C Wt mine t own env s)(rm:ak A k)
 (hit:∀(Q:y'->Hh->Prop) E,(∀it P6,ah C [] s P6->Sq need C W s.heap.objs.size it ps P6->Q it P6)->Hi C.M A (L6 v) Q E s)(O:Nat->Own)(R R':Nat->bP)(h0:O 0=own)(SY:R 0=ρ)(hO:∀i,(O i).map (·.1)=own.map (·.1))
 (Rt:PV->Prop)
 (Qs:∀i p,ps[i]? =some p->bg C sc mine (R i) target p (R' i))
 (turn:∀I o i p t Wt P5,(∀y∈own,y.1≠I)->ps[i]? =some p->St C (I::W) sc ((I,.obj o)::O i) (R' i) env P5->Bs C Wt mine t ((I,.obj o)::O i) env P5->
  Hi C.M A (HA body env) (λf P9=>match f with
   | .next | .cont=>St C (I::W) sc ((I,.obj o)::O (i+1)) (R (i+1)) env P9/\Bs C Wt mine t ((I,.obj o)::O (i+1)) env P9
   | .brk=>False
   | .ret v=>∃p own' Qa,Rt p/\Rr C (I::W) P9.heap v p/\St C (I::W) sc own' Qa env P9/\Bs C Wt mine t own' env P9) (λ_ _=>False) P5)
 (ret:∀v p J,Rt p->Rr C W J.heap v p->Inv C J->ah C Wt t J->Q (.ret v) J)
 (done:∀J,St C W sc (O ps.length) (R ps.length) env J->Bs C Wt mine t (O ps.length) env J->Q .next J)
 (htg:autoParam (need=true->cB target=true) nf):
 Hi C.M A (L6 v) (λit P6=>KD C.M A (.forLoop target it body [] env) (λr J=>match r with | .ok f=>Q f J | .error e=>cameBackBy C.M A env E e J) P6) E s:=by
 refine hit _ _ λit P6 e2 h=> ?_
 obtain⟨I,Qm,hI,lo,Sj,st,_,obj,_,frame,step,Vb,_⟩:=h
 subst hI
 refine cps λG g=> ?_
 refine ae (obj 0 _ st) λQg QA Qd=> ?_
 have SX:C.h₀.get? I=none:=X.inv.beyond lo
 have Uq:I≠env.locals:=λq=>absurd (X.low _ X.noLoc.1) (HH.mpr (q▸lo))
 have R5:∀y∈own,y.1≠I:=λy hy q=>absurd (X.low _ (X.owns y hy).1) (HH.mpr (q▸lo))
 have YE:vD C Wt t I:=⟨SX,.inl (Hf B.aA.size lo)⟩
 have hM:∀a∈I::Cfg.turns mine own env,vD C Wt t a:=memC YE B.iu
 have X2:St C (I::W) sc ((I,.obj Qg)::own) ρ env P6:=
  (X.grow e2 lo Sj).iS f' ⟨QA,Qd.bq⟩ (λq=>absurd (X.inv.gm _ q) (HH.mpr lo)) Uq
 have B2:Bs C Wt mine t own env P6:=B.step e2
 have kp:∀{J},ah C (I::Cfg.turns mine own env) P6 J->Kp C W s.heap.objs.size P6 J:=λe=>Kp.of (own:=own) (X.aA e2) e (memC (.inr lo) λa ha=> .inl ha)
 have T8:∀i o o' (J:Hh) h',(∀b o,b≠I->J.heap.get? b=some o->h'.get? b=some o)->h'.get? I=some o'->Ib.bq o'->∀y∈(I,PV.obj o')::O i,(y.1=I/\dO C (I::W) h' I y.2)\/(y.1≠I/\y∈(I,PV.obj o)::O i):=λi o o' J h' _ g hn=>
  memC (.inl ⟨rfl,g,hn⟩) λy hy=> .inr ⟨(jh (hO i) y hy).elim λp hp=>R5 (y.1,p) hp,j' _ hy⟩
 refine g (codeAny_forLoop_any (λm J=>∃i o,i<=ps.length/\m=ps.length - i/\St C (I::W) sc ((I,.obj o)::O i) (R i) env J/\dP o/\Qm i J.heap/\ah C (I::Cfg.turns mine own env) P6 J) ?_ ps.length ⟨0,Qg,H7 _,rfl,by refine h0▸SY▸?_;exact X2,Qd,st,ah.refl _⟩)
 intro m J hm
 refine cps λG g=> ?_
 refine Cm hm λi o hi QI X' SH QT Tw=> ?_;subst QI
 have RW:J.heap.get? I=some o:=(X'.owns _ f').2.1.1
 refine g ?_
 by_cases Qc:i < ps.length
 ·refine step rm.handled (target:=target) (W':=I::W) Qc htg QT (kp Tw) (memC (.inr lo) λa ha=> .inl ha) (λa ha=>X'.low a ha) λv RG go=>go _ _ λp h' tk Ul Ri hk hz hr=> ?_
  refine cps λG g=> ?_
  have eT:ah C [I] J {J with heap:=h',toks:=tk}:=ah.i7 RW SH hk hz
  refine ae (obj _ _ Ri) λo' Ta RC=> ?_
  have U2:St C (I::W) sc ((I,.obj o')::O i) (R i) env {J with heap:=h',toks:=tk}:=
   X'.turn f' Uq SX hk eT RW SH.bq (T8 i o o' J h' hk Ta RC.bq)
  have Rb:ah C (I::Cfg.turns mine own env) P6 {J with heap:=h',toks:=tk}:=Tw.trans (eT.mono (memC f' λ_ h=>nomatch h))
  refine g (G' (Qs _ _ Ul _ _ A env _ v _ _ rm.handled U2 (Bs.start (((B.join (e2.up.trans Rb) hM).less (jh (hO i))).more YE)) hr) (λ_ s3 h3=>G' (turn _ _ _ _ _ _ _ R5 Ul h3.1 h3.2.1) ?_ λ_ _ q=>q.elim) λ_ _ q=>q.elim)
  intro f s4 hf
  have fin:St C (I::W) sc ((I,.obj o')::O (i+1)) (R (i+1)) env s4/\Bs C (Cfg.turns mine ((I,.obj o')::O i) env) mine {J with heap:=h',toks:=tk} ((I,.obj o')::O (i+1)) env s4->
   ∃m,m < ps.length - i/\∃i o,i<=ps.length/\m=ps.length - i/\St C (I::W) sc ((I,.obj o)::O i) (R i) env s4/\dP o/\Qm i s4.heap/\ah C (I::Cfg.turns mine own env) P6 s4:=λh4=>
   have U5:=Rb.trans (h4.2.aA.mono (mT (hO i)))
   ⟨ps.length - (i+1),Kd Qc (IX i),i+1,o',Qc,rfl,h4.1,RC,frame _ _ _ (kp Rb) Ri (kp U5) λo g=>IF (Ta.symm.trans g)▸(h4.1.owns _ f').2.1.1,U5⟩
  cases f with
  |next=>exact fin hf
  |cont=>exact fin hf
  |brk=>exact hf.elim
  |ret v=>
   refine gB hf λp own' Qa h1 h2 h3 h4=> ?_
   exact ret v p s4 h1 (h2.drop λa ha=>j' _ ha) h3.inv (B2.join (Rb.trans (h4.aA.mono (mT (hO i)))) hM).aA
 ·have:i=ps.length:=Lb hi (HH.mp Qc)
  subst this
  refine Vb rm.handled QT λh' tk hk hz=> ?_
  have eT:ah C [I] J {J with heap:=h',toks:=tk}:=ah.i7 RW SH hk hz
  have X5:St C (I::W) sc (O ps.length) (R ps.length) env {J with heap:=h',toks:=tk}:=
   X'.turn f' Uq SX hk eT RW SH.bq λy hy=> .inr ⟨(jh (hO _) y hy).elim λp hp=>R5 (y.1,p) hp,j' _ hy⟩
  exact Hq (done _ (X5.drop (λa ha=>j' _ ha) (λy hy=>(jh (hO _) y hy).elim λp hp=>(X.owns _ hp).1) X.noLoc.1)
   ((B2.join (Tw.trans (eT.mono (memC f' λ_ h=>nomatch h))) hM).less (jh (hO _))))
theorem a7 {need:Bool}{target iter:Expr}{body:List I9}{ps:List PV}(X:St C W sc own ρ env s)(B:Bs C Wt mine t own env s)(rm:ak A k)
 (hi:eu need C k sc own ρ iter ps)(O:Nat->Own)(R R':Nat->bP)(h0:O 0=own)(SY:R 0=ρ)(hO:∀i,(O i).map (·.1)=own.map (·.1))
 (Rt:PV->Prop)
 (Qs:∀i p,ps[i]? =some p->bg C sc mine (R i) target p (R' i))
 (turn:∀I o i p t Wt P5,(∀y∈own,y.1≠I)->ps[i]? =some p->St C (I::W) sc ((I,.obj o)::O i) (R' i) env P5->Bs C Wt mine t ((I,.obj o)::O i) env P5->
  Hi C.M A (HA body env) (λf P9=>match f with
   | .next | .cont=>St C (I::W) sc ((I,.obj o)::O (i+1)) (R (i+1)) env P9/\Bs C Wt mine t ((I,.obj o)::O (i+1)) env P9
   | .brk=>False
   | .ret v=>∃p own' Qa,Rt p/\Rr C (I::W) P9.heap v p/\St C (I::W) sc own' Qa env P9/\Bs C Wt mine t own' env P9) (λ_ _=>False) P5)
 (ret:∀v p J,Rt p->Rr C W J.heap v p->Inv C J->ah C Wt t J->Q (.ret v) J)
 (done:∀J,St C W sc (O ps.length) (R ps.length) env J->Bs C Wt mine t (O ps.length) env J->Hi C.M A (HA rest env) Q E J)
 (hs:∀x,H4 iter env x=pure x)(htg:autoParam (need=true->cB target=true) nf):Hi C.M A (HA (.For target iter body [] pos::rest) env) Q E s:=by
 refine Ia (wpAny_For (G' (hi _ A env s rm X) (λv P5 h=> ?_) λ_ _ q=>q.elim) hs)
 exact uy (X.aA h.1) (B.step h.1) rm (h.2 A) O R R' h0 SY hO Rt Qs turn ret done htg
theorem xW {need:Bool}{target iter:Expr}{body:List I9}{ps:List PV}(X:St C W sc own ρ env s)(B:Bs C Wt mine t own env s)(rm:ak A k)
 (hi:eu need C k sc own ρ iter ps)(O:Nat->Own)(R R':Nat->bP)(h0:O 0=own)(SY:R 0=ρ)(hO:∀i,(O i).map (·.1)=own.map (·.1))
 (Rt:PV->Prop)
 (Qs:∀i p,ps[i]? =some p->bg C sc mine (R i) target p (R' i))
 (turn:∀I o i p t Wt P5,ps[i]? =some p->St C (I::W) sc ((I,.obj o)::O i) (R' i) env P5->Bs C Wt mine t ((I,.obj o)::O i) env P5->
  Hi C.M A (HA body env) (λf P9=>match f with
   | .next | .cont=>St C (I::W) sc ((I,.obj o)::O (i+1)) (R (i+1)) env P9/\Bs C Wt mine t ((I,.obj o)::O (i+1)) env P9
   | .brk=>False
   | .ret v=>∃p own' Qa,Rt p/\Rr C (I::W) P9.heap v p/\St C (I::W) sc own' Qa env P9/\Bs C Wt mine t own' env P9) (λ_ _=>False) P5)
 (ret:∀v p J,Rt p->Rr C W J.heap v p->Inv C J->ah C Wt t J->Q (.ret v) J)
 (done:∀J,St C W sc (O ps.length) (R ps.length) env J->Bs C Wt mine t (O ps.length) env J->Hi C.M A (HA rest env) Q E J)
 (hs:∀x,H4 iter env x=pure x)(htg:autoParam (need=true->cB target=true) nf):Hi C.M A (HA (.For target iter body [] pos::rest) env) Q E s:=
 a7 X B rm hi O R R' h0 SY hO Rt Qs (λI o i p t Wt P5 _=>turn I o i p t Wt P5) ret done hs htg
theorem bF:∀(names:List (Str×IS))(n:Nat)(acc:List (Str×He)),Ie n names acc=Ie n names [] ++ acc:=by
 intro q0
 induction q0 with
 |nil=>
  intro _ _
  exact rfl
 |cons q1 r ih=>
  intro n acc
  simp only [Ie]
  split
  ·simp only [ih (n+1) ((q1.1,n)::acc),ih (n+1) [(q1.1,n)]];simp
  ·exact ih n acc
theorem aY {x:Str}:∀{names:List (Str×IS)}{n:Nat}{acc:List (Str×He)},(x,MG)∈names->∃c,(x,c)∈Ie n names acc
 |(y,kd)::r,n,acc,h=>by
  simp only [Ie]
  rcases Hc.mp h with e |h
  ·cases e
   rw [bF]
   exact⟨n,by simp⟩
  ·split
   ·exact aY h
   ·exact aY h
theorem dG {x:Str}{c:He}:∀{names:List (Str×IS)}{n:Nat},(x,c)∈Ie n names []->(x,MG)∈names
 |[],_,h=>by cases h
 |(y,kd)::r,n,h=>by
  unfold Ie at h
  split at h
  ·rename_i hk
   rw [bF] at h
   rcases HP.mp h with h |h
   ·exact j' _ (dG h)
   ·cases Hm.mp h
    have:kd= .cell:=by simpa using hk
    refine this▸?_;exact f'
  ·exact j' _ (dG h)
noncomputable def aT (cells:List (Str×He)):List (Str×IS)->List (Str×He)->List (Str×He)
 |[],acc=>acc
 |(n,kd)::r,acc=>if kd== .free then aT cells r ((n,(cells.lookup n).getD 0)::acc) else aT cells r acc
theorem fH (cells:List (Str×He)) {acc}:aT cells [] acc=(acc):=rfl
theorem fK (cells:List (Str×He)) {n kd r acc}:aT cells ((n,kd)::r) acc=(if kd== .free then aT cells r ((n,(cells.lookup n).getD 0)::acc) else aT cells r acc):=rfl
theorem ml (cells:List (Str×He)):∀(names:List (Str×IS))(acc:List (Str×He)),aT cells names acc=aT cells names [] ++ acc:=by
 intro q0
 induction q0 with
 |nil=>
  intro _
  exact rfl
 |cons q1 r ih=>
  obtain⟨x,kd⟩:=q1
  intro acc
  simp only [fH,fK]
  split
  ·simp only [ih (_::acc),ih [_]];simp
  ·exact ih acc
theorem bZ {cells:List (Str×He)}{x:Str}{c:He}:∀{names:List (Str×IS)},(x,c)∈aT cells names []↔(x,IS.free)∈names/\c=(cells.lookup x).getD 0
 |[]=>by simp [fH,fK]
 |(y,kd)::r=>by
  simp only [fH,fK]
  split
  ·rename_i hk
   have:kd= .free:=by simpa using hk
   subst this
   rw [ml,HP,bZ,Hm,Hc]
   constructor
   ·rintro(⟨h1,h2⟩ |h)
    ·exact⟨.inr h1,h2⟩
    ·cases h;exact⟨.inl rfl,rfl⟩
   ·rintro⟨h |h,h2⟩
    ·cases h;exact .inr (by rw [h2])
    ·exact .inl ⟨h,h2⟩
  ·rename_i hk
   rw [bZ,Hc]
   constructor
   ·rintro⟨h1,h2⟩;exact⟨.inr h1,h2⟩
   ·rintro⟨h |h,h2⟩
    ·cases h;exact absurd rfl hk
    ·exact⟨h,h2⟩
theorem wA {env:Mm}(f:Str×IS->List (Str×He)->Jj (ForInStep (List (Str×He))))
 (hf:∀name kind cells,f (name,kind) cells=if kind== .free then(do let a <-cellOf env name;pure (.yield ((name,a)::cells))) else pure (.yield cells)):
 ∀(names:List (Str×IS)) (acc:List (Str×He)),(∀x∈names,x.2= .free->(env.cells.lookup x.1).isSome=true)->forIn names acc f=pure (aT env.cells names acc):=by
 intro q0
 induction q0 with
 |nil=>
  intro acc _
  rfl
 |cons q1 r ih=>
  obtain⟨n,kd⟩:=q1
  intro acc hr
  simp only [JF,hf]
  simp only [fH,fK]
  cases hk:kd==IS.free with
  |true=>
   refine cA (J8.mp (hr (n,kd) f' (by simpa using hk))) λc hc=> ?_
   unfold cellOf
   refine hc▸?_
   exact ih _ λx hx=>hr x (j' _ hx)
  |false=>
   exact ih _ λx hx=>hr x (j' _ hx)
theorem ei {scope:Scope}{env:Mm}(h:∀x∈scope.names,x.2= .free->(env.cells.lookup x.1).isSome=true):closureFor scope env=pure (aT env.cells scope.names []):=by
 have:=wA (env:=env) (λx cs=>match x with
  |(name,kind)=>if kind==IS.free then(do let a <-cellOf env name;pure (.yield ((name,a)::cs))) else pure (.yield cs)) (λ_ _ _=>rfl) scope.names [] h
 unfold closureFor
 dsimp only
 exact(HV (λm=>m >>=pure) this)
theorem mB {cells:List (Str×He)}(hp:cells.Pairwise λx y=>x.2≠y.2):∀{l:List (Str×He)},(l.map (·.1)).Nodup->(∀x c,(x,c)∈l->cells.lookup x=some c)->l.Pairwise λx y=>x.2≠y.2
 |[],_,_=> .nil
 |(x,c)::r,nd,h=>by
  refine Ih.mpr ⟨λy hy e=> ?_,mB hp (HJ.mp nd).2 λx c hm=>h x c (j' _ hm)⟩
  have h2:=h y.1 y.2 (j' _ hy)
  rw [<-e] at h2
  have:=lU hp (h x c f') h2
  exact(HJ.mp nd).1 (Hd.mpr ⟨y,hy,this.symm⟩)
theorem cT {cells:List (Str×He)}:∀{names:List (Str×IS)},(names.map (·.1)).Nodup->((aT cells names []).map (·.1)).Nodup
 |[],_=>by assumption
 |(x,kd)::r,nd=>by
  simp only [fH,fK]
  split
  ·rw [ml,HC,Jz]
   refine⟨cT (HJ.mp nd).2,by simp,?_⟩
   intro a ha b hb e
   rw [Hw,IU,Hm] at hb
   subst hb
   subst e
   obtain⟨⟨a',c⟩,hm,rfl⟩:=Hd.mp ha
   exact(HJ.mp nd).1 (Hd.mpr ⟨_,(bZ.mp hm).1,rfl⟩)
  ·exact cT (HJ.mp nd).2
theorem aH {α:Type}{x:Str}:∀{l:List (Str×α)}{c:α},(x,c)∈l->∃d,l.lookup x=some d
 |(y,d)::r,c,h=>by
  simp only [Hr]
  cases hx:x==y with
  |true=>exact⟨d,rfl⟩
  |false=>
   rcases Hc.mp h with e |h
   ·cases e;simp at hx
   ·exact aH h
theorem b7 {α:Type}{x:Str}{l:List (Str×α)}{c:α}(hn:(l.map (·.1)).Nodup)(h:(x,c)∈l):l.lookup x=some c:=by
 induction l with
 |nil=>cases h
 |cons y r ih=>
  rw [Hr]
  rcases Hc.mp h with rfl |h
  ·simp
  ·have:(x==y.1)=false:=by
    have:=(HJ.mp hn).1
    by_cases q:x=y.1
    ·exact absurd (Hd.mpr ⟨_,h,q⟩) this
    ·simpa using q
   refine this▸?_
   exact ih (HJ.mp hn).2 h
noncomputable def rM (scope S:Scope):Scope:={scope with names:=scope.names.map λ(n,k)=>if(k== .free && S.kind== .function && S.names.lookup n==some .cell) then(n,.cell) else(n,k)}
theorem yS (scope:Scope)(env:Mm):relabel scope env=rM scope env.scope:=rfl
theorem kF {scope S:Scope}{x:Str}:(rM scope S).names.lookup x=(scope.names.lookup x).map λk=>if(k== .free && S.kind== .function && S.names.lookup x==some .cell)=true then .cell else k:=by
 unfold rM
 dsimp only
 generalize scope.names=l
 induction l with
 |nil=>rfl
 |cons y r ih=>
  obtain⟨n,k⟩:=y
  rw [Hw]
  cases hx:x==n with
  |true=>
   have:x=n:=by simpa using hx
   rw [this]
   dsimp only
   split
   ·rename_i q;simp only [Hr];simp only [beq_self_eq_true,L7,q,if_true,Jt,if_false]
   ·rename_i q;simp only [Hr];simp only [beq_self_eq_true,L7,q,if_true,Jt,if_false]
  |false=>
   dsimp only
   split <;> simp only [Hr,hx] <;> exact ih
variable {scope:Scope}
structure fb (scope:Scope)(sc:Sc):Prop where
 kind:scope.kind= .function
 nd:(scope.names.map (·.1)).Nodup
 free:∀x∈scope.names,x.2= .free->sc.scope.names.lookup x.1=some .cell\/sc.scope.names.lookup x.1=some .free
noncomputable def dT (scope:Scope) (sc:Sc):Sc:=⟨rM scope sc.scope,sc.qual,sc.code⟩
noncomputable def iY (scope:Scope) (env:Mm) (L:He):Mm:={scope:=relabel scope env,locals:=L,globals:=env.globals,cells:=Ie (L+1) scope.names (aT env.cells scope.names []),qual:=env.qual,func:=none,code:=env.code,frame:=env.frame,builtins:=env.builtins}
noncomputable def bA (scope:Scope) (ρ:bP):bP:=λy=>if scope.names.lookup y=some .free then ρ y else none
noncomputable def ek (scope:Scope) (h:Ho):Ho:=pushCells (h.push {cls:= .type "dict",data:= .dict #[]}) scope.names
theorem ia:∀(names:List (Str×IS))(h:Ho),h.objs.size<=(pushCells h names).objs.size:=by
 intro q0
 induction q0 with
 |nil=>
  intro _
  exact Hk _
 |cons q1 r ih=>
  intro h
  simp only [pushCells]
  split
  ·exact Hf (IB cg) (ih _)
  ·exact ih h
theorem gx:ah C W s {s with heap:=ek scope s.heap}:=
 ah.of_keeps (tk:=s.toks) (λb o e=>Lc _ _ b o (Hj _ e)) (Hf (IB cg) (ia _ _))
theorem qh {cl:List (Str×He)}{Q:Mm->Hh->Prop}(h:Q {scope:=scope,locals:=s.heap.objs.size,globals:=env.globals,cells:=Ie (s.heap.objs.size+1) scope.names cl,qual:=env.qual,func:=none,code:=env.code,frame:=env.frame,builtins:=env.builtins} {s with heap:=ek scope s.heap}):
 Hi C.M A (newFunctionEnv scope env.globals cl [] env.qual none .none (some env)) Q E s:=by
 simp only [newFunctionEnv,NY,if_true]
 refine Ha (PC ?_)
 refine Ha (OX _ (λname kind cells=>by cases hkc:kind==MG <;> rfl) _ _ _ _ ?_)
 refine(show ({s with heap:=s.heap.push {cls:= .type "dict",data:= .dict #[]}}:Hh).heap.objs.size=s.heap.objs.size+1 from Io ..)▸?_
 exact Ha (Hu (Hu h))
theorem St.comp (X:St C W sc own ρ env s)(ok:fb scope sc):
 St C (s.heap.objs.size::W) (dT scope sc) own (bA scope ρ) (iY scope env s.heap.objs.size) {s with heap:=ek scope s.heap}:=by
 have e:ah C [] s {s with heap:=ek scope s.heap}:=gx
 have U1:=Pk scope.names (s.heap.push {cls:= .type "dict",data:= .dict #[]}) (s.heap.objs.size+1) [] ⟨λ_ _ hm=>(nomatch hm),I7⟩ (by simp)
 rw [Io] at U1
 have QK:=bF scope.names (s.heap.objs.size+1) (aT env.cells scope.names [])
 have QS:∀x,(x,IS.free)∈scope.names->∃c cv,env.cells.lookup x=some c/\s.heap.IsCell c cv/\∀p,ρ x=some p->∃v,cv=some v/\Rr C W s.heap v p:=λx hx=>X.cel x (ok.free _ hx rfl)
 have Ue:∀x c,(x,c)∈aT env.cells scope.names []->env.cells.lookup x=some c:=λx c h=>by
  obtain⟨h1,h2⟩:=bZ.mp h
  refine aL (QS x h1) λc' _ h3 _=> ?_
  rw [h3] at h2 ⊢
  rw [h2];rfl
 have QP:∀a∈W,a < s.heap.objs.size:=X.low
 refine⟨X.inv.jB e,⟨?_,X.ok.globals,X.ok.builtins,X.ok.qual,X.ok.code,ok.kind⟩,λb hb=> ?_,λy hy=> ?_,⟨_,(PD s.heap (.type "dict")).keeps (Lc _ _),λy p h1 h2=> ?_⟩,λy hy=> ?_,?_,⟨f',λh=>X.gd.fresh (.inl h)⟩,λy hy h=> ?_,jm (X.inv.beyond (Hk _)) X.new,λy hy c hc hW=> ?_⟩
 ·show relabel scope env=rM scope sc.scope
  simp only [yS,X.ok.scope]
 ·rcases Hc.mp hb with rfl |hb
  ·exact Ht cg (ia _ _)
  ·exact Ht (QP b hb) e.size
 ·refine cZ (X.owns y hy) λh1 h2 h3=> ?_
  exact⟨j' _ h1,h2.grow (Hk _) e h3,h3⟩
 ·unfold bA at h2
  rw [show (dT scope sc).scope=rM scope sc.scope from rfl,kF] at h1
  split at h2
  ·rename_i q
   replace h1:=q▸h1
   simp only [L7,beq_self_eq_true,K7,My] at h1
   split at h1 <;> cases h1
  ·cases h2
 ·rw [show (dT scope sc).scope=rM scope sc.scope from rfl,kF] at hy
  show ∃c cv,(Ie (s.heap.objs.size+1) scope.names (aT env.cells scope.names [])).lookup y=some c/\_
  simp only [QK,IA]
  cases hk:scope.names.lookup y with
  |none=>rw [hk] at hy;simp at hy
  |some kd=>
   have hm:=mem_of_lookup hk
   by_cases hc:kd= .cell
   ·subst hc
    obtain⟨c,Uy⟩:=aY (n:=s.heap.objs.size+1) (acc:=[]) hm
    obtain⟨d,hd⟩:=aH Uy
    refine hd▸?_
    refine⟨d,Kr,rfl,(U1.empty y d (mem_of_lookup hd)).1,λp hp=> ?_⟩
    unfold bA at hp
    rw [hk] at hp
    simp at hp
   ·have hf:kd= .free:=by
     cases kd <;> simp_all
    subst hf
    have hn:(Ie (s.heap.objs.size+1) scope.names []).lookup y=Kr:=by
     cases q:(Ie (s.heap.objs.size+1) scope.names []).lookup y with
     |none=>rfl
     |some d=>
      have h1:=b7 ok.nd (dG (mem_of_lookup q))
      replace h1:=hk▸h1;cases h1
    rw [hn]
    refine bo (QS y hm) λc cv h1 z8 h3=> ?_;refine ae z8 λoc h2 Rn=> ?_
    refine⟨c,cv,by refine((b7 (cT ok.nd) (bZ.mpr ⟨hm,by rw [h1];rfl⟩):(aT env.cells scope.names []).lookup y=some c))▸?_;rfl,⟨oc,Lc _ _ _ _ (Hj _ h2),Rn⟩,λp hp=> ?_⟩
    unfold bA at hp
    rw [HE hk] at hp
    refine ae (h3 p hp) λv h4 h5=> ?_
    exact⟨v,h4,h5.grow e (Hk _)⟩
 ·show (Ie (s.heap.objs.size+1) scope.names (aT env.cells scope.names [])).Pairwise _
  rw [QK,I3]
  refine⟨U1.apart,mB X.apart (cT ok.nd) Ue,λa ha b hb=> ?_⟩
  refine bo (QS b.1 (bZ.mp (show (b.1,b.2)∈_ from hb)).1) λc cv h3 z8 _=> ?_;refine ae z8 λoc h4 _=> ?_
  have:=Ue b.1 b.2 hb
  replace this:=h3▸this;cases this
  intro e
  have h5:=Hx h4
  rw [<-e] at h5
  exact HR _ (Mf (N8 ((U1.empty a.1 a.2 ha).2)) h5)
 ·have h1:=QP _ (X.owns y hy).1
  rw [h] at h1
  exact HR _ h1
 ·have SO:(Ie (s.heap.objs.size+1) scope.names (aT env.cells scope.names [])).lookup y=some c:=hc
  replace SO:=QK▸SO
  rcases HP.mp (Ij SO) with q |q
  ·have h1:=(U1.empty y c q).2
   rcases Hc.mp hW with rfl |hW
   ·exact absurd h1 (NZ.mpr (IX _))
   ·exact absurd (N8 h1) (HH.mpr (IB (QP c hW)))
  ·have h1:=Ue y c q
   refine bo (QS y (bZ.mp q).1) λc' cv h3 z8 _=> ?_;refine ae z8 λoc h4 _=> ?_
   replace h3:=h1▸h3;cases h3
   rcases Hc.mp hW with rfl |hW
   ·exact absurd (Hx h4) (HR _)
   ·exact X.celW y (ok.free _ (bZ.mp q).1 rfl) c h1 hW
variable {R:Result->Hh->Prop}{e:Expr}{d:Nat}{it acc:y'}
def i8 (e:Expr):Prop:=(∃a b c d,e= .ListComp a b c d)\/∃a b c d f,e= .DictComp a b c d f
theorem fy (he:i8 e){g:I4}(hg:(clausesOf e)[d]? =some g)(Vz:g.is_async=0)
 (h0:KD C.M A (.compLoop e d it acc env) R s)
 (h:Hi C.M A (L6 it) (λVJ J=>KD C.M A (.compLoop e d VJ acc env) R J) (λ_ _=>False) s):KD C.M A (.compStart e d it acc env) R s:=by
 refine codeAny_of_tree ?_
 suffices hh:Hi C.M A ((compStart e d it acc env).onRaise (λx=>do noteFrame x env;standAt theWindowsPlace)) (λfin J=>match fin with
  | .done f=>R (.ok f) J
  | .again c'=>c'.quiet=true/\KD C.M A c' R J) (λe J=>R (.error e) J) s by
  rcases he with ⟨a,b,c,d,rfl⟩ |⟨a,b,c,d,f,rfl⟩ <;> exact hh
 have hq:∀VJ,(Code.compLoop e d VJ acc env).quiet=true:=by
  rcases he with ⟨a,b,c,d,rfl⟩ |⟨a,b,c,d,f,rfl⟩ <;> exact λ_=>rfl
 refine wpAny_notedAt ?_
 unfold compStart
 refine hg▸?_
 simp_all
 refine Ha (Ot ?_)
 split
 ·exact Ha (Hu (Hu (And.intro (hq _) h0)))
 ·exact Ha (Nb (Ha (Jb (Ha (G' h (λVJ J h'=>Hu (And.intro (hq _) h')) λ_ _ x=>x.elim)))))
noncomputable def tests (ifs:List Expr) (env:Mm):Jj Bool:=forIn ifs true λc r=>if r=true then do let ok <-isTrue c env (IQ c env);pure (Ic ok) else pure (Ic r)
noncomputable def gJ (e:Expr) (d:Nat) (target iter:Expr) (ifs:List Expr) (inner:Mm->He->Jj Unit) (it:y') (D:He) (env:Mm):Jj LN:=do
 standAt iter.pos
 match <-pyNext it with
 |none=>pure (.done .next)
 |some v=>
  letOwnedTupleGo target it v
  assign target env v
  let mut ok:=true
  for c in ifs do
   if ok then ok <-isTrue c env (IQ c env)
  if ok then
   inner env D
  again (.compLoop e d it (.ref D) env)
theorem oK (he:i8 e){target iter:Expr}{ifs:List Expr}{inner:Mm->He->Jj Unit}{D:He}(heq:KS e d it (.ref D) env=gJ e d target iter ifs inner it D env)
 (I:Nat->Hh->Prop)
 (turn:∀n s,I n s->Hi C.M A (pyNext it) (λr P5=>match r with
  |none=>R (.ok .next) P5
  |some v=>Hi C.M A (letOwnedTupleGo target it v) (λ_ RG=>Hi C.M A (assign target env v) (λ_ P6=>
   Hi C.M A (tests ifs env) (λok P9=>
    if ok=true then Hi C.M A (inner env D) (λ_ s₅=>∃m,m < n/\I m s₅) (λ_ _=>False) P9
    else ∃m,m < n/\I m P9) (λ_ _=>False) P6) (λ_ _=>False) RG) (λ_ _=>False) P5) (λ_ _=>False) s)
 (n:Nat)(h:I n s):KD C.M A (.compLoop e d it (.ref D) env) R s:=by
 refine Pm (by rcases he with ⟨a,b,c,d,rfl⟩ |⟨a,b,c,d,f,rfl⟩ <;> rfl) I (λn s hI=> ?_) n h
 suffices hh:Hi C.M A ((KS e d it (.ref D) env).onRaise (λx=>do noteFrame x env;theTreesLotGoes x)) (λfin J=>match fin with
  | .done f=>R (.ok f) J
  | .again c'=>c'= .compLoop e d it (.ref D) env/\∃m,m < n/\I m J) (λe J=>R (.error e) J) s by
  rcases he with ⟨a,b,c,d,rfl⟩ |⟨a,b,c,d,f,rfl⟩ <;> exact hh
 refine PE ?_
 refine heq▸?_
 refine Ha (Jb (Ha (G' (turn n s hI) (λr P5 RS=> ?_) λ_ _ h'=>h'.elim)))
 cases r with
 |none=>exact Hu RS
 |some v=>
  refine Ha (G' RS (λ_ RG UJ=> ?_) λ_ _ h'=>h'.elim)
  refine Ha (G' UJ (λ_ P6 Sz=>Ha (G' Sz (λok P9 R9=> ?_) λ_ _ h'=>h'.elim)) λ_ _ h'=>h'.elim)
  cases ok with
  |false=>exact Hu ⟨rfl,R9⟩
  |true=>exact Ha (G' R9 (λ_ s₅ QL=>Hu ⟨rfl,QL⟩) λ_ _ h'=>h'.elim)
variable {own₁ own₂:Own}{D:He}{L:Nat}
def uv (s:Hh)(V:List He):Prop:=∀a∈V,∃o,s.heap.get? a=some o/\∀fd,o.data≠.func fd
def DF (own:Own):Prop:=∀y∈own,∀o,y.2= .obj o->∀fd,o.data≠.func fd
theorem dP.yl {o:Ib}(h:dP o):∀fd,o.data≠.func fd:=λ_ q=>by obtain⟨_,_,d,_⟩:=h;exact nomatch d.symm.trans q
theorem dO.yl {a:He}{p:PV}(h:dO C W s.heap a p)(hI:∀o,p= .obj o->∀fd,o.data≠.func fd):∃o,s.heap.get? a=some o/\∀fd,o.data≠.func fd:=by
 cases p with
 |lst xs=>refine aL h λ_ _ g _=> ?_;exact⟨_,g,λ_ q=>nomatch q⟩
 |au xs=>refine lO h λ_ _ _ g _=> ?_;exact⟨_,g,λ_ q=>nomatch q⟩
 |obj o=>exact⟨o,h.1,hI o rfl⟩
 |_=>exact h.elim
theorem lH (X:St C W sc own ρ env s)(h:DF own):uv s (Cfg.turns mine own env):=
 fQ (by obtain⟨_,⟨o,_,_,g,d,_⟩,_⟩:=X.loc;exact⟨o,g,λ_ q=>nomatch d.symm.trans q⟩) (λ_ _ _ hk hc=>by refine aL (X.oJ hk hc) λo _ g d=> ?_;exact⟨o,g,λ_ q=>nomatch d.symm.trans q⟩) λy hy=>(X.owns y hy).2.1.yl (h y hy)
noncomputable abbrev Acc:=PV->Hh->Prop
noncomputable abbrev kW (p:PV):Acc:=λq _=>q=p
def kC (p:PV):Prop:=∀o,p≠.obj o
theorem kC.lst {xs:List PV}:kC (.lst xs):=λ_ q=>by cases q
theorem kC.au {xs:List (Str×PV)}:kC (.au xs):=λ_ q=>by cases q
def jQ (C:Cfg)(Ac:Acc):Prop:=∀p s J V,Inv C s->Ac p s->ah C V s J->uv s V->Ac p J
theorem jQ.eq {p:PV}:jQ C (kW p):=λ_ _ _ _ _ h _ _=>h
def A1 (Z:Prop)(C:Cfg)(Ac:Acc):Prop:=∀p s J V,Inv C s->Ac p s->ah C V s J->(Z->uv s V)->Ac p J
def ja (C:Cfg)(k:Nat)(sc:Sc)(mine:Str->Bool)(ρ:bP)(Ac:Acc)(Qa:bP)(RZ:Acc)(m:Mm->He->Jj Unit):Prop:=
 ∀W own' A env s D acc t Wt,ak A k->(∀y∈own',y.1≠D)->DF own'->kC acc->Ac acc s->St C W sc ((D,acc)::own') ρ env s->Bs C Wt mine t ((D,acc)::own') env s->
  Hi C.M A (m env D) (λ_ J=>∃acc',kC acc'/\RZ acc' J/\St C W sc ((D,acc')::own') Qa env J/\Bs C Wt mine t ((D,acc')::own') env J) (λ_ _=>False) s
def tZ (C:Cfg)(k:Nat)(sc:Sc)(own:Own)(ρ:bP)(ifs:List Expr)(b:Bool):Prop:=
 ∀W A env s,ak A k->St C W sc own ρ env s->Hi C.M A (tests ifs env) (λok J=>ah C [] s J/\ok=b) (λ_ _=>False) s
theorem tZ.nil:tZ C k sc own ρ [] true:=λW A env s rm X=>Hu ⟨ah.refl _,rfl⟩
theorem tZ.one {c:Expr}{b:Bool}(h:Tr C k sc own ρ c b):tZ C k sc own ρ [c] b:=λW A env s rm X=>
 wpAny_tests_one (h W A env s rm X)
def nW (C:Cfg)(k:Nat)(sc:Sc)(mine:Str->Bool)(ρ:bP)(target:Expr)(ifs:List Expr)(Ac:Nat->Acc)(inner:Mm->He->Jj Unit)(ps:List PV):Prop:=
 ∀i p,ps[i]? =some p->∃P7 b,bg C sc mine ρ target p P7/\tZ C k sc [] P7 ifs b/\
  (if b=true then ja C k sc mine P7 (Ac i) ρ (Ac (i+1)) inner else((∀y q,ρ y=some q->P7 y=some q)/\∀p s,Ac i p s->Ac (i+1) p s))
theorem Dm.rebase {need:Bool}{ps:List PV}{I:He}{Qm:Nat->Ho->Prop}(S:Dm need C W L it ps s I Qm)(e:ah C [] s J)(hW:∀a∈W,a∈W')(XM:∀a∈W',a∈W\/L<=a):Dm need C W' L (.ref I) ps J I Qm:=by
 have sub:∀b,b < L->¬C.N W b->¬C.N W' b:=λb lt n q=>by
  rcases q with q |q
  ·exact n (.inl q)
  ·rcases XM b q with q |q
   ·exact n (.inr q)
   ·exact HR _ (Ht lt q)
 have kk:∀{P5},Kp C W' L J P5->Kp C W L s P5:=λkp b o n g nc lt=>kp b o (sub b lt n) (e.keep _ _ (λq=>n (.inl q)) (by simp) g) nc lt
 refine {it:=rfl,lo:=S.lo,hi:=Ht S.hi e.size,st:= ?_,sz:=S.sz,obj:=S.obj,nt:=S.nt,frame:= ?_,step:= ?_,done:=λ{A} hA {J} {Q} {E} QT hQ=>S.done hA QT hQ,self:=λ{A} hA {J} {Q} {E} QT hQ=>S.self hA QT hQ}
 ·exact S.frame _ s J (λ_ _ _ g _ _=>g) S.st (λb o n g nc lt=>e.keep _ _ (λq=>n (.inl q)) (by simp) g) λo g=>e.keep _ _ S.nt (by simp) g
 ·exact λi P5 P6 k1 h1 k2 hI=>S.frame i P5 P6 (kk k1) h1 (kk k2) hI
 ·exact λ{A} hA {i} {P5} {target} {W''} {post} {E} hi ht QT kp hW2 QP hQ=>S.step hA hi ht QT (kk kp) (λa ha=>(hW2 a ha).elim (XM a) .inr) QP hQ
theorem Bs.yv (b:Bs C Wt mine t own env s)(h:own'.map (·.1)=own.map (·.1)):Bs C (Cfg.turns mine own env) mine J own' env J where
 aA:=ah.refl J
 loc:=⟨b.loc.1,.inr f'⟩
 cel x c h1 hk h2:=⟨(b.cel x c h1 hk h2).1,.inr (j' _ (HW _ (Mn.mpr ⟨(x,.cell),mem_of_lookup hk,by simp_all⟩)))⟩
 owns x hx:=by
  have:x.1∈own.map (·.1):=by refine h▸?_;exact Hd.mpr ⟨x,hx,rfl⟩
  refine ae (Hd.mp this) λy hy e=> ?_
  refine e▸?_
  exact⟨(b.owns y hy).1,.inr (j' _ (Ig _ (Hd.mpr ⟨y,hy,rfl⟩)))⟩
def rA (Z:Prop)(C:Cfg)(k:Nat)(sc:Sc)(mine:Str->Bool)(own₁ own₂:Own)(ρ:bP)(Ac:Acc)(Qa:bP)(RZ:Acc)(m:Mm->He->Jj Unit):Prop:=
 ∀W pre A env s D acc t Wt,ak A k->(∀y∈pre ++ own₁,y.1≠D)->(∀y∈pre,∀z∈own₁,y.1≠z.1)->(Z->DF (pre ++ own₁))->kC acc->Ac acc s->St C W sc ((D,acc)::(pre ++ own₁)) ρ env s->Bs C Wt mine t ((D,acc)::(pre ++ own₁)) env s->
  Hi C.M A (m env D) (λ_ J=>∃acc',kC acc'/\RZ acc' J/\St C W sc ((D,acc')::(pre ++ own₂)) Qa env J/\Bs C Wt mine t ((D,acc')::(pre ++ own₂)) env J) (λ_ _=>False) s
theorem ja.GZ {Ac RZ:Acc}{m:Mm->He->Jj Unit}(h:ja C k sc mine ρ Ac Qa RZ m):rA True C k sc mine own own ρ Ac Qa RZ m:=λW pre A env s D acc t Wt rm h1 _ h3=>h W (pre ++ own) A env s D acc t Wt rm h1 (h3 trivial)
theorem mu {Z:Prop}{need:Bool}(he:i8 e){target iter:Expr}{ifs:List Expr}{inner:Mm->He->Jj Unit}(heq:KS e d it (.ref D) env=gJ e d target iter ifs inner it D env)
 {ps:List PV}{Ac:Nat->Acc}{Ow:Nat->Own}(Sr:∀i,(Ow i).map (·.1)=(Ow 0).map (·.1))(Qy:∀i,A1 Z C (Ac i))(step:∀i p,ps[i]? =some p->∃P7 b,bg C sc mine ρ target p P7/\tZ C k sc [] P7 ifs b/\
 (if b=true then rA Z C k sc mine (Ow i) (Ow (i+1)) P7 (Ac i) ρ (Ac (i+1)) inner else Ow (i+1)=Ow i/\((∀y q,ρ y=some q->P7 y=some q)/\∀p s,Ac i p s->Ac (i+1) p s)))
 (rm:ak A k)(hit:∀i,Z->DF (Ow i)){I:He}{Qm:Nat->Ho->Prop}(S:Dm need C W L it ps s I Qm)(htg:need=true->cB target=true){Qg:Ib}(Qd:dP Qg){acc:PV}(Q9:kC acc)(h0:Ac 0 acc s)
 (X:St C W sc ((D,acc)::(I,.obj Qg)::Ow 0) ρ env s)(B:Bs C Wt mine t ((D,acc)::(I,.obj Qg)::Ow 0) env s)
 (Vf:D≠I)(RY:∀y∈Ow 0,y.1≠D)(R5:∀y∈Ow 0,y.1≠I)
 (done:∀J acc',kC acc'->Ac ps.length acc' J->St C W sc ((D,acc')::Ow ps.length) ρ env J->Bs C Wt mine t ((D,acc')::Ow ps.length) env J->ah C (Cfg.turns mine ((D,acc)::(I,.obj Qg)::Ow 0) env) s J->R (.ok .next) J):
 KD C.M A (.compLoop e d it (.ref D) env) R s:=by
 refine cps λG g=> ?_
 obtain⟨WY,lo,hiI,st,sz,V5,nt,frame,Ux,Vm,self⟩:=S
 subst WY
 have UB:∀{i y},y∈Ow i->∃z∈Ow 0,z.1=y.1:=λ{i y} hy=>by
  have:y.1∈(Ow i).map (·.1):=Hd.mpr ⟨y,hy,rfl⟩
  rw [Sr] at this
  exact Hd.mp this
 have R5:∀{i},∀y∈Ow i,y.1≠I:=λy hy=>by refine ae (UB hy) λz hz h=> ?_;exact h▸R5 z hz
 have SJ:I∈W:=(X.owns _ (j' _ f')).1
 have Uq:I≠env.locals:=X.ownLoc _ (j' _ f')
 have SX:C.h₀.get? I=none:=(B.owns _ (j' _ f')).1
 have Rd:∀{i} {acc':PV} {o:Ib},kC acc'->dP o->Z->DF ((D,acc')::(I,.obj o)::Ow i):=λha ho z=>
  memC (λo' q=>absurd q (ha o')) (memC (λo' q=>by cases q;exact ho.yl) (hit _ z))
 have Xv:∀i (p:PV) (o:Ib),((D,p)::(I,PV.obj o)::Ow i).map (·.1)=((D,acc)::(I,PV.obj Qg)::Ow 0).map (·.1):=λi p q=>by
  simp_all
 have XS:∀{ρ J acc' o i},St C W sc ((D,acc')::(I,.obj o)::Ow i) ρ env J->kC acc'->dP o->Z->uv J (Cfg.turns mine ((D,acc)::(I,PV.obj Qg)::Ow 0) env):=λ{ρ J acc' o i} X ha ho z=>by
  have h:=lH (mine:=mine) X (Rd ha ho z)
  unfold Cfg.turns at h ⊢
  simp only [Xv] at h
  exact h
 have U':∀{J acc' o i},Bs C (Cfg.turns mine ((D,acc)::(I,PV.obj Qg)::Ow 0) env) mine J ((D,acc')::(I,PV.obj o)::Ow i) env J:=B.yv (Xv _ _ _)
 have UP:∀a∈Cfg.turns mine ((D,acc)::(I,PV.obj Qg)::Ow 0) env,vD C Wt t a:=B.iu
 have S5:∀{J},ah C (Cfg.turns mine ((D,acc)::(I,PV.obj Qg)::Ow 0) env) s J->Kp C W L s J:=λq=>Kp.of X q λa ha=> .inl ha
 have VV:∀a∈[I],a∈Cfg.turns mine ((D,acc)::(I,PV.obj Qg)::Ow 0) env:=memC (by unfold Cfg.turns;simp) λ_ h=>nomatch h
 have T8:∀{acc':PV} {o o':Ib} {h':Ho} {i},h'.get? I=some o'->Ib.bq o'->∀y∈(D,acc')::(I,PV.obj o')::Ow i,(y.1=I/\dO C W h' I y.2)\/(y.1≠I/\y∈(D,acc')::(I,PV.obj o)::Ow i):=λg hn=>
  memC (.inr ⟨Vf,f'⟩) (memC (.inl ⟨rfl,g,hn⟩) λy hy=> .inr ⟨R5 y hy,j' _ (j' _ hy)⟩)
 generalize Cfg.turns mine ((D,acc)::(I,PV.obj Qg)::Ow 0) env=T at U' UP S5 VV XS done
 refine g (oK he heq (λm J=>∃i o acc,i<=ps.length/\m=ps.length - i/\kC acc/\Ac i acc J/\St C W sc ((D,acc)::(I,.obj o)::Ow i) ρ env J/\dP o/\Qm i J.heap/\ah C T s J) ?_ ps.length
  ⟨0,Qg,acc,H7 _,rfl,Q9,h0,X,Qd,st,ah.refl _⟩)
 intro m J hm
 refine cps λG g=> ?_
 obtain⟨i,o,acc',hi,rfl,RI,VQ,X',SH,QT,Tw⟩:=hm
 have RW:J.heap.get? I=some o:=(X'.owns _ (j' _ f')).2.1.1
 have Yr:uv J [I]:=memC ⟨o,RW,SH.yl⟩ λ_ h=>nomatch h
 refine g ?_
 by_cases Qc:i < ps.length
 ·refine Ux rm.handled (target:=target) (W':=W) Qc htg QT (S5 Tw) (λa ha=> .inl ha) (λa ha=>X'.low a ha) λv RG go=>go _ _ λp h' tk Ul Ri hk hz hr=> ?_
  refine cps λG g=> ?_
  have eT:ah C [I] J {J with heap:=h',toks:=tk}:=ah.i7 RW SH hk hz
  refine ae (V5 _ _ Ri) λo' Ta RC=> ?_
  have U2:St C W sc ((D,acc')::(I,.obj o')::Ow i) ρ env {J with heap:=h',toks:=tk}:=X'.turn SJ Uq SX hk eT RW SH.bq (T8 Ta RC.bq)
  have Rb:ah C T s {J with heap:=h',toks:=tk}:=Tw.trans (eT.mono VV)
  refine bo (step i p Ul) λP7 b ht Vd Sx=> ?_
  have fin:∀s5 RA,kC RA->Ac (i+1) RA s5->St C W sc ((D,RA)::(I,.obj o')::Ow (i+1)) ρ env s5->ah C T {J with heap:=h',toks:=tk} s5->
   ∃m,m < ps.length - i/\∃i o acc,i<=ps.length/\m=ps.length - i/\kC acc/\Ac i acc s5/\St C W sc ((D,acc)::(I,.obj o)::Ow i) ρ env s5/\dP o/\Qm i s5.heap/\ah C T s s5:=λs5 RA a b X5 e5=>
   ⟨ps.length - (i+1),Kd Qc (IX i),i+1,o',RA,Qc,rfl,a,b,X5,RC,frame _ _ _ (S5 Rb) Ri (S5 (Rb.trans e5)) λo g=>IF (Ta.symm.trans g)▸(X5.owns _ (j' _ f')).2.1.1,Rb.trans e5⟩
  refine g (G' (ht _ _ A env _ v _ _ rm.handled U2 (U' (acc':=acc') (o:=o') (i:=i)) hr) (λ_ s3 h3=>G' (Vd _ A env s3 rm (h3.1.less (by simp))) ?_ λ_ _ q=>q.elim) λ_ _ q=>q.elim)
  rintro ok s4 ⟨e4,rfl⟩
  have Uv:=Qy i _ _ _ _ h3.1.inv (Qy i _ _ _ _ U2.inv (Qy i _ _ _ _ X'.inv VQ eT λ_=>Yr) h3.2.1.aA (XS U2 RI RC)) e4 (λ_ a ha=>nomatch ha)
  have X4:=h3.1.aA e4
  have B4:=h3.2.1.step e4
  by_cases hb:ok=true
  ·rw [HE hb] at Sx ⊢
   exact G' (Sx W [(I,.obj o')] A env s4 D acc' _ T rm (memC (H3 Vf) (λy hy=>by refine ae (UB hy) λz hz h=> ?_;exact h▸RY z hz)) (memC (λz hz=>(R5 z hz).symm) λ_ h=>nomatch h) (λz=>memC (λo q=>by cases q;exact RC.yl) (hit i z)) RI Uv X4 B4) (λ_ s5 h=>by refine rz h λRA a b X5 B5=> ?_;exact fin s5 RA a b X5 B5.aA) λ_ _ q=>q.elim
  ·rw [Hz hb] at Sx ⊢
   exact fin s4 acc' RI (Sx.2.2 _ _ Uv) (Sx.1▸X4.weaken Sx.2.1) B4.aA
 ·have:i=ps.length:=Lb hi (HH.mp Qc)
  subst this
  refine Vm rm.handled QT λh' tk hk hz=> ?_
  have eT:ah C [I] J {J with heap:=h',toks:=tk}:=ah.i7 RW SH hk hz
  exact done _ acc' RI (Qy _ _ _ _ _ X'.inv VQ eT λ_=>Yr)
   (X'.turn SJ Uq SX hk eT RW SH.bq (memC (.inr ⟨Vf,f'⟩) λy hy=> .inr ⟨R5 _ hy,j' _ (j' _ hy)⟩))
   ((B.join (Tw.trans (eT.mono VV)) UP).less (memC ⟨_,f'⟩ λy hy=>by refine ae (UB hy) λz hz h=> ?_;exact⟨z.2,h▸j' _ (j' _ hz)⟩)) (Tw.trans (eT.mono VV))
theorem nV {need:Bool}(he:i8 e){target iter:Expr}{ifs:List Expr}{inner:Mm->He->Jj Unit}(heq:KS e d it (.ref D) env=gJ e d target iter ifs inner it D env)
 {ps:List PV}{Ac:Nat->Acc}(Qy:∀i,jQ C (Ac i))(step:nW C k sc mine ρ target ifs Ac inner ps)
 (rm:ak A k)(hit:DF own'){I:He}{Qm:Nat->Ho->Prop}(S:Dm need C W L it ps s I Qm)(htg:need=true->cB target=true){Qg:Ib}(Qd:dP Qg){acc:PV}(Q9:kC acc)(h0:Ac 0 acc s)
 (X:St C W sc ((D,acc)::(I,.obj Qg)::own') ρ env s)(B:Bs C Wt mine t ((D,acc)::(I,.obj Qg)::own') env s)
 (Vf:D≠I)(RY:∀y∈own',y.1≠D)(R5:∀y∈own',y.1≠I)
 (done:∀J acc',kC acc'->Ac ps.length acc' J->St C W sc ((D,acc')::own') ρ env J->Bs C Wt mine t ((D,acc')::own') env J->R (.ok .next) J):
 KD C.M A (.compLoop e d it (.ref D) env) R s:=
 mu he heq (Ow:=λ_=>own') (λ_=>rfl) (λi p s J V a b c d=>Qy i p s J V a b c (d trivial)) (λi p h=>by
  refine bo (step i p h) λP7 b h1 h2 h3=>⟨P7,b,h1,h2,?_⟩
  cases b with
  |true=>exact ja.GZ h3
  |false=>exact⟨rfl,h3⟩) rm (λ_ _=>hit) S htg Qd Q9 h0 X B Vf RY R5 λJ a b c d e _=>done J a b c d e
noncomputable def bD (scope:Scope):Str->Bool:=λx=>decide (scope.names.lookup x=some .cell)
theorem dO.rr {h:Ho}{a:He}{p:PV}(x:dO C W h a p)(hp:kC p)(hW:∀b∈W',b∈W)(ha:¬C.N W' a):Rr C W' h (.ref a) p:=by
 have kk:∀b o,¬C.N W b->h.get? b=some o->¬C.N W' b/\h.get? b=some o:=λb o n g=>⟨λq=>n (q.elim .inl λq=> .inr (hW b q)),g⟩
 cases p with
 |lst xs=>refine aL x λvs n g r=> ?_;exact⟨a,vs,n,rfl,ha,g,aR.mono kk r⟩
 |au xs=>refine wG x λvs n kvs g sd r=> ?_;exact⟨a,vs,n,kvs,rfl,ha,g,sd,bC.mono kk r⟩
 |obj o=>exact absurd rfl (hp o)
 |_=>exact x.elim
theorem bV {x:Str}{c:He}:∀{names:List (Str×IS)}{n:Nat},(x,c)∈Ie n names []->n<=c
 |[],_,h=>by cases h
 |(y,kd)::r,n,h=>by
  unfold Ie at h
  split at h
  ·rw [bF] at h
   rcases HP.mp h with h |h
   ·exact H5 (bV h)
   ·cases Hm.mp h
    exact Hk _
  ·exact bV h
theorem nr {need:Bool}(he:i8 e){target iter:Expr}{ifs:List Expr}{gs:List I4}{Q7:Jj y'}{use:Option (y'->Jj Unit)}{Q:y'->Hh->Prop}
 (QS:clausesOf e=⟨target,iter,ifs,0⟩::gs){inner:Mm->He->Jj Unit}(heq:∀it D env,KS e 0 it (.ref D) env=gJ e 0 target iter ifs inner it D env)
 (ok:fb scope sc)(hs:∀x env,H4 iter env x=pure x){a₀:PV}{Ac:Nat->Acc}(Qy:∀i,jQ C (Ac i))(h0:∀J,ah C [] s J->Ac 0 a₀ J)(UT:kC a₀)
 {o₁:Ib}(Wu:∀(s:Hh) (Q:y'->Hh->Prop) E,Q (.ref s.heap.objs.size) {s with heap:=s.heap.push o₁}->Hi C.M A Q7 Q E s)
 (Rq:o₁.isFreed=false)(UR:∀W h a,h.get? a=some o₁->a≠Js->dO C W h a a₀){ps:List PV}
 (hi:eu need C k sc own ρ iter ps)(htg:need=true->cB target=true)(rm:ak A k)(X:St C W sc own ρ env s)
 (step:nW C k (dT scope sc) (bD scope) (bA scope ρ) target ifs Ac inner ps)
 (fin:∀J L D p,ah C [] s J->s.heap.objs.size<=L->L < J.heap.objs.size->L∉C.aq->(∃m,J.heap.Ns L m)->(∃o,J.heap.get? L=some o/\∃es n,o.data= .dict es n)->Rr C (L::W) J.heap (.ref D) p->Ac ps.length p J->
  compPost C.M A E use Q (.ref D) L (.ok .next) J):
 Hi C.M A (comprehension e scope env pos Q7 false (IQ iter env) use) Q E s:=by
 have Sb:closureFor scope env=pure (aT env.cells scope.names []):=ei λx hx hf=>by
  refine aL (X.cel x.1 (ok.free x hx hf)) λc cv h1 _=> ?_
  rw [h1];rfl
 refine MH QS (λx=>hs x env) Sb ok.kind (λx hx hl=>by
  have:=b7 (c:=x.2) ok.nd (show (x.1,x.2)∈_ from hx)
  simp only [this,hl]) (G' (hi W A env s rm X) (λv P5 h=>h.2 A _ _ λit P6 e2 ⟨I,Qm,S⟩=>Wu P6 _ _ (qh ?_)) λ_ _ q=>q.elim)
 refine cps λG g=> ?_
 have e1:=h.1
 have lo:=S.lo
 have Tx:P5.heap.objs.size<=P6.heap.objs.size:=e2.size
 have RM:s.heap.objs.size<=P6.heap.objs.size:=Hf e1.size Tx
 have Ry:s.heap.objs.size<=I:=Hf e1.size lo
 refine ae (S.obj 0 _ S.st) λQg QA Qd=> ?_
 have X2:St C (I::W) sc [(I,.obj Qg)] ρ env P6:=(((X.aA e1).grow e2 lo S.hi).less (own':=[]) (by simp)).iS f' ⟨QA,Qd.bq⟩ S.nt (λq=>absurd (X.low _ X.noLoc.1) (HH.mpr (q▸Ry)))
 have ep:ah C [] P6 {P6 with heap:=P6.heap.push o₁}:=ah.push _ P6.toks
 have X4:=((X2.grow ep (Hk _) cg).iS f' (UR _ _ _ (Hp _ Rq) (X2.inv.fZ)) X2.inv.fresh (λq=>absurd (X2.low _ X2.noLoc.1) (HH.mpr (q▸Hk _)))).comp ok
 have T6:=ep.trans (gx (C:=C) (scope:=scope))
 have T3:=(e1.trans e2).trans T6
 have Uz:(P6.heap.push o₁).objs.size=P6.heap.objs.size+1:=Io _ _
 dsimp only at X4 T6 T3
 rw [Uz] at X4
 have may:∀{a},s.heap.objs.size<=a->vD C [] s a:=λh=>⟨X.inv.beyond h,.inl h⟩
 have B4:Bs C [] (bD scope) s [(P6.heap.objs.size,a₀),(I,.obj Qg)] (iY scope env (P6.heap.objs.size+1)) {P6 with heap:=ek scope (P6.heap.push o₁)}:=
  ⟨T3,may (HO RM),λx c hm hk hl=>may (by
   obtain⟨c',SO⟩:=aY (n:=P6.heap.objs.size+1+1) (acc:=[]) (mem_of_lookup (of_decide_eq_true hm))
   obtain⟨c'',R4⟩:=aH SO
   have RP:(Ie (P6.heap.objs.size+1+1) scope.names (aT env.cells scope.names [])).lookup x=some c:=hl
   rw [bF,IA,R4] at RP
   cases RP
   exact Hf RM (H5 (H5 (bV (Ij R4))))),memC (may RM) (memC (may Ry) λ_ h=>nomatch h)⟩
 have S4:=S.rebase (W':=(P6.heap.objs.size+1)::P6.heap.objs.size::I::W) T6 (λa ha=>by simp [ha])
  (memC (.inr (HO Tx)) (memC (.inr Tx) (memC (.inr lo) λ_=> .inl)))
 refine g ?_
 refine Uz▸?_
 have loop:KD C.M A (.compLoop e 0 (.ref I) (.ref P6.heap.objs.size) (iY scope env (P6.heap.objs.size+1))) (compPost C.M A E use Q (.ref P6.heap.objs.size) (P6.heap.objs.size+1)) {P6 with heap:=ek scope (P6.heap.push o₁)}:=
  nV he (heq _ _ _) Qy step rm (own':=[]) (λ_ h=>nomatch h) S4 htg Qd UT (h0 _ T3) X4 B4 (JZ S.hi) (λ_ h=>nomatch h) (λ_ h=>nomatch h) λJ p hp hA X5 B5=>by
   exact fin J _ _ p B5.aA (HO RM) (X5.low _ f') X5.noLoc.2 (by refine ae X5.loc λm h _=> ?_;exact⟨m,h⟩) (by refine lO X5.n5 λo es n g d=> ?_;exact⟨o,g,es,n,d⟩)
    ((X5.owns _ f').2.1.rr hp (memC f' λb hb=>j' _ (j' _ (j' _ hb))) λq=>q.elim (X5.owns _ f').2.2 λq=>(Hc.mp q).elim (Iw (IX _)) λq=>absurd (X.low _ q) (HH.mpr RM)) hA
 simp only [S.it]
 refine fy he (by rw [QS];rfl) rfl loop ?_
 exact S4.self rm.handled S4.st loop
theorem ah.iD {Qj:Hh}(e:ah C [] s J)(e':ah C [L] J Qj)(h:s.heap.objs.size<=L):ah C [] s Qj where
 keep a o h1 h2 g:=e'.keep a o h1 (by
  have:=Hx g
  rw [Hm]
  rintro rfl
  exact HR _ (Ht this h)) (e.keep a o h1 h2 g)
 size:=Hf e.size e'.size
 tabs:=(e.up.trans (e'.mono (W':=[L]) λ_ h=>h)).tabs
 os:=e'.os.trans e.os
 gens h:=e'.gens (e.gens h)
theorem Rr.iD {h h':Ho}{v:y'}{p:PV}(x:Rr C (L::W) h v p)(hs:Iv L h h'):Rr C W h' v p:=
 Rp.mono (λb o n g=>⟨λq=>n (q.elim .inl λq=> .inr (j' _ q)),(hs.2 b (by rintro rfl;exact n (.inr f'))).trans g⟩) x
theorem nI {p:PV}(X:St C W sc own ρ env s)(J:Hh)(L D:He)(e:ah C [] s J)(h1:s.heap.objs.size<=L)(h2:L < J.heap.objs.size)(h3:L∉C.aq)(h4:∃m,J.heap.Ns L m)(h5:∃o,J.heap.get? L=some o/\∃es n,o.data= .dict es n)(r:Rr C (L::W) J.heap (.ref D) p){E:y'->Hh->Prop}:
 compPost C.M A E none (λv J=>ah C [] s J/\Rr C W J.heap v p) (.ref D) L (.ok .next) J:=by
 refine cA h4 λm hm=> ?_
 obtain⟨o,ho,es,n,hd⟩:=h5
 refine⟨m,hm,λh' hs=>⟨e.iD (ah.turn (tk:=J.toks) (X.inv.jB e) hs ho (by refine hd▸?_;intro vs q;cases q) (by simp)) h1,r.iD hs⟩⟩
theorem yg {p:PV}{y:Str}{py:Jm}{E:y'->Hh->Prop}{Q:y'->Hh->Prop}(X:St C W sc own ρ env s)(B:Bs C Wt mine t own env s)(hh:A.handled=none)(ht:bg C sc mine ρ (.Name y py) p Qa)
 (next:∀J,St C W sc own Qa env J->Bs C Wt mine t own env J->Q .none J)
 (J:Hh)(L D:He)(e:ah C [] s J)(h1:s.heap.objs.size<=L)(h2:L < J.heap.objs.size)(h3:L∉C.aq)(h4:∃m,J.heap.Ns L m)(h5:∃o,J.heap.get? L=some o/\∃es n,o.data= .dict es n)(r:Rr C (L::W) J.heap (.ref D) p):
 compPost C.M A E (some (assign (.Name y py) env)) Q (.ref D) L (.ok .next) J:=by
 refine G' (ht _ _ A env J _ _ _ hh (X.grow e h1 h2) ((B.step e).start) r) ?_ λ_ _ q=>q.elim
 intro _ s5 zz;refine cZ zz λX5 B5 _=> ?_
 obtain⟨m,om,Q1,ZG,hm,UN⟩:=h4
 obtain⟨o,ho,es,n,hd⟩:=h5
 have g5:∀o,J.heap.get? L=some o->s5.heap.get? L=some o:=λo g=>B5.aA.keep _ _ h3 (λq=>absurd (xJ X _ q) (HH.mpr h1)) g
 have SX:C.h₀.get? L=none:=X.inv.beyond h1
 refine⟨m,⟨om,Q1,ZG,g5 _ hm,UN⟩,λh' hs=> ?_⟩
 have e5:ah C [L] s5 {s5 with heap:=h'}:=ah.turn (tk:=s5.toks) X5.inv hs (g5 _ ho) (by refine hd▸?_;intro vs q;cases q) (by simp)
 refine next _ ?_ ?_
 ·have:=X5.turn (own':=own) f' (λq=>absurd (X.low _ X.noLoc.1) (HH.mpr (q▸h1))) SX hs.extBut e5 (g5 _ ho) (by intro v q;replace q:=hd▸q;cases q) (λz hz=> .inr ⟨λq=>absurd (X.low _ (X.owns z hz).1) (HH.mpr (q▸h1)),hz⟩)
  exact this.drop (λa ha=>j' _ ha) (λz hz=>(X.owns z hz).1) X.noLoc.1
 ·exact((B.step e).join B5.aA (B.iu)).turn hs ⟨SX,.inl (Hf B.aA.size h1)⟩ e5
noncomputable def jz (elt:Expr):Mm->He->Jj Unit:=λenv D=>(do let _ <-call (.builtin "list.append") [.ref D,<-IQ elt env])
def fj (C:Cfg)(k:Nat)(sc:Sc)(mine:Str->Bool)(own own':Own)(ρ:bP)(e:Expr)(p:PV):Prop:=
 ∀W A env s t Wt,ak A k->St C W sc own ρ env s->Bs C Wt mine t own env s->Hi C.M A (IQ e env) (λv J=>St C W sc own' ρ env J/\Bs C Wt mine t own' env J/\Rr C W J.heap v p) (λ_ _=>False) s
theorem Ev.o {e:Expr}{p:PV}(h:Ev C k sc own ρ e p):fj C k sc mine own own ρ e p:=λW A env s t Wt rm X B=>
 G' (h W A env s rm X) (λv J q=>⟨X.aA q.1,B.step q.1,q.2⟩) λ_ _ q=>q
theorem rA.emit {Z:Prop}{elt:Expr}{Ac RZ:Acc}(Qb:own₂.map (·.1)=own₁.map (·.1))(Qy:A1 Z C Ac)(R6:∀y q,ρ y=some q->P7 y=some q)
 (h:∀acc s,Ac acc s->∃xs p,acc= .lst xs/\(∀pre:Own,(∀y∈pre,∀z∈own₁,y.1≠z.1)->fj C k sc mine (pre ++ own₁) (pre ++ own₂) P7 elt p)/\xs.length<=sizeLine/\∀s,Ac acc s->RZ (.lst (xs ++ [p])) s):
 rA Z C k sc mine own₁ own₂ P7 Ac ρ RZ (jz elt):=λW pre A env s D acc t Wt rm RY hp Rd Te hA X B=>by
 refine ib (h acc s hA) λxs p P8 h hz h3=> ?_;subst P8
 have V4:∀y∈pre ++ own₂,y.1≠D:=λy hy=>by
  have:y.1∈(pre ++ own₁).map (·.1):=by rw [HC,<-Qb,<-HC];exact Hd.mpr ⟨y,hy,rfl⟩
  refine ae (Hd.mp this) λz hz e=>e▸RY z hz
 refine Ha (G' (h ((D,.lst xs)::pre) (memC (λz hz=>(RY z (Ig _ hz)).symm) hp) W A env s s _ rm X (B.yv rfl)) ?_ λ_ _ q=>q.elim)
 intro v s1 zz;refine cZ zz λX1 B1 r1=> ?_
 have BB:=B.join B1.aA B.iu
 have UE:=BB.owns _ f'
 refine aL (X1.owns _ f').2.1 λvs n g r=> ?_
 refine Ha (MV ⟨n,g⟩ (λh' RP QJ=>Hu ?_) (by simpa [aR.length r] using hz))
 refine cps λG g'=> ?_
 have e2:ah C [D] s1 {s1 with heap:=h'}:=ah.turn (tk:=s1.toks) X1.inv QJ g (λvs q=>nomatch q) (by simp)
 have kk:∀b o,¬C.N W b->s1.heap.get? b=some o->¬C.N W b/\h'.get? b=some o:=λb o n g=>⟨n,(QJ.2 b (by rintro rfl;exact n (.inr (X1.owns _ f').1))).trans g⟩
 refine cA RP λn' RP=> ?_
 exact g' ⟨.lst (xs ++ [p]),kC.lst,h3 _ (Qy _ _ _ _ X1.inv (Qy _ _ _ _ X.inv hA B1.aA (λz=>lH (mine:=mine) X (memC (λo q=>absurd q (Te o)) (Rd z)))) e2 λ_=>memC ⟨_,g,λ_=>nofun⟩ λ_ h=>nomatch h),
  (X1.turn (own':=(D,.lst (xs ++ [p]))::(pre ++ own₂)) (X1.owns _ f').1 (X1.ownLoc _ f') UE.1 QJ.extBut e2 g (λ_=>nofun)
   (memC (.inl ⟨rfl,vs ++ [v],n',by rw [RP];simp [ao],aR.append (aR.mono kk r) ⟨v,[],rfl,Rp.mono kk r1,rfl⟩⟩) λy hy=> .inr ⟨V4 y hy,j' _ hy⟩)).weaken R6,
  (BB.turn QJ UE e2).less λy hy=>by
   have:y.1∈((D,PV.lst xs)::(pre ++ own₁)).map (·.1):=((λp q=>by simp only [Hw,HC,Qb]:∀p q,((D,p)::(pre ++ own₂)).map (·.1)=((D,q)::(pre ++ own₁)).map (·.1)) (.lst (xs ++ [p])) (.lst xs))▸Hd.mpr ⟨y,hy,rfl⟩
   exact ae (Hd.mp this) λz hz e=>⟨z.2,e▸hz⟩⟩
theorem ja.emit {elt:Expr}{Ac RZ:Acc}(Qy:jQ C Ac)(R6:∀y q,ρ y=some q->P7 y=some q)
 (h:∀acc s,Ac acc s->∃xs p,acc= .lst xs/\Ev C k sc [] P7 elt p/\xs.length<=sizeLine/\∀s,Ac acc s->RZ (.lst (xs ++ [p])) s):
 ja C k sc mine P7 Ac ρ RZ (jz elt):=λW own' A env s D acc t Wt rm RY Rd Te hA X B=>
 rA.emit (mine:=mine) (own₁:=own') (own₂:=own') rfl (Z:=True) (λp s J V a b c d=>Qy p s J V a b c (d trivial)) R6 (λacc s hA=>by refine ib (h acc s hA) λxs p a b c d=>⟨xs,p,a,λpre _=>Ev.o λW A env s rm X=>b W A env s rm (X.less (λ_ h=>nomatch h)),c,d⟩) W [] A env s D acc t Wt rm RY (λ_ h=>nomatch h) (λ_=>Rd) Te hA X B
theorem jP {elt:Expr}{p:PV}{xs:List PV}(h:Ev C k sc [] P7 elt p)(R6:∀y q,ρ y=some q->P7 y=some q)(hz:xs.length<=sizeLine):ja C k sc mine P7 (kW (.lst xs)) ρ (kW (.lst (xs ++ [p]))) (jz elt):=
 ja.emit jQ.eq R6 λ_ _ e=>⟨xs,p,e,h,hz,λ_ _=>rfl⟩
def Cv (C:Cfg)(k:Nat)(sc:Sc)(own:Own)(ρ:bP)(e:Expr)(scope:Scope)(gens:List I4)(pos:Jm)(Q7:Jj y')(p:PV):Prop:=
 ∀W A env s (use:Option (y'->Jj Unit)) (Q:y'->Hh->Prop) (E:y'->Hh->Prop),ak A k->St C W sc own ρ env s->
  (∀J L D,ah C [] s J->s.heap.objs.size<=L->L < J.heap.objs.size->L∉C.aq->(∃m,J.heap.Ns L m)->(∃o,J.heap.get? L=some o/\∃es n,o.data= .dict es n)->Rr C (L::W) J.heap (.ref D) p->
   compPost C.M A E use Q (.ref D) L (.ok .next) J)->
  Hi C.M A (comprehension e scope env (firstIterPos gens pos) Q7 (firstAsync gens) (firstIter gens env) use) Q E s
abbrev fS (C:Cfg)(k:Nat)(sc:Sc)(own:Own)(ρ:bP)(elt:Expr)(gens:List I4)(scope:Scope)(pos:Jm)(p:PV):Prop:=Cv C k sc own ρ (.ListComp elt gens scope pos) scope gens pos (newList []) p
abbrev DM (C:Cfg)(k:Nat)(sc:Sc)(own:Own)(ρ:bP)(kx vx:Expr)(gens:List I4)(scope:Scope)(pos:Jm)(p:PV):Prop:=Cv C k sc own ρ (.DictComp kx vx gens scope pos) scope gens pos newDict p
theorem fS.ev {elt:Expr}{gens:List I4}{p:PV}(h:fS C k sc own ρ elt gens scope pos p):Ev C k sc own ρ (.ListComp elt gens scope pos) p:=λW A env s rm X=>by
 exact h W A env s _ _ _ rm X λJ L D a b c d f g r=>nI X J L D a b c d f g r
theorem DM.ev {kx vx:Expr}{gens:List I4}{p:PV}(h:DM C k sc own ρ kx vx gens scope pos p):Ev C k sc own ρ (.DictComp kx vx gens scope pos) p:=λW A env s rm X=>by
 exact h W A env s _ _ _ rm X λJ L D a b c d f g r=>nI X J L D a b c d f g r
theorem fS.assign {elt:Expr}{gens:List I4}{p:PV}{y:Str}{py U9:Jm}{rest:List I9}{Q:Flow->Hh->Prop}{E:y'->Hh->Prop}(h:fS C k sc own ρ elt gens scope pos p)
 (X:St C W sc own ρ env s)(B:Bs C Wt mine t own env s)(rm:ak A k)(ht:bg C sc mine ρ (.Name y py) p Qa)
 (hsw:Kg (.ListComp elt gens scope pos) (some (.Name y py)) U9.line env=pure true)
 (next:∀J,St C W sc own Qa env J->Bs C Wt mine t own env J->Hi C.M A (HA rest env) Q E J):
 Hi C.M A (HA (.Assign [.Name y py] (.ListComp elt gens scope pos) U9::rest) env) Q E s:=by
 refine Ia ?_
 refine(exec_Assign_Name_used _ _ _ _ hsw)▸?_
 refine Ha (Jb (Ha ?_))
 refine Ha (G' (h W A env s _ (λ_ J=>Hi C.M A (HA rest env) Q E J) _ rm X λJ L D a b c d f g r=>yg X B rm.handled ht next J L D a b c d f g r) (λ_ J hq=>Hu (Hu hq)) λ_ _ e=>e)
theorem r8 {need:Bool}{elt target iter:Expr}{ifs:List Expr}{gs:List I4}(inner:Mm->He->Jj Unit)
 (heq:∀it D env,KS (.ListComp elt (⟨target,iter,ifs,0⟩::gs) scope pos) 0 it (.ref D) env=gJ (.ListComp elt (⟨target,iter,ifs,0⟩::gs) scope pos) 0 target iter ifs inner it D env)
 (ok:fb scope sc)(hs:∀x env,H4 iter env x=pure x){ps xs:List PV}(acc:Nat->PV)(h0:acc 0= .lst [])(hn:acc ps.length= .lst xs)
 (hi:eu need C k sc own ρ iter ps)
 (step:nW C k (dT scope sc) (bD scope) (bA scope ρ) target ifs (λi=>kW (acc i)) inner ps)(htg:autoParam (need=true->cB target=true) nf):
 fS C k sc own ρ elt (⟨target,iter,ifs,0⟩::gs) scope pos (.lst xs):=λW A env s use Q E rm X fin=>
 nr (.inl ⟨_,_,_,_,rfl⟩) rfl heq ok hs (λ_=>jQ.eq) (a₀:= .lst []) (λ_ _=>h0.symm) kC.lst (o₁:=ao [] 0) (λs Q E h=>IL h) rfl (λW h a g _=>⟨[],0,g,rfl⟩) hi htg rm X step λJ L D p a b c d f g r e=>fin J L D a b c d f g ((e.trans hn)▸r)
theorem CA {need:Bool}{kx vx target iter:Expr}{ifs:List Expr}{gs:List I4}(inner:Mm->He->Jj Unit)
 (heq:∀it D env,KS (.DictComp kx vx (⟨target,iter,ifs,0⟩::gs) scope pos) 0 it (.ref D) env=gJ (.DictComp kx vx (⟨target,iter,ifs,0⟩::gs) scope pos) 0 target iter ifs inner it D env)
 (ok:fb scope sc)(hs:∀x env,H4 iter env x=pure x){ps:List PV}{xs:List (Str×PV)}(acc:Nat->PV)(h0:acc 0= .au [])(hn:acc ps.length= .au xs)
 (hi:eu need C k sc own ρ iter ps)
 (step:nW C k (dT scope sc) (bD scope) (bA scope ρ) target ifs (λi=>kW (acc i)) inner ps)(htg:autoParam (need=true->cB target=true) nf):
 DM C k sc own ρ kx vx (⟨target,iter,ifs,0⟩::gs) scope pos (.au xs):=λW A env s use Q E rm X fin=>
 nr (.inr ⟨_,_,_,_,_,rfl⟩) rfl heq ok hs (λ_=>jQ.eq) (a₀:= .au []) (λ_ _=>h0.symm) kC.au (o₁:=bj [] 0) (λs Q E h=>IL h) rfl (λW h a g QW=>⟨[],0,[],g,⟨QW,by intro e h;simp at h,.nil,by decide⟩,rfl⟩) hi htg rm X step λJ L D p a b c d f g r e=>fin J L D a b c d f g ((e.trans hn)▸r)
theorem take_snoc {α:Type}{ps:List α}{i:Nat}{p:α}(h:ps[i]? =some p):ps.take (i+1)=ps.take i ++ [p]:=by
 simp only [JA,h];rfl
theorem c4 {l:List α}{g:α->PV}{i:Nat}{p:PV}(h:(l.map g)[i]? =some p):∃a,l[i]? =some a/\p=g a:=by
 rw [Hy] at h
 refine ae (I5.mp h) λa h1 h2=> ?_
 exact⟨a,h1,h2.symm⟩
theorem c9 {need:Bool}{elt target iter:Expr}(ok:fb scope sc)(hs:∀x env,H4 iter env x=pure x){l:List α}{g:α->PV}(f:α->PV)
 (hi:eu need C k sc own ρ iter (l.map g))(hz:l.length<=sizeLine)
 (step:∀a∈l,∃P7,bg C (dT scope sc) (bD scope) (bA scope ρ) target (g a) P7/\(∀y q,bA scope ρ y=some q->P7 y=some q)/\Ev C k (dT scope sc) [] P7 elt (f a))(htg:autoParam (need=true->cB target=true) nf):
 fS C k sc own ρ elt [⟨target,iter,[],0⟩] scope pos (.lst (l.map f)):=
 r8 (htg:=htg) (jz elt) (λit D env=>by rfl) ok hs (λi=> .lst ((l.take i).map f)) (by rfl) (by simp) hi λi p hp=>by
  refine ae (c4 hp) λa ha P8=> ?_;refine P8▸?_
  refine iI (step a (HX ha)) λP7 h1 h2 h3=> ?_
  refine⟨P7,true,h1,tZ.nil,?_⟩
  show ja _ _ _ _ _ (kW _) _ (kW (.lst ((l.take (i+1)).map f))) _
  rw [take_snoc ha,HC]
  exact jP h3 h2 (by rw [Hb,IG];exact Hf (K1 _ _) hz)
theorem bI {need:Bool}{elt target iter c:Expr}(ok:fb scope sc)(hs:∀x env,H4 iter env x=pure x){l:List α}{g:α->PV}(f:α->PV)(b:α->Bool)
 (hi:eu need C k sc own ρ iter (l.map g))(hz:l.length<=sizeLine)
 (step:∀a∈l,∃P7,bg C (dT scope sc) (bD scope) (bA scope ρ) target (g a) P7/\(∀y q,bA scope ρ y=some q->P7 y=some q)/\Tr C k (dT scope sc) [] P7 c (b a)/\(b a=true->Ev C k (dT scope sc) [] P7 elt (f a)))(htg:autoParam (need=true->cB target=true) nf):
 fS C k sc own ρ elt [⟨target,iter,[c],0⟩] scope pos (.lst ((l.filter b).map f)):=
 r8 (htg:=htg) (jz elt) (λit D env=>by rfl) ok hs (λi=> .lst (((l.take i).filter b).map f)) (by rfl) (by simp) hi λi p hp=>by
  refine ae (c4 hp) λa ha P8=> ?_;refine P8▸?_
  refine rz (step a (HX ha)) λP7 h1 h2 h3 h4=> ?_
  refine⟨P7,b a,h1,tZ.one h3,?_⟩
  have e:=HV (PF b) (take_snoc ha)
  simp only [Mp] at e
  cases hb:b a with
  |true=>
   show ja _ _ _ _ _ (kW _) _ (kW (.lst (((l.take (i+1)).filter b).map f))) _
   simp only [e,show [a].filter b=[a] by simp [hb],HC]
   refine jP (h4 hb) h2 ?_
   rw [Hb]
   exact Hf (II _ _) (by rw [IG];exact Hf (K1 _ _) hz)
  |false=>
   simp only [show [a].filter b=[] by simp [hb],Jc] at e
   exact⟨h2,λp s h=>h.trans (by rw [e])⟩
theorem ub {need:Bool}{elt target iter:Expr}(ok:fb scope sc)(hs:∀x env,H4 iter env x=pure x){ps:List PV}(f:PV->PV)
 (hi:eu need C k sc own ρ iter ps)(hz:ps.length<=sizeLine)
 (step:∀p∈ps,∃P7,bg C (dT scope sc) (bD scope) (bA scope ρ) target p P7/\(∀y q,bA scope ρ y=some q->P7 y=some q)/\Ev C k (dT scope sc) [] P7 elt (f p))(htg:autoParam (need=true->cB target=true) nf):
 fS C k sc own ρ elt [⟨target,iter,[],0⟩] scope pos (.lst (ps.map f)):=
 c9 (g:=id) ok hs f (by simp only [LY];exact hi) hz step htg
theorem oH {need:Bool}{elt target iter c:Expr}(ok:fb scope sc)(hs:∀x env,H4 iter env x=pure x){ps:List PV}(f:PV->PV)(b:PV->Bool)
 (hi:eu need C k sc own ρ iter ps)(hz:ps.length<=sizeLine)
 (step:∀p∈ps,∃P7,bg C (dT scope sc) (bD scope) (bA scope ρ) target p P7/\(∀y q,bA scope ρ y=some q->P7 y=some q)/\Tr C k (dT scope sc) [] P7 c (b p)/\(b p=true->Ev C k (dT scope sc) [] P7 elt (f p)))(htg:autoParam (need=true->cB target=true) nf):
 fS C k sc own ρ elt [⟨target,iter,[c],0⟩] scope pos (.lst ((ps.filter b).map f)):=
 bI (g:=id) ok hs f b (by simp only [LY];exact hi) hz step htg
noncomputable def sF (e:Expr) (d:Nat) (iter:Expr):Mm->He->Jj Unit:=λenv D=>do
 let x <-IQ iter env
 standAt iter.pos
 let x <-H4 iter env x
 let _ <-runOwn (.compStart e (d+1) (<-holding [x] (L6 x)) (.ref D) env) env
def A8 (need:Bool)(C:Cfg)(k:Nat)(sc:Sc)(ρ:bP)(e:Expr)(Pr:Nat->List PV->Hh->Prop):Prop:=
 ∀W A env s,ak A k->St C W sc [] ρ env s->Hi C.M A (IQ e env) (λv P5=>ah C [] s P5/\∃ps,Pr s.heap.objs.size ps P5/\∀A':JR,∀Q:y'->Hh->Prop,∀E,
  (∀it P6,ah C [] P5 P6->Sq need C W P5.heap.objs.size it ps P6->Q it P6)->Hi C.M A' (L6 v) Q E P5) (λ_ _=>False) s
theorem uo {need:Bool}(he:i8 e){target iter:Expr}{ifs:List Expr}{inner:Mm->He->Jj Unit}
 (hg:(clausesOf e)[d+1]? =some ⟨target,iter,ifs,0⟩)(heq:∀it D env,KS e (d+1) it (.ref D) env=gJ e (d+1) target iter ifs inner it D env)
 (hs:∀x env,H4 iter env x=pure x){Rg Sv:Acc}{Pr:Nat->List PV->Hh->Prop}{z:Nat}(Yq:jQ C Rg)(Xm:∀acc s,Rg acc s->z<=s.heap.objs.size)
 (ZI:∀n ps,jQ C λ_ s=>Pr n ps s)
 (hi:A8 need C k sc P7 iter Pr)(htg:need=true->cB target=true)(R6:∀y q,ρ y=some q->P7 y=some q)
 (VQ:∀n ps acc s,z<=n->Rg acc s->Pr n ps s->∃Ac:Nat->Acc,(∀i,jQ C (Ac i))/\(∀s,Rg acc s->Pr n ps s->Ac 0 acc s)/\(∀p s,Ac ps.length p s->Sv p s)/\nW C k sc mine P7 target ifs Ac inner ps):
 ja C k sc mine P7 Rg ρ Sv (sF e d iter):=λW own' A env s D a₀ t Wt rm RY Rd Te Xo X B=>by
 refine Ha (G' (hi W A env s rm (X.less (by simp))) (λv P5 h=> ?_) λ_ _ q=>q.elim)
 obtain⟨e1,ps,hP,hit⟩:=h
 refine Ha (Jb (Ha (OJ (hs v env) (Ha (Ip (hit A _ _ λit P6 e2 ⟨I,Qm,S⟩=>Ha (wpAny_runOwn ?_)))))))
 refine cps λG g=> ?_
 have nil:∀{s},uv s []:=λ_ h=>nomatch h
 have XW:=Yq _ _ _ _ X.inv Xo e1 nil
 refine rz (VQ s.heap.objs.size ps a₀ P5 (Xm _ _ Xo) XW hP) λAc Qy hz TA step=> ?_
 have lo:=S.lo
 have Ry:s.heap.objs.size<=I:=Hf e1.size lo
 refine ae (S.obj 0 _ S.st) λQg QA Qd=> ?_
 have Qc:∀y∈(D,a₀)::own',y.1≠I:=λy hy q=>absurd (X.low _ (X.owns y hy).1) (HH.mpr (q▸Ry))
 have swap:∀{p q:He×PV},∀y∈p::q::own',y∈q::p::own':=λy hy=>(JU.swap _ _ _).mem_iff.mp hy
 have X2:St C (I::W) sc ((D,a₀)::(I,.obj Qg)::own') P7 env P6:=
  (((X.aA e1).grow e2 lo S.hi).iS (a:=I) (p:= .obj Qg) f' ⟨QA,Qd.bq⟩ S.nt (λq=>absurd (X.low _ X.noLoc.1) (HH.mpr (q▸Ry)))).less swap
 have B2:Bs C Wt mine t ((D,a₀)::(I,.obj Qg)::own') env P6:=
  ((B.step (e1.trans e2)).more (p:= .obj Qg) (a:=I) ⟨X.inv.beyond Ry,.inl (Hf B.aA.size Ry)⟩).less λy hy=>⟨y.2,swap y hy⟩
 have S':=S.rebase (W':=I::W) (ah.refl P6) (λa ha=>j' _ ha) (memC (.inr lo) λ_=> .inl)
 refine g ?_
 rw [S.it]
 have loop:KD C.M A (.compLoop e (d+1) (.ref I) (.ref D) env) (λr J=>match r with | .ok f=>Hi C.M A (pure ():Jj Unit) (λ_ J=>∃acc',kC acc'/\Sv acc' J/\St C W sc ((D,acc')::own') ρ env J/\Bs C Wt mine t ((D,acc')::own') env J) (λ_ _=>False) J | .error e=>cameBackBy C.M A env (λ_ _=>False) e J) P6:=
  nV he (heq _ _ _) Qy step rm (own':=own') Rd S' htg Qd Te (hz _ (Yq _ _ _ _ (X.inv.jB e1) XW e2 nil) (ZI _ ps a₀ _ _ _ (X.inv.jB e1) hP e2 nil)) X2 B2 (Qc _ f') RY (λy hy=>Qc y (j' _ hy)) λJ acc' YR hA X5 B5=>
   Hu ⟨acc',YR,TA _ _ hA,(X5.drop (λa ha=>j' _ ha) (memC (X.owns _ f').1 λy hy=>(X.owns y (j' _ hy)).1) X.noLoc.1).weaken R6,B5⟩
 refine fy he hg rfl loop ?_
 exact S'.self rm.handled S'.st loop
theorem eu.EE {need:Bool}{ps:List PV}(h:eu need C k sc [] ρ e ps):A8 need C k sc ρ e λ_ qs _=>qs=ps:=λW A env s rm X=>
 G' (h W A env s rm X) (λ_ _ q=>⟨q.1,ps,rfl,q.2⟩) λ_ _ q=>q
theorem xC {need:Bool}(he:i8 e){target iter:Expr}{ifs:List Expr}(inner:Mm->He->Jj Unit)
 (hg:(clausesOf e)[d+1]? =some ⟨target,iter,ifs,0⟩)(heq:∀it D env,KS e (d+1) it (.ref D) env=gJ e (d+1) target iter ifs inner it D env)
 (hs:∀x env,H4 iter env x=pure x){ps:List PV}(acc:Nat->PV){a₀ U3:PV}(h0:acc 0=a₀)(hn:acc ps.length=U3)
 (hi:eu need C k sc [] P7 iter ps)(htg:need=true->cB target=true)(R6:∀y q,ρ y=some q->P7 y=some q)
 (step:nW C k sc mine P7 target ifs (λi=>kW (acc i)) inner ps):ja C k sc mine P7 (kW a₀) ρ (kW U3) (sF e d iter):=
 uo he hg heq hs (z:=0) jQ.eq (λ_ _ _=>H7 _) (λ_ _ _ _ _ _ _ h _ _=>h) hi.EE htg R6 λn qs p s _ e1 e2=>
  ⟨λi=>kW (acc i),λ_=>jQ.eq,λ_ h _=>h.trans h0.symm,λ_ _ h=>(e2▸h).trans hn,e2▸step⟩
theorem C3 {elt t1 i1 t2 i2:Expr}{f1 f2:List Expr}{it:y'}{D:He}{env:Mm}:KS (.ListComp elt [⟨t1,i1,f1,0⟩,⟨t2,i2,f2,0⟩] scope pos) 0 it (.ref D) env=
 gJ (.ListComp elt [⟨t1,i1,f1,0⟩,⟨t2,i2,f2,0⟩] scope pos) 0 t1 i1 f1 (sF (.ListComp elt [⟨t1,i1,f1,0⟩,⟨t2,i2,f2,0⟩] scope pos) 0 i2) it D env:=by
 simp only [gJ,sF]
 simp only [Mq]
 rfl
theorem yU {elt t1 i1 t2 i2:Expr}{f1 f2:List Expr}{it:y'}{D:He}{env:Mm}:KS (.ListComp elt [⟨t1,i1,f1,0⟩,⟨t2,i2,f2,0⟩] scope pos) (0+1) it (.ref D) env=
 gJ (.ListComp elt [⟨t1,i1,f1,0⟩,⟨t2,i2,f2,0⟩] scope pos) (0+1) t2 i2 f2 (jz elt) it D env:=by rfl
variable {β:Type}
noncomputable def putD (es:List (Str×PV)) (x:Str) (p:PV):List (Str×PV):=if es.any (λe=>e.1=x) then es.map (λe=>if e.1=x then(e.1,p) else e) else es ++ [(x,p)]
theorem aW {h:Ho}{a:He}{ds:List Hs}{n:Nat}{kvs:List (Str×y')}(g:h.get? a=some (bj ds n))(sd:C.S a ds kvs):h.DictOf (strKind C.prog C.w) a kvs:=
 ⟨_,ds.toArray,n,g,⟨rfl,rfl,rfl⟩,rfl,sd.2.1,by simpa using sd.2.2.1,sd.2.2.2⟩
theorem fO {h:Ho}{a:He}{kvs:List (Str×y')}(x:h.DictOf (strKind C.prog C.w) a kvs)(ha:a≠Js):∃ds n,h.get? a=some (bj ds n)/\C.S a ds kvs:=by
 obtain⟨o,es,ep,g,⟨h1,h2,h3⟩,hd,hk,hp,hn⟩:=x
 obtain⟨c,dd,da,sl⟩:=o
 dsimp only at h1 h2 h3 hd
 subst h1;subst h2;subst h3;subst hd
 exact⟨es.toList,ep,g,ha,by lia,hp,hn⟩
theorem bC.keys {P:He->List Hs->List (Str×y')->Prop}{N:He->Prop}{h:Ho}:∀{es:List (Str×PV)}{kvs:List (Str×y')},bC P N h kvs es->kvs.map (·.1)=es.map (·.1)
 |[],_,x=>by rw [show _=([]:List (Str×y')) from x];rfl
 |(q,p)::ps,_,⟨v,r,e,x,y⟩=>by simp only [e,Hw,bC.keys y]
theorem bC.app {P:He->List Hs->List (Str×y')->Prop}{N:He->Prop}{h:Ho}:∀{es Q1:List (Str×PV)}{kvs Q2:List (Str×y')},bC P N h kvs es->bC P N h Q2 Q1->bC P N h (kvs ++ Q2) (es ++ Q1)
 |[],_,_,_,x,y=>by refine(show _=([]:List (Str×y')) from x)▸?_;exact y
 |(q,p)::ps,_,_,_,⟨v,r,e,x,y⟩,z=>by refine e▸?_;exact⟨v,_,rfl,x,bC.app y z⟩
theorem bC.put {P:He->List Hs->List (Str×y')->Prop}{N:He->Prop}{h:Ho}{x:Str}{v:y'}{p:PV}(hv:Rp P N h v p){es:List (Str×PV)}{kvs:List (Str×y')}(r:bC P N h kvs es):bC P N h (stored kvs x v) (putD es x p):=by
 have hk:=bC.keys r
 have Vw:kvs.any (λkv=>decide (kv.1=x))=es.any (λe=>decide (e.1=x)):=by
  simp only [(by rw [Ln];rfl:kvs.any (λkv=>decide (kv.1=x))=(kvs.map (·.1)).any (λy=>decide (y=x))),(by rw [Ln];rfl:es.any (λe=>decide (e.1=x))=(es.map (·.1)).any (λy=>decide (y=x))),hk]
 delta stored putD
 refine Vw▸?_
 split
 ·rename_i ZY
  clear Vw hk ZY
  induction es generalizing kvs with
  |nil=>refine(show kvs=[] from r)▸?_;rfl
  |cons e es ih=>
   refine bo r λu r' P8 x1 y1=> ?_;rw [P8]
   rw [Hw,Hw]
   by_cases hq:e.1=x
   ·rw [hq]
    simp only [if_true]
    exact⟨v,_,rfl,hv,ih y1⟩
   ·simp only [hq,if_false]
    exact⟨u,_,rfl,x1,ih y1⟩
 ·exact bC.app r ⟨v,[],rfl,hv,rfl⟩
theorem bC.find {P:He->List Hs->List (Str×y')->Prop}{N:He->Prop}{h:Ho}{x:Str}:∀{es:List (Str×PV)}{kvs:List (Str×y')},bC P N h kvs es->∀{p},es.lookup x=some p->∃v,valueAt kvs x=some v/\Rp P N h v p
 |[],_,_,p,e=>by simp at e
 |(q,p')::ps,_,⟨v,r,e,y,z⟩,p,e'=>by
  subst e
  simp only [Hr] at e'
  unfold valueAt
  simp only [Ld]
  cases hx:x==q with
  |true=>
   replace e':=hx▸e';cases e'
   have:x=q:=by simpa using hx
   refine this▸?_
   exact⟨v,by simp,y⟩
  |false=>
   replace e':=hx▸e'
   have:¬q=x:=by intro h;subst h;simp at hx
   obtain⟨u,h1,h2⟩:=bC.find z e'
   refine⟨u,?_,h2⟩
   simp only [this,decide_false]
   exact h1
theorem bC.gO {P:He->List Hs->List (Str×y')->Prop}{N:He->Prop}{h:Ho}{x:Str}:∀{es:List (Str×PV)}{kvs:List (Str×y')},bC P N h kvs es->es.lookup x=none->valueAt kvs x=none
 |[],_,e,_=>by rw [show _=([]:List (Str×y')) from e];rfl
 |(q,p')::ps,_,⟨v,r,e,y,z⟩,e'=>by
  subst e
  simp only [Hr] at e'
  unfold valueAt
  simp only [Ld]
  cases hx:x==q with
  |true=>replace e':=hx▸e';cases e'
  |false=>
   rw [hx] at e'
   have:¬q=x:=by intro h;subst h;simp at hx
   simp only [this,decide_false]
   exact bC.gO z e'
noncomputable def AZ (kx vx:Expr):Mm->He->Jj Unit:=λenv D=>do
 let kv <-IQ kx env
 let vv <-holding [kv] (IQ vx env)
 standAt {kx.pos with endLine:=vx.pos.endLine,endCol:=vx.pos.endCol}
 holding [kv,vv] (dictSet D kv vv)
theorem t6 {kx vx:Expr}{x:Str}{p:PV}{es:List (Str×PV)}(h1:Ev C k sc [] P7 kx (.str x))(h2:Ev C k sc [] P7 vx p)(R6:∀y q,ρ y=some q->P7 y=some q)(hz:es.length<=sizeLine):ja C k sc mine P7 (kW (.au es)) ρ (kW (.au (putD es x p))) (AZ kx vx):=λW own' A env s D acc t Wt rm RY Rd Te hA X B=>by
 cases hA
 refine Ha (G' (h1 W A env s rm (X.less (by simp))) (λkv s1 q1=>Ha (Ip (G' (h2 W A env s1 rm ((X.aA q1.1).less (by simp))) (λv s2 q2=> ?_) λ_ _ q=>q.elim))) λ_ _ q=>q.elim)
 obtain⟨e1,tk,rfl⟩:=q1
 have X2:=(X.aA e1).aA q2.1
 have UE:=B.owns _ f'
 obtain⟨hD,⟨ds,n,kvs,g,sd,r⟩,hDt⟩:=X2.owns _ f'
 refine Ha (Jb (Ip (wpAny_dictSet_pairs (knd:=strKind C.prog C.w) (k:=x) (by show MI x (.str x tk)=true;simp [MI]) (aW g sd) (λh' R1 QJ=> ?_)
  (by rw [show kvs.length=es.length by have:=HV NB (bC.keys r);simpa using this];exact hz))))
 refine cps λG g'=> ?_
 have e3:ah C [D] s2 {s2 with heap:=h',toks:=s2.toks+1}:=ah.turn X2.inv QJ g (λvs q=>nomatch q) (by simp)
 have kk:∀b o,¬C.N W b->s2.heap.get? b=some o->¬C.N W b/\h'.get? b=some o:=λb o n g=>⟨n,(QJ.2 b (by rintro rfl;exact n (.inr hD))).trans g⟩
 refine aL (fO R1 sd.1) λVj n' g2 WU=> ?_
 exact g' ⟨_,kC.au,rfl,(X2.turn (own':=(D,.au (putD es x p))::own') hD (X2.ownLoc _ f') UE.1 QJ.extBut e3 g (λ_=>nofun)
  (memC (.inl ⟨rfl,Vj,n',_,g2,WU,bC.put (Rp.mono kk q2.2) (bC.mono kk r)⟩) λy hy=> .inr ⟨RY y hy,j' _ hy⟩)).weaken R6,
  (((B.step e1).step q2.1).turn QJ UE e3).less (memC ⟨_,f'⟩ λy hy=>⟨y.2,j' _ hy⟩)⟩
theorem qP {α β:Type}(f:List β->α->List β)(hf:∀d a,(f d a).length<=d.length+1):∀(l:List α)(d:List β),(l.foldl f d).length<=d.length+l.length:=by
 intro q0
 induction q0 with
 |nil=>
  intro _
  exact Hk _
 |cons a l ih=>
  intro d
  exact Hf (ih _) (by have:=hf d a;simp only [HK];lia)
theorem xq (es:List (Str×PV))(x:Str)(p:PV):(putD es x p).length<=es.length+1:=by
 unfold putD
 split
 ·rw [Hb];simp
 ·simp
theorem tx {α:Type}{need:Bool}{kx vx target iter:Expr}(ok:fb scope sc)(hs:∀x env,H4 iter env x=pure x){l:List α}{g:α->PV}(f:α->Str)(v:α->PV)
 (hi:eu need C k sc own ρ iter (l.map g))(hz:l.length<=sizeLine)
 (step:∀a∈l,∃P7,bg C (dT scope sc) (bD scope) (bA scope ρ) target (g a) P7/\(∀y q,bA scope ρ y=some q->P7 y=some q)/\Ev C k (dT scope sc) [] P7 kx (.str (f a))/\Ev C k (dT scope sc) [] P7 vx (v a))(htg:autoParam (need=true->cB target=true) nf):
 DM C k sc own ρ kx vx [⟨target,iter,[],0⟩] scope pos (.au (l.foldl (λes a=>putD es (f a) (v a)) [])):=
 CA (htg:=htg) (AZ kx vx) (λit D env=>by rfl) ok hs (λi=> .au ((l.take i).foldl (λes a=>putD es (f a) (v a)) [])) (by simp) (by simp) hi λi p hp=>by
  refine ae (c4 hp) λa ha P8=> ?_;refine P8▸?_
  refine rz (step a (HX ha)) λP7 h1 h2 h3 h4=> ?_
  refine⟨P7,true,h1,tZ.nil,?_⟩
  show ja _ _ _ _ _ (kW _) _ (kW (.au ((l.take (i+1)).foldl (λes a=>putD es (f a) (v a)) []))) _
  rw [take_snoc ha,Lp]
  refine t6 h3 h4 h2 (Hf (qP _ (λd e=>xq d _ _) _ _) ?_)
  simp_all
  exact Hf (K1 _ _) hz
theorem az {x:Str}{px:Jm}{e:Expr}{p:PV}(X:St C W sc own ρ env s)(B:Bs C Wt mine t own env s)(rm:ak A k)(he:Ev C k sc own ρ e p)
 (hl:sc.scope.names.lookup x=some .local)(hs:Kg e (some (.Name x px)) pos.line env=pure false)
 (next:∀J,St C W sc own (upd ρ x p) env J->Bs C Wt mine t own env J->Hi C.M A (HA rest env) Q E J):Hi C.M A (HA (.Assign [.Name x px] e pos::rest) env) Q E s:=by
 refine Ia (KG (G' (he W A env s rm X) ?_ λ_ _ q=>q.elim) hs)
 rintro v s1 ⟨e1,r⟩
 exact fx (X.aA e1) (B.step e1) hl r λJ X' B' _=>next J X' B'
theorem a8 {x:Str}{px:Jm}{e:Expr}{p:PV}(X:St C W sc own ρ env s)(B:Bs C Wt mine t own env s)(rm:ak A k)(he:Ev C k sc own ρ e p)
 (hl:sc.scope.names.lookup x=some .cell)(hm:mine x=true)(hs:Kg e (some (.Name x px)) pos.line env=pure false)
 (next:∀J,St C W sc own (upd ρ x p) env J->Bs C Wt mine t own env J->Hi C.M A (HA rest env) Q E J):Hi C.M A (HA (.Assign [.Name x px] e pos::rest) env) Q E s:=by
 refine Ia (KG (G' (he W A env s rm X) ?_ λ_ _ q=>q.elim) hs)
 rintro v s1 ⟨e1,r⟩
 exact gv (X.aA e1) (B.step e1) hl hm r λJ X' B' _=>next J X' B'
theorem iR {ts:List Expr}{n:Nat}{px:Jm}{e:Expr}{p:PV}(X:St C W sc own ρ env s)(B:Bs C Wt mine t own env s)(rm:ak A k)(he:Ev C k sc own ρ e p)
 (ht:bg C sc mine ρ (.Tuple ts n px) p Qa)(hs:swapsWithSole [.Tuple ts n px] e pos.line env=pure false)(hw:swappedStores [.Tuple ts n px] e env=pure none)
 (next:∀J,St C W sc own Qa env J->Bs C Wt mine t own env J->Hi C.M A (HA rest env) Q E J):Hi C.M A (HA (.Assign [.Tuple ts n px] e pos::rest) env) Q E s:=by
 refine Ia (wpAny_Assign_stores (G' (he W A env s rm X) ?_ λ_ _ q=>q.elim) hs hw)
 rintro v s1 ⟨e1,r⟩
 refine G' (ht W own A env s1 v t Wt rm.handled (X.aA e1) (B.step e1) r) ?_ λ_ _ q=>q.elim
 intro _ s2 zz;refine cZ zz λX2 B2 _=> ?_
 exact next s2 X2 B2
theorem cy {e:Expr}{p:PV}(X:St C W sc own ρ env s)(B:Bs C Wt mine t own env s)(rm:ak A k)(he:Ev C k sc own ρ e p)
 (fin:∀v J,St C W sc own ρ env J->Bs C Wt mine t own env J->Rr C W J.heap v p->Q (.ret v) J):Hi C.M A (HA (.Return (some e) pos::rest) env) Q E s:=by
 refine Ia (wpAny_Return_some (G' (he W A env s rm X) ?_ λ_ _ q=>q.elim))
 rintro v s1 ⟨e1,r⟩
 exact fin v s1 (X.aA e1) (B.step e1) r
theorem step_if {c:Expr}{body orelse:List I9}{b:Bool}(X:St C W sc own ρ env s)(B:Bs C Wt mine t own env s)(rm:ak A k)(hc:Tr C k sc own ρ c b)
 (next:∀J,St C W sc own ρ env J->Bs C Wt mine t own env J->Hi C.M A (HA (if b=true then body else orelse) env) (λf J=>match f with | .next=>Hi C.M A (HA rest env) Q E J |f=>Q f J) E J):
 Hi C.M A (HA (.If c body orelse pos::rest) env) Q E s:=by
 refine Ia (wpAny_If (G' (hc W A env s rm X) ?_ λ_ _ q=>q.elim))
 rintro v s1 ⟨e1,rfl⟩
 have:=next s1 (X.aA e1) (B.step e1)
 cases v with
 |true=>exact G' this (λf Qj h=>by cases f <;> exact h) (λ_ _ h=>h)
 |false=>exact G' this (λf Qj h=>by cases f <;> exact h) (λ_ _ h=>h)
theorem bH {c:Expr}{body:List I9}(X:St C W sc own ρ env s)(B:Bs C Wt mine t own env s)(rm:ak A k)(hc:Tr C k sc own ρ c false)
 (next:∀J,St C W sc own ρ env J->Bs C Wt mine t own env J->Hi C.M A (HA rest env) Q E J):
 Hi C.M A (HA (.If c body [] pos::rest) env) Q E s:=
 step_if X B rm hc λJ X' B'=>by
  exact Hq (next J X' B')
theorem w6 {x:Str}{px:Jm}{op:Operator}{e:Expr}{p q r:PV}(X:St C W sc own ρ env s)(B:Bs C Wt mine t own env s)(rm:ak A k)(he:Ev C k sc own ρ e q)
 (hl:sc.scope.names.lookup x=some .local)(hp:ρ x=some p)(Sy:aj C (inplaceOp op) p q r)
 (next:∀J,St C W sc own (upd ρ x r) env J->Bs C Wt mine t own env J->Hi C.M A (HA rest env) Q E J):Hi C.M A (HA (.AugAssign (.Name x px) op e pos::rest) env) Q E s:=by
 refine ae X.loc λm h1 h2=> ?_
 refine ae (h2 x p hl hp) λv h3 h4=> ?_
 refine Ia (wpAny_AugAssign_Name (KO (by rw [X.ok.scope];exact X.ok.kind) (by unfold J7;rw [X.ok.scope];exact hl) h1 h3 (G' (he W A env s rm X) ?_ λ_ _ q=>q.elim)))
 rintro u s1 ⟨e1,r1⟩
 refine G' (Sy W A s1 v u rm.zero (X.aA e1).gd (e1.pC h4) r1) ?_ λ_ _ q=>q.elim
 rintro z s2 ⟨e2,r2⟩
 exact fx ((X.aA e1).aA e2) ((B.step e1).step e2) hl r2 λJ X' B' _=>next J X' B'
def Th (C:Cfg)(p:PV)(b:Bool):Prop:=∀W A s v,ak A 0->Gd C W s->Rr C W s.heap v p->Hi C.M A (truthy v) (λc J=>ah C [] s J/\c=b) (λ_ _=>False) s
theorem Th.bool {b:Bool}:Th C (.bool b) b:=λW A s v _ _ r=>by
 refine(show v= .bool b from r)▸?_
 exact Mz ⟨ah.refl _,rfl⟩
theorem Th.none:Th C .none false:=λW A s v _ _ r=>by
 refine(show v= .none from r)▸?_
 exact PyProof.Rows.truthy_none ⟨ah.refl _,rfl⟩
theorem Th.int {i:Int}:Th C (.int i) (i !=0):=λW A s v _ _ r=>by
 obtain⟨t,rfl⟩:=r
 exact PyProof.Rows.truthy_int ⟨ah.refl _,rfl⟩
theorem Tr.plain {e:Expr}{p:PV}{b:Bool}(h:Ev C k sc own ρ e p)(ht:Th C p b)(he:∀env whole,PySem.isTrue e env whole=(do let v <-whole;standAt e.pos;holding [v] (truthy v))):Tr C k sc own ρ e b:=λW A env s rm X=>
 isTrue_plain (G' (h W A env s rm X) (λv s1 zz=>c7 zz λe1 r1=>G' (ht W A s1 v rm.zero (X.aA e1).gd r1) (λc s2 zz=>c7 zz λe2 h2=>⟨e1.trans e2,h2⟩) λ_ _ q=>q) λ_ _ q=>q.elim) (he _ _)
theorem Tr.not {e:Expr}{b:Bool}(h:Tr C k sc own ρ e b):Tr C k sc own ρ (.UnaryOp .Not e pos) (!b):=λW A env s rm X=>
 isTrue_not (G' (h W A env s rm X) (λc s1 zz=>c7 zz λe1 h1=>⟨e1,by rw [h1]⟩) λ_ _ q=>q)
theorem Tr.xM:Tr C k sc own ρ (.BoolOp .And [] pos) true:=λW A env s rm X=>isTrue_and_nil ⟨ah.refl _,rfl⟩
theorem Tr.qA:Tr C k sc own ρ (.BoolOp .Or [] pos) false:=λW A env s rm X=>isTrue_or_nil ⟨ah.refl _,rfl⟩
theorem Tr.and {e:Expr}{es:List Expr}{b c:Bool}(h:Tr C k sc own ρ e b)(hs:b=true->Tr C k sc own ρ (.BoolOp .And es pos) c):Tr C k sc own ρ (.BoolOp .And (e::es) pos) (b && c):=λW A env s rm X=>
 isTrue_and (G' (h W A env s rm X) (λd s1 zz=>c7 zz λe1 h1=>by
  subst h1
  cases d with
  |true=>exact G' (hs rfl W A env s1 rm (X.aA e1)) (λc s2 zz=>c7 zz λe2 h2=>⟨e1.trans e2,(h2)⟩) λ_ _ q=>q
  |false=>exact⟨e1,rfl⟩) λ_ _ q=>q)
theorem GS {e:Expr}{es:List Expr}{b c:Bool}(h:Tr C k sc own ρ e b)(g:Tr C k sc own ρ (.BoolOp .And es pos) c):Tr C k sc own ρ (.BoolOp .And (e::es) pos) (b && c):=Tr.and h λ_=>g
theorem Tr.or {e:Expr}{es:List Expr}{b c:Bool}(h:Tr C k sc own ρ e b)(hs:b=false->Tr C k sc own ρ (.BoolOp .Or es pos) c):Tr C k sc own ρ (.BoolOp .Or (e::es) pos) (b || c):=λW A env s rm X=>
 isTrue_or (G' (h W A env s rm X) (λd s1 zz=>c7 zz λe1 h1=>by
  subst h1
  cases d with
  |false=>exact G' (hs rfl W A env s1 rm (X.aA e1)) (λc s2 zz=>c7 zz λe2 h2=>⟨e1.trans e2,(h2)⟩) λ_ _ q=>q
  |true=>exact⟨e1,rfl⟩) λ_ _ q=>q)
theorem Tr.cmp {l r:Expr}{op:CmpOp}{p q t:PV}{b:Bool}(h1:Ev C k sc own ρ l p)(h2:Ev C k sc own ρ r q)(hm:aj C (HZ op) p q t)(ht:Th C t b)(hb:behindInMarks op r=false):Tr C k sc own ρ (.Compare l [op] [r] pos) b:=λW A env s rm X=>by
 simp only [OO]
 rw [show markedBehindIn op r (IQ r env)=IQ r env from MW hb]
 refine Ha (G' (h1 W A env s rm X) ?_ λ_ _ q=>q.elim)
 rintro v s1 ⟨e1,r1⟩
 refine Ha (Ip (G' (h2 W A env s1 rm (X.aA e1)) ?_ λ_ _ q=>q.elim))
 rintro u s2 ⟨e2,r2⟩
 refine Ha (Jb (Ha (OY (G' (hm W A s2 v u rm.zero ((X.aA e1).aA e2).gd (e2.pC r1) r2) ?_ λ_ _ q=>q.elim))))
 rintro c s3 ⟨e3,r3⟩
 refine Ip (G' (ht W A s3 c rm.zero (((X.aA e1).aA e2).aA e3).gd r3) ?_ λ_ _ q=>q.elim)
 rintro d s4 ⟨e4,h4⟩
 exact⟨((e1.trans e2).trans e3).trans e4,h4⟩
theorem Ev.lC {c a b:Expr}{d:Bool}{p:PV}(hc:Tr C k sc own ρ c d)(h:Ev C k sc own ρ (if d=true then a else b) p):Ev C k sc own ρ (.IfExp c a b pos) p:=λW A env s rm X=>
 IfExp_ (G' (hc W A env s rm X) (λx s1 zz=>c7 zz λe1 h1=>by
  subst h1
  have:=h W A env s1 rm (X.aA e1)
  cases x with
  |true=>exact G' this (λv s2 ⟨e2,r2⟩=>⟨e1.trans e2,r2⟩) λ_ _ q=>q
  |false=>exact G' this (λv s2 ⟨e2,r2⟩=>⟨e1.trans e2,r2⟩) λ_ _ q=>q) λ_ _ q=>q.elim)
structure FnAt (C:Cfg)(fa:He)(fd:Jq)(body:List I9):Prop where
 obj:∃o,C.h₀.get? fa=some o/\o.data= .func fd
 fa:fa∉C.aq
 code:C.h₀.CodeRec fd.code fd.qualname
 noTab:∀c,fd.code= .ref c->c∉C.aq
 body:fd.body= .stmts body
 co:fd.scope.isCoroutine=false
 gen:fd.scope.isGenerator=false
 kind:fd.scope.kind= .function
 clos:fd.closure=[]
 glob:fd.globals=Kq
 blt:fd.builtins=KN
 free:∀x∈fd.scope.names,x.2≠.free
noncomputable def mv (fd:Jq):Sc:=⟨fd.scope,fd.qualname ++ ".<locals>.",fd.code⟩
noncomputable def ik (fd:Jq):Str->Bool:=λ_=>true
theorem dE {fa:He}{fd:Jq}{body:List I9}{args:Args}{binds:List (Str×y')}{q:List (Str×PV)}{Q:y'->Hh->Prop}
 (ok:C.Ok)(F:FnAt C fa fd body)(g:Gd C W s)(Qb:∀x∈own,x.1∈W/\dO C W s.heap x.1 x.2/\x.1∉C.aq)
 (rm:ak A (k+1))(QX:BindsTo s fd args binds)(rep:dz C W s.heap binds q)(nd:(binds.map (·.1)).Nodup)
 (hk:∀x∈binds,fd.scope.names.lookup x.1=some .local\/fd.scope.names.lookup x.1=some .cell)
 (QU:∀L env J,s.heap.objs.size<=L->St C (L::W) (mv fd) own (aC q) env J->Bs C (own.map (·.1)) (ik fd) s own env J->∀A',ak A' k->
  Hi C.M A' (HA body env) (λf Qj=>Q (match f with | .ret v=>v |_=> .none) Qj) (λ_ _=>False) J):
 Hi C.M A (call (.ref fa) args.pos args.kw) Q E s:=by
 refine ae F.obj λo ho hd=> ?_
 refine Nc ?_
 refine LD (Ht (JM (H6 _ _) rm.depth) (by decide)) (g.inv.old _ _ F.fa ho) hd F.co F.gen F.body (g.inv.ot F.code F.noTab) (QX _ _ _ _ ?_)
 refine F.clos▸?_
 have Qt:∀x,fd.scope.names.lookup x=some .cell->((Ie (s.heap.objs.size+1) fd.scope.names []).lookup x).isSome=true:=λx hx=>by
  refine cA (aY (n:=s.heap.objs.size+1) (acc:=[]) (Ij hx)) λc hc=> ?_
  obtain⟨d,hd⟩:=aH hc
  refine hd▸?_;rfl
 refine KU F.kind (λx hx=>(hk x hx).imp id λh=>⟨h,Qt _ h⟩) λenv he J x=> ?_
 subst he
 have X:St C (s.heap.objs.size::W) (mv fd) own (aC q) (KQ fd s.heap.objs.size fa) J:=
  St.enter g Qb rfl F.glob F.blt F.kind nd rep (λx hx=>F.free _ (Ij hx) rfl) Qt x
 have B:Bs C (own.map (·.1)) (ik fd) s own (KQ fd s.heap.objs.size fa) J:=by
  refine⟨(iC (C:=C) x).up,⟨g.inv.beyond (Hk _),.inl (Hk _)⟩,λy c _ _ hc=> ?_,λy hy=>⟨g.new _ (Qb y hy).1,.inr (Hd.mpr ⟨y,hy,rfl⟩)⟩⟩
  have:=bV (Ij hc)
  exact⟨g.inv.beyond (H5 this),.inl (H5 this)⟩
 refine⟨X.inv.nolimit ok,N9 (G' (QU _ _ J (Hk _) X B _ (rm.deeper _)) (λf Qj h=>h) λ_ _ q=>q.elim)⟩
theorem Ev.glob {x:Str}{v:y'}(ok:C.Ok)(hl:sc.scope.names.lookup x=some .globalImplicit)(hv:C.mg x=some v)(hd:(x==("__debug__":Str))=false):Ev C k sc own ρ (.Name x pos) (.raw v):=λW A env s rm X=>
 NC (by rw [X.ok.scope];exact X.ok.kind) (by unfold J7;rw [X.ok.scope];exact hl) (loadGlobal_global (by rw [X.ok.globals];exact X.inv.ns ok.gT ok.g) hv ⟨ah.refl _,rfl⟩) hd
theorem Ev.blt {x:Str}{v:y'}(ok:C.Ok)(hl:sc.scope.names.lookup x=some .globalImplicit)(hg:C.mg x=Kr)(hv:C.mb x=some v)(hd:(x==("__debug__":Str))=false):Ev C k sc own ρ (.Name x pos) (.raw v):=λW A env s rm X=>
 NC (by rw [X.ok.scope];exact X.ok.kind) (by unfold J7;rw [X.ok.scope];exact hl) (loadGlobal_builtin (by rw [X.ok.globals];exact X.inv.ns ok.gT ok.g) hg (by rw [X.ok.builtins];exact X.inv.ns ok.bT ok.b) hv ⟨ah.refl _,rfl⟩) hd
def cC (C:Cfg)(k:Nat)(f:y')(ps:List PV)(r:PV):Prop:=∀W A s vs,ak A k->Gd C W s->fe C W s.heap vs ps->Gives C W A (call f vs) r s
theorem Ev.a5 {x:Str}{px:Jm}{a:Expr}{args:List Expr}{id:String}{ps:List PV}{r:PV}(hf:Ev C k sc own ρ (.Name x px) (.raw (.builtin id)))(ha:ab C k sc own ρ (a::args) ps)(hc:cC C k (.builtin id) ps r)
 (hn:autoParam (∀env,(Jo pos (HG (a::args) env)).any (·.1)=false) ng)(Q':autoParam (∀env,∃m ms,Jo pos (HG (a::args) env)=(false,m)::ms) nh):
 Ev C k sc own ρ (.Call (.Name x px) (a::args) [] pos) r:=λW A env s rm X=>by
 refine I6 (G' (hf W A env s rm X) ?_ λ_ _ q=>q.elim)
 rintro v s1 ⟨e1,r1⟩
 refine(show v= .builtin id from r1)▸?_
 refine Ou (hn env) ?_
 refine fB (Q' env) λm ms hm=> ?_
 have h2:=ha W A env s1 pos rm (X.aA e1)
 rw [hm] at h2 ⊢
 refine Lq (G' h2 ?_ λ_ _ q=>q.elim)
 intro vs s2 zz;refine c7 zz λe2 r2=> ?_
 refine G' (hc W A s2 vs rm ((X.aA e1).aA e2).gd r2) ?_ λ_ _ q=>q.elim
 rintro w s3 ⟨e3,r3⟩
 exact⟨(e1.trans e2).trans e3,r3⟩
theorem cC.zb {xs:List PV}(hz:(xs.length:Int) < 2 ^ 63):cC C k (.builtin "len") [.lst xs] (.int xs.length):=λW A s vs rm g r=>by
 obtain⟨v,r',rfl,⟨a,us,n,rfl,f,go,ru⟩,hr⟩:=r
 refine(show r'=[] from hr)▸?_
 have hl:=aR.length ru
 exact O' (aQ go) (by simpa [hl] using hz) ⟨ah.tok _,_,by simp [hl];rfl⟩
noncomputable def aI (a:Int) (n:Nat):List PV:=(Hg n).map λ(i:Nat)=> .int (a+(i:Int))
theorem pd {a b:Int}(h1: -(2 ^ 62) < a)(h2:b < 2 ^ 62)(h3:a < 2 ^ 62)(h4: -(2 ^ 62) < b):Mc a b 1=true:=by
 delta Mc H8.Range.rangeFitsLong
 rw [NW]
 simp only [H',OP,Iz,beq_iff_eq]
 split <;> simp <;> grind -splitIndPred
theorem Walks.C0 {I:He}{fp wr:List He}{n:Nat}{P:Nat->y'->Prop}{St:Nat->Ho->Prop}(w:Walks C.prog C.w A I fp wr n P St):Walks C.prog C.w A I fp wr n (λi v=>i < n/\P i v) St where
 sub:=w.sub
 frame:=w.frame
 item:=λi s Q E hi st hQ=>w.item i s Q E hi st λv h' tk hp h1 h2=>hQ v h' tk ⟨hi,hp⟩ h1 h2
 done:=w.done
 self:=w.self
theorem src_range {a b:Int}{n:Nat}(i:Inv C s){r:He}{t u v:Tok}(hr:IsRange s.heap r a b 1 t u v)(hs:Mc a b 1=true)(hn:H8.Range.rangeSize a b 1=n)(hz:n<=sizeLine)
 {Q:y'->Hh->Prop}(hQ:∀it P6,ah C [] s P6->Src C W s.heap.objs.size it (aI a n) P6->Q it P6):Hi C.M A (L6 (.ref r)) Q E s:=by
 refine wpAny_pyIter_range hr hs ?_
 refine hn▸?_
 have hl:(aI a n).length=n:=by simp [aI]
 refine hQ _ _ (ah.push _ s.toks) ⟨s.heap.objs.size,[s.heap.objs.size],λi v=>i < n/\∃t,v= .int (a+i*1) t,λi h=>IsRangeIter h s.heap.objs.size (a+(i:Nat)*1) ((n:Int) - (i:Nat)) 1,{it:=rfl,lo:=Hk _,hi:=cg,walks:= ?_,st:= ?_,safe:=λb hb=> .inl (Hm.mp hb),sz:=by rw [hl];exact hz,val:= ?_,obj:= ?_,nt:=i.fresh}⟩
 ·intro A' hA
  simp only [hl]
  exact Internal.Walks.C0 (Walks.range hA _ a 1 n)
 ·have:(a+((0:Nat):Int)*1)=a:=by simp
  simp only [this]
  have:((n:Int) - ((0:Nat):Int))=n:=by rfl
  exact Hp _ rfl
 ·rintro i v ⟨hi,t,rfl⟩ J W' _ _
  exact⟨.int (a+(i:Int)),by simp [aI,hi],t,by rw [J0]⟩
 ·intro i h hi
  exact⟨_,hi,⟨⟨_,rfl⟩,_,rfl,by simp,by intro q t e;cases e⟩,_,rfl,by rfl⟩
theorem aX.cJ {x:Str}{px:Jm}{e:Expr}{n:Int}(hf:Ev C k sc own ρ (.Name x px) (.raw (.type "range")))(ha:Ev C k sc own ρ e (.int n))(hz:n<=sizeLine)(h0:0<=n)
 (hn:∀env,HG [e] env=[(false,IQ e env)]):aX C k sc own ρ (.Call (.Name x px) [e] [] pos) (aI 0 n.toNat):=λW A env s rm X=>by
 refine I6 (G' (hf W A env s rm X) ?_ λ_ _ q=>q.elim)
 rintro v s1 ⟨e1,r1⟩
 refine(show v= .type "range" from r1)▸?_
 refine callWith_type1 ?_ (hn env) rfl
 simp_all
 refine K2 (G' (ha W A env s1 rm (X.aA e1)) ?_ λ_ _ q=>q.elim)
 rintro u s2 ⟨e2,tk,rfl⟩
 refine LZ (call_range_1 ?_)
 have e3:ah C [] s2 {s2 with heap:=s2.heap.push {cls:= .type "range",data:= .fields #[.int 0 s2.toks,.int n tk,.int 1 (s2.toks+1)]},toks:=s2.toks+1+1}:=ah.push _ _
 have QO:(sizeLine:Int) < 2 ^ 62:=by decide
 refine⟨(e1.trans e2).trans e3,λA' Q E hQ=>src_range (n:=n.toNat) (((X.aA e1).aA e2).inv.jB e3) (IsRange.new _ _ _ _ _ _ _) (pd (by decide) (by exact N0 hz QO) (by decide) (by lia)) (by rw [NW];split <;> grind -splitIndPred) (by simp_all) λit P6 e2 S=>hQ it P6 e2 S.sq⟩
section
open PySem PySem.W PyProof.Rows PySem.Calls Lean Meta Elab Tactic
open PySem
end
variable {σ:bP}
section
open PySem PySem.W PyProof.Rows PySem.Calls Lean Meta Elab Tactic
theorem le_refl (ρ:bP):∀y q,ρ y=some q->ρ y=some q:=λ_ _ h=>h
theorem wH {x:Str}{p:PV}(h:∀y q,σ y=some q->ρ y=some q)(hx:σ x=none):∀y q,σ y=some q->upd ρ x p y=some q:=λy q e=>by
 unfold upd
 split
 ·rename_i hy
  have:y=x:=by simpa using hy
  simp only [this,hx] at e;cases e
 ·exact h y q e
theorem j5 {x:Str}(h:(scope.names.lookup x==some .free)=false):bA scope ρ x=none:=by
 unfold bA
 rw [Hz]
 intro e
 rw [e] at h
 simp at h
theorem pL {x:Str}{p:PV}(h:scope.names.lookup x=some .free)(h2:ρ x=some p):bA scope ρ x=some p:=by
 unfold bA
 rw [HE h,h2]
theorem sP {elt:OZ}{gens:List I4}{y:Str}{py:Jm}{line:Nat}(X:St C W sc own ρ env s)(hk:sc.scope.kind= .function)(hl:sc.scope.names.lookup y=some .local)(h1:(py.line==pos.line)=true)
 (h2:(scope.names.any λ(n,k)=>n==y && (k== .local || k== .cell))=false):Kg (.ListComp elt gens scope pos) (some (.Name y py)) line env=pure true:=by
 show (pure (env.blockKind== .function && env.kindOf y==some .local && py.line==pos.line && !(scope.names.any λ(n,k)=>n==y && (k== .local || k== .cell))):Jj Bool)=pure true
 simp only [(by unfold Mm.blockKind;rw [X.ok.scope,hk];rfl:env.blockKind= .function),(by unfold J7;rw [X.ok.scope];exact hl:env.kindOf y=some .local),h1,h2];rfl
theorem cz {elt:OZ}{gens:List I4}{y:Str}{py:Jm}{line:Nat}(X:St C W sc own ρ env s)(hl:(sc.scope.names.lookup y==some .local)=false):Kg (.ListComp elt gens scope pos) (some (.Name y py)) line env=pure false:=by
 show (pure (env.blockKind== .function && env.kindOf y==some .local && py.line==pos.line && !(scope.names.any λ(n,k)=>n==y && (k== .local || k== .cell))):Jj Bool)=pure false
 rw [(by unfold J7;refine X.ok.scope▸?_;exact hl:(env.kindOf y==some .local)=false)];simp
theorem kr {kx vx:OZ}{gens:List I4}{y:Str}{py:Jm}{line:Nat}(X:St C W sc own ρ env s)(hl:(sc.scope.names.lookup y==some .local)=false):Kg (.DictComp kx vx gens scope pos) (some (.Name y py)) line env=pure false:=by
 show (pure (env.blockKind== .function && env.kindOf y==some .local && py.line==pos.line && !(scope.names.any λ(n,k)=>n==y && (k== .local || k== .cell))):Jj Bool)=pure false
 rw [(by unfold J7;refine X.ok.scope▸?_;exact hl:(env.kindOf y==some .local)=false)];simp
end
section
open PySem PySem.W PyProof.Rows PySem.Calls Lean Meta Elab Tactic
end
section
open PySem PySem.W PyProof.Rows PySem.Calls Lean Meta Elab Tactic
end
theorem aj.Fy {a b:Str}:aj C (HZ .Eq) (.str a) (.str b) (.bool (a==b)):=λW A s v u _ g h1 h2=>by
 obtain⟨t,rfl⟩:=h1;obtain⟨t',rfl⟩:=h2
 exact PyProof.Rows.eq_str ⟨ah.refl _,rfl⟩
theorem aj.FC {a b:Str}:aj C (HZ .NotEq) (.str a) (.str b) (.bool (a !=b)):=λW A s v u _ g h1 h2=>by
 obtain⟨t,rfl⟩:=h1;obtain⟨t',rfl⟩:=h2
 exact PyProof.Rows.ne_str ⟨ah.refl _,rfl⟩
theorem aj.dA {a b:Str}:aj C (HZ .Lt) (.str a) (.str b) (.bool (decide (a.cps.toList < b.cps.toList))):=λW A s v u _ g h1 h2=>by
 obtain⟨t,rfl⟩:=h1;obtain⟨t',rfl⟩:=h2
 exact PyProof.Rows.lt_str ⟨ah.refl _,rfl⟩
theorem aj.CH {a b:Str}(hz:a.length+b.length<=sizeLine):aj C (Kx .Add) (.str a) (.str b) (.str (a ++ b)):=λW A s v u _ g h1 h2=>by
 obtain⟨t,rfl⟩:=h1;obtain⟨t',rfl⟩:=h2
 exact PyProof.Rows.add_str (λt' tk=>⟨ah.tok _,_,rfl⟩) hz
theorem aj.eqB {a b:Bool}:aj C (HZ .Eq) (.bool a) (.bool b) (.bool (a==b)):=λW A s v u _ g h1 h2=>by
 refine(show v= .bool a from h1)▸(show u= .bool b from h2)▸?_
 exact PyProof.Rows.eq_bool ⟨ah.refl _,rfl⟩
theorem aj.F8 {a b:Bool}:aj C (HZ .NotEq) (.bool a) (.bool b) (.bool (a !=b)):=λW A s v u _ g h1 h2=>by
 refine(show v= .bool a from h1)▸(show u= .bool b from h2)▸?_
 exact PyProof.Rows.ne_bool ⟨ah.refl _,rfl⟩
theorem aj.pow {a n:Int}(hn:0<=n)(Sa:n<=1000000)(ha:a.natAbs < 2 ^ 64):aj C (Kx .Pow) (.int a) (.int n) (.int (a ^ n.toNat)):=λW A s v u _ g h1 h2=>by
 obtain⟨t,rfl⟩:=h1;obtain⟨t',rfl⟩:=h2
 exact PyProof.Rows.pow_int_small hn Sa ha ⟨ah.tok _,_,rfl⟩
theorem aj.pq {a b:Int}:aj C (inplaceOp .Add) (.int a) (.int b) (.int (a+b)):=λW A s v u _ g h1 h2=>by
 obtain⟨t,rfl⟩:=h1;obtain⟨t',rfl⟩:=h2
 exact iadd_int ⟨ah.tok _,_,rfl⟩
theorem Ev.yj {v i:Expr}{x:Str}{j:Int}{n c:Nat}(h1:Ev C k sc own ρ v (.str x))(h2:Ev C k sc own ρ i (.int j))(hn:j=(n:Int))(hp:x.cps[n]? =some c)(hz:n < 2 ^ 62)
 (hs:∀o i',KP i false o i'=operate [o,i'] (getItem o i')):Ev C k sc own ρ (.Subscript v i pos) (.str ⟨#[c]⟩):=λW A env s rm X=>by
 refine LK (G' (h1 W A env s rm X) ?_ λ_ _ q=>q.elim)
 rintro o s1 ⟨e1,tk,rfl⟩
 refine G' (h2 W A env s1 rm (X.aA e1)) ?_ λ_ _ q=>q.elim
 rintro iv s2 ⟨e2,t,rfl⟩
 have Qc:n < x.cps.size:=(Array.getElem?_eq_some_iff.mp hp).1
 refine PB (O0 s2 x tk) Ov.lookup (PyProof.Rows.getItem_str (c:=c) ?_ ?_ ⟨(e1.trans e2).trans (ah.tok _),_,rfl⟩) (hs _ _)
 ·refine hn▸?_;simp;lia
 ·have e0:seqIndex? (n:Int) x.length=some n:=by
   have h2:n < x.length:=Qc
   simp only [seqIndex?]
   simp only [(by simp:¬((n:Int) < 0)),if_false]
   rw [HE (by simp;lia)]
   rfl
  refine hn▸e0▸?_
  exact hp
theorem cC.o6 {x:Str}(hz:(x.length:Int) < 2 ^ 63):cC C k (.builtin "len") [.str x] (.int x.length):=λW A s vs rm g r=>by
 refine bo r λv r' Ud Ub hr=> ?_;refine Ud▸?_;refine cA Ub λt TQ=> ?_;refine TQ▸?_
 refine(show r'=[] from hr)▸?_
 exact PyProof.Rows.len_str (by simp_all) ⟨ah.tok _,_,rfl⟩
def AU (C:Cfg)(p:PV)(ps:List PV):Prop:=∀W A s v,Gd C W s->Rr C W s.heap v p->∀(Q:y'->Hh->Prop) E,
 (∀it P6,ah C [] s P6->Src C W s.heap.objs.size it ps P6->Q it P6)->Hi C.M A (L6 v) Q E s
theorem AU.lst {xs:List PV}(hz:xs.length<=sizeLine):AU C (.lst xs) xs:=λ_ _ _ _ g r _ _ hQ=>vN g.inv r hz hQ
theorem ah.xV {I:He}{o:Ib}(e:ah C [] s P5)(hI:s.heap.objs.size<=I)(ho:P5.heap.get? I=some o)(hi:dP o)(m:Moved [I] (λa b=>b=a) P5 J)(hz:s.heap.objs.size<=J.heap.objs.size):ah C [] s J where
 keep b o' h1 h2 g:=m.heap b o' (by
  have:=Hx g
  rw [Hm]
  rintro rfl
  exact HR _ (Ht this hI)) (e.keep b o' h1 h2 g)
 size:=hz
 tabs t ht ps x:=by
  obtain⟨more,y⟩:=e.tabs t ht ps x
  exact⟨more,y.i7 ho hi λb o hb e=>m.heap b o (by simpa using hb) e⟩
 os:=m.os.trans e.os
 gens:=λh=>by rw [show J.gens=P5.gens from m.gens];exact e.gens h
theorem Kp.refl {L:Nat}:Kp C W L s s:=λ_ _ _ g _ _=>g
theorem preSum_eq:∀(ns:List Int),preSum (λi=>ns.getD i 0) ns.length=ns.sum:=by
 have gen:∀(ns:List Int) (m:Nat),m<=ns.length->preSum (λi=>ns.getD i 0) m=(ns.take m).sum:=by
  intro ns m
  induction m with
  |zero=>intro _;rfl
  |succ m ih=>
   intro h
   simp only [preSum]
   simp only [ih (H5 h),JA]
   have:ns[m]? =some ns[m]:=by simp [h]
   simp only [this,Lf]
   simp [P2,this]
 intro ns
 simp only [gen ns ns.length (Hk _),IY]
theorem cC.sum {ps:List PV}{p:PV}{ns:List Int}(hI:AU C p ps)(hp:ps=ns.map .int):cC C k (.builtin "sum") [p] (.int ns.sum):=λW A s vs rm g r=>by
 refine bo r λv r' P8 rv hr=> ?_;refine P8▸?_
 refine(show r'=[] from hr)▸?_
 refine ba (call_sum_walkAnyS (hI W A.in1 s v g rv _ _ λit P6 e2 ⟨I,fp,P,Qm,S⟩=> ?_))
 refine iI (S.obj 0 _ S.st) λQg QA Qd _=> ?_
 refine⟨I,fp,[I],_,ps.length,P,λi s=>Qm i s.heap,λi=>ns.getD i 0,S.it,(S.walks A.in1 rm.handled).toS,S.st,λb hb=> ?_,λi v hv=> ?_,λJ t' hm hz=> ?_⟩
 ·rcases S.safe b hb with rfl |⟨_,_,o,h,_⟩
  ·exact S.hi
  ·exact Hx h
 ·refine ae (S.val i v hv P6 W (λa ha=> .inl ha) Kp.refl) λq h1 h2=> ?_
  rw [hp,Hy] at h1
  cases hn:ns[i]? with
  |none=>replace h1:=hn▸h1;cases h1
  |some m=>
   replace h1:=hn▸h1
   cases h1
   obtain⟨t,rfl⟩:=h2
   exact⟨t,by simp [P2,hn]⟩
 ·have hl:ps.length=ns.length:=by simp only [hp,Hb]
  exact⟨e2.xV S.lo QA Qd hm hz,t',by simp only [hl,preSum_eq]⟩
def eh (C:Cfg)(k:Nat)(sc:Sc)(own:Own)(ρ:bP)(e:Option Expr)(i:Option Int):Prop:=
 ∀W A env s,ak A k->St C W sc own ρ env s->Hi C.M A (evalPart e env) (λv J=>ah C [] s J/\IsPart v i) (λ_ _=>False) s
theorem eh.kg:eh C k sc own ρ none none:=λW A env s rm X=>Hu ⟨ah.refl _,.none⟩
theorem eh.some {e:Expr}{i:Int}(h:Ev C k sc own ρ e (.int i)):eh C k sc own ρ (some e) (some i):=λW A env s rm X=>by
 refine G' (h W A env s rm X) ?_ λ_ _ q=>q
 rintro v s1 ⟨e1,t,rfl⟩
 exact⟨e1,.int _ _⟩
noncomputable def xh (xs:List PV) (lo hi st:Option Int):List PV:=(sliceRange (sliceBounds lo hi st xs.length).1 (sliceBounds lo hi st xs.length).2.1 (sliceBounds lo hi st xs.length).2.2).filterMap (xs[·]?)
theorem aR.pick {P:He->List Hs->List (Str×y')->Prop}{N:He->Prop}{h:Ho}{ps:List PV}{vs:List y'}(r:aR P N h vs ps):∀l:List Nat,aR P N h (l.filterMap (vs[·]?)) (l.filterMap (ps[·]?)):=by
 intro q0
 induction q0 with
 |nil=>
  exact rfl
 |cons i l ih=>
  cases hi:ps[i]? with
  |none=>
   have:vs[i]? =none:=by
    rw [List.getElem?_eq_none_iff] at hi ⊢
    rw [aR.length r];exact hi
   simp only [Md,hi,this]
   exact ih
  |some p=>
   refine ae (aR.get r hi) λv hv x=> ?_
   simp only [Md,hi,hv]
   exact⟨v,_,rfl,x,ih⟩
theorem Ev.ey {v:Expr}{lo hi st:Option Expr}{sp:Jm}{xs:List PV}{i j l:Option Int}(h1:D6 C k sc own ρ v xs)(h2:eh C k sc own ρ lo i)(h3:eh C k sc own ρ hi j)(h4:eh C k sc own ρ st l)(h0:l≠Iy 0)(hz:xs.length<=sizeLine)
 (hs:∀o i',∃ops,KP (.Slice lo hi st sp) false o i'=operate ops (getItem o i'))(ht:∀o r,letTemporaryGo v o r=pure ()):Ev C k sc own ρ (.Subscript v (.Slice lo hi st sp) pos) (.lst (xh xs i j l)):=λW A env s rm X=>by
 refine LK (G' (h1 W A env s rm X) ?_ λ_ _ q=>q.elim)
 rintro o s1 ⟨e1,l1⟩
 refine OK (G' (h2 W A env s1 rm (X.aA e1)) ?_ λ_ _ q=>q.elim)
 rintro a1 s2 ⟨e2,p2⟩
 refine G' (h3 W A env s2 rm ((X.aA e1).aA e2)) ?_ λ_ _ q=>q.elim
 rintro a2 s3 ⟨e3,p3⟩
 refine G' (h4 W A env s3 rm (((X.aA e1).aA e2).aA e3)) ?_ λ_ _ q=>q.elim
 rintro a3 s4 ⟨e4,p4⟩
 have TP:=(e2.trans e3).trans e4
 refine gB (TP.lst l1) λa vs m QI f g r=> ?_;refine QI▸?_
 have e5:ah C [] s4 {s4 with heap:=s4.heap.push {cls:= .type "slice",data:= .fields #[a1,a2,a3]}}:=ah.push _ s4.toks
 have g5:(s4.heap.push {cls:= .type "slice",data:= .fields #[a1,a2,a3]}).get? a=some (ao vs m):=Hj _ g
 obtain⟨ops,Sp⟩:=hs (.ref a) (.ref s4.heap.objs.size)
 have hl:=aR.length r
 refine MA (PG.typeIs (s:={s4 with heap:=s4.heap.push {cls:= .type "slice",data:= .fields #[a1,a2,a3]}}) (aQ g5)) N6.lookup
  (wpAny_getItem_list_slice (aQ g5) (O1.new ..) p2 p3 p4 h0 ?_ (by simpa [hl] using hz)) Sp (ht _)
 have e6:ah C [] {s4 with heap:=s4.heap.push {cls:= .type "slice",data:= .fields #[a1,a2,a3]}} {s4 with heap:=(s4.heap.push {cls:= .type "slice",data:= .fields #[a1,a2,a3]}).push {cls:= .type "list",data:= .seq (slicePick vs.toArray i j l)}}:=ah.push _ s4.toks
 have hp:(slicePick vs.toArray i j l).toList=(sliceRange (sliceBounds i j l xs.length).1 (sliceBounds i j l xs.length).2.1 (sliceBounds i j l xs.length).2.2).filterMap (vs[·]?):=by
  unfold slicePick
  simp [hl]
 refine⟨((e1.trans TP).trans (e5.trans e6)),_,(slicePick vs.toArray i j l).toList,0,rfl,((((X.aA e1).aA TP).aA e5).gd).fresh,?_,?_⟩
 ·unfold ao
  exact Hp _ rfl
 ·rw [hp]
  exact aR.pick ((e5.trans e6).jA r) _
theorem q7 {test:Expr}{body:List I9}(X:St C W sc own ρ env s)(B:Bs C Wt mine t own env s)(rm:ak A k)
 (n:Nat)(O:Nat->Own)(R:Nat->bP)(h0:O 0=own)(SY:R 0=ρ)
 (tests:∀i,i < n->Tr C k sc (O i) (R i) test true)(last:Tr C k sc (O n) (R n) test false)
 (turn:∀i P5,i < n->St C W sc (O i) (R i) env P5->Bs C Wt mine t (O i) env P5->
  Hi C.M A (HA body env) (λf P9=>match f with
   | .next | .cont=>St C W sc (O (i+1)) (R (i+1)) env P9/\Bs C Wt mine t (O (i+1)) env P9
   |_=>False) (λ_ _=>False) P5)
 (done:∀J,St C W sc (O n) (R n) env J->Bs C Wt mine t (O n) env J->Hi C.M A (HA rest env) Q E J):
 Hi C.M A (HA (.While test body [] pos::rest) env) Q E s:=by
 refine Ia (wpAny_While ?_)
 refine Pm rfl (λm J=>∃i,i<=n/\m=n - i/\St C W sc (O i) (R i) env J/\Bs C Wt mine t (O i) env J) (λm J hI=> ?_) n ⟨0,H7 _,rfl,by rw [h0,SY];exact X,by rw [h0];exact B⟩
 refine rz hI λi hi P8 X' B'=> ?_;subst P8
 refine PE ?_
 by_cases Qc:i < n
 ·refine Ha (G' (tests i Qc W A env J rm X') ?_ λ_ _ q=>q.elim)
  intro b s1 zz;refine c7 zz λe1 z1=> ?_;cases z1
  refine Ha (G' (turn i s1 Qc (X'.aA e1) (B'.step e1)) ?_ λ_ _ q=>q.elim)
  intro f s3 hf
  cases f with
  |next=>exact Hu ⟨rfl,n - (i+1),Kd Qc (IX i),i+1,Qc,rfl,hf.1,hf.2⟩
  |cont=>exact Hu ⟨rfl,n - (i+1),Kd Qc (IX i),i+1,Qc,rfl,hf.1,hf.2⟩
  |brk=>exact hf.elim
  |ret v=>exact hf.elim
 ·have:i=n:=Lb (by assumption) (HH.mp Qc)
  cases this
  refine Ha (G' (last W A env J rm X') ?_ λ_ _ q=>q.elim)
  rintro b s1 ⟨e1,rfl⟩
  refine Ha (Hq (Hu ?_))
  exact done s1 (X'.aA e1) (B'.step e1)
def fY (C:Cfg)(p:PV)(T:String):Prop:=∀W (s:Hh) v,Rr C W s.heap v p->s.TypeIs v T/\∀a,v= .ref a->∃ob,s.heap.get? a=some ob/\ob.dict=none
theorem fY.str {x:Str}:fY C (.str x) "str":=λW s v zz=>cA zz λt h=>by
 refine h▸?_
 exact⟨O0 s x t,λa q=>nomatch q⟩
theorem fY.lst {xs:List PV}:fY C (.lst xs) "list":=λW s v x=>by
 refine gB x λa vs n QI _ g _=> ?_;refine QI▸?_
 exact⟨(aQ g).typeIs,λb q=>by cases q;exact⟨_,g,rfl⟩⟩
theorem fY.au {xs:List (Str×PV)}:fY C (.au xs) "dict":=λW s v x=>by
 obtain⟨a,ds,n,kvs,rfl,_,g,sd,_⟩:=x
 exact⟨(aW g sd).typeIs,λb q=>by cases q;exact⟨_,g,rfl⟩⟩
theorem Ev.u7 {o a:Expr}{args:List Expr}{name:Str}{apos:Jm}{T id:String}{p r:PV}{ps:List PV}(ho:Ev C k sc own ρ o p)(hT:fY C p T)(ha:ab C k sc own ρ (a::args) ps)(hc:cC C k (.builtin id) (p::ps) r)
 (Qf:∀env,Jk o name env (IQ o env)=IQ o env)
 (QG:∀env,((Jo pos (HG (a::args) env)).all (λx=> !x.1) && (J1 pos (I8 [] env)).all (λx=>x.1.isSome)
  && decide ((a::args).length+([]:List JN).length+(if([]:List JN).isEmpty then 0 else 1) < 30))=true)
 (Qe:(apos.endLine==pos.line)=true)(pa:PlainAttrs T)(slot:Slot T name id)(RT:typeOf (.builtin id)=pure (.type "method_descriptor"))
 (he:∀env,HG (a::args) env=(false,IQ a env)::HG args env)(QB:∀env,(Jo pos (HG args env)).any (·.1)=false):
 Ev C k sc own ρ (.Call (.Attribute o name apos) (a::args) [] pos) r:=λW A env s rm X=>by
 refine Jl (Qf env) (QG env) Qe pa slot RT (G' (ho W A env s rm X) ?_ λ_ _ q=>q.elim)
 rintro v s1 ⟨e1,r1⟩
 refine⟨(hT W s1 v r1).1,(hT W s1 v r1).2,LP (G' (ha W A env s1 pos rm (X.aA e1)) ?_ λ_ _ q=>q.elim) (he env) (QB env)⟩
 rintro vs s2 ⟨e2,r2⟩
 refine G' (hc W A s2 (v::vs) rm ((X.aA e1).aA e2).gd ⟨v,vs,rfl,e2.pC r1,r2⟩) ?_ λ_ _ q=>q.elim
 rintro w s3 ⟨e3,r3⟩
 exact⟨(e1.trans e2).trans e3,r3⟩
theorem Ev.DS {o:Expr}{name:Str}{apos:Jm}{T id:String}{p r:PV}(ho:Ev C k sc own ρ o p)(hT:fY C p T)(hc:cC C k (.builtin id) [p] r)
 (Qf:∀env,Jk o name env (IQ o env)=IQ o env)
 (Qe:(apos.endLine==pos.line)=true)(pa:PlainAttrs T)(slot:Slot T name id)(RT:typeOf (.builtin id)=pure (.type "method_descriptor")):
 Ev C k sc own ρ (.Call (.Attribute o name apos) [] [] pos) r:=λW A env s rm X=>by
 refine Jl (Qf env) rfl Qe pa slot RT (G' (ho W A env s rm X) ?_ λ_ _ q=>q.elim)
 rintro v s1 ⟨e1,r1⟩
 refine⟨(hT W s1 v r1).1,(hT W s1 v r1).2,LQ ?_⟩
 refine G' (hc W A s1 [v] rm (X.aA e1).gd ⟨v,[],rfl,r1,rfl⟩) ?_ λ_ _ q=>q.elim
 rintro w s3 ⟨e3,r3⟩
 exact⟨e1.trans e3,r3⟩
noncomputable def aE (own:Own) (a:He) (p:PV):Own:=own.map λy=>if y.1=a then(a,p) else y
theorem qd {own:Own}{a:He}{p:PV}{y:He×PV}(h:y∈aE own a p):y=(a,p)\/(y.1≠a/\y∈own):=by
 refine ae (Hd.mp h) λz hz e=> ?_
 by_cases q:z.1=a
 ·rw [HE q] at e;exact .inl e.symm
 ·rw [Hz q] at e;refine e▸?_;exact .inr ⟨q,hz⟩
theorem mY {own:Own}{a:He}{p:PV}{y:He×PV}(h:y∈aE own a p):∃q,(y.1,q)∈own:=by
 refine ae (Hd.mp h) λz hz e=> ?_
 by_cases q:z.1=a
 ·rw [HE q] at e;subst e;exact⟨z.2,by refine q▸?_;exact hz⟩
 ·rw [Hz q] at e;subst e;exact⟨_,hz⟩
theorem lR {a:He}{xs ys:List PV}{us:List y'}{h':Ho}{tk:Nat}{n:Nat}(X:St C W sc own ρ env s)(B:Bs C Wt mine t own env s)(ha:(a,PV.lst xs)∈own)
 (hs:Iv a s.heap h')(hn:h'.get? a=some (ao us n))(hr:fe C W s.heap us ys):
 St C W sc (aE own a (.lst ys)) ρ env {s with heap:=h',toks:=tk}/\Bs C Wt mine t (aE own a (.lst ys)) env {s with heap:=h',toks:=tk}:=by
 refine aL (X.owns _ ha).2.1 λvs m g r=> ?_
 have e:ah C [a] s {s with heap:=h',toks:=tk}:=ah.turn X.inv hs g (λvs q=>nomatch q) (by simp)
 have hm:=B.owns _ ha
 refine⟨X.turn (X.owns _ ha).1 (X.ownLoc _ ha) hm.1 hs.extBut e g (λ_=>nofun) λy hy=> ?_,(B.turn hs hm e).less λy hy=>mY hy⟩
 rcases qd hy with rfl |h
 ·exact .inl ⟨rfl,us,n,hn,aR.mono (λb o n g=>⟨n,(hs.2 b (by rintro rfl;exact n (.inr (X.owns _ ha).1))).trans g⟩) hr⟩
 ·exact .inr h
theorem aR.take {P:He->List Hs->List (Str×y')->Prop}{N:He->Prop}{h:Ho}:∀{ps:List PV}{vs:List y'},aR P N h vs ps->∀j,aR P N h (vs.take j) (ps.take j)
 |[],vs,r,j=>by rw [show vs=[] from r];simp;rfl
 |p::ps,_,r,0=>rfl
 |p::ps,_,⟨v,r',e,x,y⟩,j+1=>by subst e;exact⟨v,_,rfl,x,aR.take y j⟩
theorem aR.drop {P:He->List Hs->List (Str×y')->Prop}{N:He->Prop}{h:Ho}:∀{ps:List PV}{vs:List y'},aR P N h vs ps->∀j,aR P N h (vs.drop j) (ps.drop j)
 |[],vs,r,j=>by rw [show vs=[] from r];simp;rfl
 |p::ps,_,r,0=>r
 |p::ps,_,⟨v,r',e,x,y⟩,j+1=>by subst e;exact aR.drop y j
theorem mf {a:He}{xs:List PV}{v:y'}{p:PV}{Q:y'->Hh->Prop}(X:St C W sc own ρ env s)(B:Bs C Wt mine t own env s)(ha:(a,PV.lst xs)∈own)(hv:Rr C W s.heap v p)(hz:xs.length<=sizeLine)
 (next:∀J,St C W sc (aE own a (.lst (xs ++ [p]))) ρ env J->Bs C Wt mine t (aE own a (.lst (xs ++ [p]))) env J->Q .none J):Hi C.M A (call (.builtin "list.append") [.ref a,v]) Q E s:=by
 refine aL (X.owns _ ha).2.1 λvs m g r=> ?_
 refine MV ⟨m,g⟩ (λh' hl hs=> ?_) (by simpa [aR.length r] using hz)
 refine cA hl λn' RP=> ?_
 have:=lR (tk:=s.toks) (us:=vs ++ [v]) (n:=n') (ys:=xs ++ [p]) X B ha hs (by simp only [RP];simp [ao]) (aR.append r ⟨v,[],rfl,hv,rfl⟩)
 exact next _ this.1 this.2
set_option maxRecDepth 4000
noncomputable def bw {α:Type} (xs:List α) (j:Nat) (p:α):List α:=xs.take j ++ p::xs.drop j
theorem wF {ji:Int}{j:Nat}(h:ji=(j:Int))(hj:j<=sizeLine):¬(!Builtin.List.listFitsIndex ji)=true:=by
 have QO:(sizeLine:Int) < 2 ^ 62:=by decide
 have:KW ji=true:=by
  unfold KW
  simp only [H']
  exact⟨HS (by simp_all),HS (by lia)⟩
 rw [this];decide
theorem ur {a:He}{vs:List y'}{m:Nat}{ji:Int}{tk:Tok}{v:y'}{Q:y'->Hh->Prop}(g:s.heap.get? a=some (ao vs m))(hns:¬(!Builtin.List.listFitsIndex ji)=true)(ZL:vs.toArray.size<=sizeLine)
 (next:Q .none {s with heap:=s.heap.update a (IE λxs=>have k:=if ji < 0 then(ji+((xs.size:Nat):Int)).toNat else min ji.toNat xs.size;(xs.extract 0 k).push v ++ xs.extract k),toks:=s.toks}):
 Hi C.M A (call (.builtin "list.insert") [.ref a,.int ji tk,v]) Q E s:=by
 exact Nd F.slot_list_insert ((aQ g).typeIs) F.entry_list_insert (F.args_list_insert_3 (.ref a) (.int ji tk) v) (PySem.AutoListH.list_insert_list_int_val_1 a vs.toArray m ji tk v hns ZL) ⟨g,next⟩
theorem qb {vs:List y'}{v:y'}{j:Nat}(hj:j<=vs.length):((vs.toArray.extract 0 j).push v ++ vs.toArray.extract j)=(bw vs j v).toArray:=by
 apply MX.mp
 unfold bw
 simp
 exact H9 (by simp)
theorem rX {a:He}{xs:List PV}{v:y'}{p:PV}{ji:Int}{j:Nat}{tk:Tok}{Q:y'->Hh->Prop}(X:St C W sc own ρ env s)(B:Bs C Wt mine t own env s)(ha:(a,PV.lst xs)∈own)(hv:Rr C W s.heap v p)(hz:xs.length<=sizeLine)(hj:j<=xs.length)(Z8:ji=(j:Int))
 (next:∀J,St C W sc (aE own a (.lst (bw xs j p))) ρ env J->Bs C Wt mine t (aE own a (.lst (bw xs j p))) env J->Q .none J):Hi C.M A (call (.builtin "list.insert") [.ref a,.int ji tk,v]) Q E s:=by
 refine aL (X.owns _ ha).2.1 λvs m g r=> ?_
 have hl:=aR.length r
 refine ur g (wF Z8 (Hf hj hz)) (by simp only [IM,hl];exact hz) ?_
 generalize hf:(λxs:Array y'=>have k:=if ji < 0 then(ji+((xs.size:Nat):Int)).toNat else min ji.toNat xs.size;(xs.extract 0 k).push v ++ xs.extract k)=f
 have ZH:f vs.toArray=(bw vs j v).toArray:=by
  refine hf▸(qb (by rw [hl];exact hj))▸?_
  have hk:(if ji < 0 then(ji+((vs.toArray.size:Nat):Int)).toNat else min ji.toNat vs.toArray.size)=j:=by
   rw [Hz (by simp_all)]
   rw [IM]
   simp_all
  show (vs.toArray.extract 0 (if ji < 0 then(ji+((vs.toArray.size:Nat):Int)).toNat else min ji.toNat vs.toArray.size)).push v ++ vs.toArray.extract (if ji < 0 then(ji+((vs.toArray.size:Nat):Int)).toNat else min ji.toNat vs.toArray.size)=_
  rw [hk]
 have hn:∃n,(s.heap.update a (IE f)).get? a=some (ao (bw vs j v) n):=by
  refine⟨if(f vs.toArray).size==vs.toArray.size then m else m+1,(JO (IE f) g rfl).trans ?_⟩
  show some ({cls:= .type "list",dict:=none,data:= .seq (f vs.toArray) (if(f vs.toArray).size==vs.toArray.size then m else m+1),slots:=#[]}:Ib)=_
  unfold ao
  rw [ZH]
 obtain⟨n,hn⟩:=hn
 have:=lR (tk:=s.toks) (us:=bw vs j v) (n:=n) (ys:=bw xs j p) X B ha (It ..) hn (aR.append (aR.take r j) ⟨v,_,rfl,hv,aR.drop r j⟩)
 exact next _ this.1 this.2
theorem mQ {C:Cfg}(x:Str)(t:Tok):(strKind C.prog C.w).is x (.str x t)=true:=strKind_is C.prog C.w x t
theorem Ev.bh {v i:Expr}{es:List (Str×PV)}{x:Str}{p:PV}(h1:FA C k sc own ρ v es)(h2:Ev C k sc own ρ i (.str x))(hp:es.lookup x=some p)
 (hs:∀o i',KP i false o i'=operate [o,i'] (getItem o i')):Ev C k sc own ρ (.Subscript v i pos) p:=λW A env s rm X=>by
 refine LK (G' (h1 W A env s rm X) ?_ λ_ _ q=>q.elim)
 rintro o s1 ⟨e1,l1⟩
 refine G' (h2 W A env s1 rm (X.aA e1)) ?_ λ_ _ q=>q.elim
 rintro iv s2 ⟨e2,t,rfl⟩
 obtain⟨a,ds,n,kvs,rfl,f,g,sd,r⟩:=e2.au l1
 refine ae (bC.find r hp) λu hu ru=> ?_
 have hd:=aW g sd
 exact PB hd.typeIs slot_dict_getitem.lookup (Ox (mQ x t) hd.mapOf hu ⟨(e1.trans e2).trans (ah.tok _),(ah.tok (C:=C) (W:=W) (s:=s2) (s2.toks+1)).rr ru⟩) (hs _ _)
noncomputable def Cfg.at (C:Cfg) (W:List He) (s:Hh):Cfg:={C with h₀:=hideAll s.heap W}
variable {V:List He}
theorem gw {a:He}{o:Ib}:(C.at W s).h₀.get? a=some o↔s.heap.get? a=some o/\a∉W:=by
 constructor
 ·intro e
  refine⟨of_hideAll _ e,λh=> ?_⟩
  have:=Oa W (h:=s.heap) h
  have e':(hideAll s.heap W).get? a=some o:=e
  replace e':=this▸e';cases e'
 ·rintro⟨e,n⟩
  exact hideAll_get _ e n
theorem tR:(C.at W s).h₀.objs.size=s.heap.objs.size:=hideAll_size W s.heap
theorem ah.qg (x:ah (C.at W P5) V s J):ah C V s J:=⟨x.keep,x.size,x.tabs,x.os,x.gens⟩
theorem lK (i:Inv C s)(hN:∀a∈W,C.h₀.get? a=none){a:He}{o:Ib}(ha:a∉C.aq)(e:C.h₀.get? a=some o):(C.at W s).h₀.get? a=some o:=
 gw.mpr ⟨i.old a o ha e,λh=>by replace e:=(hN a h)▸e;cases e⟩
theorem nJ (ok:C.Ok){t:He×He×Str}(ht:t∈C.tabs):t.1∉C.aq:=ok.noCode t ht
theorem Inv.at (i:Inv C s)(ok:C.Ok)(hN:∀a∈W,C.h₀.get? a=none):Inv (C.at W s) s where
 sys:=by rw [tR];exact Ht i.sys i.size
 old a o _ e:=(gw.mp e).1
 size:=by rw [tR];exact Hk _
 tabs t ht:=by
  refine aL (i.tabs t ht) λps m y z=> ?_
  refine⟨ps ++ m,#[],?_,(z)⟩
  refine c7 y λz3 gP=> ?_;refine aL z3 λo vs g r=> ?_
  exact⟨⟨o,vs,(lK i hN (nJ ok ht) g),r⟩,gw.mpr ⟨z.tab.2,λh=>by replace gP:=(hN _ h)▸gP;cases gP⟩⟩
 os:=i.os
 gens:=i.gens
theorem Gd.at (g:Gd C W s)(ok:C.Ok):Gd (C.at W s) W s:=⟨g.inv.at ok g.new,g.low,λa ha=>Oa W ha⟩
theorem Inv.xd (i:Inv C s)(hN:∀a∈W,C.h₀.get? a=none){a:He}{m:Str->Option y'}(ha:a∉C.aq)(h:C.h₀.Ns a m):(C.at W s).h₀.Ns a m:=
 let ⟨o,es,ep,g,r⟩:=h;⟨o,es,ep,lK i hN ha g,r⟩
theorem Cfg.Ok.at (ok:C.Ok)(i:Inv C s)(hN:∀a∈W,C.h₀.get? a=none):(C.at W s).Ok where
 nolimit:=by refine ae ok.nolimit λmc a b=> ?_;exact⟨mc,i.xd hN ok.statics a,b⟩
 statics:=ok.statics
 g:=i.xd hN ok.gT ok.g
 gT:=ok.gT
 b:=i.xd hN ok.bT ok.b
 bT:=ok.bT
 noCode:=ok.noCode
 inj:=ok.inj
 bmain:=by refine Cm ok.bmain λbm o h1 h2 h3 h4 h5 r=> ?_;exact⟨bm,o,h1,h2,h3,h4,lK i hN h4 h5,r⟩
theorem CR {v:y'}{p:PV}(i:Inv C s)(hN:∀a∈W,C.h₀.get? a=none)(h:Rp C.S (·∈C.aq) C.h₀ v p):Rr C W s.heap v p:=
 Rp.mono (λa o n g=>⟨(λq=>by
  rcases q with q |q
  ·exact n q
  ·replace g:=(hN a q)▸g;cases g),i.old a o n g⟩) h
theorem CE {v:y'}{p:PV}(h:Rr C W s.heap v p):Rp (C.at W s).S (·∈(C.at W s).aq) (C.at W s).h₀ v p:=
 Rp.mono (λa o n g=>⟨λq=>n (.inl q),gw.mpr ⟨g,λq=>n (.inr q)⟩⟩) h
variable {R2:bP}{s₀:Hh}
structure InK (s₀:Hh)(L:He)(m:Str->Option y')(cs:List (Str×He))(cm:Str->Option y')(s:Hh):Prop where
 same:∃h' tk,s={s₀ with heap:=h',toks:=tk}
 ns:s.heap.Ns L m
 keep:∀b o,s₀.heap.get? b=some o->s.heap.get? b=some o
 fresh:s₀.heap.objs.size<=L
 cell:∀n c,cs.lookup n=some c->s.heap.IsCell c (cm n)
 apart:cs.Pairwise λx y=>x.2≠y.2
 ne:∀n c,(n,c)∈cs->c≠L
theorem FO {n:Str}{v:y'}{m cm:Str->Option y'}{Q:Unit->Hh->Prop}(x:InK s₀ env.locals m env.cells cm s)(hk:env.scope.kind= .function)(hl:env.kindOf n=some .local)
 (h:∀J,InK s₀ env.locals (λy=>if y=n then some v else m y) env.cells cm J->Q () J):Hi M A (storeName env n v) Q E s:=by
 refine Nt hl x.ns (λh' Q' QJ=>h _ ⟨?_,Q',λb o e=> ?_,x.fresh,λk c hc=> ?_,x.apart,x.ne⟩) (by refine hk▸?_;rfl)
 ·refine fB x.same λRS tk P8=> ?_;refine P8▸?_
  exact⟨h',_,rfl⟩
 ·exact QJ.extBut b o (Iw (Ht (Hx e) x.fresh)) (x.keep b o e)
 ·exact(x.cell k c hc).sameBut QJ (x.ne k c (mem_of_lookup hc))
theorem Fs {n:Str}{c:He}{v:y'}{m cm:Str->Option y'}{Q:Unit->Hh->Prop}(x:InK s₀ env.locals m env.cells cm s)(hk:env.scope.kind= .function)(hl:env.kindOf n=some .cell)
 (hc:env.cells.lookup n=some c)(hf:s₀.heap.objs.size<=c)
 (h:∀J,InK s₀ env.locals m env.cells (λy=>if y=n then some v else cm y) J->Q () J):Hi M A (storeName env n v) Q E s:=by
 refine Nz hk hl hc (x.cell n c hc) λh' SO QJ=>h _ ⟨?_,x.ns.sameBut QJ (H3 (x.ne n c (mem_of_lookup hc))),λb o e=> ?_,x.fresh,λk c' Rx=> ?_,x.apart,x.ne⟩
 ·refine fB x.same λRS tk P8=> ?_;refine P8▸?_
  exact⟨h',_,rfl⟩
 ·exact QJ.extBut b o (Iw (Ht (Hx e) hf)) (x.keep b o e)
 ·by_cases hkn:k=n
  ·subst hkn
   replace Rx:=hc▸Rx;cases Rx
   simpa using SO
  ·rw [Hz hkn]
   exact(x.cell k c' Rx).sameBut QJ λe=>hkn (Pj x.apart (mem_of_lookup Rx) (e▸mem_of_lookup hc))
theorem pF (f:Str×y'->PUnit->Jj (ForInStep PUnit))(hf:∀n v u,f (n,v) u=(do storeName env n v;pure (.yield ⟨⟩)))(hk:env.scope.kind= .function):
 ∀(binds:List (Str×y')) (m cm:Str->Option y') (s:Hh) (Q:PUnit->Hh->Prop),InK s₀ env.locals m env.cells cm s->
  (∀x∈binds,env.kindOf x.1=some .local\/(env.kindOf x.1=some .cell/\∃c,env.cells.lookup x.1=some c/\s₀.heap.objs.size<=c))->
  (∀J,InK s₀ env.locals (bindL env.kindOf binds m) env.cells (bindC env.kindOf binds cm) J->Q ⟨⟩ J)->Hi M A (forIn binds ⟨⟩ f) Q E s:=by
 intro q0
 induction q0 with
 |nil=>
  intro m cm s Q x _ h
  exact Hu (h s x)
 |cons q1 r ih=>
  intro m cm s Q x Qn h
  rw [JF,hf]
  have hr:∀y∈r,env.kindOf y.1=some .local\/(env.kindOf y.1=some .cell/\∃c,env.cells.lookup y.1=some c/\s₀.heap.objs.size<=c):=λy hy=>Qn y (j' _ hy)
  rcases Qn (q1.1,q1.2) f' with hl |⟨hl,c,hc,hf'⟩
  ·refine Ha (Ha (FO x hk hl λJ x'=>Hu (ih _ _ J Q x' hr λQj WG=>h Qj ?_)))
   simp only [bindL,bindC];refine(HE hl)▸(HE hl)▸?_;exact WG
  ·have VU:¬env.kindOf q1.1=some .local:=by rw [hl];decide
   refine Ha (Ha (Fs x hk hl hc hf' λJ x'=>Hu (ih _ _ J Q x' hr λQj WG=>h Qj ?_)))
   simp only [bindL,bindC];rw [Hz VU,Hz VU];exact WG
noncomputable def dH (h:Ho) (c:He):Option y':=match h.get? c with
 |some o=>(match o.data with | .cell v=>v |_=>none)
 |none=>none
theorem gh {h:Ho}{c:He}{cv:Option y'}(x:h.IsCell c cv):dH h c=cv:=by
 refine ae x λo g d=> ?_
 unfold dH
 rw [g]
 dsimp only
 rw [d]
theorem fc {scope:Scope}{globals:He}{cl:List (Str×He)}{binds:List (Str×y')}{qual:Str}{func:Option He}{code:y'}{builtins:He}{Q:Mm->Hh->Prop}
 (hk:scope.kind= .function)
 (QS:∀x c,(x,c)∈cl->∃cv,s.heap.IsCell c cv)(YO:cl.Pairwise λx y=>x.2≠y.2)
 (Qn:∀x∈binds,scope.names.lookup x.1=some .local\/scope.names.lookup x.1=some .cell)
 (hQ:∀env,env=newEnv scope s.heap.objs.size globals (Ie (s.heap.objs.size+1) scope.names cl) qual func code none builtins->
  ∀J,InK s env.locals (bindL env.kindOf binds λ_=>none) env.cells (bindC env.kindOf binds λn=>(env.cells.lookup n).bind λc=>dH s.heap c) J->Q env J):
 Hi M A (newFunctionEnv scope globals cl binds qual func code none builtins) Q E s:=by
 refine Ha (PC ?_)
 refine Ha (OX _ (λname kind cells=>by cases hkc:kind==MG <;> simp [hkc]) _ _ _ _ ?_)
 have ok:=Pk scope.names (s.heap.push {cls:= .type "frame",data:= .dict #[]}) (s.heap.objs.size+1) [] ⟨λ_ _ hm=>(nomatch hm),I7⟩ (by simp)
 rw [Io] at ok
 refine(show ({s with heap:=s.heap.push {cls:= .type "frame",data:= .dict #[]}}:Hh).heap.objs.size=s.heap.objs.size+1 from Io ..)▸?_
 have QK:=bF scope.names (s.heap.objs.size+1) cl
 have Qc:∀x c,(x,c)∈cl->c < s.heap.objs.size:=λx c h=>by
  refine aL (QS x c h) λ_ _ g _=> ?_
  exact Hx g
 have keep:∀b o,s.heap.get? b=some o->(pushCells (s.heap.push {cls:= .type "frame",data:= .dict #[]}) scope.names).get? b=some o:=λb o e=>Lc _ _ b o (Hj _ e)
 refine Ha (pF (s₀:=s) (env:=newEnv scope s.heap.objs.size globals (Ie (s.heap.objs.size+1) scope.names cl) qual func code none builtins)
  _ (λ_ _ _=>rfl) hk binds (λ_=>none) (λn=>((Ie (s.heap.objs.size+1) scope.names cl).lookup n).bind λc=>dH s.heap c) _ _
  ⟨⟨_,_,rfl⟩,(PD s.heap (.type "frame")).keeps (Lc _ _),keep,Hk _,?_,?_,?_⟩
  ?_ λJ x=>Hu (hQ _ rfl J x))
 ·intro n c hc
  have UR:(Ie (s.heap.objs.size+1) scope.names cl).lookup n=some c:=hc
  simp only [UR]
  rw [QK] at UR
  rcases HP.mp (mem_of_lookup UR) with q |q
  ·have h1:=ok.empty n c q
   have:dH s.heap c=none:=by
    unfold dH
    rw [Ny (H5 h1.2)]
   show PH _ c (dH s.heap c)
   rw [this];exact h1.1
  ·refine cA (QS n c q) λcv x=> ?_
   show PH _ c (dH s.heap c)
   rw [gh x]
   exact x.keeps keep
 ·show (Ie (s.heap.objs.size+1) scope.names cl).Pairwise _
  rw [QK,I3]
  refine⟨ok.apart,YO,λa ha b hb e=> ?_⟩
  have h1:=(ok.empty a.1 a.2 ha).2
  rw [e] at h1
  exact absurd (Qc b.1 b.2 hb) (HH.mpr (H5 h1))
 ·intro n c h
  have h':(n,c)∈Ie (s.heap.objs.size+1) scope.names cl:=h
  rw [QK] at h'
  rcases HP.mp h' with q |q
  ·exact JZ (ok.empty n c q).2
  ·exact Iw (Qc n c q)
 ·intro x hx
  rcases Qn x hx with h |h
  ·exact .inl h
  ·refine .inr ⟨h,?_⟩
   refine cA (aY (n:=s.heap.objs.size+1) (acc:=[]) (mem_of_lookup h)) λc hc=> ?_
   obtain⟨d,hd⟩:=aH hc
   refine⟨d,?_,H5 (ok.empty _ _ (mem_of_lookup hd)).2⟩
   show (Ie (s.heap.objs.size+1) scope.names cl).lookup x.1=some d
   simp only [QK,IA,hd];rfl
structure fg (C:Cfg)(fa:He)(fd:Jq)(body:Expr)(R2:bP):Prop where
 obj:∃o,C.h₀.get? fa=some o/\o.data= .func fd
 fa:fa∉C.aq
 code:∃t∈C.tabs,fd.qualname=t.2.2/\∃pos ps,C.h₀.TableAt t.1 t.2.1 ps/\JK pos ps.toList=some fd.code
 body:fd.body= .expr body
 co:fd.scope.isCoroutine=false
 gen:fd.scope.isGenerator=false
 kind:fd.scope.kind= .function
 glob:fd.globals=Kq
 blt:fd.builtins=KN
 nd:(fd.scope.names.map (·.1)).Nodup
 apart:fd.closure.Pairwise λx y=>x.2≠y.2
 cells:∀x c,(x,c)∈fd.closure->fd.scope.names.lookup x=some .free/\∃cv,C.h₀.IsCell c cv
 clos:∀x,fd.scope.names.lookup x=some .free->∃c cv,fd.closure.lookup x=some c/\C.h₀.IsCell c cv/\∀p,R2 x=some p->∃v,cv=some v/\Rp C.S (·∈C.aq) C.h₀ v p
noncomputable def dW (S:Scope) (q:List (Str×PV)) (R2:bP):bP:=λx=>if S.names.lookup x=some .free then R2 x else aC q x
theorem Inv.oC (i:Inv C s){c:He}{cv:Option y'}(h:C.h₀.IsCell c cv):s.heap.IsCell c cv:=by
 refine ae h λo g d=> ?_
 refine⟨o,i.old c o (λq=> ?_) g,d⟩
 refine ae (Hd.mp q) λt ht P8=> ?_;subst P8
 refine aL (i.tabs t ht) λ_ _ y _=> ?_
 have:=y.2
 rw [g] at this
 injection this with this
 replace d:=this▸d
 cases d
theorem St.C2 {fd:Jq}{fa:He}{body:Expr}{a:He}{binds:List (Str×y')}{q:List (Str×PV)}(g:Gd C W s)(F:fg C fa fd body R2)
 (nd:(binds.map (·.1)).Nodup)(rep:dz C W s.heap binds q)
 (hk:∀x∈binds,fd.scope.names.lookup x.1=some .local\/fd.scope.names.lookup x.1=some .cell)
 (QP:∀x c,(x,c)∈fd.closure->c < s.heap.objs.size)(Wg:∀x c,(x,c)∈fd.closure->c∉W)
 (he:env=newEnv fd.scope s.heap.objs.size fd.globals (Ie (s.heap.objs.size+1) fd.scope.names fd.closure) (fd.qualname ++ ".<locals>.") (some a) fd.code none fd.builtins)
 (x:InK s env.locals (bindL env.kindOf binds λ_=>none) env.cells (bindC env.kindOf binds λn=>(env.cells.lookup n).bind λc=>dH s.heap c) J):
 St C (s.heap.objs.size::W) (mv fd) [] (dW fd.scope q R2) env J:=by
 have eL:env.locals=s.heap.objs.size:=by rw [he];rfl
 have ec:env.cells=Ie (s.heap.objs.size+1) fd.scope.names fd.closure:=by rw [he];rfl
 have Qn:∀y,env.kindOf y=fd.scope.names.lookup y:=λy=>by rw [he];rfl
 have QK:=bF fd.scope.names (s.heap.objs.size+1) fd.closure
 have e:ah C [] s J:=by
  refine fB x.same λh' tk P8=> ?_;subst P8
  exact ah.of_keeps x.keep (Hf x.fresh (IB (M' x.ns)))
 have gr:∀{v p},Rr C W s.heap v p->Rr C (s.heap.objs.size::W) J.heap v p:=λh=>Rp.mono (N.grow (Hk _) e) h
 have Su:∀{y p},aC q y=some p->∃v,binds.lookup y=some v/\Rr C W s.heap v p:=λh=>rep.find h
 have Ql:(mv fd).scope=fd.scope:=rfl
 refine⟨g.inv.jB e,⟨by rw [he];rfl,by rw [he];exact F.glob,by rw [he];exact F.blt,by rw [he];rfl,by rw [he];rfl,F.kind⟩,λb hb=> ?_,by grind,⟨_,x.ns,λy p h1 h2=> ?_⟩,λy hy=> ?_,x.apart,⟨by rw [eL];exact f',λh=>g.fresh (.inl (by refine eL▸?_;exact h))⟩,by simp,jm (g.inv.beyond (Hk _)) g.new,λy _ c hc hW=> ?_⟩
 ·rcases Hc.mp hb with rfl |hb
  ·refine eL▸?_;exact M' x.ns
  ·exact Ht (g.low b (.inr hb)) e.size
 ·rw [Ql] at h1
  unfold dW at h2
  rw [Hz (by rw [h1];decide)] at h2
  refine ae (Su h2) λv e1 e2=> ?_
  exact⟨v,lM nd e1 (by rw [Qn];exact h1),gr e2⟩
 ·rw [Ql] at hy
  unfold dW
  rcases hy with hy |hy
  ·refine cA (aY (n:=s.heap.objs.size+1) (acc:=[]) (mem_of_lookup hy)) λc hc=> ?_
   obtain⟨d,hd⟩:=aH hc
   have R1:env.cells.lookup y=some d:=by simp only [ec,QK,IA,hd];rfl
   refine⟨d,_,R1,x.cell y d R1,λp hp=> ?_⟩
   rw [Hz (by rw [hy];decide)] at hp
   refine ae (Su hp) λv e1 e2=> ?_
   exact⟨v,mH nd e1 (by rw [Qn,hy];decide),gr e2⟩
  ·refine bo (F.clos y hy) λc cv h1 h2 h3=> ?_
   have hn:(Ie (s.heap.objs.size+1) fd.scope.names []).lookup y=none:=by
    cases q:(Ie (s.heap.objs.size+1) fd.scope.names []).lookup y with
    |none=>rfl
    |some d=>
     have h1:=b7 F.nd (dG (mem_of_lookup q))
     replace h1:=hy▸h1;cases h1
   have R1:env.cells.lookup y=some c:=by simp only [ec,QK,IA,hn,h1];rfl
   have hb:binds.lookup y=none:=by
    cases q:binds.lookup y with
    |none=>rfl
    |some v=>
     rcases hk _ (mem_of_lookup q) with h |h <;> (simp only [show ((y,v):Str×y').1=y from rfl,hy] at h;cases h)
   have Rj:=x.cell y c R1
   rw [hY hb,R1] at Rj
   rw [show (some c).bind (λc=>dH s.heap c)=dH s.heap c from rfl,gh (g.inv.oC h2)] at Rj
   refine⟨c,cv,R1,Rj,λp hp=> ?_⟩
   rw [HE hy] at hp
   refine ae (h3 p hp) λv e1 e2=> ?_
   exact⟨v,e1,gr (CR g.inv g.new e2)⟩
 ·rw [ec,QK] at hc
  rcases HP.mp (mem_of_lookup hc) with q |q
  ·have h1:=bV q
   rcases Hc.mp hW with rfl |hW
   ·exact HR _ h1
   ·exact HR _ (Mf (g.low c (.inr hW)) h1)
  ·obtain⟨_,cv,h2⟩:=F.cells y c q
   rcases Hc.mp hW with rfl |hW
   ·refine ae (g.inv.oC h2) λ_ g1 _=> ?_
    exact HR _ (Hx g1)
   ·refine ae h2 λ_ g1 _=> ?_
    replace g1:=(g.new c hW)▸g1;cases g1
theorem lD {pos:Jm}{i j:Int}{t u:Tok}{v:y'}{r:List y'}:JK pos (.int i t:: .int j u::v::r)=if(i==pos.line && j==pos.col)=true then some v else JK pos r:=rfl
theorem se {pos:Jm}{c:y'}{m:List y'}:∀{l:List y'}{n:Nat},Nu pos l n=some c->Nu pos (l ++ m) n=some c:=by
 intro l
 induction l with
 |nil=>intro n h;exact nomatch (show none=some c from h)
 |cons v l ih=>
  intro n h
  rcases n with _ |_ |_ |_ |n
  ·cases v with
   |int i t=>exact ih h
   |_=>exact nomatch (show none=some c from h)
  ·cases v with
   |int i t=>exact ih h
   |_=>exact nomatch (show none=some c from h)
  ·cases v with
   |int i t=>exact ih h
   |_=>exact nomatch (show none=some c from h)
  ·exact h
  ·exact ih h
theorem iQ {pos:Jm}{c:y'}{l m:List y'}(h:JK pos l=some c):JK pos (l ++ m)=some c:=
 (Mg _ _).trans (se ((Mg _ _).symm.trans h))
theorem qt {fa:He}{fd:Jq}{body:Expr}{args:Args}{binds:List (Str×y')}{q:List (Str×PV)}{r:PV}
 (ok:C.Ok)(F:fg C fa fd body R2)(g:Gd C W s)(rm:ak A (k+1))(QX:BindsTo s fd args binds)(rep:dz C W s.heap binds q)(nd:(binds.map (·.1)).Nodup)
 (hk:∀x∈binds,fd.scope.names.lookup x.1=some .local\/fd.scope.names.lookup x.1=some .cell)
 (QU:Ev C k (mv fd) [] (dW fd.scope q R2) body r):Gives C W A (call (.ref fa) args.pos args.kw) r s:=by
 refine ae F.obj λo ho hd=> ?_
 refine Nc ?_
 obtain⟨t,ht,hq,pos,ps,hT,hC⟩:=F.code
 refine aL (g.inv.tabs t ht) λQi more hT' hN=> ?_
 have Zu:ps=Qi:=by
  have h1:=hT.2
  replace h1:=hT'.2▸h1
  cases h1;rfl
 subst Zu
 have XQ:s.heap.CodeRec fd.code fd.qualname:=by
  simp_all
  exact hN.recs pos _ (by rw [NO];exact iQ hC)
 refine kla_callFunE (Ht (JM (H6 _ _) rm.depth) (by decide)) (g.inv.old _ _ F.fa ho) hd F.co F.gen F.body XQ (QX _ _ _ _ ?_)
 have hold:∀x c,(x,c)∈fd.closure->∃cv,s.heap.IsCell c cv:=λx c h=>by
  obtain⟨_,cv,h2⟩:=F.cells x c h
  exact⟨cv,g.inv.oC h2⟩
 refine fc F.kind hold F.apart hk λenv he J x=> ?_
 have X:St C (s.heap.objs.size::W) (mv fd) [] (dW fd.scope q R2) env J:=
  St.C2 g F nd rep hk (λx c h=>by refine aL (hold x c h) λ_ _ g1 _=> ?_;exact Hx g1) (λx c h hW=>by
   obtain⟨_,cv,_,g1,_⟩:=F.cells x c h
   replace g1:=(g.new c hW)▸g1;cases g1) he x
 have e:ah C [] s J:=by
  refine fB x.same λh' tk P8=> ?_;subst P8
  exact ah.of_keeps x.keep (Hf x.fresh (IB (M' x.ns)))
 refine⟨X.inv.nolimit ok,kla_codeExpr (G' (QU _ _ env J (rm.deeper _) X) (λv Qj h=> ?_) λ_ _ q=>q.elim)⟩
 exact⟨e.trans h.1,h.2.drop λa ha=>j' _ ha⟩
theorem jb {p:Jm}{a b:Int}{c' x:y'}:∀{l:List y'},TriplesOk l->JK p (l ++ [JE a,JE b,c'])=some x->JK p l=some x\/x=c':=by
 intro l
 fun_induction TriplesOk l with
 |case1=>
  intro _ e
  right
  replace e:JK p (.int a 0:: .int b 0::c'::[])=_:=e
  simp only [lD] at e
  by_cases q:(a==p.line && b==p.col)=true
  ·rw [HE q] at e;exact(IF e).symm
  ·replace e:=(Hz q)▸e;cases e
 |case2 i t j u c rest ih=>
  intro h e
  replace e:JK p (.int i t:: .int j u::c::(rest ++ [JE a,JE b,c']))=_:=e
  simp only [lD] at e ⊢
  by_cases q:(i==p.line && j==p.col)=true
  ·rw [HE q] at e ⊢;exact .inl e
  ·rw [Hz q] at e ⊢;exact ih h e
 |case3=>intro h;exact h.elim
theorem qq {l:List y'}(h:TriplesOk l){q:Str}{t:Tok}(e:l[1]? =some (.str q t)):False:=by
 revert h e
 fun_induction TriplesOk l with
 |case1=>intro _ e;cases e
 |case2 i t j u c rest ih=>intro _ e;cases e
 |case3=>intro h;exact h.elim
theorem xp {h:Ho}{c P:He}{ps:Array y'}{G:Prop}(x:h.IsCode c P ps)(k:∀o vs op,h.get? c=some o->o.data= .fields vs->vs.getD 11 .none= .ref P->h.get? P=some op->op.data= .fields ps->TriplesOk ps.toList->c≠P->(∀h':Ho,∀VH Rw,h'.get? c=some o->h'.get? P=some VH->VH.data= .fields Rw->TriplesOk Rw.toList->h'.IsCode c P Rw)->G):G:=by
 obtain⟨o,vs,file,tf,flags,tg,inF,text,tt,op,f1,f2,f3,f4,f5,f6,f7,f8,f9,tr,Qh⟩:=x
 exact k o vs op f1 f2 f3 f8 f9 tr Qh λh' VH Rw g1 g2 g3 g4=>⟨o,vs,file,tf,flags,tg,inF,text,tt,VH,g1,f2,f3,f4,f5,f6,f7,g2,g3,g4,Qh⟩
theorem bN.x9 {h:Ho}{c P:He}{q:Str}{ps:Array y'}(x:bN h c P q ps){c₂:He}{o:Ib}{vs:Array y'}{q':Str}{t:Tok}(g:h.get? c₂=some o)(d:o.data= .fields vs)(e:vs[1]? =some (.str q' t)):c₂≠P:=by
 rintro rfl
 have:=x.tab.2
 replace this:=g▸this
 cases this
 cases d
 refine xp x.code λ_ _ _ _ _ _ g2 d2 tr _ _=> ?_
 replace g2:=g▸g2
 cases g2
 cases d2
 exact qq tr (by simpa using e)
theorem bN.snoc {h h':Ho}{c P c':He}{q:Str}{ps:Array y'}(x:bN h c P q ps)(hx:NA P h h')(hP:h'.get? P=some (tabObj (ps ++ #[JE pos.line,JE pos.col,.ref c'])))(hr:h'.CodeRec (.ref c') q):
 bN h' c P q (ps ++ #[JE pos.line,JE pos.col,.ref c']):=by
 refine xp x.code λo vs op f1 f2 f3 f8 f9 tr Qh mk=> ?_
 have hl:(ps ++ #[JE pos.line,JE pos.col,Ju c']).toList=ps.toList ++ [JE pos.line,JE pos.col,.ref c']:=by simp
 refine⟨mk _ _ _ (hx _ _ Qh f1) hP rfl ?_,?_,λp cx e=> ?_⟩
 ·rw [hl];exact TriplesOk_snoc _ _ _ _ tr
 ·refine aL x.tab.1 λo' Ve e1 r=> ?_
  exact⟨⟨o',Ve,hx _ _ Qh e1,r⟩,hP⟩
 ·rw [hl] at e
  rcases jb tr e with e |rfl
  ·obtain⟨c₂,o2,U8,t2,e1,e2,e3,e4⟩:=x.recs p cx e
   exact⟨c₂,o2,U8,t2,e1,hx _ _ (x.x9 e2 e3 e4) e2,e3,e4⟩
  ·exact hr
theorem bN.yz {h h':Ho}{c P c₀ S6:He}{q WZ:Str}{ps Qi:Array y'}(x:bN h c P q ps)(Ws:bN h c₀ S6 WZ Qi)(hx:NA S6 h h')(hc:c≠S6)(hP:P≠S6):bN h' c P q ps:=
 ⟨x.code.extBut hx hc hP,x.tab.extBut hx hc hP,λp cx e=>by
  obtain⟨c₂,o2,U8,t2,e1,e2,e3,e4⟩:=x.recs p cx e
  exact⟨c₂,o2,U8,t2,e1,hx _ _ (Ws.x9 e2 e3 e4) e2,e3,e4⟩⟩
theorem qT (i:Inv C s)(ok:C.Ok){P:He}(hP:P∈C.aq):s.heap.BuiltinsAt C.mg P:=by
 refine Cm ok.bmain λbm o h1 h2 h3 h4 h5 r=> ?_
 exact⟨bm,o,h1,h2,h3,λq=>h4 (q▸hP),i.old _ _ h4 h5,r⟩
noncomputable def j7 (sc:Sc) (params:I') (body:Expr) (scope:Scope) (cl:List (Str×He)) (pm cd QE:y'):Jq:=kla_fn "<lambda>" (sc.qual ++ "<lambda>") params body scope cl pm cd QE
structure sZ (C:Cfg)(sc:Sc)(scope:Scope):Prop where
 tab:∃t∈C.tabs,sc.code= .ref t.1/\sc.qual ++ "<lambda>"=t.2.2
 free:∀x∈scope.names,x.2= .free->sc.scope.names.lookup x.1=some .cell\/sc.scope.names.lookup x.1=some .free
 co:scope.isCoroutine=false
 gen:scope.isGenerator=false
 kind:scope.kind= .function
 nd:(scope.names.map (·.1)).Nodup
theorem Bj {t:He×He×Str}{Rw:Array y'}{fa:He}{cv QE pm:y'}{params:I'}{body:Expr}{scope:Scope}(X:St C W sc own ρ env s)(L:sZ C sc scope)(ht:t∈C.tabs)(hq:sc.qual ++ "<lambda>"=t.2.2)(e2:ah C [] s J)(hz:s.heap.objs.size<=fa)
 (g:J.heap.get? fa=some {cls:= .type "function",data:= .func (j7 sc params body scope (aT env.cells scope.names []) pm cv QE)})(SR:bN J.heap t.1 t.2.1 t.2.2 Rw)(hC:JK pos Rw.toList=some cv):
 fg (C.at W J) fa (j7 sc params body scope (aT env.cells scope.names []) pm cv QE) body ρ:=by
 have Rq:∀x,(x,IS.free)∈scope.names->∃c cv,env.cells.lookup x=some c/\s.heap.IsCell c cv/\∀p,ρ x=some p->∃v,cv=some v/\Rr C W s.heap v p:=λx hx=>X.cel x (L.free _ hx rfl)
 have Q4:∀x c,(x,c)∈aT env.cells scope.names []->env.cells.lookup x=some c/\scope.names.lookup x=some .free/\∃ce,(C.at W J).h₀.IsCell c ce/\s.heap.IsCell c ce:=by
  intro x c h
  refine c7 (bZ.mp h) λh1 h0=> ?_
  refine bo (Rq _ h1) λc' T2 h2 h3 _=> ?_
  obtain rfl:c=c':=by rw [h2] at h0;exact h0
  refine ae h3 λoc g d=> ?_
  exact⟨h2,b7 L.nd h1,T2,⟨oc,gw.mpr ⟨e2.keep _ _ (X.A2 g (by refine d▸?_;nofun)) (by simp) g,X.celW x (L.free _ h1 rfl) _ h2⟩,d⟩,oc,g,d⟩
 have tW:∀{a:He} {o:Ib},C.h₀.get? a=some o->a∉W:=λg h=>nomatch (X.new _ h).symm.trans g
 refine⟨⟨_,gw.mpr ⟨g,λh=>absurd (X.low _ h) (HH.mpr hz)⟩,rfl⟩,λh=>absurd (X.inv.gm _ h) (HH.mpr hz),⟨t,ht,hq,pos,Rw,?_,hC⟩,rfl,L.co,L.gen,L.kind,rfl,rfl,L.nd,mB X.apart (cT L.nd) (λx c h=>(Q4 x c h).1),λx c h=>⟨(Q4 x c h).2.1,(Q4 x c h).2.2.imp λ_ q=>q.1⟩,λx hx=> ?_⟩
 ·refine aL (X.inv.tabs t ht) λ_ _ Xj _=> ?_;refine aL Xj.1 λo0 vs0 g0 _=> ?_
  refine aL SR.tab.1 λo vs g r=> ?_
  exact⟨⟨o,vs,gw.mpr ⟨g,tW g0⟩,r⟩,gw.mpr ⟨SR.tab.2,tW Xj.2⟩⟩
 ·have hm:=mem_of_lookup hx
  refine bo (Rq _ hm) λc T2 h1 h2 h3=> ?_
  have Uu:(x,c)∈aT env.cells scope.names []:=bZ.mpr ⟨hm,by rw [h1];rfl⟩
  obtain⟨_,_,Vy,h4,h5⟩:=Q4 x c Uu
  obtain rfl:Vy=T2:=by simp only [<-gh h5,<-gh h2]
  refine⟨c,Vy,b7 (cT L.nd) Uu,h4,λp hp=> ?_⟩
  refine ae (h3 p hp) λv e1 r=> ?_
  exact⟨v,e1,CE (e2.pC r)⟩
theorem qC {params:I'}{body:Expr}{scope:Scope}(ok:C.Ok)(X:St C W sc own ρ env s)(L:sZ C sc scope)(Q6:∀env,defaultsOf params env=([],[])):
 Hi C.M A (IQ (.Lambda params body scope pos) env) (λv P5=>ah C [] s P5/\∃fa cl pm cd QE,v= .ref fa/\s.heap.objs.size<=fa/\fg (C.at W P5) fa (j7 sc params body scope cl pm cd QE) body ρ) (λ_ _=>False) s:=by
 refine iI L.tab λt ht Se hq=> ?_
 refine aL (X.inv.tabs t ht) λQi more hT hN=> ?_
 have Tz:t.2.1∈C.aq:=Hd.mpr ⟨t,ht,rfl⟩
 have QS:closureFor scope env=pure (aT env.cells scope.names []):=ei λx hx hf=>by
  refine aL (X.cel x.1 (L.free x hx hf)) λc _ h1 _=> ?_
  rw [h1];rfl
 have QZ:env.code= .ref t.1:=by rw [X.ok.code];exact Se
 have hg:=X.inv.ns ok.gT ok.g
 have hb:=qT X.inv ok Tz
 have XF:CodeHd s.heap t.1 t.2.1:=CodeHd.of hN.code hN.tab
 have Vd:TriplesOk (Qi ++ more).toList:=by
  obtain⟨_,_,_,_,_,_,_,_,_,_,_,_,_,_,_,_,_,g2,d2,tr,_⟩:=hN.code
  exact tr
 have fin:∀(h':Ho) (tk:Tok) (Rw:Array y') (cv QE:y'),ah C [] s {s with heap:=h',toks:=tk}->s.heap.objs.size<=h'.objs.size->bN h' t.1 t.2.1 t.2.2 Rw->JK pos Rw.toList=some cv->
  ∀s2:Hh,s2={s with heap:=h'.push {cls:= .type "function",data:= .func (kla_fn "<lambda>" (sc.qual ++ "<lambda>") params body scope (aT env.cells scope.names []) ((C.mg "__name__").getD .none) cv QE)},toks:=tk}->
  ah C [] s s2/\∃fa cl pm cd ctv',Ju h'.objs.size= .ref fa/\s.heap.objs.size<=fa/\fg (C.at W s2) fa (j7 sc params body scope cl pm cd ctv') body ρ:=by
  rintro h' tk Rw cv QE e hz SR hC _ rfl
  have e2:ah C [] s {s with heap:=h'.push {cls:= .type "function",data:= .func (kla_fn "<lambda>" (sc.qual ++ "<lambda>") params body scope (aT env.cells scope.names []) ((C.mg "__name__").getD .none) cv QE)},toks:=tk}:=e.trans (ah.push _ tk)
  exact⟨e2,h'.objs.size,_,_,cv,QE,rfl,hz,Bj X L ht hq e2 hz (Hp _ rfl) (SR.keeps λ_ _=>Hj _) hC⟩
 refine kla_eval (Q6 env) ?_
 cases hC:JK pos (Qi ++ more).toList with
 |some cv=>
  refine kla_makeFunctionHit QS X.ok.globals hg QZ XF hN.tab.2 Vd hC hb λQE h' tk hk hz=> ?_
  exact fin h' tk (Qi ++ more) cv QE (ah.of_keeps hk hz) hz (hN.keeps hk) hC _ (by rw [X.ok.qual])
 |none=>
  refine kla_makeFunction QS X.ok.globals hg QZ XF hN.tab.2 Vd hC (λq=>ok.gT (q▸Tz)) hb λc' QE h' tk hx WL Qc Ua WC=> ?_
  have RL:=hN.snoc (pos:=pos) hx WC ((by rw [X.ok.qual];exact hq:env.qual ++ "<lambda>"=t.2.2)▸Ua)
  have hz:s.heap.objs.size<=h'.objs.size:=Hf WL (IB Qc)
  refine fin h' tk _ (.ref c') QE ⟨λa o h1 _ g=>hx a o (λq=>h1 (q▸Tz)) g,hz,λt' RU Rw x=> ?_,rfl,id⟩ hz RL ?_ _ (by rw [X.ok.qual])
  ·by_cases hP:t'.2.1=t.2.1
   ·obtain rfl:=ok.inj t' RU t ht hP
    obtain rfl:Rw=Qi ++ more:=by
     have h1:=x.tab.2
     replace h1:=hN.tab.2▸h1
     cases h1;rfl
    exact⟨_,RL⟩
   ·exact⟨#[],(x.yz hN hx (λq=>ok.noCode t' RU (q▸Tz)) hP)⟩
  ·rw [show ((Qi ++ more) ++ #[JE pos.line,JE pos.col,Ju c']).toList=(Qi ++ more).toList ++ [JE pos.line,JE pos.col,.ref c'] by simp]
   exact codeAmong_snoc _ Vd hC
def ez (C:Cfg)(W:List He)(own:Own)(s:Hh):Prop:=∀x∈own,x.1∈W/\dO C W s.heap x.1 x.2/\x.1∉C.aq
theorem ez.nil:ez C W [] s:=by intro x hx;cases hx
structure cE (C:Cfg)(fa:He):Prop where
 nt:fa∉C.aq
 obj:∃o fd,C.h₀.get? fa=some o/\o.data= .func fd
theorem FnAt.fo {fa:He}{fd:Jq}{body:List I9}(F:FnAt C fa fd body):cE C fa:=⟨F.fa,let ⟨o,g,d⟩:=F.obj;⟨o,fd,g,d⟩⟩
theorem fg.fo {fa:He}{fd:Jq}{body:Expr}(F:fg C fa fd body R2):cE C fa:=⟨F.fa,let ⟨o,g,d⟩:=F.obj;⟨o,fd,g,d⟩⟩
def aO (C:Cfg)(k:Nat)(own:Own)(f:y')(ps:List PV)(Qo:List (Str×PV))(r:PV):Prop:=∀W A s vs kvs,ak A k->Gd C W s->ez C W own s->fe C W s.heap vs ps->dz C W s.heap kvs Qo->Gives C W A (call f vs kvs) r s
def gX (C:Cfg)(k:Nat)(own own':Own)(f:y')(ps:List PV)(Qo:List (Str×PV))(r:PV):Prop:=∀W A s vs kvs,ak A k->Gd C W s->ez C W own s->fe C W s.heap vs ps->dz C W s.heap kvs Qo->
 Hi C.M A (call f vs kvs) (λv J=>ah C (own.map (·.1)) s J/\ez C W own' J/\Rr C W J.heap v r) (λ_ _=>False) s
def bR (C:Cfg)(k:Nat)(sc:Sc)(own:Own)(ρ:bP)(RQ:List JN)(Qo:List (Str×PV)):Prop:=
 ∀W A env s pos,ak A k->St C W sc own ρ env s->Hi C.M A (evalAll ((J1 pos (I8 RQ env)).map (·.2))) (λvs J=>ah C [] s J/\dz C W J.heap (((J1 pos (I8 RQ env)).filterMap (·.1)).zip vs) Qo) (λ_ _=>False) s
theorem bR.nil:bR C k sc own ρ [] []:=λW A env s pos rm X=>P1 ⟨ah.refl _,.nil⟩
theorem bR.cons {name:Str}{value:Expr}{kp:Jm}{RQ:List JN}{p:PV}{Qo:List (Str×PV)}(h:Ev C k sc own ρ value p)(hs:bR C k sc own ρ RQ Qo):bR C k sc own ρ (⟨some name,value,kp⟩::RQ) ((name,p)::Qo):=λW A env s pos rm X=>by
 refine PI (G' (h W A env s rm X) ?_ λ_ _ q=>q.elim)
 rintro v s1 ⟨e1,r1⟩
 refine G' (hs W A env s1 pos rm (X.aA e1)) ?_ λ_ _ q=>q.elim
 rintro vs s2 ⟨e2,r2⟩
 exact⟨e1.trans e2,.cons (e2.pC r1) r2⟩
theorem Ev.du {x:Str}{px:Jm}{a:Expr}{args:List Expr}{RQ:List JN}{fa:He}{ps:List PV}{Qo:List (Str×PV)}{r:PV}(hf:Ev C k sc own ρ (.Name x px) (.raw (.ref fa)))(F:cE C fa)
 (ha:ab C k sc own ρ (a::args) ps)(hk:bR C k sc own ρ RQ Qo)(hc:aO C k own (.ref fa) ps Qo r)
 (Q':autoParam (∀env,∃m ms,Jo pos (HG (a::args) env)=(false,m)::ms) nh)(Qx:autoParam (∀env,(J1 pos (I8 RQ env)).all (·.1.isSome)=true) ng):
 Ev C k sc own ρ (.Call (.Name x px) (a::args) RQ pos) r:=λW A env s rm X=>by
 refine Li (G' (hf W A env s rm X) ?_ λ_ _ q=>q.elim)
 rintro v s1 ⟨e1,r1⟩
 rw [show v= .ref fa from r1]
 refine aL F.obj λo fd ho hd=> ?_
 refine L0 (o:=o) (fd:=fd) ?_
 refine fB (Q' env) λm ms hm=> ?_
 have h2:=ha W A env s1 pos rm (X.aA e1)
 simp only [hm] at h2 ⊢
 refine OL (Qx env) (G' h2 ?_ λ_ _ q=>q.elim)
 rintro vs s2 ⟨e2,r2⟩
 have X2:=(X.aA e1).aA e2
 refine G' (hk W A env s2 pos rm X2) ?_ λ_ _ q=>q.elim
 rintro kvs s3 ⟨e3,r3⟩
 have X3:=X2.aA e3
 refine⟨⟨X3.inv.old _ _ F.nt ho,hd⟩,G' (hc W A s3 vs _ rm X3.gd X3.owns (e3.jA r2) r3) ?_ λ_ _ q=>q.elim⟩
 rintro w s4 ⟨e4,r4⟩
 exact⟨((e1.trans e2).trans e3).trans e4,r4⟩
theorem St.turned (X:St C W sc own ρ env s)(e:ah C (own.map (·.1)) s J)(ho:ez C W own' J)(ha:own'.map (·.1)=own.map (·.1)):St C W sc own' ρ env J:=by
 have RD:∀b∈own.map (·.1),b∈W:=λb hb=>by
  refine ae (Hd.mp hb) λy hy P8=> ?_;refine P8▸?_
  exact(X.owns y hy).1
 have kk:∀b o,¬C.N W b->s.heap.get? b=some o->¬C.N W b/\J.heap.get? b=some o:=λb o n g=>⟨n,e.keep b o (λq=>n (.inl q)) (λq=>n (.inr (RD b q))) g⟩
 have Uc:∀{y:He×PV},y∈own'->∃p,(y.1,p)∈own:=λ{y} hy=>by
  have:y.1∈own'.map (·.1):=Hd.mpr ⟨y,hy,rfl⟩
  rw [ha] at this
  refine ae (Hd.mp this) λz hz e=> ?_
  exact⟨z.2,by refine e▸?_;exact hz⟩
 refine⟨X.inv.aA e (λa ha=>X.new a (RD a ha)),X.ok,λa ha=>Ht (X.low a ha) e.size,ho,?_,λy hy=> ?_,X.apart,X.noLoc,λy hy=> ?_,X.new,X.celW⟩
 ·obtain⟨m,⟨o,es,ep,g,r⟩,h⟩:=X.loc
  refine⟨m,⟨o,es,ep,e.keep _ _ X.noLoc.2 (λq=> ?_) g,r⟩,λy p h1 h2=>let ⟨v,h3,h4⟩:=h y p h1 h2;⟨v,h3,Rp.mono kk h4⟩⟩
  refine ae (Hd.mp q) λy hy e1=> ?_
  exact X.ownLoc y hy e1
 ·refine bo (X.cel y hy) λc cv h1 z8 h3=> ?_;refine ae z8 λoc h2 Rn=> ?_
  refine⟨c,cv,h1,⟨oc,e.keep _ _ (λq=> ?_) (λq=>X.celW y hy c h1 (RD c q)) h2,Rn⟩,λp hp=>let ⟨v,h4,h5⟩:=h3 p hp;⟨v,h4,Rp.mono kk h5⟩⟩
  refine ae (Hd.mp q) λt ht P8=> ?_;subst P8
  refine aL (X.inv.tabs t ht) λ_ _ _ z=> ?_
  have:=z.tab.2
  rw [h2] at this
  injection this with this
  replace Rn:=this▸Rn
  cases Rn
 ·obtain⟨p,hp⟩:=Uc hy
  exact X.ownLoc (y.1,p) hp
theorem Bs.turned (B:Bs C Wt mine t own env s)(e:ah C (own.map (·.1)) s J)(ha:own'.map (·.1)=own.map (·.1)):Bs C Wt mine t own' env J:=by
 refine(B.join e λa h=> ?_).less λy hy=> ?_
 ·refine ae (Hd.mp h) λy hy P8=> ?_;refine P8▸?_
  exact B.owns y hy
 ·have:y.1∈own'.map (·.1):=Hd.mpr ⟨y,hy,rfl⟩
  rw [ha] at this
  refine ae (Hd.mp this) λz hz e=> ?_
  exact⟨z.2,by refine e▸?_;exact hz⟩
theorem fj.call {x:Str}{px:Jm}{a:Expr}{args:List Expr}{RQ:List JN}{fa:He}{ps:List PV}{Qo:List (Str×PV)}{r:PV}(hf:Ev C k sc own ρ (.Name x px) (.raw (.ref fa)))(F:cE C fa)
 (ha:ab C k sc own ρ (a::args) ps)(hk:bR C k sc own ρ RQ Qo)(hc:gX C k own own' (.ref fa) ps Qo r)(Qb:own'.map (·.1)=own.map (·.1))
 (Q':∀env,∃m ms,Jo pos (HG (a::args) env)=(false,m)::ms)(Qx:∀env,(J1 pos (I8 RQ env)).all (·.1.isSome)=true):
 fj C k sc mine own own' ρ (.Call (.Name x px) (a::args) RQ pos) r:=λW A env s t Wt rm X B=>by
 refine Li (G' (hf W A env s rm X) ?_ λ_ _ q=>q.elim)
 rintro v s1 ⟨e1,r1⟩
 simp only [show v= .ref fa from r1]
 refine aL F.obj λo fd ho hd=> ?_
 refine L0 (o:=o) (fd:=fd) ?_
 refine fB (Q' env) λm ms hm=> ?_
 have h2:=ha W A env s1 pos rm (X.aA e1)
 simp only [hm] at h2 ⊢
 refine OL (Qx env) (G' h2 ?_ λ_ _ q=>q.elim)
 rintro vs s2 ⟨e2,r2⟩
 have X2:=(X.aA e1).aA e2
 refine G' (hk W A env s2 pos rm X2) ?_ λ_ _ q=>q.elim
 rintro kvs s3 ⟨e3,r3⟩
 have X3:=X2.aA e3
 refine⟨⟨X3.inv.old _ _ F.nt ho,hd⟩,G' (hc W A s3 vs _ rm X3.gd X3.owns (e3.jA r2) r3) ?_ λ_ _ q=>q.elim⟩
 intro w s4 zz;refine cZ zz λe4 o4 r4=> ?_
 exact⟨X3.turned e4 o4 Qb,(((B.step e1).step e2).step e3).turned e4 Qb,r4⟩
theorem b6 {e:Expr}(X:St C W sc own ρ env s)(B:Bs C Wt mine t own env s)(rm:ak A k)(he:fj C k sc mine own own' ρ e .none)
 (hs:∀env,Kg e none pos.line env=pure false)
 (next:∀J,St C W sc own' ρ env J->Bs C Wt mine t own' env J->Hi C.M A (HA rest env) Q E J):Hi C.M A (HA (.Expr e pos::rest) env) Q E s:=by
 refine Ia (wpAny_Expr (G' (he W A env s t Wt rm X B) ?_ λ_ _ q=>q.elim) (by simp only [interactive];refine X.ok.scope▸X.ok.kind▸?_;rfl) (hs env))
 intro v s1 zz;refine cZ zz λX1 B1 r=> ?_
 refine(show v= .none from r)▸?_
 exact next s1 X1 B1
variable {C' RH:Cfg}
structure Cfg.Le (C C':Cfg):Prop where
 prog:C'.prog=C.prog
 w:C'.w=C.w
 os:C'.os=C.os
 mg:C'.mg=C.mg
 mb:C'.mb=C.mb
 tabs:C'.tabs=C.tabs
 old:∀a o,a∉C.aq->C.h₀.get? a=some o->C'.h₀.get? a=some o
 tab:∀t∈C.tabs,∀ps,C.h₀.TableAt t.1 t.2.1 ps->∃more,C'.h₀.TableAt t.1 t.2.1 (ps ++ more)
theorem v9 (i:Inv C s)(ok:C.Ok)(hN:∀a∈W,C.h₀.get? a=none):C.Le (C.at W s) where
 prog:=rfl
 w:=rfl
 os:=rfl
 mg:=rfl
 mb:=rfl
 tabs:=rfl
 old a o h e:=lK i hN h e
 tab t ht ps h:=by
  refine aL (i.tabs t ht) λQi m y z=> ?_
  have:ps=Qi:=by
   have h1:=h.2
   replace h1:=y.2▸h1
   cases h1;rfl
  refine this▸?_
  refine c7 y λz3 gP=> ?_;refine aL z3 λo vs g r=> ?_
  exact⟨m,⟨o,vs,lK i hN (nJ ok ht) g,r⟩,gw.mpr ⟨z.tab.2,λh=>by replace gP:=(hN _ h)▸gP;cases gP⟩⟩
theorem Cfg.Le.aq (l:C.Le C'):C'.aq=C.aq:=by unfold Cfg.aq;rw [l.tabs]
theorem Cfg.Le.ns (l:C.Le C'){a:He}{m:Str->Option y'}(ha:a∉C.aq)(h:C.h₀.Ns a m):C'.h₀.Ns a m:=
 let ⟨o,es,ep,g,r⟩:=h;⟨o,es,ep,l.old _ _ ha g,r⟩
theorem Cfg.Ok.le (ok:C.Ok)(l:C.Le C'):C'.Ok where
 nolimit:=by refine ae ok.nolimit λmc a b=> ?_;exact⟨mc,l.ns ok.statics a,b⟩
 statics:=by refine l.aq▸?_;exact ok.statics
 g:=by refine l.mg▸?_;exact l.ns ok.gT ok.g
 gT:=by refine l.aq▸?_;exact ok.gT
 b:=by rw [l.mb];exact l.ns ok.bT ok.b
 bT:=by refine l.aq▸?_;exact ok.bT
 noCode:=by refine l.aq▸l.tabs▸?_;exact ok.noCode
 inj:=by refine l.tabs▸?_;exact ok.inj
 bmain:=by refine l.mg▸l.aq▸?_;exact let ⟨bm,o,h1,h2,h3,h4,h5,r⟩:=ok.bmain;⟨bm,o,h1,h2,h3,h4,l.old _ _ h4 h5,r⟩
theorem FnAt.le {fa:He}{fd:Jq}{body:List I9}(F:FnAt C fa fd body)(l:C.Le C'):FnAt C' fa fd body where
 obj:=by refine ae F.obj λo g d=> ?_;exact⟨o,l.old _ _ F.fa g,d⟩
 fa:=by refine l.aq▸?_;exact F.fa
 code:=by obtain⟨c,o,vs,t,e,g,r⟩:=F.code;exact⟨c,o,vs,t,e,l.old _ _ (F.noTab c e) g,r⟩
 noTab:=by refine l.aq▸?_;exact F.noTab
 body:=F.body
 co:=F.co
 gen:=F.gen
 kind:=F.kind
 clos:=F.clos
 glob:=F.glob
 blt:=F.blt
 free:=F.free
theorem cE.le {fa:He}(F:cE C fa)(l:C.Le C'):cE C' fa:=⟨by refine l.aq▸?_;exact F.nt,let ⟨o,fd,g,d⟩:=F.obj;⟨o,fd,l.old _ _ F.nt g,d⟩⟩
theorem Cfg.Le.sEq (l:C.Le C'):C'.S=C.S:=by
 unfold Cfg.S
 rw [l.prog,l.w]
theorem kH (ok:C.Ok)(hT:∀t∈C.tabs,∃ps,C.h₀.TableAt t.1 t.2.1 ps){c:He}{cv:Option y'}(h:C.h₀.IsCell c cv):c∉C.aq:=λq=>by
 refine ae h λo g d=> ?_
 refine ae (Hd.mp q) λt ht P8=> ?_;subst P8
 obtain⟨ps,y⟩:=hT t ht
 have:=y.2
 rw [g] at this
 injection this with this
 replace d:=this▸d
 cases d
theorem fg.le {fa:He}{fd:Jq}{body:Expr}(F:fg C fa fd body R2)(ok:C.Ok)(hT:∀t∈C.tabs,∃ps,C.h₀.TableAt t.1 t.2.1 ps)(l:C.Le C'):fg C' fa fd body R2 where
 obj:=by refine ae F.obj λo g d=> ?_;exact⟨o,l.old _ _ F.fa g,d⟩
 fa:=by rw [l.aq];exact F.fa
 code:=by
  obtain⟨t,ht,hq,pos,ps,h1,h2⟩:=F.code
  obtain⟨m,h3⟩:=l.tab t ht ps h1
  exact⟨t,by rw [l.tabs];exact ht,hq,pos,_,h3,by rw [NO];exact iQ h2⟩
 body:=F.body
 co:=F.co
 gen:=F.gen
 kind:=F.kind
 glob:=F.glob
 blt:=F.blt
 nd:=F.nd
 apart:=F.apart
 cells x c h:=by obtain⟨h1,cv,h2⟩:=F.cells x c h;exact⟨h1,cv,let ⟨o,g,d⟩:=h2;⟨o,l.old _ _ (kH ok hT h2) g,d⟩⟩
 clos x hx:=by
  refine bo (F.clos x hx) λc cv h1 h2 h3=> ?_
  refine⟨c,cv,h1,let ⟨o,g,d⟩:=h2;⟨o,l.old _ _ (kH ok hT h2) g,d⟩,λp hp=> ?_⟩
  refine ae (h3 p hp) λv e r=> ?_
  refine⟨v,e,?_⟩
  rw [l.sEq,l.aq]
  exact Rp.mono (λa o n g=>⟨n,l.old a o n g⟩) r
theorem Inv.sY (i:Inv C s):∀t∈C.tabs,∃ps,C.h₀.TableAt t.1 t.2.1 ps:=λt ht=>let ⟨ps,_,y,_⟩:=i.tabs t ht;⟨ps,y⟩
mutual
noncomputable def res (f:He->Option PV):PV->PV
 | .tup xs=> .tup (dB f xs)
 | .lst xs=> .lst (dB f xs)
 | .au es=> .au (gZ f es)
 | .inst c es=> .inst c (gZ f es)
 | .raw (.ref a)=>(f a).getD (.raw (.ref a))
 |p=>p
noncomputable def dB (f:He->Option PV):List PV->List PV
 |[]=>[]
 |p::ps=>res f p::dB f ps
noncomputable def gZ (f:He->Option PV):List (Str×PV)->List (Str×PV)
 |[]=>[]
 |(x,p)::ps=>(x,res f p)::gZ f ps
end
theorem vR (f:He->Option PV) {xs}:res f (.lst xs)=(.lst (dB f xs)):=rfl
theorem jU (f:He->Option PV) {a}:res f (.raw (.ref a))=((f a).getD (.raw (.ref a))):=rfl
theorem k7 (f:He->Option PV):dB f []=([]):=rfl
theorem k5 (f:He->Option PV) {p ps}:dB f (p::ps)=(res f p::dB f ps):=rfl
theorem sW (f:He->Option PV):gZ f []=([]):=rfl
theorem sX (f:He->Option PV) {x p ps}:gZ f ((x,p)::ps)=((x,res f p)::gZ f ps):=rfl
theorem ll (f:He->Option PV):∀l,dB f l=l.map (res f):=by
 intro q0
 induction q0 with
 |nil=>
  exact rfl
 |cons p ps ih=>
  simp only [k7,k5,ih];rfl
theorem v7 (f:He->Option PV):∀l,gZ f l=l.map λy=>(y.1,res f y.2):=by
 intro q0
 induction q0 with
 |nil=>
  exact rfl
 |cons q1 ps ih=>
  obtain⟨x,p⟩:=q1
  simp only [sW,sX,ih];rfl
theorem Rp.BP {P:He->List Hs->List (Str×y')->Prop}{N N':He->Prop}{h:Ho}{f:He->Option PV}(k:∀a,¬N a->¬N' a)(hf:∀a p,f a=some p->Rp P N' h (.ref a) p):
 (∀p v,Rp P N h v p->Rp P N' h v (res f p))/\(∀ps vs,aR P N h vs ps->aR P N' h vs (dB f ps))/\∀ps ds,bC P N h ds ps->bC P N' h ds (gZ f ps):=
 PV.ind (λ_ x=>x) (λ_ _ x=>x) (λ_ _ x=>x) (λ_ _ x=>x)
  (λ_ q _ x=>ib x λa vs e n g r=>⟨a,vs,e,k a n,g,q _ r⟩)
  (λ_ q _ x=>gB x λa vs m e n g r=>⟨a,vs,m,e,k a n,g,q _ r⟩)
  (λ_ q _ x=>cA x λa x=>D9 x λds m kvs e n g sd r=>⟨a,ds,m,kvs,e,k a n,g,sd,q _ r⟩)
  (λu v x=>by
   have e:v=u:=x
   subst e
   cases v with
   |ref a=>
    show Rp P N' h (.ref a) ((f a).getD (.raw (.ref a)))
    cases q:f a with
    |none=>exact rfl
    |some p=>exact hf a p q
   |_=>exact rfl) (λ_ _ x=>x.elim)
  (λ_ _ q _ x=>fB x λa d x=>EN x λds m kvs e n n' g g' sd r=>⟨a,d,ds,m,kvs,e,k a n,k d n',g,g',sd,q _ r⟩)
  (λ_ x=>x) (λ_ _ q1 q2 _ x=>bo x λv r e x y=>⟨v,r,e,q1 _ x,q2 _ y⟩)
  (λ_ x=>x) (λ_ _ _ q1 q2 _ x=>bo x λv r e x y=>⟨v,r,e,q1 _ x,q2 _ y⟩)
theorem Rp.res {P:He->List Hs->List (Str×y')->Prop}{N N':He->Prop}{h:Ho}{f:He->Option PV}(k:∀a,¬N a->¬N' a)(hf:∀a p,f a=some p->Rp P N' h (.ref a) p){p:PV}{v:y'}:Rp P N h v p->Rp P N' h v (Internal.res f p):=(Rp.BP k hf).1 p v
theorem aR.res {P:He->List Hs->List (Str×y')->Prop}{N N':He->Prop}{h:Ho}{f:He->Option PV}(k:∀a,¬N a->¬N' a)(hf:∀a p,f a=some p->Rp P N' h (.ref a) p){ps:List PV}{vs:List y'}:aR P N h vs ps->aR P N' h vs (dB f ps):=(Rp.BP k hf).2.1 ps vs
theorem bC.res {P:He->List Hs->List (Str×y')->Prop}{N N':He->Prop}{h:Ho}{f:He->Option PV}(k:∀a,¬N a->¬N' a)(hf:∀a p,f a=some p->Rp P N' h (.ref a) p){ps:List (Str×PV)}{ds:List (Str×y')}:bC P N h ds ps->bC P N' h ds (gZ f ps):=(Rp.BP k hf).2.2 ps ds
noncomputable def bG (own:Own):Nat->He->Option PV
 |0,_=>none
 |n+1,a=>match own.lookup a with
  |some (.lst xs)=>some (.lst (dB (bG own n) xs))
  |some (.au xs)=>some (.au (gZ (bG own n) xs))
  |_=>none
theorem y8 (own:Own) {v1}:bG own 0 v1=(none):=rfl
theorem gu (own:Own) {n a}:bG own (n+1) a=(
 match own.lookup a with
 |some (.lst xs)=>some (.lst (dB (bG own n) xs))
 |some (.au xs)=>some (.au (gZ (bG own n) xs))
 |_=>none):=rfl
noncomputable def dR (W:List He) (own:Own):List He:=W.filter λa=>own.all λy=>y.1 !=a
theorem dU:∀a∈dR W own,a∈W:=λa h=>(HU.mp h).1
theorem nu {a:He}{p:PV}(h:(a,p)∈own):a∉dR W own:=λq=>by
 have:=(HU.mp q).2
 have:=HM.mp this _ h
 simp at this
theorem lookup_mem {α:Type}:∀{l:List (He×α)}{a:He}{p:α},l.lookup a=some p->(a,p)∈l
 |(b,q)::r,a,p,h=>by
  simp only [Hr] at h
  cases hb:a==b with
  |true=>replace h:=hb▸h;cases h;rw [beq_iff_eq.mp hb];exact f'
  |false=>replace h:=hb▸h;exact j' _ (lookup_mem h)
theorem sf (ho:ez C W own s):∀(n:Nat)(a:He)(p:PV),bG own n a=some p->Rr C (dR W own) s.heap (.ref a) p:=by
 intro q0
 induction q0 with
 |zero=>
  intro a p h
  cases h
 |succ n ih=>
  intro a p h
  have kk:∀b,¬C.N W b->¬C.N (dR W own) b:=λb n q=>n (q.elim .inl λq=> .inr (dU b q))
  rw [gu] at h
  cases e:own.lookup a with
  |none=>replace h:=e▸h;cases h
  |some q=>
   replace h:=e▸h
   cases q with
   |lst xs=>
    cases h
    refine cZ (ho _ (lookup_mem e)) λh1 z3 h3=> ?_;refine aL z3 λvs m g r=> ?_
    exact⟨a,vs,m,rfl,(λq=>q.elim h3 (nu (lookup_mem e))),g,aR.res kk (ih) r⟩
   |au xs=>
    cases h
    obtain⟨h1,⟨ds,m,kvs,g,sd,r⟩,h3⟩:=ho _ (lookup_mem e)
    exact⟨a,ds,m,kvs,rfl,(λq=>q.elim h3 (nu (lookup_mem e))),g,sd,bC.res kk (ih) r⟩
   |_=>cases h
theorem l0 (ho:ez C W own s)(n:Nat){v:y'}{p:PV}(h:Rr C W s.heap v p):Rr C (dR W own) s.heap v (res (bG own n) p):=
 Rp.res (λb n q=>n (q.elim .inl λq=> .inr (dU b q))) (sf ho n) h
theorem yI (ho:ez C W own s)(n:Nat){v:List y'}{p:List PV}(h:fe C W s.heap v p):fe C (dR W own) s.heap v (dB (bG own n) p):=
 aR.res (λb n q=>n (q.elim .inl λq=> .inr (dU b q))) (sf ho n) h
theorem xU (ho:ez C W own s)(n:Nat){b:List (Str×y')}{q:List (Str×PV)}(h:dz C W s.heap b q):dz C (dR W own) s.heap b (gZ (bG own n) q):=by
 induction h with
 |nil=>exact .nil
 |cons h1 _ ih=>exact .cons (l0 ho n h1) ih
noncomputable def Flat:PV->Prop
 | .none | .bool _ | .int _ | .str _=>True
 |_=>False
theorem Flat.rr {p:PV}(f:Flat p){h h':Ho}{v:y'}(r:Rr C W h v p):Rr C' W' h' v p:=by
 cases p <;> first |exact r |exact f.elim
theorem dz.of {h:Ho}{b:List (Str×y')}{q:List (Str×PV)}(hS:∀v p,Rr C W h v p->Rr C' W' h v p)(r:dz C W h b q):dz C' W' h b q:=by
 induction r with
 |nil=>exact .nil
 |cons h1 _ ih=>exact .cons (hS _ _ h1) ih
theorem aO.frozen {f:y'}{ps:List PV}{Qo:List (Str×PV)}{r:PV}(n:Nat)(fl:Flat r)(ok:C.Ok)
 (h:∀C',C.Le C'->aO C' k [] f (dB (bG own n) ps) (gZ (bG own n) Qo) r):aO C k own f ps Qo r:=λW A s vs kvs rm g ho r1 r2=>by
 have hN:∀a∈dR W own,C.h₀.get? a=none:=λa h=>g.new a (dU a h)
 refine G' (h _ (v9 g.inv ok hN) (dR W own) A s vs kvs rm (⟨g.inv.at ok hN,λa h=>g.low a (h.elim .inl λh=> .inr (dU a h)),λa ha=>Oa _ ha⟩) ez.nil (yI ho n r1) (dz.of (C:=C) (C':=C.at (dR W own) s) (λv p x=>x) (xU ho n r2))) ?_ λ_ _ q=>q
 rintro v J ⟨e,r⟩
 exact⟨e.qg,fl.rr r⟩
set_option maxRecDepth 100000
variable {p:Kc}{w:Jx}{n₀:Nat}{ann:Option y'}
def Go (p:Kc)(w:Jx)(n₀:Nat)(ann:Option y')(c:Nat)(s:Hh)(pos:Jm)(m:Jj α)(a:α)(J:Hh)(pos':Jm):Prop:=
 ∀(K:α->Jj Fin) (H:y'->Jj Fin) (gd:Bool->Bool) (lv:List y'->List y') (code:Code) (F:Frame) (stk:List Frame) (N:Nat) (r:Hh),
  J9 Im p w n₀ ann N J ⟨K a,code,pos',F::stk⟩=some r->J9 Im p w n₀ ann (N+c) s ⟨m.wrap K H gd lv,code,pos,F::stk⟩=some r
theorem jV {N M:Nat}{s:Hh}{t:Thread}{r:Hh}(h:J9 Im p w n₀ ann N s t=some r)(le:N<=M):J9 Im p w n₀ ann M s t=some r:=by
 have:=topRun_mono (M - N) _ _ _ _ h
 rwa [show N+(M - N)=M by simp_all] at this
theorem Go.mono {c c':Nat}{s J:Hh}{pos pos':Jm}{m:Jj α}{a:α}(h:Go p w n₀ ann c s pos m a J pos')(le:c<=c'):Go p w n₀ ann c' s pos m a J pos':=
 λK H gd lv code F stk N r q=>jV (h K H gd lv code F stk N r q) (by simp_all)
theorem Go.pure' {s:Hh}{pos:Jm}{a:α}:Go p w n₀ ann 0 s pos (Jn a:Jj α) a s pos:=λ_ _ _ _ _ _ _ _ _ q=>q
theorem Go.bind {c₁ c₂:Nat}{s P5 P6:Hh}{pos Qw Q8:Jm}{m:Jj α}{f:α->Jj β}{a:α}{b:β}(h:Go p w n₀ ann c₁ s pos m a P5 Qw)(k:Go p w n₀ ann c₂ P5 Qw (f a) b P6 Q8):
 Go p w n₀ ann (c₂+c₁) s pos (m >>=f) b P6 Q8:=λK H gd lv code F stk N r q=>by
 have e:(m >>=f).wrap K H gd lv=m.wrap (λa=>(f a).wrap K H gd lv) H gd lv:=by
  rw [Ob,MJ];rfl
 refine e▸?_
 have:=h (λa=>(f a).wrap K H gd lv) H gd lv code F stk (N+c₂) r (k K H gd lv code F stk N r q)
 rwa [Nat.add_assoc] at this
theorem Go.keep {c:Nat}{s J:Hh}{pos pos':Jm}{vs:List y'}{m:Jj α}{a:α}(h:Go p w n₀ ann c s pos m a J pos'):Go p w n₀ ann c s pos (m.keep vs) a J pos':=λK H gd lv code F stk N r q=>by
 rw [Jj.keep_eq_wrap,MJ]
 exact h _ _ _ _ code F stk N r q
theorem Go.holding {c:Nat}{s J:Hh}{pos pos':Jm}{vs:List y'}{m:Jj α}{a:α}(h:Go p w n₀ ann c s pos m a J pos'):Go p w n₀ ann c s pos (holding vs m) a J pos':=by
 unfold J'
 split
 ·exact h
 ·exact h.keep
theorem Go.onRaise {c:Nat}{s J:Hh}{pos pos':Jm}{m:Jj α}{hr:y'->Jj Unit}{a:α}(h:Go p w n₀ ann c s pos m a J pos'):Go p w n₀ ann c s pos (m.onRaise hr) a J pos':=λK H gd lv code F stk N r q=>by
 rw [Jj.onRaise_eq_wrap,MJ]
 exact h _ _ _ _ code F stk N r q
theorem eJ {s J:Hh}{t t':Thread}{F:Frame}{stk:List Frame}(hs:t.stack=F::stk)(ok:stepOk n₀ ann t=true)(st:step (denote Im) p w s t= .go J t'){N:Nat}{r:Hh}
 (h:J9 Im p w n₀ ann N J t'=some r):J9 Im p w n₀ ann (N+1) s t=some r:=by
 simp only [J9]
 have:through t=false:=by unfold through;rw [hs];rfl
 rw [this,ok,st]
 exact h
theorem Go.rule {s:Hh}{pos:Jm}{tag:String}:Go p w n₀ ann 1 s pos (PySem.rule tag) () s pos:=λK H gd lv code F stk N r q=>
 eJ (F:=F) (stk:=stk) rfl rfl rfl q
theorem Go.standAt {s:Hh}{pos pos':Jm}:Go p w n₀ ann 1 s pos (K8 pos') () s pos':=λK H gd lv code F stk N r q=>
 eJ (F:=F) (stk:=stk) rfl rfl rfl q
theorem Go.fresh {s:Hh}{pos:Jm}:Go p w n₀ ann 1 s pos PySem.fresh s.toks {s with toks:=s.toks+1} pos:=λK H gd lv code F stk N r q=>
 eJ (F:=F) (stk:=stk) rfl rfl rfl q
theorem Go.alloc {s:Hh}{pos:Jm}{o:Ib}:Go p w n₀ ann 1 s pos (PySem.alloc o) s.heap.objs.size {s with heap:=s.heap.push o} pos:=λK H gd lv code F stk N r q=>
 eJ (F:=F) (stk:=stk) rfl rfl rfl q
theorem Go.load {s:Hh}{pos:Jm}{a:He}{part:Option y'}{o:Ib}(ho:s.heap.get? a=some o):Go p w n₀ ann 1 s pos (PySem.loadPart a part) o s pos:=λK H gd lv code F stk N r q=>
 eJ (F:=F) (stk:=stk) rfl rfl (by
  show step _ _ _ s ⟨.load a part (λx=>(PJ x).wrap K H gd lv),code,pos,F::stk⟩=_
  simp only [step]
  refine ho▸?_
  rfl) q
theorem Go.update {s:Hh}{pos:Jm}{a:He}{part:Option y'}{f:Ib->Ib}{o:Ib}(ho:s.heap.get? a=some o)(ha:(La n₀ a || a==mainNs)=true):
 Go p w n₀ ann 1 s pos (PySem.updatePart a part f) () {s with heap:=s.heap.update a f} pos:=λK H gd lv code F stk N r q=>
 eJ (F:=F) (stk:=stk) rfl (by
  show (true && (La n₀ a || a==mainNs || a==cStatics || ann==some (.ref a)))=true
  rw [ha];rfl) (by
  show step _ _ _ s ⟨.update a part f (λx=>(PJ x).wrap K H gd lv),code,pos,F::stk⟩=_
  rw [step]
  simp only [ho,NY,if_true]
  rfl) q
theorem rj (b:Bool)(p:Kc)(w:Jx)(n₀:Nat)(ann:Option y')(hp:Ho)(gs:Array GenState)(d:Drawn)(tk:Nat)(os:JH)(k:Int)(t:Tok)(K:Int->Jj LN)(H:y'->Jj LN)(gd:Bool->Bool)(lv:List y'->List y')(code:Code)(pos:Jm)(F:Frame)(stk:List Frame)(N:Nat):
 J9 Im p (w.withFollow "special-get-raises" b) n₀ ann (N+5) ⟨hp,gs,d,tk,os⟩ ⟨(pyHash (.int k t)).wrap K H gd lv,code,pos,F::stk⟩=
 J9 Im p (w.withFollow "special-get-raises" b) n₀ ann N ⟨hp,gs,d,tk+1,os⟩ ⟨(pyHashByItsType.reduced (rawHash k)).wrap K H gd lv,code,pos,F::stk⟩:=by
 cases b <;> kernel_rfl!
theorem mR {k:Int}(h0:0<=k)(h1:k < 2 ^ 60):rawHash k=k:=by
 simp only [rawHash]
 have e2:((k.natAbs:Nat):Int) % ((2 ^ 61 - 1:Nat):Int)=k:=by
  lia
 rw [e2]
 refine(Hz (by simp_all:¬k < 0))▸?_
 have:(k== -1)=false:=by simpa using (by exact H3 (Nf h0):k≠ -1)
 refine this▸?_;rfl
theorem Go.pyHash {b:Bool}{s:Hh}{pos:Jm}{k:Int}{t:Tok}(h0:0<=k)(h1:k < 2 ^ 60):Go p (w.withFollow "special-get-raises" b) n₀ ann 5 s pos (pyHash (.int k t)) k {s with toks:=s.toks+1} pos:=λK H gd lv code F stk N r q=>by
 obtain⟨hp,gs,d,tk,os⟩:=s
 rw [rj,mR h0 h1]
 unfold pyHashByItsType.reduced
 rw [HE (by simp only [H',Iz];lia)]
 have:(k== -1)=false:=by simpa using (by lia:k≠ -1)
 rw [this]
 exact q
noncomputable def HL (H:Ho) (L:List Ib):Ho:=⟨H.objs ++ L.toArray,H.life⟩
theorem CQ (H:Ho):HL H []=H:=by unfold HL;simp
theorem sm (H:Ho)(L:List Ib):(HL H L).objs.size=H.objs.size+L.length:=by simp [HL]
theorem jf {H:Ho}{L:List Ib}{i:Nat}{o:Ib}(h:L[i]? =some o)(hf:o.isFreed=false):(HL H L).get? (H.objs.size+i)=some o:=by
 have:(HL H L).objs[H.objs.size+i]? =some o:=by
  simp only [HL]
  rw [KH (by simp)]
  simpa using h
 unfold Ho.get?
 rw [this]
 obtain⟨c,d,dt,sl⟩:=o
 cases dt <;> first |rfl |(exact absurd hf (by decide)) |cases hf
theorem oV (H:Ho)(L:List Ib)(o:Ib):(HL H L).push o=HL H (L ++ [o]):=by
 show Pn _ _=Pn _ _
 congr 1
 apply Array.ext'
 simp
theorem jL (H:Ho)(L:List Ib)(i:Nat)(f:Ib->Ib):(HL H L).update (H.objs.size+i) f=HL H (L.modify i f):=by
 show Pn _ _=Pn _ _
 congr 1
 apply Array.ext_getElem?
 intro j
 rw [Array.getElem?_modify]
 by_cases hj:j < H.objs.size
 ·rw [Mr hj,Mr hj,Hz (by lia)]
 ·rw [KH (by lia),KH (by lia)]
  by_cases e:H.objs.size+i=j
  ·have q:i=j - H.objs.size:=by exact Nat.eq_sub_of_add_eq' e
   rw [HE e]
   cases L[j - H.objs.size]? <;> simp [q]
  ·have q:¬i=j - H.objs.size:=by lia
   rw [Hz e]
   cases L[j - H.objs.size]? <;> simp [q]
noncomputable def ag (es:List Hs):Ib:=⟨.type "dict",none,.dict es.toArray es.length,#[]⟩
theorem dD (es:List Hs)(e:Hs):JG (·.push e) (ag es)=ag (es ++ [e]):=by
 show Ib.mk _ _ (.dict (es.toArray.push e) (es.length+1)) _=Ib.mk _ _ (.dict (es ++ [e]).toArray (es ++ [e]).length) _
 rw [HT,List.push_toArray];rfl
theorem Go.dictEntries {s:Hh}{pos:Jm}{a:He}{part:Option y'}{es:List Hs}(ho:s.heap.get? a=some (ag es)):Go p w n₀ ann 1 s pos (dictEntries a part) es.toArray s pos:=
 (Go.bind (Go.load ho) (f:=λo=>match o.data with | .dict es _=>Jn es |_=>unsupported "internal:not-a-dict") Go.pure')
theorem Go.dictEpoch {s:Hh}{pos:Jm}{a:He}{part:Option y'}{es:List Hs}(ho:s.heap.get? a=some (ag es)):Go p w n₀ ann 1 s pos (dictEpoch a part) es.length s pos:=
 (Go.bind (Go.load ho) (f:=λo=>match o.data with | .dict _ n=>Jn n |_=>unsupported "internal:not-a-dict") Go.pure')
theorem Go.updateDictKeys {s:Hh}{pos:Jm}{a:He}{part:Option y'}{es:List Hs}{e:Hs}(ho:s.heap.get? a=some (ag es))(ha:(La n₀ a || a==mainNs)=true)(hz:es.length < sizeLine):
 Go p w n₀ ann 3 s pos (updateDictKeys a (·.push e) part) () {s with heap:=s.heap.update a (JG (·.push e))} pos:=by
 unfold PySem.updateDictKeys
 refine(Go.bind (c₂:=2) (Go.load ho) ?_)
 show Go p w n₀ ann 2 s pos (updatePart a part (JG (·.push e)) >>=λ_=>Oy a part) _ _ _
 refine Go.bind (c₂:=1) (Go.update ho ha) ?_
 unfold Oy
 have hg:(s.heap.update a (JG (·.push e))).get? a=some (ag (es ++ [e])):=by
  rw [<-dD]
  exact JO _ ho (by rw [dD];rfl)
 refine Go.bind (c₂:=0) (Go.load hg) ?_
 have:(ag (es ++ [e])).data.pastItsLine=none:=by
  unfold ag Data.pastItsLine
  simp only
  rw [Hz (by simp;lia)]
 rw [this]
 exact Go.pure'
theorem qW {es:List Hs}{h:Int}(hn:∀e∈es,e.hash≠h):placesWithHash es.toArray.size (λi=>es.toArray[i]?.map (·.hash)) h=[]:=by
 simp only [placesWithHash]
 rw [Ks]
 intro i hi
 rw [List.getElem?_toArray,beq_iff_eq]
 cases q:es[i]? with
 |none=>simp
 |some e=>simpa using hn e (HX q)
theorem Go.jn {s:Hh}{pos:Jm}{a:He}{es:List Hs}{k:Int}{t:Tok}(ho:s.heap.get? a=some (ag es))(hn:∀e∈es,e.hash≠k):
 Go p w n₀ ann 1 s pos (dictFind a (.int k t) k) none s pos:=by
 refine Go.holding (Go.bind (c₂:=0) (Go.dictEntries ho) ?_)
 refine(qW hn)▸?_
 exact Go.pure'
theorem Go.jv {s:Hh}{pos:Jm}{a:He}{es:List Hs}{k:Int}{t:Tok}{v:y'}(ho:s.heap.get? a=some (ag es))(hn:∀e∈es,e.hash≠k)(ha:(La n₀ a || a==mainNs)=true)(hz:es.length < sizeLine):
 Go p w n₀ ann 5 s pos (dictSetHashed a (.int k t) k v) () {s with heap:=s.heap.update a (JG (·.push ⟨k,.int k t,v⟩))} pos:=by
 refine Go.holding (Go.bind (c₂:=4) (Go.jn ho hn) ?_)
 exact Go.bind (c₂:=3) Go.rule (Go.updateDictKeys ho ha hz)
theorem Go.pB {s:Hh}{pos:Jm}{a:He}{es:List Hs}{k:Int}{t:Tok}{v:y'}(ho:s.heap.get? a=some (ag es))(hn:∀e∈es,e.hash≠k)(ha:(La n₀ a || a==mainNs)=true)(hz:es.length < sizeLine):
 Go p w n₀ ann 4 s pos (dictPut a k (.int k t) v) () {s with heap:=s.heap.update a (JG (·.push ⟨k,.int k t,v⟩))} pos:=by
 exact Go.bind (c₂:=3) (Go.jn ho hn) (Go.updateDictKeys ho ha hz)
theorem Go.kE {b:Bool}{s:Hh}{pos:Jm}{a:He}{es:List Hs}{k:Int}{t:Tok}{v:y'}(ho:s.heap.get? a=some (ag es))(hn:∀e∈es,e.hash≠k)(ha:(La n₀ a || a==mainNs)=true)(hz:es.length < sizeLine)(h0:0<=k)(h1:k < 2 ^ 60):
 Go p (w.withFollow "special-get-raises" b) n₀ ann 10 s pos (dictSet a (.int k t) v) () {s with heap:=s.heap.update a (JG (·.push ⟨k,.int k t,v⟩)),toks:=s.toks+1} pos:=by
 exact Go.holding (Go.bind (c₂:=5) (Go.pyHash h0 h1) (Go.jv (s:={s with toks:=s.toks+1}) ho hn ha hz))
noncomputable abbrev KV:=Int×Str
noncomputable def ents (t st:Nat):List KV->List Hs
 |[]=>[]
 |(i,x)::r=>⟨i,.int i t,.str x (t+1)⟩::ents (t+st) st r
theorem eI (t st:Nat):ents t st []=([]):=rfl
theorem eH (t st:Nat) {i x r}:ents t st ((i,x)::r)=(⟨i,.int i t,.str x (t+1)⟩::ents (t+st) st r):=rfl
theorem fm (t st:Nat):∀l,(ents t st l).length=l.length
 |[]=>rfl
 |(_,_)::r=>by simp [eI,eH,fm (t+st) st r]
theorem vB {st:Nat}{e:Hs}(l:List KV):∀{t:Nat},e∈ents t st l->e.hash∈l.map (·.1):=by
 induction l with
 |nil=>intro t h;cases h
 |cons a r ih=>
  intro t h
  rcases Hc.mp h with rfl |h
  ·exact f'
  ·exact j' _ (ih h)
noncomputable def ue (k:KV):Jj y':=mkInt k.1
noncomputable def uJ (pos:Jm) (k:KV):Jj y':=do let x <-mkText k.2;standAt pos;pure x
theorem Go.ue {s:Hh}{pos:Jm}{k:KV}:Go p w n₀ ann 1 s pos (ue k) (.int k.1 s.toks) {s with toks:=s.toks+1} pos:=Go.bind (c₂:=0) Go.fresh Go.pure'
theorem Go.uJ {s:Hh}{pos pos':Jm}{k:KV}:Go p w n₀ ann 2 s pos (uJ pos' k) (.str k.2 s.toks) {s with toks:=s.toks+1} pos':=
 Go.bind (c₂:=1) (c₁:=1) (Go.bind (c₂:=0) Go.fresh Go.pure') (Go.bind (c₂:=0) Go.standAt Go.pure')
noncomputable abbrev gH (vp:KV->Jm) (k:KV):Jj y'×Jj y':=(ue k,uJ (vp k) k)
noncomputable abbrev SS (s:Hh) (L:List Ib) (t:Nat):Hh:={s with heap:=HL s.heap L,toks:=t}
theorem kq (L:List Ib)(o:Ib)(f:Ib->Ib):(L ++ [o]).modify L.length f=L ++ [f o]:=by
 induction L with
 |nil=>rfl
 |cons x L ih=>simpa using ih
theorem qe (L:List Ib)(o:Ib):(L ++ [o])[L.length]? =some o:=by simp
structure eA (n:Nat)(es:List Hs)(ps:List KV):Prop where
 apart:∀e∈es,∀k∈ps,e.hash≠k.1
 pw:(ps.map (·.1)).Pairwise (· < ·)
 lo:∀k∈ps,0<=k.1
 hi:∀k∈ps,k.1 < 2 ^ 60
 size:es.length+ps.length < n
theorem eA.tail {n:Nat}{es:List Hs}{k:KV}{ps:List KV}(h:eA n es (k::ps))(e:Hs)(he:e.hash=k.1):eA n (es ++ [e]) ps where
 apart e' R0 k' Rx:=by
  rcases HP.mp R0 with q |q
  ·exact h.apart e' q k' (j' _ Rx)
  ·have:e'=e:=by simpa using q
   refine this▸?_
   have:=(Ih.mp h.pw).1 k'.1 (Mb Rx)
   lia
 pw:=(Ih.mp h.pw).2
 lo k' Rx:=h.lo k' (j' _ Rx)
 hi k' Rx:=h.hi k' (j' _ Rx)
 size:=by have:=h.size;simp only [HK,HT,Ir] at this ⊢;lia
theorem eA.head {n:Nat}{es:List Hs}{k:KV}{ps:List KV}(h:eA n es (k::ps)):(∀e∈es,e.hash≠k.1)/\0<=k.1/\k.1 < 2 ^ 60/\es.length < n:=
 ⟨λe he=>h.apart e he k f',h.lo k f',h.hi k f',by have:=h.size;exact Lr this⟩
theorem Go.wD {b:Bool}{vp:KV->Jm}{s₀:Hh}(hn:n₀<=s₀.heap.objs.size)(L:List Ib)(f:Jj y'×Jj y'->PUnit->Jj (ForInStep PUnit))
 (hf:∀k v u,f (k,v) u=(do let kv <-k;let vv <-J' [kv] v;J' [kv,vv] (dictSet (s₀.heap.objs.size+L.length) kv vv);Jn (Ic ⟨⟩))):
 ∀(ps:List KV) (es:List Hs) (t:Nat) (pos:Jm),eA sizeLine es ps->
  ∃pos',Go p (w.withFollow "special-get-raises" b) n₀ ann (13*ps.length) (SS s₀ (L ++ [ag es]) t) pos (forIn (ps.map (gH vp)) Jd f) Jd (SS s₀ (L ++ [ag (es ++ ents t 3 ps)]) (t+3*ps.length)) pos':=by
 intro q0
 induction q0 with
 |nil=>
  intro es t pos _
  exact⟨pos,by
   simp only [IU,Lu,Ir,Oc,eI,eH,Jc,Po]
   exact Go.pure'⟩
 |cons k ps ih=>
  intro es t pos h
  obtain⟨pos',ih⟩:=ih (es ++ [⟨k.1,.int k.1 t,.str k.2 (t+1)⟩]) (t+3) (vp k) (h.tail _ rfl)
  refine⟨pos',?_⟩
  rw [Hw,JF]
  rw [hf]
  have e1:es ++ ents t 3 (k::ps)=es ++ [⟨k.1,.int k.1 t,.str k.2 (t+1)⟩] ++ ents (t+3) 3 ps:=by
   obtain⟨i,x⟩:=k
   simp [eI,eH]
  simp only [e1,(by simp only [HK,Nat.mul_add];lia:t+3*(k::ps).length=t+3+3*ps.length)]
  refine Go.mono (Go.bind (Go.bind (c₁:=1) (c₂:=12) Go.ue (Go.bind (c₁:=2) (c₂:=10) (Go.holding Go.uJ) (Go.bind (a:=()) (c₁:=10) (c₂:=0) (Go.holding ?_) Go.pure'))) ih) (by simp_all;exact Hk _)
  have:=Go.kE (p:=p) (w:=w) (n₀:=n₀) (ann:=ann) (b:=b) (s:=SS s₀ (L ++ [ag es]) (t+2)) (pos:=vp k) (a:=s₀.heap.objs.size+L.length) (es:=es) (k:=k.1) (t:=t) (v:= .str k.2 (t+1))
   (jf (qe L _) rfl) h.head.1 (by simp [Hf hn (H6 _ _)]) h.head.2.2.2 h.head.2.1 h.head.2.2.1
  simp only [show (SS s₀ (L ++ [ag es]) (t+2)).heap=HL s₀.heap (L ++ [ag es]) from rfl,jL,kq,dD] at this
  exact this
theorem Go.jw {b:Bool}{vp:KV->Jm}{s₀:Hh}(hn:n₀<=s₀.heap.objs.size)(L:List Ib){ps:List KV}{t:Nat}{pos:Jm}(hl:¬ps.length<=15)(h:eA sizeLine [] ps):
 ∃pos',Go p (w.withFollow "special-get-raises" b) n₀ ann (13*ps.length+2) (SS s₀ L t) pos (subDict (ps.map (gH vp))) (s₀.heap.objs.size+L.length) (SS s₀ (L ++ [ag (ents t 3 ps)]) (t+3*ps.length)) pos':=by
 obtain⟨pos',ih⟩:=Go.wD (p:=p) (w:=w) (n₀:=n₀) (ann:=ann) (b:=b) (vp:=vp) hn L (λx (_:PUnit)=>(do let kv <-x.1;let vv <-J' [kv] x.2;J' [kv,vv] (dictSet (s₀.heap.objs.size+L.length) kv vv);Jn (Ic ⟨⟩))) (λ_ _ _=>rfl) ps [] t pos h
 refine⟨pos',?_⟩
 have ha:=Go.alloc (p:=p) (w:=w.withFollow "special-get-raises" b) (n₀:=n₀) (ann:=ann) (s:=SS s₀ L t) (pos:=pos) (o:={cls:= .type "dict",data:= .dict #[]})
 simp only [show (SS s₀ L t).heap.objs.size=s₀.heap.objs.size+L.length from sm _ _,show (SS s₀ L t).heap=HL s₀.heap L from rfl,oV] at ha
 refine Go.mono (c:=0+(13*ps.length+1)+1) (Go.bind (c₂:=0+(13*ps.length+1)) (c₁:=1) ha (Go.bind (a:=()) (c₁:=13*ps.length+1) (c₂:=0) (Go.holding (c:=13*ps.length+1) ?_) Go.pure')) (by simp)
 rw [Hz (by simpa using hl)]
 exact Go.bind (c₁:=1) (c₂:=0+13*ps.length) Go.rule (Go.bind (c₁:=13*ps.length) (c₂:=0) ih Go.pure') |>.mono (by simp)
noncomputable def g9:Nat->List KV->List (y'×y')
 |_,[]=>[]
 |t,(i,x)::r=>(.int i t,.str x (t+1))::g9 (t+2) r
theorem t8 {v1}:g9 v1 []=([]):=rfl
theorem uI {t i x r}:g9 t ((i,x)::r)=((.int i t,.str x (t+1))::g9 (t+2) r):=rfl
theorem Go.evalPairs {vp:KV->Jm}{s₀:Hh}(L:List Ib):∀(ps:List KV)(t:Nat)(pos:Jm),
 ∃pos',Go p w n₀ ann (3*ps.length) (SS s₀ L t) pos (evalPairs (ps.map (gH vp))) (g9 t ps) (SS s₀ L (t+2*ps.length)) pos'
 |[],t,pos=>⟨pos,Go.pure'⟩
 |k::ps,t,pos=>by
  obtain⟨pos',ih⟩:=Go.evalPairs (vp:=vp) (s₀:=s₀) L ps (t+2) (vp k)
  refine⟨pos',?_⟩
  rw [show t+2*(k::ps).length=t+2+2*ps.length by rw [HK];lia]
  rw [Hw]
  unfold PySem.evalPairs
  refine Go.mono (c:=0+3*ps.length+2+1) (Go.bind (c₁:=1) (c₂:=0+3*ps.length+2) Go.ue (Go.bind (c₁:=2) (c₂:=0+3*ps.length) (Go.holding Go.uJ) (Go.bind (c₁:=3*ps.length) (c₂:=0) (Go.holding ih) Go.pure'))) (by rw [HK];lia)
theorem Go.nG {b:Bool}{s₀:Hh}(hn:n₀<=s₀.heap.objs.size)(L:List Ib)(f:y'×y'->PUnit->Jj (ForInStep PUnit))
 (hf:∀x u,f x u=(dictSet (s₀.heap.objs.size+L.length) x.1 x.2 >>=λ_=>Jn (Ic ⟨⟩))):
 ∀(ps:List KV) (es:List Hs) (t t':Nat) (pos:Jm),eA sizeLine es ps->
  Go p (w.withFollow "special-get-raises" b) n₀ ann (10*ps.length) (SS s₀ (L ++ [ag es]) t') pos (forIn (g9 t ps) Jd f) Jd (SS s₀ (L ++ [ag (es ++ ents t 2 ps)]) (t'+ps.length)) pos
 |[],es,t,t',pos,_=>by
  simp only [t8,uI,Lu,Ir,Oc,eI,eH,Jc,Po]
  exact Go.pure'
 |k::ps,es,t,t',pos,h=>by
  obtain⟨i,x⟩:=k
  have ih:=Go.nG (b:=b) hn L f hf ps (es ++ [⟨i,.int i t,.str x (t+1)⟩]) (t+2) (t'+1) pos (h.tail _ rfl)
  simp only [show g9 t ((i,x)::ps)=(.int i t,.str x (t+1))::g9 (t+2) ps from rfl,JF,hf]
  rw [(by simp [eI,eH]:es ++ ents t 2 ((i,x)::ps)=es ++ [⟨i,.int i t,.str x (t+1)⟩] ++ ents (t+2) 2 ps),show t'+((i,x)::ps).length=t'+1+ps.length by simp_all;exact Eq.symm (MK t' ps.length)]
  have:=Go.kE (p:=p) (w:=w) (n₀:=n₀) (ann:=ann) (b:=b) (s:=SS s₀ (L ++ [ag es]) t') (pos:=pos) (a:=s₀.heap.objs.size+L.length) (es:=es) (k:=i) (t:=t) (v:= .str x (t+1))
   (jf (qe L _) rfl) h.head.1 (by simp [Hf hn (H6 _ _)]) h.head.2.2.2 h.head.2.1 h.head.2.2.1
  simp only [show (SS s₀ (L ++ [ag es]) t').heap=HL s₀.heap (L ++ [ag es]) from rfl,jL,kq,dD] at this
  exact Go.mono (Go.bind (c₁:=0+10) (c₂:=10*ps.length) (Go.bind (a:=()) (c₁:=10) (c₂:=0) this Go.pure') ih) (by simp only [HK];exact Hk _)
theorem Go.mO {b:Bool}{vp:KV->Jm}{s₀:Hh}(hn:n₀<=s₀.heap.objs.size)(L:List Ib){ps:List KV}{t:Nat}{pos:Jm}(hl:ps.length<=15)(h:eA sizeLine [] ps):
 ∃pos',Go p (w.withFollow "special-get-raises" b) n₀ ann (13*ps.length+2) (SS s₀ L t) pos (subDict (ps.map (gH vp))) (s₀.heap.objs.size+L.length) (SS s₀ (L ++ [ag (ents t 2 ps)]) (t+3*ps.length)) pos':=by
 refine cA (Go.evalPairs (p:=p) (w:=w.withFollow "special-get-raises" b) (n₀:=n₀) (ann:=ann) (vp:=vp) (s₀:=s₀) (L ++ [ag []]) ps t pos) λpos' ev=> ?_
 refine⟨pos',?_⟩
 have ha:=Go.alloc (p:=p) (w:=w.withFollow "special-get-raises" b) (n₀:=n₀) (ann:=ann) (s:=SS s₀ L t) (pos:=pos) (o:={cls:= .type "dict",data:= .dict #[]})
 simp only [show (SS s₀ L t).heap.objs.size=s₀.heap.objs.size+L.length from sm _ _,show (SS s₀ L t).heap=HL s₀.heap L from rfl,oV] at ha
 simp only [show t+3*ps.length=t+2*ps.length+ps.length by lia]
 refine Go.mono (c:=0+(0+10*ps.length+3*ps.length)+1) (Go.bind (c₂:=0+(0+10*ps.length+3*ps.length)) (c₁:=1) ha (Go.bind (a:=()) (c₁:=0+10*ps.length+3*ps.length) (c₂:=0) (Go.holding (c:=0+10*ps.length+3*ps.length) ?_) Go.pure')) (by lia)
 rw [HE (by simpa using hl)]
 exact Go.bind (c₁:=3*ps.length) (c₂:=0+10*ps.length) ev (Go.holding (Go.bind (c₁:=10*ps.length) (c₂:=0) (Go.nG (p:=p) (w:=w) (n₀:=n₀) (ann:=ann) (b:=b) hn L (λx (_:PUnit)=>(dictSet (s₀.heap.objs.size+L.length) x.1 x.2 >>=λ_=>Jn (Ic ⟨⟩))) (λ_ _=>rfl) ps [] t (t+2*ps.length) pos' h) Go.pure'))
theorem fA (x y:Ib)(Ls:List Ib):(x::(Ls ++ [y]))[Ls.length+1]? =some y:=by simp
theorem Go.u0 {s₀:Hh}(hn:n₀<=s₀.heap.objs.size)(Ls:List Ib)(ss:List Hs)(f:Nat->PUnit->Jj (ForInStep PUnit))
 (hf:∀i u,f i u=(do
  let Q1 <-MB (s₀.heap.objs.size+(Ls.length+1))
  match Q1[i]? with
  |some e=>do
   J' [e.key,e.val] (dictPut (s₀.heap.objs.size+0) e.hash e.key e.val)
   let ep <-Np (s₀.heap.objs.size+(Ls.length+1))
   if(ep !=ss.length)=true then do
    unsupported "dict.changed-during-merge"
    Jn (Ic Jd)
   else Jn (Ic Jd)
  |_=>do
   unsupported "dict.changed-during-merge"
   Jn (Ic Jd))) (st:Nat):
 ∀(ps:List KV) (pre es:List Hs) (t t':Nat) (pos:Jm),ss=pre ++ ents t st ps->eA sizeLine es ps->
  Go p w n₀ ann (6*ps.length) (SS s₀ (ag es::(Ls ++ [ag ss])) t') pos (forIn (PK pre.length ps.length) Jd f) Jd (SS s₀ (ag (es ++ ents t st ps)::(Ls ++ [ag ss])) t') pos:=by
 intro q0
 induction q0 with
 |nil=>
  intro pre es t t' pos _ _
  simp only [Ir,List.range'_zero,Lu,Oc,eI,eH,Jc]
  exact Go.pure'
 |cons k ps ih=>
  intro pre es t t' pos hs h
  obtain⟨i,x⟩:=k
  have ih:=ih (pre ++ [⟨i,.int i t,.str x (t+1)⟩]) (es ++ [⟨i,.int i t,.str x (t+1)⟩]) (t+st) t' pos (by simp only [hs,eI,eH];simp) (h.tail _ rfl)
  simp only [HK,List.range'_succ,JF,hf]
  simp only [HT,Nv] at ih
  refine((by simp [eI,eH]:es ++ ents t st ((i,x)::ps)=es ++ [⟨i,.int i t,.str x (t+1)⟩] ++ ents (t+st) st ps))▸?_
  have put:=Go.pB (p:=p) (w:=w) (n₀:=n₀) (ann:=ann) (s:=SS s₀ (ag es::(Ls ++ [ag ss])) t') (pos:=pos) (a:=s₀.heap.objs.size+0) (es:=es) (k:=i) (t:=t) (v:= .str x (t+1))
   (jf rfl rfl) h.head.1 (by simp [hn]) h.head.2.2.2
  simp only [show (SS s₀ (ag es::(Ls ++ [ag ss])) t').heap=HL s₀.heap (ag es::(Ls ++ [ag ss])) from rfl,jL] at put
  rw [show (ag es::(Ls ++ [ag ss])).modify 0 (JG (·.push ⟨i,.int i t,.str x (t+1)⟩))=ag (es ++ [⟨i,.int i t,.str x (t+1)⟩])::(Ls ++ [ag ss]) from by
   rw [<-dD];rfl] at put
  have one:Go p w n₀ ann 6 (SS s₀ (ag es::(Ls ++ [ag ss])) t') pos (do
   let Q1 <-MB (s₀.heap.objs.size+(Ls.length+1))
   match Q1[pre.length]? with
   |some e=>do
    J' [e.key,e.val] (dictPut (s₀.heap.objs.size+0) e.hash e.key e.val)
    let ep <-Np (s₀.heap.objs.size+(Ls.length+1))
    if(ep !=ss.length)=true then do
     unsupported "dict.changed-during-merge"
     Jn (Ic Jd)
    else Jn (Ic Jd)
   |_=>do
    unsupported "dict.changed-during-merge"
    Jn (Ic Jd)) (Ic Jd) (SS s₀ (ag (es ++ [⟨i,.int i t,.str x (t+1)⟩])::(Ls ++ [ag ss])) t') pos:=by
   refine Go.bind (c₁:=1) (c₂:=0+1+4) (Go.dictEntries (jf (fA _ _ _) rfl)) ?_
   rw [(by simp only [hs,eI,eH];simp:ss.toArray[pre.length]? =some ⟨i,.int i t,.str x (t+1)⟩)]
   refine Go.bind (a:=()) (c₁:=4) (Go.holding put) (Go.bind (c₁:=1) (c₂:=0) (Go.dictEpoch (jf (fA _ _ _) rfl)) ?_)
   rw [Hz (by simp)]
   exact Go.pure'
  exact Go.mono (Go.bind one ih) (by exact Hk _)
theorem Go.kL {s:Hh}{pos:Jm}{a:He}{es:List Hs}(ho:s.heap.get? a=some (ag es)):Go p w n₀ ann 1 s pos (isInstance (.ref a) (.type "dict")) true s pos:=by
 refine Go.bind (c₁:=1) (c₂:=0) (a:= .type "dict") (Go.bind (c₁:=1) (c₂:=0) (Go.load ho) Go.pure') ?_
 refine isSubtype_dict_dict▸?_
 exact Go.pure'
theorem Go.uD {s:Hh}{pos:Jm}{a:He}{es:List Hs}(ho:s.heap.get? a=some (ag es)):Go p w n₀ ann 1 s pos (specialOf (.ref a) "__iter__") (some (.builtin "dict.__iter__")) s pos:=by
 refine Go.bind (c₁:=1) (c₂:=0) (a:= .type "dict") (Go.bind (c₁:=1) (c₂:=0) (Go.load ho) Go.pure') ?_
 refine PySem.F.slot_dict_iter.lookup▸?_
 exact Go.pure'
theorem Go.merge {s₀:Hh}(hn:n₀<=s₀.heap.objs.size)(QW:Js < s₀.heap.objs.size)(Ls:List Ib)(st:Nat){ps:List KV}{es:List Hs}{t t':Nat}{pos:Jm}(Qh:es≠[])(h:eA sizeLine es ps):
 Go p w n₀ ann (6*ps.length+5) (SS s₀ (ag es::(Ls ++ [ag (ents t st ps)])) t') pos (mergeMapping (s₀.heap.objs.size+0) (.ref (s₀.heap.objs.size+(Ls.length+1))) false) () (SS s₀ (ag (es ++ ents t st ps)::(Ls ++ [ag (ents t st ps)])) t') pos:=by
 have ge:(SS s₀ (ag es::(Ls ++ [ag (ents t st ps)])) t').heap.get? (s₀.heap.objs.size+(Ls.length+1))=some (ag (ents t st ps)):=jf (fA _ _ _) rfl
 have loop:=Go.u0 (p:=p) (w:=w) (ann:=ann) (s₀:=s₀) hn Ls (ents t st ps) (λi (_:PUnit)=>(do
  let Q1 <-MB (s₀.heap.objs.size+(Ls.length+1))
  match Q1[i]? with
  |some e=>do
   J' [e.key,e.val] (dictPut (s₀.heap.objs.size+0) e.hash e.key e.val)
   let ep <-Np (s₀.heap.objs.size+(Ls.length+1))
   if(ep !=(ents t st ps).length)=true then do
    unsupported "dict.changed-during-merge"
    Jn (Ic Jd)
   else Jn (Ic Jd)
  |_=>do
   unsupported "dict.changed-during-merge"
   Jn (Ic Jd))) (λ_ _=>rfl) st ps [] es t t' pos rfl h
 refine Go.mono (c:=6*ps.length+1+1+1+1+1) (Go.bind (c₁:=1) (Go.kL ge) ?_) (by exact Hk _)
 refine Go.bind (c₁:=1) (Go.uD ge) ?_
 refine Go.bind (c₁:=0) (a:=true) Go.pure' ?_
 dsimp only
 rw [Hz (by intro q;lia)]
 refine Go.bind (c₁:=1) (Go.dictEntries (jf rfl rfl)) ?_
 rw [Hz (by simpa using Qh)]
 refine Go.bind (c₁:=1) (Go.dictEntries ge) ?_
 refine Go.bind (c₁:=1) (Go.dictEpoch ge) ?_
 refine((by simp only [IM,fm,List.range_eq_range']:Hg (ents t st ps).toArray.size=PK 0 ps.length))▸?_
 exact(Go.bind (f:=λ_=>(Jn ():Jj Unit)) (c₂:=0) loop Go.pure').mono (by simp)
noncomputable abbrev b9 (vp:KV->Jm) (k:KV):Option (Jj y')×Jj y':=(some (ue k),uJ (vp k) k)
noncomputable def gC (run:List (Jj y'×Jj y')) (main:Option He):Jj (Option He):=
 if run.isEmpty=true then pure main
 else
  match main with
  |none=>do
   let d <-subDict run
   pure (some d)
  |some d=>do
   let sub <-holding [Ju d] (subDict run)
   (holding [Ju d,Ju sub] (mergeMapping d (Ju sub) false)).onRaise λx=>do
    let _ <-holding [Ju d,x] (runValue (Code.builtin "proto.let_go" {}))
    pure ()
   pure (some d)
noncomputable def eC:List (List KV)->List Hs->List Ib->Nat->List Hs×List Ib×Nat
 |[],es,Ls,t=>(es,Ls,t)
 |g::gs,es,Ls,t=>eC gs (es ++ ents t 3 g) (Ls ++ [ag (ents t 3 g)]) (t+3*g.length)
theorem kZ {es Ls t}:eC [] es Ls t=((es,Ls,t)):=rfl
theorem kX {g gs es Ls t}:eC (g::gs) es Ls t=(eC gs (es ++ ents t 3 g) (Ls ++ [ag (ents t 3 g)]) (t+3*g.length)):=rfl
theorem Go.ri {b:Bool}{vp:KV->Jm}{s₀:Hh}(hn:n₀<=s₀.heap.objs.size)(QW:Js < s₀.heap.objs.size)(Ls:List Ib){ps:List KV}{es:List Hs}{t:Nat}{pos:Jm}(hl:¬ps.length<=15)(Qh:es≠[])(h:eA sizeLine es ps):
 ∃pos',Go p (w.withFollow "special-get-raises" b) n₀ ann (19*ps.length+7) (SS s₀ (ag es::Ls) t) pos (gC (ps.map (gH vp)) (some (s₀.heap.objs.size+0))) (some (s₀.heap.objs.size+0))
  (SS s₀ (ag (es ++ ents t 3 ps)::(Ls ++ [ag (ents t 3 ps)])) (t+3*ps.length)) pos':=by
 obtain⟨pos',sub⟩:=Go.jw (p:=p) (w:=w) (ann:=ann) (b:=b) (vp:=vp) hn (ag es::Ls) (t:=t) (pos:=pos) hl (⟨λ_ q=>(nomatch q),h.pw,h.lo,h.hi,by have:=h.size;simp only [Ir];lia⟩)
 refine⟨pos',?_⟩
 unfold gC
 rw [Hz (by cases ps with |nil=>simp at hl |cons=>simp)]
 refine Go.mono (c:=0+(6*ps.length+5)+(13*ps.length+2)) (Go.bind (Go.holding sub) ?_) (by lia)
 exact Go.bind (a:=()) (Go.onRaise (Go.holding (Go.merge (p:=p) (w:=w.withFollow "special-get-raises" b) (ann:=ann) (pos:=pos') hn QW Ls 3 (t:=t) (t':=t+3*ps.length) Qh h))) Go.pure'
theorem Go.qo {b:Bool}{vp:KV->Jm}{s₀:Hh}(hn:n₀<=s₀.heap.objs.size)(QW:Js < s₀.heap.objs.size)(Ls:List Ib){ps:List KV}{es:List Hs}{t:Nat}{pos:Jm}(hl:ps.length<=15)(hp:ps≠[])(Qh:es≠[])(h:eA sizeLine es ps):
 ∃pos',Go p (w.withFollow "special-get-raises" b) n₀ ann (19*ps.length+7) (SS s₀ (ag es::Ls) t) pos (gC (ps.map (gH vp)) (some (s₀.heap.objs.size+0))) (some (s₀.heap.objs.size+0))
  (SS s₀ (ag (es ++ ents t 2 ps)::(Ls ++ [ag (ents t 2 ps)])) (t+3*ps.length)) pos':=by
 obtain⟨pos',sub⟩:=Go.mO (p:=p) (w:=w) (ann:=ann) (b:=b) (vp:=vp) hn (ag es::Ls) (t:=t) (pos:=pos) hl (⟨λ_ q=>(nomatch q),h.pw,h.lo,h.hi,by have:=h.size;simp only [Ir];lia⟩)
 refine⟨pos',?_⟩
 unfold gC
 rw [Hz (by cases ps with |nil=>exact absurd rfl hp |cons=>simp)]
 refine Go.mono (c:=0+(6*ps.length+5)+(13*ps.length+2)) (Go.bind (Go.holding sub) ?_) (by lia)
 exact Go.bind (a:=()) (Go.onRaise (Go.holding (Go.merge (p:=p) (w:=w.withFollow "special-get-raises" b) (ann:=ann) (pos:=pos') hn QW Ls 2 (t:=t) (t':=t+3*ps.length) Qh h))) Go.pure'
noncomputable abbrev MR:=Option He×List (Jj y'×Jj y')
structure Body (f:Option (Jj y')×Jj y'->MR->Jj (ForInStep MR)):Prop where
 eq:∀k v main run,f (some k,v) (main,run)=(if((run ++ [(k,v)]).length==17)=true then(do let main <-gC (run ++ [(k,v)]) main;pure (Ic (main,[]))) else pure (Ic (main,run ++ [(k,v)])))
theorem sS {f:Option (Jj y')×Jj y'->MR->Jj (ForInStep MR)}(B:Body f)(vp:KV->Jm)(main:Option He):∀(g:List KV)(run:List (Jj y'×Jj y'))(rest:List (Option (Jj y')×Jj y')),run.length+g.length < 17->
 forIn (g.map (b9 vp) ++ rest) (main,run) f=forIn rest (main,run ++ g.map (gH vp)) f:=by
 intro q0
 induction q0 with
 |nil=>
  intro run rest _
  simp
 |cons k g ih=>
  intro run rest h
  rw [Hw,Oz,JF,B.eq,Hz (by simp only [HT,HK,Ir,beq_iff_eq] at h ⊢;lia)]
  show (forIn (g.map (b9 vp) ++ rest) (main,run ++ [gH vp k]) f)=_
  rw [(ih (run ++ [gH vp k]) rest (by simp only [HT,HK,Ir] at h ⊢;lia))]
  simp
theorem nq {f:Option (Jj y')×Jj y'->MR->Jj (ForInStep MR)}(B:Body f)(vp:KV->Jm)(main:Option He){g:List KV}(hg:g.length=17)(rest:List (Option (Jj y')×Jj y')):
 forIn (g.map (b9 vp) ++ rest) (main,[]) f=(gC (g.map (gH vp)) main >>=λm=>forIn rest (m,[]) f):=by
 obtain⟨init,k,rfl⟩:∃init k,g=init ++ [k]:=by
  refine⟨g.dropLast,g.getLast (by intro e;rw [e] at hg;simp at hg),(List.dropLast_concat_getLast _).symm⟩
 have hi:init.length=16:=by simp at hg;lia
 rw [HC,IP,sS B vp main init [] _ (by rw [hi];decide)]
 rw [Lg,Hw,IU,List.singleton_append,JF,B.eq,HE (by simp [hi])]
 rw [Mq]
 simp only [HC,Hw,IU]
 rfl
structure Bn (gs:List (List KV))(last:List KV)(es:List Hs):Prop where
 len:∀g∈gs,g.length=17
 T5:eA sizeLine es (gs.flatten ++ last)
theorem eA.left {n:Nat}{es:List Hs}{a b:List KV}(h:eA n es (a ++ b)):eA n es a where
 apart e he k hk:=h.apart e he k (HW _ hk)
 pw:=by have:=h.pw;rw [HC] at this;exact(I3.mp this).1
 lo k hk:=h.lo k (HW _ hk)
 hi k hk:=h.hi k (HW _ hk)
 size:=by have:=h.size;rw [HT] at this;lia
theorem eA.right {n:Nat}{es:List Hs}{a b:List KV}(h:eA n es (a ++ b))(t st:Nat):eA n (es ++ ents t st a) b where
 apart e he k hk:=by
  rcases HP.mp he with q |q
  ·exact h.apart e q k (Ig _ hk)
  ·have h1:=vB _ q
   have:=h.pw
   rw [HC] at this
   have:=(I3.mp this).2.2 _ h1 _ (Mb hk)
   exact Nf this
 pw:=by have:=h.pw;rw [HC] at this;exact(I3.mp this).2.1
 lo k hk:=h.lo k (Ig _ hk)
 hi k hk:=h.hi k (Ig _ hk)
 size:=by have:=h.size;rw [HT] at this ⊢;rw [fm];lia
theorem Go.groups {b:Bool}{vp:KV->Jm}{s₀:Hh}(hn:n₀<=s₀.heap.objs.size)(QW:Js < s₀.heap.objs.size){f:Option (Jj y')×Jj y'->MR->Jj (ForInStep MR)}(B:Body f)(last:List KV)(hl:last.length < 17):
 ∀(gs:List (List KV)) (es:List Hs) (Ls:List Ib) (t:Nat) (pos:Jm),es≠[]->Bn gs last es->
  ∃pos',Go p (w.withFollow "special-get-raises" b) n₀ ann (330*gs.length) (SS s₀ (ag es::Ls) t) pos (forIn (gs.flatten.map (b9 vp) ++ last.map (b9 vp)) (some (s₀.heap.objs.size+0),[]) f) (some (s₀.heap.objs.size+0),last.map (gH vp))
   (SS s₀ (ag (eC gs es Ls t).1::(eC gs es Ls t).2.1) (eC gs es Ls t).2.2) pos':=by
 intro q0
 induction q0 with
 |nil=>
  intro es Ls t pos Qh h
  exact⟨pos,by
   have:=sS B vp (some (s₀.heap.objs.size+0)) last [] [] (by simpa using hl)
   simp only [Jc,Lg] at this
   simp only [List.flatten_nil,IU,Lg]
   simp only [this,Lu]
   exact Go.pure'⟩
 |cons g gs ih=>
  intro es Ls t pos Qh h
  have hg:=h.len g f'
  have hf:=h.T5
  simp only [KI,IP] at hf
  obtain⟨Qw,fl⟩:=Go.ri (p:=p) (w:=w) (ann:=ann) (b:=b) (vp:=vp) hn QW Ls (t:=t) (pos:=pos) (by simp_all:¬g.length<=15) Qh hf.left
  obtain⟨pos',ih⟩:=ih (es ++ ents t 3 g) (Ls ++ [ag (ents t 3 g)]) (t+3*g.length) Qw (by intro e;exact Qh (Ng.mp e).1)
   ⟨λg' Wi=>h.len g' (j' _ Wi),hf.right t 3⟩
  refine⟨pos',?_⟩
  simp only [KI,HC,IP,nq B vp _ hg]
  exact Go.mono (Go.bind fl ih) (by simp_all;exact Hk _)
theorem rQ:∃F,Body F/\∀items,dictDisplay items=(forIn items ((none,[]):MR) F >>=λs=>gC s.2 s.1 >>=λr=>match r with |some d=>pure (Ju d) |none=>newDict):=by
 refine⟨?F,?B,?e⟩
 case e=>
  intro items
  exact rfl
 case B=>exact⟨λ_ _ _ _=>rfl⟩
theorem Go.display {b:Bool}{vp:KV->Jm}{s₀:Hh}(hn:n₀<=s₀.heap.objs.size)(QW:Js < s₀.heap.objs.size)(g:List KV)(gs:List (List KV))(last:List KV)(hg:g.length=17)(UX:∀x∈gs,x.length=17)(hl:last.length<=15)(ZS:last≠[])(h:eA sizeLine [] (g ++ (gs.flatten ++ last)))(t:Nat)(pos:Jm):
 ∃pos',Go p (w.withFollow "special-get-raises" b) n₀ ann (330*gs.length+700) (SS s₀ [] t) pos (dictDisplay ((g ++ (gs.flatten ++ last)).map (b9 vp))) (.ref s₀.heap.objs.size)
  (SS s₀ (ag ((eC gs (ents t 3 g) [] (t+51)).1 ++ ents (eC gs (ents t 3 g) [] (t+51)).2.2 2 last)::((eC gs (ents t 3 g) [] (t+51)).2.1 ++ [ag (ents (eC gs (ents t 3 g) [] (t+51)).2.2 2 last)]))
   ((eC gs (ents t 3 g) [] (t+51)).2.2+3*last.length)) pos':=by
 refine ae rQ λF B e=> ?_
 rw [e,HC,nq B vp none hg]
 have hr:=h.right t 3
 have Qh:ents t 3 g≠[]:=by intro q;have:=fm t 3 g;rw [q,hg] at this;simp at this
 obtain⟨Qw,sub⟩:=Go.jw (p:=p) (w:=w) (ann:=ann) (b:=b) (vp:=vp) hn [] (t:=t) (pos:=pos) (by simp_all:¬g.length<=15) h.left
 obtain⟨Q8,gr⟩:=Go.groups (p:=p) (w:=w) (ann:=ann) (b:=b) (vp:=vp) hn QW B last (by lia) gs (ents t 3 g) [] (t+3*g.length) Qw Qh ⟨UX,hr⟩
 have hz:∀(gs:List (List KV)) es Ls t,(eC gs es Ls t).1=es ++ (eC gs [] Ls t).1:=by
  intro gs
  induction gs with
  |nil=>intro es Ls t;simp [kZ,kX]
  |cons x xs ih=>intro es Ls t;simp only [kZ,kX];rw [ih,ih ([] ++ _)];simp
 have SU:eA sizeLine (eC gs (ents t 3 g) [] (t+51)).1 last:=by
  have key:∀(gs:List (List KV)) (es:List Hs) (Ls:List Ib) (t:Nat),eA sizeLine es (gs.flatten ++ last)->eA sizeLine (eC gs es Ls t).1 last:=by
   intro gs
   induction gs with
   |nil=>intro es Ls t q;exact q
   |cons x xs ih=>intro es Ls t q;simp only [KI,IP] at q;exact ih _ _ _ (q.right t 3)
  exact key gs _ [] _ hr
 rw [(by rw [hg]:t+3*g.length=t+51)] at gr sub
 obtain⟨TB,fl⟩:=Go.qo (p:=p) (w:=w) (ann:=ann) (b:=b) (vp:=vp) (s₀:=s₀) hn QW (eC gs (ents t 3 g) [] (t+51)).2.1 (t:=(eC gs (ents t 3 g) [] (t+51)).2.2) (pos:=Q8) hl ZS (by rw [hz];intro q;exact Qh (Ng.mp q).1) SU
 refine⟨TB,?_⟩
 rw [Mq]
 have first:Go p (w.withFollow "special-get-raises" b) n₀ ann (13*g.length+2) (SS s₀ [] t) pos (gC (g.map (gH vp)) none) (some (s₀.heap.objs.size+0)) (SS s₀ [ag (ents t 3 g)] (t+51)) Qw:=by
  rw [gC]
  rw [Hz (by cases g with |nil=>simp at hg |cons=>simp)]
  exact Go.mono (Go.bind (c₂:=0) sub Go.pure') (by simp)
 refine HC▸?_
 refine Go.mono (c:=0+(19*last.length+7)+330*gs.length+(13*g.length+2)) (Go.bind first (Go.bind gr (Go.bind fl ?_))) (by lia)
 exact Go.pure'
noncomputable def bt (l:List I9) (i:Nat):I9:=l.getD i (.Pass default)
noncomputable def cG (l:List I9) (i:Nat):List I9:=(Dk (bt l i)).2.2.1
noncomputable def bM (l:List I9) (i:Nat):I':=(Dk (bt l i)).1
noncomputable def ay (l:List I9) (i:Nat):List I9:=(Dk (bt l i)).2.2.1
noncomputable def ai (l:List I9) (i:Nat):Scope:=(Dk (bt l i)).2.1
noncomputable def pM (s:I9):List KV:=((D4 (Dk s).2.2.2).2.2.2.1.zip (D4 (Dk s).2.2.2).2.2.2.2).map λx=>((D4 (x.1.getD x.2)).2.1,(D4 x.2).2.2.1)
noncomputable def Dc:List Int->Bool
 |a::b::r=>decide (a < b) && Dc (b::r)
 |_=>true
theorem su:∀{l:List Int},Dc l=true->l.Pairwise (· < ·)
 |[],_=> .nil
 |[a],_=>Kh ..
 |a::b::r,h=>by
  obtain⟨h1,h2⟩:=JX.mp h
  have ih:=su h2
  refine Ih.mpr ⟨λx hx=> ?_,ih⟩
  have h1:=of_decide_eq_true h1
  rcases Hc.mp hx with rfl |hx
  ·exact h1
  ·exact Int.lt_trans h1 ((Ih.mp ih).1 x hx)
noncomputable def tP (l:List KV):Bool:=Dc (l.map (·.1)) && l.all (λk=>decide (0<=k.1) && decide (k.1 < 1152921504606846976)) && decide (l.length < 1000000)
theorem Ab {l:List KV}(h:tP l=true):eA sizeLine [] l:=by
 simp only [tP,H',HM,Iz] at h
 obtain⟨⟨h1,h2⟩,h3⟩:=h
 refine⟨λ_ q=>(nomatch q),su h1,λk hk=>(h2 k hk).1,λk hk=> ?_,?_⟩
 ·have:=(h2 k hk).2;simp_all
 ·have:(1000000:Nat)<=sizeLine:=by decide
  simp_all;lia
noncomputable def lN (T:BT):Nat->List Ib->BT
 |_,[]=>T
 |n,o::L=>lN (T.ins n o) (n+1) L
noncomputable def tC (T:BT):Nat->List Ib->Bool
 |_,[]=>true
 |n,o::L=>((T.ins n o).get n).isSome && tC (T.ins n o) (n+1) L
theorem CK:∀(L:List Ib)(T:BT)(n:Nat)(life:Life),tC T n L=true->HL (absHeap T n life) L=absHeap (lN T n L) (n+L.length) life:=by
 intro q0
 induction q0 with
 |nil=>
  intro T n life _
  rfl
 |cons o L ih=>
  intro T n life h
  have ih:=ih (T.ins n o) (n+1) life (JX.mp h).2
  rw [absHeap_ins (JX.mp h).1] at ih
  simp only [HK,show n+(L.length+1)=n+1+L.length by exact Eq.symm (MK n L.length)]
  refine ih▸?_
  have e:=oV (absHeap T n life) [] o
  rw [CQ] at e
  rw [e]
  unfold HL
  simp
noncomputable def hZ (p:Kc) (w:Jx) (n₀:Nat) (ann:Option y'):Nat->JB->Thread->Option (JB×Thread)
 |0,s,t=>some (s,t)
 |n+1,s,t=>match through t with
  |true=>none
  |false=>match stepOk n₀ ann t with
   |false=>none
   |true=>match stepT (denote Im) p w s t with
    |some (J,t')=>hZ p w n₀ ann n J t'
    |none=>none
theorem uB (p:Kc)(w:Jx)(n₀:Nat)(ann:Option y') {s t}:hZ p w n₀ ann 0 s t=(some (s,t)):=rfl
theorem ny (p:Kc)(w:Jx)(n₀:Nat)(ann:Option y') {n s t}:hZ p w n₀ ann (n+1) s t=(
 match through t with
 |true=>none
 |false=>match stepOk n₀ ann t with
  |false=>none
  |true=>match stepT (denote Im) p w s t with
   |some (J,t')=>hZ p w n₀ ann n J t'
   |none=>none):=rfl
theorem iX {p:Kc}{w:Jx}{n₀:Nat}{ann:Option y'}:∀{n N:Nat}{s J:JB}{t t':Thread}{r:Hh},hZ p w n₀ ann n s t=some (J,t')->J9 Im p w n₀ ann N J.abs t'=some r->J9 Im p w n₀ ann (n+N) s.abs t=some r
 |0,N,s,J,t,t',r,h,k=>by
  obtain⟨rfl,rfl⟩:s=J/\t=t':=by simpa [uB,ny] using h
  rw [Mh];exact k
 |n+1,N,s,J,t,t',r,h,k=>by
  rw [show n+1+N=n+N+1 by exact Nat.add_right_comm n 1 N]
  simp only [ny] at h
  simp only [J9]
  cases ht:through t with
  |true=>replace h:=ht▸h;cases h
  |false=>
   replace h:=ht▸h
   cases hk:stepOk n₀ ann t with
   |false=>replace h:=hk▸h;cases h
   |true=>
    replace h:=hk▸h
    cases hs:stepT (denote Im) p w s t with
    |none=>replace h:=hs▸h;cases h
    |some q=>obtain⟨P6,ZE⟩:=q;simp only [hs] at h;simp only [stepT_spec hs];exact iX h k
noncomputable abbrev pw:=L8
noncomputable def av:List I9:=pw.main.body
noncomputable def b3:List KV:=pM (bt av 13)
noncomputable def iF:List KV:=b3.take 17
noncomputable def gn:List (List KV):=(Hg 37).map λi=>(b3.drop (17*(i+1))).take 17
noncomputable def iZ:List KV:=b3.drop 646
noncomputable def pG:List Hs×List Ib×Nat:=eC gn (ents 394 3 iF) [] (394+51)
noncomputable def eB:List Hs:=pG.1 ++ ents pG.2.2 2 iZ
noncomputable def j0:List Ib:=pG.2.1 ++ [ag (ents pG.2.2 2 iZ)]
noncomputable def de (p:HF) (x:Str) (t:Nat) (v:y'):Hs:=⟨Ki p x,.str x t,v⟩
noncomputable def fo (c:y') (n q:Str) (l:List I9) (i:Nat) (g:He) (df kd md cd:y'):Ib:=⟨c,none,.func {name:=n,qualname:=q,params:=bM l i,body:= .stmts (ay l i),scope:=ai l i,globals:=g,closure:=[],defaults:=df,kwdefaults:=kd,doc:= .none,pyModule:=md,annotations:=none,code:=cd,closureTuple:= .none,builtins:=0},#[]⟩
noncomputable def ff (c:y') (a:Array y'):Ib:=⟨c,none,.fields a,#[]⟩
noncomputable def fs (c:y') (a:Array y'):Ib:=⟨c,none,.seq a 0,#[]⟩
noncomputable def t0:Ib:=fs (.type "tuple") #[]
noncomputable def f0:Ib:=ff .none #[]
noncomputable def tr (l:List Ib):Nat->Nat->Nat->BT
 |0,_,_=> .nil
 |f+1,a,b=>match l[b]? with
  |some o=> .node o (tr l f (2*a) (a+b)) (tr l f (2*a) (2*a+b))
  |none=> .nil
noncomputable def Di (p:HF):Ib:=boot_o_0 p
noncomputable def C9 (p:HF):Ib:=⟨.none,none,.dict #[] 0,#[]⟩
noncomputable def Eb (p:HF):Ib:=⟨(.type "module"),(some 0),.plain,#[]⟩
noncomputable def L4 (p:HF):List Ib:=[boot_o_0 p,⟨(.type "dict"),none,.dict #[de p "builtins" 162 (.ref 4),de p "__main__" 163 (.ref 5)] 2,#[]⟩,C9 p,⟨(.type "dict"),none,.dict #[de p "__name__" 165 (.str "__main__" 164),de p "__doc__" 166 .none,de p "__package__" 167 .none,de p "__loader__" 168 (.builtin "__main__.__loader__#opaque"),de p "__spec__" 169 .none,de p "__annotations__" 170 (.ref 6),de p "__builtins__" 171 (.ref 4),de p "__file__" 173 (.str "/claim/cut.py" 172),de p "__cached__" 174 .none] 9,#[]⟩,Eb p,⟨(.type "module"),(some 3),.plain,#[]⟩,⟨(.type "dict"),none,.dict #[] 0,#[]⟩,t0,f0,ff (.type "code") #[(.str "<module>" 176),(.str "<module>" 177),(.str "/claim/cut.py" 178),(.int 1 0),(.int 0 0),(.int 0 0),(.int 0 0),(.int 0 0),(.ref 7),(.bool false),(.int 175 0),(.ref 8),.none,.none,.none,.none,(.int 179 0),(.int 1 0),(.str "/claim/cut.py" 180)],⟨(.type "frame"),none,.plain,#[(some (.ref 9)),(some (.ref 3)),(some (.ref 3)),none,(some (.str "__main__" 164)),none,(some (.ref 0))]⟩,t0,f0,ff (.type "code") #[(.str "<module>" 182),(.str "<module>" 183),(.str "/claim/cut.py" 184),(.int 1 0),(.int 0 0),(.int 0 0),(.int 0 0),(.int 0 0),(.ref 11),(.bool false),(.int 181 0),(.ref 12),.none,.none,.none,.none,(.int 185 0),(.int 1 0),(.str "/claim/cut.py" 186)],⟨(.type "frame"),none,.plain,#[(some (.ref 13)),(some (.ref 3)),(some (.ref 3)),none,(some (.str "__main__" 164)),none,(some (.ref 0))]⟩]
noncomputable def T4 (p:HF):BT:=tr (L4 p) 9 1 0
noncomputable def BD (p:HF):Ib:=t0
noncomputable def By (p:HF):Ib:=ff (.type "builtin_function_or_method") #[(.builtin "type.__prepare__"),(.type "type")]
noncomputable def Bq (p:HF):Ib:=t0
noncomputable def CD (p:HF):Ib:=f0
noncomputable def BH (p:HF):Ib:=fs (.type "tuple") #[(.str "self" 204),(.str "comp_select_list" 205)]
noncomputable def C8 (p:HF):Ib:=t0
noncomputable def wO (p:HF):Ib:=ff (.type "code") #[(.str "__init__" 201),(.str "TupleComp.__init__" 202),(.str "/claim/cut.py" 203),(.int 4 0),(.int 2 0),(.int 0 0),(.int 0 0),(.int 3 0),(.ref 22),(.bool true),(.int 181 0),(.ref 23),.none,(.ref 24),(.ref 25),(.ref 26),(.int 206 0),(.int 4 0),(.str "/claim/cut.py" 207)]
noncomputable def oT (p:HF):Ib:=fo (.type "function") "__init__" "TupleComp.__init__" ((cG av 1)) 0 3 .none .none (.str "cpy313.pstats" 187) (.ref 27)
noncomputable def Ds (p:HF):Ib:=fs (.type "tuple") #[(.str "self" 212),(.str "left" 213),(.str "right" 214),(.str "index" 215),(.str "direction" 216),(.str "l" 217),(.str "r" 218)]
noncomputable def CO (p:HF):Ib:=t0
noncomputable def BR (p:HF):Ib:=fo .none "compare" "TupleComp.compare" ((cG av 1)) 1 0 .none .none .none .none
noncomputable def w1 (p:HF):Ib:=ff (.type "code") #[(.str "compare" 209),(.str "TupleComp.compare" 210),(.str "/claim/cut.py" 211),(.int 7 0),(.int 3 0),(.int 0 0),(.int 0 0),(.int 3 0),(.ref 29),(.bool true),(.int 181 0),(.ref 30),.none,(.ref 31),(.ref 32),(.ref 33),(.int 219 0),(.int 7 0),(.str "/claim/cut.py" 220)]
noncomputable def n7 (p:HF):Ib:=fo (.type "function") "compare" "TupleComp.compare" ((cG av 1)) 1 3 .none .none (.str "cpy313.pstats" 187) (.ref 34)
noncomputable def xO (p:HF):Ib:=⟨(.type "dict"),none,.dict #[de p "__module__" 196 (.str "cpy313.pstats" 187),de p "__firstlineno__" 200 (.int 2 199),de p "__init__" 208 (.ref 28),de p "compare" 221 (.ref 35),de p "__static_attributes__" 223 (.ref 36),de p "__dict__" 225 (.ref 39),de p "__weakref__" 227 (.ref 40),de p "__doc__" 228 .none] 4,#[]⟩
noncomputable def wI (p:HF):Ib:=⟨(.type "type"),none,.cls {name:="TupleComp",bases:=[(.type "object")],mro:=[(.ref 38),(.type "object")],ns:=37,qualname:="TupleComp",hasDict:=true,slotNames:=[],subclasses:=[],abstract:=false,collection:=none,hasDel:=false},#[none,none,(some (.str "TupleComp" 189)),(some (.str "TupleComp" 197)),(some (.builtin "object.__new__")),(some (.bool true))]⟩
noncomputable def BC (p:HF):Ib:=ff (.type "getset_descriptor") #[(.str "__weakref__" 226),(.ref 38),(.builtin "ExceptionGroup.__weakref__"),.none]
noncomputable def BU (p:HF):Ib:=ff (.type "super") #[(.ref 38),(.ref 38),(.ref 38)]
noncomputable def Bh (p:HF):Ib:=ff (.type "builtin_function_or_method") #[(.builtin "object.__init_subclass__"),(.ref 38)]
noncomputable def CT (p:HF):Ib:=t0
noncomputable def wt (p:HF):Ib:=ff (.type "code") #[(.str "add_func_stats" 231),(.str "add_func_stats" 232),(.str "/claim/cut.py" 233),(.int 16 0),(.int 2 0),(.int 0 0),(.int 0 0),(.int 3 0),(.ref 43),(.bool true),(.int 181 0),(.ref 44),.none,(.ref 45),(.ref 46),(.ref 47),(.int 246 0),(.int 16 0),(.str "/claim/cut.py" 247)]
noncomputable def w0 (p:HF):Ib:=fo (.type "function") "add_func_stats" "add_func_stats" (av) 2 3 .none .none (.str "cpy313.pstats" 187) (.ref 48)
noncomputable def BE (p:HF):Ib:=t0
noncomputable def xr (p:HF):Ib:=f0
noncomputable def ox (p:HF):Ib:=ff (.type "code") #[(.str "add_callers" 249),(.str "add_callers" 250),(.str "/claim/cut.py" 251),(.int 20 0),(.int 2 0),(.int 0 0),(.int 0 0),(.int 3 0),(.ref 50),(.bool true),(.int 181 0),(.ref 51),.none,(.ref 52),(.ref 53),(.ref 54),(.int 257 0),(.int 20 0),(.str "/claim/cut.py" 258)]
noncomputable def wi (p:HF):Ib:=fo (.type "function") "add_callers" "add_callers" (av) 3 3 .none .none (.str "cpy313.pstats" 187) (.ref 55)
noncomputable def yp (p:HF):Ib:=ff (.type "code") #[(.str "count_calls" 260),(.str "count_calls" 261),(.str "/claim/cut.py" 262),(.int 33 0),(.int 1 0),(.int 0 0),(.int 0 0),(.int 3 0),(.ref 57),(.bool true),(.int 181 0),(.ref 58),.none,(.ref 59),(.ref 60),(.ref 61),(.int 266 0),(.int 33 0),(.str "/claim/cut.py" 267)]
noncomputable def xK (p:HF):Ib:=fo (.type "function") "count_calls" "count_calls" (av) 4 3 .none .none (.str "cpy313.pstats" 187) (.ref 62)
noncomputable def w7 (p:HF):Ib:=fs (.type "tuple") #[(.int 0 271),.none]
noncomputable def rZ (p:HF):Ib:=⟨(.type "dict"),none,.dict #[de p "key" 272 .none] 1,#[]⟩
noncomputable def Bl (p:HF):Ib:=fo .none "insort_right" "insort_right" (av) 6 0 .none .none .none .none
noncomputable def vL (p:HF):Ib:=ff (.type "code") #[(.str "insort_right" 273),(.str "insort_right" 274),(.str "/claim/cut.py" 275),(.int 39 0),(.int 4 0),(.int 0 0),(.int 1 0),(.int 3 0),(.ref 66),(.bool true),(.int 181 0),(.ref 67),.none,(.ref 68),(.ref 69),(.ref 70),(.int 281 0),(.int 39 0),(.str "/claim/cut.py" 282)]
noncomputable def wc (p:HF):Ib:=fo (.type "function") "insort_right" "insort_right" (av) 6 3 (.ref 64) (.ref 65) (.str "cpy313.bisect" 269) (.ref 71)
noncomputable def xF (p:HF):Ib:=fs (.type "tuple") #[(.int 0 284),.none]
noncomputable def qU (p:HF):Ib:=⟨(.type "dict"),none,.dict #[de p "key" 285 .none] 1,#[]⟩
noncomputable def xt (p:HF):Ib:=ff (.type "code") #[(.str "bisect_right" 286),(.str "bisect_right" 287),(.str "/claim/cut.py" 288),(.int 45 0),(.int 4 0),(.int 0 0),(.int 1 0),(.int 3 0),(.ref 75),(.bool true),(.int 181 0),(.ref 76),.none,(.ref 77),(.ref 78),(.ref 79),(.int 295 0),(.int 45 0),(.str "/claim/cut.py" 296)]
noncomputable def wy (p:HF):Ib:=fo (.type "function") "bisect_right" "bisect_right" (av) 7 3 (.ref 73) (.ref 74) (.str "cpy313.bisect" 269) (.ref 80)
noncomputable def ym (p:HF):Ib:=fs (.type "tuple") #[(.int 0 298),.none]
noncomputable def qV (p:HF):Ib:=⟨(.type "dict"),none,.dict #[de p "key" 299 .none] 1,#[]⟩
noncomputable def Dz (p:HF):Ib:=t0
noncomputable def Co (p:HF):Ib:=f0
noncomputable def ya (p:HF):Ib:=ff (.type "code") #[(.str "insort_left" 300),(.str "insort_left" 301),(.str "/claim/cut.py" 302),(.int 65 0),(.int 4 0),(.int 0 0),(.int 1 0),(.int 3 0),(.ref 84),(.bool true),(.int 181 0),(.ref 85),.none,(.ref 86),(.ref 87),(.ref 88),(.int 308 0),(.int 65 0),(.str "/claim/cut.py" 309)]
noncomputable def vS (p:HF):Ib:=fo (.type "function") "insort_left" "insort_left" (av) 8 3 (.ref 82) (.ref 83) (.str "cpy313.bisect" 269) (.ref 89)
noncomputable def wa (p:HF):Ib:=fs (.type "tuple") #[(.int 0 311),.none]
noncomputable def qH (p:HF):Ib:=⟨(.type "dict"),none,.dict #[de p "key" 312 .none] 1,#[]⟩
noncomputable def xx (p:HF):Ib:=ff (.type "code") #[(.str "bisect_left" 313),(.str "bisect_left" 314),(.str "/claim/cut.py" 315),(.int 71 0),(.int 4 0),(.int 0 0),(.int 1 0),(.int 3 0),(.ref 93),(.bool true),(.int 181 0),(.ref 94),.none,(.ref 95),(.ref 96),(.ref 97),(.int 322 0),(.int 71 0),(.str "/claim/cut.py" 323)]
noncomputable def yw (p:HF):Ib:=fo (.type "function") "bisect_left" "bisect_left" (av) 9 3 (.ref 91) (.ref 92) (.str "cpy313.bisect" 269) (.ref 98)
noncomputable def Ge (p:HF):List Ib:=((L4 p).set 3 (⟨(.type "dict"),none,.dict #[de p "__name__" 165 (.str "cpy313.stringprep" 325),de p "__doc__" 166 .none,de p "__package__" 167 .none,de p "__loader__" 168 (.builtin "__main__.__loader__#opaque"),de p "__spec__" 169 .none,de p "__annotations__" 170 (.ref 6),de p "__builtins__" 171 (.ref 4),de p "__file__" 173 (.str "/claim/cut.py" 172),de p "__cached__" 174 .none,de p "TupleComp" 230 (.ref 38),de p "add_func_stats" 248 (.ref 49),de p "add_callers" 259 (.ref 56),de p "count_calls" 268 (.ref 63),de p "insort_right" 283 (.ref 72),de p "bisect_right" 297 (.ref 81),de p "insort_left" 310 (.ref 90),de p "bisect_left" 324 (.ref 99)] 17,#[]⟩)).set 12 (ff .none #[(.int 2 0),(.int 0 0),(.ref 20),(.int 16 0),(.int 0 0),(.ref 48),(.int 20 0),(.int 0 0),(.ref 55),(.int 33 0),(.int 0 0),(.ref 62),(.int 39 0),(.int 0 0),(.ref 71),(.int 45 0),(.int 0 0),(.ref 80),(.int 65 0),(.int 0 0),(.ref 89),(.int 71 0),(.int 0 0),(.ref 98)]) ++ [BD p,By p,⟨(.type "dict"),none,.dict #[de p "__module__" 196 (.str "cpy313.pstats" 187),de p "__qualname__" 198 (.str "TupleComp" 197),de p "__firstlineno__" 200 (.int 2 199),de p "__init__" 208 (.ref 28),de p "compare" 221 (.ref 35),de p "__static_attributes__" 223 (.ref 36)] 6,#[]⟩,t0,ff .none #[(.int 4 0),(.int 4 0),(.ref 27),(.int 7 0),(.int 4 0),(.ref 34)],ff (.type "code") #[(.str "TupleComp" 191),(.str "TupleComp" 192),(.str "/claim/cut.py" 193),(.int 2 0),(.int 0 0),(.int 0 0),(.int 0 0),(.int 0 0),(.ref 18),(.bool false),(.int 181 0),(.ref 19),.none,.none,.none,.none,(.int 194 0),(.int 2 0),(.str "/claim/cut.py" 195)],⟨(.type "frame"),none,.plain,#[(some (.ref 20)),(some (.ref 3)),(some (.ref 17)),none,(some (.str "cpy313.pstats" 187)),none,(some (.ref 0))]⟩,Bq p,CD p,BH p,C8 p,fo .none "__init__" "TupleComp.__init__" ((cG av 1)) 0 0 .none .none .none .none,wO p,oT p,t0,f0,Ds p,CO p,BR p,w1 p,n7 p,fs (.type "tuple") #[(.str "comp_select_list" 222)],xO p,wI p,ff (.type "getset_descriptor") #[(.str "__dict__" 224),(.ref 38),(.builtin "function.__dict__"),(.builtin "function.__dict__#set")],BC p,BU p,Bh p,CT p,f0,fs (.type "tuple") #[(.str "target" 234),(.str "source" 235),(.str "cc" 236),(.str "nc" 237),(.str "tt" 238),(.str "ct" 239),(.str "callers" 240),(.str "t_cc" 241),(.str "t_nc" 242),(.str "t_tt" 243),(.str "t_ct" 244),(.str "t_callers" 245)],t0,fo .none "add_func_stats" "add_func_stats" (av) 2 0 .none .none .none .none,wt p,w0 p,BE p,xr p,fs (.type "tuple") #[(.str "target" 252),(.str "source" 253),(.str "new_callers" 254),(.str "func" 255),(.str "caller" 256)],t0,fo .none "add_callers" "add_callers" (av) 3 0 .none .none .none .none,ox p,wi p,t0,f0,fs (.type "tuple") #[(.str "callers" 263),(.str "nc" 264),(.str "calls" 265)],t0,fo .none "count_calls" "count_calls" (av) 4 0 .none .none .none .none,yp p,xK p,w7 p,rZ p,t0,f0,fs (.type "tuple") #[(.str "a" 276),(.str "x" 277),(.str "lo" 278),(.str "hi" 279),(.str "key" 280)],t0,Bl p,vL p,wc p,xF p,qU p,t0,f0,fs (.type "tuple") #[(.str "a" 289),(.str "x" 290),(.str "lo" 291),(.str "hi" 292),(.str "key" 293),(.str "mid" 294)],t0,fo .none "bisect_right" "bisect_right" (av) 7 0 .none .none .none .none,xt p,wy p,ym p,qV p,Dz p,Co p,fs (.type "tuple") #[(.str "a" 303),(.str "x" 304),(.str "lo" 305),(.str "hi" 306),(.str "key" 307)],t0,fo .none "insort_left" "insort_left" (av) 8 0 .none .none .none .none,ya p,vS p,wa p,qH p,t0,f0,fs (.type "tuple") #[(.str "a" 316),(.str "x" 317),(.str "lo" 318),(.str "hi" 319),(.str "key" 320),(.str "mid" 321)],t0,fo .none "bisect_left" "bisect_left" (av) 9 0 .none .none .none .none,xx p,yw p]
noncomputable def FP (p:HF):BT:=tr (Ge p) 9 1 0
noncomputable def ix (p:HF):Ib:=⟨(.type "set"),none,.set #[(65024,(.int 65024 343)),(65025,(.int 65025 344)),(65026,(.int 65026 345)),(65027,(.int 65027 346)),(65028,(.int 65028 347)),(65029,(.int 65029 348)),(6150,(.int 6150 329)),(65030,(.int 65030 349)),(65031,(.int 65031 350)),(65032,(.int 65032 351)),(65033,(.int 65033 352)),(6155,(.int 6155 330)),(6156,(.int 6156 331)),(6157,(.int 6157 332)),(8203,(.int 8203 333)),(8204,(.int 8204 334)),(8205,(.int 8205 335)),(65034,(.int 65034 353)),(65035,(.int 65035 354)),(65036,(.int 65036 355)),(65037,(.int 65037 356)),(65038,(.int 65038 357)),(65039,(.int 65039 358)),(173,(.int 173 327)),(847,(.int 847 328)),(8288,(.int 8288 336)),(65279,(.int 65279 337))] 29 ⟨127,#[0,1,2,3,4,5,6,7,8,9,10,11,12,13,14,15,16,17,18,19,20,21,22,45,79,96,127],#[],0,(!p.followText "set-order"),2,true⟩,#[]⟩
noncomputable def Gj (p:HF):List Ib:=(Ge p).set 3 (⟨(.type "dict"),none,.dict #[de p "__name__" 165 (.str "cpy313.stringprep" 325),de p "__doc__" 166 .none,de p "__package__" 167 .none,de p "__loader__" 168 (.builtin "__main__.__loader__#opaque"),de p "__spec__" 169 .none,de p "__annotations__" 170 (.ref 6),de p "__builtins__" 171 (.ref 4),de p "__file__" 173 (.str "/claim/cut.py" 172),de p "__cached__" 174 .none,de p "TupleComp" 230 (.ref 38),de p "add_func_stats" 248 (.ref 49),de p "add_callers" 259 (.ref 56),de p "count_calls" 268 (.ref 63),de p "insort_right" 283 (.ref 72),de p "bisect_right" 297 (.ref 81),de p "insort_left" 310 (.ref 90),de p "bisect_left" 324 (.ref 99),de p "b1_set" 386 (.ref 107)] 18,#[]⟩) ++ [fs (.type "list") #[(.int 173 327),(.int 847 328),(.int 6150 329),(.int 6155 330),(.int 6156 331),(.int 6157 332),(.int 8203 333),(.int 8204 334),(.int 8205 335),(.int 8288 336),(.int 65279 337)],ff (.type "range") #[(.int 65024 338),(.int 65040 339),(.int 1 340)],⟨(.type "list"),none,.seq #[(.int 65024 343),(.int 65025 344),(.int 65026 345),(.int 65027 346),(.int 65028 347),(.int 65029 348),(.int 65030 349),(.int 65031 350),(.int 65032 351),(.int 65033 352),(.int 65034 353),(.int 65035 354),(.int 65036 355),(.int 65037 356),(.int 65038 357),(.int 65039 358)] 18,#[]⟩,ff (.type "range_iterator") #[(.int 65040 0),(.int 0 0),(.int 1 0)],t0,ff (.type "StopIteration") #[(.ref 104),.none,.none,.none,(.bool false),.none],fs (.type "list") #[(.int 173 327),(.int 847 328),(.int 6150 329),(.int 6155 330),(.int 6156 331),(.int 6157 332),(.int 8203 333),(.int 8204 334),(.int 8205 335),(.int 8288 336),(.int 65279 337),(.int 65024 343),(.int 65025 344),(.int 65026 345),(.int 65027 346),(.int 65028 347),(.int 65029 348),(.int 65030 349),(.int 65031 350),(.int 65032 351),(.int 65033 352),(.int 65034 353),(.int 65035 354),(.int 65036 355),(.int 65037 356),(.int 65038 357),(.int 65039 358)],ix p,ff (.type "list_iterator") #[.none,(.int 27 0)],t0,ff (.type "StopIteration") #[(.ref 109),.none,.none,.none,(.bool false),.none]]
noncomputable def FD (p:HF):BT:=tr (Gj p) 9 1 0
noncomputable def tD (p:HF):Ib:=ff (.type "code") #[(.str "in_table_b1" 387),(.str "in_table_b1" 388),(.str "/claim/cut.py" 389),(.int 93 0),(.int 1 0),(.int 0 0),(.int 0 0),(.int 3 0),(.ref 111),(.bool true),(.int 181 0),(.ref 112),.none,(.ref 113),(.ref 114),(.ref 115),(.int 391 0),(.int 93 0),(.str "/claim/cut.py" 392)]
noncomputable def tK (p:HF):Ib:=fo (.type "function") "in_table_b1" "in_table_b1" (av) 12 3 .none .none (.str "cpy313.stringprep" 325) (.ref 116)
noncomputable def Gb (p:HF):List Ib:=((Gj p).set 3 (⟨(.type "dict"),none,.dict #[de p "__name__" 165 (.str "cpy313.stringprep" 325),de p "__doc__" 166 .none,de p "__package__" 167 .none,de p "__loader__" 168 (.builtin "__main__.__loader__#opaque"),de p "__spec__" 169 .none,de p "__annotations__" 170 (.ref 6),de p "__builtins__" 171 (.ref 4),de p "__file__" 173 (.str "/claim/cut.py" 172),de p "__cached__" 174 .none,de p "TupleComp" 230 (.ref 38),de p "add_func_stats" 248 (.ref 49),de p "add_callers" 259 (.ref 56),de p "count_calls" 268 (.ref 63),de p "insort_right" 283 (.ref 72),de p "bisect_right" 297 (.ref 81),de p "insort_left" 310 (.ref 90),de p "bisect_left" 324 (.ref 99),de p "b1_set" 386 (.ref 107),de p "in_table_b1" 393 (.ref 117)] 19,#[]⟩)).set 12 (ff .none #[(.int 2 0),(.int 0 0),(.ref 20),(.int 16 0),(.int 0 0),(.ref 48),(.int 20 0),(.int 0 0),(.ref 55),(.int 33 0),(.int 0 0),(.ref 62),(.int 39 0),(.int 0 0),(.ref 71),(.int 45 0),(.int 0 0),(.ref 80),(.int 65 0),(.int 0 0),(.ref 89),(.int 71 0),(.int 0 0),(.ref 98),(.int 93 0),(.int 0 0),(.ref 116)]) ++ [t0,f0,fs (.type "tuple") #[(.str "code" 390)],t0,fo .none "in_table_b1" "in_table_b1" (av) 12 0 .none .none .none .none,tD p,tK p]
noncomputable def DZ (p:HF):BT:=tr (Gb p) 9 1 0
noncomputable def F9 (p:HF):List Ib:=(Gb p).set 3 (⟨(.type "dict"),none,.dict #[de p "__name__" 165 (.str "cpy313.stringprep" 325),de p "__doc__" 166 .none,de p "__package__" 167 .none,de p "__loader__" 168 (.builtin "__main__.__loader__#opaque"),de p "__spec__" 169 .none,de p "__annotations__" 170 (.ref 6),de p "__builtins__" 171 (.ref 4),de p "__file__" 173 (.str "/claim/cut.py" 172),de p "__cached__" 174 .none,de p "TupleComp" 230 (.ref 38),de p "add_func_stats" 248 (.ref 49),de p "add_callers" 259 (.ref 56),de p "count_calls" 268 (.ref 63),de p "insort_right" 283 (.ref 72),de p "bisect_right" 297 (.ref 81),de p "insort_left" 310 (.ref 90),de p "bisect_left" 324 (.ref 99),de p "b1_set" 386 (.ref 107),de p "in_table_b1" 393 (.ref 117),de p "b3_exceptions" 2344 (.ref 118)] 20,#[]⟩) ++ ag eB::j0
noncomputable def DW (p:HF):BT:=tr (F9 p) 9 1 0
noncomputable def j6 (p:HF):Ib:=⟨(.type "dict"),none,.dict #[de p "__name__" 165 (.str "law_xh0048_02" 2353),de p "__doc__" 166 .none,de p "__package__" 167 .none,de p "__loader__" 168 (.builtin "__main__.__loader__#opaque"),de p "__spec__" 169 .none,de p "__annotations__" 170 (.ref 6),de p "__builtins__" 171 (.ref 4),de p "__file__" 173 (.str "/claim/cut.py" 172),de p "__cached__" 174 .none,de p "TupleComp" 230 (.ref 38),de p "add_func_stats" 248 (.ref 49),de p "add_callers" 259 (.ref 56),de p "count_calls" 268 (.ref 63),de p "insort_right" 283 (.ref 72),de p "bisect_right" 297 (.ref 81),de p "insort_left" 310 (.ref 90),de p "bisect_left" 324 (.ref 99),de p "b1_set" 386 (.ref 107),de p "in_table_b1" 393 (.ref 117),de p "b3_exceptions" 2344 (.ref 118),de p "map_table_b3" 2352 (.ref 163),de p "_law_typed" 2367 (.ref 170),de p "_law_sorted" 2380 (.ref 177),de p "law" 2386 (.ref 182)] 24,#[]⟩
noncomputable def sA (p:HF):Ib:=ff (.type "code") #[(.str "map_table_b3" 2345),(.str "map_table_b3" 2346),(.str "/claim/cut.py" 2347),(.int 96 0),(.int 1 0),(.int 0 0),(.int 0 0),(.int 3 0),(.ref 157),(.bool true),(.int 181 0),(.ref 158),.none,(.ref 159),(.ref 160),(.ref 161),(.int 2350 0),(.int 96 0),(.str "/claim/cut.py" 2351)]
noncomputable def sD (p:HF):Ib:=fo (.type "function") "map_table_b3" "map_table_b3" (av) 14 3 .none .none (.str "cpy313.stringprep" 325) (.ref 162)
noncomputable def tv (p:HF):Ib:=ff (.type "code") #[(.str "_law_typed" 2355),(.str "_law_typed" 2356),(.str "/claim/cut.py" 2357),(.int 102 0),(.int 3 0),(.int 0 0),(.int 0 0),(.int 3 0),(.ref 164),(.bool true),(.int 181 0),(.ref 165),.none,(.ref 166),(.ref 167),(.ref 168),(.int 2365 0),(.int 102 0),(.str "/claim/cut.py" 2366)]
noncomputable def tu (p:HF):Ib:=fo (.type "function") "_law_typed" "_law_typed" (av) 16 3 .none .none (.str "law_xh0048_02" 2353) (.ref 169)
noncomputable def sE (p:HF):Ib:=f0
noncomputable def k3 (p:HF):Ib:=ff (.type "code") #[(.str "_law_sorted" 2368),(.str "_law_sorted" 2369),(.str "/claim/cut.py" 2370),(.int 108 0),(.int 3 0),(.int 0 0),(.int 0 0),(.int 3 0),(.ref 171),(.bool true),(.int 181 0),(.ref 172),.none,(.ref 173),(.ref 174),(.ref 175),(.int 2378 0),(.int 108 0),(.str "/claim/cut.py" 2379)]
noncomputable def tB (p:HF):Ib:=fo (.type "function") "_law_sorted" "_law_sorted" (av) 17 3 .none .none (.str "law_xh0048_02" 2353) (.ref 176)
noncomputable def tm (p:HF):Ib:=f0
noncomputable def kT (p:HF):Ib:=ff (.type "code") #[(.str "law" 2381),(.str "law" 2382),(.str "/claim/cut.py" 2383),(.int 117 0),(.int 1 0),(.int 0 0),(.int 0 0),(.int 3 0),(.ref 178),(.bool true),(.int 181 0),(.ref 179),.none,.none,.none,(.ref 180),(.int 2384 0),(.int 117 0),(.str "/claim/cut.py" 2385)]
noncomputable def sG (p:HF):Ib:=fo (.type "function") "law" "law" (av) 18 3 .none .none (.str "law_xh0048_02" 2353) (.ref 181)
noncomputable def GD (p:HF):List Ib:=((F9 p).set 3 (j6 p)).set 12 (ff .none #[(.int 2 0),(.int 0 0),(.ref 20),(.int 16 0),(.int 0 0),(.ref 48),(.int 20 0),(.int 0 0),(.ref 55),(.int 33 0),(.int 0 0),(.ref 62),(.int 39 0),(.int 0 0),(.ref 71),(.int 45 0),(.int 0 0),(.ref 80),(.int 65 0),(.int 0 0),(.ref 89),(.int 71 0),(.int 0 0),(.ref 98),(.int 93 0),(.int 0 0),(.ref 116),(.int 96 0),(.int 0 0),(.ref 162),(.int 102 0),(.int 0 0),(.ref 169),(.int 108 0),(.int 0 0),(.ref 176),(.int 117 0),(.int 0 0),(.ref 181)]) ++ [t0,f0,fs (.type "tuple") #[(.str "code" 2348),(.str "r" 2349)],t0,fo .none "map_table_b3" "map_table_b3" (av) 14 0 .none .none .none .none,sA p,sD p,t0,f0,fs (.type "tuple") #[(.str "number" 2358),(.str "form" 2359),(.str "seed" 2360),(.str "words" 2361),(.str "nothing" 2362),(.str "text" 2363),(.str "place" 2364)],t0,fo .none "_law_typed" "_law_typed" (av) 16 0 .none .none .none .none,tv p,tu p,t0,sE p,fs (.type "tuple") #[(.str "order" 2371),(.str "ahead" 2372),(.str "behind" 2373),(.str "line" 2374),(.str "told" 2375),(.str "name" 2376)],fs (.type "tuple") #[(.str "ahead" 2377)],fo .none "_law_sorted" "_law_sorted" (av) 17 0 .none .none .none .none,k3 p,tB p,t0,tm p,fo .none "law" "law" (av) 18 0 .none .none .none .none,kT p,sG p]
noncomputable def Fc (p:HF):BT:=tr (GD p) 9 1 0
noncomputable abbrev tb:=L8.main.body
noncomputable def second:PV->PV
 | .tup [_,q]=>q
 |p=>p
theorem el {a:Int}{n i:Nat}{p:PV}(h:(aI a n)[i]? =some p):p= .int (a+(i:Int)):=by
 unfold aI at h
 rw [Hy] at h
 cases q:(Hg n)[i]? with
 |none=>replace h:=q▸h;cases h
 |some j=>
  rw [q] at h
  have:j=i:=by
   obtain⟨h1,h2⟩:=HD.mp q
   simpa using h2.symm
  refine this▸?_
  simpa using h.symm
set_option maxRecDepth 4000
theorem Cc {l:List (Str×PV)}(h:∀e∈l,ρ e.1=some e.2):∀y p,aC l y=some p->ρ y=some p:=by
 induction l with
 |nil=>intro y p e;cases e
 |cons e r ih=>
  intro y p e'
  replace e':(if(y==e.1)=true then some e.2 else aC r y)=some p:=e'
  split at e'
  ·rename_i hy
   cases e'
   rw [beq_iff_eq.mp hy]
   exact h _ f'
  ·exact ih (λe he=>h e (j' _ he)) y p e'
theorem St.to {l:List (Str×PV)}(X:St C W sc own ρ env s)(h:∀e∈l,ρ e.1=some e.2):St C W sc own (aC l) env s:=X.weaken (Cc h)
theorem jK {P:Str×PV->Prop}:∀e∈([]:List (Str×PV)),P e:=λe h=>by cases h
theorem aD {P:Str×PV->Prop}{a:Str×PV}{l:List (Str×PV)}(h:P a)(hs:∀e∈l,P e):∀e∈a::l,P e:=λe he=>by
 rcases Hc.mp he with rfl |he
 ·exact h
 ·exact hs e he
theorem Ev.conv {e:Expr}{p q:PV}(h:Ev C k sc own ρ e p)(hp:p=q):Ev C k sc own ρ e q:=hp▸h
theorem Tr.conv {e:Expr}{p q:Bool}(h:Tr C k sc own ρ e p)(hp:p=q):Tr C k sc own ρ e q:=hp▸h
theorem aj.conv {m:y'->y'->Jj y'}{p q r r':PV}(h:aj C m p q r)(e:r=r'):aj C m p q r':=e▸h
noncomputable def oz:PV->Bool
 | .none=>false
 | .raw v=>v != .none
 |_=>true
theorem tE {h:Ho}{v:y'}{p:PV}(hp:oz p=true)(r:Rr C W h v p):v≠.none:=by
 cases p with
 |none=>cases hp
 |bool b=>rw [show v= .bool b from r];intro q;cases q
 |int i=>obtain⟨t,rfl⟩:=r;intro q;cases q
 |str i=>obtain⟨t,rfl⟩:=r;intro q;cases q
 |raw u=>
  rw [show v=u from r]
  intro q
  subst q
  exact absurd hp (by decide)
 |obj o=>exact r.elim
 |tup xs=>obtain⟨a,vs,rfl,_⟩:=r;intro q;cases q
 |lst xs=>refine lO r λa vs m QI _=> ?_;subst QI;intro q;cases q
 |au xs=>obtain⟨a,vs,m,l,rfl,_⟩:=r;intro q;cases q
 |inst c xs=>obtain⟨a,d,vs,m,l,rfl,_⟩:=r;intro q;cases q
theorem aj.isNone {p:PV}(hp:oz p=true):aj C (HZ .Is) p .none (.bool false):=λW A s v u _ g h1 h2=>by
 refine(show u= .none from h2)▸?_
 exact is_none_ne (tE hp h1) ⟨ah.refl _,rfl⟩
theorem aj.k9:aj C (HZ .Is) .none .none (.bool true):=λW A s v u _ g h1 h2=>by
 rw [show u= .none from h2,show v= .none from h1]
 exact wpAny_is_self rfl ⟨ah.refl _,rfl⟩
theorem aj.isNotNone {p:PV}(hp:oz p=true):aj C (HZ .IsNot) p .none (.bool true):=λW A s v u _ g h1 h2=>by
 refine(show u= .none from h2)▸?_
 exact isnot_none_ne (tE hp h1) ⟨ah.refl _,rfl⟩
theorem aj.my:aj C (HZ .IsNot) .none .none (.bool false):=λW A s v u _ g h1 h2=>by
 rw [show u= .none from h2,show v= .none from h1]
 exact wpAny_isNot_self rfl ⟨ah.refl _,rfl⟩
theorem Ev.iK {v i:Expr}{xs:List PV}{j:Int}{p:PV}(h1:Ev C k sc own ρ v (.lst xs))(h2:Ev C k sc own ρ i (.int j))(h0:0<=j)(hp:xs[j.toNat]? =some p)(hz:xs.length<=sizeLine)
 (hs:∀o i',KP i false o i'=operate [o,i'] (getItem o i')):Ev C k sc own ρ (.Subscript v i pos) p:=by
 have Qc:j.toNat < xs.length:=(HD.mp hp).1
 have QO:(sizeLine:Nat) < 2 ^ 62:=by decide
 exact Ev.item (n:=j.toNat) h1.l h2 (by exact ND.mpr h0) hp (by lia) hs
theorem xD {x:Str}{p:PV}{r:List (Str×PV)}:aC ((x,p)::r) x=some p:=fL
theorem Dy {x y:Str}{p:PV}{r:List (Str×PV)}{o:Option PV}(h:(y==x)=false)(h2:aC r y=o):aC ((x,p)::r) y=o:=n8 h h2
noncomputable def D2 (ρ:bP):List (Str×PV)->List (Option PV)
 |[]=>[]
 |e::r=>ρ e.1::D2 ρ r
noncomputable def EC:List (Str×PV)->List (Option PV)
 |[]=>[]
 |e::r=>some e.2::EC r
theorem sJ {ρ:bP}:∀{l:List (Str×PV)},D2 ρ l=EC l->∀e∈l,ρ e.1=some e.2
 |[],_=>jK
 |_::_,h=>aD (Pf.inj h).1 (sJ (Pf.inj h).2)
noncomputable def zV:List (Str×y'):=[("range",.type "range"),("len",.builtin "len"),("sum",.builtin "sum"),("chr",.builtin "chr"),("ord",.builtin "ord"),("int",.type "int"),("str",.type "str"),("min",.builtin "min"),("max",.builtin "max"),
 ("isinstance",.builtin "isinstance"),("tuple",.type "tuple"),("list",.type "list"),("dict",.type "dict"),("bool",.type "bool"),("sorted",.builtin "sorted"),("zip",.type "zip"),("ValueError",.type "ValueError")]
noncomputable def E1:List (Str×He):=[("insort_right",72),("bisect_right",81),("insort_left",90),("bisect_left",99),("TupleComp",38),("add_func_stats",49),("add_callers",56),("count_calls",63),("b1_set",107),("in_table_b1",117),("b3_exceptions",118),("map_table_b3",163),("_law_typed",170),("_law_sorted",177)]
noncomputable abbrev yD:=6
noncomputable abbrev vE:=7
noncomputable abbrev yE:=8
noncomputable abbrev xk:=9
noncomputable abbrev Bx:He:=72
noncomputable abbrev vH:He:=81
noncomputable abbrev DK:He:=90
noncomputable abbrev vM:He:=99
structure tc (C:Cfg)(fa:He)(i:Nat):Prop where
 ex:∃fd,FnAt C fa fd (ay tb i)/\fd.scope=ai tb i/\fd.params=bM tb i/\
  (∃T o t,fd.defaults= .ref T/\T∉C.aq/\C.h₀.get? T=some o/\o.data= .seq #[.int 0 t,.none] 0)/\∃D m,fd.kwdefaults= .ref D/\D∉C.aq/\C.h₀.Ns D m/\m "key"=some .none
structure Lw (C:Cfg):Prop where
 ok:C.Ok
 bl:∀e∈zV,C.mg e.1=none/\C.mb e.1=some e.2
 gl:∀e∈E1,C.mg e.1=some (.ref e.2)
 ir:tc C Bx yD
 br:tc C vH vE
 il:tc C DK yE
 bL:tc C vM xk
theorem tc.le {C C':Cfg}{fa:He}{i:Nat}(F:tc C fa i)(l:C.Le C'):tc C' fa i:=by
 obtain⟨fd,h1,h2,h3,⟨T,o,t,d1,d2,d3,d4⟩,D,m,e1,e2,e3,e4⟩:=F.ex
 exact⟨fd,h1.le l,h2,h3,⟨T,o,t,d1,by rw [l.aq];exact d2,l.old _ _ d2 d3,d4⟩,D,m,e1,by rw [l.aq];exact e2,l.ns e2 e3,e4⟩
theorem Lw.le {C C':Cfg}(L:Lw C)(l:C.Le C'):Lw C':=⟨L.ok.le l,by refine l.mg▸l.mb▸?_;exact L.bl,by refine l.mg▸?_;exact L.gl,L.ir.le l,L.br.le l,L.il.le l,L.bL.le l⟩
theorem Ev.BY {x:Str}{v:y'}(L:Lw C)(hl:sc.scope.names.lookup x=some .globalImplicit)(hv:zV.lookup x=some v)(hd:(x==("__debug__":Str))=false):Ev C k sc own ρ (.Name x pos) (.raw v):=
 let h:=L.bl _ (mem_of_lookup hv);Ev.blt L.ok hl h.1 h.2 hd
theorem Ev.CF {x:Str}{a:He}(L:Lw C)(hl:sc.scope.names.lookup x=some .globalImplicit)(hv:E1.lookup x=some a)(hd:(x==("__debug__":Str))=false):Ev C k sc own ρ (.Name x pos) (.raw (.ref a)):=
 Ev.glob L.ok hl (L.gl _ (mem_of_lookup hv)) hd
structure q9 (p:I'):Prop where
 pos:p.posonlyargs=[]
 args:∃a b c d e f g h,p.args=[⟨"a",a,b⟩,⟨"x",c,d⟩,⟨"lo",e,f⟩,⟨"hi",g,h⟩]
 kw:∃a b,p.kwonlyargs=[⟨"key",a,b⟩]
 va:p.vararg=none
 Ww:p.kwarg=none
noncomputable def feed {α:Type} (o:Ib):Jj α->Option (He×Jj α)
 | .load a none k=>some (a,k o)
 |_=>none
theorem pQ {α:Type}{m m':Jj α}{o:Ib}{a:He}{Q:α->Hh->Prop}{E:y'->Hh->Prop}(e:feed o m=some (a,m'))(h:s.heap.get? a=some o)(q:Hi M A m' Q E s):Hi M A m Q E s:=by
 cases m with
 |load b p k=>
  cases p with
  |none=>cases e;exact Ha (f:=k) (PT h q)
  |some p=>cases e
 |_=>cases e
theorem bindB {fd:Jq}{T D:He}{o:Ib}{t:Tok}{m:Str->Option y'}(hp:q9 fd.params)(d1:fd.defaults= .ref T)(d3:s.heap.get? T=some o)(d4:o.data= .seq #[.int 0 t,.none] 0)
 (e1:fd.kwdefaults= .ref D)(e3:s.heap.Ns D m)(e4:m "key"=some .none)(vs:List y')(kw:List (Str×y'))(r:List (Str×y'))
 (hk:(kw=[]/\∃a x lo hi,vs=[a,x,lo,hi]/\r=([("a",a),("x",x),("lo",lo),("hi",hi),("key",.none)]:List (Str×y')))\/
  (kw=[]/\∃a x,vs=[a,x]/\r=([("a",a),("x",x),("lo",.int 0 t),("hi",.none),("key",.none)]:List (Str×y')))\/
  (∃ky,kw=[(("key":Str),ky)]/\((∃a x lo hi,vs=[a,x,lo,hi]/\r=([("a",a),("x",x),("lo",lo),("hi",hi),("key",ky)]:List (Str×y')))\/
   (∃a x,vs=[a,x]/\r=([("a",a),("x",x),("lo",.int 0 t),("hi",.none),("key",ky)]:List (Str×y')))\/
   (∃a x lo,vs=[a,x,lo]/\r=([("a",a),("x",x),("lo",lo),("hi",.none),("key",ky)]:List (Str×y')))))):
 BindsTo s fd ⟨vs,kw⟩ r:=by
 intro M A E Q h
 obtain⟨oc,od,oo,ow⟩:=o
 obtain rfl:oo=_:=d4
 have key:∀kw vs,feed ⟨oc,od,.seq #[.int 0 t,.none] 0,ow⟩ (bindArgs fd ⟨vs,kw⟩)=some (T,pure r)->Hi M A (bindArgs fd ⟨vs,kw⟩) Q E s:=λkw vs e=>pQ e d3 (Hu h)
 have UA:∀kw vs (β γ:Type) (f:_->Jj β) (g:β->Jj γ) (k:γ->_),feed ⟨oc,od,.seq #[.int 0 t,.none] 0,ow⟩ (bindArgs fd ⟨vs,kw⟩)=some (T,(nsGet D "key" >>=f) >>=g >>=k)->(f (some .none) >>=g >>=k)=pure r->Hi M A (bindArgs fd ⟨vs,kw⟩) Q E s:=by
  intro kw vs β γ f g k e e2
  refine pQ e d3 ?_
  rw [Mq,Mq]
  refine Ha (wpAny_nsGet e3 ?_)
  rw [e4,<-Mq,e2];exact Hu h
 obtain⟨h1,⟨_,_,_,_,_,_,_,_,h2⟩,⟨_,_,h3⟩,h4,h5⟩:=hp
 obtain⟨nm,qn,⟨po,ar,va,ko,kd,Ww,df⟩,bd,sc,gl,cl,ZX,ZV,doc,pm,an,cd,ct,bu⟩:=fd
 dsimp only at h1 h2 h3 h4 h5 d1 e1
 subst h1 h2 h3 h4 h5 d1 e1
 rcases hk with ⟨rfl,a,x,lo,hi,rfl,rfl⟩ |⟨rfl,a,x,rfl,rfl⟩ |⟨ky,rfl,⟨a,x,lo,hi,rfl,rfl⟩ |⟨a,x,rfl,rfl⟩ |⟨a,x,lo,rfl,rfl⟩⟩
 ·exact UA _ _ _ _ _ _ _ (by fail) (by fail)
 ·exact UA _ _ _ _ _ _ _ (by fail) (by fail)
 ·exact key _ _ (by rfl)
 ·exact key _ _ (by rfl)
 ·exact key _ _ (by rfl)
noncomputable def dK (j:Nat) (st:Nat×Nat):Nat×Nat:=let mid:=(st.1+st.2) / 2;if mid < j then(mid+1,st.2) else(st.1,mid)
noncomputable def ew (j:Nat) (st:Nat×Nat):Nat->Nat×Nat
 |0=>st
 |n+1=>dK j (ew j st n)
theorem xZ (j:Nat)(st:Nat×Nat) {n}:ew j st (n+1)=(dK j (ew j st n)):=rfl
theorem pn (j:Nat)(st:Nat×Nat):∀n,ew j (dK j st) n=ew j st (n+1):=by
 intro q0
 induction q0 with
 |zero=>
  exact rfl
 |succ n ih=>
  rw [xZ,ih];rfl
theorem w4 {j lo hi:Nat}(h1:lo<=j)(h2:j<=hi)(h:lo < hi):lo<=(dK j (lo,hi)).1/\(dK j (lo,hi)).1<=j/\j<=(dK j (lo,hi)).2/\(dK j (lo,hi)).2<=hi/\(dK j (lo,hi)).2 - (dK j (lo,hi)).1 < hi - lo:=by
 have a:lo<=(lo+hi) / 2:=by lia
 have b:(lo+hi) / 2 < hi:=by lia
 unfold dK
 dsimp only
 split
 ·exact⟨HO a,‹_›,h2,Hk _,Kd h (Od a)⟩
 ·exact⟨Hk _,h1,HH.mp ‹_›,IB b,Nat.sub_lt_sub_right a b⟩
theorem Cr (j:Nat):∀(d lo hi:Nat),hi - lo<=d->lo<=j->j<=hi->∃n,(∀i,i < n->(ew j (lo,hi) i).1 < (ew j (lo,hi) i).2)/\ew j (lo,hi) n=(j,j)/\∀i,i<=n->lo<=(ew j (lo,hi) i).1/\(ew j (lo,hi) i).1<=j/\j<=(ew j (lo,hi) i).2/\(ew j (lo,hi) i).2<=hi:=by
 intro d
 induction d with
 |zero=>
  intro lo hi h1 h2 h3
  obtain rfl:=Lb h2 (Hf h3 (LF (OM.mp h1)))
  obtain rfl:=Lb h3 (LF (OM.mp h1))
  exact⟨0,λi h=>absurd h (OQ _),rfl,λi h=>by rw [OM.mp h];exact⟨Hk _,Hk _,Hk _,Hk _⟩⟩
 |succ d ih=>
  intro lo hi h1 h2 h3
  by_cases e:lo < hi
  ·refine DC (w4 h2 h3 e) λa b c f g=> ?_
   refine iI (ih (dK j (lo,hi)).1 (dK j (lo,hi)).2 (Nat.le_of_lt_succ (Ht g h1)) b c) λn SM Sa VF=> ?_
   simp only [(λi=>pn j (lo,hi) i)] at SM Sa VF
   refine⟨n+1,λi Sj=> ?_,Sa,λi Sj=> ?_⟩
   ·cases i with
    |zero=>exact e
    |succ i=>exact SM i (Nat.lt_of_succ_lt_succ Sj)
   ·cases i with
    |zero=>exact⟨Hk _,h2,h3,Hk _⟩
    |succ i=>exact let q:=VF i (Nat.le_of_succ_le_succ Sj);⟨Hf a q.1,q.2.1,q.2.2.1,Hf q.2.2.2 f⟩
  ·exact ih lo hi (by rw [Nat.sub_eq_zero_of_le (HH.mp e)];exact H7 _) h2 h3
theorem aj.DV {a b:Int}(hb:b≠0)(hs:b.natAbs < 1073741824):aj C (Kx .FloorDiv) (.int a) (.int b) (.int (a.fdiv b)):=aj.floordiv hb (HI hs)
noncomputable def bS:Option Nat->PV
 |none=> .none
 |some h=> .int h
abbrev Lt (C:Cfg)(p q:PV)(b:Bool):Prop:=aj C (HZ .Lt) p q (.bool b)
noncomputable abbrev Cx (a b c:Jm):I9:= .Assign [.Name "hi" a] (.Name "mid" b) c
noncomputable abbrev CS (a b c d e:Jm) (u:Tok):I9:= .Assign [.Name "lo" a] (.BinOp (.Name "mid" b) .Add (.Constant (.int 1) u c) d) e
theorem lh (L:Lw C)(left key:Bool){S:Sc}(hS:S.scope.names=(ai tb vE).names){xs:List PV}{px kv:PV}{lo:Nat}{hi:Option Nat}{j:Nat}(hz:xs.length<=sizeLine)(h1:lo<=j)(h2:j<=hi.getD xs.length)(h3:hi.getD xs.length<=xs.length)
 {p0 p1 p2 p3 p4 p5 p6 p7 p8 p9 WR WO Wb V3 W7 WQ Wz V' Y' Zj Y9 Zo Y3 p23 Z2 Z' Z9 p27 Zd p29 Zg ZJ Z6 Xr Yt Xn Yz Yi XO:Jm}{u1 u2 u3 u4 u5:Tok}{rs WI Wr:List I9}{e:Expr}
 (Vq:aj C (HZ .Is) kv .none (.bool key))
 (hB:(if key=true then WI else Wr)=[.While (.Compare (.Name "lo" p0) [.Lt] [.Name "hi" p1] p2) [.Assign [.Name "mid" p3] (.BinOp (.BinOp (.Name "lo" p4) .Add (.Name "hi" p5) p6) .FloorDiv (.Constant (.int 2) u1 p7) p8) p9,
  .If e [if left=true then CS WR WO Wb V3 W7 u2 else Cx WQ Wz V'] [if left=true then Cx WQ Wz V' else CS WR WO Wb V3 W7 u2] Y'] [] Zj])
 (he:∀l h m p,lo<=m->m < hi.getD xs.length->xs[m]? =some p->Tr C k S own (upd (aC [("a",.lst xs),("x",px),("lo",.int l),("hi",.int h),("key",kv)]) "mid" (.int (m:Nat))) e (if left=true then decide (m < j) else decide (j<=m)))
 (rm:ak A k)(hm:∀x,mine x=true)
 (X:St C W S own (aC [("a",.lst xs),("x",px),("lo",.int lo),("hi",bS hi),("key",kv)]) env s)(B:Bs C Wt mine t own env s)
 (fin:∀v J,Inv C J->ah C Wt t J->Rr C W J.heap v (.int j)->Q (.ret v) J):
 Hi C.M A (HA [.If (.Compare (.Name "lo" Y9) [.Lt] [.Constant (.int 0) u3 Zo] Y3) rs [] p23,
  .If (.Compare (.Name "hi" Z2) [.Is] [.Constant .none u4 Z'] Z9) [.Assign [.Name "hi" p27] (.Call (.Name "len" Zd) [.Name "a" p29] [] Zg) ZJ] [] Z6,
  .If (.Compare (.Name "key" Xr) [.Is] [.Constant .none u5 Yt] Xn) WI Wr Yz,.Return (some (.Name "lo" Yi)) XO] env) Q E s:=by
 have nm:∀x∈(["a","x","lo","hi","key","mid"]:List Str),S.scope.names.lookup x=some .local:=by rw [hS];decide+kernel
 have na:=nm "a" (by decide+kernel)
 have Um:=nm "lo" (by decide+kernel)
 have TN:=nm "hi" (by decide+kernel)
 have WN:=nm "key" (by decide+kernel)
 have TY:=nm "mid" (by decide+kernel)
 refine bH X B rm (Tr.conv (Tr.cmp (Ev.local Um (by k_extra"r") (by done)) Ev.int aj.ltI Th.bool rfl) (by rfl)) λs1 X1 B1=> ?_
 have QO:(sizeLine:Nat) < 2 ^ 62:=by decide
 have go:∀s2,St C W S own (aC [("a",.lst xs),("x",px),("lo",.int lo),("hi",.int (hi.getD xs.length)),("key",kv)]) env s2->Bs C Wt mine t own env s2->Hi C.M A (HA [.If (.Compare (.Name "key" Xr) [.Is] [.Constant .none u5 Yt] Xn) WI Wr Yz,.Return (some (.Name "lo" Yi)) XO] env) Q E s2:=by
  intro s2 X2 B2
  refine iI (Cr j _ lo (hi.getD xs.length) (Hk _) h1 h2) λn SM Sa VF=> ?_
  refine step_if X2 B2 rm (Tr.cmp (Ev.local WN (by k_extra"r") (by rfl)) Ev.none Vq Th.bool rfl) λs3 X3 B3=> ?_
  rw [hB]
  refine q7 X3 B3 rm n (λ_=>own) (λi=>aC [("a",.lst xs),("x",px),("lo",.int (ew j (lo,hi.getD xs.length) i).1),("hi",.int (ew j (lo,hi.getD xs.length) i).2),("key",kv)]) rfl rfl (λi hi=>Tr.conv (Tr.cmp (Ev.local Um (by k_extra"r") (by done)) (Ev.local TN (by k_extra"r") (by done)) aj.ltI Th.bool rfl) (by simpa using SM i hi))
   (Tr.conv (Tr.cmp (Ev.local Um (by k_extra"r") (by done)) (Ev.local TN (by k_extra"r") (by done)) aj.ltI Th.bool rfl) (by rw [Sa];simp)) (λi s4 Uj X4 B4=> ?_)
   (λs4 X4 B4=>Hq (cy X4 B4 rm (Ev.local Um (by k_extra"r") (by done)) λv s5 X5 B5 r=>fin v s5 X5.inv B5.aA (by rw [Sa] at r;exact r)))
  have Qc:=SM i Uj
  refine lZ (VF i (IB Uj)) λq1 q2 q3 q4=> ?_
  refine(show ew j (lo,hi.getD xs.length) (i+1)=dK j (ew j (lo,hi.getD xs.length) i) from rfl)▸?_
  generalize ew j (lo,hi.getD xs.length) i=st at *
  obtain⟨l,h⟩:=st
  dsimp only at Qc q1 q2 q3 q4 X4 ⊢
  have e2:(((l:Int)+(h:Int)).fdiv 2)=((l+h) / 2:Nat):=by
   rw [Int.fdiv_eq_ediv_of_nonneg _ (by decide)]
   simp
  refine az X4 B4 rm (Ev.conv (Ev.bin (Ev.bin (Ev.local Um (by k_extra"r") (by done)) (Ev.local TN (by k_extra"r") (by done)) aj.add) Ev.int (aj.DV (b:=2) (by decide) (by decide))) (by rw [e2])) TY rfl λs5 X5 B5=> ?_
  refine step_if X5 B5 rm (he _ _ _ _ (by lia) (by lia) (Hn (by lia))) λs6 X6 B6=> ?_
  have Yy:∀{R:Flow->Hh->Prop} {E':y'->Hh->Prop},j<=(l+h) / 2->(∀s7,St C W S own (aC [("a",.lst xs),("x",px),("lo",.int (dK j (l,h)).1),("hi",.int (dK j (l,h)).2),("key",kv)]) env s7->Bs C Wt mine t own env s7->R .next s7)->Hi C.M A (HA [Cx WQ Wz V'] env) R E' s6:=λhj hR=>
   az X6 B6 rm (Ev.local TY (by k_extra"r") (by done)) TN rfl λs7 X7 B7=>Hq (hR s7 (by unfold dK;refine(Hz (HH.mpr hj))▸?_;exact X7.to (by k_extra"rs")) B7)
  have XZ:∀{R:Flow->Hh->Prop} {E':y'->Hh->Prop},(l+h) / 2 < j->(∀s7,St C W S own (aC [("a",.lst xs),("x",px),("lo",.int (dK j (l,h)).1),("hi",.int (dK j (l,h)).2),("key",kv)]) env s7->Bs C Wt mine t own env s7->R .next s7)->Hi C.M A (HA [CS WR WO Wb V3 W7 u2] env) R E' s6:=λhj hR=>
   az (p:= .int (((l+h) / 2+1:Nat))) X6 B6 rm (Ev.conv (Ev.bin (Ev.local TY (by k_extra"r") (by done)) Ev.int aj.add) (by rfl)) Um rfl λs7 X7 B7=>Hq (hR s7 (by unfold dK;refine(HE hj)▸?_;exact X7.to (by k_extra"rs")) B7)
  cases left with
  |false=>
   by_cases hj:j<=(l+h) / 2
   ·rw [HE (by simpa using hj)];exact Yy hj λs7 X7 B7=>Hq ⟨X7,B7⟩
   ·rw [Hz (by simpa using hj)];exact XZ (NZ.mp hj) λs7 X7 B7=>Hq ⟨X7,B7⟩
  |true=>
   by_cases hj:(l+h) / 2 < j
   ·rw [HE (by simpa using hj)];exact XZ hj λs7 X7 B7=>Hq ⟨X7,B7⟩
   ·rw [Hz (by simpa using hj)];exact Yy (HH.mp hj) λs7 X7 B7=>Hq ⟨X7,B7⟩
 cases hi with
 |none=>
  refine step_if (b:=true) X1 B1 rm (Tr.cmp (Ev.local TN (by k_extra"r") (by done)) Ev.none aj.k9 Th.bool rfl) λs2 X2 B2=> ?_
  refine(HE rfl)▸?_
  exact az (p:= .int ((none:Option Nat).getD xs.length:Nat)) X2 B2 rm (Ev.a5 (Ev.BY L (by rw [hS];decide+kernel) (by fail) (by rfl)) (ab.cons (Ev.local na (by k_extra"r") (by rfl)) ab.nil λ_=>rfl) (cC.zb (by lia)) (λenv=>rfl) (λenv=>⟨_,_,rfl⟩)) TN rfl λs3 X3 B3=>Hq (go s3 (X3.to (by k_extra"rs")) B3)
 |some h=>exact bH X1 B1 rm (Tr.cmp (Ev.local TN (by k_extra"r") (by done)) Ev.none (aj.isNone rfl) Th.bool rfl) go
theorem sV (L:Lw C){q:Str}{code:y'}{xs:List PV}{px:PV}{lo:Nat}{hi:Option Nat}{j:Nat}(hz:xs.length<=sizeLine)(h1:lo<=j)(h2:j<=hi.getD xs.length)(h3:hi.getD xs.length<=xs.length)
 (lt:∀m p,lo<=m->m < hi.getD xs.length->xs[m]? =some p->Lt C px p (decide (j<=m)))
 (rm:ak A k)(hm:∀x,mine x=true)
 (X:St C W ⟨ai tb vE,q,code⟩ own (aC [("a",.lst xs),("x",px),("lo",.int lo),("hi",bS hi),("key",.none)]) env s)(B:Bs C Wt mine t own env s)
 (fin:∀v J,Inv C J->ah C Wt t J->Rr C W J.heap v (.int j)->Q (.ret v) J):Hi C.M A (HA (ay tb vE) env) Q E s:=by
 exact lh L false true (by rfl) hz h1 h2 h3 aj.k9 rfl (λl h m p hl hh hp=>Tr.cmp (Ev.var (by rfl) (by k_extra"r")) (Ev.iK (Ev.var (by rfl) (by k_extra"r")) (Ev.var (by rfl) (by k_extra"r")) (Je _) hp hz (λ_ _=>rfl)) (lt _ _ hl hh hp) Th.bool rfl) rm hm X B fin
theorem vU (L:Lw C){fa:He}{κ:PV->PV}(hf:cE C fa){q:Str}{code:y'}{xs:List PV}{px:PV}{lo:Nat}{hi:Option Nat}{j:Nat}(hz:xs.length<=sizeLine)(h1:lo<=j)(h2:j<=hi.getD xs.length)(h3:hi.getD xs.length<=xs.length)
 (lt:∀m p,lo<=m->m < hi.getD xs.length->xs[m]? =some p->Lt C px (κ p) (decide (j<=m)))
 (QY:∀m p,lo<=m->m < hi.getD xs.length->xs[m]? =some p->aO C k own (.ref fa) [p] [] (κ p))
 (rm:ak A k)(hm:∀x,mine x=true)
 (X:St C W ⟨ai tb vE,q,code⟩ own (aC [("a",.lst xs),("x",px),("lo",.int lo),("hi",bS hi),("key",.raw (.ref fa))]) env s)(B:Bs C Wt mine t own env s)
 (fin:∀v J,Inv C J->ah C Wt t J->Rr C W J.heap v (.int j)->Q (.ret v) J):Hi C.M A (HA (ay tb vE) env) Q E s:=by
 exact lh L false false (by rfl) hz h1 h2 h3 (aj.isNone rfl) rfl (λl h m p hl hh hp=>Tr.cmp (Ev.var (by rfl) (by k_extra"r")) (Ev.du (Ev.var (by rfl) (by k_extra"r")) hf (ab.cons (Ev.iK (Ev.var (by rfl) (by k_extra"r")) (Ev.var (by rfl) (by k_extra"r")) (Je _) hp hz (λ_ _=>rfl)) ab.nil) bR.nil (QY _ _ hl hh hp) (λenv=>⟨_,_,rfl⟩) (λenv=>rfl)) (lt _ _ hl hh hp) Th.bool rfl) rm hm X B fin
theorem tI (L:Lw C){q:Str}{code:y'}{xs:List PV}{px:PV}{lo:Nat}{hi:Option Nat}{j:Nat}(hz:xs.length<=sizeLine)(h1:lo<=j)(h2:j<=hi.getD xs.length)(h3:hi.getD xs.length<=xs.length)
 (lt:∀m p,lo<=m->m < hi.getD xs.length->xs[m]? =some p->Lt C p px (decide (m < j)))
 (rm:ak A k)(hm:∀x,mine x=true)
 (X:St C W ⟨ai tb xk,q,code⟩ own (aC [("a",.lst xs),("x",px),("lo",.int lo),("hi",bS hi),("key",.none)]) env s)(B:Bs C Wt mine t own env s)
 (fin:∀v J,Inv C J->ah C Wt t J->Rr C W J.heap v (.int j)->Q (.ret v) J):Hi C.M A (HA (ay tb xk) env) Q E s:=by
 exact lh L true true (by rfl) hz h1 h2 h3 aj.k9 rfl (λl h m p hl hh hp=>Tr.cmp (Ev.iK (Ev.var (by rfl) (by k_extra"r")) (Ev.var (by rfl) (by k_extra"r")) (Je _) hp hz (λ_ _=>rfl)) (Ev.var (by rfl) (by k_extra"r")) (lt _ _ hl hh hp) Th.bool rfl) rm hm X B fin
theorem xH (L:Lw C){fa:He}{κ:PV->PV}(hf:cE C fa){q:Str}{code:y'}{xs:List PV}{px:PV}{lo:Nat}{hi:Option Nat}{j:Nat}(hz:xs.length<=sizeLine)(h1:lo<=j)(h2:j<=hi.getD xs.length)(h3:hi.getD xs.length<=xs.length)
 (lt:∀m p,lo<=m->m < hi.getD xs.length->xs[m]? =some p->Lt C (κ p) px (decide (m < j)))
 (QY:∀m p,lo<=m->m < hi.getD xs.length->xs[m]? =some p->aO C k own (.ref fa) [p] [] (κ p))
 (rm:ak A k)(hm:∀x,mine x=true)
 (X:St C W ⟨ai tb xk,q,code⟩ own (aC [("a",.lst xs),("x",px),("lo",.int lo),("hi",bS hi),("key",.raw (.ref fa))]) env s)(B:Bs C Wt mine t own env s)
 (fin:∀v J,Inv C J->ah C Wt t J->Rr C W J.heap v (.int j)->Q (.ret v) J):Hi C.M A (HA (ay tb xk) env) Q E s:=by
 exact lh L true false (by rfl) hz h1 h2 h3 (aj.isNone rfl) rfl (λl h m p hl hh hp=>Tr.cmp (Ev.du (Ev.var (by rfl) (by k_extra"r")) hf (ab.cons (Ev.iK (Ev.var (by rfl) (by k_extra"r")) (Ev.var (by rfl) (by k_extra"r")) (Je _) hp hz (λ_ _=>rfl)) ab.nil) bR.nil (QY _ _ hl hh hp) (λenv=>⟨_,_,rfl⟩) (λenv=>rfl)) (Ev.var (by rfl) (by k_extra"r")) (lt _ _ hl hh hp) Th.bool rfl) rm hm X B fin
theorem r7:q9 (bM tb vE):=⟨rfl,⟨_,_,_,_,_,_,_,_,rfl⟩,⟨_,_,rfl⟩,rfl,rfl⟩
theorem rW:q9 (bM tb xk):=⟨rfl,⟨_,_,_,_,_,_,_,_,rfl⟩,⟨_,_,rfl⟩,rfl,rfl⟩
theorem tS:q9 (bM tb yD):=⟨rfl,⟨_,_,_,_,_,_,_,_,rfl⟩,⟨_,_,rfl⟩,rfl,rfl⟩
theorem td:q9 (bM tb yE):=⟨rfl,⟨_,_,_,_,_,_,_,_,rfl⟩,⟨_,_,rfl⟩,rfl,rfl⟩
theorem tc.bind {fa:He}{i:Nat}(F:tc C fa i)(hP:q9 (bM tb i))(iv:Inv C s):∃fd t,FnAt C fa fd (ay tb i)/\fd.scope=ai tb i/\∀(vs:List y')(kw r:List (Str×y')),
 ((kw=[]/\∃a x lo hi,vs=[a,x,lo,hi]/\r=([("a",a),("x",x),("lo",lo),("hi",hi),("key",.none)]:List (Str×y')))\/
  (kw=[]/\∃a x,vs=[a,x]/\r=([("a",a),("x",x),("lo",.int 0 t),("hi",.none),("key",.none)]:List (Str×y')))\/
  (∃ky,kw=[(("key":Str),ky)]/\((∃a x lo hi,vs=[a,x,lo,hi]/\r=([("a",a),("x",x),("lo",lo),("hi",hi),("key",ky)]:List (Str×y')))\/
   (∃a x,vs=[a,x]/\r=([("a",a),("x",x),("lo",.int 0 t),("hi",.none),("key",ky)]:List (Str×y')))\/
   (∃a x lo,vs=[a,x,lo]/\r=([("a",a),("x",x),("lo",lo),("hi",.none),("key",ky)]:List (Str×y'))))))->BindsTo s fd ⟨vs,kw⟩ r:=by
 obtain⟨fd,h1,h2,h3,⟨T,o,t,d1,d2,d3,d4⟩,D,m,e1,e2,e3,e4⟩:=F.ex
 exact⟨fd,t,h1,h2,λvs kw r h=>bindB (by rw [h3];exact hP) d1 (iv.old _ _ d2 d3) d4 e1 (iv.ns e2 e3) e4 vs kw r h⟩
theorem eQ {a x lo hi ky:y'}:(([("a",a),("x",x),("lo",lo),("hi",hi),("key",ky)]:List (Str×y')).map (·.1)).Nodup:=by
 show ([("a":Str),"x","lo","hi","key"]:List Str).Nodup
 decide+kernel
theorem eW {fd:Jq}{i:Nat}(hi:i=yD\/i=vE\/i=yE\/i=xk)(h:fd.scope=ai tb i){a x lo h' ky:y'}:∀y∈([("a",a),("x",x),("lo",lo),("hi",h'),("key",ky)]:List (Str×y')),fd.scope.names.lookup y.1=some .local\/fd.scope.names.lookup y.1=some .cell:=by
 rw [h]
 intro y hy
 left
 have e:y.1∈([("a":Str),"x","lo","hi","key"]:List Str):=by
  simp only [Hc,H0,or_false] at hy ⊢
  rcases hy with rfl |rfl |rfl |rfl |rfl <;> simp
 have:∀z∈([("a":Str),"x","lo","hi","key"]:List Str),(ai tb i).names.lookup z=some .local:=by
  rcases hi with rfl |rfl |rfl |rfl <;> decide+kernel
 exact this _ e
theorem fe.inv2 {h:Ho}{vs:List y'}{p q:PV}(r:fe C W h vs [p,q]):∃v u,vs=[v,u]/\Rr C W h v p/\Rr C W h u q:=by
 obtain⟨v,r1,rfl,h1,u,r2,rfl,h2,h3⟩:=r
 refine(show r2=[] from h3)▸?_
 exact⟨v,u,rfl,h1,h2⟩
theorem fe.uY {h:Ho}{vs:List y'}{p q r t:PV}(x:fe C W h vs [p,q,r,t]):∃a b c d,vs=[a,b,c,d]/\Rr C W h a p/\Rr C W h b q/\Rr C W h c r/\Rr C W h d t:=by
 obtain⟨v,r1,rfl,h1,u,r2,rfl,h2,h3⟩:=x
 refine bo (fe.inv2 h3) λc d e h4 h5=> ?_
 exact⟨v,u,c,d,by rw [e],h1,h2,h4,h5⟩
theorem fe.inv1 {h:Ho}{vs:List y'}{p:PV}(r:fe C W h vs [p]):∃v,vs=[v]/\Rr C W h v p:=by
 refine bo r λv r1 P8 h1 h3=> ?_;refine P8▸?_
 refine(show r1=[] from h3)▸?_
 exact⟨v,rfl,h1⟩
theorem fe.FJ {h:Ho}{vs:List y'}{p q r:PV}(x:fe C W h vs [p,q,r]):∃a b c,vs=[a,b,c]/\Rr C W h a p/\Rr C W h b q/\Rr C W h c r:=by
 refine bo x λv r1 P8 h1 h3=> ?_;refine P8▸?_
 refine bo (fe.inv2 h3) λc d e h4 h5=> ?_
 exact⟨v,c,d,by rw [e],h1,h4,h5⟩
theorem dz.iT {h:Ho}{kvs:List (Str×y')}(r:dz C W h kvs []):kvs=[]:=by cases r;rfl
theorem dz.inv1 {h:Ho}{kvs:List (Str×y')}{x:Str}{p:PV}(r:dz C W h kvs [(x,p)]):∃v,kvs=[(x,v)]/\Rr C W h v p:=by
 cases r with
 |cons h1 h2=>cases h2;exact⟨_,rfl,h1⟩
theorem CZ (L:Lw C){xs:List PV}{px:PV}{lo:Nat}{hi:Option Nat}{j:Nat}(hz:xs.length<=sizeLine)(h1:lo<=j)(h2:j<=hi.getD xs.length)(h3:hi.getD xs.length<=xs.length)
 (lt:∀m p,lo<=m->m < hi.getD xs.length->xs[m]? =some p->Lt C px p (decide (j<=m))):aO C (k+1) [] (.ref vH) [.lst xs,px,.int lo,bS hi] [] (.int j):=λW A s vs kvs rm g ho r1 r2=>by
 obtain⟨va,vx,vl,vh,rfl,ra,rx,rl,rh⟩:=r1.uY
 rw [r2.iT]
 refine bo (L.br.bind r7 g.inv) λfd t F Ql hb=> ?_
 refine dE (own:=[]) (args:=⟨[va,vx,vl,vh],[]⟩) L.ok F g (by simp) rm (hb _ _ _ (.inl ⟨rfl,_,_,_,_,rfl,rfl⟩)) (.cons ra (.cons rx (.cons rl (.cons rh (.cons rfl .nil)))):dz C W s.heap [("a",va),("x",vx),("lo",vl),("hi",vh),("key",.none)] [("a",.lst xs),("x",px),("lo",.int lo),("hi",bS hi),("key",.none)]) eQ (eW (.inr (.inl rfl)) Ql) ?_
 intro Lo env J hL X B A' QM
 have X':St C (Lo::W) ⟨ai tb vE,fd.qualname ++ ".<locals>.",fd.code⟩ [] (aC [("a",.lst xs),("x",px),("lo",.int lo),("hi",bS hi),("key",.none)]) env J:=by
  refine Ql▸?_;exact X
 exact sV L hz h1 h2 h3 lt QM (λ_=>rfl) X' B λv Qj i e r=>⟨e,r.drop λa ha=>j' _ ha⟩
theorem zP (L:Lw C){fa:He}{κ:PV->PV}(hf:cE C fa){xs:List PV}{px:PV}{lo:Nat}{hi:Option Nat}{j:Nat}(hz:xs.length<=sizeLine)(h1:lo<=j)(h2:j<=hi.getD xs.length)(h3:hi.getD xs.length<=xs.length)
 (lt:∀m p,lo<=m->m < hi.getD xs.length->xs[m]? =some p->Lt C px (κ p) (decide (j<=m)))
 (QY:∀m p,lo<=m->m < hi.getD xs.length->xs[m]? =some p->aO C k [] (.ref fa) [p] [] (κ p)):aO C (k+1) [] (.ref vH) [.lst xs,px,.int lo,bS hi] [("key",.raw (.ref fa))] (.int j):=λW A s vs kvs rm g ho r1 r2=>by
 obtain⟨va,vx,vl,vh,rfl,ra,rx,rl,rh⟩:=r1.uY
 refine ae r2.inv1 λvk Qq rk=> ?_;refine Qq▸?_
 refine bo (L.br.bind r7 g.inv) λfd t F Ql hb=> ?_
 refine dE (own:=[]) (args:=⟨[va,vx,vl,vh],[("key",vk)]⟩) L.ok F g (by simp) rm (hb _ _ _ (.inr (.inr ⟨_,rfl,.inl ⟨_,_,_,_,rfl,rfl⟩⟩))) (.cons ra (.cons rx (.cons rl (.cons rh (.cons rk .nil))))) eQ (eW (.inr (.inl rfl)) Ql) ?_
 intro Lo env J hL X B A' QM
 have X':St C (Lo::W) ⟨ai tb vE,fd.qualname ++ ".<locals>.",fd.code⟩ [] (aC [("a",.lst xs),("x",px),("lo",.int lo),("hi",bS hi),("key",.raw (.ref fa))]) env J:=by
  refine Ql▸?_;exact X
 exact vU L hf hz h1 h2 h3 lt QY QM (λ_=>rfl) X' B λv Qj i e r=>⟨e,r.drop λa ha=>j' _ ha⟩
theorem Dh (L:Lw C){xs:List PV}{px:PV}{lo:Nat}{hi:Option Nat}{j:Nat}(hz:xs.length<=sizeLine)(h1:lo<=j)(h2:j<=hi.getD xs.length)(h3:hi.getD xs.length<=xs.length)
 (lt:∀m p,lo<=m->m < hi.getD xs.length->xs[m]? =some p->Lt C p px (decide (m < j))):aO C (k+1) [] (.ref vM) [.lst xs,px,.int lo,bS hi] [] (.int j):=λW A s vs kvs rm g ho r1 r2=>by
 obtain⟨va,vx,vl,vh,rfl,ra,rx,rl,rh⟩:=r1.uY
 rw [r2.iT]
 refine bo (L.bL.bind rW g.inv) λfd t F Ql hb=> ?_
 refine dE (own:=[]) (args:=⟨[va,vx,vl,vh],[]⟩) L.ok F g (by simp) rm (hb _ _ _ (.inl ⟨rfl,_,_,_,_,rfl,rfl⟩)) (.cons ra (.cons rx (.cons rl (.cons rh (.cons rfl .nil)))):dz C W s.heap [("a",va),("x",vx),("lo",vl),("hi",vh),("key",.none)] [("a",.lst xs),("x",px),("lo",.int lo),("hi",bS hi),("key",.none)]) eQ (eW (.inr (.inr (.inr rfl))) Ql) ?_
 intro Lo env J hL X B A' QM
 have X':St C (Lo::W) ⟨ai tb xk,fd.qualname ++ ".<locals>.",fd.code⟩ [] (aC [("a",.lst xs),("x",px),("lo",.int lo),("hi",bS hi),("key",.none)]) env J:=by
  refine Ql▸?_;exact X
 exact tI L hz h1 h2 h3 lt QM (λ_=>rfl) X' B λv Qj i e r=>⟨e,r.drop λa ha=>j' _ ha⟩
theorem Ad (L:Lw C){fa:He}{κ:PV->PV}(hf:cE C fa){xs:List PV}{px:PV}{lo:Nat}{hi:Option Nat}{j:Nat}(hz:xs.length<=sizeLine)(h1:lo<=j)(h2:j<=hi.getD xs.length)(h3:hi.getD xs.length<=xs.length)
 (lt:∀m p,lo<=m->m < hi.getD xs.length->xs[m]? =some p->Lt C (κ p) px (decide (m < j)))
 (QY:∀m p,lo<=m->m < hi.getD xs.length->xs[m]? =some p->aO C k [] (.ref fa) [p] [] (κ p)):aO C (k+1) [] (.ref vM) [.lst xs,px,.int lo,bS hi] [("key",.raw (.ref fa))] (.int j):=λW A s vs kvs rm g ho r1 r2=>by
 obtain⟨va,vx,vl,vh,rfl,ra,rx,rl,rh⟩:=r1.uY
 refine ae r2.inv1 λvk Qq rk=> ?_;refine Qq▸?_
 refine bo (L.bL.bind rW g.inv) λfd t F Ql hb=> ?_
 refine dE (own:=[]) (args:=⟨[va,vx,vl,vh],[("key",vk)]⟩) L.ok F g (by simp) rm (hb _ _ _ (.inr (.inr ⟨_,rfl,.inl ⟨_,_,_,_,rfl,rfl⟩⟩))) (.cons ra (.cons rx (.cons rl (.cons rh (.cons rk .nil))))) eQ (eW (.inr (.inr (.inr rfl))) Ql) ?_
 intro Lo env J hL X B A' QM
 have X':St C (Lo::W) ⟨ai tb xk,fd.qualname ++ ".<locals>.",fd.code⟩ [] (aC [("a",.lst xs),("x",px),("lo",.int lo),("hi",bS hi),("key",.raw (.ref fa))]) env J:=by
  refine Ql▸?_;exact X
 exact xH L hf hz h1 h2 h3 lt QY QM (λ_=>rfl) X' B λv Qj i e r=>⟨e,r.drop λa ha=>j' _ ha⟩
theorem fj.A7 {o a:Expr}{args:List Expr}{name:Str}{apos:Jm}{id:String}{aa:He}{xs:List PV}{ps:List PV}{r:PV}(ho:Ev C k sc own ρ o (.raw (.ref aa)))(hw:(aa,PV.lst xs)∈own)(ha:ab C k sc own ρ (a::args) ps)
 (hc:∀W A env s t Wt vs,ak A k->St C W sc own ρ env s->Bs C Wt mine t own env s->fe C W s.heap vs ps->Hi C.M A (Nh (.builtin id) (.ref aa::vs)) (λv J=>St C W sc own' ρ env J/\Bs C Wt mine t own' env J/\Rr C W J.heap v r) (λ_ _=>False) s)
 (Qf:∀env,Jk o name env (IQ o env)=IQ o env)
 (QG:∀env,((Jo pos (HG (a::args) env)).all (λx=> !x.1) && (J1 pos (I8 [] env)).all (λx=>x.1.isSome)
  && decide ((a::args).length+([]:List JN).length+(if([]:List JN).isEmpty then 0 else 1) < 30))=true)
 (Qe:(apos.endLine==pos.line)=true)(slot:Slot "list" name id)(RT:typeOf (.builtin id)=pure (.type "method_descriptor"))
 (he:∀env,HG (a::args) env=(false,IQ a env)::HG args env)(QB:∀env,(Jo pos (HG args env)).any (·.1)=false):
 fj C k sc mine own own' ρ (.Call (.Attribute o name apos) (a::args) [] pos) r:=λW A env s t Wt rm X B=>by
 refine Jl (Qf env) (QG env) Qe Ll slot RT (G' (ho W A env s rm X) ?_ λ_ _ q=>q.elim)
 rintro v s1 ⟨e1,r1⟩
 refine(show v= .ref aa from r1)▸?_
 have X1:=X.aA e1
 refine cZ (X1.owns _ hw) λ_ z3 _=> ?_;refine aL z3 λvs n g _=> ?_
 refine⟨(aQ g).typeIs,λb q=>by cases q;exact⟨_,g,rfl⟩,LP (G' (ha W A env s1 pos rm X1) ?_ λ_ _ q=>q.elim) (he env) (QB env)⟩
 rintro us s2 ⟨e2,r2⟩
 exact hc W A env s2 t Wt us rm (X1.aA e2) ((B.step e1).step e2) r2
theorem fF {a:He}{p:PV}:(aE own a p).map (·.1)=own.map (·.1):=by
 unfold aE
 rw [HB]
 refine Ik λy _=> ?_
 simp only [K9]
 split
 ·rename_i h;exact h.symm
 ·rfl
theorem fj.insert {o ej ex:Expr}{apos:Jm}{aa:He}{xs:List PV}{j:Nat}{p:PV}(ho:Ev C k sc own ρ o (.raw (.ref aa)))(hw:(aa,PV.lst xs)∈own)(hj:Ev C k sc own ρ ej (.int j))(hx:Ev C k sc own ρ ex p)
 (hz:xs.length<=sizeLine)(ZQ:j<=xs.length)
 (Qf:∀env,Jk o "insert" env (IQ o env)=IQ o env)
 (QG:∀env,((Jo pos (HG [ej,ex] env)).all (λx=> !x.1) && (J1 pos (I8 [] env)).all (λx=>x.1.isSome)
  && decide ([ej,ex].length+([]:List JN).length+(if([]:List JN).isEmpty then 0 else 1) < 30))=true)
 (Qe:(apos.endLine==pos.line)=true)
 (he:∀env,HG [ej,ex] env=(false,IQ ej env)::HG [ex] env)(R0:∀env,HG [ex] env=(false,IQ ex env)::HG [] env)(QB:∀env,(Jo pos (HG [ex] env)).any (·.1)=false):
 fj C k sc mine own (aE own aa (.lst (bw xs j p))) ρ (.Call (.Attribute o "insert" apos) [ej,ex] [] pos) .none:=
 fj.A7 ho hw (ab.cons hj (ab.cons hx ab.nil R0) he) (λW A env s t Wt vs rm X B r=>by
  refine bo r.inv2 λv1 v2 Ud Ub r2=> ?_;refine Ud▸?_;refine cA Ub λtk TQ=> ?_;rw [TQ]
  exact rX X B hw r2 hz ZQ rfl λJ X' B'=>⟨X',B',rfl⟩) Qf QG Qe PySem.F.slot_list_insert rfl he QB
theorem vW {f:He->Option PV}{hi:Option Nat}:res f (bS hi)=bS hi:=by cases hi <;> rfl
theorem aO.mono {k':Nat}{f:y'}{ps:List PV}{Qo:List (Str×PV)}{r:PV}(h:aO C k own f ps Qo r)(le:k<=k'):aO C k' own f ps Qo r:=λW A s vs kvs rm=>h W A s vs kvs (rm.mono le)
theorem yL (L:Lw C){q:Str}{code:y'}{aa:He}{xs:List PV}{px:PV}{lo:Nat}{hi:Option Nat}{j n:Nat}(hw:(aa,PV.lst xs)∈own)(hj:j<=xs.length)
 (hz:xs.length<=sizeLine)(hb:aO C k own (.ref vH) [.raw (.ref aa),px,.int lo,bS hi] [] (.int j))
 (rm:ak A k)(hm:∀x,mine x=true)
 (X:St C W ⟨ai tb yD,q,code⟩ own (aC [("a",.raw (.ref aa)),("x",px),("lo",.int lo),("hi",bS hi),("key",.none)]) env s)(B:Bs C Wt mine t own env s)
 (fin:∀J Qa,St C W ⟨ai tb yD,q,code⟩ (aE own aa (.lst (bw xs j px))) Qa env J->Bs C Wt mine t (aE own aa (.lst (bw xs j px))) env J->Q .next J):Hi C.M A (HA (ay tb yD) env) Q E s:=by
 conv in ay _ _=>whnf
 refine step_if (b:=true) X B rm (by k_extra"e") ?_
 intro s1 X1 B1
 rw [HE rfl]
 refine ae L.br.ex λfd F _=> ?_
 refine az (p:= .int j) X1 B1 rm (Ev.du (by k_extra"e") F.fo (by k_extra"e") bR.nil hb (λenv=>⟨_,_,rfl⟩) (λenv=>rfl)) (by rfl) rfl ?_
 intro s2 X2 B2
 refine Hq ?_
 dsimp only
 refine b6 X2 B2 rm (fj.insert (by k_extra"e") hw (by k_extra"e") (by k_extra"e") hz hj (λ_=>rfl) (λ_=>rfl) rfl (λ_=>rfl) (λ_=>rfl) (λ_=>rfl)) (λ_=>rfl) ?_
 intro s3 X3 B3
 exact Hq (fin s3 _ X3 B3)
theorem vK (L:Lw C){fa:He}{kx:PV}(hf:cE C fa){q:Str}{code:y'}{aa:He}{xs:List PV}{px:PV}{lo:Nat}{hi:Option Nat}{j n:Nat}(hw:(aa,PV.lst xs)∈own)(hj:j<=xs.length)
 (Wd:aO C k own (.ref fa) [px] [] kx)(hz:xs.length<=sizeLine)(hb:aO C k own (.ref vH) [.raw (.ref aa),kx,.int lo,bS hi] [("key",.raw (.ref fa))] (.int j))
 (rm:ak A k)(hm:∀x,mine x=true)
 (X:St C W ⟨ai tb yD,q,code⟩ own (aC [("a",.raw (.ref aa)),("x",px),("lo",.int lo),("hi",bS hi),("key",.raw (.ref fa))]) env s)(B:Bs C Wt mine t own env s)
 (fin:∀J Qa,St C W ⟨ai tb yD,q,code⟩ (aE own aa (.lst (bw xs j px))) Qa env J->Bs C Wt mine t (aE own aa (.lst (bw xs j px))) env J->Q .next J):Hi C.M A (HA (ay tb yD) env) Q E s:=by
 conv in ay _ _=>whnf
 refine step_if (b:=false) X B rm (by k_extra"e") ?_
 intro s1 X1 B1
 rw [Hz (by decide)]
 refine ae L.br.ex λfd F _=> ?_
 refine az (p:= .int j) X1 B1 rm (Ev.du (by k_extra"e") F.fo (ab.cons (Ev.var (by rfl) (by k_extra"r")) (ab.cons (Ev.du (Ev.var (by done) (by k_extra"r")) hf (ab.cons (Ev.var (by rfl) (by k_extra"r")) ab.nil) bR.nil Wd (λenv=>⟨_,_,rfl⟩) (λenv=>rfl)) (by k_extra"e"))) (by k_extra"e") hb (λenv=>⟨_,_,rfl⟩) (λenv=>rfl)) (by rfl) rfl ?_
 intro s2 X2 B2
 refine Hq ?_
 dsimp only
 refine b6 X2 B2 rm (fj.insert (by k_extra"e") hw (by k_extra"e") (by k_extra"e") hz hj (λ_=>rfl) (λ_=>rfl) rfl (λ_=>rfl) (λ_=>rfl) (λ_=>rfl)) (λ_=>rfl) ?_
 intro s3 X3 B3
 exact Hq (fin s3 _ X3 B3)
theorem Am (L:Lw C){q:Str}{code:y'}{aa:He}{xs:List PV}{px:PV}{lo:Nat}{hi:Option Nat}{j n:Nat}(hw:(aa,PV.lst xs)∈own)(hj:j<=xs.length)
 (hz:xs.length<=sizeLine)(hb:aO C k own (.ref vM) [.raw (.ref aa),px,.int lo,bS hi] [] (.int j))
 (rm:ak A k)(hm:∀x,mine x=true)
 (X:St C W ⟨ai tb yE,q,code⟩ own (aC [("a",.raw (.ref aa)),("x",px),("lo",.int lo),("hi",bS hi),("key",.none)]) env s)(B:Bs C Wt mine t own env s)
 (fin:∀J Qa,St C W ⟨ai tb yE,q,code⟩ (aE own aa (.lst (bw xs j px))) Qa env J->Bs C Wt mine t (aE own aa (.lst (bw xs j px))) env J->Q .next J):Hi C.M A (HA (ay tb yE) env) Q E s:=by
 conv in ay _ _=>whnf
 refine step_if (b:=true) X B rm (by k_extra"e") ?_
 intro s1 X1 B1
 rw [HE rfl]
 refine ae L.bL.ex λfd F _=> ?_
 refine az (p:= .int j) X1 B1 rm (Ev.du (by k_extra"e") F.fo (by k_extra"e") bR.nil hb (λenv=>⟨_,_,rfl⟩) (λenv=>rfl)) (by rfl) rfl ?_
 intro s2 X2 B2
 refine Hq ?_
 dsimp only
 refine b6 X2 B2 rm (fj.insert (by k_extra"e") hw (by k_extra"e") (by k_extra"e") hz hj (λ_=>rfl) (λ_=>rfl) rfl (λ_=>rfl) (λ_=>rfl) (λ_=>rfl)) (λ_=>rfl) ?_
 intro s3 X3 B3
 exact Hq (fin s3 _ X3 B3)
theorem xw (L:Lw C){fa:He}{kx:PV}(hf:cE C fa){q:Str}{code:y'}{aa:He}{xs:List PV}{px:PV}{lo:Nat}{hi:Option Nat}{j n:Nat}(hw:(aa,PV.lst xs)∈own)(hj:j<=xs.length)
 (Wd:aO C k own (.ref fa) [px] [] kx)(hz:xs.length<=sizeLine)(hb:aO C k own (.ref vM) [.raw (.ref aa),kx,.int lo,bS hi] [("key",.raw (.ref fa))] (.int j))
 (rm:ak A k)(hm:∀x,mine x=true)
 (X:St C W ⟨ai tb yE,q,code⟩ own (aC [("a",.raw (.ref aa)),("x",px),("lo",.int lo),("hi",bS hi),("key",.raw (.ref fa))]) env s)(B:Bs C Wt mine t own env s)
 (fin:∀J Qa,St C W ⟨ai tb yE,q,code⟩ (aE own aa (.lst (bw xs j px))) Qa env J->Bs C Wt mine t (aE own aa (.lst (bw xs j px))) env J->Q .next J):Hi C.M A (HA (ay tb yE) env) Q E s:=by
 conv in ay _ _=>whnf
 refine step_if (b:=false) X B rm (by k_extra"e") ?_
 intro s1 X1 B1
 rw [Hz (by decide)]
 refine ae L.bL.ex λfd F _=> ?_
 refine az (p:= .int j) X1 B1 rm (Ev.du (by k_extra"e") F.fo (ab.cons (Ev.var (by rfl) (by k_extra"r")) (ab.cons (Ev.du (Ev.var (by done) (by k_extra"r")) hf (ab.cons (Ev.var (by rfl) (by k_extra"r")) ab.nil) bR.nil Wd (λenv=>⟨_,_,rfl⟩) (λenv=>rfl)) (by k_extra"e"))) (by k_extra"e") hb (λenv=>⟨_,_,rfl⟩) (λenv=>rfl)) (by rfl) rfl ?_
 intro s2 X2 B2
 refine Hq ?_
 dsimp only
 refine b6 X2 B2 rm (fj.insert (by k_extra"e") hw (by k_extra"e") (by k_extra"e") hz hj (λ_=>rfl) (λ_=>rfl) rfl (λ_=>rfl) (λ_=>rfl) (λ_=>rfl)) (λ_=>rfl) ?_
 intro s3 X3 B3
 exact Hq (fin s3 _ X3 B3)
inductive Form (pa px:PV) (lo:Nat) (hi:Option Nat) (pk:PV):List PV->List (Str×PV)->Prop
 |full:pk= .none->Form pa px lo hi pk [pa,px,.int lo,bS hi] []
 |short:pk= .none->lo=0->hi=none->Form pa px lo hi pk [pa,px] []
 |fullK:Form pa px lo hi pk [pa,px,.int lo,bS hi] [("key",pk)]
 |shortK:lo=0->hi=none->Form pa px lo hi pk [pa,px] [("key",pk)]
theorem ez.drop {L:He}(h:ez C (L::W) own s)(hL:∀y∈own,y.1∈W):ez C W own s:=λx hx=>by
 refine cZ (h x hx) λh1 h2 h3=> ?_
 exact⟨hL x hx,h2.mono (λb o n g=>⟨λq=>n (q.elim .inl λq=> .inr (j' _ q)),g⟩) (λo g=>g),h3⟩
theorem ig {fa:He}{i:Nat}{pa px pk r:PV}{lo:Nat}{hi:Option Nat}{ps:List PV}{Qo:List (Str×PV)}(L:Lw C)(F:tc C fa i)(hP:q9 (bM tb i))(Sj:i=yD\/i=vE\/i=yE\/i=xk)(hF:Form pa px lo hi pk ps Qo)(Qb:own'.map (·.1)=own.map (·.1))
 (h:∀W A env s t Wt q code,ak A k->St C W ⟨ai tb i,q,code⟩ own (aC [("a",pa),("x",px),("lo",.int lo),("hi",bS hi),("key",pk)]) env s->Bs C Wt (λ_=>true) t own env s->
  Hi C.M A (HA (ay tb i) env) (λf J=>(∃sc Qa,St C W sc own' Qa env J)/\Bs C Wt (λ_=>true) t own' env J/\Rr C W J.heap (match f with | .ret v=>v |_=> .none) r) (λ_ _=>False) s):
 gX C (k+1) own own' (.ref fa) ps Qo r:=λW A s vs kvs rm g ho r1 r2=>by
 refine bo (F.bind hP g.inv) λfd t F Ql hb=> ?_
 have fin:∀va vx vl vh vk,BindsTo s fd ⟨vs,kvs⟩ [("a",va),("x",vx),("lo",vl),("hi",vh),("key",vk)]->Rr C W s.heap va pa->Rr C W s.heap vx px->Rr C W s.heap vl (.int lo)->Rr C W s.heap vh (bS hi)->Rr C W s.heap vk pk->
  Hi C.M A (Nh (.ref fa) vs kvs) (λv J=>ah C (own.map (·.1)) s J/\ez C W own' J/\Rr C W J.heap v r) (λ_ _=>False) s:=by
  intro va vx vl vh vk Z0 ra rx rl rh rk
  refine dE (own:=own) (args:=⟨vs,kvs⟩) L.ok F g ho rm Z0 (.cons ra (.cons rx (.cons rl (.cons rh (.cons rk .nil))))) eQ (eW Sj Ql) ?_
  intro Lo env J hL X B A' QM
  have X':St C (Lo::W) ⟨ai tb i,fd.qualname ++ ".<locals>.",fd.code⟩ own (aC [("a",pa),("x",px),("lo",.int lo),("hi",bS hi),("key",pk)]) env J:=by
   refine Ql▸?_;exact X
  refine G' (h _ A' env J _ _ _ _ QM X' B) ?_ λ_ _ q=>q
  intro f Qj zz;refine cZ zz λz3 B2 rr=> ?_;refine fB z3 λsc Qa X2=> ?_
  refine⟨B2.aA,?_,rr.drop λa ha=>j' _ ha⟩
  have x2:ez C (Lo::W) own' Qj:=X2.owns
  refine x2.drop λy hy=> ?_
  have:y.1∈own'.map (·.1):=Hd.mpr ⟨y,hy,rfl⟩
  rw [Qb] at this
  refine ae (Hd.mp this) λz hz e=> ?_
  refine e▸?_
  exact(ho z hz).1
 cases hF with
 |full e=>
  subst e
  obtain⟨va,vx,vl,vh,rfl,ra,rx,rl,rh⟩:=r1.uY
  cases r2.iT
  exact fin _ _ _ _ _ (hb _ _ _ (.inl ⟨rfl,_,_,_,_,rfl,rfl⟩)) ra rx rl rh rfl
 |short e e1 e2=>
  subst e e1 e2
  obtain⟨va,vx,rfl,ra,rx⟩:=r1.inv2
  cases r2.iT
  exact fin _ _ _ _ _ (hb _ _ _ (.inr (.inl ⟨rfl,_,_,rfl,rfl⟩))) ra rx ⟨_,rfl⟩ rfl rfl
 |fullK=>
  obtain⟨va,vx,vl,vh,rfl,ra,rx,rl,rh⟩:=r1.uY
  refine ae r2.inv1 λvk Qq rk=> ?_;subst Qq
  exact fin _ _ _ _ _ (hb _ _ _ (.inr (.inr ⟨_,rfl,.inl ⟨_,_,_,_,rfl,rfl⟩⟩))) ra rx rl rh rk
 |shortK e1 e2=>
  subst e1 e2
  obtain⟨va,vx,rfl,ra,rx⟩:=r1.inv2
  obtain⟨vk,rfl,rk⟩:=r2.inv1
  exact fin _ _ _ _ _ (hb _ _ _ (.inr (.inr ⟨_,rfl,.inr (.inl ⟨_,_,rfl,rfl⟩)⟩))) ra rx ⟨_,rfl⟩ rfl rk
theorem jx {aa:He}{xs:List PV}{px:PV}{lo n:Nat}{hi:Option Nat}(hw:own.lookup aa=some (.lst xs)):dB (bG own (n+1)) [.raw (.ref aa),px,.int lo,bS hi]=[.lst (dB (bG own n) xs),res (bG own (n+1)) px,.int lo,bS hi]:=by
 simp only [k7,k5,vW]
 rw [show res (bG own (n+1)) (.raw (.ref aa))= .lst (dB (bG own n) xs) from by rw [jU,gu,hw] <;> rfl,show res (bG own (n+1)) (.int lo)= .int lo from rfl]
theorem ft (f:He->Option PV)(l:List PV):(dB f l).length=l.length:=by rw [ll];simp
noncomputable abbrev Seen (own:Own) (n:Nat) (xs:List PV):List PV:=dB (bG own n) xs
theorem wK (L:Lw C){aa:He}{xs:List PV}{px:PV}{lo:Nat}{hi:Option Nat}{j:Nat}{ps:List PV}{Qo:List (Str×PV)}(n:Nat)(hF:Form (.raw (.ref aa)) px lo hi .none ps Qo)(hw:own.lookup aa=some (.lst xs))
 (hz:xs.length<=sizeLine)(h1:lo<=j)(h2:j<=hi.getD xs.length)(h3:hi.getD xs.length<=xs.length)
 (lt:∀C',C.Le C'->∀m p,lo<=m->m < hi.getD xs.length->(Seen own n xs)[m]? =some p->Lt C' (res (bG own (n+1)) px) p (decide (j<=m))):
 gX C (k+2) own (aE own aa (.lst (bw xs j px))) (.ref Bx) ps Qo .none:=by
 have hb:aO C (k+1) own (.ref vH) [.raw (.ref aa),px,.int lo,bS hi] [] (.int j):=aO.frozen (n+1) trivial L.ok λC' l=>by
  rw [jx hw]
  have hl:=ft (bG own n) xs
  exact CZ (L.le l) (by rw [hl];exact hz) h1 (by rw [hl];exact h2) (by rw [hl];exact h3) (by refine hl▸?_;exact lt C' l)
 refine ig L L.ir tS (.inl rfl) hF fF λW A env s t Wt q code rm X B=> ?_
 exact yL (n:=n) L (lookup_mem hw) (Hf h2 h3) hz hb rm (λ_=>rfl) X B λJ Qa X' B'=>⟨⟨_,_,X'⟩,B',rfl⟩
theorem Dw (L:Lw C){aa:He}{xs:List PV}{px:PV}{lo:Nat}{hi:Option Nat}{j:Nat}{ps:List PV}{Qo:List (Str×PV)}(n:Nat)(hF:Form (.raw (.ref aa)) px lo hi .none ps Qo)(hw:own.lookup aa=some (.lst xs))
 (hz:xs.length<=sizeLine)(h1:lo<=j)(h2:j<=hi.getD xs.length)(h3:hi.getD xs.length<=xs.length)
 (lt:∀C',C.Le C'->∀m p,lo<=m->m < hi.getD xs.length->(Seen own n xs)[m]? =some p->Lt C' p (res (bG own (n+1)) px) (decide (m < j))):
 gX C (k+2) own (aE own aa (.lst (bw xs j px))) (.ref DK) ps Qo .none:=by
 have hb:aO C (k+1) own (.ref vM) [.raw (.ref aa),px,.int lo,bS hi] [] (.int j):=aO.frozen (n+1) trivial L.ok λC' l=>by
  rw [jx hw]
  have hl:=ft (bG own n) xs
  exact Dh (L.le l) (by rw [hl];exact hz) h1 (by rw [hl];exact h2) (by rw [hl];exact h3) (by refine hl▸?_;exact lt C' l)
 refine ig L L.il td (.inr (.inr (.inl rfl))) hF fF λW A env s t Wt q code rm X B=> ?_
 exact Am (n:=n) L (lookup_mem hw) (Hf h2 h3) hz hb rm (λ_=>rfl) X B λJ Qa X' B'=>⟨⟨_,_,X'⟩,B',rfl⟩
structure mV (C:Cfg)(k:Nat)(fa:He)(κ:PV->PV)(RK:PV->Prop):Prop where
 fo:cE C fa
 cal:∀C',C.Le C'->∀p,RK p->aO C' k [] (.ref fa) [p] [] (κ p)
 flat:∀p,RK p->Flat (κ p)
theorem th {fa:He}{n:Nat}(Rm:own.lookup fa=none):gZ (bG own (n+1)) [(("key":Str),PV.raw (.ref fa))]=[(("key":Str),PV.raw (.ref fa))]:=by
 simp only [sW,sX]
 rw [show res (bG own (n+1)) (.raw (.ref fa))= .raw (.ref fa) from by rw [jU,gu,Rm] <;> rfl]
theorem pR {p:PV}{f:He->Option PV}(h:Flat p):res f p=p:=by cases p <;> first |rfl |exact h.elim
theorem Av (L:Lw C){fa:He}{κ:PV->PV}{RK:PV->Prop}(K:mV C k fa κ RK){aa:He}{xs:List PV}{px:PV}{lo:Nat}{hi:Option Nat}{j:Nat}{ps:List PV}{Qo:List (Str×PV)}(n:Nat)(hF:Form (.raw (.ref aa)) px lo hi (.raw (.ref fa)) ps Qo)(hw:own.lookup aa=some (.lst xs))(Rm:own.lookup fa=none)
 (hz:xs.length<=sizeLine)(h1:lo<=j)(h2:j<=hi.getD xs.length)(h3:hi.getD xs.length<=xs.length)
 (TZ:RK (res (bG own (n+1)) px))(TK:∀p∈Seen own n xs,RK p)
 (lt:∀C',C.Le C'->∀m p,lo<=m->m < hi.getD xs.length->(Seen own n xs)[m]? =some p->Lt C' (κ (res (bG own (n+1)) px)) (κ p) (decide (j<=m))):
 gX C (k+2) own (aE own aa (.lst (bw xs j px))) (.ref Bx) ps Qo .none:=by
 have hb:aO C (k+1) own (.ref vH) [.raw (.ref aa),κ (res (bG own (n+1)) px),.int lo,bS hi] [("key",.raw (.ref fa))] (.int j):=aO.frozen (n+1) trivial L.ok λC' l=>by
  rw [jx hw,th Rm,pR (K.flat _ TZ)]
  have hl:=ft (bG own n) xs
  exact zP (L.le l) (κ:=κ) (K.fo.le l) (by rw [hl];exact hz) h1 (by rw [hl];exact h2) (by rw [hl];exact h3) (by refine hl▸?_;exact lt C' l) (λm p _ _ e=>K.cal C' l p (TK p (HX e)))
 refine ig L L.ir tS (.inl rfl) hF fF λW A env s t Wt q code rm X B=> ?_
 exact vK (n:=n) L K.fo (lookup_mem hw) (Hf h2 h3) (aO.frozen (n+1) (K.flat _ TZ) L.ok λC' l=>(K.cal C' l _ TZ).mono (Jg _)) hz hb rm (λ_=>rfl) X B λJ Qa X' B'=>⟨⟨_,_,X'⟩,B',rfl⟩
theorem yP (L:Lw C){fa:He}{κ:PV->PV}{RK:PV->Prop}(K:mV C k fa κ RK){aa:He}{xs:List PV}{px:PV}{lo:Nat}{hi:Option Nat}{j:Nat}{ps:List PV}{Qo:List (Str×PV)}(n:Nat)(hF:Form (.raw (.ref aa)) px lo hi (.raw (.ref fa)) ps Qo)(hw:own.lookup aa=some (.lst xs))(Rm:own.lookup fa=none)
 (hz:xs.length<=sizeLine)(h1:lo<=j)(h2:j<=hi.getD xs.length)(h3:hi.getD xs.length<=xs.length)
 (TZ:RK (res (bG own (n+1)) px))(TK:∀p∈Seen own n xs,RK p)
 (lt:∀C',C.Le C'->∀m p,lo<=m->m < hi.getD xs.length->(Seen own n xs)[m]? =some p->Lt C' (κ p) (κ (res (bG own (n+1)) px)) (decide (m < j))):
 gX C (k+2) own (aE own aa (.lst (bw xs j px))) (.ref DK) ps Qo .none:=by
 have hb:aO C (k+1) own (.ref vM) [.raw (.ref aa),κ (res (bG own (n+1)) px),.int lo,bS hi] [("key",.raw (.ref fa))] (.int j):=aO.frozen (n+1) trivial L.ok λC' l=>by
  rw [jx hw,th Rm,pR (K.flat _ TZ)]
  have hl:=ft (bG own n) xs
  exact Ad (L.le l) (κ:=κ) (K.fo.le l) (by rw [hl];exact hz) h1 (by rw [hl];exact h2) (by rw [hl];exact h3) (by refine hl▸?_;exact lt C' l) (λm p _ _ e=>K.cal C' l p (TK p (HX e)))
 refine ig L L.il td (.inr (.inr (.inl rfl))) hF fF λW A env s t Wt q code rm X B=> ?_
 exact xw (n:=n) L K.fo (lookup_mem hw) (Hf h2 h3) (aO.frozen (n+1) (K.flat _ TZ) L.ok λC' l=>(K.cal C' l _ TZ).mono (Jg _)) hz hb rm (λ_=>rfl) X B λJ Qa X' B'=>⟨⟨_,_,X'⟩,B',rfl⟩
mutual
noncomputable def dat:PV->IV
 | .bool b=> .bool b
 | .int i=> .int i
 | .str x=> .str x
 | .tup xs=> .tuple (gA xs)
 | .lst xs=> .list (gA xs)
 |_=> .none
noncomputable def gA:List PV->List IV
 |[]=>[]
 |p::ps=>dat p::gA ps
end
theorem sO:gA []=([]):=rfl
theorem tO {p ps}:gA (p::ps)=(dat p::gA ps):=rfl
mutual
noncomputable def AL:PV->Bool
 | .none | .bool _ | .int _ | .str _=>true
 | .tup xs=>oh xs
 | .lst xs=>oh xs
 |_=>false
noncomputable def oh:List PV->Bool
 |[]=>true
 |p::ps=>AL p && oh ps
end
theorem yR:oh []=(true):=rfl
theorem AK {p ps}:oh (p::ps)=(AL p && oh ps):=rfl
theorem ql:∀l,gA l=l.map dat:=by
 intro q0
 induction q0 with
 |nil=>
  exact rfl
 |cons p ps ih=>
  simp only [sO,tO,ih];rfl
theorem Rp.BW {P:He->List Hs->List (Str×y')->Prop}{N:He->Prop}{h:Ho}:
 (∀p v,Rp P N h v p->AL p=true->∃as,Reads h v (dat p) as)/\(∀ps vs,aR P N h vs ps->oh ps=true->∃as,ReadsAll h vs (gA ps) as)/\∀_:List (Str×PV),True:=
 PV.ind (λ_ x _=>x▸⟨_,.none⟩) (λb _ x _=>x▸⟨_,.bool b⟩) (λi _ ⟨t,e⟩ _=>e▸⟨_,.int i t⟩) (λi _ ⟨t,e⟩ _=>e▸⟨_,.str i t⟩)
  (λ_ q _ x d=>ib x λ_ vs e _ g r=>(q _ r d).elim λ_ ra=>e▸⟨_,.tuple g rfl (n:=0) (vs:=vs.toArray) rfl ra⟩)
  (λ_ q _ x d=>gB x λ_ vs m e _ g r=>(q _ r d).elim λ_ ra=>e▸⟨_,.list g rfl (n:=m) (vs:=vs.toArray) rfl ra⟩)
  (λ_ _ _ _=>nofun) (λ_ _ _=>nofun) (λ_ _ _=>nofun) (λ_ _ _ _ _=>nofun)
  (λ_ x _=>(show _=([]:List y') from x)▸⟨_,.nil⟩)
  (λ_ _ q1 q2 _ x d=>bo x λ_ _ e x y=>have d':=(H' _ _).mp d;(q1 _ x d'.1).elim λ_ ra=>(q2 _ y d'.2).elim λ_ rb=>e▸⟨_,.cons ra rb⟩)
  trivial λ_ _ _ _ _=>trivial
theorem Rp.reads {P:He->List Hs->List (Str×y')->Prop}{N:He->Prop}{h:Ho}{p:PV}{v:y'}:Rp P N h v p->AL p=true->∃as,Reads h v (dat p) as:=Rp.BW.1 p v
def kK (p:PV):Prop:=AL p=true/\SeqAt.shaped (dat p)=true
theorem ak.deep (rm:ak A 0):A.units+64 < cLine:=by have:=rm.units;show A.units+64 < 9900;lia
theorem aj.Gp {p q:PV}(hp:kK p)(hq:kK q):aj C (HZ .Eq) p q (.bool (Jf (dat p) (dat q))):=λW A s v u rm g h1 h2=>by
 obtain⟨as,ra⟩:=Rp.reads h1 hp.1
 obtain⟨bs,rb⟩:=Rp.reads h2 hq.1
 exact eq_dataH ra rb hp.2 hq.2 rm.deep ⟨ah.refl _,rfl⟩
theorem aj.Gh {p q:PV}(hp:kK p)(hq:kK q):aj C (HZ .NotEq) p q (.bool (!PyData.eqv (dat p) (dat q))):=λW A s v u rm g h1 h2=>by
 obtain⟨as,ra⟩:=Rp.reads h1 hp.1
 obtain⟨bs,rb⟩:=Rp.reads h2 hq.1
 exact ne_dataH ra rb hp.2 hq.2 rm.deep ⟨ah.refl _,rfl⟩
theorem lT {p:PV}:AL p=true->Jf (dat p) (dat p)=true:=
 (PV.ind (M:=λp=>AL p=true->Jf (dat p) (dat p)=true) (ML:=λps=>oh ps=true->MM (gA ps) (gA ps)=true) (MD:=λ_=>True)
  (λ_=>rfl) (λb _=>by show Jf (.bool b) (.bool b)=true;simp [Jf]) (λi _=>by show Jf (.int i) (.int i)=true;simp [Jf]) (λi _=>by show Jf (.str i) (.str i)=true;simp [Jf])
  (λ_ q d=>q d) (λ_ q d=>q d) (λ_ _=>nofun) (λ_=>nofun) (λ_=>nofun) (λ_ _ _=>nofun) (λ_=>rfl)
  (λ_ _ q1 q2 d=>have d':=(H' _ _).mp d;(H' _ _).mpr ⟨q1 d'.1,q2 d'.2⟩)
  trivial λ_ _ _ _ _=>trivial).1 p
theorem aj.oR {p:PV}(hp:kK p):aj C (HZ .Eq) p p (.bool true):=(aj.Gp hp hp).conv (by rw [lT hp.1])
theorem aj.fz {p:PV}(hp:kK p):aj C (HZ .NotEq) p p (.bool false):=(aj.Gh hp hp).conv (by refine(lT hp.1)▸?_;rfl)
theorem y9 {xs:List PV}:Jf (dat (.lst xs)) (dat (.lst []))=xs.isEmpty:=by
 cases xs <;> rfl
noncomputable def rD:Nat->PV->Bool
 |_,.none=>true
 |_,.bool _=>true
 |_,.int _=>true
 |_,.str x=>Mi x
 |n+1,.lst xs=>xs.all (rD n)
 |n+1,.tup xs=>xs.all (rD n)
 |_,_=>false
theorem yc {v1 x}:rD v1 (.str x)=(Mi x):=by cases v1 <;> rfl
theorem mG {n xs}:rD (n+1) (.lst xs)=(xs.all (rD n)):=rfl
theorem C5 {n xs}:rD (n+1) (.tup xs)=(xs.all (rD n)):=rfl
theorem xY (n:Nat)(ih:∀p,rD n p=true->AL p=true/\(dat p).canLay0=true/\(dat p).depth<=n):∀xs:List PV,xs.all (rD n)=true->oh xs=true/\Oe (gA xs)=true/\IV.depthAll (gA xs)<=n
 |[],_=>⟨rfl,rfl,H7 _⟩
 |p::ps,h=>by
  simp only [Pa,H'] at h
  refine⟨by simp only [yR,AK,(ih p h.1).1,(xY n ih ps h.2).1];rfl,by simp only [sO,tO,Oe,(ih p h.1).2.1,(xY n ih ps h.2).2.1];rfl,?_⟩
  exact Nat.max_le.mpr ⟨(ih p h.1).2.2,(xY n ih ps h.2).2.2⟩
theorem lp:∀(n:Nat)(p:PV),rD n p=true->AL p=true/\(dat p).canLay0=true/\(dat p).depth<=n
 |n,.none,_=>⟨rfl,rfl,H7 _⟩
 |n,.bool _,_=>⟨rfl,rfl,H7 _⟩
 |n,.int _,_=>⟨rfl,rfl,H7 _⟩
 |n,.str x,h=>⟨rfl,by cases n <;> exact h,H7 _⟩
 |n+1,.lst xs,h=>by
  refine cZ (xY n (lp n) xs h) λa1 a2 a3=> ?_
  exact⟨a1,a2,Kj a3⟩
 |n+1,.tup xs,h=>by
  refine cZ (xY n (lp n) xs h) λa1 a2 a3=> ?_
  exact⟨a1,a2,Kj a3⟩
 |0,.lst _,h=>(Ii h).elim
 |0,.tup _,h=>(Ii h).elim
 |n,.au _,h=>by cases n <;> exact(Ii h).elim
 |n,.raw _,h=>by cases n <;> exact(Ii h).elim
 |n,.obj _,h=>by cases n <;> exact(Ii h).elim
 |n,.inst _ _,h=>by cases n <;> exact(Ii h).elim
theorem dh {n:Nat}{p:PV}(h:rD n p=true)(hn:n<=64):kK p:=by
 refine⟨(lp n p h).1,?_⟩
 unfold SeqAt.shaped
 rw [(lp n p h).2.1,K7]
 exact HS (Hf (lp n p h).2.2 hn)
theorem yX {n:Nat}{i:Int}:rD n (.int i)=true:=by cases n <;> rfl
theorem tj {vs:List y'}{ps:List PV}{n:Nat}{tk:Nat}(g:Gd C W s)(r:fe C W s.heap vs ps):ah C [] s {s with heap:=s.heap.push (ao vs n),toks:=tk}/\Rr C W (s.heap.push (ao vs n)) (.ref s.heap.objs.size) (.lst ps):=
 ⟨ah.push _ _,_,vs,n,rfl,g.fresh,Hp _ rfl,(ah.push (C:=C) (W:=W) (s:=s) (ao vs n) s.toks).DU r⟩
theorem zD {vs:List y'}{ps:List PV}{tk:Nat}(g:Gd C W s)(r:fe C W s.heap vs ps):ah C [] s {s with heap:=s.heap.push (dZ vs),toks:=tk}/\Rr C W (s.heap.push (dZ vs)) (.ref s.heap.objs.size) (.tup ps):=
 ⟨ah.push _ _,_,vs,rfl,g.fresh,Hp _ rfl,(ah.push (C:=C) (W:=W) (s:=s) (dZ vs) s.toks).DU r⟩
theorem aj.uM {ps qs:List PV}(hz:ps.length+qs.length<=sizeLine):aj C (Kx .Add) (.lst ps) (.lst qs) (.lst (ps ++ qs)):=λW A s v u rm g h1 h2=>by
 refine gB h1 λa vs n QI na ga ra=> ?_;refine QI▸?_
 refine gB h2 λb us m QI nb gb rb=> ?_;refine QI▸?_
 have e:s.heap.push {cls:= .type "list",data:= .seq (vs.toArray ++ us.toArray)}=s.heap.push (ao (vs ++ us) 0):=by unfold ao;rw [NP]
 refine PySem.P.add_list ga gb ?_ (by simpa [aR.length ra,aR.length rb] using hz)
 refine e▸?_
 exact tj g (aR.append ra rb)
theorem aj.FF {ps qs:List PV}(hp:ps≠[])(hq:qs≠[])(hz:ps.length+qs.length<=sizeLine):aj C (Kx .Add) (.tup ps) (.tup qs) (.tup (ps ++ qs)):=λW A s v u rm g h1 h2=>by
 refine ib h1 λa vs P8 na ga ra=> ?_;refine P8▸?_
 refine ib h2 λb us P8 nb gb rb=> ?_;refine P8▸?_
 have e:s.heap.push {cls:= .type "tuple",data:= .seq (vs.toArray ++ us.toArray)}=s.heap.push (dZ (vs ++ us)):=by unfold dZ;rw [NP]
 have la:=aR.length ra
 have lb:=aR.length rb
 have h1:¬vs.toArray.isEmpty=true:=by
  intro q
  have e:vs=[]:=by simpa using q
  rw [e] at la
  exact hp (I1.mp la.symm)
 have h2:¬us.toArray.isEmpty=true:=by
  intro q
  have e:us=[]:=by simpa using q
  rw [e] at lb
  exact hq (I1.mp lb.symm)
 refine PySem.P.add_tuple ga gb h1 h2 ?_ (by simp_all)
 refine e▸?_
 exact zD g (aR.append ra rb)
theorem xn {vs:List y'}:∀n,M7 (λx1 x2=>x1 ++ x2) #[] (Iu n vs.toArray)=(Iu n vs).flatten.toArray:=by
 have gen:∀(l:List (List y')) (acc:Array y'),M7 (λx1 x2=>x1 ++ x2) acc (l.map J2)=acc ++ l.flatten.toArray:=by
  intro l
  induction l with
  |nil=>intro acc;rfl
  |cons x l ih=>intro acc;simp only [Hw,IJ,ih,KI];simp
 intro n
 have:=gen (Iu n vs) #[]
 rw [List.map_replicate] at this
 rw [this];simp
theorem aR.rep {P:He->List Hs->List (Str×y')->Prop}{N:He->Prop}{h:Ho}{ps:List PV}{vs:List y'}(r:aR P N h vs ps):∀n,aR P N h (Iu n vs).flatten (Iu n ps).flatten:=by
 intro q0
 induction q0 with
 |zero=>
  exact rfl
 |succ n ih=>
  exact aR.append r (ih)
theorem aj.mulL {ps:List PV}{n:Int}(h0:0<=n)(hn:n<=1000)(hl:ps.length<=1000):aj C (Kx .Mult) (.lst ps) (.int n) (.lst (Iu n.toNat ps).flatten):=λW A s v u rm g h1 h2=>by
 refine gB h1 λa vs m QI na ga ra=> ?_;subst QI
 obtain⟨tk,rfl⟩:=h2
 have hmul:vs.toArray.size*n.toNat<=1000*1000:=Nat.mul_le_mul (by simpa [(aR.length ra)] using hl) (by simp_all)
 have e:M7 (λx1 x2=>x1 ++ x2) #[] (Iu (if vs.toArray.isEmpty=true then 0 else n.toNat) vs.toArray)=(Iu n.toNat vs).flatten.toArray:=by
  by_cases hv:vs=[]
  ·rw [hv];simp
  ·rw [Hz (by simpa using hv),xn]
 refine wpAny_binaryOp_repeat_ref (T:="list") (U:="int") (by rfl) ⟨_,ga,rfl⟩ (λJ=>PU J n tk) noFill_list_mul PySem.F.fills_int_mul Nw repeat_list PySem.F.slot_int_index.lookup
  (Nd Nw (PU s n tk) PySem.F.entry_int_rmul (PySem.F.args_int_rmul_2 _ _) (int___rmul___int_list n tk a vs.toArray m)
   ⟨ga,rfl,⟨_,ga,rfl⟩,Nd PySem.F.slot_list_mul ⟨_,ga,rfl⟩ PySem.F.entry_list_mul (PySem.F.args_list_mul_2 _ _)
    (PySem.AutoListH.list___mul___list_int_3 a vs.toArray m n tk (by simp [KW];lia) (by lia) (by simp only [H8.List.listTooLong,sizeLine];simpa using Hf hmul (by decide)))
    ⟨ga,?_⟩⟩)
 refine e▸?_
 exact tj (n:=0) g (aR.rep ra _)
theorem jG {P:He->List Hs->List (Str×y')->Prop}{N:He->Prop}{h:Ho}:∀{ys:List Str}{vs:List y'},aR P N h vs (ys.map .str)->StrsAre vs ys
 |[],vs,r=>by refine(show vs=[] from r)▸?_;exact .nil
 |y::ys,_,⟨v,r,e,⟨t,e'⟩,x⟩=>by subst e';subst e;exact .cons y t (jG x)
theorem cC.join {x:Str}{ys:List Str}{ps:List PV}(hp:ps=ys.map .str)(QR:(ys.map (·.length)).sum+ys.length*x.length<=16777216):cC C k (.builtin "str.join") [.str x,.lst ps] (.str (KX x ys)):=λW A s vs rm g r=>by
 obtain⟨v,u,rfl,⟨tk,rfl⟩,⟨a,us,m,rfl,na,ga,ra⟩⟩:=r.inv2
 subst hp
 exact PyProof.Rows.join_list (aQ ga) ((jG ra)) QR λt' k'=>⟨ah.tok _,_,rfl⟩
theorem aj.Gx {x y:Str}:aj C (HZ .In) (.str y) (.str x) (.bool (!(MY x y 0 x.length 1).isEmpty)):=λW A s v u _ g h1 h2=>by
 obtain⟨t,rfl⟩:=h1;obtain⟨t',rfl⟩:=h2
 exact PySem.P.in_str ⟨ah.refl _,rfl⟩
theorem d5 {v:y'}{i:Option Int}(h:IsPart v i):∃p:Option (Int×Tok),partValue p=v/\p.map (·.1)=i:=by
 cases h with
 |none=>exact⟨none,rfl,rfl⟩
 |int i t=>exact⟨some (i,t),rfl,rfl⟩
noncomputable def eb (x:Str) (i j l:Option Int):Str:=
 if(l.getD 1==1 && (I0 i j (l.getD 1) x.length).length==x.length)=true then x else⟨((I0 i j (l.getD 1) x.length).filterMap (x.cps[·]?)).toArray⟩
theorem Ev.eb {v:Expr}{lo hi st:Option Expr}{sp:Jm}{x:Str}{i j l:Option Int}(h1:Ev C k sc own ρ v (.str x))(h2:eh C k sc own ρ lo i)(h3:eh C k sc own ρ hi j)(h4:eh C k sc own ρ st l)(h0:l≠Iy 0)(hz:x.length<=sizeLine)(RN:(Internal.eb x i j l).length<=sizeLine)
 (hs:∀o i',∃ops,KP (.Slice lo hi st sp) false o i'=operate ops (getItem o i'))(ht:∀o r,letTemporaryGo v o r=pure ()):Ev C k sc own ρ (.Subscript v (.Slice lo hi st sp) pos) (.str (Internal.eb x i j l)):=λW A env s rm X=>by
 refine LK (G' (h1 W A env s rm X) ?_ λ_ _ q=>q.elim)
 rintro o s1 ⟨e1,tk,rfl⟩
 refine OK (G' (h2 W A env s1 rm (X.aA e1)) ?_ λ_ _ q=>q.elim)
 rintro a1 s2 ⟨e2,p2⟩
 refine G' (h3 W A env s2 rm ((X.aA e1).aA e2)) ?_ λ_ _ q=>q.elim
 rintro a2 s3 ⟨e3,p3⟩
 refine G' (h4 W A env s3 rm (((X.aA e1).aA e2).aA e3)) ?_ λ_ _ q=>q.elim
 rintro a3 s4 ⟨e4,p4⟩
 refine ae (d5 p2) λq2 Qq P8=> ?_;subst Qq P8
 refine ae (d5 p3) λq3 Qq P8=> ?_;subst Qq P8
 refine ae (d5 p4) λq4 Qq P8=> ?_;subst Qq P8
 have e5:ah C [] s4 {s4 with heap:=s4.heap.push {cls:= .type "slice",data:= .fields #[partValue q2,partValue q3,partValue q4]}}:=ah.push _ s4.toks
 refine cA (hs (.str x tk) (.ref s4.heap.objs.size)) λops Sp=> ?_
 refine MA (O0 _ x tk) Ov.lookup (PySem.wpAny_getItem_str_slice (l:=q2) (u:=q3) (st:=q4) ⟨_,Hp _ rfl,rfl,rfl⟩ ?_ ?_) Sp (ht _)
 ·cases q4 with
  |none=>rfl
  |some q=>
   have:q.1≠0:=λe=>h0 (by simp [e])
   simpa using this
 ·unfold sliceMade
  refine post_val_or_str ⟨RN,λt' k'=>⟨((((e1.trans e2).trans e3).trans e4).trans e5).trans (ah.tok _),t',rfl⟩⟩
theorem eM {h:Ho}{a:He}{ds:List Hs}{n:Nat}{kvs:List (Str×y')}(g:h.get? a=some (bj ds n))(sd:C.S a ds kvs):h.DictAt (strKind C.prog C.w) a kvs n:=
 ⟨_,ds.toArray,g,⟨rfl,rfl,rfl⟩,rfl,sd.2.1,by simpa using sd.2.2.1,sd.2.2.2⟩
theorem iL {a:He}{ds:List Hs}{kvs:List (Str×y')}(sd:C.S a ds kvs):(a==Js)=false:=by simpa using sd.1
theorem nU {x:Str}{v:y'}(h:(strKind C.prog C.w).is x v=true):∃t,v= .str x t:=by
 have h':MI x v=true:=h
 cases v <;> simp [MI] at h'
 exact⟨_,by rw [h']⟩
theorem bC.at {P:He->List Hs->List (Str×y')->Prop}{N:He->Prop}{h:Ho}:∀{es:List (Str×PV)}{kvs:List (Str×y')},bC P N h kvs es->∀{i:Nat}{x:Str}{v:y'},kvs[i]? =some (x,v)->∃p,es[i]? =some (x,p)/\Rp P N h v p
 |[],_,e,i,x,v,h=>by rw [show _=([]:List (Str×y')) from e] at h;simp at h
 |(q,p)::ps,_,⟨u,r,e,y,z⟩,0,x,v,h=>by
  subst e
  simp at h
  obtain⟨rfl,rfl⟩:=h
  exact⟨p,rfl,y⟩
 |(q,p)::ps,_,⟨u,r,e,y,z⟩,i+1,x,v,h=>by
  subst e
  simp at h
  refine ae (bC.at z h) λp' e1 e2=> ?_
  exact⟨p',by simpa using e1,e2⟩
theorem bC.length {P:He->List Hs->List (Str×y')->Prop}{N:He->Prop}{h:Ho}{es:List (Str×PV)}{kvs:List (Str×y')}(r:bC P N h kvs es):kvs.length=es.length:=by
 have:=HV NB (bC.keys r)
 simpa using this
theorem aX.values {o:Expr}{apos:Jm}{es:List (Str×PV)}(ho:Ev C k sc own ρ o (.au es))(hz:es.length<=sizeLine)
 (Qf:∀env,Jk o "values" env (IQ o env)=IQ o env)(Qe:(apos.endLine==pos.line)=true):
 aX C k sc own ρ (.Call (.Attribute o "values" apos) [] [] pos) (es.map (·.2)):=λW A env s rm X=>by
 refine Jl (Qf env) rfl Qe Jh Ka MN (G' (ho W A env s rm X) ?_ λ_ _ q=>q.elim)
 rintro v s1 ⟨e1,r1⟩
 refine c7 (fY.au W s1 v r1) λh1 h2=> ?_
 refine⟨h1,h2,LQ ?_⟩
 obtain⟨a,ds,n,kvs,rfl,f,g,sd,r⟩:=r1
 refine Mj Ka h1 Mv (Ms _) (Of (strKind C.prog C.w) a (iL sd)) ⟨⟨_,aW g sd⟩,?_⟩
 have e2:ah C [] s1 {s1 with heap:=s1.heap.push {cls:= .type "dict_values",data:= .fields #[.ref a]}}:=ah.push _ s1.toks
 refine⟨e1.trans e2,λA' Q E hQ=> ?_⟩
 have g2:(s1.heap.push {cls:= .type "dict_values",data:= .fields #[.ref a]}).get? a=some (bj ds n):=Hj _ g
 refine wpAny_pyIter_values (s:={s1 with heap:=s1.heap.push {cls:= .type "dict_values",data:= .fields #[.ref a]}}) ⟨_,Hp _ rfl,rfl,rfl⟩ (eM g2 sd) ?_
 generalize Uh:({s1 with heap:=s1.heap.push {cls:= .type "dict_values",data:= .fields #[.ref a]}}:Hh)=s2 at *
 have WT:s2.heap=s1.heap.push {cls:= .type "dict_values",data:= .fields #[.ref a]}:=by rw [<-Uh]
 replace g2:=WT▸g2
 have ep:ah C [] s2 {s2 with heap:=s2.heap.push {cls:= .type "dict_valueiterator",data:= .fields #[.ref a,.int (0:Nat) 0,.int kvs.length 0,.int n 0]}}:=ah.push _ s2.toks
 refine hQ _ _ ep (Src.sq ⟨s2.heap.objs.size,[s2.heap.objs.size,a],λi v=>∃k,kvs[i]? =some (k,v),λi h=>h.IsValIter s2.heap.objs.size a i kvs.length n/\h.DictAt (strKind C.prog C.w) a kvs n,{it:=rfl,lo:=Hk _,hi:=cg,walks:= ?_,st:= ?_,safe:= ?_,sz:=by rw [Hb];exact hz,val:= ?_,obj:= ?_,nt:=((X.aA e1).aA e2).inv.fresh}⟩)
 ·intro A' hh
  simp only [Hb,<-(bC.length r)]
  exact Walks.dictValues hh s2.heap.objs.size a (Iw (Hx g2)) kvs n
 ·exact⟨⟨_,Hp _ rfl,rfl,rfl⟩,eM (Hj _ g2) sd⟩
 ·intro b hb
  rcases Hc.mp hb with rfl |hb
  ·exact .inl rfl
  ·rw [Hm.mp hb]
   exact .inr ⟨Hx g2,f,_,Hj _ g2,λ_=>nofun⟩
 ·intro i v zz J W' hW e';refine cA zz λx hx=> ?_
  have r3:=bC.eY (N.less hW e' ep) (bC.mono e2.up.k r)
  refine ae (bC.at r3 hx) λp e1 e2=> ?_
  exact⟨p,by simp only [Hy,e1];rfl,e2⟩
 ·intro i h zz;refine c7 zz λz2 _=> ?_;refine iI z2 λo ho hc hd=> ?_
  exact⟨o,ho,⟨⟨_,hc⟩,_,hd,by simp,by intro q t e;cases e⟩,_,hc,by rfl⟩
theorem aj.inD {es:List (Str×PV)}{x:Str}:aj C (HZ .In) (.str x) (.au es) (.bool (es.lookup x).isSome):=λW A s v u rm g h1 h2=>by
 obtain⟨t,rfl⟩:=h1
 obtain⟨a,ds,n,kvs,rfl,f,g',sd,r⟩:=h2
 have e:(valueAt kvs x).isSome=(es.lookup x).isSome:=by
  cases q:es.lookup x with
  |none=>rw [bC.gO r q];rfl
  |some p=>refine ae (bC.find r q) λv h _=> ?_;rw [h];rfl
 refine PL (mQ x t) (iL sd) (aW g' sd).mapOf ?_
 refine e▸?_
 exact⟨ah.tok _,rfl⟩
theorem aj.Fo {es:List (Str×PV)}{x:Str}:aj C (HZ .NotIn) (.str x) (.au es) (.bool (!(es.lookup x).isSome)):=λW A s v u rm g h1 h2=>by
 obtain⟨t,rfl⟩:=h1
 obtain⟨a,ds,n,kvs,rfl,f,g',sd,r⟩:=h2
 have e:(valueAt kvs x).isSome=(es.lookup x).isSome:=by
  cases q:es.lookup x with
  |none=>rw [bC.gO r q];rfl
  |some p=>refine ae (bC.find r q) λv h _=> ?_;rw [h];rfl
 refine wpAny_notIn_of (mQ x t) (iL sd) (aW g' sd).mapOf ?_
 refine e▸?_
 exact⟨ah.tok _,rfl⟩
theorem zI {h:Ho}{I d:He}{i n ep:Nat}{slot ok ov:y'}(e:h.get? I=some {cls:= .type "dict_itemiterator",dict:=none,data:= .fields #[slot,.bool false,.ref d,.int i 0,.int n 0,.int ep 0,ok,ov],slots:=#[]}):∃o,h.get? I=some o/\dP o:=
 ⟨_,e,⟨_,rfl⟩,_,rfl,by simp,by intro q t e;cases e⟩
noncomputable def ck (es:List (Str×PV)):List PV:=es.map λe=> .tup [.str e.1,e.2]
theorem aX.items {o:Expr}{apos:Jm}{es:List (Str×PV)}(ho:Ev C k sc own ρ o (.au es))(hz:es.length<=sizeLine)
 (Qf:∀env,Jk o "items" env (IQ o env)=IQ o env)(Qe:(apos.endLine==pos.line)=true):
 eu true C k sc own ρ (.Call (.Attribute o "items" apos) [] [] pos) (ck es):=λW A env s rm X=>by
 refine Jl (Qf env) rfl Qe Jh MZ PySem.F.type_dict_items (G' (ho W A env s rm X) ?_ λ_ _ q=>q.elim)
 rintro v s1 ⟨e1,r1⟩
 refine c7 (fY.au W s1 v r1) λh1 h2=> ?_
 refine⟨h1,h2,LQ ?_⟩
 obtain⟨a,ds,n,kvs,rfl,f,g,sd,r⟩:=r1
 have hlen:=bC.length r
 refine Mj MZ h1 PySem.F.entry_dict_items (PySem.F.args_dict_items_1 _) (meets_dict_items (strKind C.prog C.w) a (iL sd)) ⟨⟨_,aW g sd⟩,?_⟩
 have e2:ah C [] s1 {s1 with heap:=s1.heap.push {cls:= .type "dict_items",data:= .fields #[.ref a]}}:=ah.push _ s1.toks
 refine⟨e1.trans e2,λA' Q E hQ=> ?_⟩
 have X2:=(X.aA e1).aA e2
 have g2:(s1.heap.push {cls:= .type "dict_items",data:= .fields #[.ref a]}).get? a=some (bj ds n):=Hj _ g
 have r2:=bC.mono e2.up.k r
 refine wpAny_pyIter_items (s:={s1 with heap:=s1.heap.push {cls:= .type "dict_items",data:= .fields #[.ref a]}}) ⟨_,Hp _ rfl,rfl,rfl⟩ (eM g2 sd) ?_
 generalize Uh:({s1 with heap:=s1.heap.push {cls:= .type "dict_items",data:= .fields #[.ref a]}}:Hh)=s2 at *
 have WT:s2.heap=s1.heap.push {cls:= .type "dict_items",data:= .fields #[.ref a]}:=by rw [<-Uh]
 replace g2:=WT▸g2
 have ep:ah C [] s2 {s2 with heap:=s2.heap.push {cls:= .type "dict_itemiterator",data:= .fields #[.none,.bool false,.ref a,.int (0:Nat) 0,.int kvs.length 0,.int n 0,.none,.none]}}:=ah.push _ s2.toks
 have Ys:a < s2.heap.objs.size:=Hx g2
 have T':∀{J},Kp C W s2.heap.objs.size {s2 with heap:=s2.heap.push {cls:= .type "dict_itemiterator",data:= .fields #[.none,.bool false,.ref a,.int (0:Nat) 0,.int kvs.length 0,.int n 0,.none,.none]}} J->J.heap.get? a=some (bj ds n):=λkp=>kp a _ f (Hj _ g2) (λ_=>nofun) Ys
 refine hQ _ _ ep ⟨s2.heap.objs.size,λi h=>∃ok ov,IsItemIter h s2.heap.objs.size a i kvs.length n ok ov/\h.get? a=some (bj ds n),{it:=rfl,lo:=Hk _,hi:=cg,st:= ?_,sz:=by simp only [ck,Hb];exact hz,obj:= ?_,nt:=X2.inv.fresh,frame:= ?_,step:= ?_,done:= ?_,self:= ?_}⟩
 ·exact⟨_,_,Hp _ rfl,Hj _ g2⟩
 ·intro i h zz;refine aL zz λok ov e _=> ?_
  exact zI e
 ·intro i P5 P6 k1 zz k2 hI;refine aL zz λok ov e _=> ?_
  exact⟨ok,ov,hI _ e,T' k2⟩
 ·intro A hA i J target W' post E hi ht zz kp hW QP hQ;refine aL zz λok ov hit TU=> ?_
  have Sj:i < kvs.length:=by simp only [ck,Hb] at hi;rw [hlen];exact hi
  have hx:kvs[i]? =some kvs[i]:=by simp [Sj]
  obtain⟨⟨x,u⟩,Vq⟩:∃y,kvs[i]=y:=⟨_,rfl⟩
  replace hx:=Vq▸hx
  refine ae (bC.at r2 hx) λp hp _=> ?_
  refine wpAny_pyNext_items_item (knd:=strKind C.prog C.w) hit (eM TU sd) hx λkey h' QY T9 Wj hz hk=> ?_
  obtain⟨tk,rfl⟩:=nU QY
  refine hQ _ _ λQ E' q=> ?_
  cases target with
  |Tuple elts ctx tp=>
   refine wpAny_letOwnedTupleGo_items T9 λV9 Vn hs=> ?_
   have Ry:s2.heap.objs.size < J.heap.objs.size:=Hx hit
   have kk:∀b o,b≠s2.heap.objs.size->J.heap.get? b=some o->V9.get? b=some o:=λb o hb e=>(hs.2 b hb).trans (hk b o hb e)
   refine q (.tup [.str x,p]) V9 J.toks (by simp only [ck,Hy,hp];rfl) ⟨_,_,Vn,kk _ _ (Iw Ys) TU⟩ kk (by simp only [hs.1,hz];exact Jg _) ?_
   have hv:Rr C W' V9 u p:=by
    refine ae (bC.at (bC.eY (N':=C.N W') (λb o n g nc=>⟨λq=>(by
     rcases q with q |q
     ·exact n (.inl q)
     ·rcases hW b q with q |q
      ·exact n (.inr q)
      ·exact HR _ (Ht (Hx g) q)),kk b o (Iw (Hx g)) (kp b o n (ep.keep _ _ (λq=>n (.inl q)) (by simp) g) nc (Hx g))⟩) r2) hx) λp' UZ rp=> ?_
    replace UZ:=hp▸UZ;cases UZ
    exact rp
   refine⟨J.heap.objs.size,[.str x tk,u],rfl,λq=> ?_,(hs.2 _ (JZ Ry)).trans Wj,_,_,rfl,⟨tk,rfl⟩,_,_,rfl,hv,rfl⟩
   rcases q with q |q
   ·exact HR _ (Mf (X2.inv.gm _ q) Ry)
   ·exact HR _ (QP _ q)
  |_=>exact absurd (ht rfl) (by intro h;cases h)
 ·intro A hA J Q E zz hQ;refine aL zz λok ov hit TU=> ?_
  rw [(by simp only [ck,Hb,hlen]:(ck es).length=kvs.length)] at hit
  exact ba (wpAny_pyNext_items_end hA hit (eM TU sd) (by simp) λh' R0 hz=>hQ h' J.toks R0 hz)
 ·intro A hA J Q E zz hQ;refine aL zz λok ov hit TU=> ?_
  have hT:J.TypeIs (.ref s2.heap.objs.size) "dict_itemiterator":=⟨_,hit,rfl⟩
  refine wpAny_pyIter_slot hT K' (Kl K' hT (show entryFor table "dict_itemiterator.__iter__"=some H8.«dict_keyiterator.__iter__» from entryFor_alias (id':="dict_keyiterator.__iter__") (by kernel_rfl) rfl (by kernel_rfl!) (by kernel_rfl)) ?_ (PySem.F.args_dict_itemiterator_iter_1 _))
  show Hi _ _ (ret (.ref s2.heap.objs.size)) _ _ J
  exact Hu ⟨_,rfl,"dict_itemiterator",_,hT,PySem.F.slot_dict_itemiterator_next.lookup,hQ⟩
theorem cC.get {es:List (Str×PV)}{x:Str}{d:PV}:cC C k (.builtin "dict.get") [.au es,.str x,d] ((es.lookup x).getD d):=λW A s vs rm g r=>by
 obtain⟨v1,v2,v3,rfl,r1,⟨t,rfl⟩,r3⟩:=r.FJ
 have hT:=(fY.au W s v1 r1).1
 obtain⟨a,ds,n,kvs,rfl,f,g',sd,r⟩:=r1
 refine Mj JP hT Ni (PySem.F.args_dict_get_3 _ _ _) (meets_dict_get_default (strKind C.prog C.w) a (mQ x t) (iL sd) v3) ⟨_,(aW g' sd).mapOf,?_⟩
 refine⟨ah.tok _,?_⟩
 cases q:es.lookup x with
 |none=>refine(bC.gO r q)▸?_;exact r3
 |some p=>
  refine ae (bC.find r q) λv h hv=> ?_
  refine h▸?_
  exact hv
theorem cC.dict {es:List (Str×PV)}(hz:es.length<=sizeLine):cC C k (.type "dict") [.au es] (.au es):=λW A s vs rm g r=>by
 obtain⟨v,rfl,a,ds,n,kvs,rfl,f,g',sd,r⟩:=r.inv1
 refine kt_call_dict (knd:=strKind C.prog C.w) (iL sd) (aW g' sd) (by rw [bC.length r];exact hz) λh' hd hs=> ?_
 have e:ah C [] s {s with heap:=h'}:=ah.of_keeps (tk:=s.toks) (λb o e=>(hs.2 b (Iw (Hx e))).trans (Hj _ e)) (by rw [hs.1];exact IB cg)
 refine aL (fO hd g.inv.fZ) λVj n' g2 ZO=> ?_
 exact⟨e,_,Vj,n',kvs,rfl,g.fresh,g2,ZO,bC.mono e.up.k r⟩
theorem cC.min2 {a b:Int}:cC C k (.builtin "min") [.int a,.int b] (.int (if b < a then b else a)):=λW A s vs rm g r=>by
 refine bo r.inv2 λv u YJ Zm Z3=> ?_;rw [YJ];refine cA Zm λt z90=> ?_;refine z90▸?_;refine cA Z3 λt' Zq=> ?_;refine Zq▸?_
 refine ba (min_two_ints rm.handled λh' tk hk hz=> ?_)
 refine⟨ah.of_keeps hk hz,?_⟩
 split
 ·exact⟨_,rfl⟩
 ·exact⟨_,rfl⟩
theorem cC.chr {i:Int}(h0:0<=i)(h1:i<=0x10FFFF):cC C k (.builtin "chr") [.int i] (.str ⟨#[i.toNat]⟩):=λW A s vs rm g r=>by
 obtain⟨v,rfl,⟨t,rfl⟩⟩:=r.inv1
 exact PySem.P.chr_of_int (by simp_all) ⟨ah.tok _,_,rfl⟩
theorem cC.ord {x:Str}(h1:x.length=1):cC C k (.builtin "ord") [.str x] (.int (x.cps.getD 0 0:Nat)):=λW A s vs rm g r=>by
 obtain⟨v,rfl,⟨t,rfl⟩⟩:=r.inv1
 exact PyProof.Rows.ord_of_one h1 ⟨ah.tok _,_,rfl⟩
theorem cC.Ei {b:Bool}:cC C k (.type "int") [.bool b] (.int (if b then 1 else 0)):=λW A s vs rm g r=>by
 refine ae r.inv1 λv Qq h=> ?_;refine Qq▸?_
 refine(show v= .bool b from h)▸?_
 exact call_int_bool ⟨ah.tok _,_,rfl⟩
theorem Ev.mh {x:Str}{px:Jm}{a:Expr}{args:List Expr}{T:String}{ps:List PV}{r:PV}(hf:Ev C k sc own ρ (.Name x px) (.raw (.type T)))(ha:ab C k sc own ρ (a::args) ps)(hc:cC C k (.type T) ps r)
 (he:autoParam (∀env,HG (a::args) env=(false,IQ a env)::HG args env) ng)(QB:autoParam (∀env,(Jo pos (HG args env)).any (·.1)=false) ng):
 Ev C k sc own ρ (.Call (.Name x px) (a::args) [] pos) r:=λW A env s rm X=>by
 refine I6 (G' (hf W A env s rm X) ?_ λ_ _ q=>q.elim)
 rintro v s1 ⟨e1,r1⟩
 refine(show v= .type T from r1)▸?_
 refine Mk (G' (ha W A env s1 pos rm (X.aA e1)) ?_ λ_ _ q=>q.elim) (he env) (QB env)
 rintro vs s2 ⟨e2,r2⟩
 refine G' (hc W A s2 vs rm ((X.aA e1).aA e2).gd r2) ?_ λ_ _ q=>q.elim
 rintro w s3 ⟨e3,r3⟩
 exact⟨(e1.trans e2).trans e3,r3⟩
def cj (C:Cfg)(k:Nat)(sc:Sc)(own:Own)(ρ:bP)(ks vs:List Expr)(pos:Jm)(es:List (Str×PV)):Prop:=
 ∀W A env s,ak A k->St C W sc own ρ env s->Hi C.M A (evalPairs ((ks.zip vs).map λx=>(IQ x.1 env,do let y <-IQ x.2 env;standAt pos;pure y))) (λus J=>ah C [] s J/\∃kvs,Carries (strKind C.prog C.w) us kvs/\bC C.S (C.N W) J.heap kvs es) (λ_ _=>False) s
theorem cj.nil:cj C k sc own ρ [] [] pos []:=λW A env s rm X=>Hu ⟨ah.refl _,[],trivial,rfl⟩
theorem cj.cons {ke ve:Expr}{ks vs:List Expr}{x:Str}{p:PV}{es:List (Str×PV)}(h1:Ev C k sc own ρ ke (.str x))(h2:Ev C k sc own ρ ve p)(hs:cj C k sc own ρ ks vs pos es):cj C k sc own ρ (ke::ks) (ve::vs) pos ((x,p)::es):=λW A env s rm X=>by
 refine Ha (G' (h1 W A env s rm X) ?_ λ_ _ q=>q.elim)
 rintro kv s1 ⟨e1,t,rfl⟩
 refine Ha (Ip (Ha (G' (h2 W A env s1 rm (X.aA e1)) ?_ λ_ _ q=>q.elim)))
 intro v s2 zz;refine c7 zz λe2 r2=> ?_
 refine Ha (Jb (Hu (Ha (Ip (G' (hs W A env s2 rm ((X.aA e1).aA e2)) ?_ λ_ _ q=>q.elim)))))
 rintro us s3 ⟨e3,kvs,hc,r3⟩
 exact Hu ⟨(e1.trans e2).trans e3,(x,v)::kvs,⟨mQ x t,rfl,hc⟩,v,kvs,rfl,e3.pC r2,r3⟩
theorem bC.merge {P:He->List Hs->List (Str×y')->Prop}{N:He->Prop}{h:Ho}:∀{Q1:List (Str×PV)}{Q2:List (Str×y')}{es:List (Str×PV)}{kvs:List (Str×y')},bC P N h kvs es->bC P N h Q2 Q1->bC P N h (merged kvs Q2) (Q1.foldl (λd e=>putD d e.1 e.2) es)
 |[],_,es,kvs,r,r'=>by refine(show _=([]:List (Str×y')) from r')▸?_;exact r
 |(x,p)::Q1,_,es,kvs,r,⟨v,Q2,e,rv,r'⟩=>by
  subst e
  exact bC.merge (es:=putD es x p) (kvs:=stored kvs x v) (bC.put rv r) r'
theorem Ev.dict {keys:List (Option Expr)}{ks values:List Expr}{es:List (Str×PV)}(hk:keys=ks.map some)(hp:cj C k sc own ρ ks values pos es)(h0:es≠[])(hl:es.length<=15)
 (Vv:ks.length=values.length)
 (Q0:∀env,(evalEachOpt keys env).zip ((evalEach values env).map λv=>do let x <-v;standAt pos;pure x)=((ks.zip values).map λx=>((IQ x.1 env,do let y <-IQ x.2 env;standAt pos;pure y):Jj y'×Jj y')).map λp=>(some p.1,p.2))
 (hlen:ks.length=es.length):
 Ev C k sc own ρ (.Dict keys values pos) (.au (es.foldl (λd e=>putD d e.1 e.2) [])):=λW A env s rm X=>by
 have QB:((ks.zip values).map λx=>((IQ x.1 env,do let y <-IQ x.2 env;standAt pos;pure y):Jj y'×Jj y')).length=es.length:=by
  simp only [Hb,OR,<-Vv,Pp,hlen]
 refine OA (knd:=strKind C.prog C.w) (Q0 env) (by intro q;rw [q] at QB;exact h0 (I1.mp QB.symm)) (by refine QB▸?_;exact hl) ?_
 have e0:ah C [] s {s with heap:=s.heap.push {cls:= .type "dict",data:= .dict #[]}}:=ah.push _ s.toks
 refine G' (hp (s.heap.objs.size::W) A env _ rm (X.grow e0 (Hk _) cg)) ?_ λ_ _ q=>q.elim
 rintro us s1 ⟨e1,kvs,hc,r⟩
 have hg:s1.heap.get? s.heap.objs.size=some (bj [] 0):=e1.keep _ _ X.inv.fresh (by simp) (Hp _ rfl)
 refine⟨kvs,hc,aW hg (⟨X.inv.fZ,by intro e h;simp at h,.nil,by decide⟩),λh' hd hs=> ?_⟩
 have eT:ah C [s.heap.objs.size] s1 {s1 with heap:=h',toks:=s1.toks+us.length}:=ah.turn ((X.aA e0).aA e1).inv hs hg (λvs q=>nomatch q) (by simp)
 have e2:ah C [] s {s1 with heap:=h',toks:=s1.toks+us.length}:=(e0.trans e1).iD eT (Hk _)
 refine aL (fO hd X.inv.fZ) λds n g2 sd=> ?_
 refine⟨e2,s.heap.objs.size,ds,n,_,rfl,λq=>q.elim X.inv.fresh (λq=>absurd (X.low _ q) (HR _)),g2,sd,bC.merge (show bC _ _ _ [] [] from rfl) ?_⟩
 exact bC.mono (λb o n g=>⟨λq=>n (q.elim .inl λq=> .inr (j' _ q)),(hs.2 b (by rintro rfl;exact n (.inr f'))).trans g⟩) r
theorem Ev.ku:Ev C k sc own ρ (.Dict [] [] pos) (.au []):=λW A env s rm X=>by
 simp only [OS]
 refine Ha (Jb (IL ?_))
 exact⟨ah.push _ s.toks,s.heap.objs.size,[],0,[],rfl,X.gd.fresh,Hp _ rfl,⟨X.inv.fZ,by intro e h;simp at h,.nil,by decide⟩,rfl⟩
structure kN (C:Cfg)(fa:He)(i:Nat):Prop where
 ex:∃fd,FnAt C fa fd (ay tb i)/\fd.scope=ai tb i/\fd.params=bM tb i/\fd.defaults= .none/\fd.kwdefaults= .none
theorem kN.fo {fa:He}{i:Nat}(F:kN C fa i):cE C fa:=by refine ae F.ex λ_ h _=> ?_;exact h.fo
structure vT (C:Cfg)(a:He)(S:Int->Bool):Prop where
 nt:a∉C.aq
 set:∃n,C.h₀.SetOf (intKind C.prog C.w) a S n
theorem aj.inSet {a:He}{S:Int->Bool}(F:vT C a S){i:Int}:aj C (HZ .In) (.int i) (.raw (.ref a)) (.bool (S i)):=λW A s v u rm g h1 h2=>by
 obtain⟨t,rfl⟩:=h1
 refine(show u= .ref a from h2)▸?_
 obtain⟨n,o,es,ep,tt,g',r⟩:=F.set
 exact wpAny_inSet_of (knd:=intKind C.prog C.w) (PW _ _ _ _) rfl ⟨o,es,ep,tt,g.inv.old _ _ F.nt g',r⟩ ⟨ah.tok _,rfl⟩
structure xc (C:Cfg)(a:He)(f:Int->Option Str):Prop where
 nt:a∉C.aq
 ns:a≠Js
 tab:∃g,C.h₀.MapOf (intKind C.prog C.w) a g/\∀i,match f i with |some x=>∃t,g i=some (.str x t) |none=>g i=none
noncomputable def D0:Option Str->PV
 |none=> .none
 |some x=> .str x
theorem xc.cur {a:He}{f:Int->Option Str}(F:xc C a f)(i:Inv C s):∃g,s.heap.MapOf (intKind C.prog C.w) a g/\∀i,match f i with |some x=>∃t,g i=some (.str x t) |none=>g i=none:=by
 obtain⟨g,⟨o,es,ep,h,r⟩,hf⟩:=F.tab
 exact⟨g,⟨o,es,ep,i.old _ _ F.nt h,r⟩,hf⟩
theorem Ev.F5 {o a:Expr}{apos:Jm}{d:He}{f:Int->Option Str}{i:Int}(F:xc C d f)(ho:Ev C k sc own ρ o (.raw (.ref d)))(ha:Ev C k sc own ρ a (.int i))
 (Qf:∀env,Jk o "get" env (IQ o env)=IQ o env)
 (QG:∀env,((Jo pos (HG [a] env)).all (λx=> !x.1) && (J1 pos (I8 [] env)).all (λx=>x.1.isSome)
  && decide ([a].length+([]:List JN).length+(if([]:List JN).isEmpty then 0 else 1) < 30))=true)
 (Qe:(apos.endLine==pos.line)=true)
 (he:∀env,HG [a] env=(false,IQ a env)::HG [] env)(QB:∀env,(Jo pos (HG [] env)).any (·.1)=false):
 Ev C k sc own ρ (.Call (.Attribute o "get" apos) [a] [] pos) (D0 (f i)):=λW A env s rm X=>by
 refine Jl (Qf env) (QG env) Qe Jh JP LG (G' (ho W A env s rm X) ?_ λ_ _ q=>q.elim)
 rintro v s1 ⟨e1,r1⟩
 refine(show v= .ref d from r1)▸?_
 refine ae (F.cur (X.aA e1).inv) λg hm hf=> ?_
 refine⟨hm.typeIs,hm.noDict,LP (G' ((ab.cons ha ab.nil he) W A env s1 pos rm (X.aA e1)) ?_ λ_ _ q=>q.elim) (he env) (QB env)⟩
 rintro vs s2 ⟨e2,r2⟩
 obtain⟨u,rfl,t,rfl⟩:=fe.inv1 r2
 refine ae (F.cur ((X.aA e1).aA e2).inv) λg2 XN Zx=> ?_
 refine Mj JP XN.typeIs Ni (PySem.F.args_dict_get_2 _ _) (meets_dict_get (intKind C.prog C.w) d (k:=i) (PW _ _ _ _) (by simpa using F.ns)) ⟨_,XN,?_⟩
 refine⟨(e1.trans e2).trans (ah.tok _),?_⟩
 have:=Zx i
 cases q:f i with
 |none=>rw [q] at this;refine this▸?_;exact rfl
 |some x=>
  rw [q] at this
  obtain⟨t',e⟩:=this
  refine e▸?_
  exact⟨t',rfl⟩
theorem cC.lower {x:Str}(hz:x.length<=5592405):cC C k (.builtin "str.lower") [.str x] (.str (P4 x)):=λW A s vs rm g r=>by
 obtain⟨v,rfl,⟨t,rfl⟩⟩:=r.inv1
 exact PyProof.Rows.SCL.lower hz λ_=>⟨ah.tok _,_,rfl⟩
structure ma (p:I')(xs:List Str):Prop where
 pos:p.posonlyargs=[]
 args:p.args.map (·.arg)=xs
 kw:p.kwonlyargs=[]
 va:p.vararg=none
 Ww:p.kwarg=none
 nd:xs.Nodup
theorem mJ {α:Type}:∀{xs:List Str}{vs:List α},xs.length=vs.length->∀x∈xs,((xs.zip vs).lookup x).isSome=true
 |[],_,_,x,hx=>by cases hx
 |y::xs,[],h,_,_=>by cases h
 |y::xs,v::vs,h,x,hx=>by
  simp only [N1,Hr]
  cases Ts:x==y with
  |true=>rfl
  |false=>
   rcases Hc.mp hx with rfl |hx
   ·simp at Ts
   ·exact mJ (by simpa using h) x hx
theorem iN {α:Type}:∀{xs:List Str}{vs:List α}(pre:List (Str×α)),xs.Nodup->xs.length=vs.length->(∀x∈xs,pre.lookup x=none)->xs.filterMap (λn=>((pre ++ xs.zip vs).lookup n).map (n,·))=xs.zip vs
 |[],_,_,_,_,_=>rfl
 |y::xs,[],_,_,h,_=>by cases h
 |y::xs,v::vs,pre,nd,h,hp=>by
  have h1:(pre ++ (y::xs).zip (v::vs)).lookup y=some v:=by
   simp only [IA,hp y f',N1,Hr]
   simp
  simp only [Md,h1]
  have h2:=iN (xs:=xs) (vs:=vs) (pre ++ [(y,v)]) (HJ.mp nd).2 (by simpa using h) (λx hx=>by
   simp only [IA,hp x (j' _ hx),Hr]
   have:(x==y)=false:=by
    have:x≠y:=by rintro rfl;exact(HJ.mp nd).1 hx
    simpa using this
   refine this▸?_;rfl)
  rw [IP] at h2
  show (y,v)::_=(y,v)::_
  rw [show pre ++ (y::xs).zip (v::vs)=pre ++ ([(y,v)] ++ xs.zip vs) from rfl,h2]
  rfl
theorem lP {fd:Jq}{xs:List Str}{vs:List y'}(hp:ma fd.params xs)(hd:fd.defaults= .none)(hl:vs.length=xs.length):BindsTo s fd ⟨vs,[]⟩ (xs.zip vs):=by
 have hm:((xs.take (xs.length - 0)).filter (λn=>((xs.zip vs).lookup n).isNone)).isEmpty=true:=by
  rw [Nat.sub_zero,IY,List.isEmpty_iff,Ks]
  intro x hx q
  rw [Option.isNone_iff_eq_none] at q
  have:=mJ hl.symm x hx
  replace this:=q▸this;cases this
 have hb:=iN (xs:=xs) (vs:=vs) [] hp.nd hl.symm (λ_ _=>rfl)
 obtain⟨nm,qn,⟨po,ar,va,ko,kd,Ww,df⟩,bd,sc,gl,cl,ZX,ZV,doc,pm,an,cd,ct,bu⟩:=fd
 obtain⟨h1,h2,h3,h4,h5,_⟩:=hp
 dsimp only at h1 h2 h3 h4 h5 hd
 subst h1 h2 h3 h4 h5 hd
 refine BindsTo.of_eq ?_
 with_unfolding_all refine Eq.trans (Hz (by refine hl▸?_;simp)) ?_
 dsimp only
 have hx:(PM (λx:Arg=>x.arg) [] ++ ar.map (·.arg))=ar.map (·.arg):=rfl
 rw [hx]
 have hn:Ky ((none.getD (#[]:Array y')).toList.length - (ar.map (·.arg)).length) (none.getD (#[]:Array y')).toList=[]:=List.drop_nil
 rw [hn,Hz (by simp only [Ir,hm];decide),List.zip_nil_right]
 exact HV PJ ((HV _ (Jc _)).trans hb)
theorem fe.zip {h:Ho}:∀{xs:List Str}{vs:List y'}{ps:List PV},fe C W h vs ps->xs.length=ps.length->dz C W h (xs.zip vs) (xs.zip ps)
 |[],_,_,_,_=> .nil
 |x::xs,vs,[],r,e=>by cases e
 |x::xs,vs,p::ps,⟨v,r,e,h1,h2⟩,hl=>by
  subst e
  exact .cons h1 (fe.zip h2 (by simpa using hl))
theorem kN.qx {fa:He}{i:Nat}{xs:List Str}{ps:List PV}{r:PV}(qs:List (Str×PV))(ok:C.Ok)(F:kN C fa i)(hP:ma (bM tb i) xs)(hn:∀x∈xs,(ai tb i).names.lookup x=some .local\/(ai tb i).names.lookup x=some .cell)(hl:ps.length=xs.length)(SV:xs.zip ps=qs)
 (Qb:own'.map (·.1)=own.map (·.1))
 (h:∀W A env s t Wt q code,ak A k->St C W ⟨ai tb i,q,code⟩ own (aC qs) env s->Bs C Wt (λ_=>true) t own env s->
  Hi C.M A (HA (ay tb i) env) (λf J=>(∃sc Qa,St C W sc own' Qa env J)/\Bs C Wt (λ_=>true) t own' env J/\Rr C W J.heap (match f with | .ret v=>v |_=> .none) r) (λ_ _=>False) s):
 gX C (k+1) own own' (.ref fa) ps [] r:=λW A s vs kvs rm g ho r1 r2=>by
 subst SV
 rw [r2.iT]
 refine Bv F.ex λfd F Ql SI S9 UH=> ?_
 have TJ:vs.length=xs.length:=by rw [aR.length r1,hl]
 have Qk:(xs.zip vs).map (·.1)=xs:=LR (by simp_all)
 refine dE (own:=own) (args:=⟨vs,[]⟩) ok F g ho rm (lP (by rw [SI];exact hP) S9 TJ) (r1.zip hl.symm) (by rw [Qk];exact hP.nd) (λy hy=> ?_) ?_
 ·refine Ql▸?_
  exact hn _ (by have:y.1∈(xs.zip vs).map (·.1):=Hd.mpr ⟨y,hy,rfl⟩;rwa [Qk] at this)
 intro Lo env J hL X B A' QM
 have X':St C (Lo::W) ⟨ai tb i,fd.qualname ++ ".<locals>.",fd.code⟩ own (aC (xs.zip ps)) env J:=by
  refine Ql▸?_;exact X
 refine G' (h _ A' env J _ _ _ _ QM X' B) ?_ λ_ _ q=>q
 intro f Qj zz;refine cZ zz λz3 B2 rr=> ?_;refine fB z3 λsc Qa X2=> ?_
 refine⟨B2.aA,?_,rr.drop λa ha=>j' _ ha⟩
 have x2:ez C (Lo::W) own' Qj:=X2.owns
 refine x2.drop λy hy=> ?_
 have:y.1∈own'.map (·.1):=Hd.mpr ⟨y,hy,rfl⟩
 rw [Qb] at this
 refine ae (Hd.mp this) λz hz e=> ?_
 refine e▸?_
 exact(ho z hz).1
theorem gX.EE {f:y'}{ps:List PV}{Qo:List (Str×PV)}{r:PV}(h:gX C k [] [] f ps Qo r):aO C k own f ps Qo r:=λW A s vs kvs rm g ho r1 r2=>
 G' (h W A s vs kvs rm g ez.nil r1 r2) (λv J q=>⟨q.1,q.2.2⟩) λ_ _ q=>q
theorem kN.call {fa:He}{i:Nat}{xs:List Str}{ps:List PV}{r:PV}(qs:List (Str×PV))(ok:C.Ok)(F:kN C fa i)(hP:ma (bM tb i) xs)(hn:∀x∈xs,(ai tb i).names.lookup x=some .local\/(ai tb i).names.lookup x=some .cell)(hl:ps.length=xs.length)(SV:xs.zip ps=qs)
 (h:∀W A env s t Wt q code,ak A k->St C W ⟨ai tb i,q,code⟩ [] (aC qs) env s->Bs C Wt (λ_=>true) t [] env s->
  Hi C.M A (HA (ay tb i) env) (λf J=>(∃sc Qa,St C W sc [] Qa env J)/\Bs C Wt (λ_=>true) t [] env J/\Rr C W J.heap (match f with | .ret v=>v |_=> .none) r) (λ_ _=>False) s):
 aO C (k+1) own (.ref fa) ps [] r:=(kN.qx qs ok F hP hn hl SV rfl h).EE
noncomputable def rR:List Int:=[173,847,6150,6155,6156,6157,8203,8204,8205,8288,65279] ++ (Hg 16).map λ(i:Nat)=>65024+(i:Int)
noncomputable def iJ (i:Int):Bool:=rR.contains i
structure Lx (C:Cfg)(f3:Int->Option Str):Prop where
 L:Lw C
 ty:kN C 170 16
 it:kN C 117 12
 mt:kN C 163 14
 cc:kN C 63 4
 ac:kN C 56 3
 af:kN C 49 2
 set:vT C 107 iJ
 tab:xc C 118 f3
variable {f3:Int->Option Str}
theorem Cj (L:Lx C f3){x:Str}(h1:x.length=1):aO C (k+1) own (.ref 117) [.str x] [] (.bool (iJ (x.cps.getD 0 0:Nat))):=by
 have L':=L.L
 refine kN.call (xs:=["code"]) [("code",.str x)] L'.ok L.it ⟨rfl,rfl,rfl,rfl,rfl,by decide+kernel⟩ (by decide+kernel) rfl rfl λW A env s t Wt q code rm X B=> ?_
 refine cy X B rm (Ev.cmp (Ev.a5 (by k_extra"e") (by k_extra"e") (cC.ord h1) (λenv=>rfl) (λenv=>⟨_,_,rfl⟩)) (by k_extra"e") (aj.inSet L.set) (by rfl)) ?_
 intro v J X' B' r
 exact⟨⟨_,_,X'⟩,B',r⟩
noncomputable def kG (f3:Int->Option Str) (x:Str):Str:=match f3 (x.cps.getD 0 0:Nat) with
 |some y=>y
 |none=>P4 x
theorem Cd (L:Lx C f3){x:Str}(h1:x.length=1):aO C (k+1) own (.ref 163) [.str x] [] (.str (kG f3 x)):=by
 have L':=L.L
 refine kN.call (xs:=["code"]) [("code",.str x)] L'.ok L.mt ⟨rfl,rfl,rfl,rfl,rfl,by decide+kernel⟩ (by decide+kernel) rfl rfl λW A env s t Wt q code rm X B=> ?_
 refine az (p:=D0 (f3 (x.cps.getD 0 0:Nat))) X B rm (Ev.F5 L.tab (by k_extra"e") (Ev.a5 (by k_extra"e") (by k_extra"e") (cC.ord h1) (λenv=>rfl) (λenv=>⟨_,_,rfl⟩)) (λ_=>rfl) (λ_=>rfl) (by rfl) (λ_=>rfl) (λ_=>rfl)) (by rfl) rfl ?_
 intro s1 X1 B1
 unfold kG
 cases q:f3 (x.cps.getD 0 0:Nat) with
 |none=>
  replace X1:=q▸X1
  refine step_if (b:=false) X1 B1 rm (Tr.cmp (Ev.local (p:= .none) (by done) fL (by done)) (by k_extra"e") aj.my Th.bool (by rfl)) ?_
  intro s2 X2 B2
  refine Hq ?_
  dsimp only
  refine cy X2 B2 rm (Ev.DS (T:="str") (id:="str.lower") (by k_extra"e") fY.str (cC.lower (by rw [h1];decide)) (λ_=>rfl) (by rfl) Kt PySem.F.slot_str_lower PySem.F.type_str_lower) ?_
  intro v J X' B' r
  exact⟨⟨_,_,X'⟩,B',r⟩
 |some y=>
  rw [q] at X1
  refine step_if (b:=true) X1 B1 rm (Tr.cmp (Ev.local (p:= .str y) (by done) fL (by done)) (by k_extra"e") (aj.isNotNone rfl) Th.bool (by rfl)) ?_
  intro s2 X2 B2
  refine cy X2 B2 rm (Ev.local (p:= .str y) (by rfl) fL (by done)) ?_
  intro v J X' B' r
  exact⟨⟨_,_,X'⟩,B',r⟩
theorem kh {P:He->List Hs->List (Str×y')->Prop}{N:He->Prop}{h:Ho}:∀{n:Nat}{a:Int}{l:List y'},(l.length=n/\∀(j:Nat) (v:y'),l[j]? =some v->∃t,v=NM (a+(j:Int)*1) t)->aR P N h l (aI a n)
 |0,a,l,⟨h1,_⟩=>by
  refine(I1.mp h1)▸?_;rfl
 |n+1,a,[],⟨h1,_⟩=>by cases h1
 |n+1,a,v::l,⟨h1,h2⟩=>by
  have e:aI a (n+1)= .int a::aI (a+1) n:=by
   unfold aI
   simp only [List.range_succ_eq_map,Hw,HB]
   congr 1
   ·simp
   ·apply Ik
    intro i _
    show PV.int (a+((i+1:Nat):Int))= .int (a+1+(i:Int))
    congr 1;lia
  simp only [e]
  refine cA (h2 0 v rfl) λt ht=> ?_
  refine⟨v,l,rfl,⟨t,by rw [ht];simp⟩,kh ⟨by simpa using h1,λj u hu=> ?_⟩⟩
  refine cA (h2 (j+1) u ((hu))) λt ht=> ?_
  exact⟨t,by rw [ht];congr 1;lia⟩
theorem Ev.uR {y:Str}{py:Jm}{x:Str}{px pr:Jm}{e e':Expr}{a b:Int}(hl:Ev C k sc own ρ (.Name y py) (.raw (.type "list")))(hf:Ev C k sc own ρ (.Name x px) (.raw (.type "range")))(ha:Ev C k sc own ρ e (.int a))(hb:Ev C k sc own ρ e' (.int b))(h0:0<=a)(XD:a<=sizeLine)(hb0:0<=b)(T7:b<=sizeLine)
 (hn0:∀env,HG [.Call (.Name x px) [e,e'] [] pr] env=[(false,IQ (.Call (.Name x px) [e,e'] [] pr) env)])
 (hn:∀env,HG [e,e'] env=(false,IQ e env)::HG [e'] env)(Q':∀env,HG [e'] env=[(false,IQ e' env)]):Ev C k sc own ρ (.Call (.Name y py) [.Call (.Name x px) [e,e'] [] pr] [] pos) (.lst (aI a (b - a).toNat)):=λW A env s rm X=>by
 refine I6 (G' (hl W A env s rm X) ?_ λ_ _ q=>q.elim)
 rintro v s1 ⟨e1,r1⟩
 refine(show v= .type "list" from r1)▸?_
 have X1:=X.aA e1
 refine callWith_type1 ?_ (hn0 env) rfl
 refine K2 ?_
 refine I6 (G' (hf W A env s1 rm X1) ?_ λ_ _ q=>q.elim)
 intro v s2 zz;refine c7 zz λe2 r2=> ?_
 refine(show v= .type "range" from r2)▸?_
 have X2:=X1.aA e2
 refine callWith_type1 ?_ (hn env) (by rw [Q' env];rfl)
 simp only [hn,Q']
 refine K2 (G' (ha W A env s2 rm X2) ?_ λ_ _ q=>q.elim)
 rintro u s3 ⟨e3,tk,rfl⟩
 refine K2 (G' (hb W A env s3 rm (X2.aA e3)) ?_ λ_ _ q=>q.elim)
 rintro u s4 ⟨e4,tk',rfl⟩
 have X4:=(X2.aA e3).aA e4
 refine LZ (call_range_2 ?_)
 have e5:ah C [] s4 {s4 with heap:=s4.heap.push {cls:= .type "range",data:= .fields #[.int a tk,.int b tk',.int 1 s4.toks]},toks:=s4.toks+1}:=ah.push _ _
 have YN:sizeLine<=2 ^ 24:=by decide
 refine LZ (ba (call_list_range (n:=(b - a).toNat) rm.handled (IsRange.new _ _ _ _ _ _ _) (pd (by lia) (by lia) (by lia) (by lia)) (by rw [NW];split <;> grind -splitIndPred) (by lia) λh' tk acc' c' hk hg hI hz=> ?_))
 refine⟨(((((e1.trans e2).trans e3).trans e4).trans e5).trans (ah.of_keeps (C:=C) (W:=[]) (tk:=tk) hk hz)),_,acc'.toList,c',rfl,(X4.aA e5).gd.fresh,hg,kh ⟨by simpa using hI.1,λj v hv=> ?_⟩⟩
 refine cA (hI.2 j v (by simpa using hv)) λt ht=> ?_
 exact⟨t,ht⟩
theorem lr {α:Type}(l:List α)(a b:Nat)(hb:b<=l.length):((Hg (b - a)).map (a+·)).filterMap (l[·]?)=(l.take b).drop a:=by
 by_cases h:a<=b
 ·simp only [PySem.StrLaws.picks l (b - a) a (by simp_all),List.drop_take]
 ·rw [show b - a=0 by grind -splitIndPred,Ku (by simp;lia)];rfl
noncomputable def eR {α:Type} (lo hi:Option Int) (l:List α):List α:=(l.take (hi.elim l.length (clipAt l.length))).drop (lo.elim 0 (clipAt l.length))
theorem uH (n:Nat)(i:Int):clipAt n i<=n:=by
 have:=PN n i
 omega
theorem n6 (n:Nat)(hi:Option Int):hi.elim n (clipAt n)<=n:=by cases hi <;> simp [uH]
theorem dF (xs:List PV)(lo hi:Option Int):xh xs lo hi none=eR lo hi xs:=by
 delta xh eR
 rw [sliceBounds_plain]
 simp only [O2]
 exact lr xs _ _ (n6 _ _)
theorem nO (lo hi:Option Int)(n:Nat):I0 lo hi 1 n=(Hg (hi.elim n (clipAt n) - lo.elim 0 (clipAt n))).map (lo.elim 0 (clipAt n)+·):=by
 rw [<-O2]
 simp only [I0]
 cases lo <;> cases hi <;> simp [PN]
theorem nA (x:Str)(lo hi:Option Int):eb x lo hi none=⟨(eR lo hi x.cps.toList).toArray⟩:=by
 unfold eb
 simp only [Option.getD_none,beq_self_eq_true,K7]
 have e:(I0 lo hi 1 x.length).filterMap (x.cps[·]?)=eR lo hi x.cps.toList:=by
  rw [nO]
  have h:=lr x.cps.toList (lo.elim 0 (clipAt x.length)) (hi.elim x.length (clipAt x.length)) (by have:=n6 x.length hi;exact this)
  rw [show (λ(i:Nat)=>x.cps[i]?)=(λi=>x.cps.toList[i]?) from by funext i;simp]
  rw [h];unfold eR;simp;rfl
 split
 ·rename_i h
  have hl:(I0 lo hi 1 x.length).length=x.length:=by simpa using h
  have:eR lo hi x.cps.toList=x.cps.toList:=by
   unfold eR
   simp only [nO,Hb,J3] at hl
   have h1:=n6 x.length hi
   have hx:x.cps.toList.length=x.length:=by simp;rfl
   refine hx▸?_
   by_cases h0:x.length=0
   ·have:x.cps.toList=[]:=I1.mp (hx.trans h0)
    rw [this];simp
   ·have e1:lo.elim 0 (clipAt x.length)=0:=by grind -splitIndPred
    rw [e1,(by simp_all:hi.elim x.length (clipAt x.length)=x.length),NF,<-hx,IY]
  rw [this]
 ·rw [e]
theorem lY (x:Str):eb x none none (some (-1))=⟨x.cps.toList.reverse.toArray⟩:=by
 unfold eb
 simp only [OB]
 rw [Hz (by simp),picked_rev]
 congr 2
 refine((by simp;rfl:x.cps.toList.length=x.length))▸?_
 refine(show (λ(i:Nat)=>x.cps[i]?)=(λi=>x.cps.toList[i]?) from by funext i;simp)▸?_
 generalize x.cps.toList=l
 apply MC
 intro i
 have gen:∀m,m<=l.length->((Hg m).map λk=>l.length - 1 - k).filterMap (λ(i:Nat)=>l[i]?)=l.reverse.take m:=by
  intro m
  induction m with
  |zero=>intro _;simp
  |succ m ih=>
   intro hm
   simp only [JV,HC,List.filterMap_append,ih (by exact H5 (by assumption)),JA]
   rw [(List.getElem?_reverse (by assumption))]
   simp [Hn (by exact Nat.sub_one_sub_lt_of_lt hm:l.length - 1 - m < l.length)]
 rw [gen _ (Hk _)]
 rw [H9 (by simp)]
theorem iq {α:Type}(l:List α)(a:Nat):eR (some (a:Int)) none l=l.drop a:=by
 unfold eR
 simp only [PO,O3,IY]
 by_cases h:a<=l.length
 ·rw [JW h]
 ·rw [M0 (by lia),OC,Ku (by lia)]
theorem jl {α:Type}(l:List α)(a:Nat):eR none (some (a:Int)) l=l.take a:=by
 unfold eR
 simp only [PO,O3,NF]
 by_cases h:a<=l.length
 ·rw [JW h]
 ·rw [M0 (by lia),IY,H9 (by lia)]
theorem Aj {α:Type}(lo hi:Option Int)(l:List α):(eR lo hi l).length<=l.length:=by
 unfold eR
 simp;lia
theorem ni (x:Str)(lo hi:Option Int):(eb x lo hi none).length<=x.length:=by
 rw [nA]
 have:=Aj lo hi x.cps.toList
 show (eR lo hi x.cps.toList).toArray.size<=_
 exact Hf this (by exact Hk _)
theorem Ev.vJ {keys:List (Option Expr)}{ks values:List Expr}{es Q1:List (Str×PV)}(hk:keys=ks.map some)(Vv:ks.length=values.length)
 (Q0:∀env,(evalEachOpt keys env).zip ((evalEach values env).map λv=>do let x <-v;standAt pos;pure x)=((ks.zip values).map λx=>((IQ x.1 env,do let y <-IQ x.2 env;standAt pos;pure y):Jj y'×Jj y')).map λp=>(some p.1,p.2))
 (hp:cj C k sc own ρ ks values pos es)(hb:(!es.isEmpty && La es.length 15 && (ks.length==es.length))=true)(he:es.foldl (λd e=>putD d e.1 e.2) []=Q1):
 Ev C k sc own ρ (.Dict keys values pos) (.au Q1):=by
 simp only [H',JY,beq_iff_eq] at hb
 refine c7 hb λz1 h3=> ?_;refine c7 z1 λh1 h2=> ?_
 exact he▸Ev.dict hk hp (by intro q;replace h1:=q▸h1;cases h1) (Hv h2) Vv Q0 h3
theorem lookup_map2 {α β:Type}{f:α->β}{x:Str}:∀{l:List (Str×α)},(l.map λe=>(e.1,f e.2)).lookup x=(l.lookup x).map f
 |[]=>rfl
 |(y,a)::l=>by
  simp only [Hw,Hr]
  cases x==y <;> simp [lookup_map2]
noncomputable def cI (b:List I9) (n:Nat):List I9:=(Dk (b.getD n default)).2.2.1
noncomputable abbrev s1 (c:Nat):Str:=⟨#[c]⟩
theorem St.settle (X:St C W sc own ρ env s)(n:Nat):St C (dR W own) sc [] (λx=>(ρ x).map (res (bG own n))) env s:=by
 have ho:ez C W own s:=X.owns
 have hL:env.locals∈dR W own:=HU.mpr ⟨X.noLoc.1,HM.mpr λy hy=>by
  have:=X.ownLoc y hy
  simpa using this⟩
 have X':St C (dR W own) sc [] ρ env s:=(X.less (own':=[]) (by simp)).drop dU (by simp) hL
 refine⟨X'.inv,X'.ok,X'.low,X'.owns,?_,λy hy=> ?_,X'.apart,X'.noLoc,X'.ownLoc,X'.new,X'.celW⟩
 ·refine ae X.loc λm hm h=> ?_
  refine⟨m,hm,λx q hk hq=> ?_⟩
  cases hp:ρ x with
  |none=>replace hq:=hp▸hq;cases hq
  |some p=>
   refine ae (h x p hk hp) λv e1 e2=> ?_
   replace hq:=hp▸hq
   cases hq
   exact⟨v,e1,l0 ho n e2⟩
 ·refine bo (X.cel y hy) λc cv e1 e2 h=> ?_
  refine⟨c,cv,e1,e2,λq hq=> ?_⟩
  cases hp:ρ y with
  |none=>replace hq:=hp▸hq;cases hq
  |some p=>
   refine ae (h p hp) λv e3 e4=> ?_
   replace hq:=hp▸hq
   cases hq
   exact⟨v,e3,l0 ho n e4⟩
def kA (C:Cfg)(k:Nat)(sc:Sc)(own:Own)(ρ:bP)(e:Expr)(p:PV):Prop:=
 ∀W A env s,ak A k->St C W sc own ρ env s->Hi C.M A (IQ e env) (λv J=>ah C [] s J/\∃a,v= .ref a/\s.heap.objs.size<=a/\a < J.heap.objs.size/\dO C (a::W) J.heap a p) (λ_ _=>False) s
theorem kA.list {es:List Expr}{ps:List PV}(h:ab C k sc own ρ es ps)(hz:ps.length<=sizeLine):kA C k sc own ρ (.List es pos) (.lst ps):=λW A env s rm X=>by
 refine PS (G' (h _ A env s pos rm X) ?_ λ_ _ q=>q)
 rintro vs s1 ⟨e1,r1⟩
 have e2:ah C [] s1 {s1 with heap:=s1.heap.push {cls:= .type "list",data:= .seq vs.toArray}}:=ah.push _ s1.toks
 exact⟨by rw [aR.length r1];exact hz,e1.trans (ah.push _ _),s1.heap.objs.size,rfl,e1.size,cg,vs,0,Hp _ rfl,aR.mono (N.grow (Hk _) e2) r1⟩
theorem kA.ku:kA C k sc own ρ (.Dict [] [] pos) (.au []):=λW A env s rm X=>by
 simp only [OS]
 refine Ha (Jb (IL ?_))
 exact⟨ah.push _ s.toks,s.heap.objs.size,rfl,Hk _,cg,[],0,[],Hp _ rfl,⟨X.inv.fZ,by intro e h;simp at h,.nil,by decide⟩,rfl⟩
theorem St.takes {a:He}{p:PV}(X:St C W sc own ρ env s)(B:Bs C Wt mine t own env s)(e:ah C [] s J)(h1:s.heap.objs.size<=a)(h2:a < J.heap.objs.size)(hc:dO C (a::W) J.heap a p):
 St C (a::W) sc ((a,p)::own) ρ env J/\Bs C Wt mine t ((a,p)::own) env J:=by
 refine⟨(X.grow e h1 h2).iS f' hc (λq=>absurd (X.inv.gm _ q) (HH.mpr h1)) (λq=>absurd (X.low _ X.noLoc.1) (by refine q▸?_;exact HH.mpr h1)),(B.step e).more ⟨X.inv.beyond h1,.inl (Hf B.aA.size h1)⟩⟩
theorem dX {x:Str}{px:Jm}{e:Expr}{p:PV}(X:St C W sc own ρ env s)(B:Bs C Wt mine t own env s)(rm:ak A k)(he:kA C k sc own ρ e p)
 (hl:sc.scope.names.lookup x=some .local)(hs:Kg e (some (.Name x px)) pos.line env=pure false)
 (next:∀a J,a∉W->St C (a::W) sc ((a,p)::own) (upd ρ x (.raw (.ref a))) env J->Bs C Wt mine t ((a,p)::own) env J->Hi C.M A (HA rest env) Q E J):Hi C.M A (HA (.Assign [.Name x px] e pos::rest) env) Q E s:=by
 refine Ia (KG (G' (he W A env s rm X) ?_ λ_ _ q=>q.elim) hs)
 rintro v s1 ⟨e1,a,rfl,h1,h2,hc⟩
 exact fx (X.takes B e1 h1 h2 hc).1 (X.takes B e1 h1 h2 hc).2 hl (show Rr C (a::W) s1.heap (.ref a) (.raw (.ref a)) from rfl) λJ X' B' _=>next a J (λq=>absurd (X.low _ q) (HH.mpr h1)) X' B'
theorem d8 {x:Str}{px:Jm}{e:Expr}{p:PV}(X:St C W sc own ρ env s)(B:Bs C Wt mine t own env s)(rm:ak A k)(he:kA C k sc own ρ e p)
 (hl:sc.scope.names.lookup x=some .cell)(hm:mine x=true)(hs:Kg e (some (.Name x px)) pos.line env=pure false)
 (next:∀a J,a∉W->St C (a::W) sc ((a,p)::own) (upd ρ x (.raw (.ref a))) env J->Bs C Wt mine t ((a,p)::own) env J->Hi C.M A (HA rest env) Q E J):Hi C.M A (HA (.Assign [.Name x px] e pos::rest) env) Q E s:=by
 refine Ia (KG (G' (he W A env s rm X) ?_ λ_ _ q=>q.elim) hs)
 rintro v s1 ⟨e1,a,rfl,h1,h2,hc⟩
 exact gv (X.takes B e1 h1 h2 hc).1 (X.takes B e1 h1 h2 hc).2 hl hm (show Rr C (a::W) s1.heap (.ref a) (.raw (.ref a)) from rfl) λJ X' B' _=>next a J (λq=>absurd (X.low _ q) (HH.mpr h1)) X' B'
theorem pf {a:He}{es fs:List (Str×PV)}{kvs:List (Str×y')}{ds:List Hs}{h':Ho}{tk:Nat}{n:Nat}(X:St C W sc own ρ env s)(B:Bs C Wt mine t own env s)(ha:(a,PV.au es)∈own)
 (hs:Iv a s.heap h')(hn:h'.get? a=some (bj ds n))(sd:C.S a ds kvs)(hr:bC C.S (C.N W) s.heap kvs fs):
 St C W sc (aE own a (.au fs)) ρ env {s with heap:=h',toks:=tk}/\Bs C Wt mine t (aE own a (.au fs)) env {s with heap:=h',toks:=tk}:=by
 obtain⟨h1,⟨vs,m,Zn,g,_,r⟩,h3⟩:=X.owns _ ha
 have e:ah C [a] s {s with heap:=h',toks:=tk}:=ah.turn X.inv hs g (λvs q=>nomatch q) (by simp)
 have hm:=B.owns _ ha
 refine⟨X.turn h1 (X.ownLoc _ ha) hm.1 hs.extBut e g (λ_=>nofun) λy hy=> ?_,(B.turn hs hm e).less λy hy=>mY hy⟩
 rcases qd hy with rfl |h
 ·exact .inl ⟨rfl,ds,n,kvs,hn,sd,bC.mono (λb o n g=>⟨n,(hs.2 b (by rintro rfl;exact n (.inr h1))).trans g⟩) hr⟩
 ·exact .inr h
theorem pU {a:He}{es:List (Str×PV)}{x:Str}{tk:Tok}{v:y'}{p:PV}{Q:Unit->Hh->Prop}(X:St C W sc own ρ env s)(B:Bs C Wt mine t own env s)(ha:(a,PV.au es)∈own)(hv:Rr C W s.heap v p)(hz:es.length<=sizeLine)
 (next:∀J,St C W sc (aE own a (.au (putD es x p))) ρ env J->Bs C Wt mine t (aE own a (.au (putD es x p))) env J->Q () J):Hi C.M A (setItem (.ref a) (.str x tk) v) Q E s:=by
 obtain⟨h1,⟨ds,m,kvs,g,sd,r⟩,h3⟩:=X.owns _ ha
 refine wpAny_setItem_pairs (knd:=strKind C.prog C.w) (mQ x tk) (aW g sd) (λh' hd hs=> ?_) (by rw [bC.length r];exact hz)
 refine aL (fO hd sd.1) λVj n' g' WU=> ?_
 have:=pf (tk:=s.toks+1) X B ha hs g' WU (bC.put hv r)
 exact next _ this.1 this.2
theorem dy {o i e:Expr}{pos':Jm}{a:He}{es:List (Str×PV)}{x:Str}{p:PV}(X:St C W sc own ρ env s)(B:Bs C Wt mine t own env s)(rm:ak A k)(he:Ev C k sc own ρ e p)(ho:Ev C k sc own ρ o (.raw (.ref a)))(hi:Ev C k sc own ρ i (.str x))(ha:(a,PV.au es)∈own)(hz:es.length<=sizeLine)
 (hs:Kg e (some (.Subscript o i pos')) pos.line env=pure false)
 (next:∀J,St C W sc (aE own a (.au (putD es x p))) ρ env J->Bs C Wt mine t (aE own a (.au (putD es x p))) env J->Hi C.M A (HA rest env) Q E J):Hi C.M A (HA (.Assign [.Subscript o i pos'] e pos::rest) env) Q E s:=by
 refine Ia (wpAny_Assign_Subscript (G' (he W A env s rm X) ?_ λ_ _ q=>q.elim) hs)
 rintro v s1 ⟨e1,r1⟩
 refine G' (ho W A env s1 rm (X.aA e1)) ?_ λ_ _ q=>q.elim
 rintro ov s2 ⟨e2,r2⟩
 refine(show ov= .ref a from r2)▸?_
 refine G' (hi W A env s2 rm ((X.aA e1).aA e2)) ?_ λ_ _ q=>q.elim
 rintro iv s3 ⟨e3,tk,rfl⟩
 exact pU (((X.aA e1).aA e2).aA e3) (((B.step e1).step e2).step e3) ha ((e2.trans e3).pC r1) hz next
theorem nH {o i e:Expr}{op:Operator}{pos':Jm}{a:He}{es:List (Str×PV)}{x:Str}{p q r:PV}(X:St C W sc own ρ env s)(B:Bs C Wt mine t own env s)(rm:ak A k)(ho:Ev C k sc own ρ o (.raw (.ref a)))(hi:Ev C k sc own ρ i (.str x))(he:Ev C k sc own ρ e q)(ha:(a,PV.au es)∈own)(hz:es.length<=sizeLine)
 (hp:es.lookup x=some p)(Sy:aj C (inplaceOp op) p q r)(Xa:∀ov iv new,augStore i ov iv new=(do holding [new,ov,iv] (setItem ov iv new);release [new,ov,iv] [];pure .next))
 (next:∀J,St C W sc (aE own a (.au (putD es x r))) ρ env J->Bs C Wt mine t (aE own a (.au (putD es x r))) env J->Hi C.M A (HA rest env) Q E J):Hi C.M A (HA (.AugAssign (.Subscript o i pos') op e pos::rest) env) Q E s:=by
 refine Ia (L1 (G' (ho W A env s rm X) ?_ λ_ _ q=>q.elim) Xa)
 rintro ov s1 ⟨e1,r1⟩
 refine(show ov= .ref a from r1)▸?_
 refine G' (hi W A env s1 rm (X.aA e1)) ?_ λ_ _ q=>q.elim
 rintro iv s2 ⟨e2,tk,rfl⟩
 have X2:=(X.aA e1).aA e2
 obtain⟨h1,⟨ds,m,kvs,g,sd,rd⟩,h3⟩:=X2.owns _ ha
 refine ae (bC.find rd hp) λold h4 h5=> ?_
 refine Ox (knd:=strKind C.prog C.w) (mQ x tk) (aW g sd).mapOf h4 ?_
 have e3:ah C [] s2 {s2 with toks:=s2.toks+1}:=ah.tok _
 have X3:=X2.aA e3
 refine G' (he W A env _ rm X3) ?_ λ_ _ q=>q.elim
 rintro v s4 ⟨e4,r4⟩
 have X4:=X3.aA e4
 refine G' (Sy W A s4 _ _ rm.zero X4.gd ((e3.trans e4).pC h5) r4) ?_ λ_ _ q=>q.elim
 rintro nv s5 ⟨e5,r5⟩
 exact pU (X4.aA e5) (((((B.step e1).step e2).step e3).step e4).step e5) ha r5 hz next
theorem mN {l:He}{vs:List y'}{n:Nat}{i:Int}{t:Tok}{v:y'}{Q:Unit->Hh->Prop}(ho:s.heap.get? l=some (ao vs n))(h0:0<=i)(UC:i < 2 ^ 63)(hn:i < vs.length)
 (hQ:∀h' n',h'.get? l=some (ao (vs.set i.toNat v) n')->Iv l s.heap h'->Q () {s with heap:=h'}):
 Hi (model C.prog C.w) A (setItem (.ref l) (.int i t) v) Q E s:=by
 have hl:=aQ ho
 have hd:(ao vs n).data= .seq vs.toArray n:=rfl
 unfold setItem
 try with_reducible refine Ip ?_
 first |refine Ha (Hu ?_) |skip
 refine Ha (Og hl.typeIs (by rfl) ?_)
 refine Ha (JC (name:=Lv "__setitem__") hl.typeIs Oh
  (Kl Oh hl.typeIs entry_list_setitem ?_ (args_list_setitem _ _ _)))
 show Hi _ _ (H8.List.listSubscript? (.int i t) >>=_) _ _ s
 refine Ha (wpAny_listSubscript_int (fitsIndex_of h0 UC) ?_)
 clear UC
 obtain⟨j,rfl⟩:=Int.eq_ofNat_of_zero_le h0
 have e:∃n',IE (·.setIfInBounds j v) (ao vs n)=ao (vs.set j v) n':=⟨_,by simp only [IE,ao];simp;rfl⟩
 obtain⟨n',e⟩:=e
 have SU:(s.heap.update l (IE (·.setIfInBounds j v))).get? l=some (ao (vs.set j v) n'):=by
  refine e▸?_
  exact JO _ ho (Ib.isFreed_of_seq (by rfl))
 refine Ha (Ha (wpAny_seqItemAt ho hd (Hu ?_)))
 refine((by simp [(by lia)]:vs.toArray[j]? =some vs[j]))▸?_
 refine Ha (wpAny_setSeqItemAt ho hd ?_)
 first
  |exact Ha (Hu (Hu ⟨.none,rfl,Hu (hQ _ _ SU (It ..))⟩))
  |exact Hu ⟨.none,rfl,Hu (hQ _ _ SU (It ..))⟩
theorem aR.set {P:He->List Hs->List (Str×y')->Prop}{N:He->Prop}{h:Ho}{v:y'}{p:PV}(hv:Rp P N h v p):∀{ps:List PV}{vs:List y'},aR P N h vs ps->∀j,aR P N h (vs.set j v) (ps.set j p)
 |[],vs,r,j=>by refine(show vs=[] from r)▸?_;exact(rfl:([]:List y')=[])
 |q::ps,_,⟨u,r',e,x,y⟩,0=>by subst e;exact⟨v,r',rfl,hv,y⟩
 |q::ps,_,⟨u,r',e,x,y⟩,j+1=>by subst e;exact⟨u,_,rfl,x,aR.set hv y j⟩
theorem wu {a:He}{xs:List PV}{i:Int}{tk:Tok}{v:y'}{p:PV}{Q:Unit->Hh->Prop}(X:St C W sc own ρ env s)(B:Bs C Wt mine t own env s)(ha:(a,PV.lst xs)∈own)(hv:Rr C W s.heap v p)(h0:0<=i)(hn:i < xs.length)(hz:xs.length<=sizeLine)
 (next:∀J,St C W sc (aE own a (.lst (xs.set i.toNat p))) ρ env J->Bs C Wt mine t (aE own a (.lst (xs.set i.toNat p))) env J->Q () J):Hi C.M A (setItem (.ref a) (.int i tk) v) Q E s:=by
 refine aL (X.owns _ ha).2.1 λvs m g r=> ?_
 have hl:=aR.length r
 have QO:(sizeLine:Int) < 2 ^ 63:=by decide
 refine mN g h0 (by lia) (by simp_all) λh' n' hg hs=> ?_
 have:=lR (tk:=s.toks) (us:=vs.set i.toNat v) (n:=n') (ys:=xs.set i.toNat p) X B ha hs hg (aR.set hv r _)
 exact next _ this.1 this.2
theorem uP {o i e:Expr}{op:Operator}{pos':Jm}{a:He}{xs:List PV}{j:Int}{p q r:PV}(X:St C W sc own ρ env s)(B:Bs C Wt mine t own env s)(rm:ak A k)(ho:Ev C k sc own ρ o (.raw (.ref a)))(hi:Ev C k sc own ρ i (.int j))(he:Ev C k sc own ρ e q)(ha:(a,PV.lst xs)∈own)(hz:xs.length<=sizeLine)
 (h0:0<=j)(hp:xs[j.toNat]? =some p)(Sy:aj C (inplaceOp op) p q r)(Xa:∀ov iv new,augStore i ov iv new=(do holding [new,ov,iv] (setItem ov iv new);release [new,ov,iv] [];pure .next))
 (next:∀J,St C W sc (aE own a (.lst (xs.set j.toNat r))) ρ env J->Bs C Wt mine t (aE own a (.lst (xs.set j.toNat r))) env J->Hi C.M A (HA rest env) Q E J):Hi C.M A (HA (.AugAssign (.Subscript o i pos') op e pos::rest) env) Q E s:=by
 refine Ia (L1 (G' (ho W A env s rm X) ?_ λ_ _ q=>q.elim) Xa)
 rintro ov s1 ⟨e1,r1⟩
 refine(show ov= .ref a from r1)▸?_
 refine G' (hi W A env s1 rm (X.aA e1)) ?_ λ_ _ q=>q.elim
 rintro iv s2 ⟨e2,tk,rfl⟩
 have X2:=(X.aA e1).aA e2
 refine aL (X2.owns _ ha).2.1 λvs m g rd=> ?_
 refine ae (aR.get rd hp) λold h4 h5=> ?_
 have Qc:j.toNat < xs.length:=(HD.mp hp).1
 have QO:(sizeLine:Int) < 2 ^ 63:=by decide
 refine NX (aQ g) h0 (by lia) (by simpa using h4) ?_
 refine G' (he W A env s2 rm X2) ?_ λ_ _ q=>q.elim
 rintro v s4 ⟨e4,r4⟩
 have X4:=X2.aA e4
 refine G' (Sy W A s4 _ _ rm.zero X4.gd (e4.pC h5) r4) ?_ λ_ _ q=>q.elim
 rintro nv s5 ⟨e5,r5⟩
 exact wu (X4.aA e5) ((((B.step e1).step e2).step e4).step e5) ha r5 h0 (by simp_all) hz next
theorem AI {a:He}{p:PV}(X:St C (a::W) sc [(a,p)] ρ env s)(B:Bs C Wt mine t [(a,p)] env s)(ha:a∉W)(hp:∀o,p≠.obj o):
 (∃sc Qa,St C W sc [] Qa env s)/\Bs C Wt mine t [] env s/\Rr C W s.heap (.ref a) p:=by
 refine⟨⟨_,_,(X.less (own':=[]) (by simp)).drop (λb hb=>j' _ hb) (by simp) ?_⟩,B.less (by simp),(X.owns _ f').2.1.rr hp (λb hb=>j' _ hb) λq=>q.elim (X.owns _ f').2.2 ha⟩
 rcases Hc.mp X.noLoc.1 with q |q
 ·exact absurd q.symm (X.ownLoc _ f')
 ·exact q
theorem fj.append {o ex:Expr}{apos:Jm}{aa:He}{xs:List PV}{p:PV}(ho:Ev C k sc own ρ o (.raw (.ref aa)))(hw:(aa,PV.lst xs)∈own)(hx:Ev C k sc own ρ ex p)(hz:xs.length<=sizeLine)
 (Qf:∀env,Jk o "append" env (IQ o env)=IQ o env)
 (QG:∀env,((Jo pos (HG [ex] env)).all (λx=> !x.1) && (J1 pos (I8 [] env)).all (λx=>x.1.isSome)
  && decide ([ex].length+([]:List JN).length+(if([]:List JN).isEmpty then 0 else 1) < 30))=true)
 (Qe:(apos.endLine==pos.line)=true)
 (he:∀env,HG [ex] env=(false,IQ ex env)::HG [] env)(QB:∀env,(Jo pos (HG [] env)).any (·.1)=false):
 fj C k sc mine own (aE own aa (.lst (xs ++ [p]))) ρ (.Call (.Attribute o "append" apos) [ex] [] pos) .none:=
 fj.A7 ho hw (ab.cons hx ab.nil he) (λW A env s t Wt vs rm X B r=>by
  refine ae r.inv1 λv1 Qq r1=> ?_;subst Qq
  exact mf X B hw r1 hz λJ X' B'=>⟨X',B',rfl⟩) Qf QG Qe MO rfl he QB
def zW (C:Cfg)(own:Own)(m:y'->y'->Jj y')(p q r:PV):Prop:=
 ∀W A s v u,ak A 0->Gd C W s->ez C W own s->Rr C W s.heap v p->Rr C W s.heap u q->Gives C W A (m v u) r s
theorem Tr.F1 {l r:Expr}{op:CmpOp}{p q t:PV}{b:Bool}(h1:Ev C k sc own ρ l p)(h2:Ev C k sc own ρ r q)(hm:zW C own (HZ op) p q t)(ht:Th C t b)(hb:behindInMarks op r=false):Tr C k sc own ρ (.Compare l [op] [r] pos) b:=λW A env s rm X=>by
 simp only [OO]
 rw [show markedBehindIn op r (IQ r env)=IQ r env from MW hb]
 refine Ha (G' (h1 W A env s rm X) ?_ λ_ _ q=>q.elim)
 rintro v s1 ⟨e1,r1⟩
 refine Ha (Ip (G' (h2 W A env s1 rm (X.aA e1)) ?_ λ_ _ q=>q.elim))
 rintro u s2 ⟨e2,r2⟩
 have X2:=(X.aA e1).aA e2
 refine Ha (Jb (Ha (OY (G' (hm W A s2 v u rm.zero X2.gd X2.owns (e2.pC r1) r2) ?_ λ_ _ q=>q.elim))))
 rintro c s3 ⟨e3,r3⟩
 refine Ip (G' (ht W A s3 c rm.zero (((X.aA e1).aA e2).aA e3).gd r3) ?_ λ_ _ q=>q.elim)
 rintro d s4 ⟨e4,h4⟩
 exact⟨((e1.trans e2).trans e3).trans e4,h4⟩
theorem zW.inD {a:He}{es:List (Str×PV)}{x:Str}(ha:(a,PV.au es)∈own):zW C own (HZ .In) (.str x) (.raw (.ref a)) (.bool (es.lookup x).isSome):=λW A s v u rm g ho h1 h2=>by
 obtain⟨t,rfl⟩:=h1
 refine(show u= .ref a from h2)▸?_
 obtain⟨_,⟨ds,n,kvs,g',sd,r⟩,_⟩:=ho _ ha
 have e:(valueAt kvs x).isSome=(es.lookup x).isSome:=by
  cases q:es.lookup x with
  |none=>rw [bC.gO r q];rfl
  |some p=>refine ae (bC.find r q) λv h _=> ?_;rw [h];rfl
 refine PL (mQ x t) (iL sd) (aW g' sd).mapOf ?_
 refine e▸?_
 exact⟨ah.tok _,rfl⟩
theorem cC.pO {i:Int}:cC C k (.builtin "isinstance") [.int i,.raw (.type "tuple")] (.bool false):=λW A s vs rm g r=>by
 refine bo r.inv2 λv u Ud Ub h=> ?_;refine Ud▸?_;refine cA Ub λt TQ=> ?_;refine TQ▸?_
 refine(show u= .type "tuple" from h)▸?_
 exact PySem.IsiPair.int_tuple ⟨ah.tok _,rfl⟩
theorem cC.rU {i:Int}:cC C k (.builtin "isinstance") [.int i,.raw (.type "bool")] (.bool false):=λW A s vs rm g r=>by
 refine bo r.inv2 λv u Ud Ub h=> ?_;refine Ud▸?_;refine cA Ub λt TQ=> ?_;refine TQ▸?_
 refine(show u= .type "bool" from h)▸?_
 exact PySem.IsiPair.int_bool ⟨ah.tok _,rfl⟩
noncomputable abbrev dQ (es:List (Str×Int)):List (Str×PV):=es.map λe=>(e.1,PV.int e.2)
noncomputable def sumTo (es:List (Str×Int)) (i:Nat):Int:=((es.map (·.2)).take i).sum
theorem Cg (L:Lx C f3){es:List (Str×Int)}(hz:es.length<=1000):aO C (k+1) own (.ref 63) [.au (dQ es)] [] (.int (es.map (·.2)).sum):=by
 refine kN.call (xs:=["callers"]) [("callers",.au (dQ es))] L.L.ok L.cc ⟨rfl,rfl,rfl,rfl,rfl,by decide+kernel⟩ (by decide+kernel) rfl rfl λW A env s t Wt q code rm X B=> ?_
 have Qu:sizeLine=16777216:=rfl
 conv in ay _ _=>whnf
 with_reducible refine az (p:= .int 0) X B rm (by intros) (by done) (by fail) ?_
 intro s1 X1 B1
 have hv:(dQ es).map (·.2)=(es.map (·.2)).map .int:=by simp only [HB];rfl
 have hlen:(dQ es).length=es.length:=by simp
 with_reducible
  refine xW (need:=false) (k:=k) (ps:=(dQ es).map (·.2)) (X1.to (l:=[("callers",.au (dQ es)),("nc",.int 0)]) (by k_extra"rs")) B1 rm (aX.values (by intros) (by lia) (λ_=>by fail) (by fail)) (λ_=>[])
   (λi=>aC [("callers",.au (dQ es)),("nc",.int (sumTo es i))])
   (λi=>upd (aC [("callers",.au (dQ es)),("nc",.int (sumTo es i))]) "calls" (.int ((es.map (·.2)).getD i 0))) rfl (by fail) (λ_=>rfl) (λ_=>False) ?Qs ?turn (λ_ _ _ h=>h.elim) ?done (λx=>by fail)
 case Qs=>
  intro i p hp
  rw [hv,Hy] at hp
  refine ae (I5.mp hp) λn h1 h2=> ?_
  simp only [<-h2,Hl,h1]
  exact bg.local (by rfl)
 case turn=>
  intro I o i p t' QF s3 hp X B
  rw [hv,Hy] at hp
  refine ae (I5.mp hp) λn h1 h2=> ?_
  simp only [Hl,h1,OB] at X
  have hs:sumTo es (i+1)=sumTo es i+n:=by
   unfold sumTo
   simp only [JA,h1]
   simp
  refine hs▸?_
  with_reducible refine w6 (p:= .int (sumTo es i)) (q:= .int n) (r:= .int (sumTo es i+n)) X B rm (by intros) (by done) (by k_extra"r") aj.pq ?_
  intro s4 X4 B4
  exact Hq ⟨X4.to (by k_extra"rs"),B4⟩
 case done=>
  intro s3 X3 B3
  with_reducible refine cy (p:= .int (es.map (·.2)).sum) X3 B3 rm (Ev.conv (p:= .int (sumTo es ((dQ es).map (·.2)).length)) (by intros) ?_) ?_
  ·unfold sumTo
   rw [H9 (by simp)]
  intro v J X' B' r
  exact⟨⟨_,_,X'⟩,B',r⟩
noncomputable def bp {α:Type} (es:List (Str×α)) (x:Str) (p:α):List (Str×α):=if es.any (λe=>e.1=x) then es.map (λe=>if e.1=x then(e.1,p) else e) else es ++ [(x,p)]
noncomputable abbrev iE {α:Type} (v:α->PV) (es:List (Str×α)):List (Str×PV):=es.map λe=>(e.1,v e.2)
theorem r6 {α:Type}{v:α->PV}(es:List (Str×α))(x:Str)(i:α):putD (iE v es) x (v i)=iE v (bp es x i):=by
 delta putD bp iE
 refine Ln▸?_
 have:((λ(e:Str×PV)=>decide (e.1=x))∘λ(e:Str×α)=>(e.1,v e.2))=λe=>decide (e.1=x):=rfl
 rw [this]
 split
 ·simp only [HB]
  apply Ik
  intro e _
  simp only [K9]
  split <;> rfl
 ·simp
noncomputable def bW {α:Type} (op:α->α->α) (d:List (Str×α)) (e:Str×α):List (Str×α):=match d.lookup e.1 with
 |some i=>bp d e.1 (op i e.2)
 |none=>bp d e.1 e.2
noncomputable def gW {α:Type} (op:α->α->α) (target source:List (Str×α)):List (Str×α):=source.foldl (bW op) (target.foldl (λd e=>bp d e.1 e.2) [])
noncomputable abbrev qN:= @bW Int (λn c=>n+c)
noncomputable abbrev cH:= @gW Int (λn c=>n+c)
theorem qf {es:List (Str×Int)}{x:Str}:(dQ es).lookup x=(es.lookup x).map .int:=lookup_map2 (f:=PV.int)
theorem eS {α:Type}(es:List (Str×α))(x:Str)(p:α):(bp es x p).length<=es.length+1:=by
 unfold bp
 split <;> simp
theorem hK {α:Type}(op:α->α->α)(d:List (Str×α))(e:Str×α):(bW op d e).length<=d.length+1:=by
 unfold bW
 split <;> exact eS _ _ _
theorem eN {α β:Type}(f:List β->α->List β)(h:∀d e,(f d e).length<=d.length+1):∀(l:List α)(d:List β),(l.foldl f d).length<=d.length+l.length:=by
 intro q0
 induction q0 with
 |nil=>
  intro d
  exact Hk _
 |cons e l ih=>
  intro d
  simp only [IJ]
  have h1:=ih (f d e)
  have h2:=h d e
  simp only [HK]
  lia
theorem eV {α β:Type}(f:β->α->β)(b:β){l:List α}{i:Nat}{e:α}(h:l[i]? =some e):(l.take (i+1)).foldl f b=f ((l.take i).foldl f b) e:=by
 simp only [JA,h]
 simp
theorem aG {α:Type}{x:Str}{q:α}:∀{es:List (Str×α)},es.lookup x=some q->(x,q)∈es
 |[],h=>by cases h
 |(y,p)::es,h=>by
  simp only [Hr] at h
  cases hb:x==y with
  |true=>replace h:=hb▸h;cases h;rw [beq_iff_eq.mp hb];exact f'
  |false=>replace h:=hb▸h;exact j' _ (aG h)
theorem e8 {α:Type}{P:α->Prop}{d:List (Str×α)}{x:Str}{p:α}(hd:∀e∈d,P e.2)(hp:P p):∀e∈bp d x p,P e.2:=λe he=>by
 unfold bp at he
 split at he
 ·refine ae (Hd.mp he) λe' h1 P8=> ?_;refine P8▸?_
  split
  ·exact hp
  ·exact hd _ h1
 ·rcases HP.mp he with he |he
  ·exact hd e he
  ·rw [Hm.mp he];exact hp
theorem jZ {α β:Type}{P:β->Prop}(f:β->α->β){l:List α}(h:∀b,P b->∀a∈l,P (f b a)):∀b,P b->P (l.foldl f b):=by
 induction l with
 |nil=>exact λb hb=>hb
 |cons a l ih=>exact λb hb=>ih (λb hb a' XD=>h b hb a' (j' _ XD)) _ (h b hb a f')
theorem sN {α:Type}{P:α->Prop}{tg:List (Str×α)}(h:∀e∈tg,P e.2):∀e∈tg.foldl (λd e=>bp d e.1 e.2) [],P e.2:=
 jZ (P:=λ(d:List (Str×α))=>∀e∈d,P e.2) _ (λb hb a ha=>e8 hb (h a ha)) [] (λ_ h=>nomatch h)
theorem s9 {α:Type}{P:α->Prop}{op:α->α->α}(Sy:∀n c,P n->P c->P (op n c)){sr:List (Str×α)}{G:List (Str×α)}(h:∀e∈sr,P e.2)(hG:∀e∈G,P e.2):∀e∈sr.foldl (bW op) G,P e.2:=
 jZ (P:=λ(d:List (Str×α))=>∀e∈d,P e.2) _ (λb hb a ha=>by
  unfold bW
  split
  ·rename_i q hq
   exact e8 hb (Sy _ _ (hb _ (aG hq)) (h a ha))
  ·exact e8 hb (h a ha)) G hG
noncomputable abbrev CG:List I9:=cI (cI (ay tb 3) 2) 0
noncomputable abbrev DG (S:PV) (a:He):List (Str×PV):=[("source",S),("new_callers",.raw (.ref a))]
theorem lF {α:Type} [Inhabited α]{v:α->PV}{es:List (Str×α)}{i:Nat}{p:PV}(h:(ck (iE v es))[i]? =some p):p= .tup [.str (es.getD i default).1,v (es.getD i default).2]/\es[i]? =some (es.getD i default):=by
 unfold ck iE at h
 rw [HB,Hy] at h
 refine ae (I5.mp h) λe h1 h2=> ?_
 rw [Hl,h1]
 exact⟨h2.symm,rfl⟩
theorem rN {a I:He}{o:Ib}{q p:PV}(h:I≠a):aE [(I,PV.obj o),(a,q)] a p=[(I,.obj o),(a,p)]:=by
 unfold aE
 simp [h]
theorem tA {α:Type} [Inhabited α]{v:α->PV}{op:α->α->α}{P:α->Prop}{q:Str}{code:y'}(ok:C.Ok){tg sr:List (Str×α)}(hz:tg.length<=1000)(RN:sr.length<=1000)(Sy:∀n c,P n->P c->P (op n c))(ht:∀e∈tg,P e.2)(hs:∀e∈sr,P e.2)
 (H:∀{W A env s t Wt} {ow:Own} {a:He} {f:List (Str×α)} {x:Str} {c n:α} {S:PV} {E Q},ak A k->P c->P n->f.length<=2000->f.lookup x=some n->(a,PV.au (iE v f))∈ow->St C W ⟨ai tb 3,q,code⟩ ow (aC (("caller",v c)::("func",.str x)::DG S a)) env s->Bs C Wt (λ_=>true) t ow env s->
  (∀J,St C W ⟨ai tb 3,q,code⟩ (aE ow a (.au (putD (iE v f) x (v (op n c))))) (aC (("caller",v c)::("func",.str x)::DG S a)) env J->Bs C Wt (λ_=>true) t (aE ow a (.au (putD (iE v f) x (v (op n c))))) env J->Q .next J)->Hi C.M A (HA CG env) Q E s)
 (rm:ak A k)(X:St C W ⟨ai tb 3,q,code⟩ [] (aC [("target",.au (iE v tg)),("source",.au (iE v sr))]) env s)(B:Bs C Wt (λ_=>true) t [] env s):
 Hi C.M A (HA (ay tb 3) env) (λf J=>(∃sc Qa,St C W sc [] Qa env J)/\Bs C Wt (λ_=>true) t [] env J/\Rr C W J.heap (match f with | .ret v=>v |_=> .none) (.au (iE v (gW op tg sr)))) (λ_ _=>False) s:=by
 conv in ay _ _=>whnf
 with_reducible refine dX (p:= .au []) X B rm kA.ku (by done) (by fail) ?_
 intro a s1 Rv X1 B1
 have Xy:∀i,((tg.take i).foldl (λd e=>bp d e.1 e.2) []).length<=1000:=λi=>
  Hf (eN (λ(d:List (Str×α)) (e:Str×α)=>bp d e.1 e.2) (λd e=>eS d e.1 e.2) (tg.take i) []) (by simp only [Ir,Mh];exact Hf (L2 _ _) hz)
 with_reducible
  refine a7 (need:=true) (k:=k) (ps:=ck (iE v tg)) (X1.to (l:=[("target",.au (iE v tg)),("source",.au (iE v sr)),("new_callers",.raw (.ref a))]) (by k_extra"rs")) B1 rm (aX.items (by intros) (by rw [Hb];exact Hf hz (by decide)) (λ_=>by fail) (by fail)) (λi=>[(a,.au (iE v ((tg.take i).foldl (λd e=>bp d e.1 e.2) [])))])
   (λi=>aC [("target",.au (iE v tg)),("source",.au (iE v sr)),("new_callers",.raw (.ref a))])
   (λi=>upd (upd (aC [("target",.au (iE v tg)),("source",.au (iE v sr)),("new_callers",.raw (.ref a))]) "func" (.str (tg.getD i default).1)) "caller" (v (tg.getD i default).2)) (by fail) (by fail) (λ_=>by fail) (λ_=>False) ?Qs ?turn (λ_ _ _ h=>h.elim) ?done (λx=>by fail) (λ_=>by fail)
 case Qs=>
  intro i p hp
  simp only [(lF hp).1]
  exact bg.tuple (bE.cons (bg.local (by rfl)) (bE.cons (bg.local (by rfl)) bE.nil (λenv=>rfl)) (λenv=>rfl)) (λenv=>⟨rfl,rfl⟩)
 case turn=>
  intro I o i p t' QF s3 hI hp X B
  have Qh:I≠a:=λq=>hI _ f' q.symm
  with_reducible refine dy (a:=a) (es:=iE v ((tg.take i).foldl (λd e=>bp d e.1 e.2) [])) X B rm (by intros) (by intros) (by intros) (j' _ f') ?hl (by fail) ?_
  case hl=>rw [Hb];exact Hf (Xy i) (by decide)
  intro s4 X4 B4
  simp only [r6,rN Qh,<-eV (λ(d:List (Str×α)) (e:Str×α)=>bp d e.1 e.2) _ (lF hp).2] at X4 B4
  exact Hq ⟨X4.to (by k_extra"rs"),B4⟩
 case done=>
  intro s3 X3 B3
  have Vu:(ck (iE v tg)).length=tg.length:=by simp [ck,iE]
  rw [Vu] at X3 B3
  have Xd:=Xy tg.length
  have Yj:=sN ht
  rw [IY] at X3 B3 Xd
  unfold gW
  generalize tg.foldl (λd e=>bp d e.1 e.2) []=G at X3 B3 Xd Yj ⊢
  have U0:∀i,((sr.take i).foldl (bW op) G).length<=2000:=λi=>
   Hf (eN (bW op) (hK op) (sr.take i) G) (NG Xd (Hf (L2 _ _) RN))
  have VL:∀i,∀e∈(sr.take i).foldl (bW op) G,P e.2:=λi=>s9 Sy (λe he=>hs e (LU i sr he)) Yj
  have X4:=X3.to (l:=DG (.au (iE v sr)) a) (by k_extra"rs")
  with_reducible
   refine a7 (need:=true) (k:=k) (ps:=ck (iE v sr)) X4 B3 rm (aX.items (by intros) (by rw [Hb];exact Hf RN (by decide)) (λ_=>by fail) (by fail)) (λi=>[(a,.au (iE v ((sr.take i).foldl (bW op) G)))])
    (λi=>aC (DG (.au (iE v sr)) a))
    (λi=>upd (upd (aC (DG (.au (iE v sr)) a)) "func" (.str (sr.getD i default).1)) "caller" (v (sr.getD i default).2)) (by fail) (by fail) (λ_=>by fail) (λ_=>False) ?tgt2 ?turn2 (λ_ _ _ h=>h.elim) ?done2 (λx=>by fail) (λ_=>by fail)
  case tgt2=>
   intro i p hp
   simp only [(lF hp).1]
   exact bg.tuple (bE.cons (bg.local (by rfl)) (bE.cons (bg.local (by rfl)) bE.nil (λenv=>rfl)) (λenv=>rfl)) (λenv=>⟨rfl,rfl⟩)
  case turn2=>
   intro I o i p t' QF s3 hI hp X B
   have Qh:I≠a:=λq=>hI _ f' q.symm
   refine(eV (bW op) _ (lF hp).2)▸?_
   have VO:=hs _ (HX (lF hp).2)
   have U0:=U0 i
   have VL:=VL i
   generalize sr.getD i default=e at X VO ⊢
   generalize (sr.take i).foldl (bW op) G=f at X B U0 VL ⊢
   have QQ:(a,PV.au (iE v f))∈[(I,PV.obj o),(a,.au (iE v f))]:=j' _ f'
   replace X:=X.to (l:=("caller",v e.2)::("func",.str e.1)::DG (.au (iE v sr)) a) (by k_extra"rs")
   unfold bW
   with_reducible refine step_if (b:=(f.lookup e.1).isSome) X B rm (Tr.F1 (by intros) (by intros) (zW.inD QQ) ?hb (by kernel_rfl!)) ?_
   case hb=>simp only [lookup_map2 (f:=v),Oi];exact Th.bool
   intro s4 X4 B4
   cases hq:f.lookup e.1 with
   |none=>
    simp only [Hz (show ¬(none:Option α).isSome=true from Ii)]
    with_reducible refine dy (a:=a) (es:=iE v f) X4 B4 rm (by intros) (by intros) (by intros) QQ ?hl (by fail) ?_
    case hl=>rw [Hb];exact Hf U0 (by decide)
    intro s5 X5 B5
    rw [r6,rN Qh] at X5 B5
    exact Hq (Hq ⟨X5.to (by k_extra"rs"),B5⟩)
   |some n=>
    refine H rm VO (VL _ (aG hq)) U0 hq QQ X4 B4 λs5 X5 B5=> ?_
    rw [r6,rN Qh] at X5 B5
    exact Hq ⟨X5.to (by k_extra"rs"),B5⟩
  case done2=>
   intro s4 X5 B5
   rw [(by simp [ck,iE]:(ck (iE v sr)).length=sr.length),IY] at X5 B5
   with_reducible refine cy (p:= .raw (.ref a)) X5 B5 rm (by intros) ?_
   intro v J X' B' r
   refine(show v= .ref a from r)▸?_
   exact AI X' B' Rv (λ_=>nofun)
theorem Br (L:Lx C f3){tg sr:List (Str×Int)}(hz:tg.length<=1000)(RN:sr.length<=1000):aO C (k+1) own (.ref 56) [.au (dQ tg),.au (dQ sr)] [] (.au (dQ (cH tg sr))):=by
 have L':=L.L
 refine kN.call (xs:=["target","source"]) [("target",.au (dQ tg)),("source",.au (dQ sr))] L'.ok L.ac ⟨rfl,rfl,rfl,rfl,rfl,by decide+kernel⟩ (by decide+kernel) rfl rfl λW A env s t Wt q code rm X B=> ?_
 refine tA (v:=PV.int) (op:=λn c=>n+c) (P:=λ_=>True) L'.ok hz RN (λ_ _ _ _=>trivial) (λ_ _=>trivial) (λ_ _=>trivial) ?_ rm X B
 intro W A env s t Wt ow a f x c n S E Q rm _ _ hl hq QQ X B next
 conv in CG=>whnf
 with_reducible refine step_if (b:=false) X B rm (Tr.plain (Ev.a5 (by intros) (by intros) cC.pO) Th.bool (λ_ _=>by fail)) ?_
 intro s5 X5 B5
 rw [Hz (by decide)]
 with_reducible refine nH (a:=a) (es:=iE PV.int f) (p:= .int n) (q:= .int c) (r:= .int (n+c)) X5 B5 rm (by intros) (by intros) (by intros) QQ ?hl ?hp aj.pq (λ_ _ _=>by fail) ?_
 case hl=>rw [Hb];exact Hf hl (by decide)
 case hp=>rw [lookup_map2 (f:=PV.int),hq];rfl
 intro s6 X6 B6
 exact Hq (Hq (next s6 X6 B6))
set_option maxRecDepth 100000
noncomputable def KT (p:HF):Frag:=[(38,wI p),(37,xO p),(28,oT p),(35,n7 p)]
theorem yA (p:HF):makesIn (KT p) 38=true:=by rfl
theorem yJ (p:HF):findIn (KT p) (.ref 38) "__init__"=some (some (.ref 28)):=by rfl
theorem CB (p:HF):typeIn (KT p) (.ref 28)=some (.type "function"):=by rfl
theorem Dv (p:HF):typeIn (KT p) (.ref 35)=some (.type "function"):=by rfl
theorem Dl (p:HF):findIn (KT p) (.ref 38) "compare"=some (some (.ref 35)):=by rfl
theorem A5 (p:HF):findIn (KT p) (.ref 38) "__getattribute__"=some (some (.builtin "object.__getattribute__")):=by rfl
theorem EP (p:HF):findIn (KT p) (.ref 38) "__getattr__"=some none:=by rfl
theorem Ec (p:HF):findIn (KT p) (.ref 38) "__setattr__"=some (some (.builtin "object.__setattr__")):=by rfl
theorem Ar (p:HF):plainOver (KT p) 38=true:=by rfl
theorem wh (p:HF):takerIn (KT p) 38 "comp_select_list"=some none:=by rfl
theorem AA (p:HF):(clsIn (KT p) 38).any (·.hasDict)=true:=by rfl
theorem wx (p:HF):hasDictIn (KT p) 38=true:=by rfl
theorem AP (p:HF):findIn (KT p) (.ref 38) "comp_select_list"=some none:=by rfl
structure nR (C:Cfg):Prop where
 at_:∀a o,(KT C.w.params).lookup a=some o->a∉C.aq/\C.h₀.get? a=some o
theorem nR.kk {C:Cfg}{s:Hh}(x:nR C)(i:Inv C s):(KT C.w.params).In s.heap:=λa o h=>by
 exact i.old a o (x.at_ a o h).1 (x.at_ a o h).2
set_option maxRecDepth 4000
structure Bt (C:Cfg)(fa:He)(body:List I9)(S:Scope)(pa:I'):Prop where
 ex:∃fd,FnAt C fa fd body/\fd.scope=S/\fd.params=pa/\fd.defaults= .none/\fd.kwdefaults= .none
theorem Bt.fo {fa:He}{body:List I9}{S:Scope}{pa:I'}(F:Bt C fa body S pa):cE C fa:=by refine ae F.ex λ_ h _=> ?_;exact h.fo
noncomputable abbrev jd (p:PV):PV:= .inst 38 [("comp_select_list",p)]
theorem qL {ds:List Hs}{kvs:List (Str×y')}{x:Str}(hp:Pairs (strKind C.prog C.w) ds kvs):(ds.find? (·.key.isStr x)).map (·.val)=valueAt kvs x/\ds.any (·.refKey)=false:=by
 induction hp with
 |nil=>exact⟨rfl,rfl⟩
 | @cons e kv es kvs h1 h2 h3 ih=>
  obtain⟨t,ht⟩:=nU h1
  have hr:e.refKey=false:=by
   unfold Hs.refKey;rw [ht]
  refine⟨?_,by simp only [MP,hr,LW];exact ih.2⟩
  unfold valueAt
  simp only [Ld,(by rw [ht];rfl:e.key.isStr x=decide (kv.1=x)),Ld]
  by_cases q:kv.1=x
  ·simp [q,h2]
  ·simp only [q,decide_false]
   exact ih.1
theorem nM {a:He}{ds:List Hs}{kvs:List (Str×y')}{n:Nat}{x:Str}(sd:C.S a ds kvs):lookIn x (bj ds n)=some (valueAt kvs x):=by
 refine c7 (qL (x:=x) sd.2.2.1) λh1 h2=> ?_
 delta lookIn bj
 dsimp only
 refine h1▸?_
 cases q:ds.find? (·.key.isStr x) with
 |none=>simp [h2]
 |some e=>rfl
theorem tF {v:y'}{p:PV}(r:Rr C W s.heap v (jd p)):∃x dx od u,v= .ref x/\InstAt s.heap x (Ke 38 dx) 38 (some od)/\lookIn "comp_select_list" od=some (some u)/\lookIn "compare" od=some none/\Rr C W s.heap u p:=by
 obtain⟨x,dx,ds,n,kvs,rfl,n1,n2,g1,g2,sd,u,r',hk,r1,r2⟩:=r
 rw [show r'=[] from r2] at hk
 subst hk
 refine⟨x,dx,bj ds n,u,rfl,⟨g1,rfl,rfl,g2⟩,?_,?_,r1⟩
 ·rw [nM sd];rfl
 ·rw [nM sd];rfl
theorem Ev.C7 {o:Str}{op apos:Jm}{xs:List PV}(K:nR C)(ho:Ev C k sc own ρ (.Name o op) (jd (.lst xs))):Ev C k sc own ρ (.Attribute (.Name o op) "comp_select_list" apos) (.lst xs):=λW A env s rm X=>by
 refine Attribute_name (G' (ho W A env s rm X) ?_ λ_ _ q=>q.elim)
 rintro v s1 ⟨e1,r1⟩
 obtain⟨x,dx,od,u,rfl,I,h1,h2,r⟩:=tF r1
 refine get_value (K.kk (X.aA e1).inv) I (A5 _) (findObj_own (wx _) (AP _) rfl h1) ?_ ⟨e1.trans (ah.tok _),(ah.tok (C:=C) (W:=W) (s:=s1) (s1.toks+1)).rr r⟩
 refine lO r λa vs n QI _=> ?_;refine QI▸?_
 rfl
theorem Ev.ER {o a:Expr}{args:List Expr}{apos:Jm}{p r:PV}{ps:List PV}(K:nR C)(ho:Ev C k sc own ρ o (jd p))(ha:ab C k sc own ρ (a::args) ps)(F:cE C 35)(hc:aO C k own (.ref 35) (jd p::ps) [] r)
 (Qf:∀env,Jk o "compare" env (IQ o env)=IQ o env)
 (QG:∀env,((Jo pos (HG (a::args) env)).all (λx=> !x.1) && (J1 pos (I8 [] env)).all (λx=>x.1.isSome)
  && decide ((a::args).length+([]:List JN).length+(if([]:List JN).isEmpty then 0 else 1) < 30))=true)
 (Qe:(apos.endLine==pos.line)=true)(Q':∀env,∃m ms,Jo pos (HG (a::args) env)=(false,m)::ms):
 Ev C k sc own ρ (.Call (.Attribute o "compare" apos) (a::args) [] pos) r:=λW A env s rm X=>by
 simp only [arm_eval_Call,Qf]
 refine Ha (G' (ho W A env s rm X) ?_ λ_ _ q=>q.elim)
 rintro v s1 ⟨e1,r1⟩
 have X1:=X.aA e1
 obtain⟨x,dx,od,u,rfl,I,h1,h2,r⟩:=tF r1
 refine Ha (Jb ?_)
 have Vh:methodCallForm ((a::args).length+([]:List JN).length) (Jo pos (HG (a::args) env)) (J1 pos (I8 [] env))=true:=QG env
 unfold methodCall
 refine Vh▸?_
 refine Ha (Ip (method_fn (K.kk X1.inv) I (A5 _) (EP _) (Dl _) (Dv _) (by show (lookIn _ od).map _=_;rw [h2];rfl) ?_))
 refine Ha (OJ (by unfold methodCallPos;simp [Qe]:methodCallPos true o env apos pos=pure pos) ?_)
 refine aL F.obj λo' fd Ta hd=> ?_
 refine callWith_function (o:=o') (fd:=fd) ?_
 refine fB (Q' env) λm ms hm=> ?_
 have h3:=ha W A env s1 pos rm X1
 rw [hm] at h3 ⊢
 refine Lq (G' h3 ?_ λ_ _ q=>q.elim)
 intro vs s2 zz;refine c7 zz λe2 r2=> ?_
 have X2:=X1.aA e2
 refine⟨⟨X2.inv.old _ _ F.nt Ta,hd⟩,G' (hc W A s2 (.ref x::vs) [] rm X2.gd X2.owns ⟨_,_,rfl,e2.pC r1,r2⟩ .nil) ?_ λ_ _ q=>q.elim⟩
 rintro w s3 ⟨e3,r3⟩
 exact⟨(e1.trans e2).trans e3,r3⟩
theorem zN {fa:He}{fd:Jq}{body:List I9}{args:Args}{binds:List (Str×y')}{q:List (Str×PV)}{R:Result->Hh->Prop}
 (ok:C.Ok)(F:FnAt C fa fd body)(g:Gd C W s)(Qb:∀x∈own,x.1∈W/\dO C W s.heap x.1 x.2/\x.1∉C.aq)
 (rm:ak A (k+1))(QX:BindsTo s fd args binds)(rep:dz C W s.heap binds q)(nd:(binds.map (·.1)).Nodup)
 (hk:∀x∈binds,fd.scope.names.lookup x.1=some .local\/fd.scope.names.lookup x.1=some .cell)
 (QU:∀L env J,s.heap.objs.size<=L->St C (L::W) (mv fd) own (aC q) env J->Bs C (own.map (·.1)) (ik fd) s own env J->∀A',ak A' k->
  Hi C.M A' (HA body env) (λf Qj=>R (.ok (.ret (match f with | .ret v=>v |_=> .none))) Qj) (λ_ _=>False) J):
 KD C.M A (.call (.ref fa) args) R s:=by
 refine ae F.obj λo ho hd=> ?_
 refine LD (Ht (JM (H6 _ _) rm.depth) (by decide)) (g.inv.old _ _ F.fa ho) hd F.co F.gen F.body (g.inv.ot F.code F.noTab) (QX _ _ _ _ ?_)
 refine F.clos▸?_
 have Qt:∀x,fd.scope.names.lookup x=some .cell->((Ie (s.heap.objs.size+1) fd.scope.names []).lookup x).isSome=true:=λx hx=>by
  refine cA (aY (n:=s.heap.objs.size+1) (acc:=[]) (Ij hx)) λc hc=> ?_
  obtain⟨d,hd⟩:=aH hc
  refine hd▸?_;rfl
 refine KU F.kind (λx hx=>(hk x hx).imp id λh=>⟨h,Qt _ h⟩) λenv he J x=> ?_
 subst he
 have X:St C (s.heap.objs.size::W) (mv fd) own (aC q) (KQ fd s.heap.objs.size fa) J:=
  St.enter g Qb rfl F.glob F.blt F.kind nd rep (λx hx=>F.free _ (Ij hx) rfl) Qt x
 have B:Bs C (own.map (·.1)) (ik fd) s own (KQ fd s.heap.objs.size fa) J:=by
  refine⟨(iC (C:=C) x).up,⟨g.inv.beyond (Hk _),.inl (Hk _)⟩,λy c _ _ hc=> ?_,λy hy=>⟨g.new _ (Qb y hy).1,.inr (Hd.mpr ⟨y,hy,rfl⟩)⟩⟩
  have:=bV (Ij hc)
  exact⟨g.inv.beyond (H5 this),.inl (H5 this)⟩
 refine⟨X.inv.nolimit ok,N9 (G' (QU _ _ J (Hk _) X B _ (rm.deeper _)) (λf Qj h=>h) λ_ _ q=>q.elim)⟩
theorem Az {x dx:He}{m:Nat}{tk:Tok}{v:y'}{R:Result->Hh->Prop}(X:(KT C.w.params).In s.heap)(g1:s.heap.get? x=some (Ke 38 dx))(g2:s.heap.get? dx=some (bj [] m))
 (h:∀ds n,(s.heap.update dx (NH "comp_select_list" (Ki C.w.params "comp_select_list") (.str "comp_select_list" s.toks) v)).get? dx=some (bj ds n)->dx≠Js->C.S dx ds [("comp_select_list",v)]->
  R (.ok (.ret .none)) {s with heap:=s.heap.update dx (NH "comp_select_list" (Ki C.w.params "comp_select_list") (.str "comp_select_list" s.toks) v),toks:=s.toks+1})
 (Qh:dx≠Js):
 KD C.M A (.call (.builtin "object.__setattr__") ⟨[.ref x,.str "comp_select_list" tk,v],[]⟩) R s:=by
 refine osa_open X (⟨g1,rfl,rfl,g2⟩:InstAt s.heap x (Ke 38 dx) 38 (some (bj [] m))) (Ar _) (wh _) λb=> ?_
 refine ae (any_some (AA C.w.params)) λcd hc R1=> ?_
 have D':(s.heap.update dx (NH "comp_select_list" (Ki C.w.params "comp_select_list") (.str "comp_select_list" s.toks) v)).get? dx=some (bj [⟨Ki C.w.params "comp_select_list",.str "comp_select_list" s.toks,v⟩] (m+1)):=by
  exact JO _ g2 (by refine(by rfl:NH "comp_select_list" (Ki C.w.params "comp_select_list") (.str "comp_select_list" s.toks) v (bj [] m)=bj [⟨Ki C.w.params "comp_select_list",.str "comp_select_list" s.toks,v⟩] (m+1))▸?_;rfl)
 refine Ha (Hu (Ha (Ha (O4 g1 (Ha ((looks_clsIn X hc).here ?_))))))
 rw [R1]
 refine Hu (a:=some dx) (Ha (Hu (Ha ?_)))
 refine Ha (Ha (Ot (Hu (Ha (wpAny_mkText (Ha (O4 g2 ?_)))))))
 dsimp only [bj]
 refine wpAny_updatePart g2 ?_
 refine Ha (wpAny_lookBehind D' (pastItsLine_dict (by simp)) ?_)
 refine Hu (h _ _ D' Qh ⟨Qh,?_,?_,?_⟩)
 ·intro en XT
  rw [OD,Hm] at XT
  subst XT
  exact⟨"comp_select_list",mQ _ _,rfl⟩
 ·exact .cons (mQ _ _) rfl .nil
 ·simp
noncomputable abbrev En:List I9:=ay (cG tb 1) 0
noncomputable abbrev Ft:List I9:=ay (cG tb 1) 1
structure Tc (C:Cfg):Prop where
 k:nR C
 nt:(38:He)∉C.aq
 ini:Bt C 28 En (ai (cG tb 1) 0) (bM (cG tb 1) 0)
 cmp:Bt C 35 Ft (ai (cG tb 1) 1) (bM (cG tb 1) 1)
theorem zH (p:HF):keepIn (KT p) (.ref 38)=true:=by rfl
theorem qY {o vn:Str}{op vp pos':Jm}{x dx:He}{p:PV}(K:nR C)(X:St C W sc own ρ env s)(B:Bs C Wt mine t own env s)(rm:ak A k)(ho:Ev C k sc own ρ (.Name o op) (.raw (.ref x)))(hv:Ev C k sc own ρ (.Name vn vp) p)
 (h1:(x,PV.obj (Ke 38 dx))∈own)(h2:(dx,PV.au [])∈own)(hs:Kg (.Name vn vp) (some (.Attribute (.Name o op) "comp_select_list" pos')) pos.line env=pure false)
 (next:∀J,St C W sc (aE own dx (.au [("comp_select_list",p)])) ρ env J->Bs C Wt mine t (aE own dx (.au [("comp_select_list",p)])) env J->Hi C.M A (HA rest env) Q E J):
 Hi C.M A (HA (.Assign [.Attribute (.Name o op) "comp_select_list" pos'] (.Name vn vp) pos::rest) env) Q E s:=by
 refine Ia (plainObj_wpAny_Assign_Attribute (G' (hv W A env s rm X) ?_ λ_ _ q=>q.elim) hs)
 rintro v s1 ⟨e1,r1⟩
 refine G' (ho W A env s1 rm (X.aA e1)) ?_ λ_ _ q=>q.elim
 rintro ov s2 ⟨e2,r2⟩
 simp only [show ov= .ref x from r2]
 have TC:=e1.trans e2
 have X2:=X.aA TC
 refine c7 (X2.owns _ h1).2.1 λg1 _=> ?_
 obtain⟨hd,⟨Z5,n0,Zn,g2,VD,YK⟩,hdT⟩:=X2.owns _ h2
 subst YK
 have V2:Z5=[]:=by
  cases VD.2.2.1;rfl
 subst V2
 have Kk:=K.kk X2.inv
 have e3:ah C [] s2 {s2 with toks:=s2.toks+1}:=ah.tok _
 refine set_plain Kk (⟨g1,rfl,rfl,g2⟩:InstAt s2.heap x (Ke 38 dx) 38 (some (bj [] n0))) (Ec _) (Az (s:={s2 with toks:=s2.toks+1}) Kk g1 g2 (λds n hg Qh sd=> ?_) VD.1)
 have:=pf (tk:=s2.toks+1+1) (fs:=[("comp_select_list",p)]) (X2.aA e3) ((B.step TC).step e3) h2 (It ..) hg sd ⟨v,[],rfl,(e2.trans e3).pC r1,rfl⟩
 exact next _ this.1 this.2
theorem ah.o9 {Qj:Hh}(e:ah C [] s J)(e':ah C V J Qj)(h:∀a∈V,s.heap.objs.size<=a):ah C [] s Qj where
 keep a o h1 h2 g:=e'.keep a o h1 (λq=>absurd (Hx g) (HH.mpr (h a q))) (e.keep a o h1 h2 g)
 size:=Hf e.size e'.size
 tabs:=((e.up (W:=V)).trans e').tabs
 os:=e'.os.trans e.os
 gens h:=e'.gens (e.gens h)
theorem ak.under (rm:ak A (k+1))(c:Code)(h1:c.weight<=1)(h2:c.cUnits<=10):ak (A.under c) k:=by
 refine⟨rm.handled,?_,?_⟩
 ·have:=rm.depth
  show A.depth+c.weight+k < 900
  lia
 ·have:=rm.units
  show A.units+c.cUnits+10*k < 9000
  lia
theorem xi (ok:C.Ok)(T:Tc C){p:PV}:aO C (k+2) own (.ref 38) [p] [] (jd p):=λW A s vs kvs rm g ho r1 r2=>by
 refine ae r1.inv1 λvk Qq rk=> ?_;refine Qq▸?_
 refine r2.iT▸?_
 refine Nc ?_
 obtain⟨hh,gg,d,tk,os⟩:=s
 have Kk:=T.k.kk g.inv
 refine make_core (makes_of Kk (yA _)) (looks_findIn Kk (yJ _)) (λself=>bind_fn Kk self (CB _)) (.inl rfl) ?_
 have e1:ah C [] ⟨hh,gg,d,tk,os⟩ ⟨hh.push Km,gg,d,tk,os⟩:=ah.push (s:=⟨hh,gg,d,tk,os⟩) Km tk
 have e2:ah C [] ⟨hh.push Km,gg,d,tk,os⟩ ⟨(hh.push Km).push (Ke 38 hh.objs.size),gg,d,tk,os⟩:=ah.push (s:=⟨hh.push Km,gg,d,tk,os⟩) (Ke 38 hh.objs.size) tk
 have TC:=e1.trans e2
 have VS:(hh.push Km).objs.size=hh.objs.size+1:=Io ..
 have nN:∀a,hh.objs.size<=a->¬C.N W a:=λa h q=>absurd (g.low a q) (HH.mpr h)
 have VD:C.S hh.objs.size [] []:=⟨g.inv.fZ,by intro e h;simp at h,.nil,by simp⟩
 have g':Gd C ((hh.objs.size+1)::hh.objs.size::W) ⟨(hh.push Km).push (Ke 38 hh.objs.size),gg,d,tk,os⟩:=by
  refine⟨g.inv.jB TC,λa ha=> ?_,λa ha=> ?_⟩
  ·show a < ((hh.push Km).push (Ke 38 hh.objs.size)).objs.size
   rw [(by rw [Io,VS]:((hh.push Km).push (Ke 38 hh.objs.size)).objs.size=hh.objs.size+2)]
   rcases ha with ha |ha
   ·exact Ht (g.low a (.inl ha)) (H6 _ 2)
   ·simp only [Hc] at ha
    rcases ha with rfl |rfl |ha
    ·exact IX _
    ·exact Ht (IX _) (Jg _)
    ·exact Ht ((λa ha=>g.low a (.inr ha)) a ha) (H6 _ 2)
  ·simp only [Hc] at ha
   rcases ha with rfl |rfl |ha
   ·exact g.inv.beyond (Jg _)
   ·exact g.inv.beyond (Hk _)
   ·exact g.new a ha
 have Qb:∀y∈([(hh.objs.size+1,PV.obj (Ke 38 hh.objs.size)),(hh.objs.size,.au [])]:Own),y.1∈((hh.objs.size+1)::hh.objs.size::W)/\dO C ((hh.objs.size+1)::hh.objs.size::W) ((hh.push Km).push (Ke 38 hh.objs.size)) y.1 y.2/\y.1∉C.aq:=by
  intro y hy
  simp only [Hc,H0,or_false] at hy
  rcases hy with rfl |rfl
  ·exact⟨f',⟨(by refine VS▸?_;exact Hp _ rfl),λ_=>nofun⟩,λq=>nN _ (Jg _) (.inl q)⟩
  ·exact⟨j' _ f',⟨[],0,[],(Hj _ (Hp _ rfl)),VD,rfl⟩,λq=>nN _ (Hk _) (.inl q)⟩
 refine Bv T.ini.ex λfd F Ql SI S9 UH=> ?_
 have Y2:Rr C ((hh.objs.size+1)::hh.objs.size::W) ((hh.push Km).push (Ke 38 hh.objs.size)) vk p:=by
  exact Rr.grow (s:=⟨hh.push Km,gg,d,tk,os⟩) (Rr.grow (s:=⟨hh,gg,d,tk,os⟩) rk e1 (Hk _)) e2 (Ly VS)
 refine zN (k:=k) (own:=[(hh.objs.size+1,PV.obj (Ke 38 hh.objs.size)),(hh.objs.size,.au [])]) (args:=⟨[.ref (hh.objs.size+1),vk],[]⟩) (q:=[("self",.raw (.ref (hh.objs.size+1))),("comp_select_list",p)]) ok F g' Qb (rm.under _ ?_ ?_) (lP (by rw [SI];exact⟨rfl,rfl,rfl,rfl,rfl,by decide+kernel⟩:ma fd.params ["self","comp_select_list"]) S9 rfl) (.cons rfl (.cons Y2 .nil)) ?_ ?_ ?_
 ·exact Hv (by rfl)
 ·exact Hv (by rfl)
 ·show ([("self":Str),"comp_select_list"]:List Str).Nodup
  decide+kernel
 ·refine Ql▸?_
  intro y hy
  left
  refine(by decide+kernel:∀z∈([("self":Str),"comp_select_list"]:List Str),(ai (cG tb 1) 0).names.lookup z=some .local) _ ?_
  have:y.1∈([("self":Str),"comp_select_list"].zip [Ju (hh.objs.size+1),vk]).map (·.1):=Hd.mpr ⟨y,hy,rfl⟩
  exact this
 ·intro L env J hL X B A' QM
  have X':St C (L::(hh.objs.size+1)::hh.objs.size::W) ⟨ai (cG tb 1) 0,fd.qualname ++ ".<locals>.",fd.code⟩ [(hh.objs.size+1,PV.obj (Ke 38 hh.objs.size)),(hh.objs.size,.au [])] (aC [("self",.raw (.ref (hh.objs.size+1))),("comp_select_list",p)]) env J:=by
   refine Ql▸?_;exact X
  conv in HA _ _=>arg 1;whnf
  with_reducible refine qY T.k X' B QM (Ev.var (by done) (by k_extra"r")) (Ev.var (by done) (by k_extra"r")) f' (j' _ f') (by fail) ?_
  intro s3 X3 B3
  refine Hq ⟨rfl,?_⟩
  have QN:aE [(hh.objs.size+1,PV.obj (Ke 38 hh.objs.size)),(hh.objs.size,.au [])] hh.objs.size (.au [("comp_select_list",p)])=[(hh.objs.size+1,PV.obj (Ke 38 hh.objs.size)),(hh.objs.size,.au [("comp_select_list",p)])]:=by
   unfold aE
   simp
  simp only [QN] at X3 B3
  refine cZ (X3.owns _ f') λ_ z1 _=> ?_;refine c7 z1 λg1 _=> ?_
  obtain⟨_,⟨ds,n,kvs,g2,sd,rd⟩,_⟩:=X3.owns _ (j' _ f')
  have Xc:ah C [] ⟨hh,gg,d,tk,os⟩ s3:=TC.o9 B3.aA λa ha=>by
   simp only [Hw,IU,Hc,H0,or_false] at ha
   rcases ha with rfl |rfl
   ·exact Jg _
   ·exact Hk _
  refine(⟨Xc,_,_,ds,n,kvs,rfl,nN _ (Jg _),nN _ (Hk _),g1,g2,sd,bC.mono (λb o n g=>⟨λq=>n (q.elim .inl λq=> .inr ?_),g⟩) rd⟩:ah C [] ⟨hh,gg,d,tk,os⟩ s3/\Rr C W s3.heap (.ref (hh.objs.size+1)) (jd p))
  exact j' _ (j' _ (j' _ q))
theorem Ev.BQ {x:Str}{px:Jm}{a:Expr}{p:PV}(ok:C.Ok)(T:Tc C)(hf:Ev C (k+2) sc own ρ (.Name x px) (.raw (.ref 38)))(ha:Ev C (k+2) sc own ρ a p)(he:∀env,HG [a] env=(false,IQ a env)::HG [] env):
 Ev C (k+2) sc own ρ (.Call (.Name x px) [a] [] pos) (jd p):=λW A env s rm X=>by
 refine I6 (G' (hf W A env s rm X) ?_ λ_ _ q=>q.elim)
 rintro v s1 ⟨e1,r1⟩
 refine(show v= .ref 38 from r1)▸?_
 have X1:=X.aA e1
 refine callWith_K (K:=KT C.w.params) (T.k.kk X1.inv) (zH _) (G' ((ab.cons ha ab.nil he) W A env s1 pos rm X1) ?_ λ_ _ q=>q.elim) (he env) rfl
 rintro vs s2 ⟨e2,r2⟩
 have X2:=X1.aA e2
 refine⟨T.k.kk X2.inv,G' (xi (own:=own) ok T W A s2 vs [] rm X2.gd X2.owns r2 .nil) ?_ λ_ _ q=>q.elim⟩
 rintro w s3 ⟨e3,r3⟩
 exact⟨(e1.trans e2).trans e3,r3⟩
theorem Bt.Ee {fa:He}{body:List I9}{S:Scope}{pa:I'}{xs:List Str}{ps:List PV}{r:PV}(qs:List (Str×PV))(ok:C.Ok)(F:Bt C fa body S pa)(hP:ma pa xs)(hn:∀x∈xs,S.names.lookup x=some .local\/S.names.lookup x=some .cell)(hl:ps.length=xs.length)(SV:xs.zip ps=qs)
 (h:∀W A env s t q code,ak A k->St C W ⟨S,q,code⟩ [] (aC qs) env s->Bs C [] (λ_=>true) t [] env s->
  Hi C.M A (HA body env) (λf J=>ah C [] t J/\Rr C W J.heap (match f with | .ret v=>v |_=> .none) r) (λ_ _=>False) s):
 aO C (k+1) own (.ref fa) ps [] r:=λW A s vs kvs rm g ho r1 r2=>by
 subst SV
 rw [r2.iT]
 refine Bv F.ex λfd F Ql SI S9 UH=> ?_
 have TJ:vs.length=xs.length:=by rw [aR.length r1,hl]
 have Qk:(xs.zip vs).map (·.1)=xs:=LR (by simp_all)
 refine dE (own:=[]) (args:=⟨vs,[]⟩) ok F g (by grind) rm (lP (by rw [SI];exact hP) S9 TJ) (r1.zip hl.symm) (by rw [Qk];exact hP.nd) (λy hy=> ?_) ?_
 ·refine Ql▸?_
  exact hn _ (by have:y.1∈(xs.zip vs).map (·.1):=Hd.mpr ⟨y,hy,rfl⟩;rwa [Qk] at this)
 intro Lo env J hL X B A' QM
 have X':St C (Lo::W) ⟨S,fd.qualname ++ ".<locals>.",fd.code⟩ [] (aC (xs.zip ps)) env J:=by
  refine Ql▸?_;exact X
 refine G' (h _ A' env J _ _ _ QM X' B) ?_ λ_ _ q=>q
 rintro f Qj ⟨e,rr⟩
 exact⟨e,rr.drop λa ha=>j' _ ha⟩
noncomputable def xP:bP:=λ_=>some (.obj default)
theorem St.bad {x:Str}(X:St C W sc own xP env s)(hx:sc.scope.names.lookup x=some .local):False:=by
 refine ae X.loc λm _ h=> ?_
 refine ae (h x _ hx rfl) λv _ r=> ?_
 exact r
open Classical in
theorem uA {need:Bool}{target iter:Expr}{body:List I9}{ps:List PV}{x0:Str}(X:St C W sc own ρ env s)(B:Bs C Wt mine t own env s)(rm:ak A k)(WJ:sc.scope.names.lookup x0=some .local)
 (hi:eu need C k sc own ρ iter ps)(O:Nat->Own)(R R':Nat->bP)(P:Nat->Prop)(h0:O 0=own)(SY:R 0=ρ)(hP:P 0)(hO:∀i,(O i).map (·.1)=own.map (·.1))
 (Rt:PV->Prop)
 (Qs:∀i p,ps[i]? =some p->bg C sc mine (R i) target p (R' i))
 (turn:∀I o i p t Wt P5,(∀y∈own,y.1≠I)->ps[i]? =some p->P i->St C (I::W) sc ((I,.obj o)::O i) (R' i) env P5->Bs C Wt mine t ((I,.obj o)::O i) env P5->
  Hi C.M A (HA body env) (λf P9=>match f with
   | .next | .cont=>P (i+1)/\St C (I::W) sc ((I,.obj o)::O (i+1)) (R (i+1)) env P9/\Bs C Wt mine t ((I,.obj o)::O (i+1)) env P9
   | .brk=>False
   | .ret v=>∃p own' Qa,Rt p/\Rr C (I::W) P9.heap v p/\St C (I::W) sc own' Qa env P9/\Bs C Wt mine t own' env P9) (λ_ _=>False) P5)
 (ret:∀v p J,Rt p->Rr C W J.heap v p->Inv C J->ah C Wt t J->Q (.ret v) J)
 (done:∀J,P ps.length->St C W sc (O ps.length) (R ps.length) env J->Bs C Wt mine t (O ps.length) env J->Hi C.M A (HA rest env) Q E J)
 (hs:∀x,H4 iter env x=pure x)(htg:autoParam (need=true->cB target=true) nf):Hi C.M A (HA (.For target iter body [] pos::rest) env) Q E s:=by
 refine a7 (need:=need) (k:=k) (ps:=ps) X B rm hi O (λi=>if P i then R i else xP) (λi=>if P i then R' i else xP) h0 (by simp only [HE hP];exact SY) hO Rt (λi p hp=> ?_) (λI o i p t Wt P5 hI hp X1 B1=> ?_) ret (λJ X1 B1=> ?_) hs htg
 ·by_cases h:P i
  ·simp only [HE h];exact Qs i p hp
  ·simp only [Hz h]
   exact λW own A env s v t Wt _ X B r=>(X.bad WJ).elim
 ·by_cases h:P i
  ·simp only [HE h] at X1
   refine G' (turn I o i p t Wt P5 hI hp h X1 B1) (λf P9 hf=> ?_) λ_ _ q=>q
   cases f with
   |next=>obtain⟨h1,h2,h3⟩:=hf;simp only [HE h1];exact⟨h2,h3⟩
   |cont=>obtain⟨h1,h2,h3⟩:=hf;simp only [HE h1];exact⟨h2,h3⟩
   |brk=>exact hf
   |ret v=>exact hf
  ·simp only [Hz h] at X1
   exact(X1.bad WJ).elim
 ·by_cases h:P ps.length
  ·simp only [HE h] at X1
   exact done J h X1 B1
  ·simp only [Hz h] at X1
   exact(X1.bad WJ).elim
theorem aj.GV {a b:Str}:aj C (HZ .Gt) (.str a) (.str b) (.bool (decide (b.cps.toList < a.cps.toList))):=λW A s v u _ g h1 h2=>by
 obtain⟨t,rfl⟩:=h1;obtain⟨t',rfl⟩:=h2
 exact PySem.P.gt_str ⟨ah.refl _,rfl⟩
inductive Cl
 |i (n:Int)
 |s (x:Str)
 deriving Inhabited
noncomputable def Cl.pv:Cl->PV
 | .i n=> .int n
 | .s x=> .str x
noncomputable def Cl.lt:Cl->Cl->Bool
 | .i a,.i b=>decide (a < b)
 | .s a,.s b=>decide (a.cps.toList < b.cps.toList)
 |_,_=>false
noncomputable def Cl.AE:Cl->Cl->Bool
 | .i _,.i _=>true
 | .s _,.s _=>true
 |_,_=>false
noncomputable def kO (L R:List Cl):List (Nat×Int)->Int
 |[]=>0
 |(j,d)::ks=>if(L.getD j default).lt (R.getD j default) then -d else if(R.getD j default).lt (L.getD j default) then d else kO L R ks
theorem z7 (L R:List Cl):kO L R []=(0):=rfl
theorem z6 (L R:List Cl) {j d ks}:kO L R ((j,d)::ks)=(if(L.getD j default).lt (R.getD j default) then -d else if(R.getD j default).lt (L.getD j default) then d else kO L R ks):=rfl
noncomputable def gN (e:Nat×Int):PV:= .tup [.int (e.1:Int),.int e.2]
noncomputable abbrev fk (L:List Cl):PV:= .tup (L.map Cl.pv)
theorem aj.G1 {a b:Cl}(h:a.AE b=true):aj C (HZ .Lt) a.pv b.pv (.bool (a.lt b)):=by
 cases a <;> cases b <;> first |exact aj.ltI |exact aj.dA |cases h
theorem aj.G0 {a b:Cl}(h:a.AE b=true):aj C (HZ .Gt) a.pv b.pv (.bool (b.lt a)):=by
 cases a <;> cases b <;> first |exact aj.E9 |exact aj.GV |cases h
theorem yV (ok:C.Ok)(T:Tc C){keys:List (Nat×Int)}{L R:List Cl}(hk:∀e∈keys,e.1 < L.length/\e.1 < R.length/\(L.getD e.1 default).AE (R.getD e.1 default)=true)(hL:L.length<=1000)(hR:R.length<=1000)(hz:keys.length<=1000):
 aO C (k+1) own (.ref 35) [jd (.lst (keys.map gN)),fk L,fk R] [] (.int (kO L R keys)):=by
 have Qu:sizeLine=16777216:=rfl
 refine Bt.Ee (xs:=["self","left","right"]) [("self",jd (.lst (keys.map gN))),("left",fk L),("right",fk R)] ok T.cmp ⟨rfl,rfl,rfl,rfl,rfl,by decide+kernel⟩ (by decide+kernel) rfl rfl λW A env s t q code rm X B=> ?_
 conv in HA _ _=>arg 1;whnf
 have key:∀{i:Nat} {p:PV},(keys.map gN)[i]? =some p->p=gN (keys.getD i default)/\keys[i]? =some (keys.getD i default):=λ{i p} h=>by
  rw [Hy] at h
  refine ae (I5.mp h) λe h1 h2=> ?_
  refine Hl▸h1▸?_
  exact⟨h2.symm,rfl⟩
 with_reducible
  refine uA (need:=false) (k:=k) (ps:=keys.map gN) (x0:="self") X B rm (by done) (aX.lst (Ev.C7 T.k (by intros)) (by rw [Hb];lia)) (λ_=>[])
   (λi=>aC [("self",jd (.lst (keys.map gN))),("left",fk L),("right",fk R)])
   (λi=>upd (upd (aC [("self",jd (.lst (keys.map gN))),("left",fk L),("right",fk R)]) "index" (.int ((keys.getD i default).1:Int))) "direction" (.int (keys.getD i default).2))
   (λi=>kO L R (keys.drop i)=kO L R keys) rfl rfl (by rw [NF]) (λ_=>rfl) (λp=>p= .int (kO L R keys)) ?Qs ?turn ?ret ?done (λx=>by fail)
 case Qs=>
  intro i p hp
  simp only [(key hp).1]
  exact bg.tuple (bE.cons (bg.local (by rfl)) (bE.cons (bg.local (by rfl)) bE.nil (λenv=>rfl)) (λenv=>rfl)) (λenv=>⟨rfl,rfl⟩)
 case turn=>
  intro I o i p t' QF s1 hI hp hP X1 B1
  obtain⟨_,h1⟩:=key hp
  refine cZ (hk _ (HX h1)) λh2 h3 h4=> ?_
  have ZP:keys.drop i=keys.getD i default::keys.drop (i+1):=by
   obtain⟨Qc,e⟩:=HD.mp h1
   rw [K4 Qc,e]
  rw [ZP] at hP
  generalize keys.getD i default=e at X1 h2 h3 h4 hP
  obtain⟨j,d⟩:=e
  dsimp only at X1 h2 h3 h4
  have ha:(L.map Cl.pv)[j]? =some (L.getD j default).pv:=by
   simp only [Hy,Hn h2,Hl];rfl
  have hb:(R.map Cl.pv)[j]? =some (R.getD j default).pv:=by
   simp only [Hy,Hn h3,Hl];rfl
  replace hP:(if(L.getD j default).lt (R.getD j default)=true then -d else if(R.getD j default).lt (L.getD j default)=true then d else kO L R (keys.drop (i+1)))=kO L R keys:=hP
  generalize L.getD j default=a at ha h4 hP
  generalize R.getD j default=b at hb h4 hP
  with_reducible refine az (p:=a.pv) X1 B1 rm (Ev.b9 (n:=j) (Ev.t (xs:=L.map Cl.pv) (by intros)) (by intros) (by fail) ha (by lia) (λ_ _=>by fail)) (by done) (by fail) ?_
  intro s2 X2 B2
  with_reducible refine az (p:=b.pv) X2 B2 rm (Ev.b9 (n:=j) (Ev.t (xs:=R.map Cl.pv) (by intros)) (by intros) (by fail) hb (by lia) (λ_ _=>by fail)) (by done) (by fail) ?_
  intro s3 X3 B3
  with_reducible refine step_if (b:=a.lt b) X3 B3 rm (Tr.cmp (by intros) (by intros) (aj.G1 h4) Th.bool (by kernel_rfl!)) ?_
  intro s4 X4 B4
  cases Rl:a.lt b with
  |true=>
   rw [HE rfl]
   rw [Rl,HE rfl] at hP
   with_reducible refine cy (p:= .int (-d)) X4 B4 rm (by intros) ?_
   intro v J X' B' r
   exact⟨_,_,_,by rw [hP],r,X',B'⟩
  |false=>
   rw [Rl,Hz (by decide)] at hP
   refine Hq ?_
   dsimp only
   with_reducible refine step_if (b:=b.lt a) X4 B4 rm (Tr.cmp (by intros) (by intros) (aj.G0 h4) Th.bool (by kernel_rfl!)) ?_
   intro s5 X5 B5
   cases hba:b.lt a with
   |true=>
    rw [HE rfl]
    rw [hba,HE rfl] at hP
    with_reducible refine cy (p:= .int d) X5 B5 rm (by intros) ?_
    intro v J X' B' r
    exact⟨_,_,_,by rw [hP],r,X',B'⟩
   |false=>
    rw [hba,Hz (by decide)] at hP
    exact Hq (Hq ⟨hP,X5.to (by k_extra"rs"),B5⟩)
 case ret=>
  rintro v p J rfl r _ e
  exact⟨e,r⟩
 case done=>
  intro s1 hP X1 B1
  rw [Hb,OC] at hP
  with_reducible refine cy (p:= .int (kO L R keys)) X1 B1 rm (Ev.conv (p:= .int 0) (by intros) (by refine hP▸?_;fail)) ?_
  intro v J X' B' r
  exact⟨B'.aA,r⟩
theorem aO.up {f:y'}{ps:List PV}{Qo:List (Str×PV)}{r:PV}(h:aO C k [] f ps Qo r):aO C k own f ps Qo r:=λW A s vs kvs rm g ho r1 r2=>h W A s vs kvs rm g ez.nil r1 r2
structure Cfg.Up (C C':Cfg):Prop where
 le:C.Le C'
 ok:C'.Ok
 tabs:∀t∈C'.tabs,∃ps,C'.h₀.TableAt t.1 t.2.1 ps
theorem vd {ky:He}{params:I'}{body:Expr}{scope:Scope}{cl:List (Str×He)}{pm cd QE:y'}{x:Str}{κ:PV->PV}{RK:PV->Prop}(U:Cfg.Up C C')
 (L:fg C' ky (j7 sc params body scope cl pm cd QE) body ρ)(hP:ma params [x])(hn:scope.names.lookup x=some .local)(hf:∀p,RK p->Flat (κ p))
 (hb:∀RH,C'.Le RH->RH.Ok->∀q code p,RK p->Ev RH k ⟨scope,q,code⟩ [] (dW scope [(x,p)] ρ) body (κ p)):mV C' (k+1) ky κ RK where
 fo:=L.fo
 flat:=hf
 cal RH l p hp W A s vs kvs rm g ho r1 r2:=by
  refine ae r1.inv1 λv Qq rv=> ?_;refine Qq▸?_
  refine r2.iT▸?_
  have QR:=U.ok.le l
  refine qt (args:=⟨[v],[]⟩) (q:=[(x,p)]) QR (L.le U.ok U.tabs l) g rm (lP (xs:=[x]) hP rfl rfl) (.cons rv .nil) (by simp) (λy hy=> ?_) (hb RH l QR _ _ p hp)
  have:y=(x,v):=by simpa using hy
  refine this▸?_
  exact .inl hn
theorem fj.sI {x:Str}{px kp RV:Jm}{a:Expr}{args:List Expr}{R8:Str}{params:I'}{body:Expr}{scope:Scope}{fa:He}{ps:List PV}{r:PV}(ok:C.Ok)(hf:Ev C k sc own ρ (.Name x px) (.raw (.ref fa)))(F:cE C fa)
 (ha:ab C k sc own ρ (a::args) ps)(LO:sZ C sc scope)(Q6:∀env,defaultsOf params env=([],[]))
 (hc:∀C' ky cl pm cd QE,Cfg.Up C C'->(∀y∈own,y.1≠ky)->fg C' ky (j7 sc params body scope cl pm cd QE) body ρ->gX C' k own own' (.ref fa) ps [(R8,.raw (.ref ky))] r)(Qb:own'.map (·.1)=own.map (·.1))
 (Q':∀env,∃m ms,Jo pos (HG (a::args) env)=(false,m)::ms)(Qx:∀env,(J1 pos (I8 [⟨some R8,.Lambda params body scope RV,kp⟩] env)).all (·.1.isSome)=true):
 fj C k sc mine own own' ρ (.Call (.Name x px) (a::args) [⟨some R8,.Lambda params body scope RV,kp⟩] pos) r:=λW A env s t Wt rm X B=>by
 refine Li (G' (hf W A env s rm X) ?_ λ_ _ q=>q.elim)
 rintro v s1 ⟨e1,r1⟩
 refine(show v= .ref fa from r1)▸?_
 refine aL F.obj λo fd ho hd=> ?_
 refine L0 (o:=o) (fd:=fd) ?_
 refine fB (Q' env) λm ms hm=> ?_
 have h2:=ha W A env s1 pos rm (X.aA e1)
 simp only [hm] at h2 ⊢
 refine OL (Qx env) (G' h2 ?_ λ_ _ q=>q.elim)
 rintro vs s2 ⟨e2,r2⟩
 have X2:=(X.aA e1).aA e2
 refine PI (G' (qC ok X2 LO Q6) ?_ λ_ _ q=>q.elim)
 rintro kv s3 ⟨e3,ky,cl,pm,cd,QE,rfl,hky,L⟩
 refine P1 ?_
 have X3:=X2.aA e3
 refine⟨⟨X3.inv.old _ _ F.nt ho,hd⟩,G' ((hc (C.at W s3) ky cl pm cd QE (⟨v9 X3.inv ok X3.new,ok.at X3.inv X3.new,(X3.inv.at ok X3.new).sY⟩) (λy hy q=>absurd (X2.low _ (X2.owns y hy).1) (HH.mpr (q▸hky))) L) W A s3 vs _ rm (X3.gd.at ok) X3.owns (e3.jA r2) (.cons rfl .nil)) ?_ λ_ _ q=>q.elim⟩
 intro w s4 zz;refine cZ zz λe4 o4 r4=> ?_
 exact⟨X3.turned e4.qg o4 Qb,(((B.step e1).step e2).step e3).turned e4.qg Qb,r4⟩
structure BZ (C:Cfg)(fa:He)(body:List I9)(S:Scope)(pa:I')(q:Str)(code:y'):Prop where
 ex:∃fd,FnAt C fa fd body/\fd.scope=S/\fd.params=pa/\fd.defaults= .none/\fd.qualname ++ ".<locals>."=q/\fd.code=code
 tab:∃t∈C.tabs,code= .ref t.1/\q ++ "<lambda>"=t.2.2
theorem BZ.qx {fa:He}{body:List I9}{S:Scope}{pa:I'}{q:Str}{code:y'}{xs:List Str}{ps:List PV}{r:PV}(qs:List (Str×PV))(ok:C.Ok)(F:BZ C fa body S pa q code)(hP:ma pa xs)(hn:∀x∈xs,S.names.lookup x=some .local\/S.names.lookup x=some .cell)(hl:ps.length=xs.length)(SV:xs.zip ps=qs)
 (Qb:own'.map (·.1)=own.map (·.1))
 (h:∀W A env s t Wt,ak A k->St C W ⟨S,q,code⟩ own (aC qs) env s->Bs C Wt (λ_=>true) t own env s->
  Hi C.M A (HA body env) (λf J=>(∃sc Qa,St C W sc own' Qa env J)/\Bs C Wt (λ_=>true) t own' env J/\Rr C W J.heap (match f with | .ret v=>v |_=> .none) r) (λ_ _=>False) s):
 gX C (k+1) own own' (.ref fa) ps [] r:=λW A s vs kvs rm g ho r1 r2=>by
 subst SV
 rw [r2.iT]
 refine D1 F.ex λfd F Ql SI S9 hq Vs=> ?_
 have TJ:vs.length=xs.length:=by rw [aR.length r1,hl]
 have Qk:(xs.zip vs).map (·.1)=xs:=LR (by simp_all)
 refine dE (own:=own) (args:=⟨vs,[]⟩) ok F g ho rm (lP (by rw [SI];exact hP) S9 TJ) (r1.zip hl.symm) (by rw [Qk];exact hP.nd) (λy hy=> ?_) ?_
 ·refine Ql▸?_
  exact hn _ (by have:y.1∈(xs.zip vs).map (·.1):=Hd.mpr ⟨y,hy,rfl⟩;rwa [Qk] at this)
 intro Lo env J hL X B A' QM
 have X':St C (Lo::W) ⟨S,q,code⟩ own (aC (xs.zip ps)) env J:=by
  simp only [<-Ql,<-hq,<-Vs];exact X
 refine G' (h _ A' env J _ _ QM X' B) ?_ λ_ _ q=>q
 intro f Qj zz;refine cZ zz λz3 B2 rr=> ?_;refine fB z3 λsc Qa X2=> ?_
 refine⟨B2.aA,?_,rr.drop λa ha=>j' _ ha⟩
 have x2:ez C (Lo::W) own' Qj:=X2.owns
 refine x2.drop λy hy=> ?_
 have:y.1∈own'.map (·.1):=Hd.mpr ⟨y,hy,rfl⟩
 rw [Qb] at this
 refine ae (Hd.mp this) λz hz e=> ?_
 refine e▸?_
 exact(ho z hz).1
theorem Ev.DQ {x:Str}{px:Jm}{e:Expr}{xs:List PV}(hf:Ev C k sc own ρ (.Name x px) (.raw (.builtin "len")))(he:D6 C k sc own ρ e xs)(hz:(xs.length:Int) < 2 ^ 63)(hn:∀env,HG [e] env=[(false,IQ e env)]):
 Ev C k sc own ρ (.Call (.Name x px) [e] [] pos) (.int xs.length):=λW A env s rm X=>by
 refine I6 (G' (hf W A env s rm X) ?_ λ_ _ q=>q.elim)
 rintro v s1 ⟨e1,r1⟩
 refine(show v= .builtin "len" from r1)▸?_
 refine Ou (by rw [hn];rfl) ?_
 rw [hn]
 refine Lq (K2 (G' (he W A env s1 rm (X.aA e1)) ?_ λ_ _ q=>q.elim))
 rintro u s2 ⟨e2,a,us,n,rfl,f,g,r⟩
 refine LZ ?_
 have hl:=aR.length r
 exact O' (aQ g) (by simpa [hl] using hz) ⟨(e1.trans e2).trans (ah.tok _),_,by simp [hl];rfl⟩
theorem Tr.name {x:Str}{px:Jm}{b:Bool}(h:Ev C k sc own ρ (.Name x px) (.bool b)):Tr C k sc own ρ (.Name x px) b:=Tr.plain h Th.bool (λ_ _=>rfl)
theorem oi {S:Scope}{x:Str}{p:PV}{q:List (Str×PV)}{ρ:bP}(h:(S.names.lookup x==some .free)=false):dW S ((x,p)::q) ρ x=some p:=by
 unfold dW
 rw [Hz (by intro e;rw [e] at h;simp at h)]
 exact xD
theorem fj.tU {o ex:Expr}{apos:Jm}{aa:He}{xs:List PV}{p:PV}(ho:Ev C k sc own ρ o (.raw (.ref aa)))(YS:(aa,PV.lst xs)∈own)(hx:fj C k sc mine own own₁ ρ ex p)(hw:(aa,PV.lst xs)∈own₁)(hz:xs.length<=sizeLine)
 (Qf:∀env,Jk o "append" env (IQ o env)=IQ o env)
 (QG:∀env,((Jo pos (HG [ex] env)).all (λx=> !x.1) && (J1 pos (I8 [] env)).all (λx=>x.1.isSome)
  && decide ([ex].length+([]:List JN).length+(if([]:List JN).isEmpty then 0 else 1) < 30))=true)
 (Qe:(apos.endLine==pos.line)=true)
 (he:∀env,HG [ex] env=(false,IQ ex env)::HG [] env)(QB:∀env,(Jo pos (HG [] env)).any (·.1)=false):
 fj C k sc mine own (aE own₁ aa (.lst (xs ++ [p]))) ρ (.Call (.Attribute o "append" apos) [ex] [] pos) .none:=λW A env s t Wt rm X B=>by
 refine Jl (Qf env) (QG env) Qe Ll MO rfl (G' (ho W A env s rm X) ?_ λ_ _ q=>q.elim)
 rintro v s1 ⟨e1,r1⟩
 refine(show v= .ref aa from r1)▸?_
 have X1:=X.aA e1
 refine aL (X1.owns _ YS).2.1 λvs n g _=> ?_
 refine⟨(aQ g).typeIs,λb q=>by cases q;exact⟨_,g,rfl⟩,LP ?_ (he env) (QB env)⟩
 simp only [he]
 show Hi C.M A (spliced ((false,IQ ex env)::Jo pos (HG [] env))) _ _ s1
 refine Ha (G' (hx W A env s1 t Wt rm X1 (B.step e1)) ?_ λ_ _ q=>q.elim)
 intro u s2 zz;refine cZ zz λX2 B2 r2=> ?_
 refine Ha (Hu (Ha (Ip (Hu (Hu ?_)))))
 exact mf X2 B2 hw r2 hz λJ X' B'=>⟨X',B',rfl⟩
theorem cV {α:Type}{g:α->Bool}{l:List α}(h:l.Pairwise λp q=>g p=true->g q=true){m:Nat}{p:α}(hp:l[m]? =some p):g p=decide (l.findIdx g<=m):=by
 refine cA (HD.mp hp) λhm Qq=> ?_;subst Qq
 by_cases hc:l.findIdx g<=m
 ·rw [HS hc]
  have Qc:l.findIdx g < l.length:=JM hc hm
  have h0:g l[l.findIdx g]=true:=List.findIdx_getElem (w:=Qc)
  rcases Nat.lt_or_eq_of_le hc with hc |hc
  ·exact Jp.mp h _ _ Qc hm hc h0
  ·simpa [hc] using h0
 ·rw [H2 hc]
  have:=List.not_of_lt_findIdx (p:=g) (xs:=l) (i:=m) (Nat.lt_of_not_le hc)
  exact this
noncomputable def lL (v:Str->Int) (b:Bool) (x y:Str):Bool:=if b=true then decide (v x < v y) else decide (v x<=v y)
noncomputable def gG (v:Str->Int) (b:Bool) (mid:List Str) (x:Str):List Str:=bw mid (mid.findIdx (lL v b x)) x
noncomputable def di (v:Str->Int) (b:Bool) (l:List Str) (i:Nat):List Str:=(l.take i).foldl (gG v b) []
theorem ij (v:Str->Int)(b:Bool){l:List Str}{i:Nat}{x:Str}(h:l[i]? =some x):di v b l (i+1)=gG v b (di v b l i) x:=by
 refine cA (HD.mp h) λhi Qq=> ?_;subst Qq
 unfold di
 simp only [JA,Hn hi,Lp];rfl
def EV (v:Str->Int)(l:List Str):Prop:=l.Pairwise λx y=>v x<=v y
theorem pW {v:Str->Int}{b:Bool}{x:Str}{l:List Str}(h:EV v l):l.Pairwise λp q=>lL v b x p=true->lL v b x q=true:=
 h.imp λ{p q} h1 h2=>by
  unfold lL at h2 ⊢
  cases b
  ·exact HS (Pq (of_decide_eq_true h2) h1)
  ·exact HS (Int.lt_of_lt_of_le (of_decide_eq_true h2) h1)
theorem zM {v:Str->Int}{b:Bool}{x:Str}{l:List Str}(h:EV v l):EV v (gG v b l x):=by
 unfold gG bw EV
 have h2:∀m y,l[m]? =some y->lL v b x y=decide (l.findIdx (lL v b x)<=m):=λm y e=>cV (pW (b:=b) (x:=x) h) e
 generalize l.findIdx (lL v b x)=j at h2
 have ha:∀y∈l.take j,v y<=v x:=λy hy=>by
  obtain⟨i,hi⟩:=JQ.mp hy
  rw [List.getElem?_take] at hi
  split at hi
  ·rename_i q
   have:=h2 i y hi
   rw [H2 (NZ.mpr q)] at this
   unfold lL at this
   split at this <;> have:=of_decide_eq_false this <;> omega
  ·cases hi
 have hb:∀y∈l.drop j,v x<=v y:=λy hy=>by
  obtain⟨i,hi⟩:=JQ.mp hy
  rw [List.getElem?_drop] at hi
  have:=h2 _ y hi
  rw [HS (H6 _ _)] at this
  unfold lL at this
  split at this <;> have:=of_decide_eq_true this <;> omega
 refine I3.mpr ⟨h.sublist (KJ _ _),Ih.mpr ⟨hb,h.sublist (Lz _ _)⟩,λa h1 b h2=> ?_⟩
 rcases Hc.mp h2 with rfl |h2
 ·exact ha a h1
 ·exact Pq (ha a h1) (hb b h2)
theorem Ca {v:Str->Int}{b:Bool}{l:List Str}:∀i,EV v (di v b l i):=by
 intro i
 induction i with
 |zero=>exact I7
 |succ i ih=>
  by_cases h:i < l.length
  ·rw [ij v b (Hn h)];exact zM ih
  ·have:di v b l (i+1)=di v b l i:=by unfold di;rw [H9 (by omega),H9 (by simp_all)]
   simp only [this];exact ih
theorem ua (v:Str->Int)(b:Bool)(l:List Str)(x:Str):(gG v b l x).length=l.length+1:=by
 unfold gG bw
 have:=Kv (p:=lL v b x) (xs:=l)
 simp only [HT,IG,HK,Kn];grind -splitIndPred
theorem pV {v:Str->Int}{b:Bool}{l:List Str}:∀i,i<=l.length->(di v b l i).length=i:=by
 intro i
 induction i with
 |zero=>intro _;rfl
 |succ i ih=>intro h;simp only [ij v b (Hn h),ua,ih (H5 h)]
theorem ug {v:Str->Int}{b:Bool}{l:List Str}{x y:Str}(h:y∈gG v b l x):y=x\/y∈l:=by
 unfold gG bw at h
 rcases HP.mp h with h |h
 ·exact .inr (List.mem_of_mem_take h)
 ·rcases Hc.mp h with h |h
  ·exact .inl h
  ·exact .inr (List.mem_of_mem_drop h)
theorem pg {v:Str->Int}{b:Bool}{l:List Str}{y:Str}:∀i,y∈di v b l i->y∈l:=by
 intro i
 induction i with
 |zero=>intro h;cases h
 |succ i ih=>
  intro h
  by_cases q:i < l.length
  ·rw [ij v b (Hn q)] at h
   rcases ug h with rfl |h
   ·exact Jv q
   ·exact ih h
  ·have:di v b l (i+1)=di v b l i:=by unfold di;rw [H9 (by omega),H9 (by simp_all)]
   rw [this] at h;exact ih h
noncomputable abbrev D3:Str:="_law_sorted.<locals>."
noncomputable def gM (es:List (Str×Int)) (x:Str):Int:=(es.lookup x).getD 0
noncomputable abbrev Bd (es:List (Str×Int)):PV:= .au (es.map λe=>(e.1,.int e.2))
noncomputable def cN (order:Str) (b:Bool):Str:=if b=true then order else⟨order.cps.toList.reverse.toArray⟩
noncomputable def aN (x:Str):List Str:=x.cps.toList.map s1
noncomputable def c0 (es:List (Str×Int)) (order:Str) (b:Bool) (i:Nat):List Str:=("<":Str)::(di (gM es) b (aN (cN order b)) i ++ [(">":Str)])
noncomputable def CL (es:List (Str×Int)):PV->PV
 | .str x=> .int (gM es x)
 |_=> .none
theorem x8 (order:Str)(b:Bool):(cN order b).cps.size=order.cps.size:=by
 unfold cN;split
 ·rfl
 ·simp
theorem kD {es:List (Str×Int)}{x:Str}:(es.map λe=>(e.1,PV.int e.2)).lookup x=(es.lookup x).map .int:=lookup_map2 (f:=PV.int)
theorem aV {n:Nat}{x:Str}{p q:PV}(h:ρ x=some p)(hq:res (bG own n) p=q):(λx=>(ρ x).map (res (bG own n))) x=some q:=by
 show (ρ x).map _=_
 simp only [h,L7,hq]
theorem jN {f:He->Option PV}{l:List PV}(h:∀p∈l,res f p=p):dB f l=l:=by
 rw [ll]
 exact(Ik h).trans (LY _)
theorem eK {f:He->Option PV}{l:List Str}:dB f (l.map PV.str)=l.map PV.str:=jN λp hp=>by
 refine ae (Hd.mp hp) λx _ P8=> ?_;subst P8
 rfl
theorem oF {own:Own}{a:He}{xs:List PV}{n:Nat}(h:own.lookup a=some (.lst xs)):res (bG own (n+1)) (.raw (.ref a))= .lst (dB (bG own n) xs):=by
 simp only [jU]
 simp only [y8,gu,h]
 rfl
theorem gY (x:Str):signs x=(aN x).map .str:=by unfold signs aN;simp only [HB];rfl
theorem jX {S:Scope}{x:Str}{p:PV}{q:List (Str×PV)}{ρ:bP}(h:S.names.lookup x=some .free)(h2:ρ x=some p):dW S q ρ x=some p:=by
 unfold dW
 rw [HE h];exact h2
theorem nZ {own:Own}{n:Nat}{l:List Str}:Seen own n (l.map PV.str)=l.map PV.str:=by
 unfold Seen
 rw [ll,HB]
 rfl
theorem pD {es:List (Str×Int)}{order:Str}{b:Bool}{i:Nat}{x:Str}(hx:(aN (cN order b))[i]? =some x):
 bw ((c0 es order b i).map PV.str) (1+(di (gM es) b (aN (cN order b)) i).findIdx (lL (gM es) b x)) (.str x)=(c0 es order b (i+1)).map PV.str:=by
 unfold c0
 refine(ij _ _ hx)▸?_
 have h:=Kv (p:=lL (gM es) b x) (xs:=di (gM es) b (aN (cN order b)) i)
 generalize di (gM es) b (aN (cN order b)) i=l at h ⊢
 unfold gG
 generalize l.findIdx (lL (gM es) b x)=f at h ⊢
 unfold bw
 rw [Pt 1 f]
 simp only [Hw,HC,List.take_succ_cons,List.drop_succ_cons,IU]
 rw [L3 (by rw [Hb];exact h),List.drop_append_of_le_length (by rw [Hb];exact h)]
 simp only [Kz,LX,Oz,IP]
theorem u6 {es:List (Str×Int)}{order:Str}{b:Bool}{i m:Nat}{x:Str}{p:PV}(h1:1<=m)(h2:m < 1+(di (gM es) b (aN (cN order b)) i).length)(hp:((c0 es order b i).map PV.str)[m]? =some p):
 ∃y,p= .str y/\lL (gM es) b x y=decide (1+(di (gM es) b (aN (cN order b)) i).findIdx (lL (gM es) b x)<=m):=by
 refine ae (c4 hp) λy hy P8=> ?_;subst P8
 refine⟨y,rfl,?_⟩
 obtain⟨m,rfl⟩:∃m',m=m'+1:=⟨m - 1,by lia⟩
 unfold c0 at hy
 rw [M1,Mw (by omega)] at hy
 rw [cV (pW (Ca i)) hy]
 congr 1
 exact propext ⟨λh=>by omega,λh=>by omega⟩
theorem yq {es:List (Str×Int)}{ky:He}{cl:List (Str×He)}{pm cd QE:y'}{params:I'}{body:Expr}{scope:Scope}(U:Cfg.Up C C')(LA:fg C' ky (j7 sc params body scope cl pm cd QE) body ρ)(hP:ma params ["one"])(hn:scope.names.lookup ("one":Str)=some IS.local)
 (hb:∀RH q code y v,es.lookup y=some v->Ev RH (k+1) ⟨scope,q,code⟩ [] (dW scope [("one",.str y)] ρ) body (.int v)):mV C' (k+2) ky (CL es) (λp=>∃y v,p= .str y/\es.lookup y=some v):=
 vd U LA hP hn (λp hp=>by refine aL hp λy v P8 hv=> ?_;subst P8;exact trivial) λRH l ok q code p hp=>by
  refine aL hp λy v P8 hv=> ?_;subst P8
  have:=hb RH q code y v hv
  show Ev _ _ _ _ _ _ (.int ((es.lookup y).getD 0))
  simp only [hv];exact this
theorem CU {es:List (Str×Int)}{order:Str}{b:Bool}{i:Nat}(hk:∀x∈aN (cN order b),∃v,es.lookup x=some v)(Wq:∃v,es.lookup ("<":Str)=some v)(Uw:∃v,es.lookup (">":Str)=some v){n:Nat}{o:Own}{p:PV}(hp:p∈Seen o n ((c0 es order b i).map .str)):∃y v,p= .str y/\es.lookup y=some v:=by
 rw [nZ] at hp
 refine ae (Hd.mp hp) λy hy e=> ?_
 have:∃v,es.lookup y=some v:=by
  rcases Hc.mp hy with h |hy
  ·exact h▸Wq
  ·rcases HP.mp hy with hy |hy
   ·exact hk y (pg i hy)
   ·exact Hm.mp hy▸Uw
 exact⟨y,this.choose,e.symm,this.choose_spec⟩
theorem vV {es:List (Str×Int)}{order:Str}{b:Bool}{i:Nat}(hm:(di (gM es) b (aN (cN order b)) i).length=i):((c0 es order b i).map PV.str).length=i+2:=by
 rw [Hb];unfold c0;rw [HK,HT,hm];rfl
theorem Cp (L:Lw C){es:List (Str×Int)}{order:Str}{b:Bool}{i:Nat}{x:Str}{o:Own}{a ky:He}(K:mV C (k+2) ky (CL es) (λp=>∃y v,p= .str y/\es.lookup y=some v))(hi:i<=4)
 (hm:(di (gM es) b (aN (cN order b)) i).length=i)(hx:(aN (cN order b))[i]? =some x)(hd:∀p∈Seen o 0 ((c0 es order b i).map .str),∃y v,p= .str y/\es.lookup y=some v)(hp:∃v,es.lookup x=some v)(lk:o.lookup a=some (.lst ((c0 es order b i).map .str)))(YB:o.lookup ky=none):
 gX C (k+4) o (aE o a (.lst ((c0 es order b (i+1)).map .str))) (.ref (if b=true then Bx else DK)) [.raw (.ref a),.str x,.int (1:Nat),bS (some (i+1))] [("key",.raw (.ref ky))] .none:=by
 have hf:=Kv (p:=lL (gM es) b x) (xs:=di (gM es) b (aN (cN order b)) i)
 have hl:=vV hm
 have h1:((c0 es order b i).map PV.str).length<=sizeLine:=hl▸Hf (Nat.add_le_add_right hi 2) (by decide)
 have h2:1+(di (gM es) b (aN (cN order b)) i).findIdx (lL (gM es) b x)<=i+1:=by rw [hm] at hf;omega
 have h3:i+1<=((c0 es order b i).map PV.str).length:=hl▸Jg _
 have h4:∃y v,PV.str x= .str y/\es.lookup y=some v:=⟨x,hp.choose,rfl,hp.choose_spec⟩
 have h5:∀m p,1<=m->m < i+1->(Seen o 0 ((c0 es order b i).map .str))[m]? =some p->∃y,p= .str y/\lL (gM es) b x y=decide (1+(di (gM es) b (aN (cN order b)) i).findIdx (lL (gM es) b x)<=m):=λm p q1 q2 q3=>by
  rw [nZ] at q3
  exact u6 q1 (by rw [hm];omega) q3
 rw [<-pD hx]
 cases b with
 |true=>
  refine Av L K 0 Form.fullK lk YB h1 (H6 _ _) h2 h3 h4 hd λRH l m p q1 q2 q3=> ?_
  refine ae (h5 m p q1 q2 q3) λy e hg=> ?_
  subst e
  rw [<-hg]
  exact aj.ltI
 |false=>
  refine yP L K 0 Form.fullK lk YB h1 (H6 _ _) h2 h3 h4 hd λRH l m p q1 q2 q3=> ?_
  refine ae (h5 m p q1 q2 q3) λy e hg=> ?_
  subst e
  have:decide (m < 1+(di (gM es) false (aN (cN order false)) i).findIdx (lL (gM es) false x))= !lL (gM es) false x y:=by rw [hg,<-decide_not];congr 1;exact propext NZ.symm
  rw [this]
  show Lt _ (.int (gM es y)) (.int (gM es x)) (!decide (gM es x<=gM es y))
  rw [<-decide_not];simp only [Int.not_le]
  exact aj.ltI
noncomputable abbrev yZ:Sc:=⟨ai tb 17,D3,.ref 176⟩
noncomputable abbrev Gk (es:List (Str×Int)) (order:Str) (b:Bool) (a a2:He):List (Str×PV):=[("line",.raw (.ref a)),("told",.raw (.ref a2)),("order",.str order),("ahead",Bd es),("behind",.bool b)]
theorem lookup_none {ky:He}:∀{o:Own},(∀y∈o,y.1≠ky)->o.lookup ky=none:=λh=>IK.mpr λy hy=>bne_iff_ne.mpr (H3 (h y hy))
theorem yQ (L:Lx C f3)(F:BZ C 177 (ay tb 17) (ai tb 17) (bM tb 17) D3 (.ref 176)){es:List (Str×Int)}{order x:Str}{b:Bool}{i:Nat}{o:Own}{a a2:He}{l l':List PV}{pr:List PV}(hi:i<=4)(hl:l.length=i+2)
 (H:∀C' ky,Cfg.Up C C'->o.lookup ky=none->mV C' (k+2) ky (CL es) (λp=>∃y v,p= .str y/\es.lookup y=some v)->gX C' (k+4) o (aE o a (.lst l')) (.ref (if b=true then Bx else DK)) [.raw (.ref a),.str x,.int (1:Nat),bS (some (i+1))] [("key",.raw (.ref ky))] .none)
 (m1:(a,PV.lst l)∈o)(m2:(a2,PV.lst pr)∈o)(m3:(a2,PV.lst pr)∈aE o a (.lst l'))(hz:pr.length<=sizeLine)(rm:ak A (k+4))(X:St C W yZ o (aC (("name",.str x)::Gk es order b a a2)) env s)(B0:Bs C Wt (λ_=>true) t o env s)
 (next:∀J,St C W yZ (aE (aE o a (.lst l')) a2 (.lst (pr ++ [.none]))) (aC (("name",.str x)::Gk es order b a a2)) env J->Bs C Wt (λ_=>true) t (aE (aE o a (.lst l')) a2 (.lst (pr ++ [.none]))) env J->Q .next J):
 Hi C.M A (HA (cI (ay tb 17) 2) env) Q E s:=by
 have L':=L.L
 have SM:PV.int (((l.length:Nat):Int) - 1)=bS (some (i+1)):=by rw [hl];show PV.int _=PV.int ((i+1:Nat):Int);congr 1;omega
 have Ur:((l.length:Nat):Int) < 2 ^ 63:=by rw [hl];clear H X B0 next;omega
 conv in cI _ _=>whnf
 with_reducible refine step_if (b:=b) X B0 rm (Tr.name (by intros)) ?_
 intro s4 X7 B7
 cases b with
 |true=>
  rw [HE rfl] at H ⊢
  obtain⟨_,Fb,_⟩:=L'.ir.ex
  with_reducible
   refine b6 X7 B7 rm (fj.tU (p:= .none) (own₁:=aE o a (.lst l')) (by intros) m2 (fj.sI (ps:=[.raw (.ref a),.str x,.int (1:Nat),bS (some (i+1))]) L'.ok (by intros) Fb.fo (ab.cons (by intros) (ab.cons (by intros) (ab.cons (Ev.conv (p:= .int 1) (by intros) (by fail)) (ab.cons (Ev.conv (p:= .int ((l.length:Int) - 1)) (Ev.bin (Ev.DQ (by intros) (Ev.lo (by intros) m1) Ur (λenv=>by fail)) (by intros) aj.sub) SM) ab.nil))))
    (by with_unfolding_all exact⟨F.tab,by decide+kernel,rfl,rfl,rfl,by decide+kernel⟩) (λenv=>by fail) ?hc fF (λenv=>⟨_,_,by fail⟩) (λenv=>by fail)) m3 hz (λ_=>by fail) (λ_=>by fail) (by fail) (λ_=>by fail) (λ_=>by fail)) (λ_=>by fail) ?nx
  case hc=>
   intro C' ky cl pm cd QE U Qh LA
   exact H C' ky U (lookup_none Qh) (yq U LA (by with_unfolding_all exact⟨rfl,rfl,rfl,rfl,rfl,by decide+kernel⟩) (by done) λRH q code y v hv=>Ev.bh (es:=es.map λe=>(e.1,.int e.2)) (Ev.d (Ev.var (by done) (jX (by done) (by k_extra"r")))) (Ev.local (by done) (oi (by done)) (by done)) (by rw [kD,hv];rfl) (λ_ _=>by fail))
  case nx=>
   intro s5 X8 B8
   exact Hq (Hq (next _ X8 B8))
 |false=>
  rw [Hz (by decide)] at H ⊢
  obtain⟨_,Fb,_⟩:=L'.il.ex
  with_reducible
   refine b6 X7 B7 rm (fj.tU (p:= .none) (own₁:=aE o a (.lst l')) (by intros) m2 (fj.sI (ps:=[.raw (.ref a),.str x,.int (1:Nat),bS (some (i+1))]) L'.ok (by intros) Fb.fo (ab.cons (by intros) (ab.cons (by intros) (ab.cons (Ev.conv (p:= .int 1) (by intros) (by fail)) (ab.cons (Ev.conv (p:= .int ((l.length:Int) - 1)) (Ev.bin (Ev.DQ (by intros) (Ev.lo (by intros) m1) Ur (λenv=>by fail)) (by intros) aj.sub) SM) ab.nil))))
    (by with_unfolding_all exact⟨F.tab,by decide+kernel,rfl,rfl,rfl,by decide+kernel⟩) (λenv=>by fail) ?hc fF (λenv=>⟨_,_,by fail⟩) (λenv=>by fail)) m3 hz (λ_=>by fail) (λ_=>by fail) (by fail) (λ_=>by fail) (λ_=>by fail)) (λ_=>by fail) ?nx
  case hc=>
   intro C' ky cl pm cd QE U Qh LA
   exact H C' ky U (lookup_none Qh) (yq U LA (by with_unfolding_all exact⟨rfl,rfl,rfl,rfl,rfl,by decide+kernel⟩) (by done) λRH q code y v hv=>Ev.bh (es:=es.map λe=>(e.1,.int e.2)) (Ev.d (Ev.var (by done) (jX (by done) (by k_extra"r")))) (Ev.local (by done) (oi (by done)) (by done)) (by rw [kD,hv];rfl) (λ_ _=>by fail))
  case nx=>
   intro s5 X8 B8
   exact Hq (Hq (next _ X8 B8))
noncomputable abbrev Gl (n:Nat):List I9:=Ky n (ay tb 17)
noncomputable abbrev l6 (y1 y2 y3 y4:Str):List (Str×PV):=[("line",.lst (([("<":Str),y1,y2,y3,y4,(">":Str)]).map .str)),("told",.lst [.none,.none,.none,.none])]
theorem zK {y1 y2 y3 y4:Str}(e:∀y∈[y1,y2,y3,y4],y.length=1)(rm:ak A (k+4))(X5:St C W yZ [] (aC (l6 y1 y2 y3 y4)) env s)(B5:Bs C Wt mine t [] env s)
 (next:∀v J,St C W yZ [] (aC (l6 y1 y2 y3 y4)) env J->Bs C Wt mine t [] env J->Rr C W J.heap v (.str (KX "" [y1,y2,y3,y4]))->Q (.ret v) J):Hi C.M A (HA (Gl 3) env) Q E s:=by
 conv in Gl _=>whnf
 with_reducible refine cy (p:= .str (KX "" [y1,y2,y3,y4])) X5 B5 rm (Ev.lC (d:=true) (Tr.conv (p:=true && (true && true)) (Tr.and (Tr.cmp ?zc1 ?zc2 (aj.oR (p:= .lst [.none,.none,.none,.none]) ?zc3) Th.bool (by decide+kernel)) (λ_=>Tr.and (Tr.cmp ?zd1 ?zd2 (aj.oR (p:= .lst [.str "<",.str ">"]) ?zd3) Th.bool (by decide+kernel)) (λ_=>Tr.xM))) rfl) ?ze) next
 case zc1=>intros
 case zc2=>
  with_reducible refine Ev.conv (p:= .lst (Iu (4:Int).toNat [PV.none]).flatten) (Ev.bin (by intros) (by intros) (aj.mulL (by decide) (by decide) (by decide))) (by fail)
 case zc3=>exact dh (n:=2) (by decide+kernel) (by decide)
 case zd3=>exact dh (n:=2) (by decide+kernel) (by decide)
 case zd2=>intros
 case zd1=>
  with_reducible refine Ev.conv (p:= .lst ([.str "<"] ++ [.str ">"])) (Ev.bin (Ev.conv (Ev.ey (i:=none) (j:=some 1) (l:=none) (Ev.l (xs:=[("<":Str),y1,y2,y3,y4,(">":Str)].map .str) (by intros)) eh.kg (eh.some (by intros)) eh.kg (by simp) ?zq1 (λ_ _=>⟨_,by fail⟩) (λ_ _=>by fail)) (by fail)) (Ev.conv (Ev.ey (i:=some (-1)) (j:=none) (l:=none) (Ev.l (xs:=[("<":Str),y1,y2,y3,y4,(">":Str)].map .str) (by intros)) (eh.some (by intros)) eh.kg eh.kg (by simp) ?zq2 (λ_ _=>⟨_,by fail⟩) (λ_ _=>by fail)) (by fail)) (aj.uM ?zq3)) (by fail)
  case zq1=>show 6<=sizeLine;decide
  case zq2=>show 6<=sizeLine;decide
  case zq3=>decide
 case ze=>
  refine(HE rfl)▸?_
  with_reducible refine Ev.u7 (T:="str") (id:="str.join") (p:= .str "") (ps:=[.lst ([y1,y2,y3,y4].map .str)]) (by intros) fY.str (ab.cons (Ev.conv (Ev.ey (i:=some 1) (j:=some (-1)) (l:=none) (Ev.l (xs:=[("<":Str),y1,y2,y3,y4,(">":Str)].map .str) (by intros)) (eh.some (by intros)) (eh.some (by intros)) eh.kg (by simp) ?zq4 (λ_ _=>⟨_,by fail⟩) (λ_ _=>by fail)) (by fail)) ab.nil) (cC.join (x:="") (ys:=[y1,y2,y3,y4]) (by fail) ?zq5) (λ_=>by fail) (λ_=>by fail) (by fail) Kt LH LI (λenv=>by fail) (λenv=>by fail)
  case zq4=>show 6<=sizeLine;decide
  case zq5=>simp only [Hw,IU,e y1 f',e y2 (j' _ f'),e y3 (j' _ (j' _ f')),e y4 (j' _ (j' _ (j' _ f')))];show 4+4*("":Str).length<=16777216;decide
theorem o6 {α:Type}{n:Nat}{l:List α}(h:l.length=n+1):∃a t,l=a::t/\t.length=n:=by
 cases l with
 |nil=>cases h
 |cons a t=>exact⟨a,t,rfl,Nat.succ.inj h⟩
theorem FR {α:Type}{l:List α}(h:l.length=4):∃a b c d,l=[a,b,c,d]:=by
 refine aL (o6 h) λa t e h=> ?_
 refine aL (o6 h) λb t e1 h=> ?_
 refine aL (o6 h) λc t e2 h=> ?_
 refine aL (o6 h) λd t e3 h=> ?_
 exact⟨a,b,c,d,by rw [e,e1,e2,e3,L5 h]⟩
theorem wk {α:Type}{a:Nat}{p:α}{o:List (Nat×α)}:((a,p)::o).lookup a=some p:=List.lookup_cons_self
theorem yf {α:Type}{a b:Nat}{p:α}{o:List (Nat×α)}(h:b≠a):((b,p)::o).lookup a=o.lookup a:=by
 simp only [Hr,HQ (H3 h)]
theorem zf {a b:Nat}{p q:PV}{y:Nat}{W:List Nat}(h:y∈W)(h1:¬a∈W)(h2:¬b∈a::W):([(b,p),(a,q)]:List (Nat×PV)).all (λz=>z.1 !=y)=true:=by
 have n1:y≠a:=λq=>h1 (q▸h)
 have n2:y≠b:=λq=>h2 (j' _ (q▸h))
 simp [H3 n1,H3 n2]
theorem EB {α:Type}{p:α->α->α->α->Prop}{q:Prop}(h:∃a b c d,p a b c d)(k:∀a b c d,p a b c d->q):q:=by
 obtain⟨a,b,c,d,h⟩:=h
 exact k a b c d h
theorem Du {a a2 I:He}{p p' q q':PV}{ob:Ib}(h:a2≠a)(h1:a≠I)(h2:a2≠I):aE (aE [(I,PV.obj ob),(a2,q),(a,p)] a p') a2 q'=[(I,.obj ob),(a2,q'),(a,p')]:=by
 simp [aE,H3 h1,H3 h2,h,H3 h]
theorem Ah {a a2 I:He}{p q:PV}{ob:Ib}(h:a2≠a)(h1:a≠I):([(I,PV.obj ob),(a2,q),(a,p)]:Own).lookup a=some p:=by
 exact(yf (H3 h1)).trans ((yf h).trans wk)
theorem Dq (L:Lx C f3)(F:BZ C 177 (ay tb 17) (ai tb 17) (bM tb 17) D3 (.ref 176)){order:Str}{es:List (Str×Int)}{b:Bool}(h4:order.cps.size=4)(hk:∀x∈aN (cN order b),∃v,es.lookup x=some v)(Wq:∃v,es.lookup ("<":Str)=some v)(Uw:∃v,es.lookup (">":Str)=some v):
 aO C (k+5) own (.ref 177) [.str order,Bd es,.bool b] [] (.str (KX "" (di (gM es) b (aN (cN order b)) 4))):=by
 have L':=L.L
 have Qu:sizeLine=16777216:=rfl
 have Va:order.length=4:=h4
 refine(BZ.qx (k:=k+4) (own:=[]) (own':=[]) (xs:=["order","ahead","behind"]) [("order",.str order),("ahead",Bd es),("behind",.bool b)] L'.ok F ⟨rfl,rfl,rfl,rfl,rfl,by decide+kernel⟩ (by decide+kernel) rfl rfl rfl λW A env s t Wt rm X B=> ?_).EE
 conv in ay _ _=>whnf
 with_reducible refine dX (p:= .lst [.str "<",.str ">"]) X B rm (kA.list (by intros) (by intros)) (by done) (by fail) ?_
 intro a s1 Rv X1 B1
 with_reducible refine dX (p:= .lst []) X1 B1 rm (kA.list (by intros) (by intros)) (by done) (by fail) ?_
 intro a2 s2 U4 X2 B2
 have Vz:a2≠a:=λq=>U4 (q▸f')
 have hz:(cN order b).cps.size=4:=(x8 order b).trans h4
 have Ti:(aN (cN order b)).length=4:=by unfold aN;simp only [Hb,K6,hz]
 have X3:=X2.to (l:=[("line",.raw (.ref a)),("told",.raw (.ref a2)),("order",.str order),("ahead",Bd es),("behind",.bool b)]) (by k_extra"rs")
 with_reducible
  refine a7 (need:=false) (k:=k+4) (ps:=signs (cN order b)) X3 B2 rm (aX.str (Ev.lC (d:=b) (Tr.name (by intros)) ?it) (by lia)) (λi=>[(a2,.lst (Iu i .none)),(a,.lst ((c0 es order b i).map .str))]) (λ_=>aC [("line",.raw (.ref a)),("told",.raw (.ref a2)),("order",.str order),("ahead",Bd es),("behind",.bool b)])
   (λi=>upd (aC [("line",.raw (.ref a)),("told",.raw (.ref a2)),("order",.str order),("ahead",Bd es),("behind",.bool b)]) "name" (.str ((aN (cN order b)).getD i ""))) (by fail) (by fail) (λ_=>by fail) (λ_=>False) ?Qs ?turn (λ_ _ _ h=>h.elim) ?done (λx=>by fail)
 case it=>
  clear X X1 X2 X3 B B1 B2 hz Ti hk
  cases b with
  |false=>
   rw [Hz (by decide)]
   refine Ev.conv (p:= .str (eb order none none (some (-1)))) ?_ (by rw [lY];rfl)
   with_reducible refine Ev.eb (by intros) eh.kg eh.kg (eh.some (by intros)) (by simp) (Hf (Ly Va) (by decide)) ?_ (λ_ _=>⟨_,by fail⟩) (λ_ _=>by fail)
   rw [lY];show order.cps.toList.reverse.toArray.size<=_;simp;lia
  |true=>rw [HE rfl];intros
 case Qs=>
  intro i p hp
  rw [gY,Hy] at hp
  refine ae (I5.mp hp) λx hx P8=> ?_;subst P8
  rw [(by rw [Hl,hx];rfl:(aN (cN order b)).getD i ""=x)]
  exact bg.local (by done)
 case turn=>
  intro I ob i p t' QF s3 hI hp X5 B5
  rw [gY] at hp
  refine ae (c4 hp) λx hx P8=> ?_;subst P8
  replace X5:=((by rw [Hl,hx];rfl:(aN (cN order b)).getD i ""=x))▸X5
  have hi:i < 4:=Ti▸(HD.mp hx).1
  have i2:a2≠I:=hI (a2,_) f'
  have i1:a≠I:=hI (a,_) (j' _ f')
  have hm:=pV (v:=gM es) (b:=b) (l:=aN (cN order b)) i (by rw [Ti];exact IB hi)
  refine yQ L F (pr:=Iu i .none) (IB hi) (vV hm) (λC' ky U hn K=>Cp (L'.le U.le) K (IB hi) hm hx (λp=>CU hk Wq Uw) (hk x (HX hx)) ?_ hn) (j' _ (j' _ f')) (j' _ f') ?_ ?_ rm (X5.to (by k_extra"rs")) B5 λJ X8 B8=> ?_
  ·exact Ah Vz i1
  ·simp [aE,Vz]
  ·rw [List.length_replicate];exact Hf (IB hi) (by decide)
  ·rw [Du Vz i1 i2,<-List.replicate_succ'] at X8 B8
   exact⟨X8.to (by k_extra"rs"),B8⟩
 case done=>
  have Tu:(signs (cN order b)).length=4:=by rw [gY,Hb];unfold aN;simp only [Hb,K6,hz]
  have Ti:(aN (cN order b)).length=4:=by unfold aN;simp only [Hb,K6,hz]
  have VM:(di (gM es) b (aN (cN order b)) 4).length=4:=pV 4 (by lia)
  have UU:∀y∈di (gM es) b (aN (cN order b)) 4,y.length=1:=λy hy=>by
   refine ae (Hd.mp (pg 4 hy)) λc _ P8=> ?_;subst P8
   rfl
  rw [Tu]
  intro s4 X4 B4
  unfold c0 at X4 B4
  generalize di (gM es) b (aN (cN order b)) 4=mid at X4 B4 VM UU ⊢
  refine EB (FR VM) λy1 y2 y3 y4 e=> ?_
  rw [e] at X4 B4 UU ⊢
  have X5:=(X4.settle 1).to (l:=l6 y1 y2 y3 y4)
   (aD (aV (p:= .raw (.ref a)) (by k_extra"r") ((oF (xs:=([("<":Str),y1,y2,y3,y4,(">":Str)]).map .str) ((yf Vz).trans wk)).trans (HV PV.lst eK))) (aD (aV (p:= .raw (.ref a2)) (by k_extra"r") (oF (xs:=[.none,.none,.none,.none]) wk)) jK))
  have B5:=B4.less (own':=[]) (λ_ h=>nomatch h)
  refine zK UU rm X5 B5 λv J X' B' r=> ?_
  exact⟨⟨_,_,X'.drop (λy hy=>HU.mpr ⟨j' _ (j' _ hy),zf hy Rv U4⟩) (λ_ h=>nomatch h) X.noLoc.1⟩,B',r⟩
noncomputable abbrev SL:Sc:=⟨ai tb 18,"law.<locals>.",.ref 181⟩
noncomputable abbrev aK (n:Nat):List I9:=Ky n (ay tb 18)
noncomputable def v8:List Int:=[27018451,2332,311,1000003,999995,1000007]
noncomputable def cf (ns:List Int):Nat->List Int
 |0=>v8
 |i+1=>(cf ns i).set (i % 6) ((cf ns i).getD (i % 6) 0+(ns.getD i 0).fmod (10 ^ 12))
theorem q8 (ns:List Int) {i}:cf ns (i+1)=((cf ns i).set (i % 6) ((cf ns i).getD (i % 6) 0+(ns.getD i 0).fmod (10 ^ 12))):=rfl
theorem kz (ns:List Int):∀i,(cf ns i).length=6:=by
 intro q0
 induction q0 with
 |zero=>
  exact rfl
 |succ i ih=>
  simp only [q8,OT,ih]
noncomputable def cellsOf (ns:List Int):List Int:=cf ns (min ns.length 60)
theorem fJ {f:He->Option PV}{ns:List Int}:dB f (ns.map .int)=ns.map .int:=jN λp hp=>by
 refine ae (Hd.mp hp) λn _ P8=> ?_;refine P8▸?_
 rfl
theorem kA.conv {e:Expr}{p q:PV}(h:kA C k sc own ρ e p)(hp:p=q):kA C k sc own ρ e q:=hp▸h
theorem er {a:Int}{n i:Nat}{p:PV}(h:(aI a n)[i]? =some p):i < n:=by
 simpa [aI] using (HD.mp h).1
theorem Fw (L:Lx C f3){ns:List Int}(hz:ns.length<=63)(rm:ak A k)(X:St C W SL [] (aC [("script",.lst (ns.map .int))]) env s)(B:Bs C Wt (λ_=>true) t [] env s)
 (next:∀W J,St C W SL [] (aC [("cells",.lst ((cellsOf ns).map .int))]) env J->Bs C Wt (λ_=>true) t [] env J->Hi C.M A (HA (aK 2) env) Q E J):
 Hi C.M A (HA (aK 0) env) Q E s:=by
 have L':=L.L
 have Qu:sizeLine=16777216:=rfl
 have hlen:(ns.map PV.int).length=ns.length:=Hb _
 conv in aK _=>whnf
 with_reducible refine d8 (p:= .lst (v8.map .int)) X B rm ?_ (by done) rfl (by fail) ?_
 ·with_reducible refine' kA.conv (p:= .lst [.int 27018451,.int 2332,.int 311,.int 1000003,.int 999995,.int 1000007]) (kA.list ?_ ?_) (by fail)
  all_goals intros
 intro a s1 Rv X1 B1
 have QN:∀(o:Ib) (I:He) (xs p),a≠I->aE [(I,PV.obj o),(a,.lst xs)] a p=[(I,.obj o),(a,p)]:=λo I xs p h=>by
  unfold aE
  simp [H3 h]
 with_reducible
  refine a7 (need:=false) (k:=k) (ps:=aI 0 (min ns.length 60:Nat)) (X1.to (l:=[("script",.lst (ns.map .int)),("cells",.raw (.ref a))]) (by k_extra"rs")) B1 rm (aX.cJ (n:=((min ns.length 60:Nat):Int)) (by intros) (Ev.conv (p:= .int (if(60:Int) < ((ns.map PV.int).length:Int) then 60 else((ns.map PV.int).length:Int))) (Ev.a5 (by intros) (ab.cons (Ev.a5 (by intros) (by intros) (cC.zb (by lia))) (by intros)) cC.min2) ?mn) (by lia) (by simp) (λenv=>by fail)) (λi=>[(a,.lst ((cf ns i).map .int))])
   (λi=>aC [("script",.lst (ns.map .int)),("cells",.raw (.ref a))])
   (λi=>upd (aC [("script",.lst (ns.map .int)),("cells",.raw (.ref a))]) "k" (.int (0+(i:Int)))) (by fail) (by fail) (λ_=>by fail) (λ_=>False) ?Qs ?turn (λ_ _ _ h=>h.elim) ?done (λx=>by fail)
 case mn=>
  rw [hlen]
  congr 1
  split <;> grind -splitIndPred
 case Qs=>
  intro i p hp
  refine(el hp)▸?_
  exact bg.cell (by done) rfl
 case turn=>
  intro I o i p t' QF s3 hI hp X B
  have hi:=er hp
  have Zt:i < ns.length:=by lia
  have QS:=kz ns i
  have e1:((0:Int)+(i:Int)).fmod 6=((i % 6:Nat):Int):=by
   rw [Kw,Int.fmod_eq_emod_of_nonneg _ (by decide)]
   simp
  have Ro:(ns.map PV.int)[i]? =some (.int (ns.getD i 0)):=by
   simp only [Hy,Hn Zt,Hl];rfl
  have Vl:((cf ns i).map PV.int)[((i % 6:Nat):Int).toNat]? =some (.int ((cf ns i).getD (i % 6) 0)):=by
   have h5:i % 6 < (cf ns i).length:=by grind -splitIndPred
   simp only [JD,Hy,Hn h5,Hl];rfl
  with_reducible refine uP (a:=a) (xs:=(cf ns i).map .int) (j:=((i % 6:Nat):Int)) (p:= .int ((cf ns i).getD (i % 6) 0)) (q:= .int ((ns.getD i 0).fmod (10 ^ 12))) (r:= .int ((cf ns i).getD (i % 6) 0+(ns.getD i 0).fmod (10 ^ 12))) X B rm (by intros) (Ev.conv (p:= .int (((0:Int)+(i:Int)).fmod 6)) (by intros) (by rw [e1])) (Ev.conv (p:= .int ((ns.getD i 0).fmod (10 ^ (12:Int).toNat))) (Ev.bin (Ev.item (n:=i) (Ev.l (xs:=ns.map .int) (by intros)) (by intros) (by lia) Ro (by lia) (λ_ _=>by fail)) (Ev.bin (by intros) (by intros) (aj.pow (by decide) (by decide) (by decide))) (aj.mod (by decide))) (by fail)) (j' _ f') (by simp_all) (by exact Je (i % 6)) Vl aj.pq (λ_ _ _=>by fail) ?_
  intro s4 X4 B4
  simp only [QN _ _ _ _ (hI _ f'),JD,<-List.map_set] at X4 B4
  exact Hq ⟨X4.to (by k_extra"rs"),B4⟩
 case done=>
  intro s3 X3 B3
  have hl:(aI 0 (min ns.length 60)).length=min ns.length 60:=by simp [aI]
  rw [hl] at X3 B3
  exact next _ _ ((X3.settle 1).to (l:=[("cells",.lst ((cellsOf ns).map .int))]) (aD (aV (p:= .raw (.ref a)) (by k_extra"r") (by rw [oF (by simp [Hr]:(([(a,PV.lst ((cf ns (min ns.length 60)).map .int))]:Own)).lookup a=some (.lst ((cf ns (min ns.length 60)).map .int))),fJ];rfl)) jK)) (B3.less (by simp))
noncomputable def vG (cs:List Int) (j:Nat):Int:=(cs.getD (3+j) 0).fmod 2000001 - 1000000
noncomputable def aS (cs:List Int):List Int:=(Hg 3).map (vG cs)
noncomputable def aM (cs:List Int):Int:=(aS cs).sum
noncomputable def uV:List Int:=[1, -1,2, -3]
noncomputable def cn (cs:List Int) (j:Nat):Int:=uV.getD ((((cs.getD 1 0).fdiv 64).fdiv (4 ^ j)).fmod 4).toNat 0
noncomputable def gI (cs:List Int):List Int:=(Hg 3).map (cn cs)
theorem int_at {cs:List Int}{n:Nat}(h:n < cs.length):(cs.map PV.int)[n]? =some (.int (cs.getD n 0)):=by
 simp only [Hy,Hn h,Hl]
 rfl
theorem Fp (L:Lx C f3){cs:List Int}(hc:cs.length=6)(rm:ak A (k+1))(X:St C W SL [] (aC [("cells",.lst (cs.map .int))]) env s)(B:Bs C Wt (λ_=>true) t [] env s)
 (next:∀W J,St C W SL [] (aC [("ways",.lst ((gI cs).map .int)),("total",.int (aM cs)),("weights",.lst ((aS cs).map .int)),("cells",.lst (cs.map .int))]) env J->Bs C Wt (λ_=>true) t [] env J->Hi C.M A (HA (aK 5) env) Q E J):
 Hi C.M A (HA (aK 2) env) Q E s:=by
 have L':=L.L
 have Qu:sizeLine=16777216:=rfl
 conv in aK _=>whnf
 with_reducible
  refine a8 (p:= .lst ((Hg 3).map λj=> .int (vG cs j))) X B rm (fS.ev (c9 (need:=false) (l:=Hg 3) (g:=λ(i:Nat)=> .int ((0:Int)+(i:Int))) (by with_unfolding_all exact⟨rfl,by done,by done⟩) (λx env=>by fail) (λj=>PV.int (vG cs j)) ?it1 (by decide) ?s1)) (by done) rfl (cz X (by done)) ?n1
 case it1=>exact aX.cJ (n:=3) (by intros) (by intros) (by decide) (by decide) (λenv=>by fail)
 case s1=>
  intro j hj
  have Tt:j < 3:=HN.mp hj
  refine⟨_,bg.local (by done),by k_extra"u",?_⟩
  show Ev _ _ _ _ _ _ (.int ((cs.getD (3+j) 0).fmod 2000001 - 1000000))
  with_reducible refine Ev.bin (Ev.bin (Ev.item (n:=3+j) (Ev.l (xs:=cs.map .int) (by intros)) (by intros) (by simp) (int_at (by lia)) (by lia) (λ_ _=>by fail)) (by intros) (aj.mod (by decide))) (by intros) aj.sub
 case n1=>
  intro s1 X1 B1
  have hw:(Hg 3).map (λj=>PV.int (vG cs j))=(aS cs).map .int:=by unfold aS;rw [HB];rfl
  rw [hw] at X1
  have X2:=X1.to (l:=[("weights",.lst ((aS cs).map .int)),("cells",.lst (cs.map .int))]) (by k_extra"rs")
  with_reducible refine a8 (p:= .int (aM cs)) X2 B1 rm (Ev.a5 (by intros) (by intros) (cC.sum (AU.lst ?z) rfl)) (by done) rfl (by fail) ?n2
  case z=>show ((aS cs).map PV.int).length<=_;unfold aS;simp [Qu]
  case n2=>
  intro s2 X3 B2
  have X4:=X3.to (l:=[("total",.int (aM cs)),("weights",.lst ((aS cs).map .int)),("cells",.lst (cs.map .int))]) (by k_extra"rs")
  with_reducible
   refine a8 (p:= .lst ((Hg 3).map λj=> .int (cn cs j))) X4 B2 rm (fS.ev (c9 (need:=false) (l:=Hg 3) (g:=λ(i:Nat)=> .int ((0:Int)+(i:Int))) (by with_unfolding_all exact⟨rfl,by done,by done⟩) (λx env=>by fail) (λj=>PV.int (cn cs j)) ?it3 (by decide) ?s3)) (by done) rfl (cz X4 (by done)) ?n3
  case it3=>exact aX.cJ (n:=3) (by intros) (by intros) (by decide) (by decide) (λenv=>by fail)
  case s3=>
   intro j hj
   have Tt:j < 3:=HN.mp hj
   refine⟨_,bg.local (by done),by k_extra"u",?_⟩
   have e0:((0:Int)+(j:Int)).toNat=j:=by simp
   refine c7 ((by decide:∀j,j < 3->(4:Int) ^ j≠0/\((4:Int) ^ j).natAbs < 1073741824) j Tt) λVg YQ=> ?_
   have h0:=Il (((cs.getD 1 0).fdiv 64).fdiv (4 ^ j)) (b:=4) (by decide)
   have h4:=IW (((cs.getD 1 0).fdiv 64).fdiv (4 ^ j)) (b:=4) (by decide)
   have Ro:(uV.map PV.int)[((((cs.getD 1 0).fdiv 64).fdiv (4 ^ j)).fmod 4).toNat]? =some (.int (cn cs j)):=int_at (cs:=uV) (by have:uV.length=4:=rfl;omega)
   with_reducible refine Ev.iK (xs:=uV.map .int) (j:=(((cs.getD 1 0).fdiv 64).fdiv (4 ^ j)).fmod 4) ?l (Ev.bin (Ev.bin (Ev.bin (Ev.item (n:=1) (Ev.l (xs:=cs.map .int) (by intros)) (by intros) (by fail) (int_at (by simp_all)) (by decide) (λ_ _=>by fail)) (by intros) (aj.floordiv (by decide) (HI (by decide)))) (Ev.conv (p:= .int (4 ^ ((0:Int)+(j:Int)).toNat)) (Ev.bin (by intros) (by intros) (aj.pow (by simp) (by lia) (by decide))) (by rw [e0])) (aj.floordiv Vg (HI YQ))) (by intros) (aj.mod (by decide))) h0 Ro (by decide) (λ_ _=>by fail)
   case l=>
    with_reducible refine' Ev.conv (p:= .lst [.int 1,.int (-1),.int 2,.int (-3)]) (Ev.list ?_ ?_) (by fail)
    all_goals intros
  case n3=>
  intro s3 X5 B3
  have hy:(Hg 3).map (λj=>PV.int (cn cs j))=(gI cs).map .int:=by unfold gI;rw [HB];rfl
  rw [hy] at X5
  with_reducible have h9:=next _ _ (X5.to (by k_extra"rs")) B3
  conv at h9 in aK _=>whnf
  with_reducible exact h9
noncomputable abbrev e9 (e:Int×Int):PV:= .tup [.int e.1,.int e.2]
noncomputable def mI:List (Int×Int):=[(-1,10),(9,10),(-10 ^ 20,10 ^ 19),(0,1)]
noncomputable def qB:List (Int×Int):=[(99,100),(-100, -99),(0,10 ^ 25),(-7,3)]
noncomputable def gj (c:Int):Nat:=((c.fdiv 16).fmod 4).toNat
noncomputable def d6 (cs:List Int):Int×Int:=mI.getD (gj (cs.getD 1 0)) (0,0)
noncomputable def gF (cs:List Int):Int×Int:=qB.getD (gj (cs.getD 2 0)) (0,0)
theorem iw (c:Int):gj c < 4/\((gj c:Nat):Int)=(c.fdiv 16).fmod 4:=by
 have h0:=Il (c.fdiv 16) (b:=4) (by decide)
 have h4:=IW (c.fdiv 16) (b:=4) (by decide)
 unfold gj
 constructor <;> omega
theorem sT {l:List (Int×Int)}{n:Nat}(h:n < l.length):(l.map e9)[n]? =some (e9 (l.getD n (0,0))):=by
 simp only [Hy,Hn h,Hl]
 rfl
noncomputable abbrev l2 (cs:List Int):List (Str×PV):=[("ways",.lst ((gI cs).map .int)),("total",.int (aM cs)),("weights",.lst ((aS cs).map .int)),("cells",.lst (cs.map .int))]
theorem Fv (L:Lx C f3){cs:List Int}(hc:cs.length=6)(rm:ak A (k+1))(X:St C W SL [] (aC (l2 cs)) env s)(B:Bs C Wt (λ_=>true) t [] env s)
 (next:∀W J,St C W SL [] (aC (("times",e9 (gF cs))::("counts",e9 (d6 cs))::l2 cs)) env J->Bs C Wt (λ_=>true) t [] env J->Hi C.M A (HA (aK 7) env) Q E J):
 Hi C.M A (HA (aK 5) env) Q E s:=by
 have q1:=iw (cs.getD 1 0)
 have q2:=iw (cs.getD 2 0)
 have g1:(mI.map e9)[gj (cs.getD 1 0)]? =some (e9 (d6 cs)):=sT (by show _ < 4;exact q1.1)
 have g2:(qB.map e9)[gj (cs.getD 2 0)]? =some (e9 (gF cs)):=sT (by show _ < 4;exact q2.1)
 conv in aK _=>whnf
 with_reducible
  refine az (p:=e9 (d6 cs)) X B rm (Ev.item (n:=gj (cs.getD 1 0)) (Ev.l (xs:=mI.map e9) ?l1) (Ev.bin (Ev.bin (Ev.item (n:=1) (Ev.l (xs:=cs.map .int) (by intros)) (by intros) (by fail) (int_at (by simp_all)) (by decide) (λ_ _=>by fail)) (by intros) (aj.floordiv (by decide) (HI (by decide)))) (by intros) (aj.mod (by decide))) q1.2.symm g1 (by lia) (λ_ _=>by fail)) (by done) (by fail) ?n1
 case l1=>
  with_reducible refine Ev.conv (p:= .lst [.tup [.int (-1),.int 10],.tup [.int 9,.int 10],.tup [.int (-(10 ^ (20:Int).toNat)),.int (10 ^ (19:Int).toNat)],.tup [.int 0,.int 1]]) ?_ (by kernel_rfl)
  intros
  all_goals exact aj.pow (by decide) (by decide) (by decide)
 case n1=>
 intro s1 X1 B1
 with_reducible
  refine az (p:=e9 (gF cs)) (X1.to (l:=("counts",e9 (d6 cs))::l2 cs) (by k_extra"rs")) B1 rm (Ev.item (n:=gj (cs.getD 2 0)) (Ev.l (xs:=qB.map e9) ?l2) (Ev.bin (Ev.bin (Ev.item (n:=2) (Ev.l (xs:=cs.map .int) (by intros)) (by intros) (by fail) (int_at (by simp_all)) (by decide) (λ_ _=>by fail)) (by intros) (aj.floordiv (by decide) (HI (by decide)))) (by intros) (aj.mod (by decide))) q2.2.symm g2 (by lia) (λ_ _=>by fail)) (by done) (by fail) ?n2
 case l2=>
  with_reducible refine Ev.conv (p:= .lst [.tup [.int 99,.int 100],.tup [.int (-100),.int (-99)],.tup [.int 0,.int (10 ^ (25:Int).toNat)],.tup [.int (-7),.int 3]]) ?_ (by kernel_rfl)
  intros
  all_goals exact aj.pow (by decide) (by decide) (by decide)
 case n2=>
 intro s2 X3 B2
 with_reducible have h9:=next _ _ (X3.to (by k_extra"rs")) B2
 conv at h9 in aK _=>whnf
 with_reducible exact h9
noncomputable abbrev l5 (cs:List Int):List (Str×PV):=("times",e9 (gF cs))::("counts",e9 (d6 cs))::l2 cs
theorem FV (L:Lx C f3){cs:List Int}(rm:ak A (k+1))(X:St C W SL [] (aC (l5 cs)) env s)(B:Bs C Wt (λ_=>true) t [] env s)
 (next:∀a b W' J,a≠b->St C W' SL [(b,.au []),(a,.au [])] (aC (("own",.raw (.ref b))::("rows",.raw (.ref a))::l5 cs)) env J->Bs C Wt (λ_=>true) t [(b,.au []),(a,.au [])] env J->Hi C.M A (HA (aK 9) env) Q E J):
 Hi C.M A (HA (aK 7) env) Q E s:=by
 conv in aK _=>whnf
 with_reducible refine d8 (p:= .au []) X B rm kA.ku (by done) rfl (by fail) ?_
 intro a s1 Rv X1 B1
 with_reducible refine d8 (p:= .au []) X1 B1 rm kA.ku (by done) rfl (by fail) ?_
 intro b s2 hbW X2 B2
 have Rl:a≠b:=λq=>hbW (q▸f')
 with_reducible have h9:=next a b _ _ Rl (X2.to (by k_extra"rs")) B2
 conv at h9 in aK _=>whnf
 with_reducible exact h9
noncomputable def fC:List (List Str):=[["f","F",s1 119813,s1 8497],["ff","FF",s1 64256,("f":Str) ++ s1 120229],["fi","fI",s1 64257,s1 8497 ++ ("i":Str)],["i","I",s1 119816,s1 8464],["s","S",s1 119826,s1 383],["ss","Ss",s1 223,s1 383 ++ ("S":Str)]]
noncomputable abbrev tH:PV:= .lst (fC.map λl=> .lst (l.map .str))
noncomputable abbrev vi:PV:= .lst (rR.map .int)
noncomputable def wordAt (n f:Nat):Str:=(fC.getD n []).getD f ""
noncomputable def cX (x:Str) (d:Int):Int:=d.fmod ((x.length:Int)+1)
noncomputable def xo (d:Int):Str:=s1 (rR.getD ((d.fdiv 3).fmod 27).toNat 0).toNat
noncomputable def fN (x:Str) (d:Int):Str:=(eb x none (some (cX x d)) none ++ xo d) ++ eb x (some (cX x d)) none none
theorem len_app (x y:Str):(x ++ y).length=x.length+y.length:=Array.size_append
theorem tV (n:Nat):0<=rR.getD n 0/\rR.getD n 0<=0x10FFFF:=by
 have:∀x∈rR,0<=x/\x<=0x10FFFF:=by decide
 by_cases h:n < rR.length
 ·rw [Hl,Hn h]
  exact this _ (Jv h)
 ·rw [Hl,KA (by simp_all)]
  exact⟨by decide,by decide⟩
theorem km:∀n < 6,∀f < 4,(fC.map λl=>PV.lst (l.map .str))[n]? =some (.lst ((fC.getD n []).map .str))/\((fC.getD n []).map PV.str)[f]? =some (.str (wordAt n f))/\(wordAt n f).length<=2:=by
 intro n hn f hf
 rcases n with _ |_ |_ |_ |_ |_ |n
 all_goals first |lia |(rcases f with _ |_ |_ |_ |f <;> first |lia |exact⟨rfl,rfl,by decide⟩)
theorem DA (L:Lx C f3){n f:Nat}{d:Int}(hn:n < 6)(hf:f < 4):aO C (k+1) own (.ref 170) [.int n,.int f,.int d] [] (.tup [.str (wordAt n 0),.str (fN (wordAt n f) d),.int (cX (wordAt n f) d)]):=by
 have L':=L.L
 have hw:=km n hn f hf
 have Qu:sizeLine=16777216:=rfl
 refine kN.call (xs:=["number","form","seed"]) [("number",.int n),("form",.int f),("seed",.int d)] L'.ok L.ty ⟨rfl,rfl,rfl,rfl,rfl,by decide+kernel⟩ (by decide+kernel) rfl rfl λW A env s t Wt q code rm X B=> ?_
 conv in ay _ _=>whnf
 with_reducible refine az (p:=tH) X B rm ?_ (by done) (by fail) ?_
 ·with_reducible refine Ev.conv (p:= .lst [.lst [.str "f",.str "F",.str ⟨#[Ko 119813]⟩,.str ⟨#[Ko 8497]⟩],.lst [.str "ff",.str "FF",.str ⟨#[Ko 64256]⟩,.str (("f":Str) ++ ⟨#[Ko 120229]⟩)],.lst [.str "fi",.str "fI",.str ⟨#[Ko 64257]⟩,.str ((⟨#[Ko 8497]⟩:Str) ++ ("i":Str))],.lst [.str "i",.str "I",.str ⟨#[Ko 119816]⟩,.str ⟨#[Ko 8464]⟩],.lst [.str "s",.str "S",.str ⟨#[Ko 119826]⟩,.str ⟨#[Ko 383]⟩],.lst [.str "ss",.str "Ss",.str ⟨#[Ko 223]⟩,.str ((⟨#[Ko 383]⟩:Str) ++ ("S":Str))]]) ?_ (by kernel_rfl)
  intros
  all_goals exact aj.CH (by decide)
 intro s1 X1 B1
 with_reducible refine az (p:=vi) (X1.to (l:=[("words",tH),("number",.int n),("form",.int f),("seed",.int d)]) (by k_extra"rs")) B1 rm ?_ (by done) (by fail) ?_
 ·with_reducible refine Ev.conv (p:= .lst ([.int 173,.int 847,.int 6150,.int 6155,.int 6156,.int 6157,.int 8203,.int 8204,.int 8205,.int 8288,.int 65279] ++ aI 65024 (65040 - 65024:Int).toNat)) ?_ (by kernel_rfl)
  intros
 intro s3 X3 B3
 have Yd:(fC.map λl=>PV.lst (l.map .str)).length<=sizeLine:=by decide
 have VK:((fC.getD n []).map PV.str).length<=sizeLine:=by
  have:∀n < 6,((fC.getD n []).map PV.str).length<=4:=by decide
  have:=this n hn;lia
 with_reducible refine az (p:= .str (wordAt n f)) X3 B3 rm (Ev.iK (Ev.iK (xs:=fC.map λl=>PV.lst (l.map .str)) (by intros) (by intros) (Je n) (by simp only [JD];exact hw.1) Yd (λ_ _=>by fail)) (by intros) (Je f) (by simp only [JD];exact hw.2.1) VK (λ_ _=>by fail)) (by done) (by fail) ?_
 intro s4 X4 B4
 with_reducible refine az (p:= .int (cX (wordAt n f) d)) X4 B4 rm ?_ (by done) (by fail) ?_
 ·with_reducible refine Ev.bin (by intros) (Ev.bin (Ev.a5 (by intros) (by intros) (cC.o6 (by lia)) (λenv=>rfl) (λenv=>⟨_,_,rfl⟩)) (by intros) aj.add) (aj.mod (by lia))
 intro s6 X6 B6
 have h3:=IW (d.fdiv 3) (b:=27) (by decide)
 have hb:=tV ((d.fdiv 3).fmod 27).toNat
 have X0:=ni (wordAt n f) (some (cX (wordAt n f) d)) none
 have Uh:=ni (wordAt n f) none (some (cX (wordAt n f) d))
 have h2:=hw.2.2
 with_reducible refine cy (p:= .tup [.str (wordAt n 0),.str (fN (wordAt n f) d),.int (cX (wordAt n f) d)]) X6 B6 rm (Ev.tuple (ab.cons (Ev.iK (Ev.iK (xs:=fC.map λl=>PV.lst (l.map .str)) (by intros) (by intros) (Je n) (by simp only [JD];exact hw.1) Yd (λ_ _=>by fail)) Ev.int (by decide) (km n hn 0 (by decide)).2.1 VK (λ_ _=>by fail)) (ab.cons (Ev.bin (Ev.bin (by intros) (Ev.a5 (by intros) (ab.cons (Ev.iK (xs:=rR.map .int) (by intros) (by intros) (Il (d.fdiv 3) (b:=27) (by decide)) ?h1 (by decide) (λ_ _=>by fail)) ab.nil) (cC.chr hb.1 hb.2)) (aj.CH ?h2)) (by intros) (aj.CH ?h3)) (by intros))) (Hv (by fail))) ?_
 case h1=>
  have hj:((d.fdiv 3).fmod 27).toNat < rR.length:=by
   have:rR.length=27:=by rfl
   simp_all
  simp only [Hy,Hn hj,Hl]
  rfl
 case h2=>show _+1<=_;lia
 case h3=>rw [len_app];show _+1+_<=_;lia
 intro v J X' B' r
 exact⟨⟨_,_,X'⟩,B',r⟩
noncomputable abbrev ro (n:Nat):List I9:=Ky n (cI (ay tb 18) 9)
noncomputable def numAt (c:Int) (i:Nat):Nat:=((c.fdiv (3 ^ i)).fmod 3+(c.fdiv 81).fmod 4).toNat
noncomputable def n9 (c:Int) (i:Nat):Nat:=(((c.fdiv 324).fdiv (4 ^ i)).fmod 4).toNat
noncomputable def oy (c:Int) (i:Nat):Int:=((c.fdiv 82944).fdiv (81 ^ i)).fmod 81
theorem jq (c:Int)(i:Nat):numAt c i < 6/\((numAt c i:Nat):Int)=(c.fdiv (3 ^ i)).fmod 3+(c.fdiv 81).fmod 4:=by
 have h:=Int.add_nonneg (Il (c.fdiv (3 ^ i)) (b:=3) (by decide)) (Il (c.fdiv 81) (b:=4) (by decide))
 exact⟨(Pu h).mpr (N0 (Int.add_le_add (NI (IW (c.fdiv (3 ^ i)) (b:=3) (by decide))) (NI (IW (c.fdiv 81) (b:=4) (by decide)))) (by decide:(2:Int)+3 < (6:Nat))),NQ h⟩
theorem Bg (a:Int){b:Nat}(hb:(0:Int) < b):(a.fmod b).toNat < b/\(((a.fmod b).toNat:Nat):Int)=a.fmod b:=
 ⟨(Pu (Il a hb)).mpr (IW a hb),NQ (Il a hb)⟩
theorem nz (c:Int)(i:Nat):n9 c i < 4/\((n9 c i:Nat):Int)=((c.fdiv 324).fdiv (4 ^ i)).fmod 4:=Bg (b:=4) _ (by decide)
noncomputable def A6:PV->PV
 | .str x=> .bool (iJ (x.cps.getD 0 0:Nat))
 |p=>p
noncomputable def bX (x:Str):List Bool:=x.cps.toList.map λ(c:Nat)=>iJ (c:Int)
theorem zZ (x:Str):(signs x).map A6=(bX x).map .bool:=by
 unfold signs bX
 simp only [HB]
 rfl
noncomputable abbrev l7 (cs:List Int) (a b:He):List (Str×PV):=("own",.raw (.ref b))::("rows",.raw (.ref a))::l5 cs
noncomputable abbrev El (cs:List Int) (i:Nat):Str:=wordAt (numAt (cs.getD 0 0) i) 0
noncomputable abbrev Bp (cs:List Int) (i:Nat):Str:=fN (wordAt (numAt (cs.getD 0 0) i) (n9 (cs.getD 0 0) i)) (oy (cs.getD 0 0) i)
noncomputable abbrev F0 (cs:List Int) (i:Nat):Int:=cX (wordAt (numAt (cs.getD 0 0) i) (n9 (cs.getD 0 0) i)) (oy (cs.getD 0 0) i)
theorem BV (L:Lx C f3){cs:List Int}{a b:He}{i:Nat}(hi:i < 4)(hc:cs.length=6)(rm:ak A (k+1))(X:St C W SL own (aC (("k",.int ((0:Int)+(i:Int)))::l7 cs a b)) env s)(B:Bs C Wt (λ_=>true) t own env s)
 (next:∀J,St C W SL own (aC (("unseen",.int (F0 cs i))::("typed",.str (Bp cs i))::("word",.str (El cs i))::("number",.int (numAt (cs.getD 0 0) i))::("k",.int ((0:Int)+(i:Int)))::l7 cs a b)) env J->Bs C Wt (λ_=>true) t own env J->Hi C.M A (HA (ro 2) env) Q E J):
 Hi C.M A (HA (ro 0) env) Q E s:=by
 have L':=L.L
 have e0:((0:Int)+(i:Int)).toNat=i:=by simp
 refine FT ((by decide:∀j,j < 4->(3:Int) ^ j≠0/\((3:Int) ^ j).natAbs < 1073741824/\(4:Int) ^ j≠0/\((4:Int) ^ j).natAbs < 1073741824/\(81:Int) ^ j≠0/\((81:Int) ^ j).natAbs < 1073741824) i hi) λp3 Y6 p4 Zy p8 p8'=> ?_
 have n1:=jq (cs.getD 0 0) i
 have f1:=nz (cs.getD 0 0) i
 have g0:(cs.map PV.int)[0]? =some (.int (cs.getD 0 0)):=int_at (by simp_all)
 conv in ro _=>whnf
 with_reducible
  refine az (p:= .int (numAt (cs.getD 0 0) i)) X B rm (Ev.conv (p:= .int (((cs.getD 0 0).fdiv (3 ^ i)).fmod 3+((cs.getD 0 0).fdiv 81).fmod 4)) (Ev.bin (Ev.bin (Ev.bin (Ev.item (n:=0) (Ev.l (xs:=cs.map .int) (by intros)) (by intros) (by fail) g0 (by decide) (λ_ _=>by fail)) (Ev.conv (p:= .int (3 ^ ((0:Int)+(i:Int)).toNat)) (Ev.bin (by intros) (by intros) (aj.pow (by simp) (by lia) (by decide))) (by rw [e0])) (aj.floordiv p3 (HI Y6))) (by intros) (aj.mod (by decide))) (Ev.bin (Ev.bin (Ev.item (n:=0) (Ev.l (xs:=cs.map .int) (by intros)) (by intros) (by fail) g0 (by decide) (λ_ _=>by fail)) (by intros) (aj.floordiv (by decide) (HI (by decide)))) (by intros) (aj.mod (by decide))) aj.add) (by simp only [n1.2])) (by done) (by fail) ?n1
 case n1=>
 intro s1 X1 B1
 with_reducible
  refine iR (p:= .tup [.str (El cs i),.str (Bp cs i),.int (F0 cs i)]) (X1.to (l:=("number",.int (numAt (cs.getD 0 0) i))::("k",.int ((0:Int)+(i:Int)))::l7 cs a b) (by k_extra"rs")) B1 rm
   (Ev.du (by intros) L.ty.fo (ab.cons (by intros) (ab.cons (Ev.conv (p:= .int ((((cs.getD 0 0).fdiv 324).fdiv (4 ^ i)).fmod 4)) (Ev.bin (Ev.bin (Ev.bin (Ev.item (n:=0) (Ev.l (xs:=cs.map .int) (by intros)) (by intros) (by fail) g0 (by decide) (λ_ _=>by fail)) (by intros) (aj.floordiv (by decide) (HI (by decide)))) (Ev.conv (p:= .int (4 ^ ((0:Int)+(i:Int)).toNat)) (Ev.bin (by intros) (by intros) (aj.pow (by simp) (by lia) (by decide))) (by rw [e0])) (aj.floordiv p4 (HI Zy))) (by intros) (aj.mod (by decide))) (by rw [f1.2]))
    (ab.cons (Ev.bin (Ev.bin (Ev.bin (Ev.item (n:=0) (Ev.l (xs:=cs.map .int) (by intros)) (by intros) (by fail) g0 (by decide) (λ_ _=>by fail)) (by intros) (aj.floordiv (by decide) (HI (by decide)))) (Ev.conv (p:= .int (81 ^ ((0:Int)+(i:Int)).toNat)) (Ev.bin (by intros) (by intros) (aj.pow (by simp) (by lia) (by decide))) (by rw [e0])) (aj.floordiv p8 (HI p8'))) (by intros) (aj.mod (by decide))) ab.nil))) bR.nil (DA (own:=own) (k:=k) L (d:=oy (cs.getD 0 0) i) n1.1 f1.1))
   (bg.tuple (bE.cons (bg.local (by done)) (bE.cons (bg.cell (by done) (by fail)) (bE.cons (bg.cell (by done) (by fail)) bE.nil (λenv=>by fail)) (λenv=>by fail)) (λenv=>by fail)) (λenv=>by with_unfolding_all exact⟨rfl,rfl⟩)) (by fail) (by fail) ?n2
 case n2=>
 intro s2 X3 B2
 with_reducible have h9:=next _ (X3.to (by k_extra"rs")) B2
 conv at h9 in ro _=>whnf
 with_reducible exact h9
noncomputable def fq (f3:Int->Option Str) (ty:Str):List Str:=((Hg ty.cps.size).filter λj=> !(bX ty).getD j false).map λj=>kG f3 (s1 (ty.cps.getD j 0))
noncomputable abbrev l9 (cs:List Int) (a b:He) (i n:Nat) (wd ty:Str) (pl:Int):List (Str×PV):=("unseen",.int pl)::("typed",.str ty)::("word",.str wd)::("number",.int n)::("k",.int ((0:Int)+(i:Int)))::l7 cs a b
theorem C6 (L:Lx C f3){cs:List Int}{a b:He}{i n:Nat}{wd ty:Str}{pl:Int}(RT:ty.cps.size<=100)(hf:((fq f3 ty).map (·.length)).sum<=10000)(rm:ak A (k+1))(X:St C W SL own (aC (l9 cs a b i n wd ty pl)) env s)(B:Bs C Wt (λ_=>true) t own env s)
 (next:∀J,St C W SL own (aC (("folded",.str (KX "" (fq f3 ty)))::("told",.lst ((bX ty).map .bool))::l9 cs a b i n wd ty pl)) env J->Bs C Wt (λ_=>true) t own env J->Hi C.M A (HA (ro 4) env) Q E J):
 Hi C.M A (HA (ro 2) env) Q E s:=by
 have L':=L.L
 have Qu:sizeLine=16777216:=rfl
 have hsg:(signs ty).length=ty.cps.size:=by simp [signs]
 have WA:∀{i:Nat} {p:PV},(signs ty)[i]? =some p->p= .str (Internal.s1 (ty.cps.getD i 0))/\i < ty.cps.size:=λ{i p} h=>by
  have hi:i < ty.cps.size:=by refine hsg▸?_;exact(HD.mp h).1
  unfold signs at h
  rw [Hy,Hn ((hi))] at h
  refine⟨(IF h).symm.trans ?_,hi⟩
  simp [PX,hi]
 conv in ro _=>whnf
 with_reducible
  refine a8 (p:= .lst ((bX ty).map .bool)) X B rm (Ev.conv (fS.ev (ub (need:=false) (ps:=signs ty) (f:=A6) (by with_unfolding_all exact⟨rfl,by done,by done⟩) (λx env=>by fail) (aX.str (by intros) (by lia)) (by lia) ?step)) (by rw [zZ])) (by done) (by fail) (cz X (by done)) ?nx
 case step=>
  intro p hp
  obtain⟨j,hj⟩:=JQ.mp hp
  obtain⟨rfl,_⟩:=WA hj
  refine⟨_,bg.local (by done),by k_extra"u",?_⟩
  show Ev _ _ _ _ _ _ (.bool (iJ ((Internal.s1 (ty.cps.getD j 0)).cps.getD 0 0:Nat)))
  with_reducible exact Ev.du (Ev.CF L' (by done) (by fail) (by done)) L.it.fo (ab.cons (Ev.local (by done) fL (by done)) ab.nil) bR.nil (Cj L (by fail))
 case nx=>
 intro s1 X1 B1
 have Wc:((fq f3 ty).map (·.length)).sum+(fq f3 ty).length*(Lv "").length<=16777216:=by
  show _+_*0<=_;lia
 have UU:((Hg ty.cps.size).filter λj=> !(bX ty).getD j false).map (λj=>PV.str (kG f3 (Internal.s1 (ty.cps.getD j 0))))=(fq f3 ty).map .str:=by unfold fq;rw [HB];rfl
 with_reducible
  refine az (p:= .str (KX "" (fq f3 ty))) (X1.to (l:=("told",.lst ((bX ty).map .bool))::l9 cs a b i n wd ty pl) (by k_extra"rs")) B1 rm (Ev.u7 (T:="str") (id:="str.join") (p:= .str "") (ps:=[.lst (((Hg ty.cps.size).filter λj=> !(bX ty).getD j false).map λj=>PV.str (kG f3 (Internal.s1 (ty.cps.getD j 0))))]) (by intros) fY.str
   (ab.cons (fS.ev (bI (need:=false) (l:=Hg ty.cps.size) (g:=λ(i:Nat)=> .int ((0:Int)+(i:Int))) (by with_unfolding_all exact⟨rfl,by done,by done⟩) (λx env=>by fail) (λj=>PV.str (kG f3 (Internal.s1 (ty.cps.getD j 0)))) (λj=> !(bX ty).getD j false) ?it (by rw [J3];lia) ?step2)) ab.nil)
   (cC.join (x:="") (ys:=fq f3 ty) UU Wc) (λ_=>by fail) (λ_=>by fail) (by fail) Kt LH LI (λenv=>by fail) (λenv=>by fail)) (by done) (by fail) ?nx2
 case it=>
  refine aX.cJ (n:=(ty.cps.size:Int)) (by intros) (Ev.a5 (by intros) (by intros) (cC.o6 ?z)) (by lia) (by simp) (λenv=>by fail)
  case z=>have:ty.length=ty.cps.size:=rfl;lia
 case step2=>
  intro j hj
  have Yo:j < ty.cps.size:=HN.mp hj
  have e0:((0:Int)+(j:Int))=(j:Int):=by lia
  have hg:((bX ty).map PV.bool)[j]? =some (.bool ((bX ty).getD j false)):=by
   simp only [Hy,Hn (by rw [(by simp [bX]:(bX ty).length=ty.cps.size)];exact Yo:j < (bX ty).length),Hl];rfl
  refine⟨_,bg.local (by rfl),by k_extra"u",?_,λ_=> ?_⟩
  ·with_reducible refine Tr.not (Tr.plain (Ev.item (n:=j) (Ev.l (xs:=(bX ty).map .bool) (by intros)) (by intros) e0 hg (by lia) (λ_ _=>by fail)) Th.bool (λ_ _=>by fail))
  ·show Ev _ _ _ _ _ _ (.str (kG f3 ⟨#[ty.cps.getD j 0]⟩))
   with_reducible refine Ev.du (Ev.CF L' (by done) (by fail) (by done)) L.mt.fo (ab.cons (Ev.yj (n:=j) (by intros) (by intros) e0 (by simp [PX,Yo]) (by lia) (λ_ _=>by fail)) ab.nil) bR.nil (Cd L (by fail))
 case nx2=>
 intro s2 X3 B2
 with_reducible have h9:=next _ (X3.to (by k_extra"rs")) B2
 conv at h9 in ro _=>whnf
 with_reducible exact h9
theorem aj.Gr {a b:Bool}:aj C (HZ .Is) (.bool a) (.bool b) (.bool (a==b)):=λW A s v u _ g h1 h2=>by
 refine(show v= .bool a from h1)▸(show u= .bool b from h2)▸?_
 exact PyProof.Rows.is_bool ⟨ah.refl _,rfl⟩
theorem iA:kK (.lst []):=dh (n:=1) rfl (by decide)
theorem filter_none {l:List PV}{f:PV->PV}:(l.filter λ_=>false).map f=[]:=by
 induction l with
 |nil=>rfl
 |cons a l ih=>simp
noncomputable abbrev Fe (cs:List Int) (a b:He) (i n:Nat) (wd ty:Str) (pl:Int):List (Str×PV):=("folded",.str wd)::("told",.lst ((bX ty).map .bool))::l9 cs a b i n wd ty pl
theorem BS (L:Lx C f3){cs:List Int}{a b:He}{i n:Nat}{wd ty:Str}{pl:Int}(RT:ty.cps.size<=100)(hp:∀j:Nat,j < ty.cps.size->(bX ty).getD j false=((j:Int)==pl))(rm:ak A (k+1))(X:St C W SL own (aC (Fe cs a b i n wd ty pl)) env s)(B:Bs C Wt (λ_=>true) t own env s)
 (next:∀J,St C W SL own (aC (Fe cs a b i n wd ty pl)) env J->Bs C Wt (λ_=>true) t own env J->Hi C.M A (HA (ro 5) env) Q E J):
 Hi C.M A (HA (ro 4) env) Q E s:=by
 have L':=L.L
 have Qu:sizeLine=16777216:=rfl
 have Ti:ty.length=ty.cps.size:=rfl
 conv in ro _=>whnf
 with_reducible
  refine bH X B rm (Tr.conv (p:=(wd !=wd) || (false || false)) (Tr.or (Tr.cmp (by intros) (by intros) aj.FC Th.bool (by kernel_rfl!)) (λ_=>Tr.or (Tr.cmp (Ev.conv (p:= .lst (((aI 0 ty.length).filter λ_=>false).map id)) (fS.ev (oH (need:=false) (ps:=aI 0 ty.length) (f:=id) (b:=λ_=>false) (by with_unfolding_all exact⟨rfl,by done,by done⟩) (λx env=>by fail) (aX.cJ (n:=(ty.length:Int)) (by intros) (Ev.a5 (by intros) (by intros) (cC.o6 (by lia))) (by lia) (by simp) (λenv=>by fail)) ?sz ?step)) (by rw [filter_none])) (Ev.list ab.nil (by decide)) (aj.fz iA) Th.bool (by kernel_rfl!)) (λ_=>Tr.qA))) (by simp)) ?nx
 case sz=>simp [aI];lia
 case nx=>
  intro s1 X1 B1
  with_reducible have h9:=next _ X1 B1
  conv at h9 in ro _=>whnf
  with_reducible exact h9
 case step=>
  intro p UZ
  obtain⟨j,hj⟩:=JQ.mp UZ
  refine(el hj)▸?_
  have Sx:=er hj
  have hg:((bX ty).map PV.bool)[j]? =some (.bool ((bX ty).getD j false)):=by
   simp only [Hy,Hn (by rw [(by simp [bX]:(bX ty).length=ty.cps.size)];exact Sx:j < (bX ty).length),Hl];rfl
  rw [(hp j Sx)] at hg
  refine⟨_,bg.local (by rfl),by k_extra"u",?_,λe=>by cases e⟩
  with_reducible
   refine Tr.conv (p:=(((((j:Int)==pl)==true) !=((0+(j:Int))==pl)) || (((((j:Int)==pl)==false) !=((0+(j:Int)) !=pl)) || false))) (Tr.or (Tr.cmp (Ev.cmp (Ev.item (n:=j) (Ev.l (xs:=(bX ty).map .bool) (by intros)) (by intros) (by lia) hg (by lia) (λ_ _=>by fail)) (by intros) aj.Gr (by kernel_rfl!)) (Ev.cmp (by intros) (by intros) aj.DO (by kernel_rfl!)) aj.F8 Th.bool (by kernel_rfl!))
    (λ_=>Tr.or (Tr.cmp (Ev.cmp (Ev.item (n:=j) (Ev.l (xs:=(bX ty).map .bool) (by intros)) (by intros) (by lia) hg (by lia) (λ_ _=>by fail)) (by intros) aj.Gr (by kernel_rfl!)) (Ev.cmp (by intros) (by intros) aj.Ba (by kernel_rfl!)) aj.F8 Th.bool (by kernel_rfl!)) (λ_=>Tr.qA))) ?_
  refine((Kw _))▸?_
  cases hq:((j:Int)==pl) <;> simp [bne,hq]
noncomputable def cb (i:Nat):Str:=⟨#[("abcd":Str).cps.getD i 0]⟩
noncomputable def bitAt (c:Int) (i:Nat):Nat:=((c.fdiv (2 ^ i)).fmod 2).toNat
theorem fG (c:Int)(i:Nat):bitAt c i < 2/\((bitAt c i:Nat):Int)=(c.fdiv (2 ^ i)).fmod 2:=Bg (b:=2) _ (by decide)
noncomputable def two (e:Int×Int) (n:Nat):Int:=if n=0 then e.1 else e.2
theorem yu {e:Int×Int}{n:Nat}(h:n < 2):[PV.int e.1,.int e.2][n]? =some (.int (two e n)):=by
 rcases n with _ |_ |n
 ·rfl
 ·rfl
 ·lia
noncomputable abbrev zF (cs:List Int) (i n:Nat):PV:= .lst [.int n,.int (bitAt (cs.getD 1 0) i),.int (bitAt (cs.getD 2 0) i)]
noncomputable abbrev zl (cs:List Int) (i:Nat) (wd:Str):PV:= .tup [.str wd,.int (two (d6 cs) (bitAt (cs.getD 1 0) i)),.int (two (gF cs) (bitAt (cs.getD 2 0) i))]
theorem CM (L:Lx C f3){cs:List Int}{a b I:He}{ob:Ib}{od rd:List (Str×PV)}{i n:Nat}{wd ty:Str}{pl:Int}(hi:i < 4)(hc:cs.length=6)(hod:od.length<=100)(Yp:rd.length<=100)(Rl:a≠b)(SA:a≠I)(Zi:b≠I)(rm:ak A (k+1))
 (X:St C W SL [(I,.obj ob),(b,.au od),(a,.au rd)] (aC (Fe cs a b i n wd ty pl)) env s)(B:Bs C Wt (λ_=>true) t [(I,.obj ob),(b,.au od),(a,.au rd)] env s)
 (next:∀J,St C W SL [(I,.obj ob),(b,.au (putD od (cb i) (zF cs i n))),(a,.au (putD rd (cb i) (zl cs i wd)))] (aC (Fe cs a b i n wd ty pl)) env J->Bs C Wt (λ_=>true) t [(I,.obj ob),(b,.au (putD od (cb i) (zF cs i n))),(a,.au (putD rd (cb i) (zl cs i wd)))] env J->Hi C.M A (HA [] env) Q E J):
 Hi C.M A (HA (ro 5) env) Q E s:=by
 have Qu:sizeLine=16777216:=rfl
 have e0:((0:Int)+(i:Int)).toNat=i:=by simp
 have e1:((0:Int)+(i:Int))=(i:Int):=by lia
 obtain⟨p2,Ui⟩:=(by decide:∀j,j < 4->(2:Int) ^ j≠0/\((2:Int) ^ j).natAbs < 1073741824) i hi
 have b1:=fG (cs.getD 1 0) i
 have b2:=fG (cs.getD 2 0) i
 have g1:(cs.map PV.int)[1]? =some (.int (cs.getD 1 0)):=int_at (by simp_all)
 have g2:(cs.map PV.int)[2]? =some (.int (cs.getD 2 0)):=int_at (by simp_all)
 have Xs:("abcd":Str).cps[i]? =some (("abcd":Str).cps.getD i 0):=(by decide:∀j,j < 4->("abcd":Str).cps[j]? =some (("abcd":Str).cps.getD j 0)) i hi
 have vj:∀q r,aE [(I,PV.obj ob),(b,.au od),(a,.au r)] b q=[(I,.obj ob),(b,q),(a,.au r)]:=λq r=>by
  unfold aE;simp [H3 Zi,Rl]
 have Cf:∀q r,aE [(I,PV.obj ob),(b,q),(a,.au rd)] a r=[(I,.obj ob),(b,q),(a,r)]:=λq r=>by
  unfold aE;simp [H3 SA,H3 Rl]
 conv in ro _=>whnf
 with_reducible
  refine dy (es:=od) (x:=cb i) (p:=zF cs i n) X B rm (Ev.list (ab.cons (by intros) (ab.cons (Ev.conv (p:= .int (((cs.getD 1 0).fdiv (2 ^ i)).fmod 2)) (Ev.bin (Ev.bin (Ev.item (n:=1) (Ev.l (xs:=cs.map .int) (by intros)) (by intros) (by fail) g1 (by decide) (λ_ _=>by fail)) (Ev.conv (p:= .int (2 ^ ((0:Int)+(i:Int)).toNat)) (Ev.bin (by intros) (by intros) (aj.pow (by simp) (by lia) (by decide))) (by rw [e0])) (aj.floordiv p2 (HI Ui))) (by intros) (aj.mod (by decide))) (by rw [b1.2])) (ab.cons (Ev.conv (p:= .int (((cs.getD 2 0).fdiv (2 ^ i)).fmod 2)) (Ev.bin (Ev.bin (Ev.item (n:=2) (Ev.l (xs:=cs.map .int) (by intros)) (by intros) (by fail) g2 (by decide) (λ_ _=>by fail)) (Ev.conv (p:= .int (2 ^ ((0:Int)+(i:Int)).toNat)) (Ev.bin (by intros) (by intros) (aj.pow (by simp) (by lia) (by decide))) (by rw [e0])) (aj.floordiv p2 (HI Ui))) (by intros) (aj.mod (by decide))) (by rw [b2.2])) ab.nil))) (Hv (by fail))) (by intros) (Ev.conv (p:= .str ⟨#[("abcd":Str).cps.getD i 0]⟩) (Ev.yj (n:=i) (by intros) (by intros) e1 Xs (by lia) (λ_ _=>by fail)) (by fail)) (by simp) (by lia) (by fail) ?n1
 case n1=>
 intro s1 X1 B1
 rw [vj] at X1 B1
 with_reducible
  refine dy (es:=rd) (x:=cb i) (p:=zl cs i wd) X1 B1 rm (Ev.tuple (ab.cons (by intros) (ab.cons (Ev.b9 (n:=bitAt (cs.getD 1 0) i) (Ev.t (xs:=[.int (d6 cs).1,.int (d6 cs).2]) (by intros)) (Ev.bin (Ev.bin (Ev.item (n:=1) (Ev.l (xs:=cs.map .int) (by intros)) (by intros) (by fail) g1 (by decide) (λ_ _=>by fail)) (Ev.conv (p:= .int (2 ^ ((0:Int)+(i:Int)).toNat)) (Ev.bin (by intros) (by intros) (aj.pow (by simp) (by lia) (by decide))) (by rw [e0])) (aj.floordiv p2 (HI Ui))) (by intros) (aj.mod (by decide))) b1.2.symm (yu b1.1) (by lia) (λ_ _=>by fail)) (ab.cons (Ev.b9 (n:=bitAt (cs.getD 2 0) i) (Ev.t (xs:=[.int (gF cs).1,.int (gF cs).2]) (by intros)) (Ev.bin (Ev.bin (Ev.item (n:=2) (Ev.l (xs:=cs.map .int) (by intros)) (by intros) (by fail) g2 (by decide) (λ_ _=>by fail)) (Ev.conv (p:= .int (2 ^ ((0:Int)+(i:Int)).toNat)) (Ev.bin (by intros) (by intros) (aj.pow (by simp) (by lia) (by decide))) (by rw [e0])) (aj.floordiv p2 (HI Ui))) (by intros) (aj.mod (by decide))) b2.2.symm (yu b2.1) (by lia) (λ_ _=>by fail)) ab.nil))) (Hv (by fail))) (by intros) (Ev.conv (p:= .str ⟨#[("abcd":Str).cps.getD i 0]⟩) (Ev.yj (n:=i) (by intros) (by intros) e1 Xs (by lia) (λ_ _=>by fail)) (by fail)) ((λq=>by simp:∀q,(a,PV.au rd)∈([(I,.obj ob),(b,q),(a,.au rd)]:Own)) _) (by lia) (by fail) ?n2
 case n2=>
 intro s2 X2 B2
 rw [Cf] at X2 B2
 exact next _ X2 B2
noncomputable def ownAt (cs:List Int):Nat->List (Str×PV)
 |0=>[]
 |i+1=>putD (ownAt cs i) (cb i) (zF cs i (numAt (cs.getD 0 0) i))
noncomputable def rowAt (cs:List Int):Nat->List (Str×PV)
 |0=>[]
 |i+1=>putD (rowAt cs i) (cb i) (zl cs i (El cs i))
theorem sL (es:List (Str×PV))(x:Str)(p:PV):(putD es x p).length<=es.length+1:=by
 unfold putD
 split
 ·rw [Hb];simp
 ·rw [HT];exact Hk _
theorem vq (cs:List Int):∀i,(ownAt cs i).length<=i:=by
 intro i
 induction i with
 |zero=>exact Hk _
 |succ i ih=>exact Hf (sL _ _ _) (Kj ih)
theorem vf (cs:List Int):∀i,(rowAt cs i).length<=i:=by
 intro i
 induction i with
 |zero=>exact Hk _
 |succ i ih=>exact Hf (sL _ _ _) (Kj ih)
structure rf (f3:Int->Option Str)(cs:List Int):Prop where
 size:∀i < 4,(Bp cs i).cps.size<=100
 sum:∀i < 4,((fq f3 (Bp cs i)).map (·.length)).sum<=10000
 word:∀i < 4,KX "" (fq f3 (Bp cs i))=El cs i
 place:∀i < 4,∀j:Nat,j < (Bp cs i).cps.size->(bX (Bp cs i)).getD j false=((j:Int)==F0 cs i)
theorem FW (L:Lx C f3){cs:List Int}(T:rf f3 cs){a b:He}(Rl:a≠b)(hc:cs.length=6)(rm:ak A (k+1))
 (X:St C W SL [(b,.au []),(a,.au [])] (aC (l7 cs a b)) env s)(B:Bs C Wt (λ_=>true) t [(b,.au []),(a,.au [])] env s)
 (next:∀J,St C W SL [(b,.au (ownAt cs 4)),(a,.au (rowAt cs 4))] (aC (l7 cs a b)) env J->Bs C Wt (λ_=>true) t [(b,.au (ownAt cs 4)),(a,.au (rowAt cs 4))] env J->Hi C.M A (HA (aK 10) env) Q E J):
 Hi C.M A (HA (aK 9) env) Q E s:=by
 have L':=L.L
 conv in aK _=>whnf
 with_reducible
  refine a7 (need:=false) (k:=k+1) (ps:=aI 0 4) X B rm ?it (λi=>[(b,.au (ownAt cs i)),(a,.au (rowAt cs i))]) (λ_=>aC (l7 cs a b)) (λi=>upd (aC (l7 cs a b)) "k" (.int ((0:Int)+(i:Int)))) (by fail) (by fail) (λ_=>by fail) (λ_=>False) ?Qs ?turn (λ_ _ _ h=>h.elim) ?done (λx=>by fail)
 case it=>exact aX.cJ (n:=4) (by intros) (by intros) (by decide) (by decide) (λenv=>by fail)
 case Qs=>
  intro i p hp
  refine(el hp)▸?_
  exact bg.cell (by rfl) rfl
 case turn=>
  intro I ob i p t' QF s1 hI hp X1 B1
  have hi:=er hp
  have fin:=BV (Q:=λf P9=>match f with
   | .next | .cont=>St C (I::W) SL ((I,.obj ob)::[(b,.au (ownAt cs (i+1))),(a,.au (rowAt cs (i+1)))]) (aC (l7 cs a b)) env P9/\Bs C QF (λ_=>true) t' ((I,.obj ob)::[(b,.au (ownAt cs (i+1))),(a,.au (rowAt cs (i+1)))]) env P9
   | .brk=>False
   | .ret v=>∃p own' Qa,False/\Rr C (I::W) P9.heap v p/\St C (I::W) SL own' Qa env P9/\Bs C QF (λ_=>true) t' own' env P9) (E:=λ_ _=>False) L hi hc rm (X1.to (l:=("k",.int ((0:Int)+(i:Int)))::l7 cs a b) (by k_extra"rs")) B1 λs2 X3 B2=>
   C6 L (T.size i hi) (T.sum i hi) rm X3 B2 λs3 X4 B3=>by
    rw [T.word i hi] at X4
    refine BS L (T.size i hi) (T.place i hi) rm X4 B3 λs4 X5 B4=> ?_
    refine CM L hi hc (by have:=vq cs i;omega) (by have:=vf cs i;omega) Rl (hI (a,_) (j' _ f')) (hI (b,_) f') rm X5 B4 λs5 X6 B5=> ?_
    exact Hq ⟨X6.to (by k_extra"rs"),B5⟩
  conv at fin in ro _=>whnf
  exact fin
 case done=>
  intro s1 X1 B1
  have h9:=next _ X1 B1
  conv at h9 in aK _=>whnf
  exact h9
def Plain (p:PV):Prop:=∀f,res f p=p
theorem mF {es:List (Str×PV)}{x:Str}{p:PV}(h:∀e∈es,Plain e.2)(hp:Plain p):∀e∈putD es x p,Plain e.2:=λe he=>by
 unfold putD at he
 split at he
 ·refine ae (Hd.mp he) λe' h1 P8=> ?_;subst P8
  split
  ·exact hp
  ·exact h _ h1
 ·rcases HP.mp he with he |he
  ·exact h e he
  ·rw [Hm.mp he];exact hp
theorem tX (cs:List Int):∀i,∀e∈ownAt cs i,Plain e.2:=by
 intro i
 induction i with
 |zero=>exact λ_ h=>nomatch h
 |succ i ih=>exact mF ih λ_=>rfl
theorem uQ (cs:List Int):∀i,∀e∈rowAt cs i,Plain e.2:=by
 intro i
 induction i with
 |zero=>exact λ_ h=>nomatch h
 |succ i ih=>exact mF ih λ_=>rfl
theorem dY {f:He->Option PV}{es:List (Str×PV)}(h:∀e∈es,Plain e.2):gZ f es=es:=by
 rw [v7]
 refine(Ik λe he=> ?_).trans (LY _)
 show (e.1,res f e.2)=e
 rw [h e he]
theorem eP {f:He->Option PV}{l:List PV}(h:∀p∈l,Plain p):dB f l=l:=jN λp hp=>h p hp f
theorem Plain.ints {l:List Int}:Plain (.lst (l.map .int)):=λf=>by
 rw [vR,eP]
 intro p hp g
 refine ae (Hd.mp hp) λx _ P8=> ?_;subst P8
 rfl
theorem hX {own:Own}{a:He}{es:List (Str×PV)}{n:Nat}(h:own.lookup a=some (.au es)):res (bG own (n+1)) (.raw (.ref a))= .au (gZ (bG own n) es):=by
 simp only [jU]
 rw [gu,h]
 rfl
noncomputable def aF (cs:List Int) (i:Nat):List Int:=[numAt (cs.getD 0 0) i,bitAt (cs.getD 1 0) i,bitAt (cs.getD 2 0) i]
noncomputable def jk (cs:List Int) (i:Nat):List Cl:=[.s (El cs i),.i (two (d6 cs) (bitAt (cs.getD 1 0) i)),.i (two (gF cs) (bitAt (cs.getD 2 0) i))]
noncomputable def mP (cs:List Int):List (Str×PV):=(Hg 4).map λi=>(cb i,.lst ((aF cs i).map .int))
noncomputable def o5 (cs:List Int):List (Str×PV):=(Hg 4).map λi=>(cb i,fk (jk cs i))
theorem m9 (f:Nat->PV):putD (putD (putD (putD [] (cb 0) (f 0)) (cb 1) (f 1)) (cb 2) (f 2)) (cb 3) (f 3)=(Hg 4).map λi=>(cb i,f i):=by fail
theorem xQ (cs:List Int):ownAt cs 4=mP cs:=m9 λi=> .lst ((aF cs i).map .int)
theorem vP (cs:List Int):rowAt cs 4=o5 cs:=m9 λi=>fk (jk cs i)
theorem sH {α:Type}(f:Nat->α):∀i,i < 4->((Hg 4).map λi=>(cb i,f i)).lookup (cb i)=some (f i)
 |0,_=>rfl
 |1,_=>rfl
 |2,_=>rfl
 |3,_=>rfl
 |i+4,h=>absurd h (by simp)
theorem aB {n:Nat}{x:Str}{p:PV}(h:ρ x=some p)(hp:Plain p):(λx=>(ρ x).map (res (bG own n))) x=some p:=aV h (hp _)
noncomputable abbrev BF (cs:List Int):List (Str×PV):=("own",.au (mP cs))::("rows",.au (o5 cs))::l5 cs
theorem xl {cs:List Int}{a b:He}(Rl:a≠b)(X:St C W SL [(b,.au (ownAt cs 4)),(a,.au (rowAt cs 4))] (aC (l7 cs a b)) env s):
 ∃W',St C W' SL [] (aC (BF cs)) env s:=
 ⟨_,(X.settle 1).to (l:=BF cs) (aD (aV (p:= .raw (.ref b)) (by k_extra"r") (by rw [hX (es:=ownAt cs 4) (by simp),dY (tX cs 4),xQ]))
  (aD (aV (p:= .raw (.ref a)) (by k_extra"r") (by rw [hX (es:=rowAt cs 4) (by simp [Hr,HQ Rl]),dY (uQ cs 4),vP]))
  (aD (aB (by k_extra"r") (λ_=>rfl)) (aD (aB (by k_extra"r") (λ_=>rfl)) (aD (aB (by k_extra"r") Plain.ints) (aD (aB (by k_extra"r") (λ_=>rfl)) (aD (aB (by k_extra"r") Plain.ints) (aD (aB (by k_extra"r") Plain.ints) jK))))))))⟩
set_option maxRecDepth 100000
theorem Bo {elt t1 i1 t2 i2 c:Expr}(ok:fb scope sc)(X0:∀x env,H4 i1 env x=pure x)(Uh:∀x env,H4 i2 env x=pure x)
 {l:List α}{g:α->PV}(qs:α->List β)(h:α->β->PV)(f:α->β->PV)(b:α->β->Bool)
 (hi:aX C k sc own ρ i1 (l.map g))(hz:(l.flatMap λa=>(qs a).map (f a)).length<=sizeLine)
 (step:∀a∈l,∃P7,bg C (dT scope sc) (bD scope) (bA scope ρ) t1 (g a) P7/\(∀y q,bA scope ρ y=some q->P7 y=some q)/\aX C k (dT scope sc) [] P7 i2 ((qs a).map (h a))/\
  ∀q∈qs a,∃Q3,bg C (dT scope sc) (bD scope) P7 t2 (h a q) Q3/\(∀y r,P7 y=some r->Q3 y=some r)/\Tr C k (dT scope sc) [] Q3 c (b a q)/\(b a q=true->Ev C k (dT scope sc) [] Q3 elt (f a q))):
 fS C k sc own ρ elt [⟨t1,i1,[],0⟩,⟨t2,i2,[c],0⟩] scope pos (.lst (l.flatMap λa=>((qs a).filter (b a)).map (f a))):=
 r8 _ (λit D env=>C3) ok X0 (λi=> .lst ((l.take i).flatMap λa=>((qs a).filter (b a)).map (f a))) (by rfl) (by simp) hi λi p hp=>by
  refine ae (c4 hp) λa ha P8=> ?_;subst P8
  refine rz (step a (HX ha)) λP7 h1 h2 h3 h4=> ?_
  refine⟨P7,true,h1,tZ.nil,?_⟩
  have Qx:((l.take (i+1)).flatMap λa=>((qs a).filter (b a)).map (f a))=((l.take i).flatMap λa=>((qs a).filter (b a)).map (f a)) ++ ((qs a).filter (b a)).map (f a):=by
   simp only [take_snoc ha,NR];simp
  have Wl:∀l':List α,(l'.flatMap λa=>((qs a).filter (b a)).map (f a)).length<=(l'.flatMap λa=>(qs a).map (f a)).length:=λl'=>by
   induction l' with
   |nil=>exact Hk _
   |cons x l' ih=>
    simp only [List.flatMap_cons,HT,Hb]
    exact NG (II _ _) ih
  have hle:((l.take (i+1)).flatMap λa=>((qs a).filter (b a)).map (f a)).length<=sizeLine:=by
   refine Hf (Wl _) (Hf ?_ hz)
   conv=>rhs;rw [<-Jr (i+1) l]
   simp only [NR,HT]
   exact H6 _ _
  refine xC (.inl ⟨_,_,_,_,rfl⟩) (jz elt) rfl (λit D env=>yU) Uh (λj=> .lst (((l.take i).flatMap λa=>((qs a).filter (b a)).map (f a)) ++ (((qs a).take j).filter (b a)).map (f a))) (by simp) (by simp only [Qx];simp) h3 (λh=>by cases h) h2 λj q hq=> ?_
  refine ae (c4 hq) λy hy P8=> ?_;subst P8
  refine rz (h4 y (HX hy)) λQ3 g1 g2 g3 g4=> ?_
  refine⟨Q3,b a y,g1,tZ.one g3,?_⟩
  have e:=HV (PF (b a)) (take_snoc hy)
  simp only [Mp] at e
  cases hb:b a y with
  |true=>
   rw [HE rfl]
   show ja _ _ _ _ _ (kW _) _ (kW (.lst (((l.take i).flatMap λa=>((qs a).filter (b a)).map (f a)) ++ (((qs a).take (j+1)).filter (b a)).map (f a)))) _
   rw [e,(by simp [hb]:[y].filter (b a)=[y]),HC,<-IP]
   refine jP (g4 hb) g2 ?_
   refine Hf ?_ hle
   simp only [Qx,HT,Hb]
   exact Nat.add_le_add_left (((KJ _ _).filter _).length_le) _
  |false=>
   rw [Hz (by decide)]
   refine⟨g2,λp s hp=> ?_⟩
   show p=_
   simp only [e,(by simp [hb]:[y].filter (b a)=[]),Jc]
   exact hp
set_option maxRecDepth 4000
noncomputable def nk:List Str:=[s1 97,s1 98,s1 99,s1 100]
noncomputable def dA (x y:Str):Bool:=decide (x.cps.toList < y.cps.toList)
noncomputable def ee:List (Str×Str):=[(s1 97,s1 98),(s1 97,s1 99),(s1 97,s1 100),(s1 98,s1 99),(s1 98,s1 100),(s1 99,s1 100)]
noncomputable abbrev fI (e:Str×Str):PV:= .tup [.str e.1,.str e.2]
theorem wq:(nk.flatMap λx=>((nk.filter (dA x)).map λy=>PV.tup [.str x,.str y]))=ee.map fI:=by fail
theorem ie {x:Expr}(h:Ev C k sc own ρ x (.str "abcd")):aX C k sc own ρ x (nk.map .str):=aX.str h (by decide)
theorem EK (L:Lx C f3){cs:List Int}(rm:ak A (k+1))(X:St C W SL [] (aC (BF cs)) env s)(B:Bs C Wt (λ_=>true) t [] env s)
 (next:∀a J,St C (a::W) SL [(a,.lst [])] (aC (("answers",.raw (.ref a))::("pairs",.lst (ee.map fI))::BF cs)) env J->Bs C Wt (λ_=>true) t [(a,.lst [])] env J->Hi C.M A (HA (aK 12) env) Q E J):
 Hi C.M A (HA (aK 10) env) Q E s:=by
 conv in aK _=>whnf
 with_reducible
  refine a8 (p:= .lst (ee.map fI)) X B rm (Ev.conv (fS.ev (Bo (l:=nk) (g:=PV.str) (by with_unfolding_all exact⟨rfl,by done,by done⟩) (λx env=>by fail) (λx env=>by fail) (λ_=>nk) (λ_ y=>PV.str y) (λx y=>PV.tup [.str x,.str y]) dA (ie Ev.str) (by decide) ?step)) (HV PV.lst wq)) (by done) (by fail) (cz X (by done)) ?nx
 case step=>
  intro x hx
  refine⟨_,bg.local (by done),by k_extra"u",ie Ev.str,λy hy=>⟨_,bg.local (by done),wH (le_refl _) (n8 (by done) (j5 (by done))),?_,λ_=> ?_⟩⟩
  ·with_reducible exact Tr.cmp (by intros) (by intros) aj.dA Th.bool (by decide+kernel)
  ·intros
 case nx=>
 intro s1 X1 B1
 with_reducible refine dX (p:= .lst []) (X1.to (l:=("pairs",.lst (ee.map fI))::BF cs) (by k_extra"rs")) B1 rm (kA.list (by intros) (by intros)) (by done) (by fail) ?_
 intro a s2 Rv X2 B2
 with_reducible have h9:=next a _ (X2.to (by k_extra"rs")) B2
 conv at h9 in aK _=>whnf
 with_reducible exact h9
noncomputable abbrev fX (n:Nat):List I9:=Ky n (cI (ay tb 18) 12)
noncomputable def yx (c:Int) (j:Nat):Bool:=(c.fdiv (2 ^ j)).fmod 2==1
noncomputable def cp (cs:List Int) (c:Int):List (Nat×Int):=((Hg 3).filter (yx c)).map λj=>(j,cn cs j)
noncomputable abbrev rJ (e:Nat×Int):PV:= .tup [.int e.1,.int e.2]
noncomputable abbrev wb (cs:List Int) (a:He):List (Str×PV):=("answers",.raw (.ref a))::("pairs",.lst (ee.map fI))::BF cs
theorem Ao (L:Lx C f3){cs:List Int}{a:He}{i:Nat}(rm:ak A (k+1))(X:St C W SL own (aC (("chosen",.int ((0:Int)+(i:Int)))::wb cs a)) env s)(B:Bs C Wt (λ_=>true) t own env s)
 (next:∀J,St C W SL own (aC (("keys",.lst ((cp cs i).map rJ))::("chosen",.int ((0:Int)+(i:Int)))::wb cs a)) env J->Bs C Wt (λ_=>true) t own env J->Hi C.M A (HA (fX 1) env) Q E J):
 Hi C.M A (HA (fX 0) env) Q E s:=by
 have L':=L.L
 have hk:((Hg 3).filter (yx i)).map (λ(j:Nat)=>PV.tup [.int ((0:Int)+(j:Int)),.int (cn cs j)])=(cp cs i).map rJ:=by
  unfold cp
  simp only [HB]
  refine Ik λj _=> ?_
  show PV.tup [.int ((0:Int)+(j:Int)),.int (cn cs j)]= .tup [.int (j:Int),.int (cn cs j)]
  rw [Kw]
 have hy:(gI cs).length=3:=rfl
 conv in fX _=>whnf
 with_reducible
  refine a8 (p:= .lst ((cp cs i).map rJ)) X B rm (Ev.conv (fS.ev (bI (need:=false) (l:=Hg 3) (g:=λ(i:Nat)=> .int ((0:Int)+(i:Int))) (by with_unfolding_all exact⟨rfl,by done,by done⟩) (λx env=>by fail) (λ(j:Nat)=>PV.tup [.int ((0:Int)+(j:Int)),.int (cn cs j)]) (yx i) ?it (by decide) ?step)) (HV PV.lst hk)) (by done) (by fail) (cz X (by done)) ?nx
 case it=>exact aX.cJ (n:=3) (by intros) (by intros) (by decide) (by decide) (λenv=>by fail)
 case step=>
  intro j hj
  have Tt:j < 3:=HN.mp hj
  have e0:((0:Int)+(j:Int)).toNat=j:=by simp
  obtain⟨p2,Ui⟩:=(by decide:∀j,j < 3->(2:Int) ^ j≠0/\((2:Int) ^ j).natAbs < 1073741824) j Tt
  have hg:((gI cs).map PV.int)[j]? =some (.int (cn cs j)):=by
   rw [int_at (by assumption)]
   have:(gI cs).getD j 0=cn cs j:=by
    unfold gI
    simp only [Hl,Hy,ID Tt];rfl
   rw [this]
  refine⟨_,bg.local (by done),by k_extra"u",?_,λ_=> ?_⟩
  ·have hb:yx i j=((((0:Int)+(i:Int)).fdiv (2 ^ ((0:Int)+(j:Int)).toNat)).fmod 2==1):=by rw [(by lia:((0:Int)+(i:Int))=(i:Int)),e0];rfl
   simp only [hb]
   with_reducible refine Tr.cmp (Ev.bin (Ev.bin (by intros) (Ev.bin (by intros) (by intros) (aj.pow (by simp) (by lia) (by decide))) (aj.floordiv (by rw [e0];exact p2) (HI (by rw [e0];exact Ui)))) (by intros) (aj.mod (by decide))) (by intros) aj.DO Th.bool (by decide+kernel)
  ·with_reducible refine Ev.tuple (ab.cons (by intros) (ab.cons (Ev.item (n:=j) (Ev.l (xs:=(gI cs).map .int) (by intros)) (by intros) (by lia) hg (by lia) (λ_ _=>by fail)) ab.nil)) (Hv (by fail))
 case nx=>
 intro s1 X1 B1
 with_reducible have h9:=next _ (X1.to (by k_extra"rs")) B1
 conv at h9 in fX _=>whnf
 with_reducible exact h9
theorem yW (L:Lx C f3)(T:Tc C){cs:List Int}{a:He}{i:Nat}(rm:ak A (k+2))(X:St C W SL own (aC (("keys",.lst ((cp cs i).map rJ))::("chosen",.int ((0:Int)+(i:Int)))::wb cs a)) env s)(B:Bs C Wt (λ_=>true) t own env s)
 (next:∀J,St C W SL own (aC (("judge",jd (.lst ((cp cs i).map rJ)))::("keys",.lst ((cp cs i).map rJ))::("chosen",.int ((0:Int)+(i:Int)))::wb cs a)) env J->Bs C Wt (λ_=>true) t own env J->Hi C.M A (HA (fX 2) env) Q E J):
 Hi C.M A (HA (fX 1) env) Q E s:=by
 have L':=L.L
 conv in fX _=>whnf
 with_reducible
  refine a8 (p:=jd (.lst ((cp cs i).map rJ))) X B rm (Ev.BQ L'.ok T ?f ?a (λenv=>by fail)) (by done) (by fail) (by fail) ?nx
 case f=>intros
 case a=>intros
 case nx=>
 intro s1 X1 B1
 with_reducible have h9:=next _ (X1.to (by k_extra"rs")) B1
 conv at h9 in fX _=>whnf
 with_reducible exact h9
noncomputable def dI:List (Nat×Nat):=[(0,1),(0,2),(0,3),(1,2),(1,3),(2,3),(1,0),(2,2)]
noncomputable abbrev jg (e:Nat×Nat):PV:= .tup [.str (cb e.1),.str (cb e.2)]
theorem BG:ee.map fI ++ [.tup [.str "b",.str "a"],.tup [.str "c",.str "c"]]=dI.map jg:=by fail
theorem oI:∀e∈dI,e.1 < 4/\e.2 < 4:=by decide
noncomputable def cU (o p:List Int) (ks:List (Nat×Int)):List Int:=(ks.filter λe=>o.getD e.1 0 !=p.getD e.1 0).map λe=>if p.getD e.1 0 < o.getD e.1 0 then e.2 else -e.2
noncomputable def dg (cs:List Int) (c:Nat) (e:Nat×Nat):Int:=(cU (aF cs e.1) (aF cs e.2) (cp cs c)).headD 0
theorem hV (cs:List Int)(c:Int):∀e∈cp cs c,e.1 < 3:=λe he=>by
 unfold cp at he
 refine ae (Hd.mp he) λj hj P8=> ?_;subst P8
 exact HN.mp (HU.mp hj).1
theorem jS (cs:List Int)(c:Int):(cp cs c).length<=3:=by
 unfold cp
 rw [Hb]
 exact II _ _
theorem t7 (cs:List Int)(i j:Nat):∀c,c < 3->((jk cs i).getD c default).AE ((jk cs j).getD c default)=true
 |0,_=>rfl
 |1,_=>rfl
 |2,_=>rfl
 |c+3,h=>absurd h (by simp)
theorem Aw:∀a:Fin 6,∀b:Fin 6,decide ((wordAt a.1 0).cps.toList < (wordAt b.1 0).cps.toList)=decide (a.1 < b.1):=by decide+kernel
theorem vZ {e:Int×Int}(h:e.1 < e.2){a b:Nat}(ha:a < 2)(hb:b < 2):decide (two e a < two e b)=decide (a < b):=by
 rw [decide_eq_decide]
 unfold two
 rcases a with _ |_ |a <;> rcases b with _ |_ |b <;> simp <;> lia
theorem x7 (cs:List Int):(d6 cs).1 < (d6 cs).2:=
 (by decide+kernel:∀i,i < 4->(mI.getD i (0,0)).1 < (mI.getD i (0,0)).2) _ (iw _).1
theorem zr (cs:List Int):(gF cs).1 < (gF cs).2:=
 (by decide+kernel:∀i,i < 4->(qB.getD i (0,0)).1 < (qB.getD i (0,0)).2) _ (iw _).1
theorem sU (cs:List Int)(i j:Nat):∀c,c < 3->((jk cs i).getD c default).lt ((jk cs j).getD c default)=decide ((aF cs i).getD c 0 < (aF cs j).getD c 0)
 |0,_=>by
  show decide ((wordAt _ 0).cps.toList < (wordAt _ 0).cps.toList)=decide (((numAt (cs.getD 0 0) i:Nat):Int) < (numAt (cs.getD 0 0) j:Nat))
  rw [(Aw ⟨numAt (cs.getD 0 0) i,(jq _ _).1⟩ ⟨numAt (cs.getD 0 0) j,(jq _ _).1⟩),decide_eq_decide]
  exact Oj.symm
 |1,_=>by
  show decide (two (d6 cs) _ < two (d6 cs) _)=decide (((bitAt (cs.getD 1 0) i:Nat):Int) < (bitAt (cs.getD 1 0) j:Nat))
  rw [vZ (x7 cs) (fG _ _).1 (fG _ _).1,decide_eq_decide]
  exact Oj.symm
 |2,_=>by
  show decide (two (gF cs) _ < two (gF cs) _)=decide (((bitAt (cs.getD 2 0) i:Nat):Int) < (bitAt (cs.getD 2 0) j:Nat))
  rw [vZ (zr cs) (fG _ _).1 (fG _ _).1,decide_eq_decide]
  exact Oj.symm
 |c+3,h=>absurd h (by simp)
theorem rF (cs:List Int)(i j:Nat):∀ks:List (Nat×Int),(∀e∈ks,e.1 < 3)->kO (jk cs i) (jk cs j) ks=(cU (aF cs i) (aF cs j) ks).headD 0:=by
 intro q0
 induction q0 with
 |nil=>
  intro _
  exact rfl
 |cons q1 ks ih=>
  obtain⟨c,d⟩:=q1
  intro h
  have hc:c < 3:=h (c,d) f'
  simp only [z7,z6,sU cs i j c hc,sU cs j i c hc,(ih λe he=>h e (j' _ he))]
  unfold cU
  rw [Jw]
  show _=(PM _ (if((aF cs i).getD c 0 !=(aF cs j).getD c 0)=true then(c,d)::_ else _)).headD 0
  by_cases q1:(aF cs i).getD c 0 < (aF cs j).getD c 0
  ·have e1:((aF cs i).getD c 0 !=(aF cs j).getD c 0)=true:=bne_iff_ne.mpr (by exact Nf q1)
   rw [HE e1,HS q1,HE rfl,Hw,L9]
   exact(Hz (by show ¬(aF cs j).getD c 0 < (aF cs i).getD c 0;exact Int.lt_asymm q1)).symm
  ·rw [H2 q1,Hz Ii]
   by_cases q2:(aF cs j).getD c 0 < (aF cs i).getD c 0
   ·have e1:((aF cs i).getD c 0 !=(aF cs j).getD c 0)=true:=bne_iff_ne.mpr (by exact H3 (Nf q2))
    rw [HE e1,HS q2,HE rfl,Hw,L9]
    exact(HE q2).symm
   ·have e1:((aF cs i).getD c 0 !=(aF cs j).getD c 0)=false:=bne_eq_false_iff_eq.mpr (by lia)
    rw [H2 q2,Hz Ii,Hz (by rw [e1];exact Ii)]
theorem ju (cs:List Int)(i:Nat){c:Nat}(h:c < 3):((aF cs i).map PV.int)[c]? =some (.int ((aF cs i).getD c 0)):=int_at h
theorem si (cs:List Int){i:Nat}(h:i < 4):(o5 cs).lookup (cb i)=some (fk (jk cs i)):=sH (λi=>fk (jk cs i)) i h
theorem mA (cs:List Int){i:Nat}(h:i < 4):(mP cs).lookup (cb i)=some (.lst ((aF cs i).map .int)):=sH (λi=>PV.lst ((aF cs i).map .int)) i h
noncomputable def cw (cs:List Int) (c:Nat):List Int:=dI.map (dg cs c)
noncomputable abbrev EW (cs:List Int) (a:He) (i:Nat):List (Str×PV):=("judge",jd (.lst ((cp cs i).map gN)))::("keys",.lst ((cp cs i).map gN))::("chosen",.int ((0:Int)+(i:Int)))::wb cs a
theorem wV {ρ:bP}{e:Expr}(h:Ev C k sc own ρ e (.lst (ee.map fI ++ [.tup [.str "b",.str "a"],.tup [.str "c",.str "c"]]))):aX C k sc own ρ e (dI.map jg):=aX.lst (Ev.conv h (HV PV.lst BG)) (by decide)
theorem zx (L:Lx C f3)(T:Tc C){cs:List Int}{a:He}{i:Nat}(rm:ak A (k+1))(X:St C W SL own (aC (EW cs a i)) env s)(B:Bs C Wt (λ_=>true) t own env s)
 (next:∀J,St C W SL own (aC (("told",.lst ((cw cs i).map .int))::EW cs a i)) env J->Bs C Wt (λ_=>true) t own env J->Hi C.M A (HA (fX 3) env) Q E J):
 Hi C.M A (HA (fX 2) env) Q E s:=by
 have V1:dI.map (λe=>PV.int (dg cs i e))=(cw cs i).map .int:=rfl
 have S8:∀e:Nat×Nat,aO C (k+1) [] (.ref 35) [jd (.lst ((cp cs i).map gN)),fk (jk cs e.1),fk (jk cs e.2)] [] (.int (dg cs i e)):=λe=>by
  have h:=yV (k:=k) (own:=[]) L.L.ok T (L:=jk cs e.1) (R:=jk cs e.2) (λe' he=>⟨hV cs i e' he,hV cs i e' he,t7 cs e.1 e.2 e'.1 (hV cs i e' he)⟩) (by show 3<=1000;decide) (by show 3<=1000;decide) (Hf (jS cs i) (by decide))
  simp only [rF cs e.1 e.2 _ (hV cs i)] at h
  exact h
 conv in fX _=>whnf
 with_reducible
  refine a8 (p:= .lst ((cw cs i).map .int)) X B rm (Ev.conv (fS.ev (c9 (need:=false) (l:=dI) (g:=jg) (by with_unfolding_all exact⟨rfl,by done,by done⟩) (λx env=>by fail) (λe=>PV.int (dg cs i e)) (wV (Ev.bin (p:= .lst (ee.map fI)) (q:= .lst [.tup [.str "b",.str "a"],.tup [.str "c",.str "c"]]) ?p1 ?p2 (aj.uM ?p3))) (by decide) ?step)) (HV PV.lst V1)) (by done) (by fail) (cz X (by done)) ?nx
 case p3=>decide
 case step=>
  intro e he
  refine⟨_,bg.tuple (bE.cons (bg.local (by done)) (bE.cons (bg.local (by done)) bE.nil (λenv=>by fail)) (λenv=>by fail)) (λenv=>by with_unfolding_all exact⟨rfl,rfl⟩),by k_extra"u",?_⟩
  with_reducible
   refine Ev.ER T.k ?j (ab.cons (Ev.bh (x:=cb e.1) (es:=o5 cs) (Ev.d ?d1) ?d2 (si cs (oI e he).1) (λ_ _=>by fail)) (ab.cons (Ev.bh (x:=cb e.2) (es:=o5 cs) (Ev.d ?d3) ?d4 (si cs (oI e he).2) (λ_ _=>by fail)) ab.nil)) T.cmp.fo (S8 e) (λenv=>by fail) (λenv=>by fail) (by fail) (λenv=>⟨_,_,by fail⟩)
  all_goals with_reducible intros
 case nx=>
  intro s1 X1 B1
  with_reducible have h9:=next _ (X1.to (by k_extra"rs")) B1
  conv at h9 in fX _=>whnf
  with_reducible exact h9
 all_goals with_reducible intros
noncomputable def Cq (o p:List Int) (e:Nat×Int):PV:= .int (if p.getD e.1 0 < o.getD e.1 0 then e.2 else -e.2)
theorem zR (L:Lx C f3){cs:List Int}{a:He}{i:Nat}(rm:ak A (k+1))(X:St C W SL own (aC (("told",.lst ((cw cs i).map .int))::EW cs a i)) env s)(B:Bs C Wt (λ_=>true) t own env s)
 (next:∀J,St C W SL own (aC (("due",.lst ((cw cs i).map .int))::("told",.lst ((cw cs i).map .int))::EW cs a i)) env J->Bs C Wt (λ_=>true) t own env J->Hi C.M A (HA (fX 4) env) Q E J):
 Hi C.M A (HA (fX 3) env) Q E s:=by
 have Qu:sizeLine=16777216:=rfl
 have V1:dI.map (λe=>PV.int (dg cs i e))=(cw cs i).map .int:=rfl
 have RX:(cp cs i).length<=sizeLine:=Hf (jS cs i) (by decide)
 have ZK:∀o p:List Int,((cp cs i).filter λe=>o.getD e.1 0 !=p.getD e.1 0).map (Cq o p)=(cU o p (cp cs i)).map .int:=λo p=>by unfold cU;simp only [HB];rfl
 have hle:∀o p:List Int,((cU o p (cp cs i)).map PV.int).length+1<=sizeLine:=λo p=>by
  have:=jS cs i
  have h2:(cU o p (cp cs i)).length<=(cp cs i).length:=by
   unfold cU
   rw [Hb]
   exact II _ _
  rw [Hb]
  lia
 have Ro:∀e:Nat×Nat,((cU (aF cs e.1) (aF cs e.2) (cp cs i)).map PV.int ++ [.int 0])[0]? =some (.int (dg cs i e)):=λe=>by
  unfold dg
  cases cU (aF cs e.1) (aF cs e.2) (cp cs i) <;> rfl
 conv in fX _=>whnf
 with_reducible
  refine fS.assign (p:= .lst (dI.map λe=>PV.int (dg cs i e))) (c9 (need:=false) (l:=dI) (g:=jg) (by with_unfolding_all exact⟨rfl,by done,by done⟩) (λx env=>by fail) (λe=>PV.int (dg cs i e)) (wV (Ev.bin (p:= .lst (ee.map fI)) (q:= .lst [.tup [.str "b",.str "a"],.tup [.str "c",.str "c"]]) ?p1 ?p2 (aj.uM ?p3))) (by decide) ?step) X B rm (bg.local (by done)) (sP X (by done) (by done) (by fail) (by done)) ?nx
 case p3=>decide
 case step=>
  intro e he
  have o1:=mA cs (oI e he).1
  have o2:=mA cs (oI e he).2
  refine⟨_,bg.tuple (bE.cons (bg.cell (by done) (by fail)) (bE.cons (bg.cell (by done) (by fail)) bE.nil (λenv=>by fail)) (λenv=>by fail)) (λenv=>by with_unfolding_all exact⟨rfl,rfl⟩),by k_extra"u",?_⟩
  with_reducible
   refine Ev.item (n:=0) (Ev.l (Ev.bin (p:= .lst ((cU (aF cs e.1) (aF cs e.2) (cp cs i)).map PV.int)) (q:= .lst [.int 0]) (Ev.conv (fS.ev (bI (need:=false) (l:=cp cs i) (g:=gN) (by with_unfolding_all exact⟨rfl,by done,by done⟩) (λx env=>by fail) (Cq (aF cs e.1) (aF cs e.2)) (λe'=>(aF cs e.1).getD e'.1 0 !=(aF cs e.2).getD e'.1 0) (aX.lst ?kk (by rw [Hb];exact RX)) RX ?st2)) (HV PV.lst (ZK _ _))) ?g3 (aj.uM (hle _ _)))) Ev.int (by fail) (Ro e) (by decide) (λ_ _=>by fail)
  case st2=>
   rintro⟨c,d⟩ R0
   have hc:c < 3:=hV cs i _ R0
   have g1:=ju cs e.1 hc
   have g2:=ju cs e.2 hc
   refine⟨_,bg.tuple (bE.cons (bg.local (by done)) (bE.cons (bg.local (by done)) bE.nil (λenv=>by fail)) (λenv=>by fail)) (λenv=>by with_unfolding_all exact⟨rfl,rfl⟩),by k_extra"u",?_,λ_=> ?_⟩
   ·with_reducible
     refine Tr.cmp (Ev.item (n:=c) (Ev.l (xs:=(aF cs e.1).map .int) (Ev.bh (x:=cb e.1) (es:=mP cs) (Ev.d ?a1) ?a2 o1 (λ_ _=>by fail))) ?a3 (by fail) g1 (by lia) (λ_ _=>by fail)) (Ev.item (n:=c) (Ev.l (xs:=(aF cs e.2).map .int) (Ev.bh (x:=cb e.2) (es:=mP cs) (Ev.d ?b1) ?b2 o2 (λ_ _=>by fail))) ?b3 (by fail) g2 (by lia) (λ_ _=>by fail)) aj.Ba Th.bool (by decide+kernel)
    all_goals with_reducible intros
   ·have e1:Cq (aF cs e.1) (aF cs e.2) (c,d)= .int (if decide ((aF cs e.2).getD c 0 < (aF cs e.1).getD c 0)=true then d else -d):=HV PV.int (by simp only [Iz])
    rw [e1]
    with_reducible
     refine Ev.lC (Tr.cmp (Ev.item (n:=c) (Ev.l (xs:=(aF cs e.1).map .int) (Ev.bh (x:=cb e.1) (es:=mP cs) (Ev.d ?xa1) ?xa2 o1 (λ_ _=>by fail))) ?xa3 (by fail) g1 (by lia) (λ_ _=>by fail)) (Ev.item (n:=c) (Ev.l (xs:=(aF cs e.2).map .int) (Ev.bh (x:=cb e.2) (es:=mP cs) (Ev.d ?xb1) ?xb2 o2 (λ_ _=>by fail))) ?xb3 (by fail) g2 (by lia) (λ_ _=>by fail)) aj.E9 Th.bool (by decide+kernel)) ?v
    case v=>
     split
     ·with_reducible intros
     ·with_reducible intros
    all_goals with_reducible intros
  all_goals with_reducible intros
 case nx=>
  intro s1 X1 B1
  rw [V1] at X1
  with_reducible have h9:=next _ (X1.to (by k_extra"rs")) B1
  conv at h9 in fX _=>whnf
  with_reducible exact h9
 all_goals with_reducible intros
theorem z9 (L:Lx C f3){cs:List Int}{a I:He}{ob:Ib}{i:Nat}{xs:List PV}(SA:a≠I)(hz:xs.length<=100)(rm:ak A (k+1))(X:St C W SL [(I,.obj ob),(a,.lst xs)] (aC (("due",.lst ((cw cs i).map .int))::("told",.lst ((cw cs i).map .int))::EW cs a i)) env s)(B:Bs C Wt (λ_=>true) t [(I,.obj ob),(a,.lst xs)] env s)
 (next:∀J,St C W SL [(I,.obj ob),(a,.lst (xs ++ [.lst ((cw cs i).map .int)]))] (aC (wb cs a)) env J->Bs C Wt (λ_=>true) t [(I,.obj ob),(a,.lst (xs ++ [.lst ((cw cs i).map .int)]))] env J->Hi C.M A (HA [] env) Q E J):
 Hi C.M A (HA (fX 4) env) Q E s:=by
 have L':=L.L
 have Qu:sizeLine=16777216:=rfl
 have hlen:((cw cs i).map PV.int).length=8:=rfl
 have QR:kK (.lst ((cw cs i).map .int)):=dh (n:=1) (rfl) (by decide)
 have Sm:((cw cs i).filter λ_=>false).map PV.int=[]:=rfl
 have QN:∀p,aE [(I,PV.obj ob),(a,.lst xs)] a p=[(I,.obj ob),(a,p)]:=λp=>by
  unfold aE
  simp [H3 SA]
 conv in fX _=>whnf
 with_reducible
  refine bH X B rm (Tr.conv (p:=false || (false || false)) (Tr.or (Tr.cmp (by intros) (by intros) (aj.fz QR) Th.bool (by decide+kernel)) (λ_=>Tr.or (Tr.cmp (Ev.conv (p:= .lst (((cw cs i).filter λ_=>false).map .int)) (fS.ev (bI (need:=false) (l:=cw cs i) (g:=PV.int) (by with_unfolding_all exact⟨rfl,by done,by done⟩) (λx env=>by fail) PV.int (λ_=>false) (aX.lst (by intros) (by rw [hlen];decide)) (by rw [<-Hb (f:=PV.int),hlen];decide) ?step)) (HV PV.lst Sm)) (Ev.list ab.nil (by decide)) (aj.fz iA) Th.bool (by decide+kernel)) (λ_=>Tr.qA))) (rfl)) ?nx
 case step=>
  intro n hn
  refine⟨_,bg.local (by done),by k_extra"u",?_,λe=>by cases e⟩
  with_reducible
   refine Tr.plain (Ev.a5 ?f (ab.cons ?f1 (ab.cons ?f2 ab.nil)) (cC.rU (i:=n))) Th.bool (λ_ _=>by fail)
  all_goals with_reducible intros
 case nx=>
 intro s1 X1 B1
 with_reducible
  refine b6 X1 B1 rm (fj.append (xs:=xs) (p:= .lst ((cw cs i).map .int)) (by intros) (by simp) (by intros) (by lia) (λ_=>by fail) (λ_=>by fail) (by fail) (λ_=>by fail) (λ_=>by fail)) (λ_=>by fail) ?_
 intro s2 X2 B2
 rw [QN] at X2 B2
 exact next _ (X2.to (by k_extra"rs")) B2
noncomputable def iH (cs:List Int) (n:Nat):List PV:=(Hg n).map λc=> .lst ((cw cs c).map .int)
theorem St.sM (X:St C W sc (own₁ ++ own') ρ env s)(hd:∀y∈own',∀z∈own₁,y.1≠z.1)(n:Nat):St C (dR W own₁) sc own' (λx=>(ρ x).map (res (bG own₁ n))) env s:=by
 have ho:ez C W own₁ s:=λy hy=>X.owns y (HW _ hy)
 have hL:env.locals∈dR W own₁:=HU.mpr ⟨X.noLoc.1,HM.mpr λy hy=>by
  have:=X.ownLoc y (HW _ hy)
  simpa using this⟩
 have X':St C (dR W own₁) sc own' ρ env s:=(X.less (own':=own') (λy hy=>Ig _ hy)).drop dU (λy hy=>HU.mpr ⟨(X.owns y (Ig _ hy)).1,HM.mpr λz hz=>by simpa using (hd y hy z hz).symm⟩) hL
 refine⟨X'.inv,X'.ok,X'.low,X'.owns,?_,λy hy=> ?_,X'.apart,X'.noLoc,X'.ownLoc,X'.new,X'.celW⟩
 ·refine ae X.loc λm hm h=> ?_
  refine⟨m,hm,λx q hk hq=> ?_⟩
  cases hp:ρ x with
  |none=>replace hq:=hp▸hq;cases hq
  |some p=>
   refine ae (h x p hk hp) λv e1 e2=> ?_
   replace hq:=hp▸hq
   cases hq
   exact⟨v,e1,l0 ho n e2⟩
 ·refine bo (X.cel y hy) λc cv e1 e2 h=> ?_
  refine⟨c,cv,e1,e2,λq hq=> ?_⟩
  cases hp:ρ y with
  |none=>replace hq:=hp▸hq;cases hq
  |some p=>
   refine ae (h p hp) λv e3 e4=> ?_
   replace hq:=hp▸hq
   cases hq
   exact⟨v,e3,l0 ho n e4⟩
theorem Plain.lst {l:List PV}(h:∀p∈l,Plain p):Plain (.lst l):=λf=>by
 simp only [vR,eP h]
theorem nP (cs:List Int)(n:Nat):∀p∈iH cs n,Plain p:=λp hp=>by
 refine ae (Hd.mp hp) λc _ P8=> ?_;subst P8
 exact Plain.ints
theorem eX {own:Own}{a:He}{es:List PV}{n:Nat}(h:own.lookup a=some (.lst es)):res (bG own (n+1)) (.raw (.ref a))= .lst (dB (bG own n) es):=by
 simp only [jU]
 rw [gu,h]
 rfl
theorem vz (cs:List Int)(n:Nat):iH cs (n+1)=iH cs n ++ [.lst ((cw cs n).map .int)]:=by
 unfold iH
 simp only [JV,HC]
 rfl
theorem wR (cs:List Int)(n:Nat):(iH cs n).length=n:=by simp [iH]
noncomputable abbrev zk (cs:List Int):List (Str×PV):=("answers",.lst (iH cs 8))::("pairs",.lst (ee.map fI))::BF cs
theorem Ek (L:Lx C f3)(T:Tc C){cs:List Int}{a:He}(rm:ak A (k+2))
 (X:St C W SL [(a,.lst [])] (aC (wb cs a)) env s)(B:Bs C Wt (λ_=>true) t [(a,.lst [])] env s)
 (next:∀W a J,St C W SL [(a,.lst [])] (aC (("ahead",.raw (.ref a))::zk cs)) env J->Bs C Wt (λ_=>true) t [(a,.lst [])] env J->Hi C.M A (HA (aK 14) env) Q E J):
 Hi C.M A (HA (aK 12) env) Q E s:=by
 have L':=L.L
 conv in aK _=>whnf
 with_reducible
  refine a7 (need:=false) (k:=k+2) (ps:=aI 0 8) X B rm ?it (λi=>[(a,.lst (iH cs i))]) (λ_=>aC (wb cs a)) (λi=>upd (aC (wb cs a)) "chosen" (.int ((0:Int)+(i:Int)))) (by fail) (by fail) (λ_=>by fail) (λ_=>False) ?Qs ?turn (λ_ _ _ h=>h.elim) ?done (λx=>by fail)
 case it=>exact aX.cJ (n:=8) (by intros) (by intros) (by decide) (by decide) (λenv=>by fail)
 case Qs=>
  intro i p hp
  refine(el hp)▸?_
  exact bg.cell (by done) rfl
 case turn=>
  intro I ob i p t' QF s1 hI hp X1 B1
  have hi:=er hp
  have SA:a≠I:=hI (a,_) f'
  have fin:=Ao (k:=k+1) (Q:=λf P9=>match f with
   | .next | .cont=>St C (I::W) SL ((I,.obj ob)::[(a,.lst (iH cs (i+1)))]) (aC (wb cs a)) env P9/\Bs C QF (λ_=>true) t' ((I,.obj ob)::[(a,.lst (iH cs (i+1)))]) env P9
   | .brk=>False
   | .ret v=>∃p own' Qa,False/\Rr C (I::W) P9.heap v p/\St C (I::W) SL own' Qa env P9/\Bs C QF (λ_=>true) t' own' env P9) (E:=λ_ _=>False) L rm (X1.to (l:=("chosen",.int ((0:Int)+(i:Int)))::wb cs a) (by k_extra"rs")) B1 λs2 X3 B2=>
   yW L T rm X3 B2 λs3 X4 B3=>zx L T (k:=k+1) rm X4 B3 λs4 X5 B4=>zR L (k:=k+1) rm X5 B4 λs5 X6 B5=>by
    refine z9 L (k:=k+1) SA (by rw [wR];lia) rm X6 B5 λs6 X7 B6=> ?_
    rw [<-vz] at X7 B6
    exact Hq ⟨X7.to (by k_extra"rs"),B6⟩
  conv at fin in fX _=>whnf
  exact fin
 case done=>
  intro s1 X1 B1
  have X2:=(X1.settle 1).to (l:=zk cs) (aD (aV (p:= .raw (.ref a)) (by k_extra"r") (by rw [eX (es:=iH cs 8) (by simp [Hr,aI]),eP (nP cs 8)])) (aD (aB (by k_extra"r") (λ_=>rfl)) (aD (aB (by k_extra"r") (λ_=>rfl)) (aD (aB (by k_extra"r") (λ_=>rfl)) (aD (aB (by k_extra"r") (λ_=>rfl)) (aD (aB (by k_extra"r") (λ_=>rfl)) (aD (aB (by k_extra"r") Plain.ints) (aD (aB (by k_extra"r") (λ_=>rfl)) (aD (aB (by k_extra"r") Plain.ints) (aD (aB (by k_extra"r") Plain.ints) jK))))))))))
  with_reducible refine d8 (p:= .lst []) X2 (B1.less (own':=[]) (by simp)) rm (kA.list (by intros) (by intros)) (by done) (by fail) (by fail) ?_
  intro a' s2 Rv X3 B3
  with_reducible have h9:=next _ a' _ (X3.to (by k_extra"rs")) B3
  conv at h9 in aK _=>whnf
  with_reducible exact h9
set_option maxRecDepth 100000
variable {elt:Expr}
theorem rq {x:Str}{px:Jm}{e:Expr}{p:PV}(X:St C W sc own ρ env s)(B:Bs C Wt mine t own env s)(rm:ak A k)(he:fj C k sc mine own own' ρ e p)
 (hl:sc.scope.names.lookup x=some .cell)(hm:mine x=true)(hs:Kg e (some (.Name x px)) pos.line env=pure false)
 (next:∀J,St C W sc own' (upd ρ x p) env J->Bs C Wt mine t own' env J->Hi C.M A (HA rest env) Q E J):Hi C.M A (HA (.Assign [.Name x px] e pos::rest) env) Q E s:=by
 refine Ia (KG (G' (he W A env s t Wt rm X B) ?_ λ_ _ q=>q.elim) hs)
 intro v s1 zz;refine cZ zz λX1 B1 r=> ?_
 exact gv X1 B1 hl hm r λJ X' B' _=>next J X' B'
theorem qR {target:Expr}{ps qs:List PV}(hlen:qs.length=ps.length)(hz:qs.length<=sizeLine){Ow:Nat->Own}(Sr:∀i,(Ow i).map (·.1)=(Ow 0).map (·.1))
 (step:∀i p q,ps[i]? =some p->qs[i]? =some q->∃P7,bg C sc mine ρ target p P7/\(∀y r,ρ y=some r->P7 y=some r)/\∀pre:Own,(∀y∈pre,∀z∈Ow i,y.1≠z.1)->fj C k sc mine (pre ++ Ow i) (pre ++ Ow (i+1)) P7 elt q):
 ∀i p,ps[i]? =some p->∃P7 b,bg C sc mine ρ target p P7/\tZ C k sc [] P7 [] b/\
 (if b=true then rA False C k sc mine (Ow i) (Ow (i+1)) P7 (kW (.lst (qs.take i))) ρ (kW (.lst (qs.take (i+1)))) (jz elt) else Ow (i+1)=Ow i/\((∀y q,ρ y=some q->P7 y=some q)/\∀p s,kW (.lst (qs.take i)) p s->kW (.lst (qs.take (i+1))) p s)):=λi p hp=>by
 have hi:i < qs.length:=hlen▸(HD.mp hp).1
 have hq:=Hn hi
 refine iI (step i p _ hp hq) λP7 a b c=>⟨P7,true,a,tZ.nil,rA.emit ((Sr _).trans (Sr _).symm) (λ_ _ _ _ _ h _ _=>h) b λacc s h=>⟨_,_,h,c,Hf (List.length_take_le _ _) (Hf (IB hi) hz),λs _=> ?_⟩⟩
 rw [JA,hq];rfl
theorem ah.yt {Qj:Hh}{T V:List He}(e:ah C [] s J)(e':ah C T J Qj)(h:∀a∈T,s.heap.objs.size<=a\/a∈V):ah C V s Qj where
 keep a o h1 h2 g:=e'.keep a o h1 (λq=>(h a q).elim (λq=>absurd (Hx g) (HH.mpr q)) h2) (e.keep a o h1 (by simp) g)
 size:=Hf e.size e'.size
 tabs:=((e.up (W:=T)).trans e').tabs
 os:=e'.os.trans e.os
 gens h:=e'.gens (e.gens h)
theorem fj.comp {need:Bool}{target iter:Expr}(heq:∀it D env,KS (.ListComp elt [⟨target,iter,[],0⟩] scope pos) 0 it (.ref D) env=gJ (.ListComp elt [⟨target,iter,[],0⟩] scope pos) 0 target iter [] (jz elt) it D env)
 (ok:fb scope sc)(hs:∀x env,H4 iter env x=pure x){ps qs:List PV}(hlen:qs.length=ps.length)(hz:qs.length<=sizeLine){Ow:Nat->Own}(Sr:∀i,(Ow i).map (·.1)=(Ow 0).map (·.1))
 (hi:eu need C k sc (Ow 0) ρ iter ps)(htg:need=true->cB target=true)
 (step:∀i p q,ps[i]? =some p->qs[i]? =some q->∃P7,bg C (dT scope sc) (bD scope) (bA scope ρ) target p P7/\(∀y r,bA scope ρ y=some r->P7 y=some r)/\∀pre:Own,(∀y∈pre,∀z∈Ow i,y.1≠z.1)->fj C k (dT scope sc) (bD scope) (pre ++ Ow i) (pre ++ Ow (i+1)) P7 elt q):
 fj C k sc mine (Ow 0) (Ow ps.length) ρ (.ListComp elt [⟨target,iter,[],0⟩] scope pos) (.lst qs):=λW A env s t Wt rm X B=>by
 have Sb:closureFor scope env=pure (aT env.cells scope.names []):=ei λx hx hf=>by
  refine aL (X.cel x.1 (ok.free x hx hf)) λc cv h1 _=> ?_
  rw [h1];rfl
 refine MH (e:= .ListComp elt [⟨target,iter,[],0⟩] scope pos) rfl (λx=>hs x env) Sb ok.kind (λx hx hl=>by
  have:=b7 (c:=x.2) ok.nd (show (x.1,x.2)∈_ from hx)
  simp only [this,hl]) (G' (hi W A env s rm X) (λv P5 h=>h.2 A _ _ λit P6 e2 ⟨I,Qm,S⟩=>IL (qh ?_)) λ_ _ q=>q.elim)
 refine cps λG g=> ?_
 have e1:=h.1
 have lo:=S.lo
 have Tx:P5.heap.objs.size<=P6.heap.objs.size:=e2.size
 have RM:s.heap.objs.size<=P6.heap.objs.size:=Hf e1.size Tx
 have Ry:s.heap.objs.size<=I:=Hf e1.size lo
 refine ae (S.obj 0 _ S.st) λQg QA Qd=> ?_
 have QP:∀{z},z∈Ow 0->z.1 < s.heap.objs.size:=λhz=>X.low _ (X.owns _ hz).1
 have X2:St C (I::W) sc ((I,.obj Qg)::Ow 0) ρ env P6:=((X.aA e1).grow e2 lo S.hi).iS f' ⟨QA,Qd.bq⟩ S.nt (λq=>absurd (X.low _ X.noLoc.1) (HH.mpr (q▸Ry)))
 have ep:ah C [] P6 {P6 with heap:=P6.heap.push (ao [] 0)}:=ah.push _ P6.toks
 have X4:=((X2.grow ep (Hk _) cg).iS (p:= .lst []) f' ⟨[],0,Hp _ rfl,rfl⟩ X2.inv.fresh (λq=>absurd (X2.low _ X2.noLoc.1) (HH.mpr (q▸Hk _)))).comp ok
 have T6:=ep.trans (gx (C:=C) (scope:=scope))
 have T3:=(e1.trans e2).trans T6
 have Uz:(P6.heap.push (ao [] 0)).objs.size=P6.heap.objs.size+1:=Io _ _
 dsimp only at X4 T6 T3
 rw [Uz] at X4
 have Q4:∀{x c},(bD scope x && decide ((iY scope env (P6.heap.objs.size+1)).kindOf x=some .cell))=true->(iY scope env (P6.heap.objs.size+1)).cells.lookup x=some c->s.heap.objs.size<=c:=λ{x c} hm hl=>by
  obtain⟨c',SO⟩:=aY (n:=P6.heap.objs.size+1+1) (acc:=[]) (mem_of_lookup (of_decide_eq_true (JX.mp hm).1))
  obtain⟨c'',R4⟩:=aH SO
  have RP:(Ie (P6.heap.objs.size+1+1) scope.names (aT env.cells scope.names [])).lookup x=some c:=hl
  rw [bF,IA,R4] at RP
  cases RP
  exact Hf RM (H5 (H5 (bV (Ij R4))))
 have may:∀{a},s.heap.objs.size<=a->vD C ((Ow 0).map (·.1)) s a:=λh=>⟨X.inv.beyond h,.inl h⟩
 have B4:Bs C ((Ow 0).map (·.1)) (bD scope) s ((P6.heap.objs.size,.lst [])::(I,.obj Qg)::Ow 0) (iY scope env (P6.heap.objs.size+1)) {P6 with heap:=ek scope (P6.heap.push (ao [] 0))}:=
  ⟨T3.up,may (HO RM),λx c hm hk hl=>may (Q4 (by rw [hm,hk];rfl) hl),memC (may RM) (memC (may Ry) λy hy=>⟨(B.owns y hy).1,.inr (Hd.mpr ⟨y,hy,rfl⟩)⟩)⟩
 have S4:=S.rebase (W':=(P6.heap.objs.size+1)::P6.heap.objs.size::I::W) T6 (λa ha=>by simp [ha])
  (memC (.inr (HO Tx)) (memC (.inr Tx) (memC (.inr lo) λ_=> .inl)))
 refine g ?_
 refine Uz▸?_
 have loop:KD C.M A (.compLoop (.ListComp elt [⟨target,iter,[],0⟩] scope pos) 0 (.ref I) (.ref P6.heap.objs.size) (iY scope env (P6.heap.objs.size+1))) (compPost C.M A (λ_ _=>False) none (λv J=>St C W sc (Ow ps.length) ρ env J/\Bs C Wt mine t (Ow ps.length) env J/\Rr C W J.heap v (.lst qs)) (.ref P6.heap.objs.size) (P6.heap.objs.size+1)) {P6 with heap:=ek scope (P6.heap.push (ao [] 0))}:=by
  refine mu (Ac:=λi=>kW (.lst (qs.take i))) (.inl ⟨_,_,_,_,rfl⟩) (heq _ _ _) Sr (λ_ _ _ _ _ _ h _ _=>h) (qR hlen hz Sr step) rm (λ_ h=>h.elim) S4 htg Qd kC.lst rfl X4 B4 (JZ S.hi) (λy hy=>Iw (Ht (QP hy) RM)) (λy hy=>Iw (Ht (QP hy) Ry)) λJ acc' _ ha X5 _ e5=> ?_
  replace ha:acc'= .lst qs:=ha.trans (by rw [<-hlen,IY])
  subst ha
  refine ae X5.loc λm hm _=> ?_
  refine lO X5.n5 λo es n gL dL=> ?_
  refine⟨m,hm,λh' hs=> ?_⟩
  have eL:ah C [P6.heap.objs.size+1] J {J with heap:=h'}:=ah.turn (tk:=J.toks) X5.inv hs gL (by refine dL▸?_;intro vs q;cases q) (by simp)
  have Vi:ah C ((Ow 0).map (·.1)) s {J with heap:=h'}:=T3.yt (e5.trans (eL.mono (memC f' λ_ h=>nomatch h))) (fQ (.inl (HO RM)) (λx c hm hk hl=> .inl (Q4 (by rw [hm,hk];rfl) hl)) (memC (.inl RM) (memC (.inl Ry) λy hy=> .inr (Hd.mpr ⟨y,hy,rfl⟩))))
  have UB:∀y∈Ow ps.length,y.1 < s.heap.objs.size:=λy hy=>by
   have:y.1∈(Ow ps.length).map (·.1):=Hd.mpr ⟨y,hy,rfl⟩
   rw [Sr] at this
   refine ae (Hd.mp this) λz hz h=> ?_
   exact h▸QP hz
  have UQ:ez C W (Ow ps.length) {J with heap:=h'}:=λy hy=>by
   refine⟨?_,(X5.owns y (j' _ hy)).2.1.mono (λb o n g=>⟨λq=>n (q.elim .inl λq=> .inr (by simp [q])),(hs.2 b (by rintro rfl;exact n (.inr f'))).trans g⟩) (λo g=>(hs.2 y.1 (Iw (Ht (UB y hy) (HO RM)))).trans g),(X5.owns y (j' _ hy)).2.2⟩
   have:y.1∈(Ow ps.length).map (·.1):=Hd.mpr ⟨y,hy,rfl⟩
   rw [Sr] at this
   refine ae (Hd.mp this) λz hz h=> ?_
   exact h▸(X.owns z hz).1
  exact⟨X.turned Vi UQ (Sr _),B.turned Vi (Sr _),Rr.iD ((X5.owns _ f').2.1.rr kC.lst (memC f' λb hb=>j' _ (j' _ (j' _ hb))) λq=>q.elim (X5.owns _ f').2.2 λq=>(Hc.mp q).elim (Iw (IX _)) λq=>absurd (X.low _ q) (HH.mpr RM)) hs⟩
 rw [S.it]
 refine fy (.inl ⟨_,_,_,_,rfl⟩) rfl rfl loop ?_
 exact S4.self rm.handled S4.st loop
set_option maxRecDepth 4000
theorem kA.dict {keys:List (Option Expr)}{ks values:List Expr}{es Q1:List (Str×PV)}(hk:keys=ks.map some)(Vv:ks.length=values.length)
 (Q0:∀env,(evalEachOpt keys env).zip ((evalEach values env).map λv=>do let x <-v;standAt pos;pure x)=((ks.zip values).map λx=>((IQ x.1 env,do let y <-IQ x.2 env;standAt pos;pure y):Jj y'×Jj y')).map λp=>(some p.1,p.2))
 (hp:cj C k sc own ρ ks values pos es)(hb:(!es.isEmpty && La es.length 15 && (ks.length==es.length))=true)(he:es.foldl (λd e=>putD d e.1 e.2) []=Q1):
 kA C k sc own ρ (.Dict keys values pos) (.au Q1):=λW A env s rm X=>by
 simp only [H',JY,beq_iff_eq] at hb
 obtain⟨⟨h1,h2⟩,hlen⟩:=hb
 subst he
 have h0:es≠[]:=by intro q;subst q;cases h1
 have QB:((ks.zip values).map λx=>((IQ x.1 env,do let y <-IQ x.2 env;standAt pos;pure y):Jj y'×Jj y')).length=es.length:=by
  simp only [Hb,OR,<-Vv,Pp,hlen]
 refine OA (knd:=strKind C.prog C.w) (Q0 env) (by intro q;rw [q] at QB;exact h0 (I1.mp QB.symm)) (by refine QB▸?_;exact(Hv h2)) ?_
 have e0:ah C [] s {s with heap:=s.heap.push {cls:= .type "dict",data:= .dict #[]}}:=ah.push _ s.toks
 refine G' (hp (s.heap.objs.size::W) A env _ rm (X.grow e0 (Hk _) cg)) ?_ λ_ _ q=>q.elim
 rintro us s1 ⟨e1,kvs,hc,r⟩
 have hg:s1.heap.get? s.heap.objs.size=some (bj [] 0):=e1.keep _ _ X.inv.fresh (by simp) (Hp _ rfl)
 refine⟨kvs,hc,aW hg (⟨X.inv.fZ,by intro e h;simp at h,.nil,by decide⟩),λh' hd hs=> ?_⟩
 have eT:ah C [s.heap.objs.size] s1 {s1 with heap:=h',toks:=s1.toks+us.length}:=ah.turn ((X.aA e0).aA e1).inv hs hg (λvs q=>nomatch q) (by simp)
 have e2:ah C [] s {s1 with heap:=h',toks:=s1.toks+us.length}:=(e0.trans e1).iD eT (Hk _)
 refine aL (fO hd X.inv.fZ) λds n g2 sd=> ?_
 refine⟨e2,s.heap.objs.size,rfl,Hk _,Hx g2,ds,n,_,g2,sd,bC.merge (show bC _ _ _ [] [] from rfl) ?_⟩
 exact bC.mono (λb o n g=>⟨n,(hs.2 b (by rintro rfl;exact n (.inr f'))).trans g⟩) r
noncomputable def bO (cs:List Int) (j:Nat):Nat->List Int
 |0=>[0,0,0,0]
 |n+1=>if dg cs (2 ^ j) (dI.getD n default)=0 then bO cs j n else
  let z:=if dg cs (2 ^ j) (dI.getD n default) < 0 then(dI.getD n default).2 else(dI.getD n default).1
  (bO cs j n).set z ((bO cs j n).getD z 0+1)
theorem pI (cs:List Int)(j:Nat):∀n,(bO cs j n).length=4:=by
 intro n
 induction n with
 |zero=>rfl
 |succ n ih=>
  unfold bO
  split
  ·exact ih
  ·rw [OT,ih]
noncomputable def aU (f:List Int):List (Str×PV):=[("<",.int 9),(">",.int (-1)),(cb 0,.int (f.getD 0 0)),(cb 1,.int (f.getD 1 0)),(cb 2,.int (f.getD 2 0)),(cb 3,.int (f.getD 3 0))]
theorem eZ (f:List Int):∀z,z < 4->(aU f).lookup (cb z)=some (.int (f.getD z 0))
 |0,_=>rfl
 |1,_=>rfl
 |2,_=>rfl
 |3,_=>rfl
 |z+4,h=>absurd h (by simp)
theorem uk {f:List Int}(h:f.length=4)(n:Int):∀z,z < 4->putD (aU f) (cb z) (.int n)=aU (f.set z n):=by
 obtain⟨a,b,c,d,rfl⟩:∃a b c d,f=[a,b,c,d]:=by
  match f,h with
  |[a,b,c,d],_=>exact⟨a,b,c,d,rfl⟩
 intro z hz
 match z,hz with
 |0,_=>rfl
 |1,_=>rfl
 |2,_=>rfl
 |3,_=>rfl
 |z+4,h=>exact absurd h (by simp)
noncomputable abbrev iV (n:Nat):List I9:=Ky n (cI (ay tb 18) 14)
theorem Df (cs:List Int){c:Nat}(h:c < 8):(iH cs 8)[c]? =some (.lst ((cw cs c).map .int)):=by
 unfold iH
 simp only [Hy,ID h]
 rfl
theorem so (cs:List Int)(c:Nat){n:Nat}(h:n < 6):((cw cs c).map PV.int)[n]? =some (.int (dg cs c (dI.getD n default))):=by
 unfold cw
 rw [HB,Hy]
 match n,h with
 |0,_=>rfl
 |1,_=>rfl
 |2,_=>rfl
 |3,_=>rfl
 |4,_=>rfl
 |5,_=>rfl
theorem tJ {n:Nat}(h:n < 6):(ee.map fI)[n]? =some (jg (dI.getD n default))/\(dI.getD n default).1 < 4/\(dI.getD n default).2 < 4:=by
 match n,h with
 |0,_=>exact⟨rfl,by decide,by decide⟩
 |1,_=>exact⟨rfl,by decide,by decide⟩
 |2,_=>exact⟨rfl,by decide,by decide⟩
 |3,_=>exact⟨rfl,by decide,by decide⟩
 |4,_=>exact⟨rfl,by decide,by decide⟩
 |5,_=>exact⟨rfl,by decide,by decide⟩
noncomputable abbrev vC (cs:List Int) (a:He) (j:Nat):List (Str×PV):=("j",.int ((0:Int)+(j:Int)))::("ahead",.raw (.ref a))::zk cs
theorem yY (L:Lx C f3){cs:List Int}{a I:He}{ob:Ib}{xs:List PV}{j:Nat}(hj:j < 3)(rm:ak A (k+1))(SJ:I∈W)(Rv:a∈W)(X:St C W SL [(I,.obj ob),(a,.lst xs)] (aC (vC cs a j)) env s)(B:Bs C Wt (λ_=>true) t [(I,.obj ob),(a,.lst xs)] env s)
 (next:∀f J,f∉W->f≠I->f≠a->St C (f::W) SL [(f,.au (aU (bO cs j 6))),(I,.obj ob),(a,.lst xs)] (aC (("front",.raw (.ref f))::vC cs a j)) env J->Bs C Wt (λ_=>true) t [(f,.au (aU (bO cs j 6))),(I,.obj ob),(a,.lst xs)] env J->Hi C.M A (HA (iV 2) env) Q E J):
 Hi C.M A (HA (iV 0) env) Q E s:=by
 have L':=L.L
 have e0:((0:Int)+(j:Int)).toNat=j:=by simp
 obtain⟨p2,Xf⟩:=(by decide:∀j,j < 3->(2:Int) ^ j=((2 ^ j:Nat):Int)/\2 ^ j < 8) j hj
 have ga:=Df cs Xf
 have Sm:∀f,(aU f).length=6:=λ_=>rfl
 conv in iV _=>whnf
 with_reducible
  refine d8 (p:= .au (aU (bO cs j 0))) X B rm (kA.dict (ks:=[_,_,_,_,_,_]) (es:=[("<",.int 9),(">",.int (-1)),("a",.int 0),("b",.int 0),("c",.int 0),("d",.int 0)]) (by fail) (by fail) (λenv=>by fail) ?ps (by fail) (by fail)) (by done) (by fail) (by fail) ?n1
 case ps=>intros
 case n1=>
 intro f s1 Sw X1 B1
 have SK:f≠I:=λe=>Sw (e▸SJ)
 have Rm:f≠a:=λe=>Sw (e▸Rv)
 have X2:=X1.to (l:=("front",.raw (.ref f))::vC cs a j) (by k_extra"rs")
 with_reducible
  refine a7 (need:=false) (k:=k+1) (ps:=aI 0 6) X2 B1 rm ?it (λi=>[(f,.au (aU (bO cs j i))),(I,.obj ob),(a,.lst xs)]) (λ_=>aC (("front",.raw (.ref f))::vC cs a j)) (λi=>upd (aC (("front",.raw (.ref f))::vC cs a j)) "k" (.int ((0:Int)+(i:Int)))) (by fail) (by fail) (λ_=>by fail) (λ_=>False) ?Qs ?turn (λ_ _ _ h=>h.elim) ?done (λx=>by fail)
 case it=>exact aX.cJ (n:=6) (by intros) (by intros) (by decide) (by decide) (λenv=>by fail)
 case Qs=>
  intro i p hp
  refine(el hp)▸?_
  exact bg.cell (by done) rfl
 case turn=>
  intro I2 TO i p t' QF s1 hI hp X1 B1
  have hi:=er hp
  have gt:=so cs (2 ^ j) hi
  refine cZ (tJ hi) λgp z1 z2=> ?_
  have Rq:bO cs j (i+1)=if dg cs (2 ^ j) (dI.getD i default)=0 then bO cs j i else
   (bO cs j i).set (if dg cs (2 ^ j) (dI.getD i default) < 0 then(dI.getD i default).2 else(dI.getD i default).1) ((bO cs j i).getD (if dg cs (2 ^ j) (dI.getD i default) < 0 then(dI.getD i default).2 else(dI.getD i default).1) 0+1):=rfl
  generalize dI.getD i default=e at gt gp z1 z2 Rq
  generalize hv:dg cs (2 ^ j) e=v at gt Rq
  generalize bO cs j (i+1)=F' at Rq ⊢
  have hF:=pI cs j i
  generalize bO cs j i=F at hF Rq X1 B1
  have QN:∀p,aE [(I2,PV.obj TO),(f,.au (aU F)),(I,.obj ob),(a,.lst xs)] f p=[(I2,PV.obj TO),(f,p),(I,.obj ob),(a,.lst xs)]:=λp=>by
   unfold aE
   simp [H3 (hI (f,_) f'),H3 SK,H3 Rm]
  have Vg:((0:Int)+(i:Int))=(i:Int):=by lia
  with_reducible
   refine step_if (b:=v !=0) (X1.to (l:=("k",.int ((0:Int)+(i:Int)))::("front",.raw (.ref f))::vC cs a j) (by k_extra"rs")) B1 rm (Tr.cmp (Ev.item (n:=i) (Ev.l (xs:=(cw cs (2 ^ j)).map .int) (Ev.item (n:=2 ^ j) (Ev.l (xs:=iH cs 8) ?t1) (Ev.bin (by intros) (by intros) (aj.pow (by simp) (by lia) (by decide))) (by rw [e0];exact p2) ga (by lia) (λ_ _=>by fail))) ?t4 Vg gt (by lia) (λ_ _=>by fail)) Ev.int aj.Ba Th.bool (by decide+kernel)) ?nx
  case nx=>
   intro s2 X3 B2
   by_cases hv0:v=0
   ·rw [HE hv0] at Rq
    rw [Rq]
    rw [Hz (by simp [hv0])]
    exact Hq (Hq ⟨X3.to (by k_extra"rs"),B2⟩)
   ·rw [Hz hv0] at Rq
    rw [HE (by simp [hv0])]
    have hz:(if v < 0 then e.2 else e.1) < 4:=by split <;> assumption
    have gz:[PV.str (cb e.1),.str (cb e.2)][if decide (v < 0)=true then 1 else 0]? =some (.str (cb (if v < 0 then e.2 else e.1))):=by
     by_cases q:v < 0
     ·rw [HE (HS q),HE q];rfl
     ·rw [Hz (by simp [q]),Hz q];rfl
    have Y0:PV.int (((if decide (v < 0)=true then 1 else 0:Nat)):Int)= .int (if decide (v < 0)=true then 1 else 0):=by split <;> rfl
    generalize (if v < 0 then e.2 else e.1)=z at hz gz Rq
    subst Rq
    with_reducible
     refine nH (a:=f) (es:=aU F) (x:=cb z) (p:= .int (F.getD z 0)) (q:= .int 1) (r:= .int (F.getD z 0+1)) X3 B2 rm ?u1 (Ev.b9 (n:=if decide (v < 0)=true then 1 else 0) (Ev.t (xs:=[.str (cb e.1),.str (cb e.2)]) (Ev.item (n:=i) (Ev.l (xs:=ee.map fI) ?u2) ?u3 Vg gp (by lia) (λ_ _=>by fail))) (Ev.conv (Ev.lC (p:= .int (if decide (v < 0)=true then 1 else 0)) (Tr.cmp (Ev.item (n:=i) (Ev.l (xs:=(cw cs (2 ^ j)).map .int) (Ev.item (n:=2 ^ j) (Ev.l (xs:=iH cs 8) ?v1) (Ev.bin (by intros) (by intros) (aj.pow (by simp) (by lia) (by decide))) (by rw [e0];exact p2) ga (by lia) (λ_ _=>by fail))) ?v4 Vg gt (by lia) (λ_ _=>by fail)) Ev.int aj.ltI Th.bool (by decide+kernel)) ?w) Y0.symm) (by fail) gz (by split <;> decide) (λ_ _=>by fail)) Ev.int (j' _ f') (by rw [Sm];decide) (eZ F z hz) aj.pq (λ_ _ _=>by fail) ?nx2
    case w=>
     split
     ·with_reducible intros
     ·with_reducible intros
    case nx2=>
     intro s3 X4 B3
     simp only [(uk hF (F.getD z 0+1) z hz),QN] at X4 B3
     exact Hq (Hq ⟨X4.to (by k_extra"rs"),B3⟩)
    all_goals with_reducible intros
  all_goals with_reducible intros
 case done=>
  intro s1 X1 B1
  have h9:=next f _ Sw SK Rm X1 B1
  conv at h9 in iV _=>whnf
  exact h9
structure qD {α:Type}(lt:α->α->Bool):Prop where
 asym:∀a b,lt a b=true->lt b a=false
 tr:∀a b c,lt b a=false->lt c b=false->lt c a=false
noncomputable def fD {α:Type} (lt:α->α->Bool) (right:Bool) (x m:α):Bool:=if right then lt x m else !(lt m x)
noncomputable def bK {α:Type} (lt:α->α->Bool) (right:Bool) (l:List α) (x:α):Nat:=l.findIdx (fD lt right x)
noncomputable def cM {α:Type} (lt:α->α->Bool) (right:Bool) (l:List α) (x:α):List α:=bw l (bK lt right l x) x
def jT {α:Type}(lt:α->α->Bool)(l:List α):Prop:=l.Pairwise λp q=>lt q p=false
theorem eg {α:Type}(lt:α->α->Bool)(right:Bool)(l:List α)(x:α):bK lt right l x<=l.length:=Kv
theorem iy {α:Type}{lt:α->α->Bool}(T:qD lt){right:Bool}{x:α}{l:List α}(h:jT lt l):l.Pairwise λp q=>fD lt right x p=true->fD lt right x q=true:=
 h.imp λ{p q} h1 h2=>by
  unfold fD at h2 ⊢
  cases right
  ·simp only [Jt,if_false,JY] at h2 ⊢
   exact T.tr _ _ _ h2 h1
  ·simp only [if_true] at h2 ⊢
   cases hq:lt x q with
   |true=>rfl
   |false=>
    have:=T.tr p q x h1 hq
    replace this:=h2▸this;cases this
theorem d7 {α:Type}{lt:α->α->Bool}(T:qD lt){x:α}{l:List α}(h:jT lt l){m:Nat}{p:α}(hp:l[m]? =some p):lt x p=decide (bK lt true l x<=m):=
 (cV (iy T (right:=true) (x:=x) h) hp:fD lt true x p=_)
theorem fR {α:Type}{lt:α->α->Bool}(T:qD lt){x:α}{l:List α}(h:jT lt l){m:Nat}{p:α}(hp:l[m]? =some p):lt p x=decide (m < bK lt false l x):=by
 have h1:(!(lt p x))=decide (bK lt false l x<=m):=cV (iy T (right:=false) (x:=x) h) hp
 cases hq:lt p x with
 |true=>rw [hq] at h1;exact(HS (by have:=of_decide_eq_false h1.symm;simp_all)).symm
 |false=>rw [hq] at h1;exact(H2 (by have:=of_decide_eq_true h1.symm;simp_all)).symm
theorem iz {α β:Type}(f:α->β)(l:List α)(j:Nat)(x:α):(bw l j x).map f=bw (l.map f) j (f x):=by
 unfold bw
 simp [Kz,LX]
theorem wZ {α:Type}(lt:α->α->Bool)(right:Bool)(l:List α)(x:α):(cM lt right l x).length=l.length+1:=by
 have:=eg lt right l x
 delta cM bw
 simp
 grind -splitIndPred
theorem cW {α:Type}(lt:α->α->Bool)(right:Bool)(l:List α)(x:α):(cM lt right l x).Perm (x::l):=by
 refine M3.trans (JU.cons x ?_)
 rw [Jr]
theorem mm {α:Type}{lt:α->α->Bool}(T:qD lt)(right:Bool){l:List α}(x:α)(h:jT lt l):jT lt (cM lt right l x):=by
 delta cM bw jT
 have hp:=eg lt right l x
 have key:∀m (hm:m < l.length),fD lt right x l[m]=decide (bK lt right l x<=m):=λm hm=>cV (iy T h) (Hn hm)
 rw [I3,Ih]
 refine⟨Ja (KJ _ _) h,⟨λb hb=> ?_,Ja (Lz _ _) h⟩,λa ha b hb=> ?_⟩
 ·obtain⟨i,hi,rfl⟩:=IT.mp hb
  rw [J4]
  have hm:bK lt right l x+i < l.length:=by rw [Kn] at hi;omega
  have h1:=key _ hm
  rw [HS (H6 _ _)] at h1
  unfold fD at h1
  cases right
  ·simpa using h1
  ·exact T.asym _ _ h1
 ·obtain⟨i,hi,rfl⟩:=IT.mp ha
  rw [LB]
  have Sj:i < bK lt right l x:=by rw [IG] at hi;simp_all
  have h1:=key i (by lia)
  rw [H2 (by simp_all)] at h1
  rcases Hc.mp hb with rfl |hb
  ·unfold fD at h1
   cases right
   ·have:lt l[i] b=true:=by simpa using h1
    exact T.asym _ _ this
   ·exact h1
  ·obtain⟨j,hj,rfl⟩:=IT.mp hb
   rw [J4]
   exact Jp.mp h _ _ _ _ (by omega)
noncomputable def ltI (a b:Int):Bool:=decide (a < b)
theorem yh:qD ltI:=⟨λa b h=>by unfold ltI at*;simp at*;lia,λa b c h1 h2=>by unfold ltI at*;simp at*;lia⟩
theorem oO:qD dA:=⟨λa b h=>by
 exact H2 (List.lt_asymm (of_decide_eq_true h)),λa b c h1 h2=>by
 unfold dA at *
 simp only [decide_eq_false_iff_not] at *
 exact Lm.mpr (List.le_trans (Lm.mp h1) (Lm.mp h2))⟩
theorem fj.lC {c a b:Expr}{d:Bool}{p:PV}(hc:Tr C k sc own ρ c d)(h:fj C k sc mine own own' ρ (if d=true then a else b) p):fj C k sc mine own own' ρ (.IfExp c a b pos) p:=λW A env s t Wt rm X B=>
 IfExp_ (G' (hc W A env s rm X) (λx s1 zz=>c7 zz λe1 h1=>by
  subst h1
  have:=h W A env s1 t Wt rm (X.aA e1) (B.step e1)
  cases x with
  |true=>exact this
  |false=>exact this) λ_ _ q=>q.elim)
theorem tG (L:Lw C){xs:List PV}{px:PV}{j:Nat}(hz:xs.length<=sizeLine)(h2:j<=xs.length)(lt:∀m p,xs[m]? =some p->Lt C p px (decide (m < j))):aO C (k+1) [] (.ref vM) [.lst xs,px] [] (.int j):=λW A s vs kvs rm g ho r1 r2=>by
 refine bo r1.inv2 λva vx P8 ra rx=> ?_;subst P8
 rw [r2.iT]
 refine bo (L.bL.bind rW g.inv) λfd t F Ql hb=> ?_
 refine dE (own:=[]) (args:=⟨[va,vx],[]⟩) L.ok F g (by assumption) rm (hb _ _ _ (.inr (.inl ⟨rfl,_,_,rfl,rfl⟩))) (.cons ra (.cons rx (.cons ⟨_,rfl⟩ (.cons rfl (.cons rfl .nil)))):dz C W s.heap _ [("a",.lst xs),("x",px),("lo",.int (0:Nat)),("hi",bS none),("key",.none)]) eQ (eW (.inr (.inr (.inr rfl))) Ql) ?_
 intro Lo env J hL X B A' QM
 have X':St C (Lo::W) ⟨ai tb xk,fd.qualname ++ ".<locals>.",fd.code⟩ [] (aC [("a",.lst xs),("x",px),("lo",.int (0:Nat)),("hi",bS none),("key",.none)]) env J:=by
  refine Ql▸?_;exact X
 exact tI L (hi:=none) hz (H7 _) h2 (Hk _) (λm p _ _ h=>lt m p h) QM (λ_=>rfl) X' B λv Qj i e r=>⟨e,r.drop λa ha=>j' _ ha⟩
theorem sv (L:Lw C){xs:List PV}{px:PV}{j:Nat}(hz:xs.length<=sizeLine)(h2:j<=xs.length)(lt:∀m p,xs[m]? =some p->Lt C px p (decide (j<=m))):aO C (k+1) [] (.ref vH) [.lst xs,px] [] (.int j):=λW A s vs kvs rm g ho r1 r2=>by
 refine bo r1.inv2 λva vx P8 ra rx=> ?_;subst P8
 rw [r2.iT]
 refine bo (L.br.bind r7 g.inv) λfd t F Ql hb=> ?_
 refine dE (own:=[]) (args:=⟨[va,vx],[]⟩) L.ok F g (by assumption) rm (hb _ _ _ (.inr (.inl ⟨rfl,_,_,rfl,rfl⟩))) (.cons ra (.cons rx (.cons ⟨_,rfl⟩ (.cons rfl (.cons rfl .nil)))):dz C W s.heap _ [("a",.lst xs),("x",px),("lo",.int (0:Nat)),("hi",bS none),("key",.none)]) eQ (eW (.inr (.inl rfl)) Ql) ?_
 intro Lo env J hL X B A' QM
 have X':St C (Lo::W) ⟨ai tb vE,fd.qualname ++ ".<locals>.",fd.code⟩ [] (aC [("a",.lst xs),("x",px),("lo",.int (0:Nat)),("hi",bS none),("key",.none)]) env J:=by
  refine Ql▸?_;exact X
 exact sV L (hi:=none) hz (H7 _) h2 (Hk _) (λm p _ _ h=>lt m p h) QM (λ_=>rfl) X' B λv Qj i e r=>⟨e,r.drop λa ha=>j' _ ha⟩
theorem fU {α:Type}{g:α->PV}{l:List α}{m:Nat}{p:PV}(h:(l.map g)[m]? =some p):∃a,l[m]? =some a/\p=g a:=c4 h
theorem GW (L:Lw C){l:List Int}{x:Int}(hs:jT ltI l)(hz:l.length<=sizeLine):aO C (k+1) own (.ref vM) [.lst (l.map .int),.int x] [] (.int (bK ltI false l x)):=
 aO.up (tG L (by rw [Hb];exact hz) (by simp only [Hb];exact eg ..) λm p h=>by
  refine ae (fU h) λa ha P8=> ?_;subst P8
  exact aj.conv aj.ltI (by refine(fR yh hs ha)▸?_;rfl))
theorem GN (L:Lw C){l:List Int}{x:Int}(hs:jT ltI l)(hz:l.length<=sizeLine):aO C (k+1) own (.ref vH) [.lst (l.map .int),.int x] [] (.int (bK ltI true l x)):=
 aO.up (sv L (by rw [Hb];exact hz) (by simp only [Hb];exact eg ..) λm p h=>by
  refine ae (fU h) λa ha P8=> ?_;subst P8
  exact aj.conv aj.ltI (by refine(d7 yh hs ha)▸?_;rfl))
theorem GL (L:Lw C){l:List Str}{x:Str}(hs:jT dA l)(hz:l.length<=sizeLine):aO C (k+1) [] (.ref vM) [.lst (l.map .str),.str x] [] (.int (bK dA false l x)):=
 tG L (by rw [Hb];exact hz) (by simp only [Hb];exact eg ..) λm p h=>by
  refine ae (fU h) λa ha P8=> ?_;subst P8
  exact aj.conv aj.dA (by refine(fR oO hs ha)▸?_;rfl)
theorem GI (L:Lw C){l:List Str}{x:Str}(hs:jT dA l)(hz:l.length<=sizeLine):aO C (k+1) [] (.ref vH) [.lst (l.map .str),.str x] [] (.int (bK dA true l x)):=
 sv L (by rw [Hb];exact hz) (by simp only [Hb];exact eg ..) λm p h=>by
  refine ae (fU h) λa ha P8=> ?_;subst P8
  exact aj.conv aj.dA (by refine(d7 oO hs ha)▸?_;rfl)
theorem Gw (L:Lw C){aa:He}{l:List Int}{x:Int}(hw:own.lookup aa=some (.lst (l.map .int)))(hs:jT ltI l)(hz:l.length<=sizeLine):gX C (k+2) own (aE own aa (.lst ((cM ltI true l x).map .int))) (.ref Bx) [.raw (.ref aa),.int x] [] .none:=by
 unfold cM
 rw [iz]
 exact wK L 1 (.short rfl rfl rfl) hw (by rw [Hb];exact hz) (H7 _) (by simp only [Hb];exact eg ..) (Hk _) λC' _ m p _ _ h=>by
  replace h:=(show Seen own 1 (l.map PV.int)=l.map PV.int from fJ)▸h
  refine ae (fU h) λa ha P8=> ?_;subst P8
  exact aj.conv aj.ltI (by refine(d7 yh hs ha)▸?_;rfl)
theorem G4 (L:Lw C){aa:He}{l:List Int}{x:Int}(hw:own.lookup aa=some (.lst (l.map .int)))(hs:jT ltI l)(hz:l.length<=sizeLine):gX C (k+2) own (aE own aa (.lst ((cM ltI false l x).map .int))) (.ref DK) [.raw (.ref aa),.int x] [] .none:=by
 unfold cM
 rw [iz]
 exact Dw L 1 (.short rfl rfl rfl) hw (by rw [Hb];exact hz) (H7 _) (by simp only [Hb];exact eg ..) (Hk _) λC' _ m p _ _ h=>by
  replace h:=(show Seen own 1 (l.map PV.int)=l.map PV.int from fJ)▸h
  refine ae (fU h) λa ha P8=> ?_;subst P8
  exact aj.conv aj.ltI (by refine(fR yh hs ha)▸?_;rfl)
theorem GF (L:Lw C){aa:He}{l:List Str}{x:Str}(hw:own.lookup aa=some (.lst (l.map .str)))(hs:jT dA l)(hz:l.length<=sizeLine):gX C (k+2) own (aE own aa (.lst ((cM dA true l x).map .str))) (.ref Bx) [.raw (.ref aa),.str x] [] .none:=by
 unfold cM
 rw [iz]
 exact wK L 1 (.short rfl rfl rfl) hw (by rw [Hb];exact hz) (H7 _) (by simp only [Hb];exact eg ..) (Hk _) λC' _ m p _ _ h=>by
  replace h:=(show Seen own 1 (l.map PV.str)=l.map PV.str from eK)▸h
  refine ae (fU h) λa ha P8=> ?_;subst P8
  exact aj.conv aj.dA (by refine(d7 oO hs ha)▸?_;rfl)
noncomputable def bc (F:List Int) (i:Nat):List Int:=(Hg i).foldl (λl z=>cM ltI (z % 2==1) l (F.getD z 0)) []
theorem eF (F:List Int)(i:Nat):bc F (i+1)=cM ltI (i % 2==1) (bc F i) (F.getD i 0):=by
 unfold bc
 simp only [JV,Lp]
 rfl
theorem fw (F:List Int):∀i,(bc F i).length=i:=by
 intro i
 induction i with
 |zero=>rfl
 |succ i ih=>simp only [eF,wZ,ih]
theorem dk (F:List Int):∀i,jT ltI (bc F i):=by
 intro i
 induction i with
 |zero=>exact I7
 |succ i ih=>rw [eF];exact mm yh _ _ ih
noncomputable abbrev wB (z:Nat):PV:= .str (cb z)
theorem kR:nk.map PV.str=(Hg 4).map wB:=by fail
theorem gq {l:List (Str×PV)}{own:Own}{n:Nat}{ρ:bP}(h:∀e∈l,ρ e.1=some e.2)(hp:∀e∈l,Plain e.2):∀e∈l,(λx=>(ρ x).map (res (bG own n))) e.1=some e.2:=λe he=>aV (h e he) (hp e he _)
theorem Plain.strs {l:List Str}:Plain (.lst (l.map .str)):=Plain.lst λp hp g=>by
 refine ae (Hd.mp hp) λx _ P8=> ?_;subst P8
 rfl
theorem gS (F:List Int):∀e∈aU F,Plain e.2:=by
 intro e he
 unfold aU at he
 simp only [Hc,H0,or_false] at he
 rcases he with rfl |rfl |rfl |rfl |rfl |rfl <;> exact λ_=>rfl
theorem Plain.au {l:List (Str×PV)}(h:∀e∈l,Plain e.2):Plain (.au l):=λf=>by
 show PV.au (gZ f l)=_
 rw [dY h]
theorem Plain.int (n:Int):Plain (.int n):=λ_=>rfl
theorem iG (cs:List Int):∀e∈zk cs,Plain e.2:=
 memC (Plain.lst (nP cs 8)) (memC (λ_=>rfl) (memC (λ_=>rfl) (memC (λ_=>rfl) (memC (λ_=>rfl) (memC (λ_=>rfl) (memC Plain.ints (memC (λ_=>rfl) (memC Plain.ints (memC Plain.ints λ_ h=>nomatch h)))))))))
theorem nC {own:Own}{a:He}{n:Nat}(h:own.lookup a=none):res (bG own n) (.raw (.ref a))= .raw (.ref a):=by
 simp only [jU]
 cases n with
 |zero=>rfl
 |succ n=>rw [gu,h];rfl
theorem pe {f:He}{p:PV}(h:f∉W):∀a∈W,a∈dR (f::W) [(f,p)]:=λa ha=>by
 unfold dR
 refine HU.mpr ⟨j' _ ha,?_⟩
 have:f≠a:=λe=>h (e▸ha)
 simpa using this
theorem AJ (L:Lx C f3){cs:List Int}{a I f:He}{ob:Ib}{xs:List PV}{F:List Int}{j:Nat}(Sw:f∉W)(Rv:a∈W)(SJ:I∈W)(SK:f≠I)(Rm:f≠a)(SA:a≠I)(hz:xs.length<=100)(rm:ak A (k+1))(X:St C (f::W) SL [(f,.au (aU F)),(I,.obj ob),(a,.lst xs)] (aC (("front",.raw (.ref f))::vC cs a j)) env s)(B:Bs C Wt (λ_=>true) t [(f,.au (aU F)),(I,.obj ob),(a,.lst xs)] env s)
 (next:∀J,St C W SL [(I,.obj ob),(a,.lst (xs ++ [.au (aU F)]))] (aC (("front",.au (aU F))::vC cs a j)) env J->Bs C Wt (λ_=>true) t [(I,.obj ob),(a,.lst (xs ++ [.au (aU F)]))] env J->Hi C.M A (HA (iV 3) env) Q E J):
 Hi C.M A (HA (iV 2) env) Q E s:=by
 have Qu:sizeLine=16777216:=rfl
 have X1:=(St.sM (own₁:=[(f,.au (aU F))]) (own':=[(I,.obj ob),(a,.lst xs)]) X (by
  intro y hy z hz
  simp only [Hc,H0,or_false] at hy hz
  subst hz
  rcases hy with rfl |rfl
  ·exact SK.symm
  ·exact Rm.symm) 1).to (l:=("front",.au (aU F))::vC cs a j) (aD (aV (p:= .raw (.ref f)) (by k_extra"r") (by rw [hX (es:=aU F) (by simp),dY (gS F)]))
   (aD (aB (by k_extra"r") (Plain.int _)) (aD (aV (p:= .raw (.ref a)) (by k_extra"r") (nC (by simp [Hr,HQ Rm.symm]))) (gq (by k_extra"rs") (iG cs)))))
 have X1:St C W SL [(I,.obj ob),(a,.lst xs)] (aC (("front",.au (aU F))::vC cs a j)) env s:=X1.drop (pe Sw) (memC SJ (memC Rv λ_ h=>nomatch h)) (by
  rcases Hc.mp X.noLoc.1 with q |q
  ·exact absurd q.symm (X.ownLoc _ f')
  ·exact q)
 have QN:∀p,aE [(I,PV.obj ob),(a,.lst xs)] a p=[(I,.obj ob),(a,p)]:=λp=>by
  unfold aE
  simp [H3 SA]
 conv in iV _=>whnf
 with_reducible
  refine b6 X1 (B.less (own':=[(I,.obj ob),(a,.lst xs)]) (λy hy=>⟨y.2,j' _ hy⟩)) rm (fj.append (xs:=xs) (p:= .au (aU F)) (by intros) (by simp) (by intros) (by lia) (λ_=>by fail) (λ_=>by fail) (by fail) (λ_=>by fail) (λ_=>by fail)) (λ_=>by fail) ?_
 intro s2 X2 B2
 rw [QN] at X2 B2
 have h9:=next _ X2 B2
 conv at h9 in iV _=>whnf
 exact h9
noncomputable abbrev rH (cs:List Int) (a:He) (j:Nat) (F:List Int):List (Str×PV):=("front",.au (aU F))::vC cs a j
theorem Al (L:Lx C f3){cs:List Int}{a I:He}{ob:Ib}{xs:List PV}{F:List Int}{j:Nat}(SA:a≠I)(Rv:a∈W)(SJ:I∈W)(rm:ak A (k+2))(X:St C W SL [(I,.obj ob),(a,.lst xs)] (aC (rH cs a j F)) env s)(B:Bs C Wt (λ_=>true) t [(I,.obj ob),(a,.lst xs)] env s)
 (next:∀J,St C W SL [(I,.obj ob),(a,.lst xs)] (aC (("told",.lst (Iu 4 .none))::("shelf",.lst ((bc F 4).map .int))::rH cs a j F)) env J->Bs C Wt (λ_=>true) t [(I,.obj ob),(a,.lst xs)] env J->Hi C.M A (HA (iV 5) env) Q E J):
 Hi C.M A (HA (iV 3) env) Q E s:=by
 have L':=L.L
 have Qu:sizeLine=16777216:=rfl
 conv in iV _=>whnf
 with_reducible refine d8 (p:= .lst []) X B rm (kA.list (by intros) (by intros)) (by done) (by fail) (by fail) ?_
 intro f s1 Sw X1 B1
 have SK:f≠I:=λe=>Sw (e▸SJ)
 have Rm:f≠a:=λe=>Sw (e▸Rv)
 have X2:=X1.to (l:=("shelf",.raw (.ref f))::rH cs a j F) (by k_extra"rs")
 refine ae L'.il.ex λ_ Fl _=> ?_
 refine ae L'.ir.ex λ_ Fr _=> ?_
 have UM:∀(pre:Own) (p q:PV),(∀y∈pre,y.1≠f)->aE (pre ++ [(f,p),(I,PV.obj ob),(a,.lst xs)]) f q=pre ++ [(f,q),(I,.obj ob),(a,.lst xs)]:=λpre p q h=>by
  unfold aE
  rw [HC]
  congr 1
  ·refine(Ik λy hy=> ?_).trans (LY _)
   rw [Hz (h y hy)];rfl
  ·simp [H3 SK,H3 Rm]
 have SN:∀(pre:Own) (p:PV),(∀y∈pre,y.1≠f)->JI f (pre ++ [(f,p),(I,PV.obj ob),(a,.lst xs)])=some p:=λpre p h=>by
  rw [IA]
  have:JI f pre=none:=IK.mpr λy hy=>by simpa using (h y hy).symm
  rw [this]
  simp
 with_reducible
  refine rq (own':=[(f,.lst ((bc F 4).map .int)),(I,.obj ob),(a,.lst xs)]) X2 B1 rm (fj.comp (need:=false) (ps:=(Hg 4).map wB) (qs:=Iu 4 PV.none) (Ow:=λi=>[(f,.lst ((bc F i).map .int)),(I,.obj ob),(a,.lst xs)]) (λit D env=>by fail) (by with_unfolding_all exact⟨rfl,by done,by done⟩) (λx env=>by fail) rfl (by decide) (λi=>rfl) (kR▸ie Ev.str) (by decide) ?step) (by done) (by fail) (cz X2 (by done)) ?nx
 case step=>
  intro i p q hp hq
  have hi:i < 4:=by
   obtain⟨h,_⟩:=HD.mp hp
   exact h
  simp only [Hy,ID hi] at hp
  cases hp
  have hq:PV.none=q:=by
   rw [List.getElem?_replicate,HE hi] at hq
   exact IF hq
  refine hq▸?_
  refine⟨_,bg.local (by done),by k_extra"u",λpre TX=> ?_⟩
  have Sg:∀y∈pre,y.1≠f:=λy hy=>TX y hy (f,_) f'
  have hA:=G4 (k:=k) (own:=pre ++ [(f,.lst ((bc F i).map .int)),(I,.obj ob),(a,.lst xs)]) (aa:=f) (x:=F.getD i 0) L' (SN pre _ Sg) (dk F i) (by rw [fw];omega)
  have hB:=Gw (k:=k) (own:=pre ++ [(f,.lst ((bc F i).map .int)),(I,.obj ob),(a,.lst xs)]) (aa:=f) (x:=F.getD i 0) L' (SN pre _ Sg) (dk F i) (by rw [fw];omega)
  rw [UM pre _ _ Sg] at hA hB
  have hm:∀(p q:PV),(pre ++ [(f,p),(I,PV.obj ob),(a,.lst xs)]).map (·.1)=(pre ++ [(f,q),(I,PV.obj ob),(a,.lst xs)]).map (·.1):=λp q=>by simp
  have hs:=eF F i
  with_reducible
   refine fj.lC (d:= !(i % 2==1)) (Tr.conv (Tr.cmp ?t1 ?t2 aj.Gx Th.bool (by decide+kernel)) ((by decide+kernel:∀z,z < 4->(!(MY "ac" (cb z) 0 ("ac":Str).length 1).isEmpty)= !(z % 2==1)) i hi)) ?br
  case br=>
   cases hb:(i % 2==1)
   ·rw [hb] at hs
    rw [HE (by rfl)]
    show fj C (k+2) _ _ _ (pre ++ [(f,.lst ((bc F (i+1)).map .int)),(I,.obj ob),(a,.lst xs)]) _ _ _
    rw [hs]
    with_reducible
     refine fj.call ?f1 Fl.fo (ab.cons ?f2 (ab.cons (Ev.bh (x:=cb i) (es:=aU F) (Ev.d ?f3) ?f4 (eZ F i hi) (λ_ _=>by fail)) ab.nil)) bR.nil hA (hm _ _) (λenv=>⟨_,_,by fail⟩) (λenv=>by fail)
    all_goals with_reducible intros
   ·rw [hb] at hs
    rw [Hz (by decide)]
    show fj C (k+2) _ _ _ (pre ++ [(f,.lst ((bc F (i+1)).map .int)),(I,.obj ob),(a,.lst xs)]) _ _ _
    rw [hs]
    with_reducible
     refine fj.call ?g1 Fr.fo (ab.cons ?g2 (ab.cons (Ev.bh (x:=cb i) (es:=aU F) (Ev.d ?g3) ?g4 (eZ F i hi) (λ_ _=>by fail)) ab.nil)) bR.nil hB (hm _ _) (λenv=>⟨_,_,by fail⟩) (λenv=>by fail)
    all_goals with_reducible intros
  all_goals with_reducible intros
 case nx=>
  intro s2 X3 B3
  have X4:=(St.sM (own₁:=[(f,.lst ((bc F 4).map .int))]) (own':=[(I,.obj ob),(a,.lst xs)]) X3 (by
   intro y hy z hz
   simp only [Hc,H0,or_false] at hy hz
   subst hz
   rcases hy with rfl |rfl
   ·exact SK.symm
   ·exact Rm.symm) 1).to (l:=("told",.lst (Iu 4 .none))::("shelf",.lst ((bc F 4).map .int))::rH cs a j F) (aD (aB (by k_extra"r") (λ_=>rfl)) (aD (aV (p:= .raw (.ref f)) (by k_extra"r") (by rw [eX (es:=(bc F 4).map .int) (by simp),fJ]))
    (aD (aB (by k_extra"r") (Plain.au (gS F))) (aD (aB (by k_extra"r") (Plain.int _)) (aD (aV (p:= .raw (.ref a)) (by k_extra"r") (nC (by simp [Hr,HQ Rm.symm]))) (gq (by k_extra"rs") (iG cs)))))))
  have X5:St C W SL [(I,.obj ob),(a,.lst xs)] (aC (("told",.lst (Iu 4 .none))::("shelf",.lst ((bc F 4).map .int))::rH cs a j F)) env s2:=X4.drop (pe Sw) (memC SJ (memC Rv λ_ h=>nomatch h)) (by
   rcases Hc.mp X3.noLoc.1 with q |q
   ·exact absurd q.symm (X3.ownLoc _ f')
   ·exact q)
  have h9:=next _ X5 (B3.less (own':=[(I,.obj ob),(a,.lst xs)]) (λy hy=>⟨y.2,j' _ hy⟩))
  conv at h9 in iV _=>whnf
  exact h9
noncomputable def DN (cs:List Int) (j z:Nat):Nat:=((Hg 4).filter λo=>(aF cs o).getD j 0==(aF cs z).getD j 0).length
def lg (cs:List Int)(j:Nat)(F:List Int):Prop:=∀z < 4,((bK ltI false (bc F 4) (F.getD z 0):Nat):Int)=F.getD z 0/\((bK ltI true (bc F 4) (F.getD z 0):Nat):Int)=F.getD z 0+DN cs j z
noncomputable abbrev Fg (cs:List Int) (j:Nat) (F:List Int) (z:Nat):PV:= .tup [.int (F.getD z 0),.int (F.getD z 0+DN cs j z)]
theorem zT (L:Lx C f3){cs:List Int}{a:He}{F:List Int}{j:Nat}(hj:j < 3)(hF:lg cs j F)(rm:ak A (k+2))(X:St C W SL own (aC (("told",.lst (Iu 4 .none))::("shelf",.lst ((bc F 4).map .int))::rH cs a j F)) env s)(B:Bs C Wt (λ_=>true) t own env s)
 (next:∀J,St C W SL own (aC (rH cs a j F)) env J->Bs C Wt (λ_=>true) t own env J->Hi C.M A (HA [] env) Q E J):
 Hi C.M A (HA (iV 5) env) Q E s:=by
 have L':=L.L
 have e0:((0:Int)+(j:Int))=(j:Int):=by lia
 refine ae L'.bL.ex λ_ Fl _=> ?_
 refine ae L'.br.ex λ_ Fr _=> ?_
 have Sl:kK (.lst ((Hg 4).map (Fg cs j F))):=dh (n:=2) (rfl) (by decide)
 have heq:∀z < 4,PV.tup [.int (bK ltI false (bc F 4) (F.getD z 0):Nat),.int (bK ltI true (bc F 4) (F.getD z 0):Nat)]=Fg cs j F z:=λz hz=>by
  simp only [(hF z hz).1,(hF z hz).2]
 have Ti:∀z,(((Hg 4).filter λo=>(aF cs o).getD j 0==(aF cs z).getD j 0).map wB).length=DN cs j z:=λz=>by rw [Hb];rfl
 have Ur:∀z,DN cs j z<=4:=λz=>by
  have:=II (λo=>(aF cs o).getD j 0==(aF cs z).getD j 0) (Hg 4)
  exact this
 conv in iV _=>whnf
 with_reducible
  refine bH X B rm (Tr.conv (p:=false || (false || false)) (Tr.or (Tr.cmp ?_ (Ev.conv (p:= .lst (Iu (4:Int).toNat [PV.none]).flatten) (Ev.bin (by intros) (by intros) (aj.mulL (by decide) (by decide) (by decide))) (by fail)) (aj.fz (dh (n:=1) rfl (by decide))) Th.bool (by decide+kernel)) (λ_=>Tr.or (Tr.cmp (fS.ev (c9 (need:=false) (l:=Hg 4) (g:=wB) (by with_unfolding_all exact⟨rfl,by done,by done⟩) (λx env=>by fail) (Fg cs j F) (kR▸ie Ev.str) (by decide) ?st1)) (fS.ev (c9 (need:=false) (l:=Hg 4) (g:=wB) (by with_unfolding_all exact⟨rfl,by done,by done⟩) (λx env=>by fail) (Fg cs j F) (kR▸ie Ev.str) (by decide) ?st2)) (aj.fz Sl) Th.bool (by decide+kernel)) (λ_=>Tr.qA))) (rfl)) ?nx
 case st1=>
  intro z hz
  have hz:=HN.mp hz
  refine⟨_,bg.local (by done),by k_extra"u",?_⟩
  simp only [<-heq z hz]
  with_reducible
   refine Ev.tuple (ab.cons (Ev.du ?_ Fl.fo (ab.cons ?_ (ab.cons (Ev.bh (x:=cb z) (es:=aU F) (Ev.d ?_) ?_ (eZ F z hz) (λ_ _=>by fail)) ab.nil)) bR.nil ((λz=>GW (k:=k+1) (own:=[]) (x:=F.getD z 0) L' (dk F 4) (by rw [fw];decide)) z)) (ab.cons (Ev.du ?_ Fr.fo (ab.cons ?_ (ab.cons (Ev.bh (x:=cb z) (es:=aU F) (Ev.d ?_) ?_ (eZ F z hz) (λ_ _=>by fail)) ab.nil)) bR.nil ((λz=>GN (k:=k+1) (own:=[]) (x:=F.getD z 0) L' (dk F 4) (by rw [fw];decide)) z)) ab.nil)) (Hv (by fail))
  all_goals with_reducible intros
 case st2=>
  intro z hz
  have hz:=HN.mp hz
  refine⟨_,bg.cell (by done) (by fail),by k_extra"u",?_⟩
  have lz:=Ur z
  with_reducible
   refine Ev.tuple (ab.cons (Ev.bh (x:=cb z) (es:=aU F) (Ev.d ?_) ?_ (eZ F z hz) (λ_ _=>by fail)) (ab.cons (Ev.bin (Ev.bh (x:=cb z) (es:=aU F) (Ev.d ?_) ?_ (eZ F z hz) (λ_ _=>by fail)) (Ev.conv (Ev.a5 ?_ (ab.cons (fS.ev (bI (need:=false) (l:=Hg 4) (g:=wB) (by with_unfolding_all exact⟨rfl,by done,by done⟩) (λx env=>by fail) wB (λo=>(aF cs o).getD j 0==(aF cs z).getD j 0) (kR▸ie Ev.str) (by decide) ?st3)) ab.nil) (cC.zb (by rw [Ti];lia))) (by rw [Ti])) aj.add) ab.nil)) (Hv (by fail))
  case st3=>
   intro o ho
   refine⟨_,bg.local (by done),by k_extra"u",?_,λ_=> ?_⟩
   ·with_reducible
     refine Tr.cmp (Ev.item (n:=j) (Ev.l (xs:=(aF cs o).map .int) (Ev.bh (x:=cb o) (es:=mP cs) (Ev.d ?_) ?_ (mA cs (HN.mp ho)) (λ_ _=>by fail))) ?_ e0 (ju cs o hj) (by lia) (λ_ _=>by fail)) (Ev.item (n:=j) (Ev.l (xs:=(aF cs z).map .int) (Ev.bh (x:=cb z) (es:=mP cs) (Ev.d ?_) ?_ (mA cs hz) (λ_ _=>by fail))) ?_ e0 (ju cs z hj) (by lia) (λ_ _=>by fail)) aj.DO Th.bool (by decide+kernel)
    all_goals with_reducible intros
   ·with_reducible intros
  all_goals with_reducible intros
 case nx=>
  intro s1 X1 B1
  exact next _ (X1.to (by k_extra"rs")) B1
 all_goals with_reducible intros
noncomputable def dM (cs:List Int) (n:Nat):List PV:=(Hg n).map λj=> .au (aU (bO cs j 6))
theorem pY (cs:List Int)(n:Nat):dM cs (n+1)=dM cs n ++ [.au (aU (bO cs n 6))]:=by
 unfold dM
 simp only [JV,HC]
 rfl
theorem rY (cs:List Int)(n:Nat):(dM cs n).length=n:=by simp [dM]
theorem j9 (cs:List Int)(n:Nat):∀p∈dM cs n,Plain p:=λp hp=>by
 refine ae (Hd.mp hp) λc _ P8=> ?_;subst P8
 exact Plain.au (gS _)
noncomputable abbrev DP (cs:List Int):List (Str×PV):=("ahead",.lst (dM cs 3))::zk cs
theorem uS (cs:List Int):∀e∈DP cs,Plain e.2:=memC (Plain.lst (j9 cs 3)) (iG cs)
theorem Ez (L:Lx C f3){cs:List Int}{a:He}(hF:∀j < 3,lg cs j (bO cs j 6))(rm:ak A (k+2))
 (X:St C W SL [(a,.lst [])] (aC (("ahead",.raw (.ref a))::zk cs)) env s)(B:Bs C Wt (λ_=>true) t [(a,.lst [])] env s)
 (next:∀W J,St C W SL [] (aC (DP cs)) env J->Bs C Wt (λ_=>true) t [] env J->Hi C.M A (HA (aK 15) env) Q E J):
 Hi C.M A (HA (aK 14) env) Q E s:=by
 have L':=L.L
 have Qu:sizeLine=16777216:=rfl
 have Rv:a∈W:=(X.owns _ f').1
 conv in aK _=>whnf
 with_reducible
  refine a7 (need:=false) (k:=k+2) (ps:=aI 0 3) X B rm ?it (λi=>[(a,.lst (dM cs i))]) (λ_=>aC (("ahead",.raw (.ref a))::zk cs)) (λi=>upd (aC (("ahead",.raw (.ref a))::zk cs)) "j" (.int ((0:Int)+(i:Int)))) (by fail) (by fail) (λ_=>by fail) (λ_=>False) ?Qs ?turn (λ_ _ _ h=>h.elim) ?done (λx=>by fail)
 case it=>exact aX.cJ (n:=3) (by intros) (by intros) (by decide) (by decide) (λenv=>by fail)
 case Qs=>
  intro i p hp
  refine(el hp)▸?_
  exact bg.cell (by done) rfl
 case turn=>
  intro I ob i p t' QF s1 hI hp X1 B1
  have hi:=er hp
  have SA:a≠I:=hI (a,_) f'
  have Ug:a∈I::W:=j' _ Rv
  have TV:I∈I::W:=f'
  have X2:=X1.to (l:=vC cs a i) (by k_extra"rs")
  have fin:=yY (k:=k+1) (Q:=λf P9=>match f with
   | .next | .cont=>St C (I::W) SL ((I,.obj ob)::[(a,.lst (dM cs (i+1)))]) (aC (("ahead",.raw (.ref a))::zk cs)) env P9/\Bs C QF (λ_=>true) t' ((I,.obj ob)::[(a,.lst (dM cs (i+1)))]) env P9
   | .brk=>False
   | .ret v=>∃p own' Qa,False/\Rr C (I::W) P9.heap v p/\St C (I::W) SL own' Qa env P9/\Bs C QF (λ_=>true) t' own' env P9) (E:=λ_ _=>False) L hi rm TV Ug X2 B1 λf s2 Sw SK Rm X3 B2=>
   AJ L (k:=k+1) Sw Ug TV SK Rm SA (by rw [rY];lia) rm X3 B2 λs3 X4 B3=>Al L (k:=k) SA Ug TV rm X4 B3 λs4 X5 B4=>by
    refine zT L (k:=k) hi (hF i hi) rm X5 B4 λs5 X6 B5=> ?_
    rw [<-pY] at X6 B5
    exact Hq ⟨X6.to (by k_extra"rs"),B5⟩
  conv at fin in iV _=>whnf
  with_reducible refine G' fin ?_ λ_ _ h=>h
  intro f P9 h
  cases f <;> exact h
 case done=>
  intro s1 X1 B1
  have X2:=(X1.settle 1).to (l:=DP cs) (aD (aV (p:= .raw (.ref a)) (by k_extra"r") (by rw [eX (es:=dM cs 3) (by simp [Hr,aI]),eP (j9 cs 3)])) (gq (by k_extra"rs") (iG cs)))
  have h9:=next _ _ X2 (B1.less (own':=[]) (by simp))
  conv at h9 in aK _=>whnf
  exact h9
set_option maxRecDepth 100000
variable {prog:Kc}
theorem mi {it t:He}{i:Nat} {items}{x:y'}{Q:y'->Hh->Prop}(hit:s.heap.IsTupleIter it t i)(ht:s.heap.IsTuple t items)(hx:items[i]? =some x)
 (hQ:∀h',h'.IsTupleIter it t (i+1)->Iv it s.heap h'->Q x {s with heap:=h'}):Hi (model prog w) A (JS (.ref it)) Q E s:=by
 refine iI (id hit) λo ho hc hd=> ?_
 obtain⟨ol,Va,_,nl,V6⟩:=ht
 unfold JS
 refine Ha (JC (name:=Lv "__next__") hit.typeIs F.slot_tuple_iterator_next
  (Kl F.slot_tuple_iterator_next hit.typeIs F.entry_tuple_iterator_next ?_ (F.args_tuple_iterator_next_1 _)))
 show Hi _ _ (field (.ref it) 0 >>=_) _ _ s
 refine Ha (JJ ho hd (x:= .ref t) rfl ?_)
 show Hi _ _ (if(Ju t==Mt)=true then _ else _) _ _ s
 refine(Hz (show ¬((Ju t==Mt)=true) from Ii))▸?_
 show Hi _ _ (field (.ref it) 1 >>=_) _ _ s
 refine Ha (JJ ho hd (x:= .int i 0) rfl ?_)
 show Hi _ _ (seqItems? (.ref t) >>=_) _ _ s
 refine Ha (KY Va V6 ?_)
 simp only [JD,hx]
 refine Ha (O5 ho hd (by simp) (Hu ⟨x,rfl,Hu (hQ _ ?_ (It ..))⟩))
 exact⟨_,JO _ ho (Ib.isFreed_of_fields (N2 hd _)),(Ib.cls_mapFields ..).trans hc,by
  rw [N2 hd];simp [JE]⟩
theorem uC {it t:He}{i:Nat} {items}{Q:y'->Hh->Prop}(hh:A.handled=none)(hit:s.heap.IsTupleIter it t i)(ht:s.heap.IsTuple t items)(hx:items[i]? =none)
 (hE:∀h' e,NA it s.heap h'->(∃o,h'.get? e=some o/\o.cls= .type "StopIteration")->E (.ref e) {s with heap:=h'}):Hi (model prog w) A (JS (.ref it)) Q E s:=by
 refine iI (id hit) λo ho hc hd=> ?_
 obtain⟨ol,Va,_,nl,V6⟩:=ht
 unfold JS
 refine Ha (JC (name:=Lv "__next__") hit.typeIs F.slot_tuple_iterator_next
  (Kl F.slot_tuple_iterator_next hit.typeIs F.entry_tuple_iterator_next ?_ (F.args_tuple_iterator_next_1 _)))
 show Hi _ _ (field (.ref it) 0 >>=_) _ _ s
 refine Ha (JJ ho hd (x:= .ref t) rfl ?_)
 show Hi _ _ (if(Ju t==Mt)=true then _ else _) _ _ s
 rw [Hz (show ¬((Ju t==Mt)=true) from Ii)]
 show Hi _ _ (field (.ref it) 1 >>=_) _ _ s
 refine Ha (JJ ho hd (x:= .int i 0) rfl ?_)
 show Hi _ _ (seqItems? (.ref t) >>=_) _ _ s
 refine Ha (KY Va V6 ?_)
 simp only [JD,hx]
 refine Ha (Nb (Ha (O5 ho hd (by simp) ?_)))
 show Hi _ _ (newExc (.type "StopIteration") [] >>=_) _ _ _
 refine Ha ?_
 simp only [newExc,newTuple]
 refine Ha (IL ?_ (by size_fits))
 refine Ha (m:=firstArgMember _ _) (OJ (a:=Mt) (by first |rfl |(simp only [firstArgMember];rfl)) ?_)
 refine IL ?_ (by size_fits)
 refine Ha (wpAny_handled ?_)
 first |refine(show A.in1.handled=none from hh)▸?_ |rw [hh]
 exact wpAny_throw (hE _ _ (((It ..).extBut.push _).push _) ⟨_,Hp _ rfl,rfl⟩)
theorem G6 {n i j:Nat}(h:Nat.beq i j=false): @Ne Nat (n+i) (n+j):=λe=>Nat.ne_of_beq_eq_false h (Nat.add_left_cancel e)
theorem G9 {n i:Nat}: @Ne Nat (n+(i+1)) n:=JZ (M4 (Pw i))
theorem adr {n i:Nat}: @Ne Nat n (n+(i+1)):=Iw (M4 (Pw i))
theorem G8 {a n i:Nat}(h:a < n): @Ne Nat a (n+i):=Iw (Ht h (H6 n i))
theorem G7 {a n:Nat}(h:a < n): @Ne Nat a n:=Iw h
structure ZT (n l1 l2:Nat)(xs ys:Array y')(f:y')(k:Nat)(h:Ho):Prop where
 z:IsZip h (n+4) (n+2) (n+3) f
 ti:IsPair h (n+2) (.ref n) (.ref (n+1))
 to:∃a b,IsPair h (n+3) a b
 h1:h.IsTupleIter n l1 k
 h2:h.IsTupleIter (n+1) l2 k
 t1:h.IsTuple l1 xs
 t2:h.IsTuple l2 ys
noncomputable abbrev E8 (n l1 l2:Nat):List He:=[n+4,n+2,n+3,n,n+1,l1,l2]
noncomputable abbrev yG (n:Nat):List He:=[n+4,n+3,n,n+1]
theorem ZT.at {n l1 l2:Nat}{xs ys:Array y'}{f:y'}{k:Nat}{h h':Ho}(x:ZT n l1 l2 xs ys f k h)(e:∀b∈E8 n l1 l2,∀o,h.get? b=some o->h'.get? b=some o):ZT n l1 l2 xs ys f k h' where
 z:=e _ (by grind) _ x.z
 ti:=e _ (by simp) _ x.ti
 to:=let ⟨a,b,h⟩:=x.to;⟨a,b,e _ (by simp) _ h⟩
 h1:=x.h1.at λo=>e _ (by simp) o
 h2:=x.h2.at λo=>e _ (by simp) o
 t1:=x.t1.at λo=>e _ (by simp) o
 t2:=x.t2.at λo=>e _ (by simp) o
variable {n l1 l2:Nat}{xs ys:Array y'}
theorem zL {h':Ho}{e:He}{Q:Option y'->Hh->Prop}(he:∃o,h'.get? e=some o/\o.cls= .type "StopIteration")(hQ:Q none {s with heap:=h'}):Hi (model prog w) A (do
 if <-isInstance (.ref e) (.type "StopIteration") then pure none else throw (.ref e)) Q E {s with heap:=h'}:=by
 refine ae he λo ho hc=> ?_
 exact Ha (wpAny_isInstance (T:="StopIteration") (b:=true) ⟨o,ho,hc⟩ isSubtype_stop (Hu hQ))
theorem EH {h:Ho}{e m a b:Nat}{f:y'}{o:Ib}(hz:IsZip h m a b f)(ho:h.get? e=some o)(hc:o.cls= .type "StopIteration"):e≠m:=λx=>by
 subst x;replace ho:=hz▸ho;cases ho;simp at hc
theorem ZT.step (x:ZT n l1 l2 xs ys .none k s.heap)(q1:l1 < n)(q2:l2 < n){Q:Option y'->Hh->Prop}
 (H:(∃u v,xs[k]? =some u/\ys[k]? =some v/\∀h',ZT n l1 l2 xs ys (JE s.heap.objs.size) (k+1) h'->IsPair h' s.heap.objs.size u v->(∀b o,b∉yG n->s.heap.get? b=some o->h'.get? b=some o)->Q (some (.ref s.heap.objs.size)) {s with heap:=h'})\/(A.handled=none/\xs[k]? =none/\∀h',(∀b o,b∉yG n->s.heap.get? b=some o->h'.get? b=some o)->Q none {s with heap:=h'})):
 Hi (model prog w) A (pyNext (.ref (n+4))) Q E s:=by
 obtain⟨hz,Xl,⟨a,b,S0⟩,h1,h2,t1,t2⟩:=x
 have hT:s.TypeIs (.ref (n+4)) "zip":=⟨_,hz,rfl⟩
 refine Ha (Pb (JC (name:=Lv "__next__") hT F.slot_zip_next (Kl F.slot_zip_next hT F.entry_zip_next ?_ (F.args_zip_next_1 _))))
 show Hi _ _ (field (.ref (n+4)) 2 >>=_) _ _ _
 refine Ha (JJ hz rfl (x:= .bool false) rfl ?_)
 refine Ha (JJ hz rfl (x:= .ref (n+2)) rfl ?_)
 refine Ha (KY Xl rfl ?_)
 refine Ha ?_
 refine Ha (JJ hz rfl (x:= .none) rfl (Hu ?_))
 refine Ha (Nb ?_)
 refine Ha (JJ hz rfl (x:= .ref (n+3)) rfl ?_)
 refine Ha (Lj hz (by simp) λRS RO Qv=> ?_)
 replace RO:IsZip RS (n+4) (n+2) (n+3) .ellipsis:=RO
 refine Ha ?_
 simp only [List.zipIdx_cons,List.zipIdx_nil,JF,Lu]
 refine Ha (Ha (Pc ?_))
 refine H.elim (λH=> ?_) λH=>by
  refine Ha (uC H.1 (h1.extBut Qv.extBut (by(refine(?_: @Ne Nat _ _);omega))) (t1.extBut Qv.extBut (by(refine(?_: @Ne Nat _ _);omega))) H.2.1 λSz e QD he=> ?_)
  refine ae he λoe Yw Xw=> ?_
  have Tj:IsZip Sz (n+4) (n+2) (n+3) .ellipsis:=QD _ _ (by(refine(?_: @Ne Nat _ _);omega)) RO
  refine Lj Tj (by simp) λR9 _ QC=>zL ⟨oe,QC.extBut _ _ (EH Tj Yw Xw) Yw,Xw⟩ (H.2.2 _ λc o hc x=> ?_)
  simp only [Hc,H0,or_false,not_or] at hc
  exact QC.extBut _ _ hc.1 (QD _ _ hc.2.2.1 (Qv.extBut _ _ hc.1 x))
 refine bo H λu v hu hv hQ=> ?_
 refine Ha (mi (h1.extBut Qv.extBut (by(refine(?_: @Ne Nat _ _);omega))) (t1.extBut Qv.extBut (by(refine(?_: @Ne Nat _ _);omega))) hu λSz Vk QD=>Hu ?_)
 have Si:IsPair Sz (n+3) a b:=QD.extBut _ _ (by(refine(?_: @Ne Nat _ _);omega)) (Qv.extBut _ _ (by(refine(?_: @Ne Nat _ _);omega)) S0)
 refine Ha (KY Si rfl ?_)
 refine Ha (NJ Si λR9 RB QC=> ?_)
 replace RB:IsPair R9 (n+3) u b:=RB
 refine Ha (ON (Hu ?_))
 refine Ha (Ha (Pc ?_))
 refine Ha (mi (((h2.extBut Qv.extBut (by(refine(?_: @Ne Nat _ _);omega))).extBut QD.extBut (by(refine(?_: @Ne Nat _ _);omega))).extBut QC.extBut (by(refine(?_: @Ne Nat _ _);omega))) (((t2.extBut Qv.extBut (by(refine(?_: @Ne Nat _ _);omega))).extBut QD.extBut (by(refine(?_: @Ne Nat _ _);omega))).extBut QC.extBut (by(refine(?_: @Ne Nat _ _);omega))) hv λWW UD Ra=>Hu ?_)
 have Sd:IsPair WW (n+3) u b:=Ra.extBut _ _ (by(refine(?_: @Ne Nat _ _);omega)) RB
 refine Ha (KY Sd rfl ?_)
 refine Ha (NJ Sd λQL Q5 Rc=> ?_)
 replace Q5:IsPair QL (n+3) u v:=Q5
 refine Ha (ON (Hu (Hu ?_)))
 refine Ha (KY Q5 rfl ?_)
 refine Ha (O6 ?_)
 have QO:QL.objs.size=s.heap.objs.size:=by simp only [Rc.1,Ra.1,QC.1,QD.1,Qv.1]
 have Tq:IsZip QL (n+4) (n+2) (n+3) .ellipsis:=Rc.extBut _ _ (by(refine(?_: @Ne Nat _ _);omega)) (Ra.extBut _ _ (by(refine(?_: @Ne Nat _ _);omega)) (QC.extBut _ _ (by(refine(?_: @Ne Nat _ _);omega)) (QD.extBut _ _ (by(refine(?_: @Ne Nat _ _);omega)) RO)))
 have Sn:∀c o,c∉yG n->s.heap.get? c=some o->QL.get? c=some o:=λc o hc e=>by
  simp only [Hc,H0,or_false,not_or] at hc
  exact Rc.extBut _ _ hc.2.1 (Ra.extBut _ _ hc.2.2.2 (QC.extBut _ _ hc.2.1 (QD.extBut _ _ hc.2.2.1 (Qv.extBut _ _ hc.1 e))))
 have Vp:n+4 < QL.objs.size:=Hx Tq
 refine Ha ?_
 simp only [H8.SmallTypes.ownedTupleHandOut]
 have UG:IsZip (QL.push {cls:= .type "tuple",data:= .seq #[u,v]}) (n+4) (n+2) (n+3) .ellipsis:=Hj _ Tq
 refine Ha (Lj UG (by simp) λXh So Tp=> ?_)
 replace So:IsZip Xh (n+4) (n+2) (n+3) (JE QL.objs.size):=So
 refine Lj So (by simp) λR7 RE Tf=> ?_
 replace RE:IsZip R7 (n+4) (n+2) (n+3) (JE QL.objs.size):=RE
 have up:∀c o,c≠n+4->QL.get? c=some o->R7.get? c=some o:=λc o c1 e=>Tf.extBut _ _ c1 (Tp.extBut _ _ c1 (Hj _ e))
 have Tv:IsPair R7 QL.objs.size u v:=Tf.extBut _ _ (JZ Vp) (Tp.extBut _ _ (JZ Vp) (Hp _ rfl))
 rw [QO] at RE Tv
 refine Hu ⟨_,rfl,?_⟩
 rw [QO]
 have Yv:∀{t:Nat} {o:Ib},t < n->s.heap.get? t=some o->R7.get? t=some o:=λ{t o} ht e=>up _ _ (by(refine(?_: @Ne Nat _ _);omega)) (Sn _ _ (by have q0:t < n:=ht;simp_all;refine⟨?_,?_,?_,?_⟩ <;> (refine(?_: @Ne Nat _ _);omega)) e)
 exact Hu (hQ R7 ⟨RE,up _ _ (by(refine(?_: @Ne Nat _ _);omega)) (Sn _ _ (by simp) Xl),⟨_,_,up _ _ (by(refine(?_: @Ne Nat _ _);omega)) Q5⟩,(((Vk.extBut QC.extBut (by(refine(?_: @Ne Nat _ _);omega))).extBut Ra.extBut (by(refine(?_: @Ne Nat _ _);omega))).extBut Rc.extBut (by(refine(?_: @Ne Nat _ _);omega))).at λo e=>up _ o (by(refine(?_: @Ne Nat _ _);omega)) e,(UD.extBut Rc.extBut (by(refine(?_: @Ne Nat _ _);omega))).at λo e=>up _ o (by(refine(?_: @Ne Nat _ _);omega)) e,t1.at λo e=>Yv q1 e,t2.at λo e=>Yv q2 e⟩ Tv λc o hc e=>up c o (by rw [Hc,not_or] at hc;exact hc.1) (Sn c o hc e))
theorem ZT.walks (hh:A.handled=none)(q1:l1 < n)(q2:l2 < n)(hl:xs.size=ys.size):
 WalksU prog w A (n+4) (E8 n l1 l2) (yG n) xs.size (λi vals=>∃u v,xs[i]? =some u/\ys[i]? =some v/\vals=#[u,v]) (λi h=>ZT n l1 l2 xs ys .none i h) (λi T h=>ZT n l1 l2 xs ys (JE T) (i+1) h/\T∉yG n) where
 sub:=λc hc=>by
  simp only [Hc,H0,or_false] at hc
  rcases hc with rfl |rfl |rfl |rfl <;> grind
 frame:=λi h h' x e=>x.at e
 item:=λi s Q E hi x hQ=>by
  have lt:∀{c o},s.heap.get? c=some o->s.heap.objs.size≠c:=λe=>JZ (Hx e)
  refine x.step q1 q2 (.inl ⟨_,_,JT hi,JT (hl▸hi),λh' x' hp hk=> ?_⟩)
  refine hQ s.heap.objs.size #[xs[i],ys[i]] h' s.toks ⟨_,_,JT hi,JT (hl▸hi),rfl⟩ ⟨_,hp,rfl,_,rfl⟩ ⟨x',?_⟩ hk
  refine fB x.to λa b S0=> ?_
  refine ae x.h1 λ_ e1 _=> ?_
  refine ae x.h2 λ_ e2 _=> ?_
  have b1:=lt x.z;have b2:=lt S0;have b3:=lt e1;have b4:=lt e2
  simp only [Hc,H0,or_false,not_or]
  exact⟨b1,b2,b3,b4⟩
 go:=λelts k pos i T s Q E hm hQ=>by
  obtain⟨x,hT⟩:=hm
  refine fB x.to λa b S0=> ?_
  refine wpAny_letOwnedTupleGo_zip x.z λh' RN QJ=>hQ h' ⟨RN,QJ.extBut _ _ (by(refine(?_: @Ne Nat _ _);omega)) x.ti,⟨a,b,QJ.extBut _ _ (by(refine(?_: @Ne Nat _ _);omega)) S0⟩,x.h1.extBut QJ.extBut (by(refine(?_: @Ne Nat _ _);omega)),x.h2.extBut QJ.extBut (by(refine(?_: @Ne Nat _ _);omega)),x.t1.extBut QJ.extBut (by(refine(?_: @Ne Nat _ _);omega)),x.t2.extBut QJ.extBut (by(refine(?_: @Ne Nat _ _);omega))⟩ λc o hc e=>QJ.extBut _ _ (by rw [Hc,not_or] at hc;exact hc.1) e
 apart:=λi T h hm=>hm.2
 done:=λs Q E x hQ=>x.step q1 q2 (.inr ⟨hh,Na (Hk _),λh' hk=>hQ h' s.toks hk⟩)
 self:=λi s Q E x hQ=>OE x.z hQ
noncomputable abbrev E0 (h:Ho) (l1:He):Ho:=h.push {cls:= .type "tuple_iterator",data:= .fields #[.ref l1,.int 0 0]}
noncomputable abbrev Fd (h:Ho) (l1 l2:He):Ho:=(E0 h l1).push {cls:= .type "tuple_iterator",data:= .fields #[.ref l2,.int 0 0]}
noncomputable abbrev Ff (h:Ho) (l1 l2:He):Ho:=(Fd h l1 l2).push {cls:= .type "tuple",data:= .seq #[.ref h.objs.size,.ref (E0 h l1).objs.size]}
noncomputable abbrev E6 (h:Ho) (l1 l2:He):Ho:=(Ff h l1 l2).push {cls:= .type "tuple",data:= .seq #[.none,.none]}
noncomputable abbrev DJ (h:Ho) (l1 l2:He):Ho:=(E6 h l1 l2).push {cls:= .type "zip",data:= .fields #[.none,.bool false,.bool false,.ref (Fd h l1 l2).objs.size,.ref (Ff h l1 l2).objs.size]}
theorem o8 (l1 l2:He)(xs ys:Array y'):
 Meets (H8.«zip.__new__» ⟨[.type "zip",.ref l1,.ref l2],[]⟩) (λ_ R s=>s.heap.IsTuple l1 xs/\s.heap.IsTuple l2 ys/\R (.ok (.ret (.ref (E6 s.heap l1 l2).objs.size))) {s with heap:=DJ s.heap l1 l2}):=
 .of_wp λprog w A R s h=>by
  obtain⟨hp,g,d,tk,os⟩:=s;refine cZ h λSG TH h=> ?_
  have RD:=sub_zip
  have ZM:Px (Hh.heap ⟨hp.push {cls:= .type "tuple_iterator",data:= .fields #[.ref l1,.int 0 0]},g,d,tk,os⟩) l2 ys:=Px.push TH _
  wp_walk using Mo SG,Mo ZM
  exact⟨_,rfl,h⟩
theorem ZT.new (h1:s.heap.IsTuple l1 xs)(h2:s.heap.IsTuple l2 ys){Q:y'->Hh->Prop}
 (h:∀h',ZT s.heap.objs.size l1 l2 xs ys .none 0 h'->h'.objs.size=s.heap.objs.size+5->(∀c o,s.heap.get? c=some o->h'.get? c=some o)->Q (.ref (s.heap.objs.size+4)) {s with heap:=h'}):
 Hi (model prog w) A (call (.type "zip") [.ref l1,.ref l2]) Q E s:=by
 refine Py F.called_zip (by rfl) (F.typeCall_zip_2 _ _) (F.newCall_zip_2 _ _) (λobj=>F.args_object_init_3 obj _ _) F.entry_zip_new (o8 l1 l2 xs ys) ⟨h1,h2,?_⟩
 have z1:(E0 s.heap l1).objs.size=s.heap.objs.size+1:=Io ..
 have z2:(Fd s.heap l1 l2).objs.size=s.heap.objs.size+2:=by rw [Io,z1]
 have z3:(Ff s.heap l1 l2).objs.size=s.heap.objs.size+3:=by rw [Io,z2]
 have z4:(E6 s.heap l1 l2).objs.size=s.heap.objs.size+4:=by rw [Io,z3]
 have g5:(DJ s.heap l1 l2).get? (E6 s.heap l1 l2).objs.size=some _:=Hp _ rfl
 have g4:(DJ s.heap l1 l2).get? (Ff s.heap l1 l2).objs.size=some _:=Hj _ (Hp _ rfl)
 have g3:(DJ s.heap l1 l2).get? (Fd s.heap l1 l2).objs.size=some _:=Hj _ (Hj _ (Hp _ rfl))
 have g2:(DJ s.heap l1 l2).get? (E0 s.heap l1).objs.size=some _:=Hj _ (Hj _ (Hj _ (Hp _ rfl)))
 have up:∀c o,s.heap.get? c=some o->(DJ s.heap l1 l2).get? c=some o:=λc o x=>Hj _ (Hj _ (Hj _ (Hj _ (Hj _ x))))
 rw [z2,z3,z4] at g5
 rw [z1,z2] at g3
 rw [z3] at g4
 rw [z1] at g2
 rw [z4]
 exact⟨⟨_,g5,rfl⟩,h _ ⟨g5,g3,⟨_,_,g4⟩,⟨_,(Hj _ (Hj _ (Hj _ (Hj _ (Hp _ rfl))))),rfl,rfl⟩,⟨_,g2,rfl,rfl⟩,h1.at λo=>up _ o,h2.at λo=>up _ o⟩ (by rw [Io,z4]) up⟩
def tL (C:Cfg)(sc:Sc):Prop:=∃t∈C.tabs,sc.code= .ref t.1/\sc.qual ++ "<genexpr>"=t.2.2
theorem z0 (ok:C.Ok)(i:Inv C s)(QR:Bf sc env)(L:tL C sc):Hi C.M A (genexprCode env pos (env.qual ++ "<genexpr>") scope) (λ_ J=>ah C [] s J/\∃h' tk,J={s with heap:=h',toks:=tk}) (λ_ _=>False) s:=by
 refine iI L λt ht Se hq=> ?_
 refine aL (i.tabs t ht) λQi more hT hN=> ?_
 have Tz:t.2.1∈C.aq:=Hd.mpr ⟨t,ht,rfl⟩
 have QZ:env.code= .ref t.1:=by rw [QR.code];exact Se
 cases hC:JK pos (Qi ++ more).toList with
 |some cv=>
  refine xp hN.code λo vs op ho hd YT Sy hpd _ _ _=> ?_
  delta genexprCode PySem.codeAt
  rw [QZ,Hz (show ¬((Ju t.1==Mt)=true) from Ii)]
  refine Ha (O7 ho hd ?_)
  refine YT▸?_
  refine Ha (O7 Sy hpd ?_)
  refine hC▸?_
  exact Hu ⟨ah.refl _,s.heap,s.toks,rfl⟩
 |none=>
  refine wpAny_genexprCodeX QZ hN.code hN.tab hC λc' h' tk hx WL Qc _ Ua WC _=> ?_
  have RL:=hN.snoc (pos:=pos) hx WC.2 ((by refine QR.qual▸?_;exact hq:env.qual ++ "<genexpr>"=t.2.2)▸Ua)
  refine⟨⟨λa o h1 _ g=>hx a o (λq=>h1 (q▸Tz)) g,Hf WL (IB Qc),λt' RU Rw x=> ?_,rfl,id⟩,h',tk,rfl⟩
  by_cases hP:t'.2.1=t.2.1
  ·obtain rfl:=ok.inj t' RU t ht hP
   obtain rfl:Rw=Qi ++ more:=by
    have h1:=x.tab.2
    replace h1:=hN.tab.2▸h1
    cases h1;rfl
   exact⟨_,RL⟩
  ·exact⟨#[],(x.yz hN hx (λq=>ok.noCode t' RU (q▸Tz)) hP)⟩
theorem qj {h:Ho}:∀{xs:List Int}{vs:List y'},vs.length=xs.length->(∀j v,vs[j]? =some v->∃t,v=NM (xs.getD j 0) t)->fe C W h vs (xs.map .int)
 |[],[],_,_=>rfl
 |[],_::_,h,_=>by cases h
 |_::_,[],h,_=>by cases h
 |x::xs,v::vs,h,hp=>by
  obtain⟨t,rfl⟩:=hp 0 v rfl
  exact⟨_,vs,rfl,⟨t,rfl⟩,qj (Nat.succ.inj h) λj u hu=>by
   obtain⟨t,h⟩:=hp (j+1) u hu
   exact⟨t,(h)⟩⟩
theorem qF {h:Ho}:∀{xs:List Int}{vs:List y'}{j:Nat}{v:y'},fe C W h vs (xs.map .int)->vs[j]? =some v->∃t,v=NM (xs.getD j 0) t
 |[],vs,j,v,r,hv=>by
  have:vs=[]:=r
  subst this;cases hv
 |x::xs,vs,j,v,⟨v0,Ve,e,r0,r⟩,hv=>by
  subst e
  cases j with
  |zero=>obtain⟨t,rfl⟩:=r0;cases hv;exact⟨t,rfl⟩
  |succ j=>obtain⟨t,h⟩:=qF r (j:=j) hv;exact⟨t,(h)⟩
theorem ZT.D5 {h:Ho}{n l1 l2:Nat}{xs ys:Array y'}{f:y'}{j:Nat}(z:ZT n l1 l2 xs ys f j h):∀b∈yG n,∀(o:Ib)(vs:Array y')(q:Str)(t:Tok),h.get? b=some o->o.data= .fields vs->vs[1]? =some (.str q t)->False:=by
 refine memC (λo vs q t g2 g3 g4=> ?_) (memC (λo vs q t g2 g3 g4=> ?_) (memC (λo vs q t g2 g3 g4=> ?_) (memC (λo vs q t g2 g3 g4=> ?_) λ_ h=>nomatch h)))
 ·replace g2:=z.z▸g2;cases g2;cases g3;cases g4
 ·refine fB z.to λa b S0=> ?_
  replace g2:=S0▸g2;cases g2;cases g3
 ·refine iI z.h1 λoa ha _ da=> ?_
  replace g2:=ha▸g2;cases g2;replace g3:=da▸g3;cases g3;cases g4
 ·refine iI z.h2 λob hb _ db=> ?_
  replace g2:=hb▸g2;cases g2;replace g3:=db▸g3;cases g3;cases g4
theorem bN.zt {h h':Ho}{n l1 l2:Nat}{xs ys:Array y'}{f:y'}{j:Nat}{c P:He}{q:Str}{ps:Array y'}(x:bN h c P q ps)(z:ZT n l1 l2 xs ys f j h)(hc: @LT.lt Nat _ c n)(hP: @LT.lt Nat _ P n)(k:∀b o,b∉yG n->h.get? b=some o->h'.get? b=some o):bN h' c P q ps:=by
 have kn:∀{b:Nat} {o:Ib},b < n->h.get? b=some o->h'.get? b=some o:=λ{b o} hb g=>k b o (by
  simp_all
  refine⟨?_,?_,?_,?_⟩ <;> (refine(?_: @Ne Nat _ _);omega)) g
 have e1:h'.get? c=h.get? c:=by
  refine aL x.tab.1 λo vs g _=> ?_
  exact(kn hc g).trans g.symm
 have e2:h'.get? P=h.get? P:=(kn hP x.tab.2).trans x.tab.2.symm
 refine⟨by unfold Ho.IsCode;refine e1▸e2▸?_;exact x.code,by unfold Ho.TableAt;refine e1▸e2▸?_;exact x.tab,λpos c' e=> ?_⟩
 obtain⟨c₂,o2,U8,t2,g1,g2,g3,g4⟩:=x.recs pos c' e
 refine⟨c₂,o2,U8,t2,g1,k _ _ ?_ g2,g3,g4⟩
 exact λhm=>z.D5 _ hm _ _ _ _ g2 g3 g4
theorem Moved.aA {n l1 l2:Nat}{xs ys:Array y'}{f:y'}{j g:Nat}{s Rf s₅ U7:Hh}{C':He}(i:Inv C s)(e:ah C [] s Rf)(hn: @LE.le Nat _ s.heap.objs.size n)(z:ZT n l1 l2 xs ys f j Rf.heap)(hC: @LE.le Nat _ s.heap.objs.size C')
 (h5:∀b o,Rf.heap.get? b=some o->s₅.heap.get? b=some o)(Za:s₅.os=Rf.os)(hg5:AllBare Rf.gens->AllBare s₅.gens)(hm:PySem.Moved (C'::yG n) (GenOnlyQ g) s₅ U7)(X9:Rf.heap.get? C'=none):ah C [] s U7 where
 keep a o h1 h2 hg:=by
  have Qc: @LT.lt Nat _ a s.heap.objs.size:=Hx hg
  refine hm.heap a o ?_ (h5 a o (e.keep a o h1 h2 hg))
  simp_all
  refine⟨?_,?_,?_,?_,?_⟩ <;> (refine(?_: @Ne Nat _ _);omega)
 size:=Hf (Hf hn (IB (JM (H6 n 2) (Hx (hm.heap _ _ (by
  simp only [Hc,H0,or_false,not_or]
  refine⟨?_,?_,?_,?_,?_⟩
  ·rintro rfl;exact nomatch z.ti.symm.trans X9
  all_goals (refine(?_: @Ne Nat _ _);omega)) (h5 _ _ z.ti)))))) (Hk _)
 tabs t ht ps x:=by
  obtain⟨more,x'⟩:=e.tabs t ht ps x
  have hl:=x.lt
  refine⟨more,x'.zt z (Ht hl.1 hn) (Ht hl.2 hn) λb o hb g=>hm.heap b o ?_ (h5 b o g)⟩
  intro q
  rcases Hc.mp q with rfl |q
  ·replace g:=X9▸g;cases g
  ·exact hb q
 os:=hm.os.trans (Za.trans e.os)
 gens h:=hm.gens.bare (hg5 (e.gens h))
theorem ZT.lt {n l1 l2:Nat}{xs ys:Array y'}{f:y'}{j:Nat}{h:Ho}(z:ZT n l1 l2 xs ys f j h):∀b∈E8 n l1 l2,b < h.objs.size:=by
 refine fB z.to λta tb S0=> ?_
 refine ae z.h1 λo1 i1 _=> ?_
 refine ae z.h2 λo2 i2 _=> ?_
 refine ae z.t1 λo3 i3 _=> ?_
 refine ae z.t2 λo4 i4 _=> ?_
 exact memC (Hx z.z) (memC (Hx z.ti) (memC (Hx S0) (memC (Hx i1) (memC (Hx i2) (memC (Hx i3) (memC (Hx i4) λ_ h=>nomatch h))))))
theorem ZT.aA {n l1 l2:Nat}{xs ys:Array y'}{f:y'}{j:Nat}{s J:Hh}(z:ZT n l1 l2 xs ys f j s.heap)(e:ah C [] s J)(ht:∀a∈C.aq, @LT.lt Nat _ a n)(n1:l1∉C.aq)(n2:l2∉C.aq):ZT n l1 l2 xs ys f j J.heap:=by
 have k:∀b,b∉C.aq->∀o,s.heap.get? b=some o->J.heap.get? b=some o:=λb hb o g=>e.keep b o hb (λh=>nomatch h) g
 have q:∀i,n+i∉C.aq:=λi h=>HH.mpr (H6 n i) (ht _ h)
 exact z.at (memC (k _ (q 4)) (memC (k _ (q 2)) (memC (k _ (q 3)) (memC (k _ (q 0)) (memC (k _ (q 1)) (memC (k _ n1) (memC (k _ n2) λ_ h=>nomatch h)))))))
def A9 (us:List y')(xs:List Int):Prop:=us.length=xs.length/\∀i v,us[i]? =some v->∃t,v=NM (xs.getD i 0) t
theorem vA {zn:Str}{zp TR TM:Jm}{e1 e2:Expr}{xs ys:List Int}{R:y'->y'->He->Hh->Prop}(ok:C.Ok)(G:tL C sc)(hz:Ev C k sc own ρ (.Name zn zp) (.raw (.type "zip")))
 (Xi:ab C k sc own ρ [e1,e2] [.tup (xs.map .int),.tup (ys.map .int)])
 (Sa:∀env,HG [e1,e2] env=(false,IQ e1 env)::HG [e2] env)(QB:∀env,(Jo TR (HG [e2] env)).any (·.1)=false)(rm:ak A k)(X:St C W sc own ρ env s)
 (hR:∀n l1 l2 us ws code bi J,ah C [] s J-> @LE.le Nat _ s.heap.objs.size n->l1 < n->l2 < n->ZT n l1 l2 us.toArray ws.toArray .none 0 J.heap->A9 us xs->A9 ws ys->R (.ref (n+4)) code bi J):
 Hi C.M A (IQ (.Call (.Name zn zp) [e1,e2] [] TR) env) (λxv P5=>Hi C.M A (L6 xv) (λit P6=>P6.heap.NoLimit/\Hi C.M A (genexprCode env TM (env.qual ++ "<genexpr>") scope) (λcode P9=>Hi C.M A (builtinsFor env.globals env.builtins) (λbi Rf=>R it code bi Rf) E P9) E P6) E P5) E s:=by
 refine I6 (G' (hz W A env s rm X) ?_ λ_ _ q=>q.elim)
 rintro v s2 ⟨Vx,r2⟩
 obtain rfl:v= .type "zip":=r2
 have X2:=X.aA Vx
 refine Mk (G' (Xi W A env s2 TR rm X2) ?_ λ_ _ q=>q.elim) (Sa env) (QB env)
 rintro vs s3 ⟨e3',r3⟩
 have X3:=X2.aA e3'
 refine bo r3.inv2 λva vb P8 ra rb=> ?_;simp only [P8]
 refine ib ra λl1 us P8 n1 g1 q1=> ?_;refine P8▸?_
 refine ib rb λl2 ws P8 n2 g2 q2=> ?_;refine P8▸?_
 refine ZT.new (xs:=us.toArray) (ys:=ws.toArray) ⟨_,g1,rfl,_,rfl⟩ ⟨_,g2,rfl,_,rfl⟩ λh4 z4 ZF k4=> ?_
 have XX:ah C [] s3 {s3 with heap:=h4}:=ah.of_keeps (tk:=s3.toks) k4 (by simp only [ZF];exact H6 _ _)
 have X4:=X3.aA XX
 refine OE z4.z ⟨X4.inv.nolimit ok,?_⟩
 refine G' (z0 ok X4.inv X4.ok G) ?_ λ_ _ q=>q.elim
 rintro code s5 ⟨Uk,h5,tk5,rfl⟩
 have X5:=X4.aA Uk
 have hg:=X5.inv.ns ok.gT ok.g
 simp only [<-X.ok.globals] at hg
 obtain⟨bm,ob,b1,b2,b3,b4,b5,c1,c2,c3⟩:=ok.bmain
 exact wpAny_builtinsFor hg b1 b2 (X5.inv.old _ _ b4 b5) c1 c2 c3 (hR _ l1 l2 us ws _ _ _ (((Vx.trans e3').trans XX).trans Uk) ((Vx.trans e3').size) (Hx g1) (Hx g2) (z4.aA (s:={s3 with heap:=h4}) Uk (λa h=>X3.inv.gm a h) (λq=>n1 (.inl q)) (λq=>n2 (.inl q)))
  ⟨by simpa using aR.length q1,λi v h=>qF q1 h⟩ ⟨by simpa using aR.length q2,λi v h=>qF q2 h⟩)
theorem Ev.BN {tn zn xa xb:Str}{tp zp p1 p2 p3 pa pb pt TM TR:Jm}{kt:Nat}{e1 e2:Expr}{xs ys:List Int}(ok:C.Ok)(G:tL C sc)(hf:Ev C k sc own ρ (.Name tn tp) (.raw (.type "tuple")))(hz:Ev C k sc own ρ (.Name zn zp) (.raw (.type "zip")))
 (Xi:ab C k sc own ρ [e1,e2] [.tup (xs.map .int),.tup (ys.map .int)])(hl:xs.length=ys.length)(QO:xs.length<=sizeLine)
 (Vs:scope.isCoroutine=false)(Yx:∀y∈scope.names,y.2≠.cell/\y.2≠.free)(h0:scope.names.lookup (".0":Str)=some IS.local)(Ye:scope.names.lookup xa=some .local)(Xq:scope.names.lookup xb=some .local)(Rl:xa≠xb)(Qn:scope.kind= .function)
 (TU:(xa==("__debug__":Str))=false)(Zz:(xb==("__debug__":Str))=false)
 (Sa:∀env,HG [e1,e2] env=(false,IQ e1 env)::HG [e2] env)(QB:∀env,(Jo TR (HG [e2] env)).any (·.1)=false)
 (hs:∀env x,genFold (.Call (.Name zn zp) [e1,e2] [] TR) env x=pure x):
 Ev C k sc own ρ (.Call (.Name tn tp) [.GeneratorExp (.BinOp (.Name xa p1) .Add (.Name xb p2) p3) [⟨.Tuple [.Name xa pa,.Name xb pb] kt pt,.Call (.Name zn zp) [e1,e2] [] TR,[],0⟩] scope TM] [] pos) (.tup ((J5 (·+·) xs ys).map .int)):=λW A env s rm X=>by
 have SM:∀env elt gens scope pos,HG [.GeneratorExp elt gens scope pos] env=[(false,IQ (.GeneratorExp elt gens scope pos) env)]:=λ_ _ _ _ _=>by fail
 refine I6 (G' (hf W A env s rm X) ?_ λ_ _ q=>q.elim)
 rintro v s1 ⟨UI,r1⟩
 obtain rfl:v= .type "tuple":=r1
 have X1:=X.aA UI
 refine NS ?_ ?_
 ·rfl
 refine Lq (K2 ?_)
 refine wpAny_GeneratorExp_walksQT rm.handled Vs (cl:=aT env.cells scope.names []) (ei λx hx hf=>absurd hf (Yx x hx).2) (λy hy=>(Yx y hy).1) h0 Ye Xq Rl Qn (by have:=rm.depth;show A.depth < 1000;lia) (vA ok G hz Xi Sa QB rm X1 λn l1 l2 us ws code bi s5 Uk UY SG TH z5 U V=> ?_) (hs env)
 have hu:us.length=xs.length:=U.1
 have hw:ws.length=ys.length:=V.1
 have hls: @LT.lt Nat _ cStatics n:=by
  refine ae (X1.inv.nolimit ok) λ_ h _=> ?_
  exact Ht h.lt UY
 have VB:cStatics∉yG n:=by
  simp_all
  refine⟨?_,?_,?_,?_⟩ <;> (refine(?_: @Ne Nat _ _);omega)
 have Sh:passing (λ_=>true) us.toArray.size 0=Hg us.toArray.size:=by simp [passing]
 refine⟨n+4,E8 n l1 l2,yG n,us.toArray.size,_,_,_,λ_=>true,λi y=>∃t,y=NM ((J5 (·+·) xs ys).getD i 0) t,rfl,λA' hA=>ZT.walks hA SG TH (by simp [hu,hw,hl]),λi vals h=>by refine bo h λu v _ _ h=> ?_;exact⟨u,v,h⟩,z5,?_,(X1.aA Uk).inv.nolimit ok,VB,λaaa hk=>⟨?_,?_⟩,λa h6 YV gs UX ha hz6 k6 Wk st=> ?_⟩
 ·exact z5.lt
 ·intro A' E' i va vb P6 m₂ hA hP hN h1 h2 Uw
  exact Hu ⟨rfl,P6.heap,P6.toks,rfl,λ_ _ e=>e⟩
 ·intro A' E' i va vb P6 m₂ hA hP hpz hN h1 h2 Uw
  refine bo hP λu v VY ZU he=> ?_
  obtain⟨rfl,rfl⟩:va=u/\vb=v:=by simpa using HV Array.toList he
  obtain⟨ta,rfl⟩:=U.2 i _ (by simpa using VY)
  obtain⟨tb,rfl⟩:=V.2 i _ (by simpa using ZU)
  have hix:i < xs.length:=by refine hu▸?_;have:=(HD.mp (by simpa using VY:us[i]? =_)).1;exact this
  have ZW:(J5 (·+·) xs ys).getD i 0=xs.getD i 0+ys.getD i 0:=by
   simp_all
  refine PA (M8 (KO Qn Ye hN h1 ?_) TU)
  refine M8 (KO Qn Xq hN h2 ?_) Zz
  exact O9 ⟨⟨_,by rw [ZW]⟩,P6.heap,_,rfl,λ_ _ e=>e⟩
 ·refine LZ ?_
  have YD:=UI.trans Uk
  have Yl:∀b∈a::s5.heap.objs.size::Hg s5.heap.objs.size,b < h6.objs.size:=by
   intro b hb
   rw [hz6]
   rcases Hc.mp hb with rfl |hb
   ·exact IX _
   ·rcases Hc.mp hb with rfl |hb
    ·exact ME ha
    ·exact ME (Mf (HN.mp hb) ha)
  refine call_tuple_gen Wk.in4_3 (λi s st=>st.1.typeIs) st Yl f' (λs7 acc hm Q9=> ?_) (by rw [Sh,J3,IM,hu];exact QO)
  have e7:ah C [] s s7:=Moved.aA (s₅:={s5 with gens:=s5.gens.push gs,toks:=YV,heap:=h6}) X.inv YD (Hf UI.size UY) z5 (C':=s5.heap.objs.size) YD.size (by exact k6) (by rfl) (by exact λh=>h.push UX) hm (by
   cases q:s5.heap.get? s5.heap.objs.size with
   |none=>rfl
   |some o=>exact absurd (Hx q) (HR _))
  refine⟨e7.trans (ah.push _ s7.toks),s7.heap.objs.size,acc.toList,rfl,λq=> ?_,by exact Hp _ rfl,qj ?_ λj v hv=> ?_⟩
  ·rcases q with q |q
   ·exact absurd ((X.aA e7).inv.gm _ q) (HR _)
   ·exact absurd ((X.aA e7).low _ q) (HR _)
  ·simp only [K6,Q9.1,Sh]
   simp [hu,hl]
  ·obtain⟨i,hi,t,ht⟩:=Q9.2 j v (by simpa using hv)
   replace hi:=Sh▸hi
   obtain⟨Qc,rfl⟩:=HD.mp hi
   rw [List.getElem_range] at ht
   exact⟨t,ht⟩
set_option maxRecDepth 4000
noncomputable abbrev Ex:Str:="add_callers.<locals>."
noncomputable abbrev tupI (q:List Int):PV:= .tup (q.map .int)
noncomputable abbrev fT (es:List (Str×List Int)):List (Str×PV):=es.map λe=>(e.1,tupI e.2)
noncomputable abbrev k0:= @bW (List Int) (λn c=>J5 (·+·) c n)
noncomputable abbrev c6:= @gW (List Int) (λn c=>J5 (·+·) c n)
theorem mE {es:List (Str×List Int)}{x:Str}:(fT es).lookup x=(es.lookup x).map tupI:=lookup_map2 (f:=tupI)
theorem vY (n c:List Int)(hn:n.length=4)(hc:c.length=4):(J5 (·+·) c n).length=4:=by simp only [List.length_zipWith,hn,hc];rfl
theorem me {tg sr:List (Str×List Int)}(h:∀e∈tg,e.2.length=4)(h':∀e∈sr,e.2.length=4):∀e∈c6 tg sr,e.2.length=4:=s9 (P:=λq:List Int=>q.length=4) vY h' (sN (P:=λq:List Int=>q.length=4) h)
theorem cC.Dr {ps:List PV}:cC C k (.builtin "isinstance") [.tup ps,.raw (.type "tuple")] (.bool true):=λW A s vs rm g r=>by
 refine bo r.inv2 λv u P8 h1 h2=> ?_;refine P8▸?_
 refine ib h1 λa us P8 na ga ra=> ?_;refine P8▸?_
 obtain rfl:u= .type "tuple":=h2
 exact PySem.IsiPair.tuple_tuple ga rfl ⟨ah.refl _,rfl⟩
structure CI (C:Cfg)(fa:He)(body:List I9)(S:Scope)(pa:I')(q:Str)(code:y'):Prop where
 ex:∃fd,FnAt C fa fd body/\fd.scope=S/\fd.params=pa/\fd.defaults= .none/\fd.qualname ++ ".<locals>."=q/\fd.code=code
 tab:∃t∈C.tabs,code= .ref t.1/\q ++ "<genexpr>"=t.2.2
theorem CI.qx {fa:He}{body:List I9}{S:Scope}{pa:I'}{q:Str}{code:y'}{xs:List Str}{ps:List PV}{r:PV}(qs:List (Str×PV))(ok:C.Ok)(F:CI C fa body S pa q code)(hP:ma pa xs)(hn:∀x∈xs,S.names.lookup x=some .local\/S.names.lookup x=some .cell)(hl:ps.length=xs.length)(SV:xs.zip ps=qs)
 (Qb:own'.map (·.1)=own.map (·.1))
 (h:∀W A env s t Wt,ak A k->St C W ⟨S,q,code⟩ own (aC qs) env s->Bs C Wt (λ_=>true) t own env s->
  Hi C.M A (HA body env) (λf J=>(∃sc Qa,St C W sc own' Qa env J)/\Bs C Wt (λ_=>true) t own' env J/\Rr C W J.heap (match f with | .ret v=>v |_=> .none) r) (λ_ _=>False) s):
 gX C (k+1) own own' (.ref fa) ps [] r:=λW A s vs kvs rm g ho r1 r2=>by
 subst SV
 rw [r2.iT]
 refine D1 F.ex λfd F Ql SI S9 hq Vs=> ?_
 have TJ:vs.length=xs.length:=by rw [aR.length r1,hl]
 have Qk:(xs.zip vs).map (·.1)=xs:=LR (by simp_all)
 refine dE (own:=own) (args:=⟨vs,[]⟩) ok F g ho rm (lP (by rw [SI];exact hP) S9 TJ) (r1.zip hl.symm) (by rw [Qk];exact hP.nd) (λy hy=> ?_) ?_
 ·refine Ql▸?_
  exact hn _ (by have:y.1∈(xs.zip vs).map (·.1):=Hd.mpr ⟨y,hy,rfl⟩;rwa [Qk] at this)
 intro Lo env J hL X B A' QM
 have X':St C (Lo::W) ⟨S,q,code⟩ own (aC (xs.zip ps)) env J:=by
  simp only [<-Ql,<-hq,<-Vs];exact X
 refine G' (h _ A' env J _ _ QM X' B) ?_ λ_ _ q=>q
 intro f Qj zz;refine cZ zz λz3 B2 rr=> ?_;refine fB z3 λsc Qa X2=> ?_
 refine⟨B2.aA,?_,rr.drop λa ha=>j' _ ha⟩
 have x2:ez C (Lo::W) own' Qj:=X2.owns
 refine x2.drop λy hy=> ?_
 have:y.1∈own'.map (·.1):=Hd.mpr ⟨y,hy,rfl⟩
 rw [Qb] at this
 refine ae (Hd.mp this) λz hz e=> ?_
 refine e▸?_
 exact(ho z hz).1
theorem zS (L:Lx C f3)(F:CI C 56 (ay tb 3) (ai tb 3) (bM tb 3) Ex (.ref 55)){tg sr:List (Str×List Int)}(hz:tg.length<=1000)(RN:sr.length<=1000)(h4:∀e∈tg,e.2.length=4)(WB:∀e∈sr,e.2.length=4):aO C (k+1) own (.ref 56) [.au (fT tg),.au (fT sr)] [] (.au (fT (c6 tg sr))):=by
 have L':=L.L
 refine(CI.qx (k:=k) (own:=[]) (own':=[]) (xs:=["target","source"]) [("target",.au (fT tg)),("source",.au (fT sr))] L'.ok F ⟨rfl,rfl,rfl,rfl,rfl,by decide+kernel⟩ (by decide+kernel) rfl rfl rfl λW A env s t Wt rm X B=> ?_).EE
 have YM:tL C ⟨ai tb 3,Ex,.ref 55⟩:=F.tab
 refine tA (v:=tupI) (P:=λq:List Int=>q.length=4) L'.ok hz RN vY h4 WB ?_ rm X B
 intro W A env s t Wt ow a f x c n S E Q rm hc hn hl hq QQ X B next
 conv in CG=>whnf
 with_reducible refine step_if (b:=true) X B rm (Tr.plain (Ev.a5 (by intros) (by intros) cC.Dr) Th.bool (λ_ _=>by fail)) ?_
 intro s5 X5 B5
 refine(HE rfl)▸?_
 with_reducible refine dy (a:=a) (es:=fT f) (p:=tupI (J5 (·+·) c n)) X5 B5 rm (Ev.BN (xs:=c) (ys:=n) L'.ok YM (by intros) (by intros) (ab.cons ?g1 (ab.cons (Ev.bh (x:=x) (es:=fT f) (Ev.do ?g2 QQ) ?g3 ?g6 (λ_ _=>by fail)) ab.nil)) (hc.trans hn.symm) ?g7 (by fail) (by with_unfolding_all decide+kernel) (by fail) (by fail) (by fail) (by decide+kernel) (by fail) (by fail) (by fail) (λenv=>by fail) (λenv=>by fail) (λenv x=>by fail)) (by intros) (by intros) QQ ?g5 (by fail) ?g4
 case g4=>
  intro s6 X6 B6
  exact Hq (Hq (next s6 X6 B6))
 case g5=>rw [Hb];exact Hf hl (by decide)
 case g6=>simp only [mE,hq];rfl
 case g7=>rw [hc];decide
 all_goals with_reducible intros
structure aP where
 a:Int
 b:Int
 c:Int
 d:Int
 es:List (Str×List Int)
noncomputable def aP.pv (b:aP):PV:= .tup [.int b.a,.int b.b,.int b.c,.int b.d,.au (fT b.es)]
noncomputable def aP.add (t s:aP):aP:=⟨s.a+t.a,s.b+t.b,s.c+t.c,s.d+t.d,c6 t.es s.es⟩
theorem zw (L:Lx C f3)(FG:CI C 56 (ay tb 3) (ai tb 3) (bM tb 3) Ex (.ref 55)){t s:aP}(hz:t.es.length<=1000)(RN:s.es.length<=1000)(h4:∀e∈t.es,e.2.length=4)(WB:∀e∈s.es,e.2.length=4):aO C (k+2) own (.ref 49) [t.pv,s.pv] [] (t.add s).pv:=by
 have L':=L.L
 refine kN.call (xs:=["target","source"]) [("target",t.pv),("source",s.pv)] L'.ok L.af ⟨rfl,rfl,rfl,rfl,rfl,by decide+kernel⟩ (by decide+kernel) rfl rfl λW A env J t' Wt q code rm X B=> ?_
 conv in ay _ _=>whnf
 with_reducible refine iR (p:= .tup [.int s.a,.int s.b,.int s.c,.int s.d,.au (fT s.es)]) X B rm (by intros) (bg.tuple (bE.cons (bg.local (by done)) (bE.cons (bg.local (by done)) (bE.cons (bg.local (by done)) (bE.cons (bg.local (by done)) (bE.cons (bg.local (by done)) bE.nil (λenv=>rfl)) (λenv=>rfl)) (λenv=>rfl)) (λenv=>rfl)) (λenv=>rfl)) (λenv=>by with_unfolding_all exact⟨rfl,rfl⟩)) (by fail) (by fail) ?_
 intro s1 X1 B1
 with_reducible refine iR (p:= .tup [.int t.a,.int t.b,.int t.c,.int t.d,.au (fT t.es)]) X1 B1 rm (by intros) (bg.tuple (bE.cons (bg.local (by done)) (bE.cons (bg.local (by done)) (bE.cons (bg.local (by done)) (bE.cons (bg.local (by done)) (bE.cons (bg.local (by done)) bE.nil (λenv=>rfl)) (λenv=>rfl)) (λenv=>rfl)) (λenv=>rfl)) (λenv=>rfl)) (λenv=>by with_unfolding_all exact⟨rfl,rfl⟩)) (by fail) (by fail) ?_
 intro s2 X2 B2
 with_reducible refine cy (p:= .tup [.int (s.a+t.a),.int (s.b+t.b),.int (s.c+t.c),.int (s.d+t.d),.au (fT (c6 t.es s.es))]) X2 B2 rm (Ev.tuple (ab.cons (by intros) (ab.cons (by intros) (ab.cons (by intros) (ab.cons (by intros) (ab.cons (Ev.du (by intros) L.ac.fo (by intros) bR.nil (zS L FG hz RN h4 WB)) ab.nil))))) (Hv (by fail))) ?_
 intro v J X' B' r
 exact⟨⟨_,_,X'⟩,B',r⟩
set_option maxRecDepth 100000
section
open AutoSeq1 (wpAny_loadPart')
open PySem.MeetsSeq PySem.MeetsSeq2 PySem.MeetsSeq3 PySem.SeqRoads2 PySem.SeqAt
def BA (prog:Kc)(w:Jx)(A:JR)(s:Hh)(y x:y'):Prop:=
 ∀(E:y'->Hh->Prop) (Q:Bool->Hh->Prop),Q true s->Hi (model prog w) A (eqBool y x) Q E s
def MeetsIn (prog:Kc)(w:Jx)(t:Jj Fin)(S:PySem.Spec):Prop:=
 ∀(A:JR) (R:Result->Hh->Prop) (s:Hh),S A R s->
  Hi (model prog w) A.in1 t (λfin J=>match fin with | .done f=>R (.ok f) J | .again c'=>c'.quiet=true/\KD (model prog w) A c' R J) (λe J=>R (.error e) J) s
theorem vy {prog:Kc}{w:Jx}(l b:He)(items P':Array y')(n n2:Nat)(dd S3:Option He)(sl SQ:Array (Option y'))(QO:items.size=P'.size)(k:Nat):
 ∀i:Nat,items.size - i=k->MeetsIn prog w (H8.«list.__eq__.loop» ⟨[.ref l,.ref b,JE i,JE 3],[]⟩)
  (λA R s=>s.heap.get? l=some {cls:= .type "list",dict:=dd,data:= .seq items n,slots:=sl}/\s.heap.get? b=some {cls:= .type "list",dict:=S3,data:= .seq P' n2,slots:=SQ}/\
   (∀j (h1:j < items.size) (h2:j < P'.size),BA prog w A.in1 s items[j] P'[j])/\
   R (.ok (.ret (.bool false))) s):=by
 induction k with
 |zero=>
  intro i hk A R s h
  obtain⟨hp,g,d,tk,os⟩:=s;refine lZ h λhl hb he h=> ?_
  wp_walk using HY hl,HY hb
  have Ut:items[((i:Nat):Int).toNat]? =none:=by simp;exact LF hk
  have Us:P'[((i:Nat):Int).toNat]? =none:=by simp;simp_all
  simp only [Ut,Us]
  wp_walk using HY hl,HY hb
  show R (.ok (.ret (.bool (items.size !=P'.size)))) _
  refine QO▸?_
  simpa using h
 |succ k ih=>
  intro i hk A R s h
  obtain⟨hp,g,d,tk,os⟩:=s;refine lZ h λhl hb he h=> ?_
  wp_walk using HY hl,HY hb
  have Qc:i < items.size:=by exact LJ hk
  have RR:i < P'.size:=by simp_all
  refine((by simp [Qc]:items[((i:Nat):Int).toNat]? =some items[i]))▸((by simp [RR]:P'[((i:Nat):Int).toNat]? =some P'[i]))▸?_
  refine Ha (he i Qc RR _ _ ?_)
  wp_walk
  refine((by push_cast;rfl:((i:Int)+1)=((i+1:Nat):Int)))▸?_
  exact⟨MQ plain_eq_loop _,Ma entry_eq_loop (by
   refine(KZ plain_eq_loop _)▸?_
   exact ih (i+1) (by grind -splitIndPred) A R _ ⟨hl,hb,he,h⟩)⟩
theorem uT {prog:Kc}{w:Jx}(l b:He)(items P':Array y')(n n2:Nat)(dd S3:Option He)(sl SQ:Array (Option y'))(QO:items.size=P'.size):
 MeetsIn prog w (H8.«list.__ne__» ⟨[.ref l,.ref b],[]⟩)
  (λA R s=>s.heap.get? l=some {cls:= .type "list",dict:=dd,data:= .seq items n,slots:=sl}/\s.heap.get? b=some {cls:= .type "list",dict:=S3,data:= .seq P' n2,slots:=SQ}/\
   (∀j (h1:j < items.size) (h2:j < P'.size),BA prog w A.in1 s items[j] P'[j])/\
   R (.ok (.ret (.bool false))) s):=by
 intro A R s h
 obtain⟨hp,g,d,tk,os⟩:=s;refine lZ h λhl hb he h=> ?_
 have f3:=AutoSeq1.sub_list_list
 wp_walk using HY hl,HY hb
 exact⟨MQ plain_eq_loop _,Ma entry_eq_loop (by
  refine(KZ plain_eq_loop _)▸?_
  exact vy l b items P' n n2 dd S3 sl SQ QO _ 0 rfl A R _ ⟨hl,hb,he,h⟩)⟩
theorem jE {α:Type}{x:Str}{v:α}:∀{l:List (Str×α)},(l.map (·.1)).Nodup->(x,v)∈l->l.lookup x=some v
 |[],_,h=>by cases h
 |(y,u)::l,hn,h=>by
  rw [Hw,HJ] at hn
  simp only [Hr]
  rcases Hc.mp h with hh |hh
  ·injection hh with h1 h2
   simp only [h1,h2,beq_self_eq_true]
  ·have:(x==y)=false:=by
    rw [beq_eq_false_iff_ne]
    rintro rfl
    exact hn.1 (Hd.mpr ⟨(x,v),hh,rfl⟩)
   refine this▸?_
   exact jE hn.2 hh
theorem lQ {s:Hh}{Rh:List (Str×PV)}{kb:List (Str×y')}(rb:bC C.S (C.N W) s.heap kb Rh)(nd:(Rh.map (·.1)).Nodup)(hu:A.in1.units+64 < cLine)(QR:∀e∈Rh,kK e.2):
 ∀{es:List (Str×PV)} {ka:List (Str×y')},bC C.S (C.N W) s.heap ka es->(∀e∈es,e∈Rh)->KeqHits A.in1 s kb ka true
 |[],ka,ra,_=>by
  rw [show ka=[] from ra]
  exact .nil
 |(x,p)::es,ka,ra,hs=>by
  refine bo ra λv r e hv hr=> ?_
  subst e
  have h1:Rh.lookup x=some p:=jE nd (hs _ f')
  have hp:=QR _ (hs _ f')
  refine ae (bC.find rb h1) λy hy W9=> ?_
  obtain⟨as,r1⟩:=Rp.reads hv hp.1
  obtain⟨bs,r2⟩:=Rp.reads W9 hp.1
  have h2:=keq_at r1 r2 hp.2 hp.2 hu
  simp only [lT hp.1] at h2
  have:=KeqHits.hit hy h2 (lQ rb nd hu QR hr λe he=>hs e (j' _ he))
  rwa [K7] at this
theorem rO (hu:A.in1.units+64 < cLine){v u:y'}{es:List (Str×PV)}(QR:∀e∈es,kK e.2)(hv:Rr C W s.heap v (.au es))(VY:Rr C W s.heap u (.au es)):BA C.prog C.w A s v u:=λE Q h=>by
 obtain⟨a,ds,n,kvs,rfl,_,ga,sa,ra⟩:=hv
 obtain⟨b,Vj,n',Q2,rfl,_,gb,sb,rb⟩:=VY
 refine Ip ?_
 refine wpAny_ite_split (λRl=>Ha (Nb (Hu h))) (λ_=> ?_)
 have nd:(es.map (·.1)).Nodup:=by
  have:=sb.2.2.2
  rwa [bC.keys rb] at this
 have Y5:A.units < cLine:=by
  have:A.in1.units=A.units+1:=rfl
  lia
 refine Ha (show Hi _ _ (HZ .Eq (.ref a) (.ref b)) _ _ _ from keq_eq (r:=true) (iL sa) (iL sb) (aW ga sa) (aW gb sb) Y5 (λ_=>lQ rb nd hu QR ra λe he=>he) ?_)
 rw [(by simp only [bC.length ra,bC.length rb]:kvs.length=Q2.length),beq_self_eq_true,K7]
 exact Mz h
theorem aj.qk {xs:List (List (Str×PV))}(QR:∀es∈xs,∀e∈es,kK e.2):aj C (HZ .NotEq) (.lst (xs.map .au)) (.lst (xs.map .au)) (.bool false):=λW A s v u rm g h1 h2=>by
 refine gB h1 λa vs n QI _ ga ra=> ?_;refine QI▸?_
 refine gB h2 λb us n2 QI _ gb rb=> ?_;refine QI▸?_
 have hu:A.units+64 < cLine:=rm.deep
 have SG:=aR.length ra
 have ta:s.TypeIs (.ref a) "list":=⟨_,ga,rfl⟩
 refine wpAny_richCompare_same_room (op:= .NotEq) ta (⟨_,gb,rfl⟩) F.slot_list_ne (Nc (codeAny_call_builtin F.slot_list_ne.plain F.entry_list_ne (F.slot_list_ne.check _ _ _ _ _ _ _ _ ta (F.args_list_ne_2 _ _) (uT a b vs.toArray us.toArray n n2 none none #[] #[] (by simp [SG,(aR.length rb)]) A (wants (λv J=>v≠.notImplemented/\(ah C [] s J/\Rr C W J.heap v (.bool false))) (λ_ _=>False)) s ⟨ga,gb,λj q1 q2=> ?_,?_⟩)))) (by exact Lr hu)
 ·have Zk:j < vs.length:=by simpa using q1
  have hj:j < xs.length:=by simpa [SG] using Zk
  have hp:(xs.map PV.au)[j]? =some (.au xs[j]):=by simp [hj]
  refine ae (aR.get ra hp) λv' e1 r1=> ?_
  refine ae (aR.get rb hp) λu' e2 r2=> ?_
  have UI:vs.toArray[j]=v':=by
   have:=(HD.mp e1).2
   simpa using this
  have Vx:us.toArray[j]=u':=by
   have:=(HD.mp e2).2
   simpa using this
  simp only [UI,Vx]
  exact rO (by have:=rm.units;show A.units+1+1+64 < 9900;lia) (QR _ (Jv hj)) r1 r2
 ·exact⟨(λx=>nomatch x),ah.refl _,rfl⟩
end
set_option maxRecDepth 4000
theorem pT {α:Type}(l:List α)(a b:Nat):eR (some (a:Int)) (some (b:Int)) l=(l.take b).drop a:=by
 unfold eR
 simp only [Option.elim_some,O3]
 rw [List.take_eq_take_iff.mpr (show min (min b l.length) l.length=min b l.length from JW (K1 _ _))]
 by_cases h:a<=l.length
 ·rw [JW h]
 ·have h1:l.length<=a:=Nat.le_of_not_le h
  have h2:(l.take b).length<=l.length:=L2 ..
  rw [M0 h1,Ku h2,Ku (Hf h2 h1)]
structure LS where
 line:List Str
 known:List Str
 steps:List (Str×List Str)
 book:List (Str×aP)
noncomputable def cF {α:Type} (f:α->PV) (es:List (Str×α)):List (Str×PV):=es.map λe=>(e.1,f e.2)
theorem ly {α:Type}(f:α->PV)(es:List (Str×α))(x:Str)(a:α):putD (cF f es) x (f a)=cF f (bp es x a):=by
 delta putD bp cF
 refine Ln▸?_
 have:((λ(e:Str×PV)=>decide (e.1=x))∘λ(e:Str×α)=>(e.1,f e.2))=λe=>decide (e.1=x):=rfl
 rw [this]
 split
 ·simp only [HB]
  apply Ik
  intro e _
  simp only [K9]
  split <;> rfl
 ·simp
theorem dm {α:Type}(f:α->PV){es:List (Str×α)}{x:Str}:(cF f es).lookup x=(es.lookup x).map f:=lookup_map2 (f:=f)
theorem lu {α:Type}(f:α->PV)(es:List (Str×α)):(cF f es).length=es.length:=Hb _
noncomputable def cq (l:List Str):PV:= .lst (l.map .str)
noncomputable def eD:aP:=⟨0,0,0,0,[]⟩
noncomputable def wJ (cs:List Int) (j:Nat):Int:=(aS cs).getD j 0
noncomputable def bz (cs:List Int) (order goal:Str) (j:Nat):List Int:=[if goal=order then 1 else 0,1,wJ cs j, -wJ cs j]
noncomputable def a5 (cs:List Int) (order goal:Str) (j:Nat):aP:=⟨if goal=order then 1 else 0,1,wJ cs j, -wJ cs j,[(order,bz cs order goal j)]⟩
noncomputable def LS.new (S:LS) (goal:Str):LS:=if goal∈S.known then S else⟨S.line ++ [goal],cM dA true S.known goal,S.steps,bp S.book goal eD⟩
noncomputable def LS.add (cs:List Int) (S:LS) (order goal:Str) (j:Nat):LS:={S.new goal with book:=bp (S.new goal).book goal ((((S.new goal).book.lookup goal).getD eD).add (a5 cs order goal j))}
noncomputable abbrev bQ (pre:Own) (bk st kn ln:He) (S:LS):Own:=pre ++ [(bk,.au (cF aP.pv S.book)),(st,.au (cF cq S.steps)),(kn,cq S.known),(ln,cq S.line)]
structure oZ (pre:Own)(bk st kn ln:He):Prop where
 p:∀y∈pre,y.1≠bk/\y.1≠st/\y.1≠kn/\y.1≠ln
 a:bk≠st
 b:bk≠kn
 c:bk≠ln
 d:st≠kn
 e:st≠ln
 f:kn≠ln
variable {pre:Own}{bk st kn ln:He}
theorem jr {a:He}{own:Own}{q:PV}(h:∀y∈pre,y.1≠a):aE (pre ++ own) a q=pre ++ aE own a q:=by
 unfold aE
 simp only [HC]
 congr 1
 refine(Ik λy hy=> ?_).trans (LY _)
 rw [Hz (h y hy)];rfl
theorem qK {a:He}{own:Own}(h:∀y∈pre,y.1≠a):JI a (pre ++ own)=JI a own:=by
 rw [IA]
 have:JI a pre=none:=IK.mpr λy hy=>by simpa using (h y hy).symm
 rw [this]
 rfl
theorem oZ.vj (A:oZ pre bk st kn ln)(p q r t u:PV):aE (pre ++ [(bk,p),(st,q),(kn,r),(ln,t)]) bk u=pre ++ [(bk,u),(st,q),(kn,r),(ln,t)]:=by
 rw [jr λy hy=>(A.p y hy).1]
 congr 1
 simp [aE,H3 A.a,H3 A.b,H3 A.c]
theorem oZ.Cf (A:oZ pre bk st kn ln)(p q r t u:PV):aE (pre ++ [(bk,p),(st,q),(kn,r),(ln,t)]) st u=pre ++ [(bk,p),(st,u),(kn,r),(ln,t)]:=by
 rw [jr λy hy=>(A.p y hy).2.1]
 congr 1
 simp [aE,A.a,H3 A.d,H3 A.e]
theorem oZ.F6 (A:oZ pre bk st kn ln)(p q r t u:PV):aE (pre ++ [(bk,p),(st,q),(kn,r),(ln,t)]) kn u=pre ++ [(bk,p),(st,q),(kn,u),(ln,t)]:=by
 rw [jr λy hy=>(A.p y hy).2.2.1]
 congr 1
 simp [aE,A.b,A.d,H3 A.f]
theorem oZ.FZ (A:oZ pre bk st kn ln)(p q r t u:PV):aE (pre ++ [(bk,p),(st,q),(kn,r),(ln,t)]) ln u=pre ++ [(bk,p),(st,q),(kn,r),(ln,u)]:=by
 rw [jr λy hy=>(A.p y hy).2.2.2]
 congr 1
 simp [aE,A.c,A.e,A.f]
theorem oZ.get3 (A:oZ pre bk st kn ln)(p q r t:PV):JI kn (pre ++ [(bk,p),(st,q),(kn,r),(ln,t)])=some r:=by
 rw [qK λy hy=>(A.p y hy).2.2.1]
 simp [Hr,HQ (H3 A.b),HQ (H3 A.d)]
theorem m1 {p q r t:PV}:(bk,p)∈pre ++ [(bk,p),(st,q),(kn,r),(ln,t)]:=by simp
theorem m2 {p q r t:PV}:(st,q)∈pre ++ [(bk,p),(st,q),(kn,r),(ln,t)]:=by simp
theorem m3 {p q r t:PV}:(kn,r)∈pre ++ [(bk,p),(st,q),(kn,r),(ln,t)]:=by simp
theorem m4 {p q r t:PV}:(ln,t)∈pre ++ [(bk,p),(st,q),(kn,r),(ln,t)]:=by simp
theorem lj {a b:Str}(h:a.cps.toList=b.cps.toList):a=b:=by
 cases a
 cases b
 exact HV Str.mk (MX.mp h)
theorem vm {l:List Str}(hs:jT dA l)(hn:l.Nodup)(x:Str):(l.take (bK dA true l x)).drop (bK dA false l x)=if x∈l then [x] else []:=by
 have Tg:∀y∈(l.take (bK dA true l x)).drop (bK dA false l x),y=x:=λy hy=>by
  obtain⟨i,hi,rfl⟩:=IT.mp hy
  rw [Kn,IG] at hi
  have Qc:bK dA false l x+i < l.length:=by grind -splitIndPred
  rw [J4,LB]
  have h1:=d7 oO hs (x:=x) (Hn Qc)
  have h2:=fR oO hs (x:=x) (Hn Qc)
  rw [H2 (by omega)] at h1
  rw [H2 (by simp)] at h2
  have:(l[bK dA false l x+i]).cps.toList=x.cps.toList:=OF (Lm.mp (of_decide_eq_false h1)) (Lm.mp (of_decide_eq_false h2))
  exact lj this
 have TS:((l.take (bK dA true l x)).drop (bK dA false l x)).Nodup:=((Lz _ _).trans (KJ _ _)).nodup hn
 split
 ·rename_i hx
  obtain⟨i,hi,rfl⟩:=IT.mp hx
  have h1:=d7 oO hs (x:=l[i]) (Hn hi)
  have h2:=fR oO hs (x:=l[i]) (Hn hi)
  simp only [(by unfold dA;exact H2 (List.lt_irrefl _):dA l[i] l[i]=false)] at h1 h2
  have b1:=of_decide_eq_false h1.symm
  have b2:=of_decide_eq_false h2.symm
  have QQ:l[i]∈(l.take (bK dA true l l[i])).drop (bK dA false l l[i]):=by
   refine IT.mpr ⟨i - bK dA false l l[i],by rw [Kn,IG];omega,?_⟩
   rw [J4,LB]
   congr 1
   omega
  match hq:(l.take (bK dA true l l[i])).drop (bK dA false l l[i]),QQ,Tg,TS with
  |[y],_,Tg,_=>rw [Tg y f']
  |y::z::r,_,Tg,TS=>
   exact absurd ((Tg y f').trans (Tg z (by simp)).symm) (by rw [HJ] at TS;exact λe=>TS.1 (e▸f'))
 ·rename_i hx
  match hq:(l.take (bK dA true l x)).drop (bK dA false l x) with
  |[]=>rfl
  |y::r=>
   rw [hq] at Tg
   exact absurd ((Tg y f')▸((LU _ _) ((OG _ _) (hq▸f'))):x∈l) hx
theorem FY (L:Lw C){aa:He}{l:List Str}{x:Str}(hw:own.lookup aa=some (cq l))(hs:jT dA l)(hz:l.length<=sizeLine):aO C (k+1) own (.ref vM) [.raw (.ref aa),.str x] [] (.int (bK dA false l x)):=aO.frozen 2 trivial L.ok λC' le=>by
 rw [show dB (bG own 2) [.raw (.ref aa),.str x]=[.lst (l.map .str),.str x] from by
  simp only [k5,k7,eX (es:=l.map .str) hw,eK];rfl]
 exact GL (L.le le) hs hz
theorem FU (L:Lw C){aa:He}{l:List Str}{x:Str}(hw:own.lookup aa=some (cq l))(hs:jT dA l)(hz:l.length<=sizeLine):aO C (k+1) own (.ref vH) [.raw (.ref aa),.str x] [] (.int (bK dA true l x)):=aO.frozen 2 trivial L.ok λC' le=>by
 rw [show dB (bG own 2) [.raw (.ref aa),.str x]=[.lst (l.map .str),.str x] from by
  simp only [k5,k7,eX (es:=l.map .str) hw,eK];rfl]
 exact GI (L.le le) hs hz
noncomputable abbrev Gf:List I9:=cI (ay tb 18) 19
noncomputable abbrev Fm (n:Nat):List I9:=Ky n (cI Gf 0)
noncomputable abbrev qE (n:Nat):List I9:=Ky n (cI (cI Gf 0) 1)
noncomputable abbrev oS (cs:List Int) (bk st kn ln:He):List (Str×PV):=("book",.raw (.ref bk))::("steps",.raw (.ref st))::("known",.raw (.ref kn))::("line",.raw (.ref ln))::DP cs
noncomputable abbrev lJ (cs:List Int) (bk st kn ln:He) (o:Str) (j:Nat):List (Str×PV):=("j",.int ((0:Int)+(j:Int)))::("order",.str o)::oS cs bk st kn ln
theorem CX (L:Lx C f3){cs:List Int}{bk st kn ln:He}{o g:Str}{gs:List Str}{j:Nat}{S:LS}(QT:S.steps.lookup o=some gs)(hg:gs[j]? =some g)(hj:j < 3)(rm:ak A (k+1))(X:St C W SL (bQ pre bk st kn ln S) (aC (lJ cs bk st kn ln o j)) env s)(B:Bs C Wt (λ_=>true) t (bQ pre bk st kn ln S) env s)
 (next:∀J,St C W SL (bQ pre bk st kn ln S) (aC (("goal",.str g)::lJ cs bk st kn ln o j)) env J->Bs C Wt (λ_=>true) t (bQ pre bk st kn ln S) env J->Hi C.M A (HA (qE 1) env) Q E J):
 Hi C.M A (HA (qE 0) env) Q E s:=by
 have hl:(cF cq S.steps).lookup o=some (.lst (gs.map .str)):=by rw [dm,QT];rfl
 have Wi:(gs.map PV.str)[j]? =some (.str g):=by rw [Hy,hg];rfl
 conv in qE _=>whnf
 with_reducible
  refine az (p:= .str g) X B rm (Ev.item (n:=j) (Ev.l (xs:=gs.map .str) (Ev.bh (x:=o) (es:=cF cq S.steps) (Ev.do ?_ m2) ?_ hl (λ_ _=>by fail))) ?_ (by lia) Wi (by lia) (λ_ _=>by fail)) (by done) (by fail) ?n1
 case n1=>
  intro s1 X1 B1
  with_reducible have h9:=next _ (X1.to (by k_extra"rs")) B1
  conv at h9 in qE _=>whnf
  with_reducible exact h9
 all_goals with_reducible intros
noncomputable abbrev lG (cs:List Int) (bk st kn ln:He) (o g:Str) (j:Nat):List (Str×PV):=("goal",.str g)::lJ cs bk st kn ln o j
theorem CW (L:Lx C f3){cs:List Int}{bk st kn ln:He}{o g:Str}{j:Nat}{S:LS}(Ap:oZ pre bk st kn ln)(hs:jT dA S.known)(hn:S.known.Nodup)(VS:S.known.length<=1000)(Tx:S.line.length<=1000)(Yu:S.book.length<=1000)(hgz:Mi g=true)(rm:ak A (k+2))(X:St C W SL (bQ pre bk st kn ln S) (aC (lG cs bk st kn ln o g j)) env s)(B:Bs C Wt (λ_=>true) t (bQ pre bk st kn ln S) env s)
 (next:∀J,St C W SL (bQ pre bk st kn ln (S.new g)) (aC (lG cs bk st kn ln o g j)) env J->Bs C Wt (λ_=>true) t (bQ pre bk st kn ln (S.new g)) env J->Hi C.M A (HA (qE 2) env) Q E J):
 Hi C.M A (HA (qE 1) env) Q E s:=by
 have L':=L.L
 have Qu:sizeLine=16777216:=rfl
 refine ae L'.bL.ex λ_ Fl _=> ?_
 refine ae L'.br.ex λ_ Fr _=> ?_
 refine ae L'.ir.ex λ_ Fi _=> ?_
 have XK:=GF (k:=k) (own:=bQ pre bk st kn ln S) (x:=g) L' (Ap.get3 _ _ _ _) hs (by omega)
 rw [Ap.F6] at XK
 have SE:eR (some ((bK dA false S.known g:Nat):Int)) (some ((bK dA true S.known g:Nat):Int)) (S.known.map PV.str)=((if g∈S.known then [g] else []).map PV.str):=by
  rw [pT,<-Kz,<-LX,vm hs hn]
 have UW:kK (.lst [.str g]):=dh (n:=1) (by simp [mG,yc,hgz]) (by decide)
 have YG:aj C (HZ .NotEq) (.lst ((if g∈S.known then [g] else []).map PV.str)) (.lst [.str g]) (.bool (decide (g∉S.known))):=by
  by_cases q:g∈S.known
  ·rw [HE q]
   exact(aj.fz UW).conv (by simp [q])
  ·rw [Hz q]
   exact(aj.Gh iA UW).conv (by simp [q];rfl)
 conv in qE _=>whnf
 with_reducible
  refine step_if (b:=decide (g∉S.known)) X B rm (Tr.cmp (Ev.conv (Ev.conv (Ev.ey (i:=some ((bK dA false S.known g:Nat):Int)) (j:=some ((bK dA true S.known g:Nat):Int)) (l:=none) (Ev.lo (xs:=S.known.map .str) (a:=kn) ?_ m3) (eh.some (Ev.du ?_ Fl.fo ?_ bR.nil (FY (k:=k+1) (own:=bQ pre bk st kn ln S) (x:=g) L' (Ap.get3 _ _ _ _) hs (by omega)))) (eh.some (Ev.du ?_ Fr.fo ?_ bR.nil (FU (k:=k+1) (own:=bQ pre bk st kn ln S) (x:=g) L' (Ap.get3 _ _ _ _) hs (by omega)))) eh.kg (by decide) (by rw [Hb];omega) (λ_ _=>⟨_,by fail⟩) (λ_ _=>by fail)) (HV PV.lst (dF _ _ _))) (HV PV.lst SE)) ?_ YG Th.bool (by decide+kernel)) ?n1
 case n1=>
  intro s1 X1 B1
  by_cases q:g∈S.known
  ·have hS:S.new g=S:=HE q
   rw [Hz (by simp [q])]
   rw [hS] at next
   with_reducible have h9:=next _ X1 B1
   conv at h9 in qE _=>whnf
   refine Hq ?_
   with_reducible exact h9
  ·have hS:S.new g=⟨S.line ++ [g],cM dA true S.known g,S.steps,bp S.book g eD⟩:=Hz q
   rw [HE (by simp [q])]
   replace next:=hS▸next
   with_reducible
    refine b6 X1 B1 rm (fj.call ?_ Fi.fo ?_ bR.nil XK ((λp q r t u=>by simp:∀(p q r t u:PV),(pre ++ [(bk,p),(st,q),(kn,u),(ln,t)]).map (·.1)=(pre ++ [(bk,p),(st,q),(kn,r),(ln,t)]).map (·.1)) _ _ _ _ _) (λenv=>⟨_,_,by fail⟩) (λenv=>by fail)) (λ_=>by fail) ?n2
   case n2=>
    intro s2 X2 B2
    with_reducible
     refine b6 X2 B2 rm (fj.append (xs:=S.line.map .str) (p:= .str g) ?_ m4 ?_ (by rw [Hb];lia) (λ_=>by fail) (λ_=>by fail) (by fail) (λ_=>by fail) (λ_=>by fail)) (λ_=>by fail) ?n3
    case n3=>
     intro s3 X3 B3
     rw [Ap.FZ] at X3 B3
     with_reducible
      refine dy (a:=bk) (es:=cF aP.pv S.book) (x:=g) (p:= .tup [.int 0,.int 0,.int 0,.int 0,.au []]) X3 B3 rm (Ev.tuple (ab.cons ?_ (ab.cons ?_ (ab.cons ?_ (ab.cons ?_ (ab.cons Ev.ku ab.nil))))) (Hv (by fail))) ?_ ?_ m1 (by rw [lu];lia) (by fail) ?n4
     case n4=>
      intro s4 X4 B4
      simp only [Ap.vj,show PV.tup [.int 0,.int 0,.int 0,.int 0,.au []]=aP.pv eD from rfl,ly,show S.line.map PV.str ++ [.str g]=(S.line ++ [g]).map PV.str from by rw [HC];rfl] at X4 B4
      have h9:=next _ X4 B4
      conv at h9 in qE _=>whnf
      refine Hq ?_
      with_reducible exact h9
     all_goals with_reducible intros
    all_goals with_reducible intros
   all_goals with_reducible intros
 all_goals with_reducible intros
theorem y6 (q:List Int):kK (tupI q):=dh (n:=1) (by simp [C5,yX]) (by decide)
theorem xS (es:List (Str×List Int)):∀e∈fT es,kK e.2:=λe he=>by
 refine ae (Hd.mp he) λe' _ P8=> ?_;subst P8
 exact y6 _
theorem ki (cs:List Int){j:Nat}(hj:j < 3):((aS cs).map PV.int)[j]? =some (.int (wJ cs j)):=int_at (by assumption)
noncomputable abbrev jo (cs:List Int) (o g:Str) (j:Nat):PV:= .au (fT [(o,bz cs o g j)])
noncomputable abbrev mw (cs:List Int) (b:aP) (o g:Str) (j:Nat):List PV:=[.au (fT b.es),jo cs o g j,.au (fT b.es),jo cs o g j]
theorem Ct (L:Lx C f3){cs:List Int}{bk st kn ln:He}{o g:Str}{j:Nat}{S:LS}{b:aP}(hb:S.book.lookup g=some b)(Wy:b.es.length<=1000)(hj:j < 3)(rm:ak A (k+2))(X:St C W SL (bQ pre bk st kn ln S) (aC (lG cs bk st kn ln o g j)) env s)(B:Bs C Wt (λ_=>true) t (bQ pre bk st kn ln S) env s)
 (next:∀J,St C W SL (bQ pre bk st kn ln S) (aC (("kept",.lst (mw cs b o g j))::("call",jo cs o g j)::lG cs bk st kn ln o g j)) env J->Bs C Wt (λ_=>true) t (bQ pre bk st kn ln S) env J->Hi C.M A (HA (qE 4) env) Q E J):
 Hi C.M A (HA (qE 2) env) Q E s:=by
 have L':=L.L
 have Qu:sizeLine=16777216:=rfl
 have e0:((0:Int)+(j:Int))=(j:Int):=by lia
 have hw:=ki cs hj
 have VP:(cF aP.pv S.book).lookup g=some (.tup [.int b.a,.int b.b,.int b.c,.int b.d,.au (fT b.es)]):=by simp only [dm,hb];rfl
 have RW:PV.int (if(g==o)=true then 1 else 0)= .int (if g=o then 1 else 0):=by simp
 have h4:[PV.int b.a,.int b.b,.int b.c,.int b.d,.au (fT b.es)][4]? =some (.au (fT b.es)):=rfl
 conv in qE _=>whnf
 with_reducible
  refine az (p:=jo cs o g j) X B rm (Ev.vJ (ks:=[_]) (es:=[(o,.tup [.int (if g=o then 1 else 0),.int 1,.int (wJ cs j),.int (-wJ cs j)])]) (by fail) (by fail) (λenv=>by fail) (cj.cons ?_ (Ev.tuple (ab.cons (Ev.conv (Ev.mh ?_ (ab.cons (Ev.cmp ?_ ?_ aj.Fy (by decide+kernel)) ab.nil) cC.Ei) RW) (ab.cons Ev.int (ab.cons (Ev.item (n:=j) (Ev.l (xs:=(aS cs).map .int) ?_) ?_ e0 hw (by lia) (λ_ _=>by fail)) (ab.cons (Ev.un (Ev.item (n:=j) (Ev.l (xs:=(aS cs).map .int) ?_) ?_ e0 hw (by lia) (λ_ _=>by fail)) One.neg) ab.nil)))) (Hv (by fail))) cj.nil) (by fail) (by fail)) (by done) (by fail) ?n1
 case n1=>
  intro s1 X1 B1
  with_reducible
   refine az (p:= .lst (mw cs b o g j)) (X1.to (l:=("call",jo cs o g j)::lG cs bk st kn ln o g j) (by k_extra"rs")) B1 rm (Ev.list (ab.cons (Ev.mh ?_ (ab.cons (Ev.b9 (n:=4) (Ev.t (xs:=[.int b.a,.int b.b,.int b.c,.int b.d,.au (fT b.es)]) (Ev.bh (x:=g) (es:=cF aP.pv S.book) (Ev.do ?_ m1) ?_ VP (λ_ _=>by fail))) Ev.int (by fail) h4 (by decide) (λ_ _=>by fail)) ab.nil) (cC.dict (by rw [Hb];lia))) (ab.cons (Ev.mh ?_ (ab.cons ?_ ab.nil) (cC.dict (by rw [Hb];exact Hv rfl))) (ab.cons (Ev.b9 (n:=4) (Ev.t (xs:=[.int b.a,.int b.b,.int b.c,.int b.d,.au (fT b.es)]) (Ev.bh (x:=g) (es:=cF aP.pv S.book) (Ev.do ?_ m1) ?_ VP (λ_ _=>by fail))) Ev.int (by fail) h4 (by decide) (λ_ _=>by fail)) (ab.cons ?_ ab.nil)))) (Hv (by fail))) (by done) (by fail) ?n2
  case n2=>
   intro s2 X3 B2
   with_reducible have h9:=next _ (X3.to (by k_extra"rs")) B2
   conv at h9 in qE _=>whnf
   with_reducible exact h9
  all_goals with_reducible intros
 all_goals with_reducible intros
theorem BI (L:Lx C f3)(FG:CI C 56 (ay tb 3) (ai tb 3) (bM tb 3) Ex (.ref 55)){cs:List Int}{bk st kn ln:He}{o g:Str}{j:Nat}{S:LS}{b:aP}(Ap:oZ pre bk st kn ln)(hb:S.book.lookup g=some b)(Wy:b.es.length<=900)(Td:∀e∈b.es,e.2.length=4)(hz:S.book.length<=1000)(rm:ak A (k+2))(X:St C W SL (bQ pre bk st kn ln S) (aC (("kept",.lst (mw cs b o g j))::("call",jo cs o g j)::lG cs bk st kn ln o g j)) env s)(B:Bs C Wt (λ_=>true) t (bQ pre bk st kn ln S) env s)
 (next:∀J,St C W SL (bQ pre bk st kn ln {S with book:=bp S.book g (b.add (a5 cs o g j))}) (aC (("order",.str o)::oS cs bk st kn ln)) env J->Bs C Wt (λ_=>true) t (bQ pre bk st kn ln {S with book:=bp S.book g (b.add (a5 cs o g j))}) env J->Hi C.M A (HA [] env) Q E J):
 Hi C.M A (HA (qE 4) env) Q E s:=by
 have L':=L.L
 have Qu:sizeLine=16777216:=rfl
 have VP:(cF aP.pv S.book).lookup g=some b.pv:=by simp only [dm,hb];rfl
 have QS:(fT [(o,bz cs o g j)]).lookup o=some (tupI (bz cs o g j)):=by
  show JI o [(o,tupI (bz cs o g j))]=_
  simp [Hr]
 have haf:aO C (k+2) (bQ pre bk st kn ln S) (.ref 49) [b.pv,(a5 cs o g j).pv] [] (b.add (a5 cs o g j)).pv:=zw L FG (by lia) (by show 1<=1000;decide) Td (by
  intro e he
  rw [Hm.mp he]
  rfl)
 have t1:eR none (some 2) (mw cs b o g j)=[fT b.es,fT [(o,bz cs o g j)]].map .au:=by
  rw [show (some 2:Option Int)=some ((2:Nat):Int) from rfl,jl];rfl
 have t2:eR (some 2) none (mw cs b o g j)=[fT b.es,fT [(o,bz cs o g j)]].map .au:=by
  rw [show (some 2:Option Int)=some ((2:Nat):Int) from rfl,iq];rfl
 have Qh:aj C (HZ .NotEq) (.lst ([fT b.es,fT [(o,bz cs o g j)]].map .au)) (.lst ([fT b.es,fT [(o,bz cs o g j)]].map .au)) (.bool false):=aj.qk λes he=>by
  rcases Hc.mp he with rfl |he
  ·exact xS _
  ·refine(Hm.mp he)▸?_;exact xS _
 have T1:aj C (Kx .Add) (tupI (bz cs o g j)) (.tup [jo cs o g j]) (.tup (((bz cs o g j).map PV.int) ++ [jo cs o g j])):=aj.FF (by simp [bz]) (by simp) (by show 4+1<=_;lia)
 conv in qE _=>whnf
 with_reducible
  refine dy (a:=bk) (es:=cF aP.pv S.book) (x:=g) (p:=(b.add (a5 cs o g j)).pv) X B rm (Ev.du ?_ L.af.fo (ab.cons (Ev.bh (x:=g) (es:=cF aP.pv S.book) (Ev.do ?_ m1) ?_ VP (λ_ _=>by fail)) (ab.cons (Ev.conv (Ev.bin (Ev.bh (x:=o) (es:=fT [(o,bz cs o g j)]) (Ev.d ?_) ?_ QS (λ_ _=>by fail)) (Ev.tuple (ab.cons ?_ ab.nil) (Hv (by fail))) T1) (rfl:PV.tup (((bz cs o g j).map PV.int) ++ [jo cs o g j])=(a5 cs o g j).pv)) ab.nil)) bR.nil haf) ?_ ?_ m1 (by rw [lu];lia) (by fail) ?n1
 case n1=>
  intro s1 X1 B1
  rw [Ap.vj,ly] at X1 B1
  with_reducible
   refine bH X1 B1 rm (Tr.cmp (Ev.conv (Ev.conv (Ev.ey (i:=none) (j:=some 2) (l:=none) (Ev.l (xs:=mw cs b o g j) ?_) eh.kg (eh.some Ev.int) eh.kg (by simp) ?_ (λ_ _=>⟨_,by fail⟩) (λ_ _=>by fail)) (HV PV.lst (dF _ _ _))) (HV PV.lst t1)) (Ev.conv (Ev.conv (Ev.ey (i:=some 2) (j:=none) (l:=none) (Ev.l (xs:=mw cs b o g j) ?_) (eh.some Ev.int) eh.kg eh.kg (by simp) ?_ (λ_ _=>⟨_,by fail⟩) (λ_ _=>by fail)) (HV PV.lst (dF _ _ _))) (HV PV.lst t2)) Qh Th.bool (by decide+kernel)) ?n2
  case n2=>
   intro s2 X2 B2
   exact next _ (X2.to (by k_extra"rs")) B2
  all_goals with_reducible intros
 all_goals with_reducible intros
theorem t5 (sep:Str)(h:sep.cps=#[]):∀(r:List Str)(acc:Array Nat),(r.foldl (λacc p=>acc ++ sep.cps ++ p.cps) acc).toList=acc.toList ++ (r.map (·.cps.toList)).flatten:=by
 intro q0
 induction q0 with
 |nil=>
  intro acc
  simp
 |cons p r ih=>
  intro acc
  rw [IJ,ih,h]
  simp
theorem Be (xs:List Str):(KX "" xs).cps.toList=(xs.map (·.cps.toList)).flatten:=by
 cases xs with
 |nil=>rfl
 |cons x r=>
  show ((r.foldl _ x.cps)).toList=_
  rw [t5 _ (by rfl)]
  simp
noncomputable def Ga (z:Nat):Nat:=("abcd":Str).cps.getD z 0
noncomputable def d9 (p:List Nat):Str:=⟨(p.map Ga).toArray⟩
theorem tT (p:List Nat):KX "" (p.map cb)=d9 p:=by
 refine lj ?_
 rw [Be]
 induction p with
 |nil=>rfl
 |cons z p ih=>
  simp only [Hw,KI,ih]
  rfl
theorem mS (p:List Nat):aN (d9 p)=p.map cb:=by
 simp only [aN,d9]
 rw [HB]
 rfl
theorem pP (p:List Nat)(b:Bool):cN (d9 p) b=d9 (if b=true then p else p.reverse):=by
 unfold cN
 cases b
 ·rw [Hz (by decide),Hz (by decide)]
  simp only [d9]
  rw [List.map_reverse]
 ·rfl
noncomputable def ltV (v:Nat->Int) (x y:Nat):Bool:=decide (v x < v y)
theorem Dg (v:Nat->Int):qD (ltV v):=⟨λa b h=>by unfold ltV at*;simp at*;lia,λa b c h1 h2=>by unfold ltV at*;simp at*;lia⟩
noncomputable def qz (v:Nat->Int) (b:Bool) (p:List Nat):List Nat:=(if b=true then p else p.reverse).foldl (λl x=>cM (ltV v) b l x) []
theorem zc (u:Str->Int)(b:Bool)(x y:Nat):lL u b (cb x) (cb y)=fD (ltV λz=>u (cb z)) b x y:=by
 simp only [lL,fD,ltV]
 cases b
 ·simp only [Jt,if_false]
  by_cases h:u (cb x)<=u (cb y)
  ·rw [HS h,H2 (by simp_all)];rfl
  ·rw [H2 h,HS (by simp_all)];rfl
 ·rfl
theorem uq (u:Str->Int)(b:Bool)(l:List Nat)(x:Nat):gG u b (l.map cb) (cb x)=(cM (ltV λz=>u (cb z)) b l x).map cb:=by
 delta gG cM
 simp only [iz]
 congr 1
 rw [List.findIdx_map]
 congr 1
 funext y
 exact zc u b x y
theorem wW (u:Str->Int)(b:Bool)(p:List Nat):∀i,di u b (p.map cb) i=((p.take i).foldl (λl x=>cM (ltV λz=>u (cb z)) b l x) []).map cb:=by
 intro i
 unfold di
 rw [<-Kz,List.foldl_map]
 generalize p.take i=q
 have:∀l:List Nat,q.foldl (λl x=>gG u b l (cb x)) (l.map cb)=(q.foldl (λl x=>cM (ltV λz=>u (cb z)) b l x) l).map cb:=by
  induction q with
  |nil=>intro l;rfl
  |cons x q ih=>
   intro l
   simp only [IJ,uq,ih]
 exact this []
noncomputable def Ce (F:List Int):List (Str×Int):=[("<",9),(">", -1),(cb 0,F.getD 0 0),(cb 1,F.getD 1 0),(cb 2,F.getD 2 0),(cb 3,F.getD 3 0)]
theorem xj (F:List Int):∀z,z < 4->(Ce F).lookup (cb z)=some (F.getD z 0)
 |0,_=>rfl
 |1,_=>rfl
 |2,_=>rfl
 |3,_=>rfl
 |z+4,h=>absurd h (by simp)
noncomputable def DH (cs:List Int) (j:Nat):Bool:=((cs.getD 2 0).fdiv 64+(j:Int)).fmod 2==0
noncomputable def ax (cs:List Int) (j:Nat) (o:Str):Str:=KX "" (di (gM (Ce (bO cs j 6))) (DH cs j) (aN (cN o (DH cs j))) 4)
noncomputable def zg (cs:List Int) (j z:Nat):Int:=gM (Ce (bO cs j 6)) (cb z)
theorem sC (cs:List Int)(j:Nat){z:Nat}(hz:z < 4):zg cs j z=(bO cs j 6).getD z 0:=by
 delta zg gM
 rw [xj _ z hz]
 rfl
noncomputable def gE (cs:List Int) (j:Nat) (p:List Nat):List Nat:=qz (zg cs j) (DH cs j) p
theorem gQ (cs:List Int)(j:Nat){p:List Nat}(h:p.length=4):ax cs j (d9 p)=d9 (gE cs j p):=by
 unfold ax
 rw [pP,mS,wW,H9 (by split <;> simp [h]),tT]
 rfl
theorem eU (v:Nat->Int)(b:Bool)(p:List Nat):(qz v b p).Perm p:=by
 have key:∀(q l:List Nat),(q.foldl (λl x=>cM (ltV v) b l x) l).Perm (q ++ l):=by
  intro q
  induction q with
  |nil=>intro l;exact Jy _
  |cons x q ih=>
   intro l
   refine(ih _).trans ?_
   exact((cW _ _ _ _).append_left q).trans M3
 refine(key _ []).trans ?_
 rw [Jc]
 split
 ·exact Jy _
 ·exact List.reverse_perm p
def oY (o:Str):Prop:=∃p:List Nat,p.Perm [0,1,2,3]/\o=d9 p
theorem oY.goal {o:Str}(h:oY o)(cs:List Int)(j:Nat):oY (ax cs j o):=by
 refine ae h λp hp P8=> ?_;subst P8
 exact⟨gE cs j p,(eU _ _ _).trans hp,gQ cs j hp.length_eq⟩
theorem oY.size {o:Str}(h:oY o):o.cps.size=4:=by
 refine ae h λp hp P8=> ?_;subst P8
 show (p.map Ga).toArray.size=4
 simp [hp.length_eq]
theorem oY.names {o:Str}(h:oY o)(F:List Int)(b:Bool):∀x∈aN (cN o b),∃v,(Ce F).lookup x=some v:=by
 refine ae h λp hp P8=> ?_;subst P8
 rw [pP,mS]
 intro x hx
 refine ae (Hd.mp hx) λz hz P8=> ?_;subst P8
 have RN:z∈p:=by
  split at hz
  ·exact hz
  ·exact List.mem_reverse.mp hz
 have:=hp.mem_iff.mp RN
 have h4:z < 4:=by
  simp only [Hc,H0,or_false] at this
  lia
 exact⟨_,xj F z h4⟩
theorem oY.ok {o:Str}(h:oY o):Mi o=true:=by
 refine ae h λp hp P8=> ?_;subst P8
 simp only [Mi,d9]
 rw [N3]
 intro c hc
 rw [OD] at hc
 refine ae (Hd.mp hc) λz hz P8=> ?_;subst P8
 have:=hp.mem_iff.mp hz
 simp only [Hc,H0,or_false] at this
 rcases this with rfl |rfl |rfl |rfl <;> decide+kernel
noncomputable def kY (cs:List Int) (o:Str):List Str:=(Hg 3).map λj=>ax cs j o
noncomputable def LS.Aa (cs:List Int) (S:LS) (o:Str):LS:={S with steps:=bp S.steps o (kY cs o)}
noncomputable def LS.at (cs:List Int) (S:LS) (o:Str) (j:Nat):LS:=(Hg j).foldl (λS j=>S.add cs o (ax cs j o) j) (S.Aa cs o)
noncomputable def LS.ord (cs:List Int) (S:LS) (o:Str):LS:=S.at cs o 3
noncomputable def LS.zero:LS:=⟨["abcd"],["abcd"],[],[("abcd",eD)]⟩
noncomputable def cK (S:LS) (k:Nat):List Str:=(S.line.take (k+1)).drop k
noncomputable def cR (cs:List Int):Nat->LS
 |0=>LS.zero
 |k+1=>(cK (cR cs k) k).foldl (LS.ord cs) (cR cs k)
theorem LS.jD (cs:List Int)(S:LS)(o:Str)(j:Nat):S.at cs o (j+1)=(S.at cs o j).add cs o (ax cs j o) j:=by
 unfold LS.at
 simp only [JV,Lp]
 rfl
structure Good (n:Nat)(S:LS):Prop where
 srt:jT dA S.known
 nd:S.known.Nodup
 k:S.known.length<=n+1
 l:S.line.length<=n+1
 b:S.book.length<=n+1
 t:S.steps.length<=n+1
 lk:∀x∈S.line,x∈S.known
 has:∀x∈S.known,∃b,S.book.lookup x=some b
 es:∀e∈S.book,e.2.es.length<=n/\∀q∈e.2.es,q.2.length=4
 ok:∀x∈S.known,oY x
theorem fv {α:Type}{es:List (Str×α)}{x:Str}{p:α}:(bp es x p).lookup x=some p:=by
 unfold bp
 by_cases h:(es.any λe=>decide (e.1=x))=true
 ·rw [HE h]
  induction es with
  |nil=>cases h
  |cons e es ih=>
   rw [Hw,Hr]
   by_cases q:e.1=x
   ·rw [HE q]
    have:(x==e.1)=true:=by simp [q]
    simp only [this]
   ·rw [Hz q]
    have:(x==e.1)=false:=HQ (H3 q)
    rw [this]
    refine ih ?_
    simp only [MP,H2 q,LW] at h
    exact h
 ·rw [Hz h]
  have:es.lookup x=none:=IK.mpr λe he=>by
   simpa using λq=>(λq=>h (K3.mpr ⟨e,he,HS q⟩)) q.symm
  simp only [IA,this]
  simp
theorem iU {α:Type}{es:List (Str×α)}{x y:Str}{p:α}(h:y≠x):(bp es x p).lookup y=es.lookup y:=by
 unfold bp
 split
 ·induction es with
  |nil=>rfl
  |cons e es ih=>
   rename_i hh
   rw [Hw,Hr,Hr]
   by_cases q:e.1=x
   ·rw [HE q]
    have h1:(y==x)=false:=HQ h
    simp only [q,h1]
    have key:∀l:List (Str×α),(l.map λe=>if e.1=x then(e.1,p) else e).lookup y=l.lookup y:=by
     intro l
     induction l with
     |nil=>rfl
     |cons e l ih=>
      rw [Hw,Hr,Hr]
      by_cases q:e.1=x
      ·rw [HE q,q,h1];exact ih
      ·rw [Hz q];rw [ih]
    exact key es
   ·rw [Hz q]
    have key:∀l:List (Str×α),(l.map λe=>if e.1=x then(e.1,p) else e).lookup y=l.lookup y:=by
     intro l
     induction l with
     |nil=>rfl
     |cons e l ih=>
      rw [Hw,Hr,Hr]
      by_cases q:e.1=x
      ·rw [HE q,q,(HQ h)];exact ih
      ·rw [Hz q];rw [ih]
    rw [key es]
 ·rw [IA]
  cases es.lookup y with
  |some q=>rfl
  |none=>simp [Hr,HQ h]
theorem rn (tg sr:List (Str×List Int)):(c6 tg sr).length<=tg.length+sr.length:=by
 have h1:=eN (λ(d:List (Str×List Int)) (e:Str×List Int)=>bp d e.1 e.2) (λd e=>eS d e.1 e.2) tg []
 have h2:=eN k0 (hK _) sr (tg.foldl (λd e=>bp d e.1 e.2) [])
 delta c6 gW
 simp only [Ir] at h1
 lia
theorem Good.new {n:Nat}{S:LS}(h:Good n S){g:Str}(hg:oY g):Good (n+1) (S.new g):=by
 unfold LS.new
 split
 ·exact⟨h.srt,h.nd,HO h.k,HO h.l,HO h.b,HO h.t,h.lk,h.has,λe he=>⟨HO (h.es e he).1,(h.es e he).2⟩,h.ok⟩
 ·rename_i q
  have hp:=cW dA true S.known g
  refine⟨mm oO _ _ h.srt,hp.nodup_iff.mpr (HJ.mpr ⟨q,h.nd⟩),?_,?_,?_,HO h.t,λx hx=> ?_,λx hx=> ?_,λe he=> ?_,λx hx=> ?_⟩
  ·have:=hp.length_eq
   have h2:=h.k
   simp_all
  ·have:=h.l
   rw [HT]
   exact Kj this
  ·have:=eS S.book g eD
   have h2:=h.b
   lia
  ·refine hp.mem_iff.mpr ?_
   rcases HP.mp hx with hx |hx
   ·exact j' _ (h.lk x hx)
   ·rw [Hm.mp hx];exact f'
  ·by_cases e:x=g
   ·rw [e];exact⟨_,fv⟩
   ·rcases Hc.mp (hp.mem_iff.mp hx) with hx |hx
    ·exact absurd hx e
    ·refine cA (h.has x hx) λb hb=> ?_
     exact⟨b,by rw [<-hb];exact iU e⟩
  ·exact e8 (P:=λ(b:aP)=>b.es.length<=n+1/\∀q∈b.es,q.2.length=4) (λe he=>⟨HO (h.es e he).1,(h.es e he).2⟩) ⟨H7 _,by intro q hq;cases hq⟩ e he
  ·rcases Hc.mp (hp.mem_iff.mp hx) with rfl |hx
   ·exact hg
   ·exact h.ok x hx
theorem Good.mono {n m:Nat}{S:LS}(h:Good n S)(le:n<=m):Good m S:=
 ⟨h.srt,h.nd,Hf h.k (by omega),Hf h.l (by omega),Hf h.b (by omega),Hf h.t (by omega),h.lk,h.has,λe he=>⟨Hf (h.es e he).1 le,(h.es e he).2⟩,h.ok⟩
theorem LS.nL (S:LS)(g:Str):g∈(S.new g).known:=by
 unfold LS.new
 split
 ·assumption
 ·exact(cW dA true S.known g).mem_iff.mpr f'
theorem Good.F7 {n:Nat}{S:LS}(h:Good n S){g:Str}{b c:aP}(hb:S.book.lookup g=some b)(hc:c.es.length<=1)(VO:∀q∈c.es,q.2.length=4):Good (n+1) {S with book:=bp S.book g (b.add c)}:=by
 have Uo:=h.es _ (aG hb)
 refine⟨h.srt,h.nd,HO h.k,HO h.l,?_,HO h.t,h.lk,λx hx=> ?_,λe he=> ?_,h.ok⟩
 ·have hm:g∈S.book.map (·.1):=Hd.mpr ⟨_,aG hb,rfl⟩
  have:=eS S.book g (b.add c)
  have h2:=h.b
  lia
 ·by_cases e:x=g
  ·refine e▸?_;exact⟨_,fv⟩
  ·obtain⟨b',T7⟩:=h.has x hx
   exact⟨b',by rw [<-T7];exact iU e⟩
 ·refine e8 (P:=λ(b:aP)=>b.es.length<=n+1/\∀q∈b.es,q.2.length=4) (λe he=>⟨HO (h.es e he).1,(h.es e he).2⟩) ⟨?_,?_⟩ e he
  ·have:=rn b.es c.es
   have h2:=Uo.1
   show (c6 b.es c.es).length<=_
   lia
  ·exact me Uo.2 VO
theorem Good.add {n:Nat}{S:LS}(h:Good n S)(cs:List Int)(o:Str){g:Str}(hg:oY g)(j:Nat):Good (n+2) (S.add cs o g j):=by
 have h1:=h.new hg
 refine cA (h1.has g (S.nL g)) λb hb=> ?_
 unfold LS.add
 refine hb▸?_
 exact h1.F7 hb (Hk _) (by
  intro q hq
  rw [Hm.mp hq]
  rfl)
theorem Good.Aa {n:Nat}{S:LS}(h:Good n S)(cs:List Int)(o:Str):Good (n+1) (S.Aa cs o):=
 ⟨h.srt,h.nd,HO h.k,HO h.l,HO h.b,by
  have:=eS S.steps o (kY cs o)
  have h2:=h.t
  show (bp S.steps o (kY cs o)).length<=_
  lia,h.lk,h.has,λe he=>⟨HO (h.es e he).1,(h.es e he).2⟩,h.ok⟩
theorem Good.at {n:Nat}{S:LS}(h:Good n S)(cs:List Int){o:Str}(ho:oY o):∀j,Good (n+1+2*j) (S.at cs o j):=by
 intro j
 induction j with
 |zero=>exact h.Aa cs o
 |succ j ih=>
  simp only [LS.jD]
  exact ih.add cs o (ho.goal cs j) j
theorem LS.nE (cs:List Int)(S:LS)(o g:Str)(j:Nat):(S.add cs o g j).steps=S.steps:=by
 simp only [LS.add,LS.new]
 split <;> rfl
theorem LS.vQ (cs:List Int)(S:LS)(o:Str):∀j,(S.at cs o j).steps.lookup o=some (kY cs o):=by
 intro j
 induction j with
 |zero=>exact fv
 |succ j ih=>simp only [LS.jD,LS.nE,ih]
theorem lV (S:LS)(k:Nat):(cK S k).length<=1:=by
 unfold cK
 simp
 lia
theorem jO {S:LS}{k:Nat}{o:Str}(h:o∈cK S k):o∈S.line:=LU _ _ (OG _ _ h)
theorem Good.zero:Good 0 LS.zero:=by
 refine⟨Kh _ _,Kh _ _,Hk _,Hk _,Hk _,H7 _,λ_ h=>h,λx hx=> ?_,λe he=> ?_,λx hx=> ?_⟩
 ·rw [Hm.mp hx]
  exact⟨eD,rfl⟩
 ·refine(Hm.mp he)▸?_
  exact⟨Hk _,by intro q hq;cases hq⟩
 ·rw [Hm.mp hx]
  exact⟨[0,1,2,3],Jy _,by rfl⟩
theorem Good.fold {n:Nat}{S:LS}(h:Good n S)(cs:List Int):∀{l:List Str},(∀o∈l,oY o)->Good (n+7*l.length) (l.foldl (LS.ord cs) S):=by
 intro l
 induction l generalizing n S with
 |nil=>intro _;exact h
 |cons o l ih=>
  intro hl
  refine(ih (h.at cs (hl o f') 3) λo ho=>hl o (j' _ ho)).mono ?_
  simp only [HK]
  lia
theorem Good.oU (cs:List Int):∀k,Good (7*k) (cR cs k):=by
 intro k
 induction k with
 |zero=>exact Good.zero
 |succ k ih=>
  refine(ih.fold cs (l:=cK (cR cs k) k) λo ho=>ih.ok o (ih.lk o (jO ho))).mono ?_
  have:=lV (cR cs k) k
  lia
set_option maxRecDepth 100000
noncomputable abbrev hJ:Mm:={scope:=pw.main.scope,locals:=mainNs,globals:=mainNs,cells:=[],code:= .ref 13,frame:=some 14}
noncomputable abbrev oQ (b:List I9):Code:=Code.body b hJ
noncomputable abbrev B0:List Frame:=[topFrame ⟨0,0,0,0⟩]
theorem wm:b3=iF ++ (gn.flatten ++ iZ):=by rfl
theorem Ai:tP b3=true:=by rfl
theorem AV:∀x∈gn,x.length=17:=by
 have:gn.all (λx=>x.length==17)=true:=by rfl
 intro x hx
 simpa using HM.mp this x hx
theorem xy:iF.length=17:=by rfl
theorem AY:iZ.length=4:=by rfl
theorem qu:gn.length=37:=by rfl
theorem Cn:pG.2.2=2332:=by rfl
noncomputable abbrev D7:Jm:=⟨95,16,95,8704⟩
noncomputable abbrev A3:List Expr:=match bt av 13 with | .Assign ts _ _=>ts |_=>[]
noncomputable abbrev Es:Expr:=match bt av 13 with | .Assign _ v _=>v |_=> .Name default default
noncomputable def xX (v:y'):Jj Flow:=do assignStores hJ v (<-swappedStores A3 Es hJ) ((LM A3 hJ).map (·.2))
theorem Dp:exec (bt av 13) hJ=((K8 ⟨95,0,95,8704⟩ >>=λ_=>K8 D7 >>=λ_=>dictDisplay (b3.map (b9 λ_=>D7))) >>=λv=>xX v):=by rfl
theorem Go.app {p:Kc}{w:Jx}{n₀:Nat}{ann:Option y'}{α β:Type}{c:Nat}{s J:Hh}{pos pos':Jm}{m:Jj α}{a:α}(h:Go p w n₀ ann c s pos m a J pos'){f:α->Jj β}{K:β->Jj LN}{H:y'->Jj LN}{gd:Bool->Bool}{lv:List y'->List y'}{code:Code}{F:Frame}{stk:List Frame}{N:Nat}{r:Hh}
 (q:J9 Im p w n₀ ann N J ⟨(f a).wrap K H gd lv,code,pos',F::stk⟩=some r):J9 Im p w n₀ ann (N+c) s ⟨(m >>=f).wrap K H gd lv,code,pos,F::stk⟩=some r:=by
 have e:(m >>=f).wrap K H gd lv=m.wrap (λa=>(f a).wrap K H gd lv) H gd lv:=by
  rw [Ob,MJ];rfl
 refine e▸?_
 exact h _ _ _ _ code F stk N r q
noncomputable abbrev fE:Option y':=some (.ref 6)
theorem ES (P:HF):tC (DZ P) 118 (ag eB::j0)=true:=by kernel_rfl
theorem DR:118+(ag eB::j0).length=157:=by rfl
theorem ux (w:Jx)(os:JH)(bd:List I9)(pos:Jm)(K:Flow->Jj LN)(H:y'->Jj LN):
 hZ pw w 11 fE 7 ⟨lN (DZ w.params) 118 (ag eB::j0),157,{},#[],{},2344,os⟩ ⟨(xX (.ref 118)).wrap K H id id,oQ bd,pos,B0⟩=
  some (⟨DW w.params,157,{},#[],{},2345,os⟩,⟨K .next,oQ bd,⟨95,0,95,13⟩,B0⟩):=by kernel_rfl
theorem GJ:∀(w:Jx)(b:List I9)(os:JH),segRunT Im pw w 11 fE 1 900 ⟨T4 w.params,15,{},#[],{},187,os⟩ (piecesOf (av.take 11) hJ (oQ b) ⟨0,0,0,0⟩ B0)=
 some (.next,⟨FP w.params,100,{},#[],{},327,os⟩,oQ b,⟨91,0,91,8⟩):=by
 intro w b os
 kernel_rfl
theorem GP:∀(w:Jx)(b:List I9)(os:JH),segRunT Im pw w 11 fE 1 30 ⟨FD w.params,111,{},#[],{},387,os⟩ (piecesOf [bt av 12] hJ (oQ b) ⟨92,0,92,6⟩ B0)=
 some (.next,⟨DZ w.params,118,{},#[],{},394,os⟩,oQ b,⟨93,0,94,30⟩):=by
 intro w b os
 kernel_rfl
theorem GK:∀(w:Jx)(b:List I9)(os:JH),segRunT Im pw w 11 fE 1 155 ⟨DW w.params,157,{},#[],{},2345,os⟩ (piecesOf [bt av 14,bt av 15,bt av 16,bt av 17,bt av 18] hJ (oQ b) ⟨95,0,95,13⟩ B0)=
 some (.next,⟨Fc w.params,183,{},#[],{},2387,os⟩,oQ b,⟨117,0,206,60⟩):=by
 intro w b os
 kernel_rfl
theorem F3 (SW:Bool):∀(w:Jx)(b:List I9)(os:JH),segRunT Im pw (w.withFollow "special-get-raises" SW) 11 fE 1 999 ⟨FP (w.withFollow "special-get-raises" SW).params,100,{},#[],{},327,os⟩ (piecesOf [bt av 11] hJ (oQ b) ⟨91,0,91,8⟩ B0)=
 some (.next,⟨FD (w.withFollow "special-get-raises" SW).params,111,{},#[],{},387,os⟩,oQ b,⟨92,0,92,6⟩):=by
 intro w b os
 unfold piecesOf
 rw [PySem.W.Fast.te10110043849684766642,PySem.W.Fast.te14364793385576792824,PySem.W.Fast.te12563942051412417395]
 cases SW <;> kernel_rfl
theorem GA:∀(w:Jx)(b:List I9)(os:JH),segRunT Im pw w 11 fE 1 999 ⟨FP w.params,100,{},#[],{},327,os⟩ (piecesOf [bt av 11] hJ (oQ b) ⟨91,0,91,8⟩ B0)=
 some (.next,⟨FD w.params,111,{},#[],{},387,os⟩,oQ b,⟨92,0,92,6⟩):=λw b os=>by
 have h:=F3 (w.params.followText "special-get-raises") w b os
 rwa [Jx.withFollow_self] at h
theorem Fx {QV:HF->BT}{all first last:List KV}{Rz:List (List KV)}{st:I9}{env:Mm}{tl:y'->Jj Flow}{es:List Hs}{subs:List Ib}{tree:BT}(b:Bool)(w w':Jx)(hw:w.withFollow "special-get-raises" b=w')(bd rest:List I9)(os:JH)(N:Nat)(r:Hh)(J:JB){pos sp dp tp:Jm}
 (parts:all=first ++ (Rz.flatten ++ last))(T5:tP all=true)(hf:first.length=17)(hm:∀x∈Rz,x.length=17)(hl:last.length=4)(VM:Rz.length=37)
 (Wh:(eC Rz (ents 394 3 first) [] (394+51)).2.2=2332)(Zl:es=(eC Rz (ents 394 3 first) [] (394+51)).1 ++ ents 2332 2 last)(UK:subs=(eC Rz (ents 394 3 first) [] (394+51)).2.1 ++ [ag (ents 2332 2 last)])
 (hex:exec st env=((K8 sp >>=λ_=>K8 dp >>=λ_=>dictDisplay (all.map (b9 λ_=>dp))) >>=λv=>tl v))
 (TL:tC (QV w'.params) 118 (ag es::subs)=true)(hlen:118+(ag es::subs).length=157)(Vr:lN (QV w'.params) 118 (ag es::subs)=tree)
 (tail:∀pos' K H,hZ pw w' 11 fE 7 ⟨tree,157,{},#[],{},2344,os⟩ ⟨(tl (.ref 118)).wrap K H id id,.body bd env,pos',B0⟩=some (J,⟨K .next,.body bd env,tp,B0⟩))
 (h:J9 Im pw w' 11 fE N J.abs (restOf rest env (.body bd env) tp B0)=some r):
 J9 Im pw w' 11 fE (N+13000) (⟨QV w'.params,118,{},#[],{},394,os⟩:JB).abs (restOf (st::rest) env (.body bd env) pos B0)=some r:=by
 have hz:((⟨QV w'.params,118,{},#[],{},394,os⟩:JB).abs).heap.objs.size=118:=absHeap_size _ _ _
 obtain⟨pos',g⟩:=Go.display (p:=pw) (w:=w) (n₀:=11) (ann:=fE) (b:=b) (vp:=λ_=>dp) (s₀:=(⟨QV w'.params,118,{},#[],{},394,os⟩:JB).abs) (by rw [hz];decide) (by rw [hz];decide)
  first Rz last hf hm (by rw [hl];decide) (by intro q;replace hl:=q▸hl;cases hl) (by refine parts▸?_;exact Ab T5) 394 dp
 rw [hw,<-parts,hz,VM,hl,Wh] at g
 have e2:SS (⟨QV w'.params,118,{},#[],{},394,os⟩:JB).abs [] 394=(⟨QV w'.params,118,{},#[],{},394,os⟩:JB).abs:=by
  unfold SS;rfl
 rw [e2,<-Zl,<-UK] at g
 have e4:SS (⟨QV w'.params,118,{},#[],{},394,os⟩:JB).abs (ag es::subs) (2332+3*4)=(⟨tree,157,{},#[],{},2344,os⟩:JB).abs:=by
  show Hh.mk (HL (absHeap (QV w'.params) 118 {}) (ag es::subs)) _ _ _ _=_
  rw [CK _ _ _ _ TL,hlen,Vr]
  rfl
 rw [e4] at g
 unfold restOf
 rw [execs_cons_wrap,hex]
 have g2:=Go.bind (c₁:=1) (Go.standAt (p:=pw) (w:=w') (n₀:=11) (ann:=fE) (s:=(⟨QV w'.params,118,{},#[],{},394,os⟩:JB).abs) (pos:=pos) (pos':=sp))
  (Go.bind (c₁:=1) (Go.standAt (p:=pw) (w:=w') (n₀:=11) (ann:=fE) (s:=(⟨QV w'.params,118,{},#[],{},394,os⟩:JB).abs) (pos:=sp) (pos':=dp)) g (f:=λ_=>dictDisplay (all.map (b9 λ_=>dp)))) (f:=λ_=>K8 dp >>=λ_=>dictDisplay (all.map (b9 λ_=>dp)))
 exact jV (Go.app g2 (iX (tail pos' (λf=>match f with | .next=>(HA rest env).wrap doneF (leaveH env) id id |f=>doneF f) (leaveH env)) h)) (by lia)
theorem DY:eB=(eC gn (ents 394 3 iF) [] (394+51)).1 ++ ents 2332 2 iZ:=by
 unfold eB;exact Eq.refl _
theorem Au:j0=(eC gn (ents 394 3 iF) [] (394+51)).2.1 ++ [ag (ents 2332 2 iZ)]:=by
 unfold j0;exact Eq.refl _
theorem FX (b:Bool)(w w':Jx)(hw:w.withFollow "special-get-raises" b=w')(bd rest:List I9)(os:JH)(N:Nat)(r:Hh)
 (h:J9 Im pw w' 11 fE N (⟨DW w'.params,157,{},#[],{},2345,os⟩:JB).abs (restOf rest hJ (.body bd hJ) ⟨95,0,95,13⟩ B0)=some r):
 J9 Im pw w' 11 fE (N+13000) (⟨DZ w'.params,118,{},#[],{},394,os⟩:JB).abs (restOf (bt av 13::rest) hJ (.body bd hJ) ⟨93,0,94,30⟩ B0)=some r:=
 Fx b w w' hw bd rest os N r ⟨DW w'.params,157,{},#[],{},2345,os⟩ wm Ai xy AV AY qu Cn DY Au Dp (ES w'.params) DR rfl
  (λpos' K H=>ux w' os bd pos' K H) h
theorem Gu (w:Jx)(bd rest:List I9)(os:JH)(N:Nat)(r:Hh)
 (h:J9 Im pw w 11 fE N (⟨DW w.params,157,{},#[],{},2345,os⟩:JB).abs (restOf rest hJ (oQ bd) ⟨95,0,95,13⟩ B0)=some r):
 J9 Im pw w 11 fE (N+13000) (⟨DZ w.params,118,{},#[],{},394,os⟩:JB).abs (restOf (bt av 13::rest) hJ (oQ bd) ⟨93,0,94,30⟩ B0)=some r:=by
 exact FX (w.params.followText "special-get-raises") w w (Jx.withFollow_self w "special-get-raises") bd rest os N r h
noncomputable def Tb (p:HF):BT:=lN .nil 0 [boot_o_0 p,boot_o_1 p,boot_o_2 p,boot_o_3 p,boot_o_4 p,boot_o_5 p,boot_o_6 p,boot_o_7 p,boot_o_8 p,boot_o_9 p,boot_o_10 p]
theorem qM (w:Jx)(os:JH):(⟨Tb w.params,11,{},#[],boot_drawn,boot_toks,os⟩:JB).abs=⟨boot_heap w.params,#[],boot_drawn,boot_toks,os⟩:=by
 simp only [JB.abs]
 rfl
theorem FQ (w:Jx)(os:JH):hZ pw w 11 fE 12 ⟨Tb w.params,11,{},#[],boot_drawn,boot_toks,os⟩ (topStub pw)=
 some (⟨T4 w.params,15,{},#[],{},187,os⟩,⟨denote Im (oQ (IZ pw)),oQ (IZ pw),⟨0,0,0,0⟩,B0⟩):=by kernel_rfl
theorem BL (w:Jx)(os:JH):segRunT Im pw w 11 fE 1 1 ⟨T4 w.params,15,{},#[],{},187,os⟩ (blockOf (IZ pw) hJ (oQ (IZ pw)) ⟨0,0,0,0⟩ B0)=
 some (.next,⟨T4 w.params,15,{},#[],{},187,os⟩,oQ (IZ pw),⟨0,0,0,0⟩):=by rfl
theorem Fn (w:Jx)(os:JH)(b:List I9):J9 Im pw w 11 fE 2 (⟨Fc w.params,183,{},#[],{},2387,os⟩:JB).abs ⟨doneF .next,oQ b,⟨117,0,206,60⟩,B0⟩=some (⟨Fc w.params,183,{},#[],{},2387,os⟩:JB).abs:=by rfl
noncomputable abbrev H1 (P:HF):Ho:=absHeap (Fc P) 183 {}
theorem yN (w:Jx)(os:JH):J9 Im pw w 11 fE 15200 ⟨boot_heap w.params,#[],boot_drawn,boot_toks,os⟩ (topStub pw)=some ⟨H1 w.params,#[],{},2387,os⟩:=by
 rw [<-qM]
 have f:=Fn w os (IZ pw)
 have Zv:=Gu w (IZ pw) _ os _ _ (OH (rest:=[]) (NN (GK w (IZ pw) os)) f)
 have Zs:=OH (NN (GA w (IZ pw) os)) (OH (NN (GP w (IZ pw) os)) Zv)
 have s0:=OH (NN (GJ w (IZ pw) os)) Zs
 have s1:=piece_block (NN (BL w os)) s0
 exact jV (iX (FQ w os) s1) (by decide)
noncomputable def qv:Kc:={pw with main:={pw.main with body:=[bt av 18]}}
noncomputable def loose:List Str:=["insort_right","bisect_right","insort_left","bisect_left","TupleComp","add_func_stats","add_callers","count_calls","b1_set","in_table_b1","b3_exceptions","map_table_b3","_law_typed","_law_sorted"]
theorem Ew (w:Jx)(os:JH):(staticsOk (importedModules pw.main.body) (boot_heap w.params) (H1 w.params) && namesBound pw (H1 w.params) && gensDone ⟨H1 w.params,#[],{},2387,os⟩ && laidKept (boot_heap w.params) (H1 w.params))=true:=by kernel_rfl
theorem DT (w:Jx)(os:JH):openSeen qv loose (importedModules pw.main.body) (λ_=>true) true ⟨H1 w.params,#[],{},2387,os⟩=openGood qv loose:=by
 kernel_rfl
noncomputable abbrev Yf (s:Hh):Ho×Array GenState×Nat:=(s.heap,s.gens,s.toks)
noncomputable abbrev Ya (w:Jx):Ho×Array GenState×Nat:=(H1 w.params,#[],2387)
theorem left:LeftO pw qv loose (λ_=>true) Yf Ya 20000:=
 LeftO.of_pieces (m₀:=11) (ann:=fE) (M:=15200) (boot_open (by rfl) (by rfl) (λs=>by rfl)) (λw=>by kernel_rfl) yN (by rfl)
  (λw=>by funext os;exact Prod.ext (Ew w os) (Prod.ext (DT w os) rfl))
noncomputable def oE:DefRec:=⟨"law",bM av 18,ay av 18,ai av 18,(bt av 18).pos⟩
theorem yO:defOf qv "law"=some (oE,[]):=by rfl
theorem wM:pw.theDef "law"=some (oE.params,oE.body,oE.scope):=by rfl
theorem xB:kwWritten? oE.params.kwonlyargs oE.params.kw_defaults=some []:=by rfl
theorem Cy:(chainsOk qv && opensWell pw && (frees PySem.Challenge.rw_xh0048_02.row.toRowW && PySem.Challenge.rw_xh0048_02.row.within.isEmpty))=true:=by rfl
theorem Ej:OpenLaw.wellSaid PySem.Challenge.rw_xh0048_02=true:=by rw [PySem.W.Fast.te9446332074065402090];kernel_rfl
theorem uE (walk:WalkX qv loose (λ_ _=>True) Yf Ya PySem.Challenge.rw_xh0048_02.row.toRowW oE [] λf vs=>Nh f vs):PySem.Challenge.rw_xh0048_02.Holds:=by
 refine holds_law Ej λZw=> ?_
 refine holds_openX (q:=qv) (loose:=loose) (Xt:=λ_=>true) (XP:=λ_ _=>True) (Yf:=Yf) (Ya:=Ya) (d:=oE) (kwd:=[]) (N:=20000) left (λ_ _=>trivial) (λ_ _ _ _ _=>trivial) yO wM xB (λ_ _=>recFacts_nil rfl) rfl (by assumption) Cy ⟨rfl,rfl,rfl,rfl,rfl,by kernel_rfl!⟩ ?hw walk
 case hw=>w_witness2
section
open PySem PySem.W PySem.W.X PyProof.Rows
def tN (prog:Kc)(H:HF->Ho)(toks:Nat)(fa:He):Prop:=
 ∀(w:Jx) (ns:List Int) (vs:List y') (P5:Hh),ns.length<=63->IntsAre vs ns->P5.heap=(H w.params).push {cls:= .type "list",data:= .seq vs.toArray}->P5.gens=#[]->toks<=P5.toks->
  Hi (model prog w) callerA (Nh (.ref fa) [.ref (H w.params).objs.size]) (λv J=>v= .bool true/\OldK P5.heap J.heap/\J.os=P5.os/\AllBare J.gens) (λ_ _=>False) P5
theorem vO {R:WRecords}{w:Jx}{s₀ P5:Hh}{ns:List Int}{a:He}{as:List He}{Yg:List y'}(L:Laid R w s₀ P5 [ofPy (IV.list (ns.map PY))] [.ref a] as)(hL:P5.heap.IsList a Yg.toArray):
 P5.heap=s₀.heap.push {cls:= .type "list",data:= .seq Yg.toArray}:=by
 have ho:=script_obj L hL
 refine ae L.laid λord _ e=> ?_
 simp only [ofPy,layAllW,layW] at e
 cases q:layAllW R (classAt s₀.heap) w.params ord (ofPys (PM PY ns)) s₀ with
 |none=>replace e:=q▸e;cases e
 |some r=>
  replace e:=q▸e
  have hh:=lay_ints ns s₀ r q
  simp only [My,Prod.mk.injEq,Pf.injEq,Ju.injEq] at e
  refine c7 e λz1 es=> ?_;refine c7 z1 λea _=> ?_
  have e2:P5.heap=s₀.heap.push {cls:= .type "list",data:= .seq r.1.toArray}:=by rw [<-es,hh]
  rw [e2] at ho ⊢
  rw [<-ea,hh] at ho
  have:=ho.symm.trans (Hp _ rfl)
  injection this with this
  injection this with _ _ this _
  injection this with this _
  rw [this]
theorem As (h:tN pw H1 2387 182):WalkX qv loose (λ_ _=>True) Yf Ya PySem.Challenge.rw_xh0048_02.row.toRowW oE [] λf vs=>Nh f vs:=by
 intro w s₀ P5 mg mb G y fa o pm cd doc dV kV ho hd XQ hD Zp hg args vals as L TX WK Yp Y4 Zh
 obtain⟨y1,y2⟩:=Prod.mk.inj y
 wrow_args TX WK Yp Y4 Zh
 rename_i ns _ _ _ _ _ _ _ a vs _ hL _ _ _ hI _ hlen _
 have hh:=vO L hL
 have e1:mg "law"=some (.ref 182):=by
  refine gB G.T.g λo' es ep Ta R1 Rx WE=> ?_
  rw [y1] at hh
  rw [<-WE]
  have e6:∀es ep,(j6 w.params).data= .dict es ep->nsFind es "law"=some (.ref 182):=by
   intro es ep h
   have:(match (j6 w.params).data with | .dict es _=>nsFind es "law" |_=>none)=some (.ref 182):=by rfl
   rw [h] at this
   exact this
  exact e6 es ep ((IF (Ta.symm.trans (by rw [hh];exact Hj _ (by kernel_rfl):P5.heap.get? Kq=some (j6 w.params))))▸R1)
 have e2:fa=182:=by
  have:mg "law"=some (.ref fa):=Zp
  rw [e1] at this
  injection this with this
  injection this with this
  exact this.symm
 refine e2▸?_
 refine((script_at L).1)▸y1▸?_
 rw [y1] at hh
 refine G' (h w ns vs P5 (by lia) hI hh hg (script_toks L (Prod.mk.inj y2).2)) (λv J q=> ?_) λ_ _ q=>q.elim
 refine lZ q λe_0 q1 q2 q3=> ?_;refine e_0▸?_
 refine⟨.inl ⟨.bool true,.bool true,[],rfl,λ_=>rfl,?_,?_,?_⟩,q1,q2,q3⟩
 ·exact .bool true
 ·kernel_rfl
 ·intro _;exact⟨LC,λa ha=>nomatch ha⟩
end
noncomputable def kQ (o:Ib):Str->Option y':=λx=>match o.data with | .dict es _=>nsFind es x |_=>none
noncomputable def k8 (P:HF) (vs:List y'):Ho:=(H1 P).push {cls:= .type "list",data:= .seq vs.toArray}
noncomputable abbrev mz:List (He×He×Str):=[(55,51,"add_callers.<locals>.<genexpr>"),(176,172,"_law_sorted.<locals>.<lambda>"),(181,179,"law.<locals>.<lambda>")]
noncomputable def C1 (w:Jx) (vs:List y') (os:JH):Cfg where
 prog:=pw
 w:=w
 h₀:=k8 w.params vs
 os:=os
 mg:=kQ (j6 w.params)
 mb:=kQ (Di w.params)
 tabs:=mz
noncomputable def Bm:y'->Bool
 | .str _ _=>true
 |_=>false
theorem cO {es:Array Hs}(h:es.all (λe=>Bm e.key)=true):StrKeys es:=λe he=>by
 have:=N3.mp h e he
 cases hk:e.key with
 |str n t=>exact⟨n,t,rfl⟩
 |_=>replace this:=hk▸this;cases this
variable {vs:List y'}{os:JH}
theorem aZ {a:He}{o:Ib}(h:(H1 w.params).get? a=some o):(C1 w vs os).h₀.get? a=some o:=Hj _ h
theorem l4 {h:Ho}{a:He}{o:Ib}(g:h.get? a=some o)(hd:∃es ep,o.data= .dict es ep/\StrKeys es):h.Ns a (kQ o):=by
 refine aL hd λes ep e k=> ?_
 exact⟨o,es,ep,g,e,k,λx=>by unfold kQ;rw [e]⟩
theorem Gg:(C1 w vs os).Ok where
 nolimit:=⟨kQ (C9 w.params),l4 (o:=C9 w.params) (aZ (by kernel_rfl)) ⟨_,_,rfl,cO (by kernel_rfl)⟩,by rfl⟩
 statics:=by show ¬(2:Nat)∈[51,172,179];decide
 g:=l4 (o:=j6 w.params) (aZ (by kernel_rfl)) ⟨_,_,rfl,cO (by kernel_rfl)⟩
 gT:=by show ¬(3:Nat)∈[51,172,179];decide
 b:=l4 (o:=Di w.params) (aZ (by rfl)) ⟨_,_,rfl,cO (by kernel_rfl)⟩
 bT:=by show ¬(0:Nat)∈[51,172,179];decide
 noCode:=by show ∀t∈mz,t.1∉[51,172,179];decide
 inj:=by show ∀t∈mz,∀t'∈mz,t.2.1=t'.2.1->t=t';decide
 bmain:=⟨4,Eb w.params,by rfl,by decide,by decide,by show ¬(4:Nat)∈[51,172,179];decide,aZ (by kernel_rfl),rfl,rfl,rfl⟩
theorem vI:bN (C1 w vs os).h₀ 55 51 "add_callers.<locals>.<genexpr>" #[]:=by
 refine⟨⟨ox w.params,_,_,_,_,_,_,_,_,xr w.params,aZ (by kernel_rfl),rfl,rfl,rfl,rfl,rfl,rfl,aZ (by kernel_rfl),rfl,trivial,by decide⟩,⟨⟨ox w.params,_,aZ (by kernel_rfl),rfl,rfl,rfl⟩,aZ (by kernel_rfl)⟩,λpos c' e=> ?_⟩
 cases e
theorem yk:bN (C1 w vs os).h₀ 176 172 "_law_sorted.<locals>.<lambda>" #[]:=by
 refine⟨⟨k3 w.params,_,_,_,_,_,_,_,_,sE w.params,aZ (by kernel_rfl),rfl,rfl,rfl,rfl,rfl,rfl,aZ (by kernel_rfl),rfl,trivial,by decide⟩,⟨⟨k3 w.params,_,aZ (by kernel_rfl),rfl,rfl,rfl⟩,aZ (by kernel_rfl)⟩,λpos c' e=> ?_⟩
 cases e
theorem sj:bN (C1 w vs os).h₀ 181 179 "law.<locals>.<lambda>" #[]:=by
 refine⟨⟨kT w.params,_,_,_,_,_,_,_,_,tm w.params,aZ (by kernel_rfl),rfl,rfl,rfl,rfl,rfl,rfl,aZ (by kernel_rfl),rfl,trivial,by decide⟩,⟨⟨kT w.params,_,aZ (by kernel_rfl),rfl,rfl,rfl⟩,aZ (by kernel_rfl)⟩,λpos c' e=> ?_⟩
 cases e
theorem iT {s:Hh}(h:s.heap=k8 w.params vs)(hg:s.gens=#[]):Inv (C1 w vs s.os) s where
 sys:=by
  have:(H1 w.params).objs.size=183:=by rfl
  show 1 < (k8 w.params vs).objs.size
  unfold k8
  rw [Io,this];decide
 old a o _ e:=by refine h▸?_;exact e
 size:=by refine h▸?_;exact Hk _
 tabs t ht:=by
  refine h▸?_
  rcases Hc.mp ht with rfl |ht
  ·exact⟨#[],#[],(vI (os:=s.os)).tab,vI (os:=s.os)⟩
  rcases Hc.mp ht with rfl |ht
  ·exact⟨#[],#[],(yk (os:=s.os)).tab,yk (os:=s.os)⟩
  ·refine(Hm.mp ht)▸?_
   exact⟨#[],#[],(sj (os:=s.os)).tab,sj (os:=s.os)⟩
 os:=rfl
 gens:=by rw [hg];intro i;simp
noncomputable def fdOf (o:Ib):Jq:=match o.data with | .func fd=>fd |_=>{name:="",qualname:="",params:=bM tb 17,body:= .stmts [],scope:=ai tb 17,globals:=0,closure:=[],defaults:= .none,kwdefaults:= .none}
theorem dC {a c:He}{o oc:Ib}{body:List I9}(hg:(H1 w.params).get? a=some o)(ha:¬a∈([51,172,179]:List He))(hd:o.data= .func (fdOf o))(hc:(fdOf o).code= .ref c)(hcn:¬c∈([51,172,179]:List He))
 (ZA:(H1 w.params).get? c=some oc)(hq:∃vs t,oc.data= .fields vs/\vs[1]? =some (.str (fdOf o).qualname t))(hb:(fdOf o).body= .stmts body)
 (h1:(fdOf o).scope.isCoroutine=false)(h2:(fdOf o).scope.isGenerator=false)(h3:(fdOf o).scope.kind= .function)(h4:(fdOf o).closure=[])(h5:(fdOf o).globals=Kq)(h6:(fdOf o).builtins=KN)
 (h7:∀x∈(fdOf o).scope.names,x.2≠.free):FnAt (C1 w vs os) a (fdOf o) body where
 obj:=⟨o,aZ hg,hd⟩
 fa:=ha
 code:=let ⟨us,t,q1,q2⟩:=hq;⟨c,oc,us,t,hc,aZ ZA,q1,q2⟩
 noTab c' h:=by rw [hc] at h;cases h;exact hcn
 body:=hb
 co:=h1
 gen:=h2
 kind:=h3
 clos:=h4
 glob:=h5
 blt:=h6
 free:=h7
theorem De:FnAt (C1 w vs os) 49 (fdOf (w0 w.params)) (ay tb 2):=
 dC (c:=48) (oc:=wt w.params) (by kernel_rfl) (by decide) rfl rfl (by decide) (by kernel_rfl) ⟨_,_,rfl,rfl⟩ rfl rfl rfl rfl rfl rfl rfl (by show ∀x∈(ai tb 2).names,x.2≠.free;decide+kernel)
theorem Ef:kN (C1 w vs os) 49 2:=⟨_,De,rfl,rfl,rfl,rfl⟩
theorem w5:FnAt (C1 w vs os) 56 (fdOf (wi w.params)) (ay tb 3):=
 dC (c:=55) (oc:=ox w.params) (by kernel_rfl) (by decide) rfl rfl (by decide) (by kernel_rfl) ⟨_,_,rfl,rfl⟩ rfl rfl rfl rfl rfl rfl rfl (by show ∀x∈(ai tb 3).names,x.2≠.free;decide+kernel)
theorem EU:kN (C1 w vs os) 56 3:=⟨_,w5,rfl,rfl,rfl,rfl⟩
theorem Ck:FnAt (C1 w vs os) 63 (fdOf (xK w.params)) (ay tb 4):=
 dC (c:=62) (oc:=yp w.params) (by kernel_rfl) (by decide) rfl rfl (by decide) (by kernel_rfl) ⟨_,_,rfl,rfl⟩ rfl rfl rfl rfl rfl rfl rfl (by show ∀x∈(ai tb 4).names,x.2≠.free;decide+kernel)
theorem Ed:kN (C1 w vs os) 63 4:=⟨_,Ck,rfl,rfl,rfl,rfl⟩
theorem Dt:FnAt (C1 w vs os) 117 (fdOf (tK w.params)) (ay tb 12):=
 dC (c:=116) (oc:=tD w.params) (by kernel_rfl) (by decide) rfl rfl (by decide) (by kernel_rfl) ⟨_,_,rfl,rfl⟩ rfl rfl rfl rfl rfl rfl rfl (by show ∀x∈(ai tb 12).names,x.2≠.free;decide+kernel)
theorem EA:kN (C1 w vs os) 117 12:=⟨_,Dt,rfl,rfl,rfl,rfl⟩
theorem Cz:FnAt (C1 w vs os) 163 (fdOf (sD w.params)) (ay tb 14):=
 dC (c:=162) (oc:=sA w.params) (by kernel_rfl) (by decide) rfl rfl (by decide) (by kernel_rfl) ⟨_,_,rfl,rfl⟩ rfl rfl rfl rfl rfl rfl rfl (by show ∀x∈(ai tb 14).names,x.2≠.free;decide+kernel)
theorem Et:kN (C1 w vs os) 163 14:=⟨_,Cz,rfl,rfl,rfl,rfl⟩
theorem Bz:FnAt (C1 w vs os) 170 (fdOf (tu w.params)) (ay tb 16):=
 dC (c:=169) (oc:=tv w.params) (by kernel_rfl) (by decide) rfl rfl (by decide) (by kernel_rfl) ⟨_,_,rfl,rfl⟩ rfl rfl rfl rfl rfl rfl rfl (by show ∀x∈(ai tb 16).names,x.2≠.free;decide+kernel)
theorem Ey:kN (C1 w vs os) 170 16:=⟨_,Bz,rfl,rfl,rfl,rfl⟩
theorem Ae:FnAt (C1 w vs os) 182 (fdOf (sG w.params)) (ay tb 18):=
 dC (c:=181) (oc:=kT w.params) (by kernel_rfl) (by decide) rfl rfl (by decide) (by kernel_rfl) ⟨_,_,rfl,rfl⟩ rfl rfl rfl rfl rfl rfl rfl (by show ∀x∈(ai tb 18).names,x.2≠.free;decide+kernel)
theorem BO:FnAt (C1 w vs os) 177 (fdOf (tB w.params)) (ay tb 17):=
 dC (c:=176) (oc:=k3 w.params) (by kernel_rfl) (by decide) rfl rfl (by decide) (by kernel_rfl) ⟨_,_,rfl,rfl⟩ rfl rfl rfl rfl rfl rfl rfl (by show ∀x∈(ai tb 17).names,x.2≠.free;decide+kernel)
theorem Cb:FnAt (C1 w vs os) 72 (fdOf (wc w.params)) (ay tb 6):=
 dC (c:=71) (oc:=vL w.params) (by kernel_rfl) (by decide) rfl rfl (by decide) (by kernel_rfl) ⟨_,_,rfl,rfl⟩ rfl rfl rfl rfl rfl rfl rfl (by show ∀x∈(ai tb 6).names,x.2≠.free;decide+kernel)
theorem EI:tc (C1 w vs os) 72 6:=
 ⟨_,Cb,rfl,rfl,⟨64,w7 w.params,_,rfl,by show ¬(64:Nat)∈[51,172,179];decide,aZ (by kernel_rfl),rfl⟩,65,kQ (rZ w.params),rfl,by show ¬(65:Nat)∈[51,172,179];decide,l4 (o:=rZ w.params) (aZ (by kernel_rfl)) ⟨_,_,rfl,cO (by kernel_rfl)⟩,by rfl⟩
theorem CY:FnAt (C1 w vs os) 81 (fdOf (wy w.params)) (ay tb 7):=
 dC (c:=80) (oc:=xt w.params) (by kernel_rfl) (by decide) rfl rfl (by decide) (by kernel_rfl) ⟨_,_,rfl,rfl⟩ rfl rfl rfl rfl rfl rfl rfl (by show ∀x∈(ai tb 7).names,x.2≠.free;decide+kernel)
theorem EL:tc (C1 w vs os) 81 7:=
 ⟨_,CY,rfl,rfl,⟨73,xF w.params,_,rfl,by show ¬(73:Nat)∈[51,172,179];decide,aZ (by kernel_rfl),rfl⟩,74,kQ (qU w.params),rfl,by show ¬(74:Nat)∈[51,172,179];decide,l4 (o:=qU w.params) (aZ (by kernel_rfl)) ⟨_,_,rfl,cO (by kernel_rfl)⟩,by rfl⟩
theorem DE:FnAt (C1 w vs os) 90 (fdOf (vS w.params)) (ay tb 8):=
 dC (c:=89) (oc:=ya w.params) (by kernel_rfl) (by decide) rfl rfl (by decide) (by kernel_rfl) ⟨_,_,rfl,rfl⟩ rfl rfl rfl rfl rfl rfl rfl (by show ∀x∈(ai tb 8).names,x.2≠.free;decide+kernel)
theorem EJ:tc (C1 w vs os) 90 8:=
 ⟨_,DE,rfl,rfl,⟨82,ym w.params,_,rfl,by show ¬(82:Nat)∈[51,172,179];decide,aZ (by kernel_rfl),rfl⟩,83,kQ (qV w.params),rfl,by show ¬(83:Nat)∈[51,172,179];decide,l4 (o:=qV w.params) (aZ (by kernel_rfl)) ⟨_,_,rfl,cO (by kernel_rfl)⟩,by rfl⟩
theorem Ci:FnAt (C1 w vs os) 99 (fdOf (yw w.params)) (ay tb 9):=
 dC (c:=98) (oc:=xx w.params) (by kernel_rfl) (by decide) rfl rfl (by decide) (by kernel_rfl) ⟨_,_,rfl,rfl⟩ rfl rfl rfl rfl rfl rfl rfl (by show ∀x∈(ai tb 9).names,x.2≠.free;decide+kernel)
theorem EX:tc (C1 w vs os) 99 9:=
 ⟨_,Ci,rfl,rfl,⟨91,wa w.params,_,rfl,by show ¬(91:Nat)∈[51,172,179];decide,aZ (by kernel_rfl),rfl⟩,92,kQ (qH w.params),rfl,by show ¬(92:Nat)∈[51,172,179];decide,l4 (o:=qH w.params) (aZ (by kernel_rfl)) ⟨_,_,rfl,cO (by kernel_rfl)⟩,by rfl⟩
theorem Gz:Lw (C1 w vs os) where
 ok:=Gg
 bl e he:=by
  have:∀e∈zV,kQ (j6 w.params) e.1=none/\kQ (Di w.params) e.1=some e.2:=by
   simp only [zV,KR,NT,and_true]
   refine⟨?_,?_,?_,?_,?_,?_,?_,?_,?_,?_,?_,?_,?_,?_,?_,?_,?_,λ_ h=>nomatch h⟩ <;> exact⟨by rfl,by kernel_rfl⟩
  exact this e he
 gl e he:=by
  have:∀e∈E1,kQ (j6 w.params) e.1=some (.ref e.2):=by
   simp only [E1,KR,NT,and_true]
   refine⟨?_,?_,?_,?_,?_,?_,?_,?_,?_,?_,?_,?_,?_,?_,λ_ h=>nomatch h⟩ <;> kernel_rfl
  exact this e he
 ir:=EI
 br:=EL
 il:=EJ
 bL:=EX
theorem GR:Tc (C1 w vs os) where
 k:=⟨λa o h=>by
  have h':(KT w.params).lookup a=some o:=h
  unfold KT at h'
  simp only [Hr,List.lookup_nil] at h'
  have go:∀{b:He} {o':Ib},(a==b)=true->some o'=some o->(H1 w.params).get? b=some o'->¬b∈([51,172,179]:List He)->a∉(C1 w vs os).aq/\(C1 w vs os).h₀.get? a=some o:=λhb e g hn=>by
   cases e
   have:=LL hb
   refine this▸?_
   exact⟨hn,aZ g⟩
  split at h'
  ·rename_i q;exact go q h' (by kernel_rfl) (by decide)
  split at h'
  ·rename_i q;exact go q h' (by kernel_rfl) (by decide)
  split at h'
  ·rename_i q;exact go q h' (by kernel_rfl) (by decide)
  split at h'
  ·rename_i q;exact go q h' (by kernel_rfl) (by decide)
  cases h'⟩
 nt:=by show ¬(38:Nat)∈[51,172,179];decide
 ini:=⟨fdOf (oT w.params),dC (o:=oT w.params) (c:=27) (oc:=wO w.params) (by kernel_rfl) (by decide) rfl rfl (by decide) (by kernel_rfl) ⟨_,_,rfl,rfl⟩ rfl rfl rfl rfl rfl rfl rfl (by show ∀x∈(ai (cG tb 1) 0).names,x.2≠.free;decide+kernel),rfl,rfl,rfl,rfl⟩
 cmp:=⟨fdOf (n7 w.params),dC (o:=n7 w.params) (c:=34) (oc:=w1 w.params) (by kernel_rfl) (by decide) rfl rfl (by decide) (by kernel_rfl) ⟨_,_,rfl,rfl⟩ rfl rfl rfl rfl rfl rfl rfl (by show ∀x∈(ai (cG tb 1) 1).names,x.2≠.free;decide+kernel),rfl,rfl,rfl,rfl⟩
noncomputable def zX (i:Int):Option Str:=b3.lookup i
inductive cY:List Hs->List KV->Prop
 |nil:cY [] []
 |cons {e:Hs} {kv:KV} {es:List Hs} {l:List KV}:(∃t u,e=⟨kv.1,.int kv.1 t,.str kv.2 u⟩)->cY es l->cY (e::es) (kv::l)
theorem gV:∀(l:List KV)(t st:Nat),cY (ents t st l) l:=by
 intro q0
 induction q0 with
 |nil=>
  intro _ _
  exact .nil
 |cons q1 r ih=>
  obtain⟨i,x⟩:=q1
  intro t st
  exact .cons ⟨_,_,rfl⟩ (ih _ _)
theorem cY.append {es Q1:List Hs}{l l':List KV}(h:cY es l)(h':cY Q1 l'):cY (es ++ Q1) (l ++ l'):=by
 induction h with
 |nil=>exact h'
 |cons a _ ih=>exact .cons a ih
theorem qy:∀(gs:List (List KV))(es:List Hs)(l:List KV)(Ls:List Ib)(t:Nat),cY es l->cY (eC gs es Ls t).1 (l ++ gs.flatten):=by
 intro q0
 induction q0 with
 |nil=>
  intro es l Ls t h
  simpa [kZ,kX] using h
 |cons g gs ih=>
  intro es l Ls t h
  have:=ih (es ++ ents t 3 g) (l ++ g) (Ls ++ [ag (ents t 3 g)]) (t+3*g.length) (h.append (gV _ _ _))
  simpa [kZ,kX] using this
theorem nX:cY eB b3:=by
 exact((qy gn _ _ [] _ (gV _ _ _)).append (gV _ _ _):cY eB ((iF ++ gn.flatten) ++ iZ))
theorem cY.find {es:List Hs}{l:List KV}(h:cY es l)(i:Int):match l.lookup i with |some x=>∃t,findBy Ji es.toArray i=some (.str x t) |none=>findBy Ji es.toArray i=none:=by
 rw [(λes=>by unfold findBy;rw [List.find?_toArray]:∀es:List Hs,findBy Ji es.toArray i=(es.find? λe=>Ji i e.key).map (·.val))]
 induction h with
 |nil=>rfl
 | @cons e kv es l a _ ih=>
  obtain⟨t,u,rfl⟩:=a
  obtain⟨k,x⟩:=kv
  rw [Hr,Ld]
  have hk:Ji i (.int k t)=(i==k):=by
   exact OU.mpr ⟨λh=>by rw [LL h];exact beq_self_eq_true _,λh=>by refine(LL h)▸?_;exact beq_self_eq_true _⟩
  dsimp only
  rw [hk]
  cases hq:i==k with
  |true=>exact⟨u,rfl⟩
  |false=>exact ih
theorem cY.keys {es:List Hs}{l:List KV}(h:cY es l)(p:Kc)(w:Jx)(hb:∀kv∈l,hashInt kv.1=kv.1):KeysOf (intKind p w) es.toArray:=by
 intro e he
 have R0:e∈es:=by simpa using he
 induction h with
 |nil=>cases R0
 | @cons e' kv es l a _ ih=>
  rcases Hc.mp R0 with rfl |hm
  ·obtain⟨t,u,rfl⟩:=a
   exact⟨kv.1,by show Ji kv.1 (.int kv.1 t)=true;simp only [Ji];simp,(hb kv f').symm⟩
  ·exact ih (λkv hk=>hb kv (j' _ hk)) (by simpa using hm) hm
noncomputable def ED (l:List KV):Bool:=l.all λkv=>hashInt kv.1==kv.1
theorem zU:ED b3=true:=by rfl
theorem F4:xc (C1 w vs os) 118 zX where
 nt:=by show ¬(118:Nat)∈[51,172,179];decide
 ns:=by decide
 tab:=by
  refine⟨λi=>findBy Ji eB.toArray i,⟨ag eB,eB.toArray,eB.length,aZ (by kernel_rfl),⟨rfl,rfl,rfl⟩,rfl,?_,λk=>rfl⟩,λi=> ?_⟩
  ·refine nX.keys _ _ λkv Vq=> ?_
   have:=HM.mp zU kv Vq
   exact LL this
  ·exact nX.find i
noncomputable def setOf (o:Ib):List (Int×y'):=match o.data with | .set es _ _=>es.toList |_=>[]
noncomputable def CC:y'->Option Int
 | .int i _=>some i
 |_=>none
noncomputable def Fu (e:Int×y'):Bool:=match e.2 with | .int i _=>e.1==hashInt i |_=>false
theorem nF {k:Int}{v:y'}:Ji k v=true↔CC v=some k:=by
 cases v with
 |int i t=>show Ji k (.int i t)=true↔some i=some k;simp [Ji]
 |_=>exact⟨λh=>(Ii h).elim,λh=>(Option.some_ne_none _ h.symm).elim⟩
theorem vj:vT (C1 w vs os) 107 iJ where
 nt:=by show ¬(107:Nat)∈[51,172,179];decide
 set:=by
  refine⟨_,ix w.params,_,_,_,aZ (by kernel_rfl),⟨rfl,rfl,rfl⟩,rfl,?_,?_,by decide,by rfl,rfl⟩
  ·intro e he
   have:=HM.mp (by rfl:(setOf (ix w.params)).all Fu=true) e he
   obtain⟨XU,v⟩:=e
   cases v with
   |int i t=>exact⟨⟨i,by show Ji i (.int i t)=true;simp only [Ji];simp,LL this⟩,rfl⟩
   |_=>cases this
  ·intro k
   show rR.contains k=true↔∃e∈setOf (ix w.params),Ji k e.2=true
   constructor
   ·intro h
    refine ae (K3.mp (HM.mp (by rfl:(rR.all λk=>(setOf (ix w.params)).any λe=>CC e.2==some k)=true) k (by simpa using h))) λe he q=> ?_
    exact⟨e,he,nF.mpr (LL q)⟩
   ·intro zz;refine ae zz λe he q=> ?_
    refine ae (K3.mp (HM.mp (by rfl:((setOf (ix w.params)).all λe=>rR.any λk=>CC e.2==some k)=true) e he)) λk' Rx q'=> ?_
    replace q':=((nF.mp q))▸q'
    have:k=k':=by simpa using q'
    refine this▸?_
    simpa using Rx
theorem GC:Lx (C1 w vs os) zX:=⟨Gz,Ey,EA,Et,Ed,EU,Ef,vj,F4⟩
theorem Fz:BZ (C1 w vs os) 177 (ay tb 17) (ai tb 17) (bM tb 17) D3 (.ref 176):=
 ⟨⟨_,BO,rfl,rfl,rfl,by rfl,rfl⟩,(176,172,"_law_sorted.<locals>.<lambda>"),by show _∈mz;simp,rfl,by rfl⟩
set_option maxRecDepth 4000
theorem yd (cs:List Int){j:Nat}(h:j < 3):(dM cs 3)[j]? =some (Bd (Ce (bO cs j 6))):=by
 unfold dM
 simp only [Hy,ID h]
 rfl
abbrev FE (C:Cfg):Prop:=BZ C 177 (ay tb 17) (ai tb 17) (bM tb 17) D3 (.ref 176)
abbrev Fh (C:Cfg):Prop:=CI C 56 (ay tb 3) (ai tb 3) (bM tb 3) Ex (.ref 55)
theorem EF (L:Lx C f3)(FS:FE C)(FG:Fh C){cs:List Int}(hc:cs.length=6){bk st kn ln:He}{o:Str}{S:LS}{n:Nat}(hn:n<=500)(G:Good n S)(ho:oY o)(Ap:oZ pre bk st kn ln)(rm:ak A (k+6))(X:St C W SL (bQ pre bk st kn ln S) (aC (("order",.str o)::oS cs bk st kn ln)) env s)(B:Bs C Wt (λ_=>true) t (bQ pre bk st kn ln S) env s)
 (next:∀J,St C W SL (bQ pre bk st kn ln (S.ord cs o)) (aC (oS cs bk st kn ln)) env J->Bs C Wt (λ_=>true) t (bQ pre bk st kn ln (S.ord cs o)) env J->Hi C.M A (HA [] env) Q E J):
 Hi C.M A (HA (Fm 0) env) Q E s:=by
 have L':=L.L
 have Qu:sizeLine=16777216:=rfl
 have UX:PV.lst ((Hg 3).map (λj=>PV.str (ax cs j o)))=cq (kY cs o):=rfl
 have YI:∀j,aO C (k+6) [] (.ref 177) [.str o,Bd (Ce (bO cs j 6)),.bool (DH cs j)] [] (.str (ax cs j o)):=λj=>
  (Dq (k:=k) (own:=[]) L FS (order:=o) (es:=Ce (bO cs j 6)) (b:=DH cs j) ho.size (ho.names _ _) ⟨9,rfl⟩ ⟨-1,rfl⟩).mono (by lia)
 conv in Fm _=>whnf
 with_reducible
  refine dy (a:=st) (es:=cF cq S.steps) (x:=o) (p:=cq (kY cs o)) X B rm (Ev.conv (fS.ev (c9 (need:=false) (l:=Hg 3) (g:=λ(i:Nat)=> .int ((0:Int)+(i:Int))) (by with_unfolding_all exact⟨rfl,by done,by done⟩) (λx env=>by fail) (λj=>PV.str (ax cs j o)) ?it (by decide) ?step)) UX) ?_ ?_ m2 (by rw [lu];have:=G.t;lia) ?sw ?n1
 case sw=>fail
 case it=>exact aX.cJ (n:=3) (by intros) (by intros) (by decide) (by decide) (λenv=>by fail)
 case step=>
  intro j hj
  have hj:=HN.mp hj
  have e0:((0:Int)+(j:Int))=(j:Int):=by lia
  have Ze:PV.bool (((cs.getD 2 0).fdiv 64+((0:Int)+(j:Int))).fmod 2==0)= .bool (DH cs j):=by rw [e0];rfl
  refine⟨_,bg.local (by done),by k_extra"u",?_⟩
  with_reducible
   refine Ev.du ?_ (FS.ex.elim λfd h=>h.1.fo) (ab.cons ?_ (ab.cons (Ev.item (n:=j) (Ev.l (xs:=dM cs 3) ?_) ?_ e0 (yd cs hj) (by omega) (λ_ _=>by fail)) (ab.cons (Ev.conv (Ev.cmp (Ev.bin (Ev.bin (Ev.bin (Ev.item (n:=2) (Ev.l (xs:=cs.map .int) ?_) Ev.int (by fail) (int_at (by lia)) (by decide) (λ_ _=>by fail)) Ev.int (aj.floordiv (by decide) (HI (by decide)))) ?_ aj.add) Ev.int (aj.mod (by decide))) Ev.int aj.DO (by decide+kernel)) Ze) ab.nil))) bR.nil (YI j)
  all_goals with_reducible intros
 case n1=>
  intro s1 X1 B1
  simp only [Ap.Cf,ly] at X1 B1
  have Qb:∀S S':LS,(bQ pre bk st kn ln S).map (·.1)=(bQ pre bk st kn ln S').map (·.1):=λS S'=>by simp
  have X2:St C W SL (bQ pre bk st kn ln (S.Aa cs o)) (aC (("order",.str o)::oS cs bk st kn ln)) env s1:=X1
  with_reducible
   refine a7 (need:=false) (k:=k+6) (ps:=aI 0 3) X2 B1 rm ?it2 (λi=>bQ pre bk st kn ln (S.at cs o i)) (λ_=>aC (("order",.str o)::oS cs bk st kn ln)) (λi=>upd (aC (("order",.str o)::oS cs bk st kn ln)) "j" (.int ((0:Int)+(i:Int)))) (by fail) (by fail) (λ_=>Qb _ _) (λ_=>False) ?Qs ?turn (λ_ _ _ h=>h.elim) ?done (λx=>by fail)
  case it2=>exact aX.cJ (n:=3) (by intros) (by intros) (by decide) (by decide) (λenv=>by fail)
  case Qs=>
   intro i p hp
   refine(el hp)▸?_
   exact bg.cell (by done) rfl
  case turn=>
   intro I ob i p t' QF s3 hI hp X3 B3
   have hi:=er hp
   have Yc:oZ ((I,.obj ob)::pre) bk st kn ln:=⟨memC ⟨(hI _ m1).symm,(hI _ m2).symm,(hI _ m3).symm,(hI _ m4).symm⟩ Ap.p,Ap.a,Ap.b,Ap.c,Ap.d,Ap.e,Ap.f⟩
   have Gi:=G.at cs ho i
   have hg:=ho.goal cs i
   have Gn:=Gi.new hg
   obtain⟨b,hb⟩:=Gn.has _ ((S.at cs o i).nL (ax cs i o))
   have Uo:=Gn.es _ (aG hb)
   have hgi:(kY cs o)[i]? =some (ax cs i o):=by
    unfold kY
    simp only [Hy,ID hi]
    rfl
   have US:S.at cs o (i+1)={(S.at cs o i).new (ax cs i o) with book:=bp ((S.at cs o i).new (ax cs i o)).book (ax cs i o) (b.add (a5 cs o (ax cs i o) i))}:=by
    rw [LS.jD]
    unfold LS.add
    rw [hb]
    rfl
   have fin:=CX (k:=k+5) (Q:=λf P9=>match f with
    | .next | .cont=>St C (I::W) SL ((I,.obj ob)::bQ pre bk st kn ln (S.at cs o (i+1))) (aC (("order",.str o)::oS cs bk st kn ln)) env P9/\Bs C QF (λ_=>true) t' ((I,.obj ob)::bQ pre bk st kn ln (S.at cs o (i+1))) env P9
    | .brk=>False
    | .ret v=>∃p own' Qa,False/\Rr C (I::W) P9.heap v p/\St C (I::W) SL own' Qa env P9/\Bs C QF (λ_=>true) t' own' env P9) (E:=λ_ _=>False) L (LS.vQ cs S o i) hgi hi rm (X3.to (by k_extra"rs")) B3 λs4 X5 B5=>
    CW L (k:=k+4) Yc Gi.srt Gi.nd (by have:=Gi.k;lia) (by have:=Gi.l;lia) (by have:=Gi.b;lia) hg.ok rm X5 B5 λs5 X6 B6=>
    Ct L (k:=k+4) hb (by have:=Uo.1;simp only at this;omega) hi rm X6 B6 λs6 X7 B7=>
    BI L FG (k:=k+4) Yc hb (by have:=Uo.1;simp only at this;omega) Uo.2 (by have:=Gn.b;lia) rm X7 B7 λs7 X8 B8=>by
     refine US▸?_
     exact Hq ⟨X8,B8⟩
   conv at fin in qE _=>whnf
   with_reducible refine G' fin ?_ λ_ _ h=>h
   intro f P9 h
   cases f <;> exact h
  case done=>
   intro s3 X3 B3
   exact next _ (X3.to (by k_extra"rs")) B3
 all_goals with_reducible intros
theorem rC (b:aP):Plain b.pv:=λf=>by
 show PV.tup (dB f [.int b.a,.int b.b,.int b.c,.int b.d,.au (fT b.es)])=_
 rw [eP]
 ·rfl
 refine memC (Plain.int _) (memC (Plain.int _) (memC (Plain.int _) (memC (Plain.int _) (memC (Plain.au ?_) λ_ h=>nomatch h))))
 intro e he
 refine ae (Hd.mp he) λe' _ P8=> ?_;subst P8
 show Plain (tupI e'.2)
 intro f
 show PV.tup (dB f _)=_
 rw [fJ]
theorem mD {α:Type}{f:α->PV}(h:∀a,Plain (f a))(es:List (Str×α)):∀e∈cF f es,Plain e.2:=λe he=>by
 refine ae (Hd.mp he) λe' _ P8=> ?_;subst P8
 exact h _
theorem Em (L:Lx C f3){cs:List Int}(rm:ak A (k+1))(X:St C W SL [] (aC (DP cs)) env s)(B:Bs C Wt (λ_=>true) t [] env s)
 (next:∀W bk st kn ln J,oZ [] bk st kn ln->St C W SL (bQ [] bk st kn ln LS.zero) (aC (oS cs bk st kn ln)) env J->Bs C Wt (λ_=>true) t (bQ [] bk st kn ln LS.zero) env J->Hi C.M A (HA (aK 19) env) Q E J):
 Hi C.M A (HA (aK 15) env) Q E s:=by
 conv in aK _=>whnf
 with_reducible refine dX (p:= .lst [.str "abcd"]) X B rm (kA.list ?_ ?_) (by done) (by fail) ?n1
 case n1=>
  intro ln s1 h1 X1 B1
  with_reducible refine dX (p:= .lst [.str "abcd"]) X1 B1 rm (kA.list ?_ ?_) (by done) (by fail) ?n2
  case n2=>
   intro kn s2 h2 X2 B2
   with_reducible refine dX (p:= .au []) X2 B2 rm kA.ku (by done) (by fail) ?n3
   intro st s3 h3 X3 B3
   with_reducible
    refine d8 (p:= .au (cF aP.pv LS.zero.book)) X3 B3 rm (kA.dict (ks:=[_]) (es:=[("abcd",.tup [.int 0,.int 0,.int 0,.int 0,.au []])]) (by fail) (by fail) (λenv=>by fail) (cj.cons ?_ (Ev.tuple (ab.cons ?_ (ab.cons ?_ (ab.cons ?_ (ab.cons ?_ (ab.cons Ev.ku ab.nil))))) (Hv (by fail))) cj.nil) (by fail) (by fail)) (by done) (by fail) (by fail) ?n4
   case n4=>
    intro bk s4 h4 X4 B4
    have h9:=next _ bk st kn ln _ ⟨(λ_ h=>nomatch h),(λe=>h4 (e▸f')),(λe=>h4 (e▸j' _ f')),(λe=>h4 (e▸j' _ (j' _ f'))),(λe=>h3 (e▸f')),(λe=>h3 (e▸j' _ f')),(λe=>h2 (e▸f'))⟩ (X4.to (by k_extra"rs")) B4
    conv at h9 in aK _=>whnf
    with_reducible exact h9
   all_goals with_reducible intros
  all_goals with_reducible intros
 all_goals with_reducible intros
noncomputable def Rk (a b:bP):Nat->bP
 |0=>a
 |_+1=>b
noncomputable abbrev m8 (cs:List Int) (S:LS):List (Str×PV):=("book",.au (cF aP.pv S.book))::("steps",.au (cF cq S.steps))::("known",cq S.known)::("line",cq S.line)::DP cs
theorem Eh (L:Lx C f3)(FS:FE C)(FG:Fh C){cs:List Int}(hc:cs.length=6){bk st kn ln:He}(Ap:oZ [] bk st kn ln)(rm:ak A (k+6))(X:St C W SL (bQ [] bk st kn ln LS.zero) (aC (oS cs bk st kn ln)) env s)(B:Bs C Wt (λ_=>true) t (bQ [] bk st kn ln LS.zero) env s)
 (next:∀W J,St C W SL [] (aC (m8 cs (cR cs 24))) env J->Bs C Wt (λ_=>true) t [] env J->Hi C.M A (HA (aK 20) env) Q E J):
 Hi C.M A (HA (aK 19) env) Q E s:=by
 have L':=L.L
 have Qu:sizeLine=16777216:=rfl
 conv in aK _=>whnf
 with_reducible
  refine a7 (need:=false) (k:=k+6) (ps:=aI 0 24) X B rm ?it (λi=>bQ [] bk st kn ln (cR cs i)) (λ_=>aC (oS cs bk st kn ln)) (λi=>upd (aC (oS cs bk st kn ln)) "k" (.int ((0:Int)+(i:Int)))) (by fail) (by fail) (λ_=>by fail) (λ_=>False) ?Qs ?turn (λ_ _ _ h=>h.elim) ?done (λx=>by fail)
 case it=>exact aX.cJ (n:=24) (by intros) (by intros) (by decide) (by decide) (λenv=>by fail)
 case Qs=>
  intro i p hp
  refine(el hp)▸?_
  exact bg.cell (by rfl) rfl
 case turn=>
  intro I ob i p t' QF s1 hI hp X1 B1
  have hi:=er hp
  have R3:cR cs (i+1)=(cK (cR cs i) i).foldl (LS.ord cs) (cR cs i):=rfl
  generalize cR cs (i+1)=S' at R3 ⊢
  have G:=Good.oU cs i
  generalize cR cs i=S at R3 G X1 B1 hI
  have X2:St C (I::W) SL (bQ [(I,.obj ob)] bk st kn ln S) (aC (("k",.int ((0:Int)+(i:Int)))::oS cs bk st kn ln)) env s1:=X1.to (by k_extra"rs")
  have SE:eR (some ((0:Int)+(i:Int))) (some (((0:Int)+(i:Int))+1)) (S.line.map PV.str)=(cK S i).map .str:=by
   rw [show ((0:Int)+(i:Int))=((i:Nat):Int) from by lia,show ((i:Nat):Int)+1=((i+1:Nat):Int) from by simp,pT,<-Kz,<-LX]
   rfl
  have VU:=lV S i
  have Qb:∀S S':LS,(bQ [(I,.obj ob)] bk st kn ln S).map (·.1)=(bQ [(I,.obj ob)] bk st kn ln S').map (·.1):=λS S'=>rfl
  with_reducible
   refine a7 (need:=false) (k:=k+6) (ps:=(cK S i).map .str) X2 B1 rm (aX.lst (Ev.conv (Ev.conv (Ev.ey (i:=some ((0:Int)+(i:Int))) (j:=some (((0:Int)+(i:Int))+1)) (l:=none) (Ev.lo (xs:=S.line.map .str) (a:=ln) ?_ m4) (eh.some ?_) (eh.some ?_) eh.kg (by decide) (by rw [Hb];have:=G.l;lia) (λ_ _=>⟨_,by fail⟩) (λ_ _=>by fail)) (HV PV.lst (dF _ _ _))) (HV PV.lst SE)) (by rw [Hb];lia)) (λm=>bQ [(I,.obj ob)] bk st kn ln (((cK S i).take m).foldl (LS.ord cs) S)) (λm=>Rk (aC (("k",.int ((0:Int)+(i:Int)))::oS cs bk st kn ln)) (aC (oS cs bk st kn ln)) m) (λm=>upd (Rk (aC (("k",.int ((0:Int)+(i:Int)))::oS cs bk st kn ln)) (aC (oS cs bk st kn ln)) m) "order" (.str ((cK S i).getD m ""))) (by fail) (by fail) (λ_=>Qb _ _) (λ_=>False) ?tgt2 ?turn2 (λ_ _ _ h=>h.elim) ?done2 (λx=>by fail)
  case tgt2=>
   intro m p hp
   refine ae (c4 hp) λo ho P8=> ?_;subst P8
   rw [Hl,ho]
   exact bg.cell (by rfl) rfl
  case turn2=>
   intro I2 TO m p t2 XR s2 VR hp X3 B3
   refine ae (c4 hp) λo ho P8=> ?_;subst P8
   simp only [Hl,ho] at X3
   have hm:m < 1:=Ht (HD.mp ho).1 VU
   have QR:∀o∈cK S i,oY o:=λo ho=>G.ok o (G.lk o (jO ho))
   have Qr:((cK S i).take (m+1)).foldl (LS.ord cs) S=(((cK S i).take m).foldl (LS.ord cs) S).ord cs o:=eV _ _ ho
   have Gm:=G.fold cs (l:=(cK S i).take m) λo ho=>QR o (LU _ _ ho)
   have hlm:((cK S i).take m).length<=1:=by rw [IG];simp_all
   generalize ((cK S i).take (m+1)).foldl (LS.ord cs) S=S2 at Qr ⊢
   generalize ((cK S i).take m).foldl (LS.ord cs) S=S1 at Qr X3 B3 Gm
   have Ap2:oZ [(I2,.obj TO),(I,.obj ob)] bk st kn ln:=⟨memC ⟨(VR _ m1).symm,(VR _ m2).symm,(VR _ m3).symm,(VR _ m4).symm⟩ (⟨memC ⟨(hI _ m1).symm,(hI _ m2).symm,(hI _ m3).symm,(hI _ m4).symm⟩ (λ_ h=>nomatch h),Ap.a,Ap.b,Ap.c,Ap.d,Ap.e,Ap.f⟩:oZ [(I,.obj ob)] bk st kn ln).p,Ap.a,Ap.b,Ap.c,Ap.d,Ap.e,Ap.f⟩
   obtain rfl:m=0:=by simp_all
   have X4:St C (I2::I::W) SL (bQ [(I2,.obj TO),(I,.obj ob)] bk st kn ln S1) (aC (("order",.str o)::oS cs bk st kn ln)) env s2:=X3.to (by k_extra"rs")
   have fin:=EF (k:=k) (Q:=λf P9=>match f with
    | .next | .cont=>St C (I2::I::W) SL ((I2,.obj TO)::bQ [(I,.obj ob)] bk st kn ln (S1.ord cs o)) (aC (oS cs bk st kn ln)) env P9/\Bs C XR (λ_=>true) t2 ((I2,.obj TO)::bQ [(I,.obj ob)] bk st kn ln (S1.ord cs o)) env P9
    | .brk=>False
    | .ret v=>∃p own' Qa,False/\Rr C (I2::I::W) P9.heap v p/\St C (I2::I::W) SL own' Qa env P9/\Bs C XR (λ_=>true) t2 own' env P9) (E:=λ_ _=>False) L FS FG hc (by lia) Gm (QR o (HX ho)) Ap2 rm X4 B3 λs4 X5 B5=>Hq ⟨X5,B5⟩
   rw [<-Qr] at fin
   conv at fin in Fm _=>whnf
   with_reducible refine G' fin ?_ λ_ _ h=>h
   intro f P9 h
   cases f <;> exact h
  case done2=>
   intro s2 X3 B3
   simp only [Hb,IY,<-R3] at X3 B3
   refine Hq ⟨?_,B3⟩
   cases hq:(cK S i).length with
   |zero=>
    rw [hq] at X3
    exact X3.to (by k_extra"rs")
   |succ q=>
    rw [hq] at X3
    exact X3
  all_goals with_reducible intros
 case done=>
  intro s1 X1 B1
  have Wa:(aI 0 24).length=24:=rfl
  rw [Wa] at X1 B1
  generalize cR cs 24=S at X1 B1 next
  have l3:JI kn (bQ [] bk st kn ln S)=some (.lst (S.known.map .str)):=by simp [Hr,HQ (H3 Ap.b),HQ (H3 Ap.d),cq]
  have X2:=(X1.settle 1).to (l:=m8 cs S) (aD (aV (p:= .raw (.ref bk)) (by k_extra"r") (by rw [hX (by simp [Hr]:JI bk (bQ [] bk st kn ln S)=some (.au (cF aP.pv S.book))),dY (mD rC _)]))
   (aD (aV (p:= .raw (.ref st)) (by k_extra"r") (by rw [hX (by simp [Hr,HQ (H3 Ap.a)]:JI st (bQ [] bk st kn ln S)=some (.au (cF cq S.steps))),dY (mD (f:=cq) (λ_=>Plain.strs) _)]))
   (aD (aV (p:= .raw (.ref kn)) (by k_extra"r") (by rw [eX l3,eK];rfl))
   (aD (aV (p:= .raw (.ref ln)) (by k_extra"r") (by rw [eX (by simp [Hr,HQ (H3 Ap.c),HQ (H3 Ap.e),HQ (H3 Ap.f),cq]:JI ln (bQ [] bk st kn ln S)=some (.lst (S.line.map .str))),eK];rfl)) (gq (by k_extra"rs") (uS cs))))))
  have h9:=next _ _ X2 (B1.less (own':=[]) (by simp))
  conv at h9 in aK _=>whnf
  with_reducible exact h9
theorem CN:∀{l:List Str},sortedS l=true->jT dA l:=by
 have key:∀(l:List Str) (x:Str),risingS x l=true->jT dA (x::l):=by
  intro l
  induction l with
  |nil=>intro x _;exact Kh _ _
  |cons y l ih=>
   intro x h
   have h':(!PySem.Spec.ltCps y.cps.toList x.cps.toList && risingS y l)=true:=h
   rw [H',JY,ltCps_eq] at h'
   have hy:=ih y h'.2
   refine Ih.mpr ⟨λz hz=> ?_,hy⟩
   have Ts:dA y x=false:=h'.1
   rcases Hc.mp hz with rfl |hz
   ·exact Ts
   ·exact oO.tr _ _ _ Ts ((Ih.mp hy).1 z hz)
 intro l h
 cases l with
 |nil=>exact I7
 |cons x l=>exact key l x h
theorem w8 {a b:Str}(h1:dA a b=false)(h2:dA b a=false):a=b:=by
 unfold dA at h1 h2
 exact lj (OF (Lm.mp (of_decide_eq_false h2)) (Lm.mp (of_decide_eq_false h1)))
theorem xf {l l':List Str}(h:jT dA l)(h':jT dA l')(hp:l.Perm l'):l=l':=
 MS (λa b _ _ h1 h2=>w8 h2 h1) h h' hp
theorem m6 {P:He->List Hs->List (Str×y')->Prop}{N:He->Prop}{h:Ho}:∀{ys:List Str}{vs:List y'},StrsAre vs ys->aR P N h vs (ys.map .str)
 |_,_,.nil=>rfl
 |_,_,.cons y t r=>⟨_,_,rfl,⟨t,rfl⟩,m6 r⟩
theorem ed {α:Type} [DecidableEq α]:∀{l L:List α},l.Nodup->(∀x∈l,x∈L)->l.length<=L.length
 |[],_,_,_=>H7 _
 |a::l,L,hn,hs=>by
  have ha:=hs a f'
  have h1:=ed (l:=l) (L:=L.erase a) (HJ.mp hn).2 λx hx=>by
   refine(NK ?_).mpr (hs x (j' _ hx))
   rintro rfl
   exact(HJ.mp hn).1 hx
  rw [List.length_erase_of_mem ha] at h1
  have:0 < L.length:=Nj ha
  simp only [HK]
  lia
noncomputable def wQ:List (List Nat):=[0,1,2,3].flatMap λa=>[0,1,2,3].flatMap λb=>[0,1,2,3].flatMap λc=>[0,1,2,3].flatMap λd=>if [a,b,c,d].Nodup then [[a,b,c,d]] else []
theorem vu {p:List Nat}(h:p.Perm [0,1,2,3]):p∈wQ:=by
 match p,h.length_eq with
 |[a,b,c,d],_=>
  have hm:∀x∈[a,b,c,d],x∈[0,1,2,3]:=λx hx=>h.mem_iff.mp hx
  unfold wQ
  refine LV.mpr ⟨a,hm a (by simp),LV.mpr ⟨b,hm b (by simp),LV.mpr ⟨c,hm c (by simp),LV.mpr ⟨d,hm d (by simp),?_⟩⟩⟩⟩
  rw [HE (h.nodup_iff.mpr (by decide))]
  exact Hm.mpr rfl
theorem Ag {l:List Str}(hn:l.Nodup)(h:∀x∈l,oY x):l.length<=24:=by
 have:=ed (L:=wQ.map d9) hn λx hx=>by
  refine ae (h x hx) λp hp P8=> ?_;subst P8
  exact Hd.mpr ⟨p,vu hp,rfl⟩
 rw [Hb] at this
 exact Hf this (by decide+kernel)
theorem wU {S:LS}(h:S.known.Perm S.line)(g:Str):(S.new g).known.Perm (S.new g).line:=by
 unfold LS.new
 split
 ·exact h
 ·exact((cW dA true S.known g).trans (h.cons g)).trans (KC (l₁:=[g]))
theorem AG {S:LS}(h:S.known.Perm S.line)(cs:List Int)(o:Str):∀j,(S.at cs o j).known.Perm (S.at cs o j).line:=by
 intro j
 induction j with
 |zero=>exact h
 |succ j ih=>
  rw [LS.jD]
  exact wU ih _
theorem mX (cs:List Int):∀k,(cR cs k).known.Perm (cR cs k).line:=by
 intro k
 induction k with
 |zero=>exact Jy _
 |succ k ih=>
  show ((cK (cR cs k) k).foldl (LS.ord cs) (cR cs k)).known.Perm _
  exact jZ (P:=λS=>S.known.Perm S.line) (LS.ord cs) (λS h o _=>AG h cs o 3) _ ih
theorem lq (cs:List Int)(k:Nat):(cR cs k).line.length<=24:=by
 have G:=Good.oU cs k
 refine((mX cs k).length_eq)▸?_
 exact Ag G.nd G.ok
theorem AD {l:List Str}(h:∀x∈l,oY x):kK (cq l):=dh (n:=1) (by
 unfold cq
 rw [mG,Nk,HM]
 intro x hx
 show rD 0 (.str x)=true
 rw [yc]
 exact(h x hx).ok) (by decide)
theorem cC.sortedS {l r:List Str}(VT:l.length < 64)(hp:r.Perm l)(hs:jT dA r):cC C k (.builtin "sorted") [.lst (l.map .str)] (.lst (r.map .str)):=λW A s vs rm g hr=>by
 obtain⟨v,rfl,a,us,n,rfl,f,g',ra⟩:=hr.inv1
 refine sorted_strs (aQ g') (jG ra) (by rw [(aR.length ra),Hb];exact VT) λout ZN h1 h2 h3=> ?_
 obtain rfl:ZN=r:=xf (CN h3) hs (h2.trans hp.symm)
 obtain⟨e,he⟩:=sortedAll_at s.heap us out
 have es:ah C [] s {s with heap:=sortedAll s.heap us out}:=ah.of_keeps (tk:=s.toks) (λb o h=>sortedAll_old h) (IB (N5 (Hx he)))
 refine⟨es,s.heap.objs.size+1,out.toList,e,rfl,λq=> ?_,?_,m6 h1⟩
 ·rcases q with q |q
  ·exact absurd (g.low _ (.inl q)) (HH.mpr (Jg _))
  ·exact absurd (g.low _ (.inr q)) (HH.mpr (Jg _))
 ·rw [he]
  show some (seqObj "list" out e)=some (ao out.toList e)
  unfold ao seqObj
  simp only [Array.toArray_toList]
theorem D8 (L:Lx C f3){cs:List Int}(rm:ak A (k+1))(X:St C W SL [] (aC (m8 cs (cR cs 24))) env s)(B:Bs C Wt (λ_=>true) t [] env s)
 (next:∀J,St C W SL [] (aC (m8 cs (cR cs 24))) env J->Bs C Wt (λ_=>true) t [] env J->Hi C.M A (HA (aK 21) env) Q E J):
 Hi C.M A (HA (aK 20) env) Q E s:=by
 have L':=L.L
 have G:=Good.oU cs 24
 have hp:=mX cs 24
 have hz:=lq cs 24
 generalize cR cs 24=S at X next G hp hz
 conv in aK _=>whnf
 with_reducible
  refine bH X B rm (Tr.cmp ?_ (Ev.a5 ?_ (ab.cons ?_ ab.nil) (cC.sortedS (by lia) hp G.srt:cC C (k+1) (.builtin "sorted") [cq S.line] (cq S.known))) (aj.fz (AD G.ok)) Th.bool (by kernel_rfl!)) ?n1
 case n1=>
  intro s1 X1 B1
  with_reducible have h9:=next _ X1 B1
  conv at h9 in aK _=>whnf
  with_reducible exact h9
 all_goals with_reducible intros
set_option maxRecDepth 100000
variable {XI:Own}
noncomputable def A0 (x:Str):y'->Bool
 | .str y _=>y==x
 |_=>false
theorem lE {x:Str}:∀{xs:List Str}{us:List y'},StrsAre us xs->us.countP (A0 x)=xs.countP (·==x)
 |_,_,.nil=>rfl
 |_,_,.cons y t r=>by simp only [JL,lE r];rfl
theorem cC.count {xs:List Str}{x:Str}:cC C k (.builtin "list.count") [.lst (xs.map .str),.str x] (.int (xs.countP (·==x):Nat)):=λW A s vs rm g r=>by
 obtain⟨v,u,rfl,⟨a,us,n,rfl,na,ga,ra⟩,⟨t,rfl⟩⟩:=r.inv2
 have hs:=jG ra
 refine Nd M5 ⟨_,ga,rfl⟩ PySem.F.entry_list_count (PySem.F.args_list_count_2 _ _)
  (PySem.SeqAt.list_countAt a us.toArray n none #[] (.str x t) (A0 x)) ⟨ga,λy hy=> ?_,ah.tok _,s.toks,by rw [<-lE hs]⟩
 ·have W9:y∈us:=by simpa using hy
  refine fB (hs.all y W9) λz tz P8=> ?_;subst P8
  exact PySem.SeqAt.EqAt.str_str z tz x t
noncomputable abbrev pK (h:Ho) (items:Array y'):Ho:=(h.push (seqObj "list" #[] 0)).update h.objs.size (IE (· ++ items))
theorem vo (h:Ho)(items:Array y'):(pK h items).objs.size=h.objs.size+1:=by simp [pK,Io]
theorem meets_tup (l:He)(items:Array y')(n:Nat)(QO:items.size<=sizeLine):
 Meets (H8.«tuple.__new__» ⟨[.type "tuple",.ref l],[]⟩)
  (λ_ R s=>s.heap.get? l=some (seqObj "list" items n)/\R (.ok (.ret (.ref (pK s.heap items).objs.size))) {s with heap:=(pK s.heap items).push {cls:= .type "tuple",data:= .seq items}}):=
 .of_wp λprog w A R s h=>by
  obtain⟨hp,g,d,tk,os⟩:=s;obtain⟨ht,h⟩:=h
  have RD:=sub_tuple_self
  have XA:=init_tuple_lookup
  have hmh:=madeHere_tuple
  have hT:Hh.TypeIs ⟨hp,g,d,tk,os⟩ (.ref l) "list":=⟨_,ht,rfl⟩
  have hl:PG (Hh.heap ⟨hp,g,d,tk,os⟩) l items:=⟨_,ht,rfl,_,rfl⟩
  wp_walk using Ol hT,collect_list hl
  refine⟨_,rfl,?_⟩
  exact h
theorem cC.Dx {xs:List PV}(hz:xs.length<=sizeLine):cC C k (.type "tuple") [.lst xs] (.tup xs):=λW A s vs rm g r=>by
 obtain⟨v,rfl,a,us,n,rfl,f,g',r⟩:=r.inv1
 have e:ah C [] s {s with heap:=pK s.heap us.toArray,toks:=s.toks}:=by
  refine ah.of_keeps (λb o q=> ?_) (by simp)
  rw [(It (s.heap.push (seqObj "list" #[] 0)) s.heap.objs.size (IE (· ++ us.toArray))).2 b (Iw (Hx q))]
  exact Hj _ q
 have e2:ah C [] {s with heap:=pK s.heap us.toArray} {s with heap:=(pK s.heap us.toArray).push (dZ us)}:=ah.push (s:={s with heap:=pK s.heap us.toArray}) _ s.toks
 refine Py F.called_tuple (by rfl) (F.typeCall_tuple_1 _) (F.newCall_tuple_1 _) (λobj=>F.args_object_init_2 obj _) F.entry_tuple_new
  (meets_tup a us.toArray n (by simpa [(aR.length r)] using hz)) ⟨g',⟨_,Hp _ rfl,rfl⟩,e.trans e2,_,us,rfl,λq=> ?_,Hp _ rfl,(e.trans e2).jA r⟩
 have hs:=vo s.heap us.toArray
 rcases q with q |q
 ·exact absurd (g.low _ (.inl q)) (HH.mpr (by rw [hs];exact Jg _))
 ·exact absurd (g.low _ (.inr q)) (HH.mpr (by rw [hs];exact Jg _))
theorem sQ:∀{h:Ho}{es:List (Str×PV)}{kvs:List (Str×y')},bC C.S (C.N W) h kvs es->fe C W h (kvs.map (·.2)) (es.map (·.2))
 |_,[],kvs,r=>by refine(show kvs=[] from r)▸?_;rfl
 |_,(x,p)::es,kvs,⟨v,Q2,e,h1,h2⟩=>by
  subst e
  exact⟨v,Q2.map (·.2),rfl,h1,sQ h2⟩
theorem uU {h:Ho}{es:List (Str×PV)}{kvs:List (Str×y')}{acc:List y'}(r:bC C.S (C.N W) h kvs es)(hl:acc.length=kvs.length)(hv:∀(j:Nat) (v:y'),acc[j]? =some v->∃k,kvs[j]? =some (k,v)):fe C W h acc (es.map (·.2)):=by
 have:acc=kvs.map (·.2):=by
  apply MC
  intro j
  cases hj:acc[j]? with
  |none=>
   exact(KA (by rw [Hb];simp_all)).symm
  |some v=>
   obtain⟨k,hk⟩:=hv j v hj
   simp only [Hy,hk];rfl
 refine this▸?_
 exact sQ r
theorem Ev.rV {x:Str}{px apos S7:Jm}{o:Expr}{es:List (Str×PV)}(hf:Ev C k sc own ρ (.Name x px) (.raw (.type "list")))(ho:Ev C k sc own ρ o (.au es))(hz:es.length<=sizeLine)
 (Qf:∀env,Jk o "values" env (IQ o env)=IQ o env)(Qe:(apos.endLine==S7.line)=true)
 (hn:∀env,HG [.Call (.Attribute o "values" apos) [] [] S7] env=[(false,IQ (.Call (.Attribute o "values" apos) [] [] S7) env)]):
 Ev C k sc own ρ (.Call (.Name x px) [.Call (.Attribute o "values" apos) [] [] S7] [] pos) (.lst (es.map (·.2))):=λW A env s rm X=>by
 refine I6 (G' (hf W A env s rm X) ?_ λ_ _ q=>q.elim)
 rintro v s0 ⟨e0,r0⟩
 obtain rfl:v= .type "list":=r0
 refine NS (rfl) ?_
 refine Lq (K2 ?_)
 refine Jl (Qf env) rfl Qe Jh Ka MN (G' (ho W A env s0 rm (X.aA e0)) ?_ λ_ _ q=>q.elim)
 rintro v s1 ⟨e1,r1⟩
 refine c7 (fY.au W s1 v r1) λh1 h2=> ?_
 refine⟨h1,h2,LQ ?_⟩
 obtain⟨a,ds,n,kvs,rfl,f,g,sd,r⟩:=r1
 refine Mj Ka h1 Mv (Ms _) (Of (strKind C.prog C.w) a (iL sd)) ⟨⟨_,aW g sd⟩,?_⟩
 have e2:ah C [] s1 {s1 with heap:=s1.heap.push {cls:= .type "dict_values",data:= .fields #[.ref a]}}:=ah.push _ s1.toks
 have g2:(s1.heap.push {cls:= .type "dict_values",data:= .fields #[.ref a]}).get? a=some (bj ds n):=Hj _ g
 refine LZ ?_
 have hlr:=bC.length r
 refine kdl_call (s:={s1 with heap:=s1.heap.push {cls:= .type "dict_values",data:= .fields #[.ref a]}}) (kdl_values (knd:=strKind C.prog C.w) (kvs:=kvs) (ep:=n)) rm.handled ⟨⟨_,Hp _ rfl,rfl,rfl⟩,eM g2 sd⟩ (by simp_all) λh' tk acc c hk hD Q9=> ?_
 have e3:ah C [] {s1 with heap:=s1.heap.push {cls:= .type "dict_values",data:= .fields #[.ref a]}} {s1 with heap:=h',toks:=tk}:=ah.of_keeps (tk:=tk) hk (IB (Hx hD))
 refine⟨((e0.trans e1).trans e2).trans e3,_,acc.toList,c,rfl,(((X.aA e0).aA e1).aA e2).gd.fresh,by assumption,?_⟩
 exact uU (bC.mono (λb o n g=>⟨n,(e2.trans e3).keep b o (λq=>n (.inl q)) (by simp) g⟩) r) (by exact Q9.1) λj v hj=>Q9.2 j v (by simpa using hj)
theorem kJ {sl:He}{a n:Nat}{u:Tok}{Q:Int×Int×Nat->Hh->Prop}(hs:s.heap.IsSliceOf sl .none (.int a u) .none)(ha:a<=n)(h:Q ((0:Int),1,a) s):
 Hi C.M A (H8.Slice.sliceApplied (.ref sl) (pure (n:Int))) Q E s:=by
 refine iI (id hs) λos Vt VB VE=> ?_
 refine Ha (Ha (JJ Vt VE (x:= .none) rfl (Ha (JJ Vt VE (x:= .int a u) rfl (Ha (JJ Vt VE (x:= .none) rfl (Hu ?_)))))))
 refine Ha (O8 ?_)
 refine Ha (O8 (Ha (slicePart_int (Ha (Hu ?_)))))
 have e1:Mx none (some (a:Int)) 1 (n:Int)=((0:Int),(a:Int)):=by
  simp only [Mx]
  congr 1
  grind -splitIndPred
 have e2:K5 (0:Int) (a:Int) 1=a:=by
  unfold K5
  simp only [(by exact Int.one_pos:(1:Int) > 0),if_true,Int.ediv_one]
  split <;> simp_all
 refine e1▸?_
 show Hi _ _ (pure ((0:Int),(1:Int),K5 (0:Int) (a:Int) 1)) _ _ s
 rw [e2]
 exact Hu h
theorem AO (xs:List y')(a:Nat)(ha:a<=xs.length):((Hg a).filterMap λ(k:Nat)=>xs.toArray[((0:Int)+(k:Int)*1).toNat]?)=xs.take a:=by
 have e:(λ(k:Nat)=>xs.toArray[((0:Int)+(k:Int)*1).toNat]?)=λk=>xs[k]?:=by
  funext k
  simp
 refine e▸?_
 have:=lr xs 0 a ha
 simpa using this
theorem Ev.Cu {v:Expr}{hi:Expr}{sp:Jm}{xs:List PV}{j:Nat}(h1:Fj C k sc own ρ v xs)(h2:Ev C k sc own ρ hi (.int j))(hj:j < xs.length)(hz:xs.length<=sizeLine)
 (hs:∀o i',∃ops,KP (.Slice Kr (Iy hi) Kr sp) false o i'=operate ops (getItem o i')):Ev C k sc own ρ (.Subscript v (.Slice Kr (Iy hi) Kr sp) pos) (.tup (xs.take j)):=λW A env s rm X=>by
 refine LK (G' (h1 W A env s rm X) ?_ λ_ _ q=>q.elim)
 rintro o s1 ⟨e1,l1⟩
 refine OK (G' (eh.kg W A env s1 rm (X.aA e1)) ?_ λ_ _ q=>q.elim)
 rintro a1 s2 ⟨e2,p2⟩
 refine G' (eh.some h2 W A env s2 rm ((X.aA e1).aA e2)) ?_ λ_ _ q=>q.elim
 rintro a2 s3 ⟨e3,p3⟩
 refine G' (eh.kg W A env s3 rm (((X.aA e1).aA e2).aA e3)) ?_ λ_ _ q=>q.elim
 rintro a3 s4 ⟨e4,p4⟩
 have TP:=(e2.trans e3).trans e4
 refine ib (TP.tup l1) λa vs P8 f g r=> ?_;subst P8
 have hl:=aR.length r
 refine ae (d5 p2) λq2 f2 g2=> ?_
 have:q2=Kr:=by cases q2 with |none=>rfl |some z=>cases g2
 subst this
 refine ae (d5 p3) λq3 Zr g3=> ?_
 obtain⟨⟨z,u⟩,rfl⟩:∃z,q3=Iy z:=by cases q3 with |none=>cases g3 |some z=>exact⟨z,rfl⟩
 have YL:z=(j:Int):=by simpa using g3
 subst YL
 refine ae (d5 p4) λq4 f4 g4=> ?_
 have:q4=Kr:=by cases q4 with |none=>rfl |some z=>cases g4
 subst this
 subst f2 Zr f4
 have e5:ah C [] s4 {s4 with heap:=s4.heap.push {cls:= .type "slice",data:= .fields #[.none,.int j u,.none]}}:=ah.push _ s4.toks
 have g5:(s4.heap.push {cls:= .type "slice",data:= .fields #[.none,.int j u,.none]}).get? a=some (dZ vs):=Hj _ g
 obtain⟨ops,Sp⟩:=hs (.ref a) (.ref s4.heap.objs.size)
 have Qu:(s4.heap.push {cls:= .type "slice",data:= .fields #[.none,.int j u,.none]}).IsSliceOf s4.heap.objs.size .none (.int j u) .none:=O1.new ..
 refine iI (id Qu) λos Vt VB VE=> ?_
 have RU:=nT g5
 refine kba_turn (value':=Expr.Name (PySem.Str.ofString "_") ⟨0,0,0,0⟩) (λ_=>rfl) ?_
 refine MA (s:={s4 with heap:=s4.heap.push {cls:= .type "slice",data:= .fields #[.none,.int j u,.none]}}) RU.typeIs Mu.lookup ?_ Sp (λ_=>rfl)
 unfold getItem
 try with_reducible refine Ip ?_
 first |refine Ha (Hu ?_) |skip
 refine Ha (Og RU.typeIs (by rfl) ?_)
 refine Ha (JC (name:=Lv "__getitem__") RU.typeIs Mu
  (Kl Mu RU.typeIs entry_tuple_getitem ?_ (args_tuple_getitem _ _)))
 show Hi _ _ (H8.Tuple.tupleItemsOf (.ref a) >>=_) _ _ _
 refine Ha (tupleItemsOf_ RU ?_)
 refine Ha (Ol (T:="slice") ⟨os,Vt,VB⟩ ?_)
 refine Ha (kJ (a:=j) Qu (by simp [hl];lia) ?_)
 have VN:¬(((0:Int)==0 && (1:Int)==1 && j==vs.toArray.size)=true):=by
  have:(j==vs.toArray.size)=false:=by simp [hl];exact Iw hj
  rw [this];simp
 show Hi _ _ (if((0:Int)==0 && (1:Int)==1 && j==vs.toArray.size)=true then _ else _) _ _ _
 rw [Hz VN,AO vs j (by lia)]
 have RF:sizeOk (.seq (vs.take j).toArray):=by
  show (vs.take j).toArray.size<=sizeLine
  rw [IM,IG]
  lia
 have e6:ah C [] {s4 with heap:=s4.heap.push {cls:= .type "slice",data:= .fields #[.none,.int j u,.none]}} {s4 with heap:=(s4.heap.push {cls:= .type "slice",data:= .fields #[.none,.int j u,.none]}).push (dZ (vs.take j))}:=ah.push _ s4.toks
 have fin:ah C [] s {s4 with heap:=(s4.heap.push {cls:= .type "slice",data:= .fields #[.none,.int j u,.none]}).push (dZ (vs.take j))}/\Rr C W ((s4.heap.push {cls:= .type "slice",data:= .fields #[.none,.int j u,.none]}).push (dZ (vs.take j))) (.ref (s4.heap.push {cls:= .type "slice",data:= .fields #[.none,.int j u,.none]}).objs.size) (.tup (xs.take j)):=
  ⟨(e1.trans TP).trans (e5.trans e6),_,_,rfl,(((X.aA e1).aA TP).aA e5).gd.fresh,Hp _ rfl,aR.take ((e5.trans e6).jA r) j⟩
 first
  |exact Ha (m:=Kb _) (IL (Hu ⟨_,rfl,Hu fin⟩) RF)
  |exact Ha (m:=Kb _) (IL (Ha (Hu (Hu ⟨_,rfl,Hu fin⟩))) RF)
  |exact Ha (Ha (m:=Kb _) (IL (Hu (Hu ⟨_,rfl,Hu fin⟩)) RF))
  |exact Ha (Ha (m:=Kb _) (IL (Hu ⟨_,rfl,Hu fin⟩) RF))
set_option maxRecDepth 4000
noncomputable abbrev q6 (n:Nat):List I9:=Ky n (cI (ay tb 18) 21)
noncomputable def bY (S:LS) (g:Str):aP:=(S.book.lookup g).getD eD
noncomputable def cu (S:LS) (o:Str):List (List Int):=(S.line.filter λg=>((bY S g).es.lookup o).isSome).map λg=>((bY S g).es.lookup o).getD []
noncomputable def dv (S:LS) (o:Str):List (List Int):=(bY S o).es.map (·.2)
noncomputable def pz (i:Nat) (qs:List (List Int)):List Int:=qs.map λq=>q.getD i 0
noncomputable def fM (i:Nat) (qs:List (List Int)):Int:=(pz i qs).sum
structure dj (cs:List Int)(S:LS):Prop where
 has:∀o∈S.line,∃b,S.book.lookup o=some b
 four:∀e∈S.book,e.2.es.length<=500/\∀q∈e.2.es,q.2.length=4
 steps:∀o∈S.line,S.steps.lookup o=some (kY cs o)
 len:S.line.length<=500
 z:("abcd":Str)∈S.line
 clo:∀o∈S.line,∀j < 3,ax cs j o∈S.line
 small:∀e∈S.book,∀q∈e.2.es,(q.2.getD 2 0).natAbs < 2 ^ 60
 c1:∀o∈S.line,fM 1 (cu S o)=3
 c2:∀o∈S.line,fM 2 (cu S o)=aM cs
 a:∀o∈S.line,(bY S o).a=(kY cs o).countP (·==o)/\(bY S o).a=fM 0 (dv S o)
 bcd:∀o∈S.line,(bY S o).b=fM 1 (dv S o)/\(bY S o).c=fM 2 (dv S o)/\(bY S o).d=fM 3 (dv S o)
noncomputable abbrev oB (b:aP):List PV:=[.int b.a,.int b.b,.int b.c,.int b.d,.au (fT b.es)]
theorem dj.v5 {cs:List Int}{S:LS}(K:dj cs S){o:Str}(ho:o∈S.line):S.book.lookup o=some (bY S o)/\(cF aP.pv S.book).lookup o=some (.tup (oB (bY S o)))/\(bY S o).es.length<=500/\∀q∈(bY S o).es,q.2.length=4:=by
 refine cA (K.has o ho) λb hb=> ?_
 refine(by unfold bY;rw [hb];rfl:bY S o=b)▸?_
 exact⟨hb,by rw [dm,hb];rfl,K.four _ (aG hb)⟩
theorem rG {cs:List Int}{S:LS}(K:dj cs S)(o:Str):∀q∈cu S o,q.length=4:=λq hq=>by
 unfold cu at hq
 refine ae (Hd.mp hq) λg hg P8=> ?_;subst P8
 obtain⟨h1,h2⟩:=HU.mp hg
 obtain⟨q,hq⟩:=J8.mp h2
 refine hq▸?_
 exact(K.v5 h1).2.2.2 _ (aG hq)
theorem oM {q:List Int}(h:q.length=4){i:Nat}(hi:i < 4):(q.map PV.int)[i]? =some (.int (q.getD i 0)):=int_at (by lia)
noncomputable abbrev E5 (cs:List Int) (S:LS) (o:Str):List (Str×PV):=("order",.str o)::m8 cs S
theorem zy (L:Lx C f3){cs:List Int}{S:LS}(K:dj cs S){o:Str}(ho:o∈S.line)(rm:ak A (k+1))(X:St C W SL own (aC (E5 cs S o)) env s)(B:Bs C Wt (λ_=>true) t own env s)
 (next:∀J,St C W SL own (aC (("came",.lst ((dv S o).map tupI))::("calls",.lst ((cu S o).map tupI))::E5 cs S o)) env J->Bs C Wt (λ_=>true) t own env J->Hi C.M A (HA (q6 2) env) Q E J):
 Hi C.M A (HA (q6 0) env) Q E s:=by
 have L':=L.L
 have Qu:sizeLine=16777216:=rfl
 have SF:S.line.length<=sizeLine:=by have:=K.len;lia
 have QS:PV.lst ((S.line.filter λg=>((bY S g).es.lookup o).isSome).map λg=>tupI (((bY S g).es.lookup o).getD []))= .lst ((cu S o).map tupI):=by unfold cu;simp only [HB];rfl
 have Uy:PV.lst ((fT (bY S o).es).map (·.2))= .lst ((dv S o).map tupI):=by unfold dv;simp only [HB];rfl
 have h4:∀b:aP,(oB b)[4]? =some (.au (fT b.es)):=λ_=>rfl
 conv in q6 _=>whnf
 with_reducible
  refine a8 (p:= .lst ((cu S o).map tupI)) X B rm (Ev.conv (fS.ev (bI (need:=false) (l:=S.line) (g:=PV.str) (by with_unfolding_all exact⟨rfl,by done,by done⟩) (λx env=>by fail) (λg=>tupI (((bY S g).es.lookup o).getD [])) (λg=>((bY S g).es.lookup o).isSome) (aX.lst ?_ (by rw [Hb];exact SF)) SF ?step)) QS) (by done) (by fail) (cz X (by done)) ?n1
 case step=>
  intro g hg
  have hb:=(K.v5 hg).2.1
  have Td:=h4 (bY S g)
  refine⟨_,bg.local (by done),by k_extra"u",?_,λhs=> ?_⟩
  ·have SN:(fT (bY S g).es).lookup o=((bY S g).es.lookup o).map tupI:=mE
   with_reducible
    refine Tr.cmp ?_ (Ev.b9 (n:=4) (Ev.t (xs:=oB (bY S g)) (Ev.bh (x:=g) (es:=cF aP.pv S.book) (Ev.d ?_) ?_ hb (λ_ _=>by fail))) Ev.int (by fail) Td (by decide) (λ_ _=>by fail)) aj.inD (by rw [SN,Oi];exact Th.bool) (by decide+kernel)
   all_goals with_reducible intros
  ·have SN:(fT (bY S g).es).lookup o=some (tupI (((bY S g).es.lookup o).getD [])):=by
    obtain⟨q,hq⟩:=J8.mp hs
    rw [mE,hq];rfl
   with_reducible
    refine Ev.bh (x:=o) (es:=fT (bY S g).es) (Ev.d (Ev.b9 (n:=4) (Ev.t (xs:=oB (bY S g)) (Ev.bh (x:=g) (es:=cF aP.pv S.book) (Ev.d ?_) ?_ hb (λ_ _=>by fail))) Ev.int (by fail) Td (by decide) (λ_ _=>by fail))) ?_ SN (λ_ _=>by fail)
   all_goals with_reducible intros
 case n1=>
  intro s1 X1 B1
  with_reducible
   refine a8 (p:= .lst ((dv S o).map tupI)) (X1.to (l:=("calls",.lst ((cu S o).map tupI))::E5 cs S o) (by k_extra"rs")) B1 rm (Ev.conv (Ev.rV ?_ (Ev.b9 (n:=4) (Ev.t (xs:=oB (bY S o)) (Ev.bh (x:=o) (es:=cF aP.pv S.book) (Ev.d ?_) ?_ ((K.v5 ho).2.1) (λ_ _=>by fail))) Ev.int (by fail) (h4 (bY S o)) (by decide) (λ_ _=>by fail)) (by rw [Hb];have:=(K.v5 ho).2.2.1;lia) (λ_=>by fail) (by fail) (λenv=>by fail)) Uy) (by done) (by fail) (by fail) ?n2
  case n2=>
   intro s2 X3 B2
   with_reducible have h9:=next _ (X3.to (by k_extra"rs")) B2
   conv at h9 in q6 _=>whnf
   with_reducible exact h9
  all_goals with_reducible intros
 all_goals with_reducible intros
theorem AS (L:Lx C f3){cs:List Int}{S:LS}(K:dj cs S){o:Str}(ho:o∈S.line)(rm:ak A (k+1))(X:St C W SL own (aC (("came",.lst ((dv S o).map tupI))::("calls",.lst ((cu S o).map tupI))::E5 cs S o)) env s)(B:Bs C Wt (λ_=>true) t own env s)
 (next:∀J,St C W SL own (aC (m8 cs S)) env J->Bs C Wt (λ_=>true) t own env J->Hi C.M A (HA [] env) Q E J):
 Hi C.M A (HA (q6 2) env) Q E s:=by
 have L':=L.L
 have Qu:sizeLine=16777216:=rfl
 have hcz:(cu S o).length<=500:=by
  unfold cu
  rw [Hb]
  exact Hf (II _ _) K.len
 have hmz:(dv S o).length<=500:=by
  unfold dv
  rw [Hb]
  exact(K.v5 ho).2.2.1
 have YY:∀q∈dv S o,q.length=4:=λq hq=>by
  refine ae (Hd.mp hq) λe he P8=> ?_;subst P8
  exact(K.v5 ho).2.2.2 e he
 have Yh:=(K.v5 ho).2.1
 have QT:(cF cq S.steps).lookup o=some (.lst ((kY cs o).map .str)):=by simp only [dm,K.steps o ho];rfl
 have TC:([1,2]:List Nat).map (λi=>PV.int (fM i (cu S o)))=[.int 3,.int (aM cs)]:=by
  show [PV.int (fM 1 _),.int (fM 2 _)]=_
  rw [K.c1 o ho,K.c2 o ho]
 have e4:(Hg 4).map (λi=>PV.int (fM i (dv S o)))=[.int (bY S o).a,.int (bY S o).b,.int (bY S o).c,.int (bY S o).d]:=by
  show [PV.int (fM 0 _),.int (fM 1 _),.int (fM 2 _),.int (fM 3 _)]=_
  simp only [<-(K.a o ho).2,<-(K.bcd o ho).1,<-(K.bcd o ho).2.1,<-(K.bcd o ho).2.2]
 have Sl:kK (.lst [.int 3,.int (aM cs)]):=dh (n:=1) (rfl) (by decide)
 have W5:kK (.tup [.int (bY S o).a,.int (bY S o).b,.int (bY S o).c,.int (bY S o).d]):=dh (n:=1) (rfl) (by decide)
 have W3:∀i:Nat,(cu S o).map (λq=>PV.int (q.getD i 0))=(pz i (cu S o)).map .int:=λi=>by unfold pz;simp only [HB];rfl
 have Uy:∀i:Nat,(dv S o).map (λq=>PV.int (q.getD i 0))=(pz i (dv S o)).map .int:=λi=>by unfold pz;simp only [HB];rfl
 conv in q6 _=>whnf
 with_reducible
  refine bH X B rm (Tr.cmp (Ev.conv (fS.ev (c9 (need:=false) (l:=([1,2]:List Nat)) (g:=λ(i:Nat)=>PV.int (i:Int)) (by with_unfolding_all exact⟨rfl,by done,by done⟩) (λx env=>by fail) (λi=>PV.int (fM i (cu S o))) ((rfl:([PV.int 1,.int 2]:List PV)=([1,2]:List Nat).map λ(i:Nat)=>PV.int (i:Int))▸aX.tup (Ev.tuple (ab.cons Ev.int (ab.cons Ev.int ab.nil)) (Hv (by fail))) (by decide)) (by decide) ?st1)) (HV PV.lst TC)) ?_ (aj.fz Sl) Th.bool (by decide+kernel)) ?n1
 case st1=>
  intro i hi
  have Uj:i < 4:=by
   simp only [Hc,H0,or_false] at hi
   lia
  refine⟨_,bg.cell (by done) (by fail),by k_extra"u",?_⟩
  with_reducible
   refine Ev.a5 ?_ (ab.cons (fS.ev (c9 (need:=false) (l:=cu S o) (g:=tupI) (by with_unfolding_all exact⟨rfl,by done,by done⟩) (λx env=>by fail) (λq=>PV.int (q.getD i 0)) (aX.lst ?_ (by rw [Hb];omega)) (by omega) ?st2)) ab.nil) (cC.sum (ns:=pz i (cu S o)) (AU.lst (by rw [Hb];omega)) (W3 i))
  case st2=>
   intro q hq
   have ZD:=rG K o q hq
   refine⟨_,bg.local (by done),by k_extra"u",?_⟩
   with_reducible
    refine Ev.b9 (n:=i) (Ev.t (xs:=q.map .int) ?_) ?_ (by fail) (oM ZD Uj) (by lia) (λ_ _=>by fail)
   all_goals with_reducible intros
  all_goals with_reducible intros
 case n1=>
  intro s1 X1 B1
  with_reducible
   refine bH X1 B1 rm (Tr.conv (p:=false || (false || false)) (Tr.or (Tr.cmp (Ev.b9 (n:=0) (Ev.t (xs:=oB (bY S o)) (Ev.bh (x:=o) (es:=cF aP.pv S.book) (Ev.d ?_) ?_ Yh (λ_ _=>by fail))) Ev.int (by fail) rfl (by decide) (λ_ _=>by fail)) (Ev.conv (Ev.u7 (T:="list") (id:="list.count") (p:= .lst ((kY cs o).map .str)) (ps:=[.str o]) (Ev.bh (x:=o) (es:=cF cq S.steps) (Ev.d ?_) ?_ QT (λ_ _=>by fail)) fY.lst (ab.cons ?_ ab.nil) cC.count (λ_=>by fail) (λ_=>by fail) (by fail) Ll M5 PySem.F.type_list_count (λenv=>by fail) (λenv=>by fail)) (by simp only [(K.a o ho).1]:PV.int (((kY cs o).countP (·==o):Nat):Int)= .int (bY S o).a)) aj.Ba (by simp;exact Th.bool) (by decide+kernel)) (λ_=>Tr.or (Tr.cmp (Ev.conv (Ev.Cu (j:=4) (xs:=oB (bY S o)) (Ev.t (Ev.bh (x:=o) (es:=cF aP.pv S.book) (Ev.d ?_) ?_ Yh (λ_ _=>by fail))) Ev.int (Hv rfl) (Hv rfl) (λ_ _=>⟨_,by fail⟩)) (HV PV.tup rfl)) (Ev.mh ?_ (ab.cons (Ev.conv (fS.ev (c9 (need:=false) (l:=Hg 4) (g:=λ(i:Nat)=> .int ((0:Int)+(i:Int))) (by with_unfolding_all exact⟨rfl,by done,by done⟩) (λx env=>by fail) (λi=>PV.int (fM i (dv S o))) ?it (by decide) ?st3)) (HV PV.lst e4)) ab.nil) (cC.Dx (Hv rfl))) (aj.fz W5) Th.bool (by decide+kernel)) (λ_=>Tr.qA))) (rfl)) ?n2
  case it=>exact aX.cJ (n:=4) (by intros) (by intros) (by decide) (by decide) (λenv=>by fail)
  case st3=>
   intro i hi
   have Uj:=HN.mp hi
   refine⟨_,bg.cell (by done) (by fail),by k_extra"u",?_⟩
   with_reducible
    refine Ev.a5 ?_ (ab.cons (fS.ev (c9 (need:=false) (l:=dv S o) (g:=tupI) (by with_unfolding_all exact⟨rfl,by done,by done⟩) (λx env=>by fail) (λq=>PV.int (q.getD i 0)) (aX.lst ?_ (by rw [Hb];omega)) (by omega) ?st4)) ab.nil) (cC.sum (ns:=pz i (dv S o)) (AU.lst (by rw [Hb];omega)) (Uy i))
   case st4=>
    intro q hq
    refine⟨_,bg.local (by done),by k_extra"u",?_⟩
    have WA:=oM (YY q hq) Uj
    with_reducible
     refine Ev.b9 (n:=i) (Ev.t (xs:=q.map .int) ?_) ?_ (by lia) WA (by lia) (λ_ _=>by fail)
    all_goals with_reducible intros
   all_goals with_reducible intros
  case n2=>
   intro s2 X2 B2
   exact next _ (X2.to (by k_extra"rs")) B2
  all_goals with_reducible intros
 all_goals with_reducible intros
set_option maxRecDepth 100000
section
open AutoSeq1 (wpAny_loadPart')
open PySem.MeetsSeq PySem.MeetsSeq2 PySem.MeetsSeq3 PySem.SeqRoads2 PySem.SeqAt
noncomputable def fW:List Int->List Int->Bool
 |[],[]=>false
 |[],_::_=>true
 |_::_,[]=>false
 |x::xs,y::ys=>if x=y then fW xs ys else decide (x < y)
theorem zm {v1 v2}:fW (v1::v2) []=(false):=rfl
theorem kU {x xs y ys}:fW (x::xs) (y::ys)=(if x=y then fW xs ys else decide (x < y)):=rfl
theorem lx {vs:List y'}{ns:List Int}(h:IntsAre vs ns):∀{i:Nat}{n:Int},ns[i]? =some n->∃t,vs[i]? =some (.int n t):=by
 induction h with
 |nil=>intro i n e;simp at e
 |cons m t _ ih=>
  intro i n e
  rcases i with _ |i
  ·exact⟨t,by simpa using e⟩
  ·exact ih (by simpa using e)
theorem uO (l b:He)(items P':Array y')(ns ms:List Int)(h1:IntsAre items.toList ns)(h2:IntsAre P'.toList ms)(n n2:Nat)(dd S3:Option He)(sl SQ:Array (Option y'))(k:Nat):
 ∀i:Nat,ns.length - i=k->i<=ns.length->i<=ms.length->Meets (H8.«list.__eq__.loop» ⟨[.ref l,.ref b,JE i,JE 0],[]⟩)
  (λA R s=>s.heap.get? l=some {cls:= .type "list",dict:=dd,data:= .seq items n,slots:=sl}/\s.heap.get? b=some {cls:= .type "list",dict:=S3,data:= .seq P' n2,slots:=SQ}/\
   R (.ok (.ret (.bool (fW (ns.drop i) (ms.drop i))))) s):=by
 have z1:items.size=ns.length:=by have:=h1.length;simpa using this
 have z2:P'.size=ms.length:=by have:=h2.length;simpa using this
 induction k with
 |zero=>
  intro i hk l1 l2 prog w A R s h
  obtain⟨hp,g,d,tk,os⟩:=s;obtain⟨hl,hb,h⟩:=h
  wp_walk using HY hl,HY hb
  have Ut:items[((i:Nat):Int).toNat]? =none:=by simp;lia
  have hd:ns.drop i=[]:=by simp;simp_all
  rw [hd] at h
  refine Ut▸?_
  wp_walk using HY hl,HY hb
  show R (.ok (.ret (.bool (decide (items.size < P'.size))))) _
  rcases hms:ms.drop i with _ |⟨y,ys⟩
  ·rw [hms] at h
   have:ms.length<=i:=by simpa using hms
   rw [(by simp;lia:decide (items.size < P'.size)=false)];exact h
  ·rw [hms] at h
   have:i < ms.length:=by
    have:=HV NB hms
    simp at this;exact LJ this
   rw [(by simp;lia:decide (items.size < P'.size)=true)];exact h
 |succ k ih=>
  intro i hk l1 l2 prog w A R s h
  obtain⟨hp,g,d,tk,os⟩:=s;obtain⟨hl,hb,h⟩:=h
  wp_walk using HY hl,HY hb
  have Qc:i < ns.length:=by exact LJ hk
  obtain⟨t,ht⟩:=lx h1 (Hn Qc)
  have Ut:items[((i:Nat):Int).toNat]? =some (.int ns[i] t):=by simpa using ht
  rw [(K4 Qc)] at h
  rw [Ut]
  by_cases RR:i < ms.length
  ·refine cA (lx h2 (Hn RR)) λu hu=> ?_
   have Us:P'[((i:Nat):Int).toNat]? =some (.int ms[i] u):=by simpa using hu
   rw [(K4 RR),kU] at h
   refine Us▸?_
   refine Ha ((EqAt.int_int (A:=A.in1) (s:=_) ns[i] t ms[i] u) prog w _ _ ?_)
   by_cases T7:ns[i]=ms[i]
   ·rw [HE T7] at h
    rw [(by simp [T7]:(ns[i]==ms[i])=true)]
    wp_walk
    refine((by push_cast;rfl:((i:Int)+1)=((i+1:Nat):Int)))▸?_
    exact⟨MQ plain_eq_loop _,Ma entry_eq_loop (by
     refine(KZ plain_eq_loop _)▸?_
     exact ih (i+1) (by grind -splitIndPred) (by assumption) (by exact Nat.succ_le_of_lt RR) prog w A R _ ⟨hl,hb,h⟩)⟩
   ·rw [Hz T7] at h
    rw [(by simp [T7]:(ns[i]==ms[i])=false)]
    wp_walk using HY hl,HY hb
    refine Ut▸Us▸?_
    refine Ha (show Hi _ _ (HZ .Lt (.int ns[i] t) (.int ms[i] u)) _ _ _ from Ph ?_)
    wp_walk
    exact h
  ·have Us:P'[((i:Nat):Int).toNat]? =none:=by simp;simp_all
   have hd2:ms.drop i=[]:=by simp;simp_all
   rw [hd2,zm] at h
   refine Us▸?_
   wp_walk using HY hl,HY hb
   show R (.ok (.ret (.bool (decide (items.size < P'.size))))) _
   rw [(by simp;lia:decide (items.size < P'.size)=false)];exact h
theorem uF (l b:He)(items P':Array y')(ns ms:List Int)(h1:IntsAre items.toList ns)(h2:IntsAre P'.toList ms)(n n2:Nat)(dd S3:Option He)(sl SQ:Array (Option y')):
 Meets (H8.«list.__lt__» ⟨[.ref l,.ref b],[]⟩)
  (λA R s=>s.heap.get? l=some {cls:= .type "list",dict:=dd,data:= .seq items n,slots:=sl}/\s.heap.get? b=some {cls:= .type "list",dict:=S3,data:= .seq P' n2,slots:=SQ}/\
   R (.ok (.ret (.bool (fW ns ms)))) s):=by
 intro prog w A R s h
 obtain⟨hp,g,d,tk,os⟩:=s;refine cZ h λhl hb h=> ?_
 have f3:=AutoSeq1.sub_list_list
 wp_walk using HY hl,HY hb
 exact⟨MQ plain_eq_loop _,Ma entry_eq_loop (by
  refine(KZ plain_eq_loop _)▸?_
  exact uO l b items P' ns ms h1 h2 n n2 dd S3 sl SQ _ 0 rfl (H7 _) (H7 _) prog w A R _ ⟨hl,hb,by simpa using h⟩)⟩
theorem lB {P:He->List Hs->List (Str×y')->Prop}{N:He->Prop}{h:Ho}:∀{ns:List Int}{vs:List y'},aR P N h vs (ns.map .int)->IntsAre vs ns
 |[],_,x=>by rw [show _=([]:List y') from x];exact .nil
 |n::ns,_,⟨v,r,e,⟨t,hv⟩,y⟩=>by rw [e,hv];exact .cons n t (lB y)
end
section
open PySem.MeetsSeq PySem.MeetsSeq2 PySem.MeetsSeq3 PySem.SeqRoads2 PySem.SeqAt
noncomputable def oW {α:Type} (b:Nat->Nat->Bool):KasT α->α
 | .ret a=>a
 | .ask i j k=>oW b (k (b i j))
theorem zo {α:Type}(b:Nat->Nat->Bool) {a}:oW (α:=α) b (.ret a)=(a):=rfl
theorem An {α:Type}(b:Nat->Nat->Bool) {i j k}:oW (α:=α) b (.ask i j k)=(oW b (k (b i j))):=rfl
noncomputable def jj {α:Type} (n:Nat) (b:Nat->Nat->Bool):KasT α->Bool
 | .ret _=>true
 | .ask i j k=>Nl i n && Nl j n && jj n b (k (b i j))
theorem mC {α:Type}(n:Nat)(b:Nat->Nat->Bool) {v1}:jj (α:=α) n b (.ret v1)=(true):=rfl
theorem lX {α:Type}(n:Nat)(b:Nat->Nat->Bool) {i j k}:jj (α:=α) n b (.ask i j k)=(Nl i n && Nl j n && jj n b (k (b i j))):=rfl
noncomputable def cQ (n:Nat) (b:Nat->Nat->Bool):List Nat:=if n < 2 then Hg n else(oW b (kas_sort n)).toList
noncomputable def gf (n:Nat) (b:Nat->Nat->Bool):Bool:=Nl n 2 || jj n b (kas_sort n)
theorem nS {α:Type}{cmp:Nat->Nat->(Bool->Hh->Prop)->Hh->Prop}{Q:α->Hh->Prop}{n:Nat}{b:Nat->Nat->Bool}(I:Hh->Prop)
 (S8:∀i j s (D:Bool->Hh->Prop),i < n->j < n->I s->(∀J,I J->D (b i j) J)->cmp i j D s):∀(t:KasT α)(s:Hh),jj n b t=true->I s->(∀J,I J->Q (oW b t) J)->t.kasWp cmp Q s
 | .ret a,s,_,hs,h=>h s hs
 | .ask i j k,s,ho,hs,h=>by
  simp only [mC,lX,H'] at ho
  exact S8 i j s _ (K0.mp ho.1.1) (K0.mp ho.1.2) hs λJ QJ=>nS I S8 (k (b i j)) J ho.2 QJ h
def Eo (C:Cfg)(p q:PV)(c:Bool):Prop:=∀W A s v u,ak A 0->Gd C W s->Rr C W s.heap v p->Rr C W s.heap u q->Hi C.M A (keyLt' oneType' v u) (λd J=>ah C [] s J/\d=c) (λ_ _=>False) s
def EZ (C:Cfg)(p:PV)(T:String):Prop:=∀W (s:Hh) v,Rr C W s.heap v p->Looks C.M s.heap (typeOf v) (.type T)
theorem EZ.lst {xs:List PV}:EZ C (.lst xs) "list":=λW s v r=>by
 refine gB r λa vs n QI _ g _=> ?_;refine QI▸?_
 exact λA Q E J k q=>Ol (T:="list") ⟨_,k _ _ g,rfl⟩ q
theorem Eo.ints {ns ms:List Int}:Eo C (.lst (ns.map .int)) (.lst (ms.map .int)) (fW ns ms):=λW A s v u rm g h1 h2=>by
 refine gB h1 λa vs n QI _ ga ra=> ?_;refine QI▸?_
 refine gB h2 λb us n2 QI _ gb rb=> ?_;refine QI▸?_
 simp_all
 refine Ha (wpAny_cRoomFor (by have:=rm.deep;exact Lr this) ?_)
 refine Ha (wpAny_callSpecialIfBound?_slot (T:="list") ⟨_,ga,rfl⟩ F.slot_list_lt (Nd F.slot_list_lt ⟨_,ga,rfl⟩ F.entry_list_lt (F.args_list_lt_2 _ _) (uF a b vs.toArray us.toArray ns ms ((lB ra)) ((lB rb)) n n2 none none #[] #[]) ⟨ga,gb,?_⟩))
 exact Mz ⟨ah.refl _,rfl⟩
def AN (C:Cfg)(p:PV)(ps:List PV):Prop:=∀W A s v,A.handled=none->Gd C W s->Rr C W s.heap v p->∀(Q:List y'->Hh->Prop) E,(∀us J,ah C [] s J->fe C W J.heap us ps->Q us J)->Hi C.M A (collect v) Q E s
theorem kI {P:He->List Hs->List (Str×y')->Prop}{N:He->Prop}{h:Ho}:∀{cs:List Nat}{us:List y'},us.length=cs.length->(∀(j:Nat) (v:y'),us[j]? =some v->∃c u,cs[j]? =some c/\v= .str ⟨#[c]⟩ u)->aR P N h us (cs.map λc=>PV.str ⟨#[c]⟩)
 |[],us,hl,_=>I1.mp hl
 |c::cs,[],hl,_=>by simp at hl
 |c::cs,u::us,hl,hs=>by
  refine aL (hs 0 u rfl) λc' t h1 h2=> ?_
  have:c=c':=by simpa using h1
  refine this▸?_
  refine⟨u,us,rfl,⟨t,h2⟩,kI (by simpa using hl) λj v hj=> ?_⟩
  exact hs (j+1) v (by assumption)
theorem AN.str {x:Str}(hz:x.cps.size<=sizeLine):AN C (.str x) (signs x):=λW A s v hh g r Q E hQ=>by
 obtain⟨t,rfl⟩:=r
 refine ba (wpAny_collect_str hh x t (λJ acc hk hg hd ho hi QO=> ?_) hz)
 refine hQ acc.toList J (⟨λa o _ _ q=>hk a o q,QO,λt' _ ps x=>⟨#[],(x.keeps hk)⟩,ho,λq=>by rw [hg];exact q⟩) ?_
 refine kI ((hi.1)) λj v hj=> ?_
 refine aL (hi.2 j v (by simpa using hj)) λc u h1 h2=> ?_
 exact⟨c,u,by simpa using h1,h2⟩
end
theorem ic (vs:List y')(n:Nat):ao vs n=seqObj "list" vs.toArray n:=rfl
theorem aR.getD {P:He->List Hs->List (Str×y')->Prop}{N:He->Prop}{h:Ho}{ps:List PV}{vs:List y'}(r:aR P N h vs ps){i:Nat}(hi:i < ps.length):Rp P N h (vs.getD i .none) (ps.getD i .none):=by
 refine ae (aR.get r (Hn hi)) λv e hv=> ?_
 simp only [Hl,e,Hn hi]
 exact hv
theorem aR.EO {P:He->List Hs->List (Str×y')->Prop}{N:He->Prop}{h:Ho}{ps:List PV}{vs:List y'}(r:aR P N h vs ps):∀l:List Nat,(∀i∈l,i < ps.length)->aR P N h (l.map λi=>vs.getD i .none) (l.map λi=>ps.getD i .none):=by
 intro q0
 induction q0 with
 |nil=>
  intro _
  exact rfl
 |cons i l ih=>
  intro hl
  exact⟨_,_,rfl,r.getD (hl i f'),ih λj hj=>hl j (j' _ hj)⟩
theorem jC {a:He}{vs us:List y'}{n m:Nat}{h':Ho}{tk:Nat}(i:Inv C J)(e:ah C [] s J)(ha:s.heap.objs.size<=a)(g:J.heap.get? a=some (ao vs n))(hs:Iv a J.heap h'):ah C [] s {J with heap:=h',toks:=tk}:=
 ah.o9 e (ah.turn (W:=[a]) i hs g (λ_=>nofun) f') λb hb=>by
  refine(Hm.mp hb)▸?_;exact ha
theorem uh {us:List y'}{ps:List PV}{κ:PV->PV}{f:He}{T:String}{b:Nat->Nat->Bool}(g:Gd C W s)(r:fe C W s.heap us ps)(rm:ak A (k+1))(VT:ps.length < 64)
 (QY:∀q∈ps,aO C k [] (.ref f) [q] [] (κ q))(hT:∀q∈ps,EZ C (κ q) T)(Wf:T≠"tuple")(Qc:∀i j,i < ps.length->j < ps.length->Eo C (κ (ps.getD i .none)) (κ (ps.getD j .none)) (b i j))(QR:gf ps.length b=true)
 (SD:∀i∈cQ ps.length b,i < ps.length)(Sf:(cQ ps.length b).length=ps.length){D:He}{n:Nat}(hD:s.heap.objs.size<=D){P5:Hh}(e1:ah C [] s P5)(gD:P5.heap.get? D=some (ao us n)){P:LN->Hh->Prop}
 (hP:∀J m,ah C [] s J->J.heap.get? D=some (ao ((cQ ps.length b).map λi=>us.getD i .none) m)->P (.done (.ret .none)) J):Hi C.M A (ksk_tree D (.ref f) false) P E P5:=by
 have hl:=aR.length r
 have Qu:sizeLine=16777216:=rfl
 obtain⟨QH,ho1⟩:∃QH,(P5.heap.update D (IE λ_=>(#[]:Array y'))).get? D=some (ao [] QH):=⟨_,by simp only [ic] at gD;exact Nq gD λ_=>#[]⟩
 unfold ksk_tree
 refine Ha (Pz gD rfl ?_)
 refine Ha (MT gD rfl ?_ (by rw [IM];lia) (H7 _))
 have E2:ah C [] s {P5 with heap:=P5.heap.update D (IE λ_=>#[]),toks:=P5.toks}:=jC (us:=[]) (m:=0) (g.inv.jB e1) e1 hD gD (It P5.heap D (IE λ_=>(#[]:Array y')))
 refine Ha (PQ ho1 rfl ?_)
 refine Ha (O6 ?_ (by show us.length<=_;lia))
 refine Ha (Pd ?_ (H7 _))
 refine Ip ?_
 generalize hH:((P5.heap.update D (IE λ_=>(#[]:Array y'))).push {cls:= .type "tuple",data:= .seq us.toArray.toList.toArray})=H
 have E3:ah C [] s {P5 with heap:=H,toks:=P5.toks}:=by
  rw [<-hH]
  exact E2.trans (ah.push (s:={P5 with heap:=P5.heap.update D (IE λ_=>#[]),toks:=P5.toks}) _ P5.toks)
 have E4:ah C [] s {P5 with heap:=H.push {cls:= .type "list",data:= .seq ([]:List y').toArray},toks:=P5.toks}:=E3.trans (ah.push (s:={P5 with heap:=H,toks:=P5.toks}) _ P5.toks)
 have gD4:({P5 with heap:=H.push {cls:= .type "list",data:= .seq ([]:List y').toArray},toks:=P5.toks}:Hh).heap.get? D=some (ao [] QH):=by
  refine Hj _ ?_
  refine hH▸?_
  exact Hj _ ho1
 have ZR:({P5 with heap:=H.push {cls:= .type "list",data:= .seq ([]:List y').toArray},toks:=P5.toks}:Hh).heap.get? H.objs.size=some (ao [] 0):=Hp _ rfl
 have Un:s.heap.objs.size<=H.objs.size:=E3.size
 have YF:H.objs.size≠D:=by
  rw [(by rw [<-hH,Io,Ho.size_update]:H.objs.size=P5.heap.objs.size+1)]
  exact JZ (ME (Hx gD))
 show Hi C.M A (ksk_rest D (.ref f) false us.toArray QH (.ref H.objs.size)) P E {P5 with heap:=H.push {cls:= .type "list",data:= .seq ([]:List y').toArray},toks:=P5.toks}
 generalize H.objs.size=kS at *
 generalize ({P5 with heap:=H.push {cls:= .type "list",data:= .seq ([]:List y').toArray},toks:=P5.toks}:Hh)=s4 at *
 have hN:∀a o,¬C.N W a->s.heap.get? a=some o->¬C.N (kS::D::W) a:=λa o hn q hc=>by
  have Qc:=Hx q
  rcases hc with hc |hc
  ·exact hn (.inl hc)
  ·rcases Hc.mp hc with rfl |hc
   ·exact absurd Qc (HH.mpr Un)
   ·rcases Hc.mp hc with rfl |hc
    ·exact absurd Qc (HH.mpr hD)
    ·exact hn (.inr hc)
 have Yn:∀J,ah C [] s J->(∃o,J.heap.get? kS=some o)->(∃o,J.heap.get? D=some o)->Gd C (kS::D::W) J:=λJ e hk hd=>by
  have g':=g.aA e
  refine⟨g'.inv,λa ha=> ?_,λa ha=> ?_⟩
  ·rcases ha with ha |ha
   ·exact g'.low a (.inl ha)
   ·rcases Hc.mp ha with rfl |ha
    ·exact Hx hk.choose_spec
    ·rcases Hc.mp ha with rfl |ha
     ·exact Hx hd.choose_spec
     ·exact g'.low a (.inr ha)
  ·rcases Hc.mp ha with rfl |ha
   ·exact g.inv.beyond Un
   ·rcases Hc.mp ha with rfl |ha
    ·exact g.inv.beyond hD
    ·exact g.new a ha
 let St':Nat->Hh->Prop:=λi J=>ah C [] s J/\J.heap.get? D=some (ao [] QH)/\∃ks m,J.heap.get? kS=some (ao ks m)/\ks.length=i/\fe C (kS::D::W) J.heap ks ((ps.take i).map κ)
 unfold ksk_rest
 refine Ha (Nb ?_)
 rw [List.forIn_toArray]
 refine Ha (ksk_fold St' us 0 s4 ⟨E4,gD4,[],0,ZR,rfl,rfl⟩ ?turn ?done)
 case turn=>
  rintro j x J hx ⟨e,gd,ks,m,gk,RX,rk⟩
  rw [Mh] at RX rk
  have hj:j < ps.length:=by
   have:=(HD.mp hx).1
   simp_all
  have hp:ps[j]? =some ps[j]:=Hn hj
  refine ae (aR.get ((λJ e=>aR.mono (λa o hn q=>⟨hN a o hn q,e.keep a o (λh=>hn (.inl h)) (by simp) q⟩) r) J e) hp) λx' YP rx=> ?_
  have:x'=x:=IF (YP.symm.trans hx)
  refine this▸?_
  refine Ha (Pb (G' (QY ps[j] (Jv hj) (kS::D::W) A J [x'] [] (rm.mono (by simp)) (Yn J e ⟨_,gk⟩ ⟨_,gd⟩) (λy hy=>by cases hy) ⟨x',[],rfl,rx,rfl⟩ .nil) ?_ λ_ _ q=>q.elim))
  intro kv Qj zz;refine c7 zz λe2 ZC=> ?_
  have nK:kS∉C.aq:=λh=>by
   exact absurd (g.low kS (.inl h)) (HH.mpr Un)
  have nD:D∉C.aq:=λh=>by
   exact absurd (g.low D (.inl h)) (HH.mpr hD)
  have V7:Qj.heap.get? kS=some (ao ks m):=e2.keep _ _ nK (by simp) gk
  have e3:=e.trans e2
  have sb:=It Qj.heap kS (IE (·.push kv))
  obtain⟨m2,gk3⟩:∃m2,(Qj.heap.update kS (IE (·.push kv))).get? kS=some (ao (ks ++ [kv]) m2):=⟨_,by simp only [ic,<-(by simp:(J2 ks).push kv=J2 (ks ++ [kv]))];exact Nq V7 (·.push kv)⟩
  refine Ha (MT V7 rfl ?_ (by rw [IM];lia) (Hf (Ly (Array.size_push ..)) (by refine IM▸?_;lia)))
  refine Hu ⟨rfl,?_⟩
  rw [Mh]
  have mono:∀a o,¬C.N (kS::D::W) a->Qj.heap.get? a=some o->¬C.N (kS::D::W) a/\(Qj.heap.update kS (IE (·.push kv))).get? a=some o:=λa o hn q=>⟨hn,by
   rw [sb.2 a (λh=>hn (.inr (by simp only [h];exact f')))];exact q⟩
  refine⟨jC (us:=[]) (m:=0) (tk:=Qj.toks) (g.inv.jB e3) e3 Un V7 sb,?_,ks ++ [kv],m2,gk3,by simp [RX],?_⟩
  ·show (Qj.heap.update kS _).get? D=_
   rw [sb.2 D (H3 YF)];exact(e2.keep _ _ nD (by simp) gd)
  ·simp only [take_snoc hp,HC]
   exact aR.append (aR.mono mono (ah.jA e2 rk)) ⟨kv,[],rfl,Rp.mono mono ZC,rfl⟩
 case done=>
  rintro J ⟨e,gd,ks,m,gk,RX,rk⟩
  rw [Mh] at RX rk
  rw [hl,IY] at rk
  replace RX:=hl▸RX
  refine Ha (Pz gk rfl ?_)
  have tail:∀(st:SortSt) (s5:Hh),(arrOf st).map (·.2)=J2 ((cQ ps.length b).map λi=>us.getD i .none)->failedOf st=none->ah C [] s s5->s5.heap.get? D=some (ao [] QH)->(∃m,s5.heap.get? kS=some (ao ks m))->Hi C.M A (ksk_tail D false QH (.ref kS) st) P E s5:=by
   rintro st s5 T9 hf e5 gd5 ⟨m5,gk5⟩
   have Xk:=It s5.heap kS (IE λ_=>(#[]:Array y'))
   have Vo:(s5.heap.update kS (IE λ_=>(#[]:Array y'))).get? D=some (ao [] QH):=by
    rw [Xk.2 D (H3 YF)];exact gd5
   have e6:ah C [] s {s5 with heap:=s5.heap.update kS (IE λ_=>#[]),toks:=s5.toks}:=jC (us:=[]) (m:=0) (g.inv.jB e5) e5 Un gk5 Xk
   obtain⟨m7,gd7⟩:∃m7,((s5.heap.update kS (IE λ_=>(#[]:Array y'))).update D (IE λ_=>J2 ((cQ ps.length b).map λi=>us.getD i .none))).get? D=some (ao ((cQ ps.length b).map λi=>us.getD i .none) m7):=
    ⟨_,by simp only [ic] at Vo ⊢;exact Nq Vo λ_=>J2 ((cQ ps.length b).map λi=>us.getD i .none)⟩
   have e7:=jC (us:=[]) (m:=0) (tk:=s5.toks) (g.inv.jB e6) e6 hD Vo (It (s5.heap.update kS (IE λ_=>(#[]:Array y'))) D (IE λ_=>J2 ((cQ ps.length b).map λi=>us.getD i .none)))
   unfold ksk_tail
   try dsimp only
   rw [T9]
   refine Ha (MT gk5 rfl ?_ (by rw [IM];lia) (H7 _))
   refine Ha (ON ?_)
   refine Ha (PQ Vo rfl ?_)
   refine Ha (MT Vo rfl ?_ (H7 _) (by simp [Sf];lia))
   refine hf▸?_
   simp only [bne_self_eq_false,Jt,if_false]
   exact Hu (hP _ m7 e7 gd7)
  unfold ksk_end
  try dsimp only
  rw [Hz (by decide)]
  by_cases h2:us.toArray.size < 2
  ·have Rn:ps.length < 2:=by rw [IM] at h2;simp_all
   rw [HE h2,HE h2]
   refine Ha (Hu ?_)
   refine Ha (Hu ?_)
   refine tail _ J ?_ rfl e gd ⟨m,gk⟩
   show ((J2 ks).zip us.toArray).map (·.2)=_
   unfold cQ
   rw [HE Rn]
   apply MX.mp
   rw [Array.toList_map,ksk_zip,List.map_snd_zip (by simp [RX,hl])]
   simp only [List.toList_toArray]
   apply MC
   intro i
   rw [Hy]
   by_cases hi:i < us.length
   ·rw [ID (by simp_all),Hn hi]
    simp [hi]
   ·rw [KA (by simp_all),KA (by simp;simp_all)]
    rfl
  ·have Rn:¬ps.length < 2:=by rw [IM] at h2;simp_all
   rw [Hz h2,Hz h2]
   have ZZ:∀v∈ks,Looks C.M J.heap (typeOf v) (.type T):=λv hv=>by
    refine cA (JQ.mp hv) λi hi=> ?_
    refine ae (getL rk hi) λp hp rp=> ?_
    replace hp:=Hy▸hp
    refine ae (I5.mp hp) λq hq P8=> ?_;subst P8
    exact hT q (HX hq) _ J v rp
   have hT1:((PZ T:y') !=PZ "tuple")=true:=by
    rw [bne_iff_ne]
    intro h
    injection h with h
    exact Wf h
   refine Ha (kas_kind (T:= .type T) (by simp_all) ZZ hT1 (beq_self_eq_true _) ?_)
   have SN:ks.length=us.length:=by simp_all
   have Sl:jj ps.length b (kas_sort ps.length)=true:=by
    unfold gf at QR
    rw [OP] at QR
    rcases QR with h |h
    ·exact absurd (K0.mp h) Rn
    ·exact h
   have nK:kS∉C.aq:=λh=>by
    exact absurd (g.low kS (.inl h)) (HH.mpr Un)
   have nD:D∉C.aq:=λh=>by
    exact absurd (g.low D (.inl h)) (HH.mpr hD)
   refine Ha (G' (kat_run (E:=E) (Q:=λVc s6=>(arrOf Vc).map (·.2)=J2 ((cQ ps.length b).map λi=>us.getD i .none)/\failedOf Vc=none/\ah C [] s s6/\s6.heap.get? D=some (ao [] QH)/\∃m,s6.heap.get? kS=some (ao ks m))
    (G:=λp s6=>p=oW b (kas_sort ps.length)/\ah C [] s s6/\s6.heap.get? D=some (ao [] QH)/\∃m,s6.heap.get? kS=some (ao ks m))
    SN (by simp_all) (by simp_all) (λp Vc s6 hp Zc hf zz=>lZ zz λhG q1 q2 q3=>⟨?_,hf,q1,q2,q3⟩) ?_) ?_ λ_ _ x=>x)
   ·simp only [kat_snds SN Zc,hG]
    unfold cQ
    rw [Hz Rn]
   ·rw [hl]
    refine nS (n:=ps.length) (b:=b) (λs6=>ah C [] J s6/\ah C [] s s6/\s6.heap.get? D=some (ao [] QH)/\∃m,s6.heap.get? kS=some (ao ks m)) (λi j s6 DD hi hj zz Zf=>lZ zz λq0 q1 q2 q3=> ?_) _ J Sl ⟨ah.refl _,e,gd,m,gk⟩ λs6 zz=>c7 zz λ_ q=>⟨rfl,q⟩
    have YA:fe C (kS::D::W) s6.heap ks (ps.map κ):=ah.jA q0 rk
    have XH:∀i,i < ps.length->(ps.map κ).getD i .none=κ (ps.getD i .none):=λi hi=>by
     simp [Hl,hi]
    have ra:=aR.getD YA (i:=i) (by rw [Hb];exact hi)
    have rb:=aR.getD YA (i:=j) (by rw [Hb];exact hj)
    simp only [XH i hi] at ra
    simp only [XH j hj] at rb
    refine G' (Qc i j hi hj (kS::D::W) A s6 _ _ rm.zero (Yn s6 q1 ⟨_,q3.choose_spec⟩ ⟨_,q2⟩) ra rb) ?_ λ_ _ x=>x
    rintro d s7 ⟨e7,rfl⟩
    exact Zf s7 ⟨q0.trans e7,q1.trans e7,e7.keep _ _ nD (by simp) q2,q3.choose,e7.keep _ _ nK (by simp) q3.choose_spec⟩
   ·rintro⟨⟨⟩,Vc⟩ s6 ⟨h1,h2,h3,h4,h5⟩
    exact tail Vc s6 h1 h2 h3 h4 h5
theorem zd {ky:He}{params:I'}{body:Expr}{scope:Scope}{cl:List (Str×He)}{pm cd QE:y'}{x:Str}{p r:PV}(ok:C'.Ok)
 (L:fg C' ky (j7 sc params body scope cl pm cd QE) body ρ)(hP:ma params [x])(hn:scope.names.lookup x=some .local\/scope.names.lookup x=some .cell)
 (hb:∀q code,Ev C' k ⟨scope,q,code⟩ [] (dW scope [(x,p)] ρ) body r):aO C' (k+1) [] (.ref ky) [p] [] r:=λW A s vs kvs rm g ho r1 r2=>by
 refine ae r1.inv1 λv Qq rv=> ?_;refine Qq▸?_
 refine r2.iT▸?_
 refine qt (args:=⟨[v],[]⟩) (q:=[(x,p)]) ok L g rm (lP (xs:=[x]) hP rfl rfl) (.cons rv .nil) (by simp) (λy hy=> ?_) (hb _ _)
 have:y=(x,v):=by simpa using hy
 refine this▸?_
 exact hn
theorem Ev.um {x y:Str}{px kp RV:Jm}{e:Expr}{params:I'}{body:Expr}{scope:Scope}{p:PV}{ps:List PV}{κ:PV->PV}{T:String}{b:Nat->Nat->Bool}(ok:C.Ok)
 (hf:Ev C (k+4) sc own ρ (.Name x px) (.raw (.builtin "sorted")))(ha:Ev C (k+4) sc own ρ e p)(W0:∀C',AN C' p ps)(LO:sZ C sc scope)(Q6:∀env,defaultsOf params env=([],[]))(hP:ma params [y])(hn:scope.names.lookup y=some .local\/scope.names.lookup y=some .cell)
 (hb:∀C',C.Le C'->C'.Ok->∀q code,∀p∈ps,Ev C' k ⟨scope,q,code⟩ [] (dW scope [(y,p)] ρ) body (κ p))(VT:ps.length < 64)
 (hT:∀C',∀q∈ps,EZ C' (κ q) T)(Wf:T≠"tuple")(Qc:∀C' i j,i < ps.length->j < ps.length->Eo C' (κ (ps.getD i .none)) (κ (ps.getD j .none)) (b i j))(QR:gf ps.length b=true)
 (SD:∀i∈cQ ps.length b,i < ps.length)(Sf:(cQ ps.length b).length=ps.length)
 (YX:∀env,HG [e] env=(false,IQ e env)::HG [] env)
 (he:∀env,Jo pos (HG [e] env)=(false,IQ e env)::Jo pos (HG [] env))(TF:∀env,(Jo pos (HG [e] env)).any (·.1)=false)
 (Qx:∀env,(J1 pos (I8 [⟨some "key",.Lambda params body scope RV,kp⟩] env)).all (·.1.isSome)=true)(Y7:∀env,(J1 pos (I8 [⟨some "key",.Lambda params body scope RV,kp⟩] env)).any (·.1.isNone)=false):
 Ev C (k+4) sc own ρ (.Call (.Name x px) [e] [⟨some "key",.Lambda params body scope RV,kp⟩] pos) (.lst ((cQ ps.length b).map λi=>ps.getD i .none)):=λW A env s rm X=>by
 have Qu:sizeLine=16777216:=rfl
 refine Li (G' (hf W A env s rm X) ?_ λ_ _ q=>q.elim)
 rintro v s1 ⟨e1,r1⟩
 refine(show v= .builtin "sorted" from r1)▸?_
 refine callWith_kw (G' (ab.cons ha ab.nil YX W A env s1 pos rm (X.aA e1)) ?_ λ_ _ q=>q.elim) (he env) (TF env) (Qx env) (Y7 env)
 rintro vs s2 ⟨e2,r2⟩
 have X2:=(X.aA e1).aA e2
 refine PI (G' (qC ok X2 LO Q6) ?_ λ_ _ q=>q.elim)
 rintro kv s3 ⟨e3,ky,cl,pm,cd,QE,rfl,hky,L⟩
 refine P1 ?_
 have X3:=X2.aA e3
 have hU:Cfg.Up C (C.at W s3):=⟨v9 X3.inv ok X3.new,ok.at X3.inv X3.new,(X3.inv.at ok X3.new).sY⟩
 refine ae ((e3.jA r2).inv1) λv Qq rv=> ?_;refine Qq▸?_
 show Hi C.M A (call (.builtin "sorted") [v] [("key",.ref ky)]) _ _ s3
 have g3:Gd (C.at W s3) W s3:=X3.gd.at ok
 have Ru:ak A.in1 (k+3):=rm.in1
 refine call_function_entry_kw kind_sorted plain_sorted entry_sorted (ksk_s1 _ _) ?_
 simp only [H8.«sorted»]
 refine Ha (m:=checkCount "sorted" 1 1 _) (Hu ?_)
 refine Ha (W0 (C.at W s3) W A.in1 s3 v Ru.handled g3 rv _ _ λus s4 e4 r4=> ?_)
 have hl:=aR.length r4
 refine Ha (Pd ?_ (by lia))
 have g4:=g3.aA e4
 have XJ:(s4.heap.push {cls:= .type "list",data:= .seq us.toArray}).get? s4.heap.objs.size=some (ao us 0):=Hp _ rfl
 have e5:ah (C.at W s3) [] s4 {s4 with heap:=s4.heap.push {cls:= .type "list",data:= .seq us.toArray},toks:=s4.toks}:=ah.push _ s4.toks
 refine Ha (Ip (wpAny_call_entry_kw slot_list_sort ⟨_,XJ,rfl⟩ entry_list_sort ?body (ksk_l1 _ _)))
 case body=>
  refine uh (C:=C.at W s3) (W:=W) (s:=s4) (κ:=κ) (k:=k+1) (T:=T) (b:=b) g4 r4 Ru.in1 VT (λq hq=>zd hU.ok L hP hn λq' code=>hb _ hU.le hU.ok q' code q hq) (hT _) Wf (Qc _) QR SD Sf (Hk _) e5 XJ λJ m e6 gD=> ?_
  refine⟨_,rfl,?_⟩
  refine Hu ⟨_,rfl,?_⟩
  have XY:ah C [] s4 J:=e6.qg
  refine⟨(((e1.trans e2).trans e3).trans e4.qg).trans XY,_,_,_,rfl,?_,gD,aR.EO (ah.jA XY r4) _ SD⟩
  rintro(h |h)
  ·exact absurd (g4.low _ (.inl h)) (HR _)
  ·exact absurd (g4.low _ (.inr h)) (HR _)
set_option maxRecDepth 4000
theorem je {α:Type}{n:Nat}{b b':Nat->Nat->Bool}(h:∀i j,i < n->j < n->b i j=b' i j):∀t:KasT α,jj n b t=true->oW b t=oW b' t/\jj n b' t=true
 | .ret a,_=>⟨rfl,rfl⟩
 | .ask i j k,ho=>by
  simp only [mC,lX,H'] at ho
  have ih:=je h (k (b i j)) ho.2
  simp only [zo,An,mC,lX,<-(h i j (K0.mp ho.1.1) (K0.mp ho.1.2)),H']
  exact⟨ih.1,ho.1,ih.2⟩
theorem j8 {n:Nat}{b b':Nat->Nat->Bool}(h:∀i j,i < n->j < n->b i j=b' i j)(ho:gf n b=true):cQ n b=cQ n b'/\gf n b'=true:=by
 delta cQ gf at *
 by_cases h2:n < 2
 ·rw [HE h2,HE h2,K0.mpr h2,Bool.true_or]
  exact⟨rfl,rfl⟩
 ·have:Nl n 2=false:=Om.mpr λq=>h2 (K0.mp q)
  rw [this,LW] at ho
  rw [Hz h2,Hz h2,(je h (kas_sort n) ho).1,this,LW]
  exact⟨rfl,(je h (kas_sort n) ho).2⟩
noncomputable def y5 (r:List Nat) (i j:Nat):Bool:=Nl (r.getD i 0) (r.getD j 0)
theorem Aq:([0,1,2,3].all λa=>[0,1,2,3].all λb=>[0,1,2,3].all λc=>[0,1,2,3].all λd=>gf 4 (y5 [a,b,c,d]) && (cQ 4 (y5 [a,b,c,d])==[0,1,2,3].foldl (λl x=>cM (y5 [a,b,c,d]) true l x) []))=true:=by rfl
variable {lt:α->α->Bool}
noncomputable def i0 (lt:α->α->Bool) (v:Nat->α) (i:Nat):Nat:=((Hg 4).filter λj=>lt (v j) (v i)).length
theorem BJ (T:qD lt)(v:Nat->α){i j:Nat}(hi:i < 4):lt (v i) (v j)=Nl (i0 lt v i) (i0 lt v j):=by
 have TG:∀x,lt x x=false:=λx=>by
  cases h:lt x x with
  |false=>rfl
  |true=>have:=T.asym x x h;replace this:=h▸this;cases this
 cases h:lt (v i) (v j) with
 |true=>
  refine(K0.mpr ?_).symm
  have:=ed (l:=i::(Hg 4).filter λm=>lt (v m) (v i)) (L:=(Hg 4).filter λm=>lt (v m) (v j)) (HJ.mpr ⟨λq=>absurd (HU.mp q).2 (by rw [TG];decide),Ja Me M6⟩) λm hm=>by
   rcases Hc.mp hm with rfl |hm
   ·exact HU.mpr ⟨HN.mpr hi,h⟩
   ·obtain⟨h1,h2⟩:=HU.mp hm
    refine HU.mpr ⟨h1,?_⟩
    cases hq:lt (v m) (v j) with
    |true=>rfl
    |false=>
     have:=T.tr (v j) (v m) (v i) hq (T.asym _ _ h2)
     replace this:=h▸this;cases this
  unfold i0
  simp only [HK] at this
  exact this
 |false=>
  symm
  refine Om.mpr λq=> ?_
  have q:=K0.mp q
  have:=ed (l:=(Hg 4).filter λm=>lt (v m) (v j)) (L:=(Hg 4).filter λm=>lt (v m) (v i)) (Ja Me M6) λm hm=>by
   refine HU.mpr ⟨(HU.mp hm).1,?_⟩
   cases hq:lt (v m) (v i) with
   |true=>rfl
   |false=>
    have:=T.tr (v j) (v i) (v m) h hq
    replace this:=(HU.mp hm).2▸this;cases this
  unfold i0 at q
  lia
theorem Bw (T:qD lt)(v:Nat->α){i:Nat}(hi:i < 4):i0 lt v i < 4:=by
 have TG:lt (v i) (v i)=false:=by
  cases h:lt (v i) (v i) with
  |false=>rfl
  |true=>have:=T.asym _ _ h;replace this:=h▸this;cases this
 have:=ed (l:=i::(Hg 4).filter λm=>lt (v m) (v i)) (L:=Hg 4) (HJ.mpr ⟨λq=>absurd (HU.mp q).2 (by rw [TG];decide),Ja Me M6⟩) λm hm=>by
  rcases Hc.mp hm with rfl |hm
  ·exact HN.mpr hi
  ·exact(HU.mp hm).1
 simp only [J3,HK] at this
 exact this
theorem Er (T:qD lt)(v:Nat->α):gf 4 (λi j=>lt (v i) (v j))=true/\cQ 4 (λi j=>lt (v i) (v j))=[0,1,2,3].foldl (λl x=>cM (λi j=>lt (v i) (v j)) true l x) []:=by
 have hm:∀i,i < 4->i0 lt v i∈[0,1,2,3]:=λi hi=>by
  have:=Bw T v hi
  simp only [Hc,H0,or_false]
  lia
 have Qx:=Aq
 rw [HM] at Qx
 have h1:=Qx _ (hm 0 (by decide))
 rw [HM] at h1
 have h2:=h1 _ (hm 1 (by decide))
 rw [HM] at h2
 have h3:=h2 _ (hm 2 (by decide))
 rw [HM] at h3
 have h4:=h3 _ (hm 3 (by decide))
 rw [H',beq_iff_eq] at h4
 have he:∀i j,i < 4->j < 4->y5 [i0 lt v 0,i0 lt v 1,i0 lt v 2,i0 lt v 3] i j=lt (v i) (v j):=λi j hi hj=>by
  rw [BJ T v hi]
  have hg:∀i,i < 4->[i0 lt v 0,i0 lt v 1,i0 lt v 2,i0 lt v 3].getD i 0=i0 lt v i:=λi hi=>by
   match i,hi with
   |0,_=>rfl
   |1,_=>rfl
   |2,_=>rfl
   |3,_=>rfl
  unfold y5
  simp only [hg i hi,hg j hj]
 refine⟨(j8 he h4.1).2,?_⟩
 simp only [<-(j8 he h4.1).1,h4.2]
 have TL:∀(l:List Nat) (x:Nat),x < 4->(∀y∈l,y < 4)->cM (y5 [i0 lt v 0,i0 lt v 1,i0 lt v 2,i0 lt v 3]) true l x=cM (λi j=>lt (v i) (v j)) true l x:=λl x hx hl=>by
  unfold cM bK
  congr 1
  have:∀l:List Nat,(∀y∈l,y < 4)->l.findIdx (fD (y5 [i0 lt v 0,i0 lt v 1,i0 lt v 2,i0 lt v 3]) true x)=l.findIdx (fD (λi j=>lt (v i) (v j)) true x):=by
   intro l
   induction l with
   |nil=>intro _;rfl
   |cons y l ih=>
    intro hl
    simp only [MF,ih λz hz=>hl z (j' _ hz)]
    have:fD (y5 [i0 lt v 0,i0 lt v 1,i0 lt v 2,i0 lt v 3]) true x y=fD (λi j=>lt (v i) (v j)) true x y:=he x y hx (hl y f')
    rw [this]
  exact this l hl
 have key:∀(q l:List Nat),(∀y∈q,y < 4)->(∀y∈l,y < 4)->q.foldl (λl x=>cM (y5 [i0 lt v 0,i0 lt v 1,i0 lt v 2,i0 lt v 3]) true l x) l=q.foldl (λl x=>cM (λi j=>lt (v i) (v j)) true l x) l:=by
  intro q
  induction q with
  |nil=>intro l _ _;rfl
  |cons x q ih=>
   intro l hq hl
   simp only [IJ,TL l x (hq x f') hl]
   refine ih _ (λy hy=>hq y (j' _ hy)) λy hy=> ?_
   rcases Hc.mp ((cW _ _ _ _).mem_iff.mp hy) with rfl |hy
   ·exact hq _ f'
   ·exact hl y hy
 exact key _ _ (by decide) (λ_ h=>nomatch h)
abbrev oD (C:Cfg):Prop:=∃t∈C.tabs,SL.code= .ref t.1/\SL.qual ++ "<lambda>"=t.2.2
theorem uc (cs:List Int)(j:Nat): -1000000<=vG cs j/\vG cs j<=1000000:=by
 have h0:=Il (cs.getD (3+j) 0) (b:=2000001) (by decide)
 have h1:=IW (cs.getD (3+j) 0) (b:=2000001) (by decide)
 unfold vG
 omega
theorem ud (cs:List Int):aM cs=vG cs 0+(vG cs 1+(vG cs 2+0)):=rfl
theorem tM (cs:List Int):∀j,j < 3->wJ cs j=vG cs j
 |0,_=>rfl
 |1,_=>rfl
 |2,_=>rfl
 |j+3,h=>absurd h (by simp)
theorem jJ {x:Int}(h:x.natAbs < 2 ^ 60):Kf x<=64:=intBits_le_iff.mpr (Ht h (by decide))
theorem gc {n m:Nat}{x y:Int}(h:x.natAbs<=n)(g:y.natAbs<=m):(x+y).natAbs<=n+m:=Hf (Int.natAbs_add_le x y) (NG h g)
theorem Dj {n m:Nat}{x y:Int}(h:x.natAbs<=n)(g:y.natAbs<=m):(x - y).natAbs<=n+m:=gc h (Hf (Ly (Int.natAbs_neg y)) g)
theorem qG {n:Nat}{x:Int}{p:Prop} [Decidable p](h:x.natAbs<=n):(if p then x else 0).natAbs<=n:=by
 split
 ·exact h
 ·exact H7 _
theorem ry {n:Nat}{x:Int}{p:Prop} [Decidable p](h:x.natAbs<=n):(x*if p then 1 else 0).natAbs<=n:=by
 split
 ·rw [J0];exact h
 ·rw [J6];exact H7 _
theorem qm {n:Nat}{x:Int}(h:x.natAbs<=n)(g:La (n+1) (2 ^ 60)=true):x.natAbs < 2 ^ 60:=Ht (Od h) (Hv g)
theorem oL (cs:List Int)(j:Nat):(vG cs j).natAbs<=1000000:=by have:=uc cs j;omega
theorem kf (cs:List Int){j:Nat}(hj:j < 3):(wJ cs j).natAbs<=1000000:=tM cs j hj▸oL cs j
theorem pH (cs:List Int):(aM cs).natAbs<=1000000+(1000000+(1000000+0)):=gc (oL cs 0) (gc (oL cs 1) (gc (oL cs 2) (Hk 0)))
theorem rB (cs:List Int):Kf (aM cs)<=64:=jJ (qm (pH cs) rfl)
theorem fP (cs:List Int){j:Nat}(hj:j < 3):Kf (aM cs - wJ cs j)<=64:=jJ (qm (Dj (pH cs) (kf cs hj)) rfl)
theorem AW (cs:List Int){j:Nat}(hj:j < 3):Kf (wJ cs j)<=64:=jJ (qm (kf cs hj) rfl)
theorem Ea (L:Lx C f3){cs:List Int}{S:LS}(K:dj cs S)(rm:ak A (k+1))(X:St C W SL [] (aC (m8 cs S)) env s)(B:Bs C Wt (λ_=>true) t [] env s)
 (next:∀J,St C W SL [] (aC (("stay",.au (dQ []))::m8 cs S)) env J->Bs C Wt (λ_=>true) t [] env J->Hi C.M A (HA (aK 23) env) Q E J):
 Hi C.M A (HA (aK 21) env) Q E s:=by
 have Qu:sizeLine=16777216:=rfl
 conv in aK _=>whnf
 with_reducible
  refine a7 (need:=false) (k:=k+1) (ps:=S.line.map .str) X B rm (aX.lst ?_ (by rw [Hb];have:=K.len;lia)) (λ_=>[]) (λ_=>aC (m8 cs S)) (λi=>upd (aC (m8 cs S)) "order" (.str (S.line.getD i ""))) (by fail) (by fail) (λ_=>by fail) (λ_=>False) ?Qs ?turn (λ_ _ _ h=>h.elim) ?done (λx=>by fail)
 case Qs=>
  intro m p hp
  refine ae (c4 hp) λo ho P8=> ?_;rw [P8]
  rw [Hl,ho]
  exact bg.cell (by rfl) rfl
 case turn=>
  intro I ob m p t' QF s1 hI hp X1 B1
  refine ae (c4 hp) λo ho P8=> ?_
  rw [Hl,ho] at X1
  have Yk:=HX ho
  have fin:=zy (k:=k) (Q:=λf P9=>match f with
   | .next | .cont=>St C (I::W) SL ((I,.obj ob)::[]) (aC (m8 cs S)) env P9/\Bs C QF (λ_=>true) t' ((I,.obj ob)::[]) env P9
   | .brk=>False
   | .ret v=>∃p own' Qa,False/\Rr C (I::W) P9.heap v p/\St C (I::W) SL own' Qa env P9/\Bs C QF (λ_=>true) t' own' env P9) (E:=λ_ _=>False) L K Yk rm (X1.to (by k_extra"rs")) B1 λs2 X3 B2=>
   AS L K Yk rm X3 B2 λs3 X4 B3=>Hq ⟨X4,B3⟩
  conv at fin in q6 _=>whnf
  with_reducible refine G' fin ?_ λ_ _ h=>h
  intro f P9 h
  cases f <;> with_reducible exact h
 case done=>
  intro s1 X1 B1
  with_reducible refine a8 (p:= .au (dQ [])) X1 B1 rm (Ev.conv Ev.ku (by fail)) (by done) (by fail) (by fail) ?n1
  case n1=>
   intro s2 X2 B2
   with_reducible have h9:=next _ (X2.to (by k_extra"rs")) B2
   conv at h9 in aK _=>whnf
   with_reducible exact h9
 all_goals with_reducible intros
noncomputable abbrev i6 (n:Nat):List I9:=Ky n (cI (ay tb 18) 23)
noncomputable def dq:List (Nat×Nat×Nat):=[(0,1,2),(0,2,1),(1,0,2),(1,2,0),(2,0,1),(2,1,0)]
theorem mr:∀e∈dq,e.1 < 3/\e.2.1 < 3/\e.2.2 < 3:=by decide
noncomputable def g3 (cs:List Int) (e:Nat×Nat×Nat):Str:=ax cs e.1 (ax cs e.2.1 (ax cs e.2.2 "abcd"))
noncomputable def eG (cs:List Int) (e:Nat×Nat×Nat) (z:Nat):List Int:=[e.1,e.2.1,e.2.2].map λone=>(aF cs z).getD one 0*(if(0:Int) < cn cs one then 1 else -1)
noncomputable def cD (cs:List Int) (e:Nat×Nat×Nat):List Nat:=cQ 4 λa b=>fW (eG cs e a) (eG cs e b)
noncomputable def b8 (cs:List Int) (e:Nat×Nat×Nat):Int:=wJ cs e.1*wJ cs e.2.1*(aM cs - wJ cs e.2.1)*(aM cs - wJ cs e.2.2)
noncomputable def bB (cs:List Int) (n:Nat):List (Str×Int):=(dq.take n).foldl (λd e=>cH d [(g3 cs e,b8 cs e)]) []
theorem rt (cs:List Int)(o:Str){j:Nat}(h:j < 3):((kY cs o).map PV.str)[j]? =some (.str (ax cs j o)):=by
 unfold kY
 simp only [Hy,ID h]
 rfl
noncomputable abbrev A4 (cs:List Int) (S:LS) (sy:List (Str×Int)) (e:Nat×Nat×Nat):List (Str×PV):=("k",.int e.2.2)::("j",.int e.2.1)::("i",.int e.1)::("stay",.au (dQ sy))::m8 cs S
theorem y7 (L:Lx C f3){cs:List Int}{S:LS}(K:dj cs S){sy:List (Str×Int)}{e:Nat×Nat×Nat}(he:e.1 < 3/\e.2.1 < 3/\e.2.2 < 3)(rm:ak A (k+1))(X:St C W SL own (aC (A4 cs S sy e)) env s)(B:Bs C Wt (λ_=>true) t own env s)
 (next:∀J,St C W SL own (aC (("goal",.str (g3 cs e))::A4 cs S sy e)) env J->Bs C Wt (λ_=>true) t own env J->Hi C.M A (HA (i6 1) env) Q E J):
 Hi C.M A (HA (i6 0) env) Q E s:=by
 have m1:=K.clo _ K.z e.2.2 he.2.2
 have lk:∀o∈S.line,(cF cq S.steps).lookup o=some (.lst ((kY cs o).map .str)):=λo ho=>by simp only [dm,K.steps o ho];rfl
 have a2:((kY cs (ax cs e.2.1 (ax cs e.2.2 "abcd"))).map PV.str)[e.1]? =some (.str (g3 cs e)):=rt cs (ax cs e.2.1 (ax cs e.2.2 "abcd")) he.1
 conv in i6 _=>whnf
 with_reducible
  refine az (p:= .str (g3 cs e)) X B rm (Ev.item (n:=e.1) (Ev.l (xs:=(kY cs (ax cs e.2.1 (ax cs e.2.2 "abcd"))).map .str) (Ev.bh (x:=ax cs e.2.1 (ax cs e.2.2 "abcd")) (es:=cF cq S.steps) (Ev.d ?_) (Ev.item (n:=e.2.1) (Ev.l (xs:=(kY cs (ax cs e.2.2 "abcd")).map .str) (Ev.bh (x:=ax cs e.2.2 "abcd") (es:=cF cq S.steps) (Ev.d ?_) (Ev.item (n:=e.2.2) (Ev.l (xs:=(kY cs "abcd").map .str) (Ev.bh (x:="abcd") (es:=cF cq S.steps) (Ev.d ?_) Ev.str (lk _ K.z) (λ_ _=>by fail))) ?_ (by fail) (rt cs ("abcd":Str) he.2.2) (by lia) (λ_ _=>by fail)) (lk _ m1) (λ_ _=>by fail))) ?_ (by fail) (rt cs (ax cs e.2.2 "abcd") he.2.1) (by lia) (λ_ _=>by fail)) (lk _ (K.clo _ m1 e.2.1 he.2.1)) (λ_ _=>by fail))) ?_ (by fail) a2 (by lia) (λ_ _=>by fail)) (by done) (by fail) ?n1
 case n1=>
  intro s1 X1 B1
  with_reducible have h9:=next _ (X1.to (by k_extra"rs")) B1
  conv at h9 in i6 _=>whnf
  with_reducible exact h9
 all_goals with_reducible intros
theorem CP:qD fW:=by
 constructor
 ·intro a
  induction a with
  |nil=>intro b h;cases b <;> first |rfl |cases h
  |cons x a ih=>
   intro b h
   cases b with
   |nil=>cases h
   |cons y b=>
    simp only [kU] at h ⊢
    by_cases q:x=y
    ·rw [HE q] at h;rw [HE q.symm];exact ih b h
    ·rw [Hz q] at h;rw [Hz (H3 q)]
     have:=of_decide_eq_true h
     exact H2 (by omega)
 ·intro a
  induction a with
  |nil=>intro b c h1 h2;cases c <;> first |rfl |(cases b <;> first |cases h1 |cases h2 |rfl)
  |cons x a ih=>
   intro b c h1 h2
   cases b with
   |nil=>cases h1
   |cons y b=>
    cases c with
    |nil=>cases h2
    |cons z c=>
     simp only [kU] at h1 h2 ⊢
     by_cases q1:y=x
     ·subst q1
      rw [HE rfl] at h1
      by_cases q2:z=y
      ·subst q2
       rw [HE rfl] at h2
       rw [HE rfl]
       exact ih b c h1 h2
      ·rw [Hz q2] at h2
       rw [Hz q2]
       exact h2
     ·rw [Hz q1] at h1
      have e1:=of_decide_eq_false h1
      by_cases q2:z=y
      ·refine q2▸?_
       rw [Hz q1];exact h1
      ·rw [Hz q2] at h2
       have e2:=of_decide_eq_false h2
       rw [Hz (by omega)]
       exact H2 (by omega)
theorem jY (cs:List Int)(e:Nat×Nat×Nat):gf 4 (λa b=>fW (eG cs e a) (eG cs e b))=true/\cD cs e=[0,1,2,3].foldl (λl x=>cM (λi j=>fW (eG cs e i) (eG cs e j)) true l x) []:=Er CP (eG cs e)
theorem kj (cs:List Int)(e:Nat×Nat×Nat):(cD cs e).Perm [0,1,2,3]:=by
 rw [(jY cs e).2]
 have key:∀(q l:List Nat),(q.foldl (λl x=>cM (λi j=>fW (eG cs e i) (eG cs e j)) true l x) l).Perm (q ++ l):=by
  intro q
  induction q with
  |nil=>intro l;exact Jy _
  |cons x q ih=>
   intro l
   simp only [IJ]
   exact(ih _).trans (((cW _ _ _ _).append_left q).trans M3)
 exact(key [0,1,2,3] []).trans (by decide)
noncomputable def Fq (x:Str):Nat:=if x=cb 0 then 0 else if x=cb 1 then 1 else if x=cb 2 then 2 else 3
theorem BK:∀z,z < 4->Fq (cb z)=z
 |0,_=>by decide+kernel
 |1,_=>by decide+kernel
 |2,_=>by decide+kernel
 |3,_=>by decide+kernel
 |z+4,h=>absurd h (by simp)
noncomputable def κ4 (cs:List Int) (e:Nat×Nat×Nat):PV->PV
 | .str x=> .lst ((eG cs e (Fq x)).map .int)
 |p=>p
theorem rI (cs:List Int)(e:Nat×Nat×Nat){z:Nat}(h:z < 4):κ4 cs e (wB z)= .lst ((eG cs e z).map .int):=by
 show PV.lst ((eG cs e (Fq (cb z))).map .int)=_
 rw [BK z h]
theorem fV:signs ("abcd":Str)=(Hg 4).map wB:=by fail
theorem oA {i:Nat}(h:i < 4):((Hg 4).map wB).getD i .none=wB i:=by
 simp only [Hl,Hy,ID h]
 rfl
theorem yH (cs:List Int){j:Nat}(h:j < 3):((gI cs).map PV.int)[j]? =some (.int (cn cs j)):=by
 unfold gI
 simp only [Hy,ID h]
 rfl
theorem za (L:Lx C f3)(hT:oD C){cs:List Int}{S:LS}{sy:List (Str×Int)}{e:Nat×Nat×Nat}(he:e.1 < 3/\e.2.1 < 3/\e.2.2 < 3)(hg:g3 cs e=d9 (cD cs e))(rm:ak A (k+5))(X:St C W SL own (aC (("goal",.str (g3 cs e))::A4 cs S sy e)) env s)(B:Bs C Wt (λ_=>true) t own env s)
 (next:∀J,St C W SL own (aC (("goal",.str (g3 cs e))::A4 cs S sy e)) env J->Bs C Wt (λ_=>true) t own env J->Hi C.M A (HA (i6 2) env) Q E J):
 Hi C.M A (HA (i6 1) env) Q E s:=by
 have L':=L.L
 obtain⟨Xp,VZ,W6⟩:=he
 have WX:=kj cs e
 have Qc:∀i∈cD cs e,i < 4:=λi hi=>by
  have:=WX.mem_iff.mp hi
  simp only [Hc,H0,or_false] at this
  omega
 have Xb:∀i∈cQ 4 (λa b=>fW (eG cs e a) (eG cs e b)),i < 4:=Qc
 have QB:(cQ 4 λa b=>fW (eG cs e a) (eG cs e b)).length=4:=WX.length_eq
 have Tu:(signs ("abcd":Str)).length=4:=rfl
 have WS:(cQ (signs ("abcd":Str)).length λa b=>fW (eG cs e a) (eG cs e b)).map (λi=>(signs ("abcd":Str)).getD i .none)=((cD cs e).map cb).map .str:=by
  rw [Tu,fV,HB]
  exact Ik λi hi=>oA (Qc i hi)
 have Wc:(((cD cs e).map cb).map (·.length)).sum+((cD cs e).map cb).length*("":Str).length<=16777216:=by
  refine(by rw [HB];rfl:((cD cs e).map cb).map (·.length)=(cD cs e).map λ_=>1)▸?_
  have h2:((cD cs e).map λ_=>1).sum=(cD cs e).length:=by
   generalize cD cs e=l
   induction l with
   |nil=>rfl
   |cons x l ih=>simp only [Hw,Iq,ih,HK];lia
  simp only [h2,WX.length_eq]
  show 4+_*0<=_
  lia
 have hj:PV.str (KX "" ((cD cs e).map cb))= .str (g3 cs e):=by rw [tT,hg]
 conv in i6 _=>whnf
 with_reducible
  refine bH X B rm (Tr.conv (p:=(g3 cs e !=g3 cs e)) (Tr.cmp ?_ (Ev.conv (Ev.u7 (T:="str") (id:="str.join") (p:= .str "") (ps:=[.lst (((cD cs e).map cb).map .str)]) Ev.str fY.str (ab.cons (Ev.conv (Ev.um (k:=k+1) (y:="name") (p:= .str "abcd") (ps:=signs "abcd") (κ:=κ4 cs e) (T:="list") (b:=λa b=>fW (eG cs e a) (eG cs e b)) L'.ok ?_ Ev.str (λC'=>AN.str (by decide)) (by with_unfolding_all exact⟨hT,by decide+kernel,rfl,rfl,rfl,by decide+kernel⟩) (λenv=>by fail) (by with_unfolding_all exact⟨rfl,rfl,rfl,rfl,rfl,by decide+kernel⟩) (.inr (by done)) ?body (by refine Tu▸?_;decide) ?ty (by decide) ?lt (by rw [Tu];exact((jY cs e).1)) (by refine Tu▸?_;exact Xb) (by rw [Tu];exact QB) (λenv=>by fail) (λenv=>by fail) (λenv=>by fail) (λenv=>by fail) (λenv=>by fail)) (HV PV.lst WS)) ab.nil) (cC.join rfl Wc) (λ_=>by fail) (λ_=>by fail) (by fail) Kt LH LI (λenv=>by fail) (λenv=>by fail)) hj) aj.FC Th.bool (by decide+kernel)) (by simp)) ?nx
 case nx=>
  intro s1 X1 B1
  with_reducible have h9:=next _ X1 B1
  conv at h9 in i6 _=>whnf
  with_reducible exact h9
 case ty=>
  intro C' q hq
  rw [fV] at hq
  obtain⟨i,_,rfl⟩:=Hd.mp hq
  exact EZ.lst
 case lt=>
  intro C' i j hi hj
  rw [Tu] at hi hj
  simp only [fV,oA hi,oA hj,rI cs e hi,rI cs e hj]
  exact Eo.ints
 case body=>
  intro C' l ok q code p hp
  rw [fV] at hp
  refine ae (Hd.mp hp) λz hz P8=> ?_;subst P8
  have hz:=HN.mp hz
  simp only [rI cs e hz]
  have hv:PV.lst ([e.1,e.2.1,e.2.2].map λone=>PV.int ((aF cs z).getD one 0*(if(0:Int) < cn cs one then 1 else -1)))= .lst ((eG cs e z).map .int):=by
   unfold eG
   simp only [HB];rfl
  with_reducible
   refine Ev.conv (fS.ev (c9 (need:=false) (l:=[e.1,e.2.1,e.2.2]) (g:=λ(i:Nat)=>PV.int (i:Int)) (by with_unfolding_all exact⟨rfl,by done,by done⟩) (λx env=>by fail) (λone=>PV.int ((aF cs z).getD one 0*(if(0:Int) < cn cs one then 1 else -1))) ((rfl:([PV.int e.1,.int e.2.1,.int e.2.2]:List PV)=[e.1,e.2.1,e.2.2].map λ(i:Nat)=>PV.int (i:Int))▸aX.tup (Ev.tuple (ab.cons ?t1 (ab.cons ?t2 (ab.cons ?t3 ab.nil))) (Hv (by fail))) (Hv (by fail))) (Hv (by fail)) ?step)) hv
  case step=>
   intro c hc
   have XE:c < 3:=by
    simp only [Hc,H0,or_false] at hc
    lia
   refine⟨_,bg.local (by done),by k_extra"u",?_⟩
   with_reducible
    refine Ev.bin (Ev.item (n:=c) (Ev.l (xs:=(aF cs z).map .int) (Ev.bh (x:=cb z) (es:=mP cs) (Ev.d ?_) ?_ (mA cs hz) (λ_ _=>by fail))) ?_ (by fail) (ju cs z XE) (by lia) (λ_ _=>by fail)) (Ev.lC (d:=decide ((0:Int) < cn cs c)) (Tr.cmp (Ev.item (n:=c) (Ev.l (xs:=(gI cs).map .int) ?_) ?_ (by fail) (yH cs XE) (by lia) (λ_ _=>by fail)) Ev.int aj.E9 Th.bool (by decide+kernel)) ?v) (aj.mul (.of_right (by split <;> decide)))
   case v=>
    by_cases h0:(0:Int) < cn cs c
    ·rw [HE h0,HE (HS h0)]
     with_reducible intros
    ·rw [Hz h0,Hz (by simpa using h0)]
     with_reducible exact Ev.conv (p:= .int (-1)) (Ev.un Ev.int One.neg) rfl
   all_goals with_reducible exact Ev.var (by done) (by k_extra"r")
  all_goals with_reducible exact Ev.var (by done) (by k_extra"r")
 all_goals with_reducible intros
theorem xg (es:List (Str×Int)):∀e∈dQ es,kK e.2:=λe he=>by
 refine ae (Hd.mp he) λe' _ P8=> ?_;subst P8
 exact dh (n:=1) rfl (by decide)
noncomputable abbrev iW (cs:List Int) (e:Nat×Nat×Nat):PV:= .au (dQ [(g3 cs e,b8 cs e)])
noncomputable abbrev kc (cs:List Int) (sy:List (Str×Int)) (e:Nat×Nat×Nat):List PV:=[.au (dQ sy),iW cs e,.au (dQ sy),iW cs e]
theorem Ax (L:Lx C f3){cs:List Int}{S:LS}{sy:List (Str×Int)}(hz:sy.length<=1000){e:Nat×Nat×Nat}(he:e.1 < 3/\e.2.1 < 3/\e.2.2 < 3)(rm:ak A (k+2))(X:St C W SL own (aC (("goal",.str (g3 cs e))::A4 cs S sy e)) env s)(B:Bs C Wt (λ_=>true) t own env s)
 (next:∀J,St C W SL own (aC (("kept",.lst (kc cs sy e))::("worth",iW cs e)::A4 cs S sy e)) env J->Bs C Wt (λ_=>true) t own env J->Hi C.M A (HA (i6 4) env) Q E J):
 Hi C.M A (HA (i6 2) env) Q E s:=by
 have L':=L.L
 have Qu:sizeLine=16777216:=rfl
 obtain⟨Xp,VZ,W6⟩:=he
 have w2:=ki cs VZ
 conv in i6 _=>whnf
 with_reducible
  refine az (p:=iW cs e) X B rm (Ev.vJ (ks:=[_]) (es:=[(g3 cs e,.int (b8 cs e))]) (by fail) (by fail) (λenv=>by fail) (cj.cons ?_ (Ev.conv (Ev.bin (Ev.bin (Ev.bin (Ev.item (n:=e.1) (Ev.l (xs:=(aS cs).map .int) ?_) ?_ (by fail) (ki cs Xp) (by lia) (λ_ _=>by fail)) (Ev.item (n:=e.2.1) (Ev.l (xs:=(aS cs).map .int) ?_) ?_ (by fail) w2 (by lia) (λ_ _=>by fail)) (aj.mul (.of_right (AW cs VZ)))) (Ev.bin ?_ (Ev.item (n:=e.2.1) (Ev.l (xs:=(aS cs).map .int) ?_) ?_ (by fail) w2 (by lia) (λ_ _=>by fail)) aj.sub) (aj.mul (.of_right (fP cs VZ)))) (Ev.bin ?_ (Ev.item (n:=e.2.2) (Ev.l (xs:=(aS cs).map .int) ?_) ?_ (by fail) (ki cs W6) (by lia) (λ_ _=>by fail)) aj.sub) (aj.mul (.of_right (fP cs W6)))) rfl) cj.nil) (by fail) (by fail)) (by done) (by fail) ?n1
 case n1=>
  intro s1 X1 B1
  with_reducible
   refine az (p:= .lst (kc cs sy e)) (X1.to (l:=("worth",iW cs e)::A4 cs S sy e) (by k_extra"rs")) B1 rm (Ev.list (ab.cons (Ev.mh ?_ (ab.cons ?_ ab.nil) (cC.dict (by rw [Hb];lia))) (ab.cons (Ev.mh ?_ (ab.cons ?_ ab.nil) (cC.dict (Hv rfl))) (ab.cons ?_ (ab.cons ?_ ab.nil)))) (Hv (by fail))) (by done) (by fail) ?n2
  case n2=>
   intro s2 X3 B2
   with_reducible have h9:=next _ (X3.to (by k_extra"rs")) B2
   conv at h9 in i6 _=>whnf
   with_reducible exact h9
  all_goals with_reducible intros
 all_goals with_reducible intros
theorem zi (L:Lx C f3){cs:List Int}{S:LS}{sy:List (Str×Int)}(hz:sy.length<=1000){e:Nat×Nat×Nat}(rm:ak A (k+2))(X:St C W SL own (aC (("kept",.lst (kc cs sy e))::("worth",iW cs e)::A4 cs S sy e)) env s)(B:Bs C Wt (λ_=>true) t own env s)
 (next:∀J,St C W SL own (aC (("stay",.au (dQ (cH sy [(g3 cs e,b8 cs e)])))::m8 cs S)) env J->Bs C Wt (λ_=>true) t own env J->Hi C.M A (HA [] env) Q E J):
 Hi C.M A (HA (i6 4) env) Q E s:=by
 have L':=L.L
 have Te:aO C (k+2) own (.ref 56) [.au (dQ sy),iW cs e] [] (.au (dQ (cH sy [(g3 cs e,b8 cs e)]))):=Br (k:=k+1) L hz (by show 1<=1000;decide)
 have t1:eR none (some 2) (kc cs sy e)=[dQ sy,dQ [(g3 cs e,b8 cs e)]].map .au:=by
  rw [show (some 2:Option Int)=some ((2:Nat):Int) from rfl,jl];rfl
 have t2:eR (some 2) none (kc cs sy e)=[dQ sy,dQ [(g3 cs e,b8 cs e)]].map .au:=by
  rw [show (some 2:Option Int)=some ((2:Nat):Int) from rfl,iq];rfl
 have Qh:aj C (HZ .NotEq) (.lst ([dQ sy,dQ [(g3 cs e,b8 cs e)]].map .au)) (.lst ([dQ sy,dQ [(g3 cs e,b8 cs e)]].map .au)) (.bool false):=aj.qk λes he=>by
  rcases Hc.mp he with rfl |he
  ·exact xg _
  ·refine(Hm.mp he)▸?_;exact xg _
 conv in i6 _=>whnf
 with_reducible
  refine a8 (p:= .au (dQ (cH sy [(g3 cs e,b8 cs e)]))) X B rm (Ev.du ?_ L.ac.fo (ab.cons ?_ (ab.cons ?_ ab.nil)) bR.nil Te) (by done) (by fail) (by fail) ?n1
 case n1=>
  intro s1 X1 B1
  with_reducible
   refine bH (X1.to (l:=("kept",.lst (kc cs sy e))::("stay",.au (dQ (cH sy [(g3 cs e,b8 cs e)])))::m8 cs S) (by k_extra"rs")) B1 rm (Tr.cmp (Ev.conv (Ev.conv (Ev.ey (i:=none) (j:=some 2) (l:=none) (Ev.l (xs:=kc cs sy e) ?_) eh.kg (eh.some Ev.int) eh.kg (by simp) ?_ (λ_ _=>⟨_,by fail⟩) (λ_ _=>by fail)) (HV PV.lst (dF _ _ _))) (HV PV.lst t1)) (Ev.conv (Ev.conv (Ev.ey (i:=some 2) (j:=none) (l:=none) (Ev.l (xs:=kc cs sy e) ?_) (eh.some Ev.int) eh.kg eh.kg (by simp) ?_ (λ_ _=>⟨_,by fail⟩) (λ_ _=>by fail)) (HV PV.lst (dF _ _ _))) (HV PV.lst t2)) Qh Th.bool (by decide+kernel)) ?n2
  case n2=>
   intro s2 X3 B2
   exact next _ (X3.to (by k_extra"rs")) B2
  all_goals with_reducible intros
 all_goals with_reducible intros
theorem uL (tg sr:List (Str×Int)):(cH tg sr).length<=tg.length+sr.length:=by
 have h1:=eN (λ(d:List (Str×Int)) (e:Str×Int)=>bp d e.1 e.2) (λd e=>eS d e.1 e.2) tg []
 have h2:=eN qN (hK _) sr (tg.foldl (λd e=>bp d e.1 e.2) [])
 unfold cH gW
 simp only [Ir] at h1
 lia
theorem mj (cs:List Int)(n:Nat):(bB cs n).length<=6:=by
 have key:∀(l:List (Nat×Nat×Nat)) (d:List (Str×Int)),(l.foldl (λd e=>cH d [(g3 cs e,b8 cs e)]) d).length<=d.length+l.length:=by
  intro l
  induction l with
  |nil=>intro d;exact Hk _
  |cons e l ih=>
   intro d
   simp only [IJ]
   have h1:=ih (cH d [(g3 cs e,b8 cs e)])
   have h2:=uL d [(g3 cs e,b8 cs e)]
   simp only [HK,Ir] at h2 ⊢
   lia
 have:=key (dq.take n) []
 have h2:(dq.take n).length<=6:=by rw [IG];exact K1 _ _
 unfold bB
 simp only [Ir] at this
 lia
noncomputable abbrev Cw (e:Nat×Nat×Nat):PV:= .tup [.int e.1,.int e.2.1,.int e.2.2]
theorem EM (L:Lx C f3)(hT:oD C){cs:List Int}{S:LS}(K:dj cs S)(hg:∀e∈dq,g3 cs e=d9 (cD cs e))(rm:ak A (k+5))(X:St C W SL [] (aC (("stay",.au (dQ []))::m8 cs S)) env s)(B:Bs C Wt (λ_=>true) t [] env s)
 (next:∀J,St C W SL [] (aC (("stay",.au (dQ (bB cs 6)))::m8 cs S)) env J->Bs C Wt (λ_=>true) t [] env J->Hi C.M A (HA (aK 24) env) Q E J):
 Hi C.M A (HA (aK 23) env) Q E s:=by
 have h00:bB cs 0=[]:=rfl
 conv in aK _=>whnf
 with_reducible
  refine a7 (need:=false) (k:=k+5) (ps:=dq.map Cw) X B rm ?it (λ_=>[]) (λi=>aC (("stay",.au (dQ (bB cs i)))::m8 cs S)) (λi=>upd (upd (upd (aC (("stay",.au (dQ (bB cs i)))::m8 cs S)) "i" (.int (dq.getD i default).1)) "j" (.int (dq.getD i default).2.1)) "k" (.int (dq.getD i default).2.2)) (by fail) (rfl) (λ_=>by fail) (λ_=>False) ?Qs ?turn (λ_ _ _ h=>h.elim) ?done (λx=>by fail)
 case it=>
  with_reducible refine aX.lst (Ev.conv ?_ (HV PV.lst (rfl:([.tup [.int 0,.int 1,.int 2],.tup [.int 0,.int 2,.int 1],.tup [.int 1,.int 0,.int 2],.tup [.int 1,.int 2,.int 0],.tup [.int 2,.int 0,.int 1],.tup [.int 2,.int 1,.int 0]]:List PV)=dq.map Cw))) (by decide)
  intros
 case Qs=>
  intro m p hp
  refine ae (c4 hp) λe he P8=> ?_;subst P8
  rw [Hl,he]
  exact bg.tuple (bE.cons (bg.cell (by done) rfl) (bE.cons (bg.cell (by done) rfl) (bE.cons (bg.cell (by done) rfl) bE.nil (λenv=>rfl)) (λenv=>rfl)) (λenv=>rfl)) (λenv=>⟨rfl,rfl⟩)
 case turn=>
  intro I ob m p t' QF s1 hI hp X1 B1
  refine ae (c4 hp) λe he P8=> ?_;subst P8
  rw [Hl,he] at X1
  have XB:=HX he
  have Qc:=mr e XB
  have hz:=mj cs m
  have Qr:bB cs (m+1)=cH (bB cs m) [(g3 cs e,b8 cs e)]:=eV _ _ he
  generalize bB cs (m+1)=sy' at Qr ⊢
  generalize bB cs m=sy at Qr X1 hz
  subst Qr
  have fin:=y7 (k:=k+4) (Q:=λf P9=>match f with
   | .next | .cont=>St C (I::W) SL ((I,.obj ob)::[]) (aC (("stay",.au (dQ (cH sy [(g3 cs e,b8 cs e)])))::m8 cs S)) env P9/\Bs C QF (λ_=>true) t' ((I,.obj ob)::[]) env P9
   | .brk=>False
   | .ret v=>∃p own' Qa,False/\Rr C (I::W) P9.heap v p/\St C (I::W) SL own' Qa env P9/\Bs C QF (λ_=>true) t' own' env P9) (E:=λ_ _=>False) L K Qc rm (X1.to (by k_extra"rs")) B1 λs2 X3 B2=>
   za L hT (k:=k) Qc (hg e XB) rm X3 B2 λs3 X4 B3=>Ax L (k:=k+3) (by omega) Qc rm X4 B3 λs4 X5 B4=>zi L (k:=k+3) (by omega) rm X5 B4 λs5 X6 B5=>Hq ⟨X6,B5⟩
  conv at fin in i6 _=>whnf
  with_reducible refine G' fin ?_ λ_ _ h=>h
  intro f P9 h
  cases f <;> with_reducible exact h
 case done=>
  intro s1 X1 B1
  have YZ:(dq.map Cw).length=6:=rfl
  replace X1:=YZ▸X1
  with_reducible have h9:=next _ X1 B1
  conv at h9 in aK _=>whnf
  with_reducible exact h9
theorem xR {es:List (Str×PV)}{x:Str}{p:PV}(h:x∉es.map (·.1)):putD es x p=es ++ [(x,p)]:=by
 unfold putD
 rw [Hz]
 intro q
 refine ae (K3.mp q) λe he hx=> ?_
 exact h (Hd.mpr ⟨e,he,of_decide_eq_true hx⟩)
theorem lS {α:Type}{f:α->Str}{g:α->PV}:∀{l:List α}{es:List (Str×PV)},(es.map (·.1) ++ l.map f).Nodup->l.foldl (λes p=>putD es (f p) (g p)) es=es ++ l.map λp=>(f p,g p)
 |[],es,_=>by simp
 |a::l,es,h=>by
  have h1:f a∉es.map (·.1):=λq=>by
   rw [Hw,Jz] at h
   exact h.2.2 _ q _ f' rfl
  rw [IJ,xR h1,lS (l:=l)]
  ·simp
  ·rw [HC,IP]
   exact h
theorem qi {α:Type}{f:α->Str}{g:α->PV}{l:List α}(h:(l.map f).Nodup):l.foldl (λes p=>putD es (f p) (g p)) []=l.map λp=>(f p,g p):=by
 have:=lS (g:=g) (l:=l) (es:=[]) ((h))
 exact this
noncomputable def kP:List (Nat×Nat):=dI.take 6
theorem w9:∀e∈kP,∀e'∈kP,Jf (dat (jg e)) (dat (jg e'))=decide (e=e'):=by decide+kernel
theorem sR:∀{l l':List (Nat×Nat)},(∀e∈l,e∈kP)->(∀e∈l',e∈kP)->MM (gA (l.map jg)) (gA (l'.map jg))=decide (l=l')
 |[],[],_,_=>rfl
 |[],_::_,_,_=>rfl
 |_::_,[],_,_=>rfl
 |e::l,e'::l',h,h'=>by
  show (Jf (dat (jg e)) (dat (jg e')) && MM (gA (l.map jg)) (gA (l'.map jg)))=_
  simp only [w9 e (h e f') e' (h' e' f'),sR (λx hx=>h x (j' _ hx)) λx hx=>h' x (j' _ hx)]
  by_cases q:e=e' <;> by_cases q2:l=l' <;> simp [q,q2]
noncomputable abbrev bU (l:List (Nat×Nat)):PV:= .lst (l.map jg)
theorem wY:∀e∈kP,rD 2 (jg e)=true:=by decide+kernel
theorem B9 {e:Nat×Nat}(h:e∈kP):kK (jg e):=dh (wY e h) (by decide)
theorem qQ {l:List (Nat×Nat)}(h:∀e∈l,e∈kP):kK (bU l):=dh (n:=3) (by
 rw [mG,Nk,HM]
 exact λe he=>wY e (h e he)) (by decide)
theorem AR {ls:List (List (Nat×Nat))}(h:∀l∈ls,∀e∈l,e∈kP):kK (.lst (ls.map bU)):=dh (n:=4) (by
 rw [mG,Nk,HM]
 intro l hl
 show rD 3 (bU l)=true
 rw [mG,Nk,HM]
 exact λe he=>wY e (h l hl e he)) (by decide)
theorem aj.xE {p:PV}{ps:List PV}(hp:kK p)(hq:kK (.lst ps)):aj C (HZ .NotIn) p (.lst ps) (.bool (!(gA ps).any λy=>Jf y (dat p))):=λW A s v u rm g h1 h2=>by
 obtain⟨as,ra⟩:=Rp.reads h1 hp.1
 obtain⟨bs,rb⟩:=Rp.reads h2 hq.1
 exact PySem.SeqAt.notIn_list_reads rb ra (SeqAt.canLay_of_shaped hq.2) (SeqAt.canLay_of_shaped hp.2) (room_in_shaped hp.2 (by have:=rm.units;show A.units+65 < 9900;lia)) ⟨ah.refl _,rfl⟩
theorem aj.AH {e:Nat×Nat}{l:List (Nat×Nat)}(h:e∈kP)(hl:∀e∈l,e∈kP):aj C (HZ .NotIn) (jg e) (bU l) (.bool (!l.contains e)):=(aj.xE (B9 h) (qQ hl)).conv (by
 congr 2
 simp only [ql,HB,Ln]
 have:∀l:List (Nat×Nat),(∀e∈l,e∈kP)->l.any ((λy=>Jf y (dat (jg e)))∘dat∘jg)=l.contains e:=by
  intro l
  induction l with
  |nil=>intro _;rfl
  |cons x l ih=>
   intro hl
   simp only [MP,ih λy hy=>hl y (j' _ hy),N4]
   congr 1
   show Jf (dat (jg x)) (dat (jg e))=_
   rw [w9 x (hl x f') e h]
   by_cases q:x=e
   ·rw [q];simp
   ·rw [H2 q];exact(HQ (H3 q)).symm
 exact this l hl)
theorem aj.wX {m:List (Nat×Nat)}{ls:List (List (Nat×Nat))}(h:∀e∈m,e∈kP)(hl:∀l∈ls,∀e∈l,e∈kP):aj C (HZ .NotIn) (bU m) (.lst (ls.map bU)) (.bool (!ls.contains m)):=(aj.xE (qQ h) (AR hl)).conv (by
 congr 2
 simp only [ql,HB,Ln]
 have:∀ls:List (List (Nat×Nat)),(∀l∈ls,∀e∈l,e∈kP)->ls.any ((λy=>Jf y (dat (bU m)))∘dat∘bU)=ls.contains m:=by
  intro ls
  induction ls with
  |nil=>intro _;rfl
  |cons x l ih=>
   intro hl
   simp only [MP,ih λy hy=>hl y (j' _ hy),N4]
   congr 1
   show MM (gA (x.map jg)) (gA (m.map jg))=_
   rw [sR (hl x f') h]
   by_cases q:x=m
   ·rw [q];simp
   ·rw [H2 q];exact(HQ (H3 q)).symm
 exact this ls hl)
noncomputable def o7 (S:LS) (sy:List (Str×Int)) (g:Str):List Int:=(bY S g).es.map λe=>e.2.getD 2 0*(sy.lookup e.1).getD 0
structure q5 (cs:List Int)(S:LS):Prop where
 sum:((bB cs 6).map (·.2)).sum=aM cs*(aM cs - wJ cs 0)*(aM cs - wJ cs 1)*(aM cs - wJ cs 2)
 stat:∀g∈S.line,(o7 S (bB cs 6) g).sum=aM cs*((bB cs 6).lookup g).getD 0
noncomputable abbrev FN (e:Str×List Int):PV:= .tup [.str e.1,tupI e.2]
theorem s8 (es:List (Str×List Int)):ck (fT es)=es.map FN:=by
 unfold ck fT
 rw [HB]
 rfl
noncomputable abbrev DI (cs:List Int) (S:LS):List (Str×PV):=("stay",.au (dQ (bB cs 6)))::m8 cs S
theorem Eg (L:Lx C f3){cs:List Int}{S:LS}(K:dj cs S)(Y:q5 cs S)(rm:ak A (k+2))(X:St C W SL [] (aC (DI cs S)) env s)(B:Bs C Wt (λ_=>true) t [] env s)
 (next:∀J,St C W SL [] (aC (DI cs S)) env J->Bs C Wt (λ_=>true) t [] env J->Hi C.M A (HA (aK 26) env) Q E J):
 Hi C.M A (HA (aK 24) env) Q E s:=by
 have L':=L.L
 have Qu:sizeLine=16777216:=rfl
 have QO:=mj cs 6
 have SP:=Y.sum
 have To:=Y.stat
 unfold DI at X next
 generalize bB cs 6=sy at X next QO SP To
 have W3:aO C (k+2) ([]:Own) (.ref 63) [.au (dQ sy)] [] (.int (aM cs*(aM cs - wJ cs 0)*(aM cs - wJ cs 1)*(aM cs - wJ cs 2))):=by
  simp only [<-SP]
  exact Cg (k:=k+1) L (by lia)
 have SF:S.line.length<=sizeLine:=by have:=K.len;lia
 have Sm:PV.lst ((S.line.filter λg=>((o7 S sy g).sum !=aM cs*(sy.lookup g).getD 0)).map .str)= .lst []:=by
  have:S.line.filter (λg=>((o7 S sy g).sum !=aM cs*(sy.lookup g).getD 0))=[]:=Ks.mpr λg hg=>by rw [To g hg];simp
  refine this▸?_
  rfl
 have Uu:∀g,(bY S g).es.map (λe=>PV.int (e.2.getD 2 0*(sy.lookup e.1).getD 0))=(o7 S sy g).map .int:=λg=>by unfold o7;simp only [HB];rfl
 have Ym:∀x:Str,((dQ sy).lookup x).getD (.int 0)= .int ((sy.lookup x).getD 0):=λx=>by
  refine qf▸?_
  cases sy.lookup x <;> rfl
 conv in aK _=>whnf
 with_reducible
  refine bH X B rm (Tr.conv (p:=(aM cs*(aM cs - wJ cs 0)*(aM cs - wJ cs 1)*(aM cs - wJ cs 2) !=aM cs*(aM cs - wJ cs 0)*(aM cs - wJ cs 1)*(aM cs - wJ cs 2))) (Tr.cmp (Ev.du ?_ L.cc.fo (ab.cons ?_ ab.nil) bR.nil W3) (Ev.bin (Ev.bin (Ev.bin ?_ (Ev.bin ?_ (Ev.item (n:=0) (Ev.l (xs:=(aS cs).map .int) ?_) Ev.int (by fail) (ki cs (j:=0) (by decide)) (by decide) (λ_ _=>by fail)) aj.sub) (aj.mul (.of_right (fP cs (j:=0) (by decide))))) (Ev.bin ?_ (Ev.item (n:=1) (Ev.l (xs:=(aS cs).map .int) ?_) Ev.int (by fail) (ki cs (j:=1) (by decide)) (by decide) (λ_ _=>by fail)) aj.sub) (aj.mul (.of_right (fP cs (j:=1) (by decide))))) (Ev.bin ?_ (Ev.item (n:=2) (Ev.l (xs:=(aS cs).map .int) ?_) Ev.int (by fail) (ki cs (j:=2) (by decide)) (by decide) (λ_ _=>by fail)) aj.sub) (aj.mul (.of_right (fP cs (j:=2) (by decide))))) aj.Ba Th.bool (by decide+kernel)) (by simp)) ?n1
 case n1=>
  intro s1 X1 B1
  with_reducible
   refine bH X1 B1 rm (Tr.cmp (Ev.conv (fS.ev (bI (need:=false) (l:=S.line) (g:=PV.str) (by with_unfolding_all exact⟨rfl,by done,by done⟩) (λx env=>by fail) PV.str (λg=>((o7 S sy g).sum !=aM cs*(sy.lookup g).getD 0)) (aX.lst ?_ (by rw [Hb];exact SF)) SF ?step)) Sm) (Ev.list ab.nil (by decide)) (aj.fz iA) Th.bool (by decide+kernel)) ?n2
  case step=>
   intro g hg
   refine lZ (K.v5 hg) λ_ hb Wy Td=> ?_
   refine⟨_,bg.local (by done),by k_extra"u",?_,λ_=> ?_⟩
   ·with_reducible
     refine Tr.cmp (Ev.a5 ?_ (ab.cons (fS.ev (c9 (need:=true) (l:=(bY S g).es) (g:=FN) (by with_unfolding_all exact⟨rfl,by done,by done⟩) (λx env=>by fail) (λe=>PV.int (e.2.getD 2 0*(sy.lookup e.1).getD 0)) (s8 _▸aX.items (Ev.b9 (n:=4) (Ev.t (xs:=oB (bY S g)) (Ev.bh (x:=g) (es:=cF aP.pv S.book) (Ev.d ?_) ?_ hb (λ_ _=>by fail))) Ev.int (by fail) rfl (by decide) (λ_ _=>by fail)) (by rw [Hb];omega) (λ_=>by fail) (by fail)) (by omega) ?st2 (λ_=>by fail))) ab.nil) (cC.sum (ns:=o7 S sy g) (AU.lst (by rw [Hb];omega)) (Uu g))) (Ev.bin ?_ (Ev.conv (Ev.u7 (T:="dict") (id:="dict.get") (p:= .au (dQ sy)) (ps:=[.str g,.int 0]) ?_ fY.au (ab.cons ?_ (ab.cons Ev.int ab.nil)) cC.get (λ_=>by fail) (λ_=>by fail) (by fail) Jh JP LG (λenv=>by fail) (λenv=>by fail)) (Ym g)) (aj.mul (.of_left (rB cs)))) aj.Ba Th.bool (by decide+kernel)
    case st2=>
     intro e he
     have Wv:=Td e he
     refine⟨_,bg.tuple (bE.cons (bg.local (by done)) (bE.cons (bg.local (by done)) bE.nil (λenv=>by fail)) (λenv=>by fail)) (λenv=>by with_unfolding_all exact⟨rfl,rfl⟩),by k_extra"u",?_⟩
     with_reducible
      refine Ev.bin (Ev.b9 (n:=2) (Ev.t (xs:=e.2.map .int) ?_) Ev.int (by fail) (oM Wv (i:=2) (by decide)) (by decide) (λ_ _=>by fail)) (Ev.conv (Ev.u7 (T:="dict") (id:="dict.get") (p:= .au (dQ sy)) (ps:=[.str e.1,.int 0]) ?_ fY.au (ab.cons ?_ (ab.cons Ev.int ab.nil)) cC.get (λ_=>by fail) (λ_=>by fail) (by fail) Jh JP LG (λenv=>by fail) (λenv=>by fail)) (Ym e.1)) (aj.mul (.of_left (jJ (K.small _ (aG (K.v5 hg).1) e he))))
     all_goals with_reducible intros
    all_goals with_reducible intros
   ·with_reducible intros
  case n2=>
   intro s2 X2 B2
   with_reducible have h9:=next _ X2 B2
   conv at h9 in aK _=>whnf
   with_reducible exact h9
  all_goals with_reducible intros
 all_goals with_reducible intros
noncomputable def bb (cs:List Int) (c:Nat):List (Nat×Nat):=((Hg 6).filter λi=>dg cs c (dI.getD i default)==0).map λi=>dI.getD i default
theorem gy (cs:List Int)(c:Nat):∀e∈bb cs c,e∈kP:=λe he=>by
 refine ae (Hd.mp he) λi hi P8=> ?_;subst P8
 match i,(HN.mp (HU.mp hi).1) with
 |0,_=>decide
 |1,_=>decide
 |2,_=>decide
 |3,_=>decide
 |4,_=>decide
 |5,_=>decide
noncomputable abbrev rg (cs:List Int):PV:= .lst ((Hg 8).map λc=>bU (bb cs c))
theorem EY (L:Lx C f3){cs:List Int}{S:LS}(rm:ak A (k+1))(X:St C W SL [] (aC (DI cs S)) env s)(B:Bs C Wt (λ_=>true) t [] env s)
 (next:∀J,St C W SL [] (aC (("alike",rg cs)::DI cs S)) env J->Bs C Wt (λ_=>true) t [] env J->Hi C.M A (HA (aK 27) env) Q E J):
 Hi C.M A (HA (aK 26) env) Q E s:=by
 have L':=L.L
 have hk:∀c,PV.lst (((Hg 6).filter λi=>dg cs c (dI.getD i default)==0).map λi=>jg (dI.getD i default))=bU (bb cs c):=λc=>by
  unfold bb
  simp only [show bU (((Hg 6).filter λi=>dg cs c (dI.getD i default)==0).map λi=>dI.getD i default)= .lst ((((Hg 6).filter λi=>dg cs c (dI.getD i default)==0).map λi=>dI.getD i default).map jg) from rfl,HB]
  rfl
 conv in aK _=>whnf
 with_reducible
  refine a8 (p:=rg cs) X B rm (fS.ev (c9 (need:=false) (l:=Hg 8) (g:=λc=>PV.lst ((cw cs c).map .int)) (by with_unfolding_all exact⟨rfl,by done,by done⟩) (λx env=>by fail) (λc=>bU (bb cs c)) ((rfl:iH cs 8=(Hg 8).map λc=>PV.lst ((cw cs c).map .int))▸aX.lst ?_ (Hv rfl)) (by decide) ?step)) (by done) (by fail) (cz X (by done)) ?n1
 case step=>
  intro c hc
  refine⟨_,bg.cell (by done) (by fail),by k_extra"u",?_⟩
  with_reducible
   refine Ev.conv (fS.ev (bI (need:=false) (l:=Hg 6) (g:=λ(i:Nat)=> .int ((0:Int)+(i:Int))) (by with_unfolding_all exact⟨rfl,by done,by done⟩) (λx env=>by fail) (λi=>jg (dI.getD i default)) (λi=>dg cs c (dI.getD i default)==0) ?it (by decide) ?st2)) (hk c)
  case it=>exact aX.cJ (n:=6) (by intros) (by intros) (by decide) (by decide) (λenv=>by fail)
  case st2=>
   intro i hi
   have Xx:=HN.mp hi
   have e0:((0:Int)+(i:Int))=(i:Int):=by lia
   refine⟨_,bg.local (by done),by k_extra"u",?_,λ_=> ?_⟩
   ·with_reducible
     refine Tr.cmp (Ev.item (n:=i) (Ev.l (xs:=(cw cs c).map .int) ?_) ?_ e0 (so cs c Xx) (by lia) (λ_ _=>by fail)) Ev.int aj.DO Th.bool (by decide+kernel)
    all_goals with_reducible intros
   ·with_reducible
     refine Ev.item (n:=i) (Ev.l (xs:=ee.map fI) ?_) ?_ e0 (tJ Xx).1 (by lia) (λ_ _=>by fail)
    all_goals with_reducible intros
 case n1=>
  intro s1 X1 B1
  with_reducible have h9:=next _ (X1.to (by k_extra"rs")) B1
  conv at h9 in aK _=>whnf
  with_reducible exact h9
 all_goals with_reducible intros
noncomputable def yr (cs:List Int) (i:Nat):Bool:= !((Hg i).map (bb cs)).contains (bb cs i)
noncomputable def a6 (cs:List Int):List (List (Nat×Nat)):=((Hg 8).filter (yr cs)).map (bb cs)
theorem mU (cs:List Int):0 < (a6 cs).length:=by
 exact Nj (Hd.mpr ⟨0,HU.mpr ⟨by decide,rfl⟩,rfl⟩)
theorem jH (cs:List Int):(a6 cs).length<=8:=by
 unfold a6
 rw [Hb]
 exact Hf (II _ _) (Ly J3)
theorem uW (cs:List Int):∀m∈a6 cs,∀e∈m,e∈kP:=λm hm=>by
 refine ae (Hd.mp hm) λc _ P8=> ?_;subst P8
 exact gy cs c
noncomputable def gK (cs:List Int):Nat:=(((cs.getD 2 0).fdiv 128).fmod ((a6 cs).length:Int)).toNat
theorem zG (cs:List Int):((cs.getD 2 0).fdiv 128).fmod ((a6 cs).length:Int)=(gK cs:Int):=by
 have h:=mU cs
 have:=Il ((cs.getD 2 0).fdiv 128) (b:=((a6 cs).length:Int)) (by omega)
 unfold gK
 omega
noncomputable abbrev FH (cs:List Int) (S:LS):List (Str×PV):=("alike",rg cs)::DI cs S
noncomputable abbrev E7 (cs:List Int) (S:LS):List (Str×PV):=("turn",.int (gK cs))::("flats",.lst ((a6 cs).map bU))::FH cs S
theorem ET (L:Lx C f3){cs:List Int}(hc:cs.length=6){S:LS}(rm:ak A (k+1))(X:St C W SL [] (aC (FH cs S)) env s)(B:Bs C Wt (λ_=>true) t [] env s)
 (next:∀J,St C W SL [] (aC (E7 cs S)) env J->Bs C Wt (λ_=>true) t [] env J->Hi C.M A (HA (aK 29) env) Q E J):
 Hi C.M A (HA (aK 27) env) Q E s:=by
 have L':=L.L
 have Wo:=jH cs
 have Yl:=mU cs
 have VG:PV.lst (((Hg 8).filter (yr cs)).map λi=>bU (bb cs i))= .lst ((a6 cs).map bU):=by
  unfold a6
  simp only [HB]
  rfl
 conv in aK _=>whnf
 with_reducible
  refine fS.assign (p:= .lst ((a6 cs).map bU)) (VG▸bI (need:=false) (l:=Hg 8) (g:=λ(i:Nat)=> .int ((0:Int)+(i:Int))) (by with_unfolding_all exact⟨rfl,by done,by done⟩) (λx env=>by fail) (λi=>bU (bb cs i)) (yr cs) ?it (by decide) ?step) X B rm (bg.local (by done)) (sP X (by done) (by done) (by fail) (by done)) ?n1
 case it=>exact aX.cJ (n:=8) (by intros) (by intros) (by decide) (by decide) (λenv=>by fail)
 case step=>
  intro i hi
  have YW:=HN.mp hi
  have e0:((0:Int)+(i:Int))=(i:Int):=by lia
  have ga:((Hg 8).map λc=>bU (bb cs c))[i]? =some (bU (bb cs i)):=by simp only [Hy,ID YW];rfl
  have SE:eR none (some ((0:Int)+(i:Int))) ((Hg 8).map λc=>bU (bb cs c))=((Hg i).map (bb cs)).map bU:=by
   rw [e0,jl,<-Kz,List.take_range,JW (by lia),HB]
   rfl
  refine⟨_,bg.local (by done),by k_extra"u",?_,λ_=> ?_⟩
  ·with_reducible
    refine Tr.cmp (Ev.item (n:=i) (Ev.l (xs:=(Hg 8).map λc=>bU (bb cs c)) ?_) ?_ e0 ga (by lia) (λ_ _=>by fail)) (Ev.conv (Ev.conv (Ev.ey (i:=none) (j:=some ((0:Int)+(i:Int))) (l:=none) (Ev.l (xs:=(Hg 8).map λc=>bU (bb cs c)) ?_) eh.kg (eh.some ?_) eh.kg (by decide) (Hv rfl) (λ_ _=>⟨_,by fail⟩) (λ_ _=>by fail)) (HV PV.lst (dF _ _ _))) (HV PV.lst SE)) (aj.wX (gy cs i) ?pr) Th.bool (by decide+kernel)
   case pr=>
    intro l hl
    refine ae (Hd.mp hl) λc _ P8=> ?_;subst P8
    exact gy cs c
   all_goals with_reducible intros
  ·with_reducible
    refine Ev.item (n:=i) (Ev.l (xs:=(Hg 8).map λc=>bU (bb cs c)) ?_) ?_ e0 ga (by lia) (λ_ _=>by fail)
   all_goals with_reducible intros
 case n1=>
  intro s1 X1 B1
  with_reducible
   refine az (p:= .int (gK cs)) (X1.to (l:=("flats",.lst ((a6 cs).map bU))::FH cs S) (by k_extra"rs")) B1 rm (Ev.conv (Ev.bin (Ev.bin (Ev.item (n:=2) (Ev.l (xs:=cs.map .int) ?_) Ev.int (by fail) (int_at (by lia)) (by decide) (λ_ _=>by fail)) Ev.int (aj.floordiv (by decide) (HI (by decide)))) (Ev.a5 ?_ (ab.cons ?_ ab.nil) (cC.zb (xs:=(a6 cs).map bU) (by rw [Hb];omega))) (aj.mod (by rw [Hb];omega))) (by simp only [(by rw [Hb]:((((a6 cs).map bU).length:Nat):Int)=((a6 cs).length:Int)),(zG cs)])) (by done) (by fail) ?n2
  case n2=>
   intro s2 X3 B2
   with_reducible have h9:=next _ (X3.to (by k_extra"rs")) B2
   conv at h9 in aK _=>whnf
   with_reducible exact h9
  all_goals with_reducible intros
noncomputable def ef (l:List Str) (h:Str->Int):List (Str×Int):=l.map λo=>(o,h o)
theorem iO {l:List Str}(h:Str->Int){o:Str}(ho:o∈l):(dQ (ef l h)).lookup o=some (.int (h o)):=by
 rw [qf]
 unfold ef
 induction l with
 |nil=>exact nomatch ho
 |cons a l ih=>
  simp only [Hw,Hr]
  by_cases q:o=a
  ·rw [q];simp
  ·refine(HQ q)▸?_
   exact ih ((Hc.mp ho).resolve_left q)
theorem nQ (l:List Str)(h:Str->Int)(hn:l.Nodup):l.foldl (λes o=>putD es o (.int (h o))) []=dQ (ef l h):=by
 rw [qi (f:=λo=>o) (g:=λo=>PV.int (h o)) (by simpa using hn)]
 unfold ef dQ
 simp only [HB]
 rfl
theorem rK (l:List Str)(h:Str->Int):(ef l h).length=l.length:=Hb _
noncomputable def h0 (o:Str):Int:=if(o=="abcd")=true then 1 else 0
noncomputable def dw (cs:List Int) (fl:List (Nat×Nat)) (j:Nat):Bool:=fl.all λe=>(bb cs (2 ^ j)).contains e
noncomputable def aJ (cs:List Int) (fl:List (Nat×Nat)):Int:=(((Hg 3).filter (dw cs fl)).map (wJ cs)).sum
noncomputable def eE (S:LS) (v:Int) (h:Str->Int) (g:Str):Int:=((bY S g).es.map λe=>e.2.getD 2 0*h e.1).sum - v*h g
noncomputable def cL (cs:List Int):List (List (Nat×Nat)):=(a6 cs).drop (gK cs) ++ (a6 cs).take (gK cs)
noncomputable def c5 (cs:List Int) (S:LS) (m:Nat):Str->Int:=((cL cs).take m).foldl (λh fl=>eE S (aJ cs fl) h) h0
theorem pN (fl:List (Nat×Nat))(a:List (Nat×Nat)):((fl.filter λe=> !a.contains e).map jg).isEmpty=fl.all λe=>a.contains e:=by
 induction fl with
 |nil=>rfl
 |cons e l ih=>
  simp only [Pa,Jw]
  by_cases q:a.contains e=true
  ·rw [q]
   exact ih
  ·simp only [OI] at q
   rw [q]
   rfl
theorem EG (L:Lx C f3){cs:List Int}{S:LS}(K:dj cs S)(hn:S.line.Nodup)(rm:ak A (k+1))(X:St C W SL [] (aC (E7 cs S)) env s)(B:Bs C Wt (λ_=>true) t [] env s)
 (next:∀J,St C W SL [] (aC (("share",.au (dQ (ef S.line h0)))::E7 cs S)) env J->Bs C Wt (λ_=>true) t [] env J->Hi C.M A (HA (aK 30) env) Q E J):
 Hi C.M A (HA (aK 29) env) Q E s:=by
 have L':=L.L
 have Qu:sizeLine=16777216:=rfl
 have SF:S.line.length<=sizeLine:=by have:=K.len;lia
 conv in aK _=>whnf
 with_reducible
  refine a8 (p:= .au (dQ (ef S.line h0))) X B rm (Ev.conv (DM.ev (tx (need:=false) (l:=S.line) (g:=PV.str) (by with_unfolding_all exact⟨rfl,by done,by done⟩) (λx env=>by fail) (λo=>o) (λo=> .int (h0 o)) (aX.lst ?_ (by rw [Hb];exact SF)) SF ?step)) (HV PV.au (nQ S.line h0 hn))) (by done) (by fail) (kr X (by done)) ?n1
 case step=>
  intro o ho
  refine⟨_,bg.local (by done),by k_extra"u",?_,?_⟩
  ·with_reducible intros
  ·with_reducible
    refine Ev.mh ?_ (ab.cons (Ev.cmp ?_ ?_ aj.Fy (by decide+kernel)) ab.nil) cC.Ei
   all_goals with_reducible intros
 case n1=>
  intro s1 X1 B1
  with_reducible have h9:=next _ (X1.to (by k_extra"rs")) B1
  conv at h9 in aK _=>whnf
  with_reducible exact h9
 all_goals with_reducible intros
noncomputable abbrev r9 (n:Nat):List I9:=Ky n (cI (ay tb 18) 30)
noncomputable abbrev xA (cs:List Int) (S:LS) (h:Str->Int):List (Str×PV):=("share",.au (dQ (ef S.line h)))::E7 cs S
theorem AB (L:Lx C f3){cs:List Int}{S:LS}{h:Str->Int}{fl:List (Nat×Nat)}(hf:∀e∈fl,e∈kP)(hz:fl.length<=100)(rm:ak A (k+1))(X:St C W SL own (aC (("flat",bU fl)::xA cs S h)) env s)(B:Bs C Wt (λ_=>true) t own env s)
 (next:∀J,St C W SL own (aC (("value",.int (aJ cs fl))::("flat",bU fl)::xA cs S h)) env J->Bs C Wt (λ_=>true) t own env J->Hi C.M A (HA (r9 1) env) Q E J):
 Hi C.M A (HA (r9 0) env) Q E s:=by
 have L':=L.L
 have Qu:sizeLine=16777216:=rfl
 have SP:((Hg 3).filter (dw cs fl)).map (λj=>PV.int (wJ cs j))=(((Hg 3).filter (dw cs fl)).map (wJ cs)).map .int:=by rw [HB];rfl
 have Yu:(((Hg 3).filter (dw cs fl)).map λj=>PV.int (wJ cs j)).length<=sizeLine:=by
  rw [Hb]
  exact Hf (II _ _) (Hv rfl)
 conv in r9 _=>whnf
 with_reducible
  refine a8 (p:= .int (aJ cs fl)) X B rm (Ev.a5 ?_ (ab.cons (fS.ev (bI (need:=false) (l:=Hg 3) (g:=λ(i:Nat)=> .int ((0:Int)+(i:Int))) (by with_unfolding_all exact⟨rfl,by done,by done⟩) (λx env=>by fail) (λj=>PV.int (wJ cs j)) (dw cs fl) ?it (by decide) ?step)) ab.nil) (cC.sum (ns:=((Hg 3).filter (dw cs fl)).map (wJ cs)) (AU.lst Yu) SP)) (by done) (by fail) (by fail) ?n1
 case it=>exact aX.cJ (n:=3) (by intros) (by intros) (by decide) (by decide) (λenv=>by fail)
 case step=>
  intro j hj
  have Tt:=HN.mp hj
  obtain⟨p2,Xf⟩:=(by decide:∀j,j < 3->(2:Int) ^ j=((2 ^ j:Nat):Int)/\2 ^ j < 8) j Tt
  have ga:((Hg 8).map λc=>bU (bb cs c))[2 ^ j]? =some (bU (bb cs (2 ^ j))):=by simp only [Hy,ID Xf];rfl
  refine⟨_,bg.cell (by done) (by fail),by k_extra"u",?_,λ_=> ?_⟩
  ·have Qx:((fl.filter λe=> !(bb cs (2 ^ j)).contains e).map jg).isEmpty=dw cs fl j:=pN _ _
   refine Qx▸?_
   with_reducible
    refine Tr.cmp (fS.ev (bI (need:=false) (l:=fl) (g:=jg) (by with_unfolding_all exact⟨rfl,by done,by done⟩) (λx env=>by fail) jg (λe=> !(bb cs (2 ^ j)).contains e) (aX.lst ?_ (by rw [Hb];omega)) (by omega) ?st2)) (Ev.list ab.nil (by decide)) ((aj.Gp (qQ λe he=>hf e (HU.mp he).1) iA).conv (HV PV.bool y9)) Th.bool (by decide+kernel)
   case st2=>
    intro e he
    refine⟨_,bg.local (by done),by k_extra"u",?_,λ_=> ?_⟩
    ·with_reducible
      refine Tr.cmp ?_ (Ev.item (n:=2 ^ j) (Ev.l (xs:=(Hg 8).map λc=>bU (bb cs c)) ?_) (Ev.bin (by intros) (by intros) (aj.pow (by simp) (by lia) (by decide))) (by rw [(by simp:((0:Int)+(j:Int)).toNat=j)];exact p2) ga (by lia) (λ_ _=>by fail)) (aj.AH (hf e he) (gy cs _)) Th.bool (by decide+kernel)
     all_goals with_reducible intros
    ·with_reducible intros
   all_goals with_reducible intros
  ·with_reducible
    refine Ev.item (n:=j) (Ev.l (xs:=(aS cs).map .int) ?_) ?_ (by lia) (ki cs Tt) (by lia) (λ_ _=>by fail)
   all_goals with_reducible intros
 case n1=>
  intro s1 X1 B1
  with_reducible have h9:=next _ (X1.to (by k_extra"rs")) B1
  conv at h9 in r9 _=>whnf
  with_reducible exact h9
 all_goals with_reducible intros
theorem tq (p:Nat->Bool)(w:Nat->Int):(((Hg 3).filter p).map w).sum=(if p 0 then w 0 else 0)+(if p 1 then w 1 else 0)+(if p 2 then w 2 else 0):=by
 have:Hg 3=[0,1,2]:=rfl
 refine this▸?_
 cases h0:p 0 <;> cases h1:p 1 <;> cases h2:p 2 <;> simp [Jw,h0,h1,h2] <;> lia
theorem rS (cs:List Int)(fl:List (Nat×Nat)):Kf (aJ cs fl)<=64:=jJ (by
 unfold aJ
 rw [tq]
 exact qm (gc (gc (qG (kf cs (by decide))) (qG (kf cs (by decide)))) (qG (kf cs (by decide)))) rfl)
theorem Ak (L:Lx C f3){cs:List Int}{S:LS}(K:dj cs S)(hn:S.line.Nodup)(QS:∀g∈S.line,∀e∈(bY S g).es,e.1∈S.line){h:Str->Int}{fl:List (Nat×Nat)}(rm:ak A (k+1))(X:St C W SL own (aC (("value",.int (aJ cs fl))::("flat",bU fl)::xA cs S h)) env s)(B:Bs C Wt (λ_=>true) t own env s)
 (next:∀J,St C W SL own (aC (xA cs S (eE S (aJ cs fl) h))) env J->Bs C Wt (λ_=>true) t own env J->Hi C.M A (HA [] env) Q E J):
 Hi C.M A (HA (r9 1) env) Q E s:=by
 have L':=L.L
 have Qu:sizeLine=16777216:=rfl
 have SF:S.line.length<=sizeLine:=by have:=K.len;lia
 have Wm:=HV PV.au (nQ S.line (eE S (aJ cs fl) h) hn)
 have vb:=rS cs fl
 have Q6:∀g,eE S (aJ cs fl) h g=((bY S g).es.map λe=>e.2.getD 2 0*h e.1).sum - aJ cs fl*h g:=λg=>rfl
 generalize eE S (aJ cs fl) h=h' at Wm Q6 next
 generalize aJ cs fl=v at X vb Q6
 have Uu:∀g,(bY S g).es.map (λe=>PV.int (e.2.getD 2 0*h e.1))=((bY S g).es.map λe=>e.2.getD 2 0*h e.1).map .int:=λg=>by simp only [HB];rfl
 conv in r9 _=>whnf
 with_reducible
  refine a8 (p:= .au (dQ (ef S.line h'))) X B rm (Ev.conv (DM.ev (tx (need:=false) (l:=S.line) (g:=PV.str) (by with_unfolding_all exact⟨rfl,by done,by done⟩) (λx env=>by fail) (λo=>o) (λo=> .int (h' o)) (aX.lst ?_ (by rw [Hb];exact SF)) SF ?step)) Wm) (by done) (by fail) (kr X (by done)) ?n1
 case step=>
  intro g hg
  refine lZ (K.v5 hg) λ_ hb Wy Td=> ?_
  have W4:(bY S g).es.length<=sizeLine:=by omega
  refine⟨_,bg.local (by done),by k_extra"u",?_,?_⟩
  ·with_reducible intros
  ·rw [(Q6 g)]
   with_reducible
    refine Ev.bin (Ev.a5 ?_ (ab.cons (fS.ev (c9 (need:=true) (l:=(bY S g).es) (g:=FN) (by with_unfolding_all exact⟨rfl,by done,by done⟩) (λx env=>by fail) (λe=>PV.int (e.2.getD 2 0*h e.1)) (s8 _▸aX.items (Ev.b9 (n:=4) (Ev.t (xs:=oB (bY S g)) (Ev.bh (x:=g) (es:=cF aP.pv S.book) (Ev.d ?_) ?_ hb (λ_ _=>by fail))) Ev.int (by fail) rfl (by decide) (λ_ _=>by fail)) (by rw [Hb];omega) (λ_=>by fail) (by fail)) W4 ?st2 (λ_=>by fail))) ab.nil) (cC.sum (ns:=(bY S g).es.map λe=>e.2.getD 2 0*h e.1) (AU.lst (by rw [Hb];omega)) (Uu g))) (Ev.bin ?_ (Ev.bh (x:=g) (es:=dQ (ef S.line h)) (Ev.d ?_) ?_ (iO h hg) (λ_ _=>by fail)) (aj.mul (.of_left vb))) aj.sub
   case st2=>
    intro e he
    have Wv:=Td e he
    refine⟨_,bg.tuple (bE.cons (bg.local (by done)) (bE.cons (bg.local (by done)) bE.nil (λenv=>by fail)) (λenv=>by fail)) (λenv=>by with_unfolding_all exact⟨rfl,rfl⟩),by k_extra"u",?_⟩
    with_reducible
     refine Ev.bin (Ev.b9 (n:=2) (Ev.t (xs:=e.2.map .int) ?_) Ev.int (by fail) (oM Wv (i:=2) (by decide)) (by decide) (λ_ _=>by fail)) (Ev.bh (x:=e.1) (es:=dQ (ef S.line h)) (Ev.d ?_) ?_ (iO h (QS g hg e he)) (λ_ _=>by fail)) (aj.mul (.of_left (jJ (K.small _ (aG (K.v5 hg).1) e he))))
    all_goals with_reducible intros
   all_goals with_reducible intros
 case n1=>
  intro s1 X1 B1
  exact next _ (X1.to (by k_extra"rs")) B1
 all_goals with_reducible intros
theorem pj (cs:List Int):(cL cs).length<=8:=by
 unfold cL
 rw [HT,Pt,<-HT,Jr]
 exact jH cs
theorem pS {cs:List Int}{m:List (Nat×Nat)}:m∈cL cs↔m∈a6 cs:=by
 unfold cL
 rw [HP,or_comm,<-HP,Jr]
theorem uu (cs:List Int)(c:Nat):(bb cs c).length<=6:=by
 unfold bb
 rw [Hb]
 exact Hf (II _ _) (Ly J3)
theorem DX (L:Lx C f3){cs:List Int}{S:LS}(K:dj cs S)(hn:S.line.Nodup)(QS:∀g∈S.line,∀e∈(bY S g).es,e.1∈S.line)(rm:ak A (k+1))(X:St C W SL [] (aC (xA cs S h0)) env s)(B:Bs C Wt (λ_=>true) t [] env s)
 (next:∀J,St C W SL [] (aC (xA cs S (c5 cs S 8))) env J->Bs C Wt (λ_=>true) t [] env J->Hi C.M A (HA (aK 31) env) Q E J):
 Hi C.M A (HA (aK 30) env) Q E s:=by
 have Qu:sizeLine=16777216:=rfl
 have Xm:c5 cs S 0=h0:=rfl
 have VK:=pj cs
 have WH:((cL cs).map bU).length<=sizeLine:=by rw [Hb];lia
 have Wo:((a6 cs).map bU).length<=sizeLine:=by rw [Hb];have:=jH cs;lia
 have hr:PV.lst (((a6 cs).drop (gK cs)).map bU ++ ((a6 cs).take (gK cs)).map bU)= .lst ((cL cs).map bU):=by
  unfold cL
  rw [HC]
 have V8:(((a6 cs).drop (gK cs)).map bU).length+(((a6 cs).take (gK cs)).map bU).length<=sizeLine:=by
  have:=jH cs
  simp only [Hb,Kn,IG]
  grind -splitIndPred
 have TA:c5 cs S ((cL cs).map bU).length=c5 cs S 8:=by
  unfold c5
  simp only [Hb,IY,H9 VK]
 conv in aK _=>whnf
 with_reducible
  refine a7 (need:=false) (k:=k+1) (ps:=(cL cs).map bU) X B rm (aX.lst (Ev.conv (Ev.bin (Ev.conv (Ev.conv (Ev.ey (i:=some (gK cs:Int)) (j:=none) (l:=none) (Ev.l (xs:=(a6 cs).map bU) ?_) (eh.some ?_) eh.kg eh.kg (by simp) Wo (λ_ _=>⟨_,by fail⟩) (λ_ _=>by fail)) (HV PV.lst (dF _ _ _))) (HV PV.lst (by simp only [iq,LX]))) (Ev.conv (Ev.conv (Ev.ey (i:=none) (j:=some (gK cs:Int)) (l:=none) (Ev.l (xs:=(a6 cs).map bU) ?_) eh.kg (eh.some ?_) eh.kg (by simp) Wo (λ_ _=>⟨_,by fail⟩) (λ_ _=>by fail)) (HV PV.lst (dF _ _ _))) (HV PV.lst (by simp only [jl,Kz]))) (aj.uM V8)) hr) WH) (λ_=>[]) (λi=>aC (xA cs S (c5 cs S i))) (λi=>upd (aC (xA cs S (c5 cs S i))) "flat" (bU ((cL cs).getD i default))) (by fail) (rfl) (λ_=>by fail) (λ_=>False) ?Qs ?turn (λ_ _ _ h=>h.elim) ?done (λx=>by fail)
 case Qs=>
  intro m p hp
  refine ae (c4 hp) λe he P8=> ?_;subst P8
  rw [Hl,he]
  exact bg.cell (by done) rfl
 case turn=>
  intro I ob m p t' QF s1 hI hp X1 B1
  refine ae (c4 hp) λfl Sm P8=> ?_;subst P8
  rw [Hl,Sm] at X1
  have VG:=pS.mp (HX Sm)
  have Ur:fl.length<=100:=by
   refine ae (Hd.mp VG) λc _ P8=> ?_;subst P8
   exact Hf (uu cs c) (by decide)
  have Qr:c5 cs S (m+1)=eE S (aJ cs fl) (c5 cs S m):=eV _ _ Sm
  generalize c5 cs S (m+1)=h' at Qr ⊢
  generalize c5 cs S m=h at Qr X1
  subst Qr
  have fin:=AB (k:=k) (Q:=λf P9=>match f with
   | .next | .cont=>St C (I::W) SL ((I,.obj ob)::[]) (aC (xA cs S (eE S (aJ cs fl) h))) env P9/\Bs C QF (λ_=>true) t' ((I,.obj ob)::[]) env P9
   | .brk=>False
   | .ret v=>∃p own' Qa,False/\Rr C (I::W) P9.heap v p/\St C (I::W) SL own' Qa env P9/\Bs C QF (λ_=>true) t' own' env P9) (E:=λ_ _=>False) L (uW cs fl VG) Ur rm (X1.to (by k_extra"rs")) B1 λs2 X3 B2=>
   Ak L (k:=k) K hn QS rm X3 B2 λs5 X6 B5=>Hq ⟨X6,B5⟩
  conv at fin in r9 _=>whnf
  with_reducible refine G' fin ?_ λ_ _ h=>h
  intro f P9 h
  cases f <;> with_reducible exact h
 case done=>
  intro s1 X1 B1
  rw [TA] at X1
  with_reducible have h9:=next _ X1 B1
  conv at h9 in aK _=>whnf
  with_reducible exact h9
 all_goals with_reducible intros
theorem Eu (L:Lx C f3){cs:List Int}{S:LS}(K:dj cs S){h:Str->Int}(hz:∀o∈S.line,h o=0)(rm:ak A (k+1))(X:St C W SL [] (aC (xA cs S h)) env s)(B:Bs C Wt (λ_=>true) t [] env s)
 (fin:∀v J,St C W SL [] (aC (xA cs S h)) env J->Bs C Wt (λ_=>true) t [] env J->Rr C W J.heap v (.bool true)->Q (.ret v) J):
 Hi C.M A (HA (aK 31) env) Q E s:=by
 have Qu:sizeLine=16777216:=rfl
 have Z7:(dQ (ef S.line h)).map (·.2)=S.line.map λo=> .int (h o):=by
  unfold ef dQ
  rw [HB,HB]
  rfl
 have Sm:PV.lst ((S.line.filter λg=>(h g !=0)).map λo=> .int (h o))= .lst []:=by
  have:S.line.filter (λg=>(h g !=0))=[]:=Ks.mpr λg hg=>by rw [hz g hg];simp
  rw [this]
  rfl
 conv in aK _=>whnf
 with_reducible
  refine cy X B rm (p:= .bool true) (Ev.cmp (Ev.conv (fS.ev (bI (need:=false) (l:=S.line) (g:=λo=> .int (h o)) (by with_unfolding_all exact⟨rfl,by done,by done⟩) (λx env=>by fail) (λo=> .int (h o)) (λg=>(h g !=0)) (Z7▸aX.values ?_ (by rw [Hb,rK];have:=K.len;lia) (λ_=>by fail) (by fail)) (by have:=K.len;lia) ?step)) Sm) (Ev.list ab.nil (by decide)) (aj.oR iA) (by decide+kernel)) ?fn
 case step=>
  intro o ho
  refine⟨_,bg.local (by done),by k_extra"u",?_,λ_=> ?_⟩
  ·with_reducible
    refine Tr.cmp ?_ Ev.int aj.Ba Th.bool (by decide+kernel)
   all_goals with_reducible intros
  ·with_reducible intros
 case fn=>exact λv s1 X1 B1 r=>fin v s1 X1 B1 r
 all_goals with_reducible intros
structure Facts (f3:Int->Option Str)(cs:List Int):Prop where
 hc:cs.length=6
 ty:rf f3 cs
 fr:∀j < 3,lg cs j (bO cs j 6)
 bk:dj cs (cR cs 24)
 nd:(cR cs 24).line.Nodup
 cl:∀g∈(cR cs 24).line,∀e∈(bY (cR cs 24) g).es,e.1∈(cR cs 24).line
 g:∀e∈dq,g3 cs e=d9 (cD cs e)
 st:q5 cs (cR cs 24)
 sh:∀o∈(cR cs 24).line,c5 cs (cR cs 24) 8 o=0
theorem uK (L:Lx C f3)(T:Tc C)(FS:FE C)(FG:Fh C)(hT:oD C){ns:List Int}(hn:ns.length<=63)(P:Facts f3 (cellsOf ns))(rm:ak A (k+6))
 (X:St C W SL [] (aC [("script",.lst (ns.map .int))]) env s)(B:Bs C Wt (λ_=>true) t [] env s)
 (fin:∀W v J,Inv C J->ah C Wt t J->Rr C W J.heap v (.bool true)->Q (.ret v) J):
 Hi C.M A (HA (aK 0) env) Q E s:=by
 have Ru:ak A (k+5+1):=rm
 have Xg:ak A (k+4+2):=rm
 with_reducible refine Fw L hn rm X B λW s X B=> ?_
 generalize cellsOf ns=cs at *
 with_reducible refine Fp L P.hc Ru X B λW s X B=> ?_
 with_reducible refine Fv L P.hc Ru X B λW s X B=> ?_
 with_reducible refine FV L Ru X B λa b W s Rl X B=> ?_
 with_reducible refine FW L P.ty Rl P.hc Ru X B λs X B=> ?_
 obtain⟨W2,X2⟩:=xl Rl X
 have B2:=B.less (own':=[]) (by simp)
 clear X B
 with_reducible refine EK L Ru X2 B2 λa s X B=> ?_
 with_reducible refine Ek L T Xg X B λW a s X B=> ?_
 with_reducible refine Ez L P.fr Xg X B λW s X B=> ?_
 with_reducible refine Em L Ru X B λW bk st kn ln s Ap X B=> ?_
 with_reducible refine Eh L FS FG P.hc Ap rm X B λW s X B=> ?_
 with_reducible refine D8 L Ru X B λs X B=> ?_
 have K:=P.bk
 have TS:=P.nd
 have QS:=P.cl
 have QT:=P.st
 have XU:=P.sh
 generalize cR cs 24=S at *
 with_reducible refine Ea L K Ru X B λs X B=> ?_
 with_reducible refine EM L hT K P.g rm X B λs X B=> ?_
 with_reducible refine Eg L K QT Xg X B λs X B=> ?_
 with_reducible refine EY L Ru X B λs X B=> ?_
 with_reducible refine ET L P.hc Ru X B λs X B=> ?_
 with_reducible refine EG L K TS Ru X B λs X B=> ?_
 with_reducible refine DX L K TS QS Ru X B λs X B=> ?_
 with_reducible exact Eu L K XU Ru X B λv s X B r=>fin _ v s X.inv B.aA r
noncomputable def kM (p:List Nat) (x y:Nat):Bool:=decide (p.idxOf x < p.idxOf y)
theorem js {p:List Nat}{x y:Nat}(h:kM p x y=true):kM p y x=false:=by
 unfold kM at *
 simp only [Iz,decide_eq_false_iff_not] at *
 lia
theorem zQ {p:List Nat}{x y:Nat}(hx:x∈p)(h:p.idxOf x=p.idxOf y):x=y:=by
 have h1:=KL hx
 have h2:p.idxOf y < p.length:=by lia
 refine(Lk h1)▸(Lk h2)▸?_
 simp only [h]
theorem uZ {p:List Nat}{x y:Nat}(hx:x∈p)(Qh:x≠y)(h:kM p x y=false):kM p y x=true:=by
 unfold kM at *
 simp only [Iz,decide_eq_false_iff_not] at *
 have:p.idxOf x≠p.idxOf y:=λe=>Qh (zQ hx e)
 lia
theorem jt {p:List Nat}(hn:p.Nodup):p.Pairwise λx y=>kM p x y=true:=by
 rw [Jp]
 intro i j hi hj Z4
 unfold kM
 simp only [MU hn i hi,MU hn j hj]
 exact HS Z4
theorem xm {R:Nat->Nat->Bool}{q:List Nat}(hq:q.Pairwise λx y=>R x y=true)(ha:∀x y,R x y=true->R y x=false){x y:Nat}(hx:x∈q)(hy:y∈q)(Qh:x≠y):kM q x y=R x y:=by
 have key:∀x y,x∈q->y∈q->kM q x y=true->R x y=true:=by
  intro x y hx hy h
  have h1:=KL hx
  have h2:=KL hy
  have:=Jp.mp hq (q.idxOf x) (q.idxOf y) h1 h2 (of_decide_eq_true h)
  rw [Lk h1,Lk h2] at this
  exact this
 cases hb:kM q x y with
 |true=>exact(key x y hx hy hb).symm
 |false=>exact(ha _ _ (key y x hy hx (uZ hx Qh hb))).symm
theorem mW {q q':List Nat}(hp:q.Perm q')(hn:q.Nodup)(h:∀x∈q,∀y∈q,x≠y->kM q x y=kM q' x y):q=q':=by
 have h1:=jt hn
 have h2:q'.Pairwise λx y=>kM q x y=true:=by
  refine IC.imp_of_mem (R:=λx y=>kM q' x y=true) ?_ (jt (hp.nodup_iff.mp hn))
  intro x y hx hy hb
  by_cases e:x=y
  ·subst e
   have:=js hb
   replace this:=hb▸this;cases this
  ·rw [h x (hp.mem_iff.mpr hx) y (hp.mem_iff.mpr hy) e];exact hb
 exact MS (λa b _ _ h1 h2=>by
  have:=js h1
  replace this:=h2▸this;cases this) h1 h2 hp
theorem mZ {lt:Nat->Nat->Bool}(T:qD lt)(right:Bool)(R:Nat->Nat->Prop)(Qc:∀x y,lt x y=true->R x y):
 ∀(q l:List Nat),jT lt l->l.Pairwise R->(∀y∈l,∀x∈q,(right=true->lt x y=false->R y x)/\(right=false->lt y x=false->R x y))->
  (q.Pairwise λy x=>(right=true->lt x y=false->R y x)/\(right=false->lt y x=false->R x y))->(q.foldl (λl x=>cM lt right l x) l).Pairwise R:=by
 intro q
 induction q with
 |nil=>intro l _ h _ _;exact h
 |cons x q ih=>
  intro l hs hl hd hq
  have hm:∀y,y∈cM lt right l x↔y=x\/y∈l:=λy=>by rw [(cW lt right l x).mem_iff,Hc]
  refine ih _ (mm T right x hs) ?_ ?_ (Ih.mp hq).2
  ·have hp:=eg lt right l x
   have key:∀m (hm:m < l.length),fD lt right x l[m]=decide (bK lt right l x<=m):=λm hm=>cV (iy T hs) (Hn hm)
   unfold cM bw
   rw [I3,Ih]
   refine⟨Ja (KJ _ _) hl,⟨λb hb=> ?_,Ja (Lz _ _) hl⟩,λa ha b hb=> ?_⟩
   ·obtain⟨i,hi,rfl⟩:=IT.mp hb
    rw [J4]
    have hm:bK lt right l x+i < l.length:=by rw [Kn] at hi;omega
    have h1:=key _ hm
    rw [HS (H6 _ _)] at h1
    unfold fD at h1
    cases right
    ·exact(hd _ (Jv hm) x f').2 rfl (by simpa using h1)
    ·exact Qc _ _ h1
   ·obtain⟨i,hi,rfl⟩:=IT.mp ha
    rw [LB]
    have Sj:i < bK lt right l x:=by rw [IG] at hi;lia
    have h1:=key i (by lia)
    rw [H2 (by omega)] at h1
    rcases Hc.mp hb with rfl |hb
    ·unfold fD at h1
     cases right
     ·have:lt l[i] b=true:=by simpa using h1
      exact Qc _ _ this
     ·exact(hd _ (Jv (by lia)) b f').1 rfl h1
    ·obtain⟨j,hj,rfl⟩:=IT.mp hb
     rw [J4]
     exact Jp.mp hl _ _ _ _ (by omega)
  ·intro y hy z hz
   rcases(hm y).mp hy with rfl |hy
   ·exact(Ih.mp hq).1 z hz
   ·exact hd y hy z (j' _ hz)
noncomputable def vF (lt:Nat->Nat->Bool) (b:Nat->Nat->Bool) (x y:Nat):Bool:=lt x y || (!lt y x && b x y)
theorem pZ {lt b:Nat->Nat->Bool}(T:qD lt)(hb:∀x y,b x y=true->b y x=false):∀x y,vF lt b x y=true->vF lt b y x=false:=by
 intro x y h
 unfold vF at *
 cases h1:lt x y with
 |true=>
  refine(T.asym _ _ h1)▸?_;simp
 |false=>
  cases h2:lt y x with
  |true=>rw [h1,h2] at h;cases h
  |false=>
   rw [h1,h2] at h
   simp only [LW,Bool.not_false,K7] at h ⊢
   exact hb _ _ h
theorem mq {lt:Nat->Nat->Bool}(T:qD lt){p:List Nat}(hn:p.Nodup):(p.foldl (λl x=>cM lt true l x) []).Pairwise λx y=>vF lt (kM p) x y=true:=by
 refine mZ T true _ (λx y h=>by unfold vF;rw [h];rfl) p [] I7 I7 (λ_ h=>nomatch h) ?_
 refine(jt hn).imp λ{y x} h=>⟨λ_ h2=> ?_,(λh=>nomatch h)⟩
 unfold vF
 simp only [h2,h];simp
theorem uj {lt:Nat->Nat->Bool}(T:qD lt){p:List Nat}(hn:p.Nodup):(p.reverse.foldl (λl x=>cM lt false l x) []).Pairwise λx y=>vF lt (kM p) x y=true:=by
 refine mZ T false _ (λx y h=>by unfold vF;rw [h];rfl) p.reverse [] I7 I7 (λ_ h=>nomatch h) ?_
 rw [List.pairwise_reverse]
 refine(jt hn).imp λ{y x} h=>⟨(λh=>nomatch h),λ_ h2=> ?_⟩
 unfold vF
 simp only [h2,h];simp
theorem qZ (v:Nat->Int)(b:Bool){p:List Nat}(hn:p.Nodup):(qz v b p).Pairwise λx y=>vF (ltV v) (kM p) x y=true:=by
 unfold qz
 cases b
 ·exact uj (Dg v) hn
 ·exact mq (Dg v) hn
theorem uz (v:Nat->Int)(b:Bool){p:List Nat}(hn:p.Nodup){x y:Nat}(hx:x∈p)(hy:y∈p)(Qh:x≠y):kM (qz v b p) x y=vF (ltV v) (kM p) x y:=
 xm (qZ v b hn) (pZ (Dg v) λ_ _=>js) ((eU v b p).mem_iff.mpr hx) ((eU v b p).mem_iff.mpr hy) Qh
noncomputable def sg (cs:List Int) (j:Nat):Int:=if 0 < cn cs j then 1 else -1
noncomputable def cS (cs:List Int) (j z:Nat):Int:=(aF cs z).getD j 0*sg cs j
theorem we (cs:List Int)(j:Nat):cn cs j≠0:=by
 have h0:=Il (((cs.getD 1 0).fdiv 64).fdiv (4 ^ j)) (b:=4) (by decide)
 have h1:=IW (((cs.getD 1 0).fdiv 64).fdiv (4 ^ j)) (b:=4) (by decide)
 unfold cn
 generalize (((cs.getD 1 0).fdiv 64).fdiv (4 ^ j)).fmod 4=x at h0 h1
 have:x.toNat < 4:=by simp_all
 exact(by decide:∀n,n < 4->uV.getD n 0≠0) _ this
noncomputable def lA (c:Nat):List Nat:=(Hg 3).filter (yx (c:Int))
theorem ph (cs:List Int)(c:Nat):cp cs (c:Int)=(lA c).map λj=>(j,cn cs j):=rfl
theorem pA:∀j,j < 3->lA (2 ^ j)=[j]:=by decide+kernel
theorem wz (cs:List Int)(c:Nat)(e:Nat×Nat):dg cs c e=0↔∀j∈lA c,(aF cs e.1).getD j 0=(aF cs e.2).getD j 0:=by
 delta dg cU
 simp only [ph,Nr,HB]
 induction lA c with
 |nil=>simp
 |cons j l ih=>
  rw [Jw,KR]
  by_cases h:(aF cs e.1).getD j 0=(aF cs e.2).getD j 0
  ·have:((λQq:Nat×Int=>(aF cs e.1).getD Qq.1 0 !=(aF cs e.2).getD Qq.1 0)∘λj=>(j,cn cs j)) j=false:=by
    show ((aF cs e.1).getD j 0 !=(aF cs e.2).getD j 0)=false
    rw [h];simp
   rw [Hz (by rw [this];decide),ih]
   exact⟨λh2=>⟨h,h2⟩,λh2=>h2.2⟩
  ·have:((λQq:Nat×Int=>(aF cs e.1).getD Qq.1 0 !=(aF cs e.2).getD Qq.1 0)∘λj=>(j,cn cs j)) j=true:=by
    exact bne_iff_ne.mpr h
   rw [HE this]
   have hw:=we cs j
   constructor
   ·intro h2
    exfalso
    rw [Hw,L9,K9] at h2
    split at h2 <;> simp_all
   ·intro h2
    exact absurd h2.1 h
theorem zO (cs:List Int){j:Nat}(hj:j < 3)(e:Nat×Nat):dg cs (2 ^ j) e=if(aF cs e.1).getD j 0=(aF cs e.2).getD j 0 then 0 else if(aF cs e.2).getD j 0 < (aF cs e.1).getD j 0 then cn cs j else -cn cs j:=by
 delta dg cU
 simp only [ph,pA j hj]
 by_cases h:(aF cs e.1).getD j 0=(aF cs e.2).getD j 0
 ·have h':((aF cs e.1).getD j 0 !=(aF cs e.2).getD j 0)=false:=by refine h▸?_;exact bne_self_eq_false _
  rw [HE h,Hw,IU,Jw,Hz (by rw [h'];decide),OV,IU,List.headD_nil]
 ·have h':((aF cs e.1).getD j 0 !=(aF cs e.2).getD j 0)=true:=bne_iff_ne.mpr h
  rw [Hz h,Hw,IU,Jw,HE h',OV,Hw,IU,L9]
theorem yM (cs:List Int){j:Nat}(hj:j < 3)(e:Nat×Nat):(dg cs (2 ^ j) e=0↔cS cs j e.1=cS cs j e.2)/\(dg cs (2 ^ j) e < 0↔cS cs j e.1 < cS cs j e.2):=by
 rw [zO cs hj]
 delta cS sg
 have hw:=we cs j
 generalize (aF cs e.2).getD j 0=b
 generalize cn cs j=w at hw
 by_cases h:0 < w
 ·rw [HE h]
  constructor <;> split <;> (try split) <;> omega
 ·rw [Hz h]
  constructor <;> split <;> (try split) <;> lia
theorem yC (cs:List Int)(j a b:Nat):cS cs j a=cS cs j b↔(aF cs a).getD j 0=(aF cs b).getD j 0:=by
 delta cS sg
 split <;> simp
noncomputable def kl (κ:Nat->Int) (z:Nat):Nat:=(Hg 4).countP λo=>decide (κ o < κ z)
noncomputable def ltN (κ:Nat->Int) (a b:Nat):Int:=if κ a < κ b then 1 else 0
theorem wL {p:Prop} [Decidable p]:(((if p then 1 else 0):Nat):Int)=if p then 1 else 0:=by split <;> rfl
theorem wg (a b c d:Int):0+d+c+b+a=a+b+c+d:=by omega
theorem xu (κ:Nat->Int)(z:Nat):(kl κ z:Int)=ltN κ 0 z+ltN κ 1 z+ltN κ 2 z+ltN κ 3 z:=by
 show ((([0,1,2,3]:List Nat).countP λo=>decide (κ o < κ z):Nat):Int)=_
 simp only [JL,OW,Iz,Int.natCast_add,wL]
 exact wg _ _ _ _
theorem ip (cs:List Int){j:Nat}(hj:j < 3)(n:Nat)(hn:n < 6){z:Nat}(hz:z < 4):(bO cs j (n+1)).getD z 0=(bO cs j n).getD z 0+((if z=(dI.getD n default).2 then ltN (cS cs j) (dI.getD n default).1 (dI.getD n default).2 else 0)+(if z=(dI.getD n default).1 then ltN (cS cs j) (dI.getD n default).2 (dI.getD n default).1 else 0)):=by
 have hl:=pI cs j n
 refine c7 (yM cs hj (dI.getD n default)) λp1 p2=> ?_
 have Qh:=(by decide:∀n,n < 6->(dI.getD n default).1≠(dI.getD n default).2/\(dI.getD n default).1 < 4/\(dI.getD n default).2 < 4) n hn
 show (if dg cs (2 ^ j) (dI.getD n default)=0 then bO cs j n else(bO cs j n).set (if dg cs (2 ^ j) (dI.getD n default) < 0 then(dI.getD n default).2 else(dI.getD n default).1) ((bO cs j n).getD (if dg cs (2 ^ j) (dI.getD n default) < 0 then(dI.getD n default).2 else(dI.getD n default).1) 0+1)).getD z 0=_
 generalize dI.getD n default=e at p1 p2 Qh
 generalize dg cs (2 ^ j) e=d at p1 p2
 generalize bO cs j n=F at hl
 have QN:∀y,y < 4->(F.set y (F.getD y 0+1)).getD z 0=F.getD z 0+if z=y then 1 else 0:=λy hy=>by
  simp only [Hl,List.getElem?_set]
  by_cases q:y=z
  ·rw [q]
   rw [HE rfl,HE (by simp_all),HE rfl];rfl
  ·rw [Hz q,Hz (H3 q),Ml]
 unfold ltN
 by_cases h1:d=0
 ·rw [HE h1]
  have:=p1.mp h1
  refine(Hz (show ¬cS cs j e.1 < cS cs j e.2 by simp_all))▸(Hz (show ¬cS cs j e.2 < cS cs j e.1 by simp_all))▸?_
  simp
 ·rw [Hz h1]
  have hk:¬cS cs j e.1=cS cs j e.2:=λq=>h1 (p1.mpr q)
  by_cases h2:d < 0
  ·rw [HE h2,QN _ Qh.2.2,HE (p2.mp h2),Hz (show ¬cS cs j e.2 < cS cs j e.1 by have:=p2.mp h2;omega)]
   simp
  ·have h3:¬cS cs j e.1 < cS cs j e.2:=λq=>h2 (p2.mpr q)
   rw [Hz h2,QN _ Qh.2.1,Hz h3,HE (show cS cs j e.2 < cS cs j e.1 by omega)]
   simp
noncomputable def cP (L:Nat->Nat->Int) (z:Nat) (e:Nat×Nat):Int:=(if z=e.2 then L e.1 e.2 else 0)+(if z=e.1 then L e.2 e.1 else 0)
theorem G5 (L:Nat->Nat->Int)(hs:∀a,L a a=0):∀z,z < 4->0+cP L z (0,1)+cP L z (0,2)+cP L z (0,3)+cP L z (1,2)+cP L z (1,3)+cP L z (2,3)=L 0 z+L 1 z+L 2 z+L 3 z:=by
 intro z hz
 match z,hz with
 |0,_=>show 0+(0+L 1 0)+(0+L 2 0)+(0+L 3 0)+(0+0)+(0+0)+(0+0)=_;simp_all
 |1,_=>show 0+(L 0 1+0)+(0+0)+(0+0)+(0+L 2 1)+(0+L 3 1)+(0+0)=_;simp_all
 |2,_=>show 0+(0+0)+(L 0 2+0)+(0+0)+(L 1 2+0)+(0+0)+(0+L 3 2)=_;simp_all
 |3,_=>show 0+(0+0)+(0+0)+(L 0 3+0)+(0+0)+(L 1 3+0)+(L 2 3+0)=_;simp_all
theorem yT (cs:List Int)(j:Nat):∀z,z < 4->(bO cs j 0).getD z 0=0:=by
 show ∀z,z < 4->([0,0,0,0]:List Int).getD z 0=0
 decide
theorem oP (cs:List Int){j:Nat}(hj:j < 3):∀z,z < 4->(bO cs j 6).getD z 0=(kl (cS cs j) z:Int):=by
 intro z hz
 simp only [ip cs hj 5 (by decide) hz,ip cs hj 4 (by decide) hz,ip cs hj 3 (by decide) hz,ip cs hj 2 (by decide) hz,ip cs hj 1 (by decide) hz,ip cs hj 0 (by decide) hz,xu,yT cs j z hz]
 exact G5 (ltN (cS cs j)) (λa=>Hz (Pe _)) z hz
theorem oG (κ:Nat->Int){a b:Nat}(ha:a < 4):kl κ a < kl κ b↔κ a < κ b:=by
 have mono:∀(l:List Nat) (a b:Nat),κ a<=κ b->l.countP (λo=>decide (κ o < κ a))<=l.countP (λo=>decide (κ o < κ b)):=λl a b h=>
  List.countP_mono_left λo _ h1=>by lia
 have strict:∀(l:List Nat) (a b:Nat),κ a < κ b->a∈l->l.countP (λo=>decide (κ o < κ a)) < l.countP (λo=>decide (κ o < κ b)):=by
  intro l a b h
  induction l with
  |nil=>intro h;exact nomatch h
  |cons x l ih=>
   intro hm
   simp only [JL,Iz]
   have hmo:=mono l a b (Int.le_of_lt h)
   rcases Hc.mp hm with rfl |hm
   ·rw [Hz (Pe _),HE h];exact Kj (by assumption)
   ·have:=ih hm
    by_cases q:κ x < κ a
    ·rw [HE q,HE (by lia)];simp_all
    ·rw [Hz q];split <;> omega
 constructor
 ·intro h
  by_cases q:κ a < κ b
  ·exact q
  ·have:=mono (Hg 4) b a (by simp_all)
   unfold kl at h
   omega
 ·intro h
  exact strict _ _ _ h (HN.mpr ha)
theorem vX (cs:List Int){j:Nat}(hj:j < 3){a b:Nat}(ha:a < 4)(hb:b < 4):ltV (zg cs j) a b=ltV (cS cs j) a b:=by
 unfold ltV
 simp only [sC cs j ha,sC cs j hb,oP cs hj a ha,oP cs hj b hb]
 have:=oG (cS cs j) (b:=b) ha
 simp_all
theorem zC:∀{l:List Int},jT ltI l->∀x,bK ltI false l x=l.countP λp=>decide (p < x):=by
 intro l
 induction l with
 |nil=>intro _ x;rfl
 |cons p l ih=>
  intro h x
  obtain⟨h1,h2⟩:=Ih.mp h
  unfold bK
  simp only [MF,JL]
  by_cases q:p < x
  ·have e1:fD ltI false x p=false:=by show (!ltI p x)=false;unfold ltI;rw [HS q];rfl
   rw [e1,cond_false,HE (HS q)]
   have:=ih h2 x
   unfold bK at this
   rw [this]
  ·have e1:fD ltI false x p=true:=by show (!ltI p x)=true;unfold ltI;rw [H2 q];rfl
   rw [e1,cond_true,Hz (by simp [q])]
   have:l.countP (λp=>decide (p < x))=0:=NU.mpr λy hy=>by
    have:=h1 y hy
    unfold ltI at this
    simp only [decide_eq_false_iff_not,Iz] at *
    omega
   lia
theorem Ay:∀{l:List Int},jT ltI l->∀x,bK ltI true l x=l.countP λp=>decide (p<=x):=by
 intro l
 induction l with
 |nil=>intro _ x;rfl
 |cons p l ih=>
  intro h x
  obtain⟨h1,h2⟩:=Ih.mp h
  unfold bK
  simp only [MF,JL]
  by_cases q:p<=x
  ·have e1:fD ltI true x p=false:=by exact H2 (by simp_all)
   rw [e1,cond_false,HE (HS q)]
   have:=ih h2 x
   unfold bK at this
   rw [this]
  ·have e1:fD ltI true x p=true:=by exact HS (by simp_all)
   rw [e1,cond_true,Hz (by simp [q])]
   have:l.countP (λp=>decide (p<=x))=0:=NU.mpr λy hy=>by
    have:=h1 y hy
    unfold ltI at this
    simp only [decide_eq_false_iff_not,Iz] at *
    omega
   lia
theorem rE (F:List Int)(i:Nat):(bc F i).Perm ((Hg i).map λz=>F.getD z 0):=by
 induction i with
 |zero=>exact Jy _
 |succ i ih=>
  simp only [eF,JV,HC]
  refine(cW ltI _ _ _).trans ?_
  exact(ih.cons _).trans (KC (l₁:=[F.getD i 0]))
theorem yy (cs:List Int){j:Nat}(hj:j < 3):lg cs j (bO cs j 6):=by
 intro z hz
 have hp:=rE (bO cs j 6) 4
 have hf:=oP cs hj
 have lt:=λo ho=>oG (cS cs j) (a:=o) (b:=z) ho
 simp only [zC (dk _ 4),Ay (dk _ 4),hp.countP_eq,List.countP_map]
 have e1:(Hg 4).countP ((λp=>decide (p < (bO cs j 6).getD z 0))∘λz=>(bO cs j 6).getD z 0)=kl (cS cs j) z:=by
  refine List.countP_congr λo ho=> ?_
  have ho:=HN.mp ho
  show decide ((bO cs j 6).getD o 0 < (bO cs j 6).getD z 0)=true↔_
  simp only [hf o ho,hf z hz,Iz,<-lt o ho]
  simp
 have e2:(Hg 4).countP ((λp=>decide (p<=(bO cs j 6).getD z 0))∘λz=>(bO cs j 6).getD z 0)=kl (cS cs j) z+DN cs j z:=by
  delta kl DN
  refine List.countP_eq_length_filter▸?_
  have:∀l:List Nat,(∀o∈l,o < 4)->l.countP ((λp=>decide (p<=(bO cs j 6).getD z 0))∘λz=>(bO cs j 6).getD z 0)=l.countP (λo=>decide (cS cs j o < cS cs j z))+l.countP (λo=>(aF cs o).getD j 0==(aF cs z).getD j 0):=by
   intro l
   induction l with
   |nil=>intro _;rfl
   |cons o l ih=>
    intro ho
    have h4:=ho o f'
    simp only [JL,ih λx hx=>ho x (j' _ hx)]
    have a2:=(λo=>oG (cS cs j) (a:=z) (b:=o) hz) o
    have a4:((λp=>decide (p<=(bO cs j 6).getD z 0))∘λz=>(bO cs j 6).getD z 0) o=decide (cS cs j o<=cS cs j z):=by
     show decide ((bO cs j 6).getD o 0<=(bO cs j 6).getD z 0)=_
     rw [hf o h4,hf z hz,decide_eq_decide]
     grind -splitIndPred
    refine a4▸?_
    simp only [Iz,beq_iff_eq,<-(yC cs j o z)]
    by_cases q1:cS cs j o < cS cs j z
    ·lia
    ·by_cases q2:cS cs j o=cS cs j z
     ·rw [Hz q1,HE (by simp_all),HE q2];omega
     ·rw [Hz q1,Hz (by lia),Hz q2];simp
  exact this _ λo ho=>HN.mp ho
 rw [e1,e2,hf z hz]
 exact⟨rfl,by simp⟩
noncomputable def φ1 (cs:List Int) (j:Nat) (x y:Nat) (b:Bool):Bool:=ltV (cS cs j) x y || (!ltV (cS cs j) y x && b)
noncomputable def φW (cs:List Int):List Nat->Nat->Nat->Bool->Bool
 |[],_,_,b=>b
 |j::w,x,y,b=>φ1 cs j x y (φW cs w x y b)
noncomputable def c8 (cs:List Int):List Nat->List Nat->List Nat
 |[],p=>p
 |j::w,p=>gE cs j (c8 cs w p)
theorem jM (cs:List Int):∀(w p:List Nat),(c8 cs w p).Perm p:=by
 intro w
 induction w with
 |nil=>intro p;exact Jy _
 |cons j w ih=>intro p;exact(eU _ _ _).trans (ih p)
theorem gR (cs:List Int)(w v p:List Nat):c8 cs (w ++ v) p=c8 cs w (c8 cs v p):=by
 induction w with
 |nil=>rfl
 |cons j w ih=>exact HV (gE cs j) ih
def dN (p:List Nat):Prop:=p.Perm [0,1,2,3]
theorem dN.nd {p:List Nat}(h:dN p):p.Nodup:=h.nodup_iff.mpr (by decide)
theorem dN.DL {p:List Nat}(h:dN p){x:Nat}:x∈p↔x < 4:=by
 rw [h.mem_iff]
 simp only [Hc,H0,or_false]
 lia
theorem dN.run {p:List Nat}(h:dN p)(cs:List Int)(w:List Nat):dN (c8 cs w p):=(jM cs w p).trans h
theorem xT (cs:List Int){j:Nat}(hj:j < 3){p:List Nat}(hp:dN p){x y:Nat}(hx:x < 4)(hy:y < 4)(Qh:x≠y):kM (gE cs j p) x y=φ1 cs j x y (kM p x y):=by
 delta gE φ1
 rw [uz _ _ hp.nd (hp.DL.mpr hx) (hp.DL.mpr hy) Qh]
 unfold vF
 rw [vX cs hj hx hy,vX cs hj hy hx]
theorem ou (cs:List Int){p:List Nat}(hp:dN p){x y:Nat}(hx:x < 4)(hy:y < 4)(Qh:x≠y):∀w:List Nat,(∀j∈w,j < 3)->kM (c8 cs w p) x y=φW cs w x y (kM p x y):=by
 intro w
 induction w with
 |nil=>intro _;rfl
 |cons j w ih=>
  intro hw
  show kM (gE cs j (c8 cs w p)) x y=_
  simp only [xT cs (hw j f') (hp.run cs w) hx hy Qh,ih λi hi=>hw i (j' _ hi)]
  rfl
theorem run_eq (cs:List Int){p:List Nat}(hp:dN p){w v:List Nat}(hw:∀j∈w,j < 3)(hv:∀j∈v,j < 3)(h:∀x < 4,∀y < 4,x≠y->∀b,φW cs w x y b=φW cs v x y b):c8 cs w p=c8 cs v p:=by
 refine mW ((jM cs w p).trans (jM cs v p).symm) (hp.run cs w).nd λx hx y hy Qh=> ?_
 have hx:=(hp.run cs w).DL.mp hx
 have hy:=(hp.run cs w).DL.mp hy
 simp only [ou cs hp hx hy Qh w hw,ou cs hp hx hy Qh v hv,h x hx y hy Qh]
def j3 (cs:List Int)(w:List Nat)(x y:Nat):Prop:=∀j∈w,cS cs j x=cS cs j y
theorem nB {cs:List Int}{j x y:Nat}{b:Bool}(h:cS cs j x=cS cs j y):φ1 cs j x y b=b:=by
 delta φ1 ltV
 refine h▸?_;simp
theorem uf {cs:List Int}{j x y:Nat}(h:cS cs j x≠cS cs j y)(b b':Bool):φ1 cs j x y b=φ1 cs j x y b':=by
 delta φ1 ltV
 by_cases q:cS cs j x < cS cs j y
 ·rw [HS q];rfl
 ·rw [HS (show cS cs j y < cS cs j x by lia)];rfl
theorem vt {cs:List Int}{x y:Nat}:∀{w:List Nat}(b b':Bool),¬j3 cs w x y->φW cs w x y b=φW cs w x y b':=by
 intro w
 induction w with
 |nil=>intro b b' h;exact absurd (λ_ h=>nomatch h) h
 |cons j w ih=>
  intro b b' h
  by_cases q:cS cs j x=cS cs j y
  ·show φ1 cs j x y (φW cs w x y b)=φ1 cs j x y (φW cs w x y b')
   rw [ih b b' λh2=>h λi hi=> ?_]
   rcases Hc.mp hi with rfl |hi
   ·exact q
   ·exact h2 i hi
  ·exact uf q _ _
theorem qX (cs:List Int)(w v:List Nat)(x y:Nat)(b:Bool):φW cs (w ++ v) x y b=φW cs w x y (φW cs v x y b):=by
 induction w with
 |nil=>rfl
 |cons j w ih=>exact HV (φ1 cs j x y) ih
theorem qc (cs:List Int){p:List Nat}(hp:dN p){w:List Nat}{j:Nat}(hw:∀j∈w,j < 3)(hj:j < 3)(h:∀x < 4,∀y < 4,j3 cs w x y->cS cs j x=cS cs j y):c8 cs (w ++ [j]) p=c8 cs w p:=by
 refine run_eq cs hp (λi hi=> ?_) hw λx hx y hy Qh b=> ?_
 ·rcases HP.mp hi with hi |hi
  ·exact hw i hi
  ·rw [Hm.mp hi];exact hj
 ·rw [qX]
  by_cases q:j3 cs w x y
  ·show φW cs w x y (φ1 cs j x y b)=_
   rw [nB (h x hx y hy q)]
  ·exact vt _ _ q
theorem uw (cs:List Int){p:List Nat}(hp:dN p){w:List Nat}{j:Nat}(hw:∀j∈w,j < 3)(hj:j∈w):c8 cs (w ++ [j]) p=c8 cs w p:=
 qc cs hp hw (hw j hj) λx _ y _ h=>h j hj
theorem Af (cs:List Int)(x y:Nat)(b:Bool):∀w:List Nat,φW cs w x y b=(fW (w.map λj=>cS cs j x) (w.map λj=>cS cs j y) || (!fW (w.map λj=>cS cs j y) (w.map λj=>cS cs j x) && b)):=by
 intro w
 induction w with
 |nil=>rfl
 |cons j w ih=>
  show φ1 cs j x y (φW cs w x y b)=_
  simp only [Hw,kU]
  by_cases q:cS cs j x=cS cs j y
  ·rw [nB q,HE q,HE q.symm,ih]
  ·rw [Hz q,Hz (H3 q)]
   unfold φ1 ltV
   by_cases q2:cS cs j x < cS cs j y
   ·rw [HS q2];rfl
   ·rw [H2 q2,HS (show cS cs j y < cS cs j x by lia)];rfl
theorem jF (cs:List Int){p:List Nat}(hp:dN p)(j:Nat)(w:List Nat):ax cs j (d9 (c8 cs w p))=d9 (c8 cs (j::w) p):=gQ cs j (hp.run cs w).length_eq
theorem pJ:("abcd":Str)=d9 [0,1,2,3]:=by decide+kernel
theorem i9:dN [0,1,2,3]:=Jy _
noncomputable abbrev w3 (e:Nat×Nat×Nat):List Nat:=[e.1,e.2.1,e.2.2]
theorem wj (cs:List Int)(e:Nat×Nat×Nat):g3 cs e=d9 (c8 cs (w3 e) [0,1,2,3]):=by
 unfold g3
 refine pJ▸?_
 simp only [show ax cs e.2.2 (d9 [0,1,2,3])=_ from(jF cs i9 e.2.2 []),(jF cs i9 e.2.1 [e.2.2]),(jF cs i9 e.1 [e.2.1,e.2.2])]
theorem uX (cs:List Int){e:Nat×Nat×Nat}(he:e∈dq):c8 cs (w3 e) [0,1,2,3]=cD cs e:=by
 have Qc:=mr e he
 have hw:∀j∈w3 e,j < 3:=by
  intro j hj
  simp only [Hc,H0,or_false] at hj
  lia
 have T:qD λi j=>fW (eG cs e i) (eG cs e j):=⟨λa b h=>CP.asym _ _ h,λa b c h1 h2=>CP.tr _ _ _ h1 h2⟩
 have hl:=mq T i9.nd
 simp only [<-(jY cs e).2] at hl
 have hp:=kj cs e
 refine mW ((i9.run cs _).trans hp.symm) (i9.run cs _).nd λx hx y hy Qh=> ?_
 simp only [xm hl (pZ T λ_ _=>js) (hp.mem_iff.mpr ((i9.run cs _).mem_iff.mp hx)) (hp.mem_iff.mpr ((i9.run cs _).mem_iff.mp hy)) Qh]
 simp only [ou cs i9 ((i9.run cs _).DL.mp hx) ((i9.run cs _).DL.mp hy) Qh _ hw,Af]
 rfl
theorem ye (cs:List Int):∀e∈dq,g3 cs e=d9 (cD cs e):=λe he=>by simp only [wj,uX cs he]
theorem og {α:Type}{es:List (Str×α)}{x:Str}:(es.any λe=>decide (e.1=x))=true↔x∈es.map (·.1):=by
 rw [K3,Hd]
 exact⟨λzz=>ae zz λe he h=>⟨e,he,of_decide_eq_true h⟩,λzz=>ae zz λe he h=>⟨e,he,HS h⟩⟩
theorem g8 {α:Type}{es:List (Str×α)}{x:Str}{p:α}(h:x∉es.map (·.1)):bp es x p=es ++ [(x,p)]:=by
 unfold bp
 rw [Hz λq=>h (og.mp q)]
theorem jI {α:Type}{es:List (Str×α)}{x:Str}{p:α}(h:x∈es.map (·.1)):(bp es x p).map (·.1)=es.map (·.1):=by
 unfold bp
 rw [HE (og.mpr h),HB]
 refine Ik λe _=> ?_
 simp only [K9]
 split <;> rfl
theorem jW {α:Type}:∀{l es:List (Str×α)},((es ++ l).map (·.1)).Nodup->l.foldl (λd e=>bp d e.1 e.2) es=es ++ l
 |[],es,_=>by simp
 |e::l,es,h=>by
  have h1:e.1∉es.map (·.1):=λq=>by
   rw [HC,Jz] at h
   exact h.2.2 _ q _ f' rfl
  simp only [IJ,g8 h1,jW (l:=l) (es:=es ++ [(e.1,e.2)]) (by rw [IP];exact h),IP]
  rfl
theorem dJ {α:Type}{es:List (Str×α)}(hn:(es.map (·.1)).Nodup){e:Str×α}(he:e∈es):es.lookup e.1=some e.2:=by
 induction es with
 |nil=>exact nomatch he
 |cons a es ih=>
  rw [Hw,HJ] at hn
  rw [Hr]
  rcases Hc.mp he with rfl |he
  ·simp
  ·have:e.1≠a.1:=λq=>hn.1 (q▸Hd.mpr ⟨e,he,rfl⟩)
   refine(HQ this)▸?_
   exact ih hn.2 he
theorem jc {α:Type}{es:List (Str×α)}{x:Str}(h:x∈es.map (·.1)):∃p,es.lookup x=some p:=by
 cases q:es.lookup x with
 |some p=>exact⟨p,rfl⟩
 |none=>
  refine ae (Hd.mp h) λe he P8=> ?_;subst P8
  have:=IK.mp q e he
  simp at this
theorem mK {α:Type}(f:Str->α->Int){x:Str}{p q:α}:∀{es:List (Str×α)},(es.map (·.1)).Nodup->es.lookup x=some q->((bp es x p).map λe=>f e.1 e.2).sum=(es.map λe=>f e.1 e.2).sum - f x q+f x p:=by
 intro es hn hl
 have hm:x∈es.map (·.1):=Hd.mpr ⟨_,aG hl,rfl⟩
 unfold bp
 rw [HE (og.mpr hm)]
 clear hm
 induction es with
 |nil=>cases hl
 |cons e es ih=>
  rw [Hw,HJ] at hn
  rw [Hr] at hl
  simp only [Hw,Iq]
  by_cases h:e.1=x
  ·subst h
   simp only [beq_self_eq_true,My] at hl
   refine hl▸?_
   refine(HE rfl)▸?_
   have UO:∀l:List (Str×α),e.1∉l.map (·.1)->l.map (λe'=>if e'.1=e.1 then(e'.1,p) else e')=l:=by
    intro l
    induction l with
    |nil=>intro _;rfl
    |cons a l ih=>
     intro h
     rw [Hw,Hc,not_or] at h
     rw [Hw,Hz (H3 h.1),ih h.2]
   rw [UO es hn.1]
   show f e.1 p+_=_
   lia
  ·rw [HQ (H3 h)] at hl
   refine(Hz h)▸(ih hn.2 hl)▸?_
   lia
noncomputable def iP (i:Nat) (q:List Int):Int:=q.getD i 0
noncomputable def bf (i:Nat) (G:Str->Int) (es:List (Str×List Int)):Int:=(es.map λe=>iP i e.2*G e.1).sum
theorem DB {q r:List Int}(h:q.length=4)(h':r.length=4)(i:Nat):iP i (J5 (·+·) q r)=iP i q+iP i r:=by
 match q,h,r,h' with
 |[a,b,c,d],_,[a',b',c',d'],_=>
  match i with
  |0=>rfl
  |1=>rfl
  |2=>rfl
  |3=>rfl
  |i+4=>simp [iP]
structure h8 (t:aP):Prop where
 nd:(t.es.map (·.1)).Nodup
 four:∀q∈t.es,q.2.length=4
 a:t.a=bf 0 (λ_=>1) t.es
 b:t.b=bf 1 (λ_=>1) t.es
 c:t.c=bf 2 (λ_=>1) t.es
 d:t.d=bf 3 (λ_=>1) t.es
theorem yn {es:List (Str×List Int)}(hn:(es.map (·.1)).Nodup)(o:Str)(q:List Int):c6 es [(o,q)]=k0 es (o,q):=by
 unfold c6 gW
 simp only [IJ,NL,jW (es:=[]) hn,Lg]
theorem yo {es:List (Str×List Int)}(hn:(es.map (·.1)).Nodup)(h4:∀q∈es,q.2.length=4)(o:Str){q:List Int}(hq:q.length=4)(i:Nat)(G:Str->Int):bf i G (c6 es [(o,q)])=bf i G es+iP i q*G o:=by
 rw [yn hn]
 unfold k0 bW
 cases hl:es.lookup o with
 |some r=>
  show bf i G (bp es o (J5 (·+·) q r))=_
  unfold bf
  rw [mK (λo q=>iP i q*G o) hn hl,DB hq (h4 _ (aG hl)),PR]
  dsimp only
  lia
 |none=>
  have hm:o∉es.map (·.1):=λhm=>by
   obtain⟨p,hp⟩:=jc hm
   replace hp:=hl▸hp;cases hp
  show bf i G (bp es o q)=_
  rw [g8 hm]
  unfold bf
  simp only [HC,Lf]
  simp
theorem Bb {es:List (Str×List Int)}(hn:(es.map (·.1)).Nodup)(o:Str)(q:List Int):((c6 es [(o,q)]).map (·.1)).Nodup/\∀x∈(c6 es [(o,q)]).map (·.1),x∈es.map (·.1)\/x=o:=by
 rw [yn hn]
 unfold k0 bW
 have key:∀r:List Int,((bp es o r).map (·.1)).Nodup/\∀x∈(bp es o r).map (·.1),x∈es.map (·.1)\/x=o:=by
  intro r
  by_cases hm:o∈es.map (·.1)
  ·rw [jI hm]
   exact⟨hn,λx hx=> .inl hx⟩
  ·rw [g8 hm,HC]
   refine⟨Jz.mpr ⟨hn,by simp,λa ha b hb=> ?_⟩,λx hx=> ?_⟩
   ·have:b=o:=by simpa using hb
    refine this▸?_
    exact λe=>hm (e▸ha)
   ·rcases HP.mp hx with hx |hx
    ·exact .inl hx
    ·exact .inr (by simpa using hx)
 split
 ·exact key _
 ·exact key _
theorem h8.zero:h8 eD:=⟨LC,(λ_ h=>nomatch h),rfl,rfl,rfl,rfl⟩
theorem h8.add {b:aP}(h:h8 b)(cs:List Int)(o g:Str)(j:Nat):h8 (b.add (a5 cs o g j)):=by
 have hq:(bz cs o g j).length=4:=rfl
 have hs:=λi G=>yo h.nd h.four o hq i G
 refine⟨(Bb h.nd o _).1,me h.four λq hq=>by rw [Hm.mp hq];rfl,?_,?_,?_,?_⟩
 ·show (a5 cs o g j).a+b.a=bf 0 _ (c6 b.es [(o,bz cs o g j)])
  simp only [hs,h.a,J0,Nm]
  rfl
 ·show (a5 cs o g j).b+b.b=bf 1 _ (c6 b.es [(o,bz cs o g j)])
  simp only [hs,h.b,J0,Nm]
  rfl
 ·show (a5 cs o g j).c+b.c=bf 2 _ (c6 b.es [(o,bz cs o g j)])
  simp only [hs,h.c,J0,Nm]
  rfl
 ·show (a5 cs o g j).d+b.d=bf 3 _ (c6 b.es [(o,bz cs o g j)])
  simp only [hs,h.d,J0,Nm]
  rfl
noncomputable def et (i:Nat) (G:Str->Str->Int) (bk:List (Str×aP)):Int:=(bk.map λe=>bf i (G e.1) e.2.es).sum
structure Bk (S:LS):Prop where
 keys:S.book.map (·.1)=S.line
 perm:S.known.Perm S.line
 nd:S.line.Nodup
 ent:∀e∈S.book,h8 e.2
 call:∀e∈S.book,∀q∈e.2.es,q.1∈S.line
theorem Bk.zero:Bk LS.zero:=⟨rfl,Jy _,HJ.mpr ⟨(λh=>nomatch h),LC⟩,by
 intro e he
 rw [Hm.mp he]
 exact h8.zero,by
 intro e he
 rw [Hm.mp he]
 exact λ_ h=>nomatch h⟩
theorem Bk.new {S:LS}(h:Bk S)(g:Str):Bk (S.new g)/\g∈(S.new g).line/\(∃r,(S.new g).line=S.line ++ r)/\∀i G,et i G (S.new g).book=et i G S.book:=by
 unfold LS.new
 split
 ·rename_i q
  exact⟨h,h.perm.mem_iff.mp q,⟨[],by simp⟩,λ_ _=>rfl⟩
 ·rename_i q
  have q':g∉S.line:=λx=>q (h.perm.mem_iff.mpr x)
  have hb:bp S.book g eD=S.book ++ [(g,eD)]:=g8 (by rw [h.keys];exact q')
  refine⟨⟨?_,((cW dA true S.known g).trans (h.perm.cons g)).trans (KC (l₁:=[g])),?_,?_,?_⟩,by simp,⟨[g],rfl⟩,λi G=> ?_⟩
  ·show (bp S.book g eD).map (·.1)=S.line ++ [g]
   simp only [hb,HC,h.keys];rfl
  ·show (S.line ++ [g]).Nodup
   refine Jz.mpr ⟨h.nd,by simp,λa ha b hb=> ?_⟩
   rw [Hm.mp hb]
   exact λe=>q' (e▸ha)
  ·show ∀e∈bp S.book g eD,h8 e.2
   rw [hb]
   intro e he
   rcases HP.mp he with he |he
   ·exact h.ent e he
   ·rw [Hm.mp he];exact h8.zero
  ·show ∀e∈bp S.book g eD,∀q∈e.2.es,q.1∈S.line ++ [g]
   rw [hb]
   intro e he q hq
   rcases HP.mp he with he |he
   ·exact HW _ (h.call e he q hq)
   ·simp only [Hm.mp he] at hq;exact nomatch hq
  ·show et i G (bp S.book g eD)=_
   rw [hb]
   unfold et
   simp only [HC,Lf]
   simp [eD,bf]
theorem Bk.lk {S:LS}(h:Bk S){g:Str}(hg:g∈S.line):S.book.lookup g=some (bY S g)/\h8 (bY S g):=by
 rw [<-h.keys] at hg
 refine cA (jc hg) λb hb=> ?_
 have:bY S g=b:=by unfold bY;rw [hb];rfl
 refine this▸?_
 exact⟨hb,h.ent _ (aG hb)⟩
theorem Bk.add {S:LS}(h:Bk S)(cs:List Int){o:Str}(ho:o∈S.line)(g:Str)(j:Nat):Bk (S.add cs o g j)/\g∈(S.add cs o g j).line/\(∃r,(S.add cs o g j).line=S.line ++ r)/\∀i G,et i G (S.add cs o g j).book=et i G S.book+iP i (bz cs o g j)*G g o:=by
 refine lZ (h.new g) λh1 hg z2 hs=> ?_;refine cA z2 λr hr=> ?_
 have hb:=(h1.lk hg)
 have VA:(S.add cs o g j).book=bp (S.new g).book g ((bY (S.new g) g).add (a5 cs o g j)):=rfl
 refine⟨⟨?_,h1.perm,h1.nd,?_,?_⟩,hg,⟨r,hr⟩,λi G=> ?_⟩
 ·rw [VA,jI (by rw [h1.keys];exact hg)];exact h1.keys
 ·rw [VA]
  exact e8 (P:=λb=>h8 b) h1.ent (hb.2.add cs o g j)
 ·rw [VA]
  show ∀e∈bp (S.new g).book g ((bY (S.new g) g).add (a5 cs o g j)),∀q∈e.2.es,q.1∈(S.new g).line
  refine e8 (P:=λ(b:aP)=>∀q∈b.es,q.1∈(S.new g).line) h1.call λq hq=> ?_
  rcases(Bb hb.2.nd o (bz cs o g j)).2 q.1 (Hd.mpr ⟨q,hq,rfl⟩) with hx |hx
  ·refine ae (Hd.mp hx) λq' Y1 e=> ?_
   refine e▸?_
   exact h1.call _ (aG hb.1) q' Y1
  ·rw [hx];exact(by rw [hr];exact HW _ ho)
 ·rw [VA]
  unfold et
  rw [mK (λx (b:aP)=>bf i (G x) b.es) (by rw [h1.keys];exact h1.nd) hb.1]
  have e1:bf i (G g) ((bY (S.new g) g).add (a5 cs o g j)).es=bf i (G g) (bY (S.new g) g).es+iP i (bz cs o g j)*G g o:=yo hb.2.nd hb.2.four o rfl i (G g)
  have e2:=hs i G
  unfold et at e2
  simp only [e1,e2]
  lia
noncomputable def vc (cs:List Int) (i:Nat) (G:Str->Str->Int) (o:Str):Int:=((Hg 3).map λj=>iP i (bz cs o (ax cs j o) j)*G (ax cs j o) o).sum
theorem Bk.at {S:LS}(h:Bk S)(cs:List Int){o:Str}(ho:o∈S.line):∀n,Bk (S.at cs o n)/\(∀j < n,ax cs j o∈(S.at cs o n).line)/\(∃r,(S.at cs o n).line=S.line ++ r)/\(∀i G,et i G (S.at cs o n).book=et i G S.book+((Hg n).map λj=>iP i (bz cs o (ax cs j o) j)*G (ax cs j o) o).sum)/\(S.at cs o n).steps=bp S.steps o (kY cs o):=by
 intro n
 induction n with
 |zero=>
  refine⟨⟨h.keys,h.perm,h.nd,h.ent,h.call⟩,(λ_ h=>absurd h (OQ _)),⟨[],(Jc _).symm⟩,λi G=>(Ml _).symm,rfl⟩
 |succ n ih=>
  rw [LS.jD]
  refine DC ih λi1 i2 z2 i4 i5=> ?_;refine cA z2 λr hr=> ?_
  refine lZ (i1.add cs (o:=o) (by rw [hr];exact HW _ ho) (ax cs n o) n) λj1 j2 z2 j4=> ?_;refine cA z2 λr' XG=> ?_
  refine⟨j1,λj hj=> ?_,⟨r ++ r',by simp only [XG,hr,IP]⟩,λi G=> ?_,?_⟩
  ·by_cases q:j=n
   ·rw [q];exact j2
   ·rw [XG];exact HW _ (i2 j (by lia))
  ·simp only [j4,i4,JV,HC,Lf]
   simp only [Hw,IU,Iq,Nn]
   lia
  ·rw [LS.nE];exact i5
structure Sk (cs:List Int)(k:Nat)(S:LS):Prop where
 bk:Bk S
 z:("abcd":Str)∈S.line
 clo:∀o∈S.line.take k,∀j < 3,ax cs j o∈S.line
 Aa:∀o∈S.line.take k,S.steps.lookup o=some (kY cs o)
 sum:∀i G,et i G S.book=((S.line.take k).map (vc cs i G)).sum
theorem Sk.oU (cs:List Int):∀k,Sk cs k (cR cs k):=by
 intro k
 induction k with
 |zero=>exact⟨Bk.zero,Hm.mpr rfl,(λ_ h=>nomatch h),(λ_ h=>nomatch h),λi G=>rfl⟩
 |succ k ih=>
  show Sk cs (k+1) ((cK (cR cs k) k).foldl (LS.ord cs) (cR cs k))
  generalize cR cs k=S at ih
  have Qz:S.line.take (k+1)=S.line.take k ++ cK S k:=by
   unfold cK
   have:=Jr k (S.line.take (k+1))
   rw [List.take_take,JW (Jg k)] at this
   exact this.symm
  have hle:=lV S k
  cases hn:cK S k with
  |nil=>
   rw [hn,Jc] at Qz
   exact⟨ih.bk,ih.z,λo ho=>ih.clo o (Qz▸ho),λo ho=>ih.Aa o (Qz▸ho),λi G=>by simp only [NL,Qz];exact ih.sum i G⟩
  |cons o rest=>
   have YU:rest=[]:=by
    simp only [hn,HK] at hle
    exact L5 (by lia)
   subst YU
   rw [hn] at Qz
   show Sk cs (k+1) (S.at cs o 3)
   refine DC (ih.bk.at cs (jO (by rw [hn];exact f')) 3) λi1 i2 z2 i4 i5=> ?_;refine cA z2 λr hr=> ?_
   have RX:k+1<=S.line.length:=by
    have h1:=HV NB Qz
    simp only [IG,HT,Nv] at h1
    grind -splitIndPred
   have Xe:(S.at cs o 3).line.take (k+1)=S.line.take k ++ [o]:=by rw [hr,L3 RX,Qz]
   refine⟨i1,by rw [hr];exact HW _ ih.z,λx hx j hj=> ?_,λx hx=> ?_,λi G=> ?_⟩
   ·rw [Xe] at hx
    rcases HP.mp hx with hx |hx
    ·rw [hr];exact HW _ (ih.clo x hx j hj)
    ·rw [Hm.mp hx];exact i2 j hj
   ·rw [Xe] at hx
    rw [i5]
    by_cases q:x=o
    ·refine q▸?_;exact fv
    ·rw [iU q]
     rcases HP.mp hx with hx |hx
     ·exact ih.Aa x hx
     ·exact absurd (Hm.mp hx) q
   ·simp only [Xe,i4,ih.sum,HC,Lf]
    simp only [Hw,IU,Iq,Nn,Ml]
    rfl
theorem gi {α:Type} [DecidableEq α](f:α->Int){x:α}:∀{l:List α},l.Nodup->x∈l->(l.map λo=>if o=x then f o else 0).sum=f x:=by
 intro l hn hx
 induction l with
 |nil=>exact nomatch hx
 |cons a l ih=>
  obtain⟨h1,h2⟩:=HJ.mp hn
  simp only [Hw,Iq]
  have hz:∀l:List α,x∉l->(l.map λo=>if o=x then f o else 0).sum=0:=by
   intro l
   induction l with
   |nil=>intro _;rfl
   |cons b l ih=>
    intro h
    rw [Hc,not_or] at h
    rw [Hw,Iq,Hz (H3 h.1),ih h.2];rfl
  by_cases q:a=x
  ·subst q
   rw [HE rfl,hz l h1,Ml]
  ·rw [Hz q,ih h2 ((Hc.mp hx).resolve_left (H3 q)),Kw]
theorem a9 {α:Type}{f g:α->Int}{l:List α}(h:∀a∈l,f a=g a):(l.map f).sum=(l.map g).sum:=by rw [Ik h]
noncomputable abbrev LE (cs:List Int):LS:=cR cs 24
theorem qO (cs:List Int):(LE cs).line.take 24=(LE cs).line:=H9 (lq cs 24)
theorem iM (cs:List Int):Bk (LE cs):=(Sk.oU cs 24).bk
theorem rP (cs:List Int)(i:Nat)(G:Str->Str->Int):et i G (LE cs).book=((LE cs).line.map (vc cs i G)).sum:=by
 have:=(Sk.oU cs 24).sum i G
 rw [qO] at this
 exact this
theorem entry_sum (cs:List Int)(i:Nat)(H:Str->Int){g:Str}(hg:g∈(LE cs).line):bf i H (bY (LE cs) g).es=((LE cs).line.map λo=>((Hg 3).map λj=>iP i (bz cs o (ax cs j o) j)*(if ax cs j o=g then H o else 0)).sum).sum:=by
 have h:=rP cs i λx y=>if x=g then H y else 0
 have B:=iM cs
 generalize LE cs=S at *
 refine Eq.trans ?_ h
 unfold et
 have e1:∀e:Str×aP,bf i (λy=>if e.1=g then H y else 0) e.2.es=if e.1=g then bf i H e.2.es else 0:=λe=>by
  by_cases q:e.1=g
  ·simp only [HE q]
  ·simp only [Hz q]
   unfold bf
   simp only [J6]
   induction e.2.es with
   |nil=>rfl
   |cons a l ih=>simp only [Hw,Iq,ih];rfl
 refine(a9 (λe _=>e1 e))▸?_
 have e2:(S.book.map λe=>if e.1=g then bf i H e.2.es else 0).sum=(S.line.map λx=>if x=g then bf i H (bY S x).es else 0).sum:=by
  simp only [<-B.keys,HB]
  refine a9 λe he=> ?_
  show _=if e.1=g then bf i H (bY S e.1).es else 0
  have:bY S e.1=e.2:=by
   unfold bY
   rw [dJ (by rw [B.keys];exact B.nd) he];rfl
  rw [this]
 simp only [e2,gi (λx=>bf i H (bY S x).es) B.nd hg]
theorem lI {es:List (Str×List Int)}(hn:(es.map (·.1)).Nodup)(i:Nat)(o:Str):bf i (λy=>if y=o then 1 else 0) es=iP i ((es.lookup o).getD []):=by
 unfold bf
 induction es with
 |nil=>rfl
 |cons e es ih=>
  rw [Hw,HJ] at hn
  rw [Hw,Iq,Hr,ih hn.2]
  by_cases q:e.1=o
  ·refine q▸?_
   have:es.lookup e.1=none:=IK.mpr λx hx=>by
    simp only [bne_iff_ne,ne_eq,beq_eq_false_iff_ne]
    intro h
    exact hn.1 (Hd.mpr ⟨x,hx,h.symm⟩)
   refine this▸?_
   simp [iP]
  ·show iP i e.2*(if e.1=o then 1 else 0)+_=_
   simp only [Hz q,HQ (H3 q),J6,Kw]
theorem xN (f:Str->Option (List Int))(i:Nat)(l:List Str):(((l.filter λg=>(f g).isSome).map λg=>(f g).getD []).map λq=>q.getD i 0).sum=(l.map λg=>iP i ((f g).getD [])).sum:=by
 rw [HB]
 induction l with
 |nil=>rfl
 |cons g l ih=>
  simp only [Jw,Hw,Iq,<-ih]
  cases q:f g with
  |none=>
   rw [Hz (by simp)]
   show _=iP i []+_
   simp [iP]
  |some r=>
   rw [HE (by rfl),Hw,Iq]
   simp only [K9,q]
   rfl
theorem qp (cs:List Int)(i:Nat){o:Str}(ho:o∈(LE cs).line):fM i (cu (LE cs) o)=((Hg 3).map λj=>iP i (bz cs o (ax cs j o) j)).sum:=by
 have B:=iM cs
 have h:=rP cs i λ_ y=>if y=o then 1 else 0
 generalize LE cs=S at *
 have e0:fM i (cu S o)=(S.line.map λg=>iP i (((bY S g).es.lookup o).getD [])).sum:=xN (λg=>(bY S g).es.lookup o) i _
 have e1:et i (λ_ y=>if y=o then 1 else 0) S.book=(S.line.map λg=>iP i (((bY S g).es.lookup o).getD [])).sum:=by
  unfold et
  simp only [<-B.keys,HB]
  refine a9 λe he=> ?_
  have:bY S e.1=e.2:=by
   unfold bY
   rw [dJ (by rw [B.keys];exact B.nd) he];rfl
  show _=iP i (((bY S e.1).es.lookup o).getD [])
  rw [this]
  exact lI (B.ent e he).nd i o
 simp only [e0,<-e1,h]
 have e2:∀x,vc cs i (λ_ y=>if y=o then 1 else 0) x=if x=o then((Hg 3).map λj=>iP i (bz cs x (ax cs j x) j)).sum else 0:=λx=>by
  unfold vc
  by_cases q:x=o
  ·simp only [HE q,J0]
  ·simp only [Hz q,J6]
   rfl
 rw [a9 λx _=>e2 x,gi (λx=>((Hg 3).map λj=>iP i (bz cs x (ax cs j x) j)).sum) B.nd ho]
theorem three (f:Nat->Int):((Hg 3).map f).sum=f 0+(f 1+(f 2+0)):=rfl
theorem qa (cs:List Int):wJ cs 0+(wJ cs 1+(wJ cs 2+0))=aM cs:=by
 simp only [tM cs 0 (by decide),tM cs 1 (by decide),tM cs 2 (by decide),ud]
theorem uG (cs:List Int){g:Str}(hg:g∈(LE cs).line){q:Str×List Int}(hq:q∈(bY (LE cs) g).es):iP 2 q.2=((Hg 3).map λj=>wJ cs j*(if ax cs j q.1=g then 1 else 0)).sum:=by
 have B:=iM cs
 have hk:=B.lk hg
 have hqo:q.1∈(LE cs).line:=B.call _ (aG hk.1) q hq
 have h1:=lI hk.2.nd 2 q.1
 rw [dJ hk.2.nd hq,entry_sum cs 2 _ hg] at h1
 refine h1.symm.trans ?_
 have e2:∀x:Str,((Hg 3).map λj=>iP 2 (bz cs x (ax cs j x) j)*(if ax cs j x=g then(if x=q.1 then 1 else 0) else 0)).sum=if x=q.1 then((Hg 3).map λj=>wJ cs j*(if ax cs j x=g then 1 else 0)).sum else 0:=λx=>by
  by_cases e:x=q.1
  ·simp only [HE e];rfl
  ·simp only [Hz e]
   simp only [three]
   simp
 rw [a9 λx _=>e2 x,gi (λx=>((Hg 3).map λj=>wJ cs j*(if ax cs j x=g then 1 else 0)).sum) B.nd hqo]
theorem sk (cs:List Int):dj cs (LE cs):=by
 have K:=Sk.oU cs 24
 have B:=iM cs
 have G:=Good.oU cs 24
 have hl:(LE cs).line.length<=24:=lq cs 24
 have QQ:∀e∈(LE cs).book,e.1∈(LE cs).line/\bY (LE cs) e.1=e.2:=λe he=>⟨by rw [<-B.keys];exact Hd.mpr ⟨e,he,rfl⟩,by
  unfold bY
  rw [dJ (by rw [B.keys];exact B.nd) he];rfl⟩
 have RJ:∀(i:Nat) (o:Str),bf i (λ_=>1) (bY (LE cs) o).es=fM i (dv (LE cs) o):=λi o=>by
  unfold bf fM pz dv
  rw [HB]
  exact a9 λe _=>J0 _
 refine⟨λo ho=>⟨_,(B.lk ho).1⟩,λe he=>⟨?_,(B.ent e he).four⟩,λo ho=>K.Aa o (by rw [qO];exact ho),by lia,K.z,λo ho=>K.clo o (by rw [qO];exact ho),λe he q hq=> ?_,λo ho=> ?_,λo ho=> ?_,λo ho=>⟨?_,?_⟩,λo ho=>⟨?_,?_,?_⟩⟩
 ·have:=ed (L:=(LE cs).line) (B.ent e he).nd λx hx=>by
   refine ae (Hd.mp hx) λq hq P8=> ?_;subst P8
   exact B.call e he q hq
  rw [Hb] at this
  lia
 ·obtain⟨h1,h2⟩:=QQ e he
  have:=uG cs h1 (q:=q) (by rw [h2];exact hq)
  simp only [three] at this
  show (iP 2 q.2).natAbs < 2 ^ 60
  rw [this]
  exact qm (gc (ry (kf cs (by decide))) (gc (ry (kf cs (by decide))) (gc (ry (kf cs (by decide))) (Hk 0)))) rfl
 ·rw [qp cs 1 ho];rfl
 ·rw [qp cs 2 ho]
  exact qa cs
 ·rw [(B.lk ho).2.a,entry_sum cs 0 _ ho]
  have e2:∀x:Str,((Hg 3).map λj=>iP 0 (bz cs x (ax cs j x) j)*(if ax cs j x=o then(1:Int) else 0)).sum=if x=o then(((kY cs x).countP (·==x):Nat):Int) else 0:=λx=>by
   have a0:∀j,iP 0 (bz cs x (ax cs j x) j)=if ax cs j x=x then 1 else 0:=λ_=>rfl
   simp only [three,a0]
   by_cases e:x=o
   ·refine e▸?_
    rw [HE rfl]
    show _=(((([ax cs 0 x,ax cs 1 x,ax cs 2 x]:List Str).countP (·==x)):Nat):Int)
    simp only [JL,OW,beq_iff_eq]
    split <;> split <;> split <;> rfl
   ·rw [Hz e]
    have:∀y:Str,(if y=x then(1:Int) else 0)*(if y=o then 1 else 0)=0:=λy=>by
     by_cases q:y=x
     ·rw [Hz (λq2=>e (q.symm.trans q2)),J6]
     ·rw [Hz q,Oo]
    simp only [this];rfl
  rw [a9 λx _=>e2 x,gi (λx=>(((kY cs x).countP (·==x):Nat):Int)) B.nd ho]
 ·rw [(B.lk ho).2.a];exact RJ 0 o
 ·rw [(B.lk ho).2.b];exact RJ 1 o
 ·rw [(B.lk ho).2.c];exact RJ 2 o
 ·rw [(B.lk ho).2.d];exact RJ 3 o
theorem zv (cs:List Int):∀g∈(LE cs).line,∀e∈(bY (LE cs) g).es,e.1∈(LE cs).line:=λg hg e he=>(iM cs).call _ (aG ((iM cs).lk hg).1) e he
noncomputable def dS (H:Str->Int) (d:List (Str×Int)):Int:=(d.map λe=>e.2*H e.1).sum
theorem CV {d:List (Str×Int)}(hn:(d.map (·.1)).Nodup)(x:Str)(p:Int):((cH d [(x,p)]).map (·.1)).Nodup/\(∀y∈(cH d [(x,p)]).map (·.1),y∈d.map (·.1)\/y=x)/\∀H,dS H (cH d [(x,p)])=dS H d+p*H x:=by
 have e0:cH d [(x,p)]=qN d (x,p):=by
  delta cH gW
  simp only [IJ,NL,jW (es:=[]) hn,Lg]
 refine e0▸?_
 simp only [qN,bW]
 cases hl:d.lookup x with
 |some r=>
  rw [jI (Hd.mpr ⟨_,aG hl,rfl⟩)]
  refine⟨hn,λy hy=> .inl hy,λH=> ?_⟩
  unfold dS
  simp only [mK (λx (p:Int)=>p*H x) hn hl,PR]
  lia
 |none=>
  have hm:x∉d.map (·.1):=λhm=>by
   obtain⟨p,hp⟩:=jc hm
   replace hp:=hl▸hp;cases hp
  refine(g8 hm)▸HC▸?_
  refine⟨Jz.mpr ⟨hn,by simp,λa ha b hb=> ?_⟩,λy hy=> ?_,λH=> ?_⟩
  ·have:b=x:=by simpa using hb
   refine this▸?_
   exact λe=>hm (e▸ha)
  ·rcases HP.mp hy with hy |hy
   ·exact .inl hy
   ·exact .inr (by simpa using hy)
  ·unfold dS
   simp
theorem zY (x:Nat×Nat×Nat->Str)(w:Nat×Nat×Nat->Int):∀(l:List (Nat×Nat×Nat))(d:List (Str×Int)),(d.map (·.1)).Nodup->
 ((l.foldl (λd e=>cH d [(x e,w e)]) d).map (·.1)).Nodup/\(∀y∈(l.foldl (λd e=>cH d [(x e,w e)]) d).map (·.1),y∈d.map (·.1)\/∃e∈l,y=x e)/\∀H,dS H (l.foldl (λd e=>cH d [(x e,w e)]) d)=dS H d+(l.map λe=>w e*H (x e)).sum:=by
 intro l
 induction l with
 |nil=>intro d hn;exact⟨hn,λy hy=> .inl hy,λH=>(Ml _).symm⟩
 |cons e l ih=>
  intro d hn
  refine cZ (CV hn (x e) (w e)) λh1 h2 h3=> ?_
  refine⟨(ih (cH d [(x e,w e)]) h1).1,λy hy=> ?_,λH=> ?_⟩
  ·rcases(ih (cH d [(x e,w e)]) h1).2.1 y hy with q |⟨e',R0,q⟩
   ·rcases h2 y q with q |q
    ·exact .inl q
    ·exact .inr ⟨e,f',q⟩
   ·exact .inr ⟨e',j' _ R0,q⟩
  ·simp only [IJ,(ih (cH d [(x e,w e)]) h1).2.2,h3,Hw,Iq]
   lia
theorem zj (cs:List Int):((bB cs 6).map (·.1)).Nodup/\(∀y∈(bB cs 6).map (·.1),∃e∈dq,y=g3 cs e)/\∀H,dS H (bB cs 6)=(dq.map λe=>b8 cs e*H (g3 cs e)).sum:=by
 refine cZ (zY (g3 cs) (b8 cs) dq [] LC) λh1 h2 h3=> ?_
 have e0:bB cs 6=dq.foldl (λd e=>cH d [(g3 cs e,b8 cs e)]) []:=rfl
 refine e0▸?_
 refine⟨h1,λy hy=> ?_,λH=> ?_⟩
 ·rcases h2 y hy with q |q
  ·exact nomatch q
  ·exact q
 ·rw [h3]
  exact Kw _
theorem zB {d:List (Str×Int)}(hn:(d.map (·.1)).Nodup)(g:Str):(d.lookup g).getD 0=dS (λy=>if y=g then 1 else 0) d:=by
 simp only [dS]
 induction d with
 |nil=>rfl
 |cons e d ih=>
  rw [Hw,HJ] at hn
  rw [Hw,Iq,Hr,<-ih hn.2]
  show _=e.2*(if e.1=g then 1 else 0)+_
  by_cases q:e.1=g
  ·refine q▸?_
   have:d.lookup e.1=none:=IK.mpr λx hx=>by
    simp only [bne_iff_ne,ne_eq,beq_eq_false_iff_ne]
    intro h
    exact hn.1 (Hd.mpr ⟨x,hx,h.symm⟩)
   refine this▸(HE rfl)▸?_
   simp
  ·simp only [Hz q,HQ (H3 q),J6,Kw]
theorem xG {α:Type}(l:List α):(l.map λ_=>(0:Int)).sum=0:=by
 induction l with
 |nil=>rfl
 |cons a l ih=>simp only [Hw,Iq,ih];rfl
theorem AM (V:Str->Int){l:List Str}(hl:l.Nodup):∀{d:List (Str×Int)},(d.map (·.1)).Nodup->(∀y∈d.map (·.1),y∈l)->(l.map λo=>V o*(d.lookup o).getD 0).sum=dS V d:=by
 intro d
 induction d with
 |nil=>
  intro _ _
  simp_all
  exact xG l
 |cons e d ih=>
  intro hn hs
  rw [Hw,HJ] at hn
  have hx:e.1∈l:=hs e.1 f'
  have VN:d.lookup e.1=none:=IK.mpr λx hx=>by
   simp only [bne_iff_ne,ne_eq,beq_eq_false_iff_ne]
   intro h
   exact hn.1 (Hd.mpr ⟨x,hx,h.symm⟩)
  have e1:∀o:Str,V o*((e::d).lookup o).getD 0=(if o=e.1 then V o*e.2 else 0)+V o*(d.lookup o).getD 0:=λo=>by
   rw [Hr]
   by_cases q:o=e.1
   ·subst q
    rw [HE rfl,VN]
    simp
   ·rw [Hz q,HQ q,Kw]
  rw [a9 λo _=>e1 o]
  have T1:∀l:List Str,(l.map λo=>(if o=e.1 then V o*e.2 else 0)+V o*(d.lookup o).getD 0).sum=(l.map λo=>if o=e.1 then V o*e.2 else 0).sum+(l.map λo=>V o*(d.lookup o).getD 0).sum:=by
   intro l
   induction l with
   |nil=>rfl
   |cons a l ih=>simp only [Hw,Iq,ih];lia
  simp only [T1,(gi (λo=>V o*e.2) hl hx),(ih hn.2 λy hy=>hs y (j' _ hy))]
  unfold dS
  simp only [Hw,Iq,Int.mul_comm]
theorem zA (cs:List Int){p:List Nat}(hp:dN p){a:Nat}{w:List Nat}(v:List Nat)(ha:a < 3)(hw:∀j∈w,j < 3):c8 cs (a::w ++ a::v) p=c8 cs (a::w ++ v) p:=by
 rw [(by simp:a::w ++ a::v=(a::w ++ [a]) ++ v),gR,gR cs (a::w) v,uw cs (hp.run cs v) (λj hj=> ?_) f']
 rcases Hc.mp hj with rfl |hj
 ·exact ha
 ·exact hw j hj
noncomputable def mL (cs:List Int) (w:List Nat):Str:=d9 (c8 cs w [0,1,2,3])
theorem zq (cs:List Int)(j:Nat)(w:List Nat):ax cs j (mL cs w)=mL cs (j::w):=jF cs i9 j w
theorem lW (cs:List Int){a:Nat}{w:List Nat}(v:List Nat)(ha:a < 3)(hw:∀j∈w,j < 3):mL cs (a::w ++ a::v)=mL cs (a::w ++ v):=HV d9 (zA cs i9 v ha hw)
theorem vw (T a b c x1 x2 x3 x4 x5 x6:Int)(h:T=a+(b+(c+0))):
 a*b*(T - b)*(T - c)*(a*x1+(b*x3+(c*x5+0)))+(a*c*(T - c)*(T - b)*(a*x2+(b*x3+(c*x5+0)))+(b*a*(T - a)*(T - c)*(a*x1+(b*x3+(c*x6+0)))+(b*c*(T - c)*(T - a)*(a*x1+(b*x4+(c*x6+0)))+(c*a*(T - a)*(T - b)*(a*x2+(b*x4+(c*x5+0)))+(c*b*(T - b)*(T - a)*(a*x2+(b*x4+(c*x6+0)))+0)))))=
 T*(a*b*(T - b)*(T - c)*x1+(a*c*(T - c)*(T - b)*x2+(b*a*(T - a)*(T - c)*x3+(b*c*(T - c)*(T - a)*x4+(c*a*(T - a)*(T - b)*x5+(c*b*(T - b)*(T - a)*x6+0)))))):=by
 subst h
 grind
theorem oj (p:Prop) [Decidable p](z:Int):(if p then z else 0)=(if p then 1 else 0)*z:=by split <;> simp
theorem qI (a b c x y w z:Int):a*(x*z)+(b*(y*z)+(c*(w*z)+0))=(a*x+(b*y+(c*w+0)))*z:=by grind
theorem zE (cs:List Int):q5 cs (LE cs):=by
 refine cZ (zj cs) λh1 h2 h3=> ?_
 have hT:=qa cs
 constructor
 ·have:=h3 λ_=>1
  unfold dS at this
  simp only [J0] at this
  simp only [this]
  simp only [dq,b8,Hw,IU,Iq,Nn]
  refine hT▸?_
  grind
 ·intro g hg
  have K:=sk cs
  have Sx:∀y∈(bB cs 6).map (·.1),y∈(LE cs).line:=λy hy=>by
   refine ae (h2 y hy) λe he P8=> ?_;simp only [P8]
   have Qc:=mr e he
   exact K.clo _ (K.clo _ (K.clo _ K.z _ Qc.2.2) _ Qc.2.1) _ Qc.1
  have e1:(o7 (LE cs) (bB cs 6) g).sum=bf 2 (λo=>((bB cs 6).lookup o).getD 0) (bY (LE cs) g).es:=rfl
  refine e1▸(entry_sum cs 2 _ hg)▸?_
  have e2:∀o:Str,((Hg 3).map λj=>iP 2 (bz cs o (ax cs j o) j)*(if ax cs j o=g then((bB cs 6).lookup o).getD 0 else 0)).sum=(wJ cs 0*(if ax cs 0 o=g then 1 else 0)+(wJ cs 1*(if ax cs 1 o=g then 1 else 0)+(wJ cs 2*(if ax cs 2 o=g then 1 else 0)+0)))*((bB cs 6).lookup o).getD 0:=λo=>by
   have a2:∀j,iP 2 (bz cs o (ax cs j o) j)=wJ cs j:=λ_=>rfl
   simp only [three,a2]
   generalize ((bB cs 6).lookup o).getD 0=z
   simp only [oj (ax cs 0 o=g) z,oj (ax cs 1 o=g) z,oj (ax cs 2 o=g) z]
   exact qI _ _ _ _ _ _ _
  rw [a9 λo _=>e2 o,AM (λo=>wJ cs 0*(if ax cs 0 o=g then 1 else 0)+(wJ cs 1*(if ax cs 1 o=g then 1 else 0)+(wJ cs 2*(if ax cs 2 o=g then 1 else 0)+0))) (iM cs).nd h1 Sx,h3,zB h1,h3]
  have YH:∀e,g3 cs e=mL cs (w3 e):=wj cs
  have d0:∀v,mL cs (0::0::v)=mL cs (0::v):=λv=>lW cs (w:=[]) v (by decide) (λ_ h=>nomatch h)
  have d1:∀v,mL cs (1::1::v)=mL cs (1::v):=λv=>lW cs (w:=[]) v (by decide) (λ_ h=>nomatch h)
  have d2:∀v,mL cs (2::2::v)=mL cs (2::v):=λv=>lW cs (w:=[]) v (by decide) (λ_ h=>nomatch h)
  have q:∀a b v,a < 3->b < 3->mL cs (a::b::a::v)=mL cs (a::b::v):=λa b v ha hb=>lW cs (w:=[b]) v ha (by intro j hj;rw [Hm.mp hj];exact hb)
  have r:∀a b c,a < 3->b < 3->c < 3->mL cs [a,b,c,a]=mL cs [a,b,c]:=λa b c ha hb hc=>lW cs (w:=[b,c]) [] ha (by
   intro j hj
   rcases Hc.mp hj with rfl |hj
   ·exact hb
   ·rw [Hm.mp hj];exact hc)
  simp only [YH,zq,dq,b8,w3,Hw,IU,Iq,Nn]
  simp only [d0 [1,2],d0 [2,1],d1 [0,2],d1 [2,0],d2 [0,1],d2 [1,0],
   q 1 0 [2] (by decide) (by decide),q 1 2 [0] (by decide) (by decide),q 2 0 [1] (by decide) (by decide),q 2 1 [0] (by decide) (by decide),q 0 1 [2] (by decide) (by decide),q 0 2 [1] (by decide) (by decide),
   r 1 0 2 (by decide) (by decide) (by decide),r 2 0 1 (by decide) (by decide) (by decide),r 0 1 2 (by decide) (by decide) (by decide),r 2 1 0 (by decide) (by decide) (by decide),r 0 2 1 (by decide) (by decide) (by decide),r 1 2 0 (by decide) (by decide) (by decide)]
  generalize (if mL cs [0,1,2]=g then(1:Int) else 0)=x1
  generalize (if mL cs [0,2,1]=g then(1:Int) else 0)=x2
  generalize (if mL cs [1,0,2]=g then(1:Int) else 0)=x3
  generalize (if mL cs [1,2,0]=g then(1:Int) else 0)=x4
  generalize (if mL cs [2,0,1]=g then(1:Int) else 0)=x5
  generalize (if mL cs [2,1,0]=g then(1:Int) else 0)=x6
  generalize aM cs=T at hT ⊢
  generalize wJ cs 0=a at hT ⊢
  generalize wJ cs 1=b at hT ⊢
  generalize wJ cs 2=c at hT ⊢
  exact vw T a b c x1 x2 x3 x4 x5 x6 hT.symm
theorem sum_add {α:Type}(f g:α->Int)(l:List α):(l.map λa=>f a+g a).sum=(l.map f).sum+(l.map g).sum:=by
 induction l with
 |nil=>rfl
 |cons a l ih=>simp only [Hw,Iq,ih];lia
theorem zJ {α:Type}(c:Int)(f:α->Int)(l:List α):(l.map λa=>c*f a).sum=c*(l.map f).sum:=by
 induction l with
 |nil=>exact(J6 c).symm
 |cons a l ih=>simp only [Hw,Iq,ih,Int.mul_add]
noncomputable def yF (cs:List Int) (v:Int) (φ:Str->Int) (o:Str):Int:=wJ cs 0*φ (ax cs 0 o)+wJ cs 1*φ (ax cs 1 o)+wJ cs 2*φ (ax cs 2 o) - v*φ o
theorem vr (cs:List Int)(v:Int)(φ h:Str->Int):((LE cs).line.map λg=>φ g*eE (LE cs) v h g).sum=((LE cs).line.map λo=>yF cs v φ o*h o).sum:=by
 have B:=iM cs
 have hs:=rP cs 2 λx y=>φ x*h y
 generalize LE cs=S at *
 have e0:∀o,vc cs 2 (λx y=>φ x*h y) o=(wJ cs 0*φ (ax cs 0 o)+wJ cs 1*φ (ax cs 1 o)+wJ cs 2*φ (ax cs 2 o))*h o:=λo=>by
  have a2:∀j,iP 2 (bz cs o (ax cs j o) j)=wJ cs j:=λ_=>rfl
  unfold vc
  simp only [three,a2]
  grind
 rw [a9 λo _=>e0 o] at hs
 have e1:et 2 (λx y=>φ x*h y) S.book=(S.line.map λg=>φ g*bf 2 h (bY S g).es).sum:=by
  unfold et
  rw [<-B.keys,HB]
  refine a9 λe he=> ?_
  have:bY S e.1=e.2:=by
   unfold bY
   rw [dJ (by rw [B.keys];exact B.nd) he];rfl
  show _=φ e.1*bf 2 h (bY S e.1).es
  rw [this]
  unfold bf
  rw [<-zJ]
  exact a9 λq _=>by grind
 rw [e1] at hs
 have e2:∀g,φ g*eE S v h g=φ g*bf 2 h (bY S g).es+(-v)*(φ g*h g):=λg=>by
  show φ g*(bf 2 h (bY S g).es - v*h g)=_
  grind
 have e3:∀o,yF cs v φ o*h o=(wJ cs 0*φ (ax cs 0 o)+wJ cs 1*φ (ax cs 1 o)+wJ cs 2*φ (ax cs 2 o))*h o+(-v)*(φ o*h o):=λo=>by
  unfold yF
  grind
 simp only [a9 λg _=>e2 g,a9 λo _=>e3 o,sum_add,hs]
theorem tY (cs:List Int):∀(fs:List (List (Nat×Nat)))(φ h:Str->Int),((LE cs).line.map λg=>φ g*fs.foldl (λh fl=>eE (LE cs) (aJ cs fl) h) h g).sum=((LE cs).line.map λo=>fs.foldr (λfl φ=>yF cs (aJ cs fl) φ) φ o*h o).sum:=by
 intro fs
 induction fs with
 |nil=>intro φ h;rfl
 |cons fl fs ih=>
  intro φ h
  simp only [IJ,ih,vr]
  rfl
noncomputable def Dn (cs:List Int) (v:Int) (ψ:List Nat->Int) (p:List Nat):Int:=wJ cs 0*ψ (gE cs 0 p)+wJ cs 1*ψ (gE cs 1 p)+wJ cs 2*ψ (gE cs 2 p) - v*ψ p
noncomputable abbrev l8 (cs:List Int) (fs:List (List (Nat×Nat))) (ψ:List Nat->Int):List Nat->Int:=fs.foldr (λfl ψ=>Dn cs (aJ cs fl) ψ) ψ
theorem dN.goal {p:List Nat}(h:dN p)(cs:List Int)(j:Nat):dN (gE cs j p):=(eU _ _ _).trans h
theorem AF (cs:List Int)(v:Int){φ:Str->Int}{ψ:List Nat->Int}(h:∀p,dN p->φ (d9 p)=ψ p)(p:List Nat)(hp:dN p):yF cs v φ (d9 p)=Dn cs v ψ p:=by
 unfold yF Dn
 simp only [gQ cs 0 hp.length_eq,gQ cs 1 hp.length_eq,gQ cs 2 hp.length_eq,h _ (hp.goal cs 0),h _ (hp.goal cs 1),h _ (hp.goal cs 2),h _ hp]
theorem yB (cs:List Int)(φ:Str->Int):∀(fs:List (List (Nat×Nat)))(p:List Nat),dN p->fs.foldr (λfl φ=>yF cs (aJ cs fl) φ) φ (d9 p)=l8 cs fs (λp=>φ (d9 p)) p:=by
 intro fs
 induction fs with
 |nil=>intro p _;rfl
 |cons fl fs ih=>
  intro p hp
  exact AF cs _ ih p hp
theorem AQ (cs:List Int)(a b:Int)(ψ:List Nat->Int):Dn cs a (Dn cs b ψ)=Dn cs b (Dn cs a ψ):=by
 funext p
 unfold Dn
 grind
theorem yb (cs:List Int){fs Xu:List (List (Nat×Nat))}(h:fs.Perm Xu)(ψ:List Nat->Int):l8 cs fs ψ=l8 cs Xu ψ:=by
 induction h generalizing ψ with
 |nil=>rfl
 |cons x _ ih=>exact HV (Dn cs (aJ cs x)) (ih ψ)
 |swap x y l=>exact AQ cs _ _ _
 |trans _ _ h1 h2=>exact(h1 ψ).trans (h2 ψ)
theorem t9 (cs:List Int){ψ WD:List Nat->Int}(h:∀p,dN p->ψ p=WD p):∀(fs:List (List (Nat×Nat)))(p:List Nat),dN p->l8 cs fs ψ p=l8 cs fs WD p:=by
 intro fs
 induction fs with
 |nil=>exact h
 |cons fl fs ih=>
  intro p hp
  show Dn cs (aJ cs fl) (l8 cs fs ψ) p=Dn cs (aJ cs fl) (l8 cs fs WD) p
  unfold Dn
  simp only [ih _ (hp.goal cs 0),ih _ (hp.goal cs 1),ih _ (hp.goal cs 2),ih _ hp]
theorem zh (cs:List Int)(a b c:Int)(VI VX VC:List Nat->Int):∀(fs:List (List (Nat×Nat))),l8 cs fs (λp=>a*VI p+b*VX p+c*VC p)=λp=>a*l8 cs fs VI p+b*l8 cs fs VX p+c*l8 cs fs VC p:=by
 intro fs
 induction fs with
 |nil=>rfl
 |cons fl fs ih=>
  show Dn cs (aJ cs fl) (l8 cs fs λp=>a*VI p+b*VX p+c*VC p)=λp=>a*Dn cs (aJ cs fl) (l8 cs fs VI) p+b*Dn cs (aJ cs fl) (l8 cs fs VX) p+c*Dn cs (aJ cs fl) (l8 cs fs VC) p
  simp only [ih]
  funext p
  unfold Dn
  grind
noncomputable def bJ (cs:List Int) (w:List Nat):List (Nat×Nat):=kP.filter λe=>w.all λj=>cS cs j e.1==cS cs j e.2
theorem eO {cs:List Int}{w:List Nat}{e:Nat×Nat}:e∈bJ cs w↔e∈kP/\j3 cs w e.1 e.2:=by
 unfold bJ j3
 rw [HU,HM]
 simp only [beq_iff_eq]
theorem Cs:kP=(Hg 6).map λi=>dI.getD i default:=by decide+kernel
theorem mx (cs:List Int){c:Nat}{w:List Nat}(h:∀j,j∈lA c↔j∈w):bb cs c=bJ cs w:=by
 unfold bb bJ
 simp only [Cs,Nr]
 congr 1
 refine Oq λi _=> ?_
 show (dg cs c (dI.getD i default)==0)=(w.all λj=>cS cs j (dI.getD i default).1==cS cs j (dI.getD i default).2)
 rw [OU,beq_iff_eq,wz,HM]
 simp only [beq_iff_eq,yC]
 exact⟨λq j hj=>q j ((h j).mpr hj),λq j hj=>q j ((h j).mp hj)⟩
theorem wo (cs:List Int):∀c,c < 8->bb cs c∈a6 cs:=by
 intro c
 induction c using Nat.strongRecOn with
 |ind c ih=>
  intro hc
  by_cases h:yr cs c=true
  ·exact Hd.mpr ⟨c,HU.mpr ⟨HN.mpr hc,h⟩,rfl⟩
  ·unfold yr at h
   rw [OI,Bool.not_eq_false',Nx] at h
   refine ae (Hd.mp h) λi hi e=> ?_
   have hi:=HN.mp hi
   refine e▸?_
   exact ih i hi (by lia)
noncomputable def Bc (w:List Nat):Nat:=(if 0∈w then 1 else 0)+((if 1∈w then 2 else 0)+(if 2∈w then 4 else 0))
theorem nj {w:List Nat}(hw:∀j∈w,j < 3):Bc w < 8/\∀j,j∈lA (Bc w)↔j∈w:=by
 have:=(by decide+kernel:∀b0 b1 b2:Bool,((if b0=true then 1 else 0)+((if b1=true then 2 else 0)+(if b2=true then 4 else 0)) < 8)/\∀j,j < 3->(j∈lA ((if b0=true then 1 else 0)+((if b1=true then 2 else 0)+(if b2=true then 4 else 0)))↔[b0,b1,b2].getD j false=true)) (decide (0∈w)) (decide (1∈w)) (decide (2∈w))
 simp only [Iz] at this
 refine⟨this.1,λj=> ?_⟩
 by_cases hj:j < 3
 ·refine(this.2 j hj).trans ?_
  match j,hj with
  |0,_=>exact decide_eq_true_iff
  |1,_=>exact decide_eq_true_iff
  |2,_=>exact decide_eq_true_iff
 ·exact⟨λh=>absurd (HN.mp (HU.mp h).1) hj,λh=>absurd (hw j h) hj⟩
theorem sx (cs:List Int){w:List Nat}(hw:∀j∈w,j < 3):bJ cs w∈a6 cs:=by
 refine(mx cs (nj hw).2)▸?_
 exact wo cs _ (nj hw).1
theorem iB (cs:List Int){w:List Nat}{j:Nat}(hj:j < 3):dw cs (bJ cs w) j=true↔∀x < 4,∀y < 4,j3 cs w x y->cS cs j x=cS cs j y:=by
 unfold dw
 rw [(mx cs λi=>by rw [pA j hj]),HM]
 simp only [Nx,eO]
 constructor
 ·intro h x hx y hy ha
  rcases(by decide+kernel:∀x,x < 4->∀y,y < 4->x=y\/(x,y)∈kP\/(y,x)∈kP) x hx y hy with q |q |q
  ·rw [q]
  ·exact(h (x,y) ⟨q,ha⟩).2 j (Hm.mpr rfl)
  ·exact((h (y,x) ⟨q,λi hi=>(ha i hi).symm⟩).2 j (Hm.mpr rfl)).symm
 ·intro h e he
  have h4:=(by decide+kernel:∀e∈kP,e.1 < 4/\e.2 < 4) e he.1
  refine⟨he.1,λi hi=> ?_⟩
  refine(Hm.mp hi)▸?_
  exact h _ h4.1 _ h4.2 he.2
theorem Dd (cs:List Int)(ψ:List Nat->Int){w:List Nat}(hw:∀j∈w,j < 3){p:List Nat}(hp:dN p):Dn cs (aJ cs (bJ cs w)) (λp=>ψ (c8 cs w p)) p=
 (if dw cs (bJ cs w) 0 then 0 else wJ cs 0)*ψ (c8 cs (w ++ [0]) p)+(if dw cs (bJ cs w) 1 then 0 else wJ cs 1)*ψ (c8 cs (w ++ [1]) p)+(if dw cs (bJ cs w) 2 then 0 else wJ cs 2)*ψ (c8 cs (w ++ [2]) p):=by
 have e:∀j,c8 cs w (gE cs j p)=c8 cs (w ++ [j]) p:=λj=>(gR cs w [j] p).symm
 have d:∀j,j < 3->dw cs (bJ cs w) j=true->c8 cs (w ++ [j]) p=c8 cs w p:=λj hj h=>qc cs hp hw hj ((iB cs hj).mp h)
 unfold Dn aJ
 dsimp only
 simp only [tq,e]
 have d0:=d 0 (by decide)
 have d1:=d 1 (by decide)
 have d2:=d 2 (by decide)
 generalize wJ cs 0=a
 generalize wJ cs 1=b
 generalize wJ cs 2=c
 cases h0:dw cs (bJ cs w) 0 <;> cases h1:dw cs (bJ cs w) 1 <;> cases h2:dw cs (bJ cs w) 2 <;>
  simp only [h0,h1,h2,if_true,if_false,forall_const,Jt,false_implies] at d0 d1 d2 ⊢<;>
  (try rw [d0]) <;> (try rw [d1]) <;> (try rw [d2]) <;> grind
theorem nY (cs:List Int)(ψ:List Nat->Int){w:List Nat}(hw:∀j∈w,j < 3){fs:List (List (Nat×Nat))}(hf:bJ cs w∈fs)(H:∀j,j < 3->dw cs (bJ cs w) j=false->∀p,dN p->l8 cs (fs.erase (bJ cs w)) (λp=>ψ (c8 cs (w ++ [j]) p)) p=0):
 ∀p,dN p->l8 cs fs (λp=>ψ (c8 cs w p)) p=0:=by
 intro p hp
 rw [yb cs ((List.perm_cons_erase hf).trans (KC (l₁:=[bJ cs w])))]
 show l8 cs (fs.erase (bJ cs w) ++ [bJ cs w]) _ p=0
 have e1:∀ψ:List Nat->Int,l8 cs (fs.erase (bJ cs w) ++ [bJ cs w]) ψ=l8 cs (fs.erase (bJ cs w)) (Dn cs (aJ cs (bJ cs w)) ψ):=λψ=>List.foldr_append ..
 rw [e1,t9 cs (λp hp=>Dd cs ψ hw hp) _ p hp,zh]
 have z:∀j,j < 3->(if dw cs (bJ cs w) j=true then 0 else wJ cs j)*l8 cs (fs.erase (bJ cs w)) (λp=>ψ (c8 cs (w ++ [j]) p)) p=0:=λj hj=>by
  cases h:dw cs (bJ cs w) j with
  |true=>rw [HE rfl,Oo]
  |false=>rw [H j hj h p hp,J6]
 show _+_+_=(0:Int)
 simp only [z 0 (by decide),z 1 (by decide),z 2 (by decide)]
 rfl
theorem kill (cs:List Int)(ψ:List Nat->Int):∀(n:Nat)(w:List Nat),(∀j∈w,j < 3)->w.Nodup->3<=w.length+n->∀fs:List (List (Nat×Nat)),(∀f∈a6 cs,(∀e∈f,e∈bJ cs w)->f∈fs)->∀p,dN p->l8 cs fs (λp=>ψ (c8 cs w p)) p=0:=by
 intro n
 induction n with
 |zero=>
  intro w hw hn hl fs VW
  refine nY cs ψ hw (VW _ (sx cs hw) λ_ h=>h) λj hj h=> ?_
  exfalso
  have Wx:j∉w:=λq=>by
   have:=(iB cs hj (w:=w)).mpr λx _ y _ ha=>ha j q
   replace this:=h▸this;cases this
  have:=ed (L:=[0,1,2]) (HJ.mpr ⟨Wx,hn⟩) λx hx=>by
   have:x < 3:=by
    rcases Hc.mp hx with rfl |hx
    ·exact hj
    ·exact hw x hx
   simp only [Hc,H0,or_false]
   lia
  simp only [HK,Ir] at this
  lia
 |succ n ih=>
  intro w hw hn hl fs VW
  refine nY cs ψ hw (VW _ (sx cs hw) λ_ h=>h) λj hj h=> ?_
  have Wx:j∉w:=λq=>by
   have:=(iB cs hj (w:=w)).mpr λx _ y _ ha=>ha j q
   replace this:=h▸this;cases this
  refine ih (w ++ [j]) (λi hi=> ?_) (Jz.mpr ⟨hn,by simp,λa ha b hb=> ?_⟩) (by rw [HT];simp only [HK,Ir];lia) _ λf hf hs=> ?_
  ·rcases HP.mp hi with hi |hi
   ·exact hw i hi
   ·rw [Hm.mp hi];exact hj
  ·rw [Hm.mp hb]
   exact λq=>Wx (q▸ha)
  ·have RD:∀e∈bJ cs (w ++ [j]),e∈bJ cs w:=λe he=>by
    have:=eO.mp he
    exact eO.mpr ⟨this.1,λi hi=>this.2 i (HW _ hi)⟩
   refine(NK λq=> ?_).mpr (VW f hf λe he=>RD e (hs e he))
   have:dw cs (bJ cs w) j=true:=(iB cs hj).mpr λx hx y hy ha=>by
    rcases(by decide+kernel:∀x,x < 4->∀y,y < 4->x=y\/(x,y)∈kP\/(y,x)∈kP) x hx y hy with r |r |r
    ·rw [r]
    ·exact(eO.mp (hs (x,y) (q▸eO.mpr ⟨r,ha⟩))).2 j (Ig _ (Hm.mpr rfl))
    ·exact((eO.mp (hs (y,x) (q▸eO.mpr ⟨r,λi hi=>(ha i hi).symm⟩))).2 j (Ig _ (Hm.mpr rfl))).symm
   replace this:=h▸this;cases this
theorem Ep (cs:List Int)(ψ:List Nat->Int)(fs:List (List (Nat×Nat)))(h:∀f∈a6 cs,f∈fs):∀p,dN p->l8 cs fs ψ p=0:=
 kill cs ψ 3 [] (λ_ h=>nomatch h) LC (by decide) fs λf hf _=>h f hf
theorem uN (cs:List Int)(S:LS):c5 cs S 8=(cL cs).foldl (λh fl=>eE S (aJ cs fl) h) h0:=by
 unfold c5
 rw [H9 (pj cs)]
theorem wN (cs:List Int){S:LS}(B:Bk S)(hz:("abcd":Str)∈S.line)(P:∀φ h:Str->Int,(S.line.map λg=>φ g*(cL cs).foldl (λh fl=>eE S (aJ cs fl) h) h g).sum=(S.line.map λo=>(cL cs).foldr (λfl φ=>yF cs (aJ cs fl) φ) φ o*h o).sum):∀o∈S.line,c5 cs S 8 o=0:=by
 intro g hg
 have hp:=P (λo=>if o=g then 1 else 0) h0
 rw [uN]
 have e1:(S.line.map λx=>(if x=g then 1 else 0)*(cL cs).foldl (λh fl=>eE S (aJ cs fl) h) h0 x).sum=(cL cs).foldl (λh fl=>eE S (aJ cs fl) h) h0 g:=by
  have e2:∀x,(if x=g then(1:Int) else 0)*(cL cs).foldl (λh fl=>eE S (aJ cs fl) h) h0 x=if x=g then(cL cs).foldl (λh fl=>eE S (aJ cs fl) h) h0 x else 0:=λx=>by
   split
   ·exact Int.one_mul _
   ·exact Oo _
  rw [a9 λx _=>e2 x]
  exact gi _ B.nd hg
 rw [e1] at hp
 rw [hp]
 have e3:∀x:Str,(cL cs).foldr (λfl φ=>yF cs (aJ cs fl) φ) (λo=>if o=g then 1 else 0) x*h0 x=if x="abcd" then(cL cs).foldr (λfl φ=>yF cs (aJ cs fl) φ) (λo=>if o=g then 1 else 0) x else 0:=λx=>by
  unfold h0
  simp only [beq_iff_eq]
  split
  ·exact J0 _
  ·exact J6 _
 rw [a9 λx _=>e3 x,gi _ B.nd hz,pJ,(yB cs (λo=>if o=g then 1 else 0) (cL cs) _ i9)]
 exact(Ep cs (λp=>if d9 p=g then 1 else 0) (cL cs) λf hf=>pS.mpr hf) _ i9
theorem rT (cs:List Int):∀o∈(LE cs).line,c5 cs (LE cs) 8 o=0:=wN cs (iM cs) (Sk.oU cs 24).z λφ h=>tY cs (cL cs) φ h
theorem zu (x y:Str):(x ++ y).cps.toList=x.cps.toList ++ y.cps.toList:=by
 show (x.cps ++ y.cps).toList=_
 simp
theorem AX:∀n,n < 27->iJ (((rR.getD n 0).toNat:Nat):Int)=true:=by decide+kernel
theorem u9 (t:Str)(d:Int):∃A B x,(fN t d).cps.toList=A ++ x::B/\A ++ B=t.cps.toList/\((A.length:Nat):Int)=cX t d/\iJ ((x:Nat):Int)=true:=by
 have hlen:t.length=t.cps.toList.length:=rfl
 have h0:=Il d (b:=(t.length:Int)+1) (by lia)
 have h1:=IW d (b:=(t.length:Int)+1) (by omega)
 obtain⟨pl,hp⟩:∃pl:Nat,cX t d=(pl:Int):=⟨(cX t d).toNat,ND.mpr h0⟩
 have QB:pl<=t.cps.toList.length:=by
  have:cX t d=d.fmod ((t.length:Int)+1):=rfl
  omega
 have hn:((d.fdiv 3).fmod 27).toNat < 27:=by
  have h3:=IW (d.fdiv 3) (b:=27) (by decide)
  omega
 refine⟨t.cps.toList.take pl,t.cps.toList.drop pl,(rR.getD ((d.fdiv 3).fmod 27).toNat 0).toNat,?_,Jr _ _,?_,AX _ hn⟩
 ·unfold fN xo
  simp only [zu,hp,nA,jl,iq]
  simp
 ·rw [IG,JW QB];exact hp.symm
theorem oN {L:List Nat}(q:Nat->Bool){α:Type}(f:Nat->α):((Hg L.length).filter λi=>q (L.getD i 0)).map (λi=>f (L.getD i 0))=(L.filter q).map f:=by
 have e:L=(Hg L.length).map λi=>L.getD i 0:=by
  refine List.ext_getElem (by simp) λi h1 h2=> ?_
  simp_all
 conv=>rhs;rw [e,Nr,HB]
 rfl
noncomputable abbrev fh (n f:Nat):List Nat:=(wordAt n f).cps.toList
theorem qJ:∀n,n < 6->∀f,f < 4->∀c∈fh n f,iJ ((c:Nat):Int)=false:=by decide+kernel
noncomputable def qr (c:Nat):Str:=kG zX (Internal.s1 c)
theorem oX:((Hg 6).all λn=>(Hg 4).all λf=>(fh n f).flatMap (λc=>(qr c).cps.toList)==fh n 0)=true:=by rfl
theorem qw:((Hg 6).all λn=>(Hg 4).all λf=>La ((fh n f).map λc=>(qr c).length).sum 100 && La (fh n f).length 2)=true:=by rfl
structure FK (n f:Nat)(d:Int):Prop where
 size:(fN (wordAt n f) d).cps.size<=100
 sum:((fq zX (fN (wordAt n f) d)).map (·.length)).sum<=10000
 word:KX "" (fq zX (fN (wordAt n f) d))=wordAt n 0
 place:∀j:Nat,j < (fN (wordAt n f) d).cps.size->(bX (fN (wordAt n f) d)).getD j false=((j:Int)==cX (wordAt n f) d)
theorem FI {n f:Nat}(hn:n < 6)(hf:f < 4)(d:Int):FK n f d:=by
 have hb:=qJ n hn f hf
 have V0:(fh n f).flatMap (λc=>(qr c).cps.toList)=fh n 0:=LL (HM.mp (HM.mp oX n (HN.mpr hn)) f (HN.mpr hf))
 have hle:=HM.mp (HM.mp qw n (HN.mpr hn)) f (HN.mpr hf)
 simp only [H'] at hle
 have SG:=Hv hle.1
 have TH:=Hv hle.2
 refine gB (u9 (wordAt n f) d) λA B x e1 e2 e3 e4=> ?_
 unfold fh at hb V0 SG TH
 rw [<-e2] at hb V0 SG TH
 have QO:(fN (wordAt n f) d).cps.size=(A ++ x::B).length:=by refine e1▸?_;rfl
 have Ro:∀j,(fN (wordAt n f) d).cps.getD j 0=(A ++ x::B).getD j 0:=λj=>by
  simp only [<-e1,Hl,Array.getElem?_toList,Array.getD_eq_getD_getElem?]
 generalize RT:fN (wordAt n f) d=ty at e1 QO Ro
 have htg:∀j,j < (A ++ x::B).length->(bX ty).getD j false=iJ (((A ++ x::B).getD j 0:Nat):Int):=λj hj=>by
  simp only [(by unfold bX;rw [e1]:bX ty=(A ++ x::B).map λ(c:Nat)=>iJ (c:Int)),Hl,Hy,Hl,Hn hj]
  rfl
 have W8:(A ++ x::B).filter (λc=> !iJ ((c:Nat):Int))=A ++ B:=by
  rw [Mp,Jw,Hz (by simp [e4])]
  rw [NV.mpr λc hc=>by simp [hb c (HW _ hc)],NV.mpr λc hc=>by simp [hb c (Ig _ hc)]]
 have Tn:fq zX ty=(A ++ B).map qr:=by
  refine W8▸(oN (L:=A ++ x::B) (λc=> !iJ ((c:Nat):Int)) qr)▸?_
  unfold fq
  rw [QO,Oq λi hi=>by rw [htg i (HN.mp hi)]]
  exact Ik λi _=>by rw [Ro];rfl
 refine⟨?_,?_,?_,λj hj=> ?_⟩
 ·rw [RT,QO]
  simp only [HT,HK] at TH ⊢
  lia
 ·simp only [RT,Tn,HB]
  exact Hf SG (by decide)
 ·refine lj ?_
  simp only [RT,Be,Tn,HB,<-V0]
  exact List.flatMap_def.symm
 ·rw [RT,QO] at hj
  rw [RT,htg j hj,<-e3,Hl]
  by_cases h:j < A.length
  ·rw [Mw h,Hn h]
   rw [show iJ (((some A[j]).getD 0:Nat):Int)=false from hb _ (HW _ (Jv h))]
   exact(HQ (by omega)).symm
  ·rw [List.getElem?_append_right (by omega)]
   by_cases h2:j=A.length
   ·refine h2▸?_
    rw [Nat.sub_self]
    show iJ ((x:Nat):Int)=_
    rw [e4];simp
   ·obtain⟨k,hk⟩:∃k,j - A.length=k+1:=⟨j - A.length - 1,by lia⟩
    rw [hk,M1]
    have XC:k < B.length:=by
     simp only [HT,HK] at hj
     omega
    rw [Hn XC,show iJ (((some B[k]).getD 0:Nat):Int)=false from hb _ (Ig _ (Jv XC))]
    exact(HQ (by lia)).symm
theorem Bi (cs:List Int):rf zX cs:=by
 have h:=λi=>FI (jq (cs.getD 0 0) i).1 (nz (cs.getD 0 0) i).1 (oy (cs.getD 0 0) i)
 exact⟨λi _=>(h i).size,λi _=>(h i).sum,λi _=>(h i).word,λi _=>(h i).place⟩
theorem facts (cs:List Int)(hc:cs.length=6):Facts zX cs:=
 ⟨hc,Bi cs,λj hj=>yy cs hj,sk cs,(iM cs).nd,zv cs,ye cs,zE cs,rT cs⟩
set_option maxRecDepth 100000
theorem FL:Fh (C1 w vs os):=⟨⟨_,w5,rfl,rfl,rfl,by rfl,rfl⟩,(55,51,"add_callers.<locals>.<genexpr>"),by show _∈mz;simp,rfl,by rfl⟩
theorem y0:oD (C1 w vs os):=⟨(181,179,"law.<locals>.<lambda>"),by show _∈mz;simp,rfl,by rfl⟩
theorem xe {l:List Mm}{fa:He}{fd:Jq}{body:List I9}{args:Args}{binds:List (Str×y')}{q:List (Str×PV)}{Q:y'->Hh->Prop}
 (ok:C.Ok)(F:FnAt C fa fd body)(g:Gd C W s)(Qb:∀x∈own,x.1∈W/\dO C W s.heap x.1 x.2/\x.1∉C.aq)
 (rm:ak A (k+1))(QX:BindsTo s fd args binds)(rep:dz C W s.heap binds q)(nd:(binds.map (·.1)).Nodup)
 (hk:∀x∈binds,fd.scope.names.lookup x.1=some .local\/fd.scope.names.lookup x.1=some .cell)
 (Rq:A.frames=some l)
 (QU:∀L env J,s.heap.objs.size<=L->env.frame=some env.locals->St C (L::W) (mv fd) own (aC q) env J->Bs C (own.map (·.1)) (ik fd) s own env J->∀A',ak A' k->A'.frames=some (env::l)->
  Hi C.M A' (HA body env) (λf Qj=>Q (match f with | .ret v=>v |_=> .none) Qj) (λ_ _=>False) J):
 Hi C.M A (call (.ref fa) args.pos args.kw) Q E s:=by
 refine ae F.obj λo ho hd=> ?_
 refine Nc ?_
 show KD C.M A (.call (.ref fa) args) _ s
 refine LD (Ht (JM (H6 _ _) rm.depth) (by decide)) (g.inv.old _ _ F.fa ho) hd F.co F.gen F.body (g.inv.ot F.code F.noTab) (QX _ _ _ _ ?_)
 refine F.clos▸?_
 have Qt:∀x,fd.scope.names.lookup x=some .cell->((Ie (s.heap.objs.size+1) fd.scope.names []).lookup x).isSome=true:=λx hx=>by
  refine cA (aY (n:=s.heap.objs.size+1) (acc:=[]) (Ij hx)) λc hc=> ?_
  obtain⟨d,hd⟩:=aH hc
  refine hd▸?_;rfl
 refine KU F.kind (λx hx=>(hk x hx).imp id λh=>⟨h,Qt _ h⟩) λenv he J x=> ?_
 subst he
 have X:St C (s.heap.objs.size::W) (mv fd) own (aC q) (KQ fd s.heap.objs.size fa) J:=
  St.enter g Qb rfl F.glob F.blt F.kind nd rep (λx hx=>F.free _ (Ij hx) rfl) Qt x
 have B:Bs C (own.map (·.1)) (ik fd) s own (KQ fd s.heap.objs.size fa) J:=by
  refine⟨(iC (C:=C) x).up,⟨g.inv.beyond (Hk _),.inl (Hk _)⟩,λy c _ _ hc=> ?_,λy hy=>⟨g.new _ (Qb y hy).1,.inr (Hd.mpr ⟨y,hy,rfl⟩)⟩⟩
  have:=bV (Ij hc)
  exact⟨g.inv.beyond (H5 this),.inl (H5 this)⟩
 refine⟨X.inv.nolimit ok,N9 (G' (QU _ _ J (Hk _) rfl X B _ (rm.deeper _) (JR.frames_deeper Rq)) (λf Qj h=>h) λ_ _ q=>q.elim)⟩
theorem tQ {P:He->List Hs->List (Str×y')->Prop}{N:He->Prop}{h:Ho}:∀{vs:List y'}{ns:List Int},IntsAre vs ns->aR P N h vs (ns.map .int)
 |_,[],x=>by cases x;rfl
 |_,n::ns,x=>by
  cases x with
  |cons _ t y=>exact⟨_,_,rfl,⟨t,rfl⟩,tQ y⟩
theorem vg (h:∀ns:List Int,ns.length<=63->Facts zX (cellsOf ns)):tN pw H1 2387 182:=by
 intro w ns vs P5 hn hI hh hg ht
 have hi:Inv (C1 w vs P5.os) P5:=iT hh hg
 have hg0:Gd (C1 w vs P5.os) [] P5:=⟨hi,(λa ha=>by
  rcases ha with ha |ha
  ·exact hi.gm a ha
  ·cases ha),by simp⟩
 have hz:(H1 w.params).objs.size=183:=by rfl
 have hl:P5.heap.get? 183=some (ao vs 0):=by
  rw [hh]
  have:=Hp (H1 w.params) (o:=ao vs 0) rfl
  rw [hz] at this
  exact this
 refine hz▸?_
 have hr:dz (C1 w vs P5.os) [] P5.heap [("script",.ref 183)] [("script",.lst (ns.map .int))]:=
  .cons ⟨183,vs,0,rfl,(λq=>by
   rcases q with q |q
   ·have:¬(183:Nat)∈[51,172,179]:=by decide
    exact this q
   ·cases q),hl,tQ hI⟩ .nil
 refine xe (l:=[]) (k:=100) (own:=[]) (args:=⟨[.ref 183],[]⟩) Gg Ae hg0 (by grind) (⟨rfl,by decide,by decide⟩) (BindsTo.of_eq (by rfl)) hr (by decide) ?_ rfl ?_
 ·intro x hx
  refine(Hm.mp hx)▸?_
  exact .inl (rfl)
 ·intro L env J hL Wm X B A' QM Rq
  refine uK (k:=94) GC GR Fz FL y0 hn (h ns hn) QM X B λW v Qj i _ r=> ?_
  have:=i.oldK
  refine⟨r,?_,i.os,i.gens⟩
  rw [hh]
  exact this
end Mine.Internal
set_option maxRecDepth 100000 in
set_option maxHeartbeats 8000000 in
theorem PySem.Challenge.cw_xh0048_02_holds : PySem.Challenge.rw_xh0048_02.Holds :=
 Mine.Internal.uE (Mine.Internal.As (Mine.Internal.vg λns _=>Mine.Internal.facts _ (Mine.Internal.kz _ _)))
