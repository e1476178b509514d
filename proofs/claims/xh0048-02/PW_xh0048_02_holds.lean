import PyProof.Rows.All
import KE.HeadEqs
import Open.Tops
import Wide.FinOn
import OpenK.AllK
import Wide.All
import Lean
import PySem.Challenge.RW_xh0048_02
set_option Elab.async false
set_option linter.all false
set_option maxHeartbeats 4000000
set_option genSizeOf false
set_option compiler.extract_closed false
set_option hygiene false
open PySem PySem.W PyProof.Rows PySem.Calls
namespace Mine.Internal
abbrev G9:=@List.mem_cons_self
abbrev Ha:=@List.mem_cons_of_mem
abbrev Hb:=@wpAny_mono
abbrev Hc:=@wpAny_bind
abbrev Hd:=@List.length_map
abbrev He:=@List.mem_map
abbrev Hf:=@List.mem_cons
abbrev Hg:=@Nat.le_trans
abbrev Hh:=@Nat.le_refl
abbrev Hi:=@List.mem_singleton
abbrev Hj:=@wpAny_pure
abbrev Hk:=@wpAny_execs_nil
abbrev Hl:=@List.lookup_cons
abbrev Hm:=@List.map_cons
abbrev Hn:=@Nat.lt_of_lt_of_le
abbrev Ho:=@Nat.le_of_ble_eq_true
abbrev Hp:=@Heap.lt_size
abbrev Hq:=@List.map_map
abbrev Hr:=@List.map_append
abbrev Hs:=@Nat.not_lt
abbrev Ht:=@List.nodup_cons
abbrev Hu:=@List.mem_range
abbrev Hv:=@List.length_cons
abbrev Hw:=@List.all_eq_true
abbrev Hx:=@congrArg
abbrev Hy:=@PyProof.noPylong_small
abbrev Hz:=@Nat.le_succ_of_le
abbrev HA:=@List.mem_append
abbrev HB:=@Nat.lt_irrefl
abbrev HC:=@beq_false_of_ne
abbrev HD:=@decide_eq_true
abbrev HE:=@Ne.symm
abbrev HF:=@List.length_append
abbrev HG:=@List.mem_filter
abbrev HH:=@List.not_mem_nil
abbrev HI:=@List.mem_append_left
abbrev HJ:=@decide_eq_false
abbrev HK:=@Nat.zero_le
abbrev HM:=@Nat.le_of_succ_le
abbrev HN:=@Nat.le_add_right
abbrev HO:=@Bool.and_eq_true
abbrev HP:=@wpAny_execs_cons
abbrev HQ:=@List.take_of_length_le
abbrev HR:=@List.pairwise_cons
abbrev HS:=@Bool.false_ne_true
abbrev HT:=@List.mem_append_right
abbrev HU:=@Heap.size_push
abbrev HV:=@wpAny_holding
abbrev HW:=@List.sum_cons
abbrev HX:=@PySem.mem_of_lookup
abbrev HY:=@List.map_congr_left
abbrev HZ:=@Int.fmod_nonneg_of_pos
abbrev H0:=@List.length_nil
abbrev H2:=@Nat.ne_of_lt
abbrev H3:=@Nat.le_of_lt
abbrev H4:=@Heap.SameBut.update
abbrev H5:=@decide_eq_true_eq
abbrev H6:=@List.lookup_append
abbrev H7:=@Option.some.inj
abbrev H8:=@List.length_take
abbrev H9:=@of_decide_eq_true
abbrev Ia:=@List.foldl_cons
abbrev Ib:=@List.map_nil
abbrev Ic:=@List.length_filter_le
abbrev Ie:=@wpAny_newObj_type
abbrev Ig:=@List.size_toArray
abbrev Ih:=@List.lookup_eq_none_iff
abbrev Ii:=@Int.fmod_lt_of_pos
abbrev Ij:=@List.mem_iff_getElem
abbrev Ik:=@of_decide_eq_false
abbrev Il:=@List.take_length
abbrev Im:=@beq_self_eq_true
abbrev Io:=@Nat.lt_succ_self
abbrev Ip:=@beq_iff_eq
abbrev Iq:=@List.append_assoc
abbrev Ir:=@List.length_eq_zero_iff
abbrev It:=@or_false
abbrev Iu:=@wpAny_Call_NameR
abbrev Iv:=@List.pairwise_append
abbrev Iw:=@wpAny_standAt
abbrev Iy:=@Option.map_eq_some_iff
abbrev Iz:=@Nat.le_succ
abbrev IA:=@List.append_nil
abbrev IB:=@List.Pairwise.sublist
abbrev IC:=@Int.natCast_nonneg
abbrev ID:=@PySem.F.plainAttrs_dict
abbrev IE:=@wpAny_Call_method
abbrev IF:=@List.filter_cons
abbrev IG:=@List.getElem_mem
abbrev IH:=@Bool.false_eq_true
abbrev II:=@List.take_append_drop
abbrev IJ:=@List.Perm.refl
abbrev IK:=@List.pairwise_iff_getElem
abbrev IL:=@wpAny_field
abbrev IM:=@List.forIn_cons
abbrev IP:=@List.nodup_append
abbrev IQ:=@Int.toNat_natCast
abbrev IS:=@List.take_add_one
abbrev IT:=@decide_eq_false_iff_not
abbrev IU:=@List.countP_cons
abbrev IV:=@Int.mul_one
abbrev IW:=@Nat.ne_of_gt
abbrev IX:=@Nat.lt_of_le_of_lt
abbrev IY:=@List.range_succ
abbrev IZ:=@PySem.F.slot_dict_get
abbrev I0:=@Nat.min_eq_left
abbrev I1:=@F.slot_tuple_iterator_next
abbrev I3:=@Bool.not_eq_true'
abbrev I4:=@List.getElem_drop
abbrev I5:=@List.length_range
abbrev I6:=@Bool.and_eq_true_iff
abbrev I7:=@Int.zero_add
abbrev I8:=@PySem.F.slot_dict_values
abbrev I9:=@Nat.succ_le_succ
abbrev Ja:=@Option.isSome_iff_exists
abbrev Jb:=@List.length_drop
abbrev Jc:=@wpAny_call_entry
abbrev Jd:=@Nat.sub_lt_sub_left
abbrev Je:=@List.pairwise_singleton
abbrev Jf:=@Nat.blt_eq
abbrev Jg:=@bne_iff_ne
abbrev Jh:=@List.filter_eq_nil_iff
abbrev Ji:=@PySem.F.plainAttrs_str
abbrev Jj:=@List.drop_eq_nil_of_le
abbrev Jk:=@wpAny_Assign_Name
abbrev Jl:=@List.flatten_cons
abbrev Jm:=@List.take_sublist
abbrev Jn:=@wpAny_seqItems
abbrev Jo:=@List.perm_append_comm
abbrev Jp:=@Int.mul_zero
abbrev Jq:=@spliced_cons
abbrev Jr:=@List.idxOf_lt_length_of_mem
abbrev Js:=@decide_eq_decide
abbrev Jt:=@Around.under_plainId
abbrev Ju:=@List.any_eq_true
abbrev Jv:=@wpAny_loadName_local
abbrev Jw:=@Nat.min_le_right
abbrev Jx:=@List.forall_mem_cons
abbrev Jy:=@Bool.true_and
abbrev Jz:=@List.map_take
abbrev JA:=@wpAny_newFunctionEnv_cells
abbrev JB:=@List.not_lt
abbrev JC:=@beq_eq_false_iff_ne
abbrev JD:=@List.drop_eq_getElem_cons
abbrev JE:=@List.sum_append
abbrev JF:=@Nat.le_antisymm
abbrev JG:=@pushCells_keeps
abbrev JH:=@eq_of_beq
abbrev JI:=@Nat.le_of_eq
abbrev JJ:=@wpAny_Call_Name_kw
abbrev JK:=@wpAny_setField_rec
abbrev JL:=@if_false
abbrev JM:=@Array.append_assoc
abbrev JN:=@List.any_map
abbrev JO:=@List.getElem_idxOf
abbrev JP:=@PySem.F.slot_dict_itemiterator_iter
abbrev JQ:=@Subscript_
abbrev JR:=@List.forIn_nil
abbrev JS:=@evalArgs_plain
abbrev JT:=@List.nodup_nil
abbrev JU:=@PySem.F.plainAttrs_list
abbrev JV:=@List.drop_sublist
abbrev JW:=@List.foldl_append
abbrev JX:=@List.getElem_take
abbrev JY:=@spliced_nil
abbrev JZ:=@List.findIdx_le_length
abbrev J0:=@Nat.lt_of_add_right_lt
abbrev J1:=@List.map_id
abbrev J2:=@Bool.false_or
abbrev J3:=@callWith_method0
abbrev J4:=@callWith_method1
abbrev J5:=@List.take_subset
abbrev J6:=@List.map_fst_zip
abbrev J7:=@List.mem_flatMap
abbrev J8:=@Nat.lt_of_sub_eq_succ
abbrev J9:=@codeAny_call_function
abbrev Ka:=@PySem.F.type_str_join
abbrev Kb:=@PySem.F.type_dict_get
abbrev Kc:=@Nat.le_of_sub_eq_zero
abbrev Kd:=@PySem.F.slot_str_join
abbrev Ke:=@List.headD_cons
abbrev Kf:=@Nat.lt_trans
abbrev Kg:=@codeAny_builtin
abbrev Kh:=@Int.add_zero
abbrev Ki:=@List.length_take_le'
abbrev Kj:=@bind_assoc
abbrev Kl:=@call_meetsIn
abbrev Km:=@callWith_function_kw
abbrev Kn:=@Nat.zero_add
abbrev Ko:=@List.eq_nil_of_length_eq_zero
abbrev Kq:=@List.take_append_of_le_length
abbrev Kr:=@wpAny_AugAssign_Subscript_any
abbrev Ks:=@List.mem_map_of_mem
abbrev Kt:=@List.filter_sublist
abbrev Ku:=@List.filterMap_cons
abbrev Kv:=@F.args_tuple_iterator_next_1
abbrev Kw:=@if_true
abbrev Kx:=@List.filter_append
abbrev Ky:=@PyProof.Rows.callWith_type1
abbrev Kz:=@slot_tuple_getitem
abbrev KA:=@PySem.HeadEqs.codeAmongQ_eq
abbrev KC:=@wpAny_pyIter_tuple
abbrev KD:=@F.entry_tuple_iterator_next
abbrev KG:=@List.mem_filterMap
abbrev KH:=@decide_eq_true_iff
abbrev KI:=@List.any_cons
abbrev KJ:=@PySem.F.args_dict_values_1
abbrev KL:=@listUpdate_at
abbrev KN:=@List.map_drop
abbrev KO:=@Sem.wrap_wrap
abbrev KP:=@plainId_quiet
abbrev KQ:=@wpAny_truthy_bool
abbrev KR:=@subscriptTail_ops
abbrev KS:=@List.findIdx_cons
abbrev KU:=@Nat.lt_succ_of_lt
abbrev KW:=@Option.some.injEq
abbrev KX:=@call_meets
abbrev KY:=@wpAny_Name
abbrev KZ:=@Heap.Ns.lt
abbrev K0:=@wpAny_call
abbrev K1:=@wpAny_rule
abbrev K2:=@PySem.F.entry_dict_values
abbrev K3:=@Int.add_comm
abbrev K4:=@not_or
abbrev K5:=@List.perm_middle
abbrev K6:=@Int.ne_of_lt
abbrev K7:=@Nat.min_eq_right
abbrev K8:=@List.sum_nil
abbrev K9:=@List.nodup_range
abbrev La:=@Array.toList_inj
abbrev Lb:=@List.all_map
abbrev Lc:=@List.filter_map
abbrev Ld:=@segRun_of
abbrev Lf:=@Option.map_some
abbrev Lg:=@F.slot_list_ne
abbrev Lh:=@List.drop_zero
abbrev Li:=@List.foldl_nil
abbrev Lj:=@Nat.add_le_add
abbrev Lk:=@Nat.not_le
def dr (s:String):String:=(s.drop 1).toString
def nd (k:String)(a:List Lean.Syntax):Lean.Syntax:= .node .none (if k=="" then `null else((if k.front=='.' then "Lean.Parser" else "") ++ k).toName) a.toArray
def aw (s:String):Lean.Syntax:= .atom .none s
def sq (t:Lean.Syntax):Lean.Syntax:=nd ".Tactic.tacticSeq" [nd ".Tactic.tacticSeq1Indented" [nd "" [t]]]
def kx (s:String):Lean.Syntax:=nd "PySem.W.tacticK_extra_" [aw "k_extra",nd "str" [aw s.quote]]
def tw (k a:String)(t:Lean.Syntax):Lean.Syntax:=nd (".Tactic." ++ k) [aw a,sq t]
def bx (x:String):Lean.Syntax:=nd ".Term.byTactic" [aw "by",sq (kx x)]
def dc (s:String):Lean.Syntax:=((s.splitOn " ").foldr (λx st=>if x.front=='\'' then aw (dr x)::st else if x.front=='=' then Lean.mkIdent (dr x).toName::st else if x.front=='%' then kx (dr x)::st else if x.front=='^' then bx (dr x)::st else let n:=x.front.toNat - 48;nd (dr x) (st.take n)::st.drop n) []).headD .missing
def fu (s:String):Lean.Syntax:=dc ("2.Term.fun 'fun 4.Term.basicFun 2 1.Term.hole '_ 1.Term.hole '_ 0 '=> " ++ s)
def ta (x:String):Lean.Syntax:=if x=="U" then fu "3.Term.anonymousCtor '⟨ 3 1.Term.hole '_ ', =rfl '⟩" else if x=="V" then fu "=rfl" else if x=="h" then nd ".Term.syntheticHole" [aw "?",aw "_"] else if x=="_" then nd ".Term.hole" [aw "_"] else bx x
def te (x:String):Lean.Syntax:=let l:=x.splitOn " ";if l.getD 1 ""=="!" then kx (l.getD 0 "") else nd ".Tactic.refine'" [aw "refine'",(let f:Lean.Syntax:=Lean.mkIdent (l.getD 0 "").toName;if l.length==1 then f else nd ".Term.app" [f,nd "" ((l.drop 1).map ta)])]
def fi (s:String):Lean.Syntax:=nd ".Tactic.first" [aw "first",nd "" ((s.splitOn ";").map λx=>nd "group" [aw "|",sq (te x)])]
def tk (s:String):Lean.MacroM Lean.Syntax:=match ("f#D#2.Tactic.withUnfoldingAll 'with_unfolding_all 1.Tactic.tacticSeq 1.Tactic.tacticSeq1Indented 1 1.Tactic.tacticRfl 'rfl@d#F#q !;z !;k !;v !@q#D#1PyProof.Rows.tacticKernel_rfl! 'kernel_rfl!@z#D#3.Tactic.paren '( 1.Tactic.tacticSeq 1.Tactic.tacticSeq1Indented 3 6.Tactic.dsimp 'dsimp 1.Tactic.optConfig 0 0 1 'only 3 '[ 5 3.Tactic.simpLemma 0 0 =lC ', 3.Tactic.simpLemma 0 0 =ed ', 3.Tactic.simpLemma 0 0 =bE '] 0 '; %k ')@k#D#2.Tactic.decide 'decide 1.Tactic.optConfig 1 1.Tactic.configItem 2.Tactic.posConfigItem '+ =kernel@v#D#1.Tactic.tacticRfl 'rfl@i#D#2.Tactic.repeat' 'repeat' 1.Tactic.tacticSeq 1.Tactic.tacticSeq1Indented 1 %w@L#W#a !;HK _;le_size a A;vS a A;H3 a;Hn a a;IX a a;I7 _@a#D#1.Tactic.assumption 'assumption@A#F#a !;v !@D#D#2.Tactic.decide 'decide 1.Tactic.optConfig 0@l#D#2.Tactic.lia 'lia 1.Tactic.optConfig 0@s#D#6.Tactic.simp 'simp 1.Tactic.optConfig 0 0 0 0 0@K#D#1tacticKernel_rfl 'kernel_rfl@n#F#kD d;oP d n@u#R#le_refl _;xj h n@r#W#wz;fQ;jJ d r;oW d;f !;Dt d r;oP d r;pL d r;a !@rs#F#tI f;R !@R#R#jO;aD r h@1#W#Ev.int;Ev.str;Ev.bool;Ev.none;Ev.var d r;Ev.BV a d f d;Ev.CY a d f d;Ev.bin h h h;Ev.cmp h h h k;Ev.un h h;Tr.cmp h h h h k;Tr.not h;Th.bool;ab.nil;ab.cons h h;bR.nil;bR.cons h h;aj.add;aj.sub;One.neg;aj.ltI;aj.Fg;aj.DM;aj.A5;aj.F1;aj.Fh;aj.dA;aj.eqB;aj.Fx;aj.qp;aj.kW;aj.isNone f;aj.lX;aj.isNotNone f@e#D#2.Tactic.repeat' 'repeat' 1.Tactic.tacticSeq 1.Tactic.tacticSeq1Indented 1 %1@w#W#1 !;trivial;Ev.a6 B h h;Ev.list h h;Ev.tuple h h;GY f;GS l;GJ s;cC.chr D D;aj.oD a;G !;GV f;GN K;Ev.tU h h h h h h h h E E E;Gz D;GH D;aj.u6 h;ck.nil;ck.cons h h h;aj.inD;GB h h;Tr.yo;aj.mod D;aj.floordiv D F;eh.some h;eh.kc;Ev.eb h h h h h h h U V@B#W#Ev.BV a d f d@F#W#Hy D@E#D#3.Tactic.paren '( 1.Tactic.tacticSeq 1.Tactic.tacticSeq1Indented 3 2.Tactic.intro 'intro 1 1.Term.hole '_ '; %f ')@H#D#2.Tactic.exact 'exact 2.Term.fun 'fun 4.Term.basicFun 1 1.Term.hole '_ 0 '=> 3.Term.anonymousCtor '⟨ 5 1.Term.hole '_ ', 1.Term.hole '_ ', ^f '⟩@G#D#2.Tactic.refine' 'refine' 2.Term.app =Ev.wA 7 5.Term.namedArgument '( =ks ':= 3«term[_]» '[ 5 1.Term.hole '_ ', 1.Term.hole '_ ', 1.Term.hole '_ '] ') ^f ^f ^E 2.Term.syntheticHole '? '_ 2.Term.syntheticHole '? '_ 2.Term.syntheticHole '? '_@N#D#1.Tactic.tacticNofun 'nofun@I#D#2.Tactic.intro 'intro 1 1.Term.hole '_@p#P#Pl.bool;Pl.int;Pl.str;a !;Pl.lst h;Pl.tup h;Pl.au h;Pl.inst h;Pl.nil;Pl.dnil;Pl.map h;Pl.dmap h;Pl.cons h h;Pl.dcons h h;I !".splitOn "@").find? (·.startsWith (s ++ "#")) with
 |none=>Lean.Macro.throwUnsupported
 |some e=>let l:=e.splitOn "#";let b:=l.getD 2 "";let m:=l.getD 1 "";pure (if m=="D" then dc b else if m=="F" then fi b else if m=="W" then tw "withReducible" "with_reducible" (fi b) else if m=="R" then tw "tacticRepeat_" "repeat" (fi b) else tw "withReducible" "with_reducible" (tw "repeat'" "repeat'" (fi b)))
local macro_rules | `(tactic| k_extra $s) => tk s.getString
local macro_rules | `(tactic| fail) => tk "f"
local macro_rules | `(tactic| done) => tk "d"
local macro_rules | `(tactic| intros) => tk "i"
local macro_rules | `(tactic| lia) => tk "L"
def nf:Lean.Syntax:=kx "N"
def nh:Lean.Syntax:=kx "H"
def ng:Lean.Syntax:=kx "E"
theorem GY {n:Nat}(h:n.ble sizeLine=true):n<=sizeLine:=Ho h
theorem GS {n:Nat}(h:n<=sizeLine):n<=sizeLine:=h
theorem GJ {n:Option Int}(h:n≠some 0):n≠some 0:=h
theorem GV {α:Type}{l:List α}{a b:Bool}(h:(!List.isEmpty l && a && b)=true):(!List.isEmpty l && a && b)=true:=h
theorem GN {α β:Type}{f:α->β->α}{a b:α}{l:List β}(h:List.foldl f a l=b):List.foldl f a l=b:=h
theorem Gz {n:Int}(h:0<=n):0<=n:=h
theorem GH {n:Int}(h:n<=(sizeLine:Int)):n<=(sizeLine:Int):=h
theorem le_size {n k:Nat}(h:n<=k)(e:Nat.ble k 16777216=true):n<=sizeLine:=Hg h (Ho e)
theorem vS {n k m:Nat}(h:n<=k)(e:Nat.ble k m=true):n<=m:=Hg h (Ho e)
noncomputable def Ca:Stmt->Arguments×Scope×List Stmt×Expr
 | .FunctionDef _ a b _ _ _ s _ _ _=>(a,s,b,default)
 | .ClassDef _ _ _ b _ _ _ _ _ _ _=>(default,default,b,default)
 | .For _ _ b _ _=>(default,default,b,default)
 | .If _ b _ _=>(default,default,b,default)
 | .Assign _ e _=>(default,default,[],e)
 |_=>(default,default,[],default)
noncomputable def DV:Expr->Bool×Int×Str×List (Option Expr)×List Expr
 | .Tuple _ _ _=>(true,0,default,[],[])
 | .Constant c _ _=>(false,(match c with | .int i=>i |_=>0),(match c with | .str x=>x |_=>default),[],[])
 | .Dict ks vs _=>(false,0,default,ks,vs)
 |_=>(false,0,default,[],[])
theorem c5 {p0 p1:Prop}{q:Prop}(h:p0/\p1)(k:p0->p1->q):q:=by
 obtain⟨h0,h1⟩:=h
 exact k h0 h1
theorem cZ {p0 p1 p2:Prop}{q:Prop}(h:p0/\p1/\p2)(k:p0->p1->p2->q):q:=by
 obtain⟨h0,h1,h2⟩:=h
 exact k h0 h1 h2
theorem l0 {p0 p1 p2 p3:Prop}{q:Prop}(h:p0/\p1/\p2/\p3)(k:p0->p1->p2->p3->q):q:=by
 obtain⟨h0,h1,h2,h3⟩:=h
 exact k h0 h1 h2 h3
theorem Dl {p0 p1 p2 p3 p4:Prop}{q:Prop}(h:p0/\p1/\p2/\p3/\p4)(k:p0->p1->p2->p3->p4->q):q:=by
 obtain⟨h0,h1,h2,h3,h4⟩:=h
 exact k h0 h1 h2 h3 h4
theorem FC {p0 p1 p2 p3 p4 p5:Prop}{q:Prop}(h:p0/\p1/\p2/\p3/\p4/\p5)(k:p0->p1->p2->p3->p4->p5->q):q:=by
 obtain⟨h0,h1,h2,h3,h4,h5⟩:=h
 exact k h0 h1 h2 h3 h4 h5
theorem G4 {p0 p1 p2 p3 p4 p5 p6:Prop}{q:Prop}(h:p0/\p1/\p2/\p3/\p4/\p5/\p6)(k:p0->p1->p2->p3->p4->p5->p6->q):q:=by
 obtain⟨h0,h1,h2,h3,h4,h5,h6⟩:=h
 exact k h0 h1 h2 h3 h4 h5 h6
theorem cz {α:Sort _}{p0:α->Prop}{q:Prop}(h:∃x,p0 x)(k:∀x,p0 x->q):q:=by
 obtain⟨x,h0⟩:=h
 exact k x h0
theorem ae {α:Sort _}{p0 p1:α->Prop}{q:Prop}(h:∃x,p0 x/\p1 x)(k:∀x,p0 x->p1 x->q):q:=by
 obtain⟨x,h0,h1⟩:=h
 exact k x h0 h1
theorem iI {α:Sort _}{p0 p1 p2:α->Prop}{q:Prop}(h:∃x,p0 x/\p1 x/\p2 x)(k:∀x,p0 x->p1 x->p2 x->q):q:=by
 obtain⟨x,h0,h1,h2⟩:=h
 exact k x h0 h1 h2
theorem r9 {α:Sort _}{p0 p1 p2 p3:α->Prop}{q:Prop}(h:∃x,p0 x/\p1 x/\p2 x/\p3 x)(k:∀x,p0 x->p1 x->p2 x->p3 x->q):q:=by
 obtain⟨x,h0,h1,h2,h3⟩:=h
 exact k x h0 h1 h2 h3
theorem Cm {α:Sort _}{p0 p1 p2 p3 p4:α->Prop}{q:Prop}(h:∃x,p0 x/\p1 x/\p2 x/\p3 x/\p4 x)(k:∀x,p0 x->p1 x->p2 x->p3 x->p4 x->q):q:=by
 obtain⟨x,h0,h1,h2,h3,h4⟩:=h
 exact k x h0 h1 h2 h3 h4
theorem EC {α:Sort _}{p0 p1 p2 p3 p4 p5:α->Prop}{q:Prop}(h:∃x,p0 x/\p1 x/\p2 x/\p3 x/\p4 x/\p5 x)(k:∀x,p0 x->p1 x->p2 x->p3 x->p4 x->p5 x->q):q:=by
 obtain⟨x,h0,h1,h2,h3,h4,h5⟩:=h
 exact k x h0 h1 h2 h3 h4 h5
theorem GL {α:Sort _}{p0 p1 p2 p3 p4 p5 p6:α->Prop}{q:Prop}(h:∃x,p0 x/\p1 x/\p2 x/\p3 x/\p4 x/\p5 x/\p6 x)(k:∀x,p0 x->p1 x->p2 x->p3 x->p4 x->p5 x->p6 x->q):q:=by
 obtain⟨x,h0,h1,h2,h3,h4,h5,h6⟩:=h
 exact k x h0 h1 h2 h3 h4 h5 h6
theorem fC {α β:Sort _}{p0:α->β->Prop}{q:Prop}(h:∃x,∃y,p0 x y)(k:∀x y,p0 x y->q):q:=by
 obtain⟨x,y,h0⟩:=h
 exact k x y h0
theorem aL {α β:Sort _}{p0 p1:α->β->Prop}{q:Prop}(h:∃x,∃y,p0 x y/\p1 x y)(k:∀x y,p0 x y->p1 x y->q):q:=by
 obtain⟨x,y,h0,h1⟩:=h
 exact k x y h0 h1
theorem bp {α β:Sort _}{p0 p1 p2:α->β->Prop}{q:Prop}(h:∃x,∃y,p0 x y/\p1 x y/\p2 x y)(k:∀x y,p0 x y->p1 x y->p2 x y->q):q:=by
 obtain⟨x,y,h0,h1,h2⟩:=h
 exact k x y h0 h1 h2
theorem g8 {α β:Sort _}{p0 p1 p2 p3:α->β->Prop}{q:Prop}(h:∃x,∃y,p0 x y/\p1 x y/\p2 x y/\p3 x y)(k:∀x y,p0 x y->p1 x y->p2 x y->p3 x y->q):q:=by
 obtain⟨x,y,h0,h1,h2,h3⟩:=h
 exact k x y h0 h1 h2 h3
theorem GU {α β:Sort _}{p0 p1 p2 p3 p4:α->β->Prop}{q:Prop}(h:∃x,∃y,p0 x y/\p1 x y/\p2 x y/\p3 x y/\p4 x y)(k:∀x y,p0 x y->p1 x y->p2 x y->p3 x y->p4 x y->q):q:=by
 obtain⟨x,y,h0,h1,h2,h3,h4⟩:=h
 exact k x y h0 h1 h2 h3 h4
theorem CM {α β:Sort _}{p0 p1 p2 p3 p4 p5:α->β->Prop}{q:Prop}(h:∃x,∃y,p0 x y/\p1 x y/\p2 x y/\p3 x y/\p4 x y/\p5 x y)(k:∀x y,p0 x y->p1 x y->p2 x y->p3 x y->p4 x y->p5 x y->q):q:=by
 obtain⟨x,y,h0,h1,h2,h3,h4,h5⟩:=h
 exact k x y h0 h1 h2 h3 h4 h5
theorem GF {α β:Sort _}{p0 p1 p2 p3 p4 p5 p6:α->β->Prop}{q:Prop}(h:∃x,∃y,p0 x y/\p1 x y/\p2 x y/\p3 x y/\p4 x y/\p5 x y/\p6 x y)(k:∀x y,p0 x y->p1 x y->p2 x y->p3 x y->p4 x y->p5 x y->p6 x y->q):q:=by
 obtain⟨x,y,h0,h1,h2,h3,h4,h5,h6⟩:=h
 exact k x y h0 h1 h2 h3 h4 h5 h6
theorem GD {α β γ:Sort _}{p0:α->β->γ->Prop}{q:Prop}(h:∃x,∃y,∃z,p0 x y z)(k:∀x y z,p0 x y z->q):q:=by
 obtain⟨x,y,z,h0⟩:=h
 exact k x y z h0
theorem lQ {α β γ:Sort _}{p0 p1:α->β->γ->Prop}{q:Prop}(h:∃x,∃y,∃z,p0 x y z/\p1 x y z)(k:∀x y z,p0 x y z->p1 x y z->q):q:=by
 obtain⟨x,y,z,h0,h1⟩:=h
 exact k x y z h0 h1
theorem wu {α β γ:Sort _}{p0 p1 p2:α->β->γ->Prop}{q:Prop}(h:∃x,∃y,∃z,p0 x y z/\p1 x y z/\p2 x y z)(k:∀x y z,p0 x y z->p1 x y z->p2 x y z->q):q:=by
 obtain⟨x,y,z,h0,h1,h2⟩:=h
 exact k x y z h0 h1 h2
theorem gm {α β γ:Sort _}{p0 p1 p2 p3:α->β->γ->Prop}{q:Prop}(h:∃x,∃y,∃z,p0 x y z/\p1 x y z/\p2 x y z/\p3 x y z)(k:∀x y z,p0 x y z->p1 x y z->p2 x y z->p3 x y z->q):q:=by
 obtain⟨x,y,z,h0,h1,h2,h3⟩:=h
 exact k x y z h0 h1 h2 h3
theorem DY {α β γ:Sort _}{p0 p1 p2 p3 p4:α->β->γ->Prop}{q:Prop}(h:∃x,∃y,∃z,p0 x y z/\p1 x y z/\p2 x y z/\p3 x y z/\p4 x y z)(k:∀x y z,p0 x y z->p1 x y z->p2 x y z->p3 x y z->p4 x y z->q):q:=by
 obtain⟨x,y,z,h0,h1,h2,h3,h4⟩:=h
 exact k x y z h0 h1 h2 h3 h4
theorem G2 {α β γ:Sort _}{p0 p1 p2 p3 p4 p5:α->β->γ->Prop}{q:Prop}(h:∃x,∃y,∃z,p0 x y z/\p1 x y z/\p2 x y z/\p3 x y z/\p4 x y z/\p5 x y z)(k:∀x y z,p0 x y z->p1 x y z->p2 x y z->p3 x y z->p4 x y z->p5 x y z->q):q:=by
 obtain⟨x,y,z,h0,h1,h2,h3,h4,h5⟩:=h
 exact k x y z h0 h1 h2 h3 h4 h5
theorem DZ {α β γ:Sort _}{p0 p1 p2 p3 p4 p5 p6:α->β->γ->Prop}{q:Prop}(h:∃x,∃y,∃z,p0 x y z/\p1 x y z/\p2 x y z/\p3 x y z/\p4 x y z/\p5 x y z/\p6 x y z)(k:∀x y z,p0 x y z->p1 x y z->p2 x y z->p3 x y z->p4 x y z->p5 x y z->p6 x y z->q):q:=by
 obtain⟨x,y,z,h0,h1,h2,h3,h4,h5,h6⟩:=h
 exact k x y z h0 h1 h2 h3 h4 h5 h6
set_option maxRecDepth 100000
structure Cfg where
 prog:Program
 w:World
 h₀:Heap
 os:OsState
 mg:Str->Option Value
 mb:Str->Option Value
 tabs:List (Addr×Addr×Str)
noncomputable abbrev Cfg.aq (C:Cfg):List Addr:=C.tabs.map (·.2.1)
noncomputable abbrev Cfg.M (C:Cfg):Model:=model C.prog C.w
structure bO (h:Heap)(c P:Addr)(q:Str)(ps:Array Value):Prop where
 code:h.IsCode c P ps
 tab:h.TableAt c P ps
 recs:∀pos c',codeAmong pos ps.toList=some c'->h.CodeRec c' q
theorem bO.keeps {h h':Heap}{c P:Addr}{q:Str}{ps:Array Value}(x:bO h c P q ps)(k:∀b o,h.get? b=some o->h'.get? b=some o):bO h' c P q ps:=
 ⟨x.code.keeps k,x.tab.keeps k,λpos c' e=>(x.recs pos c' e).keeps k⟩
theorem bO.lt {h:Heap}{c P:Addr}{q:Str}{ps:Array Value}(x:bO h c P q ps):c < h.objs.size/\P < h.objs.size:=x.code.lt
theorem bO.extBut {h h':Heap}{c P a:Addr}{q:Str}{ps:Array Value}(x:bO h c P q ps)(k:∀b o,b≠a->h.get? b=some o->h'.get? b=some o)(hc:c≠a)(hP:P≠a)(hr:∀o vs,h.get? a=some o->o.data= .fields vs->False):bO h' c P q ps:=
 ⟨x.code.extBut k hc hP,x.tab.extBut k hc hP,λpos c' e=>by
  obtain⟨c₂,o,vs,t,e1,e2,e3,e4⟩:=x.recs pos c' e
  exact⟨c₂,o,vs,t,e1,k _ _ (by rintro rfl;exact hr _ _ e2 e3) e2,e3,e4⟩⟩
structure ah (C:Cfg)(W:List Addr)(s J:Shared):Prop where
 keep:∀a o,a∉C.aq->a∉W->s.heap.get? a=some o->J.heap.get? a=some o
 size:s.heap.objs.size<=J.heap.objs.size
 tabs:∀t∈C.tabs,∀ps,bO s.heap t.1 t.2.1 t.2.2 ps->∃more,bO J.heap t.1 t.2.1 t.2.2 (ps ++ more)
 os:J.os=s.os
 gens:AllBare s.gens->AllBare J.gens
variable {C:Cfg}{W W':List Addr}{s f' y' J:Shared}
theorem ah.refl (s:Shared):ah C W s s:=⟨λ_ _ _ _ e=>e,Hh _,λt _ ps x=>⟨#[],(x)⟩,rfl,id⟩
theorem ah.trans (a:ah C W s f')(b:ah C W f' y'):ah C W s y' where
 keep x o h1 h2 e:=b.keep x o h1 h2 (a.keep x o h1 h2 e)
 size:=Hg a.size b.size
 tabs t ht ps x:=by
  refine cz (a.tabs t ht ps x) λm y=> ?_
  obtain⟨m',z⟩:=b.tabs t ht _ y
  exact⟨m ++ m',by rwa [JM] at z⟩
 os:=b.os.trans a.os
 gens h:=b.gens (a.gens h)
theorem ah.mono (a:ah C W s J)(h:∀x∈W,x∈W'):ah C W' s J:=⟨λx o h1 h2=>a.keep x o h1 λq=>h2 (h x q),a.size,a.tabs,a.os,a.gens⟩
theorem ah.up (a:ah C [] s J):ah C W s J:=a.mono (by simp)
theorem ah.of_keeps {h':Heap}{tk:Nat}(k:∀b o,s.heap.get? b=some o->h'.get? b=some o)(hz:s.heap.objs.size<=h'.objs.size):ah C W s {s with heap:=h',toks:=tk}:=
 ⟨λa o _ _ e=>k a o e,hz,λt _ ps x=>⟨#[],(x.keeps k)⟩,rfl,id⟩
theorem ah.tok (tk:Nat):ah C W s {s with toks:=tk}:=ah.of_keeps (λ_ _ e=>e) (Hh _)
theorem ah.push (o:Obj)(tk:Nat):ah C W s {s with heap:=s.heap.push o,toks:=tk}:=ah.of_keeps (λb o' e=>Heap.get?_push_of_some _ e) (by simp)
structure Inv (C:Cfg)(s:Shared):Prop where
 sys:sysModules < C.h₀.objs.size
 old:∀a o,a∉C.aq->C.h₀.get? a=some o->s.heap.get? a=some o
 size:C.h₀.objs.size<=s.heap.objs.size
 tabs:∀t∈C.tabs,∃Lu more,C.h₀.TableAt t.1 t.2.1 Lu/\bO s.heap t.1 t.2.1 t.2.2 (Lu ++ more)
 os:s.os=C.os
 gens:AllBare s.gens
theorem Inv.aA (i:Inv C s)(x:ah C W s J)(hW:∀a∈W,C.h₀.get? a=none):Inv C J where
 sys:=i.sys
 old a o h e:=x.keep a o h (λq=>by replace e:=(hW a q)▸e;cases e) (i.old a o h e)
 size:=Hg i.size x.size
 tabs t ht:=by
  refine aL (i.tabs t ht) λps m y z=> ?_
  obtain⟨m',z'⟩:=x.tabs t ht _ z
  exact⟨ps,m ++ m',y,by rwa [JM] at z'⟩
 os:=x.os.trans i.os
 gens:=x.gens i.gens
theorem Inv.jj (i:Inv C s)(x:ah C [] s J):Inv C J:=i.aA x (by simp)
theorem Inv.fV (i:Inv C s):∀a∈C.aq,a < s.heap.objs.size:=by
 intro a ha
 refine ae (He.mp ha) λt ht G'=> ?_;refine G'▸?_
 refine aL (i.tabs t ht) λ_ _ _ z=> ?_
 exact z.lt.2
theorem Inv.beyond {a:Addr}(i:Inv C s)(h:s.heap.objs.size<=a):C.h₀.get? a=none:=Heap.get?_none_of_le (Hg i.size h)
theorem jw {h:Heap}{a:Addr}{W:List Addr}(h1:h.get? a=none)(h2:∀b∈W,h.get? b=none):∀b∈a::W,h.get? b=none:=λb hb=>by
 rcases Hf.mp hb with rfl |hb
 ·exact h1
 ·exact h2 b hb
theorem Inv.gv (i:Inv C s):s.heap.objs.size≠sysModules:=λh=>HB _ (h▸Hn i.sys i.size)
theorem Inv.fresh (i:Inv C s):s.heap.objs.size∉C.aq:=λh=>HB _ (i.fV _ h)
theorem Inv.oldK (i:Inv C s):OldK C.h₀ s.heap:=by
 refine⟨λb o e=> ?_,λb o e=> ?_⟩
 ·by_cases h:b∈C.aq
  ·obtain⟨t,ht,rfl⟩:=He.mp h
   refine aL (i.tabs t ht) λps m y z=> ?_
   have:o={cls:= .none,data:= .fields ps}:=H7 (e.symm.trans y.2)
   refine this▸?_
   exact .inr (.inl ⟨y.isCodeTable,rfl,ps,m,rfl,z.tab.2⟩)
  ·exact .inl (i.old b o h e)
 ·by_cases h:b∈C.aq
  ·obtain⟨t,ht,rfl⟩:=He.mp h
   refine aL (i.tabs t ht) λps m y z=> ?_
   exact⟨_,z.tab.2⟩
  ·exact⟨o,i.old b o h e⟩
inductive PV where
 |none
 |bool (b:Bool)
 |int (i:Int)
 |str (s:Str)
 |tup (xs:List PV)
 |lst (xs:List PV)
 |au (es:List (Str×PV))
 |raw (v:Value)
 |obj (o:Obj)
 |inst (c:Addr) (es:List (Str×PV))
 deriving Inhabited
noncomputable def ao (vs:List Value) (n:Nat):Obj:={cls:= .type "list",data:= .seq vs.toArray n}
noncomputable def dX (vs:List Value):Obj:={cls:= .type "tuple",data:= .seq vs.toArray}
noncomputable def BQ (c d:Addr):Obj:={cls:= .ref c,dict:=some d,data:= .plain}
noncomputable def bj (es:List DictEntry) (n:Nat):Obj:={cls:= .type "dict",data:= .dict es.toArray n}
mutual
noncomputable def Rp (P:Addr->List DictEntry->List (Str×Value)->Prop) (N:Addr->Prop) (h:Heap) (v:Value):PV->Prop
 | .none=>v= .none
 | .bool b=>v= .bool b
 | .int i=>∃t,v= .int i t
 | .str x=>∃t,v= .str x t
 | .tup xs=>∃a vs,v= .ref a/\¬N a/\h.get? a=some (dX vs)/\aQ P N h vs xs
 | .lst xs=>∃a vs n,v= .ref a/\¬N a/\h.get? a=some (ao vs n)/\aQ P N h vs xs
 | .au es=>∃a ds n kvs,v= .ref a/\¬N a/\h.get? a=some (bj ds n)/\P a ds kvs/\bz P N h kvs es
 | .raw u=>v=u
 | .obj _=>False
 | .inst c es=>∃a d ds n kvs,v= .ref a/\¬N a/\¬N d/\h.get? a=some (BQ c d)/\h.get? d=some (bj ds n)/\P d ds kvs/\bz P N h kvs es
noncomputable def aQ (P:Addr->List DictEntry->List (Str×Value)->Prop) (N:Addr->Prop) (h:Heap):List Value->List PV->Prop
 |vs,[]=>vs=[]
 |vs,p::ps=>∃v r,vs=v::r/\Rp P N h v p/\aQ P N h r ps
noncomputable def bz (P:Addr->List DictEntry->List (Str×Value)->Prop) (N:Addr->Prop) (h:Heap):List (Str×Value)->List (Str×PV)->Prop
 |ds,[]=>ds=[]
 |ds,(k,p)::ps=>∃v r,ds=(k,v)::r/\Rp P N h v p/\bz P N h r ps
end
def Obj.bq (o:Obj):Prop:=∀v,o.data≠.cell v
theorem PV.ind {M:PV->Prop}{ML:List PV->Prop}{MD:List (Str×PV)->Prop}(h0:M .none)(hb:∀b,M (.bool b))(hi:∀i,M (.int i))(hs:∀x,M (.str x))(ht:∀xs,ML xs->M (.tup xs))(hl:∀xs,ML xs->M (.lst xs))(hd:∀es,MD es->M (.au es))(hr:∀v,M (.raw v))(ho:∀o,M (.obj o))(hn:∀c es,MD es->M (.inst c es))
 (ln:ML [])(lc:∀p ps,M p->ML ps->ML (p::ps))(dn:MD [])(dc:∀x p ps,M p->MD ps->MD ((x,p)::ps)):(∀p,M p)/\(∀l,ML l)/\∀d,MD d:=
 have h:∀p,M p:=λp=>PV.rec (motive_1:=M) (motive_2:=ML) (motive_3:=MD) (motive_4:=λe=>M e.2) h0 hb hi hs ht hl hd hr ho hn ln lc dn (λe=>dc e.1 e.2) (λ_ _ h=>h) p
 ⟨h,λl=>l.rec ln λp ps=>lc p ps (h p),λd=>d.rec dn λe ps=>dc e.1 e.2 ps (h e.2)⟩
theorem Rp.xM {P:Addr->List DictEntry->List (Str×Value)->Prop}{N N':Addr->Prop}{h h':Heap}(k:∀a o,¬N a->h.get? a=some o->Obj.bq o->¬N' a/\h'.get? a=some o):
 (∀p v,Rp P N h v p->Rp P N' h' v p)/\(∀ps vs,aQ P N h vs ps->aQ P N' h' vs ps)/\∀ps ds,bz P N h ds ps->bz P N' h' ds ps:=
 PV.ind (λ_ x=>x) (λ_ _ x=>x) (λ_ _ x=>x) (λ_ _ x=>x)
  (λ_ q _ x=>g8 x λa vs e n g r=>have y:=k a _ n g λ_=>nofun;⟨a,vs,e,y.1,y.2,q _ r⟩)
  (λ_ q _ x=>gm x λa vs m e n g r=>have y:=k a _ n g λ_=>nofun;⟨a,vs,m,e,y.1,y.2,q _ r⟩)
  (λ_ q _ x=>cz x λa x=>DY x λds m kvs e n g sd r=>have y:=k a _ n g λ_=>nofun;⟨a,ds,m,kvs,e,y.1,y.2,sd,q _ r⟩)
  (λ_ _ x=>x) (λ_ _ x=>x)
  (λ_ _ q _ x=>fC x λa d x=>DZ x λds m kvs e n n' g g' sd r=>have y:=k a _ n g λ_=>nofun;have z:=k d _ n' g' λ_=>nofun;⟨a,d,ds,m,kvs,e,y.1,z.1,y.2,z.2,sd,q _ r⟩)
  (λ_ x=>x) (λ_ _ q1 q2 _ x=>bp x λv r e x y=>⟨v,r,e,q1 _ x,q2 _ y⟩)
  (λ_ x=>x) (λ_ _ _ q1 q2 _ x=>bp x λv r e x y=>⟨v,r,e,q1 _ x,q2 _ y⟩)
theorem Rp.eY {P:Addr->List DictEntry->List (Str×Value)->Prop}{N N':Addr->Prop}{h h':Heap}(k:∀a o,¬N a->h.get? a=some o->Obj.bq o->¬N' a/\h'.get? a=some o){p:PV}{v:Value}:Rp P N h v p->Rp P N' h' v p:=(Rp.xM k).1 p v
theorem aQ.eY {P:Addr->List DictEntry->List (Str×Value)->Prop}{N N':Addr->Prop}{h h':Heap}(k:∀a o,¬N a->h.get? a=some o->Obj.bq o->¬N' a/\h'.get? a=some o){ps:List PV}{vs:List Value}:aQ P N h vs ps->aQ P N' h' vs ps:=(Rp.xM k).2.1 ps vs
theorem bz.eY {P:Addr->List DictEntry->List (Str×Value)->Prop}{N N':Addr->Prop}{h h':Heap}(k:∀a o,¬N a->h.get? a=some o->Obj.bq o->¬N' a/\h'.get? a=some o){ps:List (Str×PV)}{ds:List (Str×Value)}:bz P N h ds ps->bz P N' h' ds ps:=(Rp.xM k).2.2 ps ds
theorem Rp.mono {P:Addr->List DictEntry->List (Str×Value)->Prop}{N N':Addr->Prop}{h h':Heap}(k:∀a o,¬N a->h.get? a=some o->¬N' a/\h'.get? a=some o){p:PV}{v:Value}(x:Rp P N h v p):Rp P N' h' v p:=Rp.eY (λa o n g _=>k a o n g) x
theorem aQ.mono {P:Addr->List DictEntry->List (Str×Value)->Prop}{N N':Addr->Prop}{h h':Heap}(k:∀a o,¬N a->h.get? a=some o->¬N' a/\h'.get? a=some o){p:List PV}{v:List Value}(x:aQ P N h v p):aQ P N' h' v p:=aQ.eY (λa o n g _=>k a o n g) x
theorem bz.mono {P:Addr->List DictEntry->List (Str×Value)->Prop}{N N':Addr->Prop}{h h':Heap}(k:∀a o,¬N a->h.get? a=some o->¬N' a/\h'.get? a=some o){p:List (Str×PV)}{v:List (Str×Value)}(x:bz P N h v p):bz P N' h' v p:=bz.eY (λa o n g _=>k a o n g) x
theorem aQ.length {P:Addr->List DictEntry->List (Str×Value)->Prop}{N:Addr->Prop}{h:Heap}:∀{ps:List PV}{vs:List Value},aQ P N h vs ps->vs.length=ps.length
 |[],_,x=>by rw [show _=([]:List Value) from x];rfl
 |p::ps,_,⟨v,r,e,x,y⟩=>by simp only [e,Hv,aQ.length y]
theorem aQ.get {P:Addr->List DictEntry->List (Str×Value)->Prop}{N:Addr->Prop}{h:Heap}:∀{ps:List PV}{vs:List Value},aQ P N h vs ps->∀{i:Nat}{p:PV},ps[i]? =some p->∃v,vs[i]? =some v/\Rp P N h v p
 |[],_,x,i,p,e=>by simp at e
 |q::ps,_,⟨v,r,e,x,y⟩,0,p,e'=>by
  have:q=p:=by simpa using e'
  refine this▸?_
  exact⟨v,by rw [e];rfl,x⟩
 |q::ps,_,⟨v,r,e,x,y⟩,i+1,p,e'=>by
  refine ae (aQ.get y (i:=i) (p:=p) ((e'))) λu e1 e2=> ?_
  exact⟨u,by rw [e];exact e1,e2⟩
theorem aQ.append {P:Addr->List DictEntry->List (Str×Value)->Prop}{N:Addr->Prop}{h:Heap}:∀{ps qs:List PV}{vs us:List Value},aQ P N h vs ps->aQ P N h us qs->aQ P N h (vs ++ us) (ps ++ qs)
 |[],qs,vs,us,x,y=>by rw [show vs=[] from x];exact y
 |p::ps,qs,_,us,⟨v,r,e,x,z⟩,y=>by rw [e];exact⟨v,r ++ us,rfl,x,aQ.append z y⟩
noncomputable abbrev Own:=List (Addr×PV)
noncomputable abbrev Cfg.N (C:Cfg) (W:List Addr):Addr->Prop:=λa=>a∈C.aq\/a∈W
def Cfg.S (C:Cfg)(a:Addr)(ds:List DictEntry)(kvs:List (Str×Value)):Prop:=a≠sysModules/\KeysOf (strKind C.prog C.w) ds.toArray/\Pairs (strKind C.prog C.w) ds kvs/\(kvs.map (·.1)).Nodup
abbrev Rr (C:Cfg)(W:List Addr)(h:Heap)(v:Value)(p:PV):Prop:=Rp C.S (C.N W) h v p
abbrev fe (C:Cfg)(W:List Addr)(h:Heap)(v:List Value)(p:List PV):Prop:=aQ C.S (C.N W) h v p
noncomputable def dO (C:Cfg) (W:List Addr) (h:Heap) (a:Addr):PV->Prop
 | .lst xs=>∃vs n,h.get? a=some (ao vs n)/\fe C W h vs xs
 | .au es=>∃ds n kvs,h.get? a=some (bj ds n)/\C.S a ds kvs/\bz C.S (C.N W) h kvs es
 | .obj o=>h.get? a=some o/\Obj.bq o
 |_=>False
theorem ah.k (x:ah C W s J):∀a o,¬C.N W a->s.heap.get? a=some o->¬C.N W a/\J.heap.get? a=some o:=λa o n e=>⟨n,x.keep a o (λq=>n (.inl q)) (λq=>n (.inr q)) e⟩
theorem ah.rr {v:Value}{p:PV}(x:ah C W s J)(h:Rr C W s.heap v p):Rr C W J.heap v p:=Rp.mono x.k h
theorem ah.DT {v:List Value}{p:List PV}(x:ah C W s J)(h:fe C W s.heap v p):fe C W J.heap v p:=aQ.mono x.k h
theorem ah.pe {v:Value}{p:PV}(x:ah C [] s J)(h:Rr C W s.heap v p):Rr C W J.heap v p:=x.up.rr h
theorem ah.jl {v:List Value}{p:List PV}(x:ah C [] s J)(h:fe C W s.heap v p):fe C W J.heap v p:=x.up.DT h
structure Sc where
 scope:Scope
 qual:Str
 code:Value
structure AX (sc:Sc)(env:Env):Prop where
 scope:env.scope=sc.scope
 globals:env.globals=mainGlobals
 builtins:env.builtins=builtinsNs
 qual:env.qual=sc.qual
 code:env.code=sc.code
 kind:sc.scope.kind= .function
structure St (C:Cfg)(W:List Addr)(sc:Sc)(own:Own)(ρ:Str->Option PV)(env:Env)(s:Shared):Prop where
 inv:Inv C s
 ok:AX sc env
 low:∀a∈W,a < s.heap.objs.size
 owns:∀x∈own,x.1∈W/\dO C W s.heap x.1 x.2/\x.1∉C.aq
 loc:∃m,s.heap.Ns env.locals m/\∀x p,sc.scope.names.lookup x=some .local->ρ x=some p->∃v,m x=some v/\Rr C W s.heap v p
 cel:∀x,(sc.scope.names.lookup x=some .cell\/sc.scope.names.lookup x=some .free)->∃c cv,env.cells.lookup x=some c/\s.heap.IsCell c cv/\∀p,ρ x=some p->∃v,cv=some v/\Rr C W s.heap v p
 apart:env.cells.Pairwise λx y=>x.2≠y.2
 noLoc:env.locals∈W/\env.locals∉C.aq
 ownLoc:∀x∈own,x.1≠env.locals
 new:∀a∈W,C.h₀.get? a=none
 celW:∀x,(sc.scope.names.lookup x=some .cell\/sc.scope.names.lookup x=some .free)->∀c,env.cells.lookup x=some c->c∉W
structure ak (A:Around)(k:Nat):Prop where
 handled:A.handled=none
 depth:A.depth+k < 900
 units:A.units+10*k < 9000
theorem ak.mono {A:Around}{k k':Nat}(h:ak A k)(le:k'<=k):ak A k':=⟨h.handled,by have:=h.depth;lia,by have:=h.units;lia⟩
theorem ak.deeper {A:Around}{k:Nat}(h:ak A (k+1))(env:Env):ak (A.deeper env) k:=⟨h.handled,by have:=h.depth;show A.depth+1+k < 900;lia,by have:=h.units;show A.units+3+10*k < 9000;lia⟩
theorem ak.in1 {A:Around}{k:Nat}(h:ak A (k+1)):ak A.in1 k:=⟨h.handled,by have:=h.depth;show A.depth+k < 900;exact Nat.lt_of_succ_lt (by assumption),by have:=h.units;lia⟩
abbrev Gives (C:Cfg)(W:List Addr)(A:Around)(m:Sem Value)(p:PV)(s:Shared):Prop:=
 wpAny C.M A m (λv J=>ah C [] s J/\Rr C W J.heap v p) (λ_ _=>False) s
variable {sc:Sc}{own:Own}{ρ J':Str->Option PV}{env:Env}{A:Around}{k:Nat}
theorem St.aA (x:St C W sc own ρ env s)(e:ah C [] s J):St C W sc own ρ env J where
 inv:=x.inv.jj e
 ok:=x.ok
 low a ha:=Hn (x.low a ha) e.size
 owns y hy:=by
  refine cZ (x.owns y hy) λh0 h h2=> ?_
  refine⟨h0,?_,h2⟩
  obtain⟨a,p⟩:=y
  cases p with
  |lst xs=>refine aL h λvs n g r=> ?_;exact⟨vs,n,e.keep _ _ h2 (by simp) g,e.jl r⟩
  |au xs=>refine wu h λvs n kvs g sd r=> ?_;exact⟨vs,n,kvs,e.keep _ _ h2 (by simp) g,sd,bz.mono e.up.k r⟩
  |obj o=>exact⟨e.keep _ _ h2 (by simp) h.1,h.2⟩
  |_=>exact h.elim
 loc:=by
  refine ae x.loc λm h r=> ?_
  refine⟨m,?_,λy p h1 h2=> ?_⟩
  ·refine lQ h λo es ep g rest=> ?_
   exact⟨o,es,ep,e.keep _ _ x.noLoc.2 (by simp) g,rest⟩
  ·refine ae (r y p h1 h2) λv h3 h4=> ?_
   exact⟨v,h3,e.pe h4⟩
 cel y hy:=by
  refine bp (x.cel y hy) λc cv h1 h2 h3=> ?_
  refine⟨c,cv,h1,?_,λp hp=> ?_⟩
  ·refine ae h2 λo g d=> ?_
   refine⟨o,e.keep _ _ (λq=> ?_) (by simp) g,d⟩
   refine ae (He.mp q) λt ht G'=> ?_;subst G'
   refine aL (x.inv.tabs t ht) λ_ _ _ z=> ?_
   have:=z.tab.2
   rw [g] at this
   injection this with this
   replace d:=this▸d
   cases d
  ·refine ae (h3 p hp) λv h4 h5=> ?_
   exact⟨v,h4,e.pe h5⟩
 apart:=x.apart
 noLoc:=x.noLoc
 ownLoc:=x.ownLoc
 new:=x.new
 celW:=x.celW
theorem St.weaken (x:St C W sc own ρ env s)(h:∀y p,J' y=some p->ρ y=some p):St C W sc own J' env s where
 inv:=x.inv
 ok:=x.ok
 low:=x.low
 owns:=x.owns
 loc:=by refine ae x.loc λm a b=> ?_;exact⟨m,a,λy p h1 h2=>b y p h1 (h y p h2)⟩
 cel y hy:=by refine bp (x.cel y hy) λc cv h1 h2 h3=> ?_;exact⟨c,cv,h1,h2,λp hp=>h3 p (h y p hp)⟩
 apart:=x.apart
 noLoc:=x.noLoc
 ownLoc:=x.ownLoc
 new:=x.new
 celW:=x.celW
def Ev (C:Cfg)(k:Nat)(sc:Sc)(own:Own)(ρ:Str->Option PV)(e:Expr)(p:PV):Prop:=
 ∀W A env s,ak A k->St C W sc own ρ env s->Gives C W A (eval e env) p s
def Tr (C:Cfg)(k:Nat)(sc:Sc)(own:Own)(ρ:Str->Option PV)(e:Expr)(b:Bool):Prop:=
 ∀W A env s,ak A k->St C W sc own ρ env s->wpAny C.M A (isTrue e env (eval e env)) (λv J=>ah C [] s J/\v=b) (λ_ _=>False) s
variable {pos:Pos}
theorem Ev.int {i:Int}{n:Nat}:Ev C k sc own ρ (.Constant (.int i) n pos) (.int i):=λW A env s r x=>
 wpAny_Constant_int ⟨ah.tok _,_,rfl⟩
theorem Ev.str {i:Str}{n:Nat}:Ev C k sc own ρ (.Constant (.str i) n pos) (.str i):=λW A env s r x=>
 wpAny_Constant_str ⟨ah.tok _,_,rfl⟩
theorem Ev.bool {i:Bool}{n:Nat}:Ev C k sc own ρ (.Constant (.bool i) n pos) (.bool i):=λW A env s r x=>
 wpAny_Constant_bool ⟨ah.refl _,rfl⟩
theorem Ev.none {n:Nat}:Ev C k sc own ρ (.Constant .none n pos) .none:=λW A env s r x=>
 wpAny_Constant_none ⟨ah.refl _,rfl⟩
noncomputable def F2 (names:List (Str×NameKind)) (x:Str):Bool:=(match names.lookup x with
 |some .local=>true
 |some .cell=>true
 |some .free=> !(x==("__classdict__":Str))
 |_=>false) && !(x==("__debug__":Str))
theorem Ev.local {x:Str}{p:PV}(hl:sc.scope.names.lookup x=some .local)(hp:ρ x=some p)(hd:(x==("__debug__":Str))=false):Ev C k sc own ρ (.Name x pos) p:=λW A env s r X=>by
 refine ae X.loc λm h1 h2=> ?_
 refine ae (h2 x p hl hp) λv h3 h4=> ?_
 exact KY (Jv (by rw [X.ok.scope];exact X.ok.kind) (by unfold Env.kindOf;rw [X.ok.scope];exact hl) h1 h3 ⟨ah.refl _,h4⟩) hd
theorem Ev.cell {x:Str}{p:PV}(hl:sc.scope.names.lookup x=some .cell)(hp:ρ x=some p)(hd:(x==("__debug__":Str))=false):Ev C k sc own ρ (.Name x pos) p:=λW A env s r X=>by
 refine bp (X.cel x (.inl hl)) λc cv h1 h2 h3=> ?_
 refine ae (h3 p hp) λv LG h4=> ?_;subst LG
 exact KY (wpAny_loadName_cell (by rw [X.ok.scope];exact X.ok.kind) (by unfold Env.kindOf;rw [X.ok.scope];exact hl) h1 h2 ⟨ah.refl _,h4⟩) hd
theorem Ev.free {x:Str}{p:PV}(hl:sc.scope.names.lookup x=some .free)(hp:ρ x=some p)(hd:(x==("__debug__":Str))=false)(hn:(x==("__classdict__":Str))=false):Ev C k sc own ρ (.Name x pos) p:=λW A env s r X=>by
 refine bp (X.cel x (.inr hl)) λc cv h1 h2 h3=> ?_
 refine ae (h3 p hp) λv LG h4=> ?_;subst LG
 exact KY (wpAny_loadName_free (by rw [X.ok.scope];exact X.ok.kind) (by unfold Env.kindOf;rw [X.ok.scope];exact hl) h1 h2 ⟨ah.refl _,h4⟩ hn) hd
theorem Ev.var {x:Str}{p:PV}(h:F2 sc.scope.names x=true)(hp:ρ x=some p):Ev C k sc own ρ (.Name x pos) p:=by
 refine c5 (I6.mp h) λh1 h2=> ?_
 simp only [I3] at h2
 cases hl:sc.scope.names.lookup x with
 |none=>replace h1:=hl▸h1;cases h1
 |some kd=>
  rw [hl] at h1
  cases kd with
  |«local»=>exact Ev.local hl hp h2
  |cell=>exact Ev.cell hl hp h2
  |free=>exact Ev.free hl hp h2 (I3 _▸h1)
  |_=>cases h1
structure Gd (C:Cfg)(W:List Addr)(s:Shared):Prop where
 inv:Inv C s
 low:∀a,C.N W a->a < s.heap.objs.size
 new:∀a∈W,C.h₀.get? a=none
theorem Gd.aA (g:Gd C W s)(e:ah C [] s J):Gd C W J:=⟨g.inv.jj e,λa h=>Hn (g.low a h) e.size,g.new⟩
theorem Gd.fresh (g:Gd C W s):¬C.N W s.heap.objs.size:=λh=>HB _ (g.low _ h)
theorem St.gd (x:St C W sc own ρ env s):Gd C W s:=⟨x.inv,λa h=>by
 rcases h with h |h
 ·exact x.inv.fV a h
 ·exact x.low a h,x.new⟩
abbrev aj (C:Cfg)(m:Value->Value->Sem Value)(p q r:PV):Prop:=
 ∀W A s v u,ak A 0->Gd C W s->Rr C W s.heap v p->Rr C W s.heap u q->Gives C W A (m v u) r s
abbrev One (C:Cfg)(m:Value->Sem Value)(p r:PV):Prop:=
 ∀W A s v,ak A 0->Gd C W s->Rr C W s.heap v p->Gives C W A (m v) r s
theorem ak.zero (h:ak A k):ak A 0:=h.mono (HK _)
theorem Ev.two {e e':Expr}{p q r:PV}(h1:Ev C k sc own ρ e p)(h2:Ev C k sc own ρ e' q){m:Value->Value->Sem Value}(hm:aj C m p q r)(rm:ak A k)(x:St C W sc own ρ env s):
 wpAny C.M A (eval e env) (λa f'=>wpAny C.M A (eval e' env) (λb y'=>wpAny C.M A (m a b) (λv J=>ah C [] s J/\Rr C W J.heap v r) (λ_ _=>False) y') (λ_ _=>False) f') (λ_ _=>False) s:=by
 refine Hb (h1 _ A env s rm x) ?_ (λ_ _ h=>h)
 rintro v s1 ⟨e1,r1⟩
 refine Hb (h2 _ A env s1 rm (x.aA e1)) ?_ (λ_ _ h=>h)
 rintro u s2 ⟨e2,r2⟩
 refine Hb (hm _ A s2 v u rm.zero (x.aA (e1.trans e2)).gd (e2.pe r1) r2) ?_ (λ_ _ h=>h)
 rintro w s3 ⟨e3,r3⟩
 exact⟨(e1.trans e2).trans e3,r3⟩
theorem Ev.bin {l r:Expr}{op:Operator}{p q t:PV}(h1:Ev C k sc own ρ l p)(h2:Ev C k sc own ρ r q)(hm:aj C (binaryOp op) p q t):Ev C k sc own ρ (.BinOp l op r pos) t:=λW A env s rm x=>
 wpAny_BinOp (Ev.two h1 h2 hm rm x)
theorem Ev.cmp {l r:Expr}{op:CmpOp}{p q t:PV}(h1:Ev C k sc own ρ l p)(h2:Ev C k sc own ρ r q)(hm:aj C (compareOp op) p q t)(hb:behindInMarks op r=false):Ev C k sc own ρ (.Compare l [op] [r] pos) t:=λW A env s rm x=>
 wpAny_Compare1 (Ev.two h1 h2 hm rm x) hb
theorem Ev.un {e:Expr}{op:UnaryOp}{p t:PV}(h1:Ev C k sc own ρ e p)(hm:One C (unaryOp op) p t):Ev C k sc own ρ (.UnaryOp op e pos) t:=λW A env s rm x=>by
 refine wpAny_UnaryOp (Hb (h1 _ A env s rm x) ?_ (λ_ _ h=>h))
 rintro v s1 ⟨e1,r1⟩
 refine Hb (hm _ A s1 v rm.zero (x.aA e1).gd r1) ?_ (λ_ _ h=>h)
 rintro w s3 ⟨e3,r3⟩
 exact⟨e1.trans e3,r3⟩
theorem aj.add {a b:Int}:aj C (binaryOp .Add) (.int a) (.int b) (.int (a+b)):=λW A s v u _ g h1 h2=>by
 obtain⟨t,rfl⟩:=h1;obtain⟨t',rfl⟩:=h2
 exact wpAny_add_int ⟨ah.tok _,_,rfl⟩
theorem aj.sub {a b:Int}:aj C (binaryOp .Sub) (.int a) (.int b) (.int (a - b)):=λW A s v u _ g h1 h2=>by
 obtain⟨t,rfl⟩:=h1;obtain⟨t',rfl⟩:=h2
 exact sub_int ⟨ah.tok _,_,rfl⟩
theorem aj.mul {a b:Int}(hm:IntMulOk a b):aj C (binaryOp .Mult) (.int a) (.int b) (.int (a*b)):=λW A s v u _ g h1 h2=>by
 obtain⟨t,rfl⟩:=h1;obtain⟨t',rfl⟩:=h2
 exact mul_int ⟨ah.tok _,_,rfl⟩ hm
theorem aj.mod {a b:Int}(hb:b≠0):aj C (binaryOp .Mod) (.int a) (.int b) (.int (a.fmod b)):=λW A s v u _ g h1 h2=>by
 obtain⟨t,rfl⟩:=h1;obtain⟨t',rfl⟩:=h2
 exact mod_int' hb ⟨ah.tok _,_,rfl⟩
theorem aj.floordiv {a b:Int}(hb:b≠0)(hp:Builtin.divisionGoesByPylong a b=false):aj C (binaryOp .FloorDiv) (.int a) (.int b) (.int (a.fdiv b)):=λW A s v u _ g h1 h2=>by
 obtain⟨t,rfl⟩:=h1;obtain⟨t',rfl⟩:=h2
 exact floordiv_int hb ⟨ah.tok _,_,rfl⟩ (.inl hp)
theorem One.neg {a:Int}:One C (unaryOp .USub) (.int a) (.int (-a)):=λW A s v _ g h1=>by
 obtain⟨t,rfl⟩:=h1
 exact neg_int ⟨ah.tok _,_,rfl⟩
theorem aj.ltI {a b:Int}:aj C (compareOp .Lt) (.int a) (.int b) (.bool (decide (a < b))):=λW A s v u _ g h1 h2=>by
 obtain⟨t,rfl⟩:=h1;obtain⟨t',rfl⟩:=h2
 exact wpAny_lt_int ⟨ah.refl _,rfl⟩
theorem aj.Fg {a b:Int}:aj C (compareOp .Gt) (.int a) (.int b) (.bool (decide (b < a))):=λW A s v u _ g h1 h2=>by
 obtain⟨t,rfl⟩:=h1;obtain⟨t',rfl⟩:=h2
 exact gt_int ⟨ah.refl _,rfl⟩
theorem aj.DM {a b:Int}:aj C (compareOp .Eq) (.int a) (.int b) (.bool (a==b)):=λW A s v u _ g h1 h2=>by
 obtain⟨t,rfl⟩:=h1;obtain⟨t',rfl⟩:=h2
 exact eq_int ⟨ah.refl _,rfl⟩
theorem aj.A5 {a b:Int}:aj C (compareOp .NotEq) (.int a) (.int b) (.bool (a !=b)):=λW A s v u _ g h1 h2=>by
 obtain⟨t,rfl⟩:=h1;obtain⟨t',rfl⟩:=h2
 exact ne_int ⟨ah.refl _,rfl⟩
def LstAt (C:Cfg)(W:List Addr)(h:Heap)(v:Value)(xs:List PV):Prop:=∃a vs n,v= .ref a/\a∉C.aq/\h.get? a=some (ao vs n)/\fe C W h vs xs
def TupAt (C:Cfg)(W:List Addr)(h:Heap)(v:Value)(xs:List PV):Prop:=∃a vs,v= .ref a/\a∉C.aq/\h.get? a=some (dX vs)/\fe C W h vs xs
def pM (C:Cfg)(W:List Addr)(h:Heap)(v:Value)(es:List (Str×PV)):Prop:=∃a ds n kvs,v= .ref a/\a∉C.aq/\h.get? a=some (bj ds n)/\C.S a ds kvs/\bz C.S (C.N W) h kvs es
theorem LstAt.of {h:Heap}{v:Value}{xs:List PV}(x:Rr C W h v (.lst xs)):LstAt C W h v xs:=by refine gm x λa vs n e f g r=> ?_;exact⟨a,vs,n,e,λq=>f (.inl q),g,r⟩
theorem TupAt.of {h:Heap}{v:Value}{xs:List PV}(x:Rr C W h v (.tup xs)):TupAt C W h v xs:=by refine g8 x λa vs e f g r=> ?_;exact⟨a,vs,e,λq=>f (.inl q),g,r⟩
theorem pM.of {h:Heap}{v:Value}{xs:List (Str×PV)}(x:Rr C W h v (.au xs)):pM C W h v xs:=by obtain⟨a,vs,n,kvs,e,f,g,sd,r⟩:=x;exact⟨a,vs,n,kvs,e,λq=>f (.inl q),g,sd,r⟩
theorem ah.lst {v:Value}{xs:List PV}(e:ah C [] s J)(x:LstAt C W s.heap v xs):LstAt C W J.heap v xs:=by refine gm x λa vs n q f g r=> ?_;exact⟨a,vs,n,q,f,e.keep _ _ f (by simp) g,e.jl r⟩
theorem ah.tup {v:Value}{xs:List PV}(e:ah C [] s J)(x:TupAt C W s.heap v xs):TupAt C W J.heap v xs:=by refine g8 x λa vs q f g r=> ?_;exact⟨a,vs,q,f,e.keep _ _ f (by simp) g,e.jl r⟩
theorem ah.au {v:Value}{xs:List (Str×PV)}(e:ah C [] s J)(x:pM C W s.heap v xs):pM C W J.heap v xs:=by obtain⟨a,vs,n,kvs,q,f,g,sd,r⟩:=x;exact⟨a,vs,n,kvs,q,f,e.keep _ _ f (by simp) g,sd,bz.mono e.up.k r⟩
def EW (C:Cfg)(k:Nat)(sc:Sc)(own:Own)(ρ:Str->Option PV)(e:Expr)(xs:List PV):Prop:=
 ∀W A env s,ak A k->St C W sc own ρ env s->wpAny C.M A (eval e env) (λv J=>ah C [] s J/\LstAt C W J.heap v xs) (λ_ _=>False) s
def Fs (C:Cfg)(k:Nat)(sc:Sc)(own:Own)(ρ:Str->Option PV)(e:Expr)(xs:List PV):Prop:=
 ∀W A env s,ak A k->St C W sc own ρ env s->wpAny C.M A (eval e env) (λv J=>ah C [] s J/\TupAt C W J.heap v xs) (λ_ _=>False) s
def Fq (C:Cfg)(k:Nat)(sc:Sc)(own:Own)(ρ:Str->Option PV)(e:Expr)(xs:List (Str×PV)):Prop:=
 ∀W A env s,ak A k->St C W sc own ρ env s->wpAny C.M A (eval e env) (λv J=>ah C [] s J/\pM C W J.heap v xs) (λ_ _=>False) s
theorem Ev.l {e:Expr}{xs:List PV}(h:Ev C k sc own ρ e (.lst xs)):EW C k sc own ρ e xs:=λW A env s r x=>Hb (h _ A env s r x) (λ_ _ q=>⟨q.1,.of q.2⟩) λ_ _ q=>q
theorem Ev.t {e:Expr}{xs:List PV}(h:Ev C k sc own ρ e (.tup xs)):Fs C k sc own ρ e xs:=λW A env s r x=>Hb (h _ A env s r x) (λ_ _ q=>⟨q.1,.of q.2⟩) λ_ _ q=>q
theorem Ev.d {e:Expr}{xs:List (Str×PV)}(h:Ev C k sc own ρ e (.au xs)):Fq C k sc own ρ e xs:=λW A env s r x=>Hb (h _ A env s r x) (λ_ _ q=>⟨q.1,.of q.2⟩) λ_ _ q=>q
theorem Ev.lo {e:Expr}{a:Addr}{xs:List PV}(h:Ev C k sc own ρ e (.raw (.ref a)))(ho:(a,PV.lst xs)∈own):EW C k sc own ρ e xs:=λW A env s r x=>
 Hb (h _ A env s r x) (λv J q=>by
  refine⟨q.1,?_⟩
  refine cZ ((x.aA q.1).owns _ ho) λ_ z3 f=> ?_;refine aL z3 λvs n g r=> ?_
  exact⟨a,vs,n,q.2,f,g,r⟩) λ_ _ q=>q
theorem Ev.do {e:Expr}{a:Addr}{xs:List (Str×PV)}(h:Ev C k sc own ρ e (.raw (.ref a)))(ho:(a,PV.au xs)∈own):Fq C k sc own ρ e xs:=λW A env s r x=>
 Hb (h _ A env s r x) (λv J q=>by
  refine⟨q.1,?_⟩
  obtain⟨_,⟨vs,n,kvs,g,sd,r⟩,f⟩:=(x.aA q.1).owns _ ho
  exact⟨a,vs,n,kvs,q.2,f,g,sd,r⟩) λ_ _ q=>q
theorem aP {h:Heap}{a:Addr}{vs:List Value}{n:Nat}(g:h.get? a=some (ao vs n)):h.IsList a vs.toArray:=⟨_,g,rfl,n,rfl⟩
theorem nH {h:Heap}{a:Addr}{vs:List Value}(g:h.get? a=some (dX vs)):IsTup h a vs.toArray:=by exact⟨_,g,rfl,0,rfl⟩
theorem Ev.item {v i:Expr}{xs:List PV}{j:Int}{n:Nat}{p:PV}(h1:EW C k sc own ρ v xs)(h2:Ev C k sc own ρ i (.int j))(hn:j=(n:Int))(hp:xs[n]? =some p)(hz:n < 2 ^ 62)
 (hs:∀o i',subscripted i false o i'=operate [o,i'] (getItem o i')):Ev C k sc own ρ (.Subscript v i pos) p:=λW A env s rm x=>by
 refine JQ (Hb (h1 _ A env s rm x) ?_ λ_ _ q=>q)
 rintro o s1 ⟨e1,l1⟩
 refine Hb (h2 _ A env s1 rm (x.aA e1)) ?_ λ_ _ q=>q
 rintro iv s2 ⟨e2,t,rfl⟩
 refine gm (e2.lst l1) λa vs m L1 f g r=> ?_;rw [L1]
 refine ae (aQ.get r hp) λu hu ru=> ?_
 exact tail_any (aP g).typeIs slot_list_getitem.lookup (wpAny_getItem_list (aP g) (by simp_all) (by lia) (by simp_all) ⟨e1.trans e2,ru⟩) (hs _ _)
theorem Ev.b9 {v i:Expr}{xs:List PV}{j:Int}{n:Nat}{p:PV}(h1:Fs C k sc own ρ v xs)(h2:Ev C k sc own ρ i (.int j))(hn:j=(n:Int))(hp:xs[n]? =some p)(hz:n < 2 ^ 62)
 (hs:∀o i',subscripted i false o i'=operate [o,i'] (getItem o i')):Ev C k sc own ρ (.Subscript v i pos) p:=λW A env s rm x=>by
 refine JQ (Hb (h1 _ A env s rm x) ?_ λ_ _ q=>q)
 rintro o s1 ⟨e1,l1⟩
 refine Hb (h2 _ A env s1 rm (x.aA e1)) ?_ λ_ _ q=>q
 rintro iv s2 ⟨e2,t,rfl⟩
 refine g8 (e2.tup l1) λa vs G' f g r=> ?_;refine G'▸?_
 refine ae (aQ.get r hp) λu hu ru=> ?_
 have Ll:n < vs.length:=by
  have:=List.getElem?_eq_some_iff.mp hu
  exact this.1
 refine item_tupleT (j:=n) (l:=vs) (nH g) (by simp_all) (by lia) ?_ hu ⟨e1.trans e2,ru⟩ (hs _ _)
 simp only [seqIndex?];simp;lia
def ab (C:Cfg)(k:Nat)(sc:Sc)(own:Own)(ρ:Str->Option PV)(es:List Expr)(ps:List PV):Prop:=
 ∀W A env s pos,ak A k->St C W sc own ρ env s->wpAny C.M A (spliced (backTo pos (starEach es env))) (λvs J=>ah C [] s J/\fe C W J.heap vs ps) (λ_ _=>False) s
theorem ab.nil:ab C k sc own ρ [] []:=λW A env s pos rm x=>Hj ⟨ah.refl _,rfl⟩
theorem ab.cons {e:Expr}{es:List Expr}{p:PV}{ps:List PV}(h:Ev C k sc own ρ e p)(hs:ab C k sc own ρ es ps)(hn:autoParam (∀env,starEach (e::es) env=(false,eval e env)::starEach es env) ng):ab C k sc own ρ (e::es) (p::ps):=λW A env s pos rm x=>by
 rw [hn]
 show wpAny C.M A (spliced ((false,eval e env)::backTo pos (starEach es env))) _ _ s
 refine Hc (Hb (h _ A env s rm x) ?_ λ_ _ q=>q)
 rintro v s1 ⟨e1,r1⟩
 refine Hc (Hj (Hc (HV (Hb (hs _ A env s1 pos rm (x.aA e1)) ?_ λ_ _ q=>q))))
 rintro vs s2 ⟨e2,r2⟩
 exact Hj ⟨e1.trans e2,v,vs,rfl,e2.pe r1,r2⟩
theorem Ev.list {es:List Expr}{ps:List PV}(h:ab C k sc own ρ es ps)(hz:ps.length<=sizeLine):Ev C k sc own ρ (.List es pos) (.lst ps):=λW A env s rm x=>by
 refine wpAny_List (Hb (h _ A env s pos rm x) ?_ λ_ _ q=>q)
 rintro vs s1 ⟨e1,r1⟩
 refine⟨by rw [aQ.length r1];exact hz,e1.trans (ah.push _ _),s1.heap.objs.size,vs,0,rfl,(x.aA e1).gd.fresh,Heap.get?_push_size _ rfl,?_⟩
 exact(ah.push (C:=C) (W:=W) (s:=s1) _ s1.toks).DT r1
theorem Ev.tuple {es:List Expr}{ps:List PV}{n:Nat}(h:ab C k sc own ρ es ps)(hz:ps.length<=sizeLine):Ev C k sc own ρ (.Tuple es n pos) (.tup ps):=λW A env s rm x=>by
 refine wpAny_Tuple (Hb (h _ A env s pos rm x) ?_ λ_ _ q=>q)
 rintro vs s1 ⟨e1,r1⟩
 refine⟨by rw [aQ.length r1];exact hz,e1.trans (ah.push _ _),s1.heap.objs.size,vs,rfl,(x.aA e1).gd.fresh,Heap.get?_push_size _ rfl,?_⟩
 exact(ah.push (C:=C) (W:=W) (s:=s1) _ s1.toks).DT r1
noncomputable abbrev bK:=Str->Option PV
noncomputable def upd (ρ:bK) (x:Str) (p:PV):bK:=λy=>if(y==x)=true then some p else ρ y
theorem fQ {ρ:bK}{x:Str}{p:PV}:upd ρ x p x=some p:=by unfold upd;rw [if_pos (Im x)]
theorem oP {ρ:bK}{x y:Str}{p:PV}{r:Option PV}(h:(y==x)=false)(h2:ρ y=r):upd ρ x p y=r:=by unfold upd;rw [if_neg (by rw [h];decide)];exact h2
noncomputable def aC:List (Str×PV)->bK
 |[]=>λ_=>none
 |(x,p)::r=>upd (aC r) x p
structure Cfg.Ok (C:Cfg):Prop where
 nolimit:C.h₀.NoLimit
 statics:cStatics∉C.aq
 g:C.h₀.Ns mainGlobals C.mg
 gT:mainGlobals∉C.aq
 b:C.h₀.Ns builtinsNs C.mb
 bT:builtinsNs∉C.aq
 noCode:∀t∈C.tabs,t.1∉C.aq
 inj:∀t∈C.tabs,∀t'∈C.tabs,t.2.1=t'.2.1->t=t'
 bmain:∃bm o,C.mg "__builtins__"=some (.ref bm)/\bm≠builtinsNs/\bm≠mainGlobals/\bm∉C.aq/\C.h₀.get? bm=some o/\o.cls= .type "module"/\o.dict=some builtinsNs/\o.data= .plain
theorem Inv.ns (i:Inv C s){a:Addr}{m:Str->Option Value}(ha:a∉C.aq)(h:C.h₀.Ns a m):s.heap.Ns a m:=by refine lQ h λo es ep g r=> ?_;exact⟨o,es,ep,i.old _ _ ha g,r⟩
theorem Inv.nolimit (i:Inv C s)(ok:C.Ok):s.heap.NoLimit:=by refine ae ok.nolimit λmc a b=> ?_;exact⟨mc,i.ns ok.statics a,b⟩
theorem Inv.oI (i:Inv C s){cd:Value}{q:Str}(h:C.h₀.CodeRec cd q)(hn:∀c,cd= .ref c->c∉C.aq):s.heap.CodeRec cd q:=by obtain⟨c,o,vs,t,e,g,d,r⟩:=h;exact⟨c,o,vs,t,e,i.old _ _ (hn c e) g,d,r⟩
inductive dy (C:Cfg) (W:List Addr) (h:Heap):List (Str×Value)->List (Str×PV)->Prop
 |nil:dy C W h [] []
 |cons {x:Str} {v:Value} {p:PV} {r:List (Str×Value)} {q:List (Str×PV)} (h1:Rr C W h v p) (h2:dy C W h r q):dy C W h ((x,v)::r) ((x,p)::q)
theorem dy.find {h:Heap}{b:List (Str×Value)}{q:List (Str×PV)}(r:dy C W h b q):∀{x:Str}{p:PV},aC q x=some p->∃v,b.lookup x=some v/\Rr C W h v p:=by
 induction r with
 |nil=>intro x p e;cases e
 | @cons y v p r q h1 h2 ih=>
  intro x p' e
  replace e:(if(x==y)=true then some p else aC q x)=some p':=e
  split at e
  ·rename_i OA
   cases e
   exact⟨v,by simp [Hl,OA],h1⟩
  ·rename_i OA
   refine ae (ih e) λu e1 e2=> ?_
   refine⟨u,?_,e2⟩
   simp only [Hl]
   have:(x==y)=false:=by simpa using OA
   refine this▸?_;exact e1
theorem et {x:Str}{v:Value}{r:List (Str×Value)}(nd:(((x,v)::r).map (·.1)).Nodup):r.lookup x=none:=by
 cases q:r.lookup x with
 |none=>rfl
 |some u=>exact absurd (He.mpr ⟨_,mem_of_lookup q,rfl⟩) ((Ht.mp nd).1)
theorem kI {kindOf:Str->Option NameKind}{x:Str}:∀{b:List (Str×Value)}{m:Str->Option Value},b.lookup x=none->bindL kindOf b m x=m x
 |[],_,_=>rfl
 |(n,v)::r,m,h=>by
  simp only [Hl] at h
  cases hx:x==n with
  |true=>replace h:=hx▸h;cases h
  |false=>
   replace h:=hx▸h
   simp only [bindL]
   rw [kI h]
   have:x≠n:=by simpa using hx
   split <;> simp [this]
theorem mf {kindOf:Str->Option NameKind}{x:Str}{v:Value}:∀{b:List (Str×Value)}{m:Str->Option Value},(b.map (·.1)).Nodup->b.lookup x=some v->kindOf x=some .local->bindL kindOf b m x=some v
 |(n,u)::r,m,nd,h,hk=>by
  simp only [Hl] at h
  simp only [bindL]
  cases hx:x==n with
  |true=>
   replace h:=hx▸h
   cases h
   have e:x=n:=by simpa using hx
   subst e
   rw [kI (et nd),if_pos hk]
   simp
  |false=>
   replace h:=hx▸h
   exact mf (Ht.mp nd).2 h hk
theorem ib {kindOf:Str->Option NameKind}{x:Str}:∀{b:List (Str×Value)}{m:Str->Option Value},b.lookup x=none->bindC kindOf b m x=m x
 |[],_,_=>rfl
 |(n,v)::r,m,h=>by
  simp only [Hl] at h
  cases hx:x==n with
  |true=>replace h:=hx▸h;cases h
  |false=>
   replace h:=hx▸h
   simp only [bindC]
   rw [ib h]
   have:x≠n:=by simpa using hx
   split <;> simp [this]
theorem ma {kindOf:Str->Option NameKind}{x:Str}{v:Value}:∀{b:List (Str×Value)}{m:Str->Option Value},(b.map (·.1)).Nodup->b.lookup x=some v->kindOf x≠some .local->bindC kindOf b m x=some v
 |(n,u)::r,m,nd,h,hk=>by
  simp only [Hl] at h
  simp only [bindC]
  cases hx:x==n with
  |true=>
   replace h:=hx▸h
   cases h
   have e:x=n:=by simpa using hx
   subst e
   rw [ib (et nd),if_neg hk]
   simp
  |false=>
   replace h:=hx▸h
   exact ma (Ht.mp nd).2 h hk
def vA (C:Cfg)(Wt:List Addr)(t:Shared)(a:Addr):Prop:=C.h₀.get? a=none/\(t.heap.objs.size<=a\/a∈Wt)
structure Bs (C:Cfg)(Wt:List Addr)(mine:Str->Bool)(t:Shared)(own:Own)(env:Env)(s:Shared):Prop where
 aA:ah C Wt t s
 loc:vA C Wt t env.locals
 cel:∀x c,mine x=true->env.kindOf x=some .cell->env.cells.lookup x=some c->vA C Wt t c
 owns:∀x∈own,vA C Wt t x.1
theorem ix {L:Addr}{m cm:Str->Option Value}{cs:List (Str×Addr)}(x:InCallC s L m cs cm J):ah C [] s J:=by
 refine fC x.toInCall.same λh' tk G'=> ?_;subst G'
 have:=KZ x.toInCall.ns
 exact ah.of_keeps x.toInCall.keep (Hg x.toInCall.fresh (H3 this))
theorem N.grow {L:Addr}(hL:s.heap.objs.size<=L)(e:ah C [] s J):∀a o,¬C.N W a->s.heap.get? a=some o->¬C.N (L::W) a/\J.heap.get? a=some o:=λa o n g=>by
 refine⟨λq=> ?_,e.keep a o (λq=>n (.inl q)) (by simp) g⟩
 rcases q with q |q
 ·exact n (.inl q)
 ·rcases Hf.mp q with q |q
  ·exact HB _ (Hn (q▸(Hp g)) hL)
  ·exact n (.inr q)
theorem dO.grow {L:Addr}{a:Addr}{p:PV}(hL:s.heap.objs.size<=L)(e:ah C [] s J)(ha:a∉C.aq)(x:dO C W s.heap a p):dO C (L::W) J.heap a p:=by
 cases p with
 |lst xs=>refine aL x λvs n g r=> ?_;exact⟨vs,n,e.keep _ _ ha (by simp) g,aQ.mono (N.grow hL e) r⟩
 |au xs=>refine wu x λvs n kvs g sd r=> ?_;exact⟨vs,n,kvs,e.keep _ _ ha (by simp) g,sd,bz.mono (N.grow hL e) r⟩
 |obj o=>exact⟨e.keep _ _ ha (by simp) x.1,x.2⟩
 |_=>exact x.elim
theorem St.enter {fd:FuncData}{a:Addr}{binds:List (Str×Value)}{q:List (Str×PV)}(g:Gd C W s)
 (K':∀x∈own,x.1∈W/\dO C W s.heap x.1 x.2/\x.1∉C.aq)
 (Lz:sc=⟨fd.scope,fd.qualname ++ ".<locals>.",fd.code⟩)(hg:fd.globals=mainGlobals)(hb:fd.builtins=builtinsNs)(hk:fd.scope.kind= .function)
 (nd:(binds.map (·.1)).Nodup)(rep:dy C W s.heap binds q)(PU:∀x,fd.scope.names.lookup x≠some .free)
 (Mx:∀x,fd.scope.names.lookup x=some .cell->((cellsFrom (s.heap.objs.size+1) fd.scope.names []).lookup x).isSome=true)
 (x:InCallC s (callEnvC fd s.heap.objs.size a).locals (bindL (callEnvC fd s.heap.objs.size a).kindOf binds λ_=>none) (callEnvC fd s.heap.objs.size a).cells (bindC (callEnvC fd s.heap.objs.size a).kindOf binds λ_=>none) J):
 St C (s.heap.objs.size::W) sc own (aC q) (callEnvC fd s.heap.objs.size a) J:=by
 have e:=ix (C:=C) x
 have LF:∀y,(callEnvC fd s.heap.objs.size a).kindOf y=fd.scope.names.lookup y:=λ_=>rfl
 have gr:∀{v p},Rr C W s.heap v p->Rr C (s.heap.objs.size::W) J.heap v p:=λh=>Rp.mono (N.grow (Hh _) e) h
 refine⟨g.inv.jj e,⟨by rw [Lz];rfl,hg,hb,by rw [Lz];rfl,by rw [Lz];rfl,by rw [Lz];exact hk⟩,λb hb=> ?_,λy hy=> ?_,⟨_,x.toInCall.ns,λy p h1 h2=> ?_⟩,λy hy=> ?_,x.apart,⟨G9,λh=>g.fresh (.inl h)⟩,λy hy h=>by
  have h1:=g.low y.1 (.inr (K' y hy).1)
  rw [h] at h1
  exact HB _ h1,jw (g.inv.beyond (Hh _)) g.new,λy _ c hc hW=> ?_⟩
 ·rcases Hf.mp hb with rfl |hb
  ·exact KZ x.toInCall.ns
  ·exact Hn (g.low b (.inr hb)) e.size
 ·refine cZ (K' y hy) λh1 h2 h3=> ?_
  exact⟨Ha _ h1,h2.grow (Hh _) e h3,h3⟩
 ·rw [Lz] at h1
  refine ae (rep.find h2) λv e1 e2=> ?_
  exact⟨v,mf nd e1 (by exact h1),gr e2⟩
 ·rw [Lz] at hy
  rcases hy with hy |hy
  ·refine cz (Ja.mp (Mx y hy)) λc hc=> ?_
   refine⟨c,_,hc,x.cell y c hc,λp hp=> ?_⟩
   refine ae (rep.find hp) λv e1 e2=> ?_
   exact⟨v,ma nd e1 (by simp only [LF,hy];decide),gr e2⟩
  ·exact absurd hy (PU y)
 ·have h1:=x.above y c (HX hc)
  rcases Hf.mp hW with rfl |hW
  ·exact HB _ h1
  ·exact HB _ (Kf (g.low c (.inr hW)) h1)
variable {We LC:List Addr}{mine:Str->Bool}{own':Own}{bs:Shared}
theorem dO.keep {h h':Heap}{a:Addr}{p:PV}(x:dO C W h a p)(k:∀b o,¬C.N W b->h.get? b=some o->Obj.bq o->¬C.N W b/\h'.get? b=some o)(ka:∀o,h.get? a=some o->Obj.bq o->h'.get? a=some o):dO C W h' a p:=by
 cases p with
 |lst xs=>refine aL x λvs n g r=> ?_;exact⟨vs,n,ka _ g λ_=>nofun,aQ.eY k r⟩
 |au xs=>refine wu x λvs n kvs g sd r=> ?_;exact⟨vs,n,kvs,ka _ g λ_=>nofun,sd,bz.eY k r⟩
 |obj o=>exact⟨ka _ x.1 x.2,x.2⟩
 |_=>exact x.elim
theorem jm {x y:Str}{p q:PV}(h:upd ρ x p y=some q):y=x/\p=q\/y≠x/\ρ y=some q:=by
 unfold upd at h
 split at h
 ·exact .inl ⟨JH ‹_›,H7 h⟩
 ·exact .inr ⟨λe=>‹¬_› (Ip.mpr e),h⟩
theorem ah.turn {a:Addr}{h':Heap}{tk:Nat}{o:Obj}(i:Inv C s)(hs:Heap.SameBut a s.heap h')(ho:s.heap.get? a=some o)(hd:∀vs,o.data≠.fields vs)(hW:a∈W):ah C W s {s with heap:=h',toks:=tk} where
 keep b o' _ hb e:=(hs.2 b (by rintro rfl;exact hb hW)).trans e
 size:=by simp only [show ({s with heap:=h',toks:=tk}:Shared).heap=h' from rfl,hs.1];exact Hh _
 tabs t ht ps x:=by
  have hc:t.1≠a:=by
   rintro rfl
   obtain⟨o2,vs,_,_,_,_,_,_,_,_,g,d,_⟩:=x.code
   replace g:=ho▸g;cases g
   exact hd _ d
  have hP:t.2.1≠a:=by
   intro e
   have g:=x.tab.2
   simp only [e,ho] at g
   cases g
   exact hd _ rfl
  refine⟨#[],?_⟩
  have:=x.extBut (h':=h') (a:=a) (λb o' hb e=>(hs.2 b hb).trans e) hc hP (λo' vs g d=>by replace g:=ho▸g;cases g;exact hd _ d)
  exact this
 os:=rfl
 gens:=id
theorem St.oR (x:St C W sc own ρ env s):∃o es n,s.heap.get? env.locals=some o/\o.data= .dict es n:=by
 obtain⟨m,⟨o,es,ep,g,d,_⟩,_⟩:=x.loc
 exact⟨o,es,ep,g,d⟩
theorem Bs.turn {a:Addr}{h':Heap}{tk:Nat}(b:Bs C LC mine bs own env s)(hs:Heap.SameBut a s.heap h')(ha:vA C LC bs a)(e:ah C [a] s {s with heap:=h',toks:=tk}):Bs C LC mine bs own env {s with heap:=h',toks:=tk} where
 aA:=by
  refine⟨λc o h1 h2 g=> ?_,Hg b.aA.size e.size,λt ht ps x=> ?_,e.os.trans b.aA.os,λh=>e.gens (b.aA.gens h)⟩
  ·have lt:=Hp g
   refine(hs.2 c ?_).trans (b.aA.keep c o h1 h2 g)
   rintro rfl
   rcases ha.2 with q |q
   ·exact HB _ (Hn lt q)
   ·exact h2 q
  ·obtain⟨m,y⟩:=b.aA.tabs t ht ps x
   obtain⟨m',z⟩:=e.tabs t ht _ y
   exact⟨m ++ m',by rwa [JM] at z⟩
 loc:=b.loc
 cel:=b.cel
 owns:=b.owns
theorem lr {cs:List (Str×Addr)}(hp:cs.Pairwise λx y=>x.2≠y.2){x y:Str}{c:Addr}(h1:cs.lookup x=some c)(h2:cs.lookup y=some c):x=y:=name_of_addr hp (mem_of_lookup h1) (mem_of_lookup h2)
theorem St.Ba (X:St C W sc own ρ env s){c:Addr}{o:Obj}(g:s.heap.get? c=some o)(hd:∀vs,o.data≠.fields vs):c∉C.aq:=λq=>by
 refine ae (He.mp q) λt' M' G'=> ?_;subst G'
 refine aL (X.inv.tabs t' M') λ_ _ _ z=> ?_
 exact hd _ (Hx Obj.data (H7 (g.symm.trans z.tab.2)))
theorem St.Dy {a:Addr}(e:ah C [a] s J)(ha:a∈W\/∃o v,s.heap.get? a=some o/\o.data= .cell v)(b:Addr)(o:Obj)(n:¬C.N W b)(g:s.heap.get? b=some o)(hc:Obj.bq o):¬C.N W b/\J.heap.get? b=some o:=
 ⟨n,e.keep b o (λq=>n (.inl q)) (λq=>by
  cases Hi.mp q
  rcases ha with q |⟨_,v,g',d⟩
  ·exact n (.inr q)
  ·exact hc v (H7 (g.symm.trans g')▸d)) g⟩
theorem St.chg {a:Addr}(X:St C W sc own ρ env s)(e:ah C [a] s J)(h0:C.h₀.get? a=none)(ha:a∈W\/∃o v,s.heap.get? a=some o/\o.data= .cell v)
 (K':∀y∈own',(y.1=a/\a∈W/\a∉C.aq/\a≠env.locals/\dO C W J.heap a y.2)\/(y.1≠a/\y∈own))
 (OZ:∀m,s.heap.Ns env.locals m->∃m',J.heap.Ns env.locals m'/\∀x p,sc.scope.names.lookup x=some .local->J' x=some p->(m' x=m x/\ρ x=some p)\/∃v,m' x=some v/\Rr C W J.heap v p)
 (Ms:∀x c,(sc.scope.names.lookup x=some .cell\/sc.scope.names.lookup x=some .free)->env.cells.lookup x=some c->(c≠a/\∀p,J' x=some p->ρ x=some p)\/(c=a/\∃cv,J.heap.IsCell c cv/\∀p,J' x=some p->∃v,cv=some v/\Rr C W J.heap v p)):St C W sc own' J' env J:=by
 have kk:=St.Dy (W:=W) e ha
 refine⟨X.inv.aA e λb hb=>Hi.mp hb▸h0,X.ok,λb hb=>Hn (X.low b hb) e.size,λy hy=> ?_,?_,λy hy=> ?_,X.apart,X.noLoc,λy hy=> ?_,X.new,X.celW⟩
 ·rcases K' y hy with ⟨h1,h2,h3,_,h4⟩ |⟨h1,h2⟩
  ·refine h1▸?_;exact⟨h2,h4,h3⟩
  ·have q:=X.owns y h2
   exact⟨q.1,q.2.1.keep kk (λo g _=>e.keep _ _ q.2.2 (λq=>h1 (Hi.mp q)) g),q.2.2⟩
 ·refine ae X.loc λm hm hl=> ?_
  refine ae (OZ m hm) λm' Ry M8=> ?_
  refine⟨m',Ry,λy q h1 h2=>(M8 y q h1 h2).elim (λh3=> ?_) id⟩
  refine ae (hl y q h1 h3.2) λv h5 h6=> ?_
  exact⟨v,h3.1.trans h5,Rp.eY kk h6⟩
 ·refine bp (X.cel y hy) λc cv h1 z8 h3=> ?_;refine ae z8 λoc h2 MH=> ?_
  rcases Ms y c hy h1 with ⟨hc,hr⟩ |⟨_,OF,h4,h5⟩
  ·refine⟨c,cv,h1,⟨oc,e.keep _ _ (X.Ba h2 (by refine MH▸?_;nofun)) (λq=>hc (Hi.mp q)) h2,MH⟩,λq hq=> ?_⟩
   refine ae (h3 q (hr q hq)) λv h4 h5=> ?_
   exact⟨v,h4,Rp.eY kk h5⟩
  ·exact⟨c,OF,h1,h4,h5⟩
 ·exact(K' y hy).elim (λh=>h.1▸h.2.2.2.1) λh=>X.ownLoc y h.2
theorem St.C8 (X:St C W sc own ρ env s)(h0:C.h₀.get? env.locals=none)(e:ah C [env.locals] s J)(hn:∀m,s.heap.Ns env.locals m->∃m',J.heap.Ns env.locals m'/\∀x p,sc.scope.names.lookup x=some .local->J' x=some p->(m' x=m x/\ρ x=some p)\/∃v,m' x=some v/\Rr C W J.heap v p)
 (hr:∀x p,sc.scope.names.lookup x≠some .local->J' x=some p->ρ x=some p):St C W sc own J' env J:=
 X.chg e h0 (.inl X.noLoc.1) (λy hy=> .inr ⟨X.ownLoc y hy,hy⟩) hn λx c hx hc=> .inl ⟨λq=>X.celW x hx c hc (q▸X.noLoc.1),λp=>hr x p (by rcases hx with h |h <;> (rw [h];decide))⟩
theorem fh {x:Str}{v:Value}{p:PV}(X:St C W sc own ρ env s)(B:Bs C LC mine bs own env s)(hl:sc.scope.names.lookup x=some .local)(hv:Rr C W s.heap v p){Q:Unit->Shared->Prop}{E:Value->Shared->Prop}
 (h:∀J,St C W sc own (upd ρ x p) env J->Bs C LC mine bs own env J->(∀u q,Rr C W s.heap u q->Rr C W J.heap u q)->Q () J):wpAny C.M A (storeName env x v) Q E s:=by
 refine ae X.loc λm hn _=> ?_
 refine lQ X.oR λo es n g d=> ?_
 refine wpAny_storeName_local (by unfold Env.kindOf;refine X.ok.scope▸?_;exact hl) hn (λh' Mu hs=> ?_) (by refine X.ok.scope▸X.ok.kind▸?_;rfl)
 have e:ah C [env.locals] s {s with heap:=h',toks:=s.toks+1}:=ah.turn X.inv hs g (by refine d▸?_;nofun) G9
 have rr:∀u q,Rr C W s.heap u q->Rr C W h' u q:=λu q r=>Rp.eY (St.Dy e (.inl X.noLoc.1)) r
 exact h _ (X.C8 B.loc.1 e (λm1 UK=>⟨_,Mu,λy q h1 h2=>(jm h2).elim (λa=> .inr ⟨v,if_pos a.1,a.2▸rr _ _ hv⟩) λa=> .inl ⟨(if_neg a.1).trans (Heap.Ns.agree hn UK y),a.2⟩⟩)
  λy q h1 h2=>(jm h2).elim (λa=>absurd (a.1▸hl) h1) And.right) (B.turn hs B.loc e) rr
theorem gc {x:Str}{v:Value}{p:PV}(X:St C W sc own ρ env s)(B:Bs C LC mine bs own env s)(hl:sc.scope.names.lookup x=some .cell)(hm:mine x=true)(hv:Rr C W s.heap v p){Q:Unit->Shared->Prop}{E:Value->Shared->Prop}
 (h:∀J,St C W sc own (upd ρ x p) env J->Bs C LC mine bs own env J->(∀u q,Rr C W s.heap u q->Rr C W J.heap u q)->Q () J):wpAny C.M A (storeName env x v) Q E s:=by
 refine bp (X.cel x (.inl hl)) λc cv hc z8 hr=> ?_;refine ae z8 λoc g d=> ?_
 have Qs:env.kindOf x=some .cell:=by unfold Env.kindOf;refine X.ok.scope▸?_;exact hl
 refine wpAny_storeName_cell (by refine X.ok.scope▸?_;exact X.ok.kind) Qs hc ⟨oc,g,d⟩ (λh' Mu hs=> ?_)
 have e:ah C [c] s {s with heap:=h',toks:=s.toks}:=ah.turn X.inv hs g (by refine d▸?_;nofun) G9
 have ha:c∈W\/∃o v,s.heap.get? c=some o/\o.data= .cell v:= .inr ⟨oc,cv,g,d⟩
 have rr:∀u q,Rr C W s.heap u q->Rr C W h' u q:=λu q r=>Rp.eY (St.Dy e ha) r
 have SE:=B.cel x c hm Qs hc
 have R7:=X.celW x (.inl hl) c hc
 exact h _ (X.chg e SE.1 ha (λy hy=> .inr ⟨λq=>R7 (q▸(X.owns y hy).1),hy⟩)
  (λm hm=>⟨m,(by refine lQ hm λo es ep g1 r1=> ?_;exact⟨o,es,ep,(hs.2 _ λq=>R7 (q▸X.noLoc.1)).trans g1,r1⟩),λy q h1 h2=> .inl ⟨rfl,(jm h2).elim (λa=>nomatch (a.1▸h1).symm.trans hl) And.right⟩⟩)
  λy c' hy h1=>by
   by_cases q1:y=x
   ·cases q1
    cases H7 (h1.symm.trans hc)
    exact .inr ⟨rfl,some v,Mu,λq hq=>⟨v,rfl,(jm hq).elim (λa=>a.2▸rr _ _ hv) λa=>absurd rfl a.1⟩⟩
   ·exact .inl ⟨λq=>q1 (lr X.apart h1 (q▸hc)),λq hq=>(jm hq).elim (λa=>absurd a.1 q1) And.right⟩) (B.turn hs SE e) rr
variable {t:Shared}
theorem dO.mono {h h':Heap}{a:Addr}{p:PV}(x:dO C W h a p)(k:∀b o,¬C.N W b->h.get? b=some o->¬C.N W' b/\h'.get? b=some o)(ka:∀o,h.get? a=some o->h'.get? a=some o):dO C W' h' a p:=by
 cases p with
 |lst xs=>refine aL x λvs n g r=> ?_;exact⟨vs,n,ka _ g,aQ.mono k r⟩
 |au xs=>refine wu x λvs n kvs g sd r=> ?_;exact⟨vs,n,kvs,ka _ g,sd,bz.mono k r⟩
 |obj o=>exact⟨ka _ x.1,x.2⟩
 |_=>exact x.elim
theorem St.shift (x:St C W sc own ρ env s)(e:ah C [] s J)(k:∀b o,¬C.N W b->s.heap.get? b=some o->¬C.N W' b/\J.heap.get? b=some o)
 (hW:∀a∈W',a < J.heap.objs.size)(hN:∀a∈W',C.h₀.get? a=none)(hC:∀a∈W',a∈W\/s.heap.objs.size<=a)(ho:∀y∈own,y.1∈W')(hL:env.locals∈W'):St C W' sc own ρ env J:=by
 have x':=x.aA e
 refine⟨x'.inv,x.ok,hW,λy hy=> ?_,?_,λy hy=> ?_,x.apart,⟨hL,x.noLoc.2⟩,x.ownLoc,hN,λy hy c hc hW=>by
  rcases hC c hW with q |q
  ·exact x.celW y hy c hc q
  ·refine bp (x.cel y hy) λc' _ h1 z8 _=> ?_;refine ae z8 λ_ g _=> ?_
   replace h1:=hc▸h1;cases h1
   exact absurd (Hp g) (Hs.mpr q)⟩
 ·refine cZ (x.owns y hy) λh1 h2 h3=> ?_
  exact⟨ho y hy,h2.mono k (λo g=>e.keep _ _ h3 (by simp) g),h3⟩
 ·refine ae x.loc λm h r=> ?_
  refine lQ h λo es ep g rest=> ?_
  refine⟨m,⟨o,es,ep,e.keep _ _ x.noLoc.2 (by simp) g,rest⟩,λy p h1 h2=> ?_⟩
  refine ae (r y p h1 h2) λv h3 h4=> ?_
  exact⟨v,h3,Rp.mono k h4⟩
 ·refine bp (x.cel y hy) λc cv h1 h2 h3=> ?_
  refine bp (x'.cel y hy) λc' OF Sb MH UH=> ?_
  replace Sb:=h1▸Sb;cases Sb
  refine⟨c,OF,h1,MH,λp hp=> ?_⟩
  refine ae (UH p hp) λv hv _=> ?_
  refine ae (h3 p hp) λQ' Qg r=> ?_
  have:v=Q':=by
   refine ae h2 λo g d=> ?_
   refine ae MH λo' g' d'=> ?_
   have gg:=e.keep c o (λq=>by
    refine ae (He.mp q) λt ht G'=> ?_;subst G'
    refine aL (x.inv.tabs t ht) λ_ _ _ z=> ?_
    have:=z.tab.2
    rw [g] at this
    injection this with this
    replace d:=this▸d
    cases d) (by simp) g
   replace g':=gg▸g';cases g'
   rw [d] at d'
   injection d' with d'
   simp only [hv,Qg] at d'
   injection d' with d'
   exact d'.symm
  subst this
  exact⟨v,hv,Rp.mono k r⟩
theorem St.grow {I:Addr}(x:St C W sc own ρ env s)(e:ah C [] s J)(h1:s.heap.objs.size<=I)(h2:I < J.heap.objs.size):St C (I::W) sc own ρ env J:=
 x.shift e (N.grow h1 e) (λa ha=>by
  rcases Hf.mp ha with rfl |ha
  ·exact h2
  ·exact Hn (x.low a ha) e.size) (jw (x.inv.beyond h1) x.new) (λa ha=>by
  rcases Hf.mp ha with rfl |ha
  ·exact .inr h1
  ·exact .inl ha) (λy hy=>Ha _ (x.owns y hy).1) (Ha _ x.noLoc.1)
theorem St.iW {a:Addr}{p:PV}(x:St C W sc own ρ env s)(ha:a∈W)(hc:dO C W s.heap a p)(ht:a∉C.aq)(hL:a≠env.locals):St C W sc ((a,p)::own) ρ env s where
 inv:=x.inv
 ok:=x.ok
 low:=x.low
 owns y hy:=by
  rcases Hf.mp hy with rfl |hy
  ·exact⟨ha,hc,ht⟩
  ·exact x.owns y hy
 loc:=x.loc
 cel:=x.cel
 apart:=x.apart
 noLoc:=x.noLoc
 ownLoc y hy:=by
  rcases Hf.mp hy with rfl |hy
  ·exact hL
  ·exact x.ownLoc y hy
 new:=x.new
 celW:=x.celW
theorem St.less (x:St C W sc own ρ env s)(h:∀y∈own',y∈own):St C W sc own' ρ env s where
 inv:=x.inv
 ok:=x.ok
 low:=x.low
 owns y hy:=x.owns y (h y hy)
 loc:=x.loc
 cel:=x.cel
 apart:=x.apart
 noLoc:=x.noLoc
 ownLoc y hy:=x.ownLoc y (h y hy)
 new:=x.new
 celW:=x.celW
theorem St.drop (x:St C W sc own ρ env s)(h:∀a∈W',a∈W)(ho:∀y∈own,y.1∈W')(hL:env.locals∈W'):St C W' sc own ρ env s:=
 x.shift (ah.refl s) (λb o n g=>⟨λq=>n (q.elim .inl λq=> .inr (h b q)),g⟩) (λa ha=>x.low a (h a ha)) (λa ha=>x.new a (h a ha)) (λa ha=> .inl (h a ha)) ho hL
theorem Rr.drop {h:Heap}{v:Value}{p:PV}(x:Rr C W h v p)(hW:∀a∈W',a∈W):Rr C W' h v p:=Rp.mono (λb o n g=>⟨λq=>n (q.elim .inl λq=> .inr (hW b q)),g⟩) x
theorem Rr.grow {I:Addr}{v:Value}{p:PV}(x:Rr C W s.heap v p)(e:ah C [] s J)(h1:s.heap.objs.size<=I):Rr C (I::W) J.heap v p:=Rp.mono (N.grow h1 e) x
theorem Bs.less (b:Bs C LC mine t own env s)(h:∀y∈own',∃p,(y.1,p)∈own):Bs C LC mine t own' env s:=⟨b.aA,b.loc,b.cel,λy hy=>by obtain⟨p,hp⟩:=h y hy;exact b.owns (y.1,p) hp⟩
theorem Bs.more {a:Addr}{p:PV}(b:Bs C LC mine t own env s)(h:vA C LC t a):Bs C LC mine t ((a,p)::own) env s:=⟨b.aA,b.loc,b.cel,λy hy=>by
 rcases Hf.mp hy with rfl |hy
 ·exact h
 ·exact b.owns _ hy⟩
theorem Bs.step (b:Bs C LC mine t own env s)(e:ah C [] s J):Bs C LC mine t own env J:=⟨b.aA.trans e.up,b.loc,b.cel,b.owns⟩
noncomputable def Cfg.turns (mine:Str->Bool) (own:Own) (env:Env):List Addr:=env.locals::(env.scope.names.filterMap (λx=>if(mine x.1 && env.kindOf x.1==some .cell)=true then env.cells.lookup x.1 else none) ++ own.map (·.1))
theorem Bs.start (b:Bs C LC mine t own env s):Bs C (Cfg.turns mine own env) mine s own env s where
 aA:=ah.refl s
 loc:=⟨b.loc.1,.inr G9⟩
 cel x c h1 hk h2:=⟨(b.cel x c h1 hk h2).1,.inr (Ha _ (HI _ (KG.mpr ⟨(x,.cell),mem_of_lookup hk,by simp_all⟩)))⟩
 owns x hx:=⟨(b.owns x hx).1,.inr (Ha _ (HT _ (He.mpr ⟨x,hx,rfl⟩)))⟩
theorem fP {P:Addr->Prop}(hl:P env.locals)(hc:∀x c,mine x=true->env.kindOf x=some .cell->env.cells.lookup x=some c->P c)(ho:∀y∈own,P y.1):∀a∈Cfg.turns mine own env,P a:=λa ha=>by
 rcases Hf.mp ha with rfl |ha
 ·exact hl
 ·rcases HA.mp ha with ha |ha
  ·refine ae (KG.mp ha) λx _ h=> ?_
   split at h
   ·rename_i q
    rw [HO,Ip] at q
    exact hc _ _ q.1 q.2 h
   ·cases h
  ·refine ae (He.mp ha) λy hy G'=> ?_;refine G'▸?_
   exact ho y hy
theorem Bs.ij (b:Bs C LC mine t own env s):∀a∈Cfg.turns mine own env,vA C LC t a:=fP b.loc b.cel b.owns
theorem St.n8 {x:Str}{c:Addr}(X:St C W sc own ρ env s)(hk:env.kindOf x=some .cell)(hc:env.cells.lookup x=some c):∃o v,s.heap.get? c=some o/\o.data= .cell v:=by
 refine bp (X.cel x (.inl (X.ok.scope▸hk))) λ_ cv h1 z8 _=> ?_;refine ae z8 λo h2 h3=> ?_
 exact⟨o,cv,H7 (h1.symm.trans hc)▸h2,h3⟩
theorem vR (X:St C W sc own ρ env s):∀a∈Cfg.turns mine own env,a < s.heap.objs.size:=
 fP (X.low _ X.noLoc.1) (λ_ _ _ hk hc=>by refine aL (X.n8 hk hc) λ_ _ g _=> ?_;exact Hp g) λy hy=>X.low _ (X.owns y hy).1
def Kp (C:Cfg)(W:List Addr)(L:Nat)(s J:Shared):Prop:=∀b o,¬C.N W b->s.heap.get? b=some o->Obj.bq o->b < L->J.heap.get? b=some o
theorem Kp.of {L:Nat}(x:St C W sc own ρ env s)(e:ah C We s J)(h:∀a∈We,a∈Cfg.turns mine own env\/L<=a):Kp C W L s J:=λb o n g nc lt=>
 e.keep b o (λq=>n (.inl q)) (λq=>(h b q).elim (λq=>fP (P:=λa=>a≠b) (λq=>n (.inr (q▸x.noLoc.1)))
  (λ_ _ _ hk hc q=>by refine aL (x.n8 hk hc) λ_ v g' d=> ?_;exact nc v (H7 (g.symm.trans (q▸g'))▸d)) (λy hy q=>n (.inr (q▸(x.owns y hy).1))) b q rfl)
  λq=>HB _ (Hn lt q)) g
theorem Bs.join (b:Bs C LC mine t own env s)(e:ah C We s J)(h:∀a∈We,vA C LC t a):Bs C LC mine t own env J where
 aA:=by
  refine⟨λc o h1 h2 g=> ?_,Hg b.aA.size e.size,λt' ht ps x=> ?_,e.os.trans b.aA.os,λh=>e.gens (b.aA.gens h)⟩
  ·refine e.keep c o h1 (λq=> ?_) (b.aA.keep c o h1 h2 g)
   rcases(h c q).2 with q |q
   ·exact HB _ (Hn (Hp g) q)
   ·exact h2 q
  ·obtain⟨m,y⟩:=b.aA.tabs t' ht ps x
   obtain⟨m',z⟩:=e.tabs t' ht _ y
   exact⟨m ++ m',by rwa [JM] at z⟩
 loc:=b.loc
 cel:=b.cel
 owns:=b.owns
theorem cg {h:Heap}{o:Obj}:h.objs.size < (h.push o).objs.size:=by simp only [HU];exact Io _
def dQ (o:Obj):Prop:=(∃n,o.cls= .type n)/\∃vs,o.data= .fields vs/\vs.size<=8/\∀q t,vs[1]?≠some (.str q t)
def we (o:Obj):Prop:=∃n,o.cls= .type n/\["enumerate","zip","dict_itemiterator","dict_reverseitemiterator","odict_iterator","itertools.zip_longest","itertools.pairwise"].contains n=false
structure CJ (C:Cfg)(W:List Addr)(L:Nat)(it:Value)(ps:List PV)(s:Shared)(I:Addr)(fp:List Addr)(P:Nat->Value->Prop)(LB:Nat->Heap->Prop):Prop where
 it:it= .ref I
 lo:L<=I
 hi:I < s.heap.objs.size
 walks:∀A:Around,A.handled=none->Walks C.prog C.w A I fp [I] ps.length P LB
 st:LB 0 s.heap
 safe:∀b∈fp,b=I\/(b < L/\¬C.N W b/\∃o,s.heap.get? b=some o/\Obj.bq o)
 sz:ps.length<=sizeLine
 val:∀i v,P i v->∀J W',(∀a∈W',a∈W\/L<=a)->Kp C W L s J->∃p,ps[i]? =some p/\Rr C W' J.heap v p
 obj:∀i h,LB i h->∃o,h.get? I=some o/\dQ o/\we o
 nt:I∉C.aq
def Src (C:Cfg)(W:List Addr)(L:Nat)(it:Value)(ps:List PV)(s:Shared):Prop:=∃I fp P LB,CJ C W L it ps s I fp P LB
def hK (C:Cfg)(k:Nat)(sc:Sc)(own:Own)(ρ:Str->Option PV)(e:Expr)(ps:List PV):Prop:=
 ∀W A env s,ak A k->St C W sc own ρ env s->wpAny C.M A (eval e env) (λv f'=>ah C [] s f'/\∀A':Around,∀Q:Value->Shared->Prop,∀E,
  (∀it y',ah C [] f' y'->Src C W f'.heap.objs.size it ps y'->Q it y')->wpAny C.M A' (pyIter v) Q E f') (λ_ _=>False) s
theorem getL {vs:List Value}{ps:List PV}{P:Addr->List DictEntry->List (Str×Value)->Prop}{N:Addr->Prop}{h:Heap}(r:aQ P N h vs ps){i:Nat}{v:Value}(e:vs[i]? =some v):∃p,ps[i]? =some p/\Rp P N h v p:=by
 have:i < ps.length:=by refine((aQ.length r))▸?_;exact(List.getElem?_eq_some_iff.mp e).1
 refine ae (aQ.get r (i:=i) (p:=ps[i]) (by simp)) λv' e' x=> ?_
 replace e':=e▸e';cases e'
 exact⟨_,by simp,x⟩
theorem N.less {s:Shared}(hW:∀a∈W',a∈W\/s.heap.objs.size<=a)(e:Kp C W s.heap.objs.size y' J)(e0:ah C [] s y'):∀a o,¬C.N W a->s.heap.get? a=some o->Obj.bq o->¬C.N W' a/\J.heap.get? a=some o:=λa o n g nc=>
 ⟨λq=>by
  rcases q with q |q
  ·exact n (.inl q)
  ·rcases hW a q with q |q
   ·exact n (.inr q)
   ·exact HB _ (Hn (Hp g) q),e a o n (e0.keep a o (λq=>n (.inl q)) (by simp) g) nc (Hp g)⟩
theorem xQ {v:Value}{xs:List PV}(i:Inv C f')(hr:Rr C W f'.heap v (.lst xs))(hz:xs.length<=sizeLine){A':Around}{Q:Value->Shared->Prop}{E:Value->Shared->Prop}(hQ:∀it y',ah C [] f' y'->Src C W f'.heap.objs.size it xs y'->Q it y'):wpAny C.M A' (pyIter v) Q E f':=by
 obtain⟨a,vs,n,rfl,f,g,r⟩:=hr
 refine wpAny_pyIter_list (aP g) ?_
 have ep:ah C [] f' {f' with heap:=f'.heap.push {cls:= .type "list_iterator",data:= .fields #[.ref a,.int 0 0]}}:=ah.push _ f'.toks
 refine hQ _ _ ep ⟨f'.heap.objs.size,[f'.heap.objs.size,a],λi v=>vs.toArray[i]? =some v,λi h=>h.IsListIter f'.heap.objs.size a i/\h.IsList a vs.toArray,{it:=rfl,lo:=Hh _,hi:=cg,walks:= ?_,st:= ?_,safe:= ?_,sz:=hz,val:= ?_,obj:= ?_,nt:=i.fresh}⟩
 ·intro A' hh;have:=Walks.list (prog:=C.prog) (w:=C.w) (A:=A') hh f'.heap.objs.size a (H2 (Hp g)) vs.toArray
  simp only [<-aQ.length r]
  exact this
 ·exact⟨⟨_,Heap.get?_push_size _ rfl,rfl,rfl⟩,(aP g).push _⟩
 ·intro b hb
  rcases Hf.mp hb with rfl |hb
  ·exact .inl rfl
  ·rw [Hi.mp hb]
   exact .inr ⟨Hp g,f,_,Heap.get?_push_of_some _ g,λ_=>nofun⟩
 ·intro i v hv J W' hW e'
  exact getL (aQ.eY (N.less hW e' ep) r) (by simpa using hv)
 ·intro i h zz;refine iI zz.1 λo ho hc hd=> ?_
  exact⟨o,ho,⟨⟨_,hc⟩,_,hd,by simp,by simp⟩,_,hc,by rfl⟩
theorem hK.lst {e:Expr}{xs:List PV}(h:Ev C k sc own ρ e (.lst xs))(hz:xs.length<=sizeLine):hK C k sc own ρ e xs:=λW A env s rm x=>Hb (h _ A env s rm x) (λ_ _ q=>⟨q.1,λ_ _ _ hQ=>xQ (x.aA q.1).inv q.2 hz hQ⟩) λ_ _ q=>q
theorem BU {v:Value}{xs:List PV}(i:Inv C f')(hr:Rr C W f'.heap v (.tup xs))(hz:xs.length<=sizeLine){A':Around}{Q:Value->Shared->Prop}{E:Value->Shared->Prop}(hQ:∀it y',ah C [] f' y'->Src C W f'.heap.objs.size it xs y'->Q it y'):wpAny C.M A' (pyIter v) Q E f':=by
 obtain⟨a,vs,rfl,f,g,r⟩:=hr
 refine KC (⟨_,g,rfl,_,rfl⟩) ?_
 have ep:ah C [] f' {f' with heap:=f'.heap.push {cls:= .type "tuple_iterator",data:= .fields #[.ref a,.int 0 0]}}:=ah.push _ f'.toks
 refine hQ _ _ ep ⟨f'.heap.objs.size,[f'.heap.objs.size,a],λi v=>vs.toArray[i]? =some v,λi h=>h.IsTupleIter f'.heap.objs.size a i/\h.IsTuple a vs.toArray,{it:=rfl,lo:=Hh _,hi:=cg,walks:= ?_,st:= ?_,safe:= ?_,sz:=hz,val:= ?_,obj:= ?_,nt:=i.fresh}⟩
 ·intro A' hh;have:=Walks.tuple (prog:=C.prog) (w:=C.w) (A:=A') hh f'.heap.objs.size a (H2 (Hp g)) vs.toArray
  simp only [<-aQ.length r]
  exact this
 ·exact⟨⟨_,Heap.get?_push_size _ rfl,rfl,rfl⟩,⟨_,Heap.get?_push_of_some _ g,rfl,_,rfl⟩⟩
 ·intro b hb
  rcases Hf.mp hb with rfl |hb
  ·exact .inl rfl
  ·rw [Hi.mp hb]
   exact .inr ⟨Hp g,f,_,Heap.get?_push_of_some _ g,λ_=>nofun⟩
 ·intro i v hv J W' hW e'
  exact getL (aQ.eY (N.less hW e' ep) r) (by simpa using hv)
 ·intro i h zz;refine iI zz.1 λo ho hc hd=> ?_
  exact⟨o,ho,⟨⟨_,hc⟩,_,hd,by simp,by simp⟩,_,hc,by rfl⟩
theorem hK.tup {e:Expr}{xs:List PV}(h:Ev C k sc own ρ e (.tup xs))(hz:xs.length<=sizeLine):hK C k sc own ρ e xs:=λW A env s rm x=>Hb (h _ A env s rm x) (λ_ _ q=>⟨q.1,λ_ _ _ hQ=>BU (x.aA q.1).inv q.2 hz hQ⟩) λ_ _ q=>q
noncomputable def signs (x:Str):List PV:=x.cps.toList.map λc=> .str ⟨#[c]⟩
theorem hK.str {e:Expr}{x:Str}(h:Ev C k sc own ρ e (.str x))(hz:x.cps.size<=sizeLine):hK C k sc own ρ e (signs x):=λW A env s rm X=>by
 refine Hb (h _ A env s rm X) ?_ λ_ _ q=>q
 rintro v f' ⟨e1,tk,rfl⟩
 refine⟨e1,λA' Q E hQ=> ?_⟩
 have hl:(signs x).length=x.cps.size:=by simp [signs]
 have fin:∀(o:Obj) (cls:String) (St:Nat->Heap->Prop),(∀i h,St i h->h.IsStrIter f'.heap.objs.size cls x tk i)->["enumerate","zip","dict_itemiterator","dict_reverseitemiterator","odict_iterator","itertools.zip_longest","itertools.pairwise"].contains cls=false->(∀A':Around,A'.handled=none->Walks C.prog C.w A' f'.heap.objs.size [f'.heap.objs.size] [f'.heap.objs.size] x.cps.size (SignAt x) St)->St 0 (f'.heap.push o)->
  Q (.ref f'.heap.objs.size) {f' with heap:=f'.heap.push o}:=λo cls St hi hn hw h0=>
  hQ _ _ (ah.push _ f'.toks) ⟨f'.heap.objs.size,[f'.heap.objs.size],SignAt x,St,{it:=rfl,lo:=Hh _,hi:=cg,walks:=λA' hA=>by refine hl▸?_;exact hw A' hA,st:=h0,safe:=λb hb=> .inl (Hi.mp hb),sz:=by rw [hl];exact hz,val:=λi v zz J W' hW e'=>aL zz λc u h1 h2=>⟨.str ⟨#[c]⟩,by simp [signs,h1],u,h2⟩,obj:=λi h q=>let ⟨o,ho,hc,hd⟩:=hi i h q;⟨o,ho,⟨⟨_,hc⟩,_,hd,by simp,by simp⟩,_,hc,hn⟩,nt:=(X.aA e1).inv.fresh}⟩
 cases ha:x.cps.all (· < 128)
 ·exact wpAny_pyIter_wide ha (fin _ _ _ (λ_ _ h=>h) (by rfl) (λA' hA=>Walks.strWide hA _ x tk) ⟨_,Heap.get?_push_size _ rfl,rfl,rfl⟩)
 ·exact wpAny_pyIter_ascii ha (fin _ _ _ (λ_ _ h=>h) (by rfl) (λA' hA=>Walks.strAscii hA _ x tk) ⟨_,Heap.get?_push_size _ rfl,rfl,rfl⟩)
theorem qt (h:Heap)(a:Addr)(f:Obj->Obj):(h.update a f).objs.size=h.objs.size:=(H4 ..).1
theorem jX {M:Model}{Γ:Ctx}{p:Pos}{t:Sem Fin}{fs:List Frame}{s J:Shared}{e:End}(h:Runs M Γ p t fs s e J):s.heap.objs.size<=J.heap.objs.size:=by
 induction h <;> (try simp only [Shared.setGen,HU,qt] at*) <;> first |lia |skip
theorem oy {M:Model}{Γ:Ctx}{p:Pos}{s J:Shared}{r:Result}(h:Returns M Γ p s r J):s.heap.objs.size<=J.heap.objs.size:=jX h
theorem q8 {M:Model}{Γ:Ctx}{p:Pos}{g:Nat}{r:Resume}{s J:Shared}{res:GenResult}(h:Wakes M Γ p g r s res J):s.heap.objs.size<=J.heap.objs.size:=by
 unfold Wakes at h
 split at h
 ·exact h.elim
 ·split at h
  ·refine g8 h λL0 f' hr _ _ Rw=> ?_;refine Rw▸?_;exact(jX hr:(s.setGen g .running).heap.objs.size<=f'.heap.objs.size)
  ·rw [h.2];exact Hh _
  ·rw [h.2];exact Hh _
 ·refine g8 h λL0 f' hr _ _ Rw=> ?_;rw [Rw];exact(jX hr:(s.setGen g .running).heap.objs.size<=f'.heap.objs.size)
 ·rw [h.2];exact Hh _
 ·rw [h.2];exact Hh _
open Sem in
theorem AV {α:Type}(M:Model)(Γ:Ctx)(n:Nat)(t:Sem α):∀(Q:α->Pos->Shared->Prop)(E:Value->Pos->Shared->Prop)(p:Pos)(s:Shared),n<=s.heap.objs.size->wp M Γ t Q E p s->
 wp M Γ t (λa p' J=>n<=J.heap.objs.size/\Q a p' J) (λe p' J=>n<=J.heap.objs.size/\E e p' J) p s:=by
 induction t with
 |pure a=>intro Q E p s hn h;exact⟨hn,h⟩
 |raise e=>intro Q E p s hn h;exact⟨hn,h⟩
 |unsupported _=>intro Q E p s _ h;exact h
 |finish _=>intro Q E p s _ h;exact h
 |rule _ k ih=>intro Q E p s hn h;exact ih () Q E p s hn h
 |«at» p' k ih=>intro Q E p s hn h;exact ih () Q E p' s hn h
 |load a _ k ih=>intro Q E p s hn h;refine ae h λo ho h=> ?_;exact⟨o,ho,ih o Q E p s hn h⟩
 |update a _ f k ih=>intro Q E p s hn h;exact⟨h.1,ih () Q E p _ (by simpa only [qt] using hn) h.2⟩
 |loadIfAlive a k ih=>intro Q E p s hn h;exact ih _ Q E p s hn h
 |point _ k ih=>intro Q E p s hn h;exact ih () Q E p s hn h
 |register _ _=>intro Q E p s _ h;exact h
 |alloc o k ih=>intro Q E p s hn h;exact ih _ Q E p _ (by simp_all;exact Nat.le_add_right_of_le hn) h
 |fresh k ih=>intro Q E p s hn h;exact ih _ Q E p _ hn h
 |ask k ih=>intro Q E p s hn h;exact ih _ Q E p s hn h
 |choose src m k ih=>intro Q E p s hn h;exact⟨h.1,ih _ Q E p _ hn h.2⟩
 |os q _ k ih=>intro Q E p s hn h;exact ih _ Q E p _ hn h
 |call c hd _ _ k ih=>intro Q E p s hn h;refine aL h λr J hr h=> ?_;exact⟨r,J,hr,ih r Q E p J (Hg hn (oy hr)) h⟩
 |handled own k ih=>intro Q E p s hn h;exact ih _ Q E p s hn h
 |genState g k ih=>intro Q E p s hn h;refine ae h λst hs h=> ?_;exact⟨st,hs,ih _ Q E p s hn h⟩
 |newGen c k ih=>intro Q E p s hn h;exact ih _ Q E p _ hn h
 |resume g r _ k ih=>intro Q E p s hn h;refine aL h λres J hw h=> ?_;exact⟨res,J,hw,ih res Q E p J (Hg hn (q8 hw)) h⟩
 |yield _ _ _ _=>intro Q E p s _ h;exact h
 |stack k ih=>intro Q E p s hn h;exact ih _ Q E p s hn h
 |fork _ _=>intro Q E p s _ h;exact h
 |thread k ih=>intro Q E p s hn h;exact ih _ Q E p s hn h
 |await _ _ _ _ _=>intro Q E p s _ h;exact h
variable {α:Type}{M:Model}
theorem mR {t:Sem α}{Q:α->Shared->Prop}{E:Value->Shared->Prop}{n:Nat}(hn:n<=s.heap.objs.size)(h:wpAny M A t Q E s):
 wpAny M A t (λa J=>n<=J.heap.objs.size/\Q a J) (λe J=>n<=J.heap.objs.size/\E e J) s:=
 λΓ p Vx=>AV M Γ n t _ _ p s hn (h Γ p Vx)
theorem ba {t:Sem α}{Q:α->Shared->Prop}{E:Value->Shared->Prop}
 (h:wpAny M A t (λa J=>s.heap.objs.size<=J.heap.objs.size->Q a J) (λe J=>s.heap.objs.size<=J.heap.objs.size->E e J) s):wpAny M A t Q E s:=
 Hb (mR (Hh _) h) (λ_ _ x=>x.2 x.1) (λ_ _ x=>x.2 x.1)
variable {j':bK}
theorem ah.ext {h':Heap}{tk:Nat}(he:Heap.ExtBut s.heap.objs.size s.heap h')(hz:s.heap.objs.size<=h'.objs.size):ah C W s {s with heap:=h',toks:=tk}:=
 ah.of_keeps (λb o g=>he b o (H2 (Hp g)) g) hz
def bg (C:Cfg)(sc:Sc)(mine:Str->Bool)(ρ:bK)(target:Expr)(p:PV)(J':bK):Prop:=
 ∀W own A env s v t Wt,A.handled=none->St C W sc own ρ env s->Bs C Wt mine t own env s->Rr C W s.heap v p->
  wpAny C.M A (assign target env v) (λ_ J=>St C W sc own J' env J/\Bs C Wt mine t own env J/\∀u q,Rr C W s.heap u q->Rr C W J.heap u q) (λ_ _=>False) s
theorem bg.local {x:Str}{p:PV}(hl:sc.scope.names.lookup x=some .local):bg C sc mine ρ (.Name x pos) p (upd ρ x p):=λW own A env s v t Wt _ X B r=>
 wpAny_assign_Name (fh X B hl r λJ a b c=>⟨a,b,c⟩)
theorem bg.cell {x:Str}{p:PV}(hl:sc.scope.names.lookup x=some .cell)(hm:mine x=true):bg C sc mine ρ (.Name x pos) p (upd ρ x p):=λW own A env s v t Wt _ X B r=>
 wpAny_assign_Name (gc X B hl hm r λJ a b c=>⟨a,b,c⟩)
def bD (C:Cfg)(sc:Sc)(mine:Str->Bool)(ρ:bK)(targets:List Expr)(ps:List PV)(J':bK):Prop:=
 ∀W own A env s vs t Wt,A.handled=none->St C W sc own ρ env s->Bs C Wt mine t own env s->fe C W s.heap vs ps->
  wpAny C.M A (assignInOrder ((assignEach targets env).map (·.2)) vs) (λ_ J=>St C W sc own J' env J/\Bs C Wt mine t own env J/\∀u q,Rr C W s.heap u q->Rr C W J.heap u q) (λ_ _=>False) s
theorem bD.nil:bD C sc mine ρ [] [] ρ:=λW own A env s vs t Wt _ X B r=>by
 exact Hj ⟨X,B,λ_ _ h=>h⟩
theorem fe.Ga {h h':Heap}:∀{ps:List PV}{vs:List Value},(∀u q,Rr C W h u q->Rr C W h' u q)->fe C W h vs ps->fe C W h' vs ps
 |[],_,_,x=>x
 |p::ps,_,k,⟨v,r,e,x,y⟩=>⟨v,r,e,k _ _ x,fe.Ga k y⟩
theorem bD.cons {x:Expr}{xs:List Expr}{p:PV}{ps:List PV}(h:bg C sc mine ρ x p j')(hs:bD C sc mine j' xs ps J')(hn:∀env,assignEach (x::xs) env=(false,assign x env)::assignEach xs env):
 bD C sc mine ρ (x::xs) (p::ps) J':=λW own A env s vs t Wt hh X B r=>by
 refine bp r λv us G' r1 r2=> ?_;rw [G']
 rw [hn]
 refine Hc (HV (Hb (h _ _ A env s v t Wt hh X B r1) ?_ λ_ _ q=>q))
 intro _ s1 zz;refine cZ zz λX1 B1 k1=> ?_
 refine Hb (hs _ _ A env s1 us t Wt hh X1 B1 (fe.Ga k1 r2)) ?_ λ_ _ q=>q
 intro _ s2 zz;refine cZ zz λX2 B2 k2=> ?_
 exact⟨X2,B2,λu q h=>k2 u q (k1 u q h)⟩
theorem bg.tuple {xs:List Expr}{n:Nat}{ps:List PV}(hs:bD C sc mine ρ xs ps J')(hn:∀env,(assignEach xs env).length=ps.length/\(assignEach xs env).findIdx? (·.1)=none):bg C sc mine ρ (.Tuple xs n pos) (.tup ps) J':=λW own A env s v t Wt hh X B r=>by
 obtain⟨a,vs,rfl,f,g,r⟩:=r
 refine Hc (Iw ?_)
 unfold unpack
 refine((hn env).2)▸(show (assignEach xs env).length=vs.toArray.size by refine((hn env).1)▸?_;exact(aQ.length r).symm)▸?_
 refine Hc (HV (ba (wpAny_unpackItems_tuple hh (⟨_,g,rfl,_,rfl⟩) λh' he hz=> ?_)))
 have e:ah C [] s {s with heap:=h'}:=ah.ext (tk:=s.toks) he hz
 refine Hb (hs _ _ A env _ vs t Wt hh (X.aA e) (B.step e) (e.jl r)) ?_ λ_ _ q=>q.elim
 intro _ s2 zz;refine cZ zz λX2 B2 k2=> ?_
 exact⟨X2,B2,λu q h=>k2 u q (e.pe h)⟩
theorem Walks.next_item {I:Addr}{fp:List Addr}{n:Nat}{P:Nat->Value->Prop}{LB:Nat->Heap->Prop}(Wk:Walks C.prog C.w A I fp [I] n P LB){i:Nat}(hi:i < n)(st:LB i s.heap){Q:Option Value->Shared->Prop}{E:Value->Shared->Prop}
 (hQ:∀v h' tk,P i v->LB (i+1) h'->(∀b o,b≠I->s.heap.get? b=some o->h'.get? b=some o)->s.heap.objs.size<=h'.objs.size->Q (some v) {s with heap:=h',toks:=tk}):wpAny C.M A (pyNext (.ref I)) Q E s:=
 ba (Wk.item i s _ _ hi st λv h' tk hp hs hk hz=>hQ v h' tk hp hs (λb o hb=>hk b o (by simpa using hb)) hz)
theorem Walks.vd {I:Addr}{fp:List Addr}{n:Nat}{P:Nat->Value->Prop}{LB:Nat->Heap->Prop}(Wk:Walks C.prog C.w A I fp [I] n P LB)(st:LB n s.heap){Q:Option Value->Shared->Prop}{E:Value->Shared->Prop}
 (hQ:∀h' tk,(∀b o,b≠I->s.heap.get? b=some o->h'.get? b=some o)->s.heap.objs.size<=h'.objs.size->Q none {s with heap:=h',toks:=tk}):wpAny C.M A (pyNext (.ref I)) Q E s:=
 ba (Wk.done s _ _ st λh' tk hk hz=>hQ h' tk (λb o hb=>hk b o (by simpa using hb)) hz)
theorem bO.i9 {h h':Heap}{c P I:Addr}{q:Str}{ps:Array Value}{o:Obj}(x:bO h c P q ps)(ho:h.get? I=some o)(hi:dQ o)(k:∀b o,b≠I->h.get? b=some o->h'.get? b=some o):bO h' c P q ps:=by
 obtain⟨⟨n,hc⟩,vs,hd,hz,h1⟩:=hi
 have SU:c≠I:=by
  rintro rfl
  refine g8 x.tab.1 λo' Qz a _ b e=> ?_
  replace a:=ho▸a;cases a
  replace b:=hd▸b;cases b
  rw [Array.getElem?_eq_none (by exact vS hz rfl)] at e
  cases e
 have Tx:P≠I:=by
  rintro rfl
  have a:=x.tab.2
  replace a:=ho▸a;cases a
  cases hc
 refine⟨x.code.extBut k SU Tx,x.tab.extBut k SU Tx,λpos c' e=> ?_⟩
 obtain⟨c₂,o',Qz,t',e1,e2,e3,e4⟩:=x.recs pos c' e
 refine⟨c₂,o',Qz,t',e1,k _ _ ?_ e2,e3,e4⟩
 rintro rfl
 replace e2:=ho▸e2;cases e2
 replace e3:=hd▸e3;cases e3
 exact h1 _ _ e4
theorem dQ.bq {o:Obj}(h:dQ o):Obj.bq o:=by
 obtain⟨_,vs,hd,_⟩:=h
 intro v e
 replace e:=hd▸e;cases e
theorem ah.i9 {I:Addr}{h':Heap}{tk:Nat}{o:Obj}(ho:s.heap.get? I=some o)(hi:dQ o)(k:∀b o,b≠I->s.heap.get? b=some o->h'.get? b=some o)(hz:s.heap.objs.size<=h'.objs.size):ah C [I] s {s with heap:=h',toks:=tk} where
 keep b o' _ hb e:=k b o' (by simpa using hb) e
 size:=hz
 tabs t ht ps x:=⟨#[],(x.i9 ho hi k)⟩
 os:=rfl
 gens:=id
theorem rM {target:Expr}{I:Addr}{o:Obj}{v:Value}{Q:Unit->Shared->Prop}{E:Value->Shared->Prop}(ho:s.heap.get? I=some o)(hi:we o)(h:Q () s):wpAny C.M A (letOwnedTupleGo target (.ref I) v) Q E s:=by
 refine ae hi λn hc hn=> ?_
 have key:∀a,wpAny C.M A (do
  let o <-load I
  match o.cls,o.data with
  | .type n,.fields vs=>
   if ["enumerate","zip","dict_itemiterator","dict_reverseitemiterator","odict_iterator","itertools.zip_longest","itertools.pairwise"].contains n && vs[0]? ==some (rawInt a) then
    rule "for.unpacks-the-owned-tuple"
    updateField I 0 .none
  |_,_=>pure ()) Q E s:=λa=>by
  refine Hc (wpAny_load ho ?_)
  refine hc▸?_
  cases o.data <;> first
   |exact Hj h
   |(simp only [hn,Bool.false_and,IH,JL];exact Hj h)
 cases target <;> first
  |exact Hj h
  |(cases v <;> first
   |exact Hj h
   |exact key _)
noncomputable def cE (e:Expr):Bool:=(DV e).1
structure Dv (need:Bool)(C:Cfg)(W:List Addr)(L:Nat)(it:Value)(ps:List PV)(s:Shared)(I:Addr)(LB:Nat->Heap->Prop):Prop where
 it:it= .ref I
 lo:L<=I
 hi:I < s.heap.objs.size
 st:LB 0 s.heap
 sz:ps.length<=sizeLine
 obj:∀i h,LB i h->∃o,h.get? I=some o/\dQ o
 nt:I∉C.aq
 frame:∀i (f' y':Shared),Kp C W L s f'->LB i f'.heap->Kp C W L s y'->(∀o,f'.heap.get? I=some o->y'.heap.get? I=some o)->LB i y'.heap
 step:∀{A:Around},A.handled=none->∀{i:Nat} {J:Shared} {target:Expr} {W':List Addr} {post:Option Value->Shared->Prop} {E:Value->Shared->Prop},i < ps.length->(need=true->cE target=true)->LB i J.heap->Kp C W L s J->
  (∀a∈W',a∈W\/L<=a)->(∀a∈W',a < J.heap.objs.size)->
  (∀v f',(∀(Q:Unit->Shared->Prop) (E':Value->Shared->Prop),(∀p h' tk,ps[i]? =some p->LB (i+1) h'->(∀b o,b≠I->J.heap.get? b=some o->h'.get? b=some o)->J.heap.objs.size<=h'.objs.size->Rr C W' h' v p->Q () {J with heap:=h',toks:=tk})->
   wpAny C.M A (letOwnedTupleGo target (.ref I) v) Q E' f')->post (some v) f')->
  wpAny C.M A (pyNext (.ref I)) post E J
 done:∀{A:Around},A.handled=none->∀{J:Shared} {Q:Option Value->Shared->Prop} {E:Value->Shared->Prop},LB ps.length J.heap->
  (∀h' tk,(∀b o,b≠I->J.heap.get? b=some o->h'.get? b=some o)->J.heap.objs.size<=h'.objs.size->Q none {J with heap:=h',toks:=tk})->wpAny C.M A (pyNext (.ref I)) Q E J
 self:∀{A:Around},A.handled=none->∀{J:Shared} {Q:Value->Shared->Prop} {E:Value->Shared->Prop},LB 0 J.heap->Q (.ref I) J->wpAny C.M A (pyIter (.ref I)) Q E J
def Sq (need:Bool)(C:Cfg)(W:List Addr)(L:Nat)(it:Value)(ps:List PV)(s:Shared):Prop:=∃I LB,Dv need C W L it ps s I LB
theorem Kp.but {L:Nat}{I:Addr}{h':Heap}{tk:Nat}(x:Kp C W L s J)(hI:L<=I)(k:∀b o,b≠I->J.heap.get? b=some o->h'.get? b=some o):Kp C W L s {J with heap:=h',toks:=tk}:=λb o n g nc lt=>
 k b o (by rintro rfl;exact HB _ (Hn lt hI)) (x b o n g nc lt)
theorem CJ.sq {L:Nat}{it:Value}{ps:List PV}{s:Shared}{I:Addr}{fp:List Addr}{P:Nat->Value->Prop}{LB:Nat->Heap->Prop}(S:CJ C W L it ps s I fp P LB):Dv false C W L it ps s I LB where
 it:=S.it
 lo:=S.lo
 hi:=S.hi
 st:=S.st
 sz:=S.sz
 obj i h q:=by obtain⟨o,h1,h2,_⟩:=S.obj i h q;exact⟨o,h1,h2⟩
 nt:=S.nt
 frame i f' y' k1 h1 k2 hI:=by
  refine(S.walks {} rfl).frame _ _ _ h1 λb hb o g=> ?_
  rcases S.safe b hb with q |⟨q1,q2,ob,q3,q4⟩
  ·subst q;exact hI o g
  ·have:=k1 b ob q2 q3 q4 q1
   rw [this] at g;cases g
   exact k2 b _ q2 q3 q4 q1
 step:=λ{A} hA {i} {J} {target} {W'} {post} {E} hi _ Ml kp hW _ hQ=>by
  refine Walks.next_item (S.walks _ hA) hi Ml λv h' tk hp MG hk hz=> ?_
  obtain⟨o,ho,_,hf⟩:=S.obj _ _ MG
  obtain⟨p,Pt,hr⟩:=S.val _ v hp {J with heap:=h',toks:=tk} _ hW (kp.but S.lo hk)
  exact hQ v _ λQ E' q=>rM ho hf (q p h' tk Pt MG hk hz hr)
 done:=λ{A} hA {J} {Q} {E} Ml hQ=>Walks.vd (S.walks _ hA) Ml hQ
 self:=λ{A} hA {J} {Q} {E} Ml hQ=>(S.walks _ hA).self 0 _ _ _ Ml hQ
theorem Src.sq {L:Nat}{it:Value}{ps:List PV}{s:Shared}(S:Src C W L it ps s):Sq false C W L it ps s:=by obtain⟨_,_,_,_,S⟩:=S;exact⟨_,_,S.sq⟩
def eu (need:Bool)(C:Cfg)(k:Nat)(sc:Sc)(own:Own)(ρ:Str->Option PV)(e:Expr)(ps:List PV):Prop:=
 ∀W A env s,ak A k->St C W sc own ρ env s->wpAny C.M A (eval e env) (λv f'=>ah C [] s f'/\∀A':Around,∀Q:Value->Shared->Prop,∀E,
  (∀it y',ah C [] f' y'->Sq need C W f'.heap.objs.size it ps y'->Q it y')->wpAny C.M A' (pyIter v) Q E f') (λ_ _=>False) s
noncomputable abbrev aX:=eu false
theorem hK.g {e:Expr}{ps:List PV}(h:hK C k sc own ρ e ps):aX C k sc own ρ e ps:=λW A env s rm X=>
 Hb (h W A env s rm X) (λv f' q=>⟨q.1,λA' Q E hQ=>q.2 A' Q E λit y' e2 S=>hQ it y' e2 S.sq⟩) λ_ _ q=>q
theorem aX.lst {e:Expr}{xs:List PV}(h:Ev C k sc own ρ e (.lst xs))(hz:xs.length<=sizeLine):aX C k sc own ρ e xs:=(hK.lst h hz).g
theorem aX.tup {e:Expr}{xs:List PV}(h:Ev C k sc own ρ e (.tup xs))(hz:xs.length<=sizeLine):aX C k sc own ρ e xs:=(hK.tup h hz).g
theorem aX.str {e:Expr}{x:Str}(h:Ev C k sc own ρ e (.str x))(hz:x.cps.size<=sizeLine):aX C k sc own ρ e (signs x):=(hK.str h hz).g
variable {Wt:List Addr}{Q:Flow->Shared->Prop}{E:Value->Shared->Prop}{rest:List Stmt}
theorem St.turn {a:Addr}{h':Heap}{tk:Nat}{o:Obj}(x:St C W sc own ρ env s)(ha:a∈W)(hL:a≠env.locals)(hm:C.h₀.get? a=none)
 (k:∀b o,b≠a->s.heap.get? b=some o->h'.get? b=some o)(e:ah C [a] s {s with heap:=h',toks:=tk})(ho:s.heap.get? a=some o)(QP:Obj.bq o)
 (K':∀y∈own',(y.1=a/\dO C W h' a y.2)\/(y.1≠a/\y∈own)):St C W sc own' ρ env {s with heap:=h',toks:=tk}:=by
 have ht:a∉C.aq:=λq=>by
  refine ae (He.mp q) λt ht G'=> ?_;subst G'
  refine aL (x.inv.tabs t ht) λ_ _ y _=> ?_
  exact nomatch hm.symm.trans y.2
 exact x.chg e hm (.inl ha) (λy hy=>(K' y hy).elim (λq=> .inl ⟨q.1,ha,ht,hL,q.2⟩) .inr)
  (λm hm=>⟨m,(by refine lQ hm λo es ep g r=> ?_;exact⟨o,es,ep,k _ _ (HE hL) g,r⟩),λ_ _ _ h=> .inl ⟨rfl,h⟩⟩) λy c hy hc=> .inl ⟨λq=>x.celW y hy c hc (q▸ha),λ_ h=>h⟩
theorem memC {α:Type}{P:α->Prop}{a:α}{l:List α}(h:P a)(hs:∀x∈l,P x):∀x∈a::l,P x:=Jx.2 ⟨h,hs⟩
theorem cps {P:Prop}(h:∀G:Prop,(P->G)->G):P:=h P id
theorem js {O own:Own}(h:O.map (·.1)=own.map (·.1))(y:Addr×PV)(hy:y∈O):∃p,(y.1,p)∈own:=by
 have q:y.1∈O.map (·.1):=Ks hy
 rw [h] at q
 refine ae (He.mp q) λz hz e=> ?_
 exact⟨z.2,e▸hz⟩
theorem mS {O:Own}{I:Addr}{p:PV}(h:O.map (·.1)=own.map (·.1)):∀a∈Cfg.turns mine ((I,p)::O) env,a∈I::Cfg.turns mine own env:=λa ha=>by
 unfold Cfg.turns at ha ⊢
 simp only [Hm,h] at ha
 simp only [Hf,HA] at ha ⊢
 rcases ha with h |h |h |h
 ·exact .inr (.inl h)
 ·exact .inr (.inr (.inl h))
 ·exact .inl h
 ·exact .inr (.inr (.inr h))
theorem uj {need:Bool}{target:Expr}{body:List Stmt}{ps:List PV}{v:Value}(X:St C W sc own ρ env s)(B:Bs C Wt mine t own env s)(rm:ak A k)
 (hit:∀(Q:Value->Shared->Prop) E,(∀it y',ah C [] s y'->Sq need C W s.heap.objs.size it ps y'->Q it y')->wpAny C.M A (pyIter v) Q E s)(O:Nat->Own)(R R':Nat->bK)(h0:O 0=own)(Oi:R 0=ρ)(hO:∀i,(O i).map (·.1)=own.map (·.1))
 (Rt:PV->Prop)
 (LH:∀i p,ps[i]? =some p->bg C sc mine (R i) target p (R' i))
 (turn:∀I o i p t Wt f',(∀y∈own,y.1≠I)->ps[i]? =some p->St C (I::W) sc ((I,.obj o)::O i) (R' i) env f'->Bs C Wt mine t ((I,.obj o)::O i) env f'->
  wpAny C.M A (execs body env) (λf H'=>match f with
   | .next | .cont=>St C (I::W) sc ((I,.obj o)::O (i+1)) (R (i+1)) env H'/\Bs C Wt mine t ((I,.obj o)::O (i+1)) env H'
   | .brk=>False
   | .ret v=>∃p own' J',Rt p/\Rr C (I::W) H'.heap v p/\St C (I::W) sc own' J' env H'/\Bs C Wt mine t own' env H') (λ_ _=>False) f')
 (ret:∀v p J,Rt p->Rr C W J.heap v p->Inv C J->ah C Wt t J->Q (.ret v) J)
 (done:∀J,St C W sc (O ps.length) (R ps.length) env J->Bs C Wt mine t (O ps.length) env J->Q .next J)
 (htg:autoParam (need=true->cE target=true) nf):
 wpAny C.M A (pyIter v) (λit y'=>codeAny C.M A (.forLoop target it body [] env) (λr J=>match r with | .ok f=>Q f J | .error e=>cameBackBy C.M A env E e J) y') E s:=by
 refine hit _ _ λit y' e2 h=> ?_
 obtain⟨I,LB,hI,lo,ND,st,_,obj,_,frame,step,P',_⟩:=h
 subst hI
 refine cps λG g=> ?_
 refine ae (obj 0 _ st) λLq LW Lm=> ?_
 have N3:C.h₀.get? I=none:=X.inv.beyond lo
 have Pm:I≠env.locals:=λq=>absurd (X.low _ X.noLoc.1) (Hs.mpr (q▸lo))
 have NQ:∀y∈own,y.1≠I:=λy hy q=>absurd (X.low _ (X.owns y hy).1) (Hs.mpr (q▸lo))
 have Sv:vA C Wt t I:=⟨N3,.inl (Hg B.aA.size lo)⟩
 have hM:∀a∈I::Cfg.turns mine own env,vA C Wt t a:=memC Sv B.ij
 have X2:St C (I::W) sc ((I,.obj Lq)::own) ρ env y':=
  (X.grow e2 lo ND).iW G9 ⟨LW,Lm.bq⟩ (λq=>absurd (X.inv.fV _ q) (Hs.mpr lo)) Pm
 have B2:Bs C Wt mine t own env y':=B.step e2
 have kp:∀{J},ah C (I::Cfg.turns mine own env) y' J->Kp C W s.heap.objs.size y' J:=λe=>Kp.of (own:=own) (X.aA e2) e (memC (.inr lo) λa ha=> .inl ha)
 have OE:∀i o o' (J:Shared) h',(∀b o,b≠I->J.heap.get? b=some o->h'.get? b=some o)->h'.get? I=some o'->Obj.bq o'->∀y∈(I,PV.obj o')::O i,(y.1=I/\dO C (I::W) h' I y.2)\/(y.1≠I/\y∈(I,PV.obj o)::O i):=λi o o' J h' _ g hn=>
  memC (.inl ⟨rfl,g,hn⟩) λy hy=> .inr ⟨(js (hO i) y hy).elim λp hp=>NQ (y.1,p) hp,Ha _ hy⟩
 refine g (codeAny_forLoop_any (λm J=>∃i o,i<=ps.length/\m=ps.length - i/\St C (I::W) sc ((I,.obj o)::O i) (R i) env J/\dQ o/\LB i J.heap/\ah C (I::Cfg.turns mine own env) y' J) ?_ ps.length ⟨0,Lq,HK _,rfl,by refine h0▸Oi▸?_;exact X2,Lm,st,ah.refl _⟩)
 intro m J hm
 refine cps λG g=> ?_
 refine CM hm λi o hi L1 X' NV Ml Ol=> ?_;subst L1
 have Nk:J.heap.get? I=some o:=(X'.owns _ G9).2.1.1
 refine g ?_
 by_cases Ll:i < ps.length
 ·refine step rm.handled (target:=target) (W':=I::W) Ll htg Ml (kp Ol) (memC (.inr lo) λa ha=> .inl ha) (λa ha=>X'.low a ha) λv M5 go=>go _ _ λp h' tk Pt MG hk hz hr=> ?_
  refine cps λG g=> ?_
  have eT:ah C [I] J {J with heap:=h',toks:=tk}:=ah.i9 Nk NV hk hz
  refine ae (obj _ _ MG) λo' Od MQ=> ?_
  have Qe:St C (I::W) sc ((I,.obj o')::O i) (R i) env {J with heap:=h',toks:=tk}:=
   X'.turn G9 Pm N3 hk eT Nk NV.bq (OE i o o' J h' hk Od MQ.bq)
  have MC:ah C (I::Cfg.turns mine own env) y' {J with heap:=h',toks:=tk}:=Ol.trans (eT.mono (memC G9 λ_ h=>nomatch h))
  refine g (Hb (LH _ _ Pt _ _ A env _ v _ _ rm.handled Qe (Bs.start (((B.join (e2.up.trans MC) hM).less (js (hO i))).more Sv)) hr) (λ_ s3 h3=>Hb (turn _ _ _ _ _ _ _ NQ Pt h3.1 h3.2.1) ?_ λ_ _ q=>q.elim) λ_ _ q=>q.elim)
  intro f s4 hf
  have fin:St C (I::W) sc ((I,.obj o')::O (i+1)) (R (i+1)) env s4/\Bs C (Cfg.turns mine ((I,.obj o')::O i) env) mine {J with heap:=h',toks:=tk} ((I,.obj o')::O (i+1)) env s4->
   ∃m,m < ps.length - i/\∃i o,i<=ps.length/\m=ps.length - i/\St C (I::W) sc ((I,.obj o)::O i) (R i) env s4/\dQ o/\LB i s4.heap/\ah C (I::Cfg.turns mine own env) y' s4:=λh4=>
   have PH:=MC.trans (h4.2.aA.mono (mS (hO i)))
   ⟨ps.length - (i+1),Jd Ll (Io i),i+1,o',Ll,rfl,h4.1,MQ,frame _ _ _ (kp MC) MG (kp PH) λo g=>H7 (Od.symm.trans g)▸(h4.1.owns _ G9).2.1.1,PH⟩
  cases f with
  |next=>exact fin hf
  |cont=>exact fin hf
  |brk=>exact hf.elim
  |ret v=>
   refine gm hf λp own' J' h1 h2 h3 h4=> ?_
   exact ret v p s4 h1 (h2.drop λa ha=>Ha _ ha) h3.inv (B2.join (MC.trans (h4.aA.mono (mS (hO i)))) hM).aA
 ·have:i=ps.length:=JF hi (Hs.mp Ll)
  subst this
  refine P' rm.handled Ml λh' tk hk hz=> ?_
  have eT:ah C [I] J {J with heap:=h',toks:=tk}:=ah.i9 Nk NV hk hz
  have X5:St C (I::W) sc (O ps.length) (R ps.length) env {J with heap:=h',toks:=tk}:=
   X'.turn G9 Pm N3 hk eT Nk NV.bq λy hy=> .inr ⟨(js (hO _) y hy).elim λp hp=>NQ (y.1,p) hp,Ha _ hy⟩
  exact Hk (done _ (X5.drop (λa ha=>Ha _ ha) (λy hy=>(js (hO _) y hy).elim λp hp=>(X.owns _ hp).1) X.noLoc.1)
   ((B2.join (Ol.trans (eT.mono (memC G9 λ_ h=>nomatch h))) hM).less (js (hO _))))
theorem a7 {need:Bool}{target iter:Expr}{body:List Stmt}{ps:List PV}(X:St C W sc own ρ env s)(B:Bs C Wt mine t own env s)(rm:ak A k)
 (hi:eu need C k sc own ρ iter ps)(O:Nat->Own)(R R':Nat->bK)(h0:O 0=own)(Oi:R 0=ρ)(hO:∀i,(O i).map (·.1)=own.map (·.1))
 (Rt:PV->Prop)
 (LH:∀i p,ps[i]? =some p->bg C sc mine (R i) target p (R' i))
 (turn:∀I o i p t Wt f',(∀y∈own,y.1≠I)->ps[i]? =some p->St C (I::W) sc ((I,.obj o)::O i) (R' i) env f'->Bs C Wt mine t ((I,.obj o)::O i) env f'->
  wpAny C.M A (execs body env) (λf H'=>match f with
   | .next | .cont=>St C (I::W) sc ((I,.obj o)::O (i+1)) (R (i+1)) env H'/\Bs C Wt mine t ((I,.obj o)::O (i+1)) env H'
   | .brk=>False
   | .ret v=>∃p own' J',Rt p/\Rr C (I::W) H'.heap v p/\St C (I::W) sc own' J' env H'/\Bs C Wt mine t own' env H') (λ_ _=>False) f')
 (ret:∀v p J,Rt p->Rr C W J.heap v p->Inv C J->ah C Wt t J->Q (.ret v) J)
 (done:∀J,St C W sc (O ps.length) (R ps.length) env J->Bs C Wt mine t (O ps.length) env J->wpAny C.M A (execs rest env) Q E J)
 (hs:∀x,foldedSetIterable iter env x=pure x)(htg:autoParam (need=true->cE target=true) nf):wpAny C.M A (execs (.For target iter body [] pos::rest) env) Q E s:=by
 refine HP (wpAny_For (Hb (hi _ A env s rm X) (λv f' h=> ?_) λ_ _ q=>q.elim) hs)
 exact uj (X.aA h.1) (B.step h.1) rm (h.2 A) O R R' h0 Oi hO Rt LH turn ret done htg
theorem xt {need:Bool}{target iter:Expr}{body:List Stmt}{ps:List PV}(X:St C W sc own ρ env s)(B:Bs C Wt mine t own env s)(rm:ak A k)
 (hi:eu need C k sc own ρ iter ps)(O:Nat->Own)(R R':Nat->bK)(h0:O 0=own)(Oi:R 0=ρ)(hO:∀i,(O i).map (·.1)=own.map (·.1))
 (Rt:PV->Prop)
 (LH:∀i p,ps[i]? =some p->bg C sc mine (R i) target p (R' i))
 (turn:∀I o i p t Wt f',ps[i]? =some p->St C (I::W) sc ((I,.obj o)::O i) (R' i) env f'->Bs C Wt mine t ((I,.obj o)::O i) env f'->
  wpAny C.M A (execs body env) (λf H'=>match f with
   | .next | .cont=>St C (I::W) sc ((I,.obj o)::O (i+1)) (R (i+1)) env H'/\Bs C Wt mine t ((I,.obj o)::O (i+1)) env H'
   | .brk=>False
   | .ret v=>∃p own' J',Rt p/\Rr C (I::W) H'.heap v p/\St C (I::W) sc own' J' env H'/\Bs C Wt mine t own' env H') (λ_ _=>False) f')
 (ret:∀v p J,Rt p->Rr C W J.heap v p->Inv C J->ah C Wt t J->Q (.ret v) J)
 (done:∀J,St C W sc (O ps.length) (R ps.length) env J->Bs C Wt mine t (O ps.length) env J->wpAny C.M A (execs rest env) Q E J)
 (hs:∀x,foldedSetIterable iter env x=pure x)(htg:autoParam (need=true->cE target=true) nf):wpAny C.M A (execs (.For target iter body [] pos::rest) env) Q E s:=
 a7 X B rm hi O R R' h0 Oi hO Rt LH (λI o i p t Wt f' _=>turn I o i p t Wt f') ret done hs htg
theorem bF:∀(names:List (Str×NameKind))(n:Nat)(acc:List (Str×Addr)),cellsFrom n names acc=cellsFrom n names [] ++ acc:=by
 intro q0
 induction q0 with
 |nil=>
  intro _ _
  exact rfl
 |cons q1 r ih=>
  intro n acc
  simp only [cellsFrom]
  split
  ·simp only [ih (n+1) ((q1.1,n)::acc),ih (n+1) [(q1.1,n)]];simp
  ·exact ih n acc
theorem aY {x:Str}:∀{names:List (Str×NameKind)}{n:Nat}{acc:List (Str×Addr)},(x,NameKind.cell)∈names->∃c,(x,c)∈cellsFrom n names acc
 |(y,kd)::r,n,acc,h=>by
  simp only [cellsFrom]
  rcases Hf.mp h with e |h
  ·cases e
   rw [bF]
   exact⟨n,by simp⟩
  ·split
   ·exact aY h
   ·exact aY h
theorem dK {x:Str}{c:Addr}:∀{names:List (Str×NameKind)}{n:Nat},(x,c)∈cellsFrom n names []->(x,NameKind.cell)∈names
 |[],_,h=>by cases h
 |(y,kd)::r,n,h=>by
  unfold cellsFrom at h
  split at h
  ·rename_i hk
   rw [bF] at h
   rcases HA.mp h with h |h
   ·exact Ha _ (dK h)
   ·cases Hi.mp h
    have:kd= .cell:=by simpa using hk
    refine this▸?_;exact G9
  ·exact Ha _ (dK h)
noncomputable def aT (cells:List (Str×Addr)):List (Str×NameKind)->List (Str×Addr)->List (Str×Addr)
 |[],acc=>acc
 |(n,kd)::r,acc=>if kd== .free then aT cells r ((n,(cells.lookup n).getD 0)::acc) else aT cells r acc
theorem fN (cells:List (Str×Addr)) {acc}:aT cells [] acc=(acc):=rfl
theorem fI (cells:List (Str×Addr)) {n kd r acc}:aT cells ((n,kd)::r) acc=(if kd== .free then aT cells r ((n,(cells.lookup n).getD 0)::acc) else aT cells r acc):=rfl
theorem mH (cells:List (Str×Addr)):∀(names:List (Str×NameKind))(acc:List (Str×Addr)),aT cells names acc=aT cells names [] ++ acc:=by
 intro q0
 induction q0 with
 |nil=>
  intro _
  exact rfl
 |cons q1 r ih=>
  obtain⟨x,kd⟩:=q1
  intro acc
  simp only [fN,fI]
  split
  ·simp only [ih (_::acc),ih [_]];simp
  ·exact ih acc
theorem b7 {cells:List (Str×Addr)}{x:Str}{c:Addr}:∀{names:List (Str×NameKind)},(x,c)∈aT cells names []↔(x,NameKind.free)∈names/\c=(cells.lookup x).getD 0
 |[]=>by simp [fN,fI]
 |(y,kd)::r=>by
  simp only [fN,fI]
  split
  ·rename_i hk
   have:kd= .free:=by simpa using hk
   subst this
   rw [mH,HA,b7,Hi,Hf]
   constructor
   ·rintro(⟨h1,h2⟩ |h)
    ·exact⟨.inr h1,h2⟩
    ·cases h;exact⟨.inl rfl,rfl⟩
   ·rintro⟨h |h,h2⟩
    ·cases h;exact .inr (by rw [h2])
    ·exact .inl ⟨h,h2⟩
  ·rename_i hk
   rw [b7,Hf]
   constructor
   ·rintro⟨h1,h2⟩;exact⟨.inr h1,h2⟩
   ·rintro⟨h |h,h2⟩
    ·cases h;exact absurd rfl hk
    ·exact⟨h,h2⟩
theorem yz {env:Env}(f:Str×NameKind->List (Str×Addr)->Sem (ForInStep (List (Str×Addr))))
 (hf:∀name kind cells,f (name,kind) cells=if kind== .free then(do let a <-cellOf env name;pure (.yield ((name,a)::cells))) else pure (.yield cells)):
 ∀(names:List (Str×NameKind)) (acc:List (Str×Addr)),(∀x∈names,x.2= .free->(env.cells.lookup x.1).isSome=true)->forIn names acc f=pure (aT env.cells names acc):=by
 intro q0
 induction q0 with
 |nil=>
  intro acc _
  rfl
 |cons q1 r ih=>
  obtain⟨n,kd⟩:=q1
  intro acc hr
  simp only [IM,hf]
  simp only [fN,fI]
  cases hk:kd==NameKind.free with
  |true=>
   refine cz (Ja.mp (hr (n,kd) G9 (by simpa using hk))) λc hc=> ?_
   unfold cellOf
   refine hc▸?_
   exact ih _ λx hx=>hr x (Ha _ hx)
  |false=>
   exact ih _ λx hx=>hr x (Ha _ hx)
theorem eg {scope:Scope}{env:Env}(h:∀x∈scope.names,x.2= .free->(env.cells.lookup x.1).isSome=true):closureFor scope env=pure (aT env.cells scope.names []):=by
 have:=yz (env:=env) (λx cs=>match x with
  |(name,kind)=>if kind==NameKind.free then(do let a <-cellOf env name;pure (.yield ((name,a)::cs))) else pure (.yield cs)) (λ_ _ _=>rfl) scope.names [] h
 unfold closureFor
 dsimp only
 exact(Hx (λm=>m >>=pure) this)
theorem lI {cells:List (Str×Addr)}(hp:cells.Pairwise λx y=>x.2≠y.2):∀{l:List (Str×Addr)},(l.map (·.1)).Nodup->(∀x c,(x,c)∈l->cells.lookup x=some c)->l.Pairwise λx y=>x.2≠y.2
 |[],_,_=> .nil
 |(x,c)::r,nd,h=>by
  refine HR.mpr ⟨λy hy e=> ?_,lI hp (Ht.mp nd).2 λx c hm=>h x c (Ha _ hm)⟩
  have h2:=h y.1 y.2 (Ha _ hy)
  rw [<-e] at h2
  have:=lr hp (h x c G9) h2
  exact(Ht.mp nd).1 (He.mpr ⟨y,hy,this.symm⟩)
theorem cS {cells:List (Str×Addr)}:∀{names:List (Str×NameKind)},(names.map (·.1)).Nodup->((aT cells names []).map (·.1)).Nodup
 |[],_=>by assumption
 |(x,kd)::r,nd=>by
  simp only [fN,fI]
  split
  ·rw [mH,Hr,IP]
   refine⟨cS (Ht.mp nd).2,by simp,?_⟩
   intro a ha b hb e
   rw [Hm,Ib,Hi] at hb
   subst hb
   subst e
   obtain⟨⟨a',c⟩,hm,rfl⟩:=He.mp ha
   exact(Ht.mp nd).1 (He.mpr ⟨_,(b7.mp hm).1,rfl⟩)
  ·exact cS (Ht.mp nd).2
theorem aH {α:Type}{x:Str}:∀{l:List (Str×α)}{c:α},(x,c)∈l->∃d,l.lookup x=some d
 |(y,d)::r,c,h=>by
  simp only [Hl]
  cases hx:x==y with
  |true=>exact⟨d,rfl⟩
  |false=>
   rcases Hf.mp h with e |h
   ·cases e;simp at hx
   ·exact aH h
theorem b8 {α:Type}{x:Str}{l:List (Str×α)}{c:α}(hn:(l.map (·.1)).Nodup)(h:(x,c)∈l):l.lookup x=some c:=by
 induction l with
 |nil=>cases h
 |cons y r ih=>
  rw [Hl]
  rcases Hf.mp h with rfl |h
  ·simp
  ·have:(x==y.1)=false:=by
    have:=(Ht.mp hn).1
    by_cases q:x=y.1
    ·exact absurd (He.mpr ⟨_,h,q⟩) this
    ·simpa using q
   refine this▸?_
   exact ih (Ht.mp hn).2 h
noncomputable def qQ (scope S:Scope):Scope:={scope with names:=scope.names.map λ(n,k)=>if(k== .free && S.kind== .function && S.names.lookup n==some .cell) then(n,.cell) else(n,k)}
theorem AP (scope:Scope)(env:Env):relabel scope env=qQ scope env.scope:=rfl
theorem j8 {scope S:Scope}{x:Str}:(qQ scope S).names.lookup x=(scope.names.lookup x).map λk=>if(k== .free && S.kind== .function && S.names.lookup x==some .cell)=true then .cell else k:=by
 unfold qQ
 dsimp only
 generalize scope.names=l
 induction l with
 |nil=>rfl
 |cons y r ih=>
  obtain⟨n,k⟩:=y
  rw [Hm]
  cases hx:x==n with
  |true=>
   have:x=n:=by simpa using hx
   rw [this]
   dsimp only
   split
   ·rename_i q;simp only [Hl];simp only [Im,Lf,q,Kw,IH,JL]
   ·rename_i q;simp only [Hl];simp only [Im,Lf,q,Kw,IH,JL]
  |false=>
   dsimp only
   split <;> simp only [Hl,hx] <;> exact ih
variable {scope:Scope}
structure eQ (scope:Scope)(sc:Sc):Prop where
 kind:scope.kind= .function
 nd:(scope.names.map (·.1)).Nodup
 free:∀x∈scope.names,x.2= .free->sc.scope.names.lookup x.1=some .cell\/sc.scope.names.lookup x.1=some .free
noncomputable def ed (scope:Scope) (sc:Sc):Sc:=⟨qQ scope sc.scope,sc.qual,sc.code⟩
noncomputable def iU (scope:Scope) (env:Env) (L:Addr):Env:={scope:=relabel scope env,locals:=L,globals:=env.globals,cells:=cellsFrom (L+1) scope.names (aT env.cells scope.names []),qual:=env.qual,func:=none,code:=env.code,frame:=env.frame,builtins:=env.builtins}
noncomputable def bA (scope:Scope) (ρ:bK):bK:=λy=>if scope.names.lookup y=some .free then ρ y else none
noncomputable def el (scope:Scope) (h:Heap):Heap:=pushCells (h.push {cls:= .type "dict",data:= .dict #[]}) scope.names
theorem gW:∀(names:List (Str×NameKind))(h:Heap),h.objs.size<=(pushCells h names).objs.size:=by
 intro q0
 induction q0 with
 |nil=>
  intro _
  exact Hh _
 |cons q1 r ih=>
  intro h
  simp only [pushCells]
  split
  ·exact Hg (H3 cg) (ih _)
  ·exact ih h
theorem gu:ah C W s {s with heap:=el scope s.heap}:=
 ah.of_keeps (tk:=s.toks) (λb o e=>JG _ _ b o (Heap.get?_push_of_some _ e)) (Hg (H3 cg) (gW _ _))
theorem qj {cl:List (Str×Addr)}{Q:Env->Shared->Prop}(h:Q {scope:=scope,locals:=s.heap.objs.size,globals:=env.globals,cells:=cellsFrom (s.heap.objs.size+1) scope.names cl,qual:=env.qual,func:=none,code:=env.code,frame:=env.frame,builtins:=env.builtins} {s with heap:=el scope s.heap}):
 wpAny C.M A (newFunctionEnv scope env.globals cl [] env.qual none .none (some env)) Q E s:=by
 simp only [newFunctionEnv,Option.isSome_some,Kw]
 refine Hc (wpAny_alloc ?_)
 refine Hc (wpAny_layCells _ (λname kind cells=>by cases hkc:kind==NameKind.cell <;> rfl) _ _ _ _ ?_)
 refine(show ({s with heap:=s.heap.push {cls:= .type "dict",data:= .dict #[]}}:Shared).heap.objs.size=s.heap.objs.size+1 from HU ..)▸?_
 exact Hc (Hj (Hj h))
theorem St.comp (X:St C W sc own ρ env s)(ok:eQ scope sc):
 St C (s.heap.objs.size::W) (ed scope sc) own (bA scope ρ) (iU scope env s.heap.objs.size) {s with heap:=el scope s.heap}:=by
 have e:ah C [] s {s with heap:=el scope s.heap}:=gu
 have Qh:=cellsFrom_ok scope.names (s.heap.push {cls:= .type "dict",data:= .dict #[]}) (s.heap.objs.size+1) [] ⟨λ_ _ hm=>(nomatch hm),List.Pairwise.nil⟩ (by simp)
 rw [HU] at Qh
 have L7:=bF scope.names (s.heap.objs.size+1) (aT env.cells scope.names [])
 have Mc:∀x,(x,NameKind.free)∈scope.names->∃c cv,env.cells.lookup x=some c/\s.heap.IsCell c cv/\∀p,ρ x=some p->∃v,cv=some v/\Rr C W s.heap v p:=λx hx=>X.cel x (ok.free _ hx rfl)
 have Pd:∀x c,(x,c)∈aT env.cells scope.names []->env.cells.lookup x=some c:=λx c h=>by
  obtain⟨h1,h2⟩:=b7.mp h
  refine aL (Mc x h1) λc' _ h3 _=> ?_
  rw [h3] at h2 ⊢
  rw [h2];rfl
 have Mb:∀a∈W,a < s.heap.objs.size:=X.low
 refine⟨X.inv.jj e,⟨?_,X.ok.globals,X.ok.builtins,X.ok.qual,X.ok.code,ok.kind⟩,λb hb=> ?_,λy hy=> ?_,⟨_,(Heap.Ns.new s.heap (.type "dict")).keeps (JG _ _),λy p h1 h2=> ?_⟩,λy hy=> ?_,?_,⟨G9,λh=>X.gd.fresh (.inl h)⟩,λy hy h=> ?_,jw (X.inv.beyond (Hh _)) X.new,λy hy c hc hW=> ?_⟩
 ·show relabel scope env=qQ scope sc.scope
  simp only [AP,X.ok.scope]
 ·rcases Hf.mp hb with rfl |hb
  ·exact Hn cg (gW _ _)
  ·exact Hn (Mb b hb) e.size
 ·refine cZ (X.owns y hy) λh1 h2 h3=> ?_
  exact⟨Ha _ h1,h2.grow (Hh _) e h3,h3⟩
 ·unfold bA at h2
  rw [show (ed scope sc).scope=qQ scope sc.scope from rfl,j8] at h1
  split at h2
  ·rename_i q
   replace h1:=q▸h1
   simp only [Lf,Im,Jy,KW] at h1
   split at h1 <;> cases h1
  ·cases h2
 ·rw [show (ed scope sc).scope=qQ scope sc.scope from rfl,j8] at hy
  show ∃c cv,(cellsFrom (s.heap.objs.size+1) scope.names (aT env.cells scope.names [])).lookup y=some c/\_
  simp only [L7,H6]
  cases hk:scope.names.lookup y with
  |none=>rw [hk] at hy;simp at hy
  |some kd=>
   have hm:=mem_of_lookup hk
   by_cases hc:kd= .cell
   ·subst hc
    obtain⟨c,Pz⟩:=aY (n:=s.heap.objs.size+1) (acc:=[]) hm
    obtain⟨d,hd⟩:=aH Pz
    refine hd▸?_
    refine⟨d,Option.none,rfl,(Qh.empty y d (mem_of_lookup hd)).1,λp hp=> ?_⟩
    unfold bA at hp
    rw [hk] at hp
    simp at hp
   ·have hf:kd= .free:=by
     cases kd <;> simp_all
    subst hf
    have hn:(cellsFrom (s.heap.objs.size+1) scope.names []).lookup y=Option.none:=by
     cases q:(cellsFrom (s.heap.objs.size+1) scope.names []).lookup y with
     |none=>rfl
     |some d=>
      have h1:=b8 ok.nd (dK (mem_of_lookup q))
      replace h1:=hk▸h1;cases h1
    rw [hn]
    refine bp (Mc y hm) λc cv h1 z8 h3=> ?_;refine ae z8 λoc h2 MH=> ?_
    refine⟨c,cv,by refine((b8 (cS ok.nd) (b7.mpr ⟨hm,by rw [h1];rfl⟩):(aT env.cells scope.names []).lookup y=some c))▸?_;rfl,⟨oc,JG _ _ _ _ (Heap.get?_push_of_some _ h2),MH⟩,λp hp=> ?_⟩
    unfold bA at hp
    rw [if_pos hk] at hp
    refine ae (h3 p hp) λv h4 h5=> ?_
    exact⟨v,h4,h5.grow e (Hh _)⟩
 ·show (cellsFrom (s.heap.objs.size+1) scope.names (aT env.cells scope.names [])).Pairwise _
  rw [L7,Iv]
  refine⟨Qh.apart,lI X.apart (cS ok.nd) Pd,λa ha b hb=> ?_⟩
  refine bp (Mc b.1 (b7.mp (show (b.1,b.2)∈_ from hb)).1) λc cv h3 z8 _=> ?_;refine ae z8 λoc h4 _=> ?_
  have:=Pd b.1 b.2 hb
  replace this:=h3▸this;cases this
  intro e
  have h5:=Hp h4
  rw [<-e] at h5
  exact HB _ (Kf (Nat.lt_of_succ_le ((Qh.empty a.1 a.2 ha).2)) h5)
 ·have h1:=Mb _ (X.owns y hy).1
  rw [h] at h1
  exact HB _ h1
 ·have N1:(cellsFrom (s.heap.objs.size+1) scope.names (aT env.cells scope.names [])).lookup y=some c:=hc
  replace N1:=L7▸N1
  rcases HA.mp (HX N1) with q |q
  ·have h1:=(Qh.empty y c q).2
   rcases Hf.mp hW with rfl |hW
   ·exact absurd h1 (Lk.mpr (Io _))
   ·exact absurd (Nat.lt_of_succ_le h1) (Hs.mpr (H3 (Mb c hW)))
  ·have h1:=Pd y c q
   refine bp (Mc y (b7.mp q).1) λc' cv h3 z8 _=> ?_;refine ae z8 λoc h4 _=> ?_
   replace h3:=h1▸h3;cases h3
   rcases Hf.mp hW with rfl |hW
   ·exact absurd (Hp h4) (HB _)
   ·exact X.celW y (ok.free _ (b7.mp q).1 rfl) c h1 hW
variable {R:Result->Shared->Prop}{e:Expr}{d:Nat}{it acc:Value}
def jf (e:Expr):Prop:=(∃a b c d,e= .ListComp a b c d)\/∃a b c d f,e= .DictComp a b c d f
theorem fy (he:jf e){g:Comprehension}(hg:(clausesOf e)[d]? =some g)(Qi:g.is_async=0)
 (h0:codeAny C.M A (.compLoop e d it acc env) R s)
 (h:wpAny C.M A (pyIter it) (λQ0 J=>codeAny C.M A (.compLoop e d Q0 acc env) R J) (λ_ _=>False) s):codeAny C.M A (.compStart e d it acc env) R s:=by
 refine codeAny_of_tree ?_
 suffices hh:wpAny C.M A ((compStart e d it acc env).onRaise (λx=>do noteFrame x env;standAt theWindowsPlace)) (λfin J=>match fin with
  | .done f=>R (.ok f) J
  | .again c'=>c'.quiet=true/\codeAny C.M A c' R J) (λe J=>R (.error e) J) s by
  rcases he with ⟨a,b,c,d,rfl⟩ |⟨a,b,c,d,f,rfl⟩ <;> exact hh
 have hq:∀Q0,(Code.compLoop e d Q0 acc env).quiet=true:=by
  rcases he with ⟨a,b,c,d,rfl⟩ |⟨a,b,c,d,f,rfl⟩ <;> exact λ_=>rfl
 refine wpAny_notedAt ?_
 unfold compStart
 refine hg▸?_
 simp_all
 refine Hc (wpAny_askSetting ?_)
 split
 ·exact Hc (Hj (Hj (And.intro (hq _) h0)))
 ·exact Hc (K1 (Hc (Iw (Hc (Hb h (λQ0 J h'=>Hj (And.intro (hq _) h')) λ_ _ x=>x.elim)))))
noncomputable def tests (ifs:List Expr) (env:Env):Sem Bool:=forIn ifs true λc r=>if r=true then do let ok <-isTrue c env (eval c env);pure (ForInStep.yield ok) else pure (ForInStep.yield r)
noncomputable def gJ (e:Expr) (d:Nat) (target iter:Expr) (ifs:List Expr) (inner:Env->Addr->Sem Unit) (it:Value) (D:Addr) (env:Env):Sem PySem.Fin:=do
 standAt iter.pos
 match <-pyNext it with
 |none=>pure (.done .next)
 |some v=>
  letOwnedTupleGo target it v
  assign target env v
  let mut ok:=true
  for c in ifs do
   if ok then ok <-isTrue c env (eval c env)
  if ok then
   inner env D
  again (.compLoop e d it (.ref D) env)
theorem n5 (he:jf e){target iter:Expr}{ifs:List Expr}{inner:Env->Addr->Sem Unit}{D:Addr}(heq:compTurn e d it (.ref D) env=gJ e d target iter ifs inner it D env)
 (I:Nat->Shared->Prop)
 (turn:∀n s,I n s->wpAny C.M A (pyNext it) (λr f'=>match r with
  |none=>R (.ok .next) f'
  |some v=>wpAny C.M A (letOwnedTupleGo target it v) (λ_ M5=>wpAny C.M A (assign target env v) (λ_ y'=>
   wpAny C.M A (tests ifs env) (λok H'=>
    if ok=true then wpAny C.M A (inner env D) (λ_ s₅=>∃m,m < n/\I m s₅) (λ_ _=>False) H'
    else ∃m,m < n/\I m H') (λ_ _=>False) y') (λ_ _=>False) M5) (λ_ _=>False) f') (λ_ _=>False) s)
 (n:Nat)(h:I n s):codeAny C.M A (.compLoop e d it (.ref D) env) R s:=by
 refine codeAny_loop (by rcases he with ⟨a,b,c,d,rfl⟩ |⟨a,b,c,d,f,rfl⟩ <;> rfl) I (λn s hI=> ?_) n h
 suffices hh:wpAny C.M A ((compTurn e d it (.ref D) env).onRaise (λx=>do noteFrame x env;theTreesLotGoes x)) (λfin J=>match fin with
  | .done f=>R (.ok f) J
  | .again c'=>c'= .compLoop e d it (.ref D) env/\∃m,m < n/\I m J) (λe J=>R (.error e) J) s by
  rcases he with ⟨a,b,c,d,rfl⟩ |⟨a,b,c,d,f,rfl⟩ <;> exact hh
 refine wpAny_noted ?_
 refine heq▸?_
 refine Hc (Iw (Hc (Hb (turn n s hI) (λr f' M9=> ?_) λ_ _ h'=>h'.elim)))
 cases r with
 |none=>exact Hj M9
 |some v=>
  refine Hc (Hb M9 (λ_ M5 PI=> ?_) λ_ _ h'=>h'.elim)
  refine Hc (Hb PI (λ_ y' NI=>Hc (Hb NI (λok H' NK=> ?_) λ_ _ h'=>h'.elim)) λ_ _ h'=>h'.elim)
  cases ok with
  |false=>exact Hj ⟨rfl,NK⟩
  |true=>exact Hc (Hb NK (λ_ s₅ L3=>Hj ⟨rfl,L3⟩) λ_ _ h'=>h'.elim)
variable {own₁ own₂:Own}{D:Addr}{L:Nat}
def vo (s:Shared)(V:List Addr):Prop:=∀a∈V,∃o,s.heap.get? a=some o/\∀fd,o.data≠.func fd
def DL (own:Own):Prop:=∀y∈own,∀o,y.2= .obj o->∀fd,o.data≠.func fd
theorem dQ.xS {o:Obj}(h:dQ o):∀fd,o.data≠.func fd:=λ_ q=>by obtain⟨_,_,d,_⟩:=h;exact nomatch d.symm.trans q
theorem dO.xS {a:Addr}{p:PV}(h:dO C W s.heap a p)(hI:∀o,p= .obj o->∀fd,o.data≠.func fd):∃o,s.heap.get? a=some o/\∀fd,o.data≠.func fd:=by
 cases p with
 |lst xs=>refine aL h λ_ _ g _=> ?_;exact⟨_,g,λ_ q=>nomatch q⟩
 |au xs=>refine lQ h λ_ _ _ g _=> ?_;exact⟨_,g,λ_ q=>nomatch q⟩
 |obj o=>exact⟨o,h.1,hI o rfl⟩
 |_=>exact h.elim
theorem ll (X:St C W sc own ρ env s)(h:DL own):vo s (Cfg.turns mine own env):=
 fP (by obtain⟨_,⟨o,_,_,g,d,_⟩,_⟩:=X.loc;exact⟨o,g,λ_ q=>nomatch d.symm.trans q⟩) (λ_ _ _ hk hc=>by refine aL (X.n8 hk hc) λo _ g d=> ?_;exact⟨o,g,λ_ q=>nomatch d.symm.trans q⟩) λy hy=>(X.owns y hy).2.1.xS (h y hy)
noncomputable abbrev Acc:=PV->Shared->Prop
noncomputable abbrev lh (p:PV):Acc:=λq _=>q=p
def kE (p:PV):Prop:=∀o,p≠.obj o
theorem kE.lst {xs:List PV}:kE (.lst xs):=λ_ q=>by cases q
theorem kE.au {xs:List (Str×PV)}:kE (.au xs):=λ_ q=>by cases q
def jP (C:Cfg)(Ac:Acc):Prop:=∀p s J V,Inv C s->Ac p s->ah C V s J->vo s V->Ac p J
theorem jP.eq {p:PV}:jP C (lh p):=λ_ _ _ _ _ h _ _=>h
def A4 (Z:Prop)(C:Cfg)(Ac:Acc):Prop:=∀p s J V,Inv C s->Ac p s->ah C V s J->(Z->vo s V)->Ac p J
def iQ (C:Cfg)(k:Nat)(sc:Sc)(mine:Str->Bool)(ρ:bK)(Ac:Acc)(J':bK)(Nj:Acc)(m:Env->Addr->Sem Unit):Prop:=
 ∀W own' A env s D acc t Wt,ak A k->(∀y∈own',y.1≠D)->DL own'->kE acc->Ac acc s->St C W sc ((D,acc)::own') ρ env s->Bs C Wt mine t ((D,acc)::own') env s->
  wpAny C.M A (m env D) (λ_ J=>∃acc',kE acc'/\Nj acc' J/\St C W sc ((D,acc')::own') J' env J/\Bs C Wt mine t ((D,acc')::own') env J) (λ_ _=>False) s
def vc (C:Cfg)(k:Nat)(sc:Sc)(own:Own)(ρ:bK)(ifs:List Expr)(b:Bool):Prop:=
 ∀W A env s,ak A k->St C W sc own ρ env s->wpAny C.M A (tests ifs env) (λok J=>ah C [] s J/\ok=b) (λ_ _=>False) s
theorem vc.nil:vc C k sc own ρ [] true:=λW A env s rm X=>Hj ⟨ah.refl _,rfl⟩
theorem vc.one {c:Expr}{b:Bool}(h:Tr C k sc own ρ c b):vc C k sc own ρ [c] b:=λW A env s rm X=>
 wpAny_tests_one (h W A env s rm X)
def nq (C:Cfg)(k:Nat)(sc:Sc)(mine:Str->Bool)(ρ:bK)(target:Expr)(ifs:List Expr)(Ac:Nat->Acc)(inner:Env->Addr->Sem Unit)(ps:List PV):Prop:=
 ∀i p,ps[i]? =some p->∃j' b,bg C sc mine ρ target p j'/\vc C k sc [] j' ifs b/\
  (if b=true then iQ C k sc mine j' (Ac i) ρ (Ac (i+1)) inner else((∀y q,ρ y=some q->j' y=some q)/\∀p s,Ac i p s->Ac (i+1) p s))
theorem Dv.rebase {need:Bool}{ps:List PV}{I:Addr}{LB:Nat->Heap->Prop}(S:Dv need C W L it ps s I LB)(e:ah C [] s J)(hW:∀a∈W,a∈W')(Tp:∀a∈W',a∈W\/L<=a):Dv need C W' L (.ref I) ps J I LB:=by
 have sub:∀b,b < L->¬C.N W b->¬C.N W' b:=λb lt n q=>by
  rcases q with q |q
  ·exact n (.inl q)
  ·rcases Tp b q with q |q
   ·exact n (.inr q)
   ·exact HB _ (Hn lt q)
 have kk:∀{f'},Kp C W' L J f'->Kp C W L s f':=λkp b o n g nc lt=>kp b o (sub b lt n) (e.keep _ _ (λq=>n (.inl q)) (by simp) g) nc lt
 refine {it:=rfl,lo:=S.lo,hi:=Hn S.hi e.size,st:= ?_,sz:=S.sz,obj:=S.obj,nt:=S.nt,frame:= ?_,step:= ?_,done:=λ{A} hA {J} {Q} {E} Ml hQ=>S.done hA Ml hQ,self:=λ{A} hA {J} {Q} {E} Ml hQ=>S.self hA Ml hQ}
 ·exact S.frame _ s J (λ_ _ _ g _ _=>g) S.st (λb o n g nc lt=>e.keep _ _ (λq=>n (.inl q)) (by simp) g) λo g=>e.keep _ _ S.nt (by simp) g
 ·exact λi f' y' k1 h1 k2 hI=>S.frame i f' y' (kk k1) h1 (kk k2) hI
 ·exact λ{A} hA {i} {f'} {target} {W''} {post} {E} hi ht Ml kp hW2 Mb hQ=>S.step hA hi ht Ml (kk kp) (λa ha=>(hW2 a ha).elim (Tp a) .inr) Mb hQ
theorem Bs.wV (b:Bs C Wt mine t own env s)(h:own'.map (·.1)=own.map (·.1)):Bs C (Cfg.turns mine own env) mine J own' env J where
 aA:=ah.refl J
 loc:=⟨b.loc.1,.inr G9⟩
 cel x c h1 hk h2:=⟨(b.cel x c h1 hk h2).1,.inr (Ha _ (HI _ (KG.mpr ⟨(x,.cell),mem_of_lookup hk,by simp_all⟩)))⟩
 owns x hx:=by
  have:x.1∈own.map (·.1):=by refine h▸?_;exact He.mpr ⟨x,hx,rfl⟩
  refine ae (He.mp this) λy hy e=> ?_
  refine e▸?_
  exact⟨(b.owns y hy).1,.inr (Ha _ (HT _ (He.mpr ⟨y,hy,rfl⟩)))⟩
def rZ (Z:Prop)(C:Cfg)(k:Nat)(sc:Sc)(mine:Str->Bool)(own₁ own₂:Own)(ρ:bK)(Ac:Acc)(J':bK)(Nj:Acc)(m:Env->Addr->Sem Unit):Prop:=
 ∀W pre A env s D acc t Wt,ak A k->(∀y∈pre ++ own₁,y.1≠D)->(∀y∈pre,∀z∈own₁,y.1≠z.1)->(Z->DL (pre ++ own₁))->kE acc->Ac acc s->St C W sc ((D,acc)::(pre ++ own₁)) ρ env s->Bs C Wt mine t ((D,acc)::(pre ++ own₁)) env s->
  wpAny C.M A (m env D) (λ_ J=>∃acc',kE acc'/\Nj acc' J/\St C W sc ((D,acc')::(pre ++ own₂)) J' env J/\Bs C Wt mine t ((D,acc')::(pre ++ own₂)) env J) (λ_ _=>False) s
theorem iQ.G1 {Ac Nj:Acc}{m:Env->Addr->Sem Unit}(h:iQ C k sc mine ρ Ac J' Nj m):rZ True C k sc mine own own ρ Ac J' Nj m:=λW pre A env s D acc t Wt rm h1 _ h3=>h W (pre ++ own) A env s D acc t Wt rm h1 (h3 trivial)
theorem mB {Z:Prop}{need:Bool}(he:jf e){target iter:Expr}{ifs:List Expr}{inner:Env->Addr->Sem Unit}(heq:compTurn e d it (.ref D) env=gJ e d target iter ifs inner it D env)
 {ps:List PV}{Ac:Nat->Acc}{Ow:Nat->Own}(NL:∀i,(Ow i).map (·.1)=(Ow 0).map (·.1))(LN:∀i,A4 Z C (Ac i))(step:∀i p,ps[i]? =some p->∃j' b,bg C sc mine ρ target p j'/\vc C k sc [] j' ifs b/\
 (if b=true then rZ Z C k sc mine (Ow i) (Ow (i+1)) j' (Ac i) ρ (Ac (i+1)) inner else Ow (i+1)=Ow i/\((∀y q,ρ y=some q->j' y=some q)/\∀p s,Ac i p s->Ac (i+1) p s)))
 (rm:ak A k)(hit:∀i,Z->DL (Ow i)){I:Addr}{LB:Nat->Heap->Prop}(S:Dv need C W L it ps s I LB)(htg:need=true->cE target=true){Lq:Obj}(Lm:dQ Lq){acc:PV}(Mp:kE acc)(h0:Ac 0 acc s)
 (X:St C W sc ((D,acc)::(I,.obj Lq)::Ow 0) ρ env s)(B:Bs C Wt mine t ((D,acc)::(I,.obj Lq)::Ow 0) env s)
 (PG:D≠I)(Nh:∀y∈Ow 0,y.1≠D)(NQ:∀y∈Ow 0,y.1≠I)
 (done:∀J acc',kE acc'->Ac ps.length acc' J->St C W sc ((D,acc')::Ow ps.length) ρ env J->Bs C Wt mine t ((D,acc')::Ow ps.length) env J->ah C (Cfg.turns mine ((D,acc)::(I,.obj Lq)::Ow 0) env) s J->R (.ok .next) J):
 codeAny C.M A (.compLoop e d it (.ref D) env) R s:=by
 refine cps λG g=> ?_
 obtain⟨Si,lo,V7,st,sz,RR,nt,frame,Qk,PC,self⟩:=S
 subst Si
 have QA:∀{i y},y∈Ow i->∃z∈Ow 0,z.1=y.1:=λ{i y} hy=>by
  have:y.1∈(Ow i).map (·.1):=He.mpr ⟨y,hy,rfl⟩
  rw [NL] at this
  exact He.mp this
 have NQ:∀{i},∀y∈Ow i,y.1≠I:=λy hy=>by refine ae (QA hy) λz hz h=> ?_;exact h▸NQ z hz
 have N0:I∈W:=(X.owns _ (Ha _ G9)).1
 have Pm:I≠env.locals:=X.ownLoc _ (Ha _ G9)
 have N3:C.h₀.get? I=none:=(B.owns _ (Ha _ G9)).1
 have Mv:∀{i} {acc':PV} {o:Obj},kE acc'->dQ o->Z->DL ((D,acc')::(I,.obj o)::Ow i):=λha ho z=>
  memC (λo' q=>absurd q (ha o')) (memC (λo' q=>by cases q;exact ho.xS) (hit _ z))
 have So:∀i (p:PV) (o:Obj),((D,p)::(I,PV.obj o)::Ow i).map (·.1)=((D,acc)::(I,PV.obj Lq)::Ow 0).map (·.1):=λi p q=>by
  simp_all
 have SH:∀{ρ J acc' o i},St C W sc ((D,acc')::(I,.obj o)::Ow i) ρ env J->kE acc'->dQ o->Z->vo J (Cfg.turns mine ((D,acc)::(I,PV.obj Lq)::Ow 0) env):=λ{ρ J acc' o i} X ha ho z=>by
  have h:=ll (mine:=mine) X (Mv ha ho z)
  unfold Cfg.turns at h ⊢
  simp only [So] at h
  exact h
 have PZ:∀{J acc' o i},Bs C (Cfg.turns mine ((D,acc)::(I,PV.obj Lq)::Ow 0) env) mine J ((D,acc')::(I,PV.obj o)::Ow i) env J:=B.wV (So _ _ _)
 have PX:∀a∈Cfg.turns mine ((D,acc)::(I,PV.obj Lq)::Ow 0) env,vA C Wt t a:=B.ij
 have Oc:∀{J},ah C (Cfg.turns mine ((D,acc)::(I,PV.obj Lq)::Ow 0) env) s J->Kp C W L s J:=λq=>Kp.of X q λa ha=> .inl ha
 have QT:∀a∈[I],a∈Cfg.turns mine ((D,acc)::(I,PV.obj Lq)::Ow 0) env:=memC (by unfold Cfg.turns;simp) λ_ h=>nomatch h
 have OE:∀{acc':PV} {o o':Obj} {h':Heap} {i},h'.get? I=some o'->Obj.bq o'->∀y∈(D,acc')::(I,PV.obj o')::Ow i,(y.1=I/\dO C W h' I y.2)\/(y.1≠I/\y∈(D,acc')::(I,PV.obj o)::Ow i):=λg hn=>
  memC (.inr ⟨PG,G9⟩) (memC (.inl ⟨rfl,g,hn⟩) λy hy=> .inr ⟨NQ y hy,Ha _ (Ha _ hy)⟩)
 generalize Cfg.turns mine ((D,acc)::(I,PV.obj Lq)::Ow 0) env=T at PZ PX Oc QT SH done
 refine g (n5 he heq (λm J=>∃i o acc,i<=ps.length/\m=ps.length - i/\kE acc/\Ac i acc J/\St C W sc ((D,acc)::(I,.obj o)::Ow i) ρ env J/\dQ o/\LB i J.heap/\ah C T s J) ?_ ps.length
  ⟨0,Lq,acc,HK _,rfl,Mp,h0,X,Lm,st,ah.refl _⟩)
 intro m J hm
 refine cps λG g=> ?_
 obtain⟨i,o,acc',hi,rfl,MY,QO,X',NV,Ml,Ol⟩:=hm
 have Nk:J.heap.get? I=some o:=(X'.owns _ (Ha _ G9)).2.1.1
 have TH:vo J [I]:=memC ⟨o,Nk,NV.xS⟩ λ_ h=>nomatch h
 refine g ?_
 by_cases Ll:i < ps.length
 ·refine Qk rm.handled (target:=target) (W':=W) Ll htg Ml (Oc Ol) (λa ha=> .inl ha) (λa ha=>X'.low a ha) λv M5 go=>go _ _ λp h' tk Pt MG hk hz hr=> ?_
  refine cps λG g=> ?_
  have eT:ah C [I] J {J with heap:=h',toks:=tk}:=ah.i9 Nk NV hk hz
  refine ae (RR _ _ MG) λo' Od MQ=> ?_
  have Qe:St C W sc ((D,acc')::(I,.obj o')::Ow i) ρ env {J with heap:=h',toks:=tk}:=X'.turn N0 Pm N3 hk eT Nk NV.bq (OE Od MQ.bq)
  have MC:ah C T s {J with heap:=h',toks:=tk}:=Ol.trans (eT.mono QT)
  refine bp (step i p Pt) λj' b ht Qx NG=> ?_
  have fin:∀s5 MO,kE MO->Ac (i+1) MO s5->St C W sc ((D,MO)::(I,.obj o')::Ow (i+1)) ρ env s5->ah C T {J with heap:=h',toks:=tk} s5->
   ∃m,m < ps.length - i/\∃i o acc,i<=ps.length/\m=ps.length - i/\kE acc/\Ac i acc s5/\St C W sc ((D,acc)::(I,.obj o)::Ow i) ρ env s5/\dQ o/\LB i s5.heap/\ah C T s s5:=λs5 MO a b X5 e5=>
   ⟨ps.length - (i+1),Jd Ll (Io i),i+1,o',MO,Ll,rfl,a,b,X5,MQ,frame _ _ _ (Oc MC) MG (Oc (MC.trans e5)) λo g=>H7 (Od.symm.trans g)▸(X5.owns _ (Ha _ G9)).2.1.1,MC.trans e5⟩
  refine g (Hb (ht _ _ A env _ v _ _ rm.handled Qe (PZ (acc':=acc') (o:=o') (i:=i)) hr) (λ_ s3 h3=>Hb (Qx _ A env s3 rm (h3.1.less (by simp))) ?_ λ_ _ q=>q.elim) λ_ _ q=>q.elim)
  rintro ok s4 ⟨e4,rfl⟩
  have Qb:=LN i _ _ _ _ h3.1.inv (LN i _ _ _ _ Qe.inv (LN i _ _ _ _ X'.inv QO eT λ_=>TH) h3.2.1.aA (SH Qe MY MQ)) e4 (λ_ a ha=>nomatch ha)
  have X4:=h3.1.aA e4
  have B4:=h3.2.1.step e4
  by_cases hb:ok=true
  ·rw [if_pos hb] at NG ⊢
   exact Hb (NG W [(I,.obj o')] A env s4 D acc' _ T rm (memC (HE PG) (λy hy=>by refine ae (QA hy) λz hz h=> ?_;exact h▸Nh z hz)) (memC (λz hz=>(NQ z hz).symm) λ_ h=>nomatch h) (λz=>memC (λo q=>by cases q;exact MQ.xS) (hit i z)) MY Qb X4 B4) (λ_ s5 h=>by refine r9 h λMO a b X5 B5=> ?_;exact fin s5 MO a b X5 B5.aA) λ_ _ q=>q.elim
  ·rw [if_neg hb] at NG ⊢
   exact fin s4 acc' MY (NG.2.2 _ _ Qb) (NG.1▸X4.weaken NG.2.1) B4.aA
 ·have:i=ps.length:=JF hi (Hs.mp Ll)
  subst this
  refine PC rm.handled Ml λh' tk hk hz=> ?_
  have eT:ah C [I] J {J with heap:=h',toks:=tk}:=ah.i9 Nk NV hk hz
  exact done _ acc' MY (LN _ _ _ _ _ X'.inv QO eT λ_=>TH)
   (X'.turn N0 Pm N3 hk eT Nk NV.bq (memC (.inr ⟨PG,G9⟩) λy hy=> .inr ⟨NQ _ hy,Ha _ (Ha _ hy)⟩))
   ((B.join (Ol.trans (eT.mono QT)) PX).less (memC ⟨_,G9⟩ λy hy=>by refine ae (QA hy) λz hz h=> ?_;exact⟨z.2,h▸Ha _ (Ha _ hz)⟩)) (Ol.trans (eT.mono QT))
theorem m9 {need:Bool}(he:jf e){target iter:Expr}{ifs:List Expr}{inner:Env->Addr->Sem Unit}(heq:compTurn e d it (.ref D) env=gJ e d target iter ifs inner it D env)
 {ps:List PV}{Ac:Nat->Acc}(LN:∀i,jP C (Ac i))(step:nq C k sc mine ρ target ifs Ac inner ps)
 (rm:ak A k)(hit:DL own'){I:Addr}{LB:Nat->Heap->Prop}(S:Dv need C W L it ps s I LB)(htg:need=true->cE target=true){Lq:Obj}(Lm:dQ Lq){acc:PV}(Mp:kE acc)(h0:Ac 0 acc s)
 (X:St C W sc ((D,acc)::(I,.obj Lq)::own') ρ env s)(B:Bs C Wt mine t ((D,acc)::(I,.obj Lq)::own') env s)
 (PG:D≠I)(Nh:∀y∈own',y.1≠D)(NQ:∀y∈own',y.1≠I)
 (done:∀J acc',kE acc'->Ac ps.length acc' J->St C W sc ((D,acc')::own') ρ env J->Bs C Wt mine t ((D,acc')::own') env J->R (.ok .next) J):
 codeAny C.M A (.compLoop e d it (.ref D) env) R s:=
 mB he heq (Ow:=λ_=>own') (λ_=>rfl) (λi p s J V a b c d=>LN i p s J V a b c (d trivial)) (λi p h=>by
  refine bp (step i p h) λj' b h1 h2 h3=>⟨j',b,h1,h2,?_⟩
  cases b with
  |true=>exact iQ.G1 h3
  |false=>exact⟨rfl,h3⟩) rm (λ_ _=>hit) S htg Lm Mp h0 X B PG Nh NQ λJ a b c d e _=>done J a b c d e
noncomputable def bE (scope:Scope):Str->Bool:=λx=>decide (scope.names.lookup x=some .cell)
theorem dO.rr {h:Heap}{a:Addr}{p:PV}(x:dO C W h a p)(hp:kE p)(hW:∀b∈W',b∈W)(ha:¬C.N W' a):Rr C W' h (.ref a) p:=by
 have kk:∀b o,¬C.N W b->h.get? b=some o->¬C.N W' b/\h.get? b=some o:=λb o n g=>⟨λq=>n (q.elim .inl λq=> .inr (hW b q)),g⟩
 cases p with
 |lst xs=>refine aL x λvs n g r=> ?_;exact⟨a,vs,n,rfl,ha,g,aQ.mono kk r⟩
 |au xs=>refine wu x λvs n kvs g sd r=> ?_;exact⟨a,vs,n,kvs,rfl,ha,g,sd,bz.mono kk r⟩
 |obj o=>exact absurd rfl (hp o)
 |_=>exact x.elim
theorem bV {x:Str}{c:Addr}:∀{names:List (Str×NameKind)}{n:Nat},(x,c)∈cellsFrom n names []->n<=c
 |[],_,h=>by cases h
 |(y,kd)::r,n,h=>by
  unfold cellsFrom at h
  split at h
  ·rw [bF] at h
   rcases HA.mp h with h |h
   ·exact HM (bV h)
   ·cases Hi.mp h
    exact Hh _
  ·exact bV h
theorem nA {need:Bool}(he:jf e){target iter:Expr}{ifs:List Expr}{gs:List Comprehension}{Mt:Sem Value}{use:Option (Value->Sem Unit)}{Q:Value->Shared->Prop}
 (Mc:clausesOf e=⟨target,iter,ifs,0⟩::gs){inner:Env->Addr->Sem Unit}(heq:∀it D env,compTurn e 0 it (.ref D) env=gJ e 0 target iter ifs inner it D env)
 (ok:eQ scope sc)(hs:∀x env,foldedSetIterable iter env x=pure x){a₀:PV}{Ac:Nat->Acc}(LN:∀i,jP C (Ac i))(h0:∀J,ah C [] s J->Ac 0 a₀ J)(Qw:kE a₀)
 {o₁:Obj}(Rg:∀(s:Shared) (Q:Value->Shared->Prop) E,Q (.ref s.heap.objs.size) {s with heap:=s.heap.push o₁}->wpAny C.M A Mt Q E s)
 (ME:o₁.isFreed=false)(PY:∀W h a,h.get? a=some o₁->a≠sysModules->dO C W h a a₀){ps:List PV}
 (hi:eu need C k sc own ρ iter ps)(htg:need=true->cE target=true)(rm:ak A k)(X:St C W sc own ρ env s)
 (step:nq C k (ed scope sc) (bE scope) (bA scope ρ) target ifs Ac inner ps)
 (fin:∀J L D p,ah C [] s J->s.heap.objs.size<=L->L < J.heap.objs.size->L∉C.aq->(∃m,J.heap.Ns L m)->(∃o,J.heap.get? L=some o/\∃es n,o.data= .dict es n)->Rr C (L::W) J.heap (.ref D) p->Ac ps.length p J->
  compPost C.M A E use Q (.ref D) L (.ok .next) J):
 wpAny C.M A (comprehension e scope env pos Mt false (eval iter env) use) Q E s:=by
 have NO:closureFor scope env=pure (aT env.cells scope.names []):=eg λx hx hf=>by
  refine aL (X.cel x.1 (ok.free x hx hf)) λc cv h1 _=> ?_
  rw [h1];rfl
 refine wpAny_comprehension_free Mc (λx=>hs x env) NO ok.kind (λx hx hl=>by
  have:=b8 (c:=x.2) ok.nd (show (x.1,x.2)∈_ from hx)
  simp only [this,hl]) (Hb (hi W A env s rm X) (λv f' h=>h.2 A _ _ λit y' e2 ⟨I,LB,S⟩=>Rg y' _ _ (qj ?_)) λ_ _ q=>q.elim)
 refine cps λG g=> ?_
 have e1:=h.1
 have lo:=S.lo
 have Om:f'.heap.objs.size<=y'.heap.objs.size:=e2.size
 have M6:s.heap.objs.size<=y'.heap.objs.size:=Hg e1.size Om
 have MT:s.heap.objs.size<=I:=Hg e1.size lo
 refine ae (S.obj 0 _ S.st) λLq LW Lm=> ?_
 have X2:St C (I::W) sc [(I,.obj Lq)] ρ env y':=(((X.aA e1).grow e2 lo S.hi).less (own':=[]) (by simp)).iW G9 ⟨LW,Lm.bq⟩ S.nt (λq=>absurd (X.low _ X.noLoc.1) (Hs.mpr (q▸MT)))
 have ep:ah C [] y' {y' with heap:=y'.heap.push o₁}:=ah.push _ y'.toks
 have X4:=((X2.grow ep (Hh _) cg).iW G9 (PY _ _ _ (Heap.get?_push_size _ ME) (X2.inv.gv)) X2.inv.fresh (λq=>absurd (X2.low _ X2.noLoc.1) (Hs.mpr (q▸Hh _)))).comp ok
 have O9:=ep.trans (gu (C:=C) (scope:=scope))
 have O0:=(e1.trans e2).trans O9
 have Qr:(y'.heap.push o₁).objs.size=y'.heap.objs.size+1:=HU _ _
 dsimp only at X4 O9 O0
 rw [Qr] at X4
 have may:∀{a},s.heap.objs.size<=a->vA C [] s a:=λh=>⟨X.inv.beyond h,.inl h⟩
 have B4:Bs C [] (bE scope) s [(y'.heap.objs.size,a₀),(I,.obj Lq)] (iU scope env (y'.heap.objs.size+1)) {y' with heap:=el scope (y'.heap.push o₁)}:=
  ⟨O0,may (Hz M6),λx c hm hk hl=>may (by
   obtain⟨c',N1⟩:=aY (n:=y'.heap.objs.size+1+1) (acc:=[]) (mem_of_lookup (H9 hm))
   obtain⟨VQ,NR⟩:=aH N1
   have M8:(cellsFrom (y'.heap.objs.size+1+1) scope.names (aT env.cells scope.names [])).lookup x=some c:=hl
   rw [bF,H6,NR] at M8
   cases M8
   exact Hg M6 (HM (HM (bV (HX NR))))),memC (may M6) (memC (may MT) λ_ h=>nomatch h)⟩
 have S4:=S.rebase (W':=(y'.heap.objs.size+1)::y'.heap.objs.size::I::W) O9 (λa ha=>by simp [ha])
  (memC (.inr (Hz Om)) (memC (.inr Om) (memC (.inr lo) λ_=> .inl)))
 refine g ?_
 refine Qr▸?_
 have loop:codeAny C.M A (.compLoop e 0 (.ref I) (.ref y'.heap.objs.size) (iU scope env (y'.heap.objs.size+1))) (compPost C.M A E use Q (.ref y'.heap.objs.size) (y'.heap.objs.size+1)) {y' with heap:=el scope (y'.heap.push o₁)}:=
  m9 he (heq _ _ _) LN step rm (own':=[]) (λ_ h=>nomatch h) S4 htg Lm Qw (h0 _ O0) X4 B4 (IW S.hi) (λ_ h=>nomatch h) (λ_ h=>nomatch h) λJ p hp hA X5 B5=>by
   exact fin J _ _ p B5.aA (Hz M6) (X5.low _ G9) X5.noLoc.2 (by refine ae X5.loc λm h _=> ?_;exact⟨m,h⟩) (by refine lQ X5.oR λo es n g d=> ?_;exact⟨o,g,es,n,d⟩)
    ((X5.owns _ G9).2.1.rr hp (memC G9 λb hb=>Ha _ (Ha _ (Ha _ hb))) λq=>q.elim (X5.owns _ G9).2.2 λq=>(Hf.mp q).elim (H2 (Io _)) λq=>absurd (X.low _ q) (Hs.mpr M6)) hA
 simp only [S.it]
 refine fy he (by rw [Mc];rfl) rfl loop ?_
 exact S4.self rm.handled S4.st loop
theorem ah.ig {Lv:Shared}(e:ah C [] s J)(e':ah C [L] J Lv)(h:s.heap.objs.size<=L):ah C [] s Lv where
 keep a o h1 h2 g:=e'.keep a o h1 (by
  have:=Hp g
  rw [Hi]
  rintro rfl
  exact HB _ (Hn this h)) (e.keep a o h1 h2 g)
 size:=Hg e.size e'.size
 tabs:=(e.up.trans (e'.mono (W':=[L]) λ_ h=>h)).tabs
 os:=e'.os.trans e.os
 gens h:=e'.gens (e.gens h)
theorem Rr.ig {h h':Heap}{v:Value}{p:PV}(x:Rr C (L::W) h v p)(hs:Heap.SameBut L h h'):Rr C W h' v p:=
 Rp.mono (λb o n g=>⟨λq=>n (q.elim .inl λq=> .inr (Ha _ q)),(hs.2 b (by rintro rfl;exact n (.inr G9))).trans g⟩) x
theorem nT {p:PV}(X:St C W sc own ρ env s)(J:Shared)(L D:Addr)(e:ah C [] s J)(h1:s.heap.objs.size<=L)(h2:L < J.heap.objs.size)(h3:L∉C.aq)(h4:∃m,J.heap.Ns L m)(h5:∃o,J.heap.get? L=some o/\∃es n,o.data= .dict es n)(r:Rr C (L::W) J.heap (.ref D) p){E:Value->Shared->Prop}:
 compPost C.M A E none (λv J=>ah C [] s J/\Rr C W J.heap v p) (.ref D) L (.ok .next) J:=by
 refine cz h4 λm hm=> ?_
 obtain⟨o,ho,es,n,hd⟩:=h5
 refine⟨m,hm,λh' hs=>⟨e.ig (ah.turn (tk:=J.toks) (X.inv.jj e) hs ho (by refine hd▸?_;intro vs q;cases q) (by simp)) h1,r.ig hs⟩⟩
theorem xi {p:PV}{y:Str}{py:Pos}{E:Value->Shared->Prop}{Q:Value->Shared->Prop}(X:St C W sc own ρ env s)(B:Bs C Wt mine t own env s)(hh:A.handled=none)(ht:bg C sc mine ρ (.Name y py) p J')
 (next:∀J,St C W sc own J' env J->Bs C Wt mine t own env J->Q .none J)
 (J:Shared)(L D:Addr)(e:ah C [] s J)(h1:s.heap.objs.size<=L)(h2:L < J.heap.objs.size)(h3:L∉C.aq)(h4:∃m,J.heap.Ns L m)(h5:∃o,J.heap.get? L=some o/\∃es n,o.data= .dict es n)(r:Rr C (L::W) J.heap (.ref D) p):
 compPost C.M A E (some (assign (.Name y py) env)) Q (.ref D) L (.ok .next) J:=by
 refine Hb (ht _ _ A env J _ _ _ hh (X.grow e h1 h2) ((B.step e).start) r) ?_ λ_ _ q=>q.elim
 intro _ s5 zz;refine cZ zz λX5 B5 _=> ?_
 obtain⟨m,om,Mk,Uq,hm,QB⟩:=h4
 obtain⟨o,ho,es,n,hd⟩:=h5
 have g5:∀o,J.heap.get? L=some o->s5.heap.get? L=some o:=λo g=>B5.aA.keep _ _ h3 (λq=>absurd (vR X _ q) (Hs.mpr h1)) g
 have N3:C.h₀.get? L=none:=X.inv.beyond h1
 refine⟨m,⟨om,Mk,Uq,g5 _ hm,QB⟩,λh' hs=> ?_⟩
 have e5:ah C [L] s5 {s5 with heap:=h'}:=ah.turn (tk:=s5.toks) X5.inv hs (g5 _ ho) (by refine hd▸?_;intro vs q;cases q) (by simp)
 refine next _ ?_ ?_
 ·have:=X5.turn (own':=own) G9 (λq=>absurd (X.low _ X.noLoc.1) (Hs.mpr (q▸h1))) N3 hs.extBut e5 (g5 _ ho) (by intro v q;replace q:=hd▸q;cases q) (λz hz=> .inr ⟨λq=>absurd (X.low _ (X.owns z hz).1) (Hs.mpr (q▸h1)),hz⟩)
  exact this.drop (λa ha=>Ha _ ha) (λz hz=>(X.owns z hz).1) X.noLoc.1
 ·exact((B.step e).join B5.aA (B.ij)).turn hs ⟨N3,.inl (Hg B.aA.size h1)⟩ e5
noncomputable def jn (elt:Expr):Env->Addr->Sem Unit:=λenv D=>(do let _ <-call (.builtin "list.append") [.ref D,<-eval elt env])
def fx (C:Cfg)(k:Nat)(sc:Sc)(mine:Str->Bool)(own own':Own)(ρ:bK)(e:Expr)(p:PV):Prop:=
 ∀W A env s t Wt,ak A k->St C W sc own ρ env s->Bs C Wt mine t own env s->wpAny C.M A (eval e env) (λv J=>St C W sc own' ρ env J/\Bs C Wt mine t own' env J/\Rr C W J.heap v p) (λ_ _=>False) s
theorem Ev.o {e:Expr}{p:PV}(h:Ev C k sc own ρ e p):fx C k sc mine own own ρ e p:=λW A env s t Wt rm X B=>
 Hb (h W A env s rm X) (λv J q=>⟨X.aA q.1,B.step q.1,q.2⟩) λ_ _ q=>q
theorem rZ.emit {Z:Prop}{elt:Expr}{Ac Nj:Acc}(K':own₂.map (·.1)=own₁.map (·.1))(LN:A4 Z C Ac)(NB:∀y q,ρ y=some q->j' y=some q)
 (h:∀acc s,Ac acc s->∃xs p,acc= .lst xs/\(∀pre:Own,(∀y∈pre,∀z∈own₁,y.1≠z.1)->fx C k sc mine (pre ++ own₁) (pre ++ own₂) j' elt p)/\xs.length<=sizeLine/\∀s,Ac acc s->Nj (.lst (xs ++ [p])) s):
 rZ Z C k sc mine own₁ own₂ j' Ac ρ Nj (jn elt):=λW pre A env s D acc t Wt rm Nh hp Mv Oy hA X B=>by
 refine g8 (h acc s hA) λxs p G' h hz h3=> ?_;subst G'
 have Sd:∀y∈pre ++ own₂,y.1≠D:=λy hy=>by
  have:y.1∈(pre ++ own₁).map (·.1):=by rw [Hr,<-K',<-Hr];exact He.mpr ⟨y,hy,rfl⟩
  refine ae (He.mp this) λz hz e=>e▸Nh z hz
 refine Hc (Hb (h ((D,.lst xs)::pre) (memC (λz hz=>(Nh z (HT _ hz)).symm) hp) W A env s s _ rm X (B.wV rfl)) ?_ λ_ _ q=>q.elim)
 intro v s1 zz;refine cZ zz λX1 B1 r1=> ?_
 have BB:=B.join B1.aA B.ij
 have Qm:=BB.owns _ G9
 refine aL (X1.owns _ G9).2.1 λvs n g r=> ?_
 refine Hc (wpAny_list_append_plain ⟨n,g⟩ (λh' M8 L2=>Hj ?_) (by simpa [aQ.length r] using hz))
 refine cps λG g'=> ?_
 have e2:ah C [D] s1 {s1 with heap:=h'}:=ah.turn (tk:=s1.toks) X1.inv L2 g (λvs q=>nomatch q) (by simp)
 have kk:∀b o,¬C.N W b->s1.heap.get? b=some o->¬C.N W b/\h'.get? b=some o:=λb o n g=>⟨n,(L2.2 b (by rintro rfl;exact n (.inr (X1.owns _ G9).1))).trans g⟩
 refine cz M8 λn' M8=> ?_
 exact g' ⟨.lst (xs ++ [p]),kE.lst,h3 _ (LN _ _ _ _ X1.inv (LN _ _ _ _ X.inv hA B1.aA (λz=>ll (mine:=mine) X (memC (λo q=>absurd q (Oy o)) (Mv z)))) e2 λ_=>memC ⟨_,g,λ_=>nofun⟩ λ_ h=>nomatch h),
  (X1.turn (own':=(D,.lst (xs ++ [p]))::(pre ++ own₂)) (X1.owns _ G9).1 (X1.ownLoc _ G9) Qm.1 L2.extBut e2 g (λ_=>nofun)
   (memC (.inl ⟨rfl,vs ++ [v],n',by rw [M8];simp [ao],aQ.append (aQ.mono kk r) ⟨v,[],rfl,Rp.mono kk r1,rfl⟩⟩) λy hy=> .inr ⟨Sd y hy,Ha _ hy⟩)).weaken NB,
  (BB.turn L2 Qm e2).less λy hy=>by
   have:y.1∈((D,PV.lst xs)::(pre ++ own₁)).map (·.1):=((λp q=>by simp only [Hm,Hr,K']:∀p q,((D,p)::(pre ++ own₂)).map (·.1)=((D,q)::(pre ++ own₁)).map (·.1)) (.lst (xs ++ [p])) (.lst xs))▸He.mpr ⟨y,hy,rfl⟩
   exact ae (He.mp this) λz hz e=>⟨z.2,e▸hz⟩⟩
theorem iQ.emit {elt:Expr}{Ac Nj:Acc}(LN:jP C Ac)(NB:∀y q,ρ y=some q->j' y=some q)
 (h:∀acc s,Ac acc s->∃xs p,acc= .lst xs/\Ev C k sc [] j' elt p/\xs.length<=sizeLine/\∀s,Ac acc s->Nj (.lst (xs ++ [p])) s):
 iQ C k sc mine j' Ac ρ Nj (jn elt):=λW own' A env s D acc t Wt rm Nh Mv Oy hA X B=>
 rZ.emit (mine:=mine) (own₁:=own') (own₂:=own') rfl (Z:=True) (λp s J V a b c d=>LN p s J V a b c (d trivial)) NB (λacc s hA=>by refine g8 (h acc s hA) λxs p a b c d=>⟨xs,p,a,λpre _=>Ev.o λW A env s rm X=>b W A env s rm (X.less (λ_ h=>nomatch h)),c,d⟩) W [] A env s D acc t Wt rm Nh (λ_ h=>nomatch h) (λ_=>Mv) Oy hA X B
theorem jY {elt:Expr}{p:PV}{xs:List PV}(h:Ev C k sc [] j' elt p)(NB:∀y q,ρ y=some q->j' y=some q)(hz:xs.length<=sizeLine):iQ C k sc mine j' (lh (.lst xs)) ρ (lh (.lst (xs ++ [p]))) (jn elt):=
 iQ.emit jP.eq NB λ_ _ e=>⟨xs,p,e,h,hz,λ_ _=>rfl⟩
def Cv (C:Cfg)(k:Nat)(sc:Sc)(own:Own)(ρ:bK)(e:Expr)(scope:Scope)(gens:List Comprehension)(pos:Pos)(Mt:Sem Value)(p:PV):Prop:=
 ∀W A env s (use:Option (Value->Sem Unit)) (Q:Value->Shared->Prop) (E:Value->Shared->Prop),ak A k->St C W sc own ρ env s->
  (∀J L D,ah C [] s J->s.heap.objs.size<=L->L < J.heap.objs.size->L∉C.aq->(∃m,J.heap.Ns L m)->(∃o,J.heap.get? L=some o/\∃es n,o.data= .dict es n)->Rr C (L::W) J.heap (.ref D) p->
   compPost C.M A E use Q (.ref D) L (.ok .next) J)->
  wpAny C.M A (comprehension e scope env (firstIterPos gens pos) Mt (firstAsync gens) (firstIter gens env) use) Q E s
abbrev fT (C:Cfg)(k:Nat)(sc:Sc)(own:Own)(ρ:bK)(elt:Expr)(gens:List Comprehension)(scope:Scope)(pos:Pos)(p:PV):Prop:=Cv C k sc own ρ (.ListComp elt gens scope pos) scope gens pos (newList []) p
abbrev DC (C:Cfg)(k:Nat)(sc:Sc)(own:Own)(ρ:bK)(kx vx:Expr)(gens:List Comprehension)(scope:Scope)(pos:Pos)(p:PV):Prop:=Cv C k sc own ρ (.DictComp kx vx gens scope pos) scope gens pos newDict p
theorem fT.ev {elt:Expr}{gens:List Comprehension}{p:PV}(h:fT C k sc own ρ elt gens scope pos p):Ev C k sc own ρ (.ListComp elt gens scope pos) p:=λW A env s rm X=>by
 exact h W A env s _ _ _ rm X λJ L D a b c d f g r=>nT X J L D a b c d f g r
theorem DC.ev {kx vx:Expr}{gens:List Comprehension}{p:PV}(h:DC C k sc own ρ kx vx gens scope pos p):Ev C k sc own ρ (.DictComp kx vx gens scope pos) p:=λW A env s rm X=>by
 exact h W A env s _ _ _ rm X λJ L D a b c d f g r=>nT X J L D a b c d f g r
theorem fT.assign {elt:Expr}{gens:List Comprehension}{p:PV}{y:Str}{py P7:Pos}{rest:List Stmt}{Q:Flow->Shared->Prop}{E:Value->Shared->Prop}(h:fT C k sc own ρ elt gens scope pos p)
 (X:St C W sc own ρ env s)(B:Bs C Wt mine t own env s)(rm:ak A k)(ht:bg C sc mine ρ (.Name y py) p J')
 (Ut:swapsWith (.ListComp elt gens scope pos) (some (.Name y py)) P7.line env=pure true)
 (next:∀J,St C W sc own J' env J->Bs C Wt mine t own env J->wpAny C.M A (execs rest env) Q E J):
 wpAny C.M A (execs (.Assign [.Name y py] (.ListComp elt gens scope pos) P7::rest) env) Q E s:=by
 refine HP ?_
 refine(exec_Assign_Name_used _ _ _ _ Ut)▸?_
 refine Hc (Iw (Hc ?_))
 refine Hc (Hb (h W A env s _ (λ_ J=>wpAny C.M A (execs rest env) Q E J) _ rm X λJ L D a b c d f g r=>xi X B rm.handled ht next J L D a b c d f g r) (λ_ J hq=>Hj (Hj hq)) λ_ _ e=>e)
theorem q5 {need:Bool}{elt target iter:Expr}{ifs:List Expr}{gs:List Comprehension}(inner:Env->Addr->Sem Unit)
 (heq:∀it D env,compTurn (.ListComp elt (⟨target,iter,ifs,0⟩::gs) scope pos) 0 it (.ref D) env=gJ (.ListComp elt (⟨target,iter,ifs,0⟩::gs) scope pos) 0 target iter ifs inner it D env)
 (ok:eQ scope sc)(hs:∀x env,foldedSetIterable iter env x=pure x){ps xs:List PV}(acc:Nat->PV)(h0:acc 0= .lst [])(hn:acc ps.length= .lst xs)
 (hi:eu need C k sc own ρ iter ps)
 (step:nq C k (ed scope sc) (bE scope) (bA scope ρ) target ifs (λi=>lh (acc i)) inner ps)(htg:autoParam (need=true->cE target=true) nf):
 fT C k sc own ρ elt (⟨target,iter,ifs,0⟩::gs) scope pos (.lst xs):=λW A env s use Q E rm X fin=>
 nA (.inl ⟨_,_,_,_,rfl⟩) rfl heq ok hs (λ_=>jP.eq) (a₀:= .lst []) (λ_ _=>h0.symm) kE.lst (o₁:=ao [] 0) (λs Q E h=>Ie h) rfl (λW h a g _=>⟨[],0,g,rfl⟩) hi htg rm X step λJ L D p a b c d f g r e=>fin J L D a b c d f g ((e.trans hn)▸r)
theorem C4 {need:Bool}{kx vx target iter:Expr}{ifs:List Expr}{gs:List Comprehension}(inner:Env->Addr->Sem Unit)
 (heq:∀it D env,compTurn (.DictComp kx vx (⟨target,iter,ifs,0⟩::gs) scope pos) 0 it (.ref D) env=gJ (.DictComp kx vx (⟨target,iter,ifs,0⟩::gs) scope pos) 0 target iter ifs inner it D env)
 (ok:eQ scope sc)(hs:∀x env,foldedSetIterable iter env x=pure x){ps:List PV}{xs:List (Str×PV)}(acc:Nat->PV)(h0:acc 0= .au [])(hn:acc ps.length= .au xs)
 (hi:eu need C k sc own ρ iter ps)
 (step:nq C k (ed scope sc) (bE scope) (bA scope ρ) target ifs (λi=>lh (acc i)) inner ps)(htg:autoParam (need=true->cE target=true) nf):
 DC C k sc own ρ kx vx (⟨target,iter,ifs,0⟩::gs) scope pos (.au xs):=λW A env s use Q E rm X fin=>
 nA (.inr ⟨_,_,_,_,_,rfl⟩) rfl heq ok hs (λ_=>jP.eq) (a₀:= .au []) (λ_ _=>h0.symm) kE.au (o₁:=bj [] 0) (λs Q E h=>Ie h) rfl (λW h a g Me=>⟨[],0,[],g,⟨Me,by intro e h;simp at h,.nil,by decide⟩,rfl⟩) hi htg rm X step λJ L D p a b c d f g r e=>fin J L D a b c d f g ((e.trans hn)▸r)
theorem take_snoc {α:Type}{ps:List α}{i:Nat}{p:α}(h:ps[i]? =some p):ps.take (i+1)=ps.take i ++ [p]:=by
 simp only [IS,h];rfl
theorem cY {l:List α}{g:α->PV}{i:Nat}{p:PV}(h:(l.map g)[i]? =some p):∃a,l[i]? =some a/\p=g a:=by
 rw [List.getElem?_map] at h
 refine ae (Iy.mp h) λa h1 h2=> ?_
 exact⟨a,h1,h2.symm⟩
theorem c4 {need:Bool}{elt target iter:Expr}(ok:eQ scope sc)(hs:∀x env,foldedSetIterable iter env x=pure x){l:List α}{g:α->PV}(f:α->PV)
 (hi:eu need C k sc own ρ iter (l.map g))(hz:l.length<=sizeLine)
 (step:∀a∈l,∃j',bg C (ed scope sc) (bE scope) (bA scope ρ) target (g a) j'/\(∀y q,bA scope ρ y=some q->j' y=some q)/\Ev C k (ed scope sc) [] j' elt (f a))(htg:autoParam (need=true->cE target=true) nf):
 fT C k sc own ρ elt [⟨target,iter,[],0⟩] scope pos (.lst (l.map f)):=
 q5 (htg:=htg) (jn elt) (λit D env=>by rfl) ok hs (λi=> .lst ((l.take i).map f)) (by rfl) (by simp) hi λi p hp=>by
  refine ae (cY hp) λa ha G'=> ?_;refine G'▸?_
  refine iI (step a (List.mem_of_getElem? ha)) λj' h1 h2 h3=> ?_
  refine⟨j',true,h1,vc.nil,?_⟩
  show iQ _ _ _ _ _ (lh _) _ (lh (.lst ((l.take (i+1)).map f))) _
  rw [take_snoc ha,Hr]
  exact jY h3 h2 (by rw [Hd,H8];exact Hg (Jw _ _) hz)
theorem bI {need:Bool}{elt target iter c:Expr}(ok:eQ scope sc)(hs:∀x env,foldedSetIterable iter env x=pure x){l:List α}{g:α->PV}(f:α->PV)(b:α->Bool)
 (hi:eu need C k sc own ρ iter (l.map g))(hz:l.length<=sizeLine)
 (step:∀a∈l,∃j',bg C (ed scope sc) (bE scope) (bA scope ρ) target (g a) j'/\(∀y q,bA scope ρ y=some q->j' y=some q)/\Tr C k (ed scope sc) [] j' c (b a)/\(b a=true->Ev C k (ed scope sc) [] j' elt (f a)))(htg:autoParam (need=true->cE target=true) nf):
 fT C k sc own ρ elt [⟨target,iter,[c],0⟩] scope pos (.lst ((l.filter b).map f)):=
 q5 (htg:=htg) (jn elt) (λit D env=>by rfl) ok hs (λi=> .lst (((l.take i).filter b).map f)) (by rfl) (by simp) hi λi p hp=>by
  refine ae (cY hp) λa ha G'=> ?_;refine G'▸?_
  refine r9 (step a (List.mem_of_getElem? ha)) λj' h1 h2 h3 h4=> ?_
  refine⟨j',b a,h1,vc.one h3,?_⟩
  have e:=Hx (List.filter b) (take_snoc ha)
  simp only [Kx] at e
  cases hb:b a with
  |true=>
   show iQ _ _ _ _ _ (lh _) _ (lh (.lst (((l.take (i+1)).filter b).map f))) _
   simp only [e,show [a].filter b=[a] by simp [hb],Hr]
   refine jY (h4 hb) h2 ?_
   rw [Hd]
   exact Hg (Ic _ _) (by rw [H8];exact Hg (Jw _ _) hz)
  |false=>
   simp only [show [a].filter b=[] by simp [hb],IA] at e
   exact⟨h2,λp s h=>h.trans (by rw [e])⟩
theorem ux {need:Bool}{elt target iter:Expr}(ok:eQ scope sc)(hs:∀x env,foldedSetIterable iter env x=pure x){ps:List PV}(f:PV->PV)
 (hi:eu need C k sc own ρ iter ps)(hz:ps.length<=sizeLine)
 (step:∀p∈ps,∃j',bg C (ed scope sc) (bE scope) (bA scope ρ) target p j'/\(∀y q,bA scope ρ y=some q->j' y=some q)/\Ev C k (ed scope sc) [] j' elt (f p))(htg:autoParam (need=true->cE target=true) nf):
 fT C k sc own ρ elt [⟨target,iter,[],0⟩] scope pos (.lst (ps.map f)):=
 c4 (g:=id) ok hs f (by simp only [J1];exact hi) hz step htg
theorem ot {need:Bool}{elt target iter c:Expr}(ok:eQ scope sc)(hs:∀x env,foldedSetIterable iter env x=pure x){ps:List PV}(f:PV->PV)(b:PV->Bool)
 (hi:eu need C k sc own ρ iter ps)(hz:ps.length<=sizeLine)
 (step:∀p∈ps,∃j',bg C (ed scope sc) (bE scope) (bA scope ρ) target p j'/\(∀y q,bA scope ρ y=some q->j' y=some q)/\Tr C k (ed scope sc) [] j' c (b p)/\(b p=true->Ev C k (ed scope sc) [] j' elt (f p)))(htg:autoParam (need=true->cE target=true) nf):
 fT C k sc own ρ elt [⟨target,iter,[c],0⟩] scope pos (.lst ((ps.filter b).map f)):=
 bI (g:=id) ok hs f b (by simp only [J1];exact hi) hz step htg
noncomputable def tA (e:Expr) (d:Nat) (iter:Expr):Env->Addr->Sem Unit:=λenv D=>do
 let x <-eval iter env
 standAt iter.pos
 let x <-foldedSetIterable iter env x
 let _ <-runOwn (.compStart e (d+1) (<-holding [x] (pyIter x)) (.ref D) env) env
def A8 (need:Bool)(C:Cfg)(k:Nat)(sc:Sc)(ρ:bK)(e:Expr)(Pr:Nat->List PV->Shared->Prop):Prop:=
 ∀W A env s,ak A k->St C W sc [] ρ env s->wpAny C.M A (eval e env) (λv f'=>ah C [] s f'/\∃ps,Pr s.heap.objs.size ps f'/\∀A':Around,∀Q:Value->Shared->Prop,∀E,
  (∀it y',ah C [] f' y'->Sq need C W f'.heap.objs.size it ps y'->Q it y')->wpAny C.M A' (pyIter v) Q E f') (λ_ _=>False) s
theorem uP {need:Bool}(he:jf e){target iter:Expr}{ifs:List Expr}{inner:Env->Addr->Sem Unit}
 (hg:(clausesOf e)[d+1]? =some ⟨target,iter,ifs,0⟩)(heq:∀it D env,compTurn e (d+1) it (.ref D) env=gJ e (d+1) target iter ifs inner it D env)
 (hs:∀x env,foldedSetIterable iter env x=pure x){Mz Nt:Acc}{Pr:Nat->List PV->Shared->Prop}{z:Nat}(Tj:jP C Mz)(Sz:∀acc s,Mz acc s->z<=s.heap.objs.size)
 (U4:∀n ps,jP C λ_ s=>Pr n ps s)
 (hi:A8 need C k sc j' iter Pr)(htg:need=true->cE target=true)(NB:∀y q,ρ y=some q->j' y=some q)
 (QO:∀n ps acc s,z<=n->Mz acc s->Pr n ps s->∃Ac:Nat->Acc,(∀i,jP C (Ac i))/\(∀s,Mz acc s->Pr n ps s->Ac 0 acc s)/\(∀p s,Ac ps.length p s->Nt p s)/\nq C k sc mine j' target ifs Ac inner ps):
 iQ C k sc mine j' Mz ρ Nt (tA e d iter):=λW own' A env s D a₀ t Wt rm Nh Mv Oy S3 X B=>by
 refine Hc (Hb (hi W A env s rm (X.less (by simp))) (λv f' h=> ?_) λ_ _ q=>q.elim)
 obtain⟨e1,ps,hP,hit⟩:=h
 refine Hc (Iw (Hc (wpAny_of_eq (hs v env) (Hc (HV (hit A _ _ λit y' e2 ⟨I,LB,S⟩=>Hc (wpAny_runOwn ?_)))))))
 refine cps λG g=> ?_
 have nil:∀{s},vo s []:=λ_ h=>nomatch h
 have SR:=Tj _ _ _ _ X.inv S3 e1 nil
 refine r9 (QO s.heap.objs.size ps a₀ f' (Sz _ _ S3) SR hP) λAc LN hz OS step=> ?_
 have lo:=S.lo
 have MT:s.heap.objs.size<=I:=Hg e1.size lo
 refine ae (S.obj 0 _ S.st) λLq LW Lm=> ?_
 have Ll:∀y∈(D,a₀)::own',y.1≠I:=λy hy q=>absurd (X.low _ (X.owns y hy).1) (Hs.mpr (q▸MT))
 have swap:∀{p q:Addr×PV},∀y∈p::q::own',y∈q::p::own':=λy hy=>(List.Perm.swap _ _ _).mem_iff.mp hy
 have X2:St C (I::W) sc ((D,a₀)::(I,.obj Lq)::own') j' env y':=
  (((X.aA e1).grow e2 lo S.hi).iW (a:=I) (p:= .obj Lq) G9 ⟨LW,Lm.bq⟩ S.nt (λq=>absurd (X.low _ X.noLoc.1) (Hs.mpr (q▸MT)))).less swap
 have B2:Bs C Wt mine t ((D,a₀)::(I,.obj Lq)::own') env y':=
  ((B.step (e1.trans e2)).more (p:= .obj Lq) (a:=I) ⟨X.inv.beyond MT,.inl (Hg B.aA.size MT)⟩).less λy hy=>⟨y.2,swap y hy⟩
 have S':=S.rebase (W':=I::W) (ah.refl y') (λa ha=>Ha _ ha) (memC (.inr lo) λ_=> .inl)
 refine g ?_
 rw [S.it]
 have loop:codeAny C.M A (.compLoop e (d+1) (.ref I) (.ref D) env) (λr J=>match r with | .ok f=>wpAny C.M A (pure ():Sem Unit) (λ_ J=>∃acc',kE acc'/\Nt acc' J/\St C W sc ((D,acc')::own') ρ env J/\Bs C Wt mine t ((D,acc')::own') env J) (λ_ _=>False) J | .error e=>cameBackBy C.M A env (λ_ _=>False) e J) y':=
  m9 he (heq _ _ _) LN step rm (own':=own') Mv S' htg Lm Oy (hz _ (Tj _ _ _ _ (X.inv.jj e1) SR e2 nil) (U4 _ ps a₀ _ _ _ (X.inv.jj e1) hP e2 nil)) X2 B2 (Ll _ G9) Nh (λy hy=>Ll y (Ha _ hy)) λJ acc' VC hA X5 B5=>
   Hj ⟨acc',VC,OS _ _ hA,(X5.drop (λa ha=>Ha _ ha) (memC (X.owns _ G9).1 λy hy=>(X.owns y (Ha _ hy)).1) X.noLoc.1).weaken NB,B5⟩
 refine fy he hg rfl loop ?_
 exact S'.self rm.handled S'.st loop
theorem eu.EP {need:Bool}{ps:List PV}(h:eu need C k sc [] ρ e ps):A8 need C k sc ρ e λ_ qs _=>qs=ps:=λW A env s rm X=>
 Hb (h W A env s rm X) (λ_ _ q=>⟨q.1,ps,rfl,q.2⟩) λ_ _ q=>q
theorem yf {need:Bool}(he:jf e){target iter:Expr}{ifs:List Expr}(inner:Env->Addr->Sem Unit)
 (hg:(clausesOf e)[d+1]? =some ⟨target,iter,ifs,0⟩)(heq:∀it D env,compTurn e (d+1) it (.ref D) env=gJ e (d+1) target iter ifs inner it D env)
 (hs:∀x env,foldedSetIterable iter env x=pure x){ps:List PV}(acc:Nat->PV){a₀ PO:PV}(h0:acc 0=a₀)(hn:acc ps.length=PO)
 (hi:eu need C k sc [] j' iter ps)(htg:need=true->cE target=true)(NB:∀y q,ρ y=some q->j' y=some q)
 (step:nq C k sc mine j' target ifs (λi=>lh (acc i)) inner ps):iQ C k sc mine j' (lh a₀) ρ (lh PO) (tA e d iter):=
 uP he hg heq hs (z:=0) jP.eq (λ_ _ _=>HK _) (λ_ _ _ _ _ _ _ h _ _=>h) hi.EP htg NB λn qs p s _ e1 e2=>
  ⟨λi=>lh (acc i),λ_=>jP.eq,λ_ h _=>h.trans h0.symm,λ_ _ h=>(e2▸h).trans hn,e2▸step⟩
theorem BR {elt t1 i1 t2 i2:Expr}{f1 f2:List Expr}{it:Value}{D:Addr}{env:Env}:compTurn (.ListComp elt [⟨t1,i1,f1,0⟩,⟨t2,i2,f2,0⟩] scope pos) 0 it (.ref D) env=
 gJ (.ListComp elt [⟨t1,i1,f1,0⟩,⟨t2,i2,f2,0⟩] scope pos) 0 t1 i1 f1 (tA (.ListComp elt [⟨t1,i1,f1,0⟩,⟨t2,i2,f2,0⟩] scope pos) 0 i2) it D env:=by
 simp only [gJ,tA]
 simp only [Kj]
 rfl
theorem Ax {elt t1 i1 t2 i2:Expr}{f1 f2:List Expr}{it:Value}{D:Addr}{env:Env}:compTurn (.ListComp elt [⟨t1,i1,f1,0⟩,⟨t2,i2,f2,0⟩] scope pos) (0+1) it (.ref D) env=
 gJ (.ListComp elt [⟨t1,i1,f1,0⟩,⟨t2,i2,f2,0⟩] scope pos) (0+1) t2 i2 f2 (jn elt) it D env:=by rfl
variable {β:Type}
noncomputable def putD (es:List (Str×PV)) (x:Str) (p:PV):List (Str×PV):=if es.any (λe=>e.1=x) then es.map (λe=>if e.1=x then(e.1,p) else e) else es ++ [(x,p)]
theorem aU {h:Heap}{a:Addr}{ds:List DictEntry}{n:Nat}{kvs:List (Str×Value)}(g:h.get? a=some (bj ds n))(sd:C.S a ds kvs):h.DictOf (strKind C.prog C.w) a kvs:=
 ⟨_,ds.toArray,n,g,⟨rfl,rfl,rfl⟩,rfl,sd.2.1,by simpa using sd.2.2.1,sd.2.2.2⟩
theorem fF {h:Heap}{a:Addr}{kvs:List (Str×Value)}(x:h.DictOf (strKind C.prog C.w) a kvs)(ha:a≠sysModules):∃ds n,h.get? a=some (bj ds n)/\C.S a ds kvs:=by
 obtain⟨o,es,ep,g,⟨h1,h2,h3⟩,hd,hk,hp,hn⟩:=x
 obtain⟨c,dd,da,sl⟩:=o
 dsimp only at h1 h2 h3 hd
 subst h1;subst h2;subst h3;subst hd
 exact⟨es.toList,ep,g,ha,by lia,hp,hn⟩
theorem bz.keys {P:Addr->List DictEntry->List (Str×Value)->Prop}{N:Addr->Prop}{h:Heap}:∀{es:List (Str×PV)}{kvs:List (Str×Value)},bz P N h kvs es->kvs.map (·.1)=es.map (·.1)
 |[],_,x=>by rw [show _=([]:List (Str×Value)) from x];rfl
 |(q,p)::ps,_,⟨v,r,e,x,y⟩=>by simp only [e,Hm,bz.keys y]
theorem bz.app {P:Addr->List DictEntry->List (Str×Value)->Prop}{N:Addr->Prop}{h:Heap}:∀{es Mk:List (Str×PV)}{kvs Mm:List (Str×Value)},bz P N h kvs es->bz P N h Mm Mk->bz P N h (kvs ++ Mm) (es ++ Mk)
 |[],_,_,_,x,y=>by refine(show _=([]:List (Str×Value)) from x)▸?_;exact y
 |(q,p)::ps,_,_,_,⟨v,r,e,x,y⟩,z=>by refine e▸?_;exact⟨v,_,rfl,x,bz.app y z⟩
theorem bz.put {P:Addr->List DictEntry->List (Str×Value)->Prop}{N:Addr->Prop}{h:Heap}{x:Str}{v:Value}{p:PV}(hv:Rp P N h v p){es:List (Str×PV)}{kvs:List (Str×Value)}(r:bz P N h kvs es):bz P N h (stored kvs x v) (putD es x p):=by
 have hk:=bz.keys r
 have PN:kvs.any (λkv=>decide (kv.1=x))=es.any (λe=>decide (e.1=x)):=by
  simp only [(by rw [JN];rfl:kvs.any (λkv=>decide (kv.1=x))=(kvs.map (·.1)).any (λy=>decide (y=x))),(by rw [JN];rfl:es.any (λe=>decide (e.1=x))=(es.map (·.1)).any (λy=>decide (y=x))),hk]
 delta stored putD
 refine PN▸?_
 split
 ·rename_i Vw
  clear PN hk Vw
  induction es generalizing kvs with
  |nil=>refine(show kvs=[] from r)▸?_;rfl
  |cons e es ih=>
   refine bp r λu r' G' x1 y1=> ?_;rw [G']
   rw [Hm,Hm]
   by_cases hq:e.1=x
   ·rw [hq]
    simp only [Kw]
    exact⟨v,_,rfl,hv,ih y1⟩
   ·simp only [hq,JL]
    exact⟨u,_,rfl,x1,ih y1⟩
 ·exact bz.app r ⟨v,[],rfl,hv,rfl⟩
theorem bz.find {P:Addr->List DictEntry->List (Str×Value)->Prop}{N:Addr->Prop}{h:Heap}{x:Str}:∀{es:List (Str×PV)}{kvs:List (Str×Value)},bz P N h kvs es->∀{p},es.lookup x=some p->∃v,valueAt kvs x=some v/\Rp P N h v p
 |[],_,_,p,e=>by simp at e
 |(q,p')::ps,_,⟨v,r,e,y,z⟩,p,e'=>by
  subst e
  simp only [Hl] at e'
  unfold valueAt
  simp only [List.find?_cons]
  cases hx:x==q with
  |true=>
   replace e':=hx▸e';cases e'
   have:x=q:=by simpa using hx
   refine this▸?_
   exact⟨v,by simp,y⟩
  |false=>
   replace e':=hx▸e'
   have:¬q=x:=by intro h;subst h;simp at hx
   obtain⟨u,h1,h2⟩:=bz.find z e'
   refine⟨u,?_,h2⟩
   simp only [this,decide_false]
   exact h1
theorem bz.h8 {P:Addr->List DictEntry->List (Str×Value)->Prop}{N:Addr->Prop}{h:Heap}{x:Str}:∀{es:List (Str×PV)}{kvs:List (Str×Value)},bz P N h kvs es->es.lookup x=none->valueAt kvs x=none
 |[],_,e,_=>by rw [show _=([]:List (Str×Value)) from e];rfl
 |(q,p')::ps,_,⟨v,r,e,y,z⟩,e'=>by
  subst e
  simp only [Hl] at e'
  unfold valueAt
  simp only [List.find?_cons]
  cases hx:x==q with
  |true=>replace e':=hx▸e';cases e'
  |false=>
   rw [hx] at e'
   have:¬q=x:=by intro h;subst h;simp at hx
   simp only [this,decide_false]
   exact bz.h8 z e'
noncomputable def A0 (kx vx:Expr):Env->Addr->Sem Unit:=λenv D=>do
 let kv <-eval kx env
 let vv <-holding [kv] (eval vx env)
 standAt {kx.pos with endLine:=vx.pos.endLine,endCol:=vx.pos.endCol}
 holding [kv,vv] (dictSet D kv vv)
theorem vu {kx vx:Expr}{x:Str}{p:PV}{es:List (Str×PV)}(h1:Ev C k sc [] j' kx (.str x))(h2:Ev C k sc [] j' vx p)(NB:∀y q,ρ y=some q->j' y=some q)(hz:es.length<=sizeLine):iQ C k sc mine j' (lh (.au es)) ρ (lh (.au (putD es x p))) (A0 kx vx):=λW own' A env s D acc t Wt rm Nh Mv Oy hA X B=>by
 cases hA
 refine Hc (Hb (h1 W A env s rm (X.less (by simp))) (λkv s1 q1=>Hc (HV (Hb (h2 W A env s1 rm ((X.aA q1.1).less (by simp))) (λv s2 q2=> ?_) λ_ _ q=>q.elim))) λ_ _ q=>q.elim)
 obtain⟨e1,tk,rfl⟩:=q1
 have X2:=(X.aA e1).aA q2.1
 have Qm:=B.owns _ G9
 obtain⟨hD,⟨ds,n,kvs,g,sd,r⟩,V6⟩:=X2.owns _ G9
 refine Hc (Iw (HV (wpAny_dictSet_pairs (knd:=strKind C.prog C.w) (k:=x) (by show Value.isStrOf x (.str x tk)=true;simp [Value.isStrOf]) (aU g sd) (λh' Nl L2=> ?_)
  (by rw [show kvs.length=es.length by have:=Hx List.length (bz.keys r);simpa using this];exact hz))))
 refine cps λG g'=> ?_
 have e3:ah C [D] s2 {s2 with heap:=h',toks:=s2.toks+1}:=ah.turn X2.inv L2 g (λvs q=>nomatch q) (by simp)
 have kk:∀b o,¬C.N W b->s2.heap.get? b=some o->¬C.N W b/\h'.get? b=some o:=λb o n g=>⟨n,(L2.2 b (by rintro rfl;exact n (.inr hD))).trans g⟩
 refine aL (fF Nl sd.1) λQn n' g2 R8=> ?_
 exact g' ⟨_,kE.au,rfl,(X2.turn (own':=(D,.au (putD es x p))::own') hD (X2.ownLoc _ G9) Qm.1 L2.extBut e3 g (λ_=>nofun)
  (memC (.inl ⟨rfl,Qn,n',_,g2,R8,bz.put (Rp.mono kk q2.2) (bz.mono kk r)⟩) λy hy=> .inr ⟨Nh y hy,Ha _ hy⟩)).weaken NB,
  (((B.step e1).step q2.1).turn L2 Qm e3).less (memC ⟨_,G9⟩ λy hy=>⟨y.2,Ha _ hy⟩)⟩
theorem rg {α β:Type}(f:List β->α->List β)(hf:∀d a,(f d a).length<=d.length+1):∀(l:List α)(d:List β),(l.foldl f d).length<=d.length+l.length:=by
 intro q0
 induction q0 with
 |nil=>
  intro _
  exact Hh _
 |cons a l ih=>
  intro d
  exact Hg (ih _) (by have:=hf d a;simp only [Hv];lia)
theorem wa (es:List (Str×PV))(x:Str)(p:PV):(putD es x p).length<=es.length+1:=by
 unfold putD
 split
 ·rw [Hd];simp
 ·simp
theorem sD {α:Type}{need:Bool}{kx vx target iter:Expr}(ok:eQ scope sc)(hs:∀x env,foldedSetIterable iter env x=pure x){l:List α}{g:α->PV}(f:α->Str)(v:α->PV)
 (hi:eu need C k sc own ρ iter (l.map g))(hz:l.length<=sizeLine)
 (step:∀a∈l,∃j',bg C (ed scope sc) (bE scope) (bA scope ρ) target (g a) j'/\(∀y q,bA scope ρ y=some q->j' y=some q)/\Ev C k (ed scope sc) [] j' kx (.str (f a))/\Ev C k (ed scope sc) [] j' vx (v a))(htg:autoParam (need=true->cE target=true) nf):
 DC C k sc own ρ kx vx [⟨target,iter,[],0⟩] scope pos (.au (l.foldl (λes a=>putD es (f a) (v a)) [])):=
 C4 (htg:=htg) (A0 kx vx) (λit D env=>by rfl) ok hs (λi=> .au ((l.take i).foldl (λes a=>putD es (f a) (v a)) [])) (by simp) (by simp) hi λi p hp=>by
  refine ae (cY hp) λa ha G'=> ?_;refine G'▸?_
  refine r9 (step a (List.mem_of_getElem? ha)) λj' h1 h2 h3 h4=> ?_
  refine⟨j',true,h1,vc.nil,?_⟩
  show iQ _ _ _ _ _ (lh _) _ (lh (.au ((l.take (i+1)).foldl (λes a=>putD es (f a) (v a)) []))) _
  rw [take_snoc ha,JW]
  refine vu h3 h4 h2 (Hg (rg _ (λd e=>wa d _ _) _ _) ?_)
  simp_all
  exact Hg (Jw _ _) hz
theorem az {x:Str}{px:Pos}{e:Expr}{p:PV}(X:St C W sc own ρ env s)(B:Bs C Wt mine t own env s)(rm:ak A k)(he:Ev C k sc own ρ e p)
 (hl:sc.scope.names.lookup x=some .local)(hs:swapsWith e (some (.Name x px)) pos.line env=pure false)
 (next:∀J,St C W sc own (upd ρ x p) env J->Bs C Wt mine t own env J->wpAny C.M A (execs rest env) Q E J):wpAny C.M A (execs (.Assign [.Name x px] e pos::rest) env) Q E s:=by
 refine HP (Jk (Hb (he W A env s rm X) ?_ λ_ _ q=>q.elim) hs)
 rintro v s1 ⟨e1,r⟩
 exact fh (X.aA e1) (B.step e1) hl r λJ X' B' _=>next J X' B'
theorem a9 {x:Str}{px:Pos}{e:Expr}{p:PV}(X:St C W sc own ρ env s)(B:Bs C Wt mine t own env s)(rm:ak A k)(he:Ev C k sc own ρ e p)
 (hl:sc.scope.names.lookup x=some .cell)(hm:mine x=true)(hs:swapsWith e (some (.Name x px)) pos.line env=pure false)
 (next:∀J,St C W sc own (upd ρ x p) env J->Bs C Wt mine t own env J->wpAny C.M A (execs rest env) Q E J):wpAny C.M A (execs (.Assign [.Name x px] e pos::rest) env) Q E s:=by
 refine HP (Jk (Hb (he W A env s rm X) ?_ λ_ _ q=>q.elim) hs)
 rintro v s1 ⟨e1,r⟩
 exact gc (X.aA e1) (B.step e1) hl hm r λJ X' B' _=>next J X' B'
theorem i6 {ts:List Expr}{n:Nat}{px:Pos}{e:Expr}{p:PV}(X:St C W sc own ρ env s)(B:Bs C Wt mine t own env s)(rm:ak A k)(he:Ev C k sc own ρ e p)
 (ht:bg C sc mine ρ (.Tuple ts n px) p J')(hs:swapsWithSole [.Tuple ts n px] e pos.line env=pure false)(hw:swappedStores [.Tuple ts n px] e env=pure none)
 (next:∀J,St C W sc own J' env J->Bs C Wt mine t own env J->wpAny C.M A (execs rest env) Q E J):wpAny C.M A (execs (.Assign [.Tuple ts n px] e pos::rest) env) Q E s:=by
 refine HP (wpAny_Assign_stores (Hb (he W A env s rm X) ?_ λ_ _ q=>q.elim) hs hw)
 rintro v s1 ⟨e1,r⟩
 refine Hb (ht W own A env s1 v t Wt rm.handled (X.aA e1) (B.step e1) r) ?_ λ_ _ q=>q.elim
 intro _ s2 zz;refine cZ zz λX2 B2 _=> ?_
 exact next s2 X2 B2
theorem cw {e:Expr}{p:PV}(X:St C W sc own ρ env s)(B:Bs C Wt mine t own env s)(rm:ak A k)(he:Ev C k sc own ρ e p)
 (fin:∀v J,St C W sc own ρ env J->Bs C Wt mine t own env J->Rr C W J.heap v p->Q (.ret v) J):wpAny C.M A (execs (.Return (some e) pos::rest) env) Q E s:=by
 refine HP (wpAny_Return_some (Hb (he W A env s rm X) ?_ λ_ _ q=>q.elim))
 rintro v s1 ⟨e1,r⟩
 exact fin v s1 (X.aA e1) (B.step e1) r
theorem step_if {c:Expr}{body orelse:List Stmt}{b:Bool}(X:St C W sc own ρ env s)(B:Bs C Wt mine t own env s)(rm:ak A k)(hc:Tr C k sc own ρ c b)
 (next:∀J,St C W sc own ρ env J->Bs C Wt mine t own env J->wpAny C.M A (execs (if b=true then body else orelse) env) (λf J=>match f with | .next=>wpAny C.M A (execs rest env) Q E J |f=>Q f J) E J):
 wpAny C.M A (execs (.If c body orelse pos::rest) env) Q E s:=by
 refine HP (wpAny_If (Hb (hc W A env s rm X) ?_ λ_ _ q=>q.elim))
 rintro v s1 ⟨e1,rfl⟩
 have:=next s1 (X.aA e1) (B.step e1)
 cases v with
 |true=>exact Hb this (λf Lv h=>by cases f <;> exact h) (λ_ _ h=>h)
 |false=>exact Hb this (λf Lv h=>by cases f <;> exact h) (λ_ _ h=>h)
theorem bG {c:Expr}{body:List Stmt}(X:St C W sc own ρ env s)(B:Bs C Wt mine t own env s)(rm:ak A k)(hc:Tr C k sc own ρ c false)
 (next:∀J,St C W sc own ρ env J->Bs C Wt mine t own env J->wpAny C.M A (execs rest env) Q E J):
 wpAny C.M A (execs (.If c body [] pos::rest) env) Q E s:=
 step_if X B rm hc λJ X' B'=>by
  exact Hk (next J X' B')
theorem vL {x:Str}{px:Pos}{op:Operator}{e:Expr}{p q r:PV}(X:St C W sc own ρ env s)(B:Bs C Wt mine t own env s)(rm:ak A k)(he:Ev C k sc own ρ e q)
 (hl:sc.scope.names.lookup x=some .local)(hp:ρ x=some p)(NA:aj C (inplaceOp op) p q r)
 (next:∀J,St C W sc own (upd ρ x r) env J->Bs C Wt mine t own env J->wpAny C.M A (execs rest env) Q E J):wpAny C.M A (execs (.AugAssign (.Name x px) op e pos::rest) env) Q E s:=by
 refine ae X.loc λm h1 h2=> ?_
 refine ae (h2 x p hl hp) λv h3 h4=> ?_
 refine HP (wpAny_AugAssign_Name (Jv (by rw [X.ok.scope];exact X.ok.kind) (by unfold Env.kindOf;rw [X.ok.scope];exact hl) h1 h3 (Hb (he W A env s rm X) ?_ λ_ _ q=>q.elim)))
 rintro u s1 ⟨e1,r1⟩
 refine Hb (NA W A s1 v u rm.zero (X.aA e1).gd (e1.pe h4) r1) ?_ λ_ _ q=>q.elim
 rintro z s2 ⟨e2,r2⟩
 exact fh ((X.aA e1).aA e2) ((B.step e1).step e2) hl r2 λJ X' B' _=>next J X' B'
def Th (C:Cfg)(p:PV)(b:Bool):Prop:=∀W A s v,ak A 0->Gd C W s->Rr C W s.heap v p->wpAny C.M A (truthy v) (λc J=>ah C [] s J/\c=b) (λ_ _=>False) s
theorem Th.bool {b:Bool}:Th C (.bool b) b:=λW A s v _ _ r=>by
 refine(show v= .bool b from r)▸?_
 exact KQ ⟨ah.refl _,rfl⟩
theorem Th.none:Th C .none false:=λW A s v _ _ r=>by
 refine(show v= .none from r)▸?_
 exact PyProof.Rows.truthy_none ⟨ah.refl _,rfl⟩
theorem Th.int {i:Int}:Th C (.int i) (i !=0):=λW A s v _ _ r=>by
 obtain⟨t,rfl⟩:=r
 exact PyProof.Rows.truthy_int ⟨ah.refl _,rfl⟩
theorem Tr.plain {e:Expr}{p:PV}{b:Bool}(h:Ev C k sc own ρ e p)(ht:Th C p b)(he:∀env whole,PySem.isTrue e env whole=(do let v <-whole;standAt e.pos;holding [v] (truthy v))):Tr C k sc own ρ e b:=λW A env s rm X=>
 isTrue_plain (Hb (h W A env s rm X) (λv s1 zz=>c5 zz λe1 r1=>Hb (ht W A s1 v rm.zero (X.aA e1).gd r1) (λc s2 zz=>c5 zz λe2 h2=>⟨e1.trans e2,h2⟩) λ_ _ q=>q) λ_ _ q=>q.elim) (he _ _)
theorem Tr.not {e:Expr}{b:Bool}(h:Tr C k sc own ρ e b):Tr C k sc own ρ (.UnaryOp .Not e pos) (!b):=λW A env s rm X=>
 isTrue_not (Hb (h W A env s rm X) (λc s1 zz=>c5 zz λe1 h1=>⟨e1,by rw [h1]⟩) λ_ _ q=>q)
theorem Tr.yo:Tr C k sc own ρ (.BoolOp .And [] pos) true:=λW A env s rm X=>isTrue_and_nil ⟨ah.refl _,rfl⟩
theorem Tr.pH:Tr C k sc own ρ (.BoolOp .Or [] pos) false:=λW A env s rm X=>isTrue_or_nil ⟨ah.refl _,rfl⟩
theorem Tr.and {e:Expr}{es:List Expr}{b c:Bool}(h:Tr C k sc own ρ e b)(hs:b=true->Tr C k sc own ρ (.BoolOp .And es pos) c):Tr C k sc own ρ (.BoolOp .And (e::es) pos) (b && c):=λW A env s rm X=>
 isTrue_and (Hb (h W A env s rm X) (λd s1 zz=>c5 zz λe1 h1=>by
  subst h1
  cases d with
  |true=>exact Hb (hs rfl W A env s1 rm (X.aA e1)) (λc s2 zz=>c5 zz λe2 h2=>⟨e1.trans e2,(h2)⟩) λ_ _ q=>q
  |false=>exact⟨e1,rfl⟩) λ_ _ q=>q)
theorem GB {e:Expr}{es:List Expr}{b c:Bool}(h:Tr C k sc own ρ e b)(g:Tr C k sc own ρ (.BoolOp .And es pos) c):Tr C k sc own ρ (.BoolOp .And (e::es) pos) (b && c):=Tr.and h λ_=>g
theorem Tr.or {e:Expr}{es:List Expr}{b c:Bool}(h:Tr C k sc own ρ e b)(hs:b=false->Tr C k sc own ρ (.BoolOp .Or es pos) c):Tr C k sc own ρ (.BoolOp .Or (e::es) pos) (b || c):=λW A env s rm X=>
 isTrue_or (Hb (h W A env s rm X) (λd s1 zz=>c5 zz λe1 h1=>by
  subst h1
  cases d with
  |false=>exact Hb (hs rfl W A env s1 rm (X.aA e1)) (λc s2 zz=>c5 zz λe2 h2=>⟨e1.trans e2,(h2)⟩) λ_ _ q=>q
  |true=>exact⟨e1,rfl⟩) λ_ _ q=>q)
theorem Tr.cmp {l r:Expr}{op:CmpOp}{p q t:PV}{b:Bool}(h1:Ev C k sc own ρ l p)(h2:Ev C k sc own ρ r q)(hm:aj C (compareOp op) p q t)(ht:Th C t b)(hb:behindInMarks op r=false):Tr C k sc own ρ (.Compare l [op] [r] pos) b:=λW A env s rm X=>by
 simp only [isTrue_Compare1]
 rw [show markedBehindIn op r (eval r env)=eval r env from markedBehindIn_of_false hb]
 refine Hc (Hb (h1 W A env s rm X) ?_ λ_ _ q=>q.elim)
 rintro v s1 ⟨e1,r1⟩
 refine Hc (HV (Hb (h2 W A env s1 rm (X.aA e1)) ?_ λ_ _ q=>q.elim))
 rintro u s2 ⟨e2,r2⟩
 refine Hc (Iw (Hc (wpAny_operate' (Hb (hm W A s2 v u rm.zero ((X.aA e1).aA e2).gd (e2.pe r1) r2) ?_ λ_ _ q=>q.elim))))
 rintro c s3 ⟨e3,r3⟩
 refine HV (Hb (ht W A s3 c rm.zero (((X.aA e1).aA e2).aA e3).gd r3) ?_ λ_ _ q=>q.elim)
 rintro d s4 ⟨e4,h4⟩
 exact⟨((e1.trans e2).trans e3).trans e4,h4⟩
theorem Ev.lp {c a b:Expr}{d:Bool}{p:PV}(hc:Tr C k sc own ρ c d)(h:Ev C k sc own ρ (if d=true then a else b) p):Ev C k sc own ρ (.IfExp c a b pos) p:=λW A env s rm X=>
 IfExp_ (Hb (hc W A env s rm X) (λx s1 zz=>c5 zz λe1 h1=>by
  subst h1
  have:=h W A env s1 rm (X.aA e1)
  cases x with
  |true=>exact Hb this (λv s2 ⟨e2,r2⟩=>⟨e1.trans e2,r2⟩) λ_ _ q=>q
  |false=>exact Hb this (λv s2 ⟨e2,r2⟩=>⟨e1.trans e2,r2⟩) λ_ _ q=>q) λ_ _ q=>q.elim)
structure FnAt (C:Cfg)(fa:Addr)(fd:FuncData)(body:List Stmt):Prop where
 obj:∃o,C.h₀.get? fa=some o/\o.data= .func fd
 fa:fa∉C.aq
 code:C.h₀.CodeRec fd.code fd.qualname
 noTab:∀c,fd.code= .ref c->c∉C.aq
 body:fd.body= .stmts body
 co:fd.scope.isCoroutine=false
 gen:fd.scope.isGenerator=false
 kind:fd.scope.kind= .function
 clos:fd.closure=[]
 glob:fd.globals=mainGlobals
 blt:fd.builtins=builtinsNs
 free:∀x∈fd.scope.names,x.2≠.free
noncomputable def lC (fd:FuncData):Sc:=⟨fd.scope,fd.qualname ++ ".<locals>.",fd.code⟩
noncomputable def iq (fd:FuncData):Str->Bool:=λ_=>true
theorem dF {fa:Addr}{fd:FuncData}{body:List Stmt}{args:Args}{binds:List (Str×Value)}{q:List (Str×PV)}{Q:Value->Shared->Prop}
 (ok:C.Ok)(F:FnAt C fa fd body)(g:Gd C W s)(K':∀x∈own,x.1∈W/\dO C W s.heap x.1 x.2/\x.1∉C.aq)
 (rm:ak A (k+1))(Mj:BindsTo s fd args binds)(rep:dy C W s.heap binds q)(nd:(binds.map (·.1)).Nodup)
 (hk:∀x∈binds,fd.scope.names.lookup x.1=some .local\/fd.scope.names.lookup x.1=some .cell)
 (Mg:∀L env J,s.heap.objs.size<=L->St C (L::W) (lC fd) own (aC q) env J->Bs C (own.map (·.1)) (iq fd) s own env J->∀A',ak A' k->
  wpAny C.M A' (execs body env) (λf Lv=>Q (match f with | .ret v=>v |_=> .none) Lv) (λ_ _=>False) J):
 wpAny C.M A (call (.ref fa) args.pos args.kw) Q E s:=by
 refine ae F.obj λo ho hd=> ?_
 refine K0 ?_
 refine J9 (Hn (IX (HN _ _) rm.depth) (by decide)) (g.inv.old _ _ F.fa ho) hd F.co F.gen F.body (g.inv.oI F.code F.noTab) (Mj _ _ _ _ ?_)
 refine F.clos▸?_
 have LI:∀x,fd.scope.names.lookup x=some .cell->((cellsFrom (s.heap.objs.size+1) fd.scope.names []).lookup x).isSome=true:=λx hx=>by
  refine cz (aY (n:=s.heap.objs.size+1) (acc:=[]) (HX hx)) λc hc=> ?_
  obtain⟨d,hd⟩:=aH hc
  refine hd▸?_;rfl
 refine JA F.kind (λx hx=>(hk x hx).imp id λh=>⟨h,LI _ h⟩) λenv he J x=> ?_
 subst he
 have X:St C (s.heap.objs.size::W) (lC fd) own (aC q) (callEnvC fd s.heap.objs.size fa) J:=
  St.enter g K' rfl F.glob F.blt F.kind nd rep (λx hx=>F.free _ (HX hx) rfl) LI x
 have B:Bs C (own.map (·.1)) (iq fd) s own (callEnvC fd s.heap.objs.size fa) J:=by
  refine⟨(ix (C:=C) x).up,⟨g.inv.beyond (Hh _),.inl (Hh _)⟩,λy c _ _ hc=> ?_,λy hy=>⟨g.new _ (K' y hy).1,.inr (He.mpr ⟨y,hy,rfl⟩)⟩⟩
  have:=bV (HX hc)
  exact⟨g.inv.beyond (HM this),.inl (HM this)⟩
 refine⟨X.inv.nolimit ok,codeAny_func (Hb (Mg _ _ J (Hh _) X B _ (rm.deeper _)) (λf Lv h=>h) λ_ _ q=>q.elim)⟩
theorem Ev.glob {x:Str}{v:Value}(ok:C.Ok)(hl:sc.scope.names.lookup x=some .globalImplicit)(hv:C.mg x=some v)(hd:(x==("__debug__":Str))=false):Ev C k sc own ρ (.Name x pos) (.raw v):=λW A env s rm X=>
 Name_function_global (by rw [X.ok.scope];exact X.ok.kind) (by unfold Env.kindOf;rw [X.ok.scope];exact hl) (loadGlobal_global (by rw [X.ok.globals];exact X.inv.ns ok.gT ok.g) hv ⟨ah.refl _,rfl⟩) hd
theorem Ev.blt {x:Str}{v:Value}(ok:C.Ok)(hl:sc.scope.names.lookup x=some .globalImplicit)(hg:C.mg x=Option.none)(hv:C.mb x=some v)(hd:(x==("__debug__":Str))=false):Ev C k sc own ρ (.Name x pos) (.raw v):=λW A env s rm X=>
 Name_function_global (by rw [X.ok.scope];exact X.ok.kind) (by unfold Env.kindOf;rw [X.ok.scope];exact hl) (loadGlobal_builtin (by rw [X.ok.globals];exact X.inv.ns ok.gT ok.g) hg (by rw [X.ok.builtins];exact X.inv.ns ok.bT ok.b) hv ⟨ah.refl _,rfl⟩) hd
def cC (C:Cfg)(k:Nat)(f:Value)(ps:List PV)(r:PV):Prop:=∀W A s vs,ak A k->Gd C W s->fe C W s.heap vs ps->Gives C W A (call f vs) r s
theorem Ev.a6 {x:Str}{px:Pos}{a:Expr}{args:List Expr}{id:String}{ps:List PV}{r:PV}(hf:Ev C k sc own ρ (.Name x px) (.raw (.builtin id)))(ha:ab C k sc own ρ (a::args) ps)(hc:cC C k (.builtin id) ps r)
 (hn:autoParam (∀env,(backTo pos (starEach (a::args) env)).any (·.1)=false) ng)(Mu:autoParam (∀env,∃m ms,backTo pos (starEach (a::args) env)=(false,m)::ms) nh):
 Ev C k sc own ρ (.Call (.Name x px) (a::args) [] pos) r:=λW A env s rm X=>by
 refine Iu (Hb (hf W A env s rm X) ?_ λ_ _ q=>q.elim)
 rintro v s1 ⟨e1,r1⟩
 refine(show v= .builtin id from r1)▸?_
 refine callWith_builtin (hn env) ?_
 refine fC (Mu env) λm ms hm=> ?_
 have h2:=ha W A env s1 pos rm (X.aA e1)
 rw [hm] at h2 ⊢
 refine JS (Hb h2 ?_ λ_ _ q=>q.elim)
 intro vs s2 zz;refine c5 zz λe2 r2=> ?_
 refine Hb (hc W A s2 vs rm ((X.aA e1).aA e2).gd r2) ?_ λ_ _ q=>q.elim
 rintro w s3 ⟨e3,r3⟩
 exact⟨(e1.trans e2).trans e3,r3⟩
theorem cC.Ay {xs:List PV}(hz:(xs.length:Int) < 2 ^ 63):cC C k (.builtin "len") [.lst xs] (.int xs.length):=λW A s vs rm g r=>by
 obtain⟨v,r',rfl,⟨a,us,n,rfl,f,go,ru⟩,hr⟩:=r
 refine(show r'=[] from hr)▸?_
 have hl:=aQ.length ru
 exact call_len_list (aP go) (by simpa [hl] using hz) ⟨ah.tok _,_,by simp [hl];rfl⟩
noncomputable def aI (a:Int) (n:Nat):List PV:=(List.range n).map λ(i:Nat)=> .int (a+(i:Int))
theorem oZ {a b:Int}(h1: -(2 ^ 62) < a)(h2:b < 2 ^ 62)(h3:a < 2 ^ 62)(h4: -(2 ^ 62) < b):Builtin.Range.small a b 1=true:=by
 delta Builtin.Range.small Builtin.Range.rangeFitsLong
 rw [rangeSize_one]
 simp only [HO,Bool.or_eq_true,H5,Ip]
 split <;> simp <;> grind -splitIndPred
theorem Walks.Cz {I:Addr}{fp wr:List Addr}{n:Nat}{P:Nat->Value->Prop}{St:Nat->Heap->Prop}(w:Walks C.prog C.w A I fp wr n P St):Walks C.prog C.w A I fp wr n (λi v=>i < n/\P i v) St where
 sub:=w.sub
 frame:=w.frame
 item:=λi s Q E hi st hQ=>w.item i s Q E hi st λv h' tk hp h1 h2=>hQ v h' tk ⟨hi,hp⟩ h1 h2
 done:=w.done
 self:=w.self
theorem src_range {a b:Int}{n:Nat}(i:Inv C s){r:Addr}{t u v:Tok}(hr:IsRange s.heap r a b 1 t u v)(hs:Builtin.Range.small a b 1=true)(hn:Builtin.Range.rangeSize a b 1=n)(hz:n<=sizeLine)
 {Q:Value->Shared->Prop}(hQ:∀it y',ah C [] s y'->Src C W s.heap.objs.size it (aI a n) y'->Q it y'):wpAny C.M A (pyIter (.ref r)) Q E s:=by
 refine wpAny_pyIter_range hr hs ?_
 refine hn▸?_
 have hl:(aI a n).length=n:=by simp [aI]
 refine hQ _ _ (ah.push _ s.toks) ⟨s.heap.objs.size,[s.heap.objs.size],λi v=>i < n/\∃t,v= .int (a+i*1) t,λi h=>IsRangeIter h s.heap.objs.size (a+(i:Nat)*1) ((n:Int) - (i:Nat)) 1,{it:=rfl,lo:=Hh _,hi:=cg,walks:= ?_,st:= ?_,safe:=λb hb=> .inl (Hi.mp hb),sz:=by rw [hl];exact hz,val:= ?_,obj:= ?_,nt:=i.fresh}⟩
 ·intro A' hA
  simp only [hl]
  exact Internal.Walks.Cz (Walks.range hA _ a 1 n)
 ·have:(a+((0:Nat):Int)*1)=a:=by simp
  simp only [this]
  have:((n:Int) - ((0:Nat):Int))=n:=by rfl
  exact Heap.get?_push_size _ rfl
 ·rintro i v ⟨hi,t,rfl⟩ J W' _ _
  exact⟨.int (a+(i:Int)),by simp [aI,hi],t,by rw [IV]⟩
 ·intro i h hi
  exact⟨_,hi,⟨⟨_,rfl⟩,_,rfl,by simp,by intro q t e;cases e⟩,_,rfl,by rfl⟩
theorem aX.cL {x:Str}{px:Pos}{e:Expr}{n:Int}(hf:Ev C k sc own ρ (.Name x px) (.raw (.type "range")))(ha:Ev C k sc own ρ e (.int n))(hz:n<=sizeLine)(h0:0<=n)
 (hn:∀env,starEach [e] env=[(false,eval e env)]):aX C k sc own ρ (.Call (.Name x px) [e] [] pos) (aI 0 n.toNat):=λW A env s rm X=>by
 refine Iu (Hb (hf W A env s rm X) ?_ λ_ _ q=>q.elim)
 rintro v s1 ⟨e1,r1⟩
 refine(show v= .type "range" from r1)▸?_
 refine callWith_type1 ?_ (hn env) rfl
 simp_all
 refine Jq (Hb (ha W A env s1 rm (X.aA e1)) ?_ λ_ _ q=>q.elim)
 rintro u s2 ⟨e2,tk,rfl⟩
 refine JY (call_range_1 ?_)
 have e3:ah C [] s2 {s2 with heap:=s2.heap.push {cls:= .type "range",data:= .fields #[.int 0 s2.toks,.int n tk,.int 1 (s2.toks+1)]},toks:=s2.toks+1+1}:=ah.push _ _
 have L9:(sizeLine:Int) < 2 ^ 62:=by decide
 refine⟨(e1.trans e2).trans e3,λA' Q E hQ=>src_range (n:=n.toNat) (((X.aA e1).aA e2).inv.jj e3) (IsRange.new _ _ _ _ _ _ _) (oZ (by decide) (by exact Int.lt_of_le_of_lt hz L9) (by decide) (by lia)) (by rw [rangeSize_one];split <;> grind -splitIndPred) (by simp_all) λit y' e2 S=>hQ it y' e2 S.sq⟩
section
open PySem PySem.W PyProof.Rows PySem.Calls Lean Meta Elab Tactic
open PySem
end
variable {σ:bK}
section
open PySem PySem.W PyProof.Rows PySem.Calls Lean Meta Elab Tactic
theorem le_refl (ρ:bK):∀y q,ρ y=some q->ρ y=some q:=λ_ _ h=>h
theorem xj {x:Str}{p:PV}(h:∀y q,σ y=some q->ρ y=some q)(hx:σ x=none):∀y q,σ y=some q->upd ρ x p y=some q:=λy q e=>by
 unfold upd
 split
 ·rename_i hy
  have:y=x:=by simpa using hy
  simp only [this,hx] at e;cases e
 ·exact h y q e
theorem kD {x:Str}(h:(scope.names.lookup x==some .free)=false):bA scope ρ x=none:=by
 unfold bA
 rw [if_neg]
 intro e
 rw [e] at h
 simp at h
theorem pL {x:Str}{p:PV}(h:scope.names.lookup x=some .free)(h2:ρ x=some p):bA scope ρ x=some p:=by
 unfold bA
 rw [if_pos h,h2]
theorem tH {elt:PySem.Expr}{gens:List Comprehension}{y:Str}{py:Pos}{line:Nat}(X:St C W sc own ρ env s)(hk:sc.scope.kind= .function)(hl:sc.scope.names.lookup y=some .local)(h1:(py.line==pos.line)=true)
 (h2:(scope.names.any λ(n,k)=>n==y && (k== .local || k== .cell))=false):swapsWith (.ListComp elt gens scope pos) (some (.Name y py)) line env=pure true:=by
 show (pure (env.blockKind== .function && env.kindOf y==some .local && py.line==pos.line && !(scope.names.any λ(n,k)=>n==y && (k== .local || k== .cell))):Sem Bool)=pure true
 simp only [(by unfold Env.blockKind;rw [X.ok.scope,hk];rfl:env.blockKind= .function),(by unfold Env.kindOf;rw [X.ok.scope];exact hl:env.kindOf y=some .local),h1,h2];rfl
theorem cy {elt:PySem.Expr}{gens:List Comprehension}{y:Str}{py:Pos}{line:Nat}(X:St C W sc own ρ env s)(hl:(sc.scope.names.lookup y==some .local)=false):swapsWith (.ListComp elt gens scope pos) (some (.Name y py)) line env=pure false:=by
 show (pure (env.blockKind== .function && env.kindOf y==some .local && py.line==pos.line && !(scope.names.any λ(n,k)=>n==y && (k== .local || k== .cell))):Sem Bool)=pure false
 rw [(by unfold Env.kindOf;refine X.ok.scope▸?_;exact hl:(env.kindOf y==some .local)=false)];simp
theorem j5 {kx vx:PySem.Expr}{gens:List Comprehension}{y:Str}{py:Pos}{line:Nat}(X:St C W sc own ρ env s)(hl:(sc.scope.names.lookup y==some .local)=false):swapsWith (.DictComp kx vx gens scope pos) (some (.Name y py)) line env=pure false:=by
 show (pure (env.blockKind== .function && env.kindOf y==some .local && py.line==pos.line && !(scope.names.any λ(n,k)=>n==y && (k== .local || k== .cell))):Sem Bool)=pure false
 rw [(by unfold Env.kindOf;refine X.ok.scope▸?_;exact hl:(env.kindOf y==some .local)=false)];simp
end
section
open PySem PySem.W PyProof.Rows PySem.Calls Lean Meta Elab Tactic
end
section
open PySem PySem.W PyProof.Rows PySem.Calls Lean Meta Elab Tactic
end
theorem aj.F1 {a b:Str}:aj C (compareOp .Eq) (.str a) (.str b) (.bool (a==b)):=λW A s v u _ g h1 h2=>by
 obtain⟨t,rfl⟩:=h1;obtain⟨t',rfl⟩:=h2
 exact PyProof.Rows.eq_str ⟨ah.refl _,rfl⟩
theorem aj.Fh {a b:Str}:aj C (compareOp .NotEq) (.str a) (.str b) (.bool (a !=b)):=λW A s v u _ g h1 h2=>by
 obtain⟨t,rfl⟩:=h1;obtain⟨t',rfl⟩:=h2
 exact PyProof.Rows.ne_str ⟨ah.refl _,rfl⟩
theorem aj.dA {a b:Str}:aj C (compareOp .Lt) (.str a) (.str b) (.bool (decide (a.cps.toList < b.cps.toList))):=λW A s v u _ g h1 h2=>by
 obtain⟨t,rfl⟩:=h1;obtain⟨t',rfl⟩:=h2
 exact PyProof.Rows.lt_str ⟨ah.refl _,rfl⟩
theorem aj.Cr {a b:Str}(hz:a.length+b.length<=sizeLine):aj C (binaryOp .Add) (.str a) (.str b) (.str (a ++ b)):=λW A s v u _ g h1 h2=>by
 obtain⟨t,rfl⟩:=h1;obtain⟨t',rfl⟩:=h2
 exact PyProof.Rows.add_str (λt' tk=>⟨ah.tok _,_,rfl⟩) hz
theorem aj.eqB {a b:Bool}:aj C (compareOp .Eq) (.bool a) (.bool b) (.bool (a==b)):=λW A s v u _ g h1 h2=>by
 refine(show v= .bool a from h1)▸(show u= .bool b from h2)▸?_
 exact PyProof.Rows.eq_bool ⟨ah.refl _,rfl⟩
theorem aj.Fx {a b:Bool}:aj C (compareOp .NotEq) (.bool a) (.bool b) (.bool (a !=b)):=λW A s v u _ g h1 h2=>by
 refine(show v= .bool a from h1)▸(show u= .bool b from h2)▸?_
 exact PyProof.Rows.ne_bool ⟨ah.refl _,rfl⟩
theorem aj.pow {a n:Int}(hn:0<=n)(Nu:n<=1000000)(ha:a.natAbs < 2 ^ 64):aj C (binaryOp .Pow) (.int a) (.int n) (.int (a ^ n.toNat)):=λW A s v u _ g h1 h2=>by
 obtain⟨t,rfl⟩:=h1;obtain⟨t',rfl⟩:=h2
 exact PyProof.Rows.pow_int_small hn Nu ha ⟨ah.tok _,_,rfl⟩
theorem aj.qp {a b:Int}:aj C (inplaceOp .Add) (.int a) (.int b) (.int (a+b)):=λW A s v u _ g h1 h2=>by
 obtain⟨t,rfl⟩:=h1;obtain⟨t',rfl⟩:=h2
 exact iadd_int ⟨ah.tok _,_,rfl⟩
theorem Ev.yn {v i:Expr}{x:Str}{j:Int}{n c:Nat}(h1:Ev C k sc own ρ v (.str x))(h2:Ev C k sc own ρ i (.int j))(hn:j=(n:Int))(hp:x.cps[n]? =some c)(hz:n < 2 ^ 62)
 (hs:∀o i',subscripted i false o i'=operate [o,i'] (getItem o i')):Ev C k sc own ρ (.Subscript v i pos) (.str ⟨#[c]⟩):=λW A env s rm X=>by
 refine JQ (Hb (h1 W A env s rm X) ?_ λ_ _ q=>q.elim)
 rintro o s1 ⟨e1,tk,rfl⟩
 refine Hb (h2 W A env s1 rm (X.aA e1)) ?_ λ_ _ q=>q.elim
 rintro iv s2 ⟨e2,t,rfl⟩
 have Ll:n < x.cps.size:=(Array.getElem?_eq_some_iff.mp hp).1
 refine tail_any (typeIs_str s2 x tk) slot_str_getitem.lookup (PyProof.Rows.getItem_str (c:=c) ?_ ?_ ⟨(e1.trans e2).trans (ah.tok _),_,rfl⟩) (hs _ _)
 ·refine hn▸?_;simp;lia
 ·have e0:seqIndex? (n:Int) x.length=some n:=by
   have h2:n < x.length:=Ll
   simp only [seqIndex?]
   simp only [(by simp:¬((n:Int) < 0)),JL]
   rw [if_pos (by simp;lia)]
   rfl
  refine hn▸e0▸?_
  exact hp
theorem cC.qg {x:Str}(hz:(x.length:Int) < 2 ^ 63):cC C k (.builtin "len") [.str x] (.int x.length):=λW A s vs rm g r=>by
 refine bp r λv r' OM OO hr=> ?_;refine OM▸?_;refine cz OO λt OT=> ?_;refine OT▸?_
 refine(show r'=[] from hr)▸?_
 exact PyProof.Rows.len_str (by simp_all) ⟨ah.tok _,_,rfl⟩
def yN (C:Cfg)(p:PV)(ps:List PV):Prop:=∀W A s v,Gd C W s->Rr C W s.heap v p->∀(Q:Value->Shared->Prop) E,
 (∀it y',ah C [] s y'->Src C W s.heap.objs.size it ps y'->Q it y')->wpAny C.M A (pyIter v) Q E s
theorem yN.lst {xs:List PV}(hz:xs.length<=sizeLine):yN C (.lst xs) xs:=λ_ _ _ _ g r _ _ hQ=>xQ g.inv r hz hQ
theorem ah.wL {I:Addr}{o:Obj}(e:ah C [] s f')(hI:s.heap.objs.size<=I)(ho:f'.heap.get? I=some o)(hi:dQ o)(m:Moved [I] (λa b=>b=a) f' J)(hz:s.heap.objs.size<=J.heap.objs.size):ah C [] s J where
 keep b o' h1 h2 g:=m.heap b o' (by
  have:=Hp g
  rw [Hi]
  rintro rfl
  exact HB _ (Hn this hI)) (e.keep b o' h1 h2 g)
 size:=hz
 tabs t ht ps x:=by
  obtain⟨more,y⟩:=e.tabs t ht ps x
  exact⟨more,y.i9 ho hi λb o hb e=>m.heap b o (by simpa using hb) e⟩
 os:=m.os.trans e.os
 gens:=λh=>by rw [show J.gens=f'.gens from m.gens];exact e.gens h
theorem Kp.refl {L:Nat}:Kp C W L s s:=λ_ _ _ g _ _=>g
theorem preSum_eq:∀(ns:List Int),preSum (λi=>ns.getD i 0) ns.length=ns.sum:=by
 have gen:∀(ns:List Int) (m:Nat),m<=ns.length->preSum (λi=>ns.getD i 0) m=(ns.take m).sum:=by
  intro ns m
  induction m with
  |zero=>intro _;rfl
  |succ m ih=>
   intro h
   simp only [preSum]
   simp only [ih (HM h),IS]
   have:ns[m]? =some ns[m]:=by simp [h]
   simp only [this,JE]
   simp [List.getD,this]
 intro ns
 simp only [gen ns ns.length (Hh _),Il]
theorem cC.sum {ps:List PV}{p:PV}{ns:List Int}(hI:yN C p ps)(hp:ps=ns.map .int):cC C k (.builtin "sum") [p] (.int ns.sum):=λW A s vs rm g r=>by
 refine bp r λv r' G' rv hr=> ?_;refine G'▸?_
 refine(show r'=[] from hr)▸?_
 refine ba (call_sum_walkAnyS (hI W A.in1 s v g rv _ _ λit y' e2 ⟨I,fp,P,LB,S⟩=> ?_))
 refine iI (S.obj 0 _ S.st) λLq LW Lm _=> ?_
 refine⟨I,fp,[I],_,ps.length,P,λi s=>LB i s.heap,λi=>ns.getD i 0,S.it,(S.walks A.in1 rm.handled).toS,S.st,λb hb=> ?_,λi v hv=> ?_,λJ t' hm hz=> ?_⟩
 ·rcases S.safe b hb with rfl |⟨_,_,o,h,_⟩
  ·exact S.hi
  ·exact Hp h
 ·refine ae (S.val i v hv y' W (λa ha=> .inl ha) Kp.refl) λq h1 h2=> ?_
  rw [hp,List.getElem?_map] at h1
  cases hn:ns[i]? with
  |none=>replace h1:=hn▸h1;cases h1
  |some m=>
   replace h1:=hn▸h1
   cases h1
   obtain⟨t,rfl⟩:=h2
   exact⟨t,by simp [List.getD,hn]⟩
 ·have hl:ps.length=ns.length:=by simp only [hp,Hd]
  exact⟨e2.wL S.lo LW Lm hm hz,t',by simp only [hl,preSum_eq]⟩
def eh (C:Cfg)(k:Nat)(sc:Sc)(own:Own)(ρ:bK)(e:Option Expr)(i:Option Int):Prop:=
 ∀W A env s,ak A k->St C W sc own ρ env s->wpAny C.M A (evalPart e env) (λv J=>ah C [] s J/\IsPart v i) (λ_ _=>False) s
theorem eh.kc:eh C k sc own ρ none none:=λW A env s rm X=>Hj ⟨ah.refl _,.none⟩
theorem eh.some {e:Expr}{i:Int}(h:Ev C k sc own ρ e (.int i)):eh C k sc own ρ (some e) (some i):=λW A env s rm X=>by
 refine Hb (h W A env s rm X) ?_ λ_ _ q=>q
 rintro v s1 ⟨e1,t,rfl⟩
 exact⟨e1,.int _ _⟩
noncomputable def xH (xs:List PV) (lo hi st:Option Int):List PV:=(sliceRange (sliceBounds lo hi st xs.length).1 (sliceBounds lo hi st xs.length).2.1 (sliceBounds lo hi st xs.length).2.2).filterMap (xs[·]?)
theorem aQ.pick {P:Addr->List DictEntry->List (Str×Value)->Prop}{N:Addr->Prop}{h:Heap}{ps:List PV}{vs:List Value}(r:aQ P N h vs ps):∀l:List Nat,aQ P N h (l.filterMap (vs[·]?)) (l.filterMap (ps[·]?)):=by
 intro q0
 induction q0 with
 |nil=>
  exact rfl
 |cons i l ih=>
  cases hi:ps[i]? with
  |none=>
   have:vs[i]? =none:=by
    rw [List.getElem?_eq_none_iff] at hi ⊢
    rw [aQ.length r];exact hi
   simp only [Ku,hi,this]
   exact ih
  |some p=>
   refine ae (aQ.get r hi) λv hv x=> ?_
   simp only [Ku,hi,hv]
   exact⟨v,_,rfl,x,ih⟩
theorem Ev.eB {v:Expr}{lo hi st:Option Expr}{sp:Pos}{xs:List PV}{i j l:Option Int}(h1:EW C k sc own ρ v xs)(h2:eh C k sc own ρ lo i)(h3:eh C k sc own ρ hi j)(h4:eh C k sc own ρ st l)(h0:l≠Option.some 0)(hz:xs.length<=sizeLine)
 (hs:∀o i',∃ops,subscripted (.Slice lo hi st sp) false o i'=operate ops (getItem o i'))(ht:∀o r,letTemporaryGo v o r=pure ()):Ev C k sc own ρ (.Subscript v (.Slice lo hi st sp) pos) (.lst (xH xs i j l)):=λW A env s rm X=>by
 refine JQ (Hb (h1 W A env s rm X) ?_ λ_ _ q=>q.elim)
 rintro o s1 ⟨e1,l1⟩
 refine wpAny_Slice (Hb (h2 W A env s1 rm (X.aA e1)) ?_ λ_ _ q=>q.elim)
 rintro a1 s2 ⟨e2,p2⟩
 refine Hb (h3 W A env s2 rm ((X.aA e1).aA e2)) ?_ λ_ _ q=>q.elim
 rintro a2 s3 ⟨e3,p3⟩
 refine Hb (h4 W A env s3 rm (((X.aA e1).aA e2).aA e3)) ?_ λ_ _ q=>q.elim
 rintro a3 s4 ⟨e4,p4⟩
 have OI:=(e2.trans e3).trans e4
 refine gm (OI.lst l1) λa vs m L1 f g r=> ?_;refine L1▸?_
 have e5:ah C [] s4 {s4 with heap:=s4.heap.push {cls:= .type "slice",data:= .fields #[a1,a2,a3]}}:=ah.push _ s4.toks
 have g5:(s4.heap.push {cls:= .type "slice",data:= .fields #[a1,a2,a3]}).get? a=some (ao vs m):=Heap.get?_push_of_some _ g
 obtain⟨ops,Nv⟩:=hs (.ref a) (.ref s4.heap.objs.size)
 have hl:=aQ.length r
 refine KR (Heap.IsList.typeIs (s:={s4 with heap:=s4.heap.push {cls:= .type "slice",data:= .fields #[a1,a2,a3]}}) (aP g5)) slot_list_getitem.lookup
  (wpAny_getItem_list_slice (aP g5) (Heap.IsSliceOf.new ..) p2 p3 p4 h0 ?_ (by simpa [hl] using hz)) Nv (ht _)
 have e6:ah C [] {s4 with heap:=s4.heap.push {cls:= .type "slice",data:= .fields #[a1,a2,a3]}} {s4 with heap:=(s4.heap.push {cls:= .type "slice",data:= .fields #[a1,a2,a3]}).push {cls:= .type "list",data:= .seq (slicePick vs.toArray i j l)}}:=ah.push _ s4.toks
 have hp:(slicePick vs.toArray i j l).toList=(sliceRange (sliceBounds i j l xs.length).1 (sliceBounds i j l xs.length).2.1 (sliceBounds i j l xs.length).2.2).filterMap (vs[·]?):=by
  unfold slicePick
  simp [hl]
 refine⟨((e1.trans OI).trans (e5.trans e6)),_,(slicePick vs.toArray i j l).toList,0,rfl,((((X.aA e1).aA OI).aA e5).gd).fresh,?_,?_⟩
 ·unfold ao
  exact Heap.get?_push_size _ rfl
 ·rw [hp]
  exact aQ.pick ((e5.trans e6).jl r) _
theorem rU {test:Expr}{body:List Stmt}(X:St C W sc own ρ env s)(B:Bs C Wt mine t own env s)(rm:ak A k)
 (n:Nat)(O:Nat->Own)(R:Nat->bK)(h0:O 0=own)(Oi:R 0=ρ)
 (tests:∀i,i < n->Tr C k sc (O i) (R i) test true)(last:Tr C k sc (O n) (R n) test false)
 (turn:∀i f',i < n->St C W sc (O i) (R i) env f'->Bs C Wt mine t (O i) env f'->
  wpAny C.M A (execs body env) (λf H'=>match f with
   | .next | .cont=>St C W sc (O (i+1)) (R (i+1)) env H'/\Bs C Wt mine t (O (i+1)) env H'
   |_=>False) (λ_ _=>False) f')
 (done:∀J,St C W sc (O n) (R n) env J->Bs C Wt mine t (O n) env J->wpAny C.M A (execs rest env) Q E J):
 wpAny C.M A (execs (.While test body [] pos::rest) env) Q E s:=by
 refine HP (wpAny_While ?_)
 refine codeAny_loop rfl (λm J=>∃i,i<=n/\m=n - i/\St C W sc (O i) (R i) env J/\Bs C Wt mine t (O i) env J) (λm J hI=> ?_) n ⟨0,HK _,rfl,by rw [h0,Oi];exact X,by rw [h0];exact B⟩
 refine r9 hI λi hi G' X' B'=> ?_;subst G'
 refine wpAny_noted ?_
 by_cases Ll:i < n
 ·refine Hc (Hb (tests i Ll W A env J rm X') ?_ λ_ _ q=>q.elim)
  intro b s1 zz;refine c5 zz λe1 z1=> ?_;cases z1
  refine Hc (Hb (turn i s1 Ll (X'.aA e1) (B'.step e1)) ?_ λ_ _ q=>q.elim)
  intro f s3 hf
  cases f with
  |next=>exact Hj ⟨rfl,n - (i+1),Jd Ll (Io i),i+1,Ll,rfl,hf.1,hf.2⟩
  |cont=>exact Hj ⟨rfl,n - (i+1),Jd Ll (Io i),i+1,Ll,rfl,hf.1,hf.2⟩
  |brk=>exact hf.elim
  |ret v=>exact hf.elim
 ·have:i=n:=JF (by assumption) (Hs.mp Ll)
  cases this
  refine Hc (Hb (last W A env J rm X') ?_ λ_ _ q=>q.elim)
  rintro b s1 ⟨e1,rfl⟩
  refine Hc (Hk (Hj ?_))
  exact done s1 (X'.aA e1) (B'.step e1)
def fY (C:Cfg)(p:PV)(T:String):Prop:=∀W (s:Shared) v,Rr C W s.heap v p->s.TypeIs v T/\∀a,v= .ref a->∃ob,s.heap.get? a=some ob/\ob.dict=none
theorem fY.str {x:Str}:fY C (.str x) "str":=λW s v zz=>cz zz λt h=>by
 refine h▸?_
 exact⟨typeIs_str s x t,λa q=>nomatch q⟩
theorem fY.lst {xs:List PV}:fY C (.lst xs) "list":=λW s v x=>by
 refine gm x λa vs n L1 _ g _=> ?_;refine L1▸?_
 exact⟨(aP g).typeIs,λb q=>by cases q;exact⟨_,g,rfl⟩⟩
theorem fY.au {xs:List (Str×PV)}:fY C (.au xs) "dict":=λW s v x=>by
 obtain⟨a,ds,n,kvs,rfl,_,g,sd,_⟩:=x
 exact⟨(aU g sd).typeIs,λb q=>by cases q;exact⟨_,g,rfl⟩⟩
theorem Ev.uA {o a:Expr}{args:List Expr}{name:Str}{apos:Pos}{T id:String}{p r:PV}{ps:List PV}(ho:Ev C k sc own ρ o p)(hT:fY C p T)(ha:ab C k sc own ρ (a::args) ps)(hc:cC C k (.builtin id) (p::ps) r)
 (Ln:∀env,attributeBase o name env (eval o env)=eval o env)
 (LZ:∀env,((backTo pos (starEach (a::args) env)).all (λx=> !x.1) && (backToKw pos (keywordEach [] env)).all (λx=>x.1.isSome)
  && decide ((a::args).length+([]:List Keyword).length+(if([]:List Keyword).isEmpty then 0 else 1) < 30))=true)
 (Lp:(apos.endLine==pos.line)=true)(pa:PlainAttrs T)(slot:Slot T name id)(Nc:typeOf (.builtin id)=pure (.type "method_descriptor"))
 (he:∀env,starEach (a::args) env=(false,eval a env)::starEach args env)(LU:∀env,(backTo pos (starEach args env)).any (·.1)=false):
 Ev C k sc own ρ (.Call (.Attribute o name apos) (a::args) [] pos) r:=λW A env s rm X=>by
 refine IE (Ln env) (LZ env) Lp pa slot Nc (Hb (ho W A env s rm X) ?_ λ_ _ q=>q.elim)
 rintro v s1 ⟨e1,r1⟩
 refine⟨(hT W s1 v r1).1,(hT W s1 v r1).2,J4 (Hb (ha W A env s1 pos rm (X.aA e1)) ?_ λ_ _ q=>q.elim) (he env) (LU env)⟩
 rintro vs s2 ⟨e2,r2⟩
 refine Hb (hc W A s2 (v::vs) rm ((X.aA e1).aA e2).gd ⟨v,vs,rfl,e2.pe r1,r2⟩) ?_ λ_ _ q=>q.elim
 rintro w s3 ⟨e3,r3⟩
 exact⟨(e1.trans e2).trans e3,r3⟩
theorem Ev.EO {o:Expr}{name:Str}{apos:Pos}{T id:String}{p r:PV}(ho:Ev C k sc own ρ o p)(hT:fY C p T)(hc:cC C k (.builtin id) [p] r)
 (Ln:∀env,attributeBase o name env (eval o env)=eval o env)
 (Lp:(apos.endLine==pos.line)=true)(pa:PlainAttrs T)(slot:Slot T name id)(Nc:typeOf (.builtin id)=pure (.type "method_descriptor")):
 Ev C k sc own ρ (.Call (.Attribute o name apos) [] [] pos) r:=λW A env s rm X=>by
 refine IE (Ln env) rfl Lp pa slot Nc (Hb (ho W A env s rm X) ?_ λ_ _ q=>q.elim)
 rintro v s1 ⟨e1,r1⟩
 refine⟨(hT W s1 v r1).1,(hT W s1 v r1).2,J3 ?_⟩
 refine Hb (hc W A s1 [v] rm (X.aA e1).gd ⟨v,[],rfl,r1,rfl⟩) ?_ λ_ _ q=>q.elim
 rintro w s3 ⟨e3,r3⟩
 exact⟨e1.trans e3,r3⟩
noncomputable def aE (own:Own) (a:Addr) (p:PV):Own:=own.map λy=>if y.1=a then(a,p) else y
theorem pP {own:Own}{a:Addr}{p:PV}{y:Addr×PV}(h:y∈aE own a p):y=(a,p)\/(y.1≠a/\y∈own):=by
 refine ae (He.mp h) λz hz e=> ?_
 by_cases q:z.1=a
 ·rw [if_pos q] at e;exact .inl e.symm
 ·rw [if_neg q] at e;refine e▸?_;exact .inr ⟨q,hz⟩
theorem nM {own:Own}{a:Addr}{p:PV}{y:Addr×PV}(h:y∈aE own a p):∃q,(y.1,q)∈own:=by
 refine ae (He.mp h) λz hz e=> ?_
 by_cases q:z.1=a
 ·rw [if_pos q] at e;subst e;exact⟨z.2,by refine q▸?_;exact hz⟩
 ·rw [if_neg q] at e;subst e;exact⟨_,hz⟩
theorem mu {a:Addr}{xs ys:List PV}{us:List Value}{h':Heap}{tk:Nat}{n:Nat}(X:St C W sc own ρ env s)(B:Bs C Wt mine t own env s)(ha:(a,PV.lst xs)∈own)
 (hs:Heap.SameBut a s.heap h')(hn:h'.get? a=some (ao us n))(hr:fe C W s.heap us ys):
 St C W sc (aE own a (.lst ys)) ρ env {s with heap:=h',toks:=tk}/\Bs C Wt mine t (aE own a (.lst ys)) env {s with heap:=h',toks:=tk}:=by
 refine aL (X.owns _ ha).2.1 λvs m g r=> ?_
 have e:ah C [a] s {s with heap:=h',toks:=tk}:=ah.turn X.inv hs g (λvs q=>nomatch q) (by simp)
 have hm:=B.owns _ ha
 refine⟨X.turn (X.owns _ ha).1 (X.ownLoc _ ha) hm.1 hs.extBut e g (λ_=>nofun) λy hy=> ?_,(B.turn hs hm e).less λy hy=>nM hy⟩
 rcases pP hy with rfl |h
 ·exact .inl ⟨rfl,us,n,hn,aQ.mono (λb o n g=>⟨n,(hs.2 b (by rintro rfl;exact n (.inr (X.owns _ ha).1))).trans g⟩) hr⟩
 ·exact .inr h
theorem aQ.take {P:Addr->List DictEntry->List (Str×Value)->Prop}{N:Addr->Prop}{h:Heap}:∀{ps:List PV}{vs:List Value},aQ P N h vs ps->∀j,aQ P N h (vs.take j) (ps.take j)
 |[],vs,r,j=>by rw [show vs=[] from r];simp;rfl
 |p::ps,_,r,0=>rfl
 |p::ps,_,⟨v,r',e,x,y⟩,j+1=>by subst e;exact⟨v,_,rfl,x,aQ.take y j⟩
theorem aQ.drop {P:Addr->List DictEntry->List (Str×Value)->Prop}{N:Addr->Prop}{h:Heap}:∀{ps:List PV}{vs:List Value},aQ P N h vs ps->∀j,aQ P N h (vs.drop j) (ps.drop j)
 |[],vs,r,j=>by rw [show vs=[] from r];simp;rfl
 |p::ps,_,r,0=>r
 |p::ps,_,⟨v,r',e,x,y⟩,j+1=>by subst e;exact aQ.drop y j
theorem lF {a:Addr}{xs:List PV}{v:Value}{p:PV}{Q:Value->Shared->Prop}(X:St C W sc own ρ env s)(B:Bs C Wt mine t own env s)(ha:(a,PV.lst xs)∈own)(hv:Rr C W s.heap v p)(hz:xs.length<=sizeLine)
 (next:∀J,St C W sc (aE own a (.lst (xs ++ [p]))) ρ env J->Bs C Wt mine t (aE own a (.lst (xs ++ [p]))) env J->Q .none J):wpAny C.M A (call (.builtin "list.append") [.ref a,v]) Q E s:=by
 refine aL (X.owns _ ha).2.1 λvs m g r=> ?_
 refine wpAny_list_append_plain ⟨m,g⟩ (λh' hl hs=> ?_) (by simpa [aQ.length r] using hz)
 refine cz hl λn' M8=> ?_
 have:=mu (tk:=s.toks) (us:=vs ++ [v]) (n:=n') (ys:=xs ++ [p]) X B ha hs (by simp only [M8];simp [ao]) (aQ.append r ⟨v,[],rfl,hv,rfl⟩)
 exact next _ this.1 this.2
set_option maxRecDepth 4000
noncomputable def bC {α:Type} (xs:List α) (j:Nat) (p:α):List α:=xs.take j ++ p::xs.drop j
theorem wo {ji:Int}{j:Nat}(h:ji=(j:Int))(hj:j<=sizeLine):¬(!Builtin.List.listFitsIndex ji)=true:=by
 have L9:(sizeLine:Int) < 2 ^ 62:=by decide
 have:Builtin.List.listFitsIndex ji=true:=by
  unfold Builtin.List.listFitsIndex
  simp only [HO]
  exact⟨HD (by simp_all),HD (by lia)⟩
 rw [this];decide
theorem vf {a:Addr}{vs:List Value}{m:Nat}{ji:Int}{tk:Tok}{v:Value}{Q:Value->Shared->Prop}(g:s.heap.get? a=some (ao vs m))(UU:¬(!Builtin.List.listFitsIndex ji)=true)(VE:vs.toArray.size<=sizeLine)
 (next:Q .none {s with heap:=s.heap.update a (Obj.mapSeq λxs=>have k:=if ji < 0 then(ji+((xs.size:Nat):Int)).toNat else min ji.toNat xs.size;(xs.extract 0 k).push v ++ xs.extract k),toks:=s.toks}):
 wpAny C.M A (call (.builtin "list.insert") [.ref a,.int ji tk,v]) Q E s:=by
 exact KX F.slot_list_insert ((aP g).typeIs) F.entry_list_insert (F.args_list_insert_3 (.ref a) (.int ji tk) v) (PySem.AutoListH.list_insert_list_int_val_1 a vs.toArray m ji tk v UU VE) ⟨g,next⟩
theorem pE {vs:List Value}{v:Value}{j:Nat}(hj:j<=vs.length):((vs.toArray.extract 0 j).push v ++ vs.toArray.extract j)=(bC vs j v).toArray:=by
 apply La.mp
 unfold bC
 simp
 exact HQ (by simp)
theorem qO {a:Addr}{xs:List PV}{v:Value}{p:PV}{ji:Int}{j:Nat}{tk:Tok}{Q:Value->Shared->Prop}(X:St C W sc own ρ env s)(B:Bs C Wt mine t own env s)(ha:(a,PV.lst xs)∈own)(hv:Rr C W s.heap v p)(hz:xs.length<=sizeLine)(hj:j<=xs.length)(Ue:ji=(j:Int))
 (next:∀J,St C W sc (aE own a (.lst (bC xs j p))) ρ env J->Bs C Wt mine t (aE own a (.lst (bC xs j p))) env J->Q .none J):wpAny C.M A (call (.builtin "list.insert") [.ref a,.int ji tk,v]) Q E s:=by
 refine aL (X.owns _ ha).2.1 λvs m g r=> ?_
 have hl:=aQ.length r
 refine vf g (wo Ue (Hg hj hz)) (by simp only [Ig,hl];exact hz) ?_
 generalize hf:(λxs:Array Value=>have k:=if ji < 0 then(ji+((xs.size:Nat):Int)).toNat else min ji.toNat xs.size;(xs.extract 0 k).push v ++ xs.extract k)=f
 have T1:f vs.toArray=(bC vs j v).toArray:=by
  refine hf▸(pE (by rw [hl];exact hj))▸?_
  have hk:(if ji < 0 then(ji+((vs.toArray.size:Nat):Int)).toNat else min ji.toNat vs.toArray.size)=j:=by
   rw [if_neg (by simp_all)]
   rw [Ig]
   simp_all
  show (vs.toArray.extract 0 (if ji < 0 then(ji+((vs.toArray.size:Nat):Int)).toNat else min ji.toNat vs.toArray.size)).push v ++ vs.toArray.extract (if ji < 0 then(ji+((vs.toArray.size:Nat):Int)).toNat else min ji.toNat vs.toArray.size)=_
  rw [hk]
 have hn:∃n,(s.heap.update a (Obj.mapSeq f)).get? a=some (ao (bC vs j v) n):=by
  refine⟨if(f vs.toArray).size==vs.toArray.size then m else m+1,(Heap.get?_update_self (Obj.mapSeq f) g rfl).trans ?_⟩
  show some ({cls:= .type "list",dict:=none,data:= .seq (f vs.toArray) (if(f vs.toArray).size==vs.toArray.size then m else m+1),slots:=#[]}:Obj)=_
  unfold ao
  rw [T1]
 obtain⟨n,hn⟩:=hn
 have:=mu (tk:=s.toks) (us:=bC vs j v) (n:=n) (ys:=bC xs j p) X B ha (H4 ..) hn (aQ.append (aQ.take r j) ⟨v,_,rfl,hv,aQ.drop r j⟩)
 exact next _ this.1 this.2
theorem mL {C:Cfg}(x:Str)(t:Tok):(strKind C.prog C.w).is x (.str x t)=true:=strKind_is C.prog C.w x t
theorem Ev.bh {v i:Expr}{es:List (Str×PV)}{x:Str}{p:PV}(h1:Fq C k sc own ρ v es)(h2:Ev C k sc own ρ i (.str x))(hp:es.lookup x=some p)
 (hs:∀o i',subscripted i false o i'=operate [o,i'] (getItem o i')):Ev C k sc own ρ (.Subscript v i pos) p:=λW A env s rm X=>by
 refine JQ (Hb (h1 W A env s rm X) ?_ λ_ _ q=>q.elim)
 rintro o s1 ⟨e1,l1⟩
 refine Hb (h2 W A env s1 rm (X.aA e1)) ?_ λ_ _ q=>q.elim
 rintro iv s2 ⟨e2,t,rfl⟩
 obtain⟨a,ds,n,kvs,rfl,f,g,sd,r⟩:=e2.au l1
 refine ae (bz.find r hp) λu hu ru=> ?_
 have hd:=aU g sd
 exact tail_any hd.typeIs slot_dict_getitem.lookup (wpAny_getItem_of (mL x t) hd.mapOf hu ⟨(e1.trans e2).trans (ah.tok _),(ah.tok (C:=C) (W:=W) (s:=s2) (s2.toks+1)).rr ru⟩) (hs _ _)
noncomputable def Cfg.at (C:Cfg) (W:List Addr) (s:Shared):Cfg:={C with h₀:=hideAll s.heap W}
variable {V:List Addr}
theorem gA {a:Addr}{o:Obj}:(C.at W s).h₀.get? a=some o↔s.heap.get? a=some o/\a∉W:=by
 constructor
 ·intro e
  refine⟨of_hideAll _ e,λh=> ?_⟩
  have:=hideAll_none W (h:=s.heap) h
  have e':(hideAll s.heap W).get? a=some o:=e
  replace e':=this▸e';cases e'
 ·rintro⟨e,n⟩
  exact hideAll_get _ e n
theorem tD:(C.at W s).h₀.objs.size=s.heap.objs.size:=hideAll_size W s.heap
theorem ah.ql (x:ah (C.at W f') V s J):ah C V s J:=⟨x.keep,x.size,x.tabs,x.os,x.gens⟩
theorem lM (i:Inv C s)(hN:∀a∈W,C.h₀.get? a=none){a:Addr}{o:Obj}(ha:a∉C.aq)(e:C.h₀.get? a=some o):(C.at W s).h₀.get? a=some o:=
 gA.mpr ⟨i.old a o ha e,λh=>by replace e:=(hN a h)▸e;cases e⟩
theorem m8 (ok:C.Ok){t:Addr×Addr×Str}(ht:t∈C.tabs):t.1∉C.aq:=ok.noCode t ht
theorem Inv.at (i:Inv C s)(ok:C.Ok)(hN:∀a∈W,C.h₀.get? a=none):Inv (C.at W s) s where
 sys:=by rw [tD];exact Hn i.sys i.size
 old a o _ e:=(gA.mp e).1
 size:=by rw [tD];exact Hh _
 tabs t ht:=by
  refine aL (i.tabs t ht) λps m y z=> ?_
  refine⟨ps ++ m,#[],?_,(z)⟩
  refine c5 y λz3 gP=> ?_;refine aL z3 λo vs g r=> ?_
  exact⟨⟨o,vs,(lM i hN (m8 ok ht) g),r⟩,gA.mpr ⟨z.tab.2,λh=>by replace gP:=(hN _ h)▸gP;cases gP⟩⟩
 os:=i.os
 gens:=i.gens
theorem Gd.at (g:Gd C W s)(ok:C.Ok):Gd (C.at W s) W s:=⟨g.inv.at ok g.new,g.low,λa ha=>hideAll_none W ha⟩
theorem Inv.xc (i:Inv C s)(hN:∀a∈W,C.h₀.get? a=none){a:Addr}{m:Str->Option Value}(ha:a∉C.aq)(h:C.h₀.Ns a m):(C.at W s).h₀.Ns a m:=
 let ⟨o,es,ep,g,r⟩:=h;⟨o,es,ep,lM i hN ha g,r⟩
theorem Cfg.Ok.at (ok:C.Ok)(i:Inv C s)(hN:∀a∈W,C.h₀.get? a=none):(C.at W s).Ok where
 nolimit:=by refine ae ok.nolimit λmc a b=> ?_;exact⟨mc,i.xc hN ok.statics a,b⟩
 statics:=ok.statics
 g:=i.xc hN ok.gT ok.g
 gT:=ok.gT
 b:=i.xc hN ok.bT ok.b
 bT:=ok.bT
 noCode:=ok.noCode
 inj:=ok.inj
 bmain:=by refine CM ok.bmain λbm o h1 h2 h3 h4 h5 r=> ?_;exact⟨bm,o,h1,h2,h3,h4,lM i hN h4 h5,r⟩
theorem C9 {v:Value}{p:PV}(i:Inv C s)(hN:∀a∈W,C.h₀.get? a=none)(h:Rp C.S (·∈C.aq) C.h₀ v p):Rr C W s.heap v p:=
 Rp.mono (λa o n g=>⟨(λq=>by
  rcases q with q |q
  ·exact n q
  ·replace g:=(hN a q)▸g;cases g),i.old a o n g⟩) h
theorem C7 {v:Value}{p:PV}(h:Rr C W s.heap v p):Rp (C.at W s).S (·∈(C.at W s).aq) (C.at W s).h₀ v p:=
 Rp.mono (λa o n g=>⟨λq=>n (.inl q),gA.mpr ⟨g,λq=>n (.inr q)⟩⟩) h
variable {Ng:bK}{s₀:Shared}
structure InK (s₀:Shared)(L:Addr)(m:Str->Option Value)(cs:List (Str×Addr))(cm:Str->Option Value)(s:Shared):Prop where
 same:∃h' tk,s={s₀ with heap:=h',toks:=tk}
 ns:s.heap.Ns L m
 keep:∀b o,s₀.heap.get? b=some o->s.heap.get? b=some o
 fresh:s₀.heap.objs.size<=L
 cell:∀n c,cs.lookup n=some c->s.heap.IsCell c (cm n)
 apart:cs.Pairwise λx y=>x.2≠y.2
 ne:∀n c,(n,c)∈cs->c≠L
theorem F4 {n:Str}{v:Value}{m cm:Str->Option Value}{Q:Unit->Shared->Prop}(x:InK s₀ env.locals m env.cells cm s)(hk:env.scope.kind= .function)(hl:env.kindOf n=some .local)
 (h:∀J,InK s₀ env.locals (λy=>if y=n then some v else m y) env.cells cm J->Q () J):wpAny M A (storeName env n v) Q E s:=by
 refine wpAny_storeName_local hl x.ns (λh' Mu L2=>h _ ⟨?_,Mu,λb o e=> ?_,x.fresh,λk c hc=> ?_,x.apart,x.ne⟩) (by refine hk▸?_;rfl)
 ·refine fC x.same λM9 tk G'=> ?_;refine G'▸?_
  exact⟨h',_,rfl⟩
 ·exact L2.extBut b o (H2 (Hn (Hp e) x.fresh)) (x.keep b o e)
 ·exact(x.cell k c hc).sameBut L2 (x.ne k c (mem_of_lookup hc))
theorem FZ {n:Str}{c:Addr}{v:Value}{m cm:Str->Option Value}{Q:Unit->Shared->Prop}(x:InK s₀ env.locals m env.cells cm s)(hk:env.scope.kind= .function)(hl:env.kindOf n=some .cell)
 (hc:env.cells.lookup n=some c)(hf:s₀.heap.objs.size<=c)
 (h:∀J,InK s₀ env.locals m env.cells (λy=>if y=n then some v else cm y) J->Q () J):wpAny M A (storeName env n v) Q E s:=by
 refine wpAny_storeName_cell hk hl hc (x.cell n c hc) λh' N1 L2=>h _ ⟨?_,x.ns.sameBut L2 (HE (x.ne n c (mem_of_lookup hc))),λb o e=> ?_,x.fresh,λk c' MV=> ?_,x.apart,x.ne⟩
 ·refine fC x.same λM9 tk G'=> ?_;refine G'▸?_
  exact⟨h',_,rfl⟩
 ·exact L2.extBut b o (H2 (Hn (Hp e) hf)) (x.keep b o e)
 ·by_cases hkn:k=n
  ·subst hkn
   replace MV:=hc▸MV;cases MV
   simpa using N1
  ·rw [if_neg hkn]
   exact(x.cell k c' MV).sameBut L2 λe=>hkn (name_of_addr x.apart (mem_of_lookup MV) (e▸mem_of_lookup hc))
theorem o9 (f:Str×Value->PUnit->Sem (ForInStep PUnit))(hf:∀n v u,f (n,v) u=(do storeName env n v;pure (.yield ⟨⟩)))(hk:env.scope.kind= .function):
 ∀(binds:List (Str×Value)) (m cm:Str->Option Value) (s:Shared) (Q:PUnit->Shared->Prop),InK s₀ env.locals m env.cells cm s->
  (∀x∈binds,env.kindOf x.1=some .local\/(env.kindOf x.1=some .cell/\∃c,env.cells.lookup x.1=some c/\s₀.heap.objs.size<=c))->
  (∀J,InK s₀ env.locals (bindL env.kindOf binds m) env.cells (bindC env.kindOf binds cm) J->Q ⟨⟩ J)->wpAny M A (forIn binds ⟨⟩ f) Q E s:=by
 intro q0
 induction q0 with
 |nil=>
  intro m cm s Q x _ h
  exact Hj (h s x)
 |cons q1 r ih=>
  intro m cm s Q x LF h
  rw [IM,hf]
  have hr:∀y∈r,env.kindOf y.1=some .local\/(env.kindOf y.1=some .cell/\∃c,env.cells.lookup y.1=some c/\s₀.heap.objs.size<=c):=λy hy=>LF y (Ha _ hy)
  rcases LF (q1.1,q1.2) G9 with hl |⟨hl,c,hc,hf'⟩
  ·refine Hc (Hc (F4 x hk hl λJ x'=>Hj (ih _ _ J Q x' hr λLv Sf=>h Lv ?_)))
   simp only [bindL,bindC];refine(if_pos hl)▸(if_pos hl)▸?_;exact Sf
  ·have QZ:¬env.kindOf q1.1=some .local:=by rw [hl];decide
   refine Hc (Hc (FZ x hk hl hc hf' λJ x'=>Hj (ih _ _ J Q x' hr λLv Sf=>h Lv ?_)))
   simp only [bindL,bindC];rw [if_neg QZ,if_neg QZ];exact Sf
noncomputable def dC (h:Heap) (c:Addr):Option Value:=match h.get? c with
 |some o=>(match o.data with | .cell v=>v |_=>none)
 |none=>none
theorem fU {h:Heap}{c:Addr}{cv:Option Value}(x:h.IsCell c cv):dC h c=cv:=by
 refine ae x λo g d=> ?_
 unfold dC
 rw [g]
 dsimp only
 rw [d]
theorem fc {scope:Scope}{globals:Addr}{cl:List (Str×Addr)}{binds:List (Str×Value)}{qual:Str}{func:Option Addr}{code:Value}{builtins:Addr}{Q:Env->Shared->Prop}
 (hk:scope.kind= .function)
 (Mc:∀x c,(x,c)∈cl->∃cv,s.heap.IsCell c cv)(VD:cl.Pairwise λx y=>x.2≠y.2)
 (LF:∀x∈binds,scope.names.lookup x.1=some .local\/scope.names.lookup x.1=some .cell)
 (hQ:∀env,env=newEnv scope s.heap.objs.size globals (cellsFrom (s.heap.objs.size+1) scope.names cl) qual func code none builtins->
  ∀J,InK s env.locals (bindL env.kindOf binds λ_=>none) env.cells (bindC env.kindOf binds λn=>(env.cells.lookup n).bind λc=>dC s.heap c) J->Q env J):
 wpAny M A (newFunctionEnv scope globals cl binds qual func code none builtins) Q E s:=by
 refine Hc (wpAny_alloc ?_)
 refine Hc (wpAny_layCells _ (λname kind cells=>by cases hkc:kind==NameKind.cell <;> simp [hkc]) _ _ _ _ ?_)
 have ok:=cellsFrom_ok scope.names (s.heap.push {cls:= .type "frame",data:= .dict #[]}) (s.heap.objs.size+1) [] ⟨λ_ _ hm=>(nomatch hm),List.Pairwise.nil⟩ (by simp)
 rw [HU] at ok
 refine(show ({s with heap:=s.heap.push {cls:= .type "frame",data:= .dict #[]}}:Shared).heap.objs.size=s.heap.objs.size+1 from HU ..)▸?_
 have L7:=bF scope.names (s.heap.objs.size+1) cl
 have Ll:∀x c,(x,c)∈cl->c < s.heap.objs.size:=λx c h=>by
  refine aL (Mc x c h) λ_ _ g _=> ?_
  exact Hp g
 have keep:∀b o,s.heap.get? b=some o->(pushCells (s.heap.push {cls:= .type "frame",data:= .dict #[]}) scope.names).get? b=some o:=λb o e=>JG _ _ b o (Heap.get?_push_of_some _ e)
 refine Hc (o9 (s₀:=s) (env:=newEnv scope s.heap.objs.size globals (cellsFrom (s.heap.objs.size+1) scope.names cl) qual func code none builtins)
  _ (λ_ _ _=>rfl) hk binds (λ_=>none) (λn=>((cellsFrom (s.heap.objs.size+1) scope.names cl).lookup n).bind λc=>dC s.heap c) _ _
  ⟨⟨_,_,rfl⟩,(Heap.Ns.new s.heap (.type "frame")).keeps (JG _ _),keep,Hh _,?_,?_,?_⟩
  ?_ λJ x=>Hj (hQ _ rfl J x))
 ·intro n c hc
  have PY:(cellsFrom (s.heap.objs.size+1) scope.names cl).lookup n=some c:=hc
  simp only [PY]
  rw [L7] at PY
  rcases HA.mp (mem_of_lookup PY) with q |q
  ·have h1:=ok.empty n c q
   have:dC s.heap c=none:=by
    unfold dC
    rw [Heap.get?_none_of_le (HM h1.2)]
   show Heap.IsCell _ c (dC s.heap c)
   rw [this];exact h1.1
  ·refine cz (Mc n c q) λcv x=> ?_
   show Heap.IsCell _ c (dC s.heap c)
   rw [fU x]
   exact x.keeps keep
 ·show (cellsFrom (s.heap.objs.size+1) scope.names cl).Pairwise _
  rw [L7,Iv]
  refine⟨ok.apart,VD,λa ha b hb e=> ?_⟩
  have h1:=(ok.empty a.1 a.2 ha).2
  rw [e] at h1
  exact absurd (Ll b.1 b.2 hb) (Hs.mpr (HM h1))
 ·intro n c h
  have h':(n,c)∈cellsFrom (s.heap.objs.size+1) scope.names cl:=h
  rw [L7] at h'
  rcases HA.mp h' with q |q
  ·exact IW (ok.empty n c q).2
  ·exact H2 (Ll n c q)
 ·intro x hx
  rcases LF x hx with h |h
  ·exact .inl h
  ·refine .inr ⟨h,?_⟩
   refine cz (aY (n:=s.heap.objs.size+1) (acc:=[]) (mem_of_lookup h)) λc hc=> ?_
   obtain⟨d,hd⟩:=aH hc
   refine⟨d,?_,HM (ok.empty _ _ (mem_of_lookup hd)).2⟩
   show (cellsFrom (s.heap.objs.size+1) scope.names cl).lookup x.1=some d
   simp only [L7,H6,hd];rfl
structure ft (C:Cfg)(fa:Addr)(fd:FuncData)(body:Expr)(Ng:bK):Prop where
 obj:∃o,C.h₀.get? fa=some o/\o.data= .func fd
 fa:fa∉C.aq
 code:∃t∈C.tabs,fd.qualname=t.2.2/\∃pos ps,C.h₀.TableAt t.1 t.2.1 ps/\codeAmong pos ps.toList=some fd.code
 body:fd.body= .expr body
 co:fd.scope.isCoroutine=false
 gen:fd.scope.isGenerator=false
 kind:fd.scope.kind= .function
 glob:fd.globals=mainGlobals
 blt:fd.builtins=builtinsNs
 nd:(fd.scope.names.map (·.1)).Nodup
 apart:fd.closure.Pairwise λx y=>x.2≠y.2
 cells:∀x c,(x,c)∈fd.closure->fd.scope.names.lookup x=some .free/\∃cv,C.h₀.IsCell c cv
 clos:∀x,fd.scope.names.lookup x=some .free->∃c cv,fd.closure.lookup x=some c/\C.h₀.IsCell c cv/\∀p,Ng x=some p->∃v,cv=some v/\Rp C.S (·∈C.aq) C.h₀ v p
noncomputable def d8 (S:Scope) (q:List (Str×PV)) (Ng:bK):bK:=λx=>if S.names.lookup x=some .free then Ng x else aC q x
theorem Inv.ou (i:Inv C s){c:Addr}{cv:Option Value}(h:C.h₀.IsCell c cv):s.heap.IsCell c cv:=by
 refine ae h λo g d=> ?_
 refine⟨o,i.old c o (λq=> ?_) g,d⟩
 refine ae (He.mp q) λt ht G'=> ?_;subst G'
 refine aL (i.tabs t ht) λ_ _ y _=> ?_
 have:=y.2
 rw [g] at this
 injection this with this
 replace d:=this▸d
 cases d
theorem St.Cc {fd:FuncData}{fa:Addr}{body:Expr}{a:Addr}{binds:List (Str×Value)}{q:List (Str×PV)}(g:Gd C W s)(F:ft C fa fd body Ng)
 (nd:(binds.map (·.1)).Nodup)(rep:dy C W s.heap binds q)
 (hk:∀x∈binds,fd.scope.names.lookup x.1=some .local\/fd.scope.names.lookup x.1=some .cell)
 (Mb:∀x c,(x,c)∈fd.closure->c < s.heap.objs.size)(R7:∀x c,(x,c)∈fd.closure->c∉W)
 (he:env=newEnv fd.scope s.heap.objs.size fd.globals (cellsFrom (s.heap.objs.size+1) fd.scope.names fd.closure) (fd.qualname ++ ".<locals>.") (some a) fd.code none fd.builtins)
 (x:InK s env.locals (bindL env.kindOf binds λ_=>none) env.cells (bindC env.kindOf binds λn=>(env.cells.lookup n).bind λc=>dC s.heap c) J):
 St C (s.heap.objs.size::W) (lC fd) [] (d8 fd.scope q Ng) env J:=by
 have eL:env.locals=s.heap.objs.size:=by rw [he];rfl
 have ec:env.cells=cellsFrom (s.heap.objs.size+1) fd.scope.names fd.closure:=by rw [he];rfl
 have LF:∀y,env.kindOf y=fd.scope.names.lookup y:=λy=>by rw [he];rfl
 have L7:=bF fd.scope.names (s.heap.objs.size+1) fd.closure
 have e:ah C [] s J:=by
  refine fC x.same λh' tk G'=> ?_;subst G'
  exact ah.of_keeps x.keep (Hg x.fresh (H3 (KZ x.ns)))
 have gr:∀{v p},Rr C W s.heap v p->Rr C (s.heap.objs.size::W) J.heap v p:=λh=>Rp.mono (N.grow (Hh _) e) h
 have NS:∀{y p},aC q y=some p->∃v,binds.lookup y=some v/\Rr C W s.heap v p:=λh=>rep.find h
 have Lz:(lC fd).scope=fd.scope:=rfl
 refine⟨g.inv.jj e,⟨by rw [he];rfl,by rw [he];exact F.glob,by rw [he];exact F.blt,by rw [he];rfl,by rw [he];rfl,F.kind⟩,λb hb=> ?_,by grind,⟨_,x.ns,λy p h1 h2=> ?_⟩,λy hy=> ?_,x.apart,⟨by rw [eL];exact G9,λh=>g.fresh (.inl (by refine eL▸?_;exact h))⟩,by simp,jw (g.inv.beyond (Hh _)) g.new,λy _ c hc hW=> ?_⟩
 ·rcases Hf.mp hb with rfl |hb
  ·refine eL▸?_;exact KZ x.ns
  ·exact Hn (g.low b (.inr hb)) e.size
 ·rw [Lz] at h1
  unfold d8 at h2
  rw [if_neg (by rw [h1];decide)] at h2
  refine ae (NS h2) λv e1 e2=> ?_
  exact⟨v,mf nd e1 (by rw [LF];exact h1),gr e2⟩
 ·rw [Lz] at hy
  unfold d8
  rcases hy with hy |hy
  ·refine cz (aY (n:=s.heap.objs.size+1) (acc:=[]) (mem_of_lookup hy)) λc hc=> ?_
   obtain⟨d,hd⟩:=aH hc
   have Nl:env.cells.lookup y=some d:=by simp only [ec,L7,H6,hd];rfl
   refine⟨d,_,Nl,x.cell y d Nl,λp hp=> ?_⟩
   rw [if_neg (by rw [hy];decide)] at hp
   refine ae (NS hp) λv e1 e2=> ?_
   exact⟨v,ma nd e1 (by rw [LF,hy];decide),gr e2⟩
  ·refine bp (F.clos y hy) λc cv h1 h2 h3=> ?_
   have hn:(cellsFrom (s.heap.objs.size+1) fd.scope.names []).lookup y=none:=by
    cases q:(cellsFrom (s.heap.objs.size+1) fd.scope.names []).lookup y with
    |none=>rfl
    |some d=>
     have h1:=b8 F.nd (dK (mem_of_lookup q))
     replace h1:=hy▸h1;cases h1
   have Nl:env.cells.lookup y=some c:=by simp only [ec,L7,H6,hn,h1];rfl
   have hb:binds.lookup y=none:=by
    cases q:binds.lookup y with
    |none=>rfl
    |some v=>
     rcases hk _ (mem_of_lookup q) with h |h <;> (simp only [show ((y,v):Str×Value).1=y from rfl,hy] at h;cases h)
   have Mx:=x.cell y c Nl
   rw [ib hb,Nl] at Mx
   rw [show (some c).bind (λc=>dC s.heap c)=dC s.heap c from rfl,fU (g.inv.ou h2)] at Mx
   refine⟨c,cv,Nl,Mx,λp hp=> ?_⟩
   rw [if_pos hy] at hp
   refine ae (h3 p hp) λv e1 e2=> ?_
   exact⟨v,e1,gr (C9 g.inv g.new e2)⟩
 ·rw [ec,L7] at hc
  rcases HA.mp (mem_of_lookup hc) with q |q
  ·have h1:=bV q
   rcases Hf.mp hW with rfl |hW
   ·exact HB _ h1
   ·exact HB _ (Kf (g.low c (.inr hW)) h1)
  ·obtain⟨_,cv,h2⟩:=F.cells y c q
   rcases Hf.mp hW with rfl |hW
   ·refine ae (g.inv.ou h2) λ_ g1 _=> ?_
    exact HB _ (Hp g1)
   ·refine ae h2 λ_ g1 _=> ?_
    replace g1:=(g.new c hW)▸g1;cases g1
theorem lB {pos:Pos}{i j:Int}{t u:Tok}{v:Value}{r:List Value}:codeAmong pos (.int i t:: .int j u::v::r)=if(i==pos.line && j==pos.col)=true then some v else codeAmong pos r:=rfl
theorem qW {pos:Pos}{c:Value}{m:List Value}:∀{l:List Value}{n:Nat},PySem.HeadEqs.codeGoQ pos l n=some c->PySem.HeadEqs.codeGoQ pos (l ++ m) n=some c:=by
 intro l
 induction l with
 |nil=>intro n h;exact nomatch (show none=some c from h)
 |cons v l ih=>
  intro n h
  rcases n with _ |_ |_ |_ |n
  ·cases v with
   |int i t=>exact ih h
   |_=>exact nomatch (show none=some c from h)
  ·cases v with
   |int i t=>exact ih h
   |_=>exact nomatch (show none=some c from h)
  ·cases v with
   |int i t=>exact ih h
   |_=>exact nomatch (show none=some c from h)
  ·exact h
  ·exact ih h
theorem iM {pos:Pos}{c:Value}{l m:List Value}(h:codeAmong pos l=some c):codeAmong pos (l ++ m)=some c:=
 (KA _ _).trans (qW ((KA _ _).symm.trans h))
theorem pR {fa:Addr}{fd:FuncData}{body:Expr}{args:Args}{binds:List (Str×Value)}{q:List (Str×PV)}{r:PV}
 (ok:C.Ok)(F:ft C fa fd body Ng)(g:Gd C W s)(rm:ak A (k+1))(Mj:BindsTo s fd args binds)(rep:dy C W s.heap binds q)(nd:(binds.map (·.1)).Nodup)
 (hk:∀x∈binds,fd.scope.names.lookup x.1=some .local\/fd.scope.names.lookup x.1=some .cell)
 (Mg:Ev C k (lC fd) [] (d8 fd.scope q Ng) body r):Gives C W A (call (.ref fa) args.pos args.kw) r s:=by
 refine ae F.obj λo ho hd=> ?_
 refine K0 ?_
 obtain⟨t,ht,hq,pos,ps,hT,hC⟩:=F.code
 refine aL (g.inv.tabs t ht) λLu more Uo hN=> ?_
 have Vd:ps=Lu:=by
  have h1:=hT.2
  replace h1:=Uo.2▸h1
  cases h1;rfl
 subst Vd
 have Tn:s.heap.CodeRec fd.code fd.qualname:=by
  simp_all
  exact hN.recs pos _ (by rw [Array.toList_append];exact iM hC)
 refine kla_callFunE (Hn (IX (HN _ _) rm.depth) (by decide)) (g.inv.old _ _ F.fa ho) hd F.co F.gen F.body Tn (Mj _ _ _ _ ?_)
 have hold:∀x c,(x,c)∈fd.closure->∃cv,s.heap.IsCell c cv:=λx c h=>by
  obtain⟨_,cv,h2⟩:=F.cells x c h
  exact⟨cv,g.inv.ou h2⟩
 refine fc F.kind hold F.apart hk λenv he J x=> ?_
 have X:St C (s.heap.objs.size::W) (lC fd) [] (d8 fd.scope q Ng) env J:=
  St.Cc g F nd rep hk (λx c h=>by refine aL (hold x c h) λ_ _ g1 _=> ?_;exact Hp g1) (λx c h hW=>by
   obtain⟨_,cv,_,g1,_⟩:=F.cells x c h
   replace g1:=(g.new c hW)▸g1;cases g1) he x
 have e:ah C [] s J:=by
  refine fC x.same λh' tk G'=> ?_;subst G'
  exact ah.of_keeps x.keep (Hg x.fresh (H3 (KZ x.ns)))
 refine⟨X.inv.nolimit ok,kla_codeExpr (Hb (Mg _ _ env J (rm.deeper _) X) (λv Lv h=> ?_) λ_ _ q=>q.elim)⟩
 exact⟨e.trans h.1,h.2.drop λa ha=>Ha _ ha⟩
theorem je {p:Pos}{a b:Int}{c' x:Value}:∀{l:List Value},TriplesOk l->codeAmong p (l ++ [rawInt a,rawInt b,c'])=some x->codeAmong p l=some x\/x=c':=by
 intro l
 fun_induction TriplesOk l with
 |case1=>
  intro _ e
  right
  replace e:codeAmong p (.int a 0:: .int b 0::c'::[])=_:=e
  simp only [lB] at e
  by_cases q:(a==p.line && b==p.col)=true
  ·rw [if_pos q] at e;exact(H7 e).symm
  ·replace e:=(if_neg q)▸e;cases e
 |case2 i t j u c rest ih=>
  intro h e
  replace e:codeAmong p (.int i t:: .int j u::c::(rest ++ [rawInt a,rawInt b,c']))=_:=e
  simp only [lB] at e ⊢
  by_cases q:(i==p.line && j==p.col)=true
  ·rw [if_pos q] at e ⊢;exact .inl e
  ·rw [if_neg q] at e ⊢;exact ih h e
 |case3=>intro h;exact h.elim
theorem qr {l:List Value}(h:TriplesOk l){q:Str}{t:Tok}(e:l[1]? =some (.str q t)):False:=by
 revert h e
 fun_induction TriplesOk l with
 |case1=>intro _ e;cases e
 |case2 i t j u c rest ih=>intro _ e;cases e
 |case3=>intro h;exact h.elim
theorem xw {h:Heap}{c P:Addr}{ps:Array Value}{G:Prop}(x:h.IsCode c P ps)(k:∀o vs op,h.get? c=some o->o.data= .fields vs->vs.getD 11 .none= .ref P->h.get? P=some op->op.data= .fields ps->TriplesOk ps.toList->c≠P->(∀h':Heap,∀QG MK,h'.get? c=some o->h'.get? P=some QG->QG.data= .fields MK->TriplesOk MK.toList->h'.IsCode c P MK)->G):G:=by
 obtain⟨o,vs,file,tf,flags,tg,T6,text,tt,op,f1,f2,f3,f4,f5,f6,f7,f8,f9,tr,Lr⟩:=x
 exact k o vs op f1 f2 f3 f8 f9 tr Lr λh' QG MK g1 g2 g3 g4=>⟨o,vs,file,tf,flags,tg,T6,text,tt,QG,g1,f2,f3,f4,f5,f6,f7,g2,g3,g4,Lr⟩
theorem bO.w7 {h:Heap}{c P:Addr}{q:Str}{ps:Array Value}(x:bO h c P q ps){c₂:Addr}{o:Obj}{vs:Array Value}{q':Str}{t:Tok}(g:h.get? c₂=some o)(d:o.data= .fields vs)(e:vs[1]? =some (.str q' t)):c₂≠P:=by
 rintro rfl
 have:=x.tab.2
 replace this:=g▸this
 cases this
 cases d
 refine xw x.code λ_ _ _ _ _ _ g2 d2 tr _ _=> ?_
 replace g2:=g▸g2
 cases g2
 cases d2
 exact qr tr (by simpa using e)
theorem bO.snoc {h h':Heap}{c P c':Addr}{q:Str}{ps:Array Value}(x:bO h c P q ps)(hx:Heap.ExtBut P h h')(hP:h'.get? P=some (tabObj (ps ++ #[rawInt pos.line,rawInt pos.col,.ref c'])))(hr:h'.CodeRec (.ref c') q):
 bO h' c P q (ps ++ #[rawInt pos.line,rawInt pos.col,.ref c']):=by
 refine xw x.code λo vs op f1 f2 f3 f8 f9 tr Lr mk=> ?_
 have hl:(ps ++ #[rawInt pos.line,rawInt pos.col,Value.ref c']).toList=ps.toList ++ [rawInt pos.line,rawInt pos.col,.ref c']:=by simp
 refine⟨mk _ _ _ (hx _ _ Lr f1) hP rfl ?_,?_,λp cx e=> ?_⟩
 ·rw [hl];exact TriplesOk_snoc _ _ _ _ tr
 ·refine aL x.tab.1 λo' Qz e1 r=> ?_
  exact⟨⟨o',Qz,hx _ _ Lr e1,r⟩,hP⟩
 ·rw [hl] at e
  rcases je tr e with e |rfl
  ·obtain⟨c₂,o2,Py,t2,e1,e2,e3,e4⟩:=x.recs p cx e
   exact⟨c₂,o2,Py,t2,e1,hx _ _ (x.w7 e2 e3 e4) e2,e3,e4⟩
  ·exact hr
theorem bO.vW {h h':Heap}{c P c₀ Of:Addr}{q RM:Str}{ps Lu:Array Value}(x:bO h c P q ps)(Sl:bO h c₀ Of RM Lu)(hx:Heap.ExtBut Of h h')(hc:c≠Of)(hP:P≠Of):bO h' c P q ps:=
 ⟨x.code.extBut hx hc hP,x.tab.extBut hx hc hP,λp cx e=>by
  obtain⟨c₂,o2,Py,t2,e1,e2,e3,e4⟩:=x.recs p cx e
  exact⟨c₂,o2,Py,t2,e1,hx _ _ (Sl.w7 e2 e3 e4) e2,e3,e4⟩⟩
theorem rS (i:Inv C s)(ok:C.Ok){P:Addr}(hP:P∈C.aq):s.heap.BuiltinsAt C.mg P:=by
 refine CM ok.bmain λbm o h1 h2 h3 h4 h5 r=> ?_
 exact⟨bm,o,h1,h2,h3,λq=>h4 (q▸hP),i.old _ _ h4 h5,r⟩
noncomputable def kG (sc:Sc) (params:Arguments) (body:Expr) (scope:Scope) (cl:List (Str×Addr)) (pm cd LX:Value):FuncData:=kla_fn "<lambda>" (sc.qual ++ "<lambda>") params body scope cl pm cd LX
structure sN (C:Cfg)(sc:Sc)(scope:Scope):Prop where
 tab:∃t∈C.tabs,sc.code= .ref t.1/\sc.qual ++ "<lambda>"=t.2.2
 free:∀x∈scope.names,x.2= .free->sc.scope.names.lookup x.1=some .cell\/sc.scope.names.lookup x.1=some .free
 co:scope.isCoroutine=false
 gen:scope.isGenerator=false
 kind:scope.kind= .function
 nd:(scope.names.map (·.1)).Nodup
theorem BC {t:Addr×Addr×Str}{MK:Array Value}{fa:Addr}{cv LX pm:Value}{params:Arguments}{body:Expr}{scope:Scope}(X:St C W sc own ρ env s)(L:sN C sc scope)(ht:t∈C.tabs)(hq:sc.qual ++ "<lambda>"=t.2.2)(e2:ah C [] s J)(hz:s.heap.objs.size<=fa)
 (g:J.heap.get? fa=some {cls:= .type "function",data:= .func (kG sc params body scope (aT env.cells scope.names []) pm cv LX)})(NY:bO J.heap t.1 t.2.1 t.2.2 MK)(hC:codeAmong pos MK.toList=some cv):
 ft (C.at W J) fa (kG sc params body scope (aT env.cells scope.names []) pm cv LX) body ρ:=by
 have ME:∀x,(x,NameKind.free)∈scope.names->∃c cv,env.cells.lookup x=some c/\s.heap.IsCell c cv/\∀p,ρ x=some p->∃v,cv=some v/\Rr C W s.heap v p:=λx hx=>X.cel x (L.free _ hx rfl)
 have Ms:∀x c,(x,c)∈aT env.cells scope.names []->env.cells.lookup x=some c/\scope.names.lookup x=some .free/\∃ce,(C.at W J).h₀.IsCell c ce/\s.heap.IsCell c ce:=by
  intro x c h
  refine c5 (b7.mp h) λh1 h0=> ?_
  refine bp (ME _ h1) λc' OF h2 h3 _=> ?_
  obtain rfl:c=c':=by rw [h2] at h0;exact h0
  refine ae h3 λoc g d=> ?_
  exact⟨h2,b8 L.nd h1,OF,⟨oc,gA.mpr ⟨e2.keep _ _ (X.Ba g (by refine d▸?_;nofun)) (by simp) g,X.celW x (L.free _ h1 rfl) _ h2⟩,d⟩,oc,g,d⟩
 have tW:∀{a:Addr} {o:Obj},C.h₀.get? a=some o->a∉W:=λg h=>nomatch (X.new _ h).symm.trans g
 refine⟨⟨_,gA.mpr ⟨g,λh=>absurd (X.low _ h) (Hs.mpr hz)⟩,rfl⟩,λh=>absurd (X.inv.fV _ h) (Hs.mpr hz),⟨t,ht,hq,pos,MK,?_,hC⟩,rfl,L.co,L.gen,L.kind,rfl,rfl,L.nd,lI X.apart (cS L.nd) (λx c h=>(Ms x c h).1),λx c h=>⟨(Ms x c h).2.1,(Ms x c h).2.2.imp λ_ q=>q.1⟩,λx hx=> ?_⟩
 ·refine aL (X.inv.tabs t ht) λ_ _ SN _=> ?_;refine aL SN.1 λo0 V8 g0 _=> ?_
  refine aL NY.tab.1 λo vs g r=> ?_
  exact⟨⟨o,vs,gA.mpr ⟨g,tW g0⟩,r⟩,gA.mpr ⟨NY.tab.2,tW SN.2⟩⟩
 ·have hm:=mem_of_lookup hx
  refine bp (ME _ hm) λc OF h1 h2 h3=> ?_
  have Pg:(x,c)∈aT env.cells scope.names []:=b7.mpr ⟨hm,by rw [h1];rfl⟩
  obtain⟨_,_,P4,h4,h5⟩:=Ms x c Pg
  obtain rfl:P4=OF:=by simp only [<-fU h5,<-fU h2]
  refine⟨c,P4,b8 (cS L.nd) Pg,h4,λp hp=> ?_⟩
  refine ae (h3 p hp) λv e1 r=> ?_
  exact⟨v,e1,C7 (e2.pe r)⟩
theorem qx {params:Arguments}{body:Expr}{scope:Scope}(ok:C.Ok)(X:St C W sc own ρ env s)(L:sN C sc scope)(Mq:∀env,defaultsOf params env=([],[])):
 wpAny C.M A (eval (.Lambda params body scope pos) env) (λv f'=>ah C [] s f'/\∃fa cl pm cd LX,v= .ref fa/\s.heap.objs.size<=fa/\ft (C.at W f') fa (kG sc params body scope cl pm cd LX) body ρ) (λ_ _=>False) s:=by
 refine iI L.tab λt ht NU hq=> ?_
 refine aL (X.inv.tabs t ht) λLu more hT hN=> ?_
 have Pe:t.2.1∈C.aq:=He.mpr ⟨t,ht,rfl⟩
 have Mc:closureFor scope env=pure (aT env.cells scope.names []):=eg λx hx hf=>by
  refine aL (X.cel x.1 (L.free x hx hf)) λc _ h1 _=> ?_
  rw [h1];rfl
 have Mh:env.code= .ref t.1:=by rw [X.ok.code];exact NU
 have hg:=X.inv.ns ok.gT ok.g
 have hb:=rS X.inv ok Pe
 have Sr:CodeHd s.heap t.1 t.2.1:=CodeHd.of hN.code hN.tab
 have Qx:TriplesOk (Lu ++ more).toList:=by
  obtain⟨_,_,_,_,_,_,_,_,_,_,_,_,_,_,_,_,_,g2,d2,tr,_⟩:=hN.code
  exact tr
 have fin:∀(h':Heap) (tk:Tok) (MK:Array Value) (cv LX:Value),ah C [] s {s with heap:=h',toks:=tk}->s.heap.objs.size<=h'.objs.size->bO h' t.1 t.2.1 t.2.2 MK->codeAmong pos MK.toList=some cv->
  ∀s2:Shared,s2={s with heap:=h'.push {cls:= .type "function",data:= .func (kla_fn "<lambda>" (sc.qual ++ "<lambda>") params body scope (aT env.cells scope.names []) ((C.mg "__name__").getD .none) cv LX)},toks:=tk}->
  ah C [] s s2/\∃fa cl pm cd ctv',Value.ref h'.objs.size= .ref fa/\s.heap.objs.size<=fa/\ft (C.at W s2) fa (kG sc params body scope cl pm cd ctv') body ρ:=by
  rintro h' tk MK cv LX e hz NY hC _ rfl
  have e2:ah C [] s {s with heap:=h'.push {cls:= .type "function",data:= .func (kla_fn "<lambda>" (sc.qual ++ "<lambda>") params body scope (aT env.cells scope.names []) ((C.mg "__name__").getD .none) cv LX)},toks:=tk}:=e.trans (ah.push _ tk)
  exact⟨e2,h'.objs.size,_,_,cv,LX,rfl,hz,BC X L ht hq e2 hz (Heap.get?_push_size _ rfl) (NY.keeps λ_ _=>Heap.get?_push_of_some _) hC⟩
 refine kla_eval (Mq env) ?_
 cases hC:codeAmong pos (Lu ++ more).toList with
 |some cv=>
  refine kla_makeFunctionHit Mc X.ok.globals hg Mh Sr hN.tab.2 Qx hC hb λLX h' tk hk hz=> ?_
  exact fin h' tk (Lu ++ more) cv LX (ah.of_keeps hk hz) hz (hN.keeps hk) hC _ (by rw [X.ok.qual])
 |none=>
  refine kla_makeFunction Mc X.ok.globals hg Mh Sr hN.tab.2 Qx hC (λq=>ok.gT (q▸Pe)) hb λc' LX h' tk hx Ra Ll OW Sh=> ?_
  have M4:=hN.snoc (pos:=pos) hx Sh ((by rw [X.ok.qual];exact hq:env.qual ++ "<lambda>"=t.2.2)▸OW)
  have hz:s.heap.objs.size<=h'.objs.size:=Hg Ra (H3 Ll)
  refine fin h' tk _ (.ref c') LX ⟨λa o h1 _ g=>hx a o (λq=>h1 (q▸Pe)) g,hz,λt' M' MK x=> ?_,rfl,id⟩ hz M4 ?_ _ (by rw [X.ok.qual])
  ·by_cases hP:t'.2.1=t.2.1
   ·obtain rfl:=ok.inj t' M' t ht hP
    obtain rfl:MK=Lu ++ more:=by
     have h1:=x.tab.2
     replace h1:=hN.tab.2▸h1
     cases h1;rfl
    exact⟨_,M4⟩
   ·exact⟨#[],(x.vW hN hx (λq=>ok.noCode t' M' (q▸Pe)) hP)⟩
  ·rw [show ((Lu ++ more) ++ #[rawInt pos.line,rawInt pos.col,Value.ref c']).toList=(Lu ++ more).toList ++ [rawInt pos.line,rawInt pos.col,.ref c'] by simp]
   exact codeAmong_snoc _ Qx hC
def ez (C:Cfg)(W:List Addr)(own:Own)(s:Shared):Prop:=∀x∈own,x.1∈W/\dO C W s.heap x.1 x.2/\x.1∉C.aq
theorem ez.nil:ez C W [] s:=by intro x hx;cases hx
structure cF (C:Cfg)(fa:Addr):Prop where
 nt:fa∉C.aq
 obj:∃o fd,C.h₀.get? fa=some o/\o.data= .func fd
theorem FnAt.fo {fa:Addr}{fd:FuncData}{body:List Stmt}(F:FnAt C fa fd body):cF C fa:=⟨F.fa,let ⟨o,g,d⟩:=F.obj;⟨o,fd,g,d⟩⟩
theorem ft.fo {fa:Addr}{fd:FuncData}{body:Expr}(F:ft C fa fd body Ng):cF C fa:=⟨F.fa,let ⟨o,g,d⟩:=F.obj;⟨o,fd,g,d⟩⟩
def aN (C:Cfg)(k:Nat)(own:Own)(f:Value)(ps:List PV)(LD:List (Str×PV))(r:PV):Prop:=∀W A s vs kvs,ak A k->Gd C W s->ez C W own s->fe C W s.heap vs ps->dy C W s.heap kvs LD->Gives C W A (call f vs kvs) r s
def gX (C:Cfg)(k:Nat)(own own':Own)(f:Value)(ps:List PV)(LD:List (Str×PV))(r:PV):Prop:=∀W A s vs kvs,ak A k->Gd C W s->ez C W own s->fe C W s.heap vs ps->dy C W s.heap kvs LD->
 wpAny C.M A (call f vs kvs) (λv J=>ah C (own.map (·.1)) s J/\ez C W own' J/\Rr C W J.heap v r) (λ_ _=>False) s
def bR (C:Cfg)(k:Nat)(sc:Sc)(own:Own)(ρ:bK)(Na:List Keyword)(LD:List (Str×PV)):Prop:=
 ∀W A env s pos,ak A k->St C W sc own ρ env s->wpAny C.M A (evalAll ((backToKw pos (keywordEach Na env)).map (·.2))) (λvs J=>ah C [] s J/\dy C W J.heap (((backToKw pos (keywordEach Na env)).filterMap (·.1)).zip vs) LD) (λ_ _=>False) s
theorem bR.nil:bR C k sc own ρ [] []:=λW A env s pos rm X=>kws_nil ⟨ah.refl _,.nil⟩
theorem bR.cons {name:Str}{value:Expr}{kp:Pos}{Na:List Keyword}{p:PV}{LD:List (Str×PV)}(h:Ev C k sc own ρ value p)(hs:bR C k sc own ρ Na LD):bR C k sc own ρ (⟨some name,value,kp⟩::Na) ((name,p)::LD):=λW A env s pos rm X=>by
 refine kws_cons (Hb (h W A env s rm X) ?_ λ_ _ q=>q.elim)
 rintro v s1 ⟨e1,r1⟩
 refine Hb (hs W A env s1 pos rm (X.aA e1)) ?_ λ_ _ q=>q.elim
 rintro vs s2 ⟨e2,r2⟩
 exact⟨e1.trans e2,.cons (e2.pe r1) r2⟩
theorem Ev.du {x:Str}{px:Pos}{a:Expr}{args:List Expr}{Na:List Keyword}{fa:Addr}{ps:List PV}{LD:List (Str×PV)}{r:PV}(hf:Ev C k sc own ρ (.Name x px) (.raw (.ref fa)))(F:cF C fa)
 (ha:ab C k sc own ρ (a::args) ps)(hk:bR C k sc own ρ Na LD)(hc:aN C k own (.ref fa) ps LD r)
 (Mu:autoParam (∀env,∃m ms,backTo pos (starEach (a::args) env)=(false,m)::ms) nh)(LP:autoParam (∀env,(backToKw pos (keywordEach Na env)).all (·.1.isSome)=true) ng):
 Ev C k sc own ρ (.Call (.Name x px) (a::args) Na pos) r:=λW A env s rm X=>by
 refine JJ (Hb (hf W A env s rm X) ?_ λ_ _ q=>q.elim)
 rintro v s1 ⟨e1,r1⟩
 rw [show v= .ref fa from r1]
 refine aL F.obj λo fd ho hd=> ?_
 refine Km (o:=o) (fd:=fd) ?_
 refine fC (Mu env) λm ms hm=> ?_
 have h2:=ha W A env s1 pos rm (X.aA e1)
 simp only [hm] at h2 ⊢
 refine evalArgs_kw (LP env) (Hb h2 ?_ λ_ _ q=>q.elim)
 rintro vs s2 ⟨e2,r2⟩
 have X2:=(X.aA e1).aA e2
 refine Hb (hk W A env s2 pos rm X2) ?_ λ_ _ q=>q.elim
 rintro kvs s3 ⟨e3,r3⟩
 have X3:=X2.aA e3
 refine⟨⟨X3.inv.old _ _ F.nt ho,hd⟩,Hb (hc W A s3 vs _ rm X3.gd X3.owns (e3.jl r2) r3) ?_ λ_ _ q=>q.elim⟩
 rintro w s4 ⟨e4,r4⟩
 exact⟨((e1.trans e2).trans e3).trans e4,r4⟩
theorem St.turned (X:St C W sc own ρ env s)(e:ah C (own.map (·.1)) s J)(ho:ez C W own' J)(ha:own'.map (·.1)=own.map (·.1)):St C W sc own' ρ env J:=by
 have MU:∀b∈own.map (·.1),b∈W:=λb hb=>by
  refine ae (He.mp hb) λy hy G'=> ?_;refine G'▸?_
  exact(X.owns y hy).1
 have kk:∀b o,¬C.N W b->s.heap.get? b=some o->¬C.N W b/\J.heap.get? b=some o:=λb o n g=>⟨n,e.keep b o (λq=>n (.inl q)) (λq=>n (.inr (MU b q))) g⟩
 have OZ:∀{y:Addr×PV},y∈own'->∃p,(y.1,p)∈own:=λ{y} hy=>by
  have:y.1∈own'.map (·.1):=He.mpr ⟨y,hy,rfl⟩
  rw [ha] at this
  refine ae (He.mp this) λz hz e=> ?_
  exact⟨z.2,by refine e▸?_;exact hz⟩
 refine⟨X.inv.aA e (λa ha=>X.new a (MU a ha)),X.ok,λa ha=>Hn (X.low a ha) e.size,ho,?_,λy hy=> ?_,X.apart,X.noLoc,λy hy=> ?_,X.new,X.celW⟩
 ·obtain⟨m,⟨o,es,ep,g,r⟩,h⟩:=X.loc
  refine⟨m,⟨o,es,ep,e.keep _ _ X.noLoc.2 (λq=> ?_) g,r⟩,λy p h1 h2=>let ⟨v,h3,h4⟩:=h y p h1 h2;⟨v,h3,Rp.mono kk h4⟩⟩
  refine ae (He.mp q) λy hy e1=> ?_
  exact X.ownLoc y hy e1
 ·refine bp (X.cel y hy) λc cv h1 z8 h3=> ?_;refine ae z8 λoc h2 MH=> ?_
  refine⟨c,cv,h1,⟨oc,e.keep _ _ (λq=> ?_) (λq=>X.celW y hy c h1 (MU c q)) h2,MH⟩,λp hp=>let ⟨v,h4,h5⟩:=h3 p hp;⟨v,h4,Rp.mono kk h5⟩⟩
  refine ae (He.mp q) λt ht G'=> ?_;subst G'
  refine aL (X.inv.tabs t ht) λ_ _ _ z=> ?_
  have:=z.tab.2
  rw [h2] at this
  injection this with this
  replace MH:=this▸MH
  cases MH
 ·obtain⟨p,hp⟩:=OZ hy
  exact X.ownLoc (y.1,p) hp
theorem Bs.turned (B:Bs C Wt mine t own env s)(e:ah C (own.map (·.1)) s J)(ha:own'.map (·.1)=own.map (·.1)):Bs C Wt mine t own' env J:=by
 refine(B.join e λa h=> ?_).less λy hy=> ?_
 ·refine ae (He.mp h) λy hy G'=> ?_;refine G'▸?_
  exact B.owns y hy
 ·have:y.1∈own'.map (·.1):=He.mpr ⟨y,hy,rfl⟩
  rw [ha] at this
  refine ae (He.mp this) λz hz e=> ?_
  exact⟨z.2,by refine e▸?_;exact hz⟩
theorem fx.call {x:Str}{px:Pos}{a:Expr}{args:List Expr}{Na:List Keyword}{fa:Addr}{ps:List PV}{LD:List (Str×PV)}{r:PV}(hf:Ev C k sc own ρ (.Name x px) (.raw (.ref fa)))(F:cF C fa)
 (ha:ab C k sc own ρ (a::args) ps)(hk:bR C k sc own ρ Na LD)(hc:gX C k own own' (.ref fa) ps LD r)(K':own'.map (·.1)=own.map (·.1))
 (Mu:∀env,∃m ms,backTo pos (starEach (a::args) env)=(false,m)::ms)(LP:∀env,(backToKw pos (keywordEach Na env)).all (·.1.isSome)=true):
 fx C k sc mine own own' ρ (.Call (.Name x px) (a::args) Na pos) r:=λW A env s t Wt rm X B=>by
 refine JJ (Hb (hf W A env s rm X) ?_ λ_ _ q=>q.elim)
 rintro v s1 ⟨e1,r1⟩
 simp only [show v= .ref fa from r1]
 refine aL F.obj λo fd ho hd=> ?_
 refine Km (o:=o) (fd:=fd) ?_
 refine fC (Mu env) λm ms hm=> ?_
 have h2:=ha W A env s1 pos rm (X.aA e1)
 simp only [hm] at h2 ⊢
 refine evalArgs_kw (LP env) (Hb h2 ?_ λ_ _ q=>q.elim)
 rintro vs s2 ⟨e2,r2⟩
 have X2:=(X.aA e1).aA e2
 refine Hb (hk W A env s2 pos rm X2) ?_ λ_ _ q=>q.elim
 rintro kvs s3 ⟨e3,r3⟩
 have X3:=X2.aA e3
 refine⟨⟨X3.inv.old _ _ F.nt ho,hd⟩,Hb (hc W A s3 vs _ rm X3.gd X3.owns (e3.jl r2) r3) ?_ λ_ _ q=>q.elim⟩
 intro w s4 zz;refine cZ zz λe4 o4 r4=> ?_
 exact⟨X3.turned e4 o4 K',(((B.step e1).step e2).step e3).turned e4 K',r4⟩
theorem bY {e:Expr}(X:St C W sc own ρ env s)(B:Bs C Wt mine t own env s)(rm:ak A k)(he:fx C k sc mine own own' ρ e .none)
 (hs:∀env,swapsWith e none pos.line env=pure false)
 (next:∀J,St C W sc own' ρ env J->Bs C Wt mine t own' env J->wpAny C.M A (execs rest env) Q E J):wpAny C.M A (execs (.Expr e pos::rest) env) Q E s:=by
 refine HP (wpAny_Expr (Hb (he W A env s t Wt rm X B) ?_ λ_ _ q=>q.elim) (by simp only [interactive];refine X.ok.scope▸X.ok.kind▸?_;rfl) (hs env))
 intro v s1 zz;refine cZ zz λX1 B1 r=> ?_
 refine(show v= .none from r)▸?_
 exact next s1 X1 B1
variable {C' MW:Cfg}
structure Cfg.Le (C C':Cfg):Prop where
 prog:C'.prog=C.prog
 w:C'.w=C.w
 os:C'.os=C.os
 mg:C'.mg=C.mg
 mb:C'.mb=C.mb
 tabs:C'.tabs=C.tabs
 old:∀a o,a∉C.aq->C.h₀.get? a=some o->C'.h₀.get? a=some o
 tab:∀t∈C.tabs,∀ps,C.h₀.TableAt t.1 t.2.1 ps->∃more,C'.h₀.TableAt t.1 t.2.1 (ps ++ more)
theorem wC (i:Inv C s)(ok:C.Ok)(hN:∀a∈W,C.h₀.get? a=none):C.Le (C.at W s) where
 prog:=rfl
 w:=rfl
 os:=rfl
 mg:=rfl
 mb:=rfl
 tabs:=rfl
 old a o h e:=lM i hN h e
 tab t ht ps h:=by
  refine aL (i.tabs t ht) λLu m y z=> ?_
  have:ps=Lu:=by
   have h1:=h.2
   replace h1:=y.2▸h1
   cases h1;rfl
  refine this▸?_
  refine c5 y λz3 gP=> ?_;refine aL z3 λo vs g r=> ?_
  exact⟨m,⟨o,vs,lM i hN (m8 ok ht) g,r⟩,gA.mpr ⟨z.tab.2,λh=>by replace gP:=(hN _ h)▸gP;cases gP⟩⟩
theorem Cfg.Le.aq (l:C.Le C'):C'.aq=C.aq:=by unfold Cfg.aq;rw [l.tabs]
theorem Cfg.Le.ns (l:C.Le C'){a:Addr}{m:Str->Option Value}(ha:a∉C.aq)(h:C.h₀.Ns a m):C'.h₀.Ns a m:=
 let ⟨o,es,ep,g,r⟩:=h;⟨o,es,ep,l.old _ _ ha g,r⟩
theorem Cfg.Ok.le (ok:C.Ok)(l:C.Le C'):C'.Ok where
 nolimit:=by refine ae ok.nolimit λmc a b=> ?_;exact⟨mc,l.ns ok.statics a,b⟩
 statics:=by refine l.aq▸?_;exact ok.statics
 g:=by refine l.mg▸?_;exact l.ns ok.gT ok.g
 gT:=by refine l.aq▸?_;exact ok.gT
 b:=by rw [l.mb];exact l.ns ok.bT ok.b
 bT:=by refine l.aq▸?_;exact ok.bT
 noCode:=by refine l.aq▸l.tabs▸?_;exact ok.noCode
 inj:=by refine l.tabs▸?_;exact ok.inj
 bmain:=by refine l.mg▸l.aq▸?_;exact let ⟨bm,o,h1,h2,h3,h4,h5,r⟩:=ok.bmain;⟨bm,o,h1,h2,h3,h4,l.old _ _ h4 h5,r⟩
theorem FnAt.le {fa:Addr}{fd:FuncData}{body:List Stmt}(F:FnAt C fa fd body)(l:C.Le C'):FnAt C' fa fd body where
 obj:=by refine ae F.obj λo g d=> ?_;exact⟨o,l.old _ _ F.fa g,d⟩
 fa:=by refine l.aq▸?_;exact F.fa
 code:=by obtain⟨c,o,vs,t,e,g,r⟩:=F.code;exact⟨c,o,vs,t,e,l.old _ _ (F.noTab c e) g,r⟩
 noTab:=by refine l.aq▸?_;exact F.noTab
 body:=F.body
 co:=F.co
 gen:=F.gen
 kind:=F.kind
 clos:=F.clos
 glob:=F.glob
 blt:=F.blt
 free:=F.free
theorem cF.le {fa:Addr}(F:cF C fa)(l:C.Le C'):cF C' fa:=⟨by refine l.aq▸?_;exact F.nt,let ⟨o,fd,g,d⟩:=F.obj;⟨o,fd,l.old _ _ F.nt g,d⟩⟩
theorem Cfg.Le.sEq (l:C.Le C'):C'.S=C.S:=by
 unfold Cfg.S
 rw [l.prog,l.w]
theorem kA (ok:C.Ok)(hT:∀t∈C.tabs,∃ps,C.h₀.TableAt t.1 t.2.1 ps){c:Addr}{cv:Option Value}(h:C.h₀.IsCell c cv):c∉C.aq:=λq=>by
 refine ae h λo g d=> ?_
 refine ae (He.mp q) λt ht G'=> ?_;subst G'
 obtain⟨ps,y⟩:=hT t ht
 have:=y.2
 rw [g] at this
 injection this with this
 replace d:=this▸d
 cases d
theorem ft.le {fa:Addr}{fd:FuncData}{body:Expr}(F:ft C fa fd body Ng)(ok:C.Ok)(hT:∀t∈C.tabs,∃ps,C.h₀.TableAt t.1 t.2.1 ps)(l:C.Le C'):ft C' fa fd body Ng where
 obj:=by refine ae F.obj λo g d=> ?_;exact⟨o,l.old _ _ F.fa g,d⟩
 fa:=by rw [l.aq];exact F.fa
 code:=by
  obtain⟨t,ht,hq,pos,ps,h1,h2⟩:=F.code
  obtain⟨m,h3⟩:=l.tab t ht ps h1
  exact⟨t,by rw [l.tabs];exact ht,hq,pos,_,h3,by rw [Array.toList_append];exact iM h2⟩
 body:=F.body
 co:=F.co
 gen:=F.gen
 kind:=F.kind
 glob:=F.glob
 blt:=F.blt
 nd:=F.nd
 apart:=F.apart
 cells x c h:=by obtain⟨h1,cv,h2⟩:=F.cells x c h;exact⟨h1,cv,let ⟨o,g,d⟩:=h2;⟨o,l.old _ _ (kA ok hT h2) g,d⟩⟩
 clos x hx:=by
  refine bp (F.clos x hx) λc cv h1 h2 h3=> ?_
  refine⟨c,cv,h1,let ⟨o,g,d⟩:=h2;⟨o,l.old _ _ (kA ok hT h2) g,d⟩,λp hp=> ?_⟩
  refine ae (h3 p hp) λv e r=> ?_
  refine⟨v,e,?_⟩
  rw [l.sEq,l.aq]
  exact Rp.mono (λa o n g=>⟨n,l.old a o n g⟩) r
theorem Inv.sI (i:Inv C s):∀t∈C.tabs,∃ps,C.h₀.TableAt t.1 t.2.1 ps:=λt ht=>let ⟨ps,_,y,_⟩:=i.tabs t ht;⟨ps,y⟩
mutual
noncomputable def res (f:Addr->Option PV):PV->PV
 | .tup xs=> .tup (dM f xs)
 | .lst xs=> .lst (dM f xs)
 | .au es=> .au (g9 f es)
 | .inst c es=> .inst c (g9 f es)
 | .raw (.ref a)=>(f a).getD (.raw (.ref a))
 |p=>p
noncomputable def dM (f:Addr->Option PV):List PV->List PV
 |[]=>[]
 |p::ps=>res f p::dM f ps
noncomputable def g9 (f:Addr->Option PV):List (Str×PV)->List (Str×PV)
 |[]=>[]
 |(x,p)::ps=>(x,res f p)::g9 f ps
end
theorem xW (f:Addr->Option PV) {xs}:res f (.lst xs)=(.lst (dM f xs)):=rfl
theorem jR (f:Addr->Option PV) {a}:res f (.raw (.ref a))=((f a).getD (.raw (.ref a))):=rfl
theorem k8 (f:Addr->Option PV):dM f []=([]):=rfl
theorem lg (f:Addr->Option PV) {p ps}:dM f (p::ps)=(res f p::dM f ps):=rfl
theorem tR (f:Addr->Option PV):g9 f []=([]):=rfl
theorem sE (f:Addr->Option PV) {x p ps}:g9 f ((x,p)::ps)=((x,res f p)::g9 f ps):=rfl
theorem mj (f:Addr->Option PV):∀l,dM f l=l.map (res f):=by
 intro q0
 induction q0 with
 |nil=>
  exact rfl
 |cons p ps ih=>
  simp only [k8,lg,ih];rfl
theorem wW (f:Addr->Option PV):∀l,g9 f l=l.map λy=>(y.1,res f y.2):=by
 intro q0
 induction q0 with
 |nil=>
  exact rfl
 |cons q1 ps ih=>
  obtain⟨x,p⟩:=q1
  simp only [tR,sE,ih];rfl
theorem Rp.BF {P:Addr->List DictEntry->List (Str×Value)->Prop}{N N':Addr->Prop}{h:Heap}{f:Addr->Option PV}(k:∀a,¬N a->¬N' a)(hf:∀a p,f a=some p->Rp P N' h (.ref a) p):
 (∀p v,Rp P N h v p->Rp P N' h v (res f p))/\(∀ps vs,aQ P N h vs ps->aQ P N' h vs (dM f ps))/\∀ps ds,bz P N h ds ps->bz P N' h ds (g9 f ps):=
 PV.ind (λ_ x=>x) (λ_ _ x=>x) (λ_ _ x=>x) (λ_ _ x=>x)
  (λ_ q _ x=>g8 x λa vs e n g r=>⟨a,vs,e,k a n,g,q _ r⟩)
  (λ_ q _ x=>gm x λa vs m e n g r=>⟨a,vs,m,e,k a n,g,q _ r⟩)
  (λ_ q _ x=>cz x λa x=>DY x λds m kvs e n g sd r=>⟨a,ds,m,kvs,e,k a n,g,sd,q _ r⟩)
  (λu v x=>by
   have e:v=u:=x
   subst e
   cases v with
   |ref a=>
    show Rp P N' h (.ref a) ((f a).getD (.raw (.ref a)))
    cases q:f a with
    |none=>exact rfl
    |some p=>exact hf a p q
   |_=>exact rfl) (λ_ _ x=>x.elim)
  (λ_ _ q _ x=>fC x λa d x=>DZ x λds m kvs e n n' g g' sd r=>⟨a,d,ds,m,kvs,e,k a n,k d n',g,g',sd,q _ r⟩)
  (λ_ x=>x) (λ_ _ q1 q2 _ x=>bp x λv r e x y=>⟨v,r,e,q1 _ x,q2 _ y⟩)
  (λ_ x=>x) (λ_ _ _ q1 q2 _ x=>bp x λv r e x y=>⟨v,r,e,q1 _ x,q2 _ y⟩)
theorem Rp.res {P:Addr->List DictEntry->List (Str×Value)->Prop}{N N':Addr->Prop}{h:Heap}{f:Addr->Option PV}(k:∀a,¬N a->¬N' a)(hf:∀a p,f a=some p->Rp P N' h (.ref a) p){p:PV}{v:Value}:Rp P N h v p->Rp P N' h v (Internal.res f p):=(Rp.BF k hf).1 p v
theorem aQ.res {P:Addr->List DictEntry->List (Str×Value)->Prop}{N N':Addr->Prop}{h:Heap}{f:Addr->Option PV}(k:∀a,¬N a->¬N' a)(hf:∀a p,f a=some p->Rp P N' h (.ref a) p){ps:List PV}{vs:List Value}:aQ P N h vs ps->aQ P N' h vs (dM f ps):=(Rp.BF k hf).2.1 ps vs
theorem bz.res {P:Addr->List DictEntry->List (Str×Value)->Prop}{N N':Addr->Prop}{h:Heap}{f:Addr->Option PV}(k:∀a,¬N a->¬N' a)(hf:∀a p,f a=some p->Rp P N' h (.ref a) p){ps:List (Str×PV)}{ds:List (Str×Value)}:bz P N h ds ps->bz P N' h ds (g9 f ps):=(Rp.BF k hf).2.2 ps ds
noncomputable def bH (own:Own):Nat->Addr->Option PV
 |0,_=>none
 |n+1,a=>match own.lookup a with
  |some (.lst xs)=>some (.lst (dM (bH own n) xs))
  |some (.au xs)=>some (.au (g9 (bH own n) xs))
  |_=>none
theorem zH (own:Own) {v1}:bH own 0 v1=(none):=rfl
theorem gq (own:Own) {n a}:bH own (n+1) a=(
 match own.lookup a with
 |some (.lst xs)=>some (.lst (dM (bH own n) xs))
 |some (.au xs)=>some (.au (g9 (bH own n) xs))
 |_=>none):=rfl
noncomputable def dP (W:List Addr) (own:Own):List Addr:=W.filter λa=>own.all λy=>y.1 !=a
theorem ee:∀a∈dP W own,a∈W:=λa h=>(HG.mp h).1
theorem mW {a:Addr}{p:PV}(h:(a,p)∈own):a∉dP W own:=λq=>by
 have:=(HG.mp q).2
 have:=Hw.mp this _ h
 simp at this
theorem lookup_mem {α:Type}:∀{l:List (Addr×α)}{a:Addr}{p:α},l.lookup a=some p->(a,p)∈l
 |(b,q)::r,a,p,h=>by
  simp only [Hl] at h
  cases hb:a==b with
  |true=>replace h:=hb▸h;cases h;rw [Ip.mp hb];exact G9
  |false=>replace h:=hb▸h;exact Ha _ (lookup_mem h)
theorem sW (ho:ez C W own s):∀(n:Nat)(a:Addr)(p:PV),bH own n a=some p->Rr C (dP W own) s.heap (.ref a) p:=by
 intro q0
 induction q0 with
 |zero=>
  intro a p h
  cases h
 |succ n ih=>
  intro a p h
  have kk:∀b,¬C.N W b->¬C.N (dP W own) b:=λb n q=>n (q.elim .inl λq=> .inr (ee b q))
  rw [gq] at h
  cases e:own.lookup a with
  |none=>replace h:=e▸h;cases h
  |some q=>
   replace h:=e▸h
   cases q with
   |lst xs=>
    cases h
    refine cZ (ho _ (lookup_mem e)) λh1 z3 h3=> ?_;refine aL z3 λvs m g r=> ?_
    exact⟨a,vs,m,rfl,(λq=>q.elim h3 (mW (lookup_mem e))),g,aQ.res kk (ih) r⟩
   |au xs=>
    cases h
    obtain⟨h1,⟨ds,m,kvs,g,sd,r⟩,h3⟩:=ho _ (lookup_mem e)
    exact⟨a,ds,m,kvs,rfl,(λq=>q.elim h3 (mW (lookup_mem e))),g,sd,bz.res kk (ih) r⟩
   |_=>cases h
theorem lO (ho:ez C W own s)(n:Nat){v:Value}{p:PV}(h:Rr C W s.heap v p):Rr C (dP W own) s.heap v (res (bH own n) p):=
 Rp.res (λb n q=>n (q.elim .inl λq=> .inr (ee b q))) (sW ho n) h
theorem Al (ho:ez C W own s)(n:Nat){v:List Value}{p:List PV}(h:fe C W s.heap v p):fe C (dP W own) s.heap v (dM (bH own n) p):=
 aQ.res (λb n q=>n (q.elim .inl λq=> .inr (ee b q))) (sW ho n) h
theorem wm (ho:ez C W own s)(n:Nat){b:List (Str×Value)}{q:List (Str×PV)}(h:dy C W s.heap b q):dy C (dP W own) s.heap b (g9 (bH own n) q):=by
 induction h with
 |nil=>exact .nil
 |cons h1 _ ih=>exact .cons (lO ho n h1) ih
noncomputable def Flat:PV->Prop
 | .none | .bool _ | .int _ | .str _=>True
 |_=>False
theorem Flat.rr {p:PV}(f:Flat p){h h':Heap}{v:Value}(r:Rr C W h v p):Rr C' W' h' v p:=by
 cases p <;> first |exact r |exact f.elim
theorem dy.of {h:Heap}{b:List (Str×Value)}{q:List (Str×PV)}(hS:∀v p,Rr C W h v p->Rr C' W' h v p)(r:dy C W h b q):dy C' W' h b q:=by
 induction r with
 |nil=>exact .nil
 |cons h1 _ ih=>exact .cons (hS _ _ h1) ih
theorem aN.frozen {f:Value}{ps:List PV}{LD:List (Str×PV)}{r:PV}(n:Nat)(fl:Flat r)(ok:C.Ok)
 (h:∀C',C.Le C'->aN C' k [] f (dM (bH own n) ps) (g9 (bH own n) LD) r):aN C k own f ps LD r:=λW A s vs kvs rm g ho r1 r2=>by
 have hN:∀a∈dP W own,C.h₀.get? a=none:=λa h=>g.new a (ee a h)
 refine Hb (h _ (wC g.inv ok hN) (dP W own) A s vs kvs rm (⟨g.inv.at ok hN,λa h=>g.low a (h.elim .inl λh=> .inr (ee a h)),λa ha=>hideAll_none _ ha⟩) ez.nil (Al ho n r1) (dy.of (C:=C) (C':=C.at (dP W own) s) (λv p x=>x) (wm ho n r2))) ?_ λ_ _ q=>q
 rintro v J ⟨e,r⟩
 exact⟨e.ql,fl.rr r⟩
set_option maxRecDepth 100000
variable {p:Program}{w:World}{n₀:Nat}{ann:Option Value}
def Go (p:Program)(w:World)(n₀:Nat)(ann:Option Value)(c:Nat)(s:Shared)(pos:Pos)(m:Sem α)(a:α)(J:Shared)(pos':Pos):Prop:=
 ∀(K:α->Sem Fin) (H:Value->Sem Fin) (gd:Bool->Bool) (lv:List Value->List Value) (code:Code) (F:Frame) (stk:List Frame) (N:Nat) (r:Shared),
  topRun treeTable p w n₀ ann N J ⟨K a,code,pos',F::stk⟩=some r->topRun treeTable p w n₀ ann (N+c) s ⟨m.wrap K H gd lv,code,pos,F::stk⟩=some r
theorem jI {N M:Nat}{s:Shared}{t:Thread}{r:Shared}(h:topRun treeTable p w n₀ ann N s t=some r)(le:N<=M):topRun treeTable p w n₀ ann M s t=some r:=by
 have:=topRun_mono (M - N) _ _ _ _ h
 rwa [show N+(M - N)=M by simp_all] at this
theorem Go.mono {c c':Nat}{s J:Shared}{pos pos':Pos}{m:Sem α}{a:α}(h:Go p w n₀ ann c s pos m a J pos')(le:c<=c'):Go p w n₀ ann c' s pos m a J pos':=
 λK H gd lv code F stk N r q=>jI (h K H gd lv code F stk N r q) (by simp_all)
theorem Go.pure' {s:Shared}{pos:Pos}{a:α}:Go p w n₀ ann 0 s pos (Pure.pure a:Sem α) a s pos:=λ_ _ _ _ _ _ _ _ _ q=>q
theorem Go.bind {c₁ c₂:Nat}{s f' y':Shared}{pos LM Mo:Pos}{m:Sem α}{f:α->Sem β}{a:α}{b:β}(h:Go p w n₀ ann c₁ s pos m a f' LM)(k:Go p w n₀ ann c₂ f' LM (f a) b y' Mo):
 Go p w n₀ ann (c₂+c₁) s pos (m >>=f) b y' Mo:=λK H gd lv code F stk N r q=>by
 have e:(m >>=f).wrap K H gd lv=m.wrap (λa=>(f a).wrap K H gd lv) H gd lv:=by
  rw [Sem.bind_eq_wrap',KO];rfl
 refine e▸?_
 have:=h (λa=>(f a).wrap K H gd lv) H gd lv code F stk (N+c₂) r (k K H gd lv code F stk N r q)
 rwa [Nat.add_assoc] at this
theorem Go.keep {c:Nat}{s J:Shared}{pos pos':Pos}{vs:List Value}{m:Sem α}{a:α}(h:Go p w n₀ ann c s pos m a J pos'):Go p w n₀ ann c s pos (m.keep vs) a J pos':=λK H gd lv code F stk N r q=>by
 rw [Sem.keep_eq_wrap,KO]
 exact h _ _ _ _ code F stk N r q
theorem Go.holding {c:Nat}{s J:Shared}{pos pos':Pos}{vs:List Value}{m:Sem α}{a:α}(h:Go p w n₀ ann c s pos m a J pos'):Go p w n₀ ann c s pos (holding vs m) a J pos':=by
 unfold PySem.holding
 split
 ·exact h
 ·exact h.keep
theorem Go.onRaise {c:Nat}{s J:Shared}{pos pos':Pos}{m:Sem α}{hr:Value->Sem Unit}{a:α}(h:Go p w n₀ ann c s pos m a J pos'):Go p w n₀ ann c s pos (m.onRaise hr) a J pos':=λK H gd lv code F stk N r q=>by
 rw [Sem.onRaise_eq_wrap,KO]
 exact h _ _ _ _ code F stk N r q
theorem eN {s J:Shared}{t t':Thread}{F:Frame}{stk:List Frame}(hs:t.stack=F::stk)(ok:stepOk n₀ ann t=true)(st:step (denote treeTable) p w s t= .go J t'){N:Nat}{r:Shared}
 (h:topRun treeTable p w n₀ ann N J t'=some r):topRun treeTable p w n₀ ann (N+1) s t=some r:=by
 simp only [topRun]
 have:through t=false:=by unfold through;rw [hs];rfl
 rw [this,ok,st]
 exact h
theorem Go.rule {s:Shared}{pos:Pos}{tag:String}:Go p w n₀ ann 1 s pos (PySem.rule tag) () s pos:=λK H gd lv code F stk N r q=>
 eN (F:=F) (stk:=stk) rfl rfl rfl q
theorem Go.standAt {s:Shared}{pos pos':Pos}:Go p w n₀ ann 1 s pos (PySem.standAt pos') () s pos':=λK H gd lv code F stk N r q=>
 eN (F:=F) (stk:=stk) rfl rfl rfl q
theorem Go.fresh {s:Shared}{pos:Pos}:Go p w n₀ ann 1 s pos PySem.fresh s.toks {s with toks:=s.toks+1} pos:=λK H gd lv code F stk N r q=>
 eN (F:=F) (stk:=stk) rfl rfl rfl q
theorem Go.alloc {s:Shared}{pos:Pos}{o:Obj}:Go p w n₀ ann 1 s pos (PySem.alloc o) s.heap.objs.size {s with heap:=s.heap.push o} pos:=λK H gd lv code F stk N r q=>
 eN (F:=F) (stk:=stk) rfl rfl rfl q
theorem Go.load {s:Shared}{pos:Pos}{a:Addr}{part:Option Value}{o:Obj}(ho:s.heap.get? a=some o):Go p w n₀ ann 1 s pos (PySem.loadPart a part) o s pos:=λK H gd lv code F stk N r q=>
 eN (F:=F) (stk:=stk) rfl rfl (by
  show step _ _ _ s ⟨.load a part (λx=>(Sem.pure x).wrap K H gd lv),code,pos,F::stk⟩=_
  simp only [step]
  refine ho▸?_
  rfl) q
theorem Go.update {s:Shared}{pos:Pos}{a:Addr}{part:Option Value}{f:Obj->Obj}{o:Obj}(ho:s.heap.get? a=some o)(ha:(Nat.ble n₀ a || a==mainNs)=true):
 Go p w n₀ ann 1 s pos (PySem.updatePart a part f) () {s with heap:=s.heap.update a f} pos:=λK H gd lv code F stk N r q=>
 eN (F:=F) (stk:=stk) rfl (by
  show (true && (Nat.ble n₀ a || a==mainNs || a==cStatics || ann==some (.ref a)))=true
  rw [ha];rfl) (by
  show step _ _ _ s ⟨.update a part f (λx=>(Sem.pure x).wrap K H gd lv),code,pos,F::stk⟩=_
  rw [step]
  simp only [ho,Option.isSome_some,Kw]
  rfl) q
theorem qH (b:Bool)(p:Program)(w:World)(n₀:Nat)(ann:Option Value)(hp:Heap)(gs:Array GenState)(d:Drawn)(tk:Nat)(os:OsState)(k:Int)(t:Tok)(K:Int->Sem PySem.Fin)(H:Value->Sem PySem.Fin)(gd:Bool->Bool)(lv:List Value->List Value)(code:Code)(pos:Pos)(F:Frame)(stk:List Frame)(N:Nat):
 topRun treeTable p (w.withFollow "special-get-raises" b) n₀ ann (N+5) ⟨hp,gs,d,tk,os⟩ ⟨(pyHash (.int k t)).wrap K H gd lv,code,pos,F::stk⟩=
 topRun treeTable p (w.withFollow "special-get-raises" b) n₀ ann N ⟨hp,gs,d,tk+1,os⟩ ⟨(pyHashByItsType.reduced (rawHash k)).wrap K H gd lv,code,pos,F::stk⟩:=by
 cases b <;> kernel_rfl!
theorem mN {k:Int}(h0:0<=k)(h1:k < 2 ^ 60):rawHash k=k:=by
 simp only [rawHash]
 have e2:((k.natAbs:Nat):Int) % ((2 ^ 61 - 1:Nat):Int)=k:=by
  lia
 rw [e2]
 refine(if_neg (by simp_all:¬k < 0))▸?_
 have:(k== -1)=false:=by simpa using (by exact HE (K6 h0):k≠ -1)
 refine this▸?_;rfl
theorem Go.pyHash {b:Bool}{s:Shared}{pos:Pos}{k:Int}{t:Tok}(h0:0<=k)(h1:k < 2 ^ 60):Go p (w.withFollow "special-get-raises" b) n₀ ann 5 s pos (pyHash (.int k t)) k {s with toks:=s.toks+1} pos:=λK H gd lv code F stk N r q=>by
 obtain⟨hp,gs,d,tk,os⟩:=s
 rw [qH,mN h0 h1]
 unfold pyHashByItsType.reduced
 rw [if_pos (by simp only [HO,H5];lia)]
 have:(k== -1)=false:=by simpa using (by lia:k≠ -1)
 rw [this]
 exact q
noncomputable def HL (H:Heap) (L:List Obj):Heap:=⟨H.objs ++ L.toArray,H.life⟩
theorem BE (H:Heap):HL H []=H:=by unfold HL;simp
theorem sP (H:Heap)(L:List Obj):(HL H L).objs.size=H.objs.size+L.length:=by simp [HL]
theorem jb {H:Heap}{L:List Obj}{i:Nat}{o:Obj}(h:L[i]? =some o)(hf:o.isFreed=false):(HL H L).get? (H.objs.size+i)=some o:=by
 have:(HL H L).objs[H.objs.size+i]? =some o:=by
  simp only [HL]
  rw [Array.getElem?_append_right (by simp)]
  simpa using h
 unfold Heap.get?
 rw [this]
 obtain⟨c,d,dt,sl⟩:=o
 cases dt <;> first |rfl |(exact absurd hf (by decide)) |cases hf
theorem oS (H:Heap)(L:List Obj)(o:Obj):(HL H L).push o=HL H (L ++ [o]):=by
 show Heap.mk _ _=Heap.mk _ _
 congr 1
 apply Array.ext'
 simp
theorem jW (H:Heap)(L:List Obj)(i:Nat)(f:Obj->Obj):(HL H L).update (H.objs.size+i) f=HL H (L.modify i f):=by
 show Heap.mk _ _=Heap.mk _ _
 congr 1
 apply Array.ext_getElem?
 intro j
 rw [Array.getElem?_modify]
 by_cases hj:j < H.objs.size
 ·rw [Array.getElem?_append_left hj,Array.getElem?_append_left hj,if_neg (by lia)]
 ·rw [Array.getElem?_append_right (by lia),Array.getElem?_append_right (by lia)]
  by_cases e:H.objs.size+i=j
  ·have q:i=j - H.objs.size:=by exact Nat.eq_sub_of_add_eq' e
   rw [if_pos e]
   cases L[j - H.objs.size]? <;> simp [q]
  ·have q:¬i=j - H.objs.size:=by lia
   rw [if_neg e]
   cases L[j - H.objs.size]? <;> simp [q]
noncomputable def ag (es:List DictEntry):Obj:=⟨.type "dict",none,.dict es.toArray es.length,#[]⟩
theorem dD (es:List DictEntry)(e:DictEntry):Obj.mapDictKeys (·.push e) (ag es)=ag (es ++ [e]):=by
 show Obj.mk _ _ (.dict (es.toArray.push e) (es.length+1)) _=Obj.mk _ _ (.dict (es ++ [e]).toArray (es ++ [e]).length) _
 rw [HF,List.push_toArray];rfl
theorem Go.dictEntries {s:Shared}{pos:Pos}{a:Addr}{part:Option Value}{es:List DictEntry}(ho:s.heap.get? a=some (ag es)):Go p w n₀ ann 1 s pos (dictEntries a part) es.toArray s pos:=
 (Go.bind (Go.load ho) (f:=λo=>match o.data with | .dict es _=>Pure.pure es |_=>unsupported "internal:not-a-dict") Go.pure')
theorem Go.dictEpoch {s:Shared}{pos:Pos}{a:Addr}{part:Option Value}{es:List DictEntry}(ho:s.heap.get? a=some (ag es)):Go p w n₀ ann 1 s pos (dictEpoch a part) es.length s pos:=
 (Go.bind (Go.load ho) (f:=λo=>match o.data with | .dict _ n=>Pure.pure n |_=>unsupported "internal:not-a-dict") Go.pure')
theorem Go.updateDictKeys {s:Shared}{pos:Pos}{a:Addr}{part:Option Value}{es:List DictEntry}{e:DictEntry}(ho:s.heap.get? a=some (ag es))(ha:(Nat.ble n₀ a || a==mainNs)=true)(hz:es.length < sizeLine):
 Go p w n₀ ann 3 s pos (updateDictKeys a (·.push e) part) () {s with heap:=s.heap.update a (Obj.mapDictKeys (·.push e))} pos:=by
 unfold PySem.updateDictKeys
 refine(Go.bind (c₂:=2) (Go.load ho) ?_)
 show Go p w n₀ ann 2 s pos (updatePart a part (Obj.mapDictKeys (·.push e)) >>=λ_=>PySem.lookBehind a part) _ _ _
 refine Go.bind (c₂:=1) (Go.update ho ha) ?_
 unfold PySem.lookBehind
 have hg:(s.heap.update a (Obj.mapDictKeys (·.push e))).get? a=some (ag (es ++ [e])):=by
  rw [<-dD]
  exact Heap.get?_update_self _ ho (by rw [dD];rfl)
 refine Go.bind (c₂:=0) (Go.load hg) ?_
 have:(ag (es ++ [e])).data.pastItsLine=none:=by
  unfold ag Data.pastItsLine
  simp only
  rw [if_neg (by simp;lia)]
 rw [this]
 exact Go.pure'
theorem qJ {es:List DictEntry}{h:Int}(hn:∀e∈es,e.hash≠h):placesWithHash es.toArray.size (λi=>es.toArray[i]?.map (·.hash)) h=[]:=by
 simp only [placesWithHash]
 rw [Jh]
 intro i hi
 rw [List.getElem?_toArray,Ip]
 cases q:es[i]? with
 |none=>simp
 |some e=>simpa using hn e (List.mem_of_getElem? q)
theorem Go.jy {s:Shared}{pos:Pos}{a:Addr}{es:List DictEntry}{k:Int}{t:Tok}(ho:s.heap.get? a=some (ag es))(hn:∀e∈es,e.hash≠k):
 Go p w n₀ ann 1 s pos (dictFind a (.int k t) k) none s pos:=by
 refine Go.holding (Go.bind (c₂:=0) (Go.dictEntries ho) ?_)
 refine(qJ hn)▸?_
 exact Go.pure'
theorem Go.jF {s:Shared}{pos:Pos}{a:Addr}{es:List DictEntry}{k:Int}{t:Tok}{v:Value}(ho:s.heap.get? a=some (ag es))(hn:∀e∈es,e.hash≠k)(ha:(Nat.ble n₀ a || a==mainNs)=true)(hz:es.length < sizeLine):
 Go p w n₀ ann 5 s pos (dictSetHashed a (.int k t) k v) () {s with heap:=s.heap.update a (Obj.mapDictKeys (·.push ⟨k,.int k t,v⟩))} pos:=by
 refine Go.holding (Go.bind (c₂:=4) (Go.jy ho hn) ?_)
 exact Go.bind (c₂:=3) Go.rule (Go.updateDictKeys ho ha hz)
theorem Go.pO {s:Shared}{pos:Pos}{a:Addr}{es:List DictEntry}{k:Int}{t:Tok}{v:Value}(ho:s.heap.get? a=some (ag es))(hn:∀e∈es,e.hash≠k)(ha:(Nat.ble n₀ a || a==mainNs)=true)(hz:es.length < sizeLine):
 Go p w n₀ ann 4 s pos (dictPut a k (.int k t) v) () {s with heap:=s.heap.update a (Obj.mapDictKeys (·.push ⟨k,.int k t,v⟩))} pos:=by
 exact Go.bind (c₂:=3) (Go.jy ho hn) (Go.updateDictKeys ho ha hz)
theorem Go.ki {b:Bool}{s:Shared}{pos:Pos}{a:Addr}{es:List DictEntry}{k:Int}{t:Tok}{v:Value}(ho:s.heap.get? a=some (ag es))(hn:∀e∈es,e.hash≠k)(ha:(Nat.ble n₀ a || a==mainNs)=true)(hz:es.length < sizeLine)(h0:0<=k)(h1:k < 2 ^ 60):
 Go p (w.withFollow "special-get-raises" b) n₀ ann 10 s pos (dictSet a (.int k t) v) () {s with heap:=s.heap.update a (Obj.mapDictKeys (·.push ⟨k,.int k t,v⟩)),toks:=s.toks+1} pos:=by
 exact Go.holding (Go.bind (c₂:=5) (Go.pyHash h0 h1) (Go.jF (s:={s with toks:=s.toks+1}) ho hn ha hz))
noncomputable abbrev KV:=Int×Str
noncomputable def ents (t st:Nat):List KV->List DictEntry
 |[]=>[]
 |(i,x)::r=>⟨i,.int i t,.str x (t+1)⟩::ents (t+st) st r
theorem eG (t st:Nat):ents t st []=([]):=rfl
theorem eH (t st:Nat) {i x r}:ents t st ((i,x)::r)=(⟨i,.int i t,.str x (t+1)⟩::ents (t+st) st r):=rfl
theorem fk (t st:Nat):∀l,(ents t st l).length=l.length
 |[]=>rfl
 |(_,_)::r=>by simp [eG,eH,fk (t+st) st r]
theorem ue {st:Nat}{e:DictEntry}(l:List KV):∀{t:Nat},e∈ents t st l->e.hash∈l.map (·.1):=by
 induction l with
 |nil=>intro t h;cases h
 |cons a r ih=>
  intro t h
  rcases Hf.mp h with rfl |h
  ·exact G9
  ·exact Ha _ (ih h)
noncomputable def uY (k:KV):Sem Value:=mkInt k.1
noncomputable def uR (pos:Pos) (k:KV):Sem Value:=do let x <-mkText k.2;standAt pos;pure x
theorem Go.uY {s:Shared}{pos:Pos}{k:KV}:Go p w n₀ ann 1 s pos (uY k) (.int k.1 s.toks) {s with toks:=s.toks+1} pos:=Go.bind (c₂:=0) Go.fresh Go.pure'
theorem Go.uR {s:Shared}{pos pos':Pos}{k:KV}:Go p w n₀ ann 2 s pos (uR pos' k) (.str k.2 s.toks) {s with toks:=s.toks+1} pos':=
 Go.bind (c₂:=1) (c₁:=1) (Go.bind (c₂:=0) Go.fresh Go.pure') (Go.bind (c₂:=0) Go.standAt Go.pure')
noncomputable abbrev gE (vp:KV->Pos) (k:KV):Sem Value×Sem Value:=(uY k,uR (vp k) k)
noncomputable abbrev SS (s:Shared) (L:List Obj) (t:Nat):Shared:={s with heap:=HL s.heap L,toks:=t}
theorem kh (L:List Obj)(o:Obj)(f:Obj->Obj):(L ++ [o]).modify L.length f=L ++ [f o]:=by
 induction L with
 |nil=>rfl
 |cons x L ih=>simpa using ih
theorem pB (L:List Obj)(o:Obj):(L ++ [o])[L.length]? =some o:=by simp
structure eA (n:Nat)(es:List DictEntry)(ps:List KV):Prop where
 apart:∀e∈es,∀k∈ps,e.hash≠k.1
 pw:(ps.map (·.1)).Pairwise (· < ·)
 lo:∀k∈ps,0<=k.1
 hi:∀k∈ps,k.1 < 2 ^ 60
 size:es.length+ps.length < n
theorem eA.tail {n:Nat}{es:List DictEntry}{k:KV}{ps:List KV}(h:eA n es (k::ps))(e:DictEntry)(he:e.hash=k.1):eA n (es ++ [e]) ps where
 apart e' Nf k' MV:=by
  rcases HA.mp Nf with q |q
  ·exact h.apart e' q k' (Ha _ MV)
  ·have:e'=e:=by simpa using q
   refine this▸?_
   have:=(HR.mp h.pw).1 k'.1 (Ks MV)
   lia
 pw:=(HR.mp h.pw).2
 lo k' MV:=h.lo k' (Ha _ MV)
 hi k' MV:=h.hi k' (Ha _ MV)
 size:=by have:=h.size;simp only [Hv,HF,H0] at this ⊢;lia
theorem eA.head {n:Nat}{es:List DictEntry}{k:KV}{ps:List KV}(h:eA n es (k::ps)):(∀e∈es,e.hash≠k.1)/\0<=k.1/\k.1 < 2 ^ 60/\es.length < n:=
 ⟨λe he=>h.apart e he k G9,h.lo k G9,h.hi k G9,by have:=h.size;exact J0 this⟩
theorem Go.xC {b:Bool}{vp:KV->Pos}{s₀:Shared}(hn:n₀<=s₀.heap.objs.size)(L:List Obj)(f:Sem Value×Sem Value->PUnit->Sem (ForInStep PUnit))
 (hf:∀k v u,f (k,v) u=(do let kv <-k;let vv <-PySem.holding [kv] v;PySem.holding [kv,vv] (dictSet (s₀.heap.objs.size+L.length) kv vv);Pure.pure (ForInStep.yield ⟨⟩))):
 ∀(ps:List KV) (es:List DictEntry) (t:Nat) (pos:Pos),eA sizeLine es ps->
  ∃pos',Go p (w.withFollow "special-get-raises" b) n₀ ann (13*ps.length) (SS s₀ (L ++ [ag es]) t) pos (forIn (ps.map (gE vp)) PUnit.unit f) PUnit.unit (SS s₀ (L ++ [ag (es ++ ents t 3 ps)]) (t+3*ps.length)) pos':=by
 intro q0
 induction q0 with
 |nil=>
  intro es t pos _
  exact⟨pos,by
   simp only [Ib,JR,H0,Nat.mul_zero,eG,eH,IA,Nat.add_zero]
   exact Go.pure'⟩
 |cons k ps ih=>
  intro es t pos h
  obtain⟨pos',ih⟩:=ih (es ++ [⟨k.1,.int k.1 t,.str k.2 (t+1)⟩]) (t+3) (vp k) (h.tail _ rfl)
  refine⟨pos',?_⟩
  rw [Hm,IM]
  rw [hf]
  have e1:es ++ ents t 3 (k::ps)=es ++ [⟨k.1,.int k.1 t,.str k.2 (t+1)⟩] ++ ents (t+3) 3 ps:=by
   obtain⟨i,x⟩:=k
   simp [eG,eH]
  simp only [e1,(by simp only [Hv,Nat.mul_add];lia:t+3*(k::ps).length=t+3+3*ps.length)]
  refine Go.mono (Go.bind (Go.bind (c₁:=1) (c₂:=12) Go.uY (Go.bind (c₁:=2) (c₂:=10) (Go.holding Go.uR) (Go.bind (a:=()) (c₁:=10) (c₂:=0) (Go.holding ?_) Go.pure'))) ih) (by simp_all;exact Hh _)
  have:=Go.ki (p:=p) (w:=w) (n₀:=n₀) (ann:=ann) (b:=b) (s:=SS s₀ (L ++ [ag es]) (t+2)) (pos:=vp k) (a:=s₀.heap.objs.size+L.length) (es:=es) (k:=k.1) (t:=t) (v:= .str k.2 (t+1))
   (jb (pB L _) rfl) h.head.1 (by simp [Hg hn (HN _ _)]) h.head.2.2.2 h.head.2.1 h.head.2.2.1
  simp only [show (SS s₀ (L ++ [ag es]) (t+2)).heap=HL s₀.heap (L ++ [ag es]) from rfl,jW,kh,dD] at this
  exact this
theorem Go.jB {b:Bool}{vp:KV->Pos}{s₀:Shared}(hn:n₀<=s₀.heap.objs.size)(L:List Obj){ps:List KV}{t:Nat}{pos:Pos}(hl:¬ps.length<=15)(h:eA sizeLine [] ps):
 ∃pos',Go p (w.withFollow "special-get-raises" b) n₀ ann (13*ps.length+2) (SS s₀ L t) pos (subDict (ps.map (gE vp))) (s₀.heap.objs.size+L.length) (SS s₀ (L ++ [ag (ents t 3 ps)]) (t+3*ps.length)) pos':=by
 obtain⟨pos',ih⟩:=Go.xC (p:=p) (w:=w) (n₀:=n₀) (ann:=ann) (b:=b) (vp:=vp) hn L (λx (_:PUnit)=>(do let kv <-x.1;let vv <-PySem.holding [kv] x.2;PySem.holding [kv,vv] (dictSet (s₀.heap.objs.size+L.length) kv vv);Pure.pure (ForInStep.yield ⟨⟩))) (λ_ _ _=>rfl) ps [] t pos h
 refine⟨pos',?_⟩
 have ha:=Go.alloc (p:=p) (w:=w.withFollow "special-get-raises" b) (n₀:=n₀) (ann:=ann) (s:=SS s₀ L t) (pos:=pos) (o:={cls:= .type "dict",data:= .dict #[]})
 simp only [show (SS s₀ L t).heap.objs.size=s₀.heap.objs.size+L.length from sP _ _,show (SS s₀ L t).heap=HL s₀.heap L from rfl,oS] at ha
 refine Go.mono (c:=0+(13*ps.length+1)+1) (Go.bind (c₂:=0+(13*ps.length+1)) (c₁:=1) ha (Go.bind (a:=()) (c₁:=13*ps.length+1) (c₂:=0) (Go.holding (c:=13*ps.length+1) ?_) Go.pure')) (by simp)
 rw [if_neg (by simpa using hl)]
 exact Go.bind (c₁:=1) (c₂:=0+13*ps.length) Go.rule (Go.bind (c₁:=13*ps.length) (c₂:=0) ih Go.pure') |>.mono (by simp)
noncomputable def gS:Nat->List KV->List (Value×Value)
 |_,[]=>[]
 |t,(i,x)::r=>(.int i t,.str x (t+1))::gS (t+2) r
theorem uF {v1}:gS v1 []=([]):=rfl
theorem vt {t i x r}:gS t ((i,x)::r)=((.int i t,.str x (t+1))::gS (t+2) r):=rfl
theorem Go.evalPairs {vp:KV->Pos}{s₀:Shared}(L:List Obj):∀(ps:List KV)(t:Nat)(pos:Pos),
 ∃pos',Go p w n₀ ann (3*ps.length) (SS s₀ L t) pos (evalPairs (ps.map (gE vp))) (gS t ps) (SS s₀ L (t+2*ps.length)) pos'
 |[],t,pos=>⟨pos,Go.pure'⟩
 |k::ps,t,pos=>by
  obtain⟨pos',ih⟩:=Go.evalPairs (vp:=vp) (s₀:=s₀) L ps (t+2) (vp k)
  refine⟨pos',?_⟩
  rw [show t+2*(k::ps).length=t+2+2*ps.length by rw [Hv];lia]
  rw [Hm]
  unfold PySem.evalPairs
  refine Go.mono (c:=0+3*ps.length+2+1) (Go.bind (c₁:=1) (c₂:=0+3*ps.length+2) Go.uY (Go.bind (c₁:=2) (c₂:=0+3*ps.length) (Go.holding Go.uR) (Go.bind (c₁:=3*ps.length) (c₂:=0) (Go.holding ih) Go.pure'))) (by rw [Hv];lia)
theorem Go.nk {b:Bool}{s₀:Shared}(hn:n₀<=s₀.heap.objs.size)(L:List Obj)(f:Value×Value->PUnit->Sem (ForInStep PUnit))
 (hf:∀x u,f x u=(dictSet (s₀.heap.objs.size+L.length) x.1 x.2 >>=λ_=>Pure.pure (ForInStep.yield ⟨⟩))):
 ∀(ps:List KV) (es:List DictEntry) (t t':Nat) (pos:Pos),eA sizeLine es ps->
  Go p (w.withFollow "special-get-raises" b) n₀ ann (10*ps.length) (SS s₀ (L ++ [ag es]) t') pos (forIn (gS t ps) PUnit.unit f) PUnit.unit (SS s₀ (L ++ [ag (es ++ ents t 2 ps)]) (t'+ps.length)) pos
 |[],es,t,t',pos,_=>by
  simp only [uF,vt,JR,H0,Nat.mul_zero,eG,eH,IA,Nat.add_zero]
  exact Go.pure'
 |k::ps,es,t,t',pos,h=>by
  obtain⟨i,x⟩:=k
  have ih:=Go.nk (b:=b) hn L f hf ps (es ++ [⟨i,.int i t,.str x (t+1)⟩]) (t+2) (t'+1) pos (h.tail _ rfl)
  simp only [show gS t ((i,x)::ps)=(.int i t,.str x (t+1))::gS (t+2) ps from rfl,IM,hf]
  rw [(by simp [eG,eH]:es ++ ents t 2 ((i,x)::ps)=es ++ [⟨i,.int i t,.str x (t+1)⟩] ++ ents (t+2) 2 ps),show t'+((i,x)::ps).length=t'+1+ps.length by simp_all;exact Eq.symm (Nat.succ_add_eq_add_succ t' ps.length)]
  have:=Go.ki (p:=p) (w:=w) (n₀:=n₀) (ann:=ann) (b:=b) (s:=SS s₀ (L ++ [ag es]) t') (pos:=pos) (a:=s₀.heap.objs.size+L.length) (es:=es) (k:=i) (t:=t) (v:= .str x (t+1))
   (jb (pB L _) rfl) h.head.1 (by simp [Hg hn (HN _ _)]) h.head.2.2.2 h.head.2.1 h.head.2.2.1
  simp only [show (SS s₀ (L ++ [ag es]) t').heap=HL s₀.heap (L ++ [ag es]) from rfl,jW,kh,dD] at this
  exact Go.mono (Go.bind (c₁:=0+10) (c₂:=10*ps.length) (Go.bind (a:=()) (c₁:=10) (c₂:=0) this Go.pure') ih) (by simp only [Hv];exact Hh _)
theorem Go.mM {b:Bool}{vp:KV->Pos}{s₀:Shared}(hn:n₀<=s₀.heap.objs.size)(L:List Obj){ps:List KV}{t:Nat}{pos:Pos}(hl:ps.length<=15)(h:eA sizeLine [] ps):
 ∃pos',Go p (w.withFollow "special-get-raises" b) n₀ ann (13*ps.length+2) (SS s₀ L t) pos (subDict (ps.map (gE vp))) (s₀.heap.objs.size+L.length) (SS s₀ (L ++ [ag (ents t 2 ps)]) (t+3*ps.length)) pos':=by
 refine cz (Go.evalPairs (p:=p) (w:=w.withFollow "special-get-raises" b) (n₀:=n₀) (ann:=ann) (vp:=vp) (s₀:=s₀) (L ++ [ag []]) ps t pos) λpos' ev=> ?_
 refine⟨pos',?_⟩
 have ha:=Go.alloc (p:=p) (w:=w.withFollow "special-get-raises" b) (n₀:=n₀) (ann:=ann) (s:=SS s₀ L t) (pos:=pos) (o:={cls:= .type "dict",data:= .dict #[]})
 simp only [show (SS s₀ L t).heap.objs.size=s₀.heap.objs.size+L.length from sP _ _,show (SS s₀ L t).heap=HL s₀.heap L from rfl,oS] at ha
 simp only [show t+3*ps.length=t+2*ps.length+ps.length by lia]
 refine Go.mono (c:=0+(0+10*ps.length+3*ps.length)+1) (Go.bind (c₂:=0+(0+10*ps.length+3*ps.length)) (c₁:=1) ha (Go.bind (a:=()) (c₁:=0+10*ps.length+3*ps.length) (c₂:=0) (Go.holding (c:=0+10*ps.length+3*ps.length) ?_) Go.pure')) (by lia)
 rw [if_pos (by simpa using hl)]
 exact Go.bind (c₁:=3*ps.length) (c₂:=0+10*ps.length) ev (Go.holding (Go.bind (c₁:=10*ps.length) (c₂:=0) (Go.nk (p:=p) (w:=w) (n₀:=n₀) (ann:=ann) (b:=b) hn L (λx (_:PUnit)=>(dictSet (s₀.heap.objs.size+L.length) x.1 x.2 >>=λ_=>Pure.pure (ForInStep.yield ⟨⟩))) (λ_ _=>rfl) ps [] t (t+2*ps.length) pos' h) Go.pure'))
theorem fz (x y:Obj)(Ls:List Obj):(x::(Ls ++ [y]))[Ls.length+1]? =some y:=by simp
theorem Go.uy {s₀:Shared}(hn:n₀<=s₀.heap.objs.size)(Ls:List Obj)(ss:List DictEntry)(f:Nat->PUnit->Sem (ForInStep PUnit))
 (hf:∀i u,f i u=(do
  let Mk <-PySem.dictEntries (s₀.heap.objs.size+(Ls.length+1))
  match Mk[i]? with
  |some e=>do
   PySem.holding [e.key,e.val] (dictPut (s₀.heap.objs.size+0) e.hash e.key e.val)
   let ep <-PySem.dictEpoch (s₀.heap.objs.size+(Ls.length+1))
   if(ep !=ss.length)=true then do
    unsupported "dict.changed-during-merge"
    Pure.pure (ForInStep.yield PUnit.unit)
   else Pure.pure (ForInStep.yield PUnit.unit)
  |_=>do
   unsupported "dict.changed-during-merge"
   Pure.pure (ForInStep.yield PUnit.unit))) (st:Nat):
 ∀(ps:List KV) (pre es:List DictEntry) (t t':Nat) (pos:Pos),ss=pre ++ ents t st ps->eA sizeLine es ps->
  Go p w n₀ ann (6*ps.length) (SS s₀ (ag es::(Ls ++ [ag ss])) t') pos (forIn (List.range' pre.length ps.length) PUnit.unit f) PUnit.unit (SS s₀ (ag (es ++ ents t st ps)::(Ls ++ [ag ss])) t') pos:=by
 intro q0
 induction q0 with
 |nil=>
  intro pre es t t' pos _ _
  simp only [H0,List.range'_zero,JR,Nat.mul_zero,eG,eH,IA]
  exact Go.pure'
 |cons k ps ih=>
  intro pre es t t' pos hs h
  obtain⟨i,x⟩:=k
  have ih:=ih (pre ++ [⟨i,.int i t,.str x (t+1)⟩]) (es ++ [⟨i,.int i t,.str x (t+1)⟩]) (t+st) t' pos (by simp only [hs,eG,eH];simp) (h.tail _ rfl)
  simp only [Hv,List.range'_succ,IM,hf]
  simp only [HF,List.length_singleton] at ih
  refine((by simp [eG,eH]:es ++ ents t st ((i,x)::ps)=es ++ [⟨i,.int i t,.str x (t+1)⟩] ++ ents (t+st) st ps))▸?_
  have put:=Go.pO (p:=p) (w:=w) (n₀:=n₀) (ann:=ann) (s:=SS s₀ (ag es::(Ls ++ [ag ss])) t') (pos:=pos) (a:=s₀.heap.objs.size+0) (es:=es) (k:=i) (t:=t) (v:= .str x (t+1))
   (jb rfl rfl) h.head.1 (by simp [hn]) h.head.2.2.2
  simp only [show (SS s₀ (ag es::(Ls ++ [ag ss])) t').heap=HL s₀.heap (ag es::(Ls ++ [ag ss])) from rfl,jW] at put
  rw [show (ag es::(Ls ++ [ag ss])).modify 0 (Obj.mapDictKeys (·.push ⟨i,.int i t,.str x (t+1)⟩))=ag (es ++ [⟨i,.int i t,.str x (t+1)⟩])::(Ls ++ [ag ss]) from by
   rw [<-dD];rfl] at put
  have one:Go p w n₀ ann 6 (SS s₀ (ag es::(Ls ++ [ag ss])) t') pos (do
   let Mk <-PySem.dictEntries (s₀.heap.objs.size+(Ls.length+1))
   match Mk[pre.length]? with
   |some e=>do
    PySem.holding [e.key,e.val] (dictPut (s₀.heap.objs.size+0) e.hash e.key e.val)
    let ep <-PySem.dictEpoch (s₀.heap.objs.size+(Ls.length+1))
    if(ep !=ss.length)=true then do
     unsupported "dict.changed-during-merge"
     Pure.pure (ForInStep.yield PUnit.unit)
    else Pure.pure (ForInStep.yield PUnit.unit)
   |_=>do
    unsupported "dict.changed-during-merge"
    Pure.pure (ForInStep.yield PUnit.unit)) (ForInStep.yield PUnit.unit) (SS s₀ (ag (es ++ [⟨i,.int i t,.str x (t+1)⟩])::(Ls ++ [ag ss])) t') pos:=by
   refine Go.bind (c₁:=1) (c₂:=0+1+4) (Go.dictEntries (jb (fz _ _ _) rfl)) ?_
   rw [(by simp only [hs,eG,eH];simp:ss.toArray[pre.length]? =some ⟨i,.int i t,.str x (t+1)⟩)]
   refine Go.bind (a:=()) (c₁:=4) (Go.holding put) (Go.bind (c₁:=1) (c₂:=0) (Go.dictEpoch (jb (fz _ _ _) rfl)) ?_)
   rw [if_neg (by simp)]
   exact Go.pure'
  exact Go.mono (Go.bind one ih) (by exact Hh _)
theorem Go.kQ {s:Shared}{pos:Pos}{a:Addr}{es:List DictEntry}(ho:s.heap.get? a=some (ag es)):Go p w n₀ ann 1 s pos (isInstance (.ref a) (.type "dict")) true s pos:=by
 refine Go.bind (c₁:=1) (c₂:=0) (a:= .type "dict") (Go.bind (c₁:=1) (c₂:=0) (Go.load ho) Go.pure') ?_
 refine isSubtype_dict_dict▸?_
 exact Go.pure'
theorem Go.ug {s:Shared}{pos:Pos}{a:Addr}{es:List DictEntry}(ho:s.heap.get? a=some (ag es)):Go p w n₀ ann 1 s pos (specialOf (.ref a) "__iter__") (some (.builtin "dict.__iter__")) s pos:=by
 refine Go.bind (c₁:=1) (c₂:=0) (a:= .type "dict") (Go.bind (c₁:=1) (c₂:=0) (Go.load ho) Go.pure') ?_
 refine PySem.F.slot_dict_iter.lookup▸?_
 exact Go.pure'
theorem Go.merge {s₀:Shared}(hn:n₀<=s₀.heap.objs.size)(Me:sysModules < s₀.heap.objs.size)(Ls:List Obj)(st:Nat){ps:List KV}{es:List DictEntry}{t t':Nat}{pos:Pos}(Lr:es≠[])(h:eA sizeLine es ps):
 Go p w n₀ ann (6*ps.length+5) (SS s₀ (ag es::(Ls ++ [ag (ents t st ps)])) t') pos (mergeMapping (s₀.heap.objs.size+0) (.ref (s₀.heap.objs.size+(Ls.length+1))) false) () (SS s₀ (ag (es ++ ents t st ps)::(Ls ++ [ag (ents t st ps)])) t') pos:=by
 have ge:(SS s₀ (ag es::(Ls ++ [ag (ents t st ps)])) t').heap.get? (s₀.heap.objs.size+(Ls.length+1))=some (ag (ents t st ps)):=jb (fz _ _ _) rfl
 have loop:=Go.uy (p:=p) (w:=w) (ann:=ann) (s₀:=s₀) hn Ls (ents t st ps) (λi (_:PUnit)=>(do
  let Mk <-PySem.dictEntries (s₀.heap.objs.size+(Ls.length+1))
  match Mk[i]? with
  |some e=>do
   PySem.holding [e.key,e.val] (dictPut (s₀.heap.objs.size+0) e.hash e.key e.val)
   let ep <-PySem.dictEpoch (s₀.heap.objs.size+(Ls.length+1))
   if(ep !=(ents t st ps).length)=true then do
    unsupported "dict.changed-during-merge"
    Pure.pure (ForInStep.yield PUnit.unit)
   else Pure.pure (ForInStep.yield PUnit.unit)
  |_=>do
   unsupported "dict.changed-during-merge"
   Pure.pure (ForInStep.yield PUnit.unit))) (λ_ _=>rfl) st ps [] es t t' pos rfl h
 refine Go.mono (c:=6*ps.length+1+1+1+1+1) (Go.bind (c₁:=1) (Go.kQ ge) ?_) (by exact Hh _)
 refine Go.bind (c₁:=1) (Go.ug ge) ?_
 refine Go.bind (c₁:=0) (a:=true) Go.pure' ?_
 dsimp only
 rw [if_neg (by intro q;lia)]
 refine Go.bind (c₁:=1) (Go.dictEntries (jb rfl rfl)) ?_
 rw [if_neg (by simpa using Lr)]
 refine Go.bind (c₁:=1) (Go.dictEntries ge) ?_
 refine Go.bind (c₁:=1) (Go.dictEpoch ge) ?_
 refine((by simp only [Ig,fk,List.range_eq_range']:List.range (ents t st ps).toArray.size=List.range' 0 ps.length))▸?_
 exact(Go.bind (f:=λ_=>(Pure.pure ():Sem Unit)) (c₂:=0) loop Go.pure').mono (by simp)
noncomputable abbrev b9 (vp:KV->Pos) (k:KV):Option (Sem Value)×Sem Value:=(some (uY k),uR (vp k) k)
noncomputable def gy (run:List (Sem Value×Sem Value)) (main:Option Addr):Sem (Option Addr):=
 if run.isEmpty=true then pure main
 else
  match main with
  |none=>do
   let d <-subDict run
   pure (some d)
  |some d=>do
   let sub <-holding [Value.ref d] (subDict run)
   (holding [Value.ref d,Value.ref sub] (mergeMapping d (Value.ref sub) false)).onRaise λx=>do
    let _ <-holding [Value.ref d,x] (runValue (Code.builtin "proto.let_go" {}))
    pure ()
   pure (some d)
noncomputable def ew:List (List KV)->List DictEntry->List Obj->Nat->List DictEntry×List Obj×Nat
 |[],es,Ls,t=>(es,Ls,t)
 |g::gs,es,Ls,t=>ew gs (es ++ ents t 3 g) (Ls ++ [ag (ents t 3 g)]) (t+3*g.length)
theorem k0 {es Ls t}:ew [] es Ls t=((es,Ls,t)):=rfl
theorem kU {g gs es Ls t}:ew (g::gs) es Ls t=(ew gs (es ++ ents t 3 g) (Ls ++ [ag (ents t 3 g)]) (t+3*g.length)):=rfl
theorem Go.rW {b:Bool}{vp:KV->Pos}{s₀:Shared}(hn:n₀<=s₀.heap.objs.size)(Me:sysModules < s₀.heap.objs.size)(Ls:List Obj){ps:List KV}{es:List DictEntry}{t:Nat}{pos:Pos}(hl:¬ps.length<=15)(Lr:es≠[])(h:eA sizeLine es ps):
 ∃pos',Go p (w.withFollow "special-get-raises" b) n₀ ann (19*ps.length+7) (SS s₀ (ag es::Ls) t) pos (gy (ps.map (gE vp)) (some (s₀.heap.objs.size+0))) (some (s₀.heap.objs.size+0))
  (SS s₀ (ag (es ++ ents t 3 ps)::(Ls ++ [ag (ents t 3 ps)])) (t+3*ps.length)) pos':=by
 obtain⟨pos',sub⟩:=Go.jB (p:=p) (w:=w) (ann:=ann) (b:=b) (vp:=vp) hn (ag es::Ls) (t:=t) (pos:=pos) hl (⟨λ_ q=>(nomatch q),h.pw,h.lo,h.hi,by have:=h.size;simp only [H0];lia⟩)
 refine⟨pos',?_⟩
 unfold gy
 rw [if_neg (by cases ps with |nil=>simp at hl |cons=>simp)]
 refine Go.mono (c:=0+(6*ps.length+5)+(13*ps.length+2)) (Go.bind (Go.holding sub) ?_) (by lia)
 exact Go.bind (a:=()) (Go.onRaise (Go.holding (Go.merge (p:=p) (w:=w.withFollow "special-get-raises" b) (ann:=ann) (pos:=pos') hn Me Ls 3 (t:=t) (t':=t+3*ps.length) Lr h))) Go.pure'
theorem Go.qy {b:Bool}{vp:KV->Pos}{s₀:Shared}(hn:n₀<=s₀.heap.objs.size)(Me:sysModules < s₀.heap.objs.size)(Ls:List Obj){ps:List KV}{es:List DictEntry}{t:Nat}{pos:Pos}(hl:ps.length<=15)(hp:ps≠[])(Lr:es≠[])(h:eA sizeLine es ps):
 ∃pos',Go p (w.withFollow "special-get-raises" b) n₀ ann (19*ps.length+7) (SS s₀ (ag es::Ls) t) pos (gy (ps.map (gE vp)) (some (s₀.heap.objs.size+0))) (some (s₀.heap.objs.size+0))
  (SS s₀ (ag (es ++ ents t 2 ps)::(Ls ++ [ag (ents t 2 ps)])) (t+3*ps.length)) pos':=by
 obtain⟨pos',sub⟩:=Go.mM (p:=p) (w:=w) (ann:=ann) (b:=b) (vp:=vp) hn (ag es::Ls) (t:=t) (pos:=pos) hl (⟨λ_ q=>(nomatch q),h.pw,h.lo,h.hi,by have:=h.size;simp only [H0];lia⟩)
 refine⟨pos',?_⟩
 unfold gy
 rw [if_neg (by cases ps with |nil=>exact absurd rfl hp |cons=>simp)]
 refine Go.mono (c:=0+(6*ps.length+5)+(13*ps.length+2)) (Go.bind (Go.holding sub) ?_) (by lia)
 exact Go.bind (a:=()) (Go.onRaise (Go.holding (Go.merge (p:=p) (w:=w.withFollow "special-get-raises" b) (ann:=ann) (pos:=pos') hn Me Ls 2 (t:=t) (t':=t+3*ps.length) Lr h))) Go.pure'
noncomputable abbrev MR:=Option Addr×List (Sem Value×Sem Value)
structure Body (f:Option (Sem Value)×Sem Value->MR->Sem (ForInStep MR)):Prop where
 eq:∀k v main run,f (some k,v) (main,run)=(if((run ++ [(k,v)]).length==17)=true then(do let main <-gy (run ++ [(k,v)]) main;pure (ForInStep.yield (main,[]))) else pure (ForInStep.yield (main,run ++ [(k,v)])))
theorem sA {f:Option (Sem Value)×Sem Value->MR->Sem (ForInStep MR)}(B:Body f)(vp:KV->Pos)(main:Option Addr):∀(g:List KV)(run:List (Sem Value×Sem Value))(rest:List (Option (Sem Value)×Sem Value)),run.length+g.length < 17->
 forIn (g.map (b9 vp) ++ rest) (main,run) f=forIn rest (main,run ++ g.map (gE vp)) f:=by
 intro q0
 induction q0 with
 |nil=>
  intro run rest _
  simp
 |cons k g ih=>
  intro run rest h
  rw [Hm,List.cons_append,IM,B.eq,if_neg (by simp only [HF,Hv,H0,Ip] at h ⊢;lia)]
  show (forIn (g.map (b9 vp) ++ rest) (main,run ++ [gE vp k]) f)=_
  rw [(ih (run ++ [gE vp k]) rest (by simp only [HF,Hv,H0] at h ⊢;lia))]
  simp
theorem ny {f:Option (Sem Value)×Sem Value->MR->Sem (ForInStep MR)}(B:Body f)(vp:KV->Pos)(main:Option Addr){g:List KV}(hg:g.length=17)(rest:List (Option (Sem Value)×Sem Value)):
 forIn (g.map (b9 vp) ++ rest) (main,[]) f=(gy (g.map (gE vp)) main >>=λm=>forIn rest (m,[]) f):=by
 obtain⟨init,k,rfl⟩:∃init k,g=init ++ [k]:=by
  refine⟨g.dropLast,g.getLast (by intro e;rw [e] at hg;simp at hg),(List.dropLast_concat_getLast _).symm⟩
 have hi:init.length=16:=by simp at hg;lia
 rw [Hr,Iq,sA B vp main init [] _ (by rw [hi];decide)]
 rw [List.nil_append,Hm,Ib,List.singleton_append,IM,B.eq,if_pos (by simp [hi])]
 rw [Kj]
 simp only [Hr,Hm,Ib]
 rfl
structure BJ (gs:List (List KV))(last:List KV)(es:List DictEntry):Prop where
 len:∀g∈gs,g.length=17
 O4:eA sizeLine es (gs.flatten ++ last)
theorem eA.left {n:Nat}{es:List DictEntry}{a b:List KV}(h:eA n es (a ++ b)):eA n es a where
 apart e he k hk:=h.apart e he k (HI _ hk)
 pw:=by have:=h.pw;rw [Hr] at this;exact(Iv.mp this).1
 lo k hk:=h.lo k (HI _ hk)
 hi k hk:=h.hi k (HI _ hk)
 size:=by have:=h.size;rw [HF] at this;lia
theorem eA.right {n:Nat}{es:List DictEntry}{a b:List KV}(h:eA n es (a ++ b))(t st:Nat):eA n (es ++ ents t st a) b where
 apart e he k hk:=by
  rcases HA.mp he with q |q
  ·exact h.apart e q k (HT _ hk)
  ·have h1:=ue _ q
   have:=h.pw
   rw [Hr] at this
   have:=(Iv.mp this).2.2 _ h1 _ (Ks hk)
   exact K6 this
 pw:=by have:=h.pw;rw [Hr] at this;exact(Iv.mp this).2.1
 lo k hk:=h.lo k (HT _ hk)
 hi k hk:=h.hi k (HT _ hk)
 size:=by have:=h.size;rw [HF] at this ⊢;rw [fk];lia
theorem Go.groups {b:Bool}{vp:KV->Pos}{s₀:Shared}(hn:n₀<=s₀.heap.objs.size)(Me:sysModules < s₀.heap.objs.size){f:Option (Sem Value)×Sem Value->MR->Sem (ForInStep MR)}(B:Body f)(last:List KV)(hl:last.length < 17):
 ∀(gs:List (List KV)) (es:List DictEntry) (Ls:List Obj) (t:Nat) (pos:Pos),es≠[]->BJ gs last es->
  ∃pos',Go p (w.withFollow "special-get-raises" b) n₀ ann (330*gs.length) (SS s₀ (ag es::Ls) t) pos (forIn (gs.flatten.map (b9 vp) ++ last.map (b9 vp)) (some (s₀.heap.objs.size+0),[]) f) (some (s₀.heap.objs.size+0),last.map (gE vp))
   (SS s₀ (ag (ew gs es Ls t).1::(ew gs es Ls t).2.1) (ew gs es Ls t).2.2) pos':=by
 intro q0
 induction q0 with
 |nil=>
  intro es Ls t pos Lr h
  exact⟨pos,by
   have:=sA B vp (some (s₀.heap.objs.size+0)) last [] [] (by simpa using hl)
   simp only [IA,List.nil_append] at this
   simp only [List.flatten_nil,Ib,List.nil_append]
   simp only [this,JR]
   exact Go.pure'⟩
 |cons g gs ih=>
  intro es Ls t pos Lr h
  have hg:=h.len g G9
  have hf:=h.O4
  simp only [Jl,Iq] at hf
  obtain⟨LM,fl⟩:=Go.rW (p:=p) (w:=w) (ann:=ann) (b:=b) (vp:=vp) hn Me Ls (t:=t) (pos:=pos) (by simp_all:¬g.length<=15) Lr hf.left
  obtain⟨pos',ih⟩:=ih (es ++ ents t 3 g) (Ls ++ [ag (ents t 3 g)]) (t+3*g.length) LM (by intro e;exact Lr (List.append_eq_nil_iff.mp e).1)
   ⟨λg' Rq=>h.len g' (Ha _ Rq),hf.right t 3⟩
  refine⟨pos',?_⟩
  simp only [Jl,Hr,Iq,ny B vp _ hg]
  exact Go.mono (Go.bind fl ih) (by simp_all;exact Hh _)
theorem rX:∃F,Body F/\∀items,dictDisplay items=(forIn items ((none,[]):MR) F >>=λs=>gy s.2 s.1 >>=λr=>match r with |some d=>pure (Value.ref d) |none=>newDict):=by
 refine⟨?F,?B,?e⟩
 case e=>
  intro items
  exact rfl
 case B=>exact⟨λ_ _ _ _=>rfl⟩
theorem Go.display {b:Bool}{vp:KV->Pos}{s₀:Shared}(hn:n₀<=s₀.heap.objs.size)(Me:sysModules < s₀.heap.objs.size)(g:List KV)(gs:List (List KV))(last:List KV)(hg:g.length=17)(Qy:∀x∈gs,x.length=17)(hl:last.length<=15)(U5:last≠[])(h:eA sizeLine [] (g ++ (gs.flatten ++ last)))(t:Nat)(pos:Pos):
 ∃pos',Go p (w.withFollow "special-get-raises" b) n₀ ann (330*gs.length+700) (SS s₀ [] t) pos (dictDisplay ((g ++ (gs.flatten ++ last)).map (b9 vp))) (.ref s₀.heap.objs.size)
  (SS s₀ (ag ((ew gs (ents t 3 g) [] (t+51)).1 ++ ents (ew gs (ents t 3 g) [] (t+51)).2.2 2 last)::((ew gs (ents t 3 g) [] (t+51)).2.1 ++ [ag (ents (ew gs (ents t 3 g) [] (t+51)).2.2 2 last)]))
   ((ew gs (ents t 3 g) [] (t+51)).2.2+3*last.length)) pos':=by
 refine ae rX λF B e=> ?_
 rw [e,Hr,ny B vp none hg]
 have hr:=h.right t 3
 have Lr:ents t 3 g≠[]:=by intro q;have:=fk t 3 g;rw [q,hg] at this;simp at this
 obtain⟨LM,sub⟩:=Go.jB (p:=p) (w:=w) (ann:=ann) (b:=b) (vp:=vp) hn [] (t:=t) (pos:=pos) (by simp_all:¬g.length<=15) h.left
 obtain⟨Mo,gr⟩:=Go.groups (p:=p) (w:=w) (ann:=ann) (b:=b) (vp:=vp) hn Me B last (by lia) gs (ents t 3 g) [] (t+3*g.length) LM Lr ⟨Qy,hr⟩
 have hz:∀(gs:List (List KV)) es Ls t,(ew gs es Ls t).1=es ++ (ew gs [] Ls t).1:=by
  intro gs
  induction gs with
  |nil=>intro es Ls t;simp [k0,kU]
  |cons x xs ih=>intro es Ls t;simp only [k0,kU];rw [ih,ih ([] ++ _)];simp
 have Og:eA sizeLine (ew gs (ents t 3 g) [] (t+51)).1 last:=by
  have key:∀(gs:List (List KV)) (es:List DictEntry) (Ls:List Obj) (t:Nat),eA sizeLine es (gs.flatten ++ last)->eA sizeLine (ew gs es Ls t).1 last:=by
   intro gs
   induction gs with
   |nil=>intro es Ls t q;exact q
   |cons x xs ih=>intro es Ls t q;simp only [Jl,Iq] at q;exact ih _ _ _ (q.right t 3)
  exact key gs _ [] _ hr
 rw [(by rw [hg]:t+3*g.length=t+51)] at gr sub
 obtain⟨OX,fl⟩:=Go.qy (p:=p) (w:=w) (ann:=ann) (b:=b) (vp:=vp) (s₀:=s₀) hn Me (ew gs (ents t 3 g) [] (t+51)).2.1 (t:=(ew gs (ents t 3 g) [] (t+51)).2.2) (pos:=Mo) hl U5 (by rw [hz];intro q;exact Lr (List.append_eq_nil_iff.mp q).1) Og
 refine⟨OX,?_⟩
 rw [Kj]
 have first:Go p (w.withFollow "special-get-raises" b) n₀ ann (13*g.length+2) (SS s₀ [] t) pos (gy (g.map (gE vp)) none) (some (s₀.heap.objs.size+0)) (SS s₀ [ag (ents t 3 g)] (t+51)) LM:=by
  rw [gy]
  rw [if_neg (by cases g with |nil=>simp at hg |cons=>simp)]
  exact Go.mono (Go.bind (c₂:=0) sub Go.pure') (by simp)
 refine Hr▸?_
 refine Go.mono (c:=0+(19*last.length+7)+330*gs.length+(13*g.length+2)) (Go.bind first (Go.bind gr (Go.bind fl ?_))) (by lia)
 exact Go.pure'
noncomputable def bw (l:List Stmt) (i:Nat):Stmt:=l.getD i (.Pass default)
noncomputable def cI (l:List Stmt) (i:Nat):List Stmt:=(Ca (bw l i)).2.2.1
noncomputable def bP (l:List Stmt) (i:Nat):Arguments:=(Ca (bw l i)).1
noncomputable def ay (l:List Stmt) (i:Nat):List Stmt:=(Ca (bw l i)).2.2.1
noncomputable def ai (l:List Stmt) (i:Nat):Scope:=(Ca (bw l i)).2.1
noncomputable def o7 (s:Stmt):List KV:=((DV (Ca s).2.2.2).2.2.2.1.zip (DV (Ca s).2.2.2).2.2.2.2).map λx=>((DV (x.1.getD x.2)).2.1,(DV x.2).2.2.1)
noncomputable def CE:List Int->Bool
 |a::b::r=>decide (a < b) && CE (b::r)
 |_=>true
theorem so:∀{l:List Int},CE l=true->l.Pairwise (· < ·)
 |[],_=> .nil
 |[a],_=>Je ..
 |a::b::r,h=>by
  obtain⟨h1,h2⟩:=I6.mp h
  have ih:=so h2
  refine HR.mpr ⟨λx hx=> ?_,ih⟩
  have h1:=H9 h1
  rcases Hf.mp hx with rfl |hx
  ·exact h1
  ·exact Int.lt_trans h1 ((HR.mp ih).1 x hx)
noncomputable def sZ (l:List KV):Bool:=CE (l.map (·.1)) && l.all (λk=>decide (0<=k.1) && decide (k.1 < 1152921504606846976)) && decide (l.length < 1000000)
theorem yE {l:List KV}(h:sZ l=true):eA sizeLine [] l:=by
 simp only [sZ,HO,Hw,H5] at h
 obtain⟨⟨h1,h2⟩,h3⟩:=h
 refine⟨λ_ q=>(nomatch q),so h1,λk hk=>(h2 k hk).1,λk hk=> ?_,?_⟩
 ·have:=(h2 k hk).2;simp_all
 ·have:(1000000:Nat)<=sizeLine:=by decide
  simp_all;lia
noncomputable def lD (T:BT):Nat->List Obj->BT
 |_,[]=>T
 |n,o::L=>lD (T.ins n o) (n+1) L
noncomputable def th (T:BT):Nat->List Obj->Bool
 |_,[]=>true
 |n,o::L=>((T.ins n o).get n).isSome && th (T.ins n o) (n+1) L
theorem BD:∀(L:List Obj)(T:BT)(n:Nat)(life:Life),th T n L=true->HL (absHeap T n life) L=absHeap (lD T n L) (n+L.length) life:=by
 intro q0
 induction q0 with
 |nil=>
  intro T n life _
  rfl
 |cons o L ih=>
  intro T n life h
  have ih:=ih (T.ins n o) (n+1) life (I6.mp h).2
  rw [absHeap_ins (I6.mp h).1] at ih
  simp only [Hv,show n+(L.length+1)=n+1+L.length by exact Eq.symm (Nat.succ_add_eq_add_succ n L.length)]
  refine ih▸?_
  have e:=oS (absHeap T n life) [] o
  rw [BE] at e
  rw [e]
  unfold HL
  simp
noncomputable def ic (p:Program) (w:World) (n₀:Nat) (ann:Option Value):Nat->SharedT->Thread->Option (SharedT×Thread)
 |0,s,t=>some (s,t)
 |n+1,s,t=>match through t with
  |true=>none
  |false=>match stepOk n₀ ann t with
   |false=>none
   |true=>match stepT (denote treeTable) p w s t with
    |some (J,t')=>ic p w n₀ ann n J t'
    |none=>none
theorem uT (p:Program)(w:World)(n₀:Nat)(ann:Option Value) {s t}:ic p w n₀ ann 0 s t=(some (s,t)):=rfl
theorem nV (p:Program)(w:World)(n₀:Nat)(ann:Option Value) {n s t}:ic p w n₀ ann (n+1) s t=(
 match through t with
 |true=>none
 |false=>match stepOk n₀ ann t with
  |false=>none
  |true=>match stepT (denote treeTable) p w s t with
   |some (J,t')=>ic p w n₀ ann n J t'
   |none=>none):=rfl
theorem ja {p:Program}{w:World}{n₀:Nat}{ann:Option Value}:∀{n N:Nat}{s J:SharedT}{t t':Thread}{r:Shared},ic p w n₀ ann n s t=some (J,t')->topRun treeTable p w n₀ ann N J.abs t'=some r->topRun treeTable p w n₀ ann (n+N) s.abs t=some r
 |0,N,s,J,t,t',r,h,k=>by
  obtain⟨rfl,rfl⟩:s=J/\t=t':=by simpa [uT,nV] using h
  rw [Kn];exact k
 |n+1,N,s,J,t,t',r,h,k=>by
  rw [show n+1+N=n+N+1 by exact Nat.add_right_comm n 1 N]
  simp only [nV] at h
  simp only [topRun]
  cases ht:through t with
  |true=>replace h:=ht▸h;cases h
  |false=>
   replace h:=ht▸h
   cases hk:stepOk n₀ ann t with
   |false=>replace h:=hk▸h;cases h
   |true=>
    replace h:=hk▸h
    cases hs:stepT (denote treeTable) p w s t with
    |none=>replace h:=hs▸h;cases h
    |some q=>obtain⟨y',Um⟩:=q;simp only [hs] at h;simp only [stepT_spec hs];exact ja h k
noncomputable abbrev pw:=PySem.Challenge.pw_xh0048_02
noncomputable def av:List Stmt:=pw.main.body
noncomputable def b3:List KV:=o7 (bw av 13)
noncomputable def ie:List KV:=b3.take 17
noncomputable def gn:List (List KV):=(List.range 37).map λi=>(b3.drop (17*(i+1))).take 17
noncomputable def iT:List KV:=b3.drop 646
noncomputable def pq:List DictEntry×List Obj×Nat:=ew gn (ents 394 3 ie) [] (394+51)
noncomputable def ey:List DictEntry:=pq.1 ++ ents pq.2.2 2 iT
noncomputable def jT:List Obj:=pq.2.1 ++ [ag (ents pq.2.2 2 iT)]
noncomputable def de (p:Params) (x:Str) (t:Nat) (v:Value):DictEntry:=⟨PyData.keyHash p x,.str x t,v⟩
noncomputable def fo (c:Value) (n q:Str) (l:List Stmt) (i:Nat) (g:Addr) (df kd md cd:Value):Obj:=⟨c,none,.func {name:=n,qualname:=q,params:=bP l i,body:= .stmts (ay l i),scope:=ai l i,globals:=g,closure:=[],defaults:=df,kwdefaults:=kd,doc:= .none,pyModule:=md,annotations:=none,code:=cd,closureTuple:= .none,builtins:=0},#[]⟩
noncomputable def ff (c:Value) (a:Array Value):Obj:=⟨c,none,.fields a,#[]⟩
noncomputable def fs (c:Value) (a:Array Value):Obj:=⟨c,none,.seq a 0,#[]⟩
noncomputable def t0:Obj:=fs (.type "tuple") #[]
noncomputable def f0:Obj:=ff .none #[]
noncomputable def tr (l:List Obj):Nat->Nat->Nat->BT
 |0,_,_=> .nil
 |f+1,a,b=>match l[b]? with
  |some o=> .node o (tr l f (2*a) (a+b)) (tr l f (2*a) (2*a+b))
  |none=> .nil
noncomputable def Bw (p:Params):Obj:=boot_o_0 p
noncomputable def Di (p:Params):Obj:=⟨.none,none,.dict #[] 0,#[]⟩
noncomputable def Ee (p:Params):Obj:=⟨(.type "module"),(some 0),.plain,#[]⟩
noncomputable def L4 (p:Params):List Obj:=[boot_o_0 p,⟨(.type "dict"),none,.dict #[de p "builtins" 162 (.ref 4),de p "__main__" 163 (.ref 5)] 2,#[]⟩,Di p,⟨(.type "dict"),none,.dict #[de p "__name__" 165 (.str "__main__" 164),de p "__doc__" 166 .none,de p "__package__" 167 .none,de p "__loader__" 168 (.builtin "__main__.__loader__#opaque"),de p "__spec__" 169 .none,de p "__annotations__" 170 (.ref 6),de p "__builtins__" 171 (.ref 4),de p "__file__" 173 (.str "/claim/cut.py" 172),de p "__cached__" 174 .none] 9,#[]⟩,Ee p,⟨(.type "module"),(some 3),.plain,#[]⟩,⟨(.type "dict"),none,.dict #[] 0,#[]⟩,t0,f0,ff (.type "code") #[(.str "<module>" 176),(.str "<module>" 177),(.str "/claim/cut.py" 178),(.int 1 0),(.int 0 0),(.int 0 0),(.int 0 0),(.int 0 0),(.ref 7),(.bool false),(.int 175 0),(.ref 8),.none,.none,.none,.none,(.int 179 0),(.int 1 0),(.str "/claim/cut.py" 180)],⟨(.type "frame"),none,.plain,#[(some (.ref 9)),(some (.ref 3)),(some (.ref 3)),none,(some (.str "__main__" 164)),none,(some (.ref 0))]⟩,t0,f0,ff (.type "code") #[(.str "<module>" 182),(.str "<module>" 183),(.str "/claim/cut.py" 184),(.int 1 0),(.int 0 0),(.int 0 0),(.int 0 0),(.int 0 0),(.ref 11),(.bool false),(.int 181 0),(.ref 12),.none,.none,.none,.none,(.int 185 0),(.int 1 0),(.str "/claim/cut.py" 186)],⟨(.type "frame"),none,.plain,#[(some (.ref 13)),(some (.ref 3)),(some (.ref 3)),none,(some (.str "__main__" 164)),none,(some (.ref 0))]⟩]
noncomputable def T4 (p:Params):BT:=tr (L4 p) 9 1 0
noncomputable def Cd (p:Params):Obj:=t0
noncomputable def CB (p:Params):Obj:=ff (.type "builtin_function_or_method") #[(.builtin "type.__prepare__"),(.type "type")]
noncomputable def Cp (p:Params):Obj:=t0
noncomputable def Bz (p:Params):Obj:=f0
noncomputable def Dw (p:Params):Obj:=fs (.type "tuple") #[(.str "self" 204),(.str "comp_select_list" 205)]
noncomputable def CN (p:Params):Obj:=t0
noncomputable def vT (p:Params):Obj:=ff (.type "code") #[(.str "__init__" 201),(.str "TupleComp.__init__" 202),(.str "/claim/cut.py" 203),(.int 4 0),(.int 2 0),(.int 0 0),(.int 0 0),(.int 3 0),(.ref 22),(.bool true),(.int 181 0),(.ref 23),.none,(.ref 24),(.ref 25),(.ref 26),(.int 206 0),(.int 4 0),(.str "/claim/cut.py" 207)]
noncomputable def oj (p:Params):Obj:=fo (.type "function") "__init__" "TupleComp.__init__" ((cI av 1)) 0 3 .none .none (.str "cpy313.pstats" 187) (.ref 27)
noncomputable def Cn (p:Params):Obj:=fs (.type "tuple") #[(.str "self" 212),(.str "left" 213),(.str "right" 214),(.str "index" 215),(.str "direction" 216),(.str "l" 217),(.str "r" 218)]
noncomputable def BM (p:Params):Obj:=t0
noncomputable def Du (p:Params):Obj:=fo .none "compare" "TupleComp.compare" ((cI av 1)) 1 0 .none .none .none .none
noncomputable def yu (p:Params):Obj:=ff (.type "code") #[(.str "compare" 209),(.str "TupleComp.compare" 210),(.str "/claim/cut.py" 211),(.int 7 0),(.int 3 0),(.int 0 0),(.int 0 0),(.int 3 0),(.ref 29),(.bool true),(.int 181 0),(.ref 30),.none,(.ref 31),(.ref 32),(.ref 33),(.int 219 0),(.int 7 0),(.str "/claim/cut.py" 220)]
noncomputable def oq (p:Params):Obj:=fo (.type "function") "compare" "TupleComp.compare" ((cI av 1)) 1 3 .none .none (.str "cpy313.pstats" 187) (.ref 34)
noncomputable def yv (p:Params):Obj:=⟨(.type "dict"),none,.dict #[de p "__module__" 196 (.str "cpy313.pstats" 187),de p "__firstlineno__" 200 (.int 2 199),de p "__init__" 208 (.ref 28),de p "compare" 221 (.ref 35),de p "__static_attributes__" 223 (.ref 36),de p "__dict__" 225 (.ref 39),de p "__weakref__" 227 (.ref 40),de p "__doc__" 228 .none] 4,#[]⟩
noncomputable def w4 (p:Params):Obj:=⟨(.type "type"),none,.cls {name:="TupleComp",bases:=[(.type "object")],mro:=[(.ref 38),(.type "object")],ns:=37,qualname:="TupleComp",hasDict:=true,slotNames:=[],subclasses:=[],abstract:=false,collection:=none,hasDel:=false},#[none,none,(some (.str "TupleComp" 189)),(some (.str "TupleComp" 197)),(some (.builtin "object.__new__")),(some (.bool true))]⟩
noncomputable def BP (p:Params):Obj:=ff (.type "getset_descriptor") #[(.str "__weakref__" 226),(.ref 38),(.builtin "ExceptionGroup.__weakref__"),.none]
noncomputable def BG (p:Params):Obj:=ff (.type "super") #[(.ref 38),(.ref 38),(.ref 38)]
noncomputable def Bl (p:Params):Obj:=ff (.type "builtin_function_or_method") #[(.builtin "object.__init_subclass__"),(.ref 38)]
noncomputable def Dq (p:Params):Obj:=t0
noncomputable def yt (p:Params):Obj:=ff (.type "code") #[(.str "add_func_stats" 231),(.str "add_func_stats" 232),(.str "/claim/cut.py" 233),(.int 16 0),(.int 2 0),(.int 0 0),(.int 0 0),(.int 3 0),(.ref 43),(.bool true),(.int 181 0),(.ref 44),.none,(.ref 45),(.ref 46),(.ref 47),(.int 246 0),(.int 16 0),(.str "/claim/cut.py" 247)]
noncomputable def w5 (p:Params):Obj:=fo (.type "function") "add_func_stats" "add_func_stats" (av) 2 3 .none .none (.str "cpy313.pstats" 187) (.ref 48)
noncomputable def BS (p:Params):Obj:=t0
noncomputable def w1 (p:Params):Obj:=f0
noncomputable def oN (p:Params):Obj:=ff (.type "code") #[(.str "add_callers" 249),(.str "add_callers" 250),(.str "/claim/cut.py" 251),(.int 20 0),(.int 2 0),(.int 0 0),(.int 0 0),(.int 3 0),(.ref 50),(.bool true),(.int 181 0),(.ref 51),.none,(.ref 52),(.ref 53),(.ref 54),(.int 257 0),(.int 20 0),(.str "/claim/cut.py" 258)]
noncomputable def wD (p:Params):Obj:=fo (.type "function") "add_callers" "add_callers" (av) 3 3 .none .none (.str "cpy313.pstats" 187) (.ref 55)
noncomputable def xP (p:Params):Obj:=ff (.type "code") #[(.str "count_calls" 260),(.str "count_calls" 261),(.str "/claim/cut.py" 262),(.int 33 0),(.int 1 0),(.int 0 0),(.int 0 0),(.int 3 0),(.ref 57),(.bool true),(.int 181 0),(.ref 58),.none,(.ref 59),(.ref 60),(.ref 61),(.int 266 0),(.int 33 0),(.str "/claim/cut.py" 267)]
noncomputable def xT (p:Params):Obj:=fo (.type "function") "count_calls" "count_calls" (av) 4 3 .none .none (.str "cpy313.pstats" 187) (.ref 62)
noncomputable def wR (p:Params):Obj:=fs (.type "tuple") #[(.int 0 271),.none]
noncomputable def rN (p:Params):Obj:=⟨(.type "dict"),none,.dict #[de p "key" 272 .none] 1,#[]⟩
noncomputable def CO (p:Params):Obj:=fo .none "insort_right" "insort_right" (av) 6 0 .none .none .none .none
noncomputable def yh (p:Params):Obj:=ff (.type "code") #[(.str "insort_right" 273),(.str "insort_right" 274),(.str "/claim/cut.py" 275),(.int 39 0),(.int 4 0),(.int 0 0),(.int 1 0),(.int 3 0),(.ref 66),(.bool true),(.int 181 0),(.ref 67),.none,(.ref 68),(.ref 69),(.ref 70),(.int 281 0),(.int 39 0),(.str "/claim/cut.py" 282)]
noncomputable def xJ (p:Params):Obj:=fo (.type "function") "insort_right" "insort_right" (av) 6 3 (.ref 64) (.ref 65) (.str "cpy313.bisect" 269) (.ref 71)
noncomputable def xm (p:Params):Obj:=fs (.type "tuple") #[(.int 0 284),.none]
noncomputable def rP (p:Params):Obj:=⟨(.type "dict"),none,.dict #[de p "key" 285 .none] 1,#[]⟩
noncomputable def vV (p:Params):Obj:=ff (.type "code") #[(.str "bisect_right" 286),(.str "bisect_right" 287),(.str "/claim/cut.py" 288),(.int 45 0),(.int 4 0),(.int 0 0),(.int 1 0),(.int 3 0),(.ref 75),(.bool true),(.int 181 0),(.ref 76),.none,(.ref 77),(.ref 78),(.ref 79),(.int 295 0),(.int 45 0),(.str "/claim/cut.py" 296)]
noncomputable def wM (p:Params):Obj:=fo (.type "function") "bisect_right" "bisect_right" (av) 7 3 (.ref 73) (.ref 74) (.str "cpy313.bisect" 269) (.ref 80)
noncomputable def wF (p:Params):Obj:=fs (.type "tuple") #[(.int 0 298),.none]
noncomputable def rV (p:Params):Obj:=⟨(.type "dict"),none,.dict #[de p "key" 299 .none] 1,#[]⟩
noncomputable def Dh (p:Params):Obj:=t0
noncomputable def Cu (p:Params):Obj:=f0
noncomputable def vH (p:Params):Obj:=ff (.type "code") #[(.str "insort_left" 300),(.str "insort_left" 301),(.str "/claim/cut.py" 302),(.int 65 0),(.int 4 0),(.int 0 0),(.int 1 0),(.int 3 0),(.ref 84),(.bool true),(.int 181 0),(.ref 85),.none,(.ref 86),(.ref 87),(.ref 88),(.int 308 0),(.int 65 0),(.str "/claim/cut.py" 309)]
noncomputable def xN (p:Params):Obj:=fo (.type "function") "insort_left" "insort_left" (av) 8 3 (.ref 82) (.ref 83) (.str "cpy313.bisect" 269) (.ref 89)
noncomputable def v9 (p:Params):Obj:=fs (.type "tuple") #[(.int 0 311),.none]
noncomputable def r8 (p:Params):Obj:=⟨(.type "dict"),none,.dict #[de p "key" 312 .none] 1,#[]⟩
noncomputable def xh (p:Params):Obj:=ff (.type "code") #[(.str "bisect_left" 313),(.str "bisect_left" 314),(.str "/claim/cut.py" 315),(.int 71 0),(.int 4 0),(.int 0 0),(.int 1 0),(.int 3 0),(.ref 93),(.bool true),(.int 181 0),(.ref 94),.none,(.ref 95),(.ref 96),(.ref 97),(.int 322 0),(.int 71 0),(.str "/claim/cut.py" 323)]
noncomputable def yp (p:Params):Obj:=fo (.type "function") "bisect_left" "bisect_left" (av) 9 3 (.ref 91) (.ref 92) (.str "cpy313.bisect" 269) (.ref 98)
noncomputable def Gh (p:Params):List Obj:=((L4 p).set 3 (⟨(.type "dict"),none,.dict #[de p "__name__" 165 (.str "cpy313.stringprep" 325),de p "__doc__" 166 .none,de p "__package__" 167 .none,de p "__loader__" 168 (.builtin "__main__.__loader__#opaque"),de p "__spec__" 169 .none,de p "__annotations__" 170 (.ref 6),de p "__builtins__" 171 (.ref 4),de p "__file__" 173 (.str "/claim/cut.py" 172),de p "__cached__" 174 .none,de p "TupleComp" 230 (.ref 38),de p "add_func_stats" 248 (.ref 49),de p "add_callers" 259 (.ref 56),de p "count_calls" 268 (.ref 63),de p "insort_right" 283 (.ref 72),de p "bisect_right" 297 (.ref 81),de p "insort_left" 310 (.ref 90),de p "bisect_left" 324 (.ref 99)] 17,#[]⟩)).set 12 (ff .none #[(.int 2 0),(.int 0 0),(.ref 20),(.int 16 0),(.int 0 0),(.ref 48),(.int 20 0),(.int 0 0),(.ref 55),(.int 33 0),(.int 0 0),(.ref 62),(.int 39 0),(.int 0 0),(.ref 71),(.int 45 0),(.int 0 0),(.ref 80),(.int 65 0),(.int 0 0),(.ref 89),(.int 71 0),(.int 0 0),(.ref 98)]) ++ [Cd p,CB p,⟨(.type "dict"),none,.dict #[de p "__module__" 196 (.str "cpy313.pstats" 187),de p "__qualname__" 198 (.str "TupleComp" 197),de p "__firstlineno__" 200 (.int 2 199),de p "__init__" 208 (.ref 28),de p "compare" 221 (.ref 35),de p "__static_attributes__" 223 (.ref 36)] 6,#[]⟩,t0,ff .none #[(.int 4 0),(.int 4 0),(.ref 27),(.int 7 0),(.int 4 0),(.ref 34)],ff (.type "code") #[(.str "TupleComp" 191),(.str "TupleComp" 192),(.str "/claim/cut.py" 193),(.int 2 0),(.int 0 0),(.int 0 0),(.int 0 0),(.int 0 0),(.ref 18),(.bool false),(.int 181 0),(.ref 19),.none,.none,.none,.none,(.int 194 0),(.int 2 0),(.str "/claim/cut.py" 195)],⟨(.type "frame"),none,.plain,#[(some (.ref 20)),(some (.ref 3)),(some (.ref 17)),none,(some (.str "cpy313.pstats" 187)),none,(some (.ref 0))]⟩,Cp p,Bz p,Dw p,CN p,fo .none "__init__" "TupleComp.__init__" ((cI av 1)) 0 0 .none .none .none .none,vT p,oj p,t0,f0,Cn p,BM p,Du p,yu p,oq p,fs (.type "tuple") #[(.str "comp_select_list" 222)],yv p,w4 p,ff (.type "getset_descriptor") #[(.str "__dict__" 224),(.ref 38),(.builtin "function.__dict__"),(.builtin "function.__dict__#set")],BP p,BG p,Bl p,Dq p,f0,fs (.type "tuple") #[(.str "target" 234),(.str "source" 235),(.str "cc" 236),(.str "nc" 237),(.str "tt" 238),(.str "ct" 239),(.str "callers" 240),(.str "t_cc" 241),(.str "t_nc" 242),(.str "t_tt" 243),(.str "t_ct" 244),(.str "t_callers" 245)],t0,fo .none "add_func_stats" "add_func_stats" (av) 2 0 .none .none .none .none,yt p,w5 p,BS p,w1 p,fs (.type "tuple") #[(.str "target" 252),(.str "source" 253),(.str "new_callers" 254),(.str "func" 255),(.str "caller" 256)],t0,fo .none "add_callers" "add_callers" (av) 3 0 .none .none .none .none,oN p,wD p,t0,f0,fs (.type "tuple") #[(.str "callers" 263),(.str "nc" 264),(.str "calls" 265)],t0,fo .none "count_calls" "count_calls" (av) 4 0 .none .none .none .none,xP p,xT p,wR p,rN p,t0,f0,fs (.type "tuple") #[(.str "a" 276),(.str "x" 277),(.str "lo" 278),(.str "hi" 279),(.str "key" 280)],t0,CO p,yh p,xJ p,xm p,rP p,t0,f0,fs (.type "tuple") #[(.str "a" 289),(.str "x" 290),(.str "lo" 291),(.str "hi" 292),(.str "key" 293),(.str "mid" 294)],t0,fo .none "bisect_right" "bisect_right" (av) 7 0 .none .none .none .none,vV p,wM p,wF p,rV p,Dh p,Cu p,fs (.type "tuple") #[(.str "a" 303),(.str "x" 304),(.str "lo" 305),(.str "hi" 306),(.str "key" 307)],t0,fo .none "insort_left" "insort_left" (av) 8 0 .none .none .none .none,vH p,xN p,v9 p,r8 p,t0,f0,fs (.type "tuple") #[(.str "a" 316),(.str "x" 317),(.str "lo" 318),(.str "hi" 319),(.str "key" 320),(.str "mid" 321)],t0,fo .none "bisect_left" "bisect_left" (av) 9 0 .none .none .none .none,xh p,yp p]
noncomputable def FX (p:Params):BT:=tr (Gh p) 9 1 0
noncomputable def iB (p:Params):Obj:=⟨(.type "set"),none,.set #[(65024,(.int 65024 343)),(65025,(.int 65025 344)),(65026,(.int 65026 345)),(65027,(.int 65027 346)),(65028,(.int 65028 347)),(65029,(.int 65029 348)),(6150,(.int 6150 329)),(65030,(.int 65030 349)),(65031,(.int 65031 350)),(65032,(.int 65032 351)),(65033,(.int 65033 352)),(6155,(.int 6155 330)),(6156,(.int 6156 331)),(6157,(.int 6157 332)),(8203,(.int 8203 333)),(8204,(.int 8204 334)),(8205,(.int 8205 335)),(65034,(.int 65034 353)),(65035,(.int 65035 354)),(65036,(.int 65036 355)),(65037,(.int 65037 356)),(65038,(.int 65038 357)),(65039,(.int 65039 358)),(173,(.int 173 327)),(847,(.int 847 328)),(8288,(.int 8288 336)),(65279,(.int 65279 337))] 29 ⟨127,#[0,1,2,3,4,5,6,7,8,9,10,11,12,13,14,15,16,17,18,19,20,21,22,45,79,96,127],#[],0,(!p.followText "set-order"),2,true⟩,#[]⟩
noncomputable def Gb (p:Params):List Obj:=(Gh p).set 3 (⟨(.type "dict"),none,.dict #[de p "__name__" 165 (.str "cpy313.stringprep" 325),de p "__doc__" 166 .none,de p "__package__" 167 .none,de p "__loader__" 168 (.builtin "__main__.__loader__#opaque"),de p "__spec__" 169 .none,de p "__annotations__" 170 (.ref 6),de p "__builtins__" 171 (.ref 4),de p "__file__" 173 (.str "/claim/cut.py" 172),de p "__cached__" 174 .none,de p "TupleComp" 230 (.ref 38),de p "add_func_stats" 248 (.ref 49),de p "add_callers" 259 (.ref 56),de p "count_calls" 268 (.ref 63),de p "insort_right" 283 (.ref 72),de p "bisect_right" 297 (.ref 81),de p "insort_left" 310 (.ref 90),de p "bisect_left" 324 (.ref 99),de p "b1_set" 386 (.ref 107)] 18,#[]⟩) ++ [fs (.type "list") #[(.int 173 327),(.int 847 328),(.int 6150 329),(.int 6155 330),(.int 6156 331),(.int 6157 332),(.int 8203 333),(.int 8204 334),(.int 8205 335),(.int 8288 336),(.int 65279 337)],ff (.type "range") #[(.int 65024 338),(.int 65040 339),(.int 1 340)],⟨(.type "list"),none,.seq #[(.int 65024 343),(.int 65025 344),(.int 65026 345),(.int 65027 346),(.int 65028 347),(.int 65029 348),(.int 65030 349),(.int 65031 350),(.int 65032 351),(.int 65033 352),(.int 65034 353),(.int 65035 354),(.int 65036 355),(.int 65037 356),(.int 65038 357),(.int 65039 358)] 18,#[]⟩,ff (.type "range_iterator") #[(.int 65040 0),(.int 0 0),(.int 1 0)],t0,ff (.type "StopIteration") #[(.ref 104),.none,.none,.none,(.bool false),.none],fs (.type "list") #[(.int 173 327),(.int 847 328),(.int 6150 329),(.int 6155 330),(.int 6156 331),(.int 6157 332),(.int 8203 333),(.int 8204 334),(.int 8205 335),(.int 8288 336),(.int 65279 337),(.int 65024 343),(.int 65025 344),(.int 65026 345),(.int 65027 346),(.int 65028 347),(.int 65029 348),(.int 65030 349),(.int 65031 350),(.int 65032 351),(.int 65033 352),(.int 65034 353),(.int 65035 354),(.int 65036 355),(.int 65037 356),(.int 65038 357),(.int 65039 358)],iB p,ff (.type "list_iterator") #[.none,(.int 27 0)],t0,ff (.type "StopIteration") #[(.ref 109),.none,.none,.none,(.bool false),.none]]
noncomputable def FR (p:Params):BT:=tr (Gb p) 9 1 0
noncomputable def tj (p:Params):Obj:=ff (.type "code") #[(.str "in_table_b1" 387),(.str "in_table_b1" 388),(.str "/claim/cut.py" 389),(.int 93 0),(.int 1 0),(.int 0 0),(.int 0 0),(.int 3 0),(.ref 111),(.bool true),(.int 181 0),(.ref 112),.none,(.ref 113),(.ref 114),(.ref 115),(.int 391 0),(.int 93 0),(.str "/claim/cut.py" 392)]
noncomputable def sH (p:Params):Obj:=fo (.type "function") "in_table_b1" "in_table_b1" (av) 12 3 .none .none (.str "cpy313.stringprep" 325) (.ref 116)
noncomputable def Ge (p:Params):List Obj:=((Gb p).set 3 (⟨(.type "dict"),none,.dict #[de p "__name__" 165 (.str "cpy313.stringprep" 325),de p "__doc__" 166 .none,de p "__package__" 167 .none,de p "__loader__" 168 (.builtin "__main__.__loader__#opaque"),de p "__spec__" 169 .none,de p "__annotations__" 170 (.ref 6),de p "__builtins__" 171 (.ref 4),de p "__file__" 173 (.str "/claim/cut.py" 172),de p "__cached__" 174 .none,de p "TupleComp" 230 (.ref 38),de p "add_func_stats" 248 (.ref 49),de p "add_callers" 259 (.ref 56),de p "count_calls" 268 (.ref 63),de p "insort_right" 283 (.ref 72),de p "bisect_right" 297 (.ref 81),de p "insort_left" 310 (.ref 90),de p "bisect_left" 324 (.ref 99),de p "b1_set" 386 (.ref 107),de p "in_table_b1" 393 (.ref 117)] 19,#[]⟩)).set 12 (ff .none #[(.int 2 0),(.int 0 0),(.ref 20),(.int 16 0),(.int 0 0),(.ref 48),(.int 20 0),(.int 0 0),(.ref 55),(.int 33 0),(.int 0 0),(.ref 62),(.int 39 0),(.int 0 0),(.ref 71),(.int 45 0),(.int 0 0),(.ref 80),(.int 65 0),(.int 0 0),(.ref 89),(.int 71 0),(.int 0 0),(.ref 98),(.int 93 0),(.int 0 0),(.ref 116)]) ++ [t0,f0,fs (.type "tuple") #[(.str "code" 390)],t0,fo .none "in_table_b1" "in_table_b1" (av) 12 0 .none .none .none .none,tj p,sH p]
noncomputable def DO (p:Params):BT:=tr (Ge p) 9 1 0
noncomputable def Gl (p:Params):List Obj:=(Ge p).set 3 (⟨(.type "dict"),none,.dict #[de p "__name__" 165 (.str "cpy313.stringprep" 325),de p "__doc__" 166 .none,de p "__package__" 167 .none,de p "__loader__" 168 (.builtin "__main__.__loader__#opaque"),de p "__spec__" 169 .none,de p "__annotations__" 170 (.ref 6),de p "__builtins__" 171 (.ref 4),de p "__file__" 173 (.str "/claim/cut.py" 172),de p "__cached__" 174 .none,de p "TupleComp" 230 (.ref 38),de p "add_func_stats" 248 (.ref 49),de p "add_callers" 259 (.ref 56),de p "count_calls" 268 (.ref 63),de p "insort_right" 283 (.ref 72),de p "bisect_right" 297 (.ref 81),de p "insort_left" 310 (.ref 90),de p "bisect_left" 324 (.ref 99),de p "b1_set" 386 (.ref 107),de p "in_table_b1" 393 (.ref 117),de p "b3_exceptions" 2344 (.ref 118)] 20,#[]⟩) ++ ag ey::jT
noncomputable def EN (p:Params):BT:=tr (Gl p) 9 1 0
noncomputable def j9 (p:Params):Obj:=⟨(.type "dict"),none,.dict #[de p "__name__" 165 (.str "law_xh0048_02" 2353),de p "__doc__" 166 .none,de p "__package__" 167 .none,de p "__loader__" 168 (.builtin "__main__.__loader__#opaque"),de p "__spec__" 169 .none,de p "__annotations__" 170 (.ref 6),de p "__builtins__" 171 (.ref 4),de p "__file__" 173 (.str "/claim/cut.py" 172),de p "__cached__" 174 .none,de p "TupleComp" 230 (.ref 38),de p "add_func_stats" 248 (.ref 49),de p "add_callers" 259 (.ref 56),de p "count_calls" 268 (.ref 63),de p "insort_right" 283 (.ref 72),de p "bisect_right" 297 (.ref 81),de p "insort_left" 310 (.ref 90),de p "bisect_left" 324 (.ref 99),de p "b1_set" 386 (.ref 107),de p "in_table_b1" 393 (.ref 117),de p "b3_exceptions" 2344 (.ref 118),de p "map_table_b3" 2352 (.ref 163),de p "_law_typed" 2367 (.ref 170),de p "_law_sorted" 2380 (.ref 177),de p "law" 2386 (.ref 182)] 24,#[]⟩
noncomputable def tv (p:Params):Obj:=ff (.type "code") #[(.str "map_table_b3" 2345),(.str "map_table_b3" 2346),(.str "/claim/cut.py" 2347),(.int 96 0),(.int 1 0),(.int 0 0),(.int 0 0),(.int 3 0),(.ref 157),(.bool true),(.int 181 0),(.ref 158),.none,(.ref 159),(.ref 160),(.ref 161),(.int 2350 0),(.int 96 0),(.str "/claim/cut.py" 2351)]
noncomputable def tB (p:Params):Obj:=fo (.type "function") "map_table_b3" "map_table_b3" (av) 14 3 .none .none (.str "cpy313.stringprep" 325) (.ref 162)
noncomputable def sX (p:Params):Obj:=ff (.type "code") #[(.str "_law_typed" 2355),(.str "_law_typed" 2356),(.str "/claim/cut.py" 2357),(.int 102 0),(.int 3 0),(.int 0 0),(.int 0 0),(.int 3 0),(.ref 164),(.bool true),(.int 181 0),(.ref 165),.none,(.ref 166),(.ref 167),(.ref 168),(.int 2365 0),(.int 102 0),(.str "/claim/cut.py" 2366)]
noncomputable def tS (p:Params):Obj:=fo (.type "function") "_law_typed" "_law_typed" (av) 16 3 .none .none (.str "law_xh0048_02" 2353) (.ref 169)
noncomputable def tx (p:Params):Obj:=f0
noncomputable def k3 (p:Params):Obj:=ff (.type "code") #[(.str "_law_sorted" 2368),(.str "_law_sorted" 2369),(.str "/claim/cut.py" 2370),(.int 108 0),(.int 3 0),(.int 0 0),(.int 0 0),(.int 3 0),(.ref 171),(.bool true),(.int 181 0),(.ref 172),.none,(.ref 173),(.ref 174),(.ref 175),(.int 2378 0),(.int 108 0),(.str "/claim/cut.py" 2379)]
noncomputable def sv (p:Params):Obj:=fo (.type "function") "_law_sorted" "_law_sorted" (av) 17 3 .none .none (.str "law_xh0048_02" 2353) (.ref 176)
noncomputable def su (p:Params):Obj:=f0
noncomputable def k5 (p:Params):Obj:=ff (.type "code") #[(.str "law" 2381),(.str "law" 2382),(.str "/claim/cut.py" 2383),(.int 117 0),(.int 1 0),(.int 0 0),(.int 0 0),(.int 3 0),(.ref 178),(.bool true),(.int 181 0),(.ref 179),.none,.none,.none,(.ref 180),(.int 2384 0),(.int 117 0),(.str "/claim/cut.py" 2385)]
noncomputable def s8 (p:Params):Obj:=fo (.type "function") "law" "law" (av) 18 3 .none .none (.str "law_xh0048_02" 2353) (.ref 181)
noncomputable def GX (p:Params):List Obj:=((Gl p).set 3 (j9 p)).set 12 (ff .none #[(.int 2 0),(.int 0 0),(.ref 20),(.int 16 0),(.int 0 0),(.ref 48),(.int 20 0),(.int 0 0),(.ref 55),(.int 33 0),(.int 0 0),(.ref 62),(.int 39 0),(.int 0 0),(.ref 71),(.int 45 0),(.int 0 0),(.ref 80),(.int 65 0),(.int 0 0),(.ref 89),(.int 71 0),(.int 0 0),(.ref 98),(.int 93 0),(.int 0 0),(.ref 116),(.int 96 0),(.int 0 0),(.ref 162),(.int 102 0),(.int 0 0),(.ref 169),(.int 108 0),(.int 0 0),(.ref 176),(.int 117 0),(.int 0 0),(.ref 181)]) ++ [t0,f0,fs (.type "tuple") #[(.str "code" 2348),(.str "r" 2349)],t0,fo .none "map_table_b3" "map_table_b3" (av) 14 0 .none .none .none .none,tv p,tB p,t0,f0,fs (.type "tuple") #[(.str "number" 2358),(.str "form" 2359),(.str "seed" 2360),(.str "words" 2361),(.str "nothing" 2362),(.str "text" 2363),(.str "place" 2364)],t0,fo .none "_law_typed" "_law_typed" (av) 16 0 .none .none .none .none,sX p,tS p,t0,tx p,fs (.type "tuple") #[(.str "order" 2371),(.str "ahead" 2372),(.str "behind" 2373),(.str "line" 2374),(.str "told" 2375),(.str "name" 2376)],fs (.type "tuple") #[(.str "ahead" 2377)],fo .none "_law_sorted" "_law_sorted" (av) 17 0 .none .none .none .none,k3 p,sv p,t0,su p,fo .none "law" "law" (av) 18 0 .none .none .none .none,k5 p,s8 p]
noncomputable def E7 (p:Params):BT:=tr (GX p) 9 1 0
noncomputable abbrev tb:=PySem.Challenge.pw_xh0048_02.main.body
noncomputable def second:PV->PV
 | .tup [_,q]=>q
 |p=>p
theorem er {a:Int}{n i:Nat}{p:PV}(h:(aI a n)[i]? =some p):p= .int (a+(i:Int)):=by
 unfold aI at h
 rw [List.getElem?_map] at h
 cases q:(List.range n)[i]? with
 |none=>replace h:=q▸h;cases h
 |some j=>
  rw [q] at h
  have:j=i:=by
   obtain⟨h1,h2⟩:=List.getElem?_eq_some_iff.mp q
   simpa using h2.symm
  refine this▸?_
  simpa using h.symm
set_option maxRecDepth 4000
theorem Dk {l:List (Str×PV)}(h:∀e∈l,ρ e.1=some e.2):∀y p,aC l y=some p->ρ y=some p:=by
 induction l with
 |nil=>intro y p e;cases e
 |cons e r ih=>
  intro y p e'
  replace e':(if(y==e.1)=true then some e.2 else aC r y)=some p:=e'
  split at e'
  ·rename_i hy
   cases e'
   rw [Ip.mp hy]
   exact h _ G9
  ·exact ih (λe he=>h e (Ha _ he)) y p e'
theorem St.to {l:List (Str×PV)}(X:St C W sc own ρ env s)(h:∀e∈l,ρ e.1=some e.2):St C W sc own (aC l) env s:=X.weaken (Dk h)
theorem jO {P:Str×PV->Prop}:∀e∈([]:List (Str×PV)),P e:=λe h=>by cases h
theorem aD {P:Str×PV->Prop}{a:Str×PV}{l:List (Str×PV)}(h:P a)(hs:∀e∈l,P e):∀e∈a::l,P e:=λe he=>by
 rcases Hf.mp he with rfl |he
 ·exact h
 ·exact hs e he
theorem Ev.conv {e:Expr}{p q:PV}(h:Ev C k sc own ρ e p)(hp:p=q):Ev C k sc own ρ e q:=hp▸h
theorem Tr.conv {e:Expr}{p q:Bool}(h:Tr C k sc own ρ e p)(hp:p=q):Tr C k sc own ρ e q:=hp▸h
theorem aj.conv {m:Value->Value->Sem Value}{p q r r':PV}(h:aj C m p q r)(e:r=r'):aj C m p q r':=e▸h
noncomputable def oE:PV->Bool
 | .none=>false
 | .raw v=>v != .none
 |_=>true
theorem tm {h:Heap}{v:Value}{p:PV}(hp:oE p=true)(r:Rr C W h v p):v≠.none:=by
 cases p with
 |none=>cases hp
 |bool b=>rw [show v= .bool b from r];intro q;cases q
 |int i=>obtain⟨t,rfl⟩:=r;intro q;cases q
 |str i=>obtain⟨t,rfl⟩:=r;intro q;cases q
 |raw u=>
  rw [show v=u from r]
  intro q
  subst q
  exact absurd hp (by decide)
 |obj o=>exact r.elim
 |tup xs=>obtain⟨a,vs,rfl,_⟩:=r;intro q;cases q
 |lst xs=>refine lQ r λa vs m L1 _=> ?_;subst L1;intro q;cases q
 |au xs=>obtain⟨a,vs,m,l,rfl,_⟩:=r;intro q;cases q
 |inst c xs=>obtain⟨a,d,vs,m,l,rfl,_⟩:=r;intro q;cases q
theorem aj.isNone {p:PV}(hp:oE p=true):aj C (compareOp .Is) p .none (.bool false):=λW A s v u _ g h1 h2=>by
 refine(show u= .none from h2)▸?_
 exact is_none_ne (tm hp h1) ⟨ah.refl _,rfl⟩
theorem aj.kW:aj C (compareOp .Is) .none .none (.bool true):=λW A s v u _ g h1 h2=>by
 rw [show u= .none from h2,show v= .none from h1]
 exact wpAny_is_self rfl ⟨ah.refl _,rfl⟩
theorem aj.isNotNone {p:PV}(hp:oE p=true):aj C (compareOp .IsNot) p .none (.bool true):=λW A s v u _ g h1 h2=>by
 refine(show u= .none from h2)▸?_
 exact isnot_none_ne (tm hp h1) ⟨ah.refl _,rfl⟩
theorem aj.lX:aj C (compareOp .IsNot) .none .none (.bool false):=λW A s v u _ g h1 h2=>by
 rw [show u= .none from h2,show v= .none from h1]
 exact wpAny_isNot_self rfl ⟨ah.refl _,rfl⟩
theorem Ev.iK {v i:Expr}{xs:List PV}{j:Int}{p:PV}(h1:Ev C k sc own ρ v (.lst xs))(h2:Ev C k sc own ρ i (.int j))(h0:0<=j)(hp:xs[j.toNat]? =some p)(hz:xs.length<=sizeLine)
 (hs:∀o i',subscripted i false o i'=operate [o,i'] (getItem o i')):Ev C k sc own ρ (.Subscript v i pos) p:=by
 have Ll:j.toNat < xs.length:=(List.getElem?_eq_some_iff.mp hp).1
 have L9:(sizeLine:Nat) < 2 ^ 62:=by decide
 exact Ev.item (n:=j.toNat) h1.l h2 (by exact Int.eq_natCast_toNat.mpr h0) hp (by lia) hs
theorem wz {x:Str}{p:PV}{r:List (Str×PV)}:aC ((x,p)::r) x=some p:=fQ
theorem Dt {x y:Str}{p:PV}{r:List (Str×PV)}{o:Option PV}(h:(y==x)=false)(h2:aC r y=o):aC ((x,p)::r) y=o:=oP h h2
noncomputable def DU (ρ:bK):List (Str×PV)->List (Option PV)
 |[]=>[]
 |e::r=>ρ e.1::DU ρ r
noncomputable def EF:List (Str×PV)->List (Option PV)
 |[]=>[]
 |e::r=>some e.2::EF r
theorem tI {ρ:bK}:∀{l:List (Str×PV)},DU ρ l=EF l->∀e∈l,ρ e.1=some e.2
 |[],_=>jO
 |_::_,h=>aD (List.cons.inj h).1 (tI (List.cons.inj h).2)
noncomputable def Av:List (Str×Value):=[("range",.type "range"),("len",.builtin "len"),("sum",.builtin "sum"),("chr",.builtin "chr"),("ord",.builtin "ord"),("int",.type "int"),("str",.type "str"),("min",.builtin "min"),("max",.builtin "max"),
 ("isinstance",.builtin "isinstance"),("tuple",.type "tuple"),("list",.type "list"),("dict",.type "dict"),("bool",.type "bool"),("sorted",.builtin "sorted"),("zip",.type "zip"),("ValueError",.type "ValueError")]
noncomputable def E5:List (Str×Addr):=[("insort_right",72),("bisect_right",81),("insort_left",90),("bisect_left",99),("TupleComp",38),("add_func_stats",49),("add_callers",56),("count_calls",63),("b1_set",107),("in_table_b1",117),("b3_exceptions",118),("map_table_b3",163),("_law_typed",170),("_law_sorted",177)]
noncomputable abbrev yD:=6
noncomputable abbrev vB:=7
noncomputable abbrev yA:=8
noncomputable abbrev wi:=9
noncomputable abbrev BO:Addr:=72
noncomputable abbrev wx:Addr:=81
noncomputable abbrev DE:Addr:=90
noncomputable abbrev wh:Addr:=99
structure tC (C:Cfg)(fa:Addr)(i:Nat):Prop where
 ex:∃fd,FnAt C fa fd (ay tb i)/\fd.scope=ai tb i/\fd.params=bP tb i/\
  (∃T o t,fd.defaults= .ref T/\T∉C.aq/\C.h₀.get? T=some o/\o.data= .seq #[.int 0 t,.none] 0)/\∃D m,fd.kwdefaults= .ref D/\D∉C.aq/\C.h₀.Ns D m/\m "key"=some .none
structure Lw (C:Cfg):Prop where
 ok:C.Ok
 bl:∀e∈Av,C.mg e.1=none/\C.mb e.1=some e.2
 gl:∀e∈E5,C.mg e.1=some (.ref e.2)
 ir:tC C BO yD
 br:tC C wx vB
 il:tC C DE yA
 bL:tC C wh wi
theorem tC.le {C C':Cfg}{fa:Addr}{i:Nat}(F:tC C fa i)(l:C.Le C'):tC C' fa i:=by
 obtain⟨fd,h1,h2,h3,⟨T,o,t,d1,d2,d3,d4⟩,D,m,e1,e2,e3,e4⟩:=F.ex
 exact⟨fd,h1.le l,h2,h3,⟨T,o,t,d1,by rw [l.aq];exact d2,l.old _ _ d2 d3,d4⟩,D,m,e1,by rw [l.aq];exact e2,l.ns e2 e3,e4⟩
theorem Lw.le {C C':Cfg}(L:Lw C)(l:C.Le C'):Lw C':=⟨L.ok.le l,by refine l.mg▸l.mb▸?_;exact L.bl,by refine l.mg▸?_;exact L.gl,L.ir.le l,L.br.le l,L.il.le l,L.bL.le l⟩
theorem Ev.BV {x:Str}{v:Value}(L:Lw C)(hl:sc.scope.names.lookup x=some .globalImplicit)(hv:Av.lookup x=some v)(hd:(x==("__debug__":Str))=false):Ev C k sc own ρ (.Name x pos) (.raw v):=
 let h:=L.bl _ (mem_of_lookup hv);Ev.blt L.ok hl h.1 h.2 hd
theorem Ev.CY {x:Str}{a:Addr}(L:Lw C)(hl:sc.scope.names.lookup x=some .globalImplicit)(hv:E5.lookup x=some a)(hd:(x==("__debug__":Str))=false):Ev C k sc own ρ (.Name x pos) (.raw (.ref a)):=
 Ev.glob L.ok hl (L.gl _ (mem_of_lookup hv)) hd
structure rF (p:Arguments):Prop where
 pos:p.posonlyargs=[]
 args:∃a b c d e f g h,p.args=[⟨"a",a,b⟩,⟨"x",c,d⟩,⟨"lo",e,f⟩,⟨"hi",g,h⟩]
 kw:∃a b,p.kwonlyargs=[⟨"key",a,b⟩]
 va:p.vararg=none
 RV:p.kwarg=none
noncomputable def feed {α:Type} (o:Obj):Sem α->Option (Addr×Sem α)
 | .load a none k=>some (a,k o)
 |_=>none
theorem pZ {α:Type}{m m':Sem α}{o:Obj}{a:Addr}{Q:α->Shared->Prop}{E:Value->Shared->Prop}(e:feed o m=some (a,m'))(h:s.heap.get? a=some o)(q:wpAny M A m' Q E s):wpAny M A m Q E s:=by
 cases m with
 |load b p k=>
  cases p with
  |none=>cases e;exact Hc (f:=k) (wpAny_load h q)
  |some p=>cases e
 |_=>cases e
theorem bindB {fd:FuncData}{T D:Addr}{o:Obj}{t:Tok}{m:Str->Option Value}(hp:rF fd.params)(d1:fd.defaults= .ref T)(d3:s.heap.get? T=some o)(d4:o.data= .seq #[.int 0 t,.none] 0)
 (e1:fd.kwdefaults= .ref D)(e3:s.heap.Ns D m)(e4:m "key"=some .none)(vs:List Value)(kw:List (Str×Value))(r:List (Str×Value))
 (hk:(kw=[]/\∃a x lo hi,vs=[a,x,lo,hi]/\r=([("a",a),("x",x),("lo",lo),("hi",hi),("key",.none)]:List (Str×Value)))\/
  (kw=[]/\∃a x,vs=[a,x]/\r=([("a",a),("x",x),("lo",.int 0 t),("hi",.none),("key",.none)]:List (Str×Value)))\/
  (∃ky,kw=[(("key":Str),ky)]/\((∃a x lo hi,vs=[a,x,lo,hi]/\r=([("a",a),("x",x),("lo",lo),("hi",hi),("key",ky)]:List (Str×Value)))\/
   (∃a x,vs=[a,x]/\r=([("a",a),("x",x),("lo",.int 0 t),("hi",.none),("key",ky)]:List (Str×Value)))\/
   (∃a x lo,vs=[a,x,lo]/\r=([("a",a),("x",x),("lo",lo),("hi",.none),("key",ky)]:List (Str×Value)))))):
 BindsTo s fd ⟨vs,kw⟩ r:=by
 intro M A E Q h
 obtain⟨oc,od,oo,ow⟩:=o
 obtain rfl:oo=_:=d4
 have key:∀kw vs,feed ⟨oc,od,.seq #[.int 0 t,.none] 0,ow⟩ (bindArgs fd ⟨vs,kw⟩)=some (T,pure r)->wpAny M A (bindArgs fd ⟨vs,kw⟩) Q E s:=λkw vs e=>pZ e d3 (Hj h)
 have Qt:∀kw vs (β γ:Type) (f:_->Sem β) (g:β->Sem γ) (k:γ->_),feed ⟨oc,od,.seq #[.int 0 t,.none] 0,ow⟩ (bindArgs fd ⟨vs,kw⟩)=some (T,(nsGet D "key" >>=f) >>=g >>=k)->(f (some .none) >>=g >>=k)=pure r->wpAny M A (bindArgs fd ⟨vs,kw⟩) Q E s:=by
  intro kw vs β γ f g k e e2
  refine pZ e d3 ?_
  rw [Kj,Kj]
  refine Hc (wpAny_nsGet e3 ?_)
  rw [e4,<-Kj,e2];exact Hj h
 obtain⟨h1,⟨_,_,_,_,_,_,_,_,h2⟩,⟨_,_,h3⟩,h4,h5⟩:=hp
 obtain⟨nm,qn,⟨po,ar,va,ko,kd,RV,df⟩,bd,sc,gl,cl,UD,T2,doc,pm,an,cd,ct,bu⟩:=fd
 dsimp only at h1 h2 h3 h4 h5 d1 e1
 subst h1 h2 h3 h4 h5 d1 e1
 rcases hk with ⟨rfl,a,x,lo,hi,rfl,rfl⟩ |⟨rfl,a,x,rfl,rfl⟩ |⟨ky,rfl,⟨a,x,lo,hi,rfl,rfl⟩ |⟨a,x,rfl,rfl⟩ |⟨a,x,lo,rfl,rfl⟩⟩
 ·exact Qt _ _ _ _ _ _ _ (by fail) (by fail)
 ·exact Qt _ _ _ _ _ _ _ (by fail) (by fail)
 ·exact key _ _ (by rfl)
 ·exact key _ _ (by rfl)
 ·exact key _ _ (by rfl)
noncomputable def dG (j:Nat) (st:Nat×Nat):Nat×Nat:=let mid:=(st.1+st.2) / 2;if mid < j then(mid+1,st.2) else(st.1,mid)
noncomputable def eo (j:Nat) (st:Nat×Nat):Nat->Nat×Nat
 |0=>st
 |n+1=>dG j (eo j st n)
theorem vF (j:Nat)(st:Nat×Nat) {n}:eo j st (n+1)=(dG j (eo j st n)):=rfl
theorem pN (j:Nat)(st:Nat×Nat):∀n,eo j (dG j st) n=eo j st (n+1):=by
 intro q0
 induction q0 with
 |zero=>
  exact rfl
 |succ n ih=>
  rw [vF,ih];rfl
theorem xU {j lo hi:Nat}(h1:lo<=j)(h2:j<=hi)(h:lo < hi):lo<=(dG j (lo,hi)).1/\(dG j (lo,hi)).1<=j/\j<=(dG j (lo,hi)).2/\(dG j (lo,hi)).2<=hi/\(dG j (lo,hi)).2 - (dG j (lo,hi)).1 < hi - lo:=by
 have a:lo<=(lo+hi) / 2:=by lia
 have b:(lo+hi) / 2 < hi:=by lia
 unfold dG
 dsimp only
 split
 ·exact⟨Hz a,‹_›,h2,Hh _,Jd h (Nat.lt_succ_of_le a)⟩
 ·exact⟨Hh _,h1,Hs.mp ‹_›,H3 b,Nat.sub_lt_sub_right a b⟩
theorem Bj (j:Nat):∀(d lo hi:Nat),hi - lo<=d->lo<=j->j<=hi->∃n,(∀i,i < n->(eo j (lo,hi) i).1 < (eo j (lo,hi) i).2)/\eo j (lo,hi) n=(j,j)/\∀i,i<=n->lo<=(eo j (lo,hi) i).1/\(eo j (lo,hi) i).1<=j/\j<=(eo j (lo,hi) i).2/\(eo j (lo,hi) i).2<=hi:=by
 intro d
 induction d with
 |zero=>
  intro lo hi h1 h2 h3
  obtain rfl:=JF h2 (Hg h3 (Kc (Nat.le_zero.mp h1)))
  obtain rfl:=JF h3 (Kc (Nat.le_zero.mp h1))
  exact⟨0,λi h=>absurd h (Nat.not_lt_zero _),rfl,λi h=>by rw [Nat.le_zero.mp h];exact⟨Hh _,Hh _,Hh _,Hh _⟩⟩
 |succ d ih=>
  intro lo hi h1 h2 h3
  by_cases e:lo < hi
  ·refine Dl (xU h2 h3 e) λa b c f g=> ?_
   refine iI (ih (dG j (lo,hi)).1 (dG j (lo,hi)).2 (Nat.le_of_lt_succ (Hn g h1)) b c) λn N4 Nu QS=> ?_
   simp only [(λi=>pN j (lo,hi) i)] at N4 Nu QS
   refine⟨n+1,λi ND=> ?_,Nu,λi ND=> ?_⟩
   ·cases i with
    |zero=>exact e
    |succ i=>exact N4 i (Nat.lt_of_succ_lt_succ ND)
   ·cases i with
    |zero=>exact⟨Hh _,h2,h3,Hh _⟩
    |succ i=>exact let q:=QS i (Nat.le_of_succ_le_succ ND);⟨Hg a q.1,q.2.1,q.2.2.1,Hg q.2.2.2 f⟩
  ·exact ih lo hi (by rw [Nat.sub_eq_zero_of_le (Hs.mp e)];exact HK _) h2 h3
theorem aj.Ex {a b:Int}(hb:b≠0)(hs:b.natAbs < 1073741824):aj C (binaryOp .FloorDiv) (.int a) (.int b) (.int (a.fdiv b)):=aj.floordiv hb (Hy hs)
noncomputable def bS:Option Nat->PV
 |none=> .none
 |some h=> .int h
abbrev Lt (C:Cfg)(p q:PV)(b:Bool):Prop:=aj C (compareOp .Lt) p q (.bool b)
noncomputable abbrev Dj (a b c:Pos):Stmt:= .Assign [.Name "hi" a] (.Name "mid" b) c
noncomputable abbrev Cw (a b c d e:Pos) (u:Tok):Stmt:= .Assign [.Name "lo" a] (.BinOp (.Name "mid" b) .Add (.Constant (.int 1) u c) d) e
theorem kT (L:Lw C)(left key:Bool){S:Sc}(hS:S.scope.names=(ai tb vB).names){xs:List PV}{px kv:PV}{lo:Nat}{hi:Option Nat}{j:Nat}(hz:xs.length<=sizeLine)(h1:lo<=j)(h2:j<=hi.getD xs.length)(h3:hi.getD xs.length<=xs.length)
 {p0 p1 p2 p3 p4 p5 p6 p7 p8 p9 Rx RC Sa Rh R6 RT Rb RS UO Vo Uv Uj VS U2 Ua UW UP UB UJ Uh U8 U9 Vu Tt SK S9 SO Sm SM:Pos}{u1 u2 u3 u4 u5:Tok}{rs RB RE:List Stmt}{e:Expr}
 (P9:aj C (compareOp .Is) kv .none (.bool key))
 (hB:(if key=true then RB else RE)=[.While (.Compare (.Name "lo" p0) [.Lt] [.Name "hi" p1] p2) [.Assign [.Name "mid" p3] (.BinOp (.BinOp (.Name "lo" p4) .Add (.Name "hi" p5) p6) .FloorDiv (.Constant (.int 2) u1 p7) p8) p9,
  .If e [if left=true then Cw Rx RC Sa Rh R6 u2 else Dj RT Rb RS] [if left=true then Dj RT Rb RS else Cw Rx RC Sa Rh R6 u2] UO] [] Vo])
 (he:∀l h m p,lo<=m->m < hi.getD xs.length->xs[m]? =some p->Tr C k S own (upd (aC [("a",.lst xs),("x",px),("lo",.int l),("hi",.int h),("key",kv)]) "mid" (.int (m:Nat))) e (if left=true then decide (m < j) else decide (j<=m)))
 (rm:ak A k)(hm:∀x,mine x=true)
 (X:St C W S own (aC [("a",.lst xs),("x",px),("lo",.int lo),("hi",bS hi),("key",kv)]) env s)(B:Bs C Wt mine t own env s)
 (fin:∀v J,Inv C J->ah C Wt t J->Rr C W J.heap v (.int j)->Q (.ret v) J):
 wpAny C.M A (execs [.If (.Compare (.Name "lo" Uv) [.Lt] [.Constant (.int 0) u3 Uj] VS) rs [] U2,
  .If (.Compare (.Name "hi" Ua) [.Is] [.Constant .none u4 UW] UP) [.Assign [.Name "hi" UB] (.Call (.Name "len" UJ) [.Name "a" Uh] [] U8) U9] [] Vu,
  .If (.Compare (.Name "key" Tt) [.Is] [.Constant .none u5 SK] S9) RB RE SO,.Return (some (.Name "lo" Sm)) SM] env) Q E s:=by
 have nm:∀x∈(["a","x","lo","hi","key","mid"]:List Str),S.scope.names.lookup x=some .local:=by rw [hS];decide+kernel
 have na:=nm "a" (by decide+kernel)
 have Pw:=nm "lo" (by decide+kernel)
 have OL:=nm "hi" (by decide+kernel)
 have Rj:=nm "key" (by decide+kernel)
 have OV:=nm "mid" (by decide+kernel)
 refine bG X B rm (Tr.conv (Tr.cmp (Ev.local Pw (by k_extra"r") (by done)) Ev.int aj.ltI Th.bool rfl) (by rfl)) λs1 X1 B1=> ?_
 have L9:(sizeLine:Nat) < 2 ^ 62:=by decide
 have go:∀s2,St C W S own (aC [("a",.lst xs),("x",px),("lo",.int lo),("hi",.int (hi.getD xs.length)),("key",kv)]) env s2->Bs C Wt mine t own env s2->wpAny C.M A (execs [.If (.Compare (.Name "key" Tt) [.Is] [.Constant .none u5 SK] S9) RB RE SO,.Return (some (.Name "lo" Sm)) SM] env) Q E s2:=by
  intro s2 X2 B2
  refine iI (Bj j _ lo (hi.getD xs.length) (Hh _) h1 h2) λn N4 Nu QS=> ?_
  refine step_if X2 B2 rm (Tr.cmp (Ev.local Rj (by k_extra"r") (by rfl)) Ev.none P9 Th.bool rfl) λs3 X3 B3=> ?_
  rw [hB]
  refine rU X3 B3 rm n (λ_=>own) (λi=>aC [("a",.lst xs),("x",px),("lo",.int (eo j (lo,hi.getD xs.length) i).1),("hi",.int (eo j (lo,hi.getD xs.length) i).2),("key",kv)]) rfl rfl (λi hi=>Tr.conv (Tr.cmp (Ev.local Pw (by k_extra"r") (by done)) (Ev.local OL (by k_extra"r") (by done)) aj.ltI Th.bool rfl) (by simpa using N4 i hi))
   (Tr.conv (Tr.cmp (Ev.local Pw (by k_extra"r") (by done)) (Ev.local OL (by k_extra"r") (by done)) aj.ltI Th.bool rfl) (by rw [Nu];simp)) (λi s4 Pp X4 B4=> ?_)
   (λs4 X4 B4=>Hk (cw X4 B4 rm (Ev.local Pw (by k_extra"r") (by done)) λv s5 X5 B5 r=>fin v s5 X5.inv B5.aA (by rw [Nu] at r;exact r)))
  have Ll:=N4 i Pp
  refine l0 (QS i (H3 Pp)) λq1 q2 q3 q4=> ?_
  refine(show eo j (lo,hi.getD xs.length) (i+1)=dG j (eo j (lo,hi.getD xs.length) i) from rfl)▸?_
  generalize eo j (lo,hi.getD xs.length) i=st at *
  obtain⟨l,h⟩:=st
  dsimp only at Ll q1 q2 q3 q4 X4 ⊢
  have e2:(((l:Int)+(h:Int)).fdiv 2)=((l+h) / 2:Nat):=by
   rw [Int.fdiv_eq_ediv_of_nonneg _ (by decide)]
   simp
  refine az X4 B4 rm (Ev.conv (Ev.bin (Ev.bin (Ev.local Pw (by k_extra"r") (by done)) (Ev.local OL (by k_extra"r") (by done)) aj.add) Ev.int (aj.Ex (b:=2) (by decide) (by decide))) (by rw [e2])) OV rfl λs5 X5 B5=> ?_
  refine step_if X5 B5 rm (he _ _ _ _ (by lia) (by lia) (List.getElem?_eq_getElem (by lia))) λs6 X6 B6=> ?_
  have TP:∀{R:Flow->Shared->Prop} {E':Value->Shared->Prop},j<=(l+h) / 2->(∀s7,St C W S own (aC [("a",.lst xs),("x",px),("lo",.int (dG j (l,h)).1),("hi",.int (dG j (l,h)).2),("key",kv)]) env s7->Bs C Wt mine t own env s7->R .next s7)->wpAny C.M A (execs [Dj RT Rb RS] env) R E' s6:=λhj hR=>
   az X6 B6 rm (Ev.local OV (by k_extra"r") (by done)) OL rfl λs7 X7 B7=>Hk (hR s7 (by unfold dG;refine(if_neg (Hs.mpr hj))▸?_;exact X7.to (by k_extra"rs")) B7)
  have S8:∀{R:Flow->Shared->Prop} {E':Value->Shared->Prop},(l+h) / 2 < j->(∀s7,St C W S own (aC [("a",.lst xs),("x",px),("lo",.int (dG j (l,h)).1),("hi",.int (dG j (l,h)).2),("key",kv)]) env s7->Bs C Wt mine t own env s7->R .next s7)->wpAny C.M A (execs [Cw Rx RC Sa Rh R6 u2] env) R E' s6:=λhj hR=>
   az (p:= .int (((l+h) / 2+1:Nat))) X6 B6 rm (Ev.conv (Ev.bin (Ev.local OV (by k_extra"r") (by done)) Ev.int aj.add) (by rfl)) Pw rfl λs7 X7 B7=>Hk (hR s7 (by unfold dG;refine(if_pos hj)▸?_;exact X7.to (by k_extra"rs")) B7)
  cases left with
  |false=>
   by_cases hj:j<=(l+h) / 2
   ·rw [if_pos (by simpa using hj)];exact TP hj λs7 X7 B7=>Hk ⟨X7,B7⟩
   ·rw [if_neg (by simpa using hj)];exact S8 (Lk.mp hj) λs7 X7 B7=>Hk ⟨X7,B7⟩
  |true=>
   by_cases hj:(l+h) / 2 < j
   ·rw [if_pos (by simpa using hj)];exact S8 hj λs7 X7 B7=>Hk ⟨X7,B7⟩
   ·rw [if_neg (by simpa using hj)];exact TP (Hs.mp hj) λs7 X7 B7=>Hk ⟨X7,B7⟩
 cases hi with
 |none=>
  refine step_if (b:=true) X1 B1 rm (Tr.cmp (Ev.local OL (by k_extra"r") (by done)) Ev.none aj.kW Th.bool rfl) λs2 X2 B2=> ?_
  refine(if_pos rfl)▸?_
  exact az (p:= .int ((none:Option Nat).getD xs.length:Nat)) X2 B2 rm (Ev.a6 (Ev.BV L (by rw [hS];decide+kernel) (by fail) (by rfl)) (ab.cons (Ev.local na (by k_extra"r") (by rfl)) ab.nil λ_=>rfl) (cC.Ay (by lia)) (λenv=>rfl) (λenv=>⟨_,_,rfl⟩)) OL rfl λs3 X3 B3=>Hk (go s3 (X3.to (by k_extra"rs")) B3)
 |some h=>exact bG X1 B1 rm (Tr.cmp (Ev.local OL (by k_extra"r") (by done)) Ev.none (aj.isNone rfl) Th.bool rfl) go
theorem sk (L:Lw C){q:Str}{code:Value}{xs:List PV}{px:PV}{lo:Nat}{hi:Option Nat}{j:Nat}(hz:xs.length<=sizeLine)(h1:lo<=j)(h2:j<=hi.getD xs.length)(h3:hi.getD xs.length<=xs.length)
 (lt:∀m p,lo<=m->m < hi.getD xs.length->xs[m]? =some p->Lt C px p (decide (j<=m)))
 (rm:ak A k)(hm:∀x,mine x=true)
 (X:St C W ⟨ai tb vB,q,code⟩ own (aC [("a",.lst xs),("x",px),("lo",.int lo),("hi",bS hi),("key",.none)]) env s)(B:Bs C Wt mine t own env s)
 (fin:∀v J,Inv C J->ah C Wt t J->Rr C W J.heap v (.int j)->Q (.ret v) J):wpAny C.M A (execs (ay tb vB) env) Q E s:=by
 exact kT L false true (by rfl) hz h1 h2 h3 aj.kW rfl (λl h m p hl hh hp=>Tr.cmp (Ev.var (by rfl) (by k_extra"r")) (Ev.iK (Ev.var (by rfl) (by k_extra"r")) (Ev.var (by rfl) (by k_extra"r")) (IC _) hp hz (λ_ _=>rfl)) (lt _ _ hl hh hp) Th.bool rfl) rm hm X B fin
theorem xf (L:Lw C){fa:Addr}{κ:PV->PV}(hf:cF C fa){q:Str}{code:Value}{xs:List PV}{px:PV}{lo:Nat}{hi:Option Nat}{j:Nat}(hz:xs.length<=sizeLine)(h1:lo<=j)(h2:j<=hi.getD xs.length)(h3:hi.getD xs.length<=xs.length)
 (lt:∀m p,lo<=m->m < hi.getD xs.length->xs[m]? =some p->Lt C px (κ p) (decide (j<=m)))
 (Mf:∀m p,lo<=m->m < hi.getD xs.length->xs[m]? =some p->aN C k own (.ref fa) [p] [] (κ p))
 (rm:ak A k)(hm:∀x,mine x=true)
 (X:St C W ⟨ai tb vB,q,code⟩ own (aC [("a",.lst xs),("x",px),("lo",.int lo),("hi",bS hi),("key",.raw (.ref fa))]) env s)(B:Bs C Wt mine t own env s)
 (fin:∀v J,Inv C J->ah C Wt t J->Rr C W J.heap v (.int j)->Q (.ret v) J):wpAny C.M A (execs (ay tb vB) env) Q E s:=by
 exact kT L false false (by rfl) hz h1 h2 h3 (aj.isNone rfl) rfl (λl h m p hl hh hp=>Tr.cmp (Ev.var (by rfl) (by k_extra"r")) (Ev.du (Ev.var (by rfl) (by k_extra"r")) hf (ab.cons (Ev.iK (Ev.var (by rfl) (by k_extra"r")) (Ev.var (by rfl) (by k_extra"r")) (IC _) hp hz (λ_ _=>rfl)) ab.nil) bR.nil (Mf _ _ hl hh hp) (λenv=>⟨_,_,rfl⟩) (λenv=>rfl)) (lt _ _ hl hh hp) Th.bool rfl) rm hm X B fin
theorem sf (L:Lw C){q:Str}{code:Value}{xs:List PV}{px:PV}{lo:Nat}{hi:Option Nat}{j:Nat}(hz:xs.length<=sizeLine)(h1:lo<=j)(h2:j<=hi.getD xs.length)(h3:hi.getD xs.length<=xs.length)
 (lt:∀m p,lo<=m->m < hi.getD xs.length->xs[m]? =some p->Lt C p px (decide (m < j)))
 (rm:ak A k)(hm:∀x,mine x=true)
 (X:St C W ⟨ai tb wi,q,code⟩ own (aC [("a",.lst xs),("x",px),("lo",.int lo),("hi",bS hi),("key",.none)]) env s)(B:Bs C Wt mine t own env s)
 (fin:∀v J,Inv C J->ah C Wt t J->Rr C W J.heap v (.int j)->Q (.ret v) J):wpAny C.M A (execs (ay tb wi) env) Q E s:=by
 exact kT L true true (by rfl) hz h1 h2 h3 aj.kW rfl (λl h m p hl hh hp=>Tr.cmp (Ev.iK (Ev.var (by rfl) (by k_extra"r")) (Ev.var (by rfl) (by k_extra"r")) (IC _) hp hz (λ_ _=>rfl)) (Ev.var (by rfl) (by k_extra"r")) (lt _ _ hl hh hp) Th.bool rfl) rm hm X B fin
theorem vN (L:Lw C){fa:Addr}{κ:PV->PV}(hf:cF C fa){q:Str}{code:Value}{xs:List PV}{px:PV}{lo:Nat}{hi:Option Nat}{j:Nat}(hz:xs.length<=sizeLine)(h1:lo<=j)(h2:j<=hi.getD xs.length)(h3:hi.getD xs.length<=xs.length)
 (lt:∀m p,lo<=m->m < hi.getD xs.length->xs[m]? =some p->Lt C (κ p) px (decide (m < j)))
 (Mf:∀m p,lo<=m->m < hi.getD xs.length->xs[m]? =some p->aN C k own (.ref fa) [p] [] (κ p))
 (rm:ak A k)(hm:∀x,mine x=true)
 (X:St C W ⟨ai tb wi,q,code⟩ own (aC [("a",.lst xs),("x",px),("lo",.int lo),("hi",bS hi),("key",.raw (.ref fa))]) env s)(B:Bs C Wt mine t own env s)
 (fin:∀v J,Inv C J->ah C Wt t J->Rr C W J.heap v (.int j)->Q (.ret v) J):wpAny C.M A (execs (ay tb wi) env) Q E s:=by
 exact kT L true false (by rfl) hz h1 h2 h3 (aj.isNone rfl) rfl (λl h m p hl hh hp=>Tr.cmp (Ev.du (Ev.var (by rfl) (by k_extra"r")) hf (ab.cons (Ev.iK (Ev.var (by rfl) (by k_extra"r")) (Ev.var (by rfl) (by k_extra"r")) (IC _) hp hz (λ_ _=>rfl)) ab.nil) bR.nil (Mf _ _ hl hh hp) (λenv=>⟨_,_,rfl⟩) (λenv=>rfl)) (Ev.var (by rfl) (by k_extra"r")) (lt _ _ hl hh hp) Th.bool rfl) rm hm X B fin
theorem rn:rF (bP tb vB):=⟨rfl,⟨_,_,_,_,_,_,_,_,rfl⟩,⟨_,_,rfl⟩,rfl,rfl⟩
theorem rA:rF (bP tb wi):=⟨rfl,⟨_,_,_,_,_,_,_,_,rfl⟩,⟨_,_,rfl⟩,rfl,rfl⟩
theorem s9:rF (bP tb yD):=⟨rfl,⟨_,_,_,_,_,_,_,_,rfl⟩,⟨_,_,rfl⟩,rfl,rfl⟩
theorem tP:rF (bP tb yA):=⟨rfl,⟨_,_,_,_,_,_,_,_,rfl⟩,⟨_,_,rfl⟩,rfl,rfl⟩
theorem tC.bind {fa:Addr}{i:Nat}(F:tC C fa i)(hP:rF (bP tb i))(iv:Inv C s):∃fd t,FnAt C fa fd (ay tb i)/\fd.scope=ai tb i/\∀(vs:List Value)(kw r:List (Str×Value)),
 ((kw=[]/\∃a x lo hi,vs=[a,x,lo,hi]/\r=([("a",a),("x",x),("lo",lo),("hi",hi),("key",.none)]:List (Str×Value)))\/
  (kw=[]/\∃a x,vs=[a,x]/\r=([("a",a),("x",x),("lo",.int 0 t),("hi",.none),("key",.none)]:List (Str×Value)))\/
  (∃ky,kw=[(("key":Str),ky)]/\((∃a x lo hi,vs=[a,x,lo,hi]/\r=([("a",a),("x",x),("lo",lo),("hi",hi),("key",ky)]:List (Str×Value)))\/
   (∃a x,vs=[a,x]/\r=([("a",a),("x",x),("lo",.int 0 t),("hi",.none),("key",ky)]:List (Str×Value)))\/
   (∃a x lo,vs=[a,x,lo]/\r=([("a",a),("x",x),("lo",lo),("hi",.none),("key",ky)]:List (Str×Value))))))->BindsTo s fd ⟨vs,kw⟩ r:=by
 obtain⟨fd,h1,h2,h3,⟨T,o,t,d1,d2,d3,d4⟩,D,m,e1,e2,e3,e4⟩:=F.ex
 exact⟨fd,t,h1,h2,λvs kw r h=>bindB (by rw [h3];exact hP) d1 (iv.old _ _ d2 d3) d4 e1 (iv.ns e2 e3) e4 vs kw r h⟩
theorem eW {a x lo hi ky:Value}:(([("a",a),("x",x),("lo",lo),("hi",hi),("key",ky)]:List (Str×Value)).map (·.1)).Nodup:=by
 show ([("a":Str),"x","lo","hi","key"]:List Str).Nodup
 decide+kernel
theorem eO {fd:FuncData}{i:Nat}(hi:i=yD\/i=vB\/i=yA\/i=wi)(h:fd.scope=ai tb i){a x lo h' ky:Value}:∀y∈([("a",a),("x",x),("lo",lo),("hi",h'),("key",ky)]:List (Str×Value)),fd.scope.names.lookup y.1=some .local\/fd.scope.names.lookup y.1=some .cell:=by
 rw [h]
 intro y hy
 left
 have e:y.1∈([("a":Str),"x","lo","hi","key"]:List Str):=by
  simp only [Hf,HH,It] at hy ⊢
  rcases hy with rfl |rfl |rfl |rfl |rfl <;> simp
 have:∀z∈([("a":Str),"x","lo","hi","key"]:List Str),(ai tb i).names.lookup z=some .local:=by
  rcases hi with rfl |rfl |rfl |rfl <;> decide+kernel
 exact this _ e
theorem fe.inv2 {h:Heap}{vs:List Value}{p q:PV}(r:fe C W h vs [p,q]):∃v u,vs=[v,u]/\Rr C W h v p/\Rr C W h u q:=by
 obtain⟨v,r1,rfl,h1,u,r2,rfl,h2,h3⟩:=r
 refine(show r2=[] from h3)▸?_
 exact⟨v,u,rfl,h1,h2⟩
theorem fe.tZ {h:Heap}{vs:List Value}{p q r t:PV}(x:fe C W h vs [p,q,r,t]):∃a b c d,vs=[a,b,c,d]/\Rr C W h a p/\Rr C W h b q/\Rr C W h c r/\Rr C W h d t:=by
 obtain⟨v,r1,rfl,h1,u,r2,rfl,h2,h3⟩:=x
 refine bp (fe.inv2 h3) λc d e h4 h5=> ?_
 exact⟨v,u,c,d,by rw [e],h1,h2,h4,h5⟩
theorem fe.inv1 {h:Heap}{vs:List Value}{p:PV}(r:fe C W h vs [p]):∃v,vs=[v]/\Rr C W h v p:=by
 refine bp r λv r1 G' h1 h3=> ?_;refine G'▸?_
 refine(show r1=[] from h3)▸?_
 exact⟨v,rfl,h1⟩
theorem fe.Fo {h:Heap}{vs:List Value}{p q r:PV}(x:fe C W h vs [p,q,r]):∃a b c,vs=[a,b,c]/\Rr C W h a p/\Rr C W h b q/\Rr C W h c r:=by
 refine bp x λv r1 G' h1 h3=> ?_;refine G'▸?_
 refine bp (fe.inv2 h3) λc d e h4 h5=> ?_
 exact⟨v,c,d,by rw [e],h1,h4,h5⟩
theorem dy.i7 {h:Heap}{kvs:List (Str×Value)}(r:dy C W h kvs []):kvs=[]:=by cases r;rfl
theorem dy.inv1 {h:Heap}{kvs:List (Str×Value)}{x:Str}{p:PV}(r:dy C W h kvs [(x,p)]):∃v,kvs=[(x,v)]/\Rr C W h v p:=by
 cases r with
 |cons h1 h2=>cases h2;exact⟨_,rfl,h1⟩
theorem Dm (L:Lw C){xs:List PV}{px:PV}{lo:Nat}{hi:Option Nat}{j:Nat}(hz:xs.length<=sizeLine)(h1:lo<=j)(h2:j<=hi.getD xs.length)(h3:hi.getD xs.length<=xs.length)
 (lt:∀m p,lo<=m->m < hi.getD xs.length->xs[m]? =some p->Lt C px p (decide (j<=m))):aN C (k+1) [] (.ref wx) [.lst xs,px,.int lo,bS hi] [] (.int j):=λW A s vs kvs rm g ho r1 r2=>by
 obtain⟨va,vx,vl,vh,rfl,ra,rx,rl,rh⟩:=r1.tZ
 rw [r2.i7]
 refine bp (L.br.bind rn g.inv) λfd t F Lz hb=> ?_
 refine dF (own:=[]) (args:=⟨[va,vx,vl,vh],[]⟩) L.ok F g (by simp) rm (hb _ _ _ (.inl ⟨rfl,_,_,_,_,rfl,rfl⟩)) (.cons ra (.cons rx (.cons rl (.cons rh (.cons rfl .nil)))):dy C W s.heap [("a",va),("x",vx),("lo",vl),("hi",vh),("key",.none)] [("a",.lst xs),("x",px),("lo",.int lo),("hi",bS hi),("key",.none)]) eW (eO (.inr (.inl rfl)) Lz) ?_
 intro Lo env J hL X B A' L5
 have X':St C (Lo::W) ⟨ai tb vB,fd.qualname ++ ".<locals>.",fd.code⟩ [] (aC [("a",.lst xs),("x",px),("lo",.int lo),("hi",bS hi),("key",.none)]) env J:=by
  refine Lz▸?_;exact X
 exact sk L hz h1 h2 h3 lt L5 (λ_=>rfl) X' B λv Lv i e r=>⟨e,r.drop λa ha=>Ha _ ha⟩
theorem zo (L:Lw C){fa:Addr}{κ:PV->PV}(hf:cF C fa){xs:List PV}{px:PV}{lo:Nat}{hi:Option Nat}{j:Nat}(hz:xs.length<=sizeLine)(h1:lo<=j)(h2:j<=hi.getD xs.length)(h3:hi.getD xs.length<=xs.length)
 (lt:∀m p,lo<=m->m < hi.getD xs.length->xs[m]? =some p->Lt C px (κ p) (decide (j<=m)))
 (Mf:∀m p,lo<=m->m < hi.getD xs.length->xs[m]? =some p->aN C k [] (.ref fa) [p] [] (κ p)):aN C (k+1) [] (.ref wx) [.lst xs,px,.int lo,bS hi] [("key",.raw (.ref fa))] (.int j):=λW A s vs kvs rm g ho r1 r2=>by
 obtain⟨va,vx,vl,vh,rfl,ra,rx,rl,rh⟩:=r1.tZ
 refine ae r2.inv1 λvk LG rk=> ?_;refine LG▸?_
 refine bp (L.br.bind rn g.inv) λfd t F Lz hb=> ?_
 refine dF (own:=[]) (args:=⟨[va,vx,vl,vh],[("key",vk)]⟩) L.ok F g (by simp) rm (hb _ _ _ (.inr (.inr ⟨_,rfl,.inl ⟨_,_,_,_,rfl,rfl⟩⟩))) (.cons ra (.cons rx (.cons rl (.cons rh (.cons rk .nil))))) eW (eO (.inr (.inl rfl)) Lz) ?_
 intro Lo env J hL X B A' L5
 have X':St C (Lo::W) ⟨ai tb vB,fd.qualname ++ ".<locals>.",fd.code⟩ [] (aC [("a",.lst xs),("x",px),("lo",.int lo),("hi",bS hi),("key",.raw (.ref fa))]) env J:=by
  refine Lz▸?_;exact X
 exact xf L hf hz h1 h2 h3 lt Mf L5 (λ_=>rfl) X' B λv Lv i e r=>⟨e,r.drop λa ha=>Ha _ ha⟩
theorem Bx (L:Lw C){xs:List PV}{px:PV}{lo:Nat}{hi:Option Nat}{j:Nat}(hz:xs.length<=sizeLine)(h1:lo<=j)(h2:j<=hi.getD xs.length)(h3:hi.getD xs.length<=xs.length)
 (lt:∀m p,lo<=m->m < hi.getD xs.length->xs[m]? =some p->Lt C p px (decide (m < j))):aN C (k+1) [] (.ref wh) [.lst xs,px,.int lo,bS hi] [] (.int j):=λW A s vs kvs rm g ho r1 r2=>by
 obtain⟨va,vx,vl,vh,rfl,ra,rx,rl,rh⟩:=r1.tZ
 rw [r2.i7]
 refine bp (L.bL.bind rA g.inv) λfd t F Lz hb=> ?_
 refine dF (own:=[]) (args:=⟨[va,vx,vl,vh],[]⟩) L.ok F g (by simp) rm (hb _ _ _ (.inl ⟨rfl,_,_,_,_,rfl,rfl⟩)) (.cons ra (.cons rx (.cons rl (.cons rh (.cons rfl .nil)))):dy C W s.heap [("a",va),("x",vx),("lo",vl),("hi",vh),("key",.none)] [("a",.lst xs),("x",px),("lo",.int lo),("hi",bS hi),("key",.none)]) eW (eO (.inr (.inr (.inr rfl))) Lz) ?_
 intro Lo env J hL X B A' L5
 have X':St C (Lo::W) ⟨ai tb wi,fd.qualname ++ ".<locals>.",fd.code⟩ [] (aC [("a",.lst xs),("x",px),("lo",.int lo),("hi",bS hi),("key",.none)]) env J:=by
  refine Lz▸?_;exact X
 exact sf L hz h1 h2 h3 lt L5 (λ_=>rfl) X' B λv Lv i e r=>⟨e,r.drop λa ha=>Ha _ ha⟩
theorem AB (L:Lw C){fa:Addr}{κ:PV->PV}(hf:cF C fa){xs:List PV}{px:PV}{lo:Nat}{hi:Option Nat}{j:Nat}(hz:xs.length<=sizeLine)(h1:lo<=j)(h2:j<=hi.getD xs.length)(h3:hi.getD xs.length<=xs.length)
 (lt:∀m p,lo<=m->m < hi.getD xs.length->xs[m]? =some p->Lt C (κ p) px (decide (m < j)))
 (Mf:∀m p,lo<=m->m < hi.getD xs.length->xs[m]? =some p->aN C k [] (.ref fa) [p] [] (κ p)):aN C (k+1) [] (.ref wh) [.lst xs,px,.int lo,bS hi] [("key",.raw (.ref fa))] (.int j):=λW A s vs kvs rm g ho r1 r2=>by
 obtain⟨va,vx,vl,vh,rfl,ra,rx,rl,rh⟩:=r1.tZ
 refine ae r2.inv1 λvk LG rk=> ?_;refine LG▸?_
 refine bp (L.bL.bind rA g.inv) λfd t F Lz hb=> ?_
 refine dF (own:=[]) (args:=⟨[va,vx,vl,vh],[("key",vk)]⟩) L.ok F g (by simp) rm (hb _ _ _ (.inr (.inr ⟨_,rfl,.inl ⟨_,_,_,_,rfl,rfl⟩⟩))) (.cons ra (.cons rx (.cons rl (.cons rh (.cons rk .nil))))) eW (eO (.inr (.inr (.inr rfl))) Lz) ?_
 intro Lo env J hL X B A' L5
 have X':St C (Lo::W) ⟨ai tb wi,fd.qualname ++ ".<locals>.",fd.code⟩ [] (aC [("a",.lst xs),("x",px),("lo",.int lo),("hi",bS hi),("key",.raw (.ref fa))]) env J:=by
  refine Lz▸?_;exact X
 exact vN L hf hz h1 h2 h3 lt Mf L5 (λ_=>rfl) X' B λv Lv i e r=>⟨e,r.drop λa ha=>Ha _ ha⟩
theorem fx.A1 {o a:Expr}{args:List Expr}{name:Str}{apos:Pos}{id:String}{aa:Addr}{xs:List PV}{ps:List PV}{r:PV}(ho:Ev C k sc own ρ o (.raw (.ref aa)))(hw:(aa,PV.lst xs)∈own)(ha:ab C k sc own ρ (a::args) ps)
 (hc:∀W A env s t Wt vs,ak A k->St C W sc own ρ env s->Bs C Wt mine t own env s->fe C W s.heap vs ps->wpAny C.M A (PySem.call (.builtin id) (.ref aa::vs)) (λv J=>St C W sc own' ρ env J/\Bs C Wt mine t own' env J/\Rr C W J.heap v r) (λ_ _=>False) s)
 (Ln:∀env,attributeBase o name env (eval o env)=eval o env)
 (LZ:∀env,((backTo pos (starEach (a::args) env)).all (λx=> !x.1) && (backToKw pos (keywordEach [] env)).all (λx=>x.1.isSome)
  && decide ((a::args).length+([]:List Keyword).length+(if([]:List Keyword).isEmpty then 0 else 1) < 30))=true)
 (Lp:(apos.endLine==pos.line)=true)(slot:Slot "list" name id)(Nc:typeOf (.builtin id)=pure (.type "method_descriptor"))
 (he:∀env,starEach (a::args) env=(false,eval a env)::starEach args env)(LU:∀env,(backTo pos (starEach args env)).any (·.1)=false):
 fx C k sc mine own own' ρ (.Call (.Attribute o name apos) (a::args) [] pos) r:=λW A env s t Wt rm X B=>by
 refine IE (Ln env) (LZ env) Lp JU slot Nc (Hb (ho W A env s rm X) ?_ λ_ _ q=>q.elim)
 rintro v s1 ⟨e1,r1⟩
 refine(show v= .ref aa from r1)▸?_
 have X1:=X.aA e1
 refine cZ (X1.owns _ hw) λ_ z3 _=> ?_;refine aL z3 λvs n g _=> ?_
 refine⟨(aP g).typeIs,λb q=>by cases q;exact⟨_,g,rfl⟩,J4 (Hb (ha W A env s1 pos rm X1) ?_ λ_ _ q=>q.elim) (he env) (LU env)⟩
 rintro us s2 ⟨e2,r2⟩
 exact hc W A env s2 t Wt us rm (X1.aA e2) ((B.step e1).step e2) r2
theorem fR {a:Addr}{p:PV}:(aE own a p).map (·.1)=own.map (·.1):=by
 unfold aE
 rw [Hq]
 refine HY λy _=> ?_
 simp only [Function.comp]
 split
 ·rename_i h;exact h.symm
 ·rfl
theorem fx.insert {o ej ex:Expr}{apos:Pos}{aa:Addr}{xs:List PV}{j:Nat}{p:PV}(ho:Ev C k sc own ρ o (.raw (.ref aa)))(hw:(aa,PV.lst xs)∈own)(hj:Ev C k sc own ρ ej (.int j))(hx:Ev C k sc own ρ ex p)
 (hz:xs.length<=sizeLine)(VL:j<=xs.length)
 (Ln:∀env,attributeBase o "insert" env (eval o env)=eval o env)
 (LZ:∀env,((backTo pos (starEach [ej,ex] env)).all (λx=> !x.1) && (backToKw pos (keywordEach [] env)).all (λx=>x.1.isSome)
  && decide ([ej,ex].length+([]:List Keyword).length+(if([]:List Keyword).isEmpty then 0 else 1) < 30))=true)
 (Lp:(apos.endLine==pos.line)=true)
 (he:∀env,starEach [ej,ex] env=(false,eval ej env)::starEach [ex] env)(Nf:∀env,starEach [ex] env=(false,eval ex env)::starEach [] env)(LU:∀env,(backTo pos (starEach [ex] env)).any (·.1)=false):
 fx C k sc mine own (aE own aa (.lst (bC xs j p))) ρ (.Call (.Attribute o "insert" apos) [ej,ex] [] pos) .none:=
 fx.A1 ho hw (ab.cons hj (ab.cons hx ab.nil Nf) he) (λW A env s t Wt vs rm X B r=>by
  refine bp r.inv2 λv1 v2 OM OO r2=> ?_;refine OM▸?_;refine cz OO λtk OT=> ?_;rw [OT]
  exact qO X B hw r2 hz VL rfl λJ X' B'=>⟨X',B',rfl⟩) Ln LZ Lp PySem.F.slot_list_insert rfl he LU
theorem xl {f:Addr->Option PV}{hi:Option Nat}:res f (bS hi)=bS hi:=by cases hi <;> rfl
theorem aN.mono {k':Nat}{f:Value}{ps:List PV}{LD:List (Str×PV)}{r:PV}(h:aN C k own f ps LD r)(le:k<=k'):aN C k' own f ps LD r:=λW A s vs kvs rm=>h W A s vs kvs (rm.mono le)
theorem AE (L:Lw C){q:Str}{code:Value}{aa:Addr}{xs:List PV}{px:PV}{lo:Nat}{hi:Option Nat}{j n:Nat}(hw:(aa,PV.lst xs)∈own)(hj:j<=xs.length)
 (hz:xs.length<=sizeLine)(hb:aN C k own (.ref wx) [.raw (.ref aa),px,.int lo,bS hi] [] (.int j))
 (rm:ak A k)(hm:∀x,mine x=true)
 (X:St C W ⟨ai tb yD,q,code⟩ own (aC [("a",.raw (.ref aa)),("x",px),("lo",.int lo),("hi",bS hi),("key",.none)]) env s)(B:Bs C Wt mine t own env s)
 (fin:∀J J',St C W ⟨ai tb yD,q,code⟩ (aE own aa (.lst (bC xs j px))) J' env J->Bs C Wt mine t (aE own aa (.lst (bC xs j px))) env J->Q .next J):wpAny C.M A (execs (ay tb yD) env) Q E s:=by
 conv in ay _ _=>whnf
 refine step_if (b:=true) X B rm (by k_extra"e") ?_
 intro s1 X1 B1
 rw [if_pos rfl]
 refine ae L.br.ex λfd F _=> ?_
 refine az (p:= .int j) X1 B1 rm (Ev.du (by k_extra"e") F.fo (by k_extra"e") bR.nil hb (λenv=>⟨_,_,rfl⟩) (λenv=>rfl)) (by rfl) rfl ?_
 intro s2 X2 B2
 refine Hk ?_
 dsimp only
 refine bY X2 B2 rm (fx.insert (by k_extra"e") hw (by k_extra"e") (by k_extra"e") hz hj (λ_=>rfl) (λ_=>rfl) rfl (λ_=>rfl) (λ_=>rfl) (λ_=>rfl)) (λ_=>rfl) ?_
 intro s3 X3 B3
 exact Hk (fin s3 _ X3 B3)
theorem xn (L:Lw C){fa:Addr}{kx:PV}(hf:cF C fa){q:Str}{code:Value}{aa:Addr}{xs:List PV}{px:PV}{lo:Nat}{hi:Option Nat}{j n:Nat}(hw:(aa,PV.lst xs)∈own)(hj:j<=xs.length)
 (RI:aN C k own (.ref fa) [px] [] kx)(hz:xs.length<=sizeLine)(hb:aN C k own (.ref wx) [.raw (.ref aa),kx,.int lo,bS hi] [("key",.raw (.ref fa))] (.int j))
 (rm:ak A k)(hm:∀x,mine x=true)
 (X:St C W ⟨ai tb yD,q,code⟩ own (aC [("a",.raw (.ref aa)),("x",px),("lo",.int lo),("hi",bS hi),("key",.raw (.ref fa))]) env s)(B:Bs C Wt mine t own env s)
 (fin:∀J J',St C W ⟨ai tb yD,q,code⟩ (aE own aa (.lst (bC xs j px))) J' env J->Bs C Wt mine t (aE own aa (.lst (bC xs j px))) env J->Q .next J):wpAny C.M A (execs (ay tb yD) env) Q E s:=by
 conv in ay _ _=>whnf
 refine step_if (b:=false) X B rm (by k_extra"e") ?_
 intro s1 X1 B1
 rw [if_neg (by decide)]
 refine ae L.br.ex λfd F _=> ?_
 refine az (p:= .int j) X1 B1 rm (Ev.du (by k_extra"e") F.fo (ab.cons (Ev.var (by rfl) (by k_extra"r")) (ab.cons (Ev.du (Ev.var (by done) (by k_extra"r")) hf (ab.cons (Ev.var (by rfl) (by k_extra"r")) ab.nil) bR.nil RI (λenv=>⟨_,_,rfl⟩) (λenv=>rfl)) (by k_extra"e"))) (by k_extra"e") hb (λenv=>⟨_,_,rfl⟩) (λenv=>rfl)) (by rfl) rfl ?_
 intro s2 X2 B2
 refine Hk ?_
 dsimp only
 refine bY X2 B2 rm (fx.insert (by k_extra"e") hw (by k_extra"e") (by k_extra"e") hz hj (λ_=>rfl) (λ_=>rfl) rfl (λ_=>rfl) (λ_=>rfl) (λ_=>rfl)) (λ_=>rfl) ?_
 intro s3 X3 B3
 exact Hk (fin s3 _ X3 B3)
theorem AS (L:Lw C){q:Str}{code:Value}{aa:Addr}{xs:List PV}{px:PV}{lo:Nat}{hi:Option Nat}{j n:Nat}(hw:(aa,PV.lst xs)∈own)(hj:j<=xs.length)
 (hz:xs.length<=sizeLine)(hb:aN C k own (.ref wh) [.raw (.ref aa),px,.int lo,bS hi] [] (.int j))
 (rm:ak A k)(hm:∀x,mine x=true)
 (X:St C W ⟨ai tb yA,q,code⟩ own (aC [("a",.raw (.ref aa)),("x",px),("lo",.int lo),("hi",bS hi),("key",.none)]) env s)(B:Bs C Wt mine t own env s)
 (fin:∀J J',St C W ⟨ai tb yA,q,code⟩ (aE own aa (.lst (bC xs j px))) J' env J->Bs C Wt mine t (aE own aa (.lst (bC xs j px))) env J->Q .next J):wpAny C.M A (execs (ay tb yA) env) Q E s:=by
 conv in ay _ _=>whnf
 refine step_if (b:=true) X B rm (by k_extra"e") ?_
 intro s1 X1 B1
 rw [if_pos rfl]
 refine ae L.bL.ex λfd F _=> ?_
 refine az (p:= .int j) X1 B1 rm (Ev.du (by k_extra"e") F.fo (by k_extra"e") bR.nil hb (λenv=>⟨_,_,rfl⟩) (λenv=>rfl)) (by rfl) rfl ?_
 intro s2 X2 B2
 refine Hk ?_
 dsimp only
 refine bY X2 B2 rm (fx.insert (by k_extra"e") hw (by k_extra"e") (by k_extra"e") hz hj (λ_=>rfl) (λ_=>rfl) rfl (λ_=>rfl) (λ_=>rfl) (λ_=>rfl)) (λ_=>rfl) ?_
 intro s3 X3 B3
 exact Hk (fin s3 _ X3 B3)
theorem xr (L:Lw C){fa:Addr}{kx:PV}(hf:cF C fa){q:Str}{code:Value}{aa:Addr}{xs:List PV}{px:PV}{lo:Nat}{hi:Option Nat}{j n:Nat}(hw:(aa,PV.lst xs)∈own)(hj:j<=xs.length)
 (RI:aN C k own (.ref fa) [px] [] kx)(hz:xs.length<=sizeLine)(hb:aN C k own (.ref wh) [.raw (.ref aa),kx,.int lo,bS hi] [("key",.raw (.ref fa))] (.int j))
 (rm:ak A k)(hm:∀x,mine x=true)
 (X:St C W ⟨ai tb yA,q,code⟩ own (aC [("a",.raw (.ref aa)),("x",px),("lo",.int lo),("hi",bS hi),("key",.raw (.ref fa))]) env s)(B:Bs C Wt mine t own env s)
 (fin:∀J J',St C W ⟨ai tb yA,q,code⟩ (aE own aa (.lst (bC xs j px))) J' env J->Bs C Wt mine t (aE own aa (.lst (bC xs j px))) env J->Q .next J):wpAny C.M A (execs (ay tb yA) env) Q E s:=by
 conv in ay _ _=>whnf
 refine step_if (b:=false) X B rm (by k_extra"e") ?_
 intro s1 X1 B1
 rw [if_neg (by decide)]
 refine ae L.bL.ex λfd F _=> ?_
 refine az (p:= .int j) X1 B1 rm (Ev.du (by k_extra"e") F.fo (ab.cons (Ev.var (by rfl) (by k_extra"r")) (ab.cons (Ev.du (Ev.var (by done) (by k_extra"r")) hf (ab.cons (Ev.var (by rfl) (by k_extra"r")) ab.nil) bR.nil RI (λenv=>⟨_,_,rfl⟩) (λenv=>rfl)) (by k_extra"e"))) (by k_extra"e") hb (λenv=>⟨_,_,rfl⟩) (λenv=>rfl)) (by rfl) rfl ?_
 intro s2 X2 B2
 refine Hk ?_
 dsimp only
 refine bY X2 B2 rm (fx.insert (by k_extra"e") hw (by k_extra"e") (by k_extra"e") hz hj (λ_=>rfl) (λ_=>rfl) rfl (λ_=>rfl) (λ_=>rfl) (λ_=>rfl)) (λ_=>rfl) ?_
 intro s3 X3 B3
 exact Hk (fin s3 _ X3 B3)
inductive Form (pa px:PV) (lo:Nat) (hi:Option Nat) (pk:PV):List PV->List (Str×PV)->Prop
 |full:pk= .none->Form pa px lo hi pk [pa,px,.int lo,bS hi] []
 |short:pk= .none->lo=0->hi=none->Form pa px lo hi pk [pa,px] []
 |fullK:Form pa px lo hi pk [pa,px,.int lo,bS hi] [("key",pk)]
 |shortK:lo=0->hi=none->Form pa px lo hi pk [pa,px] [("key",pk)]
theorem ez.drop {L:Addr}(h:ez C (L::W) own s)(hL:∀y∈own,y.1∈W):ez C W own s:=λx hx=>by
 refine cZ (h x hx) λh1 h2 h3=> ?_
 exact⟨hL x hx,h2.mono (λb o n g=>⟨λq=>n (q.elim .inl λq=> .inr (Ha _ q)),g⟩) (λo g=>g),h3⟩
theorem iy {fa:Addr}{i:Nat}{pa px pk r:PV}{lo:Nat}{hi:Option Nat}{ps:List PV}{LD:List (Str×PV)}(L:Lw C)(F:tC C fa i)(hP:rF (bP tb i))(ND:i=yD\/i=vB\/i=yA\/i=wi)(hF:Form pa px lo hi pk ps LD)(K':own'.map (·.1)=own.map (·.1))
 (h:∀W A env s t Wt q code,ak A k->St C W ⟨ai tb i,q,code⟩ own (aC [("a",pa),("x",px),("lo",.int lo),("hi",bS hi),("key",pk)]) env s->Bs C Wt (λ_=>true) t own env s->
  wpAny C.M A (execs (ay tb i) env) (λf J=>(∃sc J',St C W sc own' J' env J)/\Bs C Wt (λ_=>true) t own' env J/\Rr C W J.heap (match f with | .ret v=>v |_=> .none) r) (λ_ _=>False) s):
 gX C (k+1) own own' (.ref fa) ps LD r:=λW A s vs kvs rm g ho r1 r2=>by
 refine bp (F.bind hP g.inv) λfd t F Lz hb=> ?_
 have fin:∀va vx vl vh vk,BindsTo s fd ⟨vs,kvs⟩ [("a",va),("x",vx),("lo",vl),("hi",vh),("key",vk)]->Rr C W s.heap va pa->Rr C W s.heap vx px->Rr C W s.heap vl (.int lo)->Rr C W s.heap vh (bS hi)->Rr C W s.heap vk pk->
  wpAny C.M A (PySem.call (.ref fa) vs kvs) (λv J=>ah C (own.map (·.1)) s J/\ez C W own' J/\Rr C W J.heap v r) (λ_ _=>False) s:=by
  intro va vx vl vh vk TY ra rx rl rh rk
  refine dF (own:=own) (args:=⟨vs,kvs⟩) L.ok F g ho rm TY (.cons ra (.cons rx (.cons rl (.cons rh (.cons rk .nil))))) eW (eO ND Lz) ?_
  intro Lo env J hL X B A' L5
  have X':St C (Lo::W) ⟨ai tb i,fd.qualname ++ ".<locals>.",fd.code⟩ own (aC [("a",pa),("x",px),("lo",.int lo),("hi",bS hi),("key",pk)]) env J:=by
   refine Lz▸?_;exact X
  refine Hb (h _ A' env J _ _ _ _ L5 X' B) ?_ λ_ _ q=>q
  intro f Lv zz;refine cZ zz λz3 B2 rr=> ?_;refine fC z3 λsc J' X2=> ?_
  refine⟨B2.aA,?_,rr.drop λa ha=>Ha _ ha⟩
  have x2:ez C (Lo::W) own' Lv:=X2.owns
  refine x2.drop λy hy=> ?_
  have:y.1∈own'.map (·.1):=He.mpr ⟨y,hy,rfl⟩
  rw [K'] at this
  refine ae (He.mp this) λz hz e=> ?_
  refine e▸?_
  exact(ho z hz).1
 cases hF with
 |full e=>
  subst e
  obtain⟨va,vx,vl,vh,rfl,ra,rx,rl,rh⟩:=r1.tZ
  cases r2.i7
  exact fin _ _ _ _ _ (hb _ _ _ (.inl ⟨rfl,_,_,_,_,rfl,rfl⟩)) ra rx rl rh rfl
 |short e e1 e2=>
  subst e e1 e2
  obtain⟨va,vx,rfl,ra,rx⟩:=r1.inv2
  cases r2.i7
  exact fin _ _ _ _ _ (hb _ _ _ (.inr (.inl ⟨rfl,_,_,rfl,rfl⟩))) ra rx ⟨_,rfl⟩ rfl rfl
 |fullK=>
  obtain⟨va,vx,vl,vh,rfl,ra,rx,rl,rh⟩:=r1.tZ
  refine ae r2.inv1 λvk LG rk=> ?_;subst LG
  exact fin _ _ _ _ _ (hb _ _ _ (.inr (.inr ⟨_,rfl,.inl ⟨_,_,_,_,rfl,rfl⟩⟩))) ra rx rl rh rk
 |shortK e1 e2=>
  subst e1 e2
  obtain⟨va,vx,rfl,ra,rx⟩:=r1.inv2
  obtain⟨vk,rfl,rk⟩:=r2.inv1
  exact fin _ _ _ _ _ (hb _ _ _ (.inr (.inr ⟨_,rfl,.inr (.inl ⟨_,_,rfl,rfl⟩)⟩))) ra rx ⟨_,rfl⟩ rfl rk
theorem jH {aa:Addr}{xs:List PV}{px:PV}{lo n:Nat}{hi:Option Nat}(hw:own.lookup aa=some (.lst xs)):dM (bH own (n+1)) [.raw (.ref aa),px,.int lo,bS hi]=[.lst (dM (bH own n) xs),res (bH own (n+1)) px,.int lo,bS hi]:=by
 simp only [k8,lg,xl]
 rw [show res (bH own (n+1)) (.raw (.ref aa))= .lst (dM (bH own n) xs) from by rw [jR,gq,hw] <;> rfl,show res (bH own (n+1)) (.int lo)= .int lo from rfl]
theorem fj (f:Addr->Option PV)(l:List PV):(dM f l).length=l.length:=by rw [mj];simp
noncomputable abbrev Seen (own:Own) (n:Nat) (xs:List PV):List PV:=dM (bH own n) xs
theorem xx (L:Lw C){aa:Addr}{xs:List PV}{px:PV}{lo:Nat}{hi:Option Nat}{j:Nat}{ps:List PV}{LD:List (Str×PV)}(n:Nat)(hF:Form (.raw (.ref aa)) px lo hi .none ps LD)(hw:own.lookup aa=some (.lst xs))
 (hz:xs.length<=sizeLine)(h1:lo<=j)(h2:j<=hi.getD xs.length)(h3:hi.getD xs.length<=xs.length)
 (lt:∀C',C.Le C'->∀m p,lo<=m->m < hi.getD xs.length->(Seen own n xs)[m]? =some p->Lt C' (res (bH own (n+1)) px) p (decide (j<=m))):
 gX C (k+2) own (aE own aa (.lst (bC xs j px))) (.ref BO) ps LD .none:=by
 have hb:aN C (k+1) own (.ref wx) [.raw (.ref aa),px,.int lo,bS hi] [] (.int j):=aN.frozen (n+1) trivial L.ok λC' l=>by
  rw [jH hw]
  have hl:=fj (bH own n) xs
  exact Dm (L.le l) (by rw [hl];exact hz) h1 (by rw [hl];exact h2) (by rw [hl];exact h3) (by refine hl▸?_;exact lt C' l)
 refine iy L L.ir s9 (.inl rfl) hF fR λW A env s t Wt q code rm X B=> ?_
 exact AE (n:=n) L (lookup_mem hw) (Hg h2 h3) hz hb rm (λ_=>rfl) X B λJ J' X' B'=>⟨⟨_,_,X'⟩,B',rfl⟩
theorem Bg (L:Lw C){aa:Addr}{xs:List PV}{px:PV}{lo:Nat}{hi:Option Nat}{j:Nat}{ps:List PV}{LD:List (Str×PV)}(n:Nat)(hF:Form (.raw (.ref aa)) px lo hi .none ps LD)(hw:own.lookup aa=some (.lst xs))
 (hz:xs.length<=sizeLine)(h1:lo<=j)(h2:j<=hi.getD xs.length)(h3:hi.getD xs.length<=xs.length)
 (lt:∀C',C.Le C'->∀m p,lo<=m->m < hi.getD xs.length->(Seen own n xs)[m]? =some p->Lt C' p (res (bH own (n+1)) px) (decide (m < j))):
 gX C (k+2) own (aE own aa (.lst (bC xs j px))) (.ref DE) ps LD .none:=by
 have hb:aN C (k+1) own (.ref wh) [.raw (.ref aa),px,.int lo,bS hi] [] (.int j):=aN.frozen (n+1) trivial L.ok λC' l=>by
  rw [jH hw]
  have hl:=fj (bH own n) xs
  exact Bx (L.le l) (by rw [hl];exact hz) h1 (by rw [hl];exact h2) (by rw [hl];exact h3) (by refine hl▸?_;exact lt C' l)
 refine iy L L.il tP (.inr (.inr (.inl rfl))) hF fR λW A env s t Wt q code rm X B=> ?_
 exact AS (n:=n) L (lookup_mem hw) (Hg h2 h3) hz hb rm (λ_=>rfl) X B λJ J' X' B'=>⟨⟨_,_,X'⟩,B',rfl⟩
structure nX (C:Cfg)(k:Nat)(fa:Addr)(κ:PV->PV)(M7:PV->Prop):Prop where
 fo:cF C fa
 cal:∀C',C.Le C'->∀p,M7 p->aN C' k [] (.ref fa) [p] [] (κ p)
 flat:∀p,M7 p->Flat (κ p)
theorem sQ {fa:Addr}{n:Nat}(MI:own.lookup fa=none):g9 (bH own (n+1)) [(("key":Str),PV.raw (.ref fa))]=[(("key":Str),PV.raw (.ref fa))]:=by
 simp only [tR,sE]
 rw [show res (bH own (n+1)) (.raw (.ref fa))= .raw (.ref fa) from by rw [jR,gq,MI] <;> rfl]
theorem pT {p:PV}{f:Addr->Option PV}(h:Flat p):res f p=p:=by cases p <;> first |rfl |exact h.elim
theorem zD (L:Lw C){fa:Addr}{κ:PV->PV}{M7:PV->Prop}(K:nX C k fa κ M7){aa:Addr}{xs:List PV}{px:PV}{lo:Nat}{hi:Option Nat}{j:Nat}{ps:List PV}{LD:List (Str×PV)}(n:Nat)(hF:Form (.raw (.ref aa)) px lo hi (.raw (.ref fa)) ps LD)(hw:own.lookup aa=some (.lst xs))(MI:own.lookup fa=none)
 (hz:xs.length<=sizeLine)(h1:lo<=j)(h2:j<=hi.getD xs.length)(h3:hi.getD xs.length<=xs.length)
 (O2:M7 (res (bH own (n+1)) px))(OK:∀p∈Seen own n xs,M7 p)
 (lt:∀C',C.Le C'->∀m p,lo<=m->m < hi.getD xs.length->(Seen own n xs)[m]? =some p->Lt C' (κ (res (bH own (n+1)) px)) (κ p) (decide (j<=m))):
 gX C (k+2) own (aE own aa (.lst (bC xs j px))) (.ref BO) ps LD .none:=by
 have hb:aN C (k+1) own (.ref wx) [.raw (.ref aa),κ (res (bH own (n+1)) px),.int lo,bS hi] [("key",.raw (.ref fa))] (.int j):=aN.frozen (n+1) trivial L.ok λC' l=>by
  rw [jH hw,sQ MI,pT (K.flat _ O2)]
  have hl:=fj (bH own n) xs
  exact zo (L.le l) (κ:=κ) (K.fo.le l) (by rw [hl];exact hz) h1 (by rw [hl];exact h2) (by rw [hl];exact h3) (by refine hl▸?_;exact lt C' l) (λm p _ _ e=>K.cal C' l p (OK p (List.mem_of_getElem? e)))
 refine iy L L.ir s9 (.inl rfl) hF fR λW A env s t Wt q code rm X B=> ?_
 exact xn (n:=n) L K.fo (lookup_mem hw) (Hg h2 h3) (aN.frozen (n+1) (K.flat _ O2) L.ok λC' l=>(K.cal C' l _ O2).mono (Iz _)) hz hb rm (λ_=>rfl) X B λJ J' X' B'=>⟨⟨_,_,X'⟩,B',rfl⟩
theorem zb (L:Lw C){fa:Addr}{κ:PV->PV}{M7:PV->Prop}(K:nX C k fa κ M7){aa:Addr}{xs:List PV}{px:PV}{lo:Nat}{hi:Option Nat}{j:Nat}{ps:List PV}{LD:List (Str×PV)}(n:Nat)(hF:Form (.raw (.ref aa)) px lo hi (.raw (.ref fa)) ps LD)(hw:own.lookup aa=some (.lst xs))(MI:own.lookup fa=none)
 (hz:xs.length<=sizeLine)(h1:lo<=j)(h2:j<=hi.getD xs.length)(h3:hi.getD xs.length<=xs.length)
 (O2:M7 (res (bH own (n+1)) px))(OK:∀p∈Seen own n xs,M7 p)
 (lt:∀C',C.Le C'->∀m p,lo<=m->m < hi.getD xs.length->(Seen own n xs)[m]? =some p->Lt C' (κ p) (κ (res (bH own (n+1)) px)) (decide (m < j))):
 gX C (k+2) own (aE own aa (.lst (bC xs j px))) (.ref DE) ps LD .none:=by
 have hb:aN C (k+1) own (.ref wh) [.raw (.ref aa),κ (res (bH own (n+1)) px),.int lo,bS hi] [("key",.raw (.ref fa))] (.int j):=aN.frozen (n+1) trivial L.ok λC' l=>by
  rw [jH hw,sQ MI,pT (K.flat _ O2)]
  have hl:=fj (bH own n) xs
  exact AB (L.le l) (κ:=κ) (K.fo.le l) (by rw [hl];exact hz) h1 (by rw [hl];exact h2) (by rw [hl];exact h3) (by refine hl▸?_;exact lt C' l) (λm p _ _ e=>K.cal C' l p (OK p (List.mem_of_getElem? e)))
 refine iy L L.il tP (.inr (.inr (.inl rfl))) hF fR λW A env s t Wt q code rm X B=> ?_
 exact xr (n:=n) L K.fo (lookup_mem hw) (Hg h2 h3) (aN.frozen (n+1) (K.flat _ O2) L.ok λC' l=>(K.cal C' l _ O2).mono (Iz _)) hz hb rm (λ_=>rfl) X B λJ J' X' B'=>⟨⟨_,_,X'⟩,B',rfl⟩
mutual
noncomputable def dat:PV->PyData
 | .bool b=> .bool b
 | .int i=> .int i
 | .str x=> .str x
 | .tup xs=> .tuple (gf xs)
 | .lst xs=> .list (gf xs)
 |_=> .none
noncomputable def gf:List PV->List PyData
 |[]=>[]
 |p::ps=>dat p::gf ps
end
theorem tc:gf []=([]):=rfl
theorem sF {p ps}:gf (p::ps)=(dat p::gf ps):=rfl
mutual
noncomputable def y9:PV->Bool
 | .none | .bool _ | .int _ | .str _=>true
 | .tup xs=>oQ xs
 | .lst xs=>oQ xs
 |_=>false
noncomputable def oQ:List PV->Bool
 |[]=>true
 |p::ps=>y9 p && oQ ps
end
theorem AO:oQ []=(true):=rfl
theorem zT {p ps}:oQ (p::ps)=(y9 p && oQ ps):=rfl
theorem pG:∀l,gf l=l.map dat:=by
 intro q0
 induction q0 with
 |nil=>
  exact rfl
 |cons p ps ih=>
  simp only [tc,sF,ih];rfl
theorem Rp.Dp {P:Addr->List DictEntry->List (Str×Value)->Prop}{N:Addr->Prop}{h:Heap}:
 (∀p v,Rp P N h v p->y9 p=true->∃as,Reads h v (dat p) as)/\(∀ps vs,aQ P N h vs ps->oQ ps=true->∃as,ReadsAll h vs (gf ps) as)/\∀_:List (Str×PV),True:=
 PV.ind (λ_ x _=>x▸⟨_,.none⟩) (λb _ x _=>x▸⟨_,.bool b⟩) (λi _ ⟨t,e⟩ _=>e▸⟨_,.int i t⟩) (λi _ ⟨t,e⟩ _=>e▸⟨_,.str i t⟩)
  (λ_ q _ x d=>g8 x λ_ vs e _ g r=>(q _ r d).elim λ_ ra=>e▸⟨_,.tuple g rfl (n:=0) (vs:=vs.toArray) rfl ra⟩)
  (λ_ q _ x d=>gm x λ_ vs m e _ g r=>(q _ r d).elim λ_ ra=>e▸⟨_,.list g rfl (n:=m) (vs:=vs.toArray) rfl ra⟩)
  (λ_ _ _ _=>nofun) (λ_ _ _=>nofun) (λ_ _ _=>nofun) (λ_ _ _ _ _=>nofun)
  (λ_ x _=>(show _=([]:List Value) from x)▸⟨_,.nil⟩)
  (λ_ _ q1 q2 _ x d=>bp x λ_ _ e x y=>have d':=(HO _ _).mp d;(q1 _ x d'.1).elim λ_ ra=>(q2 _ y d'.2).elim λ_ rb=>e▸⟨_,.cons ra rb⟩)
  trivial λ_ _ _ _ _=>trivial
theorem Rp.reads {P:Addr->List DictEntry->List (Str×Value)->Prop}{N:Addr->Prop}{h:Heap}{p:PV}{v:Value}:Rp P N h v p->y9 p=true->∃as,Reads h v (dat p) as:=Rp.Dp.1 p v
def kK (p:PV):Prop:=y9 p=true/\SeqAt.shaped (dat p)=true
theorem ak.deep (rm:ak A 0):A.units+64 < cLine:=by have:=rm.units;show A.units+64 < 9900;lia
theorem aj.Gj {p q:PV}(hp:kK p)(hq:kK q):aj C (compareOp .Eq) p q (.bool (PyData.eqv (dat p) (dat q))):=λW A s v u rm g h1 h2=>by
 obtain⟨as,ra⟩:=Rp.reads h1 hp.1
 obtain⟨bs,rb⟩:=Rp.reads h2 hq.1
 exact eq_dataH ra rb hp.2 hq.2 rm.deep ⟨ah.refl _,rfl⟩
theorem aj.Gp {p q:PV}(hp:kK p)(hq:kK q):aj C (compareOp .NotEq) p q (.bool (!PyData.eqv (dat p) (dat q))):=λW A s v u rm g h1 h2=>by
 obtain⟨as,ra⟩:=Rp.reads h1 hp.1
 obtain⟨bs,rb⟩:=Rp.reads h2 hq.1
 exact ne_dataH ra rb hp.2 hq.2 rm.deep ⟨ah.refl _,rfl⟩
theorem mJ {p:PV}:y9 p=true->PyData.eqv (dat p) (dat p)=true:=
 (PV.ind (M:=λp=>y9 p=true->PyData.eqv (dat p) (dat p)=true) (ML:=λps=>oQ ps=true->PyData.eqvAll (gf ps) (gf ps)=true) (MD:=λ_=>True)
  (λ_=>rfl) (λb _=>by show PyData.eqv (.bool b) (.bool b)=true;simp [PyData.eqv]) (λi _=>by show PyData.eqv (.int i) (.int i)=true;simp [PyData.eqv]) (λi _=>by show PyData.eqv (.str i) (.str i)=true;simp [PyData.eqv])
  (λ_ q d=>q d) (λ_ q d=>q d) (λ_ _=>nofun) (λ_=>nofun) (λ_=>nofun) (λ_ _ _=>nofun) (λ_=>rfl)
  (λ_ _ q1 q2 d=>have d':=(HO _ _).mp d;(HO _ _).mpr ⟨q1 d'.1,q2 d'.2⟩)
  trivial λ_ _ _ _ _=>trivial).1 p
theorem aj.oD {p:PV}(hp:kK p):aj C (compareOp .Eq) p p (.bool true):=(aj.Gj hp hp).conv (by rw [mJ hp.1])
theorem aj.fB {p:PV}(hp:kK p):aj C (compareOp .NotEq) p p (.bool false):=(aj.Gp hp hp).conv (by refine(mJ hp.1)▸?_;rfl)
theorem AR {xs:List PV}:PyData.eqv (dat (.lst xs)) (dat (.lst []))=xs.isEmpty:=by
 cases xs <;> rfl
noncomputable def rQ:Nat->PV->Bool
 |_,.none=>true
 |_,.bool _=>true
 |_,.int _=>true
 |_,.str x=>PyData.strOk x
 |n+1,.lst xs=>xs.all (rQ n)
 |n+1,.tup xs=>xs.all (rQ n)
 |_,_=>false
theorem yx {v1 x}:rQ v1 (.str x)=(PyData.strOk x):=by cases v1 <;> rfl
theorem lT {n xs}:rQ (n+1) (.lst xs)=(xs.all (rQ n)):=rfl
theorem CU {n xs}:rQ (n+1) (.tup xs)=(xs.all (rQ n)):=rfl
theorem yq (n:Nat)(ih:∀p,rQ n p=true->y9 p=true/\(dat p).canLay0=true/\(dat p).depth<=n):∀xs:List PV,xs.all (rQ n)=true->oQ xs=true/\PyData.canLayAll0 (gf xs)=true/\PyData.depthAll (gf xs)<=n
 |[],_=>⟨rfl,rfl,HK _⟩
 |p::ps,h=>by
  simp only [List.all_cons,HO] at h
  refine⟨by simp only [AO,zT,(ih p h.1).1,(yq n ih ps h.2).1];rfl,by simp only [tc,sF,PyData.canLayAll0,(ih p h.1).2.1,(yq n ih ps h.2).2.1];rfl,?_⟩
  exact Nat.max_le.mpr ⟨(ih p h.1).2.2,(yq n ih ps h.2).2.2⟩
theorem mF:∀(n:Nat)(p:PV),rQ n p=true->y9 p=true/\(dat p).canLay0=true/\(dat p).depth<=n
 |n,.none,_=>⟨rfl,rfl,HK _⟩
 |n,.bool _,_=>⟨rfl,rfl,HK _⟩
 |n,.int _,_=>⟨rfl,rfl,HK _⟩
 |n,.str x,h=>⟨rfl,by cases n <;> exact h,HK _⟩
 |n+1,.lst xs,h=>by
  refine cZ (yq n (mF n) xs h) λa1 a2 a3=> ?_
  exact⟨a1,a2,I9 a3⟩
 |n+1,.tup xs,h=>by
  refine cZ (yq n (mF n) xs h) λa1 a2 a3=> ?_
  exact⟨a1,a2,I9 a3⟩
 |0,.lst _,h=>(HS h).elim
 |0,.tup _,h=>(HS h).elim
 |n,.au _,h=>by cases n <;> exact(HS h).elim
 |n,.raw _,h=>by cases n <;> exact(HS h).elim
 |n,.obj _,h=>by cases n <;> exact(HS h).elim
 |n,.inst _ _,h=>by cases n <;> exact(HS h).elim
theorem dh {n:Nat}{p:PV}(h:rQ n p=true)(hn:n<=64):kK p:=by
 refine⟨(mF n p h).1,?_⟩
 unfold SeqAt.shaped
 rw [(mF n p h).2.1,Jy]
 exact HD (Hg (mF n p h).2.2 hn)
theorem Af {n:Nat}{i:Int}:rQ n (.int i)=true:=by cases n <;> rfl
theorem tN {vs:List Value}{ps:List PV}{n:Nat}{tk:Nat}(g:Gd C W s)(r:fe C W s.heap vs ps):ah C [] s {s with heap:=s.heap.push (ao vs n),toks:=tk}/\Rr C W (s.heap.push (ao vs n)) (.ref s.heap.objs.size) (.lst ps):=
 ⟨ah.push _ _,_,vs,n,rfl,g.fresh,Heap.get?_push_size _ rfl,(ah.push (C:=C) (W:=W) (s:=s) (ao vs n) s.toks).DT r⟩
theorem zU {vs:List Value}{ps:List PV}{tk:Nat}(g:Gd C W s)(r:fe C W s.heap vs ps):ah C [] s {s with heap:=s.heap.push (dX vs),toks:=tk}/\Rr C W (s.heap.push (dX vs)) (.ref s.heap.objs.size) (.tup ps):=
 ⟨ah.push _ _,_,vs,rfl,g.fresh,Heap.get?_push_size _ rfl,(ah.push (C:=C) (W:=W) (s:=s) (dX vs) s.toks).DT r⟩
theorem aj.u6 {ps qs:List PV}(hz:ps.length+qs.length<=sizeLine):aj C (binaryOp .Add) (.lst ps) (.lst qs) (.lst (ps ++ qs)):=λW A s v u rm g h1 h2=>by
 refine gm h1 λa vs n L1 na ga ra=> ?_;refine L1▸?_
 refine gm h2 λb us m L1 nb gb rb=> ?_;refine L1▸?_
 have e:s.heap.push {cls:= .type "list",data:= .seq (vs.toArray ++ us.toArray)}=s.heap.push (ao (vs ++ us) 0):=by unfold ao;rw [List.append_toArray]
 refine PySem.P.add_list ga gb ?_ (by simpa [aQ.length ra,aQ.length rb] using hz)
 refine e▸?_
 exact tN g (aQ.append ra rb)
theorem aj.Ft {ps qs:List PV}(hp:ps≠[])(hq:qs≠[])(hz:ps.length+qs.length<=sizeLine):aj C (binaryOp .Add) (.tup ps) (.tup qs) (.tup (ps ++ qs)):=λW A s v u rm g h1 h2=>by
 refine g8 h1 λa vs G' na ga ra=> ?_;refine G'▸?_
 refine g8 h2 λb us G' nb gb rb=> ?_;refine G'▸?_
 have e:s.heap.push {cls:= .type "tuple",data:= .seq (vs.toArray ++ us.toArray)}=s.heap.push (dX (vs ++ us)):=by unfold dX;rw [List.append_toArray]
 have la:=aQ.length ra
 have lb:=aQ.length rb
 have h1:¬vs.toArray.isEmpty=true:=by
  intro q
  have e:vs=[]:=by simpa using q
  rw [e] at la
  exact hp (Ir.mp la.symm)
 have h2:¬us.toArray.isEmpty=true:=by
  intro q
  have e:us=[]:=by simpa using q
  rw [e] at lb
  exact hq (Ir.mp lb.symm)
 refine PySem.P.add_tuple ga gb h1 h2 ?_ (by simp_all)
 refine e▸?_
 exact zU g (aQ.append ra rb)
theorem wk {vs:List Value}:∀n,List.foldl (λx1 x2=>x1 ++ x2) #[] (List.replicate n vs.toArray)=(List.replicate n vs).flatten.toArray:=by
 have gen:∀(l:List (List Value)) (acc:Array Value),List.foldl (λx1 x2=>x1 ++ x2) acc (l.map List.toArray)=acc ++ l.flatten.toArray:=by
  intro l
  induction l with
  |nil=>intro acc;rfl
  |cons x l ih=>intro acc;simp only [Hm,Ia,ih,Jl];simp
 intro n
 have:=gen (List.replicate n vs) #[]
 rw [List.map_replicate] at this
 rw [this];simp
theorem aQ.rep {P:Addr->List DictEntry->List (Str×Value)->Prop}{N:Addr->Prop}{h:Heap}{ps:List PV}{vs:List Value}(r:aQ P N h vs ps):∀n,aQ P N h (List.replicate n vs).flatten (List.replicate n ps).flatten:=by
 intro q0
 induction q0 with
 |zero=>
  exact rfl
 |succ n ih=>
  exact aQ.append r (ih)
theorem aj.mulL {ps:List PV}{n:Int}(h0:0<=n)(hn:n<=1000)(hl:ps.length<=1000):aj C (binaryOp .Mult) (.lst ps) (.int n) (.lst (List.replicate n.toNat ps).flatten):=λW A s v u rm g h1 h2=>by
 refine gm h1 λa vs m L1 na ga ra=> ?_;subst L1
 obtain⟨tk,rfl⟩:=h2
 have hmul:vs.toArray.size*n.toNat<=1000*1000:=Nat.mul_le_mul (by simpa [(aQ.length ra)] using hl) (by simp_all)
 have e:List.foldl (λx1 x2=>x1 ++ x2) #[] (List.replicate (if vs.toArray.isEmpty=true then 0 else n.toNat) vs.toArray)=(List.replicate n.toNat vs).flatten.toArray:=by
  by_cases hv:vs=[]
  ·rw [hv];simp
  ·rw [if_neg (by simpa using hv),wk]
 refine wpAny_binaryOp_repeat_ref (T:="list") (U:="int") (by rfl) ⟨_,ga,rfl⟩ (λJ=>typeIs_int J n tk) noFill_list_mul PySem.F.fills_int_mul PySem.F.slot_int_rmul repeat_list PySem.F.slot_int_index.lookup
  (KX PySem.F.slot_int_rmul (typeIs_int s n tk) PySem.F.entry_int_rmul (PySem.F.args_int_rmul_2 _ _) (int___rmul___int_list n tk a vs.toArray m)
   ⟨ga,rfl,⟨_,ga,rfl⟩,KX PySem.F.slot_list_mul ⟨_,ga,rfl⟩ PySem.F.entry_list_mul (PySem.F.args_list_mul_2 _ _)
    (PySem.AutoListH.list___mul___list_int_3 a vs.toArray m n tk (by simp [Builtin.List.listFitsIndex];lia) (by lia) (by simp only [Builtin.List.listTooLong,sizeLine];simpa using Hg hmul (by decide)))
    ⟨ga,?_⟩⟩)
 refine e▸?_
 exact tN (n:=0) g (aQ.rep ra _)
theorem jD {P:Addr->List DictEntry->List (Str×Value)->Prop}{N:Addr->Prop}{h:Heap}:∀{ys:List Str}{vs:List Value},aQ P N h vs (ys.map .str)->StrsAre vs ys
 |[],vs,r=>by refine(show vs=[] from r)▸?_;exact .nil
 |y::ys,_,⟨v,r,e,⟨t,e'⟩,x⟩=>by subst e';subst e;exact .cons y t (jD x)
theorem cC.join {x:Str}{ys:List Str}{ps:List PV}(hp:ps=ys.map .str)(L8:(ys.map (·.length)).sum+ys.length*x.length<=16777216):cC C k (.builtin "str.join") [.str x,.lst ps] (.str (Txt.join x ys)):=λW A s vs rm g r=>by
 obtain⟨v,u,rfl,⟨tk,rfl⟩,⟨a,us,m,rfl,na,ga,ra⟩⟩:=r.inv2
 subst hp
 exact PyProof.Rows.join_list (aP ga) ((jD ra)) L8 λt' k'=>⟨ah.tok _,_,rfl⟩
theorem aj.G3 {x y:Str}:aj C (compareOp .In) (.str y) (.str x) (.bool (!(Builtin.Str.occurrences x y 0 x.length 1).isEmpty)):=λW A s v u _ g h1 h2=>by
 obtain⟨t,rfl⟩:=h1;obtain⟨t',rfl⟩:=h2
 exact PySem.P.in_str ⟨ah.refl _,rfl⟩
theorem d7 {v:Value}{i:Option Int}(h:IsPart v i):∃p:Option (Int×Tok),partValue p=v/\p.map (·.1)=i:=by
 cases h with
 |none=>exact⟨none,rfl,rfl⟩
 |int i t=>exact⟨some (i,t),rfl,rfl⟩
noncomputable def eb (x:Str) (i j l:Option Int):Str:=
 if(l.getD 1==1 && (Builtin.Str.strSliceIndices i j (l.getD 1) x.length).length==x.length)=true then x else⟨((Builtin.Str.strSliceIndices i j (l.getD 1) x.length).filterMap (x.cps[·]?)).toArray⟩
theorem Ev.eb {v:Expr}{lo hi st:Option Expr}{sp:Pos}{x:Str}{i j l:Option Int}(h1:Ev C k sc own ρ v (.str x))(h2:eh C k sc own ρ lo i)(h3:eh C k sc own ρ hi j)(h4:eh C k sc own ρ st l)(h0:l≠Option.some 0)(hz:x.length<=sizeLine)(M0:(Internal.eb x i j l).length<=sizeLine)
 (hs:∀o i',∃ops,subscripted (.Slice lo hi st sp) false o i'=operate ops (getItem o i'))(ht:∀o r,letTemporaryGo v o r=pure ()):Ev C k sc own ρ (.Subscript v (.Slice lo hi st sp) pos) (.str (Internal.eb x i j l)):=λW A env s rm X=>by
 refine JQ (Hb (h1 W A env s rm X) ?_ λ_ _ q=>q.elim)
 rintro o s1 ⟨e1,tk,rfl⟩
 refine wpAny_Slice (Hb (h2 W A env s1 rm (X.aA e1)) ?_ λ_ _ q=>q.elim)
 rintro a1 s2 ⟨e2,p2⟩
 refine Hb (h3 W A env s2 rm ((X.aA e1).aA e2)) ?_ λ_ _ q=>q.elim
 rintro a2 s3 ⟨e3,p3⟩
 refine Hb (h4 W A env s3 rm (((X.aA e1).aA e2).aA e3)) ?_ λ_ _ q=>q.elim
 rintro a3 s4 ⟨e4,p4⟩
 refine ae (d7 p2) λq2 LG G'=> ?_;subst LG G'
 refine ae (d7 p3) λq3 LG G'=> ?_;subst LG G'
 refine ae (d7 p4) λq4 LG G'=> ?_;subst LG G'
 have e5:ah C [] s4 {s4 with heap:=s4.heap.push {cls:= .type "slice",data:= .fields #[partValue q2,partValue q3,partValue q4]}}:=ah.push _ s4.toks
 refine cz (hs (.str x tk) (.ref s4.heap.objs.size)) λops Nv=> ?_
 refine KR (typeIs_str _ x tk) slot_str_getitem.lookup (PySem.wpAny_getItem_str_slice (l:=q2) (u:=q3) (st:=q4) ⟨_,Heap.get?_push_size _ rfl,rfl,rfl⟩ ?_ ?_) Nv (ht _)
 ·cases q4 with
  |none=>rfl
  |some q=>
   have:q.1≠0:=λe=>h0 (by simp [e])
   simpa using this
 ·unfold sliceMade
  refine post_val_or_str ⟨M0,λt' k'=>⟨((((e1.trans e2).trans e3).trans e4).trans e5).trans (ah.tok _),t',rfl⟩⟩
theorem eJ {h:Heap}{a:Addr}{ds:List DictEntry}{n:Nat}{kvs:List (Str×Value)}(g:h.get? a=some (bj ds n))(sd:C.S a ds kvs):h.DictAt (strKind C.prog C.w) a kvs n:=
 ⟨_,ds.toArray,g,⟨rfl,rfl,rfl⟩,rfl,sd.2.1,by simpa using sd.2.2.1,sd.2.2.2⟩
theorem iP {a:Addr}{ds:List DictEntry}{kvs:List (Str×Value)}(sd:C.S a ds kvs):(a==sysModules)=false:=by simpa using sd.1
theorem mY {x:Str}{v:Value}(h:(strKind C.prog C.w).is x v=true):∃t,v= .str x t:=by
 have h':Value.isStrOf x v=true:=h
 cases v <;> simp [Value.isStrOf] at h'
 exact⟨_,by rw [h']⟩
theorem bz.at {P:Addr->List DictEntry->List (Str×Value)->Prop}{N:Addr->Prop}{h:Heap}:∀{es:List (Str×PV)}{kvs:List (Str×Value)},bz P N h kvs es->∀{i:Nat}{x:Str}{v:Value},kvs[i]? =some (x,v)->∃p,es[i]? =some (x,p)/\Rp P N h v p
 |[],_,e,i,x,v,h=>by rw [show _=([]:List (Str×Value)) from e] at h;simp at h
 |(q,p)::ps,_,⟨u,r,e,y,z⟩,0,x,v,h=>by
  subst e
  simp at h
  obtain⟨rfl,rfl⟩:=h
  exact⟨p,rfl,y⟩
 |(q,p)::ps,_,⟨u,r,e,y,z⟩,i+1,x,v,h=>by
  subst e
  simp at h
  refine ae (bz.at z h) λp' e1 e2=> ?_
  exact⟨p',by simpa using e1,e2⟩
theorem bz.length {P:Addr->List DictEntry->List (Str×Value)->Prop}{N:Addr->Prop}{h:Heap}{es:List (Str×PV)}{kvs:List (Str×Value)}(r:bz P N h kvs es):kvs.length=es.length:=by
 have:=Hx List.length (bz.keys r)
 simpa using this
theorem aX.values {o:Expr}{apos:Pos}{es:List (Str×PV)}(ho:Ev C k sc own ρ o (.au es))(hz:es.length<=sizeLine)
 (Ln:∀env,attributeBase o "values" env (eval o env)=eval o env)(Lp:(apos.endLine==pos.line)=true):
 aX C k sc own ρ (.Call (.Attribute o "values" apos) [] [] pos) (es.map (·.2)):=λW A env s rm X=>by
 refine IE (Ln env) rfl Lp ID I8 PySem.F.type_dict_values (Hb (ho W A env s rm X) ?_ λ_ _ q=>q.elim)
 rintro v s1 ⟨e1,r1⟩
 refine c5 (fY.au W s1 v r1) λh1 h2=> ?_
 refine⟨h1,h2,J3 ?_⟩
 obtain⟨a,ds,n,kvs,rfl,f,g,sd,r⟩:=r1
 refine Kl I8 h1 K2 (KJ _) (meets_dict_values (strKind C.prog C.w) a (iP sd)) ⟨⟨_,aU g sd⟩,?_⟩
 have e2:ah C [] s1 {s1 with heap:=s1.heap.push {cls:= .type "dict_values",data:= .fields #[.ref a]}}:=ah.push _ s1.toks
 refine⟨e1.trans e2,λA' Q E hQ=> ?_⟩
 have g2:(s1.heap.push {cls:= .type "dict_values",data:= .fields #[.ref a]}).get? a=some (bj ds n):=Heap.get?_push_of_some _ g
 refine wpAny_pyIter_values (s:={s1 with heap:=s1.heap.push {cls:= .type "dict_values",data:= .fields #[.ref a]}}) ⟨_,Heap.get?_push_size _ rfl,rfl,rfl⟩ (eJ g2 sd) ?_
 generalize Pk:({s1 with heap:=s1.heap.push {cls:= .type "dict_values",data:= .fields #[.ref a]}}:Shared)=s2 at *
 have R0:s2.heap=s1.heap.push {cls:= .type "dict_values",data:= .fields #[.ref a]}:=by rw [<-Pk]
 replace g2:=R0▸g2
 have ep:ah C [] s2 {s2 with heap:=s2.heap.push {cls:= .type "dict_valueiterator",data:= .fields #[.ref a,.int (0:Nat) 0,.int kvs.length 0,.int n 0]}}:=ah.push _ s2.toks
 refine hQ _ _ ep (Src.sq ⟨s2.heap.objs.size,[s2.heap.objs.size,a],λi v=>∃k,kvs[i]? =some (k,v),λi h=>h.IsValIter s2.heap.objs.size a i kvs.length n/\h.DictAt (strKind C.prog C.w) a kvs n,{it:=rfl,lo:=Hh _,hi:=cg,walks:= ?_,st:= ?_,safe:= ?_,sz:=by rw [Hd];exact hz,val:= ?_,obj:= ?_,nt:=((X.aA e1).aA e2).inv.fresh}⟩)
 ·intro A' hh
  simp only [Hd,<-(bz.length r)]
  exact Walks.dictValues hh s2.heap.objs.size a (H2 (Hp g2)) kvs n
 ·exact⟨⟨_,Heap.get?_push_size _ rfl,rfl,rfl⟩,eJ (Heap.get?_push_of_some _ g2) sd⟩
 ·intro b hb
  rcases Hf.mp hb with rfl |hb
  ·exact .inl rfl
  ·rw [Hi.mp hb]
   exact .inr ⟨Hp g2,f,_,Heap.get?_push_of_some _ g2,λ_=>nofun⟩
 ·intro i v zz J W' hW e';refine cz zz λx hx=> ?_
  have r3:=bz.eY (N.less hW e' ep) (bz.mono e2.up.k r)
  refine ae (bz.at r3 hx) λp e1 e2=> ?_
  exact⟨p,by simp only [List.getElem?_map,e1];rfl,e2⟩
 ·intro i h zz;refine c5 zz λz2 _=> ?_;refine iI z2 λo ho hc hd=> ?_
  exact⟨o,ho,⟨⟨_,hc⟩,_,hd,by simp,by intro q t e;cases e⟩,_,hc,by rfl⟩
theorem aj.inD {es:List (Str×PV)}{x:Str}:aj C (compareOp .In) (.str x) (.au es) (.bool (es.lookup x).isSome):=λW A s v u rm g h1 h2=>by
 obtain⟨t,rfl⟩:=h1
 obtain⟨a,ds,n,kvs,rfl,f,g',sd,r⟩:=h2
 have e:(valueAt kvs x).isSome=(es.lookup x).isSome:=by
  cases q:es.lookup x with
  |none=>rw [bz.h8 r q];rfl
  |some p=>refine ae (bz.find r q) λv h _=> ?_;rw [h];rfl
 refine wpAny_in_of (mL x t) (iP sd) (aU g' sd).mapOf ?_
 refine e▸?_
 exact⟨ah.tok _,rfl⟩
theorem aj.FV {es:List (Str×PV)}{x:Str}:aj C (compareOp .NotIn) (.str x) (.au es) (.bool (!(es.lookup x).isSome)):=λW A s v u rm g h1 h2=>by
 obtain⟨t,rfl⟩:=h1
 obtain⟨a,ds,n,kvs,rfl,f,g',sd,r⟩:=h2
 have e:(valueAt kvs x).isSome=(es.lookup x).isSome:=by
  cases q:es.lookup x with
  |none=>rw [bz.h8 r q];rfl
  |some p=>refine ae (bz.find r q) λv h _=> ?_;rw [h];rfl
 refine wpAny_notIn_of (mL x t) (iP sd) (aU g' sd).mapOf ?_
 refine e▸?_
 exact⟨ah.tok _,rfl⟩
theorem zw {h:Heap}{I d:Addr}{i n ep:Nat}{slot ok ov:Value}(e:h.get? I=some {cls:= .type "dict_itemiterator",dict:=none,data:= .fields #[slot,.bool false,.ref d,.int i 0,.int n 0,.int ep 0,ok,ov],slots:=#[]}):∃o,h.get? I=some o/\dQ o:=
 ⟨_,e,⟨_,rfl⟩,_,rfl,by simp,by intro q t e;cases e⟩
noncomputable def cj (es:List (Str×PV)):List PV:=es.map λe=> .tup [.str e.1,e.2]
theorem aX.items {o:Expr}{apos:Pos}{es:List (Str×PV)}(ho:Ev C k sc own ρ o (.au es))(hz:es.length<=sizeLine)
 (Ln:∀env,attributeBase o "items" env (eval o env)=eval o env)(Lp:(apos.endLine==pos.line)=true):
 eu true C k sc own ρ (.Call (.Attribute o "items" apos) [] [] pos) (cj es):=λW A env s rm X=>by
 refine IE (Ln env) rfl Lp ID PySem.F.slot_dict_items PySem.F.type_dict_items (Hb (ho W A env s rm X) ?_ λ_ _ q=>q.elim)
 rintro v s1 ⟨e1,r1⟩
 refine c5 (fY.au W s1 v r1) λh1 h2=> ?_
 refine⟨h1,h2,J3 ?_⟩
 obtain⟨a,ds,n,kvs,rfl,f,g,sd,r⟩:=r1
 have hlen:=bz.length r
 refine Kl PySem.F.slot_dict_items h1 PySem.F.entry_dict_items (PySem.F.args_dict_items_1 _) (meets_dict_items (strKind C.prog C.w) a (iP sd)) ⟨⟨_,aU g sd⟩,?_⟩
 have e2:ah C [] s1 {s1 with heap:=s1.heap.push {cls:= .type "dict_items",data:= .fields #[.ref a]}}:=ah.push _ s1.toks
 refine⟨e1.trans e2,λA' Q E hQ=> ?_⟩
 have X2:=(X.aA e1).aA e2
 have g2:(s1.heap.push {cls:= .type "dict_items",data:= .fields #[.ref a]}).get? a=some (bj ds n):=Heap.get?_push_of_some _ g
 have r2:=bz.mono e2.up.k r
 refine wpAny_pyIter_items (s:={s1 with heap:=s1.heap.push {cls:= .type "dict_items",data:= .fields #[.ref a]}}) ⟨_,Heap.get?_push_size _ rfl,rfl,rfl⟩ (eJ g2 sd) ?_
 generalize Pk:({s1 with heap:=s1.heap.push {cls:= .type "dict_items",data:= .fields #[.ref a]}}:Shared)=s2 at *
 have R0:s2.heap=s1.heap.push {cls:= .type "dict_items",data:= .fields #[.ref a]}:=by rw [<-Pk]
 replace g2:=R0▸g2
 have ep:ah C [] s2 {s2 with heap:=s2.heap.push {cls:= .type "dict_itemiterator",data:= .fields #[.none,.bool false,.ref a,.int (0:Nat) 0,.int kvs.length 0,.int n 0,.none,.none]}}:=ah.push _ s2.toks
 have TK:a < s2.heap.objs.size:=Hp g2
 have OJ:∀{J},Kp C W s2.heap.objs.size {s2 with heap:=s2.heap.push {cls:= .type "dict_itemiterator",data:= .fields #[.none,.bool false,.ref a,.int (0:Nat) 0,.int kvs.length 0,.int n 0,.none,.none]}} J->J.heap.get? a=some (bj ds n):=λkp=>kp a _ f (Heap.get?_push_of_some _ g2) (λ_=>nofun) TK
 refine hQ _ _ ep ⟨s2.heap.objs.size,λi h=>∃ok ov,IsItemIter h s2.heap.objs.size a i kvs.length n ok ov/\h.get? a=some (bj ds n),{it:=rfl,lo:=Hh _,hi:=cg,st:= ?_,sz:=by simp only [cj,Hd];exact hz,obj:= ?_,nt:=X2.inv.fresh,frame:= ?_,step:= ?_,done:= ?_,self:= ?_}⟩
 ·exact⟨_,_,Heap.get?_push_size _ rfl,Heap.get?_push_of_some _ g2⟩
 ·intro i h zz;refine aL zz λok ov e _=> ?_
  exact zw e
 ·intro i f' y' k1 zz k2 hI;refine aL zz λok ov e _=> ?_
  exact⟨ok,ov,hI _ e,OJ k2⟩
 ·intro A hA i J target W' post E hi ht zz kp hW Mb hQ;refine aL zz λok ov hit OH=> ?_
  have ND:i < kvs.length:=by simp only [cj,Hd] at hi;rw [hlen];exact hi
  have hx:kvs[i]? =some kvs[i]:=by simp [ND]
  obtain⟨⟨x,u⟩,P9⟩:∃y,kvs[i]=y:=⟨_,rfl⟩
  replace hx:=P9▸hx
  refine ae (bz.at r2 hx) λp hp _=> ?_
  refine wpAny_pyNext_items_item (knd:=strKind C.prog C.w) hit (eJ OH sd) hx λkey h' Mf OG RL hz hk=> ?_
  obtain⟨tk,rfl⟩:=mY Mf
  refine hQ _ _ λQ E' q=> ?_
  cases target with
  |Tuple elts ctx tp=>
   refine wpAny_letOwnedTupleGo_items OG λRD P0 hs=> ?_
   have MT:s2.heap.objs.size < J.heap.objs.size:=Hp hit
   have kk:∀b o,b≠s2.heap.objs.size->J.heap.get? b=some o->RD.get? b=some o:=λb o hb e=>(hs.2 b hb).trans (hk b o hb e)
   refine q (.tup [.str x,p]) RD J.toks (by simp only [cj,List.getElem?_map,hp];rfl) ⟨_,_,P0,kk _ _ (H2 TK) OH⟩ kk (by simp only [hs.1,hz];exact Iz _) ?_
   have hv:Rr C W' RD u p:=by
    refine ae (bz.at (bz.eY (N':=C.N W') (λb o n g nc=>⟨λq=>(by
     rcases q with q |q
     ·exact n (.inl q)
     ·rcases hW b q with q |q
      ·exact n (.inr q)
      ·exact HB _ (Hn (Hp g) q)),kk b o (H2 (Hp g)) (kp b o n (ep.keep _ _ (λq=>n (.inl q)) (by simp) g) nc (Hp g))⟩) r2) hx) λp' Qu rp=> ?_
    replace Qu:=hp▸Qu;cases Qu
    exact rp
   refine⟨J.heap.objs.size,[.str x tk,u],rfl,λq=> ?_,(hs.2 _ (IW MT)).trans RL,_,_,rfl,⟨tk,rfl⟩,_,_,rfl,hv,rfl⟩
   rcases q with q |q
   ·exact HB _ (Kf (X2.inv.fV _ q) MT)
   ·exact HB _ (Mb _ q)
  |_=>exact absurd (ht rfl) (by intro h;cases h)
 ·intro A hA J Q E zz hQ;refine aL zz λok ov hit OH=> ?_
  rw [(by simp only [cj,Hd,hlen]:(cj es).length=kvs.length)] at hit
  exact ba (wpAny_pyNext_items_end hA hit (eJ OH sd) (by simp) λh' Nf hz=>hQ h' J.toks Nf hz)
 ·intro A hA J Q E zz hQ;refine aL zz λok ov hit OH=> ?_
  have hT:J.TypeIs (.ref s2.heap.objs.size) "dict_itemiterator":=⟨_,hit,rfl⟩
  refine wpAny_pyIter_slot hT JP (Jc JP hT (show entryFor table "dict_itemiterator.__iter__"=some Builtin.«dict_keyiterator.__iter__» from entryFor_alias (id':="dict_keyiterator.__iter__") (by kernel_rfl) rfl (by kernel_rfl!) (by kernel_rfl)) ?_ (PySem.F.args_dict_itemiterator_iter_1 _))
  show wpAny _ _ (ret (.ref s2.heap.objs.size)) _ _ J
  exact Hj ⟨_,rfl,"dict_itemiterator",_,hT,PySem.F.slot_dict_itemiterator_next.lookup,hQ⟩
theorem cC.get {es:List (Str×PV)}{x:Str}{d:PV}:cC C k (.builtin "dict.get") [.au es,.str x,d] ((es.lookup x).getD d):=λW A s vs rm g r=>by
 obtain⟨v1,v2,v3,rfl,r1,⟨t,rfl⟩,r3⟩:=r.Fo
 have hT:=(fY.au W s v1 r1).1
 obtain⟨a,ds,n,kvs,rfl,f,g',sd,r⟩:=r1
 refine Kl IZ hT PySem.F.entry_dict_get (PySem.F.args_dict_get_3 _ _ _) (meets_dict_get_default (strKind C.prog C.w) a (mL x t) (iP sd) v3) ⟨_,(aU g' sd).mapOf,?_⟩
 refine⟨ah.tok _,?_⟩
 cases q:es.lookup x with
 |none=>refine(bz.h8 r q)▸?_;exact r3
 |some p=>
  refine ae (bz.find r q) λv h hv=> ?_
  refine h▸?_
  exact hv
theorem cC.dict {es:List (Str×PV)}(hz:es.length<=sizeLine):cC C k (.type "dict") [.au es] (.au es):=λW A s vs rm g r=>by
 obtain⟨v,rfl,a,ds,n,kvs,rfl,f,g',sd,r⟩:=r.inv1
 refine kt_call_dict (knd:=strKind C.prog C.w) (iP sd) (aU g' sd) (by rw [bz.length r];exact hz) λh' hd hs=> ?_
 have e:ah C [] s {s with heap:=h'}:=ah.of_keeps (tk:=s.toks) (λb o e=>(hs.2 b (H2 (Hp e))).trans (Heap.get?_push_of_some _ e)) (by rw [hs.1];exact H3 cg)
 refine aL (fF hd g.inv.gv) λQn n' g2 Vs=> ?_
 exact⟨e,_,Qn,n',kvs,rfl,g.fresh,g2,Vs,bz.mono e.up.k r⟩
theorem cC.min2 {a b:Int}:cC C k (.builtin "min") [.int a,.int b] (.int (if b < a then b else a)):=λW A s vs rm g r=>by
 refine bp r.inv2 λv u T8 VP UE=> ?_;rw [T8];refine cz VP λt Vq=> ?_;refine Vq▸?_;refine cz UE λt' UT=> ?_;refine UT▸?_
 refine ba (min_two_ints rm.handled λh' tk hk hz=> ?_)
 refine⟨ah.of_keeps hk hz,?_⟩
 split
 ·exact⟨_,rfl⟩
 ·exact⟨_,rfl⟩
theorem cC.chr {i:Int}(h0:0<=i)(h1:i<=0x10FFFF):cC C k (.builtin "chr") [.int i] (.str ⟨#[i.toNat]⟩):=λW A s vs rm g r=>by
 obtain⟨v,rfl,⟨t,rfl⟩⟩:=r.inv1
 exact PySem.P.chr_of_int (by simp_all) ⟨ah.tok _,_,rfl⟩
theorem cC.ord {x:Str}(h1:x.length=1):cC C k (.builtin "ord") [.str x] (.int (x.cps.getD 0 0:Nat)):=λW A s vs rm g r=>by
 obtain⟨v,rfl,⟨t,rfl⟩⟩:=r.inv1
 exact PyProof.Rows.ord_of_one h1 ⟨ah.tok _,_,rfl⟩
theorem cC.EK {b:Bool}:cC C k (.type "int") [.bool b] (.int (if b then 1 else 0)):=λW A s vs rm g r=>by
 refine ae r.inv1 λv LG h=> ?_;refine LG▸?_
 refine(show v= .bool b from h)▸?_
 exact call_int_bool ⟨ah.tok _,_,rfl⟩
theorem Ev.mh {x:Str}{px:Pos}{a:Expr}{args:List Expr}{T:String}{ps:List PV}{r:PV}(hf:Ev C k sc own ρ (.Name x px) (.raw (.type T)))(ha:ab C k sc own ρ (a::args) ps)(hc:cC C k (.type T) ps r)
 (he:autoParam (∀env,starEach (a::args) env=(false,eval a env)::starEach args env) ng)(LU:autoParam (∀env,(backTo pos (starEach args env)).any (·.1)=false) ng):
 Ev C k sc own ρ (.Call (.Name x px) (a::args) [] pos) r:=λW A env s rm X=>by
 refine Iu (Hb (hf W A env s rm X) ?_ λ_ _ q=>q.elim)
 rintro v s1 ⟨e1,r1⟩
 refine(show v= .type T from r1)▸?_
 refine Ky (Hb (ha W A env s1 pos rm (X.aA e1)) ?_ λ_ _ q=>q.elim) (he env) (LU env)
 rintro vs s2 ⟨e2,r2⟩
 refine Hb (hc W A s2 vs rm ((X.aA e1).aA e2).gd r2) ?_ λ_ _ q=>q.elim
 rintro w s3 ⟨e3,r3⟩
 exact⟨(e1.trans e2).trans e3,r3⟩
def ck (C:Cfg)(k:Nat)(sc:Sc)(own:Own)(ρ:bK)(ks vs:List Expr)(pos:Pos)(es:List (Str×PV)):Prop:=
 ∀W A env s,ak A k->St C W sc own ρ env s->wpAny C.M A (evalPairs ((ks.zip vs).map λx=>(eval x.1 env,do let y <-eval x.2 env;standAt pos;pure y))) (λus J=>ah C [] s J/\∃kvs,Carries (strKind C.prog C.w) us kvs/\bz C.S (C.N W) J.heap kvs es) (λ_ _=>False) s
theorem ck.nil:ck C k sc own ρ [] [] pos []:=λW A env s rm X=>Hj ⟨ah.refl _,[],trivial,rfl⟩
theorem ck.cons {ke ve:Expr}{ks vs:List Expr}{x:Str}{p:PV}{es:List (Str×PV)}(h1:Ev C k sc own ρ ke (.str x))(h2:Ev C k sc own ρ ve p)(hs:ck C k sc own ρ ks vs pos es):ck C k sc own ρ (ke::ks) (ve::vs) pos ((x,p)::es):=λW A env s rm X=>by
 refine Hc (Hb (h1 W A env s rm X) ?_ λ_ _ q=>q.elim)
 rintro kv s1 ⟨e1,t,rfl⟩
 refine Hc (HV (Hc (Hb (h2 W A env s1 rm (X.aA e1)) ?_ λ_ _ q=>q.elim)))
 intro v s2 zz;refine c5 zz λe2 r2=> ?_
 refine Hc (Iw (Hj (Hc (HV (Hb (hs W A env s2 rm ((X.aA e1).aA e2)) ?_ λ_ _ q=>q.elim)))))
 rintro us s3 ⟨e3,kvs,hc,r3⟩
 exact Hj ⟨(e1.trans e2).trans e3,(x,v)::kvs,⟨mL x t,rfl,hc⟩,v,kvs,rfl,e3.pe r2,r3⟩
theorem bz.merge {P:Addr->List DictEntry->List (Str×Value)->Prop}{N:Addr->Prop}{h:Heap}:∀{Mk:List (Str×PV)}{Mm:List (Str×Value)}{es:List (Str×PV)}{kvs:List (Str×Value)},bz P N h kvs es->bz P N h Mm Mk->bz P N h (merged kvs Mm) (Mk.foldl (λd e=>putD d e.1 e.2) es)
 |[],_,es,kvs,r,r'=>by refine(show _=([]:List (Str×Value)) from r')▸?_;exact r
 |(x,p)::Mk,_,es,kvs,r,⟨v,Mm,e,rv,r'⟩=>by
  subst e
  exact bz.merge (es:=putD es x p) (kvs:=stored kvs x v) (bz.put rv r) r'
theorem Ev.dict {keys:List (Option Expr)}{ks values:List Expr}{es:List (Str×PV)}(hk:keys=ks.map some)(hp:ck C k sc own ρ ks values pos es)(h0:es≠[])(hl:es.length<=15)
 (Qj:ks.length=values.length)
 (Md:∀env,(evalEachOpt keys env).zip ((evalEach values env).map λv=>do let x <-v;standAt pos;pure x)=((ks.zip values).map λx=>((eval x.1 env,do let y <-eval x.2 env;standAt pos;pure y):Sem Value×Sem Value)).map λp=>(some p.1,p.2))
 (hlen:ks.length=es.length):
 Ev C k sc own ρ (.Dict keys values pos) (.au (es.foldl (λd e=>putD d e.1 e.2) [])):=λW A env s rm X=>by
 have LU:((ks.zip values).map λx=>((eval x.1 env,do let y <-eval x.2 env;standAt pos;pure y):Sem Value×Sem Value)).length=es.length:=by
  simp only [Hd,List.length_zip,<-Qj,Nat.min_self,hlen]
 refine wpAny_Dict_pairs (knd:=strKind C.prog C.w) (Md env) (by intro q;rw [q] at LU;exact h0 (Ir.mp LU.symm)) (by refine LU▸?_;exact hl) ?_
 have e0:ah C [] s {s with heap:=s.heap.push {cls:= .type "dict",data:= .dict #[]}}:=ah.push _ s.toks
 refine Hb (hp (s.heap.objs.size::W) A env _ rm (X.grow e0 (Hh _) cg)) ?_ λ_ _ q=>q.elim
 rintro us s1 ⟨e1,kvs,hc,r⟩
 have hg:s1.heap.get? s.heap.objs.size=some (bj [] 0):=e1.keep _ _ X.inv.fresh (by simp) (Heap.get?_push_size _ rfl)
 refine⟨kvs,hc,aU hg (⟨X.inv.gv,by intro e h;simp at h,.nil,by decide⟩),λh' hd hs=> ?_⟩
 have eT:ah C [s.heap.objs.size] s1 {s1 with heap:=h',toks:=s1.toks+us.length}:=ah.turn ((X.aA e0).aA e1).inv hs hg (λvs q=>nomatch q) (by simp)
 have e2:ah C [] s {s1 with heap:=h',toks:=s1.toks+us.length}:=(e0.trans e1).ig eT (Hh _)
 refine aL (fF hd X.inv.gv) λds n g2 sd=> ?_
 refine⟨e2,s.heap.objs.size,ds,n,_,rfl,λq=>q.elim X.inv.fresh (λq=>absurd (X.low _ q) (HB _)),g2,sd,bz.merge (show bz _ _ _ [] [] from rfl) ?_⟩
 exact bz.mono (λb o n g=>⟨λq=>n (q.elim .inl λq=> .inr (Ha _ q)),(hs.2 b (by rintro rfl;exact n (.inr G9))).trans g⟩) r
theorem Ev.kC:Ev C k sc own ρ (.Dict [] [] pos) (.au []):=λW A env s rm X=>by
 simp only [eval_Dict_empty]
 refine Hc (Iw (Ie ?_))
 exact⟨ah.push _ s.toks,s.heap.objs.size,[],0,[],rfl,X.gd.fresh,Heap.get?_push_size _ rfl,⟨X.inv.gv,by intro e h;simp at h,.nil,by decide⟩,rfl⟩
structure kP (C:Cfg)(fa:Addr)(i:Nat):Prop where
 ex:∃fd,FnAt C fa fd (ay tb i)/\fd.scope=ai tb i/\fd.params=bP tb i/\fd.defaults= .none/\fd.kwdefaults= .none
theorem kP.fo {fa:Addr}{i:Nat}(F:kP C fa i):cF C fa:=by refine ae F.ex λ_ h _=> ?_;exact h.fo
structure wZ (C:Cfg)(a:Addr)(S:Int->Bool):Prop where
 nt:a∉C.aq
 set:∃n,C.h₀.SetOf (intKind C.prog C.w) a S n
theorem aj.inSet {a:Addr}{S:Int->Bool}(F:wZ C a S){i:Int}:aj C (compareOp .In) (.int i) (.raw (.ref a)) (.bool (S i)):=λW A s v u rm g h1 h2=>by
 obtain⟨t,rfl⟩:=h1
 refine(show u= .ref a from h2)▸?_
 obtain⟨n,o,es,ep,tt,g',r⟩:=F.set
 exact wpAny_inSet_of (knd:=intKind C.prog C.w) (intKind_is _ _ _ _) rfl ⟨o,es,ep,tt,g.inv.old _ _ F.nt g',r⟩ ⟨ah.tok _,rfl⟩
structure yw (C:Cfg)(a:Addr)(f:Int->Option Str):Prop where
 nt:a∉C.aq
 ns:a≠sysModules
 tab:∃g,C.h₀.MapOf (intKind C.prog C.w) a g/\∀i,match f i with |some x=>∃t,g i=some (.str x t) |none=>g i=none
noncomputable def EX:Option Str->PV
 |none=> .none
 |some x=> .str x
theorem yw.cur {a:Addr}{f:Int->Option Str}(F:yw C a f)(i:Inv C s):∃g,s.heap.MapOf (intKind C.prog C.w) a g/\∀i,match f i with |some x=>∃t,g i=some (.str x t) |none=>g i=none:=by
 obtain⟨g,⟨o,es,ep,h,r⟩,hf⟩:=F.tab
 exact⟨g,⟨o,es,ep,i.old _ _ F.nt h,r⟩,hf⟩
theorem Ev.Fv {o a:Expr}{apos:Pos}{d:Addr}{f:Int->Option Str}{i:Int}(F:yw C d f)(ho:Ev C k sc own ρ o (.raw (.ref d)))(ha:Ev C k sc own ρ a (.int i))
 (Ln:∀env,attributeBase o "get" env (eval o env)=eval o env)
 (LZ:∀env,((backTo pos (starEach [a] env)).all (λx=> !x.1) && (backToKw pos (keywordEach [] env)).all (λx=>x.1.isSome)
  && decide ([a].length+([]:List Keyword).length+(if([]:List Keyword).isEmpty then 0 else 1) < 30))=true)
 (Lp:(apos.endLine==pos.line)=true)
 (he:∀env,starEach [a] env=(false,eval a env)::starEach [] env)(LU:∀env,(backTo pos (starEach [] env)).any (·.1)=false):
 Ev C k sc own ρ (.Call (.Attribute o "get" apos) [a] [] pos) (EX (f i)):=λW A env s rm X=>by
 refine IE (Ln env) (LZ env) Lp ID IZ Kb (Hb (ho W A env s rm X) ?_ λ_ _ q=>q.elim)
 rintro v s1 ⟨e1,r1⟩
 refine(show v= .ref d from r1)▸?_
 refine ae (F.cur (X.aA e1).inv) λg hm hf=> ?_
 refine⟨hm.typeIs,hm.noDict,J4 (Hb ((ab.cons ha ab.nil he) W A env s1 pos rm (X.aA e1)) ?_ λ_ _ q=>q.elim) (he env) (LU env)⟩
 rintro vs s2 ⟨e2,r2⟩
 obtain⟨u,rfl,t,rfl⟩:=fe.inv1 r2
 refine ae (F.cur ((X.aA e1).aA e2).inv) λg2 Sx Vf=> ?_
 refine Kl IZ Sx.typeIs PySem.F.entry_dict_get (PySem.F.args_dict_get_2 _ _) (meets_dict_get (intKind C.prog C.w) d (k:=i) (intKind_is _ _ _ _) (by simpa using F.ns)) ⟨_,Sx,?_⟩
 refine⟨(e1.trans e2).trans (ah.tok _),?_⟩
 have:=Vf i
 cases q:f i with
 |none=>rw [q] at this;refine this▸?_;exact rfl
 |some x=>
  rw [q] at this
  obtain⟨t',e⟩:=this
  refine e▸?_
  exact⟨t',rfl⟩
theorem cC.lower {x:Str}(hz:x.length<=5592405):cC C k (.builtin "str.lower") [.str x] (.str (Txt.lower x)):=λW A s vs rm g r=>by
 obtain⟨v,rfl,⟨t,rfl⟩⟩:=r.inv1
 exact PyProof.Rows.SCL.lower hz λ_=>⟨ah.tok _,_,rfl⟩
structure l4 (p:Arguments)(xs:List Str):Prop where
 pos:p.posonlyargs=[]
 args:p.args.map (·.arg)=xs
 kw:p.kwonlyargs=[]
 va:p.vararg=none
 RV:p.kwarg=none
 nd:xs.Nodup
theorem my {α:Type}:∀{xs:List Str}{vs:List α},xs.length=vs.length->∀x∈xs,((xs.zip vs).lookup x).isSome=true
 |[],_,_,x,hx=>by cases hx
 |y::xs,[],h,_,_=>by cases h
 |y::xs,v::vs,h,x,hx=>by
  simp only [List.zip_cons_cons,Hl]
  cases OA:x==y with
  |true=>rfl
  |false=>
   rcases Hf.mp hx with rfl |hx
   ·simp at OA
   ·exact my (by simpa using h) x hx
theorem iL {α:Type}:∀{xs:List Str}{vs:List α}(pre:List (Str×α)),xs.Nodup->xs.length=vs.length->(∀x∈xs,pre.lookup x=none)->xs.filterMap (λn=>((pre ++ xs.zip vs).lookup n).map (n,·))=xs.zip vs
 |[],_,_,_,_,_=>rfl
 |y::xs,[],_,_,h,_=>by cases h
 |y::xs,v::vs,pre,nd,h,hp=>by
  have h1:(pre ++ (y::xs).zip (v::vs)).lookup y=some v:=by
   simp only [H6,hp y G9,List.zip_cons_cons,Hl]
   simp
  simp only [Ku,h1]
  have h2:=iL (xs:=xs) (vs:=vs) (pre ++ [(y,v)]) (Ht.mp nd).2 (by simpa using h) (λx hx=>by
   simp only [H6,hp x (Ha _ hx),Hl]
   have:(x==y)=false:=by
    have:x≠y:=by rintro rfl;exact(Ht.mp nd).1 hx
    simpa using this
   refine this▸?_;rfl)
  rw [Iq] at h2
  show (y,v)::_=(y,v)::_
  rw [show pre ++ (y::xs).zip (v::vs)=pre ++ ([(y,v)] ++ xs.zip vs) from rfl,h2]
  rfl
theorem me {fd:FuncData}{xs:List Str}{vs:List Value}(hp:l4 fd.params xs)(hd:fd.defaults= .none)(hl:vs.length=xs.length):BindsTo s fd ⟨vs,[]⟩ (xs.zip vs):=by
 have hm:((xs.take (xs.length - 0)).filter (λn=>((xs.zip vs).lookup n).isNone)).isEmpty=true:=by
  rw [Nat.sub_zero,Il,List.isEmpty_iff,Jh]
  intro x hx q
  rw [Option.isNone_iff_eq_none] at q
  have:=my hl.symm x hx
  replace this:=q▸this;cases this
 have hb:=iL (xs:=xs) (vs:=vs) [] hp.nd hl.symm (λ_ _=>rfl)
 obtain⟨nm,qn,⟨po,ar,va,ko,kd,RV,df⟩,bd,sc,gl,cl,UD,T2,doc,pm,an,cd,ct,bu⟩:=fd
 obtain⟨h1,h2,h3,h4,h5,_⟩:=hp
 dsimp only at h1 h2 h3 h4 h5 hd
 subst h1 h2 h3 h4 h5 hd
 refine BindsTo.of_eq ?_
 with_unfolding_all refine Eq.trans (if_neg (by refine hl▸?_;simp)) ?_
 dsimp only
 have hx:(List.map (λx:Arg=>x.arg) [] ++ ar.map (·.arg))=ar.map (·.arg):=rfl
 rw [hx]
 have hn:List.drop ((none.getD (#[]:Array Value)).toList.length - (ar.map (·.arg)).length) (none.getD (#[]:Array Value)).toList=[]:=List.drop_nil
 rw [hn,if_neg (by simp only [H0,hm];decide),List.zip_nil_right]
 exact Hx Sem.pure ((Hx _ (IA _)).trans hb)
theorem fe.zip {h:Heap}:∀{xs:List Str}{vs:List Value}{ps:List PV},fe C W h vs ps->xs.length=ps.length->dy C W h (xs.zip vs) (xs.zip ps)
 |[],_,_,_,_=> .nil
 |x::xs,vs,[],r,e=>by cases e
 |x::xs,vs,p::ps,⟨v,r,e,h1,h2⟩,hl=>by
  subst e
  exact .cons h1 (fe.zip h2 (by simpa using hl))
theorem kP.pX {fa:Addr}{i:Nat}{xs:List Str}{ps:List PV}{r:PV}(qs:List (Str×PV))(ok:C.Ok)(F:kP C fa i)(hP:l4 (bP tb i) xs)(hn:∀x∈xs,(ai tb i).names.lookup x=some .local\/(ai tb i).names.lookup x=some .cell)(hl:ps.length=xs.length)(Oe:xs.zip ps=qs)
 (K':own'.map (·.1)=own.map (·.1))
 (h:∀W A env s t Wt q code,ak A k->St C W ⟨ai tb i,q,code⟩ own (aC qs) env s->Bs C Wt (λ_=>true) t own env s->
  wpAny C.M A (execs (ay tb i) env) (λf J=>(∃sc J',St C W sc own' J' env J)/\Bs C Wt (λ_=>true) t own' env J/\Rr C W J.heap (match f with | .ret v=>v |_=> .none) r) (λ_ _=>False) s):
 gX C (k+1) own own' (.ref fa) ps [] r:=λW A s vs kvs rm g ho r1 r2=>by
 subst Oe
 rw [r2.i7]
 refine Cm F.ex λfd F Lz Ob Oh Qs=> ?_
 have OU:vs.length=xs.length:=by rw [aQ.length r1,hl]
 have Ly:(xs.zip vs).map (·.1)=xs:=J6 (by simp_all)
 refine dF (own:=own) (args:=⟨vs,[]⟩) ok F g ho rm (me (by rw [Ob];exact hP) Oh OU) (r1.zip hl.symm) (by rw [Ly];exact hP.nd) (λy hy=> ?_) ?_
 ·refine Lz▸?_
  exact hn _ (by have:y.1∈(xs.zip vs).map (·.1):=He.mpr ⟨y,hy,rfl⟩;rwa [Ly] at this)
 intro Lo env J hL X B A' L5
 have X':St C (Lo::W) ⟨ai tb i,fd.qualname ++ ".<locals>.",fd.code⟩ own (aC (xs.zip ps)) env J:=by
  refine Lz▸?_;exact X
 refine Hb (h _ A' env J _ _ _ _ L5 X' B) ?_ λ_ _ q=>q
 intro f Lv zz;refine cZ zz λz3 B2 rr=> ?_;refine fC z3 λsc J' X2=> ?_
 refine⟨B2.aA,?_,rr.drop λa ha=>Ha _ ha⟩
 have x2:ez C (Lo::W) own' Lv:=X2.owns
 refine x2.drop λy hy=> ?_
 have:y.1∈own'.map (·.1):=He.mpr ⟨y,hy,rfl⟩
 rw [K'] at this
 refine ae (He.mp this) λz hz e=> ?_
 refine e▸?_
 exact(ho z hz).1
theorem gX.EP {f:Value}{ps:List PV}{LD:List (Str×PV)}{r:PV}(h:gX C k [] [] f ps LD r):aN C k own f ps LD r:=λW A s vs kvs rm g ho r1 r2=>
 Hb (h W A s vs kvs rm g ez.nil r1 r2) (λv J q=>⟨q.1,q.2.2⟩) λ_ _ q=>q
theorem kP.call {fa:Addr}{i:Nat}{xs:List Str}{ps:List PV}{r:PV}(qs:List (Str×PV))(ok:C.Ok)(F:kP C fa i)(hP:l4 (bP tb i) xs)(hn:∀x∈xs,(ai tb i).names.lookup x=some .local\/(ai tb i).names.lookup x=some .cell)(hl:ps.length=xs.length)(Oe:xs.zip ps=qs)
 (h:∀W A env s t Wt q code,ak A k->St C W ⟨ai tb i,q,code⟩ [] (aC qs) env s->Bs C Wt (λ_=>true) t [] env s->
  wpAny C.M A (execs (ay tb i) env) (λf J=>(∃sc J',St C W sc [] J' env J)/\Bs C Wt (λ_=>true) t [] env J/\Rr C W J.heap (match f with | .ret v=>v |_=> .none) r) (λ_ _=>False) s):
 aN C (k+1) own (.ref fa) ps [] r:=(kP.pX qs ok F hP hn hl Oe rfl h).EP
noncomputable def rD:List Int:=[173,847,6150,6155,6156,6157,8203,8204,8205,8288,65279] ++ (List.range 16).map λ(i:Nat)=>65024+(i:Int)
noncomputable def iH (i:Int):Bool:=rD.contains i
structure Lx (C:Cfg)(f3:Int->Option Str):Prop where
 L:Lw C
 ty:kP C 170 16
 it:kP C 117 12
 mt:kP C 163 14
 cc:kP C 63 4
 ac:kP C 56 3
 af:kP C 49 2
 set:wZ C 107 iH
 tab:yw C 118 f3
variable {f3:Int->Option Str}
theorem Ck (L:Lx C f3){x:Str}(h1:x.length=1):aN C (k+1) own (.ref 117) [.str x] [] (.bool (iH (x.cps.getD 0 0:Nat))):=by
 have L':=L.L
 refine kP.call (xs:=["code"]) [("code",.str x)] L'.ok L.it ⟨rfl,rfl,rfl,rfl,rfl,by decide+kernel⟩ (by decide+kernel) rfl rfl λW A env s t Wt q code rm X B=> ?_
 refine cw X B rm (Ev.cmp (Ev.a6 (by k_extra"e") (by k_extra"e") (cC.ord h1) (λenv=>rfl) (λenv=>⟨_,_,rfl⟩)) (by k_extra"e") (aj.inSet L.set) (by rfl)) ?_
 intro v J X' B' r
 exact⟨⟨_,_,X'⟩,B',r⟩
noncomputable def j6 (f3:Int->Option Str) (x:Str):Str:=match f3 (x.cps.getD 0 0:Nat) with
 |some y=>y
 |none=>Txt.lower x
theorem Br (L:Lx C f3){x:Str}(h1:x.length=1):aN C (k+1) own (.ref 163) [.str x] [] (.str (j6 f3 x)):=by
 have L':=L.L
 refine kP.call (xs:=["code"]) [("code",.str x)] L'.ok L.mt ⟨rfl,rfl,rfl,rfl,rfl,by decide+kernel⟩ (by decide+kernel) rfl rfl λW A env s t Wt q code rm X B=> ?_
 refine az (p:=EX (f3 (x.cps.getD 0 0:Nat))) X B rm (Ev.Fv L.tab (by k_extra"e") (Ev.a6 (by k_extra"e") (by k_extra"e") (cC.ord h1) (λenv=>rfl) (λenv=>⟨_,_,rfl⟩)) (λ_=>rfl) (λ_=>rfl) (by rfl) (λ_=>rfl) (λ_=>rfl)) (by rfl) rfl ?_
 intro s1 X1 B1
 unfold j6
 cases q:f3 (x.cps.getD 0 0:Nat) with
 |none=>
  replace X1:=q▸X1
  refine step_if (b:=false) X1 B1 rm (Tr.cmp (Ev.local (p:= .none) (by done) fQ (by done)) (by k_extra"e") aj.lX Th.bool (by rfl)) ?_
  intro s2 X2 B2
  refine Hk ?_
  dsimp only
  refine cw X2 B2 rm (Ev.EO (T:="str") (id:="str.lower") (by k_extra"e") fY.str (cC.lower (by rw [h1];decide)) (λ_=>rfl) (by rfl) Ji PySem.F.slot_str_lower PySem.F.type_str_lower) ?_
  intro v J X' B' r
  exact⟨⟨_,_,X'⟩,B',r⟩
 |some y=>
  rw [q] at X1
  refine step_if (b:=true) X1 B1 rm (Tr.cmp (Ev.local (p:= .str y) (by done) fQ (by done)) (by k_extra"e") (aj.isNotNone rfl) Th.bool (by rfl)) ?_
  intro s2 X2 B2
  refine cw X2 B2 rm (Ev.local (p:= .str y) (by rfl) fQ (by done)) ?_
  intro v J X' B' r
  exact⟨⟨_,_,X'⟩,B',r⟩
theorem kj {P:Addr->List DictEntry->List (Str×Value)->Prop}{N:Addr->Prop}{h:Heap}:∀{n:Nat}{a:Int}{l:List Value},(l.length=n/\∀(j:Nat) (v:Value),l[j]? =some v->∃t,v=Value.int (a+(j:Int)*1) t)->aQ P N h l (aI a n)
 |0,a,l,⟨h1,_⟩=>by
  refine(Ir.mp h1)▸?_;rfl
 |n+1,a,[],⟨h1,_⟩=>by cases h1
 |n+1,a,v::l,⟨h1,h2⟩=>by
  have e:aI a (n+1)= .int a::aI (a+1) n:=by
   unfold aI
   simp only [List.range_succ_eq_map,Hm,Hq]
   congr 1
   ·simp
   ·apply HY
    intro i _
    show PV.int (a+((i+1:Nat):Int))= .int (a+1+(i:Int))
    congr 1;lia
  simp only [e]
  refine cz (h2 0 v rfl) λt ht=> ?_
  refine⟨v,l,rfl,⟨t,by rw [ht];simp⟩,kj ⟨by simpa using h1,λj u hu=> ?_⟩⟩
  refine cz (h2 (j+1) u ((hu))) λt ht=> ?_
  exact⟨t,by rw [ht];congr 1;lia⟩
theorem Ev.tU {y:Str}{py:Pos}{x:Str}{px pr:Pos}{e e':Expr}{a b:Int}(hl:Ev C k sc own ρ (.Name y py) (.raw (.type "list")))(hf:Ev C k sc own ρ (.Name x px) (.raw (.type "range")))(ha:Ev C k sc own ρ e (.int a))(hb:Ev C k sc own ρ e' (.int b))(h0:0<=a)(SW:a<=sizeLine)(VY:0<=b)(Pc:b<=sizeLine)
 (Va:∀env,starEach [.Call (.Name x px) [e,e'] [] pr] env=[(false,eval (.Call (.Name x px) [e,e'] [] pr) env)])
 (hn:∀env,starEach [e,e'] env=(false,eval e env)::starEach [e'] env)(Mu:∀env,starEach [e'] env=[(false,eval e' env)]):Ev C k sc own ρ (.Call (.Name y py) [.Call (.Name x px) [e,e'] [] pr] [] pos) (.lst (aI a (b - a).toNat)):=λW A env s rm X=>by
 refine Iu (Hb (hl W A env s rm X) ?_ λ_ _ q=>q.elim)
 rintro v s1 ⟨e1,r1⟩
 refine(show v= .type "list" from r1)▸?_
 have X1:=X.aA e1
 refine callWith_type1 ?_ (Va env) rfl
 refine Jq ?_
 refine Iu (Hb (hf W A env s1 rm X1) ?_ λ_ _ q=>q.elim)
 intro v s2 zz;refine c5 zz λe2 r2=> ?_
 refine(show v= .type "range" from r2)▸?_
 have X2:=X1.aA e2
 refine callWith_type1 ?_ (hn env) (by rw [Mu env];rfl)
 simp only [hn,Mu]
 refine Jq (Hb (ha W A env s2 rm X2) ?_ λ_ _ q=>q.elim)
 rintro u s3 ⟨e3,tk,rfl⟩
 refine Jq (Hb (hb W A env s3 rm (X2.aA e3)) ?_ λ_ _ q=>q.elim)
 rintro u s4 ⟨e4,tk',rfl⟩
 have X4:=(X2.aA e3).aA e4
 refine JY (call_range_2 ?_)
 have e5:ah C [] s4 {s4 with heap:=s4.heap.push {cls:= .type "range",data:= .fields #[.int a tk,.int b tk',.int 1 s4.toks]},toks:=s4.toks+1}:=ah.push _ _
 have VB:sizeLine<=2 ^ 24:=by decide
 refine JY (ba (call_list_range (n:=(b - a).toNat) rm.handled (IsRange.new _ _ _ _ _ _ _) (oZ (by lia) (by lia) (by lia) (by lia)) (by rw [rangeSize_one];split <;> grind -splitIndPred) (by lia) λh' tk acc' c' hk hg hI hz=> ?_))
 refine⟨(((((e1.trans e2).trans e3).trans e4).trans e5).trans (ah.of_keeps (C:=C) (W:=[]) (tk:=tk) hk hz)),_,acc'.toList,c',rfl,(X4.aA e5).gd.fresh,hg,kj ⟨by simpa using hI.1,λj v hv=> ?_⟩⟩
 refine cz (hI.2 j v (by simpa using hv)) λt ht=> ?_
 exact⟨t,ht⟩
theorem ly {α:Type}(l:List α)(a b:Nat)(hb:b<=l.length):((List.range (b - a)).map (a+·)).filterMap (l[·]?)=(l.take b).drop a:=by
 by_cases h:a<=b
 ·simp only [PySem.StrLaws.picks l (b - a) a (by simp_all),List.drop_take]
 ·rw [show b - a=0 by grind -splitIndPred,Jj (by simp;lia)];rfl
noncomputable def fb {α:Type} (lo hi:Option Int) (l:List α):List α:=(l.take (hi.elim l.length (clipAt l.length))).drop (lo.elim 0 (clipAt l.length))
theorem t8 (n:Nat)(i:Int):clipAt n i<=n:=by
 have:=clipAt_cast n i
 omega
theorem oO (n:Nat)(hi:Option Int):hi.elim n (clipAt n)<=n:=by cases hi <;> simp [t8]
theorem dI (xs:List PV)(lo hi:Option Int):xH xs lo hi none=fb lo hi xs:=by
 delta xH fb
 rw [sliceBounds_plain]
 simp only [sliceRange_one]
 exact ly xs _ _ (oO _ _)
theorem nL (lo hi:Option Int)(n:Nat):Builtin.Str.strSliceIndices lo hi 1 n=(List.range (hi.elim n (clipAt n) - lo.elim 0 (clipAt n))).map (lo.elim 0 (clipAt n)+·):=by
 rw [<-sliceRange_one]
 simp only [Builtin.Str.strSliceIndices]
 cases lo <;> cases hi <;> simp [clipAt_cast]
theorem ni (x:Str)(lo hi:Option Int):eb x lo hi none=⟨(fb lo hi x.cps.toList).toArray⟩:=by
 unfold eb
 simp only [Option.getD_none,Im,Jy]
 have e:(Builtin.Str.strSliceIndices lo hi 1 x.length).filterMap (x.cps[·]?)=fb lo hi x.cps.toList:=by
  rw [nL]
  have h:=ly x.cps.toList (lo.elim 0 (clipAt x.length)) (hi.elim x.length (clipAt x.length)) (by have:=oO x.length hi;exact this)
  rw [show (λ(i:Nat)=>x.cps[i]?)=(λi=>x.cps.toList[i]?) from by funext i;simp]
  rw [h];unfold fb;simp;rfl
 split
 ·rename_i h
  have hl:(Builtin.Str.strSliceIndices lo hi 1 x.length).length=x.length:=by simpa using h
  have:fb lo hi x.cps.toList=x.cps.toList:=by
   unfold fb
   simp only [nL,Hd,I5] at hl
   have h1:=oO x.length hi
   have hx:x.cps.toList.length=x.length:=by simp;rfl
   refine hx▸?_
   by_cases h0:x.length=0
   ·have:x.cps.toList=[]:=Ir.mp (hx.trans h0)
    rw [this];simp
   ·have e1:lo.elim 0 (clipAt x.length)=0:=by grind -splitIndPred
    rw [e1,(by simp_all:hi.elim x.length (clipAt x.length)=x.length),Lh,<-hx,Il]
  rw [this]
 ·rw [e]
theorem mA (x:Str):eb x none none (some (-1))=⟨x.cps.toList.reverse.toArray⟩:=by
 unfold eb
 simp only [Option.getD_some]
 rw [if_neg (by simp),picked_rev]
 congr 2
 refine((by simp;rfl:x.cps.toList.length=x.length))▸?_
 refine(show (λ(i:Nat)=>x.cps[i]?)=(λi=>x.cps.toList[i]?) from by funext i;simp)▸?_
 generalize x.cps.toList=l
 apply List.ext_getElem?
 intro i
 have gen:∀m,m<=l.length->((List.range m).map λk=>l.length - 1 - k).filterMap (λ(i:Nat)=>l[i]?)=l.reverse.take m:=by
  intro m
  induction m with
  |zero=>intro _;simp
  |succ m ih=>
   intro hm
   simp only [IY,Hr,List.filterMap_append,ih (by exact HM (by assumption)),IS]
   rw [(List.getElem?_reverse (by assumption))]
   simp [List.getElem?_eq_getElem (by exact Nat.sub_one_sub_lt_of_lt hm:l.length - 1 - m < l.length)]
 rw [gen _ (Hh _)]
 rw [HQ (by simp)]
theorem ip {α:Type}(l:List α)(a:Nat):fb (some (a:Int)) none l=l.drop a:=by
 unfold fb
 simp only [Option.elim,clipAt_nat,Il]
 by_cases h:a<=l.length
 ·rw [I0 h]
 ·rw [K7 (by lia),List.drop_length,Jj (by lia)]
theorem jk {α:Type}(l:List α)(a:Nat):fb none (some (a:Int)) l=l.take a:=by
 unfold fb
 simp only [Option.elim,clipAt_nat,Lh]
 by_cases h:a<=l.length
 ·rw [I0 h]
 ·rw [K7 (by lia),Il,HQ (by lia)]
theorem yF {α:Type}(lo hi:Option Int)(l:List α):(fb lo hi l).length<=l.length:=by
 unfold fb
 simp;lia
theorem nZ (x:Str)(lo hi:Option Int):(eb x lo hi none).length<=x.length:=by
 rw [ni]
 have:=yF lo hi x.cps.toList
 show (fb lo hi x.cps.toList).toArray.size<=_
 exact Hg this (by exact Hh _)
theorem Ev.wA {keys:List (Option Expr)}{ks values:List Expr}{es Mk:List (Str×PV)}(hk:keys=ks.map some)(Qj:ks.length=values.length)
 (Md:∀env,(evalEachOpt keys env).zip ((evalEach values env).map λv=>do let x <-v;standAt pos;pure x)=((ks.zip values).map λx=>((eval x.1 env,do let y <-eval x.2 env;standAt pos;pure y):Sem Value×Sem Value)).map λp=>(some p.1,p.2))
 (hp:ck C k sc own ρ ks values pos es)(hb:(!es.isEmpty && Nat.ble es.length 15 && (ks.length==es.length))=true)(he:es.foldl (λd e=>putD d e.1 e.2) []=Mk):
 Ev C k sc own ρ (.Dict keys values pos) (.au Mk):=by
 simp only [HO,I3,Ip] at hb
 refine c5 hb λz1 h3=> ?_;refine c5 z1 λh1 h2=> ?_
 exact he▸Ev.dict hk hp (by intro q;replace h1:=q▸h1;cases h1) (Ho h2) Qj Md h3
theorem lookup_map2 {α β:Type}{f:α->β}{x:Str}:∀{l:List (Str×α)},(l.map λe=>(e.1,f e.2)).lookup x=(l.lookup x).map f
 |[]=>rfl
 |(y,a)::l=>by
  simp only [Hm,Hl]
  cases x==y <;> simp [lookup_map2]
noncomputable def cG (b:List Stmt) (n:Nat):List Stmt:=(Ca (b.getD n default)).2.2.1
noncomputable abbrev s1 (c:Nat):Str:=⟨#[c]⟩
theorem St.settle (X:St C W sc own ρ env s)(n:Nat):St C (dP W own) sc [] (λx=>(ρ x).map (res (bH own n))) env s:=by
 have ho:ez C W own s:=X.owns
 have hL:env.locals∈dP W own:=HG.mpr ⟨X.noLoc.1,Hw.mpr λy hy=>by
  have:=X.ownLoc y hy
  simpa using this⟩
 have X':St C (dP W own) sc [] ρ env s:=(X.less (own':=[]) (by simp)).drop ee (by simp) hL
 refine⟨X'.inv,X'.ok,X'.low,X'.owns,?_,λy hy=> ?_,X'.apart,X'.noLoc,X'.ownLoc,X'.new,X'.celW⟩
 ·refine ae X.loc λm hm h=> ?_
  refine⟨m,hm,λx q hk hq=> ?_⟩
  cases hp:ρ x with
  |none=>replace hq:=hp▸hq;cases hq
  |some p=>
   refine ae (h x p hk hp) λv e1 e2=> ?_
   replace hq:=hp▸hq
   cases hq
   exact⟨v,e1,lO ho n e2⟩
 ·refine bp (X.cel y hy) λc cv e1 e2 h=> ?_
  refine⟨c,cv,e1,e2,λq hq=> ?_⟩
  cases hp:ρ y with
  |none=>replace hq:=hp▸hq;cases hq
  |some p=>
   refine ae (h p hp) λv e3 e4=> ?_
   replace hq:=hp▸hq
   cases hq
   exact⟨v,e3,lO ho n e4⟩
def kH (C:Cfg)(k:Nat)(sc:Sc)(own:Own)(ρ:bK)(e:Expr)(p:PV):Prop:=
 ∀W A env s,ak A k->St C W sc own ρ env s->wpAny C.M A (eval e env) (λv J=>ah C [] s J/\∃a,v= .ref a/\s.heap.objs.size<=a/\a < J.heap.objs.size/\dO C (a::W) J.heap a p) (λ_ _=>False) s
theorem kH.list {es:List Expr}{ps:List PV}(h:ab C k sc own ρ es ps)(hz:ps.length<=sizeLine):kH C k sc own ρ (.List es pos) (.lst ps):=λW A env s rm X=>by
 refine wpAny_List (Hb (h _ A env s pos rm X) ?_ λ_ _ q=>q)
 rintro vs s1 ⟨e1,r1⟩
 have e2:ah C [] s1 {s1 with heap:=s1.heap.push {cls:= .type "list",data:= .seq vs.toArray}}:=ah.push _ s1.toks
 exact⟨by rw [aQ.length r1];exact hz,e1.trans (ah.push _ _),s1.heap.objs.size,rfl,e1.size,cg,vs,0,Heap.get?_push_size _ rfl,aQ.mono (N.grow (Hh _) e2) r1⟩
theorem kH.kC:kH C k sc own ρ (.Dict [] [] pos) (.au []):=λW A env s rm X=>by
 simp only [eval_Dict_empty]
 refine Hc (Iw (Ie ?_))
 exact⟨ah.push _ s.toks,s.heap.objs.size,rfl,Hh _,cg,[],0,[],Heap.get?_push_size _ rfl,⟨X.inv.gv,by intro e h;simp at h,.nil,by decide⟩,rfl⟩
theorem St.takes {a:Addr}{p:PV}(X:St C W sc own ρ env s)(B:Bs C Wt mine t own env s)(e:ah C [] s J)(h1:s.heap.objs.size<=a)(h2:a < J.heap.objs.size)(hc:dO C (a::W) J.heap a p):
 St C (a::W) sc ((a,p)::own) ρ env J/\Bs C Wt mine t ((a,p)::own) env J:=by
 refine⟨(X.grow e h1 h2).iW G9 hc (λq=>absurd (X.inv.fV _ q) (Hs.mpr h1)) (λq=>absurd (X.low _ X.noLoc.1) (by refine q▸?_;exact Hs.mpr h1)),(B.step e).more ⟨X.inv.beyond h1,.inl (Hg B.aA.size h1)⟩⟩
theorem dU {x:Str}{px:Pos}{e:Expr}{p:PV}(X:St C W sc own ρ env s)(B:Bs C Wt mine t own env s)(rm:ak A k)(he:kH C k sc own ρ e p)
 (hl:sc.scope.names.lookup x=some .local)(hs:swapsWith e (some (.Name x px)) pos.line env=pure false)
 (next:∀a J,a∉W->St C (a::W) sc ((a,p)::own) (upd ρ x (.raw (.ref a))) env J->Bs C Wt mine t ((a,p)::own) env J->wpAny C.M A (execs rest env) Q E J):wpAny C.M A (execs (.Assign [.Name x px] e pos::rest) env) Q E s:=by
 refine HP (Jk (Hb (he W A env s rm X) ?_ λ_ _ q=>q.elim) hs)
 rintro v s1 ⟨e1,a,rfl,h1,h2,hc⟩
 exact fh (X.takes B e1 h1 h2 hc).1 (X.takes B e1 h1 h2 hc).2 hl (show Rr C (a::W) s1.heap (.ref a) (.raw (.ref a)) from rfl) λJ X' B' _=>next a J (λq=>absurd (X.low _ q) (Hs.mpr h1)) X' B'
theorem dZ {x:Str}{px:Pos}{e:Expr}{p:PV}(X:St C W sc own ρ env s)(B:Bs C Wt mine t own env s)(rm:ak A k)(he:kH C k sc own ρ e p)
 (hl:sc.scope.names.lookup x=some .cell)(hm:mine x=true)(hs:swapsWith e (some (.Name x px)) pos.line env=pure false)
 (next:∀a J,a∉W->St C (a::W) sc ((a,p)::own) (upd ρ x (.raw (.ref a))) env J->Bs C Wt mine t ((a,p)::own) env J->wpAny C.M A (execs rest env) Q E J):wpAny C.M A (execs (.Assign [.Name x px] e pos::rest) env) Q E s:=by
 refine HP (Jk (Hb (he W A env s rm X) ?_ λ_ _ q=>q.elim) hs)
 rintro v s1 ⟨e1,a,rfl,h1,h2,hc⟩
 exact gc (X.takes B e1 h1 h2 hc).1 (X.takes B e1 h1 h2 hc).2 hl hm (show Rr C (a::W) s1.heap (.ref a) (.raw (.ref a)) from rfl) λJ X' B' _=>next a J (λq=>absurd (X.low _ q) (Hs.mpr h1)) X' B'
theorem qi {a:Addr}{es fs:List (Str×PV)}{kvs:List (Str×Value)}{ds:List DictEntry}{h':Heap}{tk:Nat}{n:Nat}(X:St C W sc own ρ env s)(B:Bs C Wt mine t own env s)(ha:(a,PV.au es)∈own)
 (hs:Heap.SameBut a s.heap h')(hn:h'.get? a=some (bj ds n))(sd:C.S a ds kvs)(hr:bz C.S (C.N W) s.heap kvs fs):
 St C W sc (aE own a (.au fs)) ρ env {s with heap:=h',toks:=tk}/\Bs C Wt mine t (aE own a (.au fs)) env {s with heap:=h',toks:=tk}:=by
 obtain⟨h1,⟨vs,m,TZ,g,_,r⟩,h3⟩:=X.owns _ ha
 have e:ah C [a] s {s with heap:=h',toks:=tk}:=ah.turn X.inv hs g (λvs q=>nomatch q) (by simp)
 have hm:=B.owns _ ha
 refine⟨X.turn h1 (X.ownLoc _ ha) hm.1 hs.extBut e g (λ_=>nofun) λy hy=> ?_,(B.turn hs hm e).less λy hy=>nM hy⟩
 rcases pP hy with rfl |h
 ·exact .inl ⟨rfl,ds,n,kvs,hn,sd,bz.mono (λb o n g=>⟨n,(hs.2 b (by rintro rfl;exact n (.inr h1))).trans g⟩) hr⟩
 ·exact .inr h
theorem pz {a:Addr}{es:List (Str×PV)}{x:Str}{tk:Tok}{v:Value}{p:PV}{Q:Unit->Shared->Prop}(X:St C W sc own ρ env s)(B:Bs C Wt mine t own env s)(ha:(a,PV.au es)∈own)(hv:Rr C W s.heap v p)(hz:es.length<=sizeLine)
 (next:∀J,St C W sc (aE own a (.au (putD es x p))) ρ env J->Bs C Wt mine t (aE own a (.au (putD es x p))) env J->Q () J):wpAny C.M A (setItem (.ref a) (.str x tk) v) Q E s:=by
 obtain⟨h1,⟨ds,m,kvs,g,sd,r⟩,h3⟩:=X.owns _ ha
 refine wpAny_setItem_pairs (knd:=strKind C.prog C.w) (mL x tk) (aU g sd) (λh' hd hs=> ?_) (by rw [bz.length r];exact hz)
 refine aL (fF hd sd.1) λQn n' g' R8=> ?_
 have:=qi (tk:=s.toks+1) X B ha hs g' R8 (bz.put hv r)
 exact next _ this.1 this.2
theorem dq {o i e:Expr}{pos':Pos}{a:Addr}{es:List (Str×PV)}{x:Str}{p:PV}(X:St C W sc own ρ env s)(B:Bs C Wt mine t own env s)(rm:ak A k)(he:Ev C k sc own ρ e p)(ho:Ev C k sc own ρ o (.raw (.ref a)))(hi:Ev C k sc own ρ i (.str x))(ha:(a,PV.au es)∈own)(hz:es.length<=sizeLine)
 (hs:swapsWith e (some (.Subscript o i pos')) pos.line env=pure false)
 (next:∀J,St C W sc (aE own a (.au (putD es x p))) ρ env J->Bs C Wt mine t (aE own a (.au (putD es x p))) env J->wpAny C.M A (execs rest env) Q E J):wpAny C.M A (execs (.Assign [.Subscript o i pos'] e pos::rest) env) Q E s:=by
 refine HP (wpAny_Assign_Subscript (Hb (he W A env s rm X) ?_ λ_ _ q=>q.elim) hs)
 rintro v s1 ⟨e1,r1⟩
 refine Hb (ho W A env s1 rm (X.aA e1)) ?_ λ_ _ q=>q.elim
 rintro ov s2 ⟨e2,r2⟩
 refine(show ov= .ref a from r2)▸?_
 refine Hb (hi W A env s2 rm ((X.aA e1).aA e2)) ?_ λ_ _ q=>q.elim
 rintro iv s3 ⟨e3,tk,rfl⟩
 exact pz (((X.aA e1).aA e2).aA e3) (((B.step e1).step e2).step e3) ha ((e2.trans e3).pe r1) hz next
theorem nC {o i e:Expr}{op:Operator}{pos':Pos}{a:Addr}{es:List (Str×PV)}{x:Str}{p q r:PV}(X:St C W sc own ρ env s)(B:Bs C Wt mine t own env s)(rm:ak A k)(ho:Ev C k sc own ρ o (.raw (.ref a)))(hi:Ev C k sc own ρ i (.str x))(he:Ev C k sc own ρ e q)(ha:(a,PV.au es)∈own)(hz:es.length<=sizeLine)
 (hp:es.lookup x=some p)(NA:aj C (inplaceOp op) p q r)(Ru:∀ov iv new,augStore i ov iv new=(do holding [new,ov,iv] (setItem ov iv new);release [new,ov,iv] [];pure .next))
 (next:∀J,St C W sc (aE own a (.au (putD es x r))) ρ env J->Bs C Wt mine t (aE own a (.au (putD es x r))) env J->wpAny C.M A (execs rest env) Q E J):wpAny C.M A (execs (.AugAssign (.Subscript o i pos') op e pos::rest) env) Q E s:=by
 refine HP (Kr (Hb (ho W A env s rm X) ?_ λ_ _ q=>q.elim) Ru)
 rintro ov s1 ⟨e1,r1⟩
 refine(show ov= .ref a from r1)▸?_
 refine Hb (hi W A env s1 rm (X.aA e1)) ?_ λ_ _ q=>q.elim
 rintro iv s2 ⟨e2,tk,rfl⟩
 have X2:=(X.aA e1).aA e2
 obtain⟨h1,⟨ds,m,kvs,g,sd,rd⟩,h3⟩:=X2.owns _ ha
 refine ae (bz.find rd hp) λold h4 h5=> ?_
 refine wpAny_getItem_of (knd:=strKind C.prog C.w) (mL x tk) (aU g sd).mapOf h4 ?_
 have e3:ah C [] s2 {s2 with toks:=s2.toks+1}:=ah.tok _
 have X3:=X2.aA e3
 refine Hb (he W A env _ rm X3) ?_ λ_ _ q=>q.elim
 rintro v s4 ⟨e4,r4⟩
 have X4:=X3.aA e4
 refine Hb (NA W A s4 _ _ rm.zero X4.gd ((e3.trans e4).pe h5) r4) ?_ λ_ _ q=>q.elim
 rintro nv s5 ⟨e5,r5⟩
 exact pz (X4.aA e5) (((((B.step e1).step e2).step e3).step e4).step e5) ha r5 hz next
theorem mO {l:Addr}{vs:List Value}{n:Nat}{i:Int}{t:Tok}{v:Value}{Q:Unit->Shared->Prop}(ho:s.heap.get? l=some (ao vs n))(h0:0<=i)(PQ:i < 2 ^ 63)(hn:i < vs.length)
 (hQ:∀h' n',h'.get? l=some (ao (vs.set i.toNat v) n')->Heap.SameBut l s.heap h'->Q () {s with heap:=h'}):
 wpAny (model C.prog C.w) A (setItem (.ref l) (.int i t) v) Q E s:=by
 have hl:=aP ho
 have hd:(ao vs n).data= .seq vs.toArray n:=rfl
 unfold setItem
 try with_reducible refine HV ?_
 first |refine Hc (Hj ?_) |skip
 refine Hc (wpAny_sequenceKey hl.typeIs (by rfl) ?_)
 refine Hc (wpAny_callSpecial?_slot (name:=Str.ofString "__setitem__") hl.typeIs slot_list_setitem
  (Jc slot_list_setitem hl.typeIs entry_list_setitem ?_ (args_list_setitem _ _ _)))
 show wpAny _ _ (Builtin.List.listSubscript? (.int i t) >>=_) _ _ s
 refine Hc (wpAny_listSubscript_int (fitsIndex_of h0 PQ) ?_)
 clear PQ
 obtain⟨j,rfl⟩:=Int.eq_ofNat_of_zero_le h0
 have e:∃n',Obj.mapSeq (·.setIfInBounds j v) (ao vs n)=ao (vs.set j v) n':=⟨_,by simp only [Obj.mapSeq,ao];simp;rfl⟩
 obtain⟨n',e⟩:=e
 have Og:(s.heap.update l (Obj.mapSeq (·.setIfInBounds j v))).get? l=some (ao (vs.set j v) n'):=by
  refine e▸?_
  exact Heap.get?_update_self _ ho (Obj.isFreed_of_seq (by rfl))
 refine Hc (Hc (wpAny_seqItemAt ho hd (Hj ?_)))
 refine((by simp [(by lia)]:vs.toArray[j]? =some vs[j]))▸?_
 refine Hc (wpAny_setSeqItemAt ho hd ?_)
 first
  |exact Hc (Hj (Hj ⟨.none,rfl,Hj (hQ _ _ Og (H4 ..))⟩))
  |exact Hj ⟨.none,rfl,Hj (hQ _ _ Og (H4 ..))⟩
theorem aQ.set {P:Addr->List DictEntry->List (Str×Value)->Prop}{N:Addr->Prop}{h:Heap}{v:Value}{p:PV}(hv:Rp P N h v p):∀{ps:List PV}{vs:List Value},aQ P N h vs ps->∀j,aQ P N h (vs.set j v) (ps.set j p)
 |[],vs,r,j=>by refine(show vs=[] from r)▸?_;exact(rfl:([]:List Value)=[])
 |q::ps,_,⟨u,r',e,x,y⟩,0=>by subst e;exact⟨v,r',rfl,hv,y⟩
 |q::ps,_,⟨u,r',e,x,y⟩,j+1=>by subst e;exact⟨u,_,rfl,x,aQ.set hv y j⟩
theorem yj {a:Addr}{xs:List PV}{i:Int}{tk:Tok}{v:Value}{p:PV}{Q:Unit->Shared->Prop}(X:St C W sc own ρ env s)(B:Bs C Wt mine t own env s)(ha:(a,PV.lst xs)∈own)(hv:Rr C W s.heap v p)(h0:0<=i)(hn:i < xs.length)(hz:xs.length<=sizeLine)
 (next:∀J,St C W sc (aE own a (.lst (xs.set i.toNat p))) ρ env J->Bs C Wt mine t (aE own a (.lst (xs.set i.toNat p))) env J->Q () J):wpAny C.M A (setItem (.ref a) (.int i tk) v) Q E s:=by
 refine aL (X.owns _ ha).2.1 λvs m g r=> ?_
 have hl:=aQ.length r
 have L9:(sizeLine:Int) < 2 ^ 63:=by decide
 refine mO g h0 (by lia) (by simp_all) λh' n' hg hs=> ?_
 have:=mu (tk:=s.toks) (us:=vs.set i.toNat v) (n:=n') (ys:=xs.set i.toNat p) X B ha hs hg (aQ.set hv r _)
 exact next _ this.1 this.2
theorem u0 {o i e:Expr}{op:Operator}{pos':Pos}{a:Addr}{xs:List PV}{j:Int}{p q r:PV}(X:St C W sc own ρ env s)(B:Bs C Wt mine t own env s)(rm:ak A k)(ho:Ev C k sc own ρ o (.raw (.ref a)))(hi:Ev C k sc own ρ i (.int j))(he:Ev C k sc own ρ e q)(ha:(a,PV.lst xs)∈own)(hz:xs.length<=sizeLine)
 (h0:0<=j)(hp:xs[j.toNat]? =some p)(NA:aj C (inplaceOp op) p q r)(Ru:∀ov iv new,augStore i ov iv new=(do holding [new,ov,iv] (setItem ov iv new);release [new,ov,iv] [];pure .next))
 (next:∀J,St C W sc (aE own a (.lst (xs.set j.toNat r))) ρ env J->Bs C Wt mine t (aE own a (.lst (xs.set j.toNat r))) env J->wpAny C.M A (execs rest env) Q E J):wpAny C.M A (execs (.AugAssign (.Subscript o i pos') op e pos::rest) env) Q E s:=by
 refine HP (Kr (Hb (ho W A env s rm X) ?_ λ_ _ q=>q.elim) Ru)
 rintro ov s1 ⟨e1,r1⟩
 refine(show ov= .ref a from r1)▸?_
 refine Hb (hi W A env s1 rm (X.aA e1)) ?_ λ_ _ q=>q.elim
 rintro iv s2 ⟨e2,tk,rfl⟩
 have X2:=(X.aA e1).aA e2
 refine aL (X2.owns _ ha).2.1 λvs m g rd=> ?_
 refine ae (aQ.get rd hp) λold h4 h5=> ?_
 have Ll:j.toNat < xs.length:=(List.getElem?_eq_some_iff.mp hp).1
 have L9:(sizeLine:Int) < 2 ^ 63:=by decide
 refine wpAny_getItem_list (aP g) h0 (by lia) (by simpa using h4) ?_
 refine Hb (he W A env s2 rm X2) ?_ λ_ _ q=>q.elim
 rintro v s4 ⟨e4,r4⟩
 have X4:=X2.aA e4
 refine Hb (NA W A s4 _ _ rm.zero X4.gd (e4.pe h5) r4) ?_ λ_ _ q=>q.elim
 rintro nv s5 ⟨e5,r5⟩
 exact yj (X4.aA e5) ((((B.step e1).step e2).step e4).step e5) ha r5 h0 (by simp_all) hz next
theorem zi {a:Addr}{p:PV}(X:St C (a::W) sc [(a,p)] ρ env s)(B:Bs C Wt mine t [(a,p)] env s)(ha:a∉W)(hp:∀o,p≠.obj o):
 (∃sc J',St C W sc [] J' env s)/\Bs C Wt mine t [] env s/\Rr C W s.heap (.ref a) p:=by
 refine⟨⟨_,_,(X.less (own':=[]) (by simp)).drop (λb hb=>Ha _ hb) (by simp) ?_⟩,B.less (by simp),(X.owns _ G9).2.1.rr hp (λb hb=>Ha _ hb) λq=>q.elim (X.owns _ G9).2.2 ha⟩
 rcases Hf.mp X.noLoc.1 with q |q
 ·exact absurd q.symm (X.ownLoc _ G9)
 ·exact q
theorem fx.append {o ex:Expr}{apos:Pos}{aa:Addr}{xs:List PV}{p:PV}(ho:Ev C k sc own ρ o (.raw (.ref aa)))(hw:(aa,PV.lst xs)∈own)(hx:Ev C k sc own ρ ex p)(hz:xs.length<=sizeLine)
 (Ln:∀env,attributeBase o "append" env (eval o env)=eval o env)
 (LZ:∀env,((backTo pos (starEach [ex] env)).all (λx=> !x.1) && (backToKw pos (keywordEach [] env)).all (λx=>x.1.isSome)
  && decide ([ex].length+([]:List Keyword).length+(if([]:List Keyword).isEmpty then 0 else 1) < 30))=true)
 (Lp:(apos.endLine==pos.line)=true)
 (he:∀env,starEach [ex] env=(false,eval ex env)::starEach [] env)(LU:∀env,(backTo pos (starEach [] env)).any (·.1)=false):
 fx C k sc mine own (aE own aa (.lst (xs ++ [p]))) ρ (.Call (.Attribute o "append" apos) [ex] [] pos) .none:=
 fx.A1 ho hw (ab.cons hx ab.nil he) (λW A env s t Wt vs rm X B r=>by
  refine ae r.inv1 λv1 LG r1=> ?_;subst LG
  exact lF X B hw r1 hz λJ X' B'=>⟨X',B',rfl⟩) Ln LZ Lp PySem.F.slot_list_append rfl he LU
def zX (C:Cfg)(own:Own)(m:Value->Value->Sem Value)(p q r:PV):Prop:=
 ∀W A s v u,ak A 0->Gd C W s->ez C W own s->Rr C W s.heap v p->Rr C W s.heap u q->Gives C W A (m v u) r s
theorem Tr.FA {l r:Expr}{op:CmpOp}{p q t:PV}{b:Bool}(h1:Ev C k sc own ρ l p)(h2:Ev C k sc own ρ r q)(hm:zX C own (compareOp op) p q t)(ht:Th C t b)(hb:behindInMarks op r=false):Tr C k sc own ρ (.Compare l [op] [r] pos) b:=λW A env s rm X=>by
 simp only [isTrue_Compare1]
 rw [show markedBehindIn op r (eval r env)=eval r env from markedBehindIn_of_false hb]
 refine Hc (Hb (h1 W A env s rm X) ?_ λ_ _ q=>q.elim)
 rintro v s1 ⟨e1,r1⟩
 refine Hc (HV (Hb (h2 W A env s1 rm (X.aA e1)) ?_ λ_ _ q=>q.elim))
 rintro u s2 ⟨e2,r2⟩
 have X2:=(X.aA e1).aA e2
 refine Hc (Iw (Hc (wpAny_operate' (Hb (hm W A s2 v u rm.zero X2.gd X2.owns (e2.pe r1) r2) ?_ λ_ _ q=>q.elim))))
 rintro c s3 ⟨e3,r3⟩
 refine HV (Hb (ht W A s3 c rm.zero (((X.aA e1).aA e2).aA e3).gd r3) ?_ λ_ _ q=>q.elim)
 rintro d s4 ⟨e4,h4⟩
 exact⟨((e1.trans e2).trans e3).trans e4,h4⟩
theorem zX.inD {a:Addr}{es:List (Str×PV)}{x:Str}(ha:(a,PV.au es)∈own):zX C own (compareOp .In) (.str x) (.raw (.ref a)) (.bool (es.lookup x).isSome):=λW A s v u rm g ho h1 h2=>by
 obtain⟨t,rfl⟩:=h1
 refine(show u= .ref a from h2)▸?_
 obtain⟨_,⟨ds,n,kvs,g',sd,r⟩,_⟩:=ho _ ha
 have e:(valueAt kvs x).isSome=(es.lookup x).isSome:=by
  cases q:es.lookup x with
  |none=>rw [bz.h8 r q];rfl
  |some p=>refine ae (bz.find r q) λv h _=> ?_;rw [h];rfl
 refine wpAny_in_of (mL x t) (iP sd) (aU g' sd).mapOf ?_
 refine e▸?_
 exact⟨ah.tok _,rfl⟩
theorem cC.pj {i:Int}:cC C k (.builtin "isinstance") [.int i,.raw (.type "tuple")] (.bool false):=λW A s vs rm g r=>by
 refine bp r.inv2 λv u OM OO h=> ?_;refine OM▸?_;refine cz OO λt OT=> ?_;refine OT▸?_
 refine(show u= .type "tuple" from h)▸?_
 exact PySem.IsiPair.int_tuple ⟨ah.tok _,rfl⟩
theorem cC.qV {i:Int}:cC C k (.builtin "isinstance") [.int i,.raw (.type "bool")] (.bool false):=λW A s vs rm g r=>by
 refine bp r.inv2 λv u OM OO h=> ?_;refine OM▸?_;refine cz OO λt OT=> ?_;refine OT▸?_
 refine(show u= .type "bool" from h)▸?_
 exact PySem.IsiPair.int_bool ⟨ah.tok _,rfl⟩
noncomputable abbrev dR (es:List (Str×Int)):List (Str×PV):=es.map λe=>(e.1,PV.int e.2)
noncomputable def sumTo (es:List (Str×Int)) (i:Nat):Int:=((es.map (·.2)).take i).sum
theorem CK (L:Lx C f3){es:List (Str×Int)}(hz:es.length<=1000):aN C (k+1) own (.ref 63) [.au (dR es)] [] (.int (es.map (·.2)).sum):=by
 refine kP.call (xs:=["callers"]) [("callers",.au (dR es))] L.L.ok L.cc ⟨rfl,rfl,rfl,rfl,rfl,by decide+kernel⟩ (by decide+kernel) rfl rfl λW A env s t Wt q code rm X B=> ?_
 have LK:sizeLine=16777216:=rfl
 conv in ay _ _=>whnf
 with_reducible refine az (p:= .int 0) X B rm (by intros) (by done) (by fail) ?_
 intro s1 X1 B1
 have hv:(dR es).map (·.2)=(es.map (·.2)).map .int:=by simp only [Hq];rfl
 have hlen:(dR es).length=es.length:=by simp
 with_reducible
  refine xt (need:=false) (k:=k) (ps:=(dR es).map (·.2)) (X1.to (l:=[("callers",.au (dR es)),("nc",.int 0)]) (by k_extra"rs")) B1 rm (aX.values (by intros) (by lia) (λ_=>by fail) (by fail)) (λ_=>[])
   (λi=>aC [("callers",.au (dR es)),("nc",.int (sumTo es i))])
   (λi=>upd (aC [("callers",.au (dR es)),("nc",.int (sumTo es i))]) "calls" (.int ((es.map (·.2)).getD i 0))) rfl (by fail) (λ_=>rfl) (λ_=>False) ?LH ?turn (λ_ _ _ h=>h.elim) ?done (λx=>by fail)
 case LH=>
  intro i p hp
  rw [hv,List.getElem?_map] at hp
  refine ae (Iy.mp hp) λn h1 h2=> ?_
  simp only [<-h2,List.getD_eq_getElem?_getD,h1]
  exact bg.local (by rfl)
 case turn=>
  intro I o i p t' LY s3 hp X B
  rw [hv,List.getElem?_map] at hp
  refine ae (Iy.mp hp) λn h1 h2=> ?_
  simp only [List.getD_eq_getElem?_getD,h1,Option.getD_some] at X
  have hs:sumTo es (i+1)=sumTo es i+n:=by
   unfold sumTo
   simp only [IS,h1]
   simp
  refine hs▸?_
  with_reducible refine vL (p:= .int (sumTo es i)) (q:= .int n) (r:= .int (sumTo es i+n)) X B rm (by intros) (by done) (by k_extra"r") aj.qp ?_
  intro s4 X4 B4
  exact Hk ⟨X4.to (by k_extra"rs"),B4⟩
 case done=>
  intro s3 X3 B3
  with_reducible refine cw (p:= .int (es.map (·.2)).sum) X3 B3 rm (Ev.conv (p:= .int (sumTo es ((dR es).map (·.2)).length)) (by intros) ?_) ?_
  ·unfold sumTo
   rw [HQ (by simp)]
  intro v J X' B' r
  exact⟨⟨_,_,X'⟩,B',r⟩
noncomputable def bo {α:Type} (es:List (Str×α)) (x:Str) (p:α):List (Str×α):=if es.any (λe=>e.1=x) then es.map (λe=>if e.1=x then(e.1,p) else e) else es ++ [(x,p)]
noncomputable abbrev iw {α:Type} (v:α->PV) (es:List (Str×α)):List (Str×PV):=es.map λe=>(e.1,v e.2)
theorem ro {α:Type}{v:α->PV}(es:List (Str×α))(x:Str)(i:α):putD (iw v es) x (v i)=iw v (bo es x i):=by
 delta putD bo iw
 refine JN▸?_
 have:((λ(e:Str×PV)=>decide (e.1=x))∘λ(e:Str×α)=>(e.1,v e.2))=λe=>decide (e.1=x):=rfl
 rw [this]
 split
 ·simp only [Hq]
  apply HY
  intro e _
  simp only [Function.comp]
  split <;> rfl
 ·simp
noncomputable def bW {α:Type} (op:α->α->α) (d:List (Str×α)) (e:Str×α):List (Str×α):=match d.lookup e.1 with
 |some i=>bo d e.1 (op i e.2)
 |none=>bo d e.1 e.2
noncomputable def hZ {α:Type} (op:α->α->α) (target source:List (Str×α)):List (Str×α):=source.foldl (bW op) (target.foldl (λd e=>bo d e.1 e.2) [])
noncomputable abbrev qL:= @bW Int (λn c=>n+c)
noncomputable abbrev cH:= @hZ Int (λn c=>n+c)
theorem qk {es:List (Str×Int)}{x:Str}:(dR es).lookup x=(es.lookup x).map .int:=lookup_map2 (f:=PV.int)
theorem eX {α:Type}(es:List (Str×α))(x:Str)(p:α):(bo es x p).length<=es.length+1:=by
 unfold bo
 split <;> simp
theorem ia {α:Type}(op:α->α->α)(d:List (Str×α))(e:Str×α):(bW op d e).length<=d.length+1:=by
 unfold bW
 split <;> exact eX _ _ _
theorem eK {α β:Type}(f:List β->α->List β)(h:∀d e,(f d e).length<=d.length+1):∀(l:List α)(d:List β),(l.foldl f d).length<=d.length+l.length:=by
 intro q0
 induction q0 with
 |nil=>
  intro d
  exact Hh _
 |cons e l ih=>
  intro d
  simp only [Ia]
  have h1:=ih (f d e)
  have h2:=h d e
  simp only [Hv]
  lia
theorem eS {α β:Type}(f:β->α->β)(b:β){l:List α}{i:Nat}{e:α}(h:l[i]? =some e):(l.take (i+1)).foldl f b=f ((l.take i).foldl f b) e:=by
 simp only [IS,h]
 simp
theorem aG {α:Type}{x:Str}{q:α}:∀{es:List (Str×α)},es.lookup x=some q->(x,q)∈es
 |[],h=>by cases h
 |(y,p)::es,h=>by
  simp only [Hl] at h
  cases hb:x==y with
  |true=>replace h:=hb▸h;cases h;rw [Ip.mp hb];exact G9
  |false=>replace h:=hb▸h;exact Ha _ (aG h)
theorem eU {α:Type}{P:α->Prop}{d:List (Str×α)}{x:Str}{p:α}(hd:∀e∈d,P e.2)(hp:P p):∀e∈bo d x p,P e.2:=λe he=>by
 unfold bo at he
 split at he
 ·refine ae (He.mp he) λe' h1 G'=> ?_;refine G'▸?_
  split
  ·exact hp
  ·exact hd _ h1
 ·rcases HA.mp he with he |he
  ·exact hd e he
  ·rw [Hi.mp he];exact hp
theorem jQ {α β:Type}{P:β->Prop}(f:β->α->β){l:List α}(h:∀b,P b->∀a∈l,P (f b a)):∀b,P b->P (l.foldl f b):=by
 induction l with
 |nil=>exact λb hb=>hb
 |cons a l ih=>exact λb hb=>ih (λb hb a' SW=>h b hb a' (Ha _ SW)) _ (h b hb a G9)
theorem td {α:Type}{P:α->Prop}{tg:List (Str×α)}(h:∀e∈tg,P e.2):∀e∈tg.foldl (λd e=>bo d e.1 e.2) [],P e.2:=
 jQ (P:=λ(d:List (Str×α))=>∀e∈d,P e.2) _ (λb hb a ha=>eU hb (h a ha)) [] (λ_ h=>nomatch h)
theorem sY {α:Type}{P:α->Prop}{op:α->α->α}(NA:∀n c,P n->P c->P (op n c)){sr:List (Str×α)}{G:List (Str×α)}(h:∀e∈sr,P e.2)(hG:∀e∈G,P e.2):∀e∈sr.foldl (bW op) G,P e.2:=
 jQ (P:=λ(d:List (Str×α))=>∀e∈d,P e.2) _ (λb hb a ha=>by
  unfold bW
  split
  ·rename_i q hq
   exact eU hb (NA _ _ (hb _ (aG hq)) (h a ha))
  ·exact eU hb (h a ha)) G hG
noncomputable abbrev Bo:List Stmt:=cG (cG (ay tb 3) 2) 0
noncomputable abbrev DJ (S:PV) (a:Addr):List (Str×PV):=[("source",S),("new_callers",.raw (.ref a))]
theorem mG {α:Type} [Inhabited α]{v:α->PV}{es:List (Str×α)}{i:Nat}{p:PV}(h:(cj (iw v es))[i]? =some p):p= .tup [.str (es.getD i default).1,v (es.getD i default).2]/\es[i]? =some (es.getD i default):=by
 unfold cj iw at h
 rw [Hq,List.getElem?_map] at h
 refine ae (Iy.mp h) λe h1 h2=> ?_
 rw [List.getD_eq_getElem?_getD,h1]
 exact⟨h2.symm,rfl⟩
theorem rY {a I:Addr}{o:Obj}{q p:PV}(h:I≠a):aE [(I,PV.obj o),(a,q)] a p=[(I,.obj o),(a,p)]:=by
 unfold aE
 simp [h]
theorem sC {α:Type} [Inhabited α]{v:α->PV}{op:α->α->α}{P:α->Prop}{q:Str}{code:Value}(ok:C.Ok){tg sr:List (Str×α)}(hz:tg.length<=1000)(M0:sr.length<=1000)(NA:∀n c,P n->P c->P (op n c))(ht:∀e∈tg,P e.2)(hs:∀e∈sr,P e.2)
 (H:∀{W A env s t Wt} {ow:Own} {a:Addr} {f:List (Str×α)} {x:Str} {c n:α} {S:PV} {E Q},ak A k->P c->P n->f.length<=2000->f.lookup x=some n->(a,PV.au (iw v f))∈ow->St C W ⟨ai tb 3,q,code⟩ ow (aC (("caller",v c)::("func",.str x)::DJ S a)) env s->Bs C Wt (λ_=>true) t ow env s->
  (∀J,St C W ⟨ai tb 3,q,code⟩ (aE ow a (.au (putD (iw v f) x (v (op n c))))) (aC (("caller",v c)::("func",.str x)::DJ S a)) env J->Bs C Wt (λ_=>true) t (aE ow a (.au (putD (iw v f) x (v (op n c))))) env J->Q .next J)->wpAny C.M A (execs Bo env) Q E s)
 (rm:ak A k)(X:St C W ⟨ai tb 3,q,code⟩ [] (aC [("target",.au (iw v tg)),("source",.au (iw v sr))]) env s)(B:Bs C Wt (λ_=>true) t [] env s):
 wpAny C.M A (execs (ay tb 3) env) (λf J=>(∃sc J',St C W sc [] J' env J)/\Bs C Wt (λ_=>true) t [] env J/\Rr C W J.heap (match f with | .ret v=>v |_=> .none) (.au (iw v (hZ op tg sr)))) (λ_ _=>False) s:=by
 conv in ay _ _=>whnf
 with_reducible refine dU (p:= .au []) X B rm kH.kC (by done) (by fail) ?_
 intro a s1 MN X1 B1
 have TB:∀i,((tg.take i).foldl (λd e=>bo d e.1 e.2) []).length<=1000:=λi=>
  Hg (eK (λ(d:List (Str×α)) (e:Str×α)=>bo d e.1 e.2) (λd e=>eX d e.1 e.2) (tg.take i) []) (by simp only [H0,Kn];exact Hg (Ki _ _) hz)
 with_reducible
  refine a7 (need:=true) (k:=k) (ps:=cj (iw v tg)) (X1.to (l:=[("target",.au (iw v tg)),("source",.au (iw v sr)),("new_callers",.raw (.ref a))]) (by k_extra"rs")) B1 rm (aX.items (by intros) (by rw [Hd];exact Hg hz (by decide)) (λ_=>by fail) (by fail)) (λi=>[(a,.au (iw v ((tg.take i).foldl (λd e=>bo d e.1 e.2) [])))])
   (λi=>aC [("target",.au (iw v tg)),("source",.au (iw v sr)),("new_callers",.raw (.ref a))])
   (λi=>upd (upd (aC [("target",.au (iw v tg)),("source",.au (iw v sr)),("new_callers",.raw (.ref a))]) "func" (.str (tg.getD i default).1)) "caller" (v (tg.getD i default).2)) (by fail) (by fail) (λ_=>by fail) (λ_=>False) ?LH ?turn (λ_ _ _ h=>h.elim) ?done (λx=>by fail) (λ_=>by fail)
 case LH=>
  intro i p hp
  simp only [(mG hp).1]
  exact bg.tuple (bD.cons (bg.local (by rfl)) (bD.cons (bg.local (by rfl)) bD.nil (λenv=>rfl)) (λenv=>rfl)) (λenv=>⟨rfl,rfl⟩)
 case turn=>
  intro I o i p t' LY s3 hI hp X B
  have Lr:I≠a:=λq=>hI _ G9 q.symm
  with_reducible refine dq (a:=a) (es:=iw v ((tg.take i).foldl (λd e=>bo d e.1 e.2) [])) X B rm (by intros) (by intros) (by intros) (Ha _ G9) ?hl (by fail) ?_
  case hl=>rw [Hd];exact Hg (TB i) (by decide)
  intro s4 X4 B4
  simp only [ro,rY Lr,<-eS (λ(d:List (Str×α)) (e:Str×α)=>bo d e.1 e.2) _ (mG hp).2] at X4 B4
  exact Hk ⟨X4.to (by k_extra"rs"),B4⟩
 case done=>
  intro s3 X3 B3
  have PS:(cj (iw v tg)).length=tg.length:=by simp [cj,iw]
  rw [PS] at X3 B3
  have RJ:=TB tg.length
  have Tz:=td ht
  rw [Il] at X3 B3 RJ
  unfold hZ
  generalize tg.foldl (λd e=>bo d e.1 e.2) []=G at X3 B3 RJ Tz ⊢
  have PR:∀i,((sr.take i).foldl (bW op) G).length<=2000:=λi=>
   Hg (eK (bW op) (ia op) (sr.take i) G) (Lj RJ (Hg (Ki _ _) M0))
  have QW:∀i,∀e∈(sr.take i).foldl (bW op) G,P e.2:=λi=>sY NA (λe he=>hs e (J5 i sr he)) Tz
  have X4:=X3.to (l:=DJ (.au (iw v sr)) a) (by k_extra"rs")
  with_reducible
   refine a7 (need:=true) (k:=k) (ps:=cj (iw v sr)) X4 B3 rm (aX.items (by intros) (by rw [Hd];exact Hg M0 (by decide)) (λ_=>by fail) (by fail)) (λi=>[(a,.au (iw v ((sr.take i).foldl (bW op) G)))])
    (λi=>aC (DJ (.au (iw v sr)) a))
    (λi=>upd (upd (aC (DJ (.au (iw v sr)) a)) "func" (.str (sr.getD i default).1)) "caller" (v (sr.getD i default).2)) (by fail) (by fail) (λ_=>by fail) (λ_=>False) ?tgt2 ?turn2 (λ_ _ _ h=>h.elim) ?done2 (λx=>by fail) (λ_=>by fail)
  case tgt2=>
   intro i p hp
   simp only [(mG hp).1]
   exact bg.tuple (bD.cons (bg.local (by rfl)) (bD.cons (bg.local (by rfl)) bD.nil (λenv=>rfl)) (λenv=>rfl)) (λenv=>⟨rfl,rfl⟩)
  case turn2=>
   intro I o i p t' LY s3 hI hp X B
   have Lr:I≠a:=λq=>hI _ G9 q.symm
   refine(eS (bW op) _ (mG hp).2)▸?_
   have QV:=hs _ (List.mem_of_getElem? (mG hp).2)
   have PR:=PR i
   have QW:=QW i
   generalize sr.getD i default=e at X QV ⊢
   generalize (sr.take i).foldl (bW op) G=f at X B PR QW ⊢
   have Ma:(a,PV.au (iw v f))∈[(I,PV.obj o),(a,.au (iw v f))]:=Ha _ G9
   replace X:=X.to (l:=("caller",v e.2)::("func",.str e.1)::DJ (.au (iw v sr)) a) (by k_extra"rs")
   unfold bW
   with_reducible refine step_if (b:=(f.lookup e.1).isSome) X B rm (Tr.FA (by intros) (by intros) (zX.inD Ma) ?hb (by kernel_rfl!)) ?_
   case hb=>simp only [lookup_map2 (f:=v),Option.isSome_map];exact Th.bool
   intro s4 X4 B4
   cases hq:f.lookup e.1 with
   |none=>
    simp only [if_neg (show ¬(none:Option α).isSome=true from HS)]
    with_reducible refine dq (a:=a) (es:=iw v f) X4 B4 rm (by intros) (by intros) (by intros) Ma ?hl (by fail) ?_
    case hl=>rw [Hd];exact Hg PR (by decide)
    intro s5 X5 B5
    rw [ro,rY Lr] at X5 B5
    exact Hk (Hk ⟨X5.to (by k_extra"rs"),B5⟩)
   |some n=>
    refine H rm QV (QW _ (aG hq)) PR hq Ma X4 B4 λs5 X5 B5=> ?_
    rw [ro,rY Lr] at X5 B5
    exact Hk ⟨X5.to (by k_extra"rs"),B5⟩
  case done2=>
   intro s4 X5 B5
   rw [(by simp [cj,iw]:(cj (iw v sr)).length=sr.length),Il] at X5 B5
   with_reducible refine cw (p:= .raw (.ref a)) X5 B5 rm (by intros) ?_
   intro v J X' B' r
   refine(show v= .ref a from r)▸?_
   exact zi X' B' MN (λ_=>nofun)
theorem CH (L:Lx C f3){tg sr:List (Str×Int)}(hz:tg.length<=1000)(M0:sr.length<=1000):aN C (k+1) own (.ref 56) [.au (dR tg),.au (dR sr)] [] (.au (dR (cH tg sr))):=by
 have L':=L.L
 refine kP.call (xs:=["target","source"]) [("target",.au (dR tg)),("source",.au (dR sr))] L'.ok L.ac ⟨rfl,rfl,rfl,rfl,rfl,by decide+kernel⟩ (by decide+kernel) rfl rfl λW A env s t Wt q code rm X B=> ?_
 refine sC (v:=PV.int) (op:=λn c=>n+c) (P:=λ_=>True) L'.ok hz M0 (λ_ _ _ _=>trivial) (λ_ _=>trivial) (λ_ _=>trivial) ?_ rm X B
 intro W A env s t Wt ow a f x c n S E Q rm _ _ hl hq Ma X B next
 conv in Bo=>whnf
 with_reducible refine step_if (b:=false) X B rm (Tr.plain (Ev.a6 (by intros) (by intros) cC.pj) Th.bool (λ_ _=>by fail)) ?_
 intro s5 X5 B5
 rw [if_neg (by decide)]
 with_reducible refine nC (a:=a) (es:=iw PV.int f) (p:= .int n) (q:= .int c) (r:= .int (n+c)) X5 B5 rm (by intros) (by intros) (by intros) Ma ?hl ?hp aj.qp (λ_ _ _=>by fail) ?_
 case hl=>rw [Hd];exact Hg hl (by decide)
 case hp=>rw [lookup_map2 (f:=PV.int),hq];rfl
 intro s6 X6 B6
 exact Hk (Hk (next s6 X6 B6))
set_option maxRecDepth 100000
noncomputable def KT (p:Params):Frag:=[(38,w4 p),(37,yv p),(28,oj p),(35,oq p)]
theorem xK (p:Params):makesIn (KT p) 38=true:=by rfl
theorem yK (p:Params):findIn (KT p) (.ref 38) "__init__"=some (some (.ref 28)):=by rfl
theorem BX (p:Params):typeIn (KT p) (.ref 28)=some (.type "function"):=by rfl
theorem CA (p:Params):typeIn (KT p) (.ref 35)=some (.type "function"):=by rfl
theorem Bq (p:Params):findIn (KT p) (.ref 38) "compare"=some (some (.ref 35)):=by rfl
theorem Be (p:Params):findIn (KT p) (.ref 38) "__getattribute__"=some (some (.builtin "object.__getattribute__")):=by rfl
theorem Ep (p:Params):findIn (KT p) (.ref 38) "__getattr__"=some none:=by rfl
theorem Eh (p:Params):findIn (KT p) (.ref 38) "__setattr__"=some (some (.builtin "object.__setattr__")):=by rfl
theorem zI (p:Params):plainOver (KT p) 38=true:=by rfl
theorem yg (p:Params):takerIn (KT p) 38 "comp_select_list"=some none:=by rfl
theorem zr (p:Params):(clsIn (KT p) 38).any (·.hasDict)=true:=by rfl
theorem xu (p:Params):hasDictIn (KT p) 38=true:=by rfl
theorem yP (p:Params):findIn (KT p) (.ref 38) "comp_select_list"=some none:=by rfl
structure mT (C:Cfg):Prop where
 at_:∀a o,(KT C.w.params).lookup a=some o->a∉C.aq/\C.h₀.get? a=some o
theorem mT.kk {C:Cfg}{s:Shared}(x:mT C)(i:Inv C s):(KT C.w.params).In s.heap:=λa o h=>by
 exact i.old a o (x.at_ a o h).1 (x.at_ a o h).2
set_option maxRecDepth 4000
structure CX (C:Cfg)(fa:Addr)(body:List Stmt)(S:Scope)(pa:Arguments):Prop where
 ex:∃fd,FnAt C fa fd body/\fd.scope=S/\fd.params=pa/\fd.defaults= .none/\fd.kwdefaults= .none
theorem CX.fo {fa:Addr}{body:List Stmt}{S:Scope}{pa:Arguments}(F:CX C fa body S pa):cF C fa:=by refine ae F.ex λ_ h _=> ?_;exact h.fo
noncomputable abbrev iY (p:PV):PV:= .inst 38 [("comp_select_list",p)]
theorem rf {ds:List DictEntry}{kvs:List (Str×Value)}{x:Str}(hp:Pairs (strKind C.prog C.w) ds kvs):(ds.find? (·.key.isStr x)).map (·.val)=valueAt kvs x/\ds.any (·.refKey)=false:=by
 induction hp with
 |nil=>exact⟨rfl,rfl⟩
 | @cons e kv es kvs h1 h2 h3 ih=>
  obtain⟨t,ht⟩:=mY h1
  have hr:e.refKey=false:=by
   unfold DictEntry.refKey;rw [ht]
  refine⟨?_,by simp only [KI,hr,J2];exact ih.2⟩
  unfold valueAt
  simp only [List.find?_cons,(by rw [ht];rfl:e.key.isStr x=decide (kv.1=x)),List.find?_cons]
  by_cases q:kv.1=x
  ·simp [q,h2]
  ·simp only [q,decide_false]
   exact ih.1
theorem nE {a:Addr}{ds:List DictEntry}{kvs:List (Str×Value)}{n:Nat}{x:Str}(sd:C.S a ds kvs):lookIn x (bj ds n)=some (valueAt kvs x):=by
 refine c5 (rf (x:=x) sd.2.2.1) λh1 h2=> ?_
 delta lookIn bj
 dsimp only
 refine h1▸?_
 cases q:ds.find? (·.key.isStr x) with
 |none=>simp [h2]
 |some e=>rfl
theorem sm {v:Value}{p:PV}(r:Rr C W s.heap v (iY p)):∃x dx od u,v= .ref x/\InstAt s.heap x (instObj 38 dx) 38 (some od)/\lookIn "comp_select_list" od=some (some u)/\lookIn "compare" od=some none/\Rr C W s.heap u p:=by
 obtain⟨x,dx,ds,n,kvs,rfl,n1,n2,g1,g2,sd,u,r',hk,r1,r2⟩:=r
 rw [show r'=[] from r2] at hk
 subst hk
 refine⟨x,dx,bj ds n,u,rfl,⟨g1,rfl,rfl,g2⟩,?_,?_,r1⟩
 ·rw [nE sd];rfl
 ·rw [nE sd];rfl
theorem Ev.CQ {o:Str}{op apos:Pos}{xs:List PV}(K:mT C)(ho:Ev C k sc own ρ (.Name o op) (iY (.lst xs))):Ev C k sc own ρ (.Attribute (.Name o op) "comp_select_list" apos) (.lst xs):=λW A env s rm X=>by
 refine Attribute_name (Hb (ho W A env s rm X) ?_ λ_ _ q=>q.elim)
 rintro v s1 ⟨e1,r1⟩
 obtain⟨x,dx,od,u,rfl,I,h1,h2,r⟩:=sm r1
 refine get_value (K.kk (X.aA e1).inv) I (Be _) (findObj_own (xu _) (yP _) rfl h1) ?_ ⟨e1.trans (ah.tok _),(ah.tok (C:=C) (W:=W) (s:=s1) (s1.toks+1)).rr r⟩
 refine lQ r λa vs n L1 _=> ?_;refine L1▸?_
 rfl
theorem Ev.Ej {o a:Expr}{args:List Expr}{apos:Pos}{p r:PV}{ps:List PV}(K:mT C)(ho:Ev C k sc own ρ o (iY p))(ha:ab C k sc own ρ (a::args) ps)(F:cF C 35)(hc:aN C k own (.ref 35) (iY p::ps) [] r)
 (Ln:∀env,attributeBase o "compare" env (eval o env)=eval o env)
 (LZ:∀env,((backTo pos (starEach (a::args) env)).all (λx=> !x.1) && (backToKw pos (keywordEach [] env)).all (λx=>x.1.isSome)
  && decide ((a::args).length+([]:List Keyword).length+(if([]:List Keyword).isEmpty then 0 else 1) < 30))=true)
 (Lp:(apos.endLine==pos.line)=true)(Mu:∀env,∃m ms,backTo pos (starEach (a::args) env)=(false,m)::ms):
 Ev C k sc own ρ (.Call (.Attribute o "compare" apos) (a::args) [] pos) r:=λW A env s rm X=>by
 simp only [arm_eval_Call,Ln]
 refine Hc (Hb (ho W A env s rm X) ?_ λ_ _ q=>q.elim)
 rintro v s1 ⟨e1,r1⟩
 have X1:=X.aA e1
 obtain⟨x,dx,od,u,rfl,I,h1,h2,r⟩:=sm r1
 refine Hc (Iw ?_)
 have Qo:methodCallForm ((a::args).length+([]:List Keyword).length) (backTo pos (starEach (a::args) env)) (backToKw pos (keywordEach [] env))=true:=LZ env
 unfold methodCall
 refine Qo▸?_
 refine Hc (HV (method_fn (K.kk X1.inv) I (Be _) (Ep _) (Bq _) (CA _) (by show (lookIn _ od).map _=_;rw [h2];rfl) ?_))
 refine Hc (wpAny_of_eq (by unfold methodCallPos;simp [Lp]:methodCallPos true o env apos pos=pure pos) ?_)
 refine aL F.obj λo' fd Od hd=> ?_
 refine callWith_function (o:=o') (fd:=fd) ?_
 refine fC (Mu env) λm ms hm=> ?_
 have h3:=ha W A env s1 pos rm X1
 rw [hm] at h3 ⊢
 refine JS (Hb h3 ?_ λ_ _ q=>q.elim)
 intro vs s2 zz;refine c5 zz λe2 r2=> ?_
 have X2:=X1.aA e2
 refine⟨⟨X2.inv.old _ _ F.nt Od,hd⟩,Hb (hc W A s2 (.ref x::vs) [] rm X2.gd X2.owns ⟨_,_,rfl,e2.pe r1,r2⟩ .nil) ?_ λ_ _ q=>q.elim⟩
 rintro w s3 ⟨e3,r3⟩
 exact⟨(e1.trans e2).trans e3,r3⟩
theorem AI {fa:Addr}{fd:FuncData}{body:List Stmt}{args:Args}{binds:List (Str×Value)}{q:List (Str×PV)}{R:Result->Shared->Prop}
 (ok:C.Ok)(F:FnAt C fa fd body)(g:Gd C W s)(K':∀x∈own,x.1∈W/\dO C W s.heap x.1 x.2/\x.1∉C.aq)
 (rm:ak A (k+1))(Mj:BindsTo s fd args binds)(rep:dy C W s.heap binds q)(nd:(binds.map (·.1)).Nodup)
 (hk:∀x∈binds,fd.scope.names.lookup x.1=some .local\/fd.scope.names.lookup x.1=some .cell)
 (Mg:∀L env J,s.heap.objs.size<=L->St C (L::W) (lC fd) own (aC q) env J->Bs C (own.map (·.1)) (iq fd) s own env J->∀A',ak A' k->
  wpAny C.M A' (execs body env) (λf Lv=>R (.ok (.ret (match f with | .ret v=>v |_=> .none))) Lv) (λ_ _=>False) J):
 codeAny C.M A (.call (.ref fa) args) R s:=by
 refine ae F.obj λo ho hd=> ?_
 refine J9 (Hn (IX (HN _ _) rm.depth) (by decide)) (g.inv.old _ _ F.fa ho) hd F.co F.gen F.body (g.inv.oI F.code F.noTab) (Mj _ _ _ _ ?_)
 refine F.clos▸?_
 have LI:∀x,fd.scope.names.lookup x=some .cell->((cellsFrom (s.heap.objs.size+1) fd.scope.names []).lookup x).isSome=true:=λx hx=>by
  refine cz (aY (n:=s.heap.objs.size+1) (acc:=[]) (HX hx)) λc hc=> ?_
  obtain⟨d,hd⟩:=aH hc
  refine hd▸?_;rfl
 refine JA F.kind (λx hx=>(hk x hx).imp id λh=>⟨h,LI _ h⟩) λenv he J x=> ?_
 subst he
 have X:St C (s.heap.objs.size::W) (lC fd) own (aC q) (callEnvC fd s.heap.objs.size fa) J:=
  St.enter g K' rfl F.glob F.blt F.kind nd rep (λx hx=>F.free _ (HX hx) rfl) LI x
 have B:Bs C (own.map (·.1)) (iq fd) s own (callEnvC fd s.heap.objs.size fa) J:=by
  refine⟨(ix (C:=C) x).up,⟨g.inv.beyond (Hh _),.inl (Hh _)⟩,λy c _ _ hc=> ?_,λy hy=>⟨g.new _ (K' y hy).1,.inr (He.mpr ⟨y,hy,rfl⟩)⟩⟩
  have:=bV (HX hc)
  exact⟨g.inv.beyond (HM this),.inl (HM this)⟩
 refine⟨X.inv.nolimit ok,codeAny_func (Hb (Mg _ _ J (Hh _) X B _ (rm.deeper _)) (λf Lv h=>h) λ_ _ q=>q.elim)⟩
theorem Ag {x dx:Addr}{m:Nat}{tk:Tok}{v:Value}{R:Result->Shared->Prop}(X:(KT C.w.params).In s.heap)(g1:s.heap.get? x=some (instObj 38 dx))(g2:s.heap.get? dx=some (bj [] m))
 (h:∀ds n,(s.heap.update dx (Obj.putName "comp_select_list" (PyData.keyHash C.w.params "comp_select_list") (.str "comp_select_list" s.toks) v)).get? dx=some (bj ds n)->dx≠sysModules->C.S dx ds [("comp_select_list",v)]->
  R (.ok (.ret .none)) {s with heap:=s.heap.update dx (Obj.putName "comp_select_list" (PyData.keyHash C.w.params "comp_select_list") (.str "comp_select_list" s.toks) v),toks:=s.toks+1})
 (Lr:dx≠sysModules):
 codeAny C.M A (.call (.builtin "object.__setattr__") ⟨[.ref x,.str "comp_select_list" tk,v],[]⟩) R s:=by
 refine osa_open X (⟨g1,rfl,rfl,g2⟩:InstAt s.heap x (instObj 38 dx) 38 (some (bj [] m))) (zI _) (yg _) λb=> ?_
 refine ae (any_some (zr C.w.params)) λcd hc Nl=> ?_
 have D':(s.heap.update dx (Obj.putName "comp_select_list" (PyData.keyHash C.w.params "comp_select_list") (.str "comp_select_list" s.toks) v)).get? dx=some (bj [⟨PyData.keyHash C.w.params "comp_select_list",.str "comp_select_list" s.toks,v⟩] (m+1)):=by
  exact Heap.get?_update_self _ g2 (by refine(by rfl:Obj.putName "comp_select_list" (PyData.keyHash C.w.params "comp_select_list") (.str "comp_select_list" s.toks) v (bj [] m)=bj [⟨PyData.keyHash C.w.params "comp_select_list",.str "comp_select_list" s.toks,v⟩] (m+1))▸?_;rfl)
 refine Hc (Hj (Hc (Hc (wpAny_loadPart g1 (Hc ((looks_clsIn X hc).here ?_))))))
 rw [Nl]
 refine Hj (a:=some dx) (Hc (Hj (Hc ?_)))
 refine Hc (Hc (wpAny_askSetting (Hj (Hc (wpAny_mkText (Hc (wpAny_loadPart g2 ?_)))))))
 dsimp only [bj]
 refine wpAny_updatePart g2 ?_
 refine Hc (wpAny_lookBehind D' (pastItsLine_dict (by simp)) ?_)
 refine Hj (h _ _ D' Lr ⟨Lr,?_,?_,?_⟩)
 ·intro en SQ
  rw [List.mem_toArray,Hi] at SQ
  subst SQ
  exact⟨"comp_select_list",mL _ _,rfl⟩
 ·exact .cons (mL _ _) rfl .nil
 ·simp
noncomputable abbrev ES:List Stmt:=ay (cI tb 1) 0
noncomputable abbrev FK:List Stmt:=ay (cI tb 1) 1
structure Tc (C:Cfg):Prop where
 k:mT C
 nt:(38:Addr)∉C.aq
 ini:CX C 28 ES (ai (cI tb 1) 0) (bP (cI tb 1) 0)
 cmp:CX C 35 FK (ai (cI tb 1) 1) (bP (cI tb 1) 1)
theorem zF (p:Params):keepIn (KT p) (.ref 38)=true:=by rfl
theorem ry {o vn:Str}{op vp pos':Pos}{x dx:Addr}{p:PV}(K:mT C)(X:St C W sc own ρ env s)(B:Bs C Wt mine t own env s)(rm:ak A k)(ho:Ev C k sc own ρ (.Name o op) (.raw (.ref x)))(hv:Ev C k sc own ρ (.Name vn vp) p)
 (h1:(x,PV.obj (instObj 38 dx))∈own)(h2:(dx,PV.au [])∈own)(hs:swapsWith (.Name vn vp) (some (.Attribute (.Name o op) "comp_select_list" pos')) pos.line env=pure false)
 (next:∀J,St C W sc (aE own dx (.au [("comp_select_list",p)])) ρ env J->Bs C Wt mine t (aE own dx (.au [("comp_select_list",p)])) env J->wpAny C.M A (execs rest env) Q E J):
 wpAny C.M A (execs (.Assign [.Attribute (.Name o op) "comp_select_list" pos'] (.Name vn vp) pos::rest) env) Q E s:=by
 refine HP (plainObj_wpAny_Assign_Attribute (Hb (hv W A env s rm X) ?_ λ_ _ q=>q.elim) hs)
 rintro v s1 ⟨e1,r1⟩
 refine Hb (ho W A env s1 rm (X.aA e1)) ?_ λ_ _ q=>q.elim
 rintro ov s2 ⟨e2,r2⟩
 simp only [show ov= .ref x from r2]
 have O7:=e1.trans e2
 have X2:=X.aA O7
 refine c5 (X2.owns _ h1).2.1 λg1 _=> ?_
 obtain⟨hd,⟨VG,n0,TZ,g2,QK,Vv⟩,VW⟩:=X2.owns _ h2
 subst Vv
 have Q6:VG=[]:=by
  cases QK.2.2.1;rfl
 subst Q6
 have Kk:=K.kk X2.inv
 have e3:ah C [] s2 {s2 with toks:=s2.toks+1}:=ah.tok _
 refine set_plain Kk (⟨g1,rfl,rfl,g2⟩:InstAt s2.heap x (instObj 38 dx) 38 (some (bj [] n0))) (Eh _) (Ag (s:={s2 with toks:=s2.toks+1}) Kk g1 g2 (λds n hg Lr sd=> ?_) QK.1)
 have:=qi (tk:=s2.toks+1+1) (fs:=[("comp_select_list",p)]) (X2.aA e3) ((B.step O7).step e3) h2 (H4 ..) hg sd ⟨v,[],rfl,(e2.trans e3).pe r1,rfl⟩
 exact next _ this.1 this.2
theorem ah.qu {Lv:Shared}(e:ah C [] s J)(e':ah C V J Lv)(h:∀a∈V,s.heap.objs.size<=a):ah C [] s Lv where
 keep a o h1 h2 g:=e'.keep a o h1 (λq=>absurd (Hp g) (Hs.mpr (h a q))) (e.keep a o h1 h2 g)
 size:=Hg e.size e'.size
 tabs:=((e.up (W:=V)).trans e').tabs
 os:=e'.os.trans e.os
 gens h:=e'.gens (e.gens h)
theorem ak.under (rm:ak A (k+1))(c:Code)(h1:c.weight<=1)(h2:c.cUnits<=10):ak (A.under c) k:=by
 refine⟨rm.handled,?_,?_⟩
 ·have:=rm.depth
  show A.depth+c.weight+k < 900
  lia
 ·have:=rm.units
  show A.units+c.cUnits+10*k < 9000
  lia
theorem xA (ok:C.Ok)(T:Tc C){p:PV}:aN C (k+2) own (.ref 38) [p] [] (iY p):=λW A s vs kvs rm g ho r1 r2=>by
 refine ae r1.inv1 λvk LG rk=> ?_;refine LG▸?_
 refine r2.i7▸?_
 refine K0 ?_
 obtain⟨hh,gg,d,tk,os⟩:=s
 have Kk:=T.k.kk g.inv
 refine make_core (makes_of Kk (xK _)) (looks_findIn Kk (yK _)) (λself=>bind_fn Kk self (BX _)) (.inl rfl) ?_
 have e1:ah C [] ⟨hh,gg,d,tk,os⟩ ⟨hh.push emptyDict,gg,d,tk,os⟩:=ah.push (s:=⟨hh,gg,d,tk,os⟩) emptyDict tk
 have e2:ah C [] ⟨hh.push emptyDict,gg,d,tk,os⟩ ⟨(hh.push emptyDict).push (instObj 38 hh.objs.size),gg,d,tk,os⟩:=ah.push (s:=⟨hh.push emptyDict,gg,d,tk,os⟩) (instObj 38 hh.objs.size) tk
 have O7:=e1.trans e2
 have QU:(hh.push emptyDict).objs.size=hh.objs.size+1:=HU ..
 have nN:∀a,hh.objs.size<=a->¬C.N W a:=λa h q=>absurd (g.low a q) (Hs.mpr h)
 have QK:C.S hh.objs.size [] []:=⟨g.inv.gv,by intro e h;simp at h,.nil,by simp⟩
 have g':Gd C ((hh.objs.size+1)::hh.objs.size::W) ⟨(hh.push emptyDict).push (instObj 38 hh.objs.size),gg,d,tk,os⟩:=by
  refine⟨g.inv.jj O7,λa ha=> ?_,λa ha=> ?_⟩
  ·show a < ((hh.push emptyDict).push (instObj 38 hh.objs.size)).objs.size
   rw [(by rw [HU,QU]:((hh.push emptyDict).push (instObj 38 hh.objs.size)).objs.size=hh.objs.size+2)]
   rcases ha with ha |ha
   ·exact Hn (g.low a (.inl ha)) (HN _ 2)
   ·simp only [Hf] at ha
    rcases ha with rfl |rfl |ha
    ·exact Io _
    ·exact Hn (Io _) (Iz _)
    ·exact Hn ((λa ha=>g.low a (.inr ha)) a ha) (HN _ 2)
  ·simp only [Hf] at ha
   rcases ha with rfl |rfl |ha
   ·exact g.inv.beyond (Iz _)
   ·exact g.inv.beyond (Hh _)
   ·exact g.new a ha
 have K':∀y∈([(hh.objs.size+1,PV.obj (instObj 38 hh.objs.size)),(hh.objs.size,.au [])]:Own),y.1∈((hh.objs.size+1)::hh.objs.size::W)/\dO C ((hh.objs.size+1)::hh.objs.size::W) ((hh.push emptyDict).push (instObj 38 hh.objs.size)) y.1 y.2/\y.1∉C.aq:=by
  intro y hy
  simp only [Hf,HH,It] at hy
  rcases hy with rfl |rfl
  ·exact⟨G9,⟨(by refine QU▸?_;exact Heap.get?_push_size _ rfl),λ_=>nofun⟩,λq=>nN _ (Iz _) (.inl q)⟩
  ·exact⟨Ha _ G9,⟨[],0,[],(Heap.get?_push_of_some _ (Heap.get?_push_size _ rfl)),QK,rfl⟩,λq=>nN _ (Hh _) (.inl q)⟩
 refine Cm T.ini.ex λfd F Lz Ob Oh Qs=> ?_
 have TX:Rr C ((hh.objs.size+1)::hh.objs.size::W) ((hh.push emptyDict).push (instObj 38 hh.objs.size)) vk p:=by
  exact Rr.grow (s:=⟨hh.push emptyDict,gg,d,tk,os⟩) (Rr.grow (s:=⟨hh,gg,d,tk,os⟩) rk e1 (Hh _)) e2 (JI QU)
 refine AI (k:=k) (own:=[(hh.objs.size+1,PV.obj (instObj 38 hh.objs.size)),(hh.objs.size,.au [])]) (args:=⟨[.ref (hh.objs.size+1),vk],[]⟩) (q:=[("self",.raw (.ref (hh.objs.size+1))),("comp_select_list",p)]) ok F g' K' (rm.under _ ?_ ?_) (me (by rw [Ob];exact⟨rfl,rfl,rfl,rfl,rfl,by decide+kernel⟩:l4 fd.params ["self","comp_select_list"]) Oh rfl) (.cons rfl (.cons TX .nil)) ?_ ?_ ?_
 ·exact Ho (by rfl)
 ·exact Ho (by rfl)
 ·show ([("self":Str),"comp_select_list"]:List Str).Nodup
  decide+kernel
 ·refine Lz▸?_
  intro y hy
  left
  refine(by decide+kernel:∀z∈([("self":Str),"comp_select_list"]:List Str),(ai (cI tb 1) 0).names.lookup z=some .local) _ ?_
  have:y.1∈([("self":Str),"comp_select_list"].zip [Value.ref (hh.objs.size+1),vk]).map (·.1):=He.mpr ⟨y,hy,rfl⟩
  exact this
 ·intro L env J hL X B A' L5
  have X':St C (L::(hh.objs.size+1)::hh.objs.size::W) ⟨ai (cI tb 1) 0,fd.qualname ++ ".<locals>.",fd.code⟩ [(hh.objs.size+1,PV.obj (instObj 38 hh.objs.size)),(hh.objs.size,.au [])] (aC [("self",.raw (.ref (hh.objs.size+1))),("comp_select_list",p)]) env J:=by
   refine Lz▸?_;exact X
  conv in execs _ _=>arg 1;whnf
  with_reducible refine ry T.k X' B L5 (Ev.var (by done) (by k_extra"r")) (Ev.var (by done) (by k_extra"r")) G9 (Ha _ G9) (by fail) ?_
  intro s3 X3 B3
  refine Hk ⟨rfl,?_⟩
  have L6:aE [(hh.objs.size+1,PV.obj (instObj 38 hh.objs.size)),(hh.objs.size,.au [])] hh.objs.size (.au [("comp_select_list",p)])=[(hh.objs.size+1,PV.obj (instObj 38 hh.objs.size)),(hh.objs.size,.au [("comp_select_list",p)])]:=by
   unfold aE
   simp
  simp only [L6] at X3 B3
  refine cZ (X3.owns _ G9) λ_ z1 _=> ?_;refine c5 z1 λg1 _=> ?_
  obtain⟨_,⟨ds,n,kvs,g2,sd,rd⟩,_⟩:=X3.owns _ (Ha _ G9)
  have Rl:ah C [] ⟨hh,gg,d,tk,os⟩ s3:=O7.qu B3.aA λa ha=>by
   simp only [Hm,Ib,Hf,HH,It] at ha
   rcases ha with rfl |rfl
   ·exact Iz _
   ·exact Hh _
  refine(⟨Rl,_,_,ds,n,kvs,rfl,nN _ (Iz _),nN _ (Hh _),g1,g2,sd,bz.mono (λb o n g=>⟨λq=>n (q.elim .inl λq=> .inr ?_),g⟩) rd⟩:ah C [] ⟨hh,gg,d,tk,os⟩ s3/\Rr C W s3.heap (.ref (hh.objs.size+1)) (iY p))
  exact Ha _ (Ha _ (Ha _ q))
theorem Ev.BY {x:Str}{px:Pos}{a:Expr}{p:PV}(ok:C.Ok)(T:Tc C)(hf:Ev C (k+2) sc own ρ (.Name x px) (.raw (.ref 38)))(ha:Ev C (k+2) sc own ρ a p)(he:∀env,starEach [a] env=(false,eval a env)::starEach [] env):
 Ev C (k+2) sc own ρ (.Call (.Name x px) [a] [] pos) (iY p):=λW A env s rm X=>by
 refine Iu (Hb (hf W A env s rm X) ?_ λ_ _ q=>q.elim)
 rintro v s1 ⟨e1,r1⟩
 refine(show v= .ref 38 from r1)▸?_
 have X1:=X.aA e1
 refine callWith_K (K:=KT C.w.params) (T.k.kk X1.inv) (zF _) (Hb ((ab.cons ha ab.nil he) W A env s1 pos rm X1) ?_ λ_ _ q=>q.elim) (he env) rfl
 rintro vs s2 ⟨e2,r2⟩
 have X2:=X1.aA e2
 refine⟨T.k.kk X2.inv,Hb (xA (own:=own) ok T W A s2 vs [] rm X2.gd X2.owns r2 .nil) ?_ λ_ _ q=>q.elim⟩
 rintro w s3 ⟨e3,r3⟩
 exact⟨(e1.trans e2).trans e3,r3⟩
theorem CX.Ed {fa:Addr}{body:List Stmt}{S:Scope}{pa:Arguments}{xs:List Str}{ps:List PV}{r:PV}(qs:List (Str×PV))(ok:C.Ok)(F:CX C fa body S pa)(hP:l4 pa xs)(hn:∀x∈xs,S.names.lookup x=some .local\/S.names.lookup x=some .cell)(hl:ps.length=xs.length)(Oe:xs.zip ps=qs)
 (h:∀W A env s t q code,ak A k->St C W ⟨S,q,code⟩ [] (aC qs) env s->Bs C [] (λ_=>true) t [] env s->
  wpAny C.M A (execs body env) (λf J=>ah C [] t J/\Rr C W J.heap (match f with | .ret v=>v |_=> .none) r) (λ_ _=>False) s):
 aN C (k+1) own (.ref fa) ps [] r:=λW A s vs kvs rm g ho r1 r2=>by
 subst Oe
 rw [r2.i7]
 refine Cm F.ex λfd F Lz Ob Oh Qs=> ?_
 have OU:vs.length=xs.length:=by rw [aQ.length r1,hl]
 have Ly:(xs.zip vs).map (·.1)=xs:=J6 (by simp_all)
 refine dF (own:=[]) (args:=⟨vs,[]⟩) ok F g (by grind) rm (me (by rw [Ob];exact hP) Oh OU) (r1.zip hl.symm) (by rw [Ly];exact hP.nd) (λy hy=> ?_) ?_
 ·refine Lz▸?_
  exact hn _ (by have:y.1∈(xs.zip vs).map (·.1):=He.mpr ⟨y,hy,rfl⟩;rwa [Ly] at this)
 intro Lo env J hL X B A' L5
 have X':St C (Lo::W) ⟨S,fd.qualname ++ ".<locals>.",fd.code⟩ [] (aC (xs.zip ps)) env J:=by
  refine Lz▸?_;exact X
 refine Hb (h _ A' env J _ _ _ L5 X' B) ?_ λ_ _ q=>q
 rintro f Lv ⟨e,rr⟩
 exact⟨e,rr.drop λa ha=>Ha _ ha⟩
noncomputable def xg:bK:=λ_=>some (.obj default)
theorem St.bad {x:Str}(X:St C W sc own xg env s)(hx:sc.scope.names.lookup x=some .local):False:=by
 refine ae X.loc λm _ h=> ?_
 refine ae (h x _ hx rfl) λv _ r=> ?_
 exact r
open Classical in
theorem t9 {need:Bool}{target iter:Expr}{body:List Stmt}{ps:List PV}{x0:Str}(X:St C W sc own ρ env s)(B:Bs C Wt mine t own env s)(rm:ak A k)(Se:sc.scope.names.lookup x0=some .local)
 (hi:eu need C k sc own ρ iter ps)(O:Nat->Own)(R R':Nat->bK)(P:Nat->Prop)(h0:O 0=own)(Oi:R 0=ρ)(hP:P 0)(hO:∀i,(O i).map (·.1)=own.map (·.1))
 (Rt:PV->Prop)
 (LH:∀i p,ps[i]? =some p->bg C sc mine (R i) target p (R' i))
 (turn:∀I o i p t Wt f',(∀y∈own,y.1≠I)->ps[i]? =some p->P i->St C (I::W) sc ((I,.obj o)::O i) (R' i) env f'->Bs C Wt mine t ((I,.obj o)::O i) env f'->
  wpAny C.M A (execs body env) (λf H'=>match f with
   | .next | .cont=>P (i+1)/\St C (I::W) sc ((I,.obj o)::O (i+1)) (R (i+1)) env H'/\Bs C Wt mine t ((I,.obj o)::O (i+1)) env H'
   | .brk=>False
   | .ret v=>∃p own' J',Rt p/\Rr C (I::W) H'.heap v p/\St C (I::W) sc own' J' env H'/\Bs C Wt mine t own' env H') (λ_ _=>False) f')
 (ret:∀v p J,Rt p->Rr C W J.heap v p->Inv C J->ah C Wt t J->Q (.ret v) J)
 (done:∀J,P ps.length->St C W sc (O ps.length) (R ps.length) env J->Bs C Wt mine t (O ps.length) env J->wpAny C.M A (execs rest env) Q E J)
 (hs:∀x,foldedSetIterable iter env x=pure x)(htg:autoParam (need=true->cE target=true) nf):wpAny C.M A (execs (.For target iter body [] pos::rest) env) Q E s:=by
 refine a7 (need:=need) (k:=k) (ps:=ps) X B rm hi O (λi=>if P i then R i else xg) (λi=>if P i then R' i else xg) h0 (by simp only [if_pos hP];exact Oi) hO Rt (λi p hp=> ?_) (λI o i p t Wt f' hI hp X1 B1=> ?_) ret (λJ X1 B1=> ?_) hs htg
 ·by_cases h:P i
  ·simp only [if_pos h];exact LH i p hp
  ·simp only [if_neg h]
   exact λW own A env s v t Wt _ X B r=>(X.bad Se).elim
 ·by_cases h:P i
  ·simp only [if_pos h] at X1
   refine Hb (turn I o i p t Wt f' hI hp h X1 B1) (λf H' hf=> ?_) λ_ _ q=>q
   cases f with
   |next=>obtain⟨h1,h2,h3⟩:=hf;simp only [if_pos h1];exact⟨h2,h3⟩
   |cont=>obtain⟨h1,h2,h3⟩:=hf;simp only [if_pos h1];exact⟨h2,h3⟩
   |brk=>exact hf
   |ret v=>exact hf
  ·simp only [if_neg h] at X1
   exact(X1.bad Se).elim
 ·by_cases h:P ps.length
  ·simp only [if_pos h] at X1
   exact done J h X1 B1
  ·simp only [if_neg h] at X1
   exact(X1.bad Se).elim
theorem aj.Gu {a b:Str}:aj C (compareOp .Gt) (.str a) (.str b) (.bool (decide (b.cps.toList < a.cps.toList))):=λW A s v u _ g h1 h2=>by
 obtain⟨t,rfl⟩:=h1;obtain⟨t',rfl⟩:=h2
 exact PySem.P.gt_str ⟨ah.refl _,rfl⟩
inductive Cl
 |i (n:Int)
 |s (x:Str)
 deriving Inhabited
noncomputable def Cl.pv:Cl->PV
 | .i n=> .int n
 | .s x=> .str x
noncomputable def Cl.lt:Cl->Cl->Bool
 | .i a,.i b=>decide (a < b)
 | .s a,.s b=>decide (a.cps.toList < b.cps.toList)
 |_,_=>false
noncomputable def Cl.zq:Cl->Cl->Bool
 | .i _,.i _=>true
 | .s _,.s _=>true
 |_,_=>false
noncomputable def kO (L R:List Cl):List (Nat×Int)->Int
 |[]=>0
 |(j,d)::ks=>if(L.getD j default).lt (R.getD j default) then -d else if(R.getD j default).lt (L.getD j default) then d else kO L R ks
theorem zP (L R:List Cl):kO L R []=(0):=rfl
theorem AF (L R:List Cl) {j d ks}:kO L R ((j,d)::ks)=(if(L.getD j default).lt (R.getD j default) then -d else if(R.getD j default).lt (L.getD j default) then d else kO L R ks):=rfl
noncomputable def gY (e:Nat×Int):PV:= .tup [.int (e.1:Int),.int e.2]
noncomputable abbrev fg (L:List Cl):PV:= .tup (L.map Cl.pv)
theorem aj.GC {a b:Cl}(h:a.zq b=true):aj C (compareOp .Lt) a.pv b.pv (.bool (a.lt b)):=by
 cases a <;> cases b <;> first |exact aj.ltI |exact aj.dA |cases h
theorem aj.Gr {a b:Cl}(h:a.zq b=true):aj C (compareOp .Gt) a.pv b.pv (.bool (b.lt a)):=by
 cases a <;> cases b <;> first |exact aj.Fg |exact aj.Gu |cases h
theorem zA (ok:C.Ok)(T:Tc C){keys:List (Nat×Int)}{L R:List Cl}(hk:∀e∈keys,e.1 < L.length/\e.1 < R.length/\(L.getD e.1 default).zq (R.getD e.1 default)=true)(hL:L.length<=1000)(hR:R.length<=1000)(hz:keys.length<=1000):
 aN C (k+1) own (.ref 35) [iY (.lst (keys.map gY)),fg L,fg R] [] (.int (kO L R keys)):=by
 have LK:sizeLine=16777216:=rfl
 refine CX.Ed (xs:=["self","left","right"]) [("self",iY (.lst (keys.map gY))),("left",fg L),("right",fg R)] ok T.cmp ⟨rfl,rfl,rfl,rfl,rfl,by decide+kernel⟩ (by decide+kernel) rfl rfl λW A env s t q code rm X B=> ?_
 conv in execs _ _=>arg 1;whnf
 have key:∀{i:Nat} {p:PV},(keys.map gY)[i]? =some p->p=gY (keys.getD i default)/\keys[i]? =some (keys.getD i default):=λ{i p} h=>by
  rw [List.getElem?_map] at h
  refine ae (Iy.mp h) λe h1 h2=> ?_
  refine List.getD_eq_getElem?_getD▸h1▸?_
  exact⟨h2.symm,rfl⟩
 with_reducible
  refine t9 (need:=false) (k:=k) (ps:=keys.map gY) (x0:="self") X B rm (by done) (aX.lst (Ev.CQ T.k (by intros)) (by rw [Hd];lia)) (λ_=>[])
   (λi=>aC [("self",iY (.lst (keys.map gY))),("left",fg L),("right",fg R)])
   (λi=>upd (upd (aC [("self",iY (.lst (keys.map gY))),("left",fg L),("right",fg R)]) "index" (.int ((keys.getD i default).1:Int))) "direction" (.int (keys.getD i default).2))
   (λi=>kO L R (keys.drop i)=kO L R keys) rfl rfl (by rw [Lh]) (λ_=>rfl) (λp=>p= .int (kO L R keys)) ?LH ?turn ?ret ?done (λx=>by fail)
 case LH=>
  intro i p hp
  simp only [(key hp).1]
  exact bg.tuple (bD.cons (bg.local (by rfl)) (bD.cons (bg.local (by rfl)) bD.nil (λenv=>rfl)) (λenv=>rfl)) (λenv=>⟨rfl,rfl⟩)
 case turn=>
  intro I o i p t' LY s1 hI hp hP X1 B1
  obtain⟨_,h1⟩:=key hp
  refine cZ (hk _ (List.mem_of_getElem? h1)) λh2 h3 h4=> ?_
  have VA:keys.drop i=keys.getD i default::keys.drop (i+1):=by
   obtain⟨Ll,e⟩:=List.getElem?_eq_some_iff.mp h1
   rw [JD Ll,e]
  rw [VA] at hP
  generalize keys.getD i default=e at X1 h2 h3 h4 hP
  obtain⟨j,d⟩:=e
  dsimp only at X1 h2 h3 h4
  have ha:(L.map Cl.pv)[j]? =some (L.getD j default).pv:=by
   simp only [List.getElem?_map,List.getElem?_eq_getElem h2,List.getD_eq_getElem?_getD];rfl
  have hb:(R.map Cl.pv)[j]? =some (R.getD j default).pv:=by
   simp only [List.getElem?_map,List.getElem?_eq_getElem h3,List.getD_eq_getElem?_getD];rfl
  replace hP:(if(L.getD j default).lt (R.getD j default)=true then -d else if(R.getD j default).lt (L.getD j default)=true then d else kO L R (keys.drop (i+1)))=kO L R keys:=hP
  generalize L.getD j default=a at ha h4 hP
  generalize R.getD j default=b at hb h4 hP
  with_reducible refine az (p:=a.pv) X1 B1 rm (Ev.b9 (n:=j) (Ev.t (xs:=L.map Cl.pv) (by intros)) (by intros) (by fail) ha (by lia) (λ_ _=>by fail)) (by done) (by fail) ?_
  intro s2 X2 B2
  with_reducible refine az (p:=b.pv) X2 B2 rm (Ev.b9 (n:=j) (Ev.t (xs:=R.map Cl.pv) (by intros)) (by intros) (by fail) hb (by lia) (λ_ _=>by fail)) (by done) (by fail) ?_
  intro s3 X3 B3
  with_reducible refine step_if (b:=a.lt b) X3 B3 rm (Tr.cmp (by intros) (by intros) (aj.GC h4) Th.bool (by kernel_rfl!)) ?_
  intro s4 X4 B4
  cases My:a.lt b with
  |true=>
   rw [if_pos rfl]
   rw [My,if_pos rfl] at hP
   with_reducible refine cw (p:= .int (-d)) X4 B4 rm (by intros) ?_
   intro v J X' B' r
   exact⟨_,_,_,by rw [hP],r,X',B'⟩
  |false=>
   rw [My,if_neg (by decide)] at hP
   refine Hk ?_
   dsimp only
   with_reducible refine step_if (b:=b.lt a) X4 B4 rm (Tr.cmp (by intros) (by intros) (aj.Gr h4) Th.bool (by kernel_rfl!)) ?_
   intro s5 X5 B5
   cases hba:b.lt a with
   |true=>
    rw [if_pos rfl]
    rw [hba,if_pos rfl] at hP
    with_reducible refine cw (p:= .int d) X5 B5 rm (by intros) ?_
    intro v J X' B' r
    exact⟨_,_,_,by rw [hP],r,X',B'⟩
   |false=>
    rw [hba,if_neg (by decide)] at hP
    exact Hk (Hk ⟨hP,X5.to (by k_extra"rs"),B5⟩)
 case ret=>
  rintro v p J rfl r _ e
  exact⟨e,r⟩
 case done=>
  intro s1 hP X1 B1
  rw [Hd,List.drop_length] at hP
  with_reducible refine cw (p:= .int (kO L R keys)) X1 B1 rm (Ev.conv (p:= .int 0) (by intros) (by refine hP▸?_;fail)) ?_
  intro v J X' B' r
  exact⟨B'.aA,r⟩
theorem aN.up {f:Value}{ps:List PV}{LD:List (Str×PV)}{r:PV}(h:aN C k [] f ps LD r):aN C k own f ps LD r:=λW A s vs kvs rm g ho r1 r2=>h W A s vs kvs rm g ez.nil r1 r2
structure Cfg.Up (C C':Cfg):Prop where
 le:C.Le C'
 ok:C'.Ok
 tabs:∀t∈C'.tabs,∃ps,C'.h₀.TableAt t.1 t.2.1 ps
theorem uB {ky:Addr}{params:Arguments}{body:Expr}{scope:Scope}{cl:List (Str×Addr)}{pm cd LX:Value}{x:Str}{κ:PV->PV}{M7:PV->Prop}(U:Cfg.Up C C')
 (L:ft C' ky (kG sc params body scope cl pm cd LX) body ρ)(hP:l4 params [x])(hn:scope.names.lookup x=some .local)(hf:∀p,M7 p->Flat (κ p))
 (hb:∀MW,C'.Le MW->MW.Ok->∀q code p,M7 p->Ev MW k ⟨scope,q,code⟩ [] (d8 scope [(x,p)] ρ) body (κ p)):nX C' (k+1) ky κ M7 where
 fo:=L.fo
 flat:=hf
 cal MW l p hp W A s vs kvs rm g ho r1 r2:=by
  refine ae r1.inv1 λv LG rv=> ?_;refine LG▸?_
  refine r2.i7▸?_
  have L8:=U.ok.le l
  refine pR (args:=⟨[v],[]⟩) (q:=[(x,p)]) L8 (L.le U.ok U.tabs l) g rm (me (xs:=[x]) hP rfl rfl) (.cons rv .nil) (by simp) (λy hy=> ?_) (hb MW l L8 _ _ p hp)
  have:y=(x,v):=by simpa using hy
  refine this▸?_
  exact .inl hn
theorem fx.tQ {x:Str}{px kp Nd:Pos}{a:Expr}{args:List Expr}{NT:Str}{params:Arguments}{body:Expr}{scope:Scope}{fa:Addr}{ps:List PV}{r:PV}(ok:C.Ok)(hf:Ev C k sc own ρ (.Name x px) (.raw (.ref fa)))(F:cF C fa)
 (ha:ab C k sc own ρ (a::args) ps)(LO:sN C sc scope)(Mq:∀env,defaultsOf params env=([],[]))
 (hc:∀C' ky cl pm cd LX,Cfg.Up C C'->(∀y∈own,y.1≠ky)->ft C' ky (kG sc params body scope cl pm cd LX) body ρ->gX C' k own own' (.ref fa) ps [(NT,.raw (.ref ky))] r)(K':own'.map (·.1)=own.map (·.1))
 (Mu:∀env,∃m ms,backTo pos (starEach (a::args) env)=(false,m)::ms)(LP:∀env,(backToKw pos (keywordEach [⟨some NT,.Lambda params body scope Nd,kp⟩] env)).all (·.1.isSome)=true):
 fx C k sc mine own own' ρ (.Call (.Name x px) (a::args) [⟨some NT,.Lambda params body scope Nd,kp⟩] pos) r:=λW A env s t Wt rm X B=>by
 refine JJ (Hb (hf W A env s rm X) ?_ λ_ _ q=>q.elim)
 rintro v s1 ⟨e1,r1⟩
 refine(show v= .ref fa from r1)▸?_
 refine aL F.obj λo fd ho hd=> ?_
 refine Km (o:=o) (fd:=fd) ?_
 refine fC (Mu env) λm ms hm=> ?_
 have h2:=ha W A env s1 pos rm (X.aA e1)
 simp only [hm] at h2 ⊢
 refine evalArgs_kw (LP env) (Hb h2 ?_ λ_ _ q=>q.elim)
 rintro vs s2 ⟨e2,r2⟩
 have X2:=(X.aA e1).aA e2
 refine kws_cons (Hb (qx ok X2 LO Mq) ?_ λ_ _ q=>q.elim)
 rintro kv s3 ⟨e3,ky,cl,pm,cd,LX,rfl,hky,L⟩
 refine kws_nil ?_
 have X3:=X2.aA e3
 refine⟨⟨X3.inv.old _ _ F.nt ho,hd⟩,Hb ((hc (C.at W s3) ky cl pm cd LX (⟨wC X3.inv ok X3.new,ok.at X3.inv X3.new,(X3.inv.at ok X3.new).sI⟩) (λy hy q=>absurd (X2.low _ (X2.owns y hy).1) (Hs.mpr (q▸hky))) L) W A s3 vs _ rm (X3.gd.at ok) X3.owns (e3.jl r2) (.cons rfl .nil)) ?_ λ_ _ q=>q.elim⟩
 intro w s4 zz;refine cZ zz λe4 o4 r4=> ?_
 exact⟨X3.turned e4.ql o4 K',(((B.step e1).step e2).step e3).turned e4.ql K',r4⟩
structure Cb (C:Cfg)(fa:Addr)(body:List Stmt)(S:Scope)(pa:Arguments)(q:Str)(code:Value):Prop where
 ex:∃fd,FnAt C fa fd body/\fd.scope=S/\fd.params=pa/\fd.defaults= .none/\fd.qualname ++ ".<locals>."=q/\fd.code=code
 tab:∃t∈C.tabs,code= .ref t.1/\q ++ "<lambda>"=t.2.2
theorem Cb.pX {fa:Addr}{body:List Stmt}{S:Scope}{pa:Arguments}{q:Str}{code:Value}{xs:List Str}{ps:List PV}{r:PV}(qs:List (Str×PV))(ok:C.Ok)(F:Cb C fa body S pa q code)(hP:l4 pa xs)(hn:∀x∈xs,S.names.lookup x=some .local\/S.names.lookup x=some .cell)(hl:ps.length=xs.length)(Oe:xs.zip ps=qs)
 (K':own'.map (·.1)=own.map (·.1))
 (h:∀W A env s t Wt,ak A k->St C W ⟨S,q,code⟩ own (aC qs) env s->Bs C Wt (λ_=>true) t own env s->
  wpAny C.M A (execs body env) (λf J=>(∃sc J',St C W sc own' J' env J)/\Bs C Wt (λ_=>true) t own' env J/\Rr C W J.heap (match f with | .ret v=>v |_=> .none) r) (λ_ _=>False) s):
 gX C (k+1) own own' (.ref fa) ps [] r:=λW A s vs kvs rm g ho r1 r2=>by
 subst Oe
 rw [r2.i7]
 refine EC F.ex λfd F Lz Ob Oh hq PJ=> ?_
 have OU:vs.length=xs.length:=by rw [aQ.length r1,hl]
 have Ly:(xs.zip vs).map (·.1)=xs:=J6 (by simp_all)
 refine dF (own:=own) (args:=⟨vs,[]⟩) ok F g ho rm (me (by rw [Ob];exact hP) Oh OU) (r1.zip hl.symm) (by rw [Ly];exact hP.nd) (λy hy=> ?_) ?_
 ·refine Lz▸?_
  exact hn _ (by have:y.1∈(xs.zip vs).map (·.1):=He.mpr ⟨y,hy,rfl⟩;rwa [Ly] at this)
 intro Lo env J hL X B A' L5
 have X':St C (Lo::W) ⟨S,q,code⟩ own (aC (xs.zip ps)) env J:=by
  simp only [<-Lz,<-hq,<-PJ];exact X
 refine Hb (h _ A' env J _ _ L5 X' B) ?_ λ_ _ q=>q
 intro f Lv zz;refine cZ zz λz3 B2 rr=> ?_;refine fC z3 λsc J' X2=> ?_
 refine⟨B2.aA,?_,rr.drop λa ha=>Ha _ ha⟩
 have x2:ez C (Lo::W) own' Lv:=X2.owns
 refine x2.drop λy hy=> ?_
 have:y.1∈own'.map (·.1):=He.mpr ⟨y,hy,rfl⟩
 rw [K'] at this
 refine ae (He.mp this) λz hz e=> ?_
 refine e▸?_
 exact(ho z hz).1
theorem Ev.Ey {x:Str}{px:Pos}{e:Expr}{xs:List PV}(hf:Ev C k sc own ρ (.Name x px) (.raw (.builtin "len")))(he:EW C k sc own ρ e xs)(hz:(xs.length:Int) < 2 ^ 63)(hn:∀env,starEach [e] env=[(false,eval e env)]):
 Ev C k sc own ρ (.Call (.Name x px) [e] [] pos) (.int xs.length):=λW A env s rm X=>by
 refine Iu (Hb (hf W A env s rm X) ?_ λ_ _ q=>q.elim)
 rintro v s1 ⟨e1,r1⟩
 refine(show v= .builtin "len" from r1)▸?_
 refine callWith_builtin (by rw [hn];rfl) ?_
 rw [hn]
 refine JS (Jq (Hb (he W A env s1 rm (X.aA e1)) ?_ λ_ _ q=>q.elim))
 rintro u s2 ⟨e2,a,us,n,rfl,f,g,r⟩
 refine JY ?_
 have hl:=aQ.length r
 exact call_len_list (aP g) (by simpa [hl] using hz) ⟨(e1.trans e2).trans (ah.tok _),_,by simp [hl];rfl⟩
theorem Tr.name {x:Str}{px:Pos}{b:Bool}(h:Ev C k sc own ρ (.Name x px) (.bool b)):Tr C k sc own ρ (.Name x px) b:=Tr.plain h Th.bool (λ_ _=>rfl)
theorem oW {S:Scope}{x:Str}{p:PV}{q:List (Str×PV)}{ρ:bK}(h:(S.names.lookup x==some .free)=false):d8 S ((x,p)::q) ρ x=some p:=by
 unfold d8
 rw [if_neg (by intro e;rw [e] at h;simp at h)]
 exact wz
theorem fx.tL {o ex:Expr}{apos:Pos}{aa:Addr}{xs:List PV}{p:PV}(ho:Ev C k sc own ρ o (.raw (.ref aa)))(Vl:(aa,PV.lst xs)∈own)(hx:fx C k sc mine own own₁ ρ ex p)(hw:(aa,PV.lst xs)∈own₁)(hz:xs.length<=sizeLine)
 (Ln:∀env,attributeBase o "append" env (eval o env)=eval o env)
 (LZ:∀env,((backTo pos (starEach [ex] env)).all (λx=> !x.1) && (backToKw pos (keywordEach [] env)).all (λx=>x.1.isSome)
  && decide ([ex].length+([]:List Keyword).length+(if([]:List Keyword).isEmpty then 0 else 1) < 30))=true)
 (Lp:(apos.endLine==pos.line)=true)
 (he:∀env,starEach [ex] env=(false,eval ex env)::starEach [] env)(LU:∀env,(backTo pos (starEach [] env)).any (·.1)=false):
 fx C k sc mine own (aE own₁ aa (.lst (xs ++ [p]))) ρ (.Call (.Attribute o "append" apos) [ex] [] pos) .none:=λW A env s t Wt rm X B=>by
 refine IE (Ln env) (LZ env) Lp JU PySem.F.slot_list_append rfl (Hb (ho W A env s rm X) ?_ λ_ _ q=>q.elim)
 rintro v s1 ⟨e1,r1⟩
 refine(show v= .ref aa from r1)▸?_
 have X1:=X.aA e1
 refine aL (X1.owns _ Vl).2.1 λvs n g _=> ?_
 refine⟨(aP g).typeIs,λb q=>by cases q;exact⟨_,g,rfl⟩,J4 ?_ (he env) (LU env)⟩
 simp only [he]
 show wpAny C.M A (spliced ((false,eval ex env)::backTo pos (starEach [] env))) _ _ s1
 refine Hc (Hb (hx W A env s1 t Wt rm X1 (B.step e1)) ?_ λ_ _ q=>q.elim)
 intro u s2 zz;refine cZ zz λX2 B2 r2=> ?_
 refine Hc (Hj (Hc (HV (Hj (Hj ?_)))))
 exact lF X2 B2 hw r2 hz λJ X' B'=>⟨X',B',rfl⟩
theorem cV {α:Type}{g:α->Bool}{l:List α}(h:l.Pairwise λp q=>g p=true->g q=true){m:Nat}{p:α}(hp:l[m]? =some p):g p=decide (l.findIdx g<=m):=by
 refine cz (List.getElem?_eq_some_iff.mp hp) λhm LG=> ?_;subst LG
 by_cases hc:l.findIdx g<=m
 ·rw [HD hc]
  have Ll:l.findIdx g < l.length:=IX hc hm
  have h0:g l[l.findIdx g]=true:=List.findIdx_getElem (w:=Ll)
  rcases Nat.lt_or_eq_of_le hc with hc |hc
  ·exact IK.mp h _ _ Ll hm hc h0
  ·simpa [hc] using h0
 ·rw [HJ hc]
  have:=List.not_of_lt_findIdx (p:=g) (xs:=l) (i:=m) (Nat.lt_of_not_le hc)
  exact this
noncomputable def mK (v:Str->Int) (b:Bool) (x y:Str):Bool:=if b=true then decide (v x < v y) else decide (v x<=v y)
noncomputable def gM (v:Str->Int) (b:Bool) (mid:List Str) (x:Str):List Str:=bC mid (mid.findIdx (mK v b x)) x
noncomputable def dz (v:Str->Int) (b:Bool) (l:List Str) (i:Nat):List Str:=(l.take i).foldl (gM v b) []
theorem ik (v:Str->Int)(b:Bool){l:List Str}{i:Nat}{x:Str}(h:l[i]? =some x):dz v b l (i+1)=gM v b (dz v b l i) x:=by
 refine cz (List.getElem?_eq_some_iff.mp h) λhi LG=> ?_;subst LG
 unfold dz
 simp only [IS,List.getElem?_eq_getElem hi,JW];rfl
def D1 (v:Str->Int)(l:List Str):Prop:=l.Pairwise λx y=>v x<=v y
theorem qq {v:Str->Int}{b:Bool}{x:Str}{l:List Str}(h:D1 v l):l.Pairwise λp q=>mK v b x p=true->mK v b x q=true:=
 h.imp λ{p q} h1 h2=>by
  cases b
  ·exact HD (Int.le_trans (H9 h2) h1)
  ·exact HD (Int.lt_of_lt_of_le (H9 h2) h1)
theorem yV {v:Str->Int}{b:Bool}{x:Str}{l:List Str}(h:D1 v l):D1 v (gM v b l x):=by
 delta gM bC D1
 have h2:∀m y,l[m]? =some y->mK v b x y=decide (l.findIdx (mK v b x)<=m):=λm y e=>cV (qq (b:=b) (x:=x) h) e
 generalize l.findIdx (mK v b x)=j at h2
 have ha:∀y∈l.take j,v y<=v x:=λy hy=>by
  obtain⟨i,hi⟩:=List.mem_iff_getElem?.mp hy
  rw [List.getElem?_take] at hi
  split at hi
  ·rename_i q
   have:=h2 i y hi
   rw [HJ (Lk.mpr q)] at this
   unfold mK at this
   split at this <;> have:=Ik this <;> omega
  ·cases hi
 have hb:∀y∈l.drop j,v x<=v y:=λy hy=>by
  obtain⟨i,hi⟩:=List.mem_iff_getElem?.mp hy
  rw [List.getElem?_drop] at hi
  have:=h2 _ y hi
  rw [HD (HN _ _)] at this
  unfold mK at this
  split at this <;> have:=H9 this <;> omega
 refine Iv.mpr ⟨h.sublist (Jm _ _),HR.mpr ⟨hb,h.sublist (JV _ _)⟩,λa h1 b h2=> ?_⟩
 rcases Hf.mp h2 with rfl |h2
 ·exact ha a h1
 ·exact Int.le_trans (ha a h1) (hb b h2)
theorem Bn {v:Str->Int}{b:Bool}{l:List Str}:∀i,D1 v (dz v b l i):=by
 intro i
 induction i with
 |zero=>exact List.Pairwise.nil
 |succ i ih=>
  by_cases h:i < l.length
  ·rw [ik v b (List.getElem?_eq_getElem h)];exact yV ih
  ·have:dz v b l (i+1)=dz v b l i:=by unfold dz;rw [HQ (by omega),HQ (by simp_all)]
   simp only [this];exact ih
theorem uK (v:Str->Int)(b:Bool)(l:List Str)(x:Str):(gM v b l x).length=l.length+1:=by
 delta gM bC
 simp only [HF,H8,Hv,Jb];grind -splitIndPred
theorem pW {v:Str->Int}{b:Bool}{l:List Str}:∀i,i<=l.length->(dz v b l i).length=i:=by
 intro i
 induction i with
 |zero=>intro _;rfl
 |succ i ih=>intro h;simp only [ik v b (List.getElem?_eq_getElem h),uK,ih (HM h)]
theorem uO {v:Str->Int}{b:Bool}{l:List Str}{x y:Str}(h:y∈gM v b l x):y=x\/y∈l:=by
 rcases HA.mp h with h |h
 ·exact .inr (List.mem_of_mem_take h)
 ·rcases Hf.mp h with h |h
  ·exact .inl h
  ·exact .inr (List.mem_of_mem_drop h)
theorem pd {v:Str->Int}{b:Bool}{l:List Str}{y:Str}:∀i,y∈dz v b l i->y∈l:=by
 intro i
 induction i with
 |zero=>intro h;cases h
 |succ i ih=>
  intro h
  by_cases q:i < l.length
  ·rw [ik v b (List.getElem?_eq_getElem q)] at h
   rcases uO h with rfl |h
   ·exact IG q
   ·exact ih h
  ·have:dz v b l (i+1)=dz v b l i:=by unfold dz;rw [HQ (by omega),HQ (by simp_all)]
   rw [this] at h;exact ih h
noncomputable abbrev Em:Str:="_law_sorted.<locals>."
noncomputable def hJ (es:List (Str×Int)) (x:Str):Int:=(es.lookup x).getD 0
noncomputable abbrev AZ (es:List (Str×Int)):PV:= .au (es.map λe=>(e.1,.int e.2))
noncomputable def c0 (order:Str) (b:Bool):Str:=if b=true then order else⟨order.cps.toList.reverse.toArray⟩
noncomputable def aR (x:Str):List Str:=x.cps.toList.map s1
noncomputable def c7 (es:List (Str×Int)) (order:Str) (b:Bool) (i:Nat):List Str:=("<":Str)::(dz (hJ es) b (aR (c0 order b)) i ++ [(">":Str)])
noncomputable def BI (es:List (Str×Int)):PV->PV
 | .str x=> .int (hJ es x)
 |_=> .none
theorem ym (order:Str)(b:Bool):(c0 order b).cps.size=order.cps.size:=by
 unfold c0;split
 ·rfl
 ·simp
theorem km {es:List (Str×Int)}{x:Str}:(es.map λe=>(e.1,PV.int e.2)).lookup x=(es.lookup x).map .int:=lookup_map2 (f:=PV.int)
theorem aW {n:Nat}{x:Str}{p q:PV}(h:ρ x=some p)(hq:res (bH own n) p=q):(λx=>(ρ x).map (res (bH own n))) x=some q:=by
 simp_all
theorem jZ {f:Addr->Option PV}{l:List PV}(h:∀p∈l,res f p=p):dM f l=l:=by
 rw [mj]
 exact(HY h).trans (J1 _)
theorem eM {f:Addr->Option PV}{l:List Str}:dM f (l.map PV.str)=l.map PV.str:=jZ λp hp=>by
 refine ae (He.mp hp) λx _ G'=> ?_;refine G'▸?_
 rfl
theorem oA {own:Own}{a:Addr}{xs:List PV}{n:Nat}(h:own.lookup a=some (.lst xs)):res (bH own (n+1)) (.raw (.ref a))= .lst (dM (bH own n) xs):=by
 simp only [jR]
 simp only [zH,gq,h]
 rfl
theorem gN (x:Str):signs x=(aR x).map .str:=by delta signs aR;simp only [Hq];rfl
theorem jJ {S:Scope}{x:Str}{p:PV}{q:List (Str×PV)}{ρ:bK}(h:S.names.lookup x=some .free)(h2:ρ x=some p):d8 S q ρ x=some p:=by
 unfold d8
 rw [if_pos h];exact h2
theorem nY {own:Own}{n:Nat}{l:List Str}:Seen own n (l.map PV.str)=l.map PV.str:=by
 unfold Seen
 rw [mj,Hq]
 rfl
theorem qA {es:List (Str×Int)}{order:Str}{b:Bool}{i:Nat}{x:Str}(hx:(aR (c0 order b))[i]? =some x):
 bC ((c7 es order b i).map PV.str) (1+(dz (hJ es) b (aR (c0 order b)) i).findIdx (mK (hJ es) b x)) (.str x)=(c7 es order b (i+1)).map PV.str:=by
 unfold c7
 refine(ik _ _ hx)▸?_
 have h:=JZ (p:=mK (hJ es) b x) (xs:=dz (hJ es) b (aR (c0 order b)) i)
 generalize dz (hJ es) b (aR (c0 order b)) i=l at h ⊢
 unfold gM
 generalize l.findIdx (mK (hJ es) b x)=f at h ⊢
 unfold bC
 rw [Nat.add_comm 1 f]
 simp only [Hm,Hr,List.take_succ_cons,List.drop_succ_cons,Ib]
 rw [Kq (by rw [Hd];exact h),List.drop_append_of_le_length (by rw [Hd];exact h)]
 simp_all
theorem uz {es:List (Str×Int)}{order:Str}{b:Bool}{i m:Nat}{x:Str}{p:PV}(h1:1<=m)(h2:m < 1+(dz (hJ es) b (aR (c0 order b)) i).length)(hp:((c7 es order b i).map PV.str)[m]? =some p):
 ∃y,p= .str y/\mK (hJ es) b x y=decide (1+(dz (hJ es) b (aR (c0 order b)) i).findIdx (mK (hJ es) b x)<=m):=by
 refine ae (cY hp) λy hy G'=> ?_;refine G'▸?_
 refine⟨y,rfl,?_⟩
 obtain⟨m,rfl⟩:∃m',m=m'+1:=⟨m - 1,by simp_all⟩
 unfold c7 at hy
 rw [List.getElem?_cons_succ,List.getElem?_append_left (by omega)] at hy
 rw [cV (qq (Bn i)) hy]
 congr 1
 exact propext ⟨λh=>by omega,λh=>by omega⟩
theorem vZ {es:List (Str×Int)}{ky:Addr}{cl:List (Str×Addr)}{pm cd LX:Value}{params:Arguments}{body:Expr}{scope:Scope}(U:Cfg.Up C C')(LA:ft C' ky (kG sc params body scope cl pm cd LX) body ρ)(hP:l4 params ["one"])(hn:scope.names.lookup ("one":Str)=some NameKind.local)
 (hb:∀MW q code y v,es.lookup y=some v->Ev MW (k+1) ⟨scope,q,code⟩ [] (d8 scope [("one",.str y)] ρ) body (.int v)):nX C' (k+2) ky (BI es) (λp=>∃y v,p= .str y/\es.lookup y=some v):=
 uB U LA hP hn (λp hp=>by refine aL hp λy v G' hv=> ?_;refine G'▸?_;exact trivial) λMW l ok q code p hp=>by
  refine aL hp λy v G' hv=> ?_;subst G'
  have:=hb MW q code y v hv
  show Ev _ _ _ _ _ _ (.int ((es.lookup y).getD 0))
  simp only [hv];exact this
theorem Dr {es:List (Str×Int)}{order:Str}{b:Bool}{i:Nat}(hk:∀x∈aR (c0 order b),∃v,es.lookup x=some v)(R1:∃v,es.lookup ("<":Str)=some v)(PM:∃v,es.lookup (">":Str)=some v){n:Nat}{o:Own}{p:PV}(hp:p∈Seen o n ((c7 es order b i).map .str)):∃y v,p= .str y/\es.lookup y=some v:=by
 rw [nY] at hp
 refine ae (He.mp hp) λy hy e=> ?_
 have:∃v,es.lookup y=some v:=by
  rcases Hf.mp hy with h |hy
  ·exact h▸R1
  ·rcases HA.mp hy with hy |hy
   ·exact hk y (pd i hy)
   ·exact Hi.mp hy▸PM
 exact⟨y,this.choose,e.symm,this.choose_spec⟩
theorem xR {es:List (Str×Int)}{order:Str}{b:Bool}{i:Nat}(hm:(dz (hJ es) b (aR (c0 order b)) i).length=i):((c7 es order b i).map PV.str).length=i+2:=by
 rw [Hd];unfold c7;simp only [Hv,HF,hm];rfl
theorem BK (L:Lw C){es:List (Str×Int)}{order:Str}{b:Bool}{i:Nat}{x:Str}{o:Own}{a ky:Addr}(K:nX C (k+2) ky (BI es) (λp=>∃y v,p= .str y/\es.lookup y=some v))(hi:i<=4)
 (hm:(dz (hJ es) b (aR (c0 order b)) i).length=i)(hx:(aR (c0 order b))[i]? =some x)(hd:∀p∈Seen o 0 ((c7 es order b i).map .str),∃y v,p= .str y/\es.lookup y=some v)(hp:∃v,es.lookup x=some v)(lk:o.lookup a=some (.lst ((c7 es order b i).map .str)))(SI:o.lookup ky=none):
 gX C (k+4) o (aE o a (.lst ((c7 es order b (i+1)).map .str))) (.ref (if b=true then BO else DE)) [.raw (.ref a),.str x,.int (1:Nat),bS (some (i+1))] [("key",.raw (.ref ky))] .none:=by
 have hf:=JZ (p:=mK (hJ es) b x) (xs:=dz (hJ es) b (aR (c0 order b)) i)
 have hl:=xR hm
 have h1:((c7 es order b i).map PV.str).length<=sizeLine:=hl▸Hg (Nat.add_le_add_right hi 2) (by decide)
 have h2:1+(dz (hJ es) b (aR (c0 order b)) i).findIdx (mK (hJ es) b x)<=i+1:=by omega
 have h3:i+1<=((c7 es order b i).map PV.str).length:=hl▸Iz _
 have h4:∃y v,PV.str x= .str y/\es.lookup y=some v:=⟨x,hp.choose,rfl,hp.choose_spec⟩
 have h5:∀m p,1<=m->m < i+1->(Seen o 0 ((c7 es order b i).map .str))[m]? =some p->∃y,p= .str y/\mK (hJ es) b x y=decide (1+(dz (hJ es) b (aR (c0 order b)) i).findIdx (mK (hJ es) b x)<=m):=λm p q1 q2 q3=>by
  rw [nY] at q3
  exact uz q1 (by omega) q3
 refine(qA hx)▸?_
 cases b with
 |true=>
  refine zD L K 0 Form.fullK lk SI h1 (HN _ _) h2 h3 h4 hd λMW l m p q1 q2 q3=> ?_
  refine ae (h5 m p q1 q2 q3) λy e hg=> ?_
  subst e
  refine hg▸?_
  exact aj.ltI
 |false=>
  refine zb L K 0 Form.fullK lk SI h1 (HN _ _) h2 h3 h4 hd λMW l m p q1 q2 q3=> ?_
  refine ae (h5 m p q1 q2 q3) λy e hg=> ?_
  refine e▸?_
  have:decide (m < 1+(dz (hJ es) false (aR (c0 order false)) i).findIdx (mK (hJ es) false x))= !mK (hJ es) false x y:=by rw [hg,<-decide_not];congr 1;exact propext Lk.symm
  simp only [this]
  show Lt _ (.int (hJ es y)) (.int (hJ es x)) (!decide (hJ es x<=hJ es y))
  rw [<-decide_not];simp_all
  exact aj.ltI
noncomputable abbrev AA:Sc:=⟨ai tb 17,Em,.ref 176⟩
noncomputable abbrev Gf (es:List (Str×Int)) (order:Str) (b:Bool) (a a2:Addr):List (Str×PV):=[("line",.raw (.ref a)),("told",.raw (.ref a2)),("order",.str order),("ahead",AZ es),("behind",.bool b)]
theorem lookup_none {ky:Addr}:∀{o:Own},(∀y∈o,y.1≠ky)->o.lookup ky=none:=λh=>Ih.mpr λy hy=>Jg.mpr (HE (h y hy))
theorem y0 (L:Lx C f3)(F:Cb C 177 (ay tb 17) (ai tb 17) (bP tb 17) Em (.ref 176)){es:List (Str×Int)}{order x:Str}{b:Bool}{i:Nat}{o:Own}{a a2:Addr}{l l':List PV}{pr:List PV}(hi:i<=4)(hl:l.length=i+2)
 (H:∀C' ky,Cfg.Up C C'->o.lookup ky=none->nX C' (k+2) ky (BI es) (λp=>∃y v,p= .str y/\es.lookup y=some v)->gX C' (k+4) o (aE o a (.lst l')) (.ref (if b=true then BO else DE)) [.raw (.ref a),.str x,.int (1:Nat),bS (some (i+1))] [("key",.raw (.ref ky))] .none)
 (m1:(a,PV.lst l)∈o)(m2:(a2,PV.lst pr)∈o)(m3:(a2,PV.lst pr)∈aE o a (.lst l'))(hz:pr.length<=sizeLine)(rm:ak A (k+4))(X:St C W AA o (aC (("name",.str x)::Gf es order b a a2)) env s)(B0:Bs C Wt (λ_=>true) t o env s)
 (next:∀J,St C W AA (aE (aE o a (.lst l')) a2 (.lst (pr ++ [.none]))) (aC (("name",.str x)::Gf es order b a a2)) env J->Bs C Wt (λ_=>true) t (aE (aE o a (.lst l')) a2 (.lst (pr ++ [.none]))) env J->Q .next J):
 wpAny C.M A (execs (cG (ay tb 17) 2) env) Q E s:=by
 have L':=L.L
 have N4:PV.int (((l.length:Nat):Int) - 1)=bS (some (i+1)):=by congr 1;omega
 have Pj:((l.length:Nat):Int) < 2 ^ 63:=by omega
 conv in cG _ _=>whnf
 with_reducible refine step_if (b:=b) X B0 rm (Tr.name (by intros)) ?_
 intro s4 X7 B7
 cases b with
 |true=>
  rw [if_pos rfl] at H ⊢
  obtain⟨_,Fb,_⟩:=L'.ir.ex
  with_reducible
   refine bY X7 B7 rm (fx.tL (p:= .none) (own₁:=aE o a (.lst l')) (by intros) m2 (fx.tQ (ps:=[.raw (.ref a),.str x,.int (1:Nat),bS (some (i+1))]) L'.ok (by intros) Fb.fo (ab.cons (by intros) (ab.cons (by intros) (ab.cons (Ev.conv (p:= .int 1) (by intros) (by fail)) (ab.cons (Ev.conv (p:= .int ((l.length:Int) - 1)) (Ev.bin (Ev.Ey (by intros) (Ev.lo (by intros) m1) Pj (λenv=>by fail)) (by intros) aj.sub) N4) ab.nil))))
    (by with_unfolding_all exact⟨F.tab,by decide+kernel,rfl,rfl,rfl,by decide+kernel⟩) (λenv=>by fail) ?hc fR (λenv=>⟨_,_,by fail⟩) (λenv=>by fail)) m3 hz (λ_=>by fail) (λ_=>by fail) (by fail) (λ_=>by fail) (λ_=>by fail)) (λ_=>by fail) ?nx
  case hc=>
   intro C' ky cl pm cd LX U Lr LA
   exact H C' ky U (lookup_none Lr) (vZ U LA (by with_unfolding_all exact⟨rfl,rfl,rfl,rfl,rfl,by decide+kernel⟩) (by done) λMW q code y v hv=>Ev.bh (es:=es.map λe=>(e.1,.int e.2)) (Ev.d (Ev.var (by done) (jJ (by done) (by k_extra"r")))) (Ev.local (by done) (oW (by done)) (by done)) (by rw [km,hv];rfl) (λ_ _=>by fail))
  case nx=>
   intro s5 X8 B8
   exact Hk (Hk (next _ X8 B8))
 |false=>
  rw [if_neg (by decide)] at H ⊢
  obtain⟨_,Fb,_⟩:=L'.il.ex
  with_reducible
   refine bY X7 B7 rm (fx.tL (p:= .none) (own₁:=aE o a (.lst l')) (by intros) m2 (fx.tQ (ps:=[.raw (.ref a),.str x,.int (1:Nat),bS (some (i+1))]) L'.ok (by intros) Fb.fo (ab.cons (by intros) (ab.cons (by intros) (ab.cons (Ev.conv (p:= .int 1) (by intros) (by fail)) (ab.cons (Ev.conv (p:= .int ((l.length:Int) - 1)) (Ev.bin (Ev.Ey (by intros) (Ev.lo (by intros) m1) Pj (λenv=>by fail)) (by intros) aj.sub) N4) ab.nil))))
    (by with_unfolding_all exact⟨F.tab,by decide+kernel,rfl,rfl,rfl,by decide+kernel⟩) (λenv=>by fail) ?hc fR (λenv=>⟨_,_,by fail⟩) (λenv=>by fail)) m3 hz (λ_=>by fail) (λ_=>by fail) (by fail) (λ_=>by fail) (λ_=>by fail)) (λ_=>by fail) ?nx
  case hc=>
   intro C' ky cl pm cd LX U Lr LA
   exact H C' ky U (lookup_none Lr) (vZ U LA (by with_unfolding_all exact⟨rfl,rfl,rfl,rfl,rfl,by decide+kernel⟩) (by done) λMW q code y v hv=>Ev.bh (es:=es.map λe=>(e.1,.int e.2)) (Ev.d (Ev.var (by done) (jJ (by done) (by k_extra"r")))) (Ev.local (by done) (oW (by done)) (by done)) (by rw [km,hv];rfl) (λ_ _=>by fail))
  case nx=>
   intro s5 X8 B8
   exact Hk (Hk (next _ X8 B8))
noncomputable abbrev Gk (n:Nat):List Stmt:=List.drop n (ay tb 17)
noncomputable abbrev l6 (y1 y2 y3 y4:Str):List (Str×PV):=[("line",.lst (([("<":Str),y1,y2,y3,y4,(">":Str)]).map .str)),("told",.lst [.none,.none,.none,.none])]
theorem Aa {y1 y2 y3 y4:Str}(e:∀y∈[y1,y2,y3,y4],y.length=1)(rm:ak A (k+4))(X5:St C W AA [] (aC (l6 y1 y2 y3 y4)) env s)(B5:Bs C Wt mine t [] env s)
 (next:∀v J,St C W AA [] (aC (l6 y1 y2 y3 y4)) env J->Bs C Wt mine t [] env J->Rr C W J.heap v (.str (Txt.join "" [y1,y2,y3,y4]))->Q (.ret v) J):wpAny C.M A (execs (Gk 3) env) Q E s:=by
 conv in Gk _=>whnf
 with_reducible refine cw (p:= .str (Txt.join "" [y1,y2,y3,y4])) X5 B5 rm (Ev.lp (d:=true) (Tr.conv (p:=true && (true && true)) (Tr.and (Tr.cmp ?zc1 ?zc2 (aj.oD (p:= .lst [.none,.none,.none,.none]) ?zc3) Th.bool (by kernel_rfl!)) (λ_=>Tr.and (Tr.cmp ?zd1 ?zd2 (aj.oD (p:= .lst [.str "<",.str ">"]) ?zd3) Th.bool (by kernel_rfl!)) (λ_=>Tr.yo))) rfl) ?ze) next
 case zc1=>intros
 case zc2=>
  with_reducible refine Ev.conv (p:= .lst (List.replicate (4:Int).toNat [PV.none]).flatten) (Ev.bin (by intros) (by intros) (aj.mulL (by decide) (by decide) (by decide))) (by fail)
 case zc3=>exact dh (n:=2) (by rfl) (by decide)
 case zd3=>exact dh (n:=2) (by kernel_rfl!) (by decide)
 case zd2=>intros
 case zd1=>
  with_reducible refine Ev.conv (p:= .lst ([.str "<"] ++ [.str ">"])) (Ev.bin (Ev.conv (Ev.eB (i:=none) (j:=some 1) (l:=none) (Ev.l (xs:=[("<":Str),y1,y2,y3,y4,(">":Str)].map .str) (by intros)) eh.kc (eh.some (by intros)) eh.kc (by simp) ?zq1 (λ_ _=>⟨_,by fail⟩) (λ_ _=>by fail)) (by fail)) (Ev.conv (Ev.eB (i:=some (-1)) (j:=none) (l:=none) (Ev.l (xs:=[("<":Str),y1,y2,y3,y4,(">":Str)].map .str) (by intros)) (eh.some (by intros)) eh.kc eh.kc (by simp) ?zq2 (λ_ _=>⟨_,by fail⟩) (λ_ _=>by fail)) (by fail)) (aj.u6 ?zq3)) (by fail)
  case zq1=>show 6<=sizeLine;decide
  case zq2=>show 6<=sizeLine;decide
  case zq3=>decide
 case ze=>
  refine(if_pos rfl)▸?_
  with_reducible refine Ev.uA (T:="str") (id:="str.join") (p:= .str "") (ps:=[.lst ([y1,y2,y3,y4].map .str)]) (by intros) fY.str (ab.cons (Ev.conv (Ev.eB (i:=some 1) (j:=some (-1)) (l:=none) (Ev.l (xs:=[("<":Str),y1,y2,y3,y4,(">":Str)].map .str) (by intros)) (eh.some (by intros)) (eh.some (by intros)) eh.kc (by simp) ?zq4 (λ_ _=>⟨_,by fail⟩) (λ_ _=>by fail)) (by fail)) ab.nil) (cC.join (x:="") (ys:=[y1,y2,y3,y4]) (by fail) ?zq5) (λ_=>by fail) (λ_=>by fail) (by fail) Ji Kd Ka (λenv=>by fail) (λenv=>by fail)
  case zq4=>show 6<=sizeLine;decide
  case zq5=>simp only [Hm,Ib,e y1 G9,e y2 (Ha _ G9),e y3 (Ha _ (Ha _ G9)),e y4 (Ha _ (Ha _ (Ha _ G9)))];show 4+4*("":Str).length<=16777216;decide
theorem qg {α:Type}{n:Nat}{l:List α}(h:l.length=n+1):∃a t,l=a::t/\t.length=n:=by
 cases l with
 |nil=>cases h
 |cons a t=>exact⟨a,t,rfl,Nat.succ.inj h⟩
theorem FO {α:Type}{l:List α}(h:l.length=4):∃a b c d,l=[a,b,c,d]:=by
 refine aL (qg h) λa t e h=> ?_
 refine aL (qg h) λb t e1 h=> ?_
 refine aL (qg h) λc t e2 h=> ?_
 refine aL (qg h) λd t e3 h=> ?_
 exact⟨a,b,c,d,by simp only [e,e1,e2,e3,Ko h]⟩
theorem wy {α:Type}{a:Nat}{p:α}{o:List (Nat×α)}:((a,p)::o).lookup a=some p:=List.lookup_cons_self
theorem xG {α:Type}{a b:Nat}{p:α}{o:List (Nat×α)}(h:b≠a):((b,p)::o).lookup a=o.lookup a:=by
 simp only [Hl,HC (HE h)]
theorem zY {a b:Nat}{p q:PV}{y:Nat}{W:List Nat}(h:y∈W)(h1:¬a∈W)(h2:¬b∈a::W):([(b,p),(a,q)]:List (Nat×PV)).all (λz=>z.1 !=y)=true:=by
 simp [HE (λq=>h1 (q▸h):y≠a),HE (λq=>h2 (Ha _ (q▸h)):y≠b)]
theorem D0 {α:Type}{p:α->α->α->α->Prop}{q:Prop}(h:∃a b c d,p a b c d)(k:∀a b c d,p a b c d->q):q:=by
 obtain⟨a,b,c,d,h⟩:=h
 exact k a b c d h
theorem Bf {a a2 I:Addr}{p p' q q':PV}{ob:Obj}(h:a2≠a)(h1:a≠I)(h2:a2≠I):aE (aE [(I,PV.obj ob),(a2,q),(a,p)] a p') a2 q'=[(I,.obj ob),(a2,q'),(a,p')]:=by
 simp [aE,HE h1,HE h2,h,HE h]
theorem zL {a a2 I:Addr}{p q:PV}{ob:Obj}(h:a2≠a)(h1:a≠I):([(I,PV.obj ob),(a2,q),(a,p)]:Own).lookup a=some p:=by
 exact(xG (HE h1)).trans ((xG h).trans wy)
theorem Bu (L:Lx C f3)(F:Cb C 177 (ay tb 17) (ai tb 17) (bP tb 17) Em (.ref 176)){order:Str}{es:List (Str×Int)}{b:Bool}(h4:order.cps.size=4)(hk:∀x∈aR (c0 order b),∃v,es.lookup x=some v)(R1:∃v,es.lookup ("<":Str)=some v)(PM:∃v,es.lookup (">":Str)=some v):
 aN C (k+5) own (.ref 177) [.str order,AZ es,.bool b] [] (.str (Txt.join "" (dz (hJ es) b (aR (c0 order b)) 4))):=by
 have L':=L.L
 have LK:sizeLine=16777216:=rfl
 have PT:order.length=4:=h4
 refine(Cb.pX (k:=k+4) (own:=[]) (own':=[]) (xs:=["order","ahead","behind"]) [("order",.str order),("ahead",AZ es),("behind",.bool b)] L'.ok F ⟨rfl,rfl,rfl,rfl,rfl,by decide+kernel⟩ (by decide+kernel) rfl rfl rfl λW A env s t Wt rm X B=> ?_).EP
 conv in ay _ _=>whnf
 with_reducible refine dU (p:= .lst [.str "<",.str ">"]) X B rm (kH.list (by intros) (by intros)) (by done) (by fail) ?_
 intro a s1 MN X1 B1
 with_reducible refine dU (p:= .lst []) X1 B1 rm (kH.list (by intros) (by intros)) (by done) (by fail) ?_
 intro a2 s2 PF X2 B2
 have Qi:a2≠a:=λq=>PF (q▸G9)
 have hz:(c0 order b).cps.size=4:=(ym order b).trans h4
 have ON:(aR (c0 order b)).length=4:=by unfold aR;simp_all
 have X3:=X2.to (l:=[("line",.raw (.ref a)),("told",.raw (.ref a2)),("order",.str order),("ahead",AZ es),("behind",.bool b)]) (by k_extra"rs")
 with_reducible
  refine a7 (need:=false) (k:=k+4) (ps:=signs (c0 order b)) X3 B2 rm (aX.str (Ev.lp (d:=b) (Tr.name (by intros)) ?it) (by simp_all)) (λi=>[(a2,.lst (List.replicate i .none)),(a,.lst ((c7 es order b i).map .str))]) (λ_=>aC [("line",.raw (.ref a)),("told",.raw (.ref a2)),("order",.str order),("ahead",AZ es),("behind",.bool b)])
   (λi=>upd (aC [("line",.raw (.ref a)),("told",.raw (.ref a2)),("order",.str order),("ahead",AZ es),("behind",.bool b)]) "name" (.str ((aR (c0 order b)).getD i ""))) (by fail) (by fail) (λ_=>by fail) (λ_=>False) ?LH ?turn (λ_ _ _ h=>h.elim) ?done (λx=>by fail)
 case it=>
  clear X X1 X2 X3 B B1 B2 hz ON hk
  cases b with
  |false=>
   rw [if_neg (by decide)]
   refine Ev.conv (p:= .str (eb order none none (some (-1)))) ?_ (by rw [mA];rfl)
   with_reducible refine Ev.eb (by intros) eh.kc eh.kc (eh.some (by intros)) (by decide) (Hg (JI PT) (by decide)) ?_ (λ_ _=>⟨_,by fail⟩) (λ_ _=>by fail)
   rw [mA];show order.cps.toList.reverse.toArray.size<=_;simp;simp_all
  |true=>rw [if_pos rfl];intros
 case LH=>
  intro i p hp
  rw [gN,List.getElem?_map] at hp
  refine ae (Iy.mp hp) λx hx G'=> ?_;refine G'▸?_
  refine((by rw [List.getD_eq_getElem?_getD,hx];rfl:(aR (c0 order b)).getD i ""=x))▸?_
  exact bg.local (by rfl)
 case turn=>
  intro I ob i p t' LY s3 hI hp X5 B5
  rw [gN] at hp
  refine ae (cY hp) λx hx G'=> ?_
  replace X5:=((by rw [List.getD_eq_getElem?_getD,hx];rfl:(aR (c0 order b)).getD i ""=x))▸X5
  have hi:i < 4:=ON▸(List.getElem?_eq_some_iff.mp hx).1
  have i1:a≠I:=hI (a,_) (Ha _ G9)
  have hm:=pW (v:=hJ es) (b:=b) (l:=aR (c0 order b)) i (by rw [ON];exact H3 hi)
  refine y0 L F (pr:=List.replicate i .none) (H3 hi) (xR hm) (λC' ky U hn K=>BK (L'.le U.le) K (H3 hi) hm hx (λp=>Dr hk R1 PM) (hk x (List.mem_of_getElem? hx)) ?_ hn) (Ha _ (Ha _ G9)) (Ha _ G9) ?_ ?_ rm (X5.to (by k_extra"rs")) B5 λJ X8 B8=> ?_
  ·exact zL Qi i1
  ·simp [aE,Qi]
  ·rw [List.length_replicate];exact Hg (H3 hi) (by decide)
  ·rw [Bf Qi i1 (hI (a2,_) G9),<-List.replicate_succ'] at X8 B8
   exact⟨X8.to (by k_extra"rs"),B8⟩
 case done=>
  have Oq:(signs (c0 order b)).length=4:=by simp only [gN,Hd];unfold aR;simp_all
  have RH:(dz (hJ es) b (aR (c0 order b)) 4).length=4:=pW 4 (by simp_all)
  have QD:∀y∈dz (hJ es) b (aR (c0 order b)) 4,y.length=1:=λy hy=>by
   refine ae (He.mp (pd 4 hy)) λc _ G'=> ?_;refine G'▸?_
   rfl
  rw [Oq]
  intro s4 X4 B4
  unfold c7 at X4 B4
  refine D0 (FO RH) λy1 y2 y3 y4 e=> ?_
  rw [e] at X4 B4 QD ⊢
  have X5:=(X4.settle 1).to (l:=l6 y1 y2 y3 y4)
   (aD (aW (p:= .raw (.ref a)) (by k_extra"r") ((oA (xs:=([("<":Str),y1,y2,y3,y4,(">":Str)]).map .str) ((xG Qi).trans wy)).trans (Hx PV.lst eM))) (aD (aW (p:= .raw (.ref a2)) (by k_extra"r") (oA (xs:=[.none,.none,.none,.none]) wy)) jO))
  refine Aa QD rm X5 (B4.less (own':=[]) (λ_ h=>nomatch h)) λv J X' B' r=> ?_
  exact⟨⟨_,_,X'.drop (λy hy=>HG.mpr ⟨Ha _ (Ha _ hy),zY hy MN PF⟩) (λ_ h=>nomatch h) X.noLoc.1⟩,B',r⟩
noncomputable abbrev SL:Sc:=⟨ai tb 18,"law.<locals>.",.ref 181⟩
noncomputable abbrev aK (n:Nat):List Stmt:=List.drop n (ay tb 18)
noncomputable def xO:List Int:=[27018451,2332,311,1000003,999995,1000007]
noncomputable def cf (ns:List Int):Nat->List Int
 |0=>xO
 |i+1=>(cf ns i).set (i % 6) ((cf ns i).getD (i % 6) 0+(ns.getD i 0).fmod (10 ^ 12))
theorem rj (ns:List Int) {i}:cf ns (i+1)=((cf ns i).set (i % 6) ((cf ns i).getD (i % 6) 0+(ns.getD i 0).fmod (10 ^ 12))):=rfl
theorem kB (ns:List Int):∀i,(cf ns i).length=6:=by
 intro q0
 induction q0 with
 |zero=>
  exact rfl
 |succ i ih=>
  simp only [rj,List.length_set,ih]
noncomputable def cellsOf (ns:List Int):List Int:=cf ns (min ns.length 60)
theorem fO {f:Addr->Option PV}{ns:List Int}:dM f (ns.map .int)=ns.map .int:=jZ λp hp=>by
 refine ae (He.mp hp) λn _ G'=> ?_;refine G'▸?_
 rfl
theorem kH.conv {e:Expr}{p q:PV}(h:kH C k sc own ρ e p)(hp:p=q):kH C k sc own ρ e q:=hp▸h
theorem ek {a:Int}{n i:Nat}{p:PV}(h:(aI a n)[i]? =some p):i < n:=by
 simpa [aI] using (List.getElem?_eq_some_iff.mp h).1
theorem F0 (L:Lx C f3){ns:List Int}(hz:ns.length<=63)(rm:ak A k)(X:St C W SL [] (aC [("script",.lst (ns.map .int))]) env s)(B:Bs C Wt (λ_=>true) t [] env s)
 (next:∀W J,St C W SL [] (aC [("cells",.lst ((cellsOf ns).map .int))]) env J->Bs C Wt (λ_=>true) t [] env J->wpAny C.M A (execs (aK 2) env) Q E J):
 wpAny C.M A (execs (aK 0) env) Q E s:=by
 have L':=L.L
 have LK:sizeLine=16777216:=rfl
 have hlen:(ns.map PV.int).length=ns.length:=Hd _
 conv in aK _=>whnf
 with_reducible refine dZ (p:= .lst (xO.map .int)) X B rm ?_ (by done) rfl (by fail) ?_
 ·with_reducible refine' kH.conv (p:= .lst [.int 27018451,.int 2332,.int 311,.int 1000003,.int 999995,.int 1000007]) (kH.list ?_ ?_) (by fail)
  all_goals intros
 intro a s1 MN X1 B1
 have L6:∀(o:Obj) (I:Addr) (xs p),a≠I->aE [(I,PV.obj o),(a,.lst xs)] a p=[(I,.obj o),(a,p)]:=λo I xs p h=>by
  unfold aE
  simp [HE h]
 with_reducible
  refine a7 (need:=false) (k:=k) (ps:=aI 0 (min ns.length 60:Nat)) (X1.to (l:=[("script",.lst (ns.map .int)),("cells",.raw (.ref a))]) (by k_extra"rs")) B1 rm (aX.cL (n:=((min ns.length 60:Nat):Int)) (by intros) (Ev.conv (p:= .int (if(60:Int) < ((ns.map PV.int).length:Int) then 60 else((ns.map PV.int).length:Int))) (Ev.a6 (by intros) (ab.cons (Ev.a6 (by intros) (by intros) (cC.Ay (by lia))) (by intros)) cC.min2) ?mn) (by lia) (by simp) (λenv=>by fail)) (λi=>[(a,.lst ((cf ns i).map .int))])
   (λi=>aC [("script",.lst (ns.map .int)),("cells",.raw (.ref a))])
   (λi=>upd (aC [("script",.lst (ns.map .int)),("cells",.raw (.ref a))]) "k" (.int (0+(i:Int)))) (by fail) (by fail) (λ_=>by fail) (λ_=>False) ?LH ?turn (λ_ _ _ h=>h.elim) ?done (λx=>by fail)
 case mn=>
  rw [hlen]
  congr 1
  split <;> grind -splitIndPred
 case LH=>
  intro i p hp
  refine(er hp)▸?_
  exact bg.cell (by done) rfl
 case turn=>
  intro I o i p t' LY s3 hI hp X B
  have hi:=ek hp
  have U0:i < ns.length:=by lia
  have Mc:=kB ns i
  have e1:((0:Int)+(i:Int)).fmod 6=((i % 6:Nat):Int):=by
   rw [I7,Int.fmod_eq_emod_of_nonneg _ (by decide)]
   simp
  have MJ:(ns.map PV.int)[i]? =some (.int (ns.getD i 0)):=by
   simp only [List.getElem?_map,List.getElem?_eq_getElem U0,List.getD_eq_getElem?_getD];rfl
  have PW:((cf ns i).map PV.int)[((i % 6:Nat):Int).toNat]? =some (.int ((cf ns i).getD (i % 6) 0)):=by
   have h5:i % 6 < (cf ns i).length:=by grind -splitIndPred
   simp only [IQ,List.getElem?_map,List.getElem?_eq_getElem h5,List.getD_eq_getElem?_getD];rfl
  with_reducible refine u0 (a:=a) (xs:=(cf ns i).map .int) (j:=((i % 6:Nat):Int)) (p:= .int ((cf ns i).getD (i % 6) 0)) (q:= .int ((ns.getD i 0).fmod (10 ^ 12))) (r:= .int ((cf ns i).getD (i % 6) 0+(ns.getD i 0).fmod (10 ^ 12))) X B rm (by intros) (Ev.conv (p:= .int (((0:Int)+(i:Int)).fmod 6)) (by intros) (by rw [e1])) (Ev.conv (p:= .int ((ns.getD i 0).fmod (10 ^ (12:Int).toNat))) (Ev.bin (Ev.item (n:=i) (Ev.l (xs:=ns.map .int) (by intros)) (by intros) (by lia) MJ (by lia) (λ_ _=>by fail)) (Ev.bin (by intros) (by intros) (aj.pow (by decide) (by decide) (by decide))) (aj.mod (by decide))) (by fail)) (Ha _ G9) (by simp_all) (by exact IC (i % 6)) PW aj.qp (λ_ _ _=>by fail) ?_
  intro s4 X4 B4
  simp only [L6 _ _ _ _ (hI _ G9),IQ,<-List.map_set] at X4 B4
  exact Hk ⟨X4.to (by k_extra"rs"),B4⟩
 case done=>
  intro s3 X3 B3
  have hl:(aI 0 (min ns.length 60)).length=min ns.length 60:=by simp [aI]
  rw [hl] at X3 B3
  exact next _ _ ((X3.settle 1).to (l:=[("cells",.lst ((cellsOf ns).map .int))]) (aD (aW (p:= .raw (.ref a)) (by k_extra"r") (by rw [oA (by simp [Hl]:(([(a,PV.lst ((cf ns (min ns.length 60)).map .int))]:Own)).lookup a=some (.lst ((cf ns (min ns.length 60)).map .int))),fO];rfl)) jO)) (B3.less (by simp))
noncomputable def Ai (cs:List Int) (j:Nat):Int:=(cs.getD (3+j) 0).fmod 2000001 - 1000000
noncomputable def aV (cs:List Int):List Int:=(List.range 3).map (Ai cs)
noncomputable def aM (cs:List Int):Int:=(aV cs).sum
noncomputable def uD:List Int:=[1, -1,2, -3]
noncomputable def cp (cs:List Int) (j:Nat):Int:=uD.getD ((((cs.getD 1 0).fdiv 64).fdiv (4 ^ j)).fmod 4).toNat 0
noncomputable def gH (cs:List Int):List Int:=(List.range 3).map (cp cs)
theorem int_at {cs:List Int}{n:Nat}(h:n < cs.length):(cs.map PV.int)[n]? =some (.int (cs.getD n 0)):=by
 simp only [List.getElem?_map,List.getElem?_eq_getElem h,List.getD_eq_getElem?_getD]
 rfl
theorem Fm (L:Lx C f3){cs:List Int}(hc:cs.length=6)(rm:ak A (k+1))(X:St C W SL [] (aC [("cells",.lst (cs.map .int))]) env s)(B:Bs C Wt (λ_=>true) t [] env s)
 (next:∀W J,St C W SL [] (aC [("ways",.lst ((gH cs).map .int)),("total",.int (aM cs)),("weights",.lst ((aV cs).map .int)),("cells",.lst (cs.map .int))]) env J->Bs C Wt (λ_=>true) t [] env J->wpAny C.M A (execs (aK 5) env) Q E J):
 wpAny C.M A (execs (aK 2) env) Q E s:=by
 have L':=L.L
 have LK:sizeLine=16777216:=rfl
 conv in aK _=>whnf
 with_reducible
  refine a9 (p:= .lst ((List.range 3).map λj=> .int (Ai cs j))) X B rm (fT.ev (c4 (need:=false) (l:=List.range 3) (g:=λ(i:Nat)=> .int ((0:Int)+(i:Int))) (by with_unfolding_all exact⟨rfl,by done,by done⟩) (λx env=>by fail) (λj=>PV.int (Ai cs j)) ?it1 (by decide) ?s1)) (by done) rfl (cy X (by done)) ?n1
 case it1=>exact aX.cL (n:=3) (by intros) (by intros) (by decide) (by decide) (λenv=>by fail)
 case s1=>
  intro j hj
  have Ot:j < 3:=Hu.mp hj
  refine⟨_,bg.local (by done),by k_extra"u",?_⟩
  with_reducible refine Ev.bin (Ev.bin (Ev.item (n:=3+j) (Ev.l (xs:=cs.map .int) (by intros)) (by intros) (by simp) (int_at (by lia)) (by lia) (λ_ _=>by fail)) (by intros) (aj.mod (by decide))) (by intros) aj.sub
 case n1=>
  intro s1 X1 B1
  have hw:(List.range 3).map (λj=>PV.int (Ai cs j))=(aV cs).map .int:=by unfold aV;rfl
  have X2:=X1.to (l:=[("weights",.lst ((aV cs).map .int)),("cells",.lst (cs.map .int))]) (by k_extra"rs")
  with_reducible refine a9 (p:= .int (aM cs)) X2 B1 rm (Ev.a6 (by intros) (by intros) (cC.sum (yN.lst ?z) rfl)) (by done) rfl (by fail) ?n2
  case z=>unfold aV;simp [LK]
  case n2=>
  intro s2 X3 B2
  have X4:=X3.to (l:=[("total",.int (aM cs)),("weights",.lst ((aV cs).map .int)),("cells",.lst (cs.map .int))]) (by k_extra"rs")
  with_reducible
   refine a9 (p:= .lst ((List.range 3).map λj=> .int (cp cs j))) X4 B2 rm (fT.ev (c4 (need:=false) (l:=List.range 3) (g:=λ(i:Nat)=> .int ((0:Int)+(i:Int))) (by with_unfolding_all exact⟨rfl,by done,by done⟩) (λx env=>by fail) (λj=>PV.int (cp cs j)) ?it3 (by decide) ?s3)) (by done) rfl (cy X4 (by done)) ?n3
  case it3=>exact aX.cL (n:=3) (by intros) (by intros) (by decide) (by decide) (λenv=>by fail)
  case s3=>
   intro j hj
   have Ot:j < 3:=Hu.mp hj
   refine⟨_,bg.local (by done),by k_extra"u",?_⟩
   have e0:((0:Int)+(j:Int)).toNat=j:=by simp
   refine c5 ((by decide:∀j,j < 3->(4:Int) ^ j≠0/\((4:Int) ^ j).natAbs < 1073741824) j Ot) λQd Vt=> ?_
   have h0:=HZ (((cs.getD 1 0).fdiv 64).fdiv (4 ^ j)) (b:=4) (by decide)
   have h4:=Ii (((cs.getD 1 0).fdiv 64).fdiv (4 ^ j)) (b:=4) (by decide)
   have MJ:(uD.map PV.int)[((((cs.getD 1 0).fdiv 64).fdiv (4 ^ j)).fmod 4).toNat]? =some (.int (cp cs j)):=int_at (cs:=uD) (by have:uD.length=4:=rfl;simp_all)
   with_reducible refine Ev.iK (xs:=uD.map .int) (j:=(((cs.getD 1 0).fdiv 64).fdiv (4 ^ j)).fmod 4) ?l (Ev.bin (Ev.bin (Ev.bin (Ev.item (n:=1) (Ev.l (xs:=cs.map .int) (by intros)) (by intros) (by fail) (int_at (by simp_all)) (by decide) (λ_ _=>by fail)) (by intros) (aj.floordiv (by decide) (Hy (by decide)))) (Ev.conv (p:= .int (4 ^ ((0:Int)+(j:Int)).toNat)) (Ev.bin (by intros) (by intros) (aj.pow (by simp) (by lia) (by decide))) (by rw [e0])) (aj.floordiv Qd (Hy Vt))) (by intros) (aj.mod (by decide))) h0 MJ (by decide) (λ_ _=>by fail)
   case l=>
    with_reducible refine' Ev.conv (p:= .lst [.int 1,.int (-1),.int 2,.int (-3)]) (Ev.list ?_ ?_) (by fail)
    all_goals intros
  case n3=>
  intro s3 X5 B3
  have hy:(List.range 3).map (λj=>PV.int (cp cs j))=(gH cs).map .int:=by unfold gH;rfl
  with_reducible have h9:=next _ _ (X5.to (by k_extra"rs")) B3
  conv at h9 in aK _=>whnf
  with_reducible exact h9
noncomputable abbrev eP (e:Int×Int):PV:= .tup [.int e.1,.int e.2]
noncomputable def mC:List (Int×Int):=[(-1,10),(9,10),(-10 ^ 20,10 ^ 19),(0,1)]
noncomputable def pK:List (Int×Int):=[(99,100),(-100, -99),(0,10 ^ 25),(-7,3)]
noncomputable def gB (c:Int):Nat:=((c.fdiv 16).fmod 4).toNat
noncomputable def ef (cs:List Int):Int×Int:=mC.getD (gB (cs.getD 1 0)) (0,0)
noncomputable def gF (cs:List Int):Int×Int:=pK.getD (gB (cs.getD 2 0)) (0,0)
theorem iF (c:Int):gB c < 4/\((gB c:Nat):Int)=(c.fdiv 16).fmod 4:=by
 have h0:=HZ (c.fdiv 16) (b:=4) (by decide)
 have h4:=Ii (c.fdiv 16) (b:=4) (by decide)
 unfold gB
 constructor <;> omega
theorem tF {l:List (Int×Int)}{n:Nat}(h:n < l.length):(l.map eP)[n]? =some (eP (l.getD n (0,0))):=by
 simp only [List.getElem?_map,List.getElem?_eq_getElem h,List.getD_eq_getElem?_getD]
 rfl
noncomputable abbrev l2 (cs:List Int):List (Str×PV):=[("ways",.lst ((gH cs).map .int)),("total",.int (aM cs)),("weights",.lst ((aV cs).map .int)),("cells",.lst (cs.map .int))]
theorem FF (L:Lx C f3){cs:List Int}(hc:cs.length=6)(rm:ak A (k+1))(X:St C W SL [] (aC (l2 cs)) env s)(B:Bs C Wt (λ_=>true) t [] env s)
 (next:∀W J,St C W SL [] (aC (("times",eP (gF cs))::("counts",eP (ef cs))::l2 cs)) env J->Bs C Wt (λ_=>true) t [] env J->wpAny C.M A (execs (aK 7) env) Q E J):
 wpAny C.M A (execs (aK 5) env) Q E s:=by
 have q1:=iF (cs.getD 1 0)
 have q2:=iF (cs.getD 2 0)
 have g1:(mC.map eP)[gB (cs.getD 1 0)]? =some (eP (ef cs)):=tF (by exact q1.1)
 have g2:(pK.map eP)[gB (cs.getD 2 0)]? =some (eP (gF cs)):=tF (by exact q2.1)
 conv in aK _=>whnf
 with_reducible
  refine az (p:=eP (ef cs)) X B rm (Ev.item (n:=gB (cs.getD 1 0)) (Ev.l (xs:=mC.map eP) ?l1) (Ev.bin (Ev.bin (Ev.item (n:=1) (Ev.l (xs:=cs.map .int) (by intros)) (by intros) (by fail) (int_at (by simp_all)) (by decide) (λ_ _=>by fail)) (by intros) (aj.floordiv (by decide) (Hy (by decide)))) (by intros) (aj.mod (by decide))) q1.2.symm g1 (by lia) (λ_ _=>by fail)) (by done) (by fail) ?n1
 case l1=>
  with_reducible refine Ev.conv (p:= .lst [.tup [.int (-1),.int 10],.tup [.int 9,.int 10],.tup [.int (-(10 ^ (20:Int).toNat)),.int (10 ^ (19:Int).toNat)],.tup [.int 0,.int 1]]) ?_ (by kernel_rfl)
  intros
  all_goals exact aj.pow (by decide) (by decide) (by decide)
 case n1=>
 intro s1 X1 B1
 with_reducible
  refine az (p:=eP (gF cs)) (X1.to (l:=("counts",eP (ef cs))::l2 cs) (by k_extra"rs")) B1 rm (Ev.item (n:=gB (cs.getD 2 0)) (Ev.l (xs:=pK.map eP) ?l2) (Ev.bin (Ev.bin (Ev.item (n:=2) (Ev.l (xs:=cs.map .int) (by intros)) (by intros) (by fail) (int_at (by simp_all)) (by decide) (λ_ _=>by fail)) (by intros) (aj.floordiv (by decide) (Hy (by decide)))) (by intros) (aj.mod (by decide))) q2.2.symm g2 (by lia) (λ_ _=>by fail)) (by done) (by fail) ?n2
 case l2=>
  with_reducible refine Ev.conv (p:= .lst [.tup [.int 99,.int 100],.tup [.int (-100),.int (-99)],.tup [.int 0,.int (10 ^ (25:Int).toNat)],.tup [.int (-7),.int 3]]) ?_ (by kernel_rfl)
  intros
  all_goals exact aj.pow (by decide) (by decide) (by decide)
 case n2=>
 intro s2 X3 B2
 with_reducible have h9:=next _ _ (X3.to (by k_extra"rs")) B2
 conv at h9 in aK _=>whnf
 with_reducible exact h9
noncomputable abbrev l5 (cs:List Int):List (Str×PV):=("times",eP (gF cs))::("counts",eP (ef cs))::l2 cs
theorem FE (L:Lx C f3){cs:List Int}(rm:ak A (k+1))(X:St C W SL [] (aC (l5 cs)) env s)(B:Bs C Wt (λ_=>true) t [] env s)
 (next:∀a b W' J,a≠b->St C W' SL [(b,.au []),(a,.au [])] (aC (("own",.raw (.ref b))::("rows",.raw (.ref a))::l5 cs)) env J->Bs C Wt (λ_=>true) t [(b,.au []),(a,.au [])] env J->wpAny C.M A (execs (aK 9) env) Q E J):
 wpAny C.M A (execs (aK 7) env) Q E s:=by
 conv in aK _=>whnf
 with_reducible refine dZ (p:= .au []) X B rm kH.kC (by done) rfl (by fail) ?_
 intro a s1 MN X1 B1
 with_reducible refine dZ (p:= .au []) X1 B1 rm kH.kC (by done) rfl (by fail) ?_
 intro b s2 Uu X2 B2
 have My:a≠b:=λq=>Uu (q▸G9)
 with_reducible have h9:=next a b _ _ My (X2.to (by k_extra"rs")) B2
 conv at h9 in aK _=>whnf
 with_reducible exact h9
noncomputable def fE:List (List Str):=[["f","F",s1 119813,s1 8497],["ff","FF",s1 64256,("f":Str) ++ s1 120229],["fi","fI",s1 64257,s1 8497 ++ ("i":Str)],["i","I",s1 119816,s1 8464],["s","S",s1 119826,s1 383],["ss","Ss",s1 223,s1 383 ++ ("S":Str)]]
noncomputable abbrev sO:PV:= .lst (fE.map λl=> .lst (l.map .str))
noncomputable abbrev ud:PV:= .lst (rD.map .int)
noncomputable def wordAt (n f:Nat):Str:=(fE.getD n []).getD f ""
noncomputable def cW (x:Str) (d:Int):Int:=d.fmod ((x.length:Int)+1)
noncomputable def wO (d:Int):Str:=s1 (rD.getD ((d.fdiv 3).fmod 27).toNat 0).toNat
noncomputable def fH (x:Str) (d:Int):Str:=(eb x none (some (cW x d)) none ++ wO d) ++ eb x (some (cW x d)) none none
theorem len_app (x y:Str):(x ++ y).length=x.length+y.length:=Array.size_append
theorem um (n:Nat):0<=rD.getD n 0/\rD.getD n 0<=0x10FFFF:=by
 have:∀x∈rD,0<=x/\x<=0x10FFFF:=by decide
 by_cases h:n < rD.length
 ·rw [List.getD_eq_getElem?_getD,List.getElem?_eq_getElem h]
  exact this _ (IG h)
 ·rw [List.getD_eq_getElem?_getD,List.getElem?_eq_none (by simp_all)]
  exact⟨by decide,by decide⟩
theorem kl:∀n < 6,∀f < 4,(fE.map λl=>PV.lst (l.map .str))[n]? =some (.lst ((fE.getD n []).map .str))/\((fE.getD n []).map PV.str)[f]? =some (.str (wordAt n f))/\(wordAt n f).length<=2:=by
 intro n hn f hf
 rcases n with _ |_ |_ |_ |_ |_ |n
 all_goals first |lia |(rcases f with _ |_ |_ |_ |f <;> first |lia |exact⟨rfl,rfl,by decide⟩)
theorem Bv (L:Lx C f3){n f:Nat}{d:Int}(hn:n < 6)(hf:f < 4):aN C (k+1) own (.ref 170) [.int n,.int f,.int d] [] (.tup [.str (wordAt n 0),.str (fH (wordAt n f) d),.int (cW (wordAt n f) d)]):=by
 have L':=L.L
 have hw:=kl n hn f hf
 have LK:sizeLine=16777216:=rfl
 refine kP.call (xs:=["number","form","seed"]) [("number",.int n),("form",.int f),("seed",.int d)] L'.ok L.ty ⟨rfl,rfl,rfl,rfl,rfl,by decide+kernel⟩ (by decide+kernel) rfl rfl λW A env s t Wt q code rm X B=> ?_
 conv in ay _ _=>whnf
 with_reducible refine az (p:=sO) X B rm ?_ (by done) (by fail) ?_
 ·with_reducible refine Ev.conv (p:= .lst [.lst [.str "f",.str "F",.str ⟨#[Int.toNat 119813]⟩,.str ⟨#[Int.toNat 8497]⟩],.lst [.str "ff",.str "FF",.str ⟨#[Int.toNat 64256]⟩,.str (("f":Str) ++ ⟨#[Int.toNat 120229]⟩)],.lst [.str "fi",.str "fI",.str ⟨#[Int.toNat 64257]⟩,.str ((⟨#[Int.toNat 8497]⟩:Str) ++ ("i":Str))],.lst [.str "i",.str "I",.str ⟨#[Int.toNat 119816]⟩,.str ⟨#[Int.toNat 8464]⟩],.lst [.str "s",.str "S",.str ⟨#[Int.toNat 119826]⟩,.str ⟨#[Int.toNat 383]⟩],.lst [.str "ss",.str "Ss",.str ⟨#[Int.toNat 223]⟩,.str ((⟨#[Int.toNat 383]⟩:Str) ++ ("S":Str))]]) ?_ (by kernel_rfl)
  intros
  all_goals exact aj.Cr (by decide)
 intro s1 X1 B1
 with_reducible refine az (p:=ud) (X1.to (l:=[("words",sO),("number",.int n),("form",.int f),("seed",.int d)]) (by k_extra"rs")) B1 rm ?_ (by done) (by fail) ?_
 ·with_reducible refine Ev.conv (p:= .lst ([.int 173,.int 847,.int 6150,.int 6155,.int 6156,.int 6157,.int 8203,.int 8204,.int 8205,.int 8288,.int 65279] ++ aI 65024 (65040 - 65024:Int).toNat)) ?_ (by kernel_rfl)
  intros
 intro s3 X3 B3
 have TQ:(fE.map λl=>PV.lst (l.map .str)).length<=sizeLine:=by decide
 have QX:((fE.getD n []).map PV.str).length<=sizeLine:=by
  have:∀n < 6,((fE.getD n []).map PV.str).length<=4:=by decide
  have:=this n hn;lia
 with_reducible refine az (p:= .str (wordAt n f)) X3 B3 rm (Ev.iK (Ev.iK (xs:=fE.map λl=>PV.lst (l.map .str)) (by intros) (by intros) (IC n) (by simp only [IQ];exact hw.1) TQ (λ_ _=>by fail)) (by intros) (IC f) (by simp only [IQ];exact hw.2.1) QX (λ_ _=>by fail)) (by done) (by fail) ?_
 intro s4 X4 B4
 with_reducible refine az (p:= .int (cW (wordAt n f) d)) X4 B4 rm ?_ (by done) (by fail) ?_
 ·with_reducible refine Ev.bin (by intros) (Ev.bin (Ev.a6 (by intros) (by intros) (cC.qg (by lia)) (λenv=>rfl) (λenv=>⟨_,_,rfl⟩)) (by intros) aj.add) (aj.mod (by lia))
 intro s6 X6 B6
 have h3:=Ii (d.fdiv 3) (b:=27) (by decide)
 have hb:=um ((d.fdiv 3).fmod 27).toNat
 have TC:=nZ (wordAt n f) (some (cW (wordAt n f) d)) none
 have Pk:=nZ (wordAt n f) none (some (cW (wordAt n f) d))
 have h2:=hw.2.2
 with_reducible refine cw (p:= .tup [.str (wordAt n 0),.str (fH (wordAt n f) d),.int (cW (wordAt n f) d)]) X6 B6 rm (Ev.tuple (ab.cons (Ev.iK (Ev.iK (xs:=fE.map λl=>PV.lst (l.map .str)) (by intros) (by intros) (IC n) (by simp only [IQ];exact hw.1) TQ (λ_ _=>by fail)) Ev.int (by decide) (kl n hn 0 (by decide)).2.1 QX (λ_ _=>by fail)) (ab.cons (Ev.bin (Ev.bin (by intros) (Ev.a6 (by intros) (ab.cons (Ev.iK (xs:=rD.map .int) (by intros) (by intros) (HZ (d.fdiv 3) (b:=27) (by decide)) ?h1 (by decide) (λ_ _=>by fail)) ab.nil) (cC.chr hb.1 hb.2)) (aj.Cr ?h2)) (by intros) (aj.Cr ?h3)) (by intros))) (Ho (by fail))) ?_
 case h1=>
  have hj:((d.fdiv 3).fmod 27).toNat < rD.length:=by
   have:rD.length=27:=by rfl
   simp_all
  simp only [List.getElem?_map,List.getElem?_eq_getElem hj,List.getD_eq_getElem?_getD]
  rfl
 case h2=>show _+1<=_;lia
 case h3=>rw [len_app];show _+1+_<=_;lia
 intro v J X' B' r
 exact⟨⟨_,_,X'⟩,B',r⟩
noncomputable abbrev q6 (n:Nat):List Stmt:=List.drop n (cG (ay tb 18) 9)
noncomputable def numAt (c:Int) (i:Nat):Nat:=((c.fdiv (3 ^ i)).fmod 3+(c.fdiv 81).fmod 4).toNat
noncomputable def oi (c:Int) (i:Nat):Nat:=(((c.fdiv 324).fdiv (4 ^ i)).fmod 4).toNat
noncomputable def n9 (c:Int) (i:Nat):Int:=((c.fdiv 82944).fdiv (81 ^ i)).fmod 81
theorem jq (c:Int)(i:Nat):numAt c i < 6/\((numAt c i:Nat):Int)=(c.fdiv (3 ^ i)).fmod 3+(c.fdiv 81).fmod 4:=by
 have h:=Int.add_nonneg (HZ (c.fdiv (3 ^ i)) (b:=3) (by decide)) (HZ (c.fdiv 81) (b:=4) (by decide))
 exact⟨(Int.toNat_lt h).mpr (Int.lt_of_le_of_lt (Int.add_le_add (Int.le_of_lt_add_one (Ii (c.fdiv (3 ^ i)) (b:=3) (by decide))) (Int.le_of_lt_add_one (Ii (c.fdiv 81) (b:=4) (by decide)))) (by decide:(2:Int)+3 < (6:Nat))),Int.toNat_of_nonneg h⟩
theorem Bd (a:Int){b:Nat}(hb:(0:Int) < b):(a.fmod b).toNat < b/\(((a.fmod b).toNat:Nat):Int)=a.fmod b:=
 ⟨(Int.toNat_lt (HZ a hb)).mpr (Ii a hb),Int.toNat_of_nonneg (HZ a hb)⟩
theorem nR (c:Int)(i:Nat):oi c i < 4/\((oi c i:Nat):Int)=((c.fdiv 324).fdiv (4 ^ i)).fmod 4:=Bd (b:=4) _ (by decide)
noncomputable def A9:PV->PV
 | .str x=> .bool (iH (x.cps.getD 0 0:Nat))
 |p=>p
noncomputable def bX (x:Str):List Bool:=x.cps.toList.map λ(c:Nat)=>iH (c:Int)
theorem yG (x:Str):(signs x).map A9=(bX x).map .bool:=by
 delta signs bX
 simp only [Hq]
 rfl
noncomputable abbrev l7 (cs:List Int) (a b:Addr):List (Str×PV):=("own",.raw (.ref b))::("rows",.raw (.ref a))::l5 cs
noncomputable abbrev Ek (cs:List Int) (i:Nat):Str:=wordAt (numAt (cs.getD 0 0) i) 0
noncomputable abbrev Cq (cs:List Int) (i:Nat):Str:=fH (wordAt (numAt (cs.getD 0 0) i) (oi (cs.getD 0 0) i)) (n9 (cs.getD 0 0) i)
noncomputable abbrev FU (cs:List Int) (i:Nat):Int:=cW (wordAt (numAt (cs.getD 0 0) i) (oi (cs.getD 0 0) i)) (n9 (cs.getD 0 0) i)
theorem Bt (L:Lx C f3){cs:List Int}{a b:Addr}{i:Nat}(hi:i < 4)(hc:cs.length=6)(rm:ak A (k+1))(X:St C W SL own (aC (("k",.int ((0:Int)+(i:Int)))::l7 cs a b)) env s)(B:Bs C Wt (λ_=>true) t own env s)
 (next:∀J,St C W SL own (aC (("unseen",.int (FU cs i))::("typed",.str (Cq cs i))::("word",.str (Ek cs i))::("number",.int (numAt (cs.getD 0 0) i))::("k",.int ((0:Int)+(i:Int)))::l7 cs a b)) env J->Bs C Wt (λ_=>true) t own env J->wpAny C.M A (execs (q6 2) env) Q E J):
 wpAny C.M A (execs (q6 0) env) Q E s:=by
 have L':=L.L
 have e0:((0:Int)+(i:Int)).toNat=i:=by simp
 refine FC ((by decide:∀j,j < 4->(3:Int) ^ j≠0/\((3:Int) ^ j).natAbs < 1073741824/\(4:Int) ^ j≠0/\((4:Int) ^ j).natAbs < 1073741824/\(81:Int) ^ j≠0/\((81:Int) ^ j).natAbs < 1073741824) i hi) λp3 VF p4 Vn p8 Vg=> ?_
 have n1:=jq (cs.getD 0 0) i
 have f1:=nR (cs.getD 0 0) i
 have g0:(cs.map PV.int)[0]? =some (.int (cs.getD 0 0)):=int_at (by simp_all)
 conv in q6 _=>whnf
 with_reducible
  refine az (p:= .int (numAt (cs.getD 0 0) i)) X B rm (Ev.conv (p:= .int (((cs.getD 0 0).fdiv (3 ^ i)).fmod 3+((cs.getD 0 0).fdiv 81).fmod 4)) (Ev.bin (Ev.bin (Ev.bin (Ev.item (n:=0) (Ev.l (xs:=cs.map .int) (by intros)) (by intros) (by fail) g0 (by decide) (λ_ _=>by fail)) (Ev.conv (p:= .int (3 ^ ((0:Int)+(i:Int)).toNat)) (Ev.bin (by intros) (by intros) (aj.pow (by simp) (by lia) (by decide))) (by rw [e0])) (aj.floordiv p3 (Hy VF))) (by intros) (aj.mod (by decide))) (Ev.bin (Ev.bin (Ev.item (n:=0) (Ev.l (xs:=cs.map .int) (by intros)) (by intros) (by fail) g0 (by decide) (λ_ _=>by fail)) (by intros) (aj.floordiv (by decide) (Hy (by decide)))) (by intros) (aj.mod (by decide))) aj.add) (by simp only [n1.2])) (by done) (by fail) ?n1
 case n1=>
 intro s1 X1 B1
 with_reducible
  refine i6 (p:= .tup [.str (Ek cs i),.str (Cq cs i),.int (FU cs i)]) (X1.to (l:=("number",.int (numAt (cs.getD 0 0) i))::("k",.int ((0:Int)+(i:Int)))::l7 cs a b) (by k_extra"rs")) B1 rm
   (Ev.du (by intros) L.ty.fo (ab.cons (by intros) (ab.cons (Ev.conv (p:= .int ((((cs.getD 0 0).fdiv 324).fdiv (4 ^ i)).fmod 4)) (Ev.bin (Ev.bin (Ev.bin (Ev.item (n:=0) (Ev.l (xs:=cs.map .int) (by intros)) (by intros) (by fail) g0 (by decide) (λ_ _=>by fail)) (by intros) (aj.floordiv (by decide) (Hy (by decide)))) (Ev.conv (p:= .int (4 ^ ((0:Int)+(i:Int)).toNat)) (Ev.bin (by intros) (by intros) (aj.pow (by simp) (by lia) (by decide))) (by rw [e0])) (aj.floordiv p4 (Hy Vn))) (by intros) (aj.mod (by decide))) (by rw [f1.2]))
    (ab.cons (Ev.bin (Ev.bin (Ev.bin (Ev.item (n:=0) (Ev.l (xs:=cs.map .int) (by intros)) (by intros) (by fail) g0 (by decide) (λ_ _=>by fail)) (by intros) (aj.floordiv (by decide) (Hy (by decide)))) (Ev.conv (p:= .int (81 ^ ((0:Int)+(i:Int)).toNat)) (Ev.bin (by intros) (by intros) (aj.pow (by simp) (by lia) (by decide))) (by rw [e0])) (aj.floordiv p8 (Hy Vg))) (by intros) (aj.mod (by decide))) ab.nil))) bR.nil (Bv (own:=own) (k:=k) L (d:=n9 (cs.getD 0 0) i) n1.1 f1.1))
   (bg.tuple (bD.cons (bg.local (by done)) (bD.cons (bg.cell (by done) (by fail)) (bD.cons (bg.cell (by done) (by fail)) bD.nil (λenv=>by fail)) (λenv=>by fail)) (λenv=>by fail)) (λenv=>by with_unfolding_all exact⟨rfl,rfl⟩)) (by fail) (by fail) ?n2
 case n2=>
 intro s2 X3 B2
 with_reducible have h9:=next _ (X3.to (by k_extra"rs")) B2
 conv at h9 in q6 _=>whnf
 with_reducible exact h9
noncomputable def fv (f3:Int->Option Str) (ty:Str):List Str:=((List.range ty.cps.size).filter λj=> !(bX ty).getD j false).map λj=>j6 f3 (s1 (ty.cps.getD j 0))
noncomputable abbrev l9 (cs:List Int) (a b:Addr) (i n:Nat) (wd ty:Str) (pl:Int):List (Str×PV):=("unseen",.int pl)::("typed",.str ty)::("word",.str wd)::("number",.int n)::("k",.int ((0:Int)+(i:Int)))::l7 cs a b
theorem Ds (L:Lx C f3){cs:List Int}{a b:Addr}{i n:Nat}{wd ty:Str}{pl:Int}(Nc:ty.cps.size<=100)(hf:((fv f3 ty).map (·.length)).sum<=10000)(rm:ak A (k+1))(X:St C W SL own (aC (l9 cs a b i n wd ty pl)) env s)(B:Bs C Wt (λ_=>true) t own env s)
 (next:∀J,St C W SL own (aC (("folded",.str (Txt.join "" (fv f3 ty)))::("told",.lst ((bX ty).map .bool))::l9 cs a b i n wd ty pl)) env J->Bs C Wt (λ_=>true) t own env J->wpAny C.M A (execs (q6 4) env) Q E J):
 wpAny C.M A (execs (q6 2) env) Q E s:=by
 have L':=L.L
 have LK:sizeLine=16777216:=rfl
 have TS:(signs ty).length=ty.cps.size:=by simp [signs]
 have R3:∀{i:Nat} {p:PV},(signs ty)[i]? =some p->p= .str (Internal.s1 (ty.cps.getD i 0))/\i < ty.cps.size:=λ{i p} h=>by
  have hi:i < ty.cps.size:=by refine TS▸?_;exact(List.getElem?_eq_some_iff.mp h).1
  unfold signs at h
  rw [List.getElem?_map,List.getElem?_eq_getElem ((hi))] at h
  refine⟨(H7 h).symm.trans ?_,hi⟩
  simp [Array.getD,hi]
 conv in q6 _=>whnf
 with_reducible
  refine a9 (p:= .lst ((bX ty).map .bool)) X B rm (Ev.conv (fT.ev (ux (need:=false) (ps:=signs ty) (f:=A9) (by with_unfolding_all exact⟨rfl,by done,by done⟩) (λx env=>by fail) (aX.str (by intros) (by lia)) (by lia) ?step)) (by rw [yG])) (by done) (by fail) (cy X (by done)) ?nx
 case step=>
  intro p hp
  obtain⟨j,hj⟩:=List.mem_iff_getElem?.mp hp
  obtain⟨rfl,_⟩:=R3 hj
  refine⟨_,bg.local (by done),by k_extra"u",?_⟩
  show Ev _ _ _ _ _ _ (.bool (iH ((Internal.s1 (ty.cps.getD j 0)).cps.getD 0 0:Nat)))
  with_reducible exact Ev.du (Ev.CY L' (by done) (by fail) (by done)) L.it.fo (ab.cons (Ev.local (by done) fQ (by done)) ab.nil) bR.nil (Ck L (by fail))
 case nx=>
 intro s1 X1 B1
 have Rc:((fv f3 ty).map (·.length)).sum+(fv f3 ty).length*(Str.ofString "").length<=16777216:=by
  show _+_*0<=_;lia
 have QD:((List.range ty.cps.size).filter λj=> !(bX ty).getD j false).map (λj=>PV.str (j6 f3 (Internal.s1 (ty.cps.getD j 0))))=(fv f3 ty).map .str:=by unfold fv;rw [Hq];rfl
 with_reducible
  refine az (p:= .str (Txt.join "" (fv f3 ty))) (X1.to (l:=("told",.lst ((bX ty).map .bool))::l9 cs a b i n wd ty pl) (by k_extra"rs")) B1 rm (Ev.uA (T:="str") (id:="str.join") (p:= .str "") (ps:=[.lst (((List.range ty.cps.size).filter λj=> !(bX ty).getD j false).map λj=>PV.str (j6 f3 (Internal.s1 (ty.cps.getD j 0))))]) (by intros) fY.str
   (ab.cons (fT.ev (bI (need:=false) (l:=List.range ty.cps.size) (g:=λ(i:Nat)=> .int ((0:Int)+(i:Int))) (by with_unfolding_all exact⟨rfl,by done,by done⟩) (λx env=>by fail) (λj=>PV.str (j6 f3 (Internal.s1 (ty.cps.getD j 0)))) (λj=> !(bX ty).getD j false) ?it (by rw [I5];lia) ?step2)) ab.nil)
   (cC.join (x:="") (ys:=fv f3 ty) QD Rc) (λ_=>by fail) (λ_=>by fail) (by fail) Ji Kd Ka (λenv=>by fail) (λenv=>by fail)) (by done) (by fail) ?nx2
 case it=>
  refine aX.cL (n:=(ty.cps.size:Int)) (by intros) (Ev.a6 (by intros) (by intros) (cC.qg ?z)) (by lia) (by simp) (λenv=>by fail)
  case z=>have:ty.length=ty.cps.size:=rfl;lia
 case step2=>
  intro j hj
  have S0:j < ty.cps.size:=Hu.mp hj
  have e0:((0:Int)+(j:Int))=(j:Int):=by lia
  have hg:((bX ty).map PV.bool)[j]? =some (.bool ((bX ty).getD j false)):=by
   simp only [List.getElem?_map,List.getElem?_eq_getElem (by rw [(by simp [bX]:(bX ty).length=ty.cps.size)];exact S0:j < (bX ty).length),List.getD_eq_getElem?_getD];rfl
  refine⟨_,bg.local (by rfl),by k_extra"u",?_,λ_=> ?_⟩
  ·with_reducible refine Tr.not (Tr.plain (Ev.item (n:=j) (Ev.l (xs:=(bX ty).map .bool) (by intros)) (by intros) e0 hg (by lia) (λ_ _=>by fail)) Th.bool (λ_ _=>by fail))
  ·show Ev _ _ _ _ _ _ (.str (j6 f3 ⟨#[ty.cps.getD j 0]⟩))
   with_reducible refine Ev.du (Ev.CY L' (by done) (by fail) (by done)) L.mt.fo (ab.cons (Ev.yn (n:=j) (by intros) (by intros) e0 (by simp [Array.getD,S0]) (by lia) (λ_ _=>by fail)) ab.nil) bR.nil (Br L (by fail))
 case nx2=>
 intro s2 X3 B2
 with_reducible have h9:=next _ (X3.to (by k_extra"rs")) B2
 conv at h9 in q6 _=>whnf
 with_reducible exact h9
theorem aj.F8 {a b:Bool}:aj C (compareOp .Is) (.bool a) (.bool b) (.bool (a==b)):=λW A s v u _ g h1 h2=>by
 refine(show v= .bool a from h1)▸(show u= .bool b from h2)▸?_
 exact PyProof.Rows.is_bool ⟨ah.refl _,rfl⟩
theorem iu:kK (.lst []):=dh (n:=1) rfl (by decide)
theorem filter_none {l:List PV}{f:PV->PV}:(l.filter λ_=>false).map f=[]:=by
 induction l with
 |nil=>rfl
 |cons a l ih=>simp
noncomputable abbrev E1 (cs:List Int) (a b:Addr) (i n:Nat) (wd ty:Str) (pl:Int):List (Str×PV):=("folded",.str wd)::("told",.lst ((bX ty).map .bool))::l9 cs a b i n wd ty pl
theorem CR (L:Lx C f3){cs:List Int}{a b:Addr}{i n:Nat}{wd ty:Str}{pl:Int}(Nc:ty.cps.size<=100)(hp:∀j:Nat,j < ty.cps.size->(bX ty).getD j false=((j:Int)==pl))(rm:ak A (k+1))(X:St C W SL own (aC (E1 cs a b i n wd ty pl)) env s)(B:Bs C Wt (λ_=>true) t own env s)
 (next:∀J,St C W SL own (aC (E1 cs a b i n wd ty pl)) env J->Bs C Wt (λ_=>true) t own env J->wpAny C.M A (execs (q6 5) env) Q E J):
 wpAny C.M A (execs (q6 4) env) Q E s:=by
 have L':=L.L
 have LK:sizeLine=16777216:=rfl
 have ON:ty.length=ty.cps.size:=rfl
 conv in q6 _=>whnf
 with_reducible
  refine bG X B rm (Tr.conv (p:=(wd !=wd) || (false || false)) (Tr.or (Tr.cmp (by intros) (by intros) aj.Fh Th.bool (by kernel_rfl!)) (λ_=>Tr.or (Tr.cmp (Ev.conv (p:= .lst (((aI 0 ty.length).filter λ_=>false).map id)) (fT.ev (ot (need:=false) (ps:=aI 0 ty.length) (f:=id) (b:=λ_=>false) (by with_unfolding_all exact⟨rfl,by done,by done⟩) (λx env=>by fail) (aX.cL (n:=(ty.length:Int)) (by intros) (Ev.a6 (by intros) (by intros) (cC.qg (by lia))) (by lia) (by simp) (λenv=>by fail)) ?sz ?step)) (by rw [filter_none])) (Ev.list ab.nil (by decide)) (aj.fB iu) Th.bool (by kernel_rfl!)) (λ_=>Tr.pH))) (by simp)) ?nx
 case sz=>simp [aI];lia
 case nx=>
  intro s1 X1 B1
  with_reducible have h9:=next _ X1 B1
  conv at h9 in q6 _=>whnf
  with_reducible exact h9
 case step=>
  intro p Qu
  obtain⟨j,hj⟩:=List.mem_iff_getElem?.mp Qu
  refine(er hj)▸?_
  have NG:=ek hj
  have hg:((bX ty).map PV.bool)[j]? =some (.bool ((bX ty).getD j false)):=by
   simp only [List.getElem?_map,List.getElem?_eq_getElem (by rw [(by simp [bX]:(bX ty).length=ty.cps.size)];exact NG:j < (bX ty).length),List.getD_eq_getElem?_getD];rfl
  rw [(hp j NG)] at hg
  refine⟨_,bg.local (by rfl),by k_extra"u",?_,λe=>by cases e⟩
  with_reducible
   refine Tr.conv (p:=(((((j:Int)==pl)==true) !=((0+(j:Int))==pl)) || (((((j:Int)==pl)==false) !=((0+(j:Int)) !=pl)) || false))) (Tr.or (Tr.cmp (Ev.cmp (Ev.item (n:=j) (Ev.l (xs:=(bX ty).map .bool) (by intros)) (by intros) (by lia) hg (by lia) (λ_ _=>by fail)) (by intros) aj.F8 (by kernel_rfl!)) (Ev.cmp (by intros) (by intros) aj.DM (by kernel_rfl!)) aj.Fx Th.bool (by kernel_rfl!))
    (λ_=>Tr.or (Tr.cmp (Ev.cmp (Ev.item (n:=j) (Ev.l (xs:=(bX ty).map .bool) (by intros)) (by intros) (by lia) hg (by lia) (λ_ _=>by fail)) (by intros) aj.F8 (by kernel_rfl!)) (Ev.cmp (by intros) (by intros) aj.A5 (by kernel_rfl!)) aj.Fx Th.bool (by kernel_rfl!)) (λ_=>Tr.pH))) ?_
  refine((I7 _))▸?_
  cases hq:((j:Int)==pl) <;> simp [bne,hq]
noncomputable def cb (i:Nat):Str:=⟨#[("abcd":Str).cps.getD i 0]⟩
noncomputable def bitAt (c:Int) (i:Nat):Nat:=((c.fdiv (2 ^ i)).fmod 2).toNat
theorem fK (c:Int)(i:Nat):bitAt c i < 2/\((bitAt c i:Nat):Int)=(c.fdiv (2 ^ i)).fmod 2:=Bd (b:=2) _ (by decide)
noncomputable def two (e:Int×Int) (n:Nat):Int:=if n=0 then e.1 else e.2
theorem wt {e:Int×Int}{n:Nat}(h:n < 2):[PV.int e.1,.int e.2][n]? =some (.int (two e n)):=by
 rcases n with _ |_ |n
 ·rfl
 ·rfl
 ·lia
noncomputable abbrev zE (cs:List Int) (i n:Nat):PV:= .lst [.int n,.int (bitAt (cs.getD 1 0) i),.int (bitAt (cs.getD 2 0) i)]
noncomputable abbrev Ab (cs:List Int) (i:Nat) (wd:Str):PV:= .tup [.str wd,.int (two (ef cs) (bitAt (cs.getD 1 0) i)),.int (two (gF cs) (bitAt (cs.getD 2 0) i))]
theorem CL (L:Lx C f3){cs:List Int}{a b I:Addr}{ob:Obj}{od rd:List (Str×PV)}{i n:Nat}{wd ty:Str}{pl:Int}(hi:i < 4)(hc:cs.length=6)(VV:od.length<=100)(Sp:rd.length<=100)(My:a≠b)(Nw:a≠I)(UQ:b≠I)(rm:ak A (k+1))
 (X:St C W SL [(I,.obj ob),(b,.au od),(a,.au rd)] (aC (E1 cs a b i n wd ty pl)) env s)(B:Bs C Wt (λ_=>true) t [(I,.obj ob),(b,.au od),(a,.au rd)] env s)
 (next:∀J,St C W SL [(I,.obj ob),(b,.au (putD od (cb i) (zE cs i n))),(a,.au (putD rd (cb i) (Ab cs i wd)))] (aC (E1 cs a b i n wd ty pl)) env J->Bs C Wt (λ_=>true) t [(I,.obj ob),(b,.au (putD od (cb i) (zE cs i n))),(a,.au (putD rd (cb i) (Ab cs i wd)))] env J->wpAny C.M A (execs [] env) Q E J):
 wpAny C.M A (execs (q6 5) env) Q E s:=by
 have LK:sizeLine=16777216:=rfl
 have e0:((0:Int)+(i:Int)).toNat=i:=by simp
 have e1:((0:Int)+(i:Int))=(i:Int):=by lia
 obtain⟨p2,Pf⟩:=(by decide:∀j,j < 4->(2:Int) ^ j≠0/\((2:Int) ^ j).natAbs < 1073741824) i hi
 have b1:=fK (cs.getD 1 0) i
 have b2:=fK (cs.getD 2 0) i
 have g1:(cs.map PV.int)[1]? =some (.int (cs.getD 1 0)):=int_at (by simp_all)
 have g2:(cs.map PV.int)[2]? =some (.int (cs.getD 2 0)):=int_at (by simp_all)
 have SG:("abcd":Str).cps[i]? =some (("abcd":Str).cps.getD i 0):=(by decide:∀j,j < 4->("abcd":Str).cps[j]? =some (("abcd":Str).cps.getD j 0)) i hi
 have vz:∀q r,aE [(I,PV.obj ob),(b,.au od),(a,.au r)] b q=[(I,.obj ob),(b,q),(a,.au r)]:=λq r=>by
  unfold aE;simp [HE UQ,My]
 have Ci:∀q r,aE [(I,PV.obj ob),(b,q),(a,.au rd)] a r=[(I,.obj ob),(b,q),(a,r)]:=λq r=>by
  unfold aE;simp [HE Nw,HE My]
 conv in q6 _=>whnf
 with_reducible
  refine dq (es:=od) (x:=cb i) (p:=zE cs i n) X B rm (Ev.list (ab.cons (by intros) (ab.cons (Ev.conv (p:= .int (((cs.getD 1 0).fdiv (2 ^ i)).fmod 2)) (Ev.bin (Ev.bin (Ev.item (n:=1) (Ev.l (xs:=cs.map .int) (by intros)) (by intros) (by fail) g1 (by decide) (λ_ _=>by fail)) (Ev.conv (p:= .int (2 ^ ((0:Int)+(i:Int)).toNat)) (Ev.bin (by intros) (by intros) (aj.pow (by simp) (by lia) (by decide))) (by rw [e0])) (aj.floordiv p2 (Hy Pf))) (by intros) (aj.mod (by decide))) (by rw [b1.2])) (ab.cons (Ev.conv (p:= .int (((cs.getD 2 0).fdiv (2 ^ i)).fmod 2)) (Ev.bin (Ev.bin (Ev.item (n:=2) (Ev.l (xs:=cs.map .int) (by intros)) (by intros) (by fail) g2 (by decide) (λ_ _=>by fail)) (Ev.conv (p:= .int (2 ^ ((0:Int)+(i:Int)).toNat)) (Ev.bin (by intros) (by intros) (aj.pow (by simp) (by lia) (by decide))) (by rw [e0])) (aj.floordiv p2 (Hy Pf))) (by intros) (aj.mod (by decide))) (by rw [b2.2])) ab.nil))) (Ho (by fail))) (by intros) (Ev.conv (p:= .str ⟨#[("abcd":Str).cps.getD i 0]⟩) (Ev.yn (n:=i) (by intros) (by intros) e1 SG (by lia) (λ_ _=>by fail)) (by fail)) (by simp) (by lia) (by fail) ?n1
 case n1=>
 intro s1 X1 B1
 rw [vz] at X1 B1
 with_reducible
  refine dq (es:=rd) (x:=cb i) (p:=Ab cs i wd) X1 B1 rm (Ev.tuple (ab.cons (by intros) (ab.cons (Ev.b9 (n:=bitAt (cs.getD 1 0) i) (Ev.t (xs:=[.int (ef cs).1,.int (ef cs).2]) (by intros)) (Ev.bin (Ev.bin (Ev.item (n:=1) (Ev.l (xs:=cs.map .int) (by intros)) (by intros) (by fail) g1 (by decide) (λ_ _=>by fail)) (Ev.conv (p:= .int (2 ^ ((0:Int)+(i:Int)).toNat)) (Ev.bin (by intros) (by intros) (aj.pow (by simp) (by lia) (by decide))) (by rw [e0])) (aj.floordiv p2 (Hy Pf))) (by intros) (aj.mod (by decide))) b1.2.symm (wt b1.1) (by lia) (λ_ _=>by fail)) (ab.cons (Ev.b9 (n:=bitAt (cs.getD 2 0) i) (Ev.t (xs:=[.int (gF cs).1,.int (gF cs).2]) (by intros)) (Ev.bin (Ev.bin (Ev.item (n:=2) (Ev.l (xs:=cs.map .int) (by intros)) (by intros) (by fail) g2 (by decide) (λ_ _=>by fail)) (Ev.conv (p:= .int (2 ^ ((0:Int)+(i:Int)).toNat)) (Ev.bin (by intros) (by intros) (aj.pow (by simp) (by lia) (by decide))) (by rw [e0])) (aj.floordiv p2 (Hy Pf))) (by intros) (aj.mod (by decide))) b2.2.symm (wt b2.1) (by lia) (λ_ _=>by fail)) ab.nil))) (Ho (by fail))) (by intros) (Ev.conv (p:= .str ⟨#[("abcd":Str).cps.getD i 0]⟩) (Ev.yn (n:=i) (by intros) (by intros) e1 SG (by lia) (λ_ _=>by fail)) (by fail)) ((λq=>by simp:∀q,(a,PV.au rd)∈([(I,.obj ob),(b,q),(a,.au rd)]:Own)) _) (by lia) (by fail) ?n2
 case n2=>
 intro s2 X2 B2
 rw [Ci] at X2 B2
 exact next _ X2 B2
noncomputable def ownAt (cs:List Int):Nat->List (Str×PV)
 |0=>[]
 |i+1=>putD (ownAt cs i) (cb i) (zE cs i (numAt (cs.getD 0 0) i))
noncomputable def rowAt (cs:List Int):Nat->List (Str×PV)
 |0=>[]
 |i+1=>putD (rowAt cs i) (cb i) (Ab cs i (Ek cs i))
theorem sM (es:List (Str×PV))(x:Str)(p:PV):(putD es x p).length<=es.length+1:=by
 unfold putD
 split
 ·rw [Hd];simp
 ·rw [HF];exact Hh _
theorem uJ (cs:List Int):∀i,(ownAt cs i).length<=i:=by
 intro i
 induction i with
 |zero=>exact Hh _
 |succ i ih=>exact Hg (sM _ _ _) (I9 ih)
theorem uQ (cs:List Int):∀i,(rowAt cs i).length<=i:=by
 intro i
 induction i with
 |zero=>exact Hh _
 |succ i ih=>exact Hg (sM _ _ _) (I9 ih)
structure qR (f3:Int->Option Str)(cs:List Int):Prop where
 size:∀i < 4,(Cq cs i).cps.size<=100
 sum:∀i < 4,((fv f3 (Cq cs i)).map (·.length)).sum<=10000
 word:∀i < 4,Txt.join "" (fv f3 (Cq cs i))=Ek cs i
 place:∀i < 4,∀j:Nat,j < (Cq cs i).cps.size->(bX (Cq cs i)).getD j false=((j:Int)==FU cs i)
theorem FH (L:Lx C f3){cs:List Int}(T:qR f3 cs){a b:Addr}(My:a≠b)(hc:cs.length=6)(rm:ak A (k+1))
 (X:St C W SL [(b,.au []),(a,.au [])] (aC (l7 cs a b)) env s)(B:Bs C Wt (λ_=>true) t [(b,.au []),(a,.au [])] env s)
 (next:∀J,St C W SL [(b,.au (ownAt cs 4)),(a,.au (rowAt cs 4))] (aC (l7 cs a b)) env J->Bs C Wt (λ_=>true) t [(b,.au (ownAt cs 4)),(a,.au (rowAt cs 4))] env J->wpAny C.M A (execs (aK 10) env) Q E J):
 wpAny C.M A (execs (aK 9) env) Q E s:=by
 have L':=L.L
 conv in aK _=>whnf
 with_reducible
  refine a7 (need:=false) (k:=k+1) (ps:=aI 0 4) X B rm ?it (λi=>[(b,.au (ownAt cs i)),(a,.au (rowAt cs i))]) (λ_=>aC (l7 cs a b)) (λi=>upd (aC (l7 cs a b)) "k" (.int ((0:Int)+(i:Int)))) (by fail) (by fail) (λ_=>by fail) (λ_=>False) ?LH ?turn (λ_ _ _ h=>h.elim) ?done (λx=>by fail)
 case it=>exact aX.cL (n:=4) (by intros) (by intros) (by decide) (by decide) (λenv=>by fail)
 case LH=>
  intro i p hp
  refine(er hp)▸?_
  exact bg.cell (by rfl) rfl
 case turn=>
  intro I ob i p t' LY s1 hI hp X1 B1
  have hi:=ek hp
  have fin:=Bt (Q:=λf H'=>match f with
   | .next | .cont=>St C (I::W) SL ((I,.obj ob)::[(b,.au (ownAt cs (i+1))),(a,.au (rowAt cs (i+1)))]) (aC (l7 cs a b)) env H'/\Bs C LY (λ_=>true) t' ((I,.obj ob)::[(b,.au (ownAt cs (i+1))),(a,.au (rowAt cs (i+1)))]) env H'
   | .brk=>False
   | .ret v=>∃p own' J',False/\Rr C (I::W) H'.heap v p/\St C (I::W) SL own' J' env H'/\Bs C LY (λ_=>true) t' own' env H') (E:=λ_ _=>False) L hi hc rm (X1.to (l:=("k",.int ((0:Int)+(i:Int)))::l7 cs a b) (by k_extra"rs")) B1 λs2 X3 B2=>
   Ds L (T.size i hi) (T.sum i hi) rm X3 B2 λs3 X4 B3=>by
    rw [T.word i hi] at X4
    refine CR L (T.size i hi) (T.place i hi) rm X4 B3 λs4 X5 B4=> ?_
    refine CL L hi hc (by have:=uJ cs i;omega) (by have:=uQ cs i;omega) My (hI (a,_) (Ha _ G9)) (hI (b,_) G9) rm X5 B4 λs5 X6 B5=> ?_
    exact Hk ⟨X6.to (by k_extra"rs"),B5⟩
  conv at fin in q6 _=>whnf
  exact fin
 case done=>
  intro s1 X1 B1
  have h9:=next _ X1 B1
  conv at h9 in aK _=>whnf
  exact h9
def Plain (p:PV):Prop:=∀f,res f p=p
theorem lK {es:List (Str×PV)}{x:Str}{p:PV}(h:∀e∈es,Plain e.2)(hp:Plain p):∀e∈putD es x p,Plain e.2:=λe he=>by
 unfold putD at he
 split at he
 ·refine ae (He.mp he) λe' h1 G'=> ?_;subst G'
  split
  ·exact hp
  ·exact h _ h1
 ·rcases HA.mp he with he |he
  ·exact h e he
  ·rw [Hi.mp he];exact hp
theorem tY (cs:List Int):∀i,∀e∈ownAt cs i,Plain e.2:=by
 intro i
 induction i with
 |zero=>exact λ_ h=>nomatch h
 |succ i ih=>exact lK ih λ_=>rfl
theorem uh (cs:List Int):∀i,∀e∈rowAt cs i,Plain e.2:=by
 intro i
 induction i with
 |zero=>exact λ_ h=>nomatch h
 |succ i ih=>exact lK ih λ_=>rfl
theorem dY {f:Addr->Option PV}{es:List (Str×PV)}(h:∀e∈es,Plain e.2):g9 f es=es:=by
 rw [wW]
 refine(HY λe he=> ?_).trans (J1 _)
 show (e.1,res f e.2)=e
 rw [h e he]
theorem e9 {f:Addr->Option PV}{l:List PV}(h:∀p∈l,Plain p):dM f l=l:=jZ λp hp=>h p hp f
theorem Plain.ints {l:List Int}:Plain (.lst (l.map .int)):=λf=>by
 rw [xW,e9]
 intro p hp g
 refine ae (He.mp hp) λx _ G'=> ?_;subst G'
 rfl
theorem gR {own:Own}{a:Addr}{es:List (Str×PV)}{n:Nat}(h:own.lookup a=some (.au es)):res (bH own (n+1)) (.raw (.ref a))= .au (g9 (bH own n) es):=by
 simp only [jR]
 rw [gq,h]
 rfl
noncomputable def aF (cs:List Int) (i:Nat):List Int:=[numAt (cs.getD 0 0) i,bitAt (cs.getD 1 0) i,bitAt (cs.getD 2 0) i]
noncomputable def jG (cs:List Int) (i:Nat):List Cl:=[.s (Ek cs i),.i (two (ef cs) (bitAt (cs.getD 1 0) i)),.i (two (gF cs) (bitAt (cs.getD 2 0) i))]
noncomputable def mP (cs:List Int):List (Str×PV):=(List.range 4).map λi=>(cb i,.lst ((aF cs i).map .int))
noncomputable def pV (cs:List Int):List (Str×PV):=(List.range 4).map λi=>(cb i,fg (jG cs i))
theorem mV (f:Nat->PV):putD (putD (putD (putD [] (cb 0) (f 0)) (cb 1) (f 1)) (cb 2) (f 2)) (cb 3) (f 3)=(List.range 4).map λi=>(cb i,f i):=by fail
theorem vJ (cs:List Int):ownAt cs 4=mP cs:=mV λi=> .lst ((aF cs i).map .int)
theorem v5 (cs:List Int):rowAt cs 4=pV cs:=mV λi=>fg (jG cs i)
theorem tE {α:Type}(f:Nat->α):∀i,i < 4->((List.range 4).map λi=>(cb i,f i)).lookup (cb i)=some (f i)
 |0,_=>rfl
 |1,_=>rfl
 |2,_=>rfl
 |3,_=>rfl
 |i+4,h=>absurd h (by simp)
theorem aB {n:Nat}{x:Str}{p:PV}(h:ρ x=some p)(hp:Plain p):(λx=>(ρ x).map (res (bH own n))) x=some p:=aW h (hp _)
noncomputable abbrev BN (cs:List Int):List (Str×PV):=("own",.au (mP cs))::("rows",.au (pV cs))::l5 cs
theorem wg {cs:List Int}{a b:Addr}(My:a≠b)(X:St C W SL [(b,.au (ownAt cs 4)),(a,.au (rowAt cs 4))] (aC (l7 cs a b)) env s):
 ∃W',St C W' SL [] (aC (BN cs)) env s:=
 ⟨_,(X.settle 1).to (l:=BN cs) (aD (aW (p:= .raw (.ref b)) (by k_extra"r") (by rw [gR (es:=ownAt cs 4) (by simp),dY (tY cs 4),vJ]))
  (aD (aW (p:= .raw (.ref a)) (by k_extra"r") (by rw [gR (es:=rowAt cs 4) (by simp [Hl,HC My]),dY (uh cs 4),v5]))
  (aD (aB (by k_extra"r") (λ_=>rfl)) (aD (aB (by k_extra"r") (λ_=>rfl)) (aD (aB (by k_extra"r") Plain.ints) (aD (aB (by k_extra"r") (λ_=>rfl)) (aD (aB (by k_extra"r") Plain.ints) (aD (aB (by k_extra"r") Plain.ints) jO))))))))⟩
set_option maxRecDepth 100000
theorem CF {elt t1 i1 t2 i2 c:Expr}(ok:eQ scope sc)(TC:∀x env,foldedSetIterable i1 env x=pure x)(Pk:∀x env,foldedSetIterable i2 env x=pure x)
 {l:List α}{g:α->PV}(qs:α->List β)(h:α->β->PV)(f:α->β->PV)(b:α->β->Bool)
 (hi:aX C k sc own ρ i1 (l.map g))(hz:(l.flatMap λa=>(qs a).map (f a)).length<=sizeLine)
 (step:∀a∈l,∃j',bg C (ed scope sc) (bE scope) (bA scope ρ) t1 (g a) j'/\(∀y q,bA scope ρ y=some q->j' y=some q)/\aX C k (ed scope sc) [] j' i2 ((qs a).map (h a))/\
  ∀q∈qs a,∃Mn,bg C (ed scope sc) (bE scope) j' t2 (h a q) Mn/\(∀y r,j' y=some r->Mn y=some r)/\Tr C k (ed scope sc) [] Mn c (b a q)/\(b a q=true->Ev C k (ed scope sc) [] Mn elt (f a q))):
 fT C k sc own ρ elt [⟨t1,i1,[],0⟩,⟨t2,i2,[c],0⟩] scope pos (.lst (l.flatMap λa=>((qs a).filter (b a)).map (f a))):=
 q5 _ (λit D env=>BR) ok TC (λi=> .lst ((l.take i).flatMap λa=>((qs a).filter (b a)).map (f a))) (by rfl) (by simp) hi λi p hp=>by
  refine ae (cY hp) λa ha G'=> ?_;subst G'
  refine r9 (step a (List.mem_of_getElem? ha)) λj' h1 h2 h3 h4=> ?_
  refine⟨j',true,h1,vc.nil,?_⟩
  have LP:((l.take (i+1)).flatMap λa=>((qs a).filter (b a)).map (f a))=((l.take i).flatMap λa=>((qs a).filter (b a)).map (f a)) ++ ((qs a).filter (b a)).map (f a):=by
   simp only [take_snoc ha,List.flatMap_append];simp
  have RZ:∀l':List α,(l'.flatMap λa=>((qs a).filter (b a)).map (f a)).length<=(l'.flatMap λa=>(qs a).map (f a)).length:=λl'=>by
   induction l' with
   |nil=>exact Hh _
   |cons x l' ih=>
    simp only [List.flatMap_cons,HF,Hd]
    exact Lj (Ic _ _) ih
  have hle:((l.take (i+1)).flatMap λa=>((qs a).filter (b a)).map (f a)).length<=sizeLine:=by
   refine Hg (RZ _) (Hg ?_ hz)
   conv=>rhs;rw [<-II (i+1) l]
   simp only [List.flatMap_append,HF]
   exact HN _ _
  refine yf (.inl ⟨_,_,_,_,rfl⟩) (jn elt) rfl (λit D env=>Ax) Pk (λj=> .lst (((l.take i).flatMap λa=>((qs a).filter (b a)).map (f a)) ++ (((qs a).take j).filter (b a)).map (f a))) (by simp) (by simp only [LP];simp) h3 (λh=>by cases h) h2 λj q hq=> ?_
  refine ae (cY hq) λy hy G'=> ?_;subst G'
  refine r9 (h4 y (List.mem_of_getElem? hy)) λMn g1 g2 g3 g4=> ?_
  refine⟨Mn,b a y,g1,vc.one g3,?_⟩
  have e:=Hx (List.filter (b a)) (take_snoc hy)
  simp only [Kx] at e
  cases hb:b a y with
  |true=>
   rw [if_pos rfl]
   show iQ _ _ _ _ _ (lh _) _ (lh (.lst (((l.take i).flatMap λa=>((qs a).filter (b a)).map (f a)) ++ (((qs a).take (j+1)).filter (b a)).map (f a)))) _
   rw [e,(by simp [hb]:[y].filter (b a)=[y]),Hr,<-Iq]
   refine jY (g4 hb) g2 ?_
   refine Hg ?_ hle
   simp only [LP,HF,Hd]
   exact Nat.add_le_add_left (((Jm _ _).filter _).length_le) _
  |false=>
   rw [if_neg (by decide)]
   refine⟨g2,λp s hp=> ?_⟩
   show p=_
   simp only [e,(by simp [hb]:[y].filter (b a)=[]),IA]
   exact hp
set_option maxRecDepth 4000
noncomputable def nJ:List Str:=[s1 97,s1 98,s1 99,s1 100]
noncomputable def dA (x y:Str):Bool:=decide (x.cps.toList < y.cps.toList)
noncomputable def d9:List (Str×Str):=[(s1 97,s1 98),(s1 97,s1 99),(s1 97,s1 100),(s1 98,s1 99),(s1 98,s1 100),(s1 99,s1 100)]
noncomputable abbrev fG (e:Str×Str):PV:= .tup [.str e.1,.str e.2]
theorem xX:(nJ.flatMap λx=>((nJ.filter (dA x)).map λy=>PV.tup [.str x,.str y]))=d9.map fG:=by fail
theorem iD {x:Expr}(h:Ev C k sc own ρ x (.str "abcd")):aX C k sc own ρ x (nJ.map .str):=aX.str h (by decide)
theorem EA (L:Lx C f3){cs:List Int}(rm:ak A (k+1))(X:St C W SL [] (aC (BN cs)) env s)(B:Bs C Wt (λ_=>true) t [] env s)
 (next:∀a J,St C (a::W) SL [(a,.lst [])] (aC (("answers",.raw (.ref a))::("pairs",.lst (d9.map fG))::BN cs)) env J->Bs C Wt (λ_=>true) t [(a,.lst [])] env J->wpAny C.M A (execs (aK 12) env) Q E J):
 wpAny C.M A (execs (aK 10) env) Q E s:=by
 conv in aK _=>whnf
 with_reducible
  refine a9 (p:= .lst (d9.map fG)) X B rm (Ev.conv (fT.ev (CF (l:=nJ) (g:=PV.str) (by with_unfolding_all exact⟨rfl,by done,by done⟩) (λx env=>by fail) (λx env=>by fail) (λ_=>nJ) (λ_ y=>PV.str y) (λx y=>PV.tup [.str x,.str y]) dA (iD Ev.str) (by decide) ?step)) (Hx PV.lst xX)) (by done) (by fail) (cy X (by done)) ?nx
 case step=>
  intro x hx
  refine⟨_,bg.local (by done),by k_extra"u",iD Ev.str,λy hy=>⟨_,bg.local (by done),xj (le_refl _) (oP (by done) (kD (by done))),?_,λ_=> ?_⟩⟩
  ·with_reducible exact Tr.cmp (by intros) (by intros) aj.dA Th.bool (by decide+kernel)
  ·intros
 case nx=>
 intro s1 X1 B1
 with_reducible refine dU (p:= .lst []) (X1.to (l:=("pairs",.lst (d9.map fG))::BN cs) (by k_extra"rs")) B1 rm (kH.list (by intros) (by intros)) (by done) (by fail) ?_
 intro a s2 MN X2 B2
 with_reducible have h9:=next a _ (X2.to (by k_extra"rs")) B2
 conv at h9 in aK _=>whnf
 with_reducible exact h9
noncomputable abbrev gj (n:Nat):List Stmt:=List.drop n (cG (ay tb 18) 12)
noncomputable def x9 (c:Int) (j:Nat):Bool:=(c.fdiv (2 ^ j)).fmod 2==1
noncomputable def cn (cs:List Int) (c:Int):List (Nat×Int):=((List.range 3).filter (x9 c)).map λj=>(j,cp cs j)
noncomputable abbrev qG (e:Nat×Int):PV:= .tup [.int e.1,.int e.2]
noncomputable abbrev wU (cs:List Int) (a:Addr):List (Str×PV):=("answers",.raw (.ref a))::("pairs",.lst (d9.map fG))::BN cs
theorem Aq (L:Lx C f3){cs:List Int}{a:Addr}{i:Nat}(rm:ak A (k+1))(X:St C W SL own (aC (("chosen",.int ((0:Int)+(i:Int)))::wU cs a)) env s)(B:Bs C Wt (λ_=>true) t own env s)
 (next:∀J,St C W SL own (aC (("keys",.lst ((cn cs i).map qG))::("chosen",.int ((0:Int)+(i:Int)))::wU cs a)) env J->Bs C Wt (λ_=>true) t own env J->wpAny C.M A (execs (gj 1) env) Q E J):
 wpAny C.M A (execs (gj 0) env) Q E s:=by
 have L':=L.L
 have hk:((List.range 3).filter (x9 i)).map (λ(j:Nat)=>PV.tup [.int ((0:Int)+(j:Int)),.int (cp cs j)])=(cn cs i).map qG:=by
  unfold cn
  simp only [Hq]
  refine HY λj _=> ?_
  show PV.tup [.int ((0:Int)+(j:Int)),.int (cp cs j)]= .tup [.int (j:Int),.int (cp cs j)]
  rw [I7]
 have hy:(gH cs).length=3:=rfl
 conv in gj _=>whnf
 with_reducible
  refine a9 (p:= .lst ((cn cs i).map qG)) X B rm (Ev.conv (fT.ev (bI (need:=false) (l:=List.range 3) (g:=λ(i:Nat)=> .int ((0:Int)+(i:Int))) (by with_unfolding_all exact⟨rfl,by done,by done⟩) (λx env=>by fail) (λ(j:Nat)=>PV.tup [.int ((0:Int)+(j:Int)),.int (cp cs j)]) (x9 i) ?it (by decide) ?step)) (Hx PV.lst hk)) (by done) (by fail) (cy X (by done)) ?nx
 case it=>exact aX.cL (n:=3) (by intros) (by intros) (by decide) (by decide) (λenv=>by fail)
 case step=>
  intro j hj
  have Ot:j < 3:=Hu.mp hj
  have e0:((0:Int)+(j:Int)).toNat=j:=by simp
  obtain⟨p2,Pf⟩:=(by decide:∀j,j < 3->(2:Int) ^ j≠0/\((2:Int) ^ j).natAbs < 1073741824) j Ot
  have hg:((gH cs).map PV.int)[j]? =some (.int (cp cs j)):=by
   rw [int_at (by assumption)]
   have:(gH cs).getD j 0=cp cs j:=by
    unfold gH
    simp only [List.getD_eq_getElem?_getD,List.getElem?_map,List.getElem?_range Ot];rfl
   rw [this]
  refine⟨_,bg.local (by done),by k_extra"u",?_,λ_=> ?_⟩
  ·have hb:x9 i j=((((0:Int)+(i:Int)).fdiv (2 ^ ((0:Int)+(j:Int)).toNat)).fmod 2==1):=by rw [(by lia:((0:Int)+(i:Int))=(i:Int)),e0];rfl
   simp only [hb]
   with_reducible refine Tr.cmp (Ev.bin (Ev.bin (by intros) (Ev.bin (by intros) (by intros) (aj.pow (by simp) (by lia) (by decide))) (aj.floordiv (by rw [e0];exact p2) (Hy (by rw [e0];exact Pf)))) (by intros) (aj.mod (by decide))) (by intros) aj.DM Th.bool (by decide+kernel)
  ·with_reducible refine Ev.tuple (ab.cons (by intros) (ab.cons (Ev.item (n:=j) (Ev.l (xs:=(gH cs).map .int) (by intros)) (by intros) (by lia) hg (by lia) (λ_ _=>by fail)) ab.nil)) (Ho (by fail))
 case nx=>
 intro s1 X1 B1
 with_reducible have h9:=next _ (X1.to (by k_extra"rs")) B1
 conv at h9 in gj _=>whnf
 with_reducible exact h9
theorem zh (L:Lx C f3)(T:Tc C){cs:List Int}{a:Addr}{i:Nat}(rm:ak A (k+2))(X:St C W SL own (aC (("keys",.lst ((cn cs i).map qG))::("chosen",.int ((0:Int)+(i:Int)))::wU cs a)) env s)(B:Bs C Wt (λ_=>true) t own env s)
 (next:∀J,St C W SL own (aC (("judge",iY (.lst ((cn cs i).map qG)))::("keys",.lst ((cn cs i).map qG))::("chosen",.int ((0:Int)+(i:Int)))::wU cs a)) env J->Bs C Wt (λ_=>true) t own env J->wpAny C.M A (execs (gj 2) env) Q E J):
 wpAny C.M A (execs (gj 1) env) Q E s:=by
 have L':=L.L
 conv in gj _=>whnf
 with_reducible
  refine a9 (p:=iY (.lst ((cn cs i).map qG))) X B rm (Ev.BY L'.ok T ?f ?a (λenv=>by fail)) (by done) (by fail) (by fail) ?nx
 case f=>intros
 case a=>intros
 case nx=>
 intro s1 X1 B1
 with_reducible have h9:=next _ (X1.to (by k_extra"rs")) B1
 conv at h9 in gj _=>whnf
 with_reducible exact h9
noncomputable def dB:List (Nat×Nat):=[(0,1),(0,2),(0,3),(1,2),(1,3),(2,3),(1,0),(2,2)]
noncomputable abbrev jg (e:Nat×Nat):PV:= .tup [.str (cb e.1),.str (cb e.2)]
theorem DB:d9.map fG ++ [.tup [.str "b",.str "a"],.tup [.str "c",.str "c"]]=dB.map jg:=by fail
theorem oM:∀e∈dB,e.1 < 4/\e.2 < 4:=by decide
noncomputable def cU (o p:List Int) (ks:List (Nat×Int)):List Int:=(ks.filter λe=>o.getD e.1 0 !=p.getD e.1 0).map λe=>if p.getD e.1 0 < o.getD e.1 0 then e.2 else -e.2
noncomputable def dg (cs:List Int) (c:Nat) (e:Nat×Nat):Int:=(cU (aF cs e.1) (aF cs e.2) (cn cs c)).headD 0
theorem hY (cs:List Int)(c:Int):∀e∈cn cs c,e.1 < 3:=λe he=>by
 unfold cn at he
 refine ae (He.mp he) λj hj G'=> ?_;subst G'
 exact Hu.mp (HG.mp hj).1
theorem jN (cs:List Int)(c:Int):(cn cs c).length<=3:=by
 unfold cn
 rw [Hd]
 exact Ic _ _
theorem ui (cs:List Int)(i j:Nat):∀c,c < 3->((jG cs i).getD c default).zq ((jG cs j).getD c default)=true
 |0,_=>rfl
 |1,_=>rfl
 |2,_=>rfl
 |c+3,h=>absurd h (by simp)
theorem zG:∀a:Fin 6,∀b:Fin 6,decide ((wordAt a.1 0).cps.toList < (wordAt b.1 0).cps.toList)=decide (a.1 < b.1):=by decide+kernel
theorem wY {e:Int×Int}(h:e.1 < e.2){a b:Nat}(ha:a < 2)(hb:b < 2):decide (two e a < two e b)=decide (a < b):=by
 rw [Js]
 unfold two
 rcases a with _ |_ |a <;> rcases b with _ |_ |b <;> simp <;> lia
theorem vO (cs:List Int):(ef cs).1 < (ef cs).2:=
 (by decide+kernel:∀i,i < 4->(mC.getD i (0,0)).1 < (mC.getD i (0,0)).2) _ (iF _).1
theorem AD (cs:List Int):(gF cs).1 < (gF cs).2:=
 (by decide+kernel:∀i,i < 4->(pK.getD i (0,0)).1 < (pK.getD i (0,0)).2) _ (iF _).1
theorem sx (cs:List Int)(i j:Nat):∀c,c < 3->((jG cs i).getD c default).lt ((jG cs j).getD c default)=decide ((aF cs i).getD c 0 < (aF cs j).getD c 0)
 |0,_=>by
  show decide ((wordAt _ 0).cps.toList < (wordAt _ 0).cps.toList)=decide (((numAt (cs.getD 0 0) i:Nat):Int) < (numAt (cs.getD 0 0) j:Nat))
  rw [(zG ⟨numAt (cs.getD 0 0) i,(jq _ _).1⟩ ⟨numAt (cs.getD 0 0) j,(jq _ _).1⟩),Js]
  exact Int.ofNat_lt.symm
 |1,_=>by
  show decide (two (ef cs) _ < two (ef cs) _)=decide (((bitAt (cs.getD 1 0) i:Nat):Int) < (bitAt (cs.getD 1 0) j:Nat))
  rw [wY (vO cs) (fK _ _).1 (fK _ _).1,Js]
  exact Int.ofNat_lt.symm
 |2,_=>by
  show decide (two (gF cs) _ < two (gF cs) _)=decide (((bitAt (cs.getD 2 0) i:Nat):Int) < (bitAt (cs.getD 2 0) j:Nat))
  rw [wY (AD cs) (fK _ _).1 (fK _ _).1,Js]
  exact Int.ofNat_lt.symm
 |c+3,h=>absurd h (by simp)
theorem ri (cs:List Int)(i j:Nat):∀ks:List (Nat×Int),(∀e∈ks,e.1 < 3)->kO (jG cs i) (jG cs j) ks=(cU (aF cs i) (aF cs j) ks).headD 0:=by
 intro q0
 induction q0 with
 |nil=>
  intro _
  exact rfl
 |cons q1 ks ih=>
  obtain⟨c,d⟩:=q1
  intro h
  have hc:c < 3:=h (c,d) G9
  simp only [zP,AF,sx cs i j c hc,sx cs j i c hc,(ih λe he=>h e (Ha _ he))]
  unfold cU
  rw [IF]
  show _=(List.map _ (if((aF cs i).getD c 0 !=(aF cs j).getD c 0)=true then(c,d)::_ else _)).headD 0
  by_cases q1:(aF cs i).getD c 0 < (aF cs j).getD c 0
  ·have e1:((aF cs i).getD c 0 !=(aF cs j).getD c 0)=true:=Jg.mpr (by exact K6 q1)
   rw [if_pos e1,HD q1,if_pos rfl,Hm,Ke]
   exact(if_neg (by show ¬(aF cs j).getD c 0 < (aF cs i).getD c 0;exact Int.lt_asymm q1)).symm
  ·rw [HJ q1,if_neg HS]
   by_cases q2:(aF cs j).getD c 0 < (aF cs i).getD c 0
   ·have e1:((aF cs i).getD c 0 !=(aF cs j).getD c 0)=true:=Jg.mpr (by exact HE (K6 q2))
    rw [if_pos e1,HD q2,if_pos rfl,Hm,Ke]
    exact(if_pos q2).symm
   ·have e1:((aF cs i).getD c 0 !=(aF cs j).getD c 0)=false:=bne_eq_false_iff_eq.mpr (by lia)
    rw [HJ q2,if_neg HS,if_neg (by rw [e1];exact HS)]
theorem ju (cs:List Int)(i:Nat){c:Nat}(h:c < 3):((aF cs i).map PV.int)[c]? =some (.int ((aF cs i).getD c 0)):=int_at h
theorem sj (cs:List Int){i:Nat}(h:i < 4):(pV cs).lookup (cb i)=some (fg (jG cs i)):=tE (λi=>fg (jG cs i)) i h
theorem lV (cs:List Int){i:Nat}(h:i < 4):(mP cs).lookup (cb i)=some (.lst ((aF cs i).map .int)):=tE (λi=>PV.lst ((aF cs i).map .int)) i h
noncomputable def cu (cs:List Int) (c:Nat):List Int:=dB.map (dg cs c)
noncomputable abbrev D9 (cs:List Int) (a:Addr) (i:Nat):List (Str×PV):=("judge",iY (.lst ((cn cs i).map gY)))::("keys",.lst ((cn cs i).map gY))::("chosen",.int ((0:Int)+(i:Int)))::wU cs a
theorem yd {ρ:bK}{e:Expr}(h:Ev C k sc own ρ e (.lst (d9.map fG ++ [.tup [.str "b",.str "a"],.tup [.str "c",.str "c"]]))):aX C k sc own ρ e (dB.map jg):=aX.lst (Ev.conv h (Hx PV.lst DB)) (by decide)
theorem Ah (L:Lx C f3)(T:Tc C){cs:List Int}{a:Addr}{i:Nat}(rm:ak A (k+1))(X:St C W SL own (aC (D9 cs a i)) env s)(B:Bs C Wt (λ_=>true) t own env s)
 (next:∀J,St C W SL own (aC (("told",.lst ((cu cs i).map .int))::D9 cs a i)) env J->Bs C Wt (λ_=>true) t own env J->wpAny C.M A (execs (gj 3) env) Q E J):
 wpAny C.M A (execs (gj 2) env) Q E s:=by
 have Rv:dB.map (λe=>PV.int (dg cs i e))=(cu cs i).map .int:=rfl
 have NZ:∀e:Nat×Nat,aN C (k+1) [] (.ref 35) [iY (.lst ((cn cs i).map gY)),fg (jG cs e.1),fg (jG cs e.2)] [] (.int (dg cs i e)):=λe=>by
  have h:=zA (k:=k) (own:=[]) L.L.ok T (L:=jG cs e.1) (R:=jG cs e.2) (λe' he=>⟨hY cs i e' he,hY cs i e' he,ui cs e.1 e.2 e'.1 (hY cs i e' he)⟩) (by show 3<=1000;decide) (by show 3<=1000;decide) (Hg (jN cs i) (by decide))
  simp only [ri cs e.1 e.2 _ (hY cs i)] at h
  exact h
 conv in gj _=>whnf
 with_reducible
  refine a9 (p:= .lst ((cu cs i).map .int)) X B rm (Ev.conv (fT.ev (c4 (need:=false) (l:=dB) (g:=jg) (by with_unfolding_all exact⟨rfl,by done,by done⟩) (λx env=>by fail) (λe=>PV.int (dg cs i e)) (yd (Ev.bin (p:= .lst (d9.map fG)) (q:= .lst [.tup [.str "b",.str "a"],.tup [.str "c",.str "c"]]) ?p1 ?p2 (aj.u6 ?p3))) (by decide) ?step)) (Hx PV.lst Rv)) (by done) (by fail) (cy X (by done)) ?nx
 case p3=>decide
 case step=>
  intro e he
  refine⟨_,bg.tuple (bD.cons (bg.local (by done)) (bD.cons (bg.local (by done)) bD.nil (λenv=>by fail)) (λenv=>by fail)) (λenv=>by with_unfolding_all exact⟨rfl,rfl⟩),by k_extra"u",?_⟩
  with_reducible
   refine Ev.Ej T.k ?j (ab.cons (Ev.bh (x:=cb e.1) (es:=pV cs) (Ev.d ?d1) ?d2 (sj cs (oM e he).1) (λ_ _=>by fail)) (ab.cons (Ev.bh (x:=cb e.2) (es:=pV cs) (Ev.d ?d3) ?d4 (sj cs (oM e he).2) (λ_ _=>by fail)) ab.nil)) T.cmp.fo (NZ e) (λenv=>by fail) (λenv=>by fail) (by fail) (λenv=>⟨_,_,by fail⟩)
  all_goals with_reducible intros
 case nx=>
  intro s1 X1 B1
  with_reducible have h9:=next _ (X1.to (by k_extra"rs")) B1
  conv at h9 in gj _=>whnf
  with_reducible exact h9
 all_goals with_reducible intros
noncomputable def Bm (o p:List Int) (e:Nat×Int):PV:= .int (if p.getD e.1 0 < o.getD e.1 0 then e.2 else -e.2)
theorem yM (L:Lx C f3){cs:List Int}{a:Addr}{i:Nat}(rm:ak A (k+1))(X:St C W SL own (aC (("told",.lst ((cu cs i).map .int))::D9 cs a i)) env s)(B:Bs C Wt (λ_=>true) t own env s)
 (next:∀J,St C W SL own (aC (("due",.lst ((cu cs i).map .int))::("told",.lst ((cu cs i).map .int))::D9 cs a i)) env J->Bs C Wt (λ_=>true) t own env J->wpAny C.M A (execs (gj 4) env) Q E J):
 wpAny C.M A (execs (gj 3) env) Q E s:=by
 have LK:sizeLine=16777216:=rfl
 have Rv:dB.map (λe=>PV.int (dg cs i e))=(cu cs i).map .int:=rfl
 have Ni:(cn cs i).length<=sizeLine:=Hg (jN cs i) (by decide)
 have Ul:∀o p:List Int,((cn cs i).filter λe=>o.getD e.1 0 !=p.getD e.1 0).map (Bm o p)=(cU o p (cn cs i)).map .int:=λo p=>by unfold cU;simp only [Hq];rfl
 have hle:∀o p:List Int,((cU o p (cn cs i)).map PV.int).length+1<=sizeLine:=λo p=>by
  have:=jN cs i
  have h2:(cU o p (cn cs i)).length<=(cn cs i).length:=by
   unfold cU
   rw [Hd]
   exact Ic _ _
  rw [Hd]
  lia
 have MJ:∀e:Nat×Nat,((cU (aF cs e.1) (aF cs e.2) (cn cs i)).map PV.int ++ [.int 0])[0]? =some (.int (dg cs i e)):=λe=>by
  unfold dg
  cases cU (aF cs e.1) (aF cs e.2) (cn cs i) <;> rfl
 conv in gj _=>whnf
 with_reducible
  refine fT.assign (p:= .lst (dB.map λe=>PV.int (dg cs i e))) (c4 (need:=false) (l:=dB) (g:=jg) (by with_unfolding_all exact⟨rfl,by done,by done⟩) (λx env=>by fail) (λe=>PV.int (dg cs i e)) (yd (Ev.bin (p:= .lst (d9.map fG)) (q:= .lst [.tup [.str "b",.str "a"],.tup [.str "c",.str "c"]]) ?p1 ?p2 (aj.u6 ?p3))) (by decide) ?step) X B rm (bg.local (by done)) (tH X (by done) (by done) (by fail) (by done)) ?nx
 case p3=>decide
 case step=>
  intro e he
  have o1:=lV cs (oM e he).1
  have o2:=lV cs (oM e he).2
  refine⟨_,bg.tuple (bD.cons (bg.cell (by done) (by fail)) (bD.cons (bg.cell (by done) (by fail)) bD.nil (λenv=>by fail)) (λenv=>by fail)) (λenv=>by with_unfolding_all exact⟨rfl,rfl⟩),by k_extra"u",?_⟩
  with_reducible
   refine Ev.item (n:=0) (Ev.l (Ev.bin (p:= .lst ((cU (aF cs e.1) (aF cs e.2) (cn cs i)).map PV.int)) (q:= .lst [.int 0]) (Ev.conv (fT.ev (bI (need:=false) (l:=cn cs i) (g:=gY) (by with_unfolding_all exact⟨rfl,by done,by done⟩) (λx env=>by fail) (Bm (aF cs e.1) (aF cs e.2)) (λe'=>(aF cs e.1).getD e'.1 0 !=(aF cs e.2).getD e'.1 0) (aX.lst ?kk (by rw [Hd];exact Ni)) Ni ?st2)) (Hx PV.lst (Ul _ _))) ?g3 (aj.u6 (hle _ _)))) Ev.int (by fail) (MJ e) (by decide) (λ_ _=>by fail)
  case st2=>
   rintro⟨c,d⟩ Nf
   have hc:c < 3:=hY cs i _ Nf
   have g1:=ju cs e.1 hc
   have g2:=ju cs e.2 hc
   refine⟨_,bg.tuple (bD.cons (bg.local (by done)) (bD.cons (bg.local (by done)) bD.nil (λenv=>by fail)) (λenv=>by fail)) (λenv=>by with_unfolding_all exact⟨rfl,rfl⟩),by k_extra"u",?_,λ_=> ?_⟩
   ·with_reducible
     refine Tr.cmp (Ev.item (n:=c) (Ev.l (xs:=(aF cs e.1).map .int) (Ev.bh (x:=cb e.1) (es:=mP cs) (Ev.d ?a1) ?a2 o1 (λ_ _=>by fail))) ?a3 (by fail) g1 (by lia) (λ_ _=>by fail)) (Ev.item (n:=c) (Ev.l (xs:=(aF cs e.2).map .int) (Ev.bh (x:=cb e.2) (es:=mP cs) (Ev.d ?b1) ?b2 o2 (λ_ _=>by fail))) ?b3 (by fail) g2 (by lia) (λ_ _=>by fail)) aj.A5 Th.bool (by decide+kernel)
    all_goals with_reducible intros
   ·have e1:Bm (aF cs e.1) (aF cs e.2) (c,d)= .int (if decide ((aF cs e.2).getD c 0 < (aF cs e.1).getD c 0)=true then d else -d):=Hx PV.int (by simp only [H5])
    rw [e1]
    with_reducible
     refine Ev.lp (Tr.cmp (Ev.item (n:=c) (Ev.l (xs:=(aF cs e.1).map .int) (Ev.bh (x:=cb e.1) (es:=mP cs) (Ev.d ?xa1) ?xa2 o1 (λ_ _=>by fail))) ?xa3 (by fail) g1 (by lia) (λ_ _=>by fail)) (Ev.item (n:=c) (Ev.l (xs:=(aF cs e.2).map .int) (Ev.bh (x:=cb e.2) (es:=mP cs) (Ev.d ?xb1) ?xb2 o2 (λ_ _=>by fail))) ?xb3 (by fail) g2 (by lia) (λ_ _=>by fail)) aj.Fg Th.bool (by decide+kernel)) ?v
    case v=>
     split
     ·with_reducible intros
     ·with_reducible intros
    all_goals with_reducible intros
  all_goals with_reducible intros
 case nx=>
  intro s1 X1 B1
  rw [Rv] at X1
  with_reducible have h9:=next _ (X1.to (by k_extra"rs")) B1
  conv at h9 in gj _=>whnf
  with_reducible exact h9
 all_goals with_reducible intros
theorem Ar (L:Lx C f3){cs:List Int}{a I:Addr}{ob:Obj}{i:Nat}{xs:List PV}(Nw:a≠I)(hz:xs.length<=100)(rm:ak A (k+1))(X:St C W SL [(I,.obj ob),(a,.lst xs)] (aC (("due",.lst ((cu cs i).map .int))::("told",.lst ((cu cs i).map .int))::D9 cs a i)) env s)(B:Bs C Wt (λ_=>true) t [(I,.obj ob),(a,.lst xs)] env s)
 (next:∀J,St C W SL [(I,.obj ob),(a,.lst (xs ++ [.lst ((cu cs i).map .int)]))] (aC (wU cs a)) env J->Bs C Wt (λ_=>true) t [(I,.obj ob),(a,.lst (xs ++ [.lst ((cu cs i).map .int)]))] env J->wpAny C.M A (execs [] env) Q E J):
 wpAny C.M A (execs (gj 4) env) Q E s:=by
 have L':=L.L
 have LK:sizeLine=16777216:=rfl
 have hlen:((cu cs i).map PV.int).length=8:=rfl
 have L8:kK (.lst ((cu cs i).map .int)):=dh (n:=1) (rfl) (by decide)
 have Nn:((cu cs i).filter λ_=>false).map PV.int=[]:=rfl
 have L6:∀p,aE [(I,PV.obj ob),(a,.lst xs)] a p=[(I,.obj ob),(a,p)]:=λp=>by
  unfold aE
  simp [HE Nw]
 conv in gj _=>whnf
 with_reducible
  refine bG X B rm (Tr.conv (p:=false || (false || false)) (Tr.or (Tr.cmp (by intros) (by intros) (aj.fB L8) Th.bool (by decide+kernel)) (λ_=>Tr.or (Tr.cmp (Ev.conv (p:= .lst (((cu cs i).filter λ_=>false).map .int)) (fT.ev (bI (need:=false) (l:=cu cs i) (g:=PV.int) (by with_unfolding_all exact⟨rfl,by done,by done⟩) (λx env=>by fail) PV.int (λ_=>false) (aX.lst (by intros) (by rw [hlen];decide)) (by rw [<-Hd (f:=PV.int),hlen];decide) ?step)) (Hx PV.lst Nn)) (Ev.list ab.nil (by decide)) (aj.fB iu) Th.bool (by decide+kernel)) (λ_=>Tr.pH))) (rfl)) ?nx
 case step=>
  intro n hn
  refine⟨_,bg.local (by done),by k_extra"u",?_,λe=>by cases e⟩
  with_reducible
   refine Tr.plain (Ev.a6 ?f (ab.cons ?f1 (ab.cons ?f2 ab.nil)) (cC.qV (i:=n))) Th.bool (λ_ _=>by fail)
  all_goals with_reducible intros
 case nx=>
 intro s1 X1 B1
 with_reducible
  refine bY X1 B1 rm (fx.append (xs:=xs) (p:= .lst ((cu cs i).map .int)) (by intros) (by simp) (by intros) (by lia) (λ_=>by fail) (λ_=>by fail) (by fail) (λ_=>by fail) (λ_=>by fail)) (λ_=>by fail) ?_
 intro s2 X2 B2
 rw [L6] at X2 B2
 exact next _ (X2.to (by k_extra"rs")) B2
noncomputable def iJ (cs:List Int) (n:Nat):List PV:=(List.range n).map λc=> .lst ((cu cs c).map .int)
theorem St.sV (X:St C W sc (own₁ ++ own') ρ env s)(hd:∀y∈own',∀z∈own₁,y.1≠z.1)(n:Nat):St C (dP W own₁) sc own' (λx=>(ρ x).map (res (bH own₁ n))) env s:=by
 have ho:ez C W own₁ s:=λy hy=>X.owns y (HI _ hy)
 have hL:env.locals∈dP W own₁:=HG.mpr ⟨X.noLoc.1,Hw.mpr λy hy=>by
  have:=X.ownLoc y (HI _ hy)
  simpa using this⟩
 have X':St C (dP W own₁) sc own' ρ env s:=(X.less (own':=own') (λy hy=>HT _ hy)).drop ee (λy hy=>HG.mpr ⟨(X.owns y (HT _ hy)).1,Hw.mpr λz hz=>by simpa using (hd y hy z hz).symm⟩) hL
 refine⟨X'.inv,X'.ok,X'.low,X'.owns,?_,λy hy=> ?_,X'.apart,X'.noLoc,X'.ownLoc,X'.new,X'.celW⟩
 ·refine ae X.loc λm hm h=> ?_
  refine⟨m,hm,λx q hk hq=> ?_⟩
  cases hp:ρ x with
  |none=>replace hq:=hp▸hq;cases hq
  |some p=>
   refine ae (h x p hk hp) λv e1 e2=> ?_
   replace hq:=hp▸hq
   cases hq
   exact⟨v,e1,lO ho n e2⟩
 ·refine bp (X.cel y hy) λc cv e1 e2 h=> ?_
  refine⟨c,cv,e1,e2,λq hq=> ?_⟩
  cases hp:ρ y with
  |none=>replace hq:=hp▸hq;cases hq
  |some p=>
   refine ae (h p hp) λv e3 e4=> ?_
   replace hq:=hp▸hq
   cases hq
   exact⟨v,e3,lO ho n e4⟩
theorem Plain.lst {l:List PV}(h:∀p∈l,Plain p):Plain (.lst l):=λf=>by
 simp only [xW,e9 h]
theorem nS (cs:List Int)(n:Nat):∀p∈iJ cs n,Plain p:=λp hp=>by
 refine ae (He.mp hp) λc _ G'=> ?_;subst G'
 exact Plain.ints
theorem e8 {own:Own}{a:Addr}{es:List PV}{n:Nat}(h:own.lookup a=some (.lst es)):res (bH own (n+1)) (.raw (.ref a))= .lst (dM (bH own n) es):=by
 simp only [jR]
 rw [gq,h]
 rfl
theorem uS (cs:List Int)(n:Nat):iJ cs (n+1)=iJ cs n ++ [.lst ((cu cs n).map .int)]:=by
 unfold iJ
 simp only [IY,Hr]
 rfl
theorem vI (cs:List Int)(n:Nat):(iJ cs n).length=n:=by simp [iJ]
noncomputable abbrev yW (cs:List Int):List (Str×PV):=("answers",.lst (iJ cs 8))::("pairs",.lst (d9.map fG))::BN cs
theorem Ea (L:Lx C f3)(T:Tc C){cs:List Int}{a:Addr}(rm:ak A (k+2))
 (X:St C W SL [(a,.lst [])] (aC (wU cs a)) env s)(B:Bs C Wt (λ_=>true) t [(a,.lst [])] env s)
 (next:∀W a J,St C W SL [(a,.lst [])] (aC (("ahead",.raw (.ref a))::yW cs)) env J->Bs C Wt (λ_=>true) t [(a,.lst [])] env J->wpAny C.M A (execs (aK 14) env) Q E J):
 wpAny C.M A (execs (aK 12) env) Q E s:=by
 have L':=L.L
 conv in aK _=>whnf
 with_reducible
  refine a7 (need:=false) (k:=k+2) (ps:=aI 0 8) X B rm ?it (λi=>[(a,.lst (iJ cs i))]) (λ_=>aC (wU cs a)) (λi=>upd (aC (wU cs a)) "chosen" (.int ((0:Int)+(i:Int)))) (by fail) (by fail) (λ_=>by fail) (λ_=>False) ?LH ?turn (λ_ _ _ h=>h.elim) ?done (λx=>by fail)
 case it=>exact aX.cL (n:=8) (by intros) (by intros) (by decide) (by decide) (λenv=>by fail)
 case LH=>
  intro i p hp
  refine(er hp)▸?_
  exact bg.cell (by done) rfl
 case turn=>
  intro I ob i p t' LY s1 hI hp X1 B1
  have hi:=ek hp
  have Nw:a≠I:=hI (a,_) G9
  have fin:=Aq (k:=k+1) (Q:=λf H'=>match f with
   | .next | .cont=>St C (I::W) SL ((I,.obj ob)::[(a,.lst (iJ cs (i+1)))]) (aC (wU cs a)) env H'/\Bs C LY (λ_=>true) t' ((I,.obj ob)::[(a,.lst (iJ cs (i+1)))]) env H'
   | .brk=>False
   | .ret v=>∃p own' J',False/\Rr C (I::W) H'.heap v p/\St C (I::W) SL own' J' env H'/\Bs C LY (λ_=>true) t' own' env H') (E:=λ_ _=>False) L rm (X1.to (l:=("chosen",.int ((0:Int)+(i:Int)))::wU cs a) (by k_extra"rs")) B1 λs2 X3 B2=>
   zh L T rm X3 B2 λs3 X4 B3=>Ah L T (k:=k+1) rm X4 B3 λs4 X5 B4=>yM L (k:=k+1) rm X5 B4 λs5 X6 B5=>by
    refine Ar L (k:=k+1) Nw (by rw [vI];lia) rm X6 B5 λs6 X7 B6=> ?_
    rw [<-uS] at X7 B6
    exact Hk ⟨X7.to (by k_extra"rs"),B6⟩
  conv at fin in gj _=>whnf
  exact fin
 case done=>
  intro s1 X1 B1
  have X2:=(X1.settle 1).to (l:=yW cs) (aD (aW (p:= .raw (.ref a)) (by k_extra"r") (by rw [e8 (es:=iJ cs 8) (by simp [Hl,aI]),e9 (nS cs 8)])) (aD (aB (by k_extra"r") (λ_=>rfl)) (aD (aB (by k_extra"r") (λ_=>rfl)) (aD (aB (by k_extra"r") (λ_=>rfl)) (aD (aB (by k_extra"r") (λ_=>rfl)) (aD (aB (by k_extra"r") (λ_=>rfl)) (aD (aB (by k_extra"r") Plain.ints) (aD (aB (by k_extra"r") (λ_=>rfl)) (aD (aB (by k_extra"r") Plain.ints) (aD (aB (by k_extra"r") Plain.ints) jO))))))))))
  with_reducible refine dZ (p:= .lst []) X2 (B1.less (own':=[]) (by simp)) rm (kH.list (by intros) (by intros)) (by done) (by fail) (by fail) ?_
  intro a' s2 MN X3 B3
  with_reducible have h9:=next _ a' _ (X3.to (by k_extra"rs")) B3
  conv at h9 in aK _=>whnf
  with_reducible exact h9
set_option maxRecDepth 100000
variable {elt:Expr}
theorem rz {x:Str}{px:Pos}{e:Expr}{p:PV}(X:St C W sc own ρ env s)(B:Bs C Wt mine t own env s)(rm:ak A k)(he:fx C k sc mine own own' ρ e p)
 (hl:sc.scope.names.lookup x=some .cell)(hm:mine x=true)(hs:swapsWith e (some (.Name x px)) pos.line env=pure false)
 (next:∀J,St C W sc own' (upd ρ x p) env J->Bs C Wt mine t own' env J->wpAny C.M A (execs rest env) Q E J):wpAny C.M A (execs (.Assign [.Name x px] e pos::rest) env) Q E s:=by
 refine HP (Jk (Hb (he W A env s t Wt rm X B) ?_ λ_ _ q=>q.elim) hs)
 intro v s1 zz;refine cZ zz λX1 B1 r=> ?_
 exact gc X1 B1 hl hm r λJ X' B' _=>next J X' B'
theorem r7 {target:Expr}{ps qs:List PV}(hlen:qs.length=ps.length)(hz:qs.length<=sizeLine){Ow:Nat->Own}(NL:∀i,(Ow i).map (·.1)=(Ow 0).map (·.1))
 (step:∀i p q,ps[i]? =some p->qs[i]? =some q->∃j',bg C sc mine ρ target p j'/\(∀y r,ρ y=some r->j' y=some r)/\∀pre:Own,(∀y∈pre,∀z∈Ow i,y.1≠z.1)->fx C k sc mine (pre ++ Ow i) (pre ++ Ow (i+1)) j' elt q):
 ∀i p,ps[i]? =some p->∃j' b,bg C sc mine ρ target p j'/\vc C k sc [] j' [] b/\
 (if b=true then rZ False C k sc mine (Ow i) (Ow (i+1)) j' (lh (.lst (qs.take i))) ρ (lh (.lst (qs.take (i+1)))) (jn elt) else Ow (i+1)=Ow i/\((∀y q,ρ y=some q->j' y=some q)/\∀p s,lh (.lst (qs.take i)) p s->lh (.lst (qs.take (i+1))) p s)):=λi p hp=>by
 have hi:i < qs.length:=hlen▸(List.getElem?_eq_some_iff.mp hp).1
 have hq:=List.getElem?_eq_getElem hi
 refine iI (step i p _ hp hq) λj' a b c=>⟨j',true,a,vc.nil,rZ.emit ((NL _).trans (NL _).symm) (λ_ _ _ _ _ h _ _=>h) b λacc s h=>⟨_,_,h,c,Hg (List.length_take_le _ _) (Hg (H3 hi) hz),λs _=> ?_⟩⟩
 rw [IS,hq];rfl
theorem ah.wQ {Lv:Shared}{T V:List Addr}(e:ah C [] s J)(e':ah C T J Lv)(h:∀a∈T,s.heap.objs.size<=a\/a∈V):ah C V s Lv where
 keep a o h1 h2 g:=e'.keep a o h1 (λq=>(h a q).elim (λq=>absurd (Hp g) (Hs.mpr q)) h2) (e.keep a o h1 (by simp) g)
 size:=Hg e.size e'.size
 tabs:=((e.up (W:=T)).trans e').tabs
 os:=e'.os.trans e.os
 gens h:=e'.gens (e.gens h)
theorem fx.comp {need:Bool}{target iter:Expr}(heq:∀it D env,compTurn (.ListComp elt [⟨target,iter,[],0⟩] scope pos) 0 it (.ref D) env=gJ (.ListComp elt [⟨target,iter,[],0⟩] scope pos) 0 target iter [] (jn elt) it D env)
 (ok:eQ scope sc)(hs:∀x env,foldedSetIterable iter env x=pure x){ps qs:List PV}(hlen:qs.length=ps.length)(hz:qs.length<=sizeLine){Ow:Nat->Own}(NL:∀i,(Ow i).map (·.1)=(Ow 0).map (·.1))
 (hi:eu need C k sc (Ow 0) ρ iter ps)(htg:need=true->cE target=true)
 (step:∀i p q,ps[i]? =some p->qs[i]? =some q->∃j',bg C (ed scope sc) (bE scope) (bA scope ρ) target p j'/\(∀y r,bA scope ρ y=some r->j' y=some r)/\∀pre:Own,(∀y∈pre,∀z∈Ow i,y.1≠z.1)->fx C k (ed scope sc) (bE scope) (pre ++ Ow i) (pre ++ Ow (i+1)) j' elt q):
 fx C k sc mine (Ow 0) (Ow ps.length) ρ (.ListComp elt [⟨target,iter,[],0⟩] scope pos) (.lst qs):=λW A env s t Wt rm X B=>by
 have NO:closureFor scope env=pure (aT env.cells scope.names []):=eg λx hx hf=>by
  refine aL (X.cel x.1 (ok.free x hx hf)) λc cv h1 _=> ?_
  rw [h1];rfl
 refine wpAny_comprehension_free (e:= .ListComp elt [⟨target,iter,[],0⟩] scope pos) rfl (λx=>hs x env) NO ok.kind (λx hx hl=>by
  have:=b8 (c:=x.2) ok.nd (show (x.1,x.2)∈_ from hx)
  simp only [this,hl]) (Hb (hi W A env s rm X) (λv f' h=>h.2 A _ _ λit y' e2 ⟨I,LB,S⟩=>Ie (qj ?_)) λ_ _ q=>q.elim)
 refine cps λG g=> ?_
 have e1:=h.1
 have lo:=S.lo
 have Om:f'.heap.objs.size<=y'.heap.objs.size:=e2.size
 have M6:s.heap.objs.size<=y'.heap.objs.size:=Hg e1.size Om
 have MT:s.heap.objs.size<=I:=Hg e1.size lo
 refine ae (S.obj 0 _ S.st) λLq LW Lm=> ?_
 have Mb:∀{z},z∈Ow 0->z.1 < s.heap.objs.size:=λhz=>X.low _ (X.owns _ hz).1
 have X2:St C (I::W) sc ((I,.obj Lq)::Ow 0) ρ env y':=((X.aA e1).grow e2 lo S.hi).iW G9 ⟨LW,Lm.bq⟩ S.nt (λq=>absurd (X.low _ X.noLoc.1) (Hs.mpr (q▸MT)))
 have ep:ah C [] y' {y' with heap:=y'.heap.push (ao [] 0)}:=ah.push _ y'.toks
 have X4:=((X2.grow ep (Hh _) cg).iW (p:= .lst []) G9 ⟨[],0,Heap.get?_push_size _ rfl,rfl⟩ X2.inv.fresh (λq=>absurd (X2.low _ X2.noLoc.1) (Hs.mpr (q▸Hh _)))).comp ok
 have O9:=ep.trans (gu (C:=C) (scope:=scope))
 have O0:=(e1.trans e2).trans O9
 have Qr:(y'.heap.push (ao [] 0)).objs.size=y'.heap.objs.size+1:=HU _ _
 dsimp only at X4 O9 O0
 rw [Qr] at X4
 have Ms:∀{x c},(bE scope x && decide ((iU scope env (y'.heap.objs.size+1)).kindOf x=some .cell))=true->(iU scope env (y'.heap.objs.size+1)).cells.lookup x=some c->s.heap.objs.size<=c:=λ{x c} hm hl=>by
  obtain⟨c',N1⟩:=aY (n:=y'.heap.objs.size+1+1) (acc:=[]) (mem_of_lookup (H9 (I6.mp hm).1))
  obtain⟨VQ,NR⟩:=aH N1
  have M8:(cellsFrom (y'.heap.objs.size+1+1) scope.names (aT env.cells scope.names [])).lookup x=some c:=hl
  rw [bF,H6,NR] at M8
  cases M8
  exact Hg M6 (HM (HM (bV (HX NR))))
 have may:∀{a},s.heap.objs.size<=a->vA C ((Ow 0).map (·.1)) s a:=λh=>⟨X.inv.beyond h,.inl h⟩
 have B4:Bs C ((Ow 0).map (·.1)) (bE scope) s ((y'.heap.objs.size,.lst [])::(I,.obj Lq)::Ow 0) (iU scope env (y'.heap.objs.size+1)) {y' with heap:=el scope (y'.heap.push (ao [] 0))}:=
  ⟨O0.up,may (Hz M6),λx c hm hk hl=>may (Ms (by rw [hm,hk];rfl) hl),memC (may M6) (memC (may MT) λy hy=>⟨(B.owns y hy).1,.inr (He.mpr ⟨y,hy,rfl⟩)⟩)⟩
 have S4:=S.rebase (W':=(y'.heap.objs.size+1)::y'.heap.objs.size::I::W) O9 (λa ha=>by simp [ha])
  (memC (.inr (Hz Om)) (memC (.inr Om) (memC (.inr lo) λ_=> .inl)))
 refine g ?_
 refine Qr▸?_
 have loop:codeAny C.M A (.compLoop (.ListComp elt [⟨target,iter,[],0⟩] scope pos) 0 (.ref I) (.ref y'.heap.objs.size) (iU scope env (y'.heap.objs.size+1))) (compPost C.M A (λ_ _=>False) none (λv J=>St C W sc (Ow ps.length) ρ env J/\Bs C Wt mine t (Ow ps.length) env J/\Rr C W J.heap v (.lst qs)) (.ref y'.heap.objs.size) (y'.heap.objs.size+1)) {y' with heap:=el scope (y'.heap.push (ao [] 0))}:=by
  refine mB (Ac:=λi=>lh (.lst (qs.take i))) (.inl ⟨_,_,_,_,rfl⟩) (heq _ _ _) NL (λ_ _ _ _ _ _ h _ _=>h) (r7 hlen hz NL step) rm (λ_ h=>h.elim) S4 htg Lm kE.lst rfl X4 B4 (IW S.hi) (λy hy=>H2 (Hn (Mb hy) M6)) (λy hy=>H2 (Hn (Mb hy) MT)) λJ acc' _ ha X5 _ e5=> ?_
  replace ha:acc'= .lst qs:=ha.trans (by rw [<-hlen,Il])
  subst ha
  refine ae X5.loc λm hm _=> ?_
  refine lQ X5.oR λo es n gL dL=> ?_
  refine⟨m,hm,λh' hs=> ?_⟩
  have eL:ah C [y'.heap.objs.size+1] J {J with heap:=h'}:=ah.turn (tk:=J.toks) X5.inv hs gL (by refine dL▸?_;intro vs q;cases q) (by simp)
  have Qf:ah C ((Ow 0).map (·.1)) s {J with heap:=h'}:=O0.wQ (e5.trans (eL.mono (memC G9 λ_ h=>nomatch h))) (fP (.inl (Hz M6)) (λx c hm hk hl=> .inl (Ms (by rw [hm,hk];rfl) hl)) (memC (.inl M6) (memC (.inl MT) λy hy=> .inr (He.mpr ⟨y,hy,rfl⟩))))
  have QA:∀y∈Ow ps.length,y.1 < s.heap.objs.size:=λy hy=>by
   have:y.1∈(Ow ps.length).map (·.1):=He.mpr ⟨y,hy,rfl⟩
   rw [NL] at this
   refine ae (He.mp this) λz hz h=> ?_
   exact h▸Mb hz
  have PB:ez C W (Ow ps.length) {J with heap:=h'}:=λy hy=>by
   refine⟨?_,(X5.owns y (Ha _ hy)).2.1.mono (λb o n g=>⟨λq=>n (q.elim .inl λq=> .inr (by simp [q])),(hs.2 b (by rintro rfl;exact n (.inr G9))).trans g⟩) (λo g=>(hs.2 y.1 (H2 (Hn (QA y hy) (Hz M6)))).trans g),(X5.owns y (Ha _ hy)).2.2⟩
   have:y.1∈(Ow ps.length).map (·.1):=He.mpr ⟨y,hy,rfl⟩
   rw [NL] at this
   refine ae (He.mp this) λz hz h=> ?_
   exact h▸(X.owns z hz).1
  exact⟨X.turned Qf PB (NL _),B.turned Qf (NL _),Rr.ig ((X5.owns _ G9).2.1.rr kE.lst (memC G9 λb hb=>Ha _ (Ha _ (Ha _ hb))) λq=>q.elim (X5.owns _ G9).2.2 λq=>(Hf.mp q).elim (H2 (Io _)) λq=>absurd (X.low _ q) (Hs.mpr M6)) hs⟩
 rw [S.it]
 refine fy (.inl ⟨_,_,_,_,rfl⟩) rfl rfl loop ?_
 exact S4.self rm.handled S4.st loop
set_option maxRecDepth 4000
theorem kH.dict {keys:List (Option Expr)}{ks values:List Expr}{es Mk:List (Str×PV)}(hk:keys=ks.map some)(Qj:ks.length=values.length)
 (Md:∀env,(evalEachOpt keys env).zip ((evalEach values env).map λv=>do let x <-v;standAt pos;pure x)=((ks.zip values).map λx=>((eval x.1 env,do let y <-eval x.2 env;standAt pos;pure y):Sem Value×Sem Value)).map λp=>(some p.1,p.2))
 (hp:ck C k sc own ρ ks values pos es)(hb:(!es.isEmpty && Nat.ble es.length 15 && (ks.length==es.length))=true)(he:es.foldl (λd e=>putD d e.1 e.2) []=Mk):
 kH C k sc own ρ (.Dict keys values pos) (.au Mk):=λW A env s rm X=>by
 simp only [HO,I3,Ip] at hb
 obtain⟨⟨h1,h2⟩,hlen⟩:=hb
 subst he
 have h0:es≠[]:=by intro q;subst q;cases h1
 have LU:((ks.zip values).map λx=>((eval x.1 env,do let y <-eval x.2 env;standAt pos;pure y):Sem Value×Sem Value)).length=es.length:=by
  simp only [Hd,List.length_zip,<-Qj,Nat.min_self,hlen]
 refine wpAny_Dict_pairs (knd:=strKind C.prog C.w) (Md env) (by intro q;rw [q] at LU;exact h0 (Ir.mp LU.symm)) (by refine LU▸?_;exact(Ho h2)) ?_
 have e0:ah C [] s {s with heap:=s.heap.push {cls:= .type "dict",data:= .dict #[]}}:=ah.push _ s.toks
 refine Hb (hp (s.heap.objs.size::W) A env _ rm (X.grow e0 (Hh _) cg)) ?_ λ_ _ q=>q.elim
 rintro us s1 ⟨e1,kvs,hc,r⟩
 have hg:s1.heap.get? s.heap.objs.size=some (bj [] 0):=e1.keep _ _ X.inv.fresh (by simp) (Heap.get?_push_size _ rfl)
 refine⟨kvs,hc,aU hg (⟨X.inv.gv,by intro e h;simp at h,.nil,by decide⟩),λh' hd hs=> ?_⟩
 have eT:ah C [s.heap.objs.size] s1 {s1 with heap:=h',toks:=s1.toks+us.length}:=ah.turn ((X.aA e0).aA e1).inv hs hg (λvs q=>nomatch q) (by simp)
 have e2:ah C [] s {s1 with heap:=h',toks:=s1.toks+us.length}:=(e0.trans e1).ig eT (Hh _)
 refine aL (fF hd X.inv.gv) λds n g2 sd=> ?_
 refine⟨e2,s.heap.objs.size,rfl,Hh _,Hp g2,ds,n,_,g2,sd,bz.merge (show bz _ _ _ [] [] from rfl) ?_⟩
 exact bz.mono (λb o n g=>⟨n,(hs.2 b (by rintro rfl;exact n (.inr G9))).trans g⟩) r
noncomputable def bM (cs:List Int) (j:Nat):Nat->List Int
 |0=>[0,0,0,0]
 |n+1=>if dg cs (2 ^ j) (dB.getD n default)=0 then bM cs j n else
  let z:=if dg cs (2 ^ j) (dB.getD n default) < 0 then(dB.getD n default).2 else(dB.getD n default).1
  (bM cs j n).set z ((bM cs j n).getD z 0+1)
theorem pJ (cs:List Int)(j:Nat):∀n,(bM cs j n).length=4:=by
 intro n
 induction n with
 |zero=>rfl
 |succ n ih=>
  unfold bM
  split
  ·exact ih
  ·rw [List.length_set,ih]
noncomputable def aS (f:List Int):List (Str×PV):=[("<",.int 9),(">",.int (-1)),(cb 0,.int (f.getD 0 0)),(cb 1,.int (f.getD 1 0)),(cb 2,.int (f.getD 2 0)),(cb 3,.int (f.getD 3 0))]
theorem eZ (f:List Int):∀z,z < 4->(aS f).lookup (cb z)=some (.int (f.getD z 0))
 |0,_=>rfl
 |1,_=>rfl
 |2,_=>rfl
 |3,_=>rfl
 |z+4,h=>absurd h (by simp)
theorem uM {f:List Int}(h:f.length=4)(n:Int):∀z,z < 4->putD (aS f) (cb z) (.int n)=aS (f.set z n):=by
 obtain⟨a,b,c,d,rfl⟩:∃a b c d,f=[a,b,c,d]:=by
  match f,h with
  |[a,b,c,d],_=>exact⟨a,b,c,d,rfl⟩
 intro z hz
 match z,hz with
 |0,_=>rfl
 |1,_=>rfl
 |2,_=>rfl
 |3,_=>rfl
 |z+4,h=>exact absurd h (by simp)
noncomputable abbrev iS (n:Nat):List Stmt:=List.drop n (cG (ay tb 18) 14)
theorem Dd (cs:List Int){c:Nat}(h:c < 8):(iJ cs 8)[c]? =some (.lst ((cu cs c).map .int)):=by
 unfold iJ
 simp only [List.getElem?_map,List.getElem?_range h]
 rfl
theorem tq (cs:List Int)(c:Nat){n:Nat}(h:n < 6):((cu cs c).map PV.int)[n]? =some (.int (dg cs c (dB.getD n default))):=by
 unfold cu
 rw [Hq,List.getElem?_map]
 match n,h with
 |0,_=>rfl
 |1,_=>rfl
 |2,_=>rfl
 |3,_=>rfl
 |4,_=>rfl
 |5,_=>rfl
theorem tO {n:Nat}(h:n < 6):(d9.map fG)[n]? =some (jg (dB.getD n default))/\(dB.getD n default).1 < 4/\(dB.getD n default).2 < 4:=by
 match n,h with
 |0,_=>exact⟨rfl,by decide,by decide⟩
 |1,_=>exact⟨rfl,by decide,by decide⟩
 |2,_=>exact⟨rfl,by decide,by decide⟩
 |3,_=>exact⟨rfl,by decide,by decide⟩
 |4,_=>exact⟨rfl,by decide,by decide⟩
 |5,_=>exact⟨rfl,by decide,by decide⟩
noncomputable abbrev vD (cs:List Int) (a:Addr) (j:Nat):List (Str×PV):=("j",.int ((0:Int)+(j:Int)))::("ahead",.raw (.ref a))::yW cs
theorem z0 (L:Lx C f3){cs:List Int}{a I:Addr}{ob:Obj}{xs:List PV}{j:Nat}(hj:j < 3)(rm:ak A (k+1))(N0:I∈W)(MN:a∈W)(X:St C W SL [(I,.obj ob),(a,.lst xs)] (aC (vD cs a j)) env s)(B:Bs C Wt (λ_=>true) t [(I,.obj ob),(a,.lst xs)] env s)
 (next:∀f J,f∉W->f≠I->f≠a->St C (f::W) SL [(f,.au (aS (bM cs j 6))),(I,.obj ob),(a,.lst xs)] (aC (("front",.raw (.ref f))::vD cs a j)) env J->Bs C Wt (λ_=>true) t [(f,.au (aS (bM cs j 6))),(I,.obj ob),(a,.lst xs)] env J->wpAny C.M A (execs (iS 2) env) Q E J):
 wpAny C.M A (execs (iS 0) env) Q E s:=by
 have L':=L.L
 have e0:((0:Int)+(j:Int)).toNat=j:=by simp
 obtain⟨p2,Q5⟩:=(by decide:∀j,j < 3->(2:Int) ^ j=((2 ^ j:Nat):Int)/\2 ^ j < 8) j hj
 have ga:=Dd cs Q5
 have Nn:∀f,(aS f).length=6:=λ_=>rfl
 conv in iS _=>whnf
 with_reducible
  refine dZ (p:= .au (aS (bM cs j 0))) X B rm (kH.dict (ks:=[_,_,_,_,_,_]) (es:=[("<",.int 9),(">",.int (-1)),("a",.int 0),("b",.int 0),("c",.int 0),("d",.int 0)]) (by fail) (by fail) (λenv=>by fail) ?ps (by fail) (by fail)) (by done) (by fail) (by fail) ?n1
 case ps=>intros
 case n1=>
 intro f s1 NH X1 B1
 have NX:f≠I:=λe=>NH (e▸N0)
 have MI:f≠a:=λe=>NH (e▸MN)
 have X2:=X1.to (l:=("front",.raw (.ref f))::vD cs a j) (by k_extra"rs")
 with_reducible
  refine a7 (need:=false) (k:=k+1) (ps:=aI 0 6) X2 B1 rm ?it (λi=>[(f,.au (aS (bM cs j i))),(I,.obj ob),(a,.lst xs)]) (λ_=>aC (("front",.raw (.ref f))::vD cs a j)) (λi=>upd (aC (("front",.raw (.ref f))::vD cs a j)) "k" (.int ((0:Int)+(i:Int)))) (by fail) (by fail) (λ_=>by fail) (λ_=>False) ?LH ?turn (λ_ _ _ h=>h.elim) ?done (λx=>by fail)
 case it=>exact aX.cL (n:=6) (by intros) (by intros) (by decide) (by decide) (λenv=>by fail)
 case LH=>
  intro i p hp
  refine(er hp)▸?_
  exact bg.cell (by done) rfl
 case turn=>
  intro I2 O6 i p t' LY s1 hI hp X1 B1
  have hi:=ek hp
  have gt:=tq cs (2 ^ j) hi
  refine cZ (tO hi) λgp z1 z2=> ?_
  have ME:bM cs j (i+1)=if dg cs (2 ^ j) (dB.getD i default)=0 then bM cs j i else
   (bM cs j i).set (if dg cs (2 ^ j) (dB.getD i default) < 0 then(dB.getD i default).2 else(dB.getD i default).1) ((bM cs j i).getD (if dg cs (2 ^ j) (dB.getD i default) < 0 then(dB.getD i default).2 else(dB.getD i default).1) 0+1):=rfl
  generalize dB.getD i default=e at gt gp z1 z2 ME
  generalize hv:dg cs (2 ^ j) e=v at gt ME
  generalize bM cs j (i+1)=F' at ME ⊢
  have hF:=pJ cs j i
  generalize bM cs j i=F at hF ME X1 B1
  have L6:∀p,aE [(I2,PV.obj O6),(f,.au (aS F)),(I,.obj ob),(a,.lst xs)] f p=[(I2,PV.obj O6),(f,p),(I,.obj ob),(a,.lst xs)]:=λp=>by
   unfold aE
   simp [HE (hI (f,_) G9),HE NX,HE MI]
  have Qd:((0:Int)+(i:Int))=(i:Int):=by lia
  with_reducible
   refine step_if (b:=v !=0) (X1.to (l:=("k",.int ((0:Int)+(i:Int)))::("front",.raw (.ref f))::vD cs a j) (by k_extra"rs")) B1 rm (Tr.cmp (Ev.item (n:=i) (Ev.l (xs:=(cu cs (2 ^ j)).map .int) (Ev.item (n:=2 ^ j) (Ev.l (xs:=iJ cs 8) ?t1) (Ev.bin (by intros) (by intros) (aj.pow (by simp) (by lia) (by decide))) (by rw [e0];exact p2) ga (by lia) (λ_ _=>by fail))) ?t4 Qd gt (by lia) (λ_ _=>by fail)) Ev.int aj.A5 Th.bool (by decide+kernel)) ?nx
  case nx=>
   intro s2 X3 B2
   by_cases hv0:v=0
   ·rw [if_pos hv0] at ME
    rw [ME]
    rw [if_neg (by simp [hv0])]
    exact Hk (Hk ⟨X3.to (by k_extra"rs"),B2⟩)
   ·rw [if_neg hv0] at ME
    rw [if_pos (by simp [hv0])]
    have hz:(if v < 0 then e.2 else e.1) < 4:=by split <;> assumption
    have gz:[PV.str (cb e.1),.str (cb e.2)][if decide (v < 0)=true then 1 else 0]? =some (.str (cb (if v < 0 then e.2 else e.1))):=by
     by_cases q:v < 0
     ·rw [if_pos (HD q),if_pos q];rfl
     ·rw [if_neg (by simp [q]),if_neg q];rfl
    have VR:PV.int (((if decide (v < 0)=true then 1 else 0:Nat)):Int)= .int (if decide (v < 0)=true then 1 else 0):=by split <;> rfl
    generalize (if v < 0 then e.2 else e.1)=z at hz gz ME
    subst ME
    with_reducible
     refine nC (a:=f) (es:=aS F) (x:=cb z) (p:= .int (F.getD z 0)) (q:= .int 1) (r:= .int (F.getD z 0+1)) X3 B2 rm ?u1 (Ev.b9 (n:=if decide (v < 0)=true then 1 else 0) (Ev.t (xs:=[.str (cb e.1),.str (cb e.2)]) (Ev.item (n:=i) (Ev.l (xs:=d9.map fG) ?u2) ?u3 Qd gp (by lia) (λ_ _=>by fail))) (Ev.conv (Ev.lp (p:= .int (if decide (v < 0)=true then 1 else 0)) (Tr.cmp (Ev.item (n:=i) (Ev.l (xs:=(cu cs (2 ^ j)).map .int) (Ev.item (n:=2 ^ j) (Ev.l (xs:=iJ cs 8) ?v1) (Ev.bin (by intros) (by intros) (aj.pow (by simp) (by lia) (by decide))) (by rw [e0];exact p2) ga (by lia) (λ_ _=>by fail))) ?v4 Qd gt (by lia) (λ_ _=>by fail)) Ev.int aj.ltI Th.bool (by decide+kernel)) ?w) VR.symm) (by fail) gz (by split <;> decide) (λ_ _=>by fail)) Ev.int (Ha _ G9) (by rw [Nn];decide) (eZ F z hz) aj.qp (λ_ _ _=>by fail) ?nx2
    case w=>
     split
     ·with_reducible intros
     ·with_reducible intros
    case nx2=>
     intro s3 X4 B3
     simp only [(uM hF (F.getD z 0+1) z hz),L6] at X4 B3
     exact Hk (Hk ⟨X4.to (by k_extra"rs"),B3⟩)
    all_goals with_reducible intros
  all_goals with_reducible intros
 case done=>
  intro s1 X1 B1
  have h9:=next f _ NH NX MI X1 B1
  conv at h9 in iS _=>whnf
  exact h9
structure qE {α:Type}(lt:α->α->Bool):Prop where
 asym:∀a b,lt a b=true->lt b a=false
 tr:∀a b c,lt b a=false->lt c b=false->lt c a=false
noncomputable def fA {α:Type} (lt:α->α->Bool) (right:Bool) (x m:α):Bool:=if right then lt x m else !(lt m x)
noncomputable def bN {α:Type} (lt:α->α->Bool) (right:Bool) (l:List α) (x:α):Nat:=l.findIdx (fA lt right x)
noncomputable def cO {α:Type} (lt:α->α->Bool) (right:Bool) (l:List α) (x:α):List α:=bC l (bN lt right l x) x
def jU {α:Type}(lt:α->α->Bool)(l:List α):Prop:=l.Pairwise λp q=>lt q p=false
theorem ei {α:Type}(lt:α->α->Bool)(right:Bool)(l:List α)(x:α):bN lt right l x<=l.length:=JZ
theorem iC {α:Type}{lt:α->α->Bool}(T:qE lt){right:Bool}{x:α}{l:List α}(h:jU lt l):l.Pairwise λp q=>fA lt right x p=true->fA lt right x q=true:=
 h.imp λ{p q} h1 h2=>by
  unfold fA at h2 ⊢
  cases right
  ·simp only [IH,JL,I3] at h2 ⊢
   exact T.tr _ _ _ h2 h1
  ·simp only [Kw] at h2 ⊢
   cases hq:lt x q with
   |true=>rfl
   |false=>
    have:=T.tr p q x h1 hq
    replace this:=h2▸this;cases this
theorem d5 {α:Type}{lt:α->α->Bool}(T:qE lt){x:α}{l:List α}(h:jU lt l){m:Nat}{p:α}(hp:l[m]? =some p):lt x p=decide (bN lt true l x<=m):=
 (cV (iC T (right:=true) (x:=x) h) hp:fA lt true x p=_)
theorem fM {α:Type}{lt:α->α->Bool}(T:qE lt){x:α}{l:List α}(h:jU lt l){m:Nat}{p:α}(hp:l[m]? =some p):lt p x=decide (m < bN lt false l x):=by
 have h1:(!(lt p x))=decide (bN lt false l x<=m):=cV (iC T (right:=false) (x:=x) h) hp
 cases hq:lt p x with
 |true=>rw [hq] at h1;exact(HD (by have:=Ik h1.symm;simp_all)).symm
 |false=>rw [hq] at h1;exact(HJ (by have:=H9 h1.symm;simp_all)).symm
theorem iz {α β:Type}(f:α->β)(l:List α)(j:Nat)(x:α):(bC l j x).map f=bC (l.map f) j (f x):=by
 unfold bC
 simp [Jz,KN]
theorem xk {α:Type}(lt:α->α->Bool)(right:Bool)(l:List α)(x:α):(cO lt right l x).length=l.length+1:=by
 have:=ei lt right l x
 delta cO bC
 simp
 grind -splitIndPred
theorem cT {α:Type}(lt:α->α->Bool)(right:Bool)(l:List α)(x:α):(cO lt right l x).Perm (x::l):=by
 refine K5.trans (List.Perm.cons x ?_)
 rw [II]
theorem lq {α:Type}{lt:α->α->Bool}(T:qE lt)(right:Bool){l:List α}(x:α)(h:jU lt l):jU lt (cO lt right l x):=by
 delta cO bC jU
 have hp:=ei lt right l x
 have key:∀m (hm:m < l.length),fA lt right x l[m]=decide (bN lt right l x<=m):=λm hm=>cV (iC T h) (List.getElem?_eq_getElem hm)
 rw [Iv,HR]
 refine⟨IB (Jm _ _) h,⟨λb hb=> ?_,IB (JV _ _) h⟩,λa ha b hb=> ?_⟩
 ·obtain⟨i,hi,rfl⟩:=Ij.mp hb
  rw [I4]
  have hm:bN lt right l x+i < l.length:=by rw [Jb] at hi;omega
  have h1:=key _ hm
  rw [HD (HN _ _)] at h1
  unfold fA at h1
  cases right
  ·simpa using h1
  ·exact T.asym _ _ h1
 ·obtain⟨i,hi,rfl⟩:=Ij.mp ha
  rw [JX]
  have ND:i < bN lt right l x:=by rw [H8] at hi;simp_all
  have h1:=key i (by lia)
  rw [HJ (by simp_all)] at h1
  rcases Hf.mp hb with rfl |hb
  ·unfold fA at h1
   cases right
   ·have:lt l[i] b=true:=by simpa using h1
    exact T.asym _ _ this
   ·exact h1
  ·obtain⟨j,hj,rfl⟩:=Ij.mp hb
   rw [I4]
   exact IK.mp h _ _ _ _ (by omega)
noncomputable def ltI (a b:Int):Bool:=decide (a < b)
theorem v8:qE ltI:=⟨λa b h=>by unfold ltI at*;simp at*;lia,λa b c h1 h2=>by unfold ltI at*;simp at*;lia⟩
theorem oV:qE dA:=⟨λa b h=>by
 exact HJ (List.lt_asymm (H9 h)),λa b c h1 h2=>by
 unfold dA at *
 simp only [IT] at *
 exact JB.mpr (List.le_trans (JB.mp h1) (JB.mp h2))⟩
theorem fx.lp {c a b:Expr}{d:Bool}{p:PV}(hc:Tr C k sc own ρ c d)(h:fx C k sc mine own own' ρ (if d=true then a else b) p):fx C k sc mine own own' ρ (.IfExp c a b pos) p:=λW A env s t Wt rm X B=>
 IfExp_ (Hb (hc W A env s rm X) (λx s1 zz=>c5 zz λe1 h1=>by
  subst h1
  have:=h W A env s1 t Wt rm (X.aA e1) (B.step e1)
  cases x with
  |true=>exact this
  |false=>exact this) λ_ _ q=>q.elim)
theorem tu (L:Lw C){xs:List PV}{px:PV}{j:Nat}(hz:xs.length<=sizeLine)(h2:j<=xs.length)(lt:∀m p,xs[m]? =some p->Lt C p px (decide (m < j))):aN C (k+1) [] (.ref wh) [.lst xs,px] [] (.int j):=λW A s vs kvs rm g ho r1 r2=>by
 refine bp r1.inv2 λva vx G' ra rx=> ?_;subst G'
 rw [r2.i7]
 refine bp (L.bL.bind rA g.inv) λfd t F Lz hb=> ?_
 refine dF (own:=[]) (args:=⟨[va,vx],[]⟩) L.ok F g (by assumption) rm (hb _ _ _ (.inr (.inl ⟨rfl,_,_,rfl,rfl⟩))) (.cons ra (.cons rx (.cons ⟨_,rfl⟩ (.cons rfl (.cons rfl .nil)))):dy C W s.heap _ [("a",.lst xs),("x",px),("lo",.int (0:Nat)),("hi",bS none),("key",.none)]) eW (eO (.inr (.inr (.inr rfl))) Lz) ?_
 intro Lo env J hL X B A' L5
 have X':St C (Lo::W) ⟨ai tb wi,fd.qualname ++ ".<locals>.",fd.code⟩ [] (aC [("a",.lst xs),("x",px),("lo",.int (0:Nat)),("hi",bS none),("key",.none)]) env J:=by
  refine Lz▸?_;exact X
 exact sf L (hi:=none) hz (HK _) h2 (Hh _) (λm p _ _ h=>lt m p h) L5 (λ_=>rfl) X' B λv Lv i e r=>⟨e,r.drop λa ha=>Ha _ ha⟩
theorem tJ (L:Lw C){xs:List PV}{px:PV}{j:Nat}(hz:xs.length<=sizeLine)(h2:j<=xs.length)(lt:∀m p,xs[m]? =some p->Lt C px p (decide (j<=m))):aN C (k+1) [] (.ref wx) [.lst xs,px] [] (.int j):=λW A s vs kvs rm g ho r1 r2=>by
 refine bp r1.inv2 λva vx G' ra rx=> ?_;subst G'
 rw [r2.i7]
 refine bp (L.br.bind rn g.inv) λfd t F Lz hb=> ?_
 refine dF (own:=[]) (args:=⟨[va,vx],[]⟩) L.ok F g (by assumption) rm (hb _ _ _ (.inr (.inl ⟨rfl,_,_,rfl,rfl⟩))) (.cons ra (.cons rx (.cons ⟨_,rfl⟩ (.cons rfl (.cons rfl .nil)))):dy C W s.heap _ [("a",.lst xs),("x",px),("lo",.int (0:Nat)),("hi",bS none),("key",.none)]) eW (eO (.inr (.inl rfl)) Lz) ?_
 intro Lo env J hL X B A' L5
 have X':St C (Lo::W) ⟨ai tb vB,fd.qualname ++ ".<locals>.",fd.code⟩ [] (aC [("a",.lst xs),("x",px),("lo",.int (0:Nat)),("hi",bS none),("key",.none)]) env J:=by
  refine Lz▸?_;exact X
 exact sk L (hi:=none) hz (HK _) h2 (Hh _) (λm p _ _ h=>lt m p h) L5 (λ_=>rfl) X' B λv Lv i e r=>⟨e,r.drop λa ha=>Ha _ ha⟩
theorem gx {α:Type}{g:α->PV}{l:List α}{m:Nat}{p:PV}(h:(l.map g)[m]? =some p):∃a,l[m]? =some a/\p=g a:=cY h
theorem Gs (L:Lw C){l:List Int}{x:Int}(hs:jU ltI l)(hz:l.length<=sizeLine):aN C (k+1) own (.ref wh) [.lst (l.map .int),.int x] [] (.int (bN ltI false l x)):=
 aN.up (tu L (by rw [Hd];exact hz) (by simp only [Hd];exact ei ..) λm p h=>by
  refine ae (gx h) λa ha G'=> ?_;subst G'
  exact aj.conv aj.ltI (by refine(fM v8 hs ha)▸?_;rfl))
theorem GK (L:Lw C){l:List Int}{x:Int}(hs:jU ltI l)(hz:l.length<=sizeLine):aN C (k+1) own (.ref wx) [.lst (l.map .int),.int x] [] (.int (bN ltI true l x)):=
 aN.up (tJ L (by rw [Hd];exact hz) (by simp only [Hd];exact ei ..) λm p h=>by
  refine ae (gx h) λa ha G'=> ?_;subst G'
  exact aj.conv aj.ltI (by refine(d5 v8 hs ha)▸?_;rfl))
theorem GR (L:Lw C){l:List Str}{x:Str}(hs:jU dA l)(hz:l.length<=sizeLine):aN C (k+1) [] (.ref wh) [.lst (l.map .str),.str x] [] (.int (bN dA false l x)):=
 tu L (by rw [Hd];exact hz) (by simp only [Hd];exact ei ..) λm p h=>by
  refine ae (gx h) λa ha G'=> ?_;subst G'
  exact aj.conv aj.dA (by refine(fM oV hs ha)▸?_;rfl)
theorem GQ (L:Lw C){l:List Str}{x:Str}(hs:jU dA l)(hz:l.length<=sizeLine):aN C (k+1) [] (.ref wx) [.lst (l.map .str),.str x] [] (.int (bN dA true l x)):=
 tJ L (by rw [Hd];exact hz) (by simp only [Hd];exact ei ..) λm p h=>by
  refine ae (gx h) λa ha G'=> ?_;subst G'
  exact aj.conv aj.dA (by refine(d5 oV hs ha)▸?_;rfl)
theorem GO (L:Lw C){aa:Addr}{l:List Int}{x:Int}(hw:own.lookup aa=some (.lst (l.map .int)))(hs:jU ltI l)(hz:l.length<=sizeLine):gX C (k+2) own (aE own aa (.lst ((cO ltI true l x).map .int))) (.ref BO) [.raw (.ref aa),.int x] [] .none:=by
 unfold cO
 rw [iz]
 exact xx L 1 (.short rfl rfl rfl) hw (by rw [Hd];exact hz) (HK _) (by simp only [Hd];exact ei ..) (Hh _) λC' _ m p _ _ h=>by
  replace h:=(show Seen own 1 (l.map PV.int)=l.map PV.int from fO)▸h
  refine ae (gx h) λa ha G'=> ?_;subst G'
  exact aj.conv aj.ltI (by refine(d5 v8 hs ha)▸?_;rfl)
theorem Gv (L:Lw C){aa:Addr}{l:List Int}{x:Int}(hw:own.lookup aa=some (.lst (l.map .int)))(hs:jU ltI l)(hz:l.length<=sizeLine):gX C (k+2) own (aE own aa (.lst ((cO ltI false l x).map .int))) (.ref DE) [.raw (.ref aa),.int x] [] .none:=by
 unfold cO
 rw [iz]
 exact Bg L 1 (.short rfl rfl rfl) hw (by rw [Hd];exact hz) (HK _) (by simp only [Hd];exact ei ..) (Hh _) λC' _ m p _ _ h=>by
  replace h:=(show Seen own 1 (l.map PV.int)=l.map PV.int from fO)▸h
  refine ae (gx h) λa ha G'=> ?_;subst G'
  exact aj.conv aj.ltI (by refine(fM v8 hs ha)▸?_;rfl)
theorem GG (L:Lw C){aa:Addr}{l:List Str}{x:Str}(hw:own.lookup aa=some (.lst (l.map .str)))(hs:jU dA l)(hz:l.length<=sizeLine):gX C (k+2) own (aE own aa (.lst ((cO dA true l x).map .str))) (.ref BO) [.raw (.ref aa),.str x] [] .none:=by
 unfold cO
 rw [iz]
 exact xx L 1 (.short rfl rfl rfl) hw (by rw [Hd];exact hz) (HK _) (by simp only [Hd];exact ei ..) (Hh _) λC' _ m p _ _ h=>by
  replace h:=(show Seen own 1 (l.map PV.str)=l.map PV.str from eM)▸h
  refine ae (gx h) λa ha G'=> ?_;subst G'
  exact aj.conv aj.dA (by refine(d5 oV hs ha)▸?_;rfl)
noncomputable def bc (F:List Int) (i:Nat):List Int:=(List.range i).foldl (λl z=>cO ltI (z % 2==1) l (F.getD z 0)) []
theorem eI (F:List Int)(i:Nat):bc F (i+1)=cO ltI (i % 2==1) (bc F i) (F.getD i 0):=by
 unfold bc
 simp only [IY,JW]
 rfl
theorem fm (F:List Int):∀i,(bc F i).length=i:=by
 intro i
 induction i with
 |zero=>rfl
 |succ i ih=>simp only [eI,xk,ih]
theorem dk (F:List Int):∀i,jU ltI (bc F i):=by
 intro i
 induction i with
 |zero=>exact List.Pairwise.nil
 |succ i ih=>rw [eI];exact lq v8 _ _ ih
noncomputable abbrev yb (z:Nat):PV:= .str (cb z)
theorem kX:nJ.map PV.str=(List.range 4).map yb:=by fail
theorem gC {l:List (Str×PV)}{own:Own}{n:Nat}{ρ:bK}(h:∀e∈l,ρ e.1=some e.2)(hp:∀e∈l,Plain e.2):∀e∈l,(λx=>(ρ x).map (res (bH own n))) e.1=some e.2:=λe he=>aW (h e he) (hp e he _)
theorem Plain.strs {l:List Str}:Plain (.lst (l.map .str)):=Plain.lst λp hp g=>by
 refine ae (He.mp hp) λx _ G'=> ?_;subst G'
 rfl
theorem gQ (F:List Int):∀e∈aS F,Plain e.2:=by
 intro e he
 unfold aS at he
 simp only [Hf,HH,It] at he
 rcases he with rfl |rfl |rfl |rfl |rfl |rfl <;> exact λ_=>rfl
theorem Plain.au {l:List (Str×PV)}(h:∀e∈l,Plain e.2):Plain (.au l):=λf=>by
 show PV.au (g9 f l)=_
 rw [dY h]
theorem Plain.int (n:Int):Plain (.int n):=λ_=>rfl
theorem iE (cs:List Int):∀e∈yW cs,Plain e.2:=
 memC (Plain.lst (nS cs 8)) (memC (λ_=>rfl) (memC (λ_=>rfl) (memC (λ_=>rfl) (memC (λ_=>rfl) (memC (λ_=>rfl) (memC Plain.ints (memC (λ_=>rfl) (memC Plain.ints (memC Plain.ints λ_ h=>nomatch h)))))))))
theorem nQ {own:Own}{a:Addr}{n:Nat}(h:own.lookup a=none):res (bH own n) (.raw (.ref a))= .raw (.ref a):=by
 simp only [jR]
 cases n with
 |zero=>rfl
 |succ n=>rw [gq,h];rfl
theorem qa {f:Addr}{p:PV}(h:f∉W):∀a∈W,a∈dP (f::W) [(f,p)]:=λa ha=>by
 unfold dP
 refine HG.mpr ⟨Ha _ ha,?_⟩
 have:f≠a:=λe=>h (e▸ha)
 simpa using this
theorem zW (L:Lx C f3){cs:List Int}{a I f:Addr}{ob:Obj}{xs:List PV}{F:List Int}{j:Nat}(NH:f∉W)(MN:a∈W)(N0:I∈W)(NX:f≠I)(MI:f≠a)(Nw:a≠I)(hz:xs.length<=100)(rm:ak A (k+1))(X:St C (f::W) SL [(f,.au (aS F)),(I,.obj ob),(a,.lst xs)] (aC (("front",.raw (.ref f))::vD cs a j)) env s)(B:Bs C Wt (λ_=>true) t [(f,.au (aS F)),(I,.obj ob),(a,.lst xs)] env s)
 (next:∀J,St C W SL [(I,.obj ob),(a,.lst (xs ++ [.au (aS F)]))] (aC (("front",.au (aS F))::vD cs a j)) env J->Bs C Wt (λ_=>true) t [(I,.obj ob),(a,.lst (xs ++ [.au (aS F)]))] env J->wpAny C.M A (execs (iS 3) env) Q E J):
 wpAny C.M A (execs (iS 2) env) Q E s:=by
 have LK:sizeLine=16777216:=rfl
 have X1:=(St.sV (own₁:=[(f,.au (aS F))]) (own':=[(I,.obj ob),(a,.lst xs)]) X (by
  intro y hy z hz
  simp only [Hf,HH,It] at hy hz
  subst hz
  rcases hy with rfl |rfl
  ·exact NX.symm
  ·exact MI.symm) 1).to (l:=("front",.au (aS F))::vD cs a j) (aD (aW (p:= .raw (.ref f)) (by k_extra"r") (by rw [gR (es:=aS F) (by simp),dY (gQ F)]))
   (aD (aB (by k_extra"r") (Plain.int _)) (aD (aW (p:= .raw (.ref a)) (by k_extra"r") (nQ (by simp [Hl,HC MI.symm]))) (gC (by k_extra"rs") (iE cs)))))
 have X1:St C W SL [(I,.obj ob),(a,.lst xs)] (aC (("front",.au (aS F))::vD cs a j)) env s:=X1.drop (qa NH) (memC N0 (memC MN λ_ h=>nomatch h)) (by
  rcases Hf.mp X.noLoc.1 with q |q
  ·exact absurd q.symm (X.ownLoc _ G9)
  ·exact q)
 have L6:∀p,aE [(I,PV.obj ob),(a,.lst xs)] a p=[(I,.obj ob),(a,p)]:=λp=>by
  unfold aE
  simp [HE Nw]
 conv in iS _=>whnf
 with_reducible
  refine bY X1 (B.less (own':=[(I,.obj ob),(a,.lst xs)]) (λy hy=>⟨y.2,Ha _ hy⟩)) rm (fx.append (xs:=xs) (p:= .au (aS F)) (by intros) (by simp) (by intros) (by lia) (λ_=>by fail) (λ_=>by fail) (by fail) (λ_=>by fail) (λ_=>by fail)) (λ_=>by fail) ?_
 intro s2 X2 B2
 rw [L6] at X2 B2
 have h9:=next _ X2 B2
 conv at h9 in iS _=>whnf
 exact h9
noncomputable abbrev qM (cs:List Int) (a:Addr) (j:Nat) (F:List Int):List (Str×PV):=("front",.au (aS F))::vD cs a j
theorem Aj (L:Lx C f3){cs:List Int}{a I:Addr}{ob:Obj}{xs:List PV}{F:List Int}{j:Nat}(Nw:a≠I)(MN:a∈W)(N0:I∈W)(rm:ak A (k+2))(X:St C W SL [(I,.obj ob),(a,.lst xs)] (aC (qM cs a j F)) env s)(B:Bs C Wt (λ_=>true) t [(I,.obj ob),(a,.lst xs)] env s)
 (next:∀J,St C W SL [(I,.obj ob),(a,.lst xs)] (aC (("told",.lst (List.replicate 4 .none))::("shelf",.lst ((bc F 4).map .int))::qM cs a j F)) env J->Bs C Wt (λ_=>true) t [(I,.obj ob),(a,.lst xs)] env J->wpAny C.M A (execs (iS 5) env) Q E J):
 wpAny C.M A (execs (iS 3) env) Q E s:=by
 have L':=L.L
 have LK:sizeLine=16777216:=rfl
 conv in iS _=>whnf
 with_reducible refine dZ (p:= .lst []) X B rm (kH.list (by intros) (by intros)) (by done) (by fail) (by fail) ?_
 intro f s1 NH X1 B1
 have NX:f≠I:=λe=>NH (e▸N0)
 have MI:f≠a:=λe=>NH (e▸MN)
 have X2:=X1.to (l:=("shelf",.raw (.ref f))::qM cs a j F) (by k_extra"rs")
 refine ae L'.il.ex λ_ Fl _=> ?_
 refine ae L'.ir.ex λ_ Fr _=> ?_
 have Ql:∀(pre:Own) (p q:PV),(∀y∈pre,y.1≠f)->aE (pre ++ [(f,p),(I,PV.obj ob),(a,.lst xs)]) f q=pre ++ [(f,q),(I,.obj ob),(a,.lst xs)]:=λpre p q h=>by
  unfold aE
  rw [Hr]
  congr 1
  ·refine(HY λy hy=> ?_).trans (J1 _)
   rw [if_neg (h y hy)];rfl
  ·simp [HE NX,HE MI]
 have N5:∀(pre:Own) (p:PV),(∀y∈pre,y.1≠f)->List.lookup f (pre ++ [(f,p),(I,PV.obj ob),(a,.lst xs)])=some p:=λpre p h=>by
  rw [H6]
  have:List.lookup f pre=none:=Ih.mpr λy hy=>by simpa using (h y hy).symm
  rw [this]
  simp
 with_reducible
  refine rz (own':=[(f,.lst ((bc F 4).map .int)),(I,.obj ob),(a,.lst xs)]) X2 B1 rm (fx.comp (need:=false) (ps:=(List.range 4).map yb) (qs:=List.replicate 4 PV.none) (Ow:=λi=>[(f,.lst ((bc F i).map .int)),(I,.obj ob),(a,.lst xs)]) (λit D env=>by fail) (by with_unfolding_all exact⟨rfl,by done,by done⟩) (λx env=>by fail) rfl (by decide) (λi=>rfl) (kX▸iD Ev.str) (by decide) ?step) (by done) (by fail) (cy X2 (by done)) ?nx
 case step=>
  intro i p q hp hq
  have hi:i < 4:=by
   obtain⟨h,_⟩:=List.getElem?_eq_some_iff.mp hp
   exact h
  simp only [List.getElem?_map,List.getElem?_range hi] at hp
  cases hp
  have hq:PV.none=q:=by
   rw [List.getElem?_replicate,if_pos hi] at hq
   exact H7 hq
  refine hq▸?_
  refine⟨_,bg.local (by done),by k_extra"u",λpre O8=> ?_⟩
  have Nr:∀y∈pre,y.1≠f:=λy hy=>O8 y hy (f,_) G9
  have hA:=Gv (k:=k) (own:=pre ++ [(f,.lst ((bc F i).map .int)),(I,.obj ob),(a,.lst xs)]) (aa:=f) (x:=F.getD i 0) L' (N5 pre _ Nr) (dk F i) (by rw [fm];omega)
  have hB:=GO (k:=k) (own:=pre ++ [(f,.lst ((bc F i).map .int)),(I,.obj ob),(a,.lst xs)]) (aa:=f) (x:=F.getD i 0) L' (N5 pre _ Nr) (dk F i) (by rw [fm];omega)
  rw [Ql pre _ _ Nr] at hA hB
  have hm:∀(p q:PV),(pre ++ [(f,p),(I,PV.obj ob),(a,.lst xs)]).map (·.1)=(pre ++ [(f,q),(I,PV.obj ob),(a,.lst xs)]).map (·.1):=λp q=>by simp
  have hs:=eI F i
  with_reducible
   refine fx.lp (d:= !(i % 2==1)) (Tr.conv (Tr.cmp ?t1 ?t2 aj.G3 Th.bool (by decide+kernel)) ((by decide+kernel:∀z,z < 4->(!(Builtin.Str.occurrences "ac" (cb z) 0 ("ac":Str).length 1).isEmpty)= !(z % 2==1)) i hi)) ?br
  case br=>
   cases hb:(i % 2==1)
   ·rw [hb] at hs
    rw [if_pos (by rfl)]
    show fx C (k+2) _ _ _ (pre ++ [(f,.lst ((bc F (i+1)).map .int)),(I,.obj ob),(a,.lst xs)]) _ _ _
    rw [hs]
    with_reducible
     refine fx.call ?f1 Fl.fo (ab.cons ?f2 (ab.cons (Ev.bh (x:=cb i) (es:=aS F) (Ev.d ?f3) ?f4 (eZ F i hi) (λ_ _=>by fail)) ab.nil)) bR.nil hA (hm _ _) (λenv=>⟨_,_,by fail⟩) (λenv=>by fail)
    all_goals with_reducible intros
   ·rw [hb] at hs
    rw [if_neg (by decide)]
    show fx C (k+2) _ _ _ (pre ++ [(f,.lst ((bc F (i+1)).map .int)),(I,.obj ob),(a,.lst xs)]) _ _ _
    rw [hs]
    with_reducible
     refine fx.call ?g1 Fr.fo (ab.cons ?g2 (ab.cons (Ev.bh (x:=cb i) (es:=aS F) (Ev.d ?g3) ?g4 (eZ F i hi) (λ_ _=>by fail)) ab.nil)) bR.nil hB (hm _ _) (λenv=>⟨_,_,by fail⟩) (λenv=>by fail)
    all_goals with_reducible intros
  all_goals with_reducible intros
 case nx=>
  intro s2 X3 B3
  have X4:=(St.sV (own₁:=[(f,.lst ((bc F 4).map .int))]) (own':=[(I,.obj ob),(a,.lst xs)]) X3 (by
   intro y hy z hz
   simp only [Hf,HH,It] at hy hz
   subst hz
   rcases hy with rfl |rfl
   ·exact NX.symm
   ·exact MI.symm) 1).to (l:=("told",.lst (List.replicate 4 .none))::("shelf",.lst ((bc F 4).map .int))::qM cs a j F) (aD (aB (by k_extra"r") (λ_=>rfl)) (aD (aW (p:= .raw (.ref f)) (by k_extra"r") (by rw [e8 (es:=(bc F 4).map .int) (by simp),fO]))
    (aD (aB (by k_extra"r") (Plain.au (gQ F))) (aD (aB (by k_extra"r") (Plain.int _)) (aD (aW (p:= .raw (.ref a)) (by k_extra"r") (nQ (by simp [Hl,HC MI.symm]))) (gC (by k_extra"rs") (iE cs)))))))
  have X5:St C W SL [(I,.obj ob),(a,.lst xs)] (aC (("told",.lst (List.replicate 4 .none))::("shelf",.lst ((bc F 4).map .int))::qM cs a j F)) env s2:=X4.drop (qa NH) (memC N0 (memC MN λ_ h=>nomatch h)) (by
   rcases Hf.mp X3.noLoc.1 with q |q
   ·exact absurd q.symm (X3.ownLoc _ G9)
   ·exact q)
  have h9:=next _ X5 (B3.less (own':=[(I,.obj ob),(a,.lst xs)]) (λy hy=>⟨y.2,Ha _ hy⟩))
  conv at h9 in iS _=>whnf
  exact h9
noncomputable def DN (cs:List Int) (j z:Nat):Nat:=((List.range 4).filter λo=>(aF cs o).getD j 0==(aF cs z).getD j 0).length
def lj (cs:List Int)(j:Nat)(F:List Int):Prop:=∀z < 4,((bN ltI false (bc F 4) (F.getD z 0):Nat):Int)=F.getD z 0/\((bN ltI true (bc F 4) (F.getD z 0):Nat):Int)=F.getD z 0+DN cs j z
noncomputable abbrev Ff (cs:List Int) (j:Nat) (F:List Int) (z:Nat):PV:= .tup [.int (F.getD z 0),.int (F.getD z 0+DN cs j z)]
theorem zm (L:Lx C f3){cs:List Int}{a:Addr}{F:List Int}{j:Nat}(hj:j < 3)(hF:lj cs j F)(rm:ak A (k+2))(X:St C W SL own (aC (("told",.lst (List.replicate 4 .none))::("shelf",.lst ((bc F 4).map .int))::qM cs a j F)) env s)(B:Bs C Wt (λ_=>true) t own env s)
 (next:∀J,St C W SL own (aC (qM cs a j F)) env J->Bs C Wt (λ_=>true) t own env J->wpAny C.M A (execs [] env) Q E J):
 wpAny C.M A (execs (iS 5) env) Q E s:=by
 have L':=L.L
 have e0:((0:Int)+(j:Int))=(j:Int):=by lia
 refine ae L'.bL.ex λ_ Fl _=> ?_
 refine ae L'.br.ex λ_ Fr _=> ?_
 have Nq:kK (.lst ((List.range 4).map (Ff cs j F))):=dh (n:=2) (rfl) (by decide)
 have heq:∀z < 4,PV.tup [.int (bN ltI false (bc F 4) (F.getD z 0):Nat),.int (bN ltI true (bc F 4) (F.getD z 0):Nat)]=Ff cs j F z:=λz hz=>by
  simp only [(hF z hz).1,(hF z hz).2]
 have ON:∀z,(((List.range 4).filter λo=>(aF cs o).getD j 0==(aF cs z).getD j 0).map yb).length=DN cs j z:=λz=>by rw [Hd];rfl
 have Pj:∀z,DN cs j z<=4:=λz=>by
  have:=Ic (λo=>(aF cs o).getD j 0==(aF cs z).getD j 0) (List.range 4)
  exact this
 conv in iS _=>whnf
 with_reducible
  refine bG X B rm (Tr.conv (p:=false || (false || false)) (Tr.or (Tr.cmp ?_ (Ev.conv (p:= .lst (List.replicate (4:Int).toNat [PV.none]).flatten) (Ev.bin (by intros) (by intros) (aj.mulL (by decide) (by decide) (by decide))) (by fail)) (aj.fB (dh (n:=1) rfl (by decide))) Th.bool (by decide+kernel)) (λ_=>Tr.or (Tr.cmp (fT.ev (c4 (need:=false) (l:=List.range 4) (g:=yb) (by with_unfolding_all exact⟨rfl,by done,by done⟩) (λx env=>by fail) (Ff cs j F) (kX▸iD Ev.str) (by decide) ?st1)) (fT.ev (c4 (need:=false) (l:=List.range 4) (g:=yb) (by with_unfolding_all exact⟨rfl,by done,by done⟩) (λx env=>by fail) (Ff cs j F) (kX▸iD Ev.str) (by decide) ?st2)) (aj.fB Nq) Th.bool (by decide+kernel)) (λ_=>Tr.pH))) (rfl)) ?nx
 case st1=>
  intro z hz
  have hz:=Hu.mp hz
  refine⟨_,bg.local (by done),by k_extra"u",?_⟩
  simp only [<-heq z hz]
  with_reducible
   refine Ev.tuple (ab.cons (Ev.du ?_ Fl.fo (ab.cons ?_ (ab.cons (Ev.bh (x:=cb z) (es:=aS F) (Ev.d ?_) ?_ (eZ F z hz) (λ_ _=>by fail)) ab.nil)) bR.nil ((λz=>Gs (k:=k+1) (own:=[]) (x:=F.getD z 0) L' (dk F 4) (by rw [fm];decide)) z)) (ab.cons (Ev.du ?_ Fr.fo (ab.cons ?_ (ab.cons (Ev.bh (x:=cb z) (es:=aS F) (Ev.d ?_) ?_ (eZ F z hz) (λ_ _=>by fail)) ab.nil)) bR.nil ((λz=>GK (k:=k+1) (own:=[]) (x:=F.getD z 0) L' (dk F 4) (by rw [fm];decide)) z)) ab.nil)) (Ho (by fail))
  all_goals with_reducible intros
 case st2=>
  intro z hz
  have hz:=Hu.mp hz
  refine⟨_,bg.cell (by done) (by fail),by k_extra"u",?_⟩
  have lz:=Pj z
  with_reducible
   refine Ev.tuple (ab.cons (Ev.bh (x:=cb z) (es:=aS F) (Ev.d ?_) ?_ (eZ F z hz) (λ_ _=>by fail)) (ab.cons (Ev.bin (Ev.bh (x:=cb z) (es:=aS F) (Ev.d ?_) ?_ (eZ F z hz) (λ_ _=>by fail)) (Ev.conv (Ev.a6 ?_ (ab.cons (fT.ev (bI (need:=false) (l:=List.range 4) (g:=yb) (by with_unfolding_all exact⟨rfl,by done,by done⟩) (λx env=>by fail) yb (λo=>(aF cs o).getD j 0==(aF cs z).getD j 0) (kX▸iD Ev.str) (by decide) ?st3)) ab.nil) (cC.Ay (by rw [ON];lia))) (by rw [ON])) aj.add) ab.nil)) (Ho (by fail))
  case st3=>
   intro o ho
   refine⟨_,bg.local (by done),by k_extra"u",?_,λ_=> ?_⟩
   ·with_reducible
     refine Tr.cmp (Ev.item (n:=j) (Ev.l (xs:=(aF cs o).map .int) (Ev.bh (x:=cb o) (es:=mP cs) (Ev.d ?_) ?_ (lV cs (Hu.mp ho)) (λ_ _=>by fail))) ?_ e0 (ju cs o hj) (by lia) (λ_ _=>by fail)) (Ev.item (n:=j) (Ev.l (xs:=(aF cs z).map .int) (Ev.bh (x:=cb z) (es:=mP cs) (Ev.d ?_) ?_ (lV cs hz) (λ_ _=>by fail))) ?_ e0 (ju cs z hj) (by lia) (λ_ _=>by fail)) aj.DM Th.bool (by decide+kernel)
    all_goals with_reducible intros
   ·with_reducible intros
  all_goals with_reducible intros
 case nx=>
  intro s1 X1 B1
  exact next _ (X1.to (by k_extra"rs")) B1
 all_goals with_reducible intros
noncomputable def dJ (cs:List Int) (n:Nat):List PV:=(List.range n).map λj=> .au (aS (bM cs j 6))
theorem qd (cs:List Int)(n:Nat):dJ cs (n+1)=dJ cs n ++ [.au (aS (bM cs n 6))]:=by
 unfold dJ
 simp only [IY,Hr]
 rfl
theorem rK (cs:List Int)(n:Nat):(dJ cs n).length=n:=by simp [dJ]
theorem kq (cs:List Int)(n:Nat):∀p∈dJ cs n,Plain p:=λp hp=>by
 refine ae (He.mp hp) λc _ G'=> ?_;subst G'
 exact Plain.au (gQ _)
noncomputable abbrev DH (cs:List Int):List (Str×PV):=("ahead",.lst (dJ cs 3))::yW cs
theorem uG (cs:List Int):∀e∈DH cs,Plain e.2:=memC (Plain.lst (kq cs 3)) (iE cs)
theorem Ez (L:Lx C f3){cs:List Int}{a:Addr}(hF:∀j < 3,lj cs j (bM cs j 6))(rm:ak A (k+2))
 (X:St C W SL [(a,.lst [])] (aC (("ahead",.raw (.ref a))::yW cs)) env s)(B:Bs C Wt (λ_=>true) t [(a,.lst [])] env s)
 (next:∀W J,St C W SL [] (aC (DH cs)) env J->Bs C Wt (λ_=>true) t [] env J->wpAny C.M A (execs (aK 15) env) Q E J):
 wpAny C.M A (execs (aK 14) env) Q E s:=by
 have L':=L.L
 have LK:sizeLine=16777216:=rfl
 have MN:a∈W:=(X.owns _ G9).1
 conv in aK _=>whnf
 with_reducible
  refine a7 (need:=false) (k:=k+2) (ps:=aI 0 3) X B rm ?it (λi=>[(a,.lst (dJ cs i))]) (λ_=>aC (("ahead",.raw (.ref a))::yW cs)) (λi=>upd (aC (("ahead",.raw (.ref a))::yW cs)) "j" (.int ((0:Int)+(i:Int)))) (by fail) (by fail) (λ_=>by fail) (λ_=>False) ?LH ?turn (λ_ _ _ h=>h.elim) ?done (λx=>by fail)
 case it=>exact aX.cL (n:=3) (by intros) (by intros) (by decide) (by decide) (λenv=>by fail)
 case LH=>
  intro i p hp
  refine(er hp)▸?_
  exact bg.cell (by done) rfl
 case turn=>
  intro I ob i p t' LY s1 hI hp X1 B1
  have hi:=ek hp
  have Nw:a≠I:=hI (a,_) G9
  have OQ:a∈I::W:=Ha _ MN
  have Pa:I∈I::W:=G9
  have X2:=X1.to (l:=vD cs a i) (by k_extra"rs")
  have fin:=z0 (k:=k+1) (Q:=λf H'=>match f with
   | .next | .cont=>St C (I::W) SL ((I,.obj ob)::[(a,.lst (dJ cs (i+1)))]) (aC (("ahead",.raw (.ref a))::yW cs)) env H'/\Bs C LY (λ_=>true) t' ((I,.obj ob)::[(a,.lst (dJ cs (i+1)))]) env H'
   | .brk=>False
   | .ret v=>∃p own' J',False/\Rr C (I::W) H'.heap v p/\St C (I::W) SL own' J' env H'/\Bs C LY (λ_=>true) t' own' env H') (E:=λ_ _=>False) L hi rm Pa OQ X2 B1 λf s2 NH NX MI X3 B2=>
   zW L (k:=k+1) NH OQ Pa NX MI Nw (by rw [rK];lia) rm X3 B2 λs3 X4 B3=>Aj L (k:=k) Nw OQ Pa rm X4 B3 λs4 X5 B4=>by
    refine zm L (k:=k) hi (hF i hi) rm X5 B4 λs5 X6 B5=> ?_
    rw [<-qd] at X6 B5
    exact Hk ⟨X6.to (by k_extra"rs"),B5⟩
  conv at fin in iS _=>whnf
  with_reducible refine Hb fin ?_ λ_ _ h=>h
  intro f H' h
  cases f <;> exact h
 case done=>
  intro s1 X1 B1
  have X2:=(X1.settle 1).to (l:=DH cs) (aD (aW (p:= .raw (.ref a)) (by k_extra"r") (by rw [e8 (es:=dJ cs 3) (by simp [Hl,aI]),e9 (kq cs 3)])) (gC (by k_extra"rs") (iE cs)))
  have h9:=next _ _ X2 (B1.less (own':=[]) (by simp))
  conv at h9 in aK _=>whnf
  exact h9
set_option maxRecDepth 100000
variable {prog:Program}
theorem ml {it t:Addr}{i:Nat} {items}{x:Value}{Q:Value->Shared->Prop}(hit:s.heap.IsTupleIter it t i)(ht:s.heap.IsTuple t items)(hx:items[i]? =some x)
 (hQ:∀h',h'.IsTupleIter it t (i+1)->Heap.SameBut it s.heap h'->Q x {s with heap:=h'}):wpAny (model prog w) A (Builtin.SmallTypes.nextOf (.ref it)) Q E s:=by
 refine iI (id hit) λo ho hc hd=> ?_
 obtain⟨ol,PT,_,nl,RY⟩:=ht
 unfold Builtin.SmallTypes.nextOf
 refine Hc (wpAny_callSpecial?_slot (name:=Str.ofString "__next__") hit.typeIs I1
  (Jc I1 hit.typeIs KD ?_ (Kv _)))
 show wpAny _ _ (field (.ref it) 0 >>=_) _ _ s
 refine Hc (IL ho hd (x:= .ref t) rfl ?_)
 show wpAny _ _ (if(Value.ref t==Value.none)=true then _ else _) _ _ s
 refine(if_neg (show ¬((Value.ref t==Value.none)=true) from HS))▸?_
 show wpAny _ _ (field (.ref it) 1 >>=_) _ _ s
 refine Hc (IL ho hd (x:= .int i 0) rfl ?_)
 show wpAny _ _ (seqItems? (.ref t) >>=_) _ _ s
 refine Hc (Jn PT RY ?_)
 simp only [IQ,hx]
 refine Hc (wpAny_setField ho hd (by simp) (Hj ⟨x,rfl,Hj (hQ _ ?_ (H4 ..))⟩))
 exact⟨_,Heap.get?_update_self _ ho (Obj.isFreed_of_fields (Obj.data_mapFields hd _)),(Obj.cls_mapFields ..).trans hc,by
  rw [Obj.data_mapFields hd];simp [rawInt]⟩
theorem uo {it t:Addr}{i:Nat} {items}{Q:Value->Shared->Prop}(hh:A.handled=none)(hit:s.heap.IsTupleIter it t i)(ht:s.heap.IsTuple t items)(hx:items[i]? =none)
 (hE:∀h' e,Heap.ExtBut it s.heap h'->(∃o,h'.get? e=some o/\o.cls= .type "StopIteration")->E (.ref e) {s with heap:=h'}):wpAny (model prog w) A (Builtin.SmallTypes.nextOf (.ref it)) Q E s:=by
 refine iI (id hit) λo ho hc hd=> ?_
 obtain⟨ol,PT,_,nl,RY⟩:=ht
 unfold Builtin.SmallTypes.nextOf
 refine Hc (wpAny_callSpecial?_slot (name:=Str.ofString "__next__") hit.typeIs I1
  (Jc I1 hit.typeIs KD ?_ (Kv _)))
 show wpAny _ _ (field (.ref it) 0 >>=_) _ _ s
 refine Hc (IL ho hd (x:= .ref t) rfl ?_)
 show wpAny _ _ (if(Value.ref t==Value.none)=true then _ else _) _ _ s
 rw [if_neg (show ¬((Value.ref t==Value.none)=true) from HS)]
 show wpAny _ _ (field (.ref it) 1 >>=_) _ _ s
 refine Hc (IL ho hd (x:= .int i 0) rfl ?_)
 show wpAny _ _ (seqItems? (.ref t) >>=_) _ _ s
 refine Hc (Jn PT RY ?_)
 simp only [IQ,hx]
 refine Hc (K1 (Hc (wpAny_setField ho hd (by simp) ?_)))
 show wpAny _ _ (newExc (.type "StopIteration") [] >>=_) _ _ _
 refine Hc ?_
 simp only [newExc,newTuple]
 refine Hc (Ie ?_ (by size_fits))
 refine Hc (m:=firstArgMember _ _) (wpAny_of_eq (a:=Value.none) (by first |rfl |(simp only [firstArgMember];rfl)) ?_)
 refine Ie ?_ (by size_fits)
 refine Hc (wpAny_handled ?_)
 first |refine(show A.in1.handled=none from hh)▸?_ |rw [hh]
 exact wpAny_throw (hE _ _ (((H4 ..).extBut.push _).push _) ⟨_,Heap.get?_push_size _ rfl,rfl⟩)
theorem G8 {n i j:Nat}(h:Nat.beq i j=false): @Ne Nat (n+i) (n+j):=λe=>Nat.ne_of_beq_eq_false h (Nat.add_left_cancel e)
theorem G6 {n i:Nat}: @Ne Nat (n+(i+1)) n:=IW (Nat.lt_add_of_pos_right (Nat.succ_pos i))
theorem adr {n i:Nat}: @Ne Nat n (n+(i+1)):=H2 (Nat.lt_add_of_pos_right (Nat.succ_pos i))
theorem G5 {a n i:Nat}(h:a < n): @Ne Nat a (n+i):=H2 (Hn h (HN n i))
theorem G7 {a n:Nat}(h:a < n): @Ne Nat a n:=H2 h
structure ZT (n l1 l2:Nat)(xs ys:Array Value)(f:Value)(k:Nat)(h:Heap):Prop where
 z:IsZip h (n+4) (n+2) (n+3) f
 ti:IsPair h (n+2) (.ref n) (.ref (n+1))
 to:∃a b,IsPair h (n+3) a b
 h1:h.IsTupleIter n l1 k
 h2:h.IsTupleIter (n+1) l2 k
 t1:h.IsTuple l1 xs
 t2:h.IsTuple l2 ys
noncomputable abbrev E0 (n l1 l2:Nat):List Addr:=[n+4,n+2,n+3,n,n+1,l1,l2]
noncomputable abbrev yC (n:Nat):List Addr:=[n+4,n+3,n,n+1]
theorem ZT.at {n l1 l2:Nat}{xs ys:Array Value}{f:Value}{k:Nat}{h h':Heap}(x:ZT n l1 l2 xs ys f k h)(e:∀b∈E0 n l1 l2,∀o,h.get? b=some o->h'.get? b=some o):ZT n l1 l2 xs ys f k h' where
 z:=e _ (by grind) _ x.z
 ti:=e _ (by simp) _ x.ti
 to:=let ⟨a,b,h⟩:=x.to;⟨a,b,e _ (by simp) _ h⟩
 h1:=x.h1.at λo=>e _ (by simp) o
 h2:=x.h2.at λo=>e _ (by simp) o
 t1:=x.t1.at λo=>e _ (by simp) o
 t2:=x.t2.at λo=>e _ (by simp) o
variable {n l1 l2:Nat}{xs ys:Array Value}
theorem zf {h':Heap}{e:Addr}{Q:Option Value->Shared->Prop}(he:∃o,h'.get? e=some o/\o.cls= .type "StopIteration")(hQ:Q none {s with heap:=h'}):wpAny (model prog w) A (do
 if <-isInstance (.ref e) (.type "StopIteration") then pure none else throw (.ref e)) Q E {s with heap:=h'}:=by
 refine ae he λo ho hc=> ?_
 exact Hc (wpAny_isInstance (T:="StopIteration") (b:=true) ⟨o,ho,hc⟩ isSubtype_stop (Hj hQ))
theorem ER {h:Heap}{e m a b:Nat}{f:Value}{o:Obj}(hz:IsZip h m a b f)(ho:h.get? e=some o)(hc:o.cls= .type "StopIteration"):e≠m:=λx=>by
 subst x;replace ho:=hz▸ho;cases ho;simp at hc
theorem ZT.step (x:ZT n l1 l2 xs ys .none k s.heap)(q1:l1 < n)(q2:l2 < n){Q:Option Value->Shared->Prop}
 (H:(∃u v,xs[k]? =some u/\ys[k]? =some v/\∀h',ZT n l1 l2 xs ys (rawInt s.heap.objs.size) (k+1) h'->IsPair h' s.heap.objs.size u v->(∀b o,b∉yC n->s.heap.get? b=some o->h'.get? b=some o)->Q (some (.ref s.heap.objs.size)) {s with heap:=h'})\/(A.handled=none/\xs[k]? =none/\∀h',(∀b o,b∉yC n->s.heap.get? b=some o->h'.get? b=some o)->Q none {s with heap:=h'})):
 wpAny (model prog w) A (pyNext (.ref (n+4))) Q E s:=by
 obtain⟨hz,TN,⟨a,b,N9⟩,h1,h2,t1,t2⟩:=x
 have hT:s.TypeIs (.ref (n+4)) "zip":=⟨_,hz,rfl⟩
 refine Hc (wpAny_attempt (wpAny_callSpecial?_slot (name:=Str.ofString "__next__") hT F.slot_zip_next (Jc F.slot_zip_next hT F.entry_zip_next ?_ (F.args_zip_next_1 _))))
 show wpAny _ _ (field (.ref (n+4)) 2 >>=_) _ _ _
 refine Hc (IL hz rfl (x:= .bool false) rfl ?_)
 refine Hc (IL hz rfl (x:= .ref (n+2)) rfl ?_)
 refine Hc (Jn TN rfl ?_)
 refine Hc ?_
 refine Hc (IL hz rfl (x:= .none) rfl (Hj ?_))
 refine Hc (K1 ?_)
 refine Hc (IL hz rfl (x:= .ref (n+3)) rfl ?_)
 refine Hc (JK hz (by simp) λM9 MX LL=> ?_)
 replace MX:IsZip M9 (n+4) (n+2) (n+3) .ellipsis:=MX
 refine Hc ?_
 simp only [List.zipIdx_cons,List.zipIdx_nil,IM,JR]
 refine Hc (Hc (wpAny_onRaise ?_))
 refine H.elim (λH=> ?_) λH=>by
  refine Hc (uo H.1 (h1.extBut LL.extBut (by(refine(?_: @Ne Nat _ _);omega))) (t1.extBut LL.extBut (by(refine(?_: @Ne Nat _ _);omega))) H.2.1 λNI e LR he=> ?_)
  refine ae he λoe TG TO=> ?_
  have Ov:IsZip NI (n+4) (n+2) (n+3) .ellipsis:=LR _ _ (by(refine(?_: @Ne Nat _ _);omega)) MX
  refine JK Ov (by simp) λNK _ LV=>zf ⟨oe,LV.extBut _ _ (ER Ov TG TO) TG,TO⟩ (H.2.2 _ λc o hc x=> ?_)
  simp only [Hf,HH,It,K4] at hc
  exact LV.extBut _ _ hc.1 (LR _ _ hc.2.2.1 (LL.extBut _ _ hc.1 x))
 refine bp H λu v hu hv hQ=> ?_
 refine Hc (ml (h1.extBut LL.extBut (by(refine(?_: @Ne Nat _ _);omega))) (t1.extBut LL.extBut (by(refine(?_: @Ne Nat _ _);omega))) hu λNI PL LR=>Hj ?_)
 have Nz:IsPair NI (n+3) a b:=LR.extBut _ _ (by(refine(?_: @Ne Nat _ _);omega)) (LL.extBut _ _ (by(refine(?_: @Ne Nat _ _);omega)) N9)
 refine Hc (Jn Nz rfl ?_)
 refine Hc (wpAny_updateSeq_pair Nz λNK MS LV=> ?_)
 replace MS:IsPair NK (n+3) u b:=MS
 refine Hc (wpAny_letGo (Hj ?_))
 refine Hc (Hc (wpAny_onRaise ?_))
 refine Hc (ml (((h2.extBut LL.extBut (by(refine(?_: @Ne Nat _ _);omega))).extBut LR.extBut (by(refine(?_: @Ne Nat _ _);omega))).extBut LV.extBut (by(refine(?_: @Ne Nat _ _);omega))) (((t2.extBut LL.extBut (by(refine(?_: @Ne Nat _ _);omega))).extBut LR.extBut (by(refine(?_: @Ne Nat _ _);omega))).extBut LV.extBut (by(refine(?_: @Ne Nat _ _);omega))) hv λRn P8 MF=>Hj ?_)
 have Ny:IsPair Rn (n+3) u b:=MF.extBut _ _ (by(refine(?_: @Ne Nat _ _);omega)) MS
 refine Hc (Jn Ny rfl ?_)
 refine Hc (wpAny_updateSeq_pair Ny λL3 Mr MB=> ?_)
 replace Mr:IsPair L3 (n+3) u v:=Mr
 refine Hc (wpAny_letGo (Hj (Hj ?_)))
 refine Hc (Jn Mr rfl ?_)
 refine Hc (wpAny_newTuple ?_)
 have L9:L3.objs.size=s.heap.objs.size:=by simp only [MB.1,MF.1,LV.1,LR.1,LL.1]
 have Oj:IsZip L3 (n+4) (n+2) (n+3) .ellipsis:=MB.extBut _ _ (by(refine(?_: @Ne Nat _ _);omega)) (MF.extBut _ _ (by(refine(?_: @Ne Nat _ _);omega)) (LV.extBut _ _ (by(refine(?_: @Ne Nat _ _);omega)) (LR.extBut _ _ (by(refine(?_: @Ne Nat _ _);omega)) MX)))
 have NJ:∀c o,c∉yC n->s.heap.get? c=some o->L3.get? c=some o:=λc o hc e=>by
  simp only [Hf,HH,It,K4] at hc
  exact MB.extBut _ _ hc.2.1 (MF.extBut _ _ hc.2.2.2 (LV.extBut _ _ hc.2.1 (LR.extBut _ _ hc.2.2.1 (LL.extBut _ _ hc.1 e))))
 have Px:n+4 < L3.objs.size:=Hp Oj
 refine Hc ?_
 simp only [Builtin.SmallTypes.ownedTupleHandOut]
 have P5:IsZip (L3.push {cls:= .type "tuple",data:= .seq #[u,v]}) (n+4) (n+2) (n+3) .ellipsis:=Heap.get?_push_of_some _ Oj
 refine Hc (JK P5 (by simp) λQ4 NF OD=> ?_)
 replace NF:IsZip Q4 (n+4) (n+2) (n+3) (rawInt L3.objs.size):=NF
 refine JK NF (by simp) λNP M3 OB=> ?_
 replace M3:IsZip NP (n+4) (n+2) (n+3) (rawInt L3.objs.size):=M3
 have up:∀c o,c≠n+4->L3.get? c=some o->NP.get? c=some o:=λc o c1 e=>OB.extBut _ _ c1 (OD.extBut _ _ c1 (Heap.get?_push_of_some _ e))
 have OC:IsPair NP L3.objs.size u v:=OB.extBut _ _ (IW Px) (OD.extBut _ _ (IW Px) (Heap.get?_push_size _ rfl))
 rw [L9] at M3 OC
 refine Hj ⟨_,rfl,?_⟩
 rw [L9]
 have Sn:∀{t:Nat} {o:Obj},t < n->s.heap.get? t=some o->NP.get? t=some o:=λ{t o} ht e=>up _ _ (by(refine(?_: @Ne Nat _ _);omega)) (NJ _ _ (by have q0:t < n:=ht;simp_all;refine⟨?_,?_,?_,?_⟩ <;> (refine(?_: @Ne Nat _ _);omega)) e)
 exact Hj (hQ NP ⟨M3,up _ _ (by(refine(?_: @Ne Nat _ _);omega)) (NJ _ _ (by simp) TN),⟨_,_,up _ _ (by(refine(?_: @Ne Nat _ _);omega)) Mr⟩,(((PL.extBut LV.extBut (by(refine(?_: @Ne Nat _ _);omega))).extBut MF.extBut (by(refine(?_: @Ne Nat _ _);omega))).extBut MB.extBut (by(refine(?_: @Ne Nat _ _);omega))).at λo e=>up _ o (by(refine(?_: @Ne Nat _ _);omega)) e,(P8.extBut MB.extBut (by(refine(?_: @Ne Nat _ _);omega))).at λo e=>up _ o (by(refine(?_: @Ne Nat _ _);omega)) e,t1.at λo e=>Sn q1 e,t2.at λo e=>Sn q2 e⟩ OC λc o hc e=>up c o (by rw [Hf,K4] at hc;exact hc.1) (NJ c o hc e))
theorem ZT.walks (hh:A.handled=none)(q1:l1 < n)(q2:l2 < n)(hl:xs.size=ys.size):
 WalksU prog w A (n+4) (E0 n l1 l2) (yC n) xs.size (λi vals=>∃u v,xs[i]? =some u/\ys[i]? =some v/\vals=#[u,v]) (λi h=>ZT n l1 l2 xs ys .none i h) (λi T h=>ZT n l1 l2 xs ys (rawInt T) (i+1) h/\T∉yC n) where
 sub:=λc hc=>by
  simp only [Hf,HH,It] at hc
  rcases hc with rfl |rfl |rfl |rfl <;> grind
 frame:=λi h h' x e=>x.at e
 item:=λi s Q E hi x hQ=>by
  have lt:∀{c o},s.heap.get? c=some o->s.heap.objs.size≠c:=λe=>IW (Hp e)
  refine x.step q1 q2 (.inl ⟨_,_,Array.getElem?_eq_getElem hi,Array.getElem?_eq_getElem (hl▸hi),λh' x' hp hk=> ?_⟩)
  refine hQ s.heap.objs.size #[xs[i],ys[i]] h' s.toks ⟨_,_,Array.getElem?_eq_getElem hi,Array.getElem?_eq_getElem (hl▸hi),rfl⟩ ⟨_,hp,rfl,_,rfl⟩ ⟨x',?_⟩ hk
  refine fC x.to λa b N9=> ?_
  refine ae x.h1 λ_ e1 _=> ?_
  refine ae x.h2 λ_ e2 _=> ?_
  have b1:=lt x.z;have b2:=lt N9;have b3:=lt e1;have b4:=lt e2
  simp only [Hf,HH,It,K4]
  exact⟨b1,b2,b3,b4⟩
 go:=λelts k pos i T s Q E hm hQ=>by
  obtain⟨x,hT⟩:=hm
  refine fC x.to λa b N9=> ?_
  refine wpAny_letOwnedTupleGo_zip x.z λh' M0 L2=>hQ h' ⟨M0,L2.extBut _ _ (by(refine(?_: @Ne Nat _ _);omega)) x.ti,⟨a,b,L2.extBut _ _ (by(refine(?_: @Ne Nat _ _);omega)) N9⟩,x.h1.extBut L2.extBut (by(refine(?_: @Ne Nat _ _);omega)),x.h2.extBut L2.extBut (by(refine(?_: @Ne Nat _ _);omega)),x.t1.extBut L2.extBut (by(refine(?_: @Ne Nat _ _);omega)),x.t2.extBut L2.extBut (by(refine(?_: @Ne Nat _ _);omega))⟩ λc o hc e=>L2.extBut _ _ (by rw [Hf,K4] at hc;exact hc.1) e
 apart:=λi T h hm=>hm.2
 done:=λs Q E x hQ=>x.step q1 q2 (.inr ⟨hh,Array.getElem?_eq_none (Hh _),λh' hk=>hQ h' s.toks hk⟩)
 self:=λi s Q E x hQ=>wpAny_pyIter_zip x.z hQ
noncomputable abbrev Fe (h:Heap) (l1:Addr):Heap:=h.push {cls:= .type "tuple_iterator",data:= .fields #[.ref l1,.int 0 0]}
noncomputable abbrev Fd (h:Heap) (l1 l2:Addr):Heap:=(Fe h l1).push {cls:= .type "tuple_iterator",data:= .fields #[.ref l2,.int 0 0]}
noncomputable abbrev EZ (h:Heap) (l1 l2:Addr):Heap:=(Fd h l1 l2).push {cls:= .type "tuple",data:= .seq #[.ref h.objs.size,.ref (Fe h l1).objs.size]}
noncomputable abbrev Fc (h:Heap) (l1 l2:Addr):Heap:=(EZ h l1 l2).push {cls:= .type "tuple",data:= .seq #[.none,.none]}
noncomputable abbrev DG (h:Heap) (l1 l2:Addr):Heap:=(Fc h l1 l2).push {cls:= .type "zip",data:= .fields #[.none,.bool false,.bool false,.ref (Fd h l1 l2).objs.size,.ref (EZ h l1 l2).objs.size]}
theorem qC (l1 l2:Addr)(xs ys:Array Value):
 Meets (Builtin.«zip.__new__» ⟨[.type "zip",.ref l1,.ref l2],[]⟩) (λ_ R s=>s.heap.IsTuple l1 xs/\s.heap.IsTuple l2 ys/\R (.ok (.ret (.ref (Fc s.heap l1 l2).objs.size))) {s with heap:=DG s.heap l1 l2}):=
 .of_wp λprog w A R s h=>by
  obtain⟨hp,g,d,tk,os⟩:=s;refine cZ h λNW Pb h=> ?_
  have MU:=sub_zip
  have VH:Heap.IsTuple (Shared.heap ⟨hp.push {cls:= .type "tuple_iterator",data:= .fields #[.ref l1,.int 0 0]},g,d,tk,os⟩) l2 ys:=Heap.IsTuple.push Pb _
  wp_walk using KC NW,KC VH
  exact⟨_,rfl,h⟩
theorem ZT.new (h1:s.heap.IsTuple l1 xs)(h2:s.heap.IsTuple l2 ys){Q:Value->Shared->Prop}
 (h:∀h',ZT s.heap.objs.size l1 l2 xs ys .none 0 h'->h'.objs.size=s.heap.objs.size+5->(∀c o,s.heap.get? c=some o->h'.get? c=some o)->Q (.ref (s.heap.objs.size+4)) {s with heap:=h'}):
 wpAny (model prog w) A (call (.type "zip") [.ref l1,.ref l2]) Q E s:=by
 refine callType_new F.called_zip (by rfl) (F.typeCall_zip_2 _ _) (F.newCall_zip_2 _ _) (λobj=>F.args_object_init_3 obj _ _) F.entry_zip_new (qC l1 l2 xs ys) ⟨h1,h2,?_⟩
 have z1:(Fe s.heap l1).objs.size=s.heap.objs.size+1:=HU ..
 have z2:(Fd s.heap l1 l2).objs.size=s.heap.objs.size+2:=by rw [HU,z1]
 have z3:(EZ s.heap l1 l2).objs.size=s.heap.objs.size+3:=by rw [HU,z2]
 have z4:(Fc s.heap l1 l2).objs.size=s.heap.objs.size+4:=by rw [HU,z3]
 have g5:(DG s.heap l1 l2).get? (Fc s.heap l1 l2).objs.size=some _:=Heap.get?_push_size _ rfl
 have g4:(DG s.heap l1 l2).get? (EZ s.heap l1 l2).objs.size=some _:=Heap.get?_push_of_some _ (Heap.get?_push_size _ rfl)
 have g3:(DG s.heap l1 l2).get? (Fd s.heap l1 l2).objs.size=some _:=Heap.get?_push_of_some _ (Heap.get?_push_of_some _ (Heap.get?_push_size _ rfl))
 have g2:(DG s.heap l1 l2).get? (Fe s.heap l1).objs.size=some _:=Heap.get?_push_of_some _ (Heap.get?_push_of_some _ (Heap.get?_push_of_some _ (Heap.get?_push_size _ rfl)))
 have up:∀c o,s.heap.get? c=some o->(DG s.heap l1 l2).get? c=some o:=λc o x=>Heap.get?_push_of_some _ (Heap.get?_push_of_some _ (Heap.get?_push_of_some _ (Heap.get?_push_of_some _ (Heap.get?_push_of_some _ x))))
 rw [z2,z3,z4] at g5
 rw [z1,z2] at g3
 rw [z3] at g4
 rw [z1] at g2
 rw [z4]
 exact⟨⟨_,g5,rfl⟩,h _ ⟨g5,g3,⟨_,_,g4⟩,⟨_,(Heap.get?_push_of_some _ (Heap.get?_push_of_some _ (Heap.get?_push_of_some _ (Heap.get?_push_of_some _ (Heap.get?_push_size _ rfl))))),rfl,rfl⟩,⟨_,g2,rfl,rfl⟩,h1.at λo=>up _ o,h2.at λo=>up _ o⟩ (by rw [HU,z4]) up⟩
def sT (C:Cfg)(sc:Sc):Prop:=∃t∈C.tabs,sc.code= .ref t.1/\sc.qual ++ "<genexpr>"=t.2.2
theorem Az (ok:C.Ok)(i:Inv C s)(L8:AX sc env)(L:sT C sc):wpAny C.M A (genexprCode env pos (env.qual ++ "<genexpr>") scope) (λ_ J=>ah C [] s J/\∃h' tk,J={s with heap:=h',toks:=tk}) (λ_ _=>False) s:=by
 refine iI L λt ht NU hq=> ?_
 refine aL (i.tabs t ht) λLu more hT hN=> ?_
 have Pe:t.2.1∈C.aq:=He.mpr ⟨t,ht,rfl⟩
 have Mh:env.code= .ref t.1:=by rw [L8.code];exact NU
 cases hC:codeAmong pos (Lu ++ more).toList with
 |some cv=>
  refine xw hN.code λo vs op ho hd U7 NA Ub _ _ _=> ?_
  delta genexprCode PySem.codeAt
  rw [Mh,if_neg (show ¬((Value.ref t.1==Value.none)=true) from HS)]
  refine Hc (wpAny_fieldsOf ho hd ?_)
  refine U7▸?_
  refine Hc (wpAny_fieldsOf NA Ub ?_)
  refine hC▸?_
  exact Hj ⟨ah.refl _,s.heap,s.toks,rfl⟩
 |none=>
  refine wpAny_genexprCodeX Mh hN.code hN.tab hC λc' h' tk hx Ra Ll _ OW Sh _=> ?_
  have M4:=hN.snoc (pos:=pos) hx Sh.2 ((by refine L8.qual▸?_;exact hq:env.qual ++ "<genexpr>"=t.2.2)▸OW)
  refine⟨⟨λa o h1 _ g=>hx a o (λq=>h1 (q▸Pe)) g,Hg Ra (H3 Ll),λt' M' MK x=> ?_,rfl,id⟩,h',tk,rfl⟩
  by_cases hP:t'.2.1=t.2.1
  ·obtain rfl:=ok.inj t' M' t ht hP
   obtain rfl:MK=Lu ++ more:=by
    have h1:=x.tab.2
    replace h1:=hN.tab.2▸h1
    cases h1;rfl
   exact⟨_,M4⟩
  ·exact⟨#[],(x.vW hN hx (λq=>ok.noCode t' M' (q▸Pe)) hP)⟩
theorem qz {h:Heap}:∀{xs:List Int}{vs:List Value},vs.length=xs.length->(∀j v,vs[j]? =some v->∃t,v=Value.int (xs.getD j 0) t)->fe C W h vs (xs.map .int)
 |[],[],_,_=>rfl
 |[],_::_,h,_=>by cases h
 |_::_,[],h,_=>by cases h
 |x::xs,v::vs,h,hp=>by
  obtain⟨t,rfl⟩:=hp 0 v rfl
  exact⟨_,vs,rfl,⟨t,rfl⟩,qz (Nat.succ.inj h) λj u hu=>by
   obtain⟨t,h⟩:=hp (j+1) u hu
   exact⟨t,(h)⟩⟩
theorem se {h:Heap}:∀{xs:List Int}{vs:List Value}{j:Nat}{v:Value},fe C W h vs (xs.map .int)->vs[j]? =some v->∃t,v=Value.int (xs.getD j 0) t
 |[],vs,j,v,r,hv=>by
  have:vs=[]:=r
  subst this;cases hv
 |x::xs,vs,j,v,⟨v0,Qz,e,r0,r⟩,hv=>by
  subst e
  cases j with
  |zero=>obtain⟨t,rfl⟩:=r0;cases hv;exact⟨t,rfl⟩
  |succ j=>obtain⟨t,h⟩:=se r (j:=j) hv;exact⟨t,(h)⟩
theorem ZT.EH {h:Heap}{n l1 l2:Nat}{xs ys:Array Value}{f:Value}{j:Nat}(z:ZT n l1 l2 xs ys f j h):∀b∈yC n,∀(o:Obj)(vs:Array Value)(q:Str)(t:Tok),h.get? b=some o->o.data= .fields vs->vs[1]? =some (.str q t)->False:=by
 refine memC (λo vs q t g2 g3 g4=> ?_) (memC (λo vs q t g2 g3 g4=> ?_) (memC (λo vs q t g2 g3 g4=> ?_) (memC (λo vs q t g2 g3 g4=> ?_) λ_ h=>nomatch h)))
 ·replace g2:=z.z▸g2;cases g2;cases g3;cases g4
 ·refine fC z.to λa b N9=> ?_
  replace g2:=N9▸g2;cases g2;cases g3
 ·refine iI z.h1 λoa ha _ da=> ?_
  replace g2:=ha▸g2;cases g2;replace g3:=da▸g3;cases g3;cases g4
 ·refine iI z.h2 λob hb _ db=> ?_
  replace g2:=hb▸g2;cases g2;replace g3:=db▸g3;cases g3;cases g4
theorem bO.zt {h h':Heap}{n l1 l2:Nat}{xs ys:Array Value}{f:Value}{j:Nat}{c P:Addr}{q:Str}{ps:Array Value}(x:bO h c P q ps)(z:ZT n l1 l2 xs ys f j h)(hc: @LT.lt Nat _ c n)(hP: @LT.lt Nat _ P n)(k:∀b o,b∉yC n->h.get? b=some o->h'.get? b=some o):bO h' c P q ps:=by
 have kn:∀{b:Nat} {o:Obj},b < n->h.get? b=some o->h'.get? b=some o:=λ{b o} hb g=>k b o (by
  simp_all
  refine⟨?_,?_,?_,?_⟩ <;> (refine(?_: @Ne Nat _ _);omega)) g
 have e1:h'.get? c=h.get? c:=by
  refine aL x.tab.1 λo vs g _=> ?_
  exact(kn hc g).trans g.symm
 have e2:h'.get? P=h.get? P:=(kn hP x.tab.2).trans x.tab.2.symm
 refine⟨by unfold Heap.IsCode;refine e1▸e2▸?_;exact x.code,by unfold Heap.TableAt;refine e1▸e2▸?_;exact x.tab,λpos c' e=> ?_⟩
 obtain⟨c₂,o2,Py,t2,g1,g2,g3,g4⟩:=x.recs pos c' e
 refine⟨c₂,o2,Py,t2,g1,k _ _ ?_ g2,g3,g4⟩
 exact λhm=>z.EH _ hm _ _ _ _ g2 g3 g4
theorem Moved.aA {n l1 l2:Nat}{xs ys:Array Value}{f:Value}{j g:Nat}{s MA s₅ Qp:Shared}{C':Addr}(i:Inv C s)(e:ah C [] s MA)(hn: @LE.le Nat _ s.heap.objs.size n)(z:ZT n l1 l2 xs ys f j MA.heap)(hC: @LE.le Nat _ s.heap.objs.size C')
 (h5:∀b o,MA.heap.get? b=some o->s₅.heap.get? b=some o)(TV:s₅.os=MA.os)(VJ:AllBare MA.gens->AllBare s₅.gens)(hm:PySem.Moved (C'::yC n) (GenOnlyQ g) s₅ Qp)(SX:MA.heap.get? C'=none):ah C [] s Qp where
 keep a o h1 h2 hg:=by
  have Ll: @LT.lt Nat _ a s.heap.objs.size:=Hp hg
  refine hm.heap a o ?_ (h5 a o (e.keep a o h1 h2 hg))
  simp_all
  refine⟨?_,?_,?_,?_,?_⟩ <;> (refine(?_: @Ne Nat _ _);omega)
 size:=Hg (Hg hn (H3 (IX (HN n 2) (Hp (hm.heap _ _ (by
  simp only [Hf,HH,It,K4]
  refine⟨?_,?_,?_,?_,?_⟩
  ·rintro rfl;exact nomatch z.ti.symm.trans SX
  all_goals (refine(?_: @Ne Nat _ _);omega)) (h5 _ _ z.ti)))))) (Hh _)
 tabs t ht ps x:=by
  obtain⟨more,x'⟩:=e.tabs t ht ps x
  have hl:=x.lt
  refine⟨more,x'.zt z (Hn hl.1 hn) (Hn hl.2 hn) λb o hb g=>hm.heap b o ?_ (h5 b o g)⟩
  intro q
  rcases Hf.mp q with rfl |q
  ·replace g:=SX▸g;cases g
  ·exact hb q
 os:=hm.os.trans (TV.trans e.os)
 gens h:=hm.gens.bare (VJ (e.gens h))
theorem ZT.lt {n l1 l2:Nat}{xs ys:Array Value}{f:Value}{j:Nat}{h:Heap}(z:ZT n l1 l2 xs ys f j h):∀b∈E0 n l1 l2,b < h.objs.size:=by
 refine fC z.to λta tb N9=> ?_
 refine ae z.h1 λo1 i1 _=> ?_
 refine ae z.h2 λo2 i2 _=> ?_
 refine ae z.t1 λo3 i3 _=> ?_
 refine ae z.t2 λo4 i4 _=> ?_
 exact memC (Hp z.z) (memC (Hp z.ti) (memC (Hp N9) (memC (Hp i1) (memC (Hp i2) (memC (Hp i3) (memC (Hp i4) λ_ h=>nomatch h))))))
theorem ZT.aA {n l1 l2:Nat}{xs ys:Array Value}{f:Value}{j:Nat}{s J:Shared}(z:ZT n l1 l2 xs ys f j s.heap)(e:ah C [] s J)(ht:∀a∈C.aq, @LT.lt Nat _ a n)(n1:l1∉C.aq)(n2:l2∉C.aq):ZT n l1 l2 xs ys f j J.heap:=by
 have k:∀b,b∉C.aq->∀o,s.heap.get? b=some o->J.heap.get? b=some o:=λb hb o g=>e.keep b o hb (λh=>nomatch h) g
 have q:∀i,n+i∉C.aq:=λi h=>Hs.mpr (HN n i) (ht _ h)
 exact z.at (memC (k _ (q 4)) (memC (k _ (q 2)) (memC (k _ (q 3)) (memC (k _ (q 0)) (memC (k _ (q 1)) (memC (k _ n1) (memC (k _ n2) λ_ h=>nomatch h)))))))
def Bb (us:List Value)(xs:List Int):Prop:=us.length=xs.length/\∀i v,us[i]? =some v->∃t,v=Value.int (xs.getD i 0) t
theorem vi {zn:Str}{zp OR OY:Pos}{e1 e2:Expr}{xs ys:List Int}{R:Value->Value->Addr->Shared->Prop}(ok:C.Ok)(G:sT C sc)(hz:Ev C k sc own ρ (.Name zn zp) (.raw (.type "zip")))
 (RN:ab C k sc own ρ [e1,e2] [.tup (xs.map .int),.tup (ys.map .int)])
 (Nu:∀env,starEach [e1,e2] env=(false,eval e1 env)::starEach [e2] env)(LU:∀env,(backTo OR (starEach [e2] env)).any (·.1)=false)(rm:ak A k)(X:St C W sc own ρ env s)
 (hR:∀n l1 l2 us ws code bi J,ah C [] s J-> @LE.le Nat _ s.heap.objs.size n->l1 < n->l2 < n->ZT n l1 l2 us.toArray ws.toArray .none 0 J.heap->Bb us xs->Bb ws ys->R (.ref (n+4)) code bi J):
 wpAny C.M A (eval (.Call (.Name zn zp) [e1,e2] [] OR) env) (λxv f'=>wpAny C.M A (pyIter xv) (λit y'=>y'.heap.NoLimit/\wpAny C.M A (genexprCode env OY (env.qual ++ "<genexpr>") scope) (λcode H'=>wpAny C.M A (builtinsFor env.globals env.builtins) (λbi MA=>R it code bi MA) E H') E y') E f') E s:=by
 refine Iu (Hb (hz W A env s rm X) ?_ λ_ _ q=>q.elim)
 rintro v s2 ⟨PK,r2⟩
 obtain rfl:v= .type "zip":=r2
 have X2:=X.aA PK
 refine Ky (Hb (RN W A env s2 OR rm X2) ?_ λ_ _ q=>q.elim) (Nu env) (LU env)
 rintro vs s3 ⟨e3',r3⟩
 have X3:=X2.aA e3'
 refine bp r3.inv2 λva vb G' ra rb=> ?_;simp only [G']
 refine g8 ra λl1 us G' n1 g1 q1=> ?_;refine G'▸?_
 refine g8 rb λl2 ws G' n2 g2 q2=> ?_;refine G'▸?_
 refine ZT.new (xs:=us.toArray) (ys:=ws.toArray) ⟨_,g1,rfl,_,rfl⟩ ⟨_,g2,rfl,_,rfl⟩ λh4 z4 U1 k4=> ?_
 have TF:ah C [] s3 {s3 with heap:=h4}:=ah.of_keeps (tk:=s3.toks) k4 (by simp only [U1];exact HN _ _)
 have X4:=X3.aA TF
 refine wpAny_pyIter_zip z4.z ⟨X4.inv.nolimit ok,?_⟩
 refine Hb (Az ok X4.inv X4.ok G) ?_ λ_ _ q=>q.elim
 rintro code s5 ⟨Pn,h5,tk5,rfl⟩
 have X5:=X4.aA Pn
 have hg:=X5.inv.ns ok.gT ok.g
 simp only [<-X.ok.globals] at hg
 obtain⟨bm,ob,b1,b2,b3,b4,b5,c1,c2,c3⟩:=ok.bmain
 exact wpAny_builtinsFor hg b1 b2 (X5.inv.old _ _ b4 b5) c1 c2 c3 (hR _ l1 l2 us ws _ _ _ (((PK.trans e3').trans TF).trans Pn) ((PK.trans e3').size) (Hp g1) (Hp g2) (z4.aA (s:={s3 with heap:=h4}) Pn (λa h=>X3.inv.fV a h) (λq=>n1 (.inl q)) (λq=>n2 (.inl q)))
  ⟨by simpa using aQ.length q1,λi v h=>se q1 h⟩ ⟨by simpa using aQ.length q2,λi v h=>se q2 h⟩)
theorem Ev.BH {tn zn xa xb:Str}{tp zp p1 p2 p3 pa pb pt OY OR:Pos}{kt:Nat}{e1 e2:Expr}{xs ys:List Int}(ok:C.Ok)(G:sT C sc)(hf:Ev C k sc own ρ (.Name tn tp) (.raw (.type "tuple")))(hz:Ev C k sc own ρ (.Name zn zp) (.raw (.type "zip")))
 (RN:ab C k sc own ρ [e1,e2] [.tup (xs.map .int),.tup (ys.map .int)])(hl:xs.length=ys.length)(L9:xs.length<=sizeLine)
 (PJ:scope.isCoroutine=false)(Sw:∀y∈scope.names,y.2≠.cell/\y.2≠.free)(h0:scope.names.lookup (".0":Str)=some NameKind.local)(S7:scope.names.lookup xa=some .local)(Ti:scope.names.lookup xb=some .local)(My:xa≠xb)(LF:scope.kind= .function)
 (OH:(xa==("__debug__":Str))=false)(U6:(xb==("__debug__":Str))=false)
 (Nu:∀env,starEach [e1,e2] env=(false,eval e1 env)::starEach [e2] env)(LU:∀env,(backTo OR (starEach [e2] env)).any (·.1)=false)
 (hs:∀env x,genFold (.Call (.Name zn zp) [e1,e2] [] OR) env x=pure x):
 Ev C k sc own ρ (.Call (.Name tn tp) [.GeneratorExp (.BinOp (.Name xa p1) .Add (.Name xb p2) p3) [⟨.Tuple [.Name xa pa,.Name xb pb] kt pt,.Call (.Name zn zp) [e1,e2] [] OR,[],0⟩] scope OY] [] pos) (.tup ((List.zipWith (·+·) xs ys).map .int)):=λW A env s rm X=>by
 have N4:∀env elt gens scope pos,starEach [.GeneratorExp elt gens scope pos] env=[(false,eval (.GeneratorExp elt gens scope pos) env)]:=λ_ _ _ _ _=>by fail
 refine Iu (Hb (hf W A env s rm X) ?_ λ_ _ q=>q.elim)
 rintro v s1 ⟨P2,r1⟩
 obtain rfl:v= .type "tuple":=r1
 have X1:=X.aA P2
 refine PySem.callWith_type ?_ ?_
 ·rfl
 refine JS (Jq ?_)
 refine wpAny_GeneratorExp_walksQT rm.handled PJ (cl:=aT env.cells scope.names []) (eg λx hx hf=>absurd hf (Sw x hx).2) (λy hy=>(Sw y hy).1) h0 S7 Ti My LF (by have:=rm.depth;show A.depth < 1000;lia) (vi ok G hz RN Nu LU rm X1 λn l1 l2 us ws code bi s5 Pn Qa NW Pb z5 U V=> ?_) (hs env)
 have hu:us.length=xs.length:=U.1
 have hw:ws.length=ys.length:=V.1
 have V3: @LT.lt Nat _ cStatics n:=by
  refine ae (X1.inv.nolimit ok) λ_ h _=> ?_
  exact Hn h.lt Qa
 have QM:cStatics∉yC n:=by
  simp_all
  refine⟨?_,?_,?_,?_⟩ <;> (refine(?_: @Ne Nat _ _);omega)
 have NM:passing (λ_=>true) us.toArray.size 0=List.range us.toArray.size:=by simp [passing]
 refine⟨n+4,E0 n l1 l2,yC n,us.toArray.size,_,_,_,λ_=>true,λi y=>∃t,y=Value.int ((List.zipWith (·+·) xs ys).getD i 0) t,rfl,λA' hA=>ZT.walks hA NW Pb (by simp [hu,hw,hl]),λi vals h=>by refine bp h λu v _ _ h=> ?_;exact⟨u,v,h⟩,z5,?_,(X1.aA Pn).inv.nolimit ok,QM,λU' hk=>⟨?_,?_⟩,λa h6 Uw gs Qy ha UL k6 Wk st=> ?_⟩
 ·exact z5.lt
 ·intro A' E' i va vb y' m₂ hA hP hN h1 h2 PM
  exact Hj ⟨rfl,y'.heap,y'.toks,rfl,λ_ _ e=>e⟩
 ·intro A' E' i va vb y' m₂ hA hP VU hN h1 h2 PM
  refine bp hP λu v QY UA he=> ?_
  obtain⟨rfl,rfl⟩:va=u/\vb=v:=by simpa using Hx Array.toList he
  obtain⟨ta,rfl⟩:=U.2 i _ (by simpa using QY)
  obtain⟨tb,rfl⟩:=V.2 i _ (by simpa using UA)
  have V2:i < xs.length:=by refine hu▸?_;have:=(List.getElem?_eq_some_iff.mp (by simpa using QY:us[i]? =_)).1;exact this
  have VM:(List.zipWith (·+·) xs ys).getD i 0=xs.getD i 0+ys.getD i 0:=by
   simp_all
  refine wpAny_BinOp (KY (Jv LF S7 hN h1 ?_) OH)
  refine KY (Jv LF Ti hN h2 ?_) U6
  exact wpAny_add_int ⟨⟨_,by rw [VM]⟩,y'.heap,_,rfl,λ_ _ e=>e⟩
 ·refine JY ?_
  have TL:=P2.trans Pn
  have TR:∀b∈a::s5.heap.objs.size::List.range s5.heap.objs.size,b < h6.objs.size:=by
   intro b hb
   rw [UL]
   rcases Hf.mp hb with rfl |hb
   ·exact Io _
   ·rcases Hf.mp hb with rfl |hb
    ·exact KU ha
    ·exact KU (Kf (Hu.mp hb) ha)
  refine call_tuple_gen Wk.in4_3 (λi s st=>st.1.typeIs) st TR G9 (λs7 acc hm Mp=> ?_) (by rw [NM,I5,Ig,hu];exact L9)
  have e7:ah C [] s s7:=Moved.aA (s₅:={s5 with gens:=s5.gens.push gs,toks:=Uw,heap:=h6}) X.inv TL (Hg P2.size Qa) z5 (C':=s5.heap.objs.size) TL.size (by exact k6) (by rfl) (by exact λh=>h.push Qy) hm (by
   cases q:s5.heap.get? s5.heap.objs.size with
   |none=>rfl
   |some o=>exact absurd (Hp q) (HB _))
  refine⟨e7.trans (ah.push _ s7.toks),s7.heap.objs.size,acc.toList,rfl,λq=> ?_,by exact Heap.get?_push_size _ rfl,qz ?_ λj v hv=> ?_⟩
  ·rcases q with q |q
   ·exact absurd ((X.aA e7).inv.fV _ q) (HB _)
   ·exact absurd ((X.aA e7).low _ q) (HB _)
  ·simp only [Array.length_toList,Mp.1,NM]
   simp [hu,hl]
  ·obtain⟨i,hi,t,ht⟩:=Mp.2 j v (by simpa using hv)
   replace hi:=NM▸hi
   obtain⟨Ll,rfl⟩:=List.getElem?_eq_some_iff.mp hi
   rw [List.getElem_range] at ht
   exact⟨t,ht⟩
set_option maxRecDepth 4000
noncomputable abbrev Eu:Str:="add_callers.<locals>."
noncomputable abbrev tupI (q:List Int):PV:= .tup (q.map .int)
noncomputable abbrev fS (es:List (Str×List Int)):List (Str×PV):=es.map λe=>(e.1,tupI e.2)
noncomputable abbrev kY:= @bW (List Int) (λn c=>List.zipWith (·+·) c n)
noncomputable abbrev c9:= @hZ (List Int) (λn c=>List.zipWith (·+·) c n)
theorem lW {es:List (Str×List Int)}{x:Str}:(fS es).lookup x=(es.lookup x).map tupI:=lookup_map2 (f:=tupI)
theorem xY (n c:List Int)(hn:n.length=4)(hc:c.length=4):(List.zipWith (·+·) c n).length=4:=by simp only [List.length_zipWith,hn,hc];rfl
theorem lE {tg sr:List (Str×List Int)}(h:∀e∈tg,e.2.length=4)(h':∀e∈sr,e.2.length=4):∀e∈c9 tg sr,e.2.length=4:=sY (P:=λq:List Int=>q.length=4) xY h' (td (P:=λq:List Int=>q.length=4) h)
theorem cC.B9 {ps:List PV}:cC C k (.builtin "isinstance") [.tup ps,.raw (.type "tuple")] (.bool true):=λW A s vs rm g r=>by
 refine bp r.inv2 λv u G' h1 h2=> ?_;refine G'▸?_
 refine g8 h1 λa us G' na ga ra=> ?_;refine G'▸?_
 obtain rfl:u= .type "tuple":=h2
 exact PySem.IsiPair.tuple_tuple ga rfl ⟨ah.refl _,rfl⟩
structure Dx (C:Cfg)(fa:Addr)(body:List Stmt)(S:Scope)(pa:Arguments)(q:Str)(code:Value):Prop where
 ex:∃fd,FnAt C fa fd body/\fd.scope=S/\fd.params=pa/\fd.defaults= .none/\fd.qualname ++ ".<locals>."=q/\fd.code=code
 tab:∃t∈C.tabs,code= .ref t.1/\q ++ "<genexpr>"=t.2.2
theorem Dx.pX {fa:Addr}{body:List Stmt}{S:Scope}{pa:Arguments}{q:Str}{code:Value}{xs:List Str}{ps:List PV}{r:PV}(qs:List (Str×PV))(ok:C.Ok)(F:Dx C fa body S pa q code)(hP:l4 pa xs)(hn:∀x∈xs,S.names.lookup x=some .local\/S.names.lookup x=some .cell)(hl:ps.length=xs.length)(Oe:xs.zip ps=qs)
 (K':own'.map (·.1)=own.map (·.1))
 (h:∀W A env s t Wt,ak A k->St C W ⟨S,q,code⟩ own (aC qs) env s->Bs C Wt (λ_=>true) t own env s->
  wpAny C.M A (execs body env) (λf J=>(∃sc J',St C W sc own' J' env J)/\Bs C Wt (λ_=>true) t own' env J/\Rr C W J.heap (match f with | .ret v=>v |_=> .none) r) (λ_ _=>False) s):
 gX C (k+1) own own' (.ref fa) ps [] r:=λW A s vs kvs rm g ho r1 r2=>by
 subst Oe
 rw [r2.i7]
 refine EC F.ex λfd F Lz Ob Oh hq PJ=> ?_
 have OU:vs.length=xs.length:=by rw [aQ.length r1,hl]
 have Ly:(xs.zip vs).map (·.1)=xs:=J6 (by simp_all)
 refine dF (own:=own) (args:=⟨vs,[]⟩) ok F g ho rm (me (by rw [Ob];exact hP) Oh OU) (r1.zip hl.symm) (by rw [Ly];exact hP.nd) (λy hy=> ?_) ?_
 ·refine Lz▸?_
  exact hn _ (by have:y.1∈(xs.zip vs).map (·.1):=He.mpr ⟨y,hy,rfl⟩;rwa [Ly] at this)
 intro Lo env J hL X B A' L5
 have X':St C (Lo::W) ⟨S,q,code⟩ own (aC (xs.zip ps)) env J:=by
  simp only [<-Lz,<-hq,<-PJ];exact X
 refine Hb (h _ A' env J _ _ L5 X' B) ?_ λ_ _ q=>q
 intro f Lv zz;refine cZ zz λz3 B2 rr=> ?_;refine fC z3 λsc J' X2=> ?_
 refine⟨B2.aA,?_,rr.drop λa ha=>Ha _ ha⟩
 have x2:ez C (Lo::W) own' Lv:=X2.owns
 refine x2.drop λy hy=> ?_
 have:y.1∈own'.map (·.1):=He.mpr ⟨y,hy,rfl⟩
 rw [K'] at this
 refine ae (He.mp this) λz hz e=> ?_
 refine e▸?_
 exact(ho z hz).1
theorem zV (L:Lx C f3)(F:Dx C 56 (ay tb 3) (ai tb 3) (bP tb 3) Eu (.ref 55)){tg sr:List (Str×List Int)}(hz:tg.length<=1000)(M0:sr.length<=1000)(h4:∀e∈tg,e.2.length=4)(R9:∀e∈sr,e.2.length=4):aN C (k+1) own (.ref 56) [.au (fS tg),.au (fS sr)] [] (.au (fS (c9 tg sr))):=by
 have L':=L.L
 refine(Dx.pX (k:=k) (own:=[]) (own':=[]) (xs:=["target","source"]) [("target",.au (fS tg)),("source",.au (fS sr))] L'.ok F ⟨rfl,rfl,rfl,rfl,rfl,by decide+kernel⟩ (by decide+kernel) rfl rfl rfl λW A env s t Wt rm X B=> ?_).EP
 have T7:sT C ⟨ai tb 3,Eu,.ref 55⟩:=F.tab
 refine sC (v:=tupI) (P:=λq:List Int=>q.length=4) L'.ok hz M0 xY h4 R9 ?_ rm X B
 intro W A env s t Wt ow a f x c n S E Q rm hc hn hl hq Ma X B next
 conv in Bo=>whnf
 with_reducible refine step_if (b:=true) X B rm (Tr.plain (Ev.a6 (by intros) (by intros) cC.B9) Th.bool (λ_ _=>by fail)) ?_
 intro s5 X5 B5
 refine(if_pos rfl)▸?_
 with_reducible refine dq (a:=a) (es:=fS f) (p:=tupI (List.zipWith (·+·) c n)) X5 B5 rm (Ev.BH (xs:=c) (ys:=n) L'.ok T7 (by intros) (by intros) (ab.cons ?g1 (ab.cons (Ev.bh (x:=x) (es:=fS f) (Ev.do ?g2 Ma) ?g3 ?g6 (λ_ _=>by fail)) ab.nil)) (hc.trans hn.symm) ?g7 (by fail) (by with_unfolding_all decide+kernel) (by fail) (by fail) (by fail) (by decide+kernel) (by fail) (by fail) (by fail) (λenv=>by fail) (λenv=>by fail) (λenv x=>by fail)) (by intros) (by intros) Ma ?g5 (by fail) ?g4
 case g4=>
  intro s6 X6 B6
  exact Hk (Hk (next s6 X6 B6))
 case g5=>rw [Hd];exact Hg hl (by decide)
 case g6=>simp only [lW,hq];rfl
 case g7=>rw [hc];decide
 all_goals with_reducible intros
structure aO where
 a:Int
 b:Int
 c:Int
 d:Int
 es:List (Str×List Int)
noncomputable def aO.pv (b:aO):PV:= .tup [.int b.a,.int b.b,.int b.c,.int b.d,.au (fS b.es)]
noncomputable def aO.add (t s:aO):aO:=⟨s.a+t.a,s.b+t.b,s.c+t.c,s.d+t.d,c9 t.es s.es⟩
theorem zk (L:Lx C f3)(FG:Dx C 56 (ay tb 3) (ai tb 3) (bP tb 3) Eu (.ref 55)){t s:aO}(hz:t.es.length<=1000)(M0:s.es.length<=1000)(h4:∀e∈t.es,e.2.length=4)(R9:∀e∈s.es,e.2.length=4):aN C (k+2) own (.ref 49) [t.pv,s.pv] [] (t.add s).pv:=by
 have L':=L.L
 refine kP.call (xs:=["target","source"]) [("target",t.pv),("source",s.pv)] L'.ok L.af ⟨rfl,rfl,rfl,rfl,rfl,by decide+kernel⟩ (by decide+kernel) rfl rfl λW A env J t' Wt q code rm X B=> ?_
 conv in ay _ _=>whnf
 with_reducible refine i6 (p:= .tup [.int s.a,.int s.b,.int s.c,.int s.d,.au (fS s.es)]) X B rm (by intros) (bg.tuple (bD.cons (bg.local (by done)) (bD.cons (bg.local (by done)) (bD.cons (bg.local (by done)) (bD.cons (bg.local (by done)) (bD.cons (bg.local (by done)) bD.nil (λenv=>rfl)) (λenv=>rfl)) (λenv=>rfl)) (λenv=>rfl)) (λenv=>rfl)) (λenv=>by with_unfolding_all exact⟨rfl,rfl⟩)) (by fail) (by fail) ?_
 intro s1 X1 B1
 with_reducible refine i6 (p:= .tup [.int t.a,.int t.b,.int t.c,.int t.d,.au (fS t.es)]) X1 B1 rm (by intros) (bg.tuple (bD.cons (bg.local (by done)) (bD.cons (bg.local (by done)) (bD.cons (bg.local (by done)) (bD.cons (bg.local (by done)) (bD.cons (bg.local (by done)) bD.nil (λenv=>rfl)) (λenv=>rfl)) (λenv=>rfl)) (λenv=>rfl)) (λenv=>rfl)) (λenv=>by with_unfolding_all exact⟨rfl,rfl⟩)) (by fail) (by fail) ?_
 intro s2 X2 B2
 with_reducible refine cw (p:= .tup [.int (s.a+t.a),.int (s.b+t.b),.int (s.c+t.c),.int (s.d+t.d),.au (fS (c9 t.es s.es))]) X2 B2 rm (Ev.tuple (ab.cons (by intros) (ab.cons (by intros) (ab.cons (by intros) (ab.cons (by intros) (ab.cons (Ev.du (by intros) L.ac.fo (by intros) bR.nil (zV L FG hz M0 h4 R9)) ab.nil))))) (Ho (by fail))) ?_
 intro v J X' B' r
 exact⟨⟨_,_,X'⟩,B',r⟩
set_option maxRecDepth 100000
section
open AutoSeq1 (wpAny_loadPart')
open PySem.MeetsSeq PySem.MeetsSeq2 PySem.MeetsSeq3 PySem.SeqRoads2 PySem.SeqAt
def Cj (prog:Program)(w:World)(A:Around)(s:Shared)(y x:Value):Prop:=
 ∀(E:Value->Shared->Prop) (Q:Bool->Shared->Prop),Q true s->wpAny (model prog w) A (eqBool y x) Q E s
def MeetsIn (prog:Program)(w:World)(t:Sem Fin)(S:PySem.Spec):Prop:=
 ∀(A:Around) (R:Result->Shared->Prop) (s:Shared),S A R s->
  wpAny (model prog w) A.in1 t (λfin J=>match fin with | .done f=>R (.ok f) J | .again c'=>c'.quiet=true/\codeAny (model prog w) A c' R J) (λe J=>R (.error e) J) s
theorem uH {prog:Program}{w:World}(l b:Addr)(items I':Array Value)(n n2:Nat)(dd N2:Option Addr)(sl N6:Array (Option Value))(L9:items.size=I'.size)(k:Nat):
 ∀i:Nat,items.size - i=k->MeetsIn prog w (Builtin.«list.__eq__.loop» ⟨[.ref l,.ref b,rawInt i,rawInt 3],[]⟩)
  (λA R s=>s.heap.get? l=some {cls:= .type "list",dict:=dd,data:= .seq items n,slots:=sl}/\s.heap.get? b=some {cls:= .type "list",dict:=N2,data:= .seq I' n2,slots:=N6}/\
   (∀j (h1:j < items.size) (h2:j < I'.size),Cj prog w A.in1 s items[j] I'[j])/\
   R (.ok (.ret (.bool false))) s):=by
 induction k with
 |zero=>
  intro i hk A R s h
  obtain⟨hp,g,d,tk,os⟩:=s;refine l0 h λhl hb he h=> ?_
  wp_walk using wpAny_loadPart' hl,wpAny_loadPart' hb
  have Ph:items[((i:Nat):Int).toNat]? =none:=by simp;exact Kc hk
  have Pu:I'[((i:Nat):Int).toNat]? =none:=by simp;simp_all
  simp only [Ph,Pu]
  wp_walk using wpAny_loadPart' hl,wpAny_loadPart' hb
  show R (.ok (.ret (.bool (items.size !=I'.size)))) _
  refine L9▸?_
  simpa using h
 |succ k ih=>
  intro i hk A R s h
  obtain⟨hp,g,d,tk,os⟩:=s;refine l0 h λhl hb he h=> ?_
  wp_walk using wpAny_loadPart' hl,wpAny_loadPart' hb
  have Ll:i < items.size:=by exact J8 hk
  have Nb:i < I'.size:=by simp_all
  refine((by simp [Ll]:items[((i:Nat):Int).toNat]? =some items[i]))▸((by simp [Nb]:I'[((i:Nat):Int).toNat]? =some I'[i]))▸?_
  refine Hc (he i Ll Nb _ _ ?_)
  wp_walk
  refine((by push_cast;rfl:((i:Int)+1)=((i+1:Nat):Int)))▸?_
  exact⟨KP plain_eq_loop _,Kg entry_eq_loop (by
   refine(Jt plain_eq_loop _)▸?_
   exact ih (i+1) (by grind -splitIndPred) A R _ ⟨hl,hb,he,h⟩)⟩
theorem t7 {prog:Program}{w:World}(l b:Addr)(items I':Array Value)(n n2:Nat)(dd N2:Option Addr)(sl N6:Array (Option Value))(L9:items.size=I'.size):
 MeetsIn prog w (Builtin.«list.__ne__» ⟨[.ref l,.ref b],[]⟩)
  (λA R s=>s.heap.get? l=some {cls:= .type "list",dict:=dd,data:= .seq items n,slots:=sl}/\s.heap.get? b=some {cls:= .type "list",dict:=N2,data:= .seq I' n2,slots:=N6}/\
   (∀j (h1:j < items.size) (h2:j < I'.size),Cj prog w A.in1 s items[j] I'[j])/\
   R (.ok (.ret (.bool false))) s):=by
 intro A R s h
 obtain⟨hp,g,d,tk,os⟩:=s;refine l0 h λhl hb he h=> ?_
 have f3:=AutoSeq1.sub_list_list
 wp_walk using wpAny_loadPart' hl,wpAny_loadPart' hb
 exact⟨KP plain_eq_loop _,Kg entry_eq_loop (by
  refine(Jt plain_eq_loop _)▸?_
  exact uH l b items I' n n2 dd N2 sl N6 L9 _ 0 rfl A R _ ⟨hl,hb,he,h⟩)⟩
theorem jv {α:Type}{x:Str}{v:α}:∀{l:List (Str×α)},(l.map (·.1)).Nodup->(x,v)∈l->l.lookup x=some v
 |[],_,h=>by cases h
 |(y,u)::l,hn,h=>by
  rw [Hm,Ht] at hn
  simp only [Hl]
  rcases Hf.mp h with hh |hh
  ·injection hh with h1 h2
   simp only [h1,h2,Im]
  ·have:(x==y)=false:=by
    rw [JC]
    rintro rfl
    exact hn.1 (He.mpr ⟨(x,v),hh,rfl⟩)
   refine this▸?_
   exact jv hn.2 hh
theorem lA {s:Shared}{Mw:List (Str×PV)}{kb:List (Str×Value)}(rb:bz C.S (C.N W) s.heap kb Mw)(nd:(Mw.map (·.1)).Nodup)(hu:A.in1.units+64 < cLine)(L8:∀e∈Mw,kK e.2):
 ∀{es:List (Str×PV)} {ka:List (Str×Value)},bz C.S (C.N W) s.heap ka es->(∀e∈es,e∈Mw)->KeqHits A.in1 s kb ka true
 |[],ka,ra,_=>by
  rw [show ka=[] from ra]
  exact .nil
 |(x,p)::es,ka,ra,hs=>by
  refine bp ra λv r e hv hr=> ?_
  subst e
  have h1:Mw.lookup x=some p:=jv nd (hs _ G9)
  have hp:=L8 _ (hs _ G9)
  refine ae (bz.find rb h1) λy hy RG=> ?_
  obtain⟨as,r1⟩:=Rp.reads hv hp.1
  obtain⟨bs,r2⟩:=Rp.reads RG hp.1
  have h2:=keq_at r1 r2 hp.2 hp.2 hu
  simp only [mJ hp.1] at h2
  have:=KeqHits.hit hy h2 (lA rb nd hu L8 hr λe he=>hs e (Ha _ he))
  rwa [Jy] at this
theorem rO (hu:A.in1.units+64 < cLine){v u:Value}{es:List (Str×PV)}(L8:∀e∈es,kK e.2)(hv:Rr C W s.heap v (.au es))(QY:Rr C W s.heap u (.au es)):Cj C.prog C.w A s v u:=λE Q h=>by
 obtain⟨a,ds,n,kvs,rfl,_,ga,sa,ra⟩:=hv
 obtain⟨b,Qn,n',Mm,rfl,_,gb,sb,rb⟩:=QY
 refine HV ?_
 refine wpAny_ite_split (λMy=>Hc (K1 (Hj h))) (λ_=> ?_)
 have nd:(es.map (·.1)).Nodup:=by
  have:=sb.2.2.2
  rwa [bz.keys rb] at this
 have Vj:A.units < cLine:=by
  lia
 refine Hc (show wpAny _ _ (compareOp .Eq (.ref a) (.ref b)) _ _ _ from keq_eq (r:=true) (iP sa) (iP sb) (aU ga sa) (aU gb sb) Vj (λ_=>lA rb nd hu L8 ra λe he=>he) ?_)
 rw [(by simp only [bz.length ra,bz.length rb]:kvs.length=Mm.length),Im,Jy]
 exact KQ h
theorem aj.pY {xs:List (List (Str×PV))}(L8:∀es∈xs,∀e∈es,kK e.2):aj C (compareOp .NotEq) (.lst (xs.map .au)) (.lst (xs.map .au)) (.bool false):=λW A s v u rm g h1 h2=>by
 refine gm h1 λa vs n L1 _ ga ra=> ?_;refine L1▸?_
 refine gm h2 λb us n2 L1 _ gb rb=> ?_;refine L1▸?_
 have hu:A.units+64 < cLine:=rm.deep
 have NW:=aQ.length ra
 have ta:s.TypeIs (.ref a) "list":=⟨_,ga,rfl⟩
 refine wpAny_richCompare_same_room (op:= .NotEq) ta (⟨_,gb,rfl⟩) Lg (K0 (codeAny_call_builtin Lg.plain F.entry_list_ne (Lg.check _ _ _ _ _ _ _ _ ta (F.args_list_ne_2 _ _) (t7 a b vs.toArray us.toArray n n2 none none #[] #[] (by simp [NW,(aQ.length rb)]) A (wants (λv J=>v≠.notImplemented/\(ah C [] s J/\Rr C W J.heap v (.bool false))) (λ_ _=>False)) s ⟨ga,gb,λj q1 q2=> ?_,?_⟩)))) (by exact J0 hu)
 ·have Vz:j < vs.length:=by simpa using q1
  have hj:j < xs.length:=by simpa [NW] using Vz
  have hp:(xs.map PV.au)[j]? =some (.au xs[j]):=by simp [hj]
  refine ae (aQ.get ra hp) λv' e1 r1=> ?_
  refine ae (aQ.get rb hp) λu' e2 r2=> ?_
  have P2:vs.toArray[j]=v':=by
   have:=(List.getElem?_eq_some_iff.mp e1).2
   simpa using this
  have PK:us.toArray[j]=u':=by
   have:=(List.getElem?_eq_some_iff.mp e2).2
   simpa using this
  simp only [P2,PK]
  exact rO (by have:=rm.units;show A.units+1+1+64 < 9900;lia) (L8 _ (IG hj)) r1 r2
 ·exact⟨(λx=>nomatch x),ah.refl _,rfl⟩
end
set_option maxRecDepth 4000
theorem qh {α:Type}(l:List α)(a b:Nat):fb (some (a:Int)) (some (b:Int)) l=(l.take b).drop a:=by
 unfold fb
 simp only [Option.elim_some,clipAt_nat]
 rw [List.take_eq_take_iff.mpr (show min (min b l.length) l.length=min b l.length from I0 (Jw _ _))]
 by_cases h:a<=l.length
 ·rw [I0 h]
 ·have h1:l.length<=a:=Nat.le_of_not_le h
  have h2:(l.take b).length<=l.length:=Ki ..
  rw [K7 h1,Jj h2,Jj (Hg h2 h1)]
structure LS where
 line:List Str
 known:List Str
 steps:List (Str×List Str)
 book:List (Str×aO)
noncomputable def cB {α:Type} (f:α->PV) (es:List (Str×α)):List (Str×PV):=es.map λe=>(e.1,f e.2)
theorem lZ {α:Type}(f:α->PV)(es:List (Str×α))(x:Str)(a:α):putD (cB f es) x (f a)=cB f (bo es x a):=by
 delta putD bo cB
 refine JN▸?_
 have:((λ(e:Str×PV)=>decide (e.1=x))∘λ(e:Str×α)=>(e.1,f e.2))=λe=>decide (e.1=x):=rfl
 rw [this]
 split
 ·simp only [Hq]
  apply HY
  intro e _
  simp only [Function.comp]
  split <;> rfl
 ·simp
theorem dw {α:Type}(f:α->PV){es:List (Str×α)}{x:Str}:(cB f es).lookup x=(es.lookup x).map f:=lookup_map2 (f:=f)
theorem mi {α:Type}(f:α->PV)(es:List (Str×α)):(cB f es).length=es.length:=Hd _
noncomputable def cq (l:List Str):PV:= .lst (l.map .str)
noncomputable def eD:aO:=⟨0,0,0,0,[]⟩
noncomputable def wJ (cs:List Int) (j:Nat):Int:=(aV cs).getD j 0
noncomputable def bt (cs:List Int) (order goal:Str) (j:Nat):List Int:=[if goal=order then 1 else 0,1,wJ cs j, -wJ cs j]
noncomputable def a6 (cs:List Int) (order goal:Str) (j:Nat):aO:=⟨if goal=order then 1 else 0,1,wJ cs j, -wJ cs j,[(order,bt cs order goal j)]⟩
noncomputable def LS.new (S:LS) (goal:Str):LS:=if goal∈S.known then S else⟨S.line ++ [goal],cO dA true S.known goal,S.steps,bo S.book goal eD⟩
noncomputable def LS.add (cs:List Int) (S:LS) (order goal:Str) (j:Nat):LS:={S.new goal with book:=bo (S.new goal).book goal ((((S.new goal).book.lookup goal).getD eD).add (a6 cs order goal j))}
noncomputable abbrev bQ (pre:Own) (bk st kn ln:Addr) (S:LS):Own:=pre ++ [(bk,.au (cB aO.pv S.book)),(st,.au (cB cq S.steps)),(kn,cq S.known),(ln,cq S.line)]
structure oY (pre:Own)(bk st kn ln:Addr):Prop where
 p:∀y∈pre,y.1≠bk/\y.1≠st/\y.1≠kn/\y.1≠ln
 a:bk≠st
 b:bk≠kn
 c:bk≠ln
 d:st≠kn
 e:st≠ln
 f:kn≠ln
variable {pre:Own}{bk st kn ln:Addr}
theorem jh {a:Addr}{own:Own}{q:PV}(h:∀y∈pre,y.1≠a):aE (pre ++ own) a q=pre ++ aE own a q:=by
 unfold aE
 simp only [Hr]
 congr 1
 refine(HY λy hy=> ?_).trans (J1 _)
 rw [if_neg (h y hy)];rfl
theorem rJ {a:Addr}{own:Own}(h:∀y∈pre,y.1≠a):List.lookup a (pre ++ own)=List.lookup a own:=by
 rw [H6]
 have:List.lookup a pre=none:=Ih.mpr λy hy=>by simpa using (h y hy).symm
 rw [this]
 rfl
theorem oY.vz (A:oY pre bk st kn ln)(p q r t u:PV):aE (pre ++ [(bk,p),(st,q),(kn,r),(ln,t)]) bk u=pre ++ [(bk,u),(st,q),(kn,r),(ln,t)]:=by
 rw [jh λy hy=>(A.p y hy).1]
 congr 1
 simp [aE,HE A.a,HE A.b,HE A.c]
theorem oY.Ci (A:oY pre bk st kn ln)(p q r t u:PV):aE (pre ++ [(bk,p),(st,q),(kn,r),(ln,t)]) st u=pre ++ [(bk,p),(st,u),(kn,r),(ln,t)]:=by
 rw [jh λy hy=>(A.p y hy).2.1]
 congr 1
 simp [aE,A.a,HE A.d,HE A.e]
theorem oY.F3 (A:oY pre bk st kn ln)(p q r t u:PV):aE (pre ++ [(bk,p),(st,q),(kn,r),(ln,t)]) kn u=pre ++ [(bk,p),(st,q),(kn,u),(ln,t)]:=by
 rw [jh λy hy=>(A.p y hy).2.2.1]
 congr 1
 simp [aE,A.b,A.d,HE A.f]
theorem oY.F6 (A:oY pre bk st kn ln)(p q r t u:PV):aE (pre ++ [(bk,p),(st,q),(kn,r),(ln,t)]) ln u=pre ++ [(bk,p),(st,q),(kn,r),(ln,u)]:=by
 rw [jh λy hy=>(A.p y hy).2.2.2]
 congr 1
 simp [aE,A.c,A.e,A.f]
theorem oY.get3 (A:oY pre bk st kn ln)(p q r t:PV):List.lookup kn (pre ++ [(bk,p),(st,q),(kn,r),(ln,t)])=some r:=by
 rw [rJ λy hy=>(A.p y hy).2.2.1]
 simp [Hl,HC (HE A.b),HC (HE A.d)]
theorem m1 {p q r t:PV}:(bk,p)∈pre ++ [(bk,p),(st,q),(kn,r),(ln,t)]:=by simp
theorem m2 {p q r t:PV}:(st,q)∈pre ++ [(bk,p),(st,q),(kn,r),(ln,t)]:=by simp
theorem m3 {p q r t:PV}:(kn,r)∈pre ++ [(bk,p),(st,q),(kn,r),(ln,t)]:=by simp
theorem m4 {p q r t:PV}:(ln,t)∈pre ++ [(bk,p),(st,q),(kn,r),(ln,t)]:=by simp
theorem kR {a b:Str}(h:a.cps.toList=b.cps.toList):a=b:=by
 cases a
 cases b
 exact Hx Str.mk (La.mp h)
theorem vq {l:List Str}(hs:jU dA l)(hn:l.Nodup)(x:Str):(l.take (bN dA true l x)).drop (bN dA false l x)=if x∈l then [x] else []:=by
 have Oo:∀y∈(l.take (bN dA true l x)).drop (bN dA false l x),y=x:=λy hy=>by
  obtain⟨i,hi,rfl⟩:=Ij.mp hy
  rw [Jb,H8] at hi
  have Ll:bN dA false l x+i < l.length:=by grind -splitIndPred
  rw [I4,JX]
  have h1:=d5 oV hs (x:=x) (List.getElem?_eq_getElem Ll)
  have h2:=fM oV hs (x:=x) (List.getElem?_eq_getElem Ll)
  rw [HJ (by omega)] at h1
  rw [HJ (by simp)] at h2
  have:(l[bN dA false l x+i]).cps.toList=x.cps.toList:=List.le_antisymm (JB.mp (Ik h1)) (JB.mp (Ik h2))
  exact kR this
 have O':((l.take (bN dA true l x)).drop (bN dA false l x)).Nodup:=((JV _ _).trans (Jm _ _)).nodup hn
 split
 ·rename_i hx
  obtain⟨i,hi,rfl⟩:=Ij.mp hx
  have h1:=d5 oV hs (x:=l[i]) (List.getElem?_eq_getElem hi)
  have h2:=fM oV hs (x:=l[i]) (List.getElem?_eq_getElem hi)
  simp only [(by unfold dA;exact HJ (List.lt_irrefl _):dA l[i] l[i]=false)] at h1 h2
  have b1:=Ik h1.symm
  have b2:=Ik h2.symm
  have Ma:l[i]∈(l.take (bN dA true l l[i])).drop (bN dA false l l[i]):=by
   refine Ij.mpr ⟨i - bN dA false l l[i],by rw [Jb,H8];omega,?_⟩
   rw [I4,JX]
   congr 1
   omega
  match hq:(l.take (bN dA true l l[i])).drop (bN dA false l l[i]),Ma,Oo,O' with
  |[y],_,Oo,_=>rw [Oo y G9]
  |y::z::r,_,Oo,O'=>
   exact absurd ((Oo y G9).trans (Oo z (by simp)).symm) (by rw [Ht] at O';exact λe=>O'.1 (e▸G9))
 ·rename_i hx
  match hq:(l.take (bN dA true l x)).drop (bN dA false l x) with
  |[]=>rfl
  |y::r=>
   rw [hq] at Oo
   exact absurd ((Oo y G9)▸((J5 _ _) ((List.drop_subset _ _) (hq▸G9))):x∈l) hx
theorem FN (L:Lw C){aa:Addr}{l:List Str}{x:Str}(hw:own.lookup aa=some (cq l))(hs:jU dA l)(hz:l.length<=sizeLine):aN C (k+1) own (.ref wh) [.raw (.ref aa),.str x] [] (.int (bN dA false l x)):=aN.frozen 2 trivial L.ok λC' le=>by
 rw [show dM (bH own 2) [.raw (.ref aa),.str x]=[.lst (l.map .str),.str x] from by
  simp only [lg,k8,e8 (es:=l.map .str) hw,eM];rfl]
 exact GR (L.le le) hs hz
theorem Fz (L:Lw C){aa:Addr}{l:List Str}{x:Str}(hw:own.lookup aa=some (cq l))(hs:jU dA l)(hz:l.length<=sizeLine):aN C (k+1) own (.ref wx) [.raw (.ref aa),.str x] [] (.int (bN dA true l x)):=aN.frozen 2 trivial L.ok λC' le=>by
 rw [show dM (bH own 2) [.raw (.ref aa),.str x]=[.lst (l.map .str),.str x] from by
  simp only [lg,k8,e8 (es:=l.map .str) hw,eM];rfl]
 exact GQ (L.le le) hs hz
noncomputable abbrev F9:List Stmt:=cG (ay tb 18) 19
noncomputable abbrev Fy (n:Nat):List Stmt:=List.drop n (cG F9 0)
noncomputable abbrev qD (n:Nat):List Stmt:=List.drop n (cG (cG F9 0) 1)
noncomputable abbrev oK (cs:List Int) (bk st kn ln:Addr):List (Str×PV):=("book",.raw (.ref bk))::("steps",.raw (.ref st))::("known",.raw (.ref kn))::("line",.raw (.ref ln))::DH cs
noncomputable abbrev lJ (cs:List Int) (bk st kn ln:Addr) (o:Str) (j:Nat):List (Str×PV):=("j",.int ((0:Int)+(j:Int)))::("order",.str o)::oK cs bk st kn ln
theorem CT (L:Lx C f3){cs:List Int}{bk st kn ln:Addr}{o g:Str}{gs:List Str}{j:Nat}{S:LS}(Ml:S.steps.lookup o=some gs)(hg:gs[j]? =some g)(hj:j < 3)(rm:ak A (k+1))(X:St C W SL (bQ pre bk st kn ln S) (aC (lJ cs bk st kn ln o j)) env s)(B:Bs C Wt (λ_=>true) t (bQ pre bk st kn ln S) env s)
 (next:∀J,St C W SL (bQ pre bk st kn ln S) (aC (("goal",.str g)::lJ cs bk st kn ln o j)) env J->Bs C Wt (λ_=>true) t (bQ pre bk st kn ln S) env J->wpAny C.M A (execs (qD 1) env) Q E J):
 wpAny C.M A (execs (qD 0) env) Q E s:=by
 have hl:(cB cq S.steps).lookup o=some (.lst (gs.map .str)):=by rw [dw,Ml];rfl
 have Rq:(gs.map PV.str)[j]? =some (.str g):=by rw [List.getElem?_map,hg];rfl
 conv in qD _=>whnf
 with_reducible
  refine az (p:= .str g) X B rm (Ev.item (n:=j) (Ev.l (xs:=gs.map .str) (Ev.bh (x:=o) (es:=cB cq S.steps) (Ev.do ?_ m2) ?_ hl (λ_ _=>by fail))) ?_ (by lia) Rq (by lia) (λ_ _=>by fail)) (by done) (by fail) ?n1
 case n1=>
  intro s1 X1 B1
  with_reducible have h9:=next _ (X1.to (by k_extra"rs")) B1
  conv at h9 in qD _=>whnf
  with_reducible exact h9
 all_goals with_reducible intros
noncomputable abbrev lG (cs:List Int) (bk st kn ln:Addr) (o g:Str) (j:Nat):List (Str×PV):=("goal",.str g)::lJ cs bk st kn ln o j
theorem CG (L:Lx C f3){cs:List Int}{bk st kn ln:Addr}{o g:Str}{j:Nat}{S:LS}(Ap:oY pre bk st kn ln)(hs:jU dA S.known)(hn:S.known.Nodup)(QU:S.known.length<=1000)(Om:S.line.length<=1000)(SA:S.book.length<=1000)(UZ:PyData.strOk g=true)(rm:ak A (k+2))(X:St C W SL (bQ pre bk st kn ln S) (aC (lG cs bk st kn ln o g j)) env s)(B:Bs C Wt (λ_=>true) t (bQ pre bk st kn ln S) env s)
 (next:∀J,St C W SL (bQ pre bk st kn ln (S.new g)) (aC (lG cs bk st kn ln o g j)) env J->Bs C Wt (λ_=>true) t (bQ pre bk st kn ln (S.new g)) env J->wpAny C.M A (execs (qD 2) env) Q E J):
 wpAny C.M A (execs (qD 1) env) Q E s:=by
 have L':=L.L
 have LK:sizeLine=16777216:=rfl
 refine ae L'.bL.ex λ_ Fl _=> ?_
 refine ae L'.br.ex λ_ Fr _=> ?_
 refine ae L'.ir.ex λ_ Fi _=> ?_
 have Te:=GG (k:=k) (own:=bQ pre bk st kn ln S) (x:=g) L' (Ap.get3 _ _ _ _) hs (by omega)
 rw [Ap.F3] at Te
 have NN:fb (some ((bN dA false S.known g:Nat):Int)) (some ((bN dA true S.known g:Nat):Int)) (S.known.map PV.str)=((if g∈S.known then [g] else []).map PV.str):=by
  rw [qh,<-Jz,<-KN,vq hs hn]
 have PD:kK (.lst [.str g]):=dh (n:=1) (by simp [lT,yx,UZ]) (by decide)
 have Ud:aj C (compareOp .NotEq) (.lst ((if g∈S.known then [g] else []).map PV.str)) (.lst [.str g]) (.bool (decide (g∉S.known))):=by
  by_cases q:g∈S.known
  ·rw [if_pos q]
   exact(aj.fB PD).conv (by simp [q])
  ·rw [if_neg q]
   exact(aj.Gp iu PD).conv (by simp [q];rfl)
 conv in qD _=>whnf
 with_reducible
  refine step_if (b:=decide (g∉S.known)) X B rm (Tr.cmp (Ev.conv (Ev.conv (Ev.eB (i:=some ((bN dA false S.known g:Nat):Int)) (j:=some ((bN dA true S.known g:Nat):Int)) (l:=none) (Ev.lo (xs:=S.known.map .str) (a:=kn) ?_ m3) (eh.some (Ev.du ?_ Fl.fo ?_ bR.nil (FN (k:=k+1) (own:=bQ pre bk st kn ln S) (x:=g) L' (Ap.get3 _ _ _ _) hs (by omega)))) (eh.some (Ev.du ?_ Fr.fo ?_ bR.nil (Fz (k:=k+1) (own:=bQ pre bk st kn ln S) (x:=g) L' (Ap.get3 _ _ _ _) hs (by omega)))) eh.kc (by decide) (by rw [Hd];omega) (λ_ _=>⟨_,by fail⟩) (λ_ _=>by fail)) (Hx PV.lst (dI _ _ _))) (Hx PV.lst NN)) ?_ Ud Th.bool (by decide+kernel)) ?n1
 case n1=>
  intro s1 X1 B1
  by_cases q:g∈S.known
  ·have hS:S.new g=S:=if_pos q
   rw [if_neg (by simp [q])]
   rw [hS] at next
   with_reducible have h9:=next _ X1 B1
   conv at h9 in qD _=>whnf
   refine Hk ?_
   with_reducible exact h9
  ·have hS:S.new g=⟨S.line ++ [g],cO dA true S.known g,S.steps,bo S.book g eD⟩:=if_neg q
   rw [if_pos (by simp [q])]
   replace next:=hS▸next
   with_reducible
    refine bY X1 B1 rm (fx.call ?_ Fi.fo ?_ bR.nil Te ((λp q r t u=>by simp:∀(p q r t u:PV),(pre ++ [(bk,p),(st,q),(kn,u),(ln,t)]).map (·.1)=(pre ++ [(bk,p),(st,q),(kn,r),(ln,t)]).map (·.1)) _ _ _ _ _) (λenv=>⟨_,_,by fail⟩) (λenv=>by fail)) (λ_=>by fail) ?n2
   case n2=>
    intro s2 X2 B2
    with_reducible
     refine bY X2 B2 rm (fx.append (xs:=S.line.map .str) (p:= .str g) ?_ m4 ?_ (by rw [Hd];lia) (λ_=>by fail) (λ_=>by fail) (by fail) (λ_=>by fail) (λ_=>by fail)) (λ_=>by fail) ?n3
    case n3=>
     intro s3 X3 B3
     rw [Ap.F6] at X3 B3
     with_reducible
      refine dq (a:=bk) (es:=cB aO.pv S.book) (x:=g) (p:= .tup [.int 0,.int 0,.int 0,.int 0,.au []]) X3 B3 rm (Ev.tuple (ab.cons ?_ (ab.cons ?_ (ab.cons ?_ (ab.cons ?_ (ab.cons Ev.kC ab.nil))))) (Ho (by fail))) ?_ ?_ m1 (by rw [mi];lia) (by fail) ?n4
     case n4=>
      intro s4 X4 B4
      simp only [Ap.vz,show PV.tup [.int 0,.int 0,.int 0,.int 0,.au []]=aO.pv eD from rfl,lZ,show S.line.map PV.str ++ [.str g]=(S.line ++ [g]).map PV.str from by rw [Hr];rfl] at X4 B4
      have h9:=next _ X4 B4
      conv at h9 in qD _=>whnf
      refine Hk ?_
      with_reducible exact h9
     all_goals with_reducible intros
    all_goals with_reducible intros
   all_goals with_reducible intros
 all_goals with_reducible intros
theorem zS (q:List Int):kK (tupI q):=dh (n:=1) (by simp [CU,Af]) (by decide)
theorem vQ (es:List (Str×List Int)):∀e∈fS es,kK e.2:=λe he=>by
 refine ae (He.mp he) λe' _ G'=> ?_;subst G'
 exact zS _
theorem j7 (cs:List Int){j:Nat}(hj:j < 3):((aV cs).map PV.int)[j]? =some (.int (wJ cs j)):=int_at (by assumption)
noncomputable abbrev jx (cs:List Int) (o g:Str) (j:Nat):PV:= .au (fS [(o,bt cs o g j)])
noncomputable abbrev mx (cs:List Int) (b:aO) (o g:Str) (j:Nat):List PV:=[.au (fS b.es),jx cs o g j,.au (fS b.es),jx cs o g j]
theorem CS (L:Lx C f3){cs:List Int}{bk st kn ln:Addr}{o g:Str}{j:Nat}{S:LS}{b:aO}(hb:S.book.lookup g=some b)(RQ:b.es.length<=1000)(hj:j < 3)(rm:ak A (k+2))(X:St C W SL (bQ pre bk st kn ln S) (aC (lG cs bk st kn ln o g j)) env s)(B:Bs C Wt (λ_=>true) t (bQ pre bk st kn ln S) env s)
 (next:∀J,St C W SL (bQ pre bk st kn ln S) (aC (("kept",.lst (mx cs b o g j))::("call",jx cs o g j)::lG cs bk st kn ln o g j)) env J->Bs C Wt (λ_=>true) t (bQ pre bk st kn ln S) env J->wpAny C.M A (execs (qD 4) env) Q E J):
 wpAny C.M A (execs (qD 2) env) Q E s:=by
 have L':=L.L
 have LK:sizeLine=16777216:=rfl
 have e0:((0:Int)+(j:Int))=(j:Int):=by lia
 have hw:=j7 cs hj
 have QE:(cB aO.pv S.book).lookup g=some (.tup [.int b.a,.int b.b,.int b.c,.int b.d,.au (fS b.es)]):=by simp only [dw,hb];rfl
 have Nk:PV.int (if(g==o)=true then 1 else 0)= .int (if g=o then 1 else 0):=by simp
 have h4:[PV.int b.a,.int b.b,.int b.c,.int b.d,.au (fS b.es)][4]? =some (.au (fS b.es)):=rfl
 conv in qD _=>whnf
 with_reducible
  refine az (p:=jx cs o g j) X B rm (Ev.wA (ks:=[_]) (es:=[(o,.tup [.int (if g=o then 1 else 0),.int 1,.int (wJ cs j),.int (-wJ cs j)])]) (by fail) (by fail) (λenv=>by fail) (ck.cons ?_ (Ev.tuple (ab.cons (Ev.conv (Ev.mh ?_ (ab.cons (Ev.cmp ?_ ?_ aj.F1 (by decide+kernel)) ab.nil) cC.EK) Nk) (ab.cons Ev.int (ab.cons (Ev.item (n:=j) (Ev.l (xs:=(aV cs).map .int) ?_) ?_ e0 hw (by lia) (λ_ _=>by fail)) (ab.cons (Ev.un (Ev.item (n:=j) (Ev.l (xs:=(aV cs).map .int) ?_) ?_ e0 hw (by lia) (λ_ _=>by fail)) One.neg) ab.nil)))) (Ho (by fail))) ck.nil) (by fail) (by fail)) (by done) (by fail) ?n1
 case n1=>
  intro s1 X1 B1
  with_reducible
   refine az (p:= .lst (mx cs b o g j)) (X1.to (l:=("call",jx cs o g j)::lG cs bk st kn ln o g j) (by k_extra"rs")) B1 rm (Ev.list (ab.cons (Ev.mh ?_ (ab.cons (Ev.b9 (n:=4) (Ev.t (xs:=[.int b.a,.int b.b,.int b.c,.int b.d,.au (fS b.es)]) (Ev.bh (x:=g) (es:=cB aO.pv S.book) (Ev.do ?_ m1) ?_ QE (λ_ _=>by fail))) Ev.int (by fail) h4 (by decide) (λ_ _=>by fail)) ab.nil) (cC.dict (by rw [Hd];lia))) (ab.cons (Ev.mh ?_ (ab.cons ?_ ab.nil) (cC.dict (by rw [Hd];exact Ho rfl))) (ab.cons (Ev.b9 (n:=4) (Ev.t (xs:=[.int b.a,.int b.b,.int b.c,.int b.d,.au (fS b.es)]) (Ev.bh (x:=g) (es:=cB aO.pv S.book) (Ev.do ?_ m1) ?_ QE (λ_ _=>by fail))) Ev.int (by fail) h4 (by decide) (λ_ _=>by fail)) (ab.cons ?_ ab.nil)))) (Ho (by fail))) (by done) (by fail) ?n2
  case n2=>
   intro s2 X3 B2
   with_reducible have h9:=next _ (X3.to (by k_extra"rs")) B2
   conv at h9 in qD _=>whnf
   with_reducible exact h9
  all_goals with_reducible intros
 all_goals with_reducible intros
theorem CW (L:Lx C f3)(FG:Dx C 56 (ay tb 3) (ai tb 3) (bP tb 3) Eu (.ref 55)){cs:List Int}{bk st kn ln:Addr}{o g:Str}{j:Nat}{S:LS}{b:aO}(Ap:oY pre bk st kn ln)(hb:S.book.lookup g=some b)(RQ:b.es.length<=900)(Oz:∀e∈b.es,e.2.length=4)(hz:S.book.length<=1000)(rm:ak A (k+2))(X:St C W SL (bQ pre bk st kn ln S) (aC (("kept",.lst (mx cs b o g j))::("call",jx cs o g j)::lG cs bk st kn ln o g j)) env s)(B:Bs C Wt (λ_=>true) t (bQ pre bk st kn ln S) env s)
 (next:∀J,St C W SL (bQ pre bk st kn ln {S with book:=bo S.book g (b.add (a6 cs o g j))}) (aC (("order",.str o)::oK cs bk st kn ln)) env J->Bs C Wt (λ_=>true) t (bQ pre bk st kn ln {S with book:=bo S.book g (b.add (a6 cs o g j))}) env J->wpAny C.M A (execs [] env) Q E J):
 wpAny C.M A (execs (qD 4) env) Q E s:=by
 have L':=L.L
 have LK:sizeLine=16777216:=rfl
 have QE:(cB aO.pv S.book).lookup g=some b.pv:=by simp only [dw,hb];rfl
 have Mc:(fS [(o,bt cs o g j)]).lookup o=some (tupI (bt cs o g j)):=by
  show List.lookup o [(o,tupI (bt cs o g j))]=_
  simp [Hl]
 have VO:aN C (k+2) (bQ pre bk st kn ln S) (.ref 49) [b.pv,(a6 cs o g j).pv] [] (b.add (a6 cs o g j)).pv:=zk L FG (by lia) (by show 1<=1000;decide) Oz (by
  intro e he
  rw [Hi.mp he]
  rfl)
 have t1:fb none (some 2) (mx cs b o g j)=[fS b.es,fS [(o,bt cs o g j)]].map .au:=by
  rw [show (some 2:Option Int)=some ((2:Nat):Int) from rfl,jk];rfl
 have t2:fb (some 2) none (mx cs b o g j)=[fS b.es,fS [(o,bt cs o g j)]].map .au:=by
  rw [show (some 2:Option Int)=some ((2:Nat):Int) from rfl,ip];rfl
 have Lr:aj C (compareOp .NotEq) (.lst ([fS b.es,fS [(o,bt cs o g j)]].map .au)) (.lst ([fS b.es,fS [(o,bt cs o g j)]].map .au)) (.bool false):=aj.pY λes he=>by
  rcases Hf.mp he with rfl |he
  ·exact vQ _
  ·refine(Hi.mp he)▸?_;exact vQ _
 have OP:aj C (binaryOp .Add) (tupI (bt cs o g j)) (.tup [jx cs o g j]) (.tup (((bt cs o g j).map PV.int) ++ [jx cs o g j])):=aj.Ft (by simp [bt]) (by simp) (by show 4+1<=_;lia)
 conv in qD _=>whnf
 with_reducible
  refine dq (a:=bk) (es:=cB aO.pv S.book) (x:=g) (p:=(b.add (a6 cs o g j)).pv) X B rm (Ev.du ?_ L.af.fo (ab.cons (Ev.bh (x:=g) (es:=cB aO.pv S.book) (Ev.do ?_ m1) ?_ QE (λ_ _=>by fail)) (ab.cons (Ev.conv (Ev.bin (Ev.bh (x:=o) (es:=fS [(o,bt cs o g j)]) (Ev.d ?_) ?_ Mc (λ_ _=>by fail)) (Ev.tuple (ab.cons ?_ ab.nil) (Ho (by fail))) OP) (rfl:PV.tup (((bt cs o g j).map PV.int) ++ [jx cs o g j])=(a6 cs o g j).pv)) ab.nil)) bR.nil VO) ?_ ?_ m1 (by rw [mi];lia) (by fail) ?n1
 case n1=>
  intro s1 X1 B1
  rw [Ap.vz,lZ] at X1 B1
  with_reducible
   refine bG X1 B1 rm (Tr.cmp (Ev.conv (Ev.conv (Ev.eB (i:=none) (j:=some 2) (l:=none) (Ev.l (xs:=mx cs b o g j) ?_) eh.kc (eh.some Ev.int) eh.kc (by simp) ?_ (λ_ _=>⟨_,by fail⟩) (λ_ _=>by fail)) (Hx PV.lst (dI _ _ _))) (Hx PV.lst t1)) (Ev.conv (Ev.conv (Ev.eB (i:=some 2) (j:=none) (l:=none) (Ev.l (xs:=mx cs b o g j) ?_) (eh.some Ev.int) eh.kc eh.kc (by simp) ?_ (λ_ _=>⟨_,by fail⟩) (λ_ _=>by fail)) (Hx PV.lst (dI _ _ _))) (Hx PV.lst t2)) Lr Th.bool (by decide+kernel)) ?n2
  case n2=>
   intro s2 X2 B2
   exact next _ (X2.to (by k_extra"rs")) B2
  all_goals with_reducible intros
 all_goals with_reducible intros
theorem uc (sep:Str)(h:sep.cps=#[]):∀(r:List Str)(acc:Array Nat),(r.foldl (λacc p=>acc ++ sep.cps ++ p.cps) acc).toList=acc.toList ++ (r.map (·.cps.toList)).flatten:=by
 intro q0
 induction q0 with
 |nil=>
  intro acc
  simp
 |cons p r ih=>
  intro acc
  rw [Ia,ih,h]
  simp
theorem A6 (xs:List Str):(Txt.join "" xs).cps.toList=(xs.map (·.cps.toList)).flatten:=by
 cases xs with
 |nil=>rfl
 |cons x r=>
  show ((r.foldl _ x.cps)).toList=_
  rw [uc _ (by rfl)]
  simp
noncomputable def Gq (z:Nat):Nat:=("abcd":Str).cps.getD z 0
noncomputable def d6 (p:List Nat):Str:=⟨(p.map Gq).toArray⟩
theorem sL (p:List Nat):Txt.join "" (p.map cb)=d6 p:=by
 refine kR ?_
 rw [A6]
 induction p with
 |nil=>rfl
 |cons z p ih=>
  simp only [Hm,Jl,ih]
  rfl
theorem nr (p:List Nat):aR (d6 p)=p.map cb:=by
 simp only [aR,d6]
 rw [Hq]
 rfl
theorem qe (p:List Nat)(b:Bool):c0 (d6 p) b=d6 (if b=true then p else p.reverse):=by
 unfold c0
 cases b
 ·rw [if_neg (by decide),if_neg (by decide)]
  simp only [d6]
  rw [List.map_reverse]
 ·rfl
noncomputable def ltV (v:Nat->Int) (x y:Nat):Bool:=decide (v x < v y)
theorem Dg (v:Nat->Int):qE (ltV v):=⟨λa b h=>by unfold ltV at*;simp at*;lia,λa b c h1 h2=>by unfold ltV at*;simp at*;lia⟩
noncomputable def qm (v:Nat->Int) (b:Bool) (p:List Nat):List Nat:=(if b=true then p else p.reverse).foldl (λl x=>cO (ltV v) b l x) []
theorem yJ (u:Str->Int)(b:Bool)(x y:Nat):mK u b (cb x) (cb y)=fA (ltV λz=>u (cb z)) b x y:=by
 simp only [mK,fA,ltV]
 cases b
 ·simp only [IH,JL]
  by_cases h:u (cb x)<=u (cb y)
  ·rw [HD h,HJ (by simp_all)];rfl
  ·rw [HJ h,HD (by simp_all)];rfl
 ·rfl
theorem u7 (u:Str->Int)(b:Bool)(l:List Nat)(x:Nat):gM u b (l.map cb) (cb x)=(cO (ltV λz=>u (cb z)) b l x).map cb:=by
 delta gM cO
 simp only [iz]
 congr 1
 rw [List.findIdx_map]
 congr 1
 funext y
 exact yJ u b x y
theorem wK (u:Str->Int)(b:Bool)(p:List Nat):∀i,dz u b (p.map cb) i=((p.take i).foldl (λl x=>cO (ltV λz=>u (cb z)) b l x) []).map cb:=by
 intro i
 unfold dz
 rw [<-Jz,List.foldl_map]
 generalize p.take i=q
 have:∀l:List Nat,q.foldl (λl x=>gM u b l (cb x)) (l.map cb)=(q.foldl (λl x=>cO (ltV λz=>u (cb z)) b l x) l).map cb:=by
  induction q with
  |nil=>intro l;rfl
  |cons x q ih=>
   intro l
   simp only [Ia,u7,ih]
 exact this []
noncomputable def CD (F:List Int):List (Str×Int):=[("<",9),(">", -1),(cb 0,F.getD 0 0),(cb 1,F.getD 1 0),(cb 2,F.getD 2 0),(cb 3,F.getD 3 0)]
theorem xy (F:List Int):∀z,z < 4->(CD F).lookup (cb z)=some (F.getD z 0)
 |0,_=>rfl
 |1,_=>rfl
 |2,_=>rfl
 |3,_=>rfl
 |z+4,h=>absurd h (by simp)
noncomputable def DK (cs:List Int) (j:Nat):Bool:=((cs.getD 2 0).fdiv 64+(j:Int)).fmod 2==0
noncomputable def ax (cs:List Int) (j:Nat) (o:Str):Str:=Txt.join "" (dz (hJ (CD (bM cs j 6))) (DK cs j) (aR (c0 o (DK cs j))) 4)
noncomputable def zQ (cs:List Int) (j z:Nat):Int:=hJ (CD (bM cs j 6)) (cb z)
theorem tM (cs:List Int)(j:Nat){z:Nat}(hz:z < 4):zQ cs j z=(bM cs j 6).getD z 0:=by
 delta zQ hJ
 rw [xy _ z hz]
 rfl
noncomputable def gI (cs:List Int) (j:Nat) (p:List Nat):List Nat:=qm (zQ cs j) (DK cs j) p
theorem gU (cs:List Int)(j:Nat){p:List Nat}(h:p.length=4):ax cs j (d6 p)=d6 (gI cs j p):=by
 unfold ax
 rw [qe,nr,wK,HQ (by split <;> simp [h]),sL]
 rfl
theorem eV (v:Nat->Int)(b:Bool)(p:List Nat):(qm v b p).Perm p:=by
 have key:∀(q l:List Nat),(q.foldl (λl x=>cO (ltV v) b l x) l).Perm (q ++ l):=by
  intro q
  induction q with
  |nil=>intro l;exact IJ _
  |cons x q ih=>
   intro l
   refine(ih _).trans ?_
   exact((cT _ _ _ _).append_left q).trans K5
 refine(key _ []).trans ?_
 rw [IA]
 split
 ·exact IJ _
 ·exact List.reverse_perm p
def oX (o:Str):Prop:=∃p:List Nat,p.Perm [0,1,2,3]/\o=d6 p
theorem oX.goal {o:Str}(h:oX o)(cs:List Int)(j:Nat):oX (ax cs j o):=by
 refine ae h λp hp G'=> ?_;subst G'
 exact⟨gI cs j p,(eV _ _ _).trans hp,gU cs j hp.length_eq⟩
theorem oX.size {o:Str}(h:oX o):o.cps.size=4:=by
 refine ae h λp hp G'=> ?_;subst G'
 show (p.map Gq).toArray.size=4
 simp [hp.length_eq]
theorem oX.names {o:Str}(h:oX o)(F:List Int)(b:Bool):∀x∈aR (c0 o b),∃v,(CD F).lookup x=some v:=by
 refine ae h λp hp G'=> ?_;subst G'
 rw [qe,nr]
 intro x hx
 refine ae (He.mp hx) λz hz G'=> ?_;subst G'
 have M0:z∈p:=by
  split at hz
  ·exact hz
  ·exact List.mem_reverse.mp hz
 have:=hp.mem_iff.mp M0
 have h4:z < 4:=by
  simp only [Hf,HH,It] at this
  lia
 exact⟨_,xy F z h4⟩
theorem oX.ok {o:Str}(h:oX o):PyData.strOk o=true:=by
 refine ae h λp hp G'=> ?_;subst G'
 simp only [PyData.strOk,d6]
 rw [Array.all_eq_true']
 intro c hc
 rw [List.mem_toArray] at hc
 refine ae (He.mp hc) λz hz G'=> ?_;subst G'
 have:=hp.mem_iff.mp hz
 simp only [Hf,HH,It] at this
 rcases this with rfl |rfl |rfl |rfl <;> decide+kernel
noncomputable def k9 (cs:List Int) (o:Str):List Str:=(List.range 3).map λj=>ax cs j o
noncomputable def LS.Ak (cs:List Int) (S:LS) (o:Str):LS:={S with steps:=bo S.steps o (k9 cs o)}
noncomputable def LS.at (cs:List Int) (S:LS) (o:Str) (j:Nat):LS:=(List.range j).foldl (λS j=>S.add cs o (ax cs j o) j) (S.Ak cs o)
noncomputable def LS.ord (cs:List Int) (S:LS) (o:Str):LS:=S.at cs o 3
noncomputable def LS.zero:LS:=⟨["abcd"],["abcd"],[],[("abcd",eD)]⟩
noncomputable def cQ (S:LS) (k:Nat):List Str:=(S.line.take (k+1)).drop k
noncomputable def cJ (cs:List Int):Nat->LS
 |0=>LS.zero
 |k+1=>(cQ (cJ cs k) k).foldl (LS.ord cs) (cJ cs k)
theorem LS.jz (cs:List Int)(S:LS)(o:Str)(j:Nat):S.at cs o (j+1)=(S.at cs o j).add cs o (ax cs j o) j:=by
 unfold LS.at
 simp only [IY,JW]
 rfl
structure Good (n:Nat)(S:LS):Prop where
 srt:jU dA S.known
 nd:S.known.Nodup
 k:S.known.length<=n+1
 l:S.line.length<=n+1
 b:S.book.length<=n+1
 t:S.steps.length<=n+1
 lk:∀x∈S.line,x∈S.known
 has:∀x∈S.known,∃b,S.book.lookup x=some b
 es:∀e∈S.book,e.2.es.length<=n/\∀q∈e.2.es,q.2.length=4
 ok:∀x∈S.known,oX x
theorem fq {α:Type}{es:List (Str×α)}{x:Str}{p:α}:(bo es x p).lookup x=some p:=by
 unfold bo
 by_cases h:(es.any λe=>decide (e.1=x))=true
 ·rw [if_pos h]
  induction es with
  |nil=>cases h
  |cons e es ih=>
   rw [Hm,Hl]
   by_cases q:e.1=x
   ·rw [if_pos q]
    have:(x==e.1)=true:=by simp [q]
    simp only [this]
   ·rw [if_neg q]
    have:(x==e.1)=false:=HC (HE q)
    rw [this]
    refine ih ?_
    simp only [KI,HJ q,J2] at h
    exact h
 ·rw [if_neg h]
  have:es.lookup x=none:=Ih.mpr λe he=>by
   simpa using λq=>(λq=>h (Ju.mpr ⟨e,he,HD q⟩)) q.symm
  simp only [H6,this]
  simp
theorem iV {α:Type}{es:List (Str×α)}{x y:Str}{p:α}(h:y≠x):(bo es x p).lookup y=es.lookup y:=by
 unfold bo
 split
 ·induction es with
  |nil=>rfl
  |cons e es ih=>
   rename_i hh
   rw [Hm,Hl,Hl]
   by_cases q:e.1=x
   ·rw [if_pos q]
    have h1:(y==x)=false:=HC h
    simp only [q,h1]
    have key:∀l:List (Str×α),(l.map λe=>if e.1=x then(e.1,p) else e).lookup y=l.lookup y:=by
     intro l
     induction l with
     |nil=>rfl
     |cons e l ih=>
      rw [Hm,Hl,Hl]
      by_cases q:e.1=x
      ·rw [if_pos q,q,h1];exact ih
      ·rw [if_neg q];rw [ih]
    exact key es
   ·rw [if_neg q]
    have key:∀l:List (Str×α),(l.map λe=>if e.1=x then(e.1,p) else e).lookup y=l.lookup y:=by
     intro l
     induction l with
     |nil=>rfl
     |cons e l ih=>
      rw [Hm,Hl,Hl]
      by_cases q:e.1=x
      ·rw [if_pos q,q,(HC h)];exact ih
      ·rw [if_neg q];rw [ih]
    rw [key es]
 ·rw [H6]
  cases es.lookup y with
  |some q=>rfl
  |none=>simp [Hl,HC h]
theorem qX (tg sr:List (Str×List Int)):(c9 tg sr).length<=tg.length+sr.length:=by
 have h1:=eK (λ(d:List (Str×List Int)) (e:Str×List Int)=>bo d e.1 e.2) (λd e=>eX d e.1 e.2) tg []
 have h2:=eK kY (ia _) sr (tg.foldl (λd e=>bo d e.1 e.2) [])
 delta c9 hZ
 simp only [H0] at h1
 lia
theorem Good.new {n:Nat}{S:LS}(h:Good n S){g:Str}(hg:oX g):Good (n+1) (S.new g):=by
 unfold LS.new
 split
 ·exact⟨h.srt,h.nd,Hz h.k,Hz h.l,Hz h.b,Hz h.t,h.lk,h.has,λe he=>⟨Hz (h.es e he).1,(h.es e he).2⟩,h.ok⟩
 ·rename_i q
  have hp:=cT dA true S.known g
  refine⟨lq oV _ _ h.srt,hp.nodup_iff.mpr (Ht.mpr ⟨q,h.nd⟩),?_,?_,?_,Hz h.t,λx hx=> ?_,λx hx=> ?_,λe he=> ?_,λx hx=> ?_⟩
  ·have:=hp.length_eq
   have h2:=h.k
   simp_all
  ·have:=h.l
   rw [HF]
   exact I9 this
  ·have:=eX S.book g eD
   have h2:=h.b
   lia
  ·refine hp.mem_iff.mpr ?_
   rcases HA.mp hx with hx |hx
   ·exact Ha _ (h.lk x hx)
   ·rw [Hi.mp hx];exact G9
  ·by_cases e:x=g
   ·rw [e];exact⟨_,fq⟩
   ·rcases Hf.mp (hp.mem_iff.mp hx) with hx |hx
    ·exact absurd hx e
    ·refine cz (h.has x hx) λb hb=> ?_
     exact⟨b,by rw [<-hb];exact iV e⟩
  ·exact eU (P:=λ(b:aO)=>b.es.length<=n+1/\∀q∈b.es,q.2.length=4) (λe he=>⟨Hz (h.es e he).1,(h.es e he).2⟩) ⟨HK _,by intro q hq;cases hq⟩ e he
  ·rcases Hf.mp (hp.mem_iff.mp hx) with rfl |hx
   ·exact hg
   ·exact h.ok x hx
theorem Good.mono {n m:Nat}{S:LS}(h:Good n S)(le:n<=m):Good m S:=
 ⟨h.srt,h.nd,Hg h.k (by omega),Hg h.l (by omega),Hg h.b (by omega),Hg h.t (by omega),h.lk,h.has,λe he=>⟨Hg (h.es e he).1 le,(h.es e he).2⟩,h.ok⟩
theorem LS.nj (S:LS)(g:Str):g∈(S.new g).known:=by
 unfold LS.new
 split
 ·assumption
 ·exact(cT dA true S.known g).mem_iff.mpr G9
theorem Good.F7 {n:Nat}{S:LS}(h:Good n S){g:Str}{b c:aO}(hb:S.book.lookup g=some b)(hc:c.es.length<=1)(QV:∀q∈c.es,q.2.length=4):Good (n+1) {S with book:=bo S.book g (b.add c)}:=by
 have Po:=h.es _ (aG hb)
 refine⟨h.srt,h.nd,Hz h.k,Hz h.l,?_,Hz h.t,h.lk,λx hx=> ?_,λe he=> ?_,h.ok⟩
 ·have hm:g∈S.book.map (·.1):=He.mpr ⟨_,aG hb,rfl⟩
  have:=eX S.book g (b.add c)
  have h2:=h.b
  lia
 ·by_cases e:x=g
  ·refine e▸?_;exact⟨_,fq⟩
  ·obtain⟨b',Pc⟩:=h.has x hx
   exact⟨b',by rw [<-Pc];exact iV e⟩
 ·refine eU (P:=λ(b:aO)=>b.es.length<=n+1/\∀q∈b.es,q.2.length=4) (λe he=>⟨Hz (h.es e he).1,(h.es e he).2⟩) ⟨?_,?_⟩ e he
  ·have:=qX b.es c.es
   have h2:=Po.1
   show (c9 b.es c.es).length<=_
   lia
  ·exact lE Po.2 QV
theorem Good.add {n:Nat}{S:LS}(h:Good n S)(cs:List Int)(o:Str){g:Str}(hg:oX g)(j:Nat):Good (n+2) (S.add cs o g j):=by
 have h1:=h.new hg
 refine cz (h1.has g (S.nj g)) λb hb=> ?_
 unfold LS.add
 refine hb▸?_
 exact h1.F7 hb (Hh _) (by
  intro q hq
  rw [Hi.mp hq]
  rfl)
theorem Good.Ak {n:Nat}{S:LS}(h:Good n S)(cs:List Int)(o:Str):Good (n+1) (S.Ak cs o):=
 ⟨h.srt,h.nd,Hz h.k,Hz h.l,Hz h.b,by
  have:=eX S.steps o (k9 cs o)
  have h2:=h.t
  show (bo S.steps o (k9 cs o)).length<=_
  lia,h.lk,h.has,λe he=>⟨Hz (h.es e he).1,(h.es e he).2⟩,h.ok⟩
theorem Good.at {n:Nat}{S:LS}(h:Good n S)(cs:List Int){o:Str}(ho:oX o):∀j,Good (n+1+2*j) (S.at cs o j):=by
 intro j
 induction j with
 |zero=>exact h.Ak cs o
 |succ j ih=>
  simp only [LS.jz]
  exact ih.add cs o (ho.goal cs j) j
theorem LS.nO (cs:List Int)(S:LS)(o g:Str)(j:Nat):(S.add cs o g j).steps=S.steps:=by
 simp only [LS.add,LS.new]
 split <;> rfl
theorem LS.yl (cs:List Int)(S:LS)(o:Str):∀j,(S.at cs o j).steps.lookup o=some (k9 cs o):=by
 intro j
 induction j with
 |zero=>exact fq
 |succ j ih=>simp only [LS.jz,LS.nO,ih]
theorem lP (S:LS)(k:Nat):(cQ S k).length<=1:=by
 unfold cQ
 simp
 lia
theorem jK {S:LS}{k:Nat}{o:Str}(h:o∈cQ S k):o∈S.line:=J5 _ _ (List.drop_subset _ _ h)
theorem Good.zero:Good 0 LS.zero:=by
 refine⟨Je _ _,Je _ _,Hh _,Hh _,Hh _,HK _,λ_ h=>h,λx hx=> ?_,λe he=> ?_,λx hx=> ?_⟩
 ·rw [Hi.mp hx]
  exact⟨eD,rfl⟩
 ·refine(Hi.mp he)▸?_
  exact⟨Hh _,by intro q hq;cases hq⟩
 ·rw [Hi.mp hx]
  exact⟨[0,1,2,3],IJ _,by rfl⟩
theorem Good.fold {n:Nat}{S:LS}(h:Good n S)(cs:List Int):∀{l:List Str},(∀o∈l,oX o)->Good (n+7*l.length) (l.foldl (LS.ord cs) S):=by
 intro l
 induction l generalizing n S with
 |nil=>intro _;exact h
 |cons o l ih=>
  intro hl
  refine(ih (h.at cs (hl o G9) 3) λo ho=>hl o (Ha _ ho)).mono ?_
  simp only [Hv]
  lia
theorem Good.pD (cs:List Int):∀k,Good (7*k) (cJ cs k):=by
 intro k
 induction k with
 |zero=>exact Good.zero
 |succ k ih=>
  refine(ih.fold cs (l:=cQ (cJ cs k) k) λo ho=>ih.ok o (ih.lk o (jK ho))).mono ?_
  have:=lP (cJ cs k) k
  lia
set_option maxRecDepth 100000
noncomputable abbrev gK:Env:={scope:=pw.main.scope,locals:=mainNs,globals:=mainNs,cells:=[],code:= .ref 13,frame:=some 14}
noncomputable abbrev n6 (b:List Stmt):Code:=Code.body b gK
noncomputable abbrev B0:List Frame:=[topFrame ⟨0,0,0,0⟩]
theorem wN:b3=ie ++ (gn.flatten ++ iT):=by rfl
theorem zj:sZ b3=true:=by rfl
theorem zC:∀x∈gn,x.length=17:=by
 have:gn.all (λx=>x.length==17)=true:=by rfl
 intro x hx
 simpa using Hw.mp this x hx
theorem xI:ie.length=17:=by rfl
theorem yH:iT.length=4:=by rfl
theorem pU:gn.length=37:=by rfl
theorem Ce:pq.2.2=2332:=by rfl
noncomputable abbrev D5:Pos:=⟨95,16,95,8704⟩
noncomputable abbrev A7:List Expr:=match bw av 13 with | .Assign ts _ _=>ts |_=>[]
noncomputable abbrev D2:Expr:=match bw av 13 with | .Assign _ v _=>v |_=> .Name default default
noncomputable def xV (v:Value):Sem Flow:=do assignStores gK v (<-swappedStores A7 D2 gK) ((assignEach A7 gK).map (·.2))
theorem BW:exec (bw av 13) gK=((PySem.standAt ⟨95,0,95,8704⟩ >>=λ_=>PySem.standAt D5 >>=λ_=>dictDisplay (b3.map (b9 λ_=>D5))) >>=λv=>xV v):=by rfl
theorem Go.app {p:Program}{w:World}{n₀:Nat}{ann:Option Value}{α β:Type}{c:Nat}{s J:Shared}{pos pos':Pos}{m:Sem α}{a:α}(h:Go p w n₀ ann c s pos m a J pos'){f:α->Sem β}{K:β->Sem PySem.Fin}{H:Value->Sem PySem.Fin}{gd:Bool->Bool}{lv:List Value->List Value}{code:Code}{F:Frame}{stk:List Frame}{N:Nat}{r:Shared}
 (q:topRun treeTable p w n₀ ann N J ⟨(f a).wrap K H gd lv,code,pos',F::stk⟩=some r):topRun treeTable p w n₀ ann (N+c) s ⟨(m >>=f).wrap K H gd lv,code,pos,F::stk⟩=some r:=by
 have e:(m >>=f).wrap K H gd lv=m.wrap (λa=>(f a).wrap K H gd lv) H gd lv:=by
  rw [Sem.bind_eq_wrap',KO];rfl
 refine e▸?_
 exact h _ _ _ _ code F stk N r q
noncomputable abbrev fD:Option Value:=some (.ref 6)
theorem EM (P:Params):th (DO P) 118 (ag ey::jT)=true:=by kernel_rfl
theorem Ec:118+(ag ey::jT).length=157:=by rfl
theorem uE (w:World)(os:OsState)(bd:List Stmt)(pos:Pos)(K:Flow->Sem PySem.Fin)(H:Value->Sem PySem.Fin):
 ic pw w 11 fD 7 ⟨lD (DO w.params) 118 (ag ey::jT),157,{},#[],{},2344,os⟩ ⟨(xV (.ref 118)).wrap K H id id,n6 bd,pos,B0⟩=
  some (⟨EN w.params,157,{},#[],{},2345,os⟩,⟨K .next,n6 bd,⟨95,0,95,13⟩,B0⟩):=by kernel_rfl
theorem GA:∀(w:World)(b:List Stmt)(os:OsState),segRunT treeTable pw w 11 fD 1 900 ⟨T4 w.params,15,{},#[],{},187,os⟩ (piecesOf (av.take 11) gK (n6 b) ⟨0,0,0,0⟩ B0)=
 some (.next,⟨FX w.params,100,{},#[],{},327,os⟩,n6 b,⟨91,0,91,8⟩):=by
 intro w b os
 kernel_rfl
theorem Gy:∀(w:World)(b:List Stmt)(os:OsState),segRunT treeTable pw w 11 fD 1 30 ⟨FR w.params,111,{},#[],{},387,os⟩ (piecesOf [bw av 12] gK (n6 b) ⟨92,0,92,6⟩ B0)=
 some (.next,⟨DO w.params,118,{},#[],{},394,os⟩,n6 b,⟨93,0,94,30⟩):=by
 intro w b os
 kernel_rfl
theorem GZ:∀(w:World)(b:List Stmt)(os:OsState),segRunT treeTable pw w 11 fD 1 155 ⟨EN w.params,157,{},#[],{},2345,os⟩ (piecesOf [bw av 14,bw av 15,bw av 16,bw av 17,bw av 18] gK (n6 b) ⟨95,0,95,13⟩ B0)=
 some (.next,⟨E7 w.params,183,{},#[],{},2387,os⟩,n6 b,⟨117,0,206,60⟩):=by
 intro w b os
 kernel_rfl
theorem F5 (Oa:Bool):∀(w:World)(b:List Stmt)(os:OsState),segRunT treeTable pw (w.withFollow "special-get-raises" Oa) 11 fD 1 999 ⟨FX (w.withFollow "special-get-raises" Oa).params,100,{},#[],{},327,os⟩ (piecesOf [bw av 11] gK (n6 b) ⟨91,0,91,8⟩ B0)=
 some (.next,⟨FR (w.withFollow "special-get-raises" Oa).params,111,{},#[],{},387,os⟩,n6 b,⟨92,0,92,6⟩):=by
 intro w b os
 unfold piecesOf
 rw [PySem.W.Fast.te10110043849684766642,PySem.W.Fast.te14364793385576792824,PySem.W.Fast.te12563942051412417395]
 cases Oa <;> kernel_rfl
theorem Gw:∀(w:World)(b:List Stmt)(os:OsState),segRunT treeTable pw w 11 fD 1 999 ⟨FX w.params,100,{},#[],{},327,os⟩ (piecesOf [bw av 11] gK (n6 b) ⟨91,0,91,8⟩ B0)=
 some (.next,⟨FR w.params,111,{},#[],{},387,os⟩,n6 b,⟨92,0,92,6⟩):=λw b os=>by
 have h:=F5 (w.params.followText "special-get-raises") w b os
 rwa [World.withFollow_self] at h
theorem FD {Mi:Params->BT}{all first last:List KV}{MP:List (List KV)}{st:Stmt}{env:Env}{tl:Value->Sem Flow}{es:List DictEntry}{subs:List Obj}{tree:BT}(b:Bool)(w w':World)(hw:w.withFollow "special-get-raises" b=w')(bd rest:List Stmt)(os:OsState)(N:Nat)(r:Shared)(J:SharedT){pos sp dp tp:Pos}
 (parts:all=first ++ (MP.flatten ++ last))(O4:sZ all=true)(hf:first.length=17)(hm:∀x∈MP,x.length=17)(hl:last.length=4)(RH:MP.length=37)
 (Rf:(ew MP (ents 394 3 first) [] (394+51)).2.2=2332)(Ug:es=(ew MP (ents 394 3 first) [] (394+51)).1 ++ ents 2332 2 last)(P1:subs=(ew MP (ents 394 3 first) [] (394+51)).2.1 ++ [ag (ents 2332 2 last)])
 (hex:exec st env=((PySem.standAt sp >>=λ_=>PySem.standAt dp >>=λ_=>dictDisplay (all.map (b9 λ_=>dp))) >>=λv=>tl v))
 (O1:th (Mi w'.params) 118 (ag es::subs)=true)(hlen:118+(ag es::subs).length=157)(Qc:lD (Mi w'.params) 118 (ag es::subs)=tree)
 (tail:∀pos' K H,ic pw w' 11 fD 7 ⟨tree,157,{},#[],{},2344,os⟩ ⟨(tl (.ref 118)).wrap K H id id,.body bd env,pos',B0⟩=some (J,⟨K .next,.body bd env,tp,B0⟩))
 (h:topRun treeTable pw w' 11 fD N J.abs (restOf rest env (.body bd env) tp B0)=some r):
 topRun treeTable pw w' 11 fD (N+13000) (⟨Mi w'.params,118,{},#[],{},394,os⟩:SharedT).abs (restOf (st::rest) env (.body bd env) pos B0)=some r:=by
 have hz:((⟨Mi w'.params,118,{},#[],{},394,os⟩:SharedT).abs).heap.objs.size=118:=absHeap_size _ _ _
 obtain⟨pos',g⟩:=Go.display (p:=pw) (w:=w) (n₀:=11) (ann:=fD) (b:=b) (vp:=λ_=>dp) (s₀:=(⟨Mi w'.params,118,{},#[],{},394,os⟩:SharedT).abs) (by rw [hz];decide) (by rw [hz];decide)
  first MP last hf hm (by rw [hl];decide) (by intro q;replace hl:=q▸hl;cases hl) (by refine parts▸?_;exact yE O4) 394 dp
 rw [hw,<-parts,hz,RH,hl,Rf] at g
 have e2:SS (⟨Mi w'.params,118,{},#[],{},394,os⟩:SharedT).abs [] 394=(⟨Mi w'.params,118,{},#[],{},394,os⟩:SharedT).abs:=by
  unfold SS;rfl
 rw [e2,<-Ug,<-P1] at g
 have e4:SS (⟨Mi w'.params,118,{},#[],{},394,os⟩:SharedT).abs (ag es::subs) (2332+3*4)=(⟨tree,157,{},#[],{},2344,os⟩:SharedT).abs:=by
  show Shared.mk (HL (absHeap (Mi w'.params) 118 {}) (ag es::subs)) _ _ _ _=_
  rw [BD _ _ _ _ O1,hlen,Qc]
  rfl
 rw [e4] at g
 unfold restOf
 rw [execs_cons_wrap,hex]
 have g2:=Go.bind (c₁:=1) (Go.standAt (p:=pw) (w:=w') (n₀:=11) (ann:=fD) (s:=(⟨Mi w'.params,118,{},#[],{},394,os⟩:SharedT).abs) (pos:=pos) (pos':=sp))
  (Go.bind (c₁:=1) (Go.standAt (p:=pw) (w:=w') (n₀:=11) (ann:=fD) (s:=(⟨Mi w'.params,118,{},#[],{},394,os⟩:SharedT).abs) (pos:=sp) (pos':=dp)) g (f:=λ_=>dictDisplay (all.map (b9 λ_=>dp)))) (f:=λ_=>PySem.standAt dp >>=λ_=>dictDisplay (all.map (b9 λ_=>dp)))
 exact jI (Go.app g2 (ja (tail pos' (λf=>match f with | .next=>(execs rest env).wrap doneF (leaveH env) id id |f=>doneF f) (leaveH env)) h)) (by lia)
theorem DR:ey=(ew gn (ents 394 3 ie) [] (394+51)).1 ++ ents 2332 2 iT:=by
 unfold ey;exact Eq.refl _
theorem zR:jT=(ew gn (ents 394 3 ie) [] (394+51)).2.1 ++ [ag (ents 2332 2 iT)]:=by
 unfold jT;exact Eq.refl _
theorem FL (b:Bool)(w w':World)(hw:w.withFollow "special-get-raises" b=w')(bd rest:List Stmt)(os:OsState)(N:Nat)(r:Shared)
 (h:topRun treeTable pw w' 11 fD N (⟨EN w'.params,157,{},#[],{},2345,os⟩:SharedT).abs (restOf rest gK (.body bd gK) ⟨95,0,95,13⟩ B0)=some r):
 topRun treeTable pw w' 11 fD (N+13000) (⟨DO w'.params,118,{},#[],{},394,os⟩:SharedT).abs (restOf (bw av 13::rest) gK (.body bd gK) ⟨93,0,94,30⟩ B0)=some r:=
 FD b w w' hw bd rest os N r ⟨EN w'.params,157,{},#[],{},2345,os⟩ wN zj xI zC yH pU Ce DR zR BW (EM w'.params) Ec rfl
  (λpos' K H=>uE w' os bd pos' K H) h
theorem GW (w:World)(bd rest:List Stmt)(os:OsState)(N:Nat)(r:Shared)
 (h:topRun treeTable pw w 11 fD N (⟨EN w.params,157,{},#[],{},2345,os⟩:SharedT).abs (restOf rest gK (n6 bd) ⟨95,0,95,13⟩ B0)=some r):
 topRun treeTable pw w 11 fD (N+13000) (⟨DO w.params,118,{},#[],{},394,os⟩:SharedT).abs (restOf (bw av 13::rest) gK (n6 bd) ⟨93,0,94,30⟩ B0)=some r:=by
 exact FL (w.params.followText "special-get-raises") w w (World.withFollow_self w "special-get-raises") bd rest os N r h
noncomputable def Tb (p:Params):BT:=lD .nil 0 [boot_o_0 p,boot_o_1 p,boot_o_2 p,boot_o_3 p,boot_o_4 p,boot_o_5 p,boot_o_6 p,boot_o_7 p,boot_o_8 p,boot_o_9 p,boot_o_10 p]
theorem qT (w:World)(os:OsState):(⟨Tb w.params,11,{},#[],boot_drawn,boot_toks,os⟩:SharedT).abs=⟨boot_heap w.params,#[],boot_drawn,boot_toks,os⟩:=by
 simp only [SharedT.abs]
 rfl
theorem FQ (w:World)(os:OsState):ic pw w 11 fD 12 ⟨Tb w.params,11,{},#[],boot_drawn,boot_toks,os⟩ (topStub pw)=
 some (⟨T4 w.params,15,{},#[],{},187,os⟩,⟨denote treeTable (n6 (behindTheImports pw)),n6 (behindTheImports pw),⟨0,0,0,0⟩,B0⟩):=by kernel_rfl
theorem BA (w:World)(os:OsState):segRunT treeTable pw w 11 fD 1 1 ⟨T4 w.params,15,{},#[],{},187,os⟩ (blockOf (behindTheImports pw) gK (n6 (behindTheImports pw)) ⟨0,0,0,0⟩ B0)=
 some (.next,⟨T4 w.params,15,{},#[],{},187,os⟩,n6 (behindTheImports pw),⟨0,0,0,0⟩):=by rfl
theorem Fp (w:World)(os:OsState)(b:List Stmt):topRun treeTable pw w 11 fD 2 (⟨E7 w.params,183,{},#[],{},2387,os⟩:SharedT).abs ⟨doneF .next,n6 b,⟨117,0,206,60⟩,B0⟩=some (⟨E7 w.params,183,{},#[],{},2387,os⟩:SharedT).abs:=by rfl
noncomputable abbrev H1 (P:Params):Heap:=absHeap (E7 P) 183 {}
theorem yX (w:World)(os:OsState):topRun treeTable pw w 11 fD 15200 ⟨boot_heap w.params,#[],boot_drawn,boot_toks,os⟩ (topStub pw)=some ⟨H1 w.params,#[],{},2387,os⟩:=by
 rw [<-qT]
 have f:=Fp w os (behindTheImports pw)
 have Vr:=GW w (behindTheImports pw) _ os _ _ (piece_app (rest:=[]) (Ld (GZ w (behindTheImports pw) os)) f)
 have Vm:=piece_app (Ld (Gw w (behindTheImports pw) os)) (piece_app (Ld (Gy w (behindTheImports pw) os)) Vr)
 have s0:=piece_app (Ld (GA w (behindTheImports pw) os)) Vm
 have s1:=piece_block (Ld (BA w os)) s0
 exact jI (ja (FQ w os) s1) (by decide)
noncomputable def qv:Program:={pw with main:={pw.main with body:=[bw av 18]}}
noncomputable def loose:List Str:=["insort_right","bisect_right","insort_left","bisect_left","TupleComp","add_func_stats","add_callers","count_calls","b1_set","in_table_b1","b3_exceptions","map_table_b3","_law_typed","_law_sorted"]
theorem EG (w:World)(os:OsState):(staticsOk (importedModules pw.main.body) (boot_heap w.params) (H1 w.params) && namesBound pw (H1 w.params) && gensDone ⟨H1 w.params,#[],{},2387,os⟩ && laidKept (boot_heap w.params) (H1 w.params))=true:=by kernel_rfl
theorem ED (w:World)(os:OsState):openSeen qv loose (importedModules pw.main.body) (λ_=>true) true ⟨H1 w.params,#[],{},2387,os⟩=openGood qv loose:=by
 kernel_rfl
noncomputable abbrev Yf (s:Shared):Heap×Array GenState×Nat:=(s.heap,s.gens,s.toks)
noncomputable abbrev Ya (w:World):Heap×Array GenState×Nat:=(H1 w.params,#[],2387)
theorem left:LeftO pw qv loose (λ_=>true) Yf Ya 20000:=
 LeftO.of_pieces (m₀:=11) (ann:=fD) (M:=15200) (boot_open (by rfl) (by rfl) (λs=>by rfl)) (λw=>by kernel_rfl) yX (by rfl)
  (λw=>by funext os;exact Prod.ext (EG w os) (Prod.ext (ED w os) rfl))
noncomputable def ox:DefRec:=⟨"law",bP av 18,ay av 18,ai av 18,(bw av 18).pos⟩
theorem AQ:defOf qv "law"=some (ox,[]):=by rfl
theorem w9:pw.theDef "law"=some (ox.params,ox.body,ox.scope):=by rfl
theorem yr:kwWritten? ox.params.kwonlyargs ox.params.kw_defaults=some []:=by rfl
theorem DA:(chainsOk qv && opensWell pw && (frees PySem.Challenge.rw_xh0048_02.row.toRowW && PySem.Challenge.rw_xh0048_02.row.within.isEmpty))=true:=by rfl
theorem DS:OpenLaw.wellSaid PySem.Challenge.rw_xh0048_02=true:=by rw [PySem.W.Fast.te9446332074065402090];kernel_rfl
theorem u9 (walk:WalkX qv loose (λ_ _=>True) Yf Ya PySem.Challenge.rw_xh0048_02.row.toRowW ox [] λf vs=>PySem.call f vs):PySem.Challenge.rw_xh0048_02.Holds:=by
 refine holds_law DS λT5=> ?_
 refine holds_openX (q:=qv) (loose:=loose) (Xt:=λ_=>true) (XP:=λ_ _=>True) (Yf:=Yf) (Ya:=Ya) (d:=ox) (kwd:=[]) (N:=20000) left (λ_ _=>trivial) (λ_ _ _ _ _=>trivial) AQ w9 yr (λ_ _=>recFacts_nil rfl) rfl (by assumption) DA ⟨rfl,rfl,rfl,rfl,rfl,by kernel_rfl!⟩ ?hw walk
 case hw=>w_witness2
section
open PySem PySem.W PySem.W.X PyProof.Rows
def sS (prog:Program)(H:Params->Heap)(toks:Nat)(fa:Addr):Prop:=
 ∀(w:World) (ns:List Int) (vs:List Value) (f':Shared),ns.length<=63->IntsAre vs ns->f'.heap=(H w.params).push {cls:= .type "list",data:= .seq vs.toArray}->f'.gens=#[]->toks<=f'.toks->
  wpAny (model prog w) callerA (PySem.call (.ref fa) [.ref (H w.params).objs.size]) (λv J=>v= .bool true/\OldK f'.heap J.heap/\J.os=f'.os/\AllBare J.gens) (λ_ _=>False) f'
theorem wG {R:WRecords}{w:World}{s₀ f':Shared}{ns:List Int}{a:Addr}{as:List Addr}{Tf:List Value}(L:Laid R w s₀ f' [ofPy (PyData.list (ns.map PyData.int))] [.ref a] as)(hL:f'.heap.IsList a Tf.toArray):
 f'.heap=s₀.heap.push {cls:= .type "list",data:= .seq Tf.toArray}:=by
 have ho:=script_obj L hL
 refine ae L.laid λord _ e=> ?_
 simp only [ofPy,layAllW,layW] at e
 cases q:layAllW R (classAt s₀.heap) w.params ord (ofPys (List.map PyData.int ns)) s₀ with
 |none=>replace e:=q▸e;cases e
 |some r=>
  replace e:=q▸e
  have hh:=lay_ints ns s₀ r q
  simp only [KW,Prod.mk.injEq,List.cons.injEq,Value.ref.injEq] at e
  refine c5 e λz1 es=> ?_;refine c5 z1 λea _=> ?_
  have e2:f'.heap=s₀.heap.push {cls:= .type "list",data:= .seq r.1.toArray}:=by rw [<-es,hh]
  rw [e2] at ho ⊢
  rw [<-ea,hh] at ho
  have:=ho.symm.trans (Heap.get?_push_size _ rfl)
  injection this with this
  injection this with _ _ this _
  injection this with this _
  rw [this]
theorem AN (h:sS pw H1 2387 182):WalkX qv loose (λ_ _=>True) Yf Ya PySem.Challenge.rw_xh0048_02.row.toRowW ox [] λf vs=>PySem.call f vs:=by
 intro w s₀ f' mg mb G y fa o pm cd doc dV kV ho hd Tn hD Vh hg args vals as L O8 RO Sp UY TU
 obtain⟨y1,y2⟩:=Prod.mk.inj y
 wrow_args O8 RO Sp UY TU
 rename_i ns _ _ _ _ _ _ _ a vs _ hL _ _ _ hI _ hlen _
 have hh:=wG L hL
 have e1:mg "law"=some (.ref 182):=by
  refine gm G.T.g λo' es ep Od Nl MV Ry=> ?_
  rw [y1] at hh
  rw [<-Ry]
  have e6:∀es ep,(j9 w.params).data= .dict es ep->nsFind es "law"=some (.ref 182):=by
   intro es ep h
   have:(match (j9 w.params).data with | .dict es _=>nsFind es "law" |_=>none)=some (.ref 182):=by rfl
   rw [h] at this
   exact this
  exact e6 es ep ((H7 (Od.symm.trans (by rw [hh];exact Heap.get?_push_of_some _ (by kernel_rfl):f'.heap.get? mainGlobals=some (j9 w.params))))▸Nl)
 have e2:fa=182:=by
  have:mg "law"=some (.ref fa):=Vh
  rw [e1] at this
  injection this with this
  injection this with this
  exact this.symm
 refine e2▸?_
 refine((script_at L).1)▸y1▸?_
 rw [y1] at hh
 refine Hb (h w ns vs f' (by lia) hI hh hg (script_toks L (Prod.mk.inj y2).2)) (λv J q=> ?_) λ_ _ q=>q.elim
 refine l0 q λUc q1 q2 q3=> ?_;refine Uc▸?_
 refine⟨.inl ⟨.bool true,.bool true,[],rfl,λ_=>rfl,?_,?_,?_⟩,q1,q2,q3⟩
 ·exact .bool true
 ·kernel_rfl
 ·intro _;exact⟨JT,λa ha=>nomatch ha⟩
end
noncomputable def kL (o:Obj):Str->Option Value:=λx=>match o.data with | .dict es _=>nsFind es x |_=>none
noncomputable def kZ (P:Params) (vs:List Value):Heap:=(H1 P).push {cls:= .type "list",data:= .seq vs.toArray}
noncomputable abbrev mD:List (Addr×Addr×Str):=[(55,51,"add_callers.<locals>.<genexpr>"),(176,172,"_law_sorted.<locals>.<lambda>"),(181,179,"law.<locals>.<lambda>")]
noncomputable def C1 (w:World) (vs:List Value) (os:OsState):Cfg where
 prog:=pw
 w:=w
 h₀:=kZ w.params vs
 os:=os
 mg:=kL (j9 w.params)
 mb:=kL (Bw w.params)
 tabs:=mD
noncomputable def CV:Value->Bool
 | .str _ _=>true
 |_=>false
theorem cK {es:Array DictEntry}(h:es.all (λe=>CV e.key)=true):StrKeys es:=λe he=>by
 have:=Array.all_eq_true'.mp h e he
 cases hk:e.key with
 |str n t=>exact⟨n,t,rfl⟩
 |_=>replace this:=hk▸this;cases this
variable {vs:List Value}{os:OsState}
theorem aZ {a:Addr}{o:Obj}(h:(H1 w.params).get? a=some o):(C1 w vs os).h₀.get? a=some o:=Heap.get?_push_of_some _ h
theorem lS {h:Heap}{a:Addr}{o:Obj}(g:h.get? a=some o)(hd:∃es ep,o.data= .dict es ep/\StrKeys es):h.Ns a (kL o):=by
 refine aL hd λes ep e k=> ?_
 exact⟨o,es,ep,g,e,k,λx=>by unfold kL;rw [e]⟩
theorem Gg:(C1 w vs os).Ok where
 nolimit:=⟨kL (Di w.params),lS (o:=Di w.params) (aZ (by kernel_rfl)) ⟨_,_,rfl,cK (by kernel_rfl)⟩,by rfl⟩
 statics:=by show ¬(2:Nat)∈[51,172,179];decide
 g:=lS (o:=j9 w.params) (aZ (by kernel_rfl)) ⟨_,_,rfl,cK (by kernel_rfl)⟩
 gT:=by show ¬(3:Nat)∈[51,172,179];decide
 b:=lS (o:=Bw w.params) (aZ (by rfl)) ⟨_,_,rfl,cK (by kernel_rfl)⟩
 bT:=by show ¬(0:Nat)∈[51,172,179];decide
 noCode:=by show ∀t∈mD,t.1∉[51,172,179];decide
 inj:=by show ∀t∈mD,∀t'∈mD,t.2.1=t'.2.1->t=t';decide
 bmain:=⟨4,Ee w.params,by rfl,by decide,by decide,by show ¬(4:Nat)∈[51,172,179];decide,aZ (by kernel_rfl),rfl,rfl,rfl⟩
theorem w0:bO (C1 w vs os).h₀ 55 51 "add_callers.<locals>.<genexpr>" #[]:=by
 refine⟨⟨oN w.params,_,_,_,_,_,_,_,_,w1 w.params,aZ (by kernel_rfl),rfl,rfl,rfl,rfl,rfl,rfl,aZ (by kernel_rfl),rfl,trivial,by decide⟩,⟨⟨oN w.params,_,aZ (by kernel_rfl),rfl,rfl,rfl⟩,aZ (by kernel_rfl)⟩,λpos c' e=> ?_⟩
 cases e
theorem yy:bO (C1 w vs os).h₀ 176 172 "_law_sorted.<locals>.<lambda>" #[]:=by
 refine⟨⟨k3 w.params,_,_,_,_,_,_,_,_,tx w.params,aZ (by kernel_rfl),rfl,rfl,rfl,rfl,rfl,rfl,aZ (by kernel_rfl),rfl,trivial,by decide⟩,⟨⟨k3 w.params,_,aZ (by kernel_rfl),rfl,rfl,rfl⟩,aZ (by kernel_rfl)⟩,λpos c' e=> ?_⟩
 cases e
theorem tT:bO (C1 w vs os).h₀ 181 179 "law.<locals>.<lambda>" #[]:=by
 refine⟨⟨k5 w.params,_,_,_,_,_,_,_,_,su w.params,aZ (by kernel_rfl),rfl,rfl,rfl,rfl,rfl,rfl,aZ (by kernel_rfl),rfl,trivial,by decide⟩,⟨⟨k5 w.params,_,aZ (by kernel_rfl),rfl,rfl,rfl⟩,aZ (by kernel_rfl)⟩,λpos c' e=> ?_⟩
 cases e
theorem i7 {s:Shared}(h:s.heap=kZ w.params vs)(hg:s.gens=#[]):Inv (C1 w vs s.os) s where
 sys:=by
  have:(H1 w.params).objs.size=183:=by rfl
  show 1 < (kZ w.params vs).objs.size
  unfold kZ
  rw [HU,this];decide
 old a o _ e:=by refine h▸?_;exact e
 size:=by refine h▸?_;exact Hh _
 tabs t ht:=by
  refine h▸?_
  rcases Hf.mp ht with rfl |ht
  ·exact⟨#[],#[],(w0 (os:=s.os)).tab,w0 (os:=s.os)⟩
  rcases Hf.mp ht with rfl |ht
  ·exact⟨#[],#[],(yy (os:=s.os)).tab,yy (os:=s.os)⟩
  ·refine(Hi.mp ht)▸?_
   exact⟨#[],#[],(tT (os:=s.os)).tab,tT (os:=s.os)⟩
 os:=rfl
 gens:=by rw [hg];intro i;simp
noncomputable def fdOf (o:Obj):FuncData:=match o.data with | .func fd=>fd |_=>{name:="",qualname:="",params:=bP tb 17,body:= .stmts [],scope:=ai tb 17,globals:=0,closure:=[],defaults:= .none,kwdefaults:= .none}
theorem dH {a c:Addr}{o oc:Obj}{body:List Stmt}(hg:(H1 w.params).get? a=some o)(ha:¬a∈([51,172,179]:List Addr))(hd:o.data= .func (fdOf o))(hc:(fdOf o).code= .ref c)(T3:¬c∈([51,172,179]:List Addr))
 (UI:(H1 w.params).get? c=some oc)(hq:∃vs t,oc.data= .fields vs/\vs[1]? =some (.str (fdOf o).qualname t))(hb:(fdOf o).body= .stmts body)
 (h1:(fdOf o).scope.isCoroutine=false)(h2:(fdOf o).scope.isGenerator=false)(h3:(fdOf o).scope.kind= .function)(h4:(fdOf o).closure=[])(h5:(fdOf o).globals=mainGlobals)(h6:(fdOf o).builtins=builtinsNs)
 (h7:∀x∈(fdOf o).scope.names,x.2≠.free):FnAt (C1 w vs os) a (fdOf o) body where
 obj:=⟨o,aZ hg,hd⟩
 fa:=ha
 code:=let ⟨us,t,q1,q2⟩:=hq;⟨c,oc,us,t,hc,aZ UI,q1,q2⟩
 noTab c' h:=by rw [hc] at h;cases h;exact T3
 body:=hb
 co:=h1
 gen:=h2
 kind:=h3
 clos:=h4
 glob:=h5
 blt:=h6
 free:=h7
theorem Bh:FnAt (C1 w vs os) 49 (fdOf (w5 w.params)) (ay tb 2):=
 dH (c:=48) (oc:=yt w.params) (by kernel_rfl) (by decide) rfl rfl (by decide) (by kernel_rfl) ⟨_,_,rfl,rfl⟩ rfl rfl rfl rfl rfl rfl rfl (by show ∀x∈(ai tb 2).names,x.2≠.free;decide+kernel)
theorem D7:kP (C1 w vs os) 49 2:=⟨_,Bh,rfl,rfl,rfl,rfl⟩
theorem x7:FnAt (C1 w vs os) 56 (fdOf (wD w.params)) (ay tb 3):=
 dH (c:=55) (oc:=oN w.params) (by kernel_rfl) (by decide) rfl rfl (by decide) (by kernel_rfl) ⟨_,_,rfl,rfl⟩ rfl rfl rfl rfl rfl rfl rfl (by show ∀x∈(ai tb 3).names,x.2≠.free;decide+kernel)
theorem D4:kP (C1 w vs os) 56 3:=⟨_,x7,rfl,rfl,rfl,rfl⟩
theorem C3:FnAt (C1 w vs os) 63 (fdOf (xT w.params)) (ay tb 4):=
 dH (c:=62) (oc:=xP w.params) (by kernel_rfl) (by decide) rfl rfl (by decide) (by kernel_rfl) ⟨_,_,rfl,rfl⟩ rfl rfl rfl rfl rfl rfl rfl (by show ∀x∈(ai tb 4).names,x.2≠.free;decide+kernel)
theorem Eb:kP (C1 w vs os) 63 4:=⟨_,C3,rfl,rfl,rfl,rfl⟩
theorem Co:FnAt (C1 w vs os) 117 (fdOf (sH w.params)) (ay tb 12):=
 dH (c:=116) (oc:=tj w.params) (by kernel_rfl) (by decide) rfl rfl (by decide) (by kernel_rfl) ⟨_,_,rfl,rfl⟩ rfl rfl rfl rfl rfl rfl rfl (by show ∀x∈(ai tb 12).names,x.2≠.free;decide+kernel)
theorem Ew:kP (C1 w vs os) 117 12:=⟨_,Co,rfl,rfl,rfl,rfl⟩
theorem De:FnAt (C1 w vs os) 163 (fdOf (tB w.params)) (ay tb 14):=
 dH (c:=162) (oc:=tv w.params) (by kernel_rfl) (by decide) rfl rfl (by decide) (by kernel_rfl) ⟨_,_,rfl,rfl⟩ rfl rfl rfl rfl rfl rfl rfl (by show ∀x∈(ai tb 14).names,x.2≠.free;decide+kernel)
theorem DQ:kP (C1 w vs os) 163 14:=⟨_,De,rfl,rfl,rfl,rfl⟩
theorem Cf:FnAt (C1 w vs os) 170 (fdOf (tS w.params)) (ay tb 16):=
 dH (c:=169) (oc:=sX w.params) (by kernel_rfl) (by decide) rfl rfl (by decide) (by kernel_rfl) ⟨_,_,rfl,rfl⟩ rfl rfl rfl rfl rfl rfl rfl (by show ∀x∈(ai tb 16).names,x.2≠.free;decide+kernel)
theorem D3:kP (C1 w vs os) 170 16:=⟨_,Cf,rfl,rfl,rfl,rfl⟩
theorem yT:FnAt (C1 w vs os) 182 (fdOf (s8 w.params)) (ay tb 18):=
 dH (c:=181) (oc:=k5 w.params) (by kernel_rfl) (by decide) rfl rfl (by decide) (by kernel_rfl) ⟨_,_,rfl,rfl⟩ rfl rfl rfl rfl rfl rfl rfl (by show ∀x∈(ai tb 18).names,x.2≠.free;decide+kernel)
theorem CZ:FnAt (C1 w vs os) 177 (fdOf (sv w.params)) (ay tb 17):=
 dH (c:=176) (oc:=k3 w.params) (by kernel_rfl) (by decide) rfl rfl (by decide) (by kernel_rfl) ⟨_,_,rfl,rfl⟩ rfl rfl rfl rfl rfl rfl rfl (by show ∀x∈(ai tb 17).names,x.2≠.free;decide+kernel)
theorem CC:FnAt (C1 w vs os) 72 (fdOf (xJ w.params)) (ay tb 6):=
 dH (c:=71) (oc:=yh w.params) (by kernel_rfl) (by decide) rfl rfl (by decide) (by kernel_rfl) ⟨_,_,rfl,rfl⟩ rfl rfl rfl rfl rfl rfl rfl (by show ∀x∈(ai tb 6).names,x.2≠.free;decide+kernel)
theorem DP:tC (C1 w vs os) 72 6:=
 ⟨_,CC,rfl,rfl,⟨64,wR w.params,_,rfl,by show ¬(64:Nat)∈[51,172,179];decide,aZ (by kernel_rfl),rfl⟩,65,kL (rN w.params),rfl,by show ¬(65:Nat)∈[51,172,179];decide,lS (o:=rN w.params) (aZ (by kernel_rfl)) ⟨_,_,rfl,cK (by kernel_rfl)⟩,by rfl⟩
theorem BL:FnAt (C1 w vs os) 81 (fdOf (wM w.params)) (ay tb 7):=
 dH (c:=80) (oc:=vV w.params) (by kernel_rfl) (by decide) rfl rfl (by decide) (by kernel_rfl) ⟨_,_,rfl,rfl⟩ rfl rfl rfl rfl rfl rfl rfl (by show ∀x∈(ai tb 7).names,x.2≠.free;decide+kernel)
theorem Ei:tC (C1 w vs os) 81 7:=
 ⟨_,BL,rfl,rfl,⟨73,xm w.params,_,rfl,by show ¬(73:Nat)∈[51,172,179];decide,aZ (by kernel_rfl),rfl⟩,74,kL (rP w.params),rfl,by show ¬(74:Nat)∈[51,172,179];decide,lS (o:=rP w.params) (aZ (by kernel_rfl)) ⟨_,_,rfl,cK (by kernel_rfl)⟩,by rfl⟩
theorem Bp:FnAt (C1 w vs os) 90 (fdOf (xN w.params)) (ay tb 8):=
 dH (c:=89) (oc:=vH w.params) (by kernel_rfl) (by decide) rfl rfl (by decide) (by kernel_rfl) ⟨_,_,rfl,rfl⟩ rfl rfl rfl rfl rfl rfl rfl (by show ∀x∈(ai tb 8).names,x.2≠.free;decide+kernel)
theorem D8:tC (C1 w vs os) 90 8:=
 ⟨_,Bp,rfl,rfl,⟨82,wF w.params,_,rfl,by show ¬(82:Nat)∈[51,172,179];decide,aZ (by kernel_rfl),rfl⟩,83,kL (rV w.params),rfl,by show ¬(83:Nat)∈[51,172,179];decide,lS (o:=rV w.params) (aZ (by kernel_rfl)) ⟨_,_,rfl,cK (by kernel_rfl)⟩,by rfl⟩
theorem Dz:FnAt (C1 w vs os) 99 (fdOf (yp w.params)) (ay tb 9):=
 dH (c:=98) (oc:=xh w.params) (by kernel_rfl) (by decide) rfl rfl (by decide) (by kernel_rfl) ⟨_,_,rfl,rfl⟩ rfl rfl rfl rfl rfl rfl rfl (by show ∀x∈(ai tb 9).names,x.2≠.free;decide+kernel)
theorem Er:tC (C1 w vs os) 99 9:=
 ⟨_,Dz,rfl,rfl,⟨91,v9 w.params,_,rfl,by show ¬(91:Nat)∈[51,172,179];decide,aZ (by kernel_rfl),rfl⟩,92,kL (r8 w.params),rfl,by show ¬(92:Nat)∈[51,172,179];decide,lS (o:=r8 w.params) (aZ (by kernel_rfl)) ⟨_,_,rfl,cK (by kernel_rfl)⟩,by rfl⟩
theorem GI:Lw (C1 w vs os) where
 ok:=Gg
 bl e he:=by
  have:∀e∈Av,kL (j9 w.params) e.1=none/\kL (Bw w.params) e.1=some e.2:=by
   simp only [Av,Jx,List.forall_mem_nil,and_true]
   refine⟨?_,?_,?_,?_,?_,?_,?_,?_,?_,?_,?_,?_,?_,?_,?_,?_,?_,λ_ h=>nomatch h⟩ <;> exact⟨by rfl,by kernel_rfl⟩
  exact this e he
 gl e he:=by
  have:∀e∈E5,kL (j9 w.params) e.1=some (.ref e.2):=by
   simp only [E5,Jx,List.forall_mem_nil,and_true]
   refine⟨?_,?_,?_,?_,?_,?_,?_,?_,?_,?_,?_,?_,?_,?_,λ_ h=>nomatch h⟩ <;> kernel_rfl
  exact this e he
 ir:=DP
 br:=Ei
 il:=D8
 bL:=Er
theorem GP:Tc (C1 w vs os) where
 k:=⟨λa o h=>by
  have h':(KT w.params).lookup a=some o:=h
  unfold KT at h'
  simp only [Hl,List.lookup_nil] at h'
  have go:∀{b:Addr} {o':Obj},(a==b)=true->some o'=some o->(H1 w.params).get? b=some o'->¬b∈([51,172,179]:List Addr)->a∉(C1 w vs os).aq/\(C1 w vs os).h₀.get? a=some o:=λhb e g hn=>by
   cases e
   have:=JH hb
   refine this▸?_
   exact⟨hn,aZ g⟩
  split at h'
  ·rename_i q;exact go q h' (by kernel_rfl) (by decide)
  split at h'
  ·rename_i q;exact go q h' (by kernel_rfl) (by decide)
  split at h'
  ·rename_i q;exact go q h' (by kernel_rfl) (by decide)
  split at h'
  ·rename_i q;exact go q h' (by kernel_rfl) (by decide)
  cases h'⟩
 nt:=by show ¬(38:Nat)∈[51,172,179];decide
 ini:=⟨fdOf (oj w.params),dH (o:=oj w.params) (c:=27) (oc:=vT w.params) (by kernel_rfl) (by decide) rfl rfl (by decide) (by kernel_rfl) ⟨_,_,rfl,rfl⟩ rfl rfl rfl rfl rfl rfl rfl (by show ∀x∈(ai (cI tb 1) 0).names,x.2≠.free;decide+kernel),rfl,rfl,rfl,rfl⟩
 cmp:=⟨fdOf (oq w.params),dH (o:=oq w.params) (c:=34) (oc:=yu w.params) (by kernel_rfl) (by decide) rfl rfl (by decide) (by kernel_rfl) ⟨_,_,rfl,rfl⟩ rfl rfl rfl rfl rfl rfl rfl (by show ∀x∈(ai (cI tb 1) 1).names,x.2≠.free;decide+kernel),rfl,rfl,rfl,rfl⟩
noncomputable def z7 (i:Int):Option Str:=b3.lookup i
inductive c6:List DictEntry->List KV->Prop
 |nil:c6 [] []
 |cons {e:DictEntry} {kv:KV} {es:List DictEntry} {l:List KV}:(∃t u,e=⟨kv.1,.int kv.1 t,.str kv.2 u⟩)->c6 es l->c6 (e::es) (kv::l)
theorem hX:∀(l:List KV)(t st:Nat),c6 (ents t st l) l:=by
 intro q0
 induction q0 with
 |nil=>
  intro _ _
  exact .nil
 |cons q1 r ih=>
  obtain⟨i,x⟩:=q1
  intro t st
  exact .cons ⟨_,_,rfl⟩ (ih _ _)
theorem c6.append {es Mk:List DictEntry}{l l':List KV}(h:c6 es l)(h':c6 Mk l'):c6 (es ++ Mk) (l ++ l'):=by
 induction h with
 |nil=>exact h'
 |cons a _ ih=>exact .cons a ih
theorem pI:∀(gs:List (List KV))(es:List DictEntry)(l:List KV)(Ls:List Obj)(t:Nat),c6 es l->c6 (ew gs es Ls t).1 (l ++ gs.flatten):=by
 intro q0
 induction q0 with
 |nil=>
  intro es l Ls t h
  simpa [k0,kU] using h
 |cons g gs ih=>
  intro es l Ls t h
  have:=ih (es ++ ents t 3 g) (l ++ g) (Ls ++ [ag (ents t 3 g)]) (t+3*g.length) (h.append (hX _ _ _))
  simpa [k0,kU] using this
theorem nB:c6 ey b3:=by
 exact((pI gn _ _ [] _ (hX _ _ _)).append (hX _ _ _):c6 ey ((ie ++ gn.flatten) ++ iT))
theorem c6.find {es:List DictEntry}{l:List KV}(h:c6 es l)(i:Int):match l.lookup i with |some x=>∃t,findBy Value.isInt es.toArray i=some (.str x t) |none=>findBy Value.isInt es.toArray i=none:=by
 rw [(λes=>by unfold findBy;rw [List.find?_toArray]:∀es:List DictEntry,findBy Value.isInt es.toArray i=(es.find? λe=>Value.isInt i e.key).map (·.val))]
 induction h with
 |nil=>rfl
 | @cons e kv es l a _ ih=>
  obtain⟨t,u,rfl⟩:=a
  obtain⟨k,x⟩:=kv
  rw [Hl,List.find?_cons]
  have hk:Value.isInt i (.int k t)=(i==k):=by
   exact Bool.eq_iff_iff.mpr ⟨λh=>by rw [JH h];exact Im _,λh=>by refine(JH h)▸?_;exact Im _⟩
  dsimp only
  rw [hk]
  cases hq:i==k with
  |true=>exact⟨u,rfl⟩
  |false=>exact ih
theorem c6.keys {es:List DictEntry}{l:List KV}(h:c6 es l)(p:Program)(w:World)(hb:∀kv∈l,hashInt kv.1=kv.1):KeysOf (intKind p w) es.toArray:=by
 intro e he
 have Nf:e∈es:=by simpa using he
 induction h with
 |nil=>cases Nf
 | @cons e' kv es l a _ ih=>
  rcases Hf.mp Nf with rfl |hm
  ·obtain⟨t,u,rfl⟩:=a
   exact⟨kv.1,by show Value.isInt kv.1 (.int kv.1 t)=true;simp only [Value.isInt];simp,(hb kv G9).symm⟩
  ·exact ih (λkv hk=>hb kv (Ha _ hk)) (by simpa using hm) hm
noncomputable def En (l:List KV):Bool:=l.all λkv=>hashInt kv.1==kv.1
theorem zx:En b3=true:=by rfl
theorem FT:yw (C1 w vs os) 118 z7 where
 nt:=by show ¬(118:Nat)∈[51,172,179];decide
 ns:=by decide
 tab:=by
  refine⟨λi=>findBy Value.isInt ey.toArray i,⟨ag ey,ey.toArray,ey.length,aZ (by kernel_rfl),⟨rfl,rfl,rfl⟩,rfl,?_,λk=>rfl⟩,λi=> ?_⟩
  ·refine nB.keys _ _ λkv P9=> ?_
   have:=Hw.mp zx kv P9
   exact JH this
  ·exact nB.find i
noncomputable def setOf (o:Obj):List (Int×Value):=match o.data with | .set es _ _=>es.toList |_=>[]
noncomputable def CI:Value->Option Int
 | .int i _=>some i
 |_=>none
noncomputable def Fj (e:Int×Value):Bool:=match e.2 with | .int i _=>e.1==hashInt i |_=>false
theorem mU {k:Int}{v:Value}:Value.isInt k v=true↔CI v=some k:=by
 cases v with
 |int i t=>show Value.isInt k (.int i t)=true↔some i=some k;simp [Value.isInt]
 |_=>exact⟨λh=>(HS h).elim,λh=>(Option.some_ne_none _ h.symm).elim⟩
theorem vz:wZ (C1 w vs os) 107 iH where
 nt:=by show ¬(107:Nat)∈[51,172,179];decide
 set:=by
  refine⟨_,iB w.params,_,_,_,aZ (by kernel_rfl),⟨rfl,rfl,rfl⟩,rfl,?_,?_,by decide,by rfl,rfl⟩
  ·intro e he
   have:=Hw.mp (by rfl:(setOf (iB w.params)).all Fj=true) e he
   obtain⟨Tv,v⟩:=e
   cases v with
   |int i t=>exact⟨⟨i,by show Value.isInt i (.int i t)=true;simp only [Value.isInt];simp,JH this⟩,rfl⟩
   |_=>cases this
  ·intro k
   show rD.contains k=true↔∃e∈setOf (iB w.params),Value.isInt k e.2=true
   constructor
   ·intro h
    refine ae (Ju.mp (Hw.mp (by rfl:(rD.all λk=>(setOf (iB w.params)).any λe=>CI e.2==some k)=true) k (by simpa using h))) λe he q=> ?_
    exact⟨e,he,mU.mpr (JH q)⟩
   ·intro zz;refine ae zz λe he q=> ?_
    refine ae (Ju.mp (Hw.mp (by rfl:((setOf (iB w.params)).all λe=>rD.any λk=>CI e.2==some k)=true) e he)) λk' MV q'=> ?_
    replace q':=((mU.mp q))▸q'
    have:k=k':=by simpa using q'
    refine this▸?_
    simpa using MV
theorem G0:Lx (C1 w vs os) z7:=⟨GI,D3,Ew,DQ,Eb,D4,D7,vz,FT⟩
theorem FJ:Cb (C1 w vs os) 177 (ay tb 17) (ai tb 17) (bP tb 17) Em (.ref 176):=
 ⟨⟨_,CZ,rfl,rfl,rfl,by rfl,rfl⟩,(176,172,"_law_sorted.<locals>.<lambda>"),by show _∈mD;simp,rfl,by rfl⟩
set_option maxRecDepth 4000
theorem xB (cs:List Int){j:Nat}(h:j < 3):(dJ cs 3)[j]? =some (AZ (CD (bM cs j 6))):=by
 unfold dJ
 simp only [List.getElem?_map,List.getElem?_range h]
 rfl
abbrev Fu (C:Cfg):Prop:=Cb C 177 (ay tb 17) (ai tb 17) (bP tb 17) Em (.ref 176)
abbrev E8 (C:Cfg):Prop:=Dx C 56 (ay tb 3) (ai tb 3) (bP tb 3) Eu (.ref 55)
theorem EJ (L:Lx C f3)(FS:Fu C)(FG:E8 C){cs:List Int}(hc:cs.length=6){bk st kn ln:Addr}{o:Str}{S:LS}{n:Nat}(hn:n<=500)(G:Good n S)(ho:oX o)(Ap:oY pre bk st kn ln)(rm:ak A (k+6))(X:St C W SL (bQ pre bk st kn ln S) (aC (("order",.str o)::oK cs bk st kn ln)) env s)(B:Bs C Wt (λ_=>true) t (bQ pre bk st kn ln S) env s)
 (next:∀J,St C W SL (bQ pre bk st kn ln (S.ord cs o)) (aC (oK cs bk st kn ln)) env J->Bs C Wt (λ_=>true) t (bQ pre bk st kn ln (S.ord cs o)) env J->wpAny C.M A (execs [] env) Q E J):
 wpAny C.M A (execs (Fy 0) env) Q E s:=by
 have L':=L.L
 have LK:sizeLine=16777216:=rfl
 have Qy:PV.lst ((List.range 3).map (λj=>PV.str (ax cs j o)))=cq (k9 cs o):=rfl
 have Uz:∀j,aN C (k+6) [] (.ref 177) [.str o,AZ (CD (bM cs j 6)),.bool (DK cs j)] [] (.str (ax cs j o)):=λj=>
  (Bu (k:=k) (own:=[]) L FS (order:=o) (es:=CD (bM cs j 6)) (b:=DK cs j) ho.size (ho.names _ _) ⟨9,rfl⟩ ⟨-1,rfl⟩).mono (by simp)
 conv in Fy _=>whnf
 with_reducible
  refine dq (a:=st) (es:=cB cq S.steps) (x:=o) (p:=cq (k9 cs o)) X B rm (Ev.conv (fT.ev (c4 (need:=false) (l:=List.range 3) (g:=λ(i:Nat)=> .int ((0:Int)+(i:Int))) (by with_unfolding_all exact⟨rfl,by done,by done⟩) (λx env=>by fail) (λj=>PV.str (ax cs j o)) ?it (by decide) ?step)) Qy) ?_ ?_ m2 (by rw [mi];have:=G.t;lia) ?sw ?n1
 case sw=>fail
 case it=>exact aX.cL (n:=3) (by intros) (by intros) (by decide) (by decide) (λenv=>by fail)
 case step=>
  intro j hj
  have hj:=Hu.mp hj
  have e0:((0:Int)+(j:Int))=(j:Int):=by lia
  have UN:PV.bool (((cs.getD 2 0).fdiv 64+((0:Int)+(j:Int))).fmod 2==0)= .bool (DK cs j):=by rw [e0];rfl
  refine⟨_,bg.local (by done),by k_extra"u",?_⟩
  with_reducible
   refine Ev.du ?_ (FS.ex.elim λfd h=>h.1.fo) (ab.cons ?_ (ab.cons (Ev.item (n:=j) (Ev.l (xs:=dJ cs 3) ?_) ?_ e0 (xB cs hj) (by omega) (λ_ _=>by fail)) (ab.cons (Ev.conv (Ev.cmp (Ev.bin (Ev.bin (Ev.bin (Ev.item (n:=2) (Ev.l (xs:=cs.map .int) ?_) Ev.int (by fail) (int_at (by simp_all)) (by decide) (λ_ _=>by fail)) Ev.int (aj.floordiv (by decide) (Hy (by decide)))) ?_ aj.add) Ev.int (aj.mod (by decide))) Ev.int aj.DM (by decide+kernel)) UN) ab.nil))) bR.nil (Uz j)
  all_goals with_reducible intros
 case n1=>
  intro s1 X1 B1
  simp only [Ap.Ci,lZ] at X1 B1
  have K':∀S S':LS,(bQ pre bk st kn ln S).map (·.1)=(bQ pre bk st kn ln S').map (·.1):=λS S'=>by simp
  have X2:St C W SL (bQ pre bk st kn ln (S.Ak cs o)) (aC (("order",.str o)::oK cs bk st kn ln)) env s1:=X1
  with_reducible
   refine a7 (need:=false) (k:=k+6) (ps:=aI 0 3) X2 B1 rm ?it2 (λi=>bQ pre bk st kn ln (S.at cs o i)) (λ_=>aC (("order",.str o)::oK cs bk st kn ln)) (λi=>upd (aC (("order",.str o)::oK cs bk st kn ln)) "j" (.int ((0:Int)+(i:Int)))) (by fail) (by fail) (λ_=>K' _ _) (λ_=>False) ?LH ?turn (λ_ _ _ h=>h.elim) ?done (λx=>by fail)
  case it2=>exact aX.cL (n:=3) (by intros) (by intros) (by decide) (by decide) (λenv=>by fail)
  case LH=>
   intro i p hp
   refine(er hp)▸?_
   exact bg.cell (by done) rfl
  case turn=>
   intro I ob i p t' LY s3 hI hp X3 B3
   have hi:=ek hp
   have Ts:oY ((I,.obj ob)::pre) bk st kn ln:=⟨memC ⟨(hI _ m1).symm,(hI _ m2).symm,(hI _ m3).symm,(hI _ m4).symm⟩ Ap.p,Ap.a,Ap.b,Ap.c,Ap.d,Ap.e,Ap.f⟩
   have Gi:=G.at cs ho i
   have hg:=ho.goal cs i
   have Gn:=Gi.new hg
   obtain⟨b,hb⟩:=Gn.has _ ((S.at cs o i).nj (ax cs i o))
   have Po:=Gn.es _ (aG hb)
   have UM:(k9 cs o)[i]? =some (ax cs i o):=by
    unfold k9
    simp only [List.getElem?_map,List.getElem?_range hi]
    rfl
   have PA:S.at cs o (i+1)={(S.at cs o i).new (ax cs i o) with book:=bo ((S.at cs o i).new (ax cs i o)).book (ax cs i o) (b.add (a6 cs o (ax cs i o) i))}:=by
    rw [LS.jz]
    unfold LS.add
    rw [hb]
    rfl
   have fin:=CT (k:=k+5) (Q:=λf H'=>match f with
    | .next | .cont=>St C (I::W) SL ((I,.obj ob)::bQ pre bk st kn ln (S.at cs o (i+1))) (aC (("order",.str o)::oK cs bk st kn ln)) env H'/\Bs C LY (λ_=>true) t' ((I,.obj ob)::bQ pre bk st kn ln (S.at cs o (i+1))) env H'
    | .brk=>False
    | .ret v=>∃p own' J',False/\Rr C (I::W) H'.heap v p/\St C (I::W) SL own' J' env H'/\Bs C LY (λ_=>true) t' own' env H') (E:=λ_ _=>False) L (LS.yl cs S o i) UM hi rm (X3.to (by k_extra"rs")) B3 λs4 X5 B5=>
    CG L (k:=k+4) Ts Gi.srt Gi.nd (by have:=Gi.k;lia) (by have:=Gi.l;lia) (by have:=Gi.b;lia) hg.ok rm X5 B5 λs5 X6 B6=>
    CS L (k:=k+4) hb (by have:=Po.1;simp only at this;omega) hi rm X6 B6 λs6 X7 B7=>
    CW L FG (k:=k+4) Ts hb (by have:=Po.1;simp only at this;omega) Po.2 (by have:=Gn.b;lia) rm X7 B7 λs7 X8 B8=>by
     refine PA▸?_
     exact Hk ⟨X8,B8⟩
   conv at fin in qD _=>whnf
   with_reducible refine Hb fin ?_ λ_ _ h=>h
   intro f H' h
   cases f <;> exact h
  case done=>
   intro s3 X3 B3
   exact next _ (X3.to (by k_extra"rs")) B3
 all_goals with_reducible intros
theorem qY (b:aO):Plain b.pv:=λf=>by
 show PV.tup (dM f [.int b.a,.int b.b,.int b.c,.int b.d,.au (fS b.es)])=_
 rw [e9]
 ·rfl
 refine memC (Plain.int _) (memC (Plain.int _) (memC (Plain.int _) (memC (Plain.int _) (memC (Plain.au ?_) λ_ h=>nomatch h))))
 intro e he
 refine ae (He.mp he) λe' _ G'=> ?_;subst G'
 show Plain (tupI e'.2)
 intro f
 show PV.tup (dM f _)=_
 rw [fO]
theorem mm {α:Type}{f:α->PV}(h:∀a,Plain (f a))(es:List (Str×α)):∀e∈cB f es,Plain e.2:=λe he=>by
 refine ae (He.mp he) λe' _ G'=> ?_;subst G'
 exact h _
theorem ET (L:Lx C f3){cs:List Int}(rm:ak A (k+1))(X:St C W SL [] (aC (DH cs)) env s)(B:Bs C Wt (λ_=>true) t [] env s)
 (next:∀W bk st kn ln J,oY [] bk st kn ln->St C W SL (bQ [] bk st kn ln LS.zero) (aC (oK cs bk st kn ln)) env J->Bs C Wt (λ_=>true) t (bQ [] bk st kn ln LS.zero) env J->wpAny C.M A (execs (aK 19) env) Q E J):
 wpAny C.M A (execs (aK 15) env) Q E s:=by
 conv in aK _=>whnf
 with_reducible refine dU (p:= .lst [.str "abcd"]) X B rm (kH.list ?_ ?_) (by done) (by fail) ?n1
 case n1=>
  intro ln s1 h1 X1 B1
  with_reducible refine dU (p:= .lst [.str "abcd"]) X1 B1 rm (kH.list ?_ ?_) (by done) (by fail) ?n2
  case n2=>
   intro kn s2 h2 X2 B2
   with_reducible refine dU (p:= .au []) X2 B2 rm kH.kC (by done) (by fail) ?n3
   intro st s3 h3 X3 B3
   with_reducible
    refine dZ (p:= .au (cB aO.pv LS.zero.book)) X3 B3 rm (kH.dict (ks:=[_]) (es:=[("abcd",.tup [.int 0,.int 0,.int 0,.int 0,.au []])]) (by fail) (by fail) (λenv=>by fail) (ck.cons ?_ (Ev.tuple (ab.cons ?_ (ab.cons ?_ (ab.cons ?_ (ab.cons ?_ (ab.cons Ev.kC ab.nil))))) (Ho (by fail))) ck.nil) (by fail) (by fail)) (by done) (by fail) (by fail) ?n4
   case n4=>
    intro bk s4 h4 X4 B4
    have h9:=next _ bk st kn ln _ ⟨(λ_ h=>nomatch h),(λe=>h4 (e▸G9)),(λe=>h4 (e▸Ha _ G9)),(λe=>h4 (e▸Ha _ (Ha _ G9))),(λe=>h3 (e▸G9)),(λe=>h3 (e▸Ha _ G9)),(λe=>h2 (e▸G9))⟩ (X4.to (by k_extra"rs")) B4
    conv at h9 in aK _=>whnf
    with_reducible exact h9
   all_goals with_reducible intros
  all_goals with_reducible intros
 all_goals with_reducible intros
noncomputable def Rk (a b:bK):Nat->bK
 |0=>a
 |_+1=>b
noncomputable abbrev nU (cs:List Int) (S:LS):List (Str×PV):=("book",.au (cB aO.pv S.book))::("steps",.au (cB cq S.steps))::("known",cq S.known)::("line",cq S.line)::DH cs
theorem Es (L:Lx C f3)(FS:Fu C)(FG:E8 C){cs:List Int}(hc:cs.length=6){bk st kn ln:Addr}(Ap:oY [] bk st kn ln)(rm:ak A (k+6))(X:St C W SL (bQ [] bk st kn ln LS.zero) (aC (oK cs bk st kn ln)) env s)(B:Bs C Wt (λ_=>true) t (bQ [] bk st kn ln LS.zero) env s)
 (next:∀W J,St C W SL [] (aC (nU cs (cJ cs 24))) env J->Bs C Wt (λ_=>true) t [] env J->wpAny C.M A (execs (aK 20) env) Q E J):
 wpAny C.M A (execs (aK 19) env) Q E s:=by
 have L':=L.L
 have LK:sizeLine=16777216:=rfl
 conv in aK _=>whnf
 with_reducible
  refine a7 (need:=false) (k:=k+6) (ps:=aI 0 24) X B rm ?it (λi=>bQ [] bk st kn ln (cJ cs i)) (λ_=>aC (oK cs bk st kn ln)) (λi=>upd (aC (oK cs bk st kn ln)) "k" (.int ((0:Int)+(i:Int)))) (by fail) (by fail) (λ_=>by fail) (λ_=>False) ?LH ?turn (λ_ _ _ h=>h.elim) ?done (λx=>by fail)
 case it=>exact aX.cL (n:=24) (by intros) (by intros) (by decide) (by decide) (λenv=>by fail)
 case LH=>
  intro i p hp
  refine(er hp)▸?_
  exact bg.cell (by rfl) rfl
 case turn=>
  intro I ob i p t' LY s1 hI hp X1 B1
  have hi:=ek hp
  have Nm:cJ cs (i+1)=(cQ (cJ cs i) i).foldl (LS.ord cs) (cJ cs i):=rfl
  generalize cJ cs (i+1)=S' at Nm ⊢
  have G:=Good.pD cs i
  generalize cJ cs i=S at Nm G X1 B1 hI
  have X2:St C (I::W) SL (bQ [(I,.obj ob)] bk st kn ln S) (aC (("k",.int ((0:Int)+(i:Int)))::oK cs bk st kn ln)) env s1:=X1.to (by k_extra"rs")
  have NN:fb (some ((0:Int)+(i:Int))) (some (((0:Int)+(i:Int))+1)) (S.line.map PV.str)=(cQ S i).map .str:=by
   rw [show ((0:Int)+(i:Int))=((i:Nat):Int) from by lia,show ((i:Nat):Int)+1=((i+1:Nat):Int) from by simp,qh,<-Jz,<-KN]
   rfl
  have QZ:=lP S i
  have K':∀S S':LS,(bQ [(I,.obj ob)] bk st kn ln S).map (·.1)=(bQ [(I,.obj ob)] bk st kn ln S').map (·.1):=λS S'=>rfl
  with_reducible
   refine a7 (need:=false) (k:=k+6) (ps:=(cQ S i).map .str) X2 B1 rm (aX.lst (Ev.conv (Ev.conv (Ev.eB (i:=some ((0:Int)+(i:Int))) (j:=some (((0:Int)+(i:Int))+1)) (l:=none) (Ev.lo (xs:=S.line.map .str) (a:=ln) ?_ m4) (eh.some ?_) (eh.some ?_) eh.kc (by decide) (by rw [Hd];have:=G.l;lia) (λ_ _=>⟨_,by fail⟩) (λ_ _=>by fail)) (Hx PV.lst (dI _ _ _))) (Hx PV.lst NN)) (by rw [Hd];lia)) (λm=>bQ [(I,.obj ob)] bk st kn ln (((cQ S i).take m).foldl (LS.ord cs) S)) (λm=>Rk (aC (("k",.int ((0:Int)+(i:Int)))::oK cs bk st kn ln)) (aC (oK cs bk st kn ln)) m) (λm=>upd (Rk (aC (("k",.int ((0:Int)+(i:Int)))::oK cs bk st kn ln)) (aC (oK cs bk st kn ln)) m) "order" (.str ((cQ S i).getD m ""))) (by fail) (by fail) (λ_=>K' _ _) (λ_=>False) ?tgt2 ?turn2 (λ_ _ _ h=>h.elim) ?done2 (λx=>by fail)
  case tgt2=>
   intro m p hp
   refine ae (cY hp) λo ho G'=> ?_;subst G'
   rw [List.getD_eq_getElem?_getD,ho]
   exact bg.cell (by rfl) rfl
  case turn2=>
   intro I2 O6 m p t2 Ta s2 QQ hp X3 B3
   refine ae (cY hp) λo ho G'=> ?_;subst G'
   simp only [List.getD_eq_getElem?_getD,ho] at X3
   have hm:m < 1:=Hn (List.getElem?_eq_some_iff.mp ho).1 QZ
   have L8:∀o∈cQ S i,oX o:=λo ho=>G.ok o (G.lk o (jK ho))
   have LJ:((cQ S i).take (m+1)).foldl (LS.ord cs) S=(((cQ S i).take m).foldl (LS.ord cs) S).ord cs o:=eS _ _ ho
   have Gm:=G.fold cs (l:=(cQ S i).take m) λo ho=>L8 o (J5 _ _ ho)
   have VX:((cQ S i).take m).length<=1:=by rw [H8];simp_all
   generalize ((cQ S i).take (m+1)).foldl (LS.ord cs) S=S2 at LJ ⊢
   generalize ((cQ S i).take m).foldl (LS.ord cs) S=S1 at LJ X3 B3 Gm
   have UG:oY [(I2,.obj O6),(I,.obj ob)] bk st kn ln:=⟨memC ⟨(QQ _ m1).symm,(QQ _ m2).symm,(QQ _ m3).symm,(QQ _ m4).symm⟩ (⟨memC ⟨(hI _ m1).symm,(hI _ m2).symm,(hI _ m3).symm,(hI _ m4).symm⟩ (λ_ h=>nomatch h),Ap.a,Ap.b,Ap.c,Ap.d,Ap.e,Ap.f⟩:oY [(I,.obj ob)] bk st kn ln).p,Ap.a,Ap.b,Ap.c,Ap.d,Ap.e,Ap.f⟩
   obtain rfl:m=0:=by simp_all
   have X4:St C (I2::I::W) SL (bQ [(I2,.obj O6),(I,.obj ob)] bk st kn ln S1) (aC (("order",.str o)::oK cs bk st kn ln)) env s2:=X3.to (by k_extra"rs")
   have fin:=EJ (k:=k) (Q:=λf H'=>match f with
    | .next | .cont=>St C (I2::I::W) SL ((I2,.obj O6)::bQ [(I,.obj ob)] bk st kn ln (S1.ord cs o)) (aC (oK cs bk st kn ln)) env H'/\Bs C Ta (λ_=>true) t2 ((I2,.obj O6)::bQ [(I,.obj ob)] bk st kn ln (S1.ord cs o)) env H'
    | .brk=>False
    | .ret v=>∃p own' J',False/\Rr C (I2::I::W) H'.heap v p/\St C (I2::I::W) SL own' J' env H'/\Bs C Ta (λ_=>true) t2 own' env H') (E:=λ_ _=>False) L FS FG hc (by lia) Gm (L8 o (List.mem_of_getElem? ho)) UG rm X4 B3 λs4 X5 B5=>Hk ⟨X5,B5⟩
   rw [<-LJ] at fin
   conv at fin in Fy _=>whnf
   with_reducible refine Hb fin ?_ λ_ _ h=>h
   intro f H' h
   cases f <;> exact h
  case done2=>
   intro s2 X3 B3
   simp only [Hd,Il,<-Nm] at X3 B3
   refine Hk ⟨?_,B3⟩
   cases hq:(cQ S i).length with
   |zero=>
    rw [hq] at X3
    exact X3.to (by k_extra"rs")
   |succ q=>
    rw [hq] at X3
    exact X3
  all_goals with_reducible intros
 case done=>
  intro s1 X1 B1
  have Q3:(aI 0 24).length=24:=rfl
  rw [Q3] at X1 B1
  generalize cJ cs 24=S at X1 B1 next
  have l3:List.lookup kn (bQ [] bk st kn ln S)=some (.lst (S.known.map .str)):=by simp [Hl,HC (HE Ap.b),HC (HE Ap.d),cq]
  have X2:=(X1.settle 1).to (l:=nU cs S) (aD (aW (p:= .raw (.ref bk)) (by k_extra"r") (by rw [gR (by simp [Hl]:List.lookup bk (bQ [] bk st kn ln S)=some (.au (cB aO.pv S.book))),dY (mm qY _)]))
   (aD (aW (p:= .raw (.ref st)) (by k_extra"r") (by rw [gR (by simp [Hl,HC (HE Ap.a)]:List.lookup st (bQ [] bk st kn ln S)=some (.au (cB cq S.steps))),dY (mm (f:=cq) (λ_=>Plain.strs) _)]))
   (aD (aW (p:= .raw (.ref kn)) (by k_extra"r") (by rw [e8 l3,eM];rfl))
   (aD (aW (p:= .raw (.ref ln)) (by k_extra"r") (by rw [e8 (by simp [Hl,HC (HE Ap.c),HC (HE Ap.e),HC (HE Ap.f),cq]:List.lookup ln (bQ [] bk st kn ln S)=some (.lst (S.line.map .str))),eM];rfl)) (gC (by k_extra"rs") (uG cs))))))
  have h9:=next _ _ X2 (B1.less (own':=[]) (by simp))
  conv at h9 in aK _=>whnf
  with_reducible exact h9
theorem C2:∀{l:List Str},sortedS l=true->jU dA l:=by
 have key:∀(l:List Str) (x:Str),risingS x l=true->jU dA (x::l):=by
  intro l
  induction l with
  |nil=>intro x _;exact Je _ _
  |cons y l ih=>
   intro x h
   have h':(!PySem.Spec.ltCps y.cps.toList x.cps.toList && risingS y l)=true:=h
   rw [HO,I3,ltCps_eq] at h'
   have hy:=ih y h'.2
   refine HR.mpr ⟨λz hz=> ?_,hy⟩
   have OA:dA y x=false:=h'.1
   rcases Hf.mp hz with rfl |hz
   ·exact OA
   ·exact oV.tr _ _ _ OA ((HR.mp hy).1 z hz)
 intro l h
 cases l with
 |nil=>exact List.Pairwise.nil
 |cons x l=>exact key l x h
theorem xE {a b:Str}(h1:dA a b=false)(h2:dA b a=false):a=b:=by
 unfold dA at h1 h2
 exact kR (List.le_antisymm (JB.mp (Ik h2)) (JB.mp (Ik h1)))
theorem wc {l l':List Str}(h:jU dA l)(h':jU dA l')(hp:l.Perm l'):l=l':=
 List.Perm.eq_of_pairwise (λa b _ _ h1 h2=>xE h2 h1) h h' hp
theorem nI {P:Addr->List DictEntry->List (Str×Value)->Prop}{N:Addr->Prop}{h:Heap}:∀{ys:List Str}{vs:List Value},StrsAre vs ys->aQ P N h vs (ys.map .str)
 |_,_,.nil=>rfl
 |_,_,.cons y t r=>⟨_,_,rfl,⟨t,rfl⟩,nI r⟩
theorem dW {α:Type} [DecidableEq α]:∀{l L:List α},l.Nodup->(∀x∈l,x∈L)->l.length<=L.length
 |[],_,_,_=>HK _
 |a::l,L,hn,hs=>by
  have ha:=hs a G9
  have h1:=dW (l:=l) (L:=L.erase a) (Ht.mp hn).2 λx hx=>by
   refine(List.mem_erase_of_ne ?_).mpr (hs x (Ha _ hx))
   rintro rfl
   exact(Ht.mp hn).1 hx
  rw [List.length_erase_of_mem ha] at h1
  have:0 < L.length:=List.length_pos_of_mem ha
  simp only [Hv]
  lia
noncomputable def wb:List (List Nat):=[0,1,2,3].flatMap λa=>[0,1,2,3].flatMap λb=>[0,1,2,3].flatMap λc=>[0,1,2,3].flatMap λd=>if [a,b,c,d].Nodup then [[a,b,c,d]] else []
theorem uN {p:List Nat}(h:p.Perm [0,1,2,3]):p∈wb:=by
 match p,h.length_eq with
 |[a,b,c,d],_=>
  have hm:∀x∈[a,b,c,d],x∈[0,1,2,3]:=λx hx=>h.mem_iff.mp hx
  unfold wb
  refine J7.mpr ⟨a,hm a (by simp),J7.mpr ⟨b,hm b (by simp),J7.mpr ⟨c,hm c (by simp),J7.mpr ⟨d,hm d (by simp),?_⟩⟩⟩⟩
  rw [if_pos (h.nodup_iff.mpr (by decide))]
  exact Hi.mpr rfl
theorem As {l:List Str}(hn:l.Nodup)(h:∀x∈l,oX x):l.length<=24:=by
 have:=dW (L:=wb.map d6) hn λx hx=>by
  refine ae (h x hx) λp hp G'=> ?_;subst G'
  exact He.mpr ⟨p,uN hp,rfl⟩
 rw [Hd] at this
 exact Hg this (by decide+kernel)
theorem xe {S:LS}(h:S.known.Perm S.line)(g:Str):(S.new g).known.Perm (S.new g).line:=by
 unfold LS.new
 split
 ·exact h
 ·exact((cT dA true S.known g).trans (h.cons g)).trans (Jo (l₁:=[g]))
theorem AJ {S:LS}(h:S.known.Perm S.line)(cs:List Int)(o:Str):∀j,(S.at cs o j).known.Perm (S.at cs o j).line:=by
 intro j
 induction j with
 |zero=>exact h
 |succ j ih=>
  rw [LS.jz]
  exact xe ih _
theorem nG (cs:List Int):∀k,(cJ cs k).known.Perm (cJ cs k).line:=by
 intro k
 induction k with
 |zero=>exact IJ _
 |succ k ih=>
  show ((cQ (cJ cs k) k).foldl (LS.ord cs) (cJ cs k)).known.Perm _
  exact jQ (P:=λS=>S.known.Perm S.line) (LS.ord cs) (λS h o _=>AJ h cs o 3) _ ih
theorem lu (cs:List Int)(k:Nat):(cJ cs k).line.length<=24:=by
 have G:=Good.pD cs k
 refine((nG cs k).length_eq)▸?_
 exact As G.nd G.ok
theorem Ao {l:List Str}(h:∀x∈l,oX x):kK (cq l):=dh (n:=1) (by
 unfold cq
 rw [lT,Lb,Hw]
 intro x hx
 show rQ 0 (.str x)=true
 rw [yx]
 exact(h x hx).ok) (by decide)
theorem cC.sortedS {l r:List Str}(QN:l.length < 64)(hp:r.Perm l)(hs:jU dA r):cC C k (.builtin "sorted") [.lst (l.map .str)] (.lst (r.map .str)):=λW A s vs rm g hr=>by
 obtain⟨v,rfl,a,us,n,rfl,f,g',ra⟩:=hr.inv1
 refine sorted_strs (aP g') (jD ra) (by rw [(aQ.length ra),Hd];exact QN) λout Vk h1 h2 h3=> ?_
 obtain rfl:Vk=r:=wc (C2 h3) hs (h2.trans hp.symm)
 obtain⟨e,he⟩:=sortedAll_at s.heap us out
 have es:ah C [] s {s with heap:=sortedAll s.heap us out}:=ah.of_keeps (tk:=s.toks) (λb o h=>sortedAll_old h) (H3 (Nat.lt_of_succ_lt (Hp he)))
 refine⟨es,s.heap.objs.size+1,out.toList,e,rfl,λq=> ?_,?_,nI h1⟩
 ·rcases q with q |q
  ·exact absurd (g.low _ (.inl q)) (Hs.mpr (Iz _))
  ·exact absurd (g.low _ (.inr q)) (Hs.mpr (Iz _))
 ·rw [he]
  show some (seqObj "list" out e)=some (ao out.toList e)
  unfold ao seqObj
  simp only [Array.toArray_toList]
theorem EL (L:Lx C f3){cs:List Int}(rm:ak A (k+1))(X:St C W SL [] (aC (nU cs (cJ cs 24))) env s)(B:Bs C Wt (λ_=>true) t [] env s)
 (next:∀J,St C W SL [] (aC (nU cs (cJ cs 24))) env J->Bs C Wt (λ_=>true) t [] env J->wpAny C.M A (execs (aK 21) env) Q E J):
 wpAny C.M A (execs (aK 20) env) Q E s:=by
 have L':=L.L
 have G:=Good.pD cs 24
 have hp:=nG cs 24
 have hz:=lu cs 24
 generalize cJ cs 24=S at X next G hp hz
 conv in aK _=>whnf
 with_reducible
  refine bG X B rm (Tr.cmp ?_ (Ev.a6 ?_ (ab.cons ?_ ab.nil) (cC.sortedS (by lia) hp G.srt:cC C (k+1) (.builtin "sorted") [cq S.line] (cq S.known))) (aj.fB (Ao G.ok)) Th.bool (by kernel_rfl!)) ?n1
 case n1=>
  intro s1 X1 B1
  with_reducible have h9:=next _ X1 B1
  conv at h9 in aK _=>whnf
  with_reducible exact h9
 all_goals with_reducible intros
set_option maxRecDepth 100000
variable {SP:Own}
noncomputable def AY (x:Str):Value->Bool
 | .str y _=>y==x
 |_=>false
theorem lH {x:Str}:∀{xs:List Str}{us:List Value},StrsAre us xs->us.countP (AY x)=xs.countP (·==x)
 |_,_,.nil=>rfl
 |_,_,.cons y t r=>by simp only [IU,lH r];rfl
theorem cC.count {xs:List Str}{x:Str}:cC C k (.builtin "list.count") [.lst (xs.map .str),.str x] (.int (xs.countP (·==x):Nat)):=λW A s vs rm g r=>by
 obtain⟨v,u,rfl,⟨a,us,n,rfl,na,ga,ra⟩,⟨t,rfl⟩⟩:=r.inv2
 have hs:=jD ra
 refine KX PySem.F.slot_list_count ⟨_,ga,rfl⟩ PySem.F.entry_list_count (PySem.F.args_list_count_2 _ _)
  (PySem.SeqAt.list_countAt a us.toArray n none #[] (.str x t) (AY x)) ⟨ga,λy hy=> ?_,ah.tok _,s.toks,by rw [<-lH hs]⟩
 ·have RG:y∈us:=by simpa using hy
  refine fC (hs.all y RG) λz tz G'=> ?_;subst G'
  exact PySem.SeqAt.EqAt.str_str z tz x t
noncomputable abbrev ph (h:Heap) (items:Array Value):Heap:=(h.push (seqObj "list" #[] 0)).update h.objs.size (Obj.mapSeq (· ++ items))
theorem uu (h:Heap)(items:Array Value):(ph h items).objs.size=h.objs.size+1:=by simp [ph,HU]
theorem meets_tup (l:Addr)(items:Array Value)(n:Nat)(L9:items.size<=sizeLine):
 Meets (Builtin.«tuple.__new__» ⟨[.type "tuple",.ref l],[]⟩)
  (λ_ R s=>s.heap.get? l=some (seqObj "list" items n)/\R (.ok (.ret (.ref (ph s.heap items).objs.size))) {s with heap:=(ph s.heap items).push {cls:= .type "tuple",data:= .seq items}}):=
 .of_wp λprog w A R s h=>by
  obtain⟨hp,g,d,tk,os⟩:=s;obtain⟨ht,h⟩:=h
  have MU:=sub_tuple_self
  have Su:=init_tuple_lookup
  have V4:=madeHere_tuple
  have hT:Shared.TypeIs ⟨hp,g,d,tk,os⟩ (.ref l) "list":=⟨_,ht,rfl⟩
  have hl:Heap.IsList (Shared.heap ⟨hp,g,d,tk,os⟩) l items:=⟨_,ht,rfl,_,rfl⟩
  wp_walk using wpAny_typeOf hT,collect_list hl
  refine⟨_,rfl,?_⟩
  exact h
theorem cC.CP {xs:List PV}(hz:xs.length<=sizeLine):cC C k (.type "tuple") [.lst xs] (.tup xs):=λW A s vs rm g r=>by
 obtain⟨v,rfl,a,us,n,rfl,f,g',r⟩:=r.inv1
 have e:ah C [] s {s with heap:=ph s.heap us.toArray,toks:=s.toks}:=by
  refine ah.of_keeps (λb o q=> ?_) (by simp)
  rw [(H4 (s.heap.push (seqObj "list" #[] 0)) s.heap.objs.size (Obj.mapSeq (· ++ us.toArray))).2 b (H2 (Hp q))]
  exact Heap.get?_push_of_some _ q
 have e2:ah C [] {s with heap:=ph s.heap us.toArray} {s with heap:=(ph s.heap us.toArray).push (dX us)}:=ah.push (s:={s with heap:=ph s.heap us.toArray}) _ s.toks
 refine callType_new F.called_tuple (by rfl) (F.typeCall_tuple_1 _) (F.newCall_tuple_1 _) (λobj=>F.args_object_init_2 obj _) F.entry_tuple_new
  (meets_tup a us.toArray n (by simpa [(aQ.length r)] using hz)) ⟨g',⟨_,Heap.get?_push_size _ rfl,rfl⟩,e.trans e2,_,us,rfl,λq=> ?_,Heap.get?_push_size _ rfl,(e.trans e2).jl r⟩
 have hs:=uu s.heap us.toArray
 rcases q with q |q
 ·exact absurd (g.low _ (.inl q)) (Hs.mpr (by rw [hs];exact Iz _))
 ·exact absurd (g.low _ (.inr q)) (Hs.mpr (by rw [hs];exact Iz _))
theorem tK:∀{h:Heap}{es:List (Str×PV)}{kvs:List (Str×Value)},bz C.S (C.N W) h kvs es->fe C W h (kvs.map (·.2)) (es.map (·.2))
 |_,[],kvs,r=>by refine(show kvs=[] from r)▸?_;rfl
 |_,(x,p)::es,kvs,⟨v,Mm,e,h1,h2⟩=>by
  subst e
  exact⟨v,Mm.map (·.2),rfl,h1,tK h2⟩
theorem uV {h:Heap}{es:List (Str×PV)}{kvs:List (Str×Value)}{acc:List Value}(r:bz C.S (C.N W) h kvs es)(hl:acc.length=kvs.length)(hv:∀(j:Nat) (v:Value),acc[j]? =some v->∃k,kvs[j]? =some (k,v)):fe C W h acc (es.map (·.2)):=by
 have:acc=kvs.map (·.2):=by
  apply List.ext_getElem?
  intro j
  cases hj:acc[j]? with
  |none=>
   exact(List.getElem?_eq_none (by rw [Hd];simp_all)).symm
  |some v=>
   obtain⟨k,hk⟩:=hv j v hj
   simp only [List.getElem?_map,hk];rfl
 refine this▸?_
 exact tK r
theorem Ev.rG {x:Str}{px apos N8:Pos}{o:Expr}{es:List (Str×PV)}(hf:Ev C k sc own ρ (.Name x px) (.raw (.type "list")))(ho:Ev C k sc own ρ o (.au es))(hz:es.length<=sizeLine)
 (Ln:∀env,attributeBase o "values" env (eval o env)=eval o env)(Lp:(apos.endLine==N8.line)=true)
 (hn:∀env,starEach [.Call (.Attribute o "values" apos) [] [] N8] env=[(false,eval (.Call (.Attribute o "values" apos) [] [] N8) env)]):
 Ev C k sc own ρ (.Call (.Name x px) [.Call (.Attribute o "values" apos) [] [] N8] [] pos) (.lst (es.map (·.2))):=λW A env s rm X=>by
 refine Iu (Hb (hf W A env s rm X) ?_ λ_ _ q=>q.elim)
 rintro v s0 ⟨e0,r0⟩
 obtain rfl:v= .type "list":=r0
 refine PySem.callWith_type (rfl) ?_
 refine JS (Jq ?_)
 refine IE (Ln env) rfl Lp ID I8 PySem.F.type_dict_values (Hb (ho W A env s0 rm (X.aA e0)) ?_ λ_ _ q=>q.elim)
 rintro v s1 ⟨e1,r1⟩
 refine c5 (fY.au W s1 v r1) λh1 h2=> ?_
 refine⟨h1,h2,J3 ?_⟩
 obtain⟨a,ds,n,kvs,rfl,f,g,sd,r⟩:=r1
 refine Kl I8 h1 K2 (KJ _) (meets_dict_values (strKind C.prog C.w) a (iP sd)) ⟨⟨_,aU g sd⟩,?_⟩
 have e2:ah C [] s1 {s1 with heap:=s1.heap.push {cls:= .type "dict_values",data:= .fields #[.ref a]}}:=ah.push _ s1.toks
 have g2:(s1.heap.push {cls:= .type "dict_values",data:= .fields #[.ref a]}).get? a=some (bj ds n):=Heap.get?_push_of_some _ g
 refine JY ?_
 have V5:=bz.length r
 refine kdl_call (s:={s1 with heap:=s1.heap.push {cls:= .type "dict_values",data:= .fields #[.ref a]}}) (kdl_values (knd:=strKind C.prog C.w) (kvs:=kvs) (ep:=n)) rm.handled ⟨⟨_,Heap.get?_push_size _ rfl,rfl,rfl⟩,eJ g2 sd⟩ (by simp_all) λh' tk acc c hk hD Mp=> ?_
 have e3:ah C [] {s1 with heap:=s1.heap.push {cls:= .type "dict_values",data:= .fields #[.ref a]}} {s1 with heap:=h',toks:=tk}:=ah.of_keeps (tk:=tk) hk (H3 (Hp hD))
 refine⟨((e0.trans e1).trans e2).trans e3,_,acc.toList,c,rfl,(((X.aA e0).aA e1).aA e2).gd.fresh,by assumption,?_⟩
 exact uV (bz.mono (λb o n g=>⟨n,(e2.trans e3).keep b o (λq=>n (.inl q)) (by simp) g⟩) r) (by exact Mp.1) λj v hj=>Mp.2 j v (by simpa using hj)
theorem kM {sl:Addr}{a n:Nat}{u:Tok}{Q:Int×Int×Nat->Shared->Prop}(hs:s.heap.IsSliceOf sl .none (.int a u) .none)(ha:a<=n)(h:Q ((0:Int),1,a) s):
 wpAny C.M A (Builtin.Slice.sliceApplied (.ref sl) (pure (n:Int))) Q E s:=by
 refine iI (id hs) λos PE QM QC=> ?_
 refine Hc (Hc (IL PE QC (x:= .none) rfl (Hc (IL PE QC (x:= .int a u) rfl (Hc (IL PE QC (x:= .none) rfl (Hj ?_)))))))
 refine Hc (slicePart_none ?_)
 refine Hc (slicePart_none (Hc (slicePart_int (Hc (Hj ?_)))))
 have e1:Builtin.Slice.sliceAdjust none (some (a:Int)) 1 (n:Int)=((0:Int),(a:Int)):=by
  simp only [Builtin.Slice.sliceAdjust]
  congr 1
  grind -splitIndPred
 have e2:Builtin.Slice.slicePlaces (0:Int) (a:Int) 1=a:=by
  unfold Builtin.Slice.slicePlaces
  simp only [(by exact Int.one_pos:(1:Int) > 0),Kw,Int.ediv_one]
  split <;> simp_all
 refine e1▸?_
 show wpAny _ _ (pure ((0:Int),(1:Int),Builtin.Slice.slicePlaces (0:Int) (a:Int) 1)) _ _ s
 rw [e2]
 exact Hj h
theorem Ae (xs:List Value)(a:Nat)(ha:a<=xs.length):((List.range a).filterMap λ(k:Nat)=>xs.toArray[((0:Int)+(k:Int)*1).toNat]?)=xs.take a:=by
 have e:(λ(k:Nat)=>xs.toArray[((0:Int)+(k:Int)*1).toNat]?)=λk=>xs[k]?:=by
  funext k
  simp
 refine e▸?_
 have:=ly xs 0 a ha
 simpa using this
theorem Ev.Cg {v:Expr}{hi:Expr}{sp:Pos}{xs:List PV}{j:Nat}(h1:Fs C k sc own ρ v xs)(h2:Ev C k sc own ρ hi (.int j))(hj:j < xs.length)(hz:xs.length<=sizeLine)
 (hs:∀o i',∃ops,subscripted (.Slice Option.none (Option.some hi) Option.none sp) false o i'=operate ops (getItem o i')):Ev C k sc own ρ (.Subscript v (.Slice Option.none (Option.some hi) Option.none sp) pos) (.tup (xs.take j)):=λW A env s rm X=>by
 refine JQ (Hb (h1 W A env s rm X) ?_ λ_ _ q=>q.elim)
 rintro o s1 ⟨e1,l1⟩
 refine wpAny_Slice (Hb (eh.kc W A env s1 rm (X.aA e1)) ?_ λ_ _ q=>q.elim)
 rintro a1 s2 ⟨e2,p2⟩
 refine Hb (eh.some h2 W A env s2 rm ((X.aA e1).aA e2)) ?_ λ_ _ q=>q.elim
 rintro a2 s3 ⟨e3,p3⟩
 refine Hb (eh.kc W A env s3 rm (((X.aA e1).aA e2).aA e3)) ?_ λ_ _ q=>q.elim
 rintro a3 s4 ⟨e4,p4⟩
 have OI:=(e2.trans e3).trans e4
 refine g8 (OI.tup l1) λa vs G' f g r=> ?_;subst G'
 have hl:=aQ.length r
 refine ae (d7 p2) λq2 f2 g2=> ?_
 have:q2=Option.none:=by cases q2 with |none=>rfl |some z=>cases g2
 subst this
 refine ae (d7 p3) λq3 Ur g3=> ?_
 obtain⟨⟨z,u⟩,rfl⟩:∃z,q3=Option.some z:=by cases q3 with |none=>cases g3 |some z=>exact⟨z,rfl⟩
 have Ui:z=(j:Int):=by simpa using g3
 subst Ui
 refine ae (d7 p4) λq4 f4 g4=> ?_
 have:q4=Option.none:=by cases q4 with |none=>rfl |some z=>cases g4
 subst this
 subst f2 Ur f4
 have e5:ah C [] s4 {s4 with heap:=s4.heap.push {cls:= .type "slice",data:= .fields #[.none,.int j u,.none]}}:=ah.push _ s4.toks
 have g5:(s4.heap.push {cls:= .type "slice",data:= .fields #[.none,.int j u,.none]}).get? a=some (dX vs):=Heap.get?_push_of_some _ g
 obtain⟨ops,Nv⟩:=hs (.ref a) (.ref s4.heap.objs.size)
 have LK:(s4.heap.push {cls:= .type "slice",data:= .fields #[.none,.int j u,.none]}).IsSliceOf s4.heap.objs.size .none (.int j u) .none:=Heap.IsSliceOf.new ..
 refine iI (id LK) λos PE QM QC=> ?_
 have M':=nH g5
 refine kba_turn (value':=Expr.Name (PySem.Str.ofString "_") ⟨0,0,0,0⟩) (λ_=>rfl) ?_
 refine KR (s:={s4 with heap:=s4.heap.push {cls:= .type "slice",data:= .fields #[.none,.int j u,.none]}}) M'.typeIs Kz.lookup ?_ Nv (λ_=>rfl)
 unfold getItem
 try with_reducible refine HV ?_
 first |refine Hc (Hj ?_) |skip
 refine Hc (wpAny_sequenceKey M'.typeIs (by rfl) ?_)
 refine Hc (wpAny_callSpecial?_slot (name:=Str.ofString "__getitem__") M'.typeIs Kz
  (Jc Kz M'.typeIs entry_tuple_getitem ?_ (args_tuple_getitem _ _)))
 show wpAny _ _ (Builtin.Tuple.tupleItemsOf (.ref a) >>=_) _ _ _
 refine Hc (tupleItemsOf_ M' ?_)
 refine Hc (wpAny_typeOf (T:="slice") ⟨os,PE,QM⟩ ?_)
 refine Hc (kM (a:=j) LK (by simp [hl];lia) ?_)
 have QP:¬(((0:Int)==0 && (1:Int)==1 && j==vs.toArray.size)=true):=by
  have:(j==vs.toArray.size)=false:=by simp [hl];exact H2 hj
  rw [this];simp
 show wpAny _ _ (if((0:Int)==0 && (1:Int)==1 && j==vs.toArray.size)=true then _ else _) _ _ _
 rw [if_neg QP,Ae vs j (by lia)]
 have M1:sizeOk (.seq (vs.take j).toArray):=by
  show (vs.take j).toArray.size<=sizeLine
  rw [Ig,H8]
  lia
 have e6:ah C [] {s4 with heap:=s4.heap.push {cls:= .type "slice",data:= .fields #[.none,.int j u,.none]}} {s4 with heap:=(s4.heap.push {cls:= .type "slice",data:= .fields #[.none,.int j u,.none]}).push (dX (vs.take j))}:=ah.push _ s4.toks
 have fin:ah C [] s {s4 with heap:=(s4.heap.push {cls:= .type "slice",data:= .fields #[.none,.int j u,.none]}).push (dX (vs.take j))}/\Rr C W ((s4.heap.push {cls:= .type "slice",data:= .fields #[.none,.int j u,.none]}).push (dX (vs.take j))) (.ref (s4.heap.push {cls:= .type "slice",data:= .fields #[.none,.int j u,.none]}).objs.size) (.tup (xs.take j)):=
  ⟨(e1.trans OI).trans (e5.trans e6),_,_,rfl,(((X.aA e1).aA OI).aA e5).gd.fresh,Heap.get?_push_size _ rfl,aQ.take ((e5.trans e6).jl r) j⟩
 first
  |exact Hc (m:=Builtin.Tuple.tupleExact _) (Ie (Hj ⟨_,rfl,Hj fin⟩) M1)
  |exact Hc (m:=Builtin.Tuple.tupleExact _) (Ie (Hc (Hj (Hj ⟨_,rfl,Hj fin⟩))) M1)
  |exact Hc (Hc (m:=Builtin.Tuple.tupleExact _) (Ie (Hj (Hj ⟨_,rfl,Hj fin⟩)) M1))
  |exact Hc (Hc (m:=Builtin.Tuple.tupleExact _) (Ie (Hj ⟨_,rfl,Hj fin⟩) M1))
set_option maxRecDepth 4000
noncomputable abbrev r6 (n:Nat):List Stmt:=List.drop n (cG (ay tb 18) 21)
noncomputable def b6 (S:LS) (g:Str):aO:=(S.book.lookup g).getD eD
noncomputable def cA (S:LS) (o:Str):List (List Int):=(S.line.filter λg=>((b6 S g).es.lookup o).isSome).map λg=>((b6 S g).es.lookup o).getD []
noncomputable def dv (S:LS) (o:Str):List (List Int):=(b6 S o).es.map (·.2)
noncomputable def pA (i:Nat) (qs:List (List Int)):List Int:=qs.map λq=>q.getD i 0
noncomputable def fJ (i:Nat) (qs:List (List Int)):Int:=(pA i qs).sum
structure di (cs:List Int)(S:LS):Prop where
 has:∀o∈S.line,∃b,S.book.lookup o=some b
 four:∀e∈S.book,e.2.es.length<=500/\∀q∈e.2.es,q.2.length=4
 steps:∀o∈S.line,S.steps.lookup o=some (k9 cs o)
 len:S.line.length<=500
 z:("abcd":Str)∈S.line
 clo:∀o∈S.line,∀j < 3,ax cs j o∈S.line
 small:∀e∈S.book,∀q∈e.2.es,(q.2.getD 2 0).natAbs < 2 ^ 60
 c1:∀o∈S.line,fJ 1 (cA S o)=3
 c2:∀o∈S.line,fJ 2 (cA S o)=aM cs
 a:∀o∈S.line,(b6 S o).a=(k9 cs o).countP (·==o)/\(b6 S o).a=fJ 0 (dv S o)
 bcd:∀o∈S.line,(b6 S o).b=fJ 1 (dv S o)/\(b6 S o).c=fJ 2 (dv S o)/\(b6 S o).d=fJ 3 (dv S o)
noncomputable abbrev oH (b:aO):List PV:=[.int b.a,.int b.b,.int b.c,.int b.d,.au (fS b.es)]
theorem di.w6 {cs:List Int}{S:LS}(K:di cs S){o:Str}(ho:o∈S.line):S.book.lookup o=some (b6 S o)/\(cB aO.pv S.book).lookup o=some (.tup (oH (b6 S o)))/\(b6 S o).es.length<=500/\∀q∈(b6 S o).es,q.2.length=4:=by
 refine cz (K.has o ho) λb hb=> ?_
 refine(by unfold b6;rw [hb];rfl:b6 S o=b)▸?_
 exact⟨hb,by rw [dw,hb];rfl,K.four _ (aG hb)⟩
theorem rC {cs:List Int}{S:LS}(K:di cs S)(o:Str):∀q∈cA S o,q.length=4:=λq hq=>by
 refine ae (He.mp hq) λg hg G'=> ?_;subst G'
 obtain⟨h1,h2⟩:=HG.mp hg
 obtain⟨q,hq⟩:=Ja.mp h2
 refine hq▸?_
 exact(K.w6 h1).2.2.2 _ (aG hq)
theorem oT {q:List Int}(h:q.length=4){i:Nat}(hi:i < 4):(q.map PV.int)[i]? =some (.int (q.getD i 0)):=int_at (by simp_all)
noncomputable abbrev E6 (cs:List Int) (S:LS) (o:Str):List (Str×PV):=("order",.str o)::nU cs S
theorem AL (L:Lx C f3){cs:List Int}{S:LS}(K:di cs S){o:Str}(ho:o∈S.line)(rm:ak A (k+1))(X:St C W SL own (aC (E6 cs S o)) env s)(B:Bs C Wt (λ_=>true) t own env s)
 (next:∀J,St C W SL own (aC (("came",.lst ((dv S o).map tupI))::("calls",.lst ((cA S o).map tupI))::E6 cs S o)) env J->Bs C Wt (λ_=>true) t own env J->wpAny C.M A (execs (r6 2) env) Q E J):
 wpAny C.M A (execs (r6 0) env) Q E s:=by
 have L':=L.L
 have LK:sizeLine=16777216:=rfl
 have NC:S.line.length<=sizeLine:=by have:=K.len;lia
 have Mc:PV.lst ((S.line.filter λg=>((b6 S g).es.lookup o).isSome).map λg=>tupI (((b6 S g).es.lookup o).getD []))= .lst ((cA S o).map tupI):=by unfold cA;simp only [Hq];rfl
 have Pz:PV.lst ((fS (b6 S o).es).map (·.2))= .lst ((dv S o).map tupI):=by unfold dv;simp only [Hq];rfl
 have h4:∀b:aO,(oH b)[4]? =some (.au (fS b.es)):=λ_=>rfl
 conv in r6 _=>whnf
 with_reducible
  refine a9 (p:= .lst ((cA S o).map tupI)) X B rm (Ev.conv (fT.ev (bI (need:=false) (l:=S.line) (g:=PV.str) (by with_unfolding_all exact⟨rfl,by done,by done⟩) (λx env=>by fail) (λg=>tupI (((b6 S g).es.lookup o).getD [])) (λg=>((b6 S g).es.lookup o).isSome) (aX.lst ?_ (by rw [Hd];exact NC)) NC ?step)) Mc) (by done) (by fail) (cy X (by done)) ?n1
 case step=>
  intro g hg
  have hb:=(K.w6 hg).2.1
  have Oz:=h4 (b6 S g)
  refine⟨_,bg.local (by done),by k_extra"u",?_,λhs=> ?_⟩
  ·have N5:(fS (b6 S g).es).lookup o=((b6 S g).es.lookup o).map tupI:=lW
   with_reducible
    refine Tr.cmp ?_ (Ev.b9 (n:=4) (Ev.t (xs:=oH (b6 S g)) (Ev.bh (x:=g) (es:=cB aO.pv S.book) (Ev.d ?_) ?_ hb (λ_ _=>by fail))) Ev.int (by fail) Oz (by decide) (λ_ _=>by fail)) aj.inD (by rw [N5,Option.isSome_map];exact Th.bool) (by decide+kernel)
   all_goals with_reducible intros
  ·have N5:(fS (b6 S g).es).lookup o=some (tupI (((b6 S g).es.lookup o).getD [])):=by
    obtain⟨q,hq⟩:=Ja.mp hs
    rw [lW,hq];rfl
   with_reducible
    refine Ev.bh (x:=o) (es:=fS (b6 S g).es) (Ev.d (Ev.b9 (n:=4) (Ev.t (xs:=oH (b6 S g)) (Ev.bh (x:=g) (es:=cB aO.pv S.book) (Ev.d ?_) ?_ hb (λ_ _=>by fail))) Ev.int (by fail) Oz (by decide) (λ_ _=>by fail))) ?_ N5 (λ_ _=>by fail)
   all_goals with_reducible intros
 case n1=>
  intro s1 X1 B1
  with_reducible
   refine a9 (p:= .lst ((dv S o).map tupI)) (X1.to (l:=("calls",.lst ((cA S o).map tupI))::E6 cs S o) (by k_extra"rs")) B1 rm (Ev.conv (Ev.rG ?_ (Ev.b9 (n:=4) (Ev.t (xs:=oH (b6 S o)) (Ev.bh (x:=o) (es:=cB aO.pv S.book) (Ev.d ?_) ?_ ((K.w6 ho).2.1) (λ_ _=>by fail))) Ev.int (by fail) (h4 (b6 S o)) (by decide) (λ_ _=>by fail)) (by rw [Hd];have:=(K.w6 ho).2.2.1;lia) (λ_=>by fail) (by fail) (λenv=>by fail)) Pz) (by done) (by fail) (by fail) ?n2
  case n2=>
   intro s2 X3 B2
   with_reducible have h9:=next _ (X3.to (by k_extra"rs")) B2
   conv at h9 in r6 _=>whnf
   with_reducible exact h9
  all_goals with_reducible intros
 all_goals with_reducible intros
theorem AM (L:Lx C f3){cs:List Int}{S:LS}(K:di cs S){o:Str}(ho:o∈S.line)(rm:ak A (k+1))(X:St C W SL own (aC (("came",.lst ((dv S o).map tupI))::("calls",.lst ((cA S o).map tupI))::E6 cs S o)) env s)(B:Bs C Wt (λ_=>true) t own env s)
 (next:∀J,St C W SL own (aC (nU cs S)) env J->Bs C Wt (λ_=>true) t own env J->wpAny C.M A (execs [] env) Q E J):
 wpAny C.M A (execs (r6 2) env) Q E s:=by
 have L':=L.L
 have LK:sizeLine=16777216:=rfl
 have VZ:(cA S o).length<=500:=by
  unfold cA
  rw [Hd]
  exact Hg (Ic _ _) K.len
 have V0:(dv S o).length<=500:=by
  unfold dv
  rw [Hd]
  exact(K.w6 ho).2.2.1
 have Ux:∀q∈dv S o,q.length=4:=λq hq=>by
  refine ae (He.mp hq) λe he G'=> ?_;subst G'
  exact(K.w6 ho).2.2.2 e he
 have SJ:=(K.w6 ho).2.1
 have Ml:(cB cq S.steps).lookup o=some (.lst ((k9 cs o).map .str)):=by simp only [dw,K.steps o ho];rfl
 have O7:([1,2]:List Nat).map (λi=>PV.int (fJ i (cA S o)))=[.int 3,.int (aM cs)]:=by
  show [PV.int (fJ 1 _),.int (fJ 2 _)]=_
  rw [K.c1 o ho,K.c2 o ho]
 have e4:(List.range 4).map (λi=>PV.int (fJ i (dv S o)))=[.int (b6 S o).a,.int (b6 S o).b,.int (b6 S o).c,.int (b6 S o).d]:=by
  show [PV.int (fJ 0 _),.int (fJ 1 _),.int (fJ 2 _),.int (fJ 3 _)]=_
  simp only [<-(K.a o ho).2,<-(K.bcd o ho).1,<-(K.bcd o ho).2.1,<-(K.bcd o ho).2.2]
 have Nq:kK (.lst [.int 3,.int (aM cs)]):=dh (n:=1) (rfl) (by decide)
 have RW:kK (.tup [.int (b6 S o).a,.int (b6 S o).b,.int (b6 S o).c,.int (b6 S o).d]):=dh (n:=1) (rfl) (by decide)
 have R4:∀i:Nat,(cA S o).map (λq=>PV.int (q.getD i 0))=(pA i (cA S o)).map .int:=λi=>by unfold pA;simp only [Hq];rfl
 have Pz:∀i:Nat,(dv S o).map (λq=>PV.int (q.getD i 0))=(pA i (dv S o)).map .int:=λi=>by unfold pA;simp only [Hq];rfl
 conv in r6 _=>whnf
 with_reducible
  refine bG X B rm (Tr.cmp (Ev.conv (fT.ev (c4 (need:=false) (l:=([1,2]:List Nat)) (g:=λ(i:Nat)=>PV.int (i:Int)) (by with_unfolding_all exact⟨rfl,by done,by done⟩) (λx env=>by fail) (λi=>PV.int (fJ i (cA S o))) ((rfl:([PV.int 1,.int 2]:List PV)=([1,2]:List Nat).map λ(i:Nat)=>PV.int (i:Int))▸aX.tup (Ev.tuple (ab.cons Ev.int (ab.cons Ev.int ab.nil)) (Ho (by fail))) (by decide)) (by decide) ?st1)) (Hx PV.lst O7)) ?_ (aj.fB Nq) Th.bool (by decide+kernel)) ?n1
 case st1=>
  intro i hi
  have Pp:i < 4:=by
   simp only [Hf,HH,It] at hi
   lia
  refine⟨_,bg.cell (by done) (by fail),by k_extra"u",?_⟩
  with_reducible
   refine Ev.a6 ?_ (ab.cons (fT.ev (c4 (need:=false) (l:=cA S o) (g:=tupI) (by with_unfolding_all exact⟨rfl,by done,by done⟩) (λx env=>by fail) (λq=>PV.int (q.getD i 0)) (aX.lst ?_ (by rw [Hd];omega)) (by omega) ?st2)) ab.nil) (cC.sum (ns:=pA i (cA S o)) (yN.lst (by rw [Hd];omega)) (R4 i))
  case st2=>
   intro q hq
   have VI:=rC K o q hq
   refine⟨_,bg.local (by done),by k_extra"u",?_⟩
   with_reducible
    refine Ev.b9 (n:=i) (Ev.t (xs:=q.map .int) ?_) ?_ (by fail) (oT VI Pp) (by lia) (λ_ _=>by fail)
   all_goals with_reducible intros
  all_goals with_reducible intros
 case n1=>
  intro s1 X1 B1
  with_reducible
   refine bG X1 B1 rm (Tr.conv (p:=false || (false || false)) (Tr.or (Tr.cmp (Ev.b9 (n:=0) (Ev.t (xs:=oH (b6 S o)) (Ev.bh (x:=o) (es:=cB aO.pv S.book) (Ev.d ?_) ?_ SJ (λ_ _=>by fail))) Ev.int (by fail) rfl (by decide) (λ_ _=>by fail)) (Ev.conv (Ev.uA (T:="list") (id:="list.count") (p:= .lst ((k9 cs o).map .str)) (ps:=[.str o]) (Ev.bh (x:=o) (es:=cB cq S.steps) (Ev.d ?_) ?_ Ml (λ_ _=>by fail)) fY.lst (ab.cons ?_ ab.nil) cC.count (λ_=>by fail) (λ_=>by fail) (by fail) JU PySem.F.slot_list_count PySem.F.type_list_count (λenv=>by fail) (λenv=>by fail)) (by simp only [(K.a o ho).1]:PV.int (((k9 cs o).countP (·==o):Nat):Int)= .int (b6 S o).a)) aj.A5 (by simp;exact Th.bool) (by decide+kernel)) (λ_=>Tr.or (Tr.cmp (Ev.conv (Ev.Cg (j:=4) (xs:=oH (b6 S o)) (Ev.t (Ev.bh (x:=o) (es:=cB aO.pv S.book) (Ev.d ?_) ?_ SJ (λ_ _=>by fail))) Ev.int (Ho rfl) (Ho rfl) (λ_ _=>⟨_,by fail⟩)) (Hx PV.tup rfl)) (Ev.mh ?_ (ab.cons (Ev.conv (fT.ev (c4 (need:=false) (l:=List.range 4) (g:=λ(i:Nat)=> .int ((0:Int)+(i:Int))) (by with_unfolding_all exact⟨rfl,by done,by done⟩) (λx env=>by fail) (λi=>PV.int (fJ i (dv S o))) ?it (by decide) ?st3)) (Hx PV.lst e4)) ab.nil) (cC.CP (Ho rfl))) (aj.fB RW) Th.bool (by decide+kernel)) (λ_=>Tr.pH))) (rfl)) ?n2
  case it=>exact aX.cL (n:=4) (by intros) (by intros) (by decide) (by decide) (λenv=>by fail)
  case st3=>
   intro i hi
   have Pp:=Hu.mp hi
   refine⟨_,bg.cell (by done) (by fail),by k_extra"u",?_⟩
   with_reducible
    refine Ev.a6 ?_ (ab.cons (fT.ev (c4 (need:=false) (l:=dv S o) (g:=tupI) (by with_unfolding_all exact⟨rfl,by done,by done⟩) (λx env=>by fail) (λq=>PV.int (q.getD i 0)) (aX.lst ?_ (by rw [Hd];omega)) (by omega) ?st4)) ab.nil) (cC.sum (ns:=pA i (dv S o)) (yN.lst (by rw [Hd];omega)) (Pz i))
   case st4=>
    intro q hq
    refine⟨_,bg.local (by done),by k_extra"u",?_⟩
    have R3:=oT (Ux q hq) Pp
    with_reducible
     refine Ev.b9 (n:=i) (Ev.t (xs:=q.map .int) ?_) ?_ (by lia) R3 (by lia) (λ_ _=>by fail)
    all_goals with_reducible intros
   all_goals with_reducible intros
  case n2=>
   intro s2 X2 B2
   exact next _ (X2.to (by k_extra"rs")) B2
  all_goals with_reducible intros
 all_goals with_reducible intros
set_option maxRecDepth 100000
section
open AutoSeq1 (wpAny_loadPart')
open PySem.MeetsSeq PySem.MeetsSeq2 PySem.MeetsSeq3 PySem.SeqRoads2 PySem.SeqAt
noncomputable def gw:List Int->List Int->Bool
 |[],[]=>false
 |[],_::_=>true
 |_::_,[]=>false
 |x::xs,y::ys=>if x=y then gw xs ys else decide (x < y)
theorem zB {v1 v2}:gw (v1::v2) []=(false):=rfl
theorem k7 {x xs y ys}:gw (x::xs) (y::ys)=(if x=y then gw xs ys else decide (x < y)):=rfl
theorem lR {vs:List Value}{ns:List Int}(h:IntsAre vs ns):∀{i:Nat}{n:Int},ns[i]? =some n->∃t,vs[i]? =some (.int n t):=by
 induction h with
 |nil=>intro i n e;simp at e
 |cons m t _ ih=>
  intro i n e
  rcases i with _ |i
  ·exact⟨t,by simpa using e⟩
  ·exact ih (by simpa using e)
theorem uv (l b:Addr)(items I':Array Value)(ns ms:List Int)(h1:IntsAre items.toList ns)(h2:IntsAre I'.toList ms)(n n2:Nat)(dd N2:Option Addr)(sl N6:Array (Option Value))(k:Nat):
 ∀i:Nat,ns.length - i=k->i<=ns.length->i<=ms.length->Meets (Builtin.«list.__eq__.loop» ⟨[.ref l,.ref b,rawInt i,rawInt 0],[]⟩)
  (λA R s=>s.heap.get? l=some {cls:= .type "list",dict:=dd,data:= .seq items n,slots:=sl}/\s.heap.get? b=some {cls:= .type "list",dict:=N2,data:= .seq I' n2,slots:=N6}/\
   R (.ok (.ret (.bool (gw (ns.drop i) (ms.drop i))))) s):=by
 have z1:items.size=ns.length:=by have:=h1.length;simpa using this
 have z2:I'.size=ms.length:=by have:=h2.length;simpa using this
 induction k with
 |zero=>
  intro i hk l1 l2 prog w A R s h
  obtain⟨hp,g,d,tk,os⟩:=s;obtain⟨hl,hb,h⟩:=h
  wp_walk using wpAny_loadPart' hl,wpAny_loadPart' hb
  have Ph:items[((i:Nat):Int).toNat]? =none:=by simp;lia
  have hd:ns.drop i=[]:=by simp;simp_all
  rw [hd] at h
  refine Ph▸?_
  wp_walk using wpAny_loadPart' hl,wpAny_loadPart' hb
  show R (.ok (.ret (.bool (decide (items.size < I'.size))))) _
  rcases hms:ms.drop i with _ |⟨y,ys⟩
  ·rw [hms] at h
   have:ms.length<=i:=by simpa using hms
   rw [(by simp;lia:decide (items.size < I'.size)=false)];exact h
  ·rw [hms] at h
   have:i < ms.length:=by
    have:=Hx List.length hms
    simp at this;exact J8 this
   rw [(by simp;lia:decide (items.size < I'.size)=true)];exact h
 |succ k ih=>
  intro i hk l1 l2 prog w A R s h
  obtain⟨hp,g,d,tk,os⟩:=s;obtain⟨hl,hb,h⟩:=h
  wp_walk using wpAny_loadPart' hl,wpAny_loadPart' hb
  have Ll:i < ns.length:=by exact J8 hk
  obtain⟨t,ht⟩:=lR h1 (List.getElem?_eq_getElem Ll)
  have Ph:items[((i:Nat):Int).toNat]? =some (.int ns[i] t):=by simpa using ht
  rw [(JD Ll)] at h
  rw [Ph]
  by_cases Nb:i < ms.length
  ·refine cz (lR h2 (List.getElem?_eq_getElem Nb)) λu hu=> ?_
   have Pu:I'[((i:Nat):Int).toNat]? =some (.int ms[i] u):=by simpa using hu
   rw [(JD Nb),k7] at h
   refine Pu▸?_
   refine Hc ((EqAt.int_int (A:=A.in1) (s:=_) ns[i] t ms[i] u) prog w _ _ ?_)
   by_cases Pc:ns[i]=ms[i]
   ·rw [if_pos Pc] at h
    rw [(by simp [Pc]:(ns[i]==ms[i])=true)]
    wp_walk
    refine((by push_cast;rfl:((i:Int)+1)=((i+1:Nat):Int)))▸?_
    exact⟨KP plain_eq_loop _,Kg entry_eq_loop (by
     refine(Jt plain_eq_loop _)▸?_
     exact ih (i+1) (by grind -splitIndPred) (by assumption) (by exact Nat.succ_le_of_lt Nb) prog w A R _ ⟨hl,hb,h⟩)⟩
   ·rw [if_neg Pc] at h
    rw [(by simp [Pc]:(ns[i]==ms[i])=false)]
    wp_walk using wpAny_loadPart' hl,wpAny_loadPart' hb
    refine Ph▸Pu▸?_
    refine Hc (show wpAny _ _ (compareOp .Lt (.int ns[i] t) (.int ms[i] u)) _ _ _ from wpAny_lt_int ?_)
    wp_walk
    exact h
  ·have Pu:I'[((i:Nat):Int).toNat]? =none:=by simp;simp_all
   have hd2:ms.drop i=[]:=by simp;simp_all
   rw [hd2,zB] at h
   refine Pu▸?_
   wp_walk using wpAny_loadPart' hl,wpAny_loadPart' hb
   show R (.ok (.ret (.bool (decide (items.size < I'.size))))) _
   rw [(by simp;lia:decide (items.size < I'.size)=false)];exact h
theorem ub (l b:Addr)(items I':Array Value)(ns ms:List Int)(h1:IntsAre items.toList ns)(h2:IntsAre I'.toList ms)(n n2:Nat)(dd N2:Option Addr)(sl N6:Array (Option Value)):
 Meets (Builtin.«list.__lt__» ⟨[.ref l,.ref b],[]⟩)
  (λA R s=>s.heap.get? l=some {cls:= .type "list",dict:=dd,data:= .seq items n,slots:=sl}/\s.heap.get? b=some {cls:= .type "list",dict:=N2,data:= .seq I' n2,slots:=N6}/\
   R (.ok (.ret (.bool (gw ns ms)))) s):=by
 intro prog w A R s h
 obtain⟨hp,g,d,tk,os⟩:=s;refine cZ h λhl hb h=> ?_
 have f3:=AutoSeq1.sub_list_list
 wp_walk using wpAny_loadPart' hl,wpAny_loadPart' hb
 exact⟨KP plain_eq_loop _,Kg entry_eq_loop (by
  refine(Jt plain_eq_loop _)▸?_
  exact uv l b items I' ns ms h1 h2 n n2 dd N2 sl N6 _ 0 rfl (HK _) (HK _) prog w A R _ ⟨hl,hb,by simpa using h⟩)⟩
theorem mw {P:Addr->List DictEntry->List (Str×Value)->Prop}{N:Addr->Prop}{h:Heap}:∀{ns:List Int}{vs:List Value},aQ P N h vs (ns.map .int)->IntsAre vs ns
 |[],_,x=>by rw [show _=([]:List Value) from x];exact .nil
 |n::ns,_,⟨v,r,e,⟨t,hv⟩,y⟩=>by rw [e,hv];exact .cons n t (mw y)
end
section
open PySem.MeetsSeq PySem.MeetsSeq2 PySem.MeetsSeq3 PySem.SeqRoads2 PySem.SeqAt
noncomputable def oz {α:Type} (b:Nat->Nat->Bool):KasT α->α
 | .ret a=>a
 | .ask i j k=>oz b (k (b i j))
theorem yL {α:Type}(b:Nat->Nat->Bool) {a}:oz (α:=α) b (.ret a)=(a):=rfl
theorem zy {α:Type}(b:Nat->Nat->Bool) {i j k}:oz (α:=α) b (.ask i j k)=(oz b (k (b i j))):=rfl
noncomputable def jC {α:Type} (n:Nat) (b:Nat->Nat->Bool):KasT α->Bool
 | .ret _=>true
 | .ask i j k=>Nat.blt i n && Nat.blt j n && jC n b (k (b i j))
theorem mv {α:Type}(n:Nat)(b:Nat->Nat->Bool) {v1}:jC (α:=α) n b (.ret v1)=(true):=rfl
theorem mr {α:Type}(n:Nat)(b:Nat->Nat->Bool) {i j k}:jC (α:=α) n b (.ask i j k)=(Nat.blt i n && Nat.blt j n && jC n b (k (b i j))):=rfl
noncomputable def cN (n:Nat) (b:Nat->Nat->Bool):List Nat:=if n < 2 then List.range n else(oz b (kas_sort n)).toList
noncomputable def gh (n:Nat) (b:Nat->Nat->Bool):Bool:=Nat.blt n 2 || jC n b (kas_sort n)
theorem nF {α:Type}{cmp:Nat->Nat->(Bool->Shared->Prop)->Shared->Prop}{Q:α->Shared->Prop}{n:Nat}{b:Nat->Nat->Bool}(I:Shared->Prop)
 (NZ:∀i j s (D:Bool->Shared->Prop),i < n->j < n->I s->(∀J,I J->D (b i j) J)->cmp i j D s):∀(t:KasT α)(s:Shared),jC n b t=true->I s->(∀J,I J->Q (oz b t) J)->t.kasWp cmp Q s
 | .ret a,s,_,hs,h=>h s hs
 | .ask i j k,s,ho,hs,h=>by
  simp only [mv,mr,HO] at ho
  exact NZ i j s _ (Jf.mp ho.1.1) (Jf.mp ho.1.2) hs λJ L2=>nF I NZ (k (b i j)) J ho.2 L2 h
def Eg (C:Cfg)(p q:PV)(c:Bool):Prop:=∀W A s v u,ak A 0->Gd C W s->Rr C W s.heap v p->Rr C W s.heap u q->wpAny C.M A (keyLt' oneType' v u) (λd J=>ah C [] s J/\d=c) (λ_ _=>False) s
def El (C:Cfg)(p:PV)(T:String):Prop:=∀W (s:Shared) v,Rr C W s.heap v p->Looks C.M s.heap (typeOf v) (.type T)
theorem El.lst {xs:List PV}:El C (.lst xs) "list":=λW s v r=>by
 refine gm r λa vs n L1 _ g _=> ?_;refine L1▸?_
 exact λA Q E J k q=>wpAny_typeOf (T:="list") ⟨_,k _ _ g,rfl⟩ q
theorem Eg.ints {ns ms:List Int}:Eg C (.lst (ns.map .int)) (.lst (ms.map .int)) (gw ns ms):=λW A s v u rm g h1 h2=>by
 refine gm h1 λa vs n L1 _ ga ra=> ?_;refine L1▸?_
 refine gm h2 λb us n2 L1 _ gb rb=> ?_;refine L1▸?_
 simp_all
 refine Hc (wpAny_cRoomFor (by have:=rm.deep;exact J0 this) ?_)
 refine Hc (wpAny_callSpecialIfBound?_slot (T:="list") ⟨_,ga,rfl⟩ F.slot_list_lt (KX F.slot_list_lt ⟨_,ga,rfl⟩ F.entry_list_lt (F.args_list_lt_2 _ _) (ub a b vs.toArray us.toArray ns ms ((mw ra)) ((mw rb)) n n2 none none #[] #[]) ⟨ga,gb,?_⟩))
 exact KQ ⟨ah.refl _,rfl⟩
def Am (C:Cfg)(p:PV)(ps:List PV):Prop:=∀W A s v,A.handled=none->Gd C W s->Rr C W s.heap v p->∀(Q:List Value->Shared->Prop) E,(∀us J,ah C [] s J->fe C W J.heap us ps->Q us J)->wpAny C.M A (collect v) Q E s
theorem kf {P:Addr->List DictEntry->List (Str×Value)->Prop}{N:Addr->Prop}{h:Heap}:∀{cs:List Nat}{us:List Value},us.length=cs.length->(∀(j:Nat) (v:Value),us[j]? =some v->∃c u,cs[j]? =some c/\v= .str ⟨#[c]⟩ u)->aQ P N h us (cs.map λc=>PV.str ⟨#[c]⟩)
 |[],us,hl,_=>Ir.mp hl
 |c::cs,[],hl,_=>by simp at hl
 |c::cs,u::us,hl,hs=>by
  refine aL (hs 0 u rfl) λc' t h1 h2=> ?_
  have:c=c':=by simpa using h1
  refine this▸?_
  refine⟨u,us,rfl,⟨t,h2⟩,kf (by simpa using hl) λj v hj=> ?_⟩
  exact hs (j+1) v (by assumption)
theorem Am.str {x:Str}(hz:x.cps.size<=sizeLine):Am C (.str x) (signs x):=λW A s v hh g r Q E hQ=>by
 obtain⟨t,rfl⟩:=r
 refine ba (wpAny_collect_str hh x t (λJ acc hk hg hd ho hi L9=> ?_) hz)
 refine hQ acc.toList J (⟨λa o _ _ q=>hk a o q,L9,λt' _ ps x=>⟨#[],(x.keeps hk)⟩,ho,λq=>by rw [hg];exact q⟩) ?_
 refine kf ((hi.1)) λj v hj=> ?_
 refine aL (hi.2 j v (by simpa using hj)) λc u h1 h2=> ?_
 exact⟨c,u,by simpa using h1,h2⟩
end
theorem gV (vs:List Value)(n:Nat):ao vs n=seqObj "list" vs.toArray n:=rfl
theorem aQ.getD {P:Addr->List DictEntry->List (Str×Value)->Prop}{N:Addr->Prop}{h:Heap}{ps:List PV}{vs:List Value}(r:aQ P N h vs ps){i:Nat}(hi:i < ps.length):Rp P N h (vs.getD i .none) (ps.getD i .none):=by
 refine ae (aQ.get r (List.getElem?_eq_getElem hi)) λv e hv=> ?_
 simp only [List.getD_eq_getElem?_getD,e,List.getElem?_eq_getElem hi]
 exact hv
theorem aQ.Ef {P:Addr->List DictEntry->List (Str×Value)->Prop}{N:Addr->Prop}{h:Heap}{ps:List PV}{vs:List Value}(r:aQ P N h vs ps):∀l:List Nat,(∀i∈l,i < ps.length)->aQ P N h (l.map λi=>vs.getD i .none) (l.map λi=>ps.getD i .none):=by
 intro q0
 induction q0 with
 |nil=>
  intro _
  exact rfl
 |cons i l ih=>
  intro hl
  exact⟨_,_,rfl,r.getD (hl i G9),ih λj hj=>hl j (Ha _ hj)⟩
theorem jA {a:Addr}{vs us:List Value}{n m:Nat}{h':Heap}{tk:Nat}(i:Inv C J)(e:ah C [] s J)(ha:s.heap.objs.size<=a)(g:J.heap.get? a=some (ao vs n))(hs:Heap.SameBut a J.heap h'):ah C [] s {J with heap:=h',toks:=tk}:=
 ah.qu e (ah.turn (W:=[a]) i hs g (λ_=>nofun) G9) λb hb=>by
  refine(Hi.mp hb)▸?_;exact ha
theorem vw {us:List Value}{ps:List PV}{κ:PV->PV}{f:Addr}{T:String}{b:Nat->Nat->Bool}(g:Gd C W s)(r:fe C W s.heap us ps)(rm:ak A (k+1))(QN:ps.length < 64)
 (Mf:∀q∈ps,aN C k [] (.ref f) [q] [] (κ q))(hT:∀q∈ps,El C (κ q) T)(RA:T≠"tuple")(Ll:∀i j,i < ps.length->j < ps.length->Eg C (κ (ps.getD i .none)) (κ (ps.getD j .none)) (b i j))(L8:gh ps.length b=true)
 (Np:∀i∈cN ps.length b,i < ps.length)(Nx:(cN ps.length b).length=ps.length){D:Addr}{n:Nat}(hD:s.heap.objs.size<=D){f':Shared}(e1:ah C [] s f')(gD:f'.heap.get? D=some (ao us n)){P:PySem.Fin->Shared->Prop}
 (hP:∀J m,ah C [] s J->J.heap.get? D=some (ao ((cN ps.length b).map λi=>us.getD i .none) m)->P (.done (.ret .none)) J):wpAny C.M A (ksk_tree D (.ref f) false) P E f':=by
 have hl:=aQ.length r
 have LK:sizeLine=16777216:=rfl
 obtain⟨L0,ho1⟩:∃L0,(f'.heap.update D (Obj.mapSeq λ_=>(#[]:Array Value))).get? D=some (ao [] L0):=⟨_,by simp only [gV] at gD;exact get?_update_seq gD λ_=>#[]⟩
 unfold ksk_tree
 refine Hc (listItems_at gD rfl ?_)
 refine Hc (KL gD rfl ?_ (by rw [Ig];lia) (HK _))
 have E2:ah C [] s {f' with heap:=f'.heap.update D (Obj.mapSeq λ_=>#[]),toks:=f'.toks}:=jA (us:=[]) (m:=0) (g.inv.jj e1) e1 hD gD (H4 f'.heap D (Obj.mapSeq λ_=>(#[]:Array Value)))
 refine Hc (seqEpoch_at ho1 rfl ?_)
 refine Hc (wpAny_newTuple ?_ (by show us.length<=_;lia))
 refine Hc (wpAny_newList ?_ (HK _))
 refine HV ?_
 generalize hH:((f'.heap.update D (Obj.mapSeq λ_=>(#[]:Array Value))).push {cls:= .type "tuple",data:= .seq us.toArray.toList.toArray})=H
 have E3:ah C [] s {f' with heap:=H,toks:=f'.toks}:=by
  rw [<-hH]
  exact E2.trans (ah.push (s:={f' with heap:=f'.heap.update D (Obj.mapSeq λ_=>#[]),toks:=f'.toks}) _ f'.toks)
 have E4:ah C [] s {f' with heap:=H.push {cls:= .type "list",data:= .seq ([]:List Value).toArray},toks:=f'.toks}:=E3.trans (ah.push (s:={f' with heap:=H,toks:=f'.toks}) _ f'.toks)
 have UX:({f' with heap:=H.push {cls:= .type "list",data:= .seq ([]:List Value).toArray},toks:=f'.toks}:Shared).heap.get? D=some (ao [] L0):=by
  refine Heap.get?_push_of_some _ ?_
  refine hH▸?_
  exact Heap.get?_push_of_some _ ho1
 have Ve:({f' with heap:=H.push {cls:= .type "list",data:= .seq ([]:List Value).toArray},toks:=f'.toks}:Shared).heap.get? H.objs.size=some (ao [] 0):=Heap.get?_push_size _ rfl
 have Pq:s.heap.objs.size<=H.objs.size:=E3.size
 have SF:H.objs.size≠D:=by
  rw [(by rw [<-hH,HU,Heap.size_update]:H.objs.size=f'.heap.objs.size+1)]
  exact IW (KU (Hp gD))
 show wpAny C.M A (ksk_rest D (.ref f) false us.toArray L0 (.ref H.objs.size)) P E {f' with heap:=H.push {cls:= .type "list",data:= .seq ([]:List Value).toArray},toks:=f'.toks}
 generalize H.objs.size=kS at *
 generalize ({f' with heap:=H.push {cls:= .type "list",data:= .seq ([]:List Value).toArray},toks:=f'.toks}:Shared)=s4 at *
 have hN:∀a o,¬C.N W a->s.heap.get? a=some o->¬C.N (kS::D::W) a:=λa o hn q hc=>by
  have Ll:=Hp q
  rcases hc with hc |hc
  ·exact hn (.inl hc)
  ·rcases Hf.mp hc with rfl |hc
   ·exact absurd Ll (Hs.mpr Pq)
   ·rcases Hf.mp hc with rfl |hc
    ·exact absurd Ll (Hs.mpr hD)
    ·exact hn (.inr hc)
 have S6:∀J,ah C [] s J->(∃o,J.heap.get? kS=some o)->(∃o,J.heap.get? D=some o)->Gd C (kS::D::W) J:=λJ e hk hd=>by
  have g':=g.aA e
  refine⟨g'.inv,λa ha=> ?_,λa ha=> ?_⟩
  ·rcases ha with ha |ha
   ·exact g'.low a (.inl ha)
   ·rcases Hf.mp ha with rfl |ha
    ·exact Hp hk.choose_spec
    ·rcases Hf.mp ha with rfl |ha
     ·exact Hp hd.choose_spec
     ·exact g'.low a (.inr ha)
  ·rcases Hf.mp ha with rfl |ha
   ·exact g.inv.beyond Pq
   ·rcases Hf.mp ha with rfl |ha
    ·exact g.inv.beyond hD
    ·exact g.new a ha
 let St':Nat->Shared->Prop:=λi J=>ah C [] s J/\J.heap.get? D=some (ao [] L0)/\∃ks m,J.heap.get? kS=some (ao ks m)/\ks.length=i/\fe C (kS::D::W) J.heap ks ((ps.take i).map κ)
 unfold ksk_rest
 refine Hc (K1 ?_)
 rw [List.forIn_toArray]
 refine Hc (ksk_fold St' us 0 s4 ⟨E4,UX,[],0,Ve,rfl,rfl⟩ ?turn ?done)
 case turn=>
  rintro j x J hx ⟨e,gd,ks,m,gk,Ni,rk⟩
  rw [Kn] at Ni rk
  have hj:j < ps.length:=by
   have:=(List.getElem?_eq_some_iff.mp hx).1
   simp_all
  have hp:ps[j]? =some ps[j]:=List.getElem?_eq_getElem hj
  refine ae (aQ.get ((λJ e=>aQ.mono (λa o hn q=>⟨hN a o hn q,e.keep a o (λh=>hn (.inl h)) (by simp) q⟩) r) J e) hp) λx' Vy rx=> ?_
  have:x'=x:=H7 (Vy.symm.trans hx)
  refine this▸?_
  refine Hc (wpAny_attempt (Hb (Mf ps[j] (IG hj) (kS::D::W) A J [x'] [] (rm.mono (by simp)) (S6 J e ⟨_,gk⟩ ⟨_,gd⟩) (λy hy=>by cases hy) ⟨x',[],rfl,rx,rfl⟩ .nil) ?_ λ_ _ q=>q.elim))
  intro kv Lv zz;refine c5 zz λe2 Vc=> ?_
  have nK:kS∉C.aq:=λh=>by
   exact absurd (g.low kS (.inl h)) (Hs.mpr Pq)
  have nD:D∉C.aq:=λh=>by
   exact absurd (g.low D (.inl h)) (Hs.mpr hD)
  have Sg:Lv.heap.get? kS=some (ao ks m):=e2.keep _ _ nK (by simp) gk
  have e3:=e.trans e2
  have sb:=H4 Lv.heap kS (Obj.mapSeq (·.push kv))
  obtain⟨m2,gk3⟩:∃m2,(Lv.heap.update kS (Obj.mapSeq (·.push kv))).get? kS=some (ao (ks ++ [kv]) m2):=⟨_,by simp only [gV,<-(by simp:(List.toArray ks).push kv=List.toArray (ks ++ [kv]))];exact get?_update_seq Sg (·.push kv)⟩
  refine Hc (KL Sg rfl ?_ (by rw [Ig];lia) (Hg (JI (Array.size_push ..)) (by refine Ig▸?_;lia)))
  refine Hj ⟨rfl,?_⟩
  rw [Kn]
  have mono:∀a o,¬C.N (kS::D::W) a->Lv.heap.get? a=some o->¬C.N (kS::D::W) a/\(Lv.heap.update kS (Obj.mapSeq (·.push kv))).get? a=some o:=λa o hn q=>⟨hn,by
   rw [sb.2 a (λh=>hn (.inr (by simp only [h];exact G9)))];exact q⟩
  refine⟨jA (us:=[]) (m:=0) (tk:=Lv.toks) (g.inv.jj e3) e3 Pq Sg sb,?_,ks ++ [kv],m2,gk3,by simp [Ni],?_⟩
  ·show (Lv.heap.update kS _).get? D=_
   rw [sb.2 D (HE SF)];exact(e2.keep _ _ nD (by simp) gd)
  ·simp only [take_snoc hp,Hr]
   exact aQ.append (aQ.mono mono (ah.jl e2 rk)) ⟨kv,[],rfl,Rp.mono mono Vc,rfl⟩
 case done=>
  rintro J ⟨e,gd,ks,m,gk,Ni,rk⟩
  rw [Kn] at Ni rk
  rw [hl,Il] at rk
  replace Ni:=hl▸Ni
  refine Hc (listItems_at gk rfl ?_)
  have tail:∀(st:SortSt) (s5:Shared),(arrOf st).map (·.2)=List.toArray ((cN ps.length b).map λi=>us.getD i .none)->failedOf st=none->ah C [] s s5->s5.heap.get? D=some (ao [] L0)->(∃m,s5.heap.get? kS=some (ao ks m))->wpAny C.M A (ksk_tail D false L0 (.ref kS) st) P E s5:=by
   rintro st s5 OG hf e5 T9 ⟨m5,gk5⟩
   have To:=H4 s5.heap kS (Obj.mapSeq λ_=>(#[]:Array Value))
   have Qv:(s5.heap.update kS (Obj.mapSeq λ_=>(#[]:Array Value))).get? D=some (ao [] L0):=by
    rw [To.2 D (HE SF)];exact T9
   have e6:ah C [] s {s5 with heap:=s5.heap.update kS (Obj.mapSeq λ_=>#[]),toks:=s5.toks}:=jA (us:=[]) (m:=0) (g.inv.jj e5) e5 Pq gk5 To
   obtain⟨m7,gd7⟩:∃m7,((s5.heap.update kS (Obj.mapSeq λ_=>(#[]:Array Value))).update D (Obj.mapSeq λ_=>List.toArray ((cN ps.length b).map λi=>us.getD i .none))).get? D=some (ao ((cN ps.length b).map λi=>us.getD i .none) m7):=
    ⟨_,by simp only [gV] at Qv ⊢;exact get?_update_seq Qv λ_=>List.toArray ((cN ps.length b).map λi=>us.getD i .none)⟩
   have e7:=jA (us:=[]) (m:=0) (tk:=s5.toks) (g.inv.jj e6) e6 hD Qv (H4 (s5.heap.update kS (Obj.mapSeq λ_=>(#[]:Array Value))) D (Obj.mapSeq λ_=>List.toArray ((cN ps.length b).map λi=>us.getD i .none)))
   unfold ksk_tail
   try dsimp only
   rw [OG]
   refine Hc (KL gk5 rfl ?_ (by rw [Ig];lia) (HK _))
   refine Hc (wpAny_letGo ?_)
   refine Hc (seqEpoch_at Qv rfl ?_)
   refine Hc (KL Qv rfl ?_ (HK _) (by simp [Nx];lia))
   refine hf▸?_
   simp only [bne_self_eq_false,IH,JL]
   exact Hj (hP _ m7 e7 gd7)
  unfold ksk_end
  try dsimp only
  rw [if_neg (by decide)]
  by_cases h2:us.toArray.size < 2
  ·have MH:ps.length < 2:=by rw [Ig] at h2;simp_all
   rw [if_pos h2,if_pos h2]
   refine Hc (Hj ?_)
   refine Hc (Hj ?_)
   refine tail _ J ?_ rfl e gd ⟨m,gk⟩
   show ((List.toArray ks).zip us.toArray).map (·.2)=_
   unfold cN
   rw [if_pos MH]
   apply La.mp
   rw [Array.toList_map,ksk_zip,List.map_snd_zip (by simp [Ni,hl])]
   simp only [List.toList_toArray]
   apply List.ext_getElem?
   intro i
   rw [List.getElem?_map]
   by_cases hi:i < us.length
   ·rw [List.getElem?_range (by simp_all),List.getElem?_eq_getElem hi]
    simp [hi]
   ·rw [List.getElem?_eq_none (by simp_all),List.getElem?_eq_none (by simp;simp_all)]
    rfl
  ·have MH:¬ps.length < 2:=by rw [Ig] at h2;simp_all
   rw [if_neg h2,if_neg h2]
   have Vp:∀v∈ks,Looks C.M J.heap (typeOf v) (.type T):=λv hv=>by
    refine cz (List.mem_iff_getElem?.mp hv) λi hi=> ?_
    refine ae (getL rk hi) λp hp rp=> ?_
    replace hp:=List.getElem?_map▸hp
    refine ae (Iy.mp hp) λq hq G'=> ?_;subst G'
    exact hT q (List.mem_of_getElem? hq) _ J v rp
   have VN:((Value.type T:Value) !=Value.type "tuple")=true:=by
    rw [Jg]
    intro h
    injection h with h
    exact RA h
   refine Hc (kas_kind (T:= .type T) (by simp_all) Vp VN (Im _) ?_)
   have N5:ks.length=us.length:=by simp_all
   have Nq:jC ps.length b (kas_sort ps.length)=true:=by
    unfold gh at L8
    rw [Bool.or_eq_true] at L8
    rcases L8 with h |h
    ·exact absurd (Jf.mp h) MH
    ·exact h
   have nK:kS∉C.aq:=λh=>by
    exact absurd (g.low kS (.inl h)) (Hs.mpr Pq)
   have nD:D∉C.aq:=λh=>by
    exact absurd (g.low D (.inl h)) (Hs.mpr hD)
   refine Hc (Hb (kat_run (E:=E) (Q:=λQq s6=>(arrOf Qq).map (·.2)=List.toArray ((cN ps.length b).map λi=>us.getD i .none)/\failedOf Qq=none/\ah C [] s s6/\s6.heap.get? D=some (ao [] L0)/\∃m,s6.heap.get? kS=some (ao ks m))
    (G:=λp s6=>p=oz b (kas_sort ps.length)/\ah C [] s s6/\s6.heap.get? D=some (ao [] L0)/\∃m,s6.heap.get? kS=some (ao ks m))
    N5 (by simp_all) (by simp_all) (λp Qq s6 hp T' hf zz=>l0 zz λhG q1 q2 q3=>⟨?_,hf,q1,q2,q3⟩) ?_) ?_ λ_ _ x=>x)
   ·simp only [kat_snds N5 T',hG]
    unfold cN
    rw [if_neg MH]
   ·rw [hl]
    refine nF (n:=ps.length) (b:=b) (λs6=>ah C [] J s6/\ah C [] s s6/\s6.heap.get? D=some (ao [] L0)/\∃m,s6.heap.get? kS=some (ao ks m)) (λi j s6 DD hi hj zz US=>l0 zz λq0 q1 q2 q3=> ?_) _ J Nq ⟨ah.refl _,e,gd,m,gk⟩ λs6 zz=>c5 zz λ_ q=>⟨rfl,q⟩
    have SV:fe C (kS::D::W) s6.heap ks (ps.map κ):=ah.jl q0 rk
    have S5:∀i,i < ps.length->(ps.map κ).getD i .none=κ (ps.getD i .none):=λi hi=>by
     simp [List.getD_eq_getElem?_getD,hi]
    have ra:=aQ.getD SV (i:=i) (by rw [Hd];exact hi)
    have rb:=aQ.getD SV (i:=j) (by rw [Hd];exact hj)
    simp only [S5 i hi] at ra
    simp only [S5 j hj] at rb
    refine Hb (Ll i j hi hj (kS::D::W) A s6 _ _ rm.zero (S6 s6 q1 ⟨_,q3.choose_spec⟩ ⟨_,q2⟩) ra rb) ?_ λ_ _ x=>x
    rintro d s7 ⟨e7,rfl⟩
    exact US s7 ⟨q0.trans e7,q1.trans e7,e7.keep _ _ nD (by simp) q2,q3.choose,e7.keep _ _ nK (by simp) q3.choose_spec⟩
   ·rintro⟨⟨⟩,Qq⟩ s6 ⟨h1,h2,h3,h4,h5⟩
    exact tail Qq s6 h1 h2 h3 h4 h5
theorem AH {ky:Addr}{params:Arguments}{body:Expr}{scope:Scope}{cl:List (Str×Addr)}{pm cd LX:Value}{x:Str}{p r:PV}(ok:C'.Ok)
 (L:ft C' ky (kG sc params body scope cl pm cd LX) body ρ)(hP:l4 params [x])(hn:scope.names.lookup x=some .local\/scope.names.lookup x=some .cell)
 (hb:∀q code,Ev C' k ⟨scope,q,code⟩ [] (d8 scope [(x,p)] ρ) body r):aN C' (k+1) [] (.ref ky) [p] [] r:=λW A s vs kvs rm g ho r1 r2=>by
 refine ae r1.inv1 λv LG rv=> ?_;refine LG▸?_
 refine r2.i7▸?_
 refine pR (args:=⟨[v],[]⟩) (q:=[(x,p)]) ok L g rm (me (xs:=[x]) hP rfl rfl) (.cons rv .nil) (by simp) (λy hy=> ?_) (hb _ _)
 have:y=(x,v):=by simpa using hy
 refine this▸?_
 exact hn
theorem Ev.uZ {x y:Str}{px kp Nd:Pos}{e:Expr}{params:Arguments}{body:Expr}{scope:Scope}{p:PV}{ps:List PV}{κ:PV->PV}{T:String}{b:Nat->Nat->Bool}(ok:C.Ok)
 (hf:Ev C (k+4) sc own ρ (.Name x px) (.raw (.builtin "sorted")))(ha:Ev C (k+4) sc own ρ e p)(RK:∀C',Am C' p ps)(LO:sN C sc scope)(Mq:∀env,defaultsOf params env=([],[]))(hP:l4 params [y])(hn:scope.names.lookup y=some .local\/scope.names.lookup y=some .cell)
 (hb:∀C',C.Le C'->C'.Ok->∀q code,∀p∈ps,Ev C' k ⟨scope,q,code⟩ [] (d8 scope [(y,p)] ρ) body (κ p))(QN:ps.length < 64)
 (hT:∀C',∀q∈ps,El C' (κ q) T)(RA:T≠"tuple")(Ll:∀C' i j,i < ps.length->j < ps.length->Eg C' (κ (ps.getD i .none)) (κ (ps.getD j .none)) (b i j))(L8:gh ps.length b=true)
 (Np:∀i∈cN ps.length b,i < ps.length)(Nx:(cN ps.length b).length=ps.length)
 (Un:∀env,starEach [e] env=(false,eval e env)::starEach [] env)
 (he:∀env,backTo pos (starEach [e] env)=(false,eval e env)::backTo pos (starEach [] env))(O3:∀env,(backTo pos (starEach [e] env)).any (·.1)=false)
 (LP:∀env,(backToKw pos (keywordEach [⟨some "key",.Lambda params body scope Nd,kp⟩] env)).all (·.1.isSome)=true)(Vb:∀env,(backToKw pos (keywordEach [⟨some "key",.Lambda params body scope Nd,kp⟩] env)).any (·.1.isNone)=false):
 Ev C (k+4) sc own ρ (.Call (.Name x px) [e] [⟨some "key",.Lambda params body scope Nd,kp⟩] pos) (.lst ((cN ps.length b).map λi=>ps.getD i .none)):=λW A env s rm X=>by
 have LK:sizeLine=16777216:=rfl
 refine JJ (Hb (hf W A env s rm X) ?_ λ_ _ q=>q.elim)
 rintro v s1 ⟨e1,r1⟩
 refine(show v= .builtin "sorted" from r1)▸?_
 refine callWith_kw (Hb (ab.cons ha ab.nil Un W A env s1 pos rm (X.aA e1)) ?_ λ_ _ q=>q.elim) (he env) (O3 env) (LP env) (Vb env)
 rintro vs s2 ⟨e2,r2⟩
 have X2:=(X.aA e1).aA e2
 refine kws_cons (Hb (qx ok X2 LO Mq) ?_ λ_ _ q=>q.elim)
 rintro kv s3 ⟨e3,ky,cl,pm,cd,LX,rfl,hky,L⟩
 refine kws_nil ?_
 have X3:=X2.aA e3
 have hU:Cfg.Up C (C.at W s3):=⟨wC X3.inv ok X3.new,ok.at X3.inv X3.new,(X3.inv.at ok X3.new).sI⟩
 refine ae ((e3.jl r2).inv1) λv LG rv=> ?_;refine LG▸?_
 show wpAny C.M A (call (.builtin "sorted") [v] [("key",.ref ky)]) _ _ s3
 have g3:Gd (C.at W s3) W s3:=X3.gd.at ok
 have MM:ak A.in1 (k+3):=rm.in1
 refine call_function_entry_kw kind_sorted plain_sorted entry_sorted (ksk_s1 _ _) ?_
 simp only [Builtin.«sorted»]
 refine Hc (m:=checkCount "sorted" 1 1 _) (Hj ?_)
 refine Hc (RK (C.at W s3) W A.in1 s3 v MM.handled g3 rv _ _ λus s4 e4 r4=> ?_)
 have hl:=aQ.length r4
 refine Hc (wpAny_newList ?_ (by lia))
 have g4:=g3.aA e4
 have SD:(s4.heap.push {cls:= .type "list",data:= .seq us.toArray}).get? s4.heap.objs.size=some (ao us 0):=Heap.get?_push_size _ rfl
 have e5:ah (C.at W s3) [] s4 {s4 with heap:=s4.heap.push {cls:= .type "list",data:= .seq us.toArray},toks:=s4.toks}:=ah.push _ s4.toks
 refine Hc (HV (wpAny_call_entry_kw slot_list_sort ⟨_,SD,rfl⟩ entry_list_sort ?body (ksk_l1 _ _)))
 case body=>
  refine vw (C:=C.at W s3) (W:=W) (s:=s4) (κ:=κ) (k:=k+1) (T:=T) (b:=b) g4 r4 MM.in1 QN (λq hq=>AH hU.ok L hP hn λq' code=>hb _ hU.le hU.ok q' code q hq) (hT _) RA (Ll _) L8 Np Nx (Hh _) e5 SD λJ m e6 gD=> ?_
  refine⟨_,rfl,?_⟩
  refine Hj ⟨_,rfl,?_⟩
  have SY:ah C [] s4 J:=e6.ql
  refine⟨(((e1.trans e2).trans e3).trans e4.ql).trans SY,_,_,_,rfl,?_,gD,aQ.Ef (ah.jl SY r4) _ Np⟩
  rintro(h |h)
  ·exact absurd (g4.low _ (.inl h)) (HB _)
  ·exact absurd (g4.low _ (.inr h)) (HB _)
set_option maxRecDepth 4000
theorem iZ {α:Type}{n:Nat}{b b':Nat->Nat->Bool}(h:∀i j,i < n->j < n->b i j=b' i j):∀t:KasT α,jC n b t=true->oz b t=oz b' t/\jC n b' t=true
 | .ret a,_=>⟨rfl,rfl⟩
 | .ask i j k,ho=>by
  simp only [mv,mr,HO] at ho
  have ih:=iZ h (k (b i j)) ho.2
  simp only [yL,zy,mv,mr,<-(h i j (Jf.mp ho.1.1) (Jf.mp ho.1.2)),HO]
  exact⟨ih.1,ho.1,ih.2⟩
theorem kF {n:Nat}{b b':Nat->Nat->Bool}(h:∀i j,i < n->j < n->b i j=b' i j)(ho:gh n b=true):cN n b=cN n b'/\gh n b'=true:=by
 delta cN gh at *
 by_cases h2:n < 2
 ·rw [if_pos h2,if_pos h2,Jf.mpr h2,Bool.true_or]
  exact⟨rfl,rfl⟩
 ·have:Nat.blt n 2=false:=Bool.eq_false_iff.mpr λq=>h2 (Jf.mp q)
  rw [this,J2] at ho
  rw [if_neg h2,if_neg h2,(iZ h (kas_sort n) ho).1,this,J2]
  exact⟨rfl,(iZ h (kas_sort n) ho).2⟩
noncomputable def zg (r:List Nat) (i j:Nat):Bool:=Nat.blt (r.getD i 0) (r.getD j 0)
theorem y5:([0,1,2,3].all λa=>[0,1,2,3].all λb=>[0,1,2,3].all λc=>[0,1,2,3].all λd=>gh 4 (zg [a,b,c,d]) && (cN 4 (zg [a,b,c,d])==[0,1,2,3].foldl (λl x=>cO (zg [a,b,c,d]) true l x) []))=true:=by rfl
variable {lt:α->α->Bool}
noncomputable def jd (lt:α->α->Bool) (v:Nat->α) (i:Nat):Nat:=((List.range 4).filter λj=>lt (v j) (v i)).length
theorem Dc (T:qE lt)(v:Nat->α){i j:Nat}(hi:i < 4):lt (v i) (v j)=Nat.blt (jd lt v i) (jd lt v j):=by
 have O5:∀x,lt x x=false:=λx=>by
  cases h:lt x x with
  |false=>rfl
  |true=>have:=T.asym x x h;replace this:=h▸this;cases this
 cases h:lt (v i) (v j) with
 |true=>
  refine(Jf.mpr ?_).symm
  have:=dW (l:=i::(List.range 4).filter λm=>lt (v m) (v i)) (L:=(List.range 4).filter λm=>lt (v m) (v j)) (Ht.mpr ⟨λq=>absurd (HG.mp q).2 (by rw [O5];decide),IB Kt K9⟩) λm hm=>by
   rcases Hf.mp hm with rfl |hm
   ·exact HG.mpr ⟨Hu.mpr hi,h⟩
   ·obtain⟨h1,h2⟩:=HG.mp hm
    refine HG.mpr ⟨h1,?_⟩
    cases hq:lt (v m) (v j) with
    |true=>rfl
    |false=>
     have:=T.tr (v j) (v m) (v i) hq (T.asym _ _ h2)
     replace this:=h▸this;cases this
  unfold jd
  simp only [Hv] at this
  exact this
 |false=>
  symm
  refine Bool.eq_false_iff.mpr λq=> ?_
  have q:=Jf.mp q
  have:=dW (l:=(List.range 4).filter λm=>lt (v m) (v j)) (L:=(List.range 4).filter λm=>lt (v m) (v i)) (IB Kt K9) λm hm=>by
   refine HG.mpr ⟨(HG.mp hm).1,?_⟩
   cases hq:lt (v m) (v i) with
   |true=>rfl
   |false=>
    have:=T.tr (v j) (v i) (v m) h hq
    replace this:=(HG.mp hm).2▸this;cases this
  unfold jd at q
  lia
theorem BZ (T:qE lt)(v:Nat->α){i:Nat}(hi:i < 4):jd lt v i < 4:=by
 have O5:lt (v i) (v i)=false:=by
  cases h:lt (v i) (v i) with
  |false=>rfl
  |true=>have:=T.asym _ _ h;replace this:=h▸this;cases this
 have:=dW (l:=i::(List.range 4).filter λm=>lt (v m) (v i)) (L:=List.range 4) (Ht.mpr ⟨λq=>absurd (HG.mp q).2 (by rw [O5];decide),IB Kt K9⟩) λm hm=>by
  rcases Hf.mp hm with rfl |hm
  ·exact Hu.mpr hi
  ·exact(HG.mp hm).1
 simp only [I5,Hv] at this
 exact this
theorem Eo (T:qE lt)(v:Nat->α):gh 4 (λi j=>lt (v i) (v j))=true/\cN 4 (λi j=>lt (v i) (v j))=[0,1,2,3].foldl (λl x=>cO (λi j=>lt (v i) (v j)) true l x) []:=by
 have hm:∀i,i < 4->jd lt v i∈[0,1,2,3]:=λi hi=>by
  have:=BZ T v hi
  simp only [Hf,HH,It]
  lia
 have LP:=y5
 rw [Hw] at LP
 have h1:=LP _ (hm 0 (by decide))
 rw [Hw] at h1
 have h2:=h1 _ (hm 1 (by decide))
 rw [Hw] at h2
 have h3:=h2 _ (hm 2 (by decide))
 rw [Hw] at h3
 have h4:=h3 _ (hm 3 (by decide))
 rw [HO,Ip] at h4
 have he:∀i j,i < 4->j < 4->zg [jd lt v 0,jd lt v 1,jd lt v 2,jd lt v 3] i j=lt (v i) (v j):=λi j hi hj=>by
  rw [Dc T v hi]
  have hg:∀i,i < 4->[jd lt v 0,jd lt v 1,jd lt v 2,jd lt v 3].getD i 0=jd lt v i:=λi hi=>by
   match i,hi with
   |0,_=>rfl
   |1,_=>rfl
   |2,_=>rfl
   |3,_=>rfl
  unfold zg
  simp only [hg i hi,hg j hj]
 refine⟨(kF he h4.1).2,?_⟩
 simp only [<-(kF he h4.1).1,h4.2]
 have O1:∀(l:List Nat) (x:Nat),x < 4->(∀y∈l,y < 4)->cO (zg [jd lt v 0,jd lt v 1,jd lt v 2,jd lt v 3]) true l x=cO (λi j=>lt (v i) (v j)) true l x:=λl x hx hl=>by
  unfold cO bN
  congr 1
  have:∀l:List Nat,(∀y∈l,y < 4)->l.findIdx (fA (zg [jd lt v 0,jd lt v 1,jd lt v 2,jd lt v 3]) true x)=l.findIdx (fA (λi j=>lt (v i) (v j)) true x):=by
   intro l
   induction l with
   |nil=>intro _;rfl
   |cons y l ih=>
    intro hl
    simp only [KS,ih λz hz=>hl z (Ha _ hz)]
    have:fA (zg [jd lt v 0,jd lt v 1,jd lt v 2,jd lt v 3]) true x y=fA (λi j=>lt (v i) (v j)) true x y:=he x y hx (hl y G9)
    rw [this]
  exact this l hl
 have key:∀(q l:List Nat),(∀y∈q,y < 4)->(∀y∈l,y < 4)->q.foldl (λl x=>cO (zg [jd lt v 0,jd lt v 1,jd lt v 2,jd lt v 3]) true l x) l=q.foldl (λl x=>cO (λi j=>lt (v i) (v j)) true l x) l:=by
  intro q
  induction q with
  |nil=>intro l _ _;rfl
  |cons x q ih=>
   intro l hq hl
   simp only [Ia,O1 l x (hq x G9) hl]
   refine ih _ (λy hy=>hq y (Ha _ hy)) λy hy=> ?_
   rcases Hf.mp ((cT _ _ _ _).mem_iff.mp hy) with rfl |hy
   ·exact hq _ G9
   ·exact hl y hy
 exact key _ _ (by decide) (λ_ h=>nomatch h)
abbrev n7 (C:Cfg):Prop:=∃t∈C.tabs,SL.code= .ref t.1/\SL.qual ++ "<lambda>"=t.2.2
theorem uU (cs:List Int)(j:Nat): -1000000<=Ai cs j/\Ai cs j<=1000000:=by
 have h0:=HZ (cs.getD (3+j) 0) (b:=2000001) (by decide)
 have h1:=Ii (cs.getD (3+j) 0) (b:=2000001) (by decide)
 unfold Ai
 omega
theorem EU (cs:List Int):∀j,j < 3->wJ cs j=Ai cs j
 |0,_=>rfl
 |1,_=>rfl
 |2,_=>rfl
 |j+3,h=>absurd h (by simp)
theorem j0 {x:Int}(h:x.natAbs < 2 ^ 60):Builtin.Int.intBits x<=64:=intBits_le_iff.mpr (Hn h (by decide))
theorem fX {n m:Nat}{x y:Int}(h:x.natAbs<=n)(g:y.natAbs<=m):(x+y).natAbs<=n+m:=Hg (Int.natAbs_add_le x y) (Lj h g)
theorem Bi {n m:Nat}{x y:Int}(h:x.natAbs<=n)(g:y.natAbs<=m):(x - y).natAbs<=n+m:=fX h (Hg (JI (Int.natAbs_neg y)) g)
theorem qF {n:Nat}{x:Int}{p:Prop} [Decidable p](h:x.natAbs<=n):(if p then x else 0).natAbs<=n:=by
 split
 ·exact h
 ·exact HK _
theorem qI {n:Nat}{x:Int}{p:Prop} [Decidable p](h:x.natAbs<=n):(x*if p then 1 else 0).natAbs<=n:=by
 split
 ·rw [IV];exact h
 ·rw [Jp];exact HK _
theorem pf {n:Nat}{x:Int}(h:x.natAbs<=n)(g:Nat.ble (n+1) (2 ^ 60)=true):x.natAbs < 2 ^ 60:=Hn (Nat.lt_succ_of_le h) (Ho g)
theorem oC (cs:List Int)(j:Nat):(Ai cs j).natAbs<=1000000:=by have:=uU cs j;omega
theorem kr (cs:List Int){j:Nat}(hj:j < 3):(wJ cs j).natAbs<=1000000:=EU cs j hj▸oC cs j
theorem pQ (cs:List Int):(aM cs).natAbs<=1000000+(1000000+(1000000+0)):=fX (oC cs 0) (fX (oC cs 1) (fX (oC cs 2) (Hh 0)))
theorem qK (cs:List Int):Builtin.Int.intBits (aM cs)<=64:=j0 (pf (pQ cs) rfl)
theorem fL (cs:List Int){j:Nat}(hj:j < 3):Builtin.Int.intBits (aM cs - wJ cs j)<=64:=j0 (pf (Bi (pQ cs) (kr cs hj)) rfl)
theorem yO (cs:List Int){j:Nat}(hj:j < 3):Builtin.Int.intBits (wJ cs j)<=64:=j0 (pf (kr cs hj) rfl)
theorem EB (L:Lx C f3){cs:List Int}{S:LS}(K:di cs S)(rm:ak A (k+1))(X:St C W SL [] (aC (nU cs S)) env s)(B:Bs C Wt (λ_=>true) t [] env s)
 (next:∀J,St C W SL [] (aC (("stay",.au (dR []))::nU cs S)) env J->Bs C Wt (λ_=>true) t [] env J->wpAny C.M A (execs (aK 23) env) Q E J):
 wpAny C.M A (execs (aK 21) env) Q E s:=by
 have LK:sizeLine=16777216:=rfl
 conv in aK _=>whnf
 with_reducible
  refine a7 (need:=false) (k:=k+1) (ps:=S.line.map .str) X B rm (aX.lst ?_ (by rw [Hd];have:=K.len;lia)) (λ_=>[]) (λ_=>aC (nU cs S)) (λi=>upd (aC (nU cs S)) "order" (.str (S.line.getD i ""))) (by fail) (by fail) (λ_=>by fail) (λ_=>False) ?LH ?turn (λ_ _ _ h=>h.elim) ?done (λx=>by fail)
 case LH=>
  intro m p hp
  refine ae (cY hp) λo ho G'=> ?_;rw [G']
  rw [List.getD_eq_getElem?_getD,ho]
  exact bg.cell (by rfl) rfl
 case turn=>
  intro I ob m p t' LY s1 hI hp X1 B1
  refine ae (cY hp) λo ho G'=> ?_
  rw [List.getD_eq_getElem?_getD,ho] at X1
  have Tu:=List.mem_of_getElem? ho
  have fin:=AL (k:=k) (Q:=λf H'=>match f with
   | .next | .cont=>St C (I::W) SL ((I,.obj ob)::[]) (aC (nU cs S)) env H'/\Bs C LY (λ_=>true) t' ((I,.obj ob)::[]) env H'
   | .brk=>False
   | .ret v=>∃p own' J',False/\Rr C (I::W) H'.heap v p/\St C (I::W) SL own' J' env H'/\Bs C LY (λ_=>true) t' own' env H') (E:=λ_ _=>False) L K Tu rm (X1.to (by k_extra"rs")) B1 λs2 X3 B2=>
   AM L K Tu rm X3 B2 λs3 X4 B3=>Hk ⟨X4,B3⟩
  conv at fin in r6 _=>whnf
  with_reducible refine Hb fin ?_ λ_ _ h=>h
  intro f H' h
  cases f <;> with_reducible exact h
 case done=>
  intro s1 X1 B1
  with_reducible refine a9 (p:= .au (dR [])) X1 B1 rm (Ev.conv Ev.kC (by fail)) (by done) (by fail) (by fail) ?n1
  case n1=>
   intro s2 X2 B2
   with_reducible have h9:=next _ (X2.to (by k_extra"rs")) B2
   conv at h9 in aK _=>whnf
   with_reducible exact h9
 all_goals with_reducible intros
noncomputable abbrev jc (n:Nat):List Stmt:=List.drop n (cG (ay tb 18) 23)
noncomputable def dj:List (Nat×Nat×Nat):=[(0,1,2),(0,2,1),(1,0,2),(1,2,0),(2,0,1),(2,1,0)]
theorem lN:∀e∈dj,e.1 < 3/\e.2.1 < 3/\e.2.2 < 3:=by decide
noncomputable def g3 (cs:List Int) (e:Nat×Nat×Nat):Str:=ax cs e.1 (ax cs e.2.1 (ax cs e.2.2 "abcd"))
noncomputable def eF (cs:List Int) (e:Nat×Nat×Nat) (z:Nat):List Int:=[e.1,e.2.1,e.2.2].map λone=>(aF cs z).getD one 0*(if(0:Int) < cp cs one then 1 else -1)
noncomputable def cD (cs:List Int) (e:Nat×Nat×Nat):List Nat:=cN 4 λa b=>gw (eF cs e a) (eF cs e b)
noncomputable def bZ (cs:List Int) (e:Nat×Nat×Nat):Int:=wJ cs e.1*wJ cs e.2.1*(aM cs - wJ cs e.2.1)*(aM cs - wJ cs e.2.2)
noncomputable def bB (cs:List Int) (n:Nat):List (Str×Int):=(dj.take n).foldl (λd e=>cH d [(g3 cs e,bZ cs e)]) []
theorem rR (cs:List Int)(o:Str){j:Nat}(h:j < 3):((k9 cs o).map PV.str)[j]? =some (.str (ax cs j o)):=by
 unfold k9
 simp only [List.getElem?_map,List.getElem?_range h]
 rfl
noncomputable abbrev A2 (cs:List Int) (S:LS) (sy:List (Str×Int)) (e:Nat×Nat×Nat):List (Str×PV):=("k",.int e.2.2)::("j",.int e.2.1)::("i",.int e.1)::("stay",.au (dR sy))::nU cs S
theorem zc (L:Lx C f3){cs:List Int}{S:LS}(K:di cs S){sy:List (Str×Int)}{e:Nat×Nat×Nat}(he:e.1 < 3/\e.2.1 < 3/\e.2.2 < 3)(rm:ak A (k+1))(X:St C W SL own (aC (A2 cs S sy e)) env s)(B:Bs C Wt (λ_=>true) t own env s)
 (next:∀J,St C W SL own (aC (("goal",.str (g3 cs e))::A2 cs S sy e)) env J->Bs C Wt (λ_=>true) t own env J->wpAny C.M A (execs (jc 1) env) Q E J):
 wpAny C.M A (execs (jc 0) env) Q E s:=by
 have m1:=K.clo _ K.z e.2.2 he.2.2
 have lk:∀o∈S.line,(cB cq S.steps).lookup o=some (.lst ((k9 cs o).map .str)):=λo ho=>by simp only [dw,K.steps o ho];rfl
 have a2:((k9 cs (ax cs e.2.1 (ax cs e.2.2 "abcd"))).map PV.str)[e.1]? =some (.str (g3 cs e)):=rR cs (ax cs e.2.1 (ax cs e.2.2 "abcd")) he.1
 conv in jc _=>whnf
 with_reducible
  refine az (p:= .str (g3 cs e)) X B rm (Ev.item (n:=e.1) (Ev.l (xs:=(k9 cs (ax cs e.2.1 (ax cs e.2.2 "abcd"))).map .str) (Ev.bh (x:=ax cs e.2.1 (ax cs e.2.2 "abcd")) (es:=cB cq S.steps) (Ev.d ?_) (Ev.item (n:=e.2.1) (Ev.l (xs:=(k9 cs (ax cs e.2.2 "abcd")).map .str) (Ev.bh (x:=ax cs e.2.2 "abcd") (es:=cB cq S.steps) (Ev.d ?_) (Ev.item (n:=e.2.2) (Ev.l (xs:=(k9 cs "abcd").map .str) (Ev.bh (x:="abcd") (es:=cB cq S.steps) (Ev.d ?_) Ev.str (lk _ K.z) (λ_ _=>by fail))) ?_ (by fail) (rR cs ("abcd":Str) he.2.2) (by lia) (λ_ _=>by fail)) (lk _ m1) (λ_ _=>by fail))) ?_ (by fail) (rR cs (ax cs e.2.2 "abcd") he.2.1) (by lia) (λ_ _=>by fail)) (lk _ (K.clo _ m1 e.2.1 he.2.1)) (λ_ _=>by fail))) ?_ (by fail) a2 (by lia) (λ_ _=>by fail)) (by done) (by fail) ?n1
 case n1=>
  intro s1 X1 B1
  with_reducible have h9:=next _ (X1.to (by k_extra"rs")) B1
  conv at h9 in jc _=>whnf
  with_reducible exact h9
 all_goals with_reducible intros
theorem Cs:qE gw:=by
 constructor
 ·intro a
  induction a with
  |nil=>intro b h;cases b <;> first |rfl |cases h
  |cons x a ih=>
   intro b h
   cases b with
   |nil=>cases h
   |cons y b=>
    simp only [k7] at h ⊢
    by_cases q:x=y
    ·rw [if_pos q] at h;rw [if_pos q.symm];exact ih b h
    ·rw [if_neg q] at h;rw [if_neg (HE q)]
     have:=H9 h
     exact HJ (by omega)
 ·intro a
  induction a with
  |nil=>intro b c h1 h2;cases c <;> first |rfl |(cases b <;> first |cases h1 |cases h2 |rfl)
  |cons x a ih=>
   intro b c h1 h2
   cases b with
   |nil=>cases h1
   |cons y b=>
    cases c with
    |nil=>cases h2
    |cons z c=>
     simp only [k7] at h1 h2 ⊢
     by_cases q1:y=x
     ·subst q1
      rw [if_pos rfl] at h1
      by_cases q2:z=y
      ·subst q2
       rw [if_pos rfl] at h2
       rw [if_pos rfl]
       exact ih b c h1 h2
      ·rw [if_neg q2] at h2
       rw [if_neg q2]
       exact h2
     ·rw [if_neg q1] at h1
      have e1:=Ik h1
      by_cases q2:z=y
      ·refine q2▸?_
       rw [if_neg q1];exact h1
      ·rw [if_neg q2] at h2
       have e2:=Ik h2
       rw [if_neg (by omega)]
       exact HJ (by omega)
theorem jS (cs:List Int)(e:Nat×Nat×Nat):gh 4 (λa b=>gw (eF cs e a) (eF cs e b))=true/\cD cs e=[0,1,2,3].foldl (λl x=>cO (λi j=>gw (eF cs e i) (eF cs e j)) true l x) []:=Eo Cs (eF cs e)
theorem kz (cs:List Int)(e:Nat×Nat×Nat):(cD cs e).Perm [0,1,2,3]:=by
 rw [(jS cs e).2]
 have key:∀(q l:List Nat),(q.foldl (λl x=>cO (λi j=>gw (eF cs e i) (eF cs e j)) true l x) l).Perm (q ++ l):=by
  intro q
  induction q with
  |nil=>intro l;exact IJ _
  |cons x q ih=>
   intro l
   simp only [Ia]
   exact(ih _).trans (((cT _ _ _ _).append_left q).trans K5)
 exact(key [0,1,2,3] []).trans (by decide)
noncomputable def FY (x:Str):Nat:=if x=cb 0 then 0 else if x=cb 1 then 1 else if x=cb 2 then 2 else 3
theorem C5:∀z,z < 4->FY (cb z)=z
 |0,_=>by decide+kernel
 |1,_=>by decide+kernel
 |2,_=>by decide+kernel
 |3,_=>by decide+kernel
 |z+4,h=>absurd h (by simp)
noncomputable def κ4 (cs:List Int) (e:Nat×Nat×Nat):PV->PV
 | .str x=> .lst ((eF cs e (FY x)).map .int)
 |p=>p
theorem rT (cs:List Int)(e:Nat×Nat×Nat){z:Nat}(h:z < 4):κ4 cs e (yb z)= .lst ((eF cs e z).map .int):=by
 show PV.lst ((eF cs e (FY (cb z))).map .int)=_
 rw [C5 z h]
theorem fW:signs ("abcd":Str)=(List.range 4).map yb:=by fail
theorem oB {i:Nat}(h:i < 4):((List.range 4).map yb).getD i .none=yb i:=by
 simp only [List.getD_eq_getElem?_getD,List.getElem?_map,List.getElem?_range h]
 rfl
theorem z6 (cs:List Int){j:Nat}(h:j < 3):((gH cs).map PV.int)[j]? =some (.int (cp cs j)):=by
 unfold gH
 simp only [List.getElem?_map,List.getElem?_range h]
 rfl
theorem yS (L:Lx C f3)(hT:n7 C){cs:List Int}{S:LS}{sy:List (Str×Int)}{e:Nat×Nat×Nat}(he:e.1 < 3/\e.2.1 < 3/\e.2.2 < 3)(hg:g3 cs e=d6 (cD cs e))(rm:ak A (k+5))(X:St C W SL own (aC (("goal",.str (g3 cs e))::A2 cs S sy e)) env s)(B:Bs C Wt (λ_=>true) t own env s)
 (next:∀J,St C W SL own (aC (("goal",.str (g3 cs e))::A2 cs S sy e)) env J->Bs C Wt (λ_=>true) t own env J->wpAny C.M A (execs (jc 2) env) Q E J):
 wpAny C.M A (execs (jc 1) env) Q E s:=by
 have L':=L.L
 obtain⟨Tw,QL,Ri⟩:=he
 have Rz:=kz cs e
 have Ll:∀i∈cD cs e,i < 4:=λi hi=>by
  have:=Rz.mem_iff.mp hi
  simp only [Hf,HH,It] at this
  omega
 have Ro:∀i∈cN 4 (λa b=>gw (eF cs e a) (eF cs e b)),i < 4:=Ll
 have LU:(cN 4 λa b=>gw (eF cs e a) (eF cs e b)).length=4:=Rz.length_eq
 have Oq:(signs ("abcd":Str)).length=4:=rfl
 have Q9:(cN (signs ("abcd":Str)).length λa b=>gw (eF cs e a) (eF cs e b)).map (λi=>(signs ("abcd":Str)).getD i .none)=((cD cs e).map cb).map .str:=by
  rw [Oq,fW,Hq]
  exact HY λi hi=>oB (Ll i hi)
 have Rc:(((cD cs e).map cb).map (·.length)).sum+((cD cs e).map cb).length*("":Str).length<=16777216:=by
  refine(by rw [Hq];rfl:((cD cs e).map cb).map (·.length)=(cD cs e).map λ_=>1)▸?_
  have h2:((cD cs e).map λ_=>1).sum=(cD cs e).length:=by
   generalize cD cs e=l
   induction l with
   |nil=>rfl
   |cons x l ih=>simp only [Hm,HW,ih,Hv];lia
  simp only [h2,Rz.length_eq]
  show 4+_*0<=_
  lia
 have hj:PV.str (Txt.join "" ((cD cs e).map cb))= .str (g3 cs e):=by rw [sL,hg]
 conv in jc _=>whnf
 with_reducible
  refine bG X B rm (Tr.conv (p:=(g3 cs e !=g3 cs e)) (Tr.cmp ?_ (Ev.conv (Ev.uA (T:="str") (id:="str.join") (p:= .str "") (ps:=[.lst (((cD cs e).map cb).map .str)]) Ev.str fY.str (ab.cons (Ev.conv (Ev.uZ (k:=k+1) (y:="name") (p:= .str "abcd") (ps:=signs "abcd") (κ:=κ4 cs e) (T:="list") (b:=λa b=>gw (eF cs e a) (eF cs e b)) L'.ok ?_ Ev.str (λC'=>Am.str (by decide)) (by with_unfolding_all exact⟨hT,by decide+kernel,rfl,rfl,rfl,by decide+kernel⟩) (λenv=>by fail) (by with_unfolding_all exact⟨rfl,rfl,rfl,rfl,rfl,by decide+kernel⟩) (.inr (by done)) ?body (by refine Oq▸?_;decide) ?ty (by decide) ?lt (by rw [Oq];exact((jS cs e).1)) (by refine Oq▸?_;exact Ro) (by rw [Oq];exact LU) (λenv=>by fail) (λenv=>by fail) (λenv=>by fail) (λenv=>by fail) (λenv=>by fail)) (Hx PV.lst Q9)) ab.nil) (cC.join rfl Rc) (λ_=>by fail) (λ_=>by fail) (by fail) Ji Kd Ka (λenv=>by fail) (λenv=>by fail)) hj) aj.Fh Th.bool (by decide+kernel)) (by simp)) ?nx
 case nx=>
  intro s1 X1 B1
  with_reducible have h9:=next _ X1 B1
  conv at h9 in jc _=>whnf
  with_reducible exact h9
 case ty=>
  intro C' q hq
  rw [fW] at hq
  obtain⟨i,_,rfl⟩:=He.mp hq
  exact El.lst
 case lt=>
  intro C' i j hi hj
  rw [Oq] at hi hj
  simp only [fW,oB hi,oB hj,rT cs e hi,rT cs e hj]
  exact Eg.ints
 case body=>
  intro C' l ok q code p hp
  rw [fW] at hp
  refine ae (He.mp hp) λz hz G'=> ?_;subst G'
  have hz:=Hu.mp hz
  simp only [rT cs e hz]
  have hv:PV.lst ([e.1,e.2.1,e.2.2].map λone=>PV.int ((aF cs z).getD one 0*(if(0:Int) < cp cs one then 1 else -1)))= .lst ((eF cs e z).map .int):=by
   unfold eF
   simp only [Hq];rfl
  with_reducible
   refine Ev.conv (fT.ev (c4 (need:=false) (l:=[e.1,e.2.1,e.2.2]) (g:=λ(i:Nat)=>PV.int (i:Int)) (by with_unfolding_all exact⟨rfl,by done,by done⟩) (λx env=>by fail) (λone=>PV.int ((aF cs z).getD one 0*(if(0:Int) < cp cs one then 1 else -1))) ((rfl:([PV.int e.1,.int e.2.1,.int e.2.2]:List PV)=[e.1,e.2.1,e.2.2].map λ(i:Nat)=>PV.int (i:Int))▸aX.tup (Ev.tuple (ab.cons ?t1 (ab.cons ?t2 (ab.cons ?t3 ab.nil))) (Ho (by fail))) (Ho (by fail))) (Ho (by fail)) ?step)) hv
  case step=>
   intro c hc
   have TA:c < 3:=by
    simp only [Hf,HH,It] at hc
    lia
   refine⟨_,bg.local (by done),by k_extra"u",?_⟩
   with_reducible
    refine Ev.bin (Ev.item (n:=c) (Ev.l (xs:=(aF cs z).map .int) (Ev.bh (x:=cb z) (es:=mP cs) (Ev.d ?_) ?_ (lV cs hz) (λ_ _=>by fail))) ?_ (by fail) (ju cs z TA) (by lia) (λ_ _=>by fail)) (Ev.lp (d:=decide ((0:Int) < cp cs c)) (Tr.cmp (Ev.item (n:=c) (Ev.l (xs:=(gH cs).map .int) ?_) ?_ (by fail) (z6 cs TA) (by lia) (λ_ _=>by fail)) Ev.int aj.Fg Th.bool (by decide+kernel)) ?v) (aj.mul (.of_right (by split <;> decide)))
   case v=>
    by_cases h0:(0:Int) < cp cs c
    ·rw [if_pos h0,if_pos (HD h0)]
     with_reducible intros
    ·rw [if_neg h0,if_neg (by simpa using h0)]
     with_reducible exact Ev.conv (p:= .int (-1)) (Ev.un Ev.int One.neg) rfl
   all_goals with_reducible exact Ev.var (by done) (by k_extra"r")
  all_goals with_reducible exact Ev.var (by done) (by k_extra"r")
 all_goals with_reducible intros
theorem vG (es:List (Str×Int)):∀e∈dR es,kK e.2:=λe he=>by
 refine ae (He.mp he) λe' _ G'=> ?_;subst G'
 exact dh (n:=1) rfl (by decide)
noncomputable abbrev i8 (cs:List Int) (e:Nat×Nat×Nat):PV:= .au (dR [(g3 cs e,bZ cs e)])
noncomputable abbrev ku (cs:List Int) (sy:List (Str×Int)) (e:Nat×Nat×Nat):List PV:=[.au (dR sy),i8 cs e,.au (dR sy),i8 cs e]
theorem AW (L:Lx C f3){cs:List Int}{S:LS}{sy:List (Str×Int)}(hz:sy.length<=1000){e:Nat×Nat×Nat}(he:e.1 < 3/\e.2.1 < 3/\e.2.2 < 3)(rm:ak A (k+2))(X:St C W SL own (aC (("goal",.str (g3 cs e))::A2 cs S sy e)) env s)(B:Bs C Wt (λ_=>true) t own env s)
 (next:∀J,St C W SL own (aC (("kept",.lst (ku cs sy e))::("worth",i8 cs e)::A2 cs S sy e)) env J->Bs C Wt (λ_=>true) t own env J->wpAny C.M A (execs (jc 4) env) Q E J):
 wpAny C.M A (execs (jc 2) env) Q E s:=by
 have L':=L.L
 have LK:sizeLine=16777216:=rfl
 obtain⟨Tw,QL,Ri⟩:=he
 have w2:=j7 cs QL
 conv in jc _=>whnf
 with_reducible
  refine az (p:=i8 cs e) X B rm (Ev.wA (ks:=[_]) (es:=[(g3 cs e,.int (bZ cs e))]) (by fail) (by fail) (λenv=>by fail) (ck.cons ?_ (Ev.conv (Ev.bin (Ev.bin (Ev.bin (Ev.item (n:=e.1) (Ev.l (xs:=(aV cs).map .int) ?_) ?_ (by fail) (j7 cs Tw) (by lia) (λ_ _=>by fail)) (Ev.item (n:=e.2.1) (Ev.l (xs:=(aV cs).map .int) ?_) ?_ (by fail) w2 (by lia) (λ_ _=>by fail)) (aj.mul (.of_right (yO cs QL)))) (Ev.bin ?_ (Ev.item (n:=e.2.1) (Ev.l (xs:=(aV cs).map .int) ?_) ?_ (by fail) w2 (by lia) (λ_ _=>by fail)) aj.sub) (aj.mul (.of_right (fL cs QL)))) (Ev.bin ?_ (Ev.item (n:=e.2.2) (Ev.l (xs:=(aV cs).map .int) ?_) ?_ (by fail) (j7 cs Ri) (by lia) (λ_ _=>by fail)) aj.sub) (aj.mul (.of_right (fL cs Ri)))) rfl) ck.nil) (by fail) (by fail)) (by done) (by fail) ?n1
 case n1=>
  intro s1 X1 B1
  with_reducible
   refine az (p:= .lst (ku cs sy e)) (X1.to (l:=("worth",i8 cs e)::A2 cs S sy e) (by k_extra"rs")) B1 rm (Ev.list (ab.cons (Ev.mh ?_ (ab.cons ?_ ab.nil) (cC.dict (by rw [Hd];lia))) (ab.cons (Ev.mh ?_ (ab.cons ?_ ab.nil) (cC.dict (Ho rfl))) (ab.cons ?_ (ab.cons ?_ ab.nil)))) (Ho (by fail))) (by done) (by fail) ?n2
  case n2=>
   intro s2 X3 B2
   with_reducible have h9:=next _ (X3.to (by k_extra"rs")) B2
   conv at h9 in jc _=>whnf
   with_reducible exact h9
  all_goals with_reducible intros
 all_goals with_reducible intros
theorem zM (L:Lx C f3){cs:List Int}{S:LS}{sy:List (Str×Int)}(hz:sy.length<=1000){e:Nat×Nat×Nat}(rm:ak A (k+2))(X:St C W SL own (aC (("kept",.lst (ku cs sy e))::("worth",i8 cs e)::A2 cs S sy e)) env s)(B:Bs C Wt (λ_=>true) t own env s)
 (next:∀J,St C W SL own (aC (("stay",.au (dR (cH sy [(g3 cs e,bZ cs e)])))::nU cs S)) env J->Bs C Wt (λ_=>true) t own env J->wpAny C.M A (execs [] env) Q E J):
 wpAny C.M A (execs (jc 4) env) Q E s:=by
 have L':=L.L
 have Oy:aN C (k+2) own (.ref 56) [.au (dR sy),i8 cs e] [] (.au (dR (cH sy [(g3 cs e,bZ cs e)]))):=CH (k:=k+1) L hz (by show 1<=1000;decide)
 have t1:fb none (some 2) (ku cs sy e)=[dR sy,dR [(g3 cs e,bZ cs e)]].map .au:=by
  rw [show (some 2:Option Int)=some ((2:Nat):Int) from rfl,jk];rfl
 have t2:fb (some 2) none (ku cs sy e)=[dR sy,dR [(g3 cs e,bZ cs e)]].map .au:=by
  rw [show (some 2:Option Int)=some ((2:Nat):Int) from rfl,ip];rfl
 have Lr:aj C (compareOp .NotEq) (.lst ([dR sy,dR [(g3 cs e,bZ cs e)]].map .au)) (.lst ([dR sy,dR [(g3 cs e,bZ cs e)]].map .au)) (.bool false):=aj.pY λes he=>by
  rcases Hf.mp he with rfl |he
  ·exact vG _
  ·refine(Hi.mp he)▸?_;exact vG _
 conv in jc _=>whnf
 with_reducible
  refine a9 (p:= .au (dR (cH sy [(g3 cs e,bZ cs e)]))) X B rm (Ev.du ?_ L.ac.fo (ab.cons ?_ (ab.cons ?_ ab.nil)) bR.nil Oy) (by done) (by fail) (by fail) ?n1
 case n1=>
  intro s1 X1 B1
  with_reducible
   refine bG (X1.to (l:=("kept",.lst (ku cs sy e))::("stay",.au (dR (cH sy [(g3 cs e,bZ cs e)])))::nU cs S) (by k_extra"rs")) B1 rm (Tr.cmp (Ev.conv (Ev.conv (Ev.eB (i:=none) (j:=some 2) (l:=none) (Ev.l (xs:=ku cs sy e) ?_) eh.kc (eh.some Ev.int) eh.kc (by simp) ?_ (λ_ _=>⟨_,by fail⟩) (λ_ _=>by fail)) (Hx PV.lst (dI _ _ _))) (Hx PV.lst t1)) (Ev.conv (Ev.conv (Ev.eB (i:=some 2) (j:=none) (l:=none) (Ev.l (xs:=ku cs sy e) ?_) (eh.some Ev.int) eh.kc eh.kc (by simp) ?_ (λ_ _=>⟨_,by fail⟩) (λ_ _=>by fail)) (Hx PV.lst (dI _ _ _))) (Hx PV.lst t2)) Lr Th.bool (by decide+kernel)) ?n2
  case n2=>
   intro s2 X3 B2
   exact next _ (X3.to (by k_extra"rs")) B2
  all_goals with_reducible intros
 all_goals with_reducible intros
theorem uq (tg sr:List (Str×Int)):(cH tg sr).length<=tg.length+sr.length:=by
 have h1:=eK (λ(d:List (Str×Int)) (e:Str×Int)=>bo d e.1 e.2) (λd e=>eX d e.1 e.2) tg []
 have h2:=eK qL (ia _) sr (tg.foldl (λd e=>bo d e.1 e.2) [])
 unfold cH hZ
 simp only [H0] at h1
 lia
theorem lY (cs:List Int)(n:Nat):(bB cs n).length<=6:=by
 have key:∀(l:List (Nat×Nat×Nat)) (d:List (Str×Int)),(l.foldl (λd e=>cH d [(g3 cs e,bZ cs e)]) d).length<=d.length+l.length:=by
  intro l
  induction l with
  |nil=>intro d;exact Hh _
  |cons e l ih=>
   intro d
   simp only [Ia]
   have h1:=ih (cH d [(g3 cs e,bZ cs e)])
   have h2:=uq d [(g3 cs e,bZ cs e)]
   simp only [Hv,H0] at h2 ⊢
   lia
 have:=key (dj.take n) []
 have h2:(dj.take n).length<=6:=by rw [H8];exact Jw _ _
 unfold bB
 simp only [H0] at this
 lia
noncomputable abbrev C6 (e:Nat×Nat×Nat):PV:= .tup [.int e.1,.int e.2.1,.int e.2.2]
theorem DX (L:Lx C f3)(hT:n7 C){cs:List Int}{S:LS}(K:di cs S)(hg:∀e∈dj,g3 cs e=d6 (cD cs e))(rm:ak A (k+5))(X:St C W SL [] (aC (("stay",.au (dR []))::nU cs S)) env s)(B:Bs C Wt (λ_=>true) t [] env s)
 (next:∀J,St C W SL [] (aC (("stay",.au (dR (bB cs 6)))::nU cs S)) env J->Bs C Wt (λ_=>true) t [] env J->wpAny C.M A (execs (aK 24) env) Q E J):
 wpAny C.M A (execs (aK 23) env) Q E s:=by
 have VT:bB cs 0=[]:=rfl
 conv in aK _=>whnf
 with_reducible
  refine a7 (need:=false) (k:=k+5) (ps:=dj.map C6) X B rm ?it (λ_=>[]) (λi=>aC (("stay",.au (dR (bB cs i)))::nU cs S)) (λi=>upd (upd (upd (aC (("stay",.au (dR (bB cs i)))::nU cs S)) "i" (.int (dj.getD i default).1)) "j" (.int (dj.getD i default).2.1)) "k" (.int (dj.getD i default).2.2)) (by fail) (rfl) (λ_=>by fail) (λ_=>False) ?LH ?turn (λ_ _ _ h=>h.elim) ?done (λx=>by fail)
 case it=>
  with_reducible refine aX.lst (Ev.conv ?_ (Hx PV.lst (rfl:([.tup [.int 0,.int 1,.int 2],.tup [.int 0,.int 2,.int 1],.tup [.int 1,.int 0,.int 2],.tup [.int 1,.int 2,.int 0],.tup [.int 2,.int 0,.int 1],.tup [.int 2,.int 1,.int 0]]:List PV)=dj.map C6))) (by decide)
  intros
 case LH=>
  intro m p hp
  refine ae (cY hp) λe he G'=> ?_;subst G'
  rw [List.getD_eq_getElem?_getD,he]
  exact bg.tuple (bD.cons (bg.cell (by done) rfl) (bD.cons (bg.cell (by done) rfl) (bD.cons (bg.cell (by done) rfl) bD.nil (λenv=>rfl)) (λenv=>rfl)) (λenv=>rfl)) (λenv=>⟨rfl,rfl⟩)
 case turn=>
  intro I ob m p t' LY s1 hI hp X1 B1
  refine ae (cY hp) λe he G'=> ?_;subst G'
  rw [List.getD_eq_getElem?_getD,he] at X1
  have Sy:=List.mem_of_getElem? he
  have Ll:=lN e Sy
  have hz:=lY cs m
  have LJ:bB cs (m+1)=cH (bB cs m) [(g3 cs e,bZ cs e)]:=eS _ _ he
  generalize bB cs (m+1)=sy' at LJ ⊢
  generalize bB cs m=sy at LJ X1 hz
  subst LJ
  have fin:=zc (k:=k+4) (Q:=λf H'=>match f with
   | .next | .cont=>St C (I::W) SL ((I,.obj ob)::[]) (aC (("stay",.au (dR (cH sy [(g3 cs e,bZ cs e)])))::nU cs S)) env H'/\Bs C LY (λ_=>true) t' ((I,.obj ob)::[]) env H'
   | .brk=>False
   | .ret v=>∃p own' J',False/\Rr C (I::W) H'.heap v p/\St C (I::W) SL own' J' env H'/\Bs C LY (λ_=>true) t' own' env H') (E:=λ_ _=>False) L K Ll rm (X1.to (by k_extra"rs")) B1 λs2 X3 B2=>
   yS L hT (k:=k) Ll (hg e Sy) rm X3 B2 λs3 X4 B3=>AW L (k:=k+3) (by omega) Ll rm X4 B3 λs4 X5 B4=>zM L (k:=k+3) (by omega) rm X5 B4 λs5 X6 B5=>Hk ⟨X6,B5⟩
  conv at fin in jc _=>whnf
  with_reducible refine Hb fin ?_ λ_ _ h=>h
  intro f H' h
  cases f <;> with_reducible exact h
 case done=>
  intro s1 X1 B1
  have Us:(dj.map C6).length=6:=rfl
  replace X1:=Us▸X1
  with_reducible have h9:=next _ X1 B1
  conv at h9 in aK _=>whnf
  with_reducible exact h9
theorem wq {es:List (Str×PV)}{x:Str}{p:PV}(h:x∉es.map (·.1)):putD es x p=es ++ [(x,p)]:=by
 unfold putD
 rw [if_neg]
 intro q
 refine ae (Ju.mp q) λe he hx=> ?_
 exact h (He.mpr ⟨e,he,H9 hx⟩)
theorem l8 {α:Type}{f:α->Str}{g:α->PV}:∀{l:List α}{es:List (Str×PV)},(es.map (·.1) ++ l.map f).Nodup->l.foldl (λes p=>putD es (f p) (g p)) es=es ++ l.map λp=>(f p,g p)
 |[],es,_=>by simp
 |a::l,es,h=>by
  have h1:f a∉es.map (·.1):=λq=>by
   rw [Hm,IP] at h
   exact h.2.2 _ q _ G9 rfl
  rw [Ia,wq h1,l8 (l:=l)]
  ·simp
  ·rw [Hr,Iq]
   exact h
theorem qB {α:Type}{f:α->Str}{g:α->PV}{l:List α}(h:(l.map f).Nodup):l.foldl (λes p=>putD es (f p) (g p)) []=l.map λp=>(f p,g p):=by
 have:=l8 (g:=g) (l:=l) (es:=[]) ((h))
 exact this
noncomputable def kJ:List (Nat×Nat):=dB.take 6
theorem wB:∀e∈kJ,∀e'∈kJ,PyData.eqv (dat (jg e)) (dat (jg e'))=decide (e=e'):=by decide+kernel
theorem sG:∀{l l':List (Nat×Nat)},(∀e∈l,e∈kJ)->(∀e∈l',e∈kJ)->PyData.eqvAll (gf (l.map jg)) (gf (l'.map jg))=decide (l=l')
 |[],[],_,_=>rfl
 |[],_::_,_,_=>rfl
 |_::_,[],_,_=>rfl
 |e::l,e'::l',h,h'=>by
  show (PyData.eqv (dat (jg e)) (dat (jg e')) && PyData.eqvAll (gf (l.map jg)) (gf (l'.map jg)))=_
  simp only [wB e (h e G9) e' (h' e' G9),sG (λx hx=>h x (Ha _ hx)) λx hx=>h' x (Ha _ hx)]
  by_cases q:e=e' <;> by_cases q2:l=l' <;> simp [q,q2]
noncomputable abbrev bU (l:List (Nat×Nat)):PV:= .lst (l.map jg)
theorem xp:∀e∈kJ,rQ 2 (jg e)=true:=by decide+kernel
theorem Df {e:Nat×Nat}(h:e∈kJ):kK (jg e):=dh (xp e h) (by decide)
theorem qZ {l:List (Nat×Nat)}(h:∀e∈l,e∈kJ):kK (bU l):=dh (n:=3) (by
 rw [lT,Lb,Hw]
 exact λe he=>xp e (h e he)) (by decide)
theorem Ad {ls:List (List (Nat×Nat))}(h:∀l∈ls,∀e∈l,e∈kJ):kK (.lst (ls.map bU)):=dh (n:=4) (by
 rw [lT,Lb,Hw]
 intro l hl
 show rQ 3 (bU l)=true
 rw [lT,Lb,Hw]
 exact λe he=>xp e (h l hl e he)) (by decide)
theorem aj.vX {p:PV}{ps:List PV}(hp:kK p)(hq:kK (.lst ps)):aj C (compareOp .NotIn) p (.lst ps) (.bool (!(gf ps).any λy=>PyData.eqv y (dat p))):=λW A s v u rm g h1 h2=>by
 obtain⟨as,ra⟩:=Rp.reads h1 hp.1
 obtain⟨bs,rb⟩:=Rp.reads h2 hq.1
 exact PySem.SeqAt.notIn_list_reads rb ra (SeqAt.canLay_of_shaped hq.2) (SeqAt.canLay_of_shaped hp.2) (room_in_shaped hp.2 (by have:=rm.units;show A.units+65 < 9900;lia)) ⟨ah.refl _,rfl⟩
theorem aj.za {e:Nat×Nat}{l:List (Nat×Nat)}(h:e∈kJ)(hl:∀e∈l,e∈kJ):aj C (compareOp .NotIn) (jg e) (bU l) (.bool (!l.contains e)):=(aj.vX (Df h) (qZ hl)).conv (by
 congr 2
 simp only [pG,Hq,JN]
 have:∀l:List (Nat×Nat),(∀e∈l,e∈kJ)->l.any ((λy=>PyData.eqv y (dat (jg e)))∘dat∘jg)=l.contains e:=by
  intro l
  induction l with
  |nil=>intro _;rfl
  |cons x l ih=>
   intro hl
   simp only [KI,ih λy hy=>hl y (Ha _ hy),List.contains_cons]
   congr 1
   show PyData.eqv (dat (jg x)) (dat (jg e))=_
   rw [wB x (hl x G9) e h]
   by_cases q:x=e
   ·rw [q];simp
   ·rw [HJ q];exact(HC (HE q)).symm
 exact this l hl)
theorem aj.xF {m:List (Nat×Nat)}{ls:List (List (Nat×Nat))}(h:∀e∈m,e∈kJ)(hl:∀l∈ls,∀e∈l,e∈kJ):aj C (compareOp .NotIn) (bU m) (.lst (ls.map bU)) (.bool (!ls.contains m)):=(aj.vX (qZ h) (Ad hl)).conv (by
 congr 2
 simp only [pG,Hq,JN]
 have:∀ls:List (List (Nat×Nat)),(∀l∈ls,∀e∈l,e∈kJ)->ls.any ((λy=>PyData.eqv y (dat (bU m)))∘dat∘bU)=ls.contains m:=by
  intro ls
  induction ls with
  |nil=>intro _;rfl
  |cons x l ih=>
   intro hl
   simp only [KI,ih λy hy=>hl y (Ha _ hy),List.contains_cons]
   congr 1
   show PyData.eqvAll (gf (x.map jg)) (gf (m.map jg))=_
   rw [sG (hl x G9) h]
   by_cases q:x=m
   ·rw [q];simp
   ·rw [HJ q];exact(HC (HE q)).symm
 exact this ls hl)
noncomputable def o8 (S:LS) (sy:List (Str×Int)) (g:Str):List Int:=(b6 S g).es.map λe=>e.2.getD 2 0*(sy.lookup e.1).getD 0
structure qU (cs:List Int)(S:LS):Prop where
 sum:((bB cs 6).map (·.2)).sum=aM cs*(aM cs - wJ cs 0)*(aM cs - wJ cs 1)*(aM cs - wJ cs 2)
 stat:∀g∈S.line,(o8 S (bB cs 6) g).sum=aM cs*((bB cs 6).lookup g).getD 0
noncomputable abbrev FP (e:Str×List Int):PV:= .tup [.str e.1,tupI e.2]
theorem si (es:List (Str×List Int)):cj (fS es)=es.map FP:=by
 unfold cj fS
 rw [Hq]
 rfl
noncomputable abbrev DF (cs:List Int) (S:LS):List (Str×PV):=("stay",.au (dR (bB cs 6)))::nU cs S
theorem D6 (L:Lx C f3){cs:List Int}{S:LS}(K:di cs S)(Y:qU cs S)(rm:ak A (k+2))(X:St C W SL [] (aC (DF cs S)) env s)(B:Bs C Wt (λ_=>true) t [] env s)
 (next:∀J,St C W SL [] (aC (DF cs S)) env J->Bs C Wt (λ_=>true) t [] env J->wpAny C.M A (execs (aK 26) env) Q E J):
 wpAny C.M A (execs (aK 24) env) Q E s:=by
 have L':=L.L
 have LK:sizeLine=16777216:=rfl
 have L9:=lY cs 6
 have N7:=Y.sum
 have Ou:=Y.stat
 unfold DF at X next
 generalize bB cs 6=sy at X next L9 N7 Ou
 have R4:aN C (k+2) ([]:Own) (.ref 63) [.au (dR sy)] [] (.int (aM cs*(aM cs - wJ cs 0)*(aM cs - wJ cs 1)*(aM cs - wJ cs 2))):=by
  simp only [<-N7]
  exact CK (k:=k+1) L (by lia)
 have NC:S.line.length<=sizeLine:=by have:=K.len;lia
 have Nn:PV.lst ((S.line.filter λg=>((o8 S sy g).sum !=aM cs*(sy.lookup g).getD 0)).map .str)= .lst []:=by
  have:S.line.filter (λg=>((o8 S sy g).sum !=aM cs*(sy.lookup g).getD 0))=[]:=Jh.mpr λg hg=>by rw [Ou g hg];simp
  refine this▸?_
  rfl
 have Pg:∀g,(b6 S g).es.map (λe=>PV.int (e.2.getD 2 0*(sy.lookup e.1).getD 0))=(o8 S sy g).map .int:=λg=>by unfold o8;simp only [Hq];rfl
 have TM:∀x:Str,((dR sy).lookup x).getD (.int 0)= .int ((sy.lookup x).getD 0):=λx=>by
  refine qk▸?_
  cases sy.lookup x <;> rfl
 conv in aK _=>whnf
 with_reducible
  refine bG X B rm (Tr.conv (p:=(aM cs*(aM cs - wJ cs 0)*(aM cs - wJ cs 1)*(aM cs - wJ cs 2) !=aM cs*(aM cs - wJ cs 0)*(aM cs - wJ cs 1)*(aM cs - wJ cs 2))) (Tr.cmp (Ev.du ?_ L.cc.fo (ab.cons ?_ ab.nil) bR.nil R4) (Ev.bin (Ev.bin (Ev.bin ?_ (Ev.bin ?_ (Ev.item (n:=0) (Ev.l (xs:=(aV cs).map .int) ?_) Ev.int (by fail) (j7 cs (j:=0) (by decide)) (by decide) (λ_ _=>by fail)) aj.sub) (aj.mul (.of_right (fL cs (j:=0) (by decide))))) (Ev.bin ?_ (Ev.item (n:=1) (Ev.l (xs:=(aV cs).map .int) ?_) Ev.int (by fail) (j7 cs (j:=1) (by decide)) (by decide) (λ_ _=>by fail)) aj.sub) (aj.mul (.of_right (fL cs (j:=1) (by decide))))) (Ev.bin ?_ (Ev.item (n:=2) (Ev.l (xs:=(aV cs).map .int) ?_) Ev.int (by fail) (j7 cs (j:=2) (by decide)) (by decide) (λ_ _=>by fail)) aj.sub) (aj.mul (.of_right (fL cs (j:=2) (by decide))))) aj.A5 Th.bool (by decide+kernel)) (by simp)) ?n1
 case n1=>
  intro s1 X1 B1
  with_reducible
   refine bG X1 B1 rm (Tr.cmp (Ev.conv (fT.ev (bI (need:=false) (l:=S.line) (g:=PV.str) (by with_unfolding_all exact⟨rfl,by done,by done⟩) (λx env=>by fail) PV.str (λg=>((o8 S sy g).sum !=aM cs*(sy.lookup g).getD 0)) (aX.lst ?_ (by rw [Hd];exact NC)) NC ?step)) Nn) (Ev.list ab.nil (by decide)) (aj.fB iu) Th.bool (by decide+kernel)) ?n2
  case step=>
   intro g hg
   refine l0 (K.w6 hg) λ_ hb RQ Oz=> ?_
   refine⟨_,bg.local (by done),by k_extra"u",?_,λ_=> ?_⟩
   ·with_reducible
     refine Tr.cmp (Ev.a6 ?_ (ab.cons (fT.ev (c4 (need:=true) (l:=(b6 S g).es) (g:=FP) (by with_unfolding_all exact⟨rfl,by done,by done⟩) (λx env=>by fail) (λe=>PV.int (e.2.getD 2 0*(sy.lookup e.1).getD 0)) (si _▸aX.items (Ev.b9 (n:=4) (Ev.t (xs:=oH (b6 S g)) (Ev.bh (x:=g) (es:=cB aO.pv S.book) (Ev.d ?_) ?_ hb (λ_ _=>by fail))) Ev.int (by fail) rfl (by decide) (λ_ _=>by fail)) (by rw [Hd];omega) (λ_=>by fail) (by fail)) (by omega) ?st2 (λ_=>by fail))) ab.nil) (cC.sum (ns:=o8 S sy g) (yN.lst (by rw [Hd];omega)) (Pg g))) (Ev.bin ?_ (Ev.conv (Ev.uA (T:="dict") (id:="dict.get") (p:= .au (dR sy)) (ps:=[.str g,.int 0]) ?_ fY.au (ab.cons ?_ (ab.cons Ev.int ab.nil)) cC.get (λ_=>by fail) (λ_=>by fail) (by fail) ID IZ Kb (λenv=>by fail) (λenv=>by fail)) (TM g)) (aj.mul (.of_left (qK cs)))) aj.A5 Th.bool (by decide+kernel)
    case st2=>
     intro e he
     have Q8:=Oz e he
     refine⟨_,bg.tuple (bD.cons (bg.local (by done)) (bD.cons (bg.local (by done)) bD.nil (λenv=>by fail)) (λenv=>by fail)) (λenv=>by with_unfolding_all exact⟨rfl,rfl⟩),by k_extra"u",?_⟩
     with_reducible
      refine Ev.bin (Ev.b9 (n:=2) (Ev.t (xs:=e.2.map .int) ?_) Ev.int (by fail) (oT Q8 (i:=2) (by decide)) (by decide) (λ_ _=>by fail)) (Ev.conv (Ev.uA (T:="dict") (id:="dict.get") (p:= .au (dR sy)) (ps:=[.str e.1,.int 0]) ?_ fY.au (ab.cons ?_ (ab.cons Ev.int ab.nil)) cC.get (λ_=>by fail) (λ_=>by fail) (by fail) ID IZ Kb (λenv=>by fail) (λenv=>by fail)) (TM e.1)) (aj.mul (.of_left (j0 (K.small _ (aG (K.w6 hg).1) e he))))
     all_goals with_reducible intros
    all_goals with_reducible intros
   ·with_reducible intros
  case n2=>
   intro s2 X2 B2
   with_reducible have h9:=next _ X2 B2
   conv at h9 in aK _=>whnf
   with_reducible exact h9
  all_goals with_reducible intros
 all_goals with_reducible intros
noncomputable def bb (cs:List Int) (c:Nat):List (Nat×Nat):=((List.range 6).filter λi=>dg cs c (dB.getD i default)==0).map λi=>dB.getD i default
theorem fZ (cs:List Int)(c:Nat):∀e∈bb cs c,e∈kJ:=λe he=>by
 refine ae (He.mp he) λi hi G'=> ?_;subst G'
 match i,(Hu.mp (HG.mp hi).1) with
 |0,_=>decide
 |1,_=>decide
 |2,_=>decide
 |3,_=>decide
 |4,_=>decide
 |5,_=>decide
noncomputable abbrev rt (cs:List Int):PV:= .lst ((List.range 8).map λc=>bU (bb cs c))
theorem EV (L:Lx C f3){cs:List Int}{S:LS}(rm:ak A (k+1))(X:St C W SL [] (aC (DF cs S)) env s)(B:Bs C Wt (λ_=>true) t [] env s)
 (next:∀J,St C W SL [] (aC (("alike",rt cs)::DF cs S)) env J->Bs C Wt (λ_=>true) t [] env J->wpAny C.M A (execs (aK 27) env) Q E J):
 wpAny C.M A (execs (aK 26) env) Q E s:=by
 have L':=L.L
 have hk:∀c,PV.lst (((List.range 6).filter λi=>dg cs c (dB.getD i default)==0).map λi=>jg (dB.getD i default))=bU (bb cs c):=λc=>by
  unfold bb
  simp only [show bU (((List.range 6).filter λi=>dg cs c (dB.getD i default)==0).map λi=>dB.getD i default)= .lst ((((List.range 6).filter λi=>dg cs c (dB.getD i default)==0).map λi=>dB.getD i default).map jg) from rfl,Hq]
  rfl
 conv in aK _=>whnf
 with_reducible
  refine a9 (p:=rt cs) X B rm (fT.ev (c4 (need:=false) (l:=List.range 8) (g:=λc=>PV.lst ((cu cs c).map .int)) (by with_unfolding_all exact⟨rfl,by done,by done⟩) (λx env=>by fail) (λc=>bU (bb cs c)) ((rfl:iJ cs 8=(List.range 8).map λc=>PV.lst ((cu cs c).map .int))▸aX.lst ?_ (Ho rfl)) (by decide) ?step)) (by done) (by fail) (cy X (by done)) ?n1
 case step=>
  intro c hc
  refine⟨_,bg.cell (by done) (by fail),by k_extra"u",?_⟩
  with_reducible
   refine Ev.conv (fT.ev (bI (need:=false) (l:=List.range 6) (g:=λ(i:Nat)=> .int ((0:Int)+(i:Int))) (by with_unfolding_all exact⟨rfl,by done,by done⟩) (λx env=>by fail) (λi=>jg (dB.getD i default)) (λi=>dg cs c (dB.getD i default)==0) ?it (by decide) ?st2)) (hk c)
  case it=>exact aX.cL (n:=6) (by intros) (by intros) (by decide) (by decide) (λenv=>by fail)
  case st2=>
   intro i hi
   have Tq:=Hu.mp hi
   have e0:((0:Int)+(i:Int))=(i:Int):=by lia
   refine⟨_,bg.local (by done),by k_extra"u",?_,λ_=> ?_⟩
   ·with_reducible
     refine Tr.cmp (Ev.item (n:=i) (Ev.l (xs:=(cu cs c).map .int) ?_) ?_ e0 (tq cs c Tq) (by lia) (λ_ _=>by fail)) Ev.int aj.DM Th.bool (by decide+kernel)
    all_goals with_reducible intros
   ·with_reducible
     refine Ev.item (n:=i) (Ev.l (xs:=d9.map fG) ?_) ?_ e0 (tO Tq).1 (by lia) (λ_ _=>by fail)
    all_goals with_reducible intros
 case n1=>
  intro s1 X1 B1
  with_reducible have h9:=next _ (X1.to (by k_extra"rs")) B1
  conv at h9 in aK _=>whnf
  with_reducible exact h9
 all_goals with_reducible intros
noncomputable def vU (cs:List Int) (i:Nat):Bool:= !((List.range i).map (bb cs)).contains (bb cs i)
noncomputable def a5 (cs:List Int):List (List (Nat×Nat)):=((List.range 8).filter (vU cs)).map (bb cs)
theorem m6 (cs:List Int):0 < (a5 cs).length:=by
 exact List.length_pos_of_mem (He.mpr ⟨0,HG.mpr ⟨by decide,rfl⟩,rfl⟩)
theorem jt (cs:List Int):(a5 cs).length<=8:=by
 unfold a5
 rw [Hd]
 exact Hg (Ic _ _) (JI I5)
theorem t5 (cs:List Int):∀m∈a5 cs,∀e∈m,e∈kJ:=λm hm=>by
 refine ae (He.mp hm) λc _ G'=> ?_;subst G'
 exact fZ cs c
noncomputable def gG (cs:List Int):Nat:=(((cs.getD 2 0).fdiv 128).fmod ((a5 cs).length:Int)).toNat
theorem AG (cs:List Int):((cs.getD 2 0).fdiv 128).fmod ((a5 cs).length:Int)=(gG cs:Int):=by
 have h:=m6 cs
 have:=HZ ((cs.getD 2 0).fdiv 128) (b:=((a5 cs).length:Int)) (by omega)
 unfold gG
 omega
noncomputable abbrev Fw (cs:List Int) (S:LS):List (Str×PV):=("alike",rt cs)::DF cs S
noncomputable abbrev E9 (cs:List Int) (S:LS):List (Str×PV):=("turn",.int (gG cs))::("flats",.lst ((a5 cs).map bU))::Fw cs S
theorem Et (L:Lx C f3){cs:List Int}(hc:cs.length=6){S:LS}(rm:ak A (k+1))(X:St C W SL [] (aC (Fw cs S)) env s)(B:Bs C Wt (λ_=>true) t [] env s)
 (next:∀J,St C W SL [] (aC (E9 cs S)) env J->Bs C Wt (λ_=>true) t [] env J->wpAny C.M A (execs (aK 29) env) Q E J):
 wpAny C.M A (execs (aK 27) env) Q E s:=by
 have L':=L.L
 have RX:=jt cs
 have TR:=m6 cs
 have QF:PV.lst (((List.range 8).filter (vU cs)).map λi=>bU (bb cs i))= .lst ((a5 cs).map bU):=by
  unfold a5
  simp only [Hq]
  rfl
 conv in aK _=>whnf
 with_reducible
  refine fT.assign (p:= .lst ((a5 cs).map bU)) (QF▸bI (need:=false) (l:=List.range 8) (g:=λ(i:Nat)=> .int ((0:Int)+(i:Int))) (by with_unfolding_all exact⟨rfl,by done,by done⟩) (λx env=>by fail) (λi=>bU (bb cs i)) (vU cs) ?it (by decide) ?step) X B rm (bg.local (by done)) (tH X (by done) (by done) (by fail) (by done)) ?n1
 case it=>exact aX.cL (n:=8) (by intros) (by intros) (by decide) (by decide) (λenv=>by fail)
 case step=>
  intro i hi
  have UR:=Hu.mp hi
  have e0:((0:Int)+(i:Int))=(i:Int):=by lia
  have ga:((List.range 8).map λc=>bU (bb cs c))[i]? =some (bU (bb cs i)):=by simp only [List.getElem?_map,List.getElem?_range UR];rfl
  have NN:fb none (some ((0:Int)+(i:Int))) ((List.range 8).map λc=>bU (bb cs c))=((List.range i).map (bb cs)).map bU:=by
   rw [e0,jk,<-Jz,List.take_range,I0 (by lia),Hq]
   rfl
  refine⟨_,bg.local (by done),by k_extra"u",?_,λ_=> ?_⟩
  ·with_reducible
    refine Tr.cmp (Ev.item (n:=i) (Ev.l (xs:=(List.range 8).map λc=>bU (bb cs c)) ?_) ?_ e0 ga (by lia) (λ_ _=>by fail)) (Ev.conv (Ev.conv (Ev.eB (i:=none) (j:=some ((0:Int)+(i:Int))) (l:=none) (Ev.l (xs:=(List.range 8).map λc=>bU (bb cs c)) ?_) eh.kc (eh.some ?_) eh.kc (by decide) (Ho rfl) (λ_ _=>⟨_,by fail⟩) (λ_ _=>by fail)) (Hx PV.lst (dI _ _ _))) (Hx PV.lst NN)) (aj.xF (fZ cs i) ?pr) Th.bool (by decide+kernel)
   case pr=>
    intro l hl
    refine ae (He.mp hl) λc _ G'=> ?_;subst G'
    exact fZ cs c
   all_goals with_reducible intros
  ·with_reducible
    refine Ev.item (n:=i) (Ev.l (xs:=(List.range 8).map λc=>bU (bb cs c)) ?_) ?_ e0 ga (by lia) (λ_ _=>by fail)
   all_goals with_reducible intros
 case n1=>
  intro s1 X1 B1
  with_reducible
   refine az (p:= .int (gG cs)) (X1.to (l:=("flats",.lst ((a5 cs).map bU))::Fw cs S) (by k_extra"rs")) B1 rm (Ev.conv (Ev.bin (Ev.bin (Ev.item (n:=2) (Ev.l (xs:=cs.map .int) ?_) Ev.int (by fail) (int_at (by lia)) (by decide) (λ_ _=>by fail)) Ev.int (aj.floordiv (by decide) (Hy (by decide)))) (Ev.a6 ?_ (ab.cons ?_ ab.nil) (cC.Ay (xs:=(a5 cs).map bU) (by rw [Hd];omega))) (aj.mod (by rw [Hd];omega))) (by simp only [(by rw [Hd]:((((a5 cs).map bU).length:Nat):Int)=((a5 cs).length:Int)),(AG cs)])) (by done) (by fail) ?n2
  case n2=>
   intro s2 X3 B2
   with_reducible have h9:=next _ (X3.to (by k_extra"rs")) B2
   conv at h9 in aK _=>whnf
   with_reducible exact h9
  all_goals with_reducible intros
noncomputable def dT (l:List Str) (h:Str->Int):List (Str×Int):=l.map λo=>(o,h o)
theorem iN {l:List Str}(h:Str->Int){o:Str}(ho:o∈l):(dR (dT l h)).lookup o=some (.int (h o)):=by
 rw [qk]
 unfold dT
 induction l with
 |nil=>exact nomatch ho
 |cons a l ih=>
  simp only [Hm,Hl]
  by_cases q:o=a
  ·rw [q];simp
  ·refine(HC q)▸?_
   exact ih ((Hf.mp ho).resolve_left q)
theorem nu (l:List Str)(h:Str->Int)(hn:l.Nodup):l.foldl (λes o=>putD es o (.int (h o))) []=dR (dT l h):=by
 rw [qB (f:=λo=>o) (g:=λo=>PV.int (h o)) (by simpa using hn)]
 unfold dT dR
 simp only [Hq]
 rfl
theorem qS (l:List Str)(h:Str->Int):(dT l h).length=l.length:=Hd _
noncomputable def h0 (o:Str):Int:=if(o=="abcd")=true then 1 else 0
noncomputable def dm (cs:List Int) (fl:List (Nat×Nat)) (j:Nat):Bool:=fl.all λe=>(bb cs (2 ^ j)).contains e
noncomputable def aJ (cs:List Int) (fl:List (Nat×Nat)):Int:=(((List.range 3).filter (dm cs fl)).map (wJ cs)).sum
noncomputable def eC (S:LS) (v:Int) (h:Str->Int) (g:Str):Int:=((b6 S g).es.map λe=>e.2.getD 2 0*h e.1).sum - v*h g
noncomputable def cM (cs:List Int):List (List (Nat×Nat)):=(a5 cs).drop (gG cs) ++ (a5 cs).take (gG cs)
noncomputable def cX (cs:List Int) (S:LS) (m:Nat):Str->Int:=((cM cs).take m).foldl (λh fl=>eC S (aJ cs fl) h) h0
theorem pn (fl:List (Nat×Nat))(a:List (Nat×Nat)):((fl.filter λe=> !a.contains e).map jg).isEmpty=fl.all λe=>a.contains e:=by
 induction fl with
 |nil=>rfl
 |cons e l ih=>
  simp only [List.all_cons,IF]
  by_cases q:a.contains e=true
  ·rw [q]
   exact ih
  ·simp only [Bool.not_eq_true] at q
   rw [q]
   rfl
theorem EI (L:Lx C f3){cs:List Int}{S:LS}(K:di cs S)(hn:S.line.Nodup)(rm:ak A (k+1))(X:St C W SL [] (aC (E9 cs S)) env s)(B:Bs C Wt (λ_=>true) t [] env s)
 (next:∀J,St C W SL [] (aC (("share",.au (dR (dT S.line h0)))::E9 cs S)) env J->Bs C Wt (λ_=>true) t [] env J->wpAny C.M A (execs (aK 30) env) Q E J):
 wpAny C.M A (execs (aK 29) env) Q E s:=by
 have L':=L.L
 have LK:sizeLine=16777216:=rfl
 have NC:S.line.length<=sizeLine:=by have:=K.len;lia
 conv in aK _=>whnf
 with_reducible
  refine a9 (p:= .au (dR (dT S.line h0))) X B rm (Ev.conv (DC.ev (sD (need:=false) (l:=S.line) (g:=PV.str) (by with_unfolding_all exact⟨rfl,by done,by done⟩) (λx env=>by fail) (λo=>o) (λo=> .int (h0 o)) (aX.lst ?_ (by rw [Hd];exact NC)) NC ?step)) (Hx PV.au (nu S.line h0 hn))) (by done) (by fail) (j5 X (by done)) ?n1
 case step=>
  intro o ho
  refine⟨_,bg.local (by done),by k_extra"u",?_,?_⟩
  ·with_reducible intros
  ·with_reducible
    refine Ev.mh ?_ (ab.cons (Ev.cmp ?_ ?_ aj.F1 (by decide+kernel)) ab.nil) cC.EK
   all_goals with_reducible intros
 case n1=>
  intro s1 X1 B1
  with_reducible have h9:=next _ (X1.to (by k_extra"rs")) B1
  conv at h9 in aK _=>whnf
  with_reducible exact h9
 all_goals with_reducible intros
noncomputable abbrev rL (n:Nat):List Stmt:=List.drop n (cG (ay tb 18) 30)
noncomputable abbrev wX (cs:List Int) (S:LS) (h:Str->Int):List (Str×PV):=("share",.au (dR (dT S.line h)))::E9 cs S
theorem y8 (L:Lx C f3){cs:List Int}{S:LS}{h:Str->Int}{fl:List (Nat×Nat)}(hf:∀e∈fl,e∈kJ)(hz:fl.length<=100)(rm:ak A (k+1))(X:St C W SL own (aC (("flat",bU fl)::wX cs S h)) env s)(B:Bs C Wt (λ_=>true) t own env s)
 (next:∀J,St C W SL own (aC (("value",.int (aJ cs fl))::("flat",bU fl)::wX cs S h)) env J->Bs C Wt (λ_=>true) t own env J->wpAny C.M A (execs (rL 1) env) Q E J):
 wpAny C.M A (execs (rL 0) env) Q E s:=by
 have L':=L.L
 have LK:sizeLine=16777216:=rfl
 have N7:((List.range 3).filter (dm cs fl)).map (λj=>PV.int (wJ cs j))=(((List.range 3).filter (dm cs fl)).map (wJ cs)).map .int:=by rw [Hq];rfl
 have SA:(((List.range 3).filter (dm cs fl)).map λj=>PV.int (wJ cs j)).length<=sizeLine:=by
  rw [Hd]
  exact Hg (Ic _ _) (Ho rfl)
 conv in rL _=>whnf
 with_reducible
  refine a9 (p:= .int (aJ cs fl)) X B rm (Ev.a6 ?_ (ab.cons (fT.ev (bI (need:=false) (l:=List.range 3) (g:=λ(i:Nat)=> .int ((0:Int)+(i:Int))) (by with_unfolding_all exact⟨rfl,by done,by done⟩) (λx env=>by fail) (λj=>PV.int (wJ cs j)) (dm cs fl) ?it (by decide) ?step)) ab.nil) (cC.sum (ns:=((List.range 3).filter (dm cs fl)).map (wJ cs)) (yN.lst SA) N7)) (by done) (by fail) (by fail) ?n1
 case it=>exact aX.cL (n:=3) (by intros) (by intros) (by decide) (by decide) (λenv=>by fail)
 case step=>
  intro j hj
  have Ot:=Hu.mp hj
  obtain⟨p2,Q5⟩:=(by decide:∀j,j < 3->(2:Int) ^ j=((2 ^ j:Nat):Int)/\2 ^ j < 8) j Ot
  have ga:((List.range 8).map λc=>bU (bb cs c))[2 ^ j]? =some (bU (bb cs (2 ^ j))):=by simp only [List.getElem?_map,List.getElem?_range Q5];rfl
  refine⟨_,bg.cell (by done) (by fail),by k_extra"u",?_,λ_=> ?_⟩
  ·have LP:((fl.filter λe=> !(bb cs (2 ^ j)).contains e).map jg).isEmpty=dm cs fl j:=pn _ _
   refine LP▸?_
   with_reducible
    refine Tr.cmp (fT.ev (bI (need:=false) (l:=fl) (g:=jg) (by with_unfolding_all exact⟨rfl,by done,by done⟩) (λx env=>by fail) jg (λe=> !(bb cs (2 ^ j)).contains e) (aX.lst ?_ (by rw [Hd];omega)) (by omega) ?st2)) (Ev.list ab.nil (by decide)) ((aj.Gj (qZ λe he=>hf e (HG.mp he).1) iu).conv (Hx PV.bool AR)) Th.bool (by decide+kernel)
   case st2=>
    intro e he
    refine⟨_,bg.local (by done),by k_extra"u",?_,λ_=> ?_⟩
    ·with_reducible
      refine Tr.cmp ?_ (Ev.item (n:=2 ^ j) (Ev.l (xs:=(List.range 8).map λc=>bU (bb cs c)) ?_) (Ev.bin (by intros) (by intros) (aj.pow (by simp) (by lia) (by decide))) (by rw [(by simp:((0:Int)+(j:Int)).toNat=j)];exact p2) ga (by lia) (λ_ _=>by fail)) (aj.za (hf e he) (fZ cs _)) Th.bool (by decide+kernel)
     all_goals with_reducible intros
    ·with_reducible intros
   all_goals with_reducible intros
  ·with_reducible
    refine Ev.item (n:=j) (Ev.l (xs:=(aV cs).map .int) ?_) ?_ (by lia) (j7 cs Ot) (by lia) (λ_ _=>by fail)
   all_goals with_reducible intros
 case n1=>
  intro s1 X1 B1
  with_reducible have h9:=next _ (X1.to (by k_extra"rs")) B1
  conv at h9 in rL _=>whnf
  with_reducible exact h9
 all_goals with_reducible intros
theorem tG (p:Nat->Bool)(w:Nat->Int):(((List.range 3).filter p).map w).sum=(if p 0 then w 0 else 0)+(if p 1 then w 1 else 0)+(if p 2 then w 2 else 0):=by
 have:List.range 3=[0,1,2]:=rfl
 refine this▸?_
 cases h0:p 0 <;> cases h1:p 1 <;> cases h2:p 2 <;> simp [IF,h0,h1,h2] <;> lia
theorem rE (cs:List Int)(fl:List (Nat×Nat)):Builtin.Int.intBits (aJ cs fl)<=64:=j0 (by
 unfold aJ
 rw [tG]
 exact pf (fX (fX (qF (kr cs (by decide))) (qF (kr cs (by decide)))) (qF (kr cs (by decide)))) rfl)
theorem yU (L:Lx C f3){cs:List Int}{S:LS}(K:di cs S)(hn:S.line.Nodup)(Mc:∀g∈S.line,∀e∈(b6 S g).es,e.1∈S.line){h:Str->Int}{fl:List (Nat×Nat)}(rm:ak A (k+1))(X:St C W SL own (aC (("value",.int (aJ cs fl))::("flat",bU fl)::wX cs S h)) env s)(B:Bs C Wt (λ_=>true) t own env s)
 (next:∀J,St C W SL own (aC (wX cs S (eC S (aJ cs fl) h))) env J->Bs C Wt (λ_=>true) t own env J->wpAny C.M A (execs [] env) Q E J):
 wpAny C.M A (execs (rL 1) env) Q E s:=by
 have L':=L.L
 have LK:sizeLine=16777216:=rfl
 have NC:S.line.length<=sizeLine:=by have:=K.len;lia
 have RF:=Hx PV.au (nu S.line (eC S (aJ cs fl) h) hn)
 have vb:=rE cs fl
 have Mq:∀g,eC S (aJ cs fl) h g=((b6 S g).es.map λe=>e.2.getD 2 0*h e.1).sum - aJ cs fl*h g:=λg=>rfl
 generalize eC S (aJ cs fl) h=h' at RF Mq next
 generalize aJ cs fl=v at X vb Mq
 have Pg:∀g,(b6 S g).es.map (λe=>PV.int (e.2.getD 2 0*h e.1))=((b6 S g).es.map λe=>e.2.getD 2 0*h e.1).map .int:=λg=>by simp only [Hq];rfl
 conv in rL _=>whnf
 with_reducible
  refine a9 (p:= .au (dR (dT S.line h'))) X B rm (Ev.conv (DC.ev (sD (need:=false) (l:=S.line) (g:=PV.str) (by with_unfolding_all exact⟨rfl,by done,by done⟩) (λx env=>by fail) (λo=>o) (λo=> .int (h' o)) (aX.lst ?_ (by rw [Hd];exact NC)) NC ?step)) RF) (by done) (by fail) (j5 X (by done)) ?n1
 case step=>
  intro g hg
  refine l0 (K.w6 hg) λ_ hb RQ Oz=> ?_
  have Rd:(b6 S g).es.length<=sizeLine:=by omega
  refine⟨_,bg.local (by done),by k_extra"u",?_,?_⟩
  ·with_reducible intros
  ·rw [(Mq g)]
   with_reducible
    refine Ev.bin (Ev.a6 ?_ (ab.cons (fT.ev (c4 (need:=true) (l:=(b6 S g).es) (g:=FP) (by with_unfolding_all exact⟨rfl,by done,by done⟩) (λx env=>by fail) (λe=>PV.int (e.2.getD 2 0*h e.1)) (si _▸aX.items (Ev.b9 (n:=4) (Ev.t (xs:=oH (b6 S g)) (Ev.bh (x:=g) (es:=cB aO.pv S.book) (Ev.d ?_) ?_ hb (λ_ _=>by fail))) Ev.int (by fail) rfl (by decide) (λ_ _=>by fail)) (by rw [Hd];omega) (λ_=>by fail) (by fail)) Rd ?st2 (λ_=>by fail))) ab.nil) (cC.sum (ns:=(b6 S g).es.map λe=>e.2.getD 2 0*h e.1) (yN.lst (by rw [Hd];omega)) (Pg g))) (Ev.bin ?_ (Ev.bh (x:=g) (es:=dR (dT S.line h)) (Ev.d ?_) ?_ (iN h hg) (λ_ _=>by fail)) (aj.mul (.of_left vb))) aj.sub
   case st2=>
    intro e he
    have Q8:=Oz e he
    refine⟨_,bg.tuple (bD.cons (bg.local (by done)) (bD.cons (bg.local (by done)) bD.nil (λenv=>by fail)) (λenv=>by fail)) (λenv=>by with_unfolding_all exact⟨rfl,rfl⟩),by k_extra"u",?_⟩
    with_reducible
     refine Ev.bin (Ev.b9 (n:=2) (Ev.t (xs:=e.2.map .int) ?_) Ev.int (by fail) (oT Q8 (i:=2) (by decide)) (by decide) (λ_ _=>by fail)) (Ev.bh (x:=e.1) (es:=dR (dT S.line h)) (Ev.d ?_) ?_ (iN h (Mc g hg e he)) (λ_ _=>by fail)) (aj.mul (.of_left (j0 (K.small _ (aG (K.w6 hg).1) e he))))
    all_goals with_reducible intros
   all_goals with_reducible intros
 case n1=>
  intro s1 X1 B1
  exact next _ (X1.to (by k_extra"rs")) B1
 all_goals with_reducible intros
theorem qo (cs:List Int):(cM cs).length<=8:=by
 unfold cM
 rw [HF,Nat.add_comm,<-HF,II]
 exact jt cs
theorem qb {cs:List Int}{m:List (Nat×Nat)}:m∈cM cs↔m∈a5 cs:=by
 unfold cM
 rw [HA,or_comm,<-HA,II]
theorem vj (cs:List Int)(c:Nat):(bb cs c).length<=6:=by
 unfold bb
 rw [Hd]
 exact Hg (Ic _ _) (JI I5)
theorem DW (L:Lx C f3){cs:List Int}{S:LS}(K:di cs S)(hn:S.line.Nodup)(Mc:∀g∈S.line,∀e∈(b6 S g).es,e.1∈S.line)(rm:ak A (k+1))(X:St C W SL [] (aC (wX cs S h0)) env s)(B:Bs C Wt (λ_=>true) t [] env s)
 (next:∀J,St C W SL [] (aC (wX cs S (cX cs S 8))) env J->Bs C Wt (λ_=>true) t [] env J->wpAny C.M A (execs (aK 31) env) Q E J):
 wpAny C.M A (execs (aK 30) env) Q E s:=by
 have LK:sizeLine=16777216:=rfl
 have Sz:cX cs S 0=h0:=rfl
 have QX:=qo cs
 have Rm:((cM cs).map bU).length<=sizeLine:=by rw [Hd];lia
 have RX:((a5 cs).map bU).length<=sizeLine:=by rw [Hd];have:=jt cs;lia
 have hr:PV.lst (((a5 cs).drop (gG cs)).map bU ++ ((a5 cs).take (gG cs)).map bU)= .lst ((cM cs).map bU):=by
  unfold cM
  rw [Hr]
 have RU:(((a5 cs).drop (gG cs)).map bU).length+(((a5 cs).take (gG cs)).map bU).length<=sizeLine:=by
  have:=jt cs
  simp only [Hd,Jb,H8]
  grind -splitIndPred
 have OS:cX cs S ((cM cs).map bU).length=cX cs S 8:=by
  unfold cX
  simp only [Hd,Il,HQ QX]
 conv in aK _=>whnf
 with_reducible
  refine a7 (need:=false) (k:=k+1) (ps:=(cM cs).map bU) X B rm (aX.lst (Ev.conv (Ev.bin (Ev.conv (Ev.conv (Ev.eB (i:=some (gG cs:Int)) (j:=none) (l:=none) (Ev.l (xs:=(a5 cs).map bU) ?_) (eh.some ?_) eh.kc eh.kc (by simp) RX (λ_ _=>⟨_,by fail⟩) (λ_ _=>by fail)) (Hx PV.lst (dI _ _ _))) (Hx PV.lst (by simp only [ip,KN]))) (Ev.conv (Ev.conv (Ev.eB (i:=none) (j:=some (gG cs:Int)) (l:=none) (Ev.l (xs:=(a5 cs).map bU) ?_) eh.kc (eh.some ?_) eh.kc (by simp) RX (λ_ _=>⟨_,by fail⟩) (λ_ _=>by fail)) (Hx PV.lst (dI _ _ _))) (Hx PV.lst (by simp only [jk,Jz]))) (aj.u6 RU)) hr) Rm) (λ_=>[]) (λi=>aC (wX cs S (cX cs S i))) (λi=>upd (aC (wX cs S (cX cs S i))) "flat" (bU ((cM cs).getD i default))) (by fail) (rfl) (λ_=>by fail) (λ_=>False) ?LH ?turn (λ_ _ _ h=>h.elim) ?done (λx=>by fail)
 case LH=>
  intro m p hp
  refine ae (cY hp) λe he G'=> ?_;subst G'
  rw [List.getD_eq_getElem?_getD,he]
  exact bg.cell (by done) rfl
 case turn=>
  intro I ob m p t' LY s1 hI hp X1 B1
  refine ae (cY hp) λfl Nn G'=> ?_;subst G'
  rw [List.getD_eq_getElem?_getD,Nn] at X1
  have QF:=qb.mp (List.mem_of_getElem? Nn)
  have Pj:fl.length<=100:=by
   refine ae (He.mp QF) λc _ G'=> ?_;subst G'
   exact Hg (vj cs c) (by decide)
  have LJ:cX cs S (m+1)=eC S (aJ cs fl) (cX cs S m):=eS _ _ Nn
  generalize cX cs S (m+1)=h' at LJ ⊢
  generalize cX cs S m=h at LJ X1
  subst LJ
  have fin:=y8 (k:=k) (Q:=λf H'=>match f with
   | .next | .cont=>St C (I::W) SL ((I,.obj ob)::[]) (aC (wX cs S (eC S (aJ cs fl) h))) env H'/\Bs C LY (λ_=>true) t' ((I,.obj ob)::[]) env H'
   | .brk=>False
   | .ret v=>∃p own' J',False/\Rr C (I::W) H'.heap v p/\St C (I::W) SL own' J' env H'/\Bs C LY (λ_=>true) t' own' env H') (E:=λ_ _=>False) L (t5 cs fl QF) Pj rm (X1.to (by k_extra"rs")) B1 λs2 X3 B2=>
   yU L (k:=k) K hn Mc rm X3 B2 λs5 X6 B5=>Hk ⟨X6,B5⟩
  conv at fin in rL _=>whnf
  with_reducible refine Hb fin ?_ λ_ _ h=>h
  intro f H' h
  cases f <;> with_reducible exact h
 case done=>
  intro s1 X1 B1
  rw [OS] at X1
  with_reducible have h9:=next _ X1 B1
  conv at h9 in aK _=>whnf
  with_reducible exact h9
 all_goals with_reducible intros
theorem EY (L:Lx C f3){cs:List Int}{S:LS}(K:di cs S){h:Str->Int}(hz:∀o∈S.line,h o=0)(rm:ak A (k+1))(X:St C W SL [] (aC (wX cs S h)) env s)(B:Bs C Wt (λ_=>true) t [] env s)
 (fin:∀v J,St C W SL [] (aC (wX cs S h)) env J->Bs C Wt (λ_=>true) t [] env J->Rr C W J.heap v (.bool true)->Q (.ret v) J):
 wpAny C.M A (execs (aK 31) env) Q E s:=by
 have LK:sizeLine=16777216:=rfl
 have VK:(dR (dT S.line h)).map (·.2)=S.line.map λo=> .int (h o):=by
  unfold dT dR
  rw [Hq,Hq]
  rfl
 have Nn:PV.lst ((S.line.filter λg=>(h g !=0)).map λo=> .int (h o))= .lst []:=by
  have:S.line.filter (λg=>(h g !=0))=[]:=Jh.mpr λg hg=>by rw [hz g hg];simp
  rw [this]
  rfl
 conv in aK _=>whnf
 with_reducible
  refine cw X B rm (p:= .bool true) (Ev.cmp (Ev.conv (fT.ev (bI (need:=false) (l:=S.line) (g:=λo=> .int (h o)) (by with_unfolding_all exact⟨rfl,by done,by done⟩) (λx env=>by fail) (λo=> .int (h o)) (λg=>(h g !=0)) (VK▸aX.values ?_ (by rw [Hd,qS];have:=K.len;lia) (λ_=>by fail) (by fail)) (by have:=K.len;lia) ?step)) Nn) (Ev.list ab.nil (by decide)) (aj.oD iu) (by decide+kernel)) ?fn
 case step=>
  intro o ho
  refine⟨_,bg.local (by done),by k_extra"u",?_,λ_=> ?_⟩
  ·with_reducible
    refine Tr.cmp ?_ Ev.int aj.A5 Th.bool (by decide+kernel)
   all_goals with_reducible intros
  ·with_reducible intros
 case fn=>exact λv s1 X1 B1 r=>fin v s1 X1 B1 r
 all_goals with_reducible intros
structure Facts (f3:Int->Option Str)(cs:List Int):Prop where
 hc:cs.length=6
 ty:qR f3 cs
 fr:∀j < 3,lj cs j (bM cs j 6)
 bk:di cs (cJ cs 24)
 nd:(cJ cs 24).line.Nodup
 cl:∀g∈(cJ cs 24).line,∀e∈(b6 (cJ cs 24) g).es,e.1∈(cJ cs 24).line
 g:∀e∈dj,g3 cs e=d6 (cD cs e)
 st:qU cs (cJ cs 24)
 sh:∀o∈(cJ cs 24).line,cX cs (cJ cs 24) 8 o=0
theorem uW (L:Lx C f3)(T:Tc C)(FS:Fu C)(FG:E8 C)(hT:n7 C){ns:List Int}(hn:ns.length<=63)(P:Facts f3 (cellsOf ns))(rm:ak A (k+6))
 (X:St C W SL [] (aC [("script",.lst (ns.map .int))]) env s)(B:Bs C Wt (λ_=>true) t [] env s)
 (fin:∀W v J,Inv C J->ah C Wt t J->Rr C W J.heap v (.bool true)->Q (.ret v) J):
 wpAny C.M A (execs (aK 0) env) Q E s:=by
 have MM:ak A (k+5+1):=rm
 have Q7:ak A (k+4+2):=rm
 with_reducible refine F0 L hn rm X B λW s X B=> ?_
 generalize cellsOf ns=cs at *
 with_reducible refine Fm L P.hc MM X B λW s X B=> ?_
 with_reducible refine FF L P.hc MM X B λW s X B=> ?_
 with_reducible refine FE L MM X B λa b W s My X B=> ?_
 with_reducible refine FH L P.ty My P.hc MM X B λs X B=> ?_
 obtain⟨W2,X2⟩:=wg My X
 have B2:=B.less (own':=[]) (by simp)
 clear X B
 with_reducible refine EA L MM X2 B2 λa s X B=> ?_
 with_reducible refine Ea L T Q7 X B λW a s X B=> ?_
 with_reducible refine Ez L P.fr Q7 X B λW s X B=> ?_
 with_reducible refine ET L MM X B λW bk st kn ln s Ap X B=> ?_
 with_reducible refine Es L FS FG P.hc Ap rm X B λW s X B=> ?_
 with_reducible refine EL L MM X B λs X B=> ?_
 have K:=P.bk
 have O':=P.nd
 have Mc:=P.cl
 have Ml:=P.st
 have Tv:=P.sh
 generalize cJ cs 24=S at *
 with_reducible refine EB L K MM X B λs X B=> ?_
 with_reducible refine DX L hT K P.g rm X B λs X B=> ?_
 with_reducible refine D6 L K Ml Q7 X B λs X B=> ?_
 with_reducible refine EV L MM X B λs X B=> ?_
 with_reducible refine Et L P.hc MM X B λs X B=> ?_
 with_reducible refine EI L K O' MM X B λs X B=> ?_
 with_reducible refine DW L K O' Mc MM X B λs X B=> ?_
 with_reducible exact EY L K Tv MM X B λv s X B r=>fin _ v s X.inv B.aA r
noncomputable def kN (p:List Nat) (x y:Nat):Bool:=decide (p.idxOf x < p.idxOf y)
theorem jr {p:List Nat}{x y:Nat}(h:kN p x y=true):kN p y x=false:=by
 unfold kN at *
 simp only [H5,IT] at *
 lia
theorem zN {p:List Nat}{x y:Nat}(hx:x∈p)(h:p.idxOf x=p.idxOf y):x=y:=by
 have h1:=Jr hx
 have h2:p.idxOf y < p.length:=by lia
 refine(JO h1)▸(JO h2)▸?_
 simp only [h]
theorem uC {p:List Nat}{x y:Nat}(hx:x∈p)(Lr:x≠y)(h:kN p x y=false):kN p y x=true:=by
 unfold kN at *
 simp only [H5,IT] at *
 have:p.idxOf x≠p.idxOf y:=λe=>Lr (zN hx e)
 lia
theorem jE {p:List Nat}(hn:p.Nodup):p.Pairwise λx y=>kN p x y=true:=by
 rw [IK]
 intro i j hi hj U3
 unfold kN
 simp only [List.Nodup.idxOf_getElem hn i hi,List.Nodup.idxOf_getElem hn j hj]
 exact HD U3
theorem xq {R:Nat->Nat->Bool}{q:List Nat}(hq:q.Pairwise λx y=>R x y=true)(ha:∀x y,R x y=true->R y x=false){x y:Nat}(hx:x∈q)(hy:y∈q)(Lr:x≠y):kN q x y=R x y:=by
 have key:∀x y,x∈q->y∈q->kN q x y=true->R x y=true:=by
  intro x y hx hy h
  have h1:=Jr hx
  have h2:=Jr hy
  have:=IK.mp hq (q.idxOf x) (q.idxOf y) h1 h2 (H9 h)
  rw [JO h1,JO h2] at this
  exact this
 cases hb:kN q x y with
 |true=>exact(key x y hx hy hb).symm
 |false=>exact(ha _ _ (key y x hy hx (uC hx Lr hb))).symm
theorem mX {q q':List Nat}(hp:q.Perm q')(hn:q.Nodup)(h:∀x∈q,∀y∈q,x≠y->kN q x y=kN q' x y):q=q':=by
 have h1:=jE hn
 have h2:q'.Pairwise λx y=>kN q x y=true:=by
  refine List.Pairwise.imp_of_mem (R:=λx y=>kN q' x y=true) ?_ (jE (hp.nodup_iff.mp hn))
  intro x y hx hy hb
  by_cases e:x=y
  ·subst e
   have:=jr hb
   replace this:=hb▸this;cases this
  ·rw [h x (hp.mem_iff.mpr hx) y (hp.mem_iff.mpr hy) e];exact hb
 exact List.Perm.eq_of_pairwise (λa b _ _ h1 h2=>by
  have:=jr h1
  replace this:=h2▸this;cases this) h1 h2 hp
theorem nz {lt:Nat->Nat->Bool}(T:qE lt)(right:Bool)(R:Nat->Nat->Prop)(Ll:∀x y,lt x y=true->R x y):
 ∀(q l:List Nat),jU lt l->l.Pairwise R->(∀y∈l,∀x∈q,(right=true->lt x y=false->R y x)/\(right=false->lt y x=false->R x y))->
  (q.Pairwise λy x=>(right=true->lt x y=false->R y x)/\(right=false->lt y x=false->R x y))->(q.foldl (λl x=>cO lt right l x) l).Pairwise R:=by
 intro q
 induction q with
 |nil=>intro l _ h _ _;exact h
 |cons x q ih=>
  intro l hs hl hd hq
  have hm:∀y,y∈cO lt right l x↔y=x\/y∈l:=λy=>by rw [(cT lt right l x).mem_iff,Hf]
  refine ih _ (lq T right x hs) ?_ ?_ (HR.mp hq).2
  ·have hp:=ei lt right l x
   have key:∀m (hm:m < l.length),fA lt right x l[m]=decide (bN lt right l x<=m):=λm hm=>cV (iC T hs) (List.getElem?_eq_getElem hm)
   unfold cO bC
   rw [Iv,HR]
   refine⟨IB (Jm _ _) hl,⟨λb hb=> ?_,IB (JV _ _) hl⟩,λa ha b hb=> ?_⟩
   ·obtain⟨i,hi,rfl⟩:=Ij.mp hb
    rw [I4]
    have hm:bN lt right l x+i < l.length:=by rw [Jb] at hi;omega
    have h1:=key _ hm
    rw [HD (HN _ _)] at h1
    unfold fA at h1
    cases right
    ·exact(hd _ (IG hm) x G9).2 rfl (by simpa using h1)
    ·exact Ll _ _ h1
   ·obtain⟨i,hi,rfl⟩:=Ij.mp ha
    rw [JX]
    have ND:i < bN lt right l x:=by rw [H8] at hi;lia
    have h1:=key i (by lia)
    rw [HJ (by omega)] at h1
    rcases Hf.mp hb with rfl |hb
    ·unfold fA at h1
     cases right
     ·have:lt l[i] b=true:=by simpa using h1
      exact Ll _ _ this
     ·exact(hd _ (IG (by lia)) b G9).1 rfl h1
    ·obtain⟨j,hj,rfl⟩:=Ij.mp hb
     rw [I4]
     exact IK.mp hl _ _ _ _ (by omega)
  ·intro y hy z hz
   rcases(hm y).mp hy with rfl |hy
   ·exact(HR.mp hq).1 z hz
   ·exact hd y hy z (Ha _ hz)
noncomputable def vC (lt:Nat->Nat->Bool) (b:Nat->Nat->Bool) (x y:Nat):Bool:=lt x y || (!lt y x && b x y)
theorem pF {lt b:Nat->Nat->Bool}(T:qE lt)(hb:∀x y,b x y=true->b y x=false):∀x y,vC lt b x y=true->vC lt b y x=false:=by
 intro x y h
 unfold vC at *
 cases h1:lt x y with
 |true=>
  refine(T.asym _ _ h1)▸?_;simp
 |false=>
  cases h2:lt y x with
  |true=>rw [h1,h2] at h;cases h
  |false=>
   rw [h1,h2] at h
   simp only [J2,Bool.not_false,Jy] at h ⊢
   exact hb _ _ h
theorem mI {lt:Nat->Nat->Bool}(T:qE lt){p:List Nat}(hn:p.Nodup):(p.foldl (λl x=>cO lt true l x) []).Pairwise λx y=>vC lt (kN p) x y=true:=by
 refine nz T true _ (λx y h=>by unfold vC;rw [h];rfl) p [] List.Pairwise.nil List.Pairwise.nil (λ_ h=>nomatch h) ?_
 refine(jE hn).imp λ{y x} h=>⟨λ_ h2=> ?_,(λh=>nomatch h)⟩
 unfold vC
 simp only [h2,h];simp
theorem vg {lt:Nat->Nat->Bool}(T:qE lt){p:List Nat}(hn:p.Nodup):(p.reverse.foldl (λl x=>cO lt false l x) []).Pairwise λx y=>vC lt (kN p) x y=true:=by
 refine nz T false _ (λx y h=>by unfold vC;rw [h];rfl) p.reverse [] List.Pairwise.nil List.Pairwise.nil (λ_ h=>nomatch h) ?_
 rw [List.pairwise_reverse]
 refine(jE hn).imp λ{y x} h=>⟨(λh=>nomatch h),λ_ h2=> ?_⟩
 unfold vC
 simp only [h2,h];simp
theorem rI (v:Nat->Int)(b:Bool){p:List Nat}(hn:p.Nodup):(qm v b p).Pairwise λx y=>vC (ltV v) (kN p) x y=true:=by
 unfold qm
 cases b
 ·exact vg (Dg v) hn
 ·exact mI (Dg v) hn
theorem ur (v:Nat->Int)(b:Bool){p:List Nat}(hn:p.Nodup){x y:Nat}(hx:x∈p)(hy:y∈p)(Lr:x≠y):kN (qm v b p) x y=vC (ltV v) (kN p) x y:=
 xq (rI v b hn) (pF (Dg v) λ_ _=>jr) ((eV v b p).mem_iff.mpr hx) ((eV v b p).mem_iff.mpr hy) Lr
noncomputable def sg (cs:List Int) (j:Nat):Int:=if 0 < cp cs j then 1 else -1
noncomputable def cR (cs:List Int) (j z:Nat):Int:=(aF cs z).getD j 0*sg cs j
theorem vY (cs:List Int)(j:Nat):cp cs j≠0:=by
 have h0:=HZ (((cs.getD 1 0).fdiv 64).fdiv (4 ^ j)) (b:=4) (by decide)
 have h1:=Ii (((cs.getD 1 0).fdiv 64).fdiv (4 ^ j)) (b:=4) (by decide)
 unfold cp
 generalize (((cs.getD 1 0).fdiv 64).fdiv (4 ^ j)).fmod 4=x at h0 h1
 have:x.toNat < 4:=by simp_all
 exact(by decide:∀n,n < 4->uD.getD n 0≠0) _ this
noncomputable def lL (c:Nat):List Nat:=(List.range 3).filter (x9 (c:Int))
theorem pg (cs:List Int)(c:Nat):cn cs (c:Int)=(lL c).map λj=>(j,cp cs j):=rfl
theorem o5:∀j,j < 3->lL (2 ^ j)=[j]:=by decide+kernel
theorem yk (cs:List Int)(c:Nat)(e:Nat×Nat):dg cs c e=0↔∀j∈lL c,(aF cs e.1).getD j 0=(aF cs e.2).getD j 0:=by
 delta dg cU
 simp only [pg,Lc,Hq]
 induction lL c with
 |nil=>simp
 |cons j l ih=>
  rw [IF,Jx]
  by_cases h:(aF cs e.1).getD j 0=(aF cs e.2).getD j 0
  ·have:((λLG:Nat×Int=>(aF cs e.1).getD LG.1 0 !=(aF cs e.2).getD LG.1 0)∘λj=>(j,cp cs j)) j=false:=by
    show ((aF cs e.1).getD j 0 !=(aF cs e.2).getD j 0)=false
    rw [h];simp
   rw [if_neg (by rw [this];decide),ih]
   exact⟨λh2=>⟨h,h2⟩,λh2=>h2.2⟩
  ·have:((λLG:Nat×Int=>(aF cs e.1).getD LG.1 0 !=(aF cs e.2).getD LG.1 0)∘λj=>(j,cp cs j)) j=true:=by
    exact Jg.mpr h
   rw [if_pos this]
   have hw:=vY cs j
   constructor
   ·intro h2
    exfalso
    rw [Hm,Ke,Function.comp] at h2
    split at h2 <;> simp_all
   ·intro h2
    exact absurd h2.1 h
theorem yQ (cs:List Int){j:Nat}(hj:j < 3)(e:Nat×Nat):dg cs (2 ^ j) e=if(aF cs e.1).getD j 0=(aF cs e.2).getD j 0 then 0 else if(aF cs e.2).getD j 0 < (aF cs e.1).getD j 0 then cp cs j else -cp cs j:=by
 delta dg cU
 simp only [pg,o5 j hj]
 by_cases h:(aF cs e.1).getD j 0=(aF cs e.2).getD j 0
 ·have h':((aF cs e.1).getD j 0 !=(aF cs e.2).getD j 0)=false:=by refine h▸?_;exact bne_self_eq_false _
  rw [if_pos h,Hm,Ib,IF,if_neg (by rw [h'];decide),List.filter_nil,Ib,List.headD_nil]
 ·have h':((aF cs e.1).getD j 0 !=(aF cs e.2).getD j 0)=true:=Jg.mpr h
  rw [if_neg h,Hm,Ib,IF,if_pos h',List.filter_nil,Hm,Ib,Ke]
theorem zu (cs:List Int){j:Nat}(hj:j < 3)(e:Nat×Nat):(dg cs (2 ^ j) e=0↔cR cs j e.1=cR cs j e.2)/\(dg cs (2 ^ j) e < 0↔cR cs j e.1 < cR cs j e.2):=by
 rw [yQ cs hj]
 delta cR sg
 have hw:=vY cs j
 generalize (aF cs e.2).getD j 0=b
 generalize cp cs j=w at hw
 by_cases h:0 < w
 ·rw [if_pos h]
  constructor <;> split <;> (try split) <;> omega
 ·rw [if_neg h]
  constructor <;> split <;> (try split) <;> lia
theorem vP (cs:List Int)(j a b:Nat):cR cs j a=cR cs j b↔(aF cs a).getD j 0=(aF cs b).getD j 0:=by
 delta cR sg
 split <;> simp
noncomputable def kg (κ:Nat->Int) (z:Nat):Nat:=(List.range 4).countP λo=>decide (κ o < κ z)
noncomputable def ltN (κ:Nat->Int) (a b:Nat):Int:=if κ a < κ b then 1 else 0
theorem vE {p:Prop} [Decidable p]:(((if p then 1 else 0):Nat):Int)=if p then 1 else 0:=by split <;> rfl
theorem xo (a b c d:Int):0+d+c+b+a=a+b+c+d:=by omega
theorem vK (κ:Nat->Int)(z:Nat):(kg κ z:Int)=ltN κ 0 z+ltN κ 1 z+ltN κ 2 z+ltN κ 3 z:=by
 show ((([0,1,2,3]:List Nat).countP λo=>decide (κ o < κ z):Nat):Int)=_
 simp only [IU,List.countP_nil,H5,Int.natCast_add,vE]
 exact xo _ _ _ _
theorem iA (cs:List Int){j:Nat}(hj:j < 3)(n:Nat)(hn:n < 6){z:Nat}(hz:z < 4):(bM cs j (n+1)).getD z 0=(bM cs j n).getD z 0+((if z=(dB.getD n default).2 then ltN (cR cs j) (dB.getD n default).1 (dB.getD n default).2 else 0)+(if z=(dB.getD n default).1 then ltN (cR cs j) (dB.getD n default).2 (dB.getD n default).1 else 0)):=by
 have hl:=pJ cs j n
 refine c5 (zu cs hj (dB.getD n default)) λp1 p2=> ?_
 have Lr:=(by decide:∀n,n < 6->(dB.getD n default).1≠(dB.getD n default).2/\(dB.getD n default).1 < 4/\(dB.getD n default).2 < 4) n hn
 show (if dg cs (2 ^ j) (dB.getD n default)=0 then bM cs j n else(bM cs j n).set (if dg cs (2 ^ j) (dB.getD n default) < 0 then(dB.getD n default).2 else(dB.getD n default).1) ((bM cs j n).getD (if dg cs (2 ^ j) (dB.getD n default) < 0 then(dB.getD n default).2 else(dB.getD n default).1) 0+1)).getD z 0=_
 generalize dB.getD n default=e at p1 p2 Lr
 generalize dg cs (2 ^ j) e=d at p1 p2
 generalize bM cs j n=F at hl
 have L6:∀y,y < 4->(F.set y (F.getD y 0+1)).getD z 0=F.getD z 0+if z=y then 1 else 0:=λy hy=>by
  simp only [List.getD_eq_getElem?_getD,List.getElem?_set]
  by_cases q:y=z
  ·rw [q]
   rw [if_pos rfl,if_pos (by simp_all),if_pos rfl];rfl
  ·rw [if_neg q,if_neg (HE q),Kh]
 unfold ltN
 by_cases h1:d=0
 ·rw [if_pos h1]
  have:=p1.mp h1
  refine(if_neg (show ¬cR cs j e.1 < cR cs j e.2 by simp_all))▸(if_neg (show ¬cR cs j e.2 < cR cs j e.1 by simp_all))▸?_
  simp
 ·rw [if_neg h1]
  have hk:¬cR cs j e.1=cR cs j e.2:=λq=>h1 (p1.mpr q)
  by_cases h2:d < 0
  ·rw [if_pos h2,L6 _ Lr.2.2,if_pos (p2.mp h2),if_neg (show ¬cR cs j e.2 < cR cs j e.1 by have:=p2.mp h2;omega)]
   simp
  ·have h3:¬cR cs j e.1 < cR cs j e.2:=λq=>h2 (p2.mpr q)
   rw [if_neg h2,L6 _ Lr.2.1,if_neg h3,if_pos (show cR cs j e.2 < cR cs j e.1 by omega)]
   simp
noncomputable def cP (L:Nat->Nat->Int) (z:Nat) (e:Nat×Nat):Int:=(if z=e.2 then L e.1 e.2 else 0)+(if z=e.1 then L e.2 e.1 else 0)
theorem Gx (L:Nat->Nat->Int)(hs:∀a,L a a=0):∀z,z < 4->0+cP L z (0,1)+cP L z (0,2)+cP L z (0,3)+cP L z (1,2)+cP L z (1,3)+cP L z (2,3)=L 0 z+L 1 z+L 2 z+L 3 z:=by
 intro z hz
 match z,hz with
 |0,_=>show 0+(0+L 1 0)+(0+L 2 0)+(0+L 3 0)+(0+0)+(0+0)+(0+0)=_;simp_all
 |1,_=>show 0+(L 0 1+0)+(0+0)+(0+0)+(0+L 2 1)+(0+L 3 1)+(0+0)=_;simp_all
 |2,_=>show 0+(0+0)+(L 0 2+0)+(0+0)+(L 1 2+0)+(0+0)+(0+L 3 2)=_;simp_all
 |3,_=>show 0+(0+0)+(0+0)+(L 0 3+0)+(0+0)+(L 1 3+0)+(L 2 3+0)=_;simp_all
theorem yY (cs:List Int)(j:Nat):∀z,z < 4->(bM cs j 0).getD z 0=0:=by
 show ∀z,z < 4->([0,0,0,0]:List Int).getD z 0=0
 decide
theorem oJ (cs:List Int){j:Nat}(hj:j < 3):∀z,z < 4->(bM cs j 6).getD z 0=(kg (cR cs j) z:Int):=by
 intro z hz
 simp only [iA cs hj 5 (by decide) hz,iA cs hj 4 (by decide) hz,iA cs hj 3 (by decide) hz,iA cs hj 2 (by decide) hz,iA cs hj 1 (by decide) hz,iA cs hj 0 (by decide) hz,vK,yY cs j z hz]
 exact Gx (ltN (cR cs j)) (λa=>if_neg (Int.lt_irrefl _)) z hz
theorem oG (κ:Nat->Int){a b:Nat}(ha:a < 4):kg κ a < kg κ b↔κ a < κ b:=by
 have mono:∀(l:List Nat) (a b:Nat),κ a<=κ b->l.countP (λo=>decide (κ o < κ a))<=l.countP (λo=>decide (κ o < κ b)):=λl a b h=>
  List.countP_mono_left λo _ h1=>by lia
 have strict:∀(l:List Nat) (a b:Nat),κ a < κ b->a∈l->l.countP (λo=>decide (κ o < κ a)) < l.countP (λo=>decide (κ o < κ b)):=by
  intro l a b h
  induction l with
  |nil=>intro h;exact nomatch h
  |cons x l ih=>
   intro hm
   simp only [IU,H5]
   have V1:=mono l a b (Int.le_of_lt h)
   rcases Hf.mp hm with rfl |hm
   ·rw [if_neg (Int.lt_irrefl _),if_pos h];exact I9 (by assumption)
   ·have:=ih hm
    by_cases q:κ x < κ a
    ·rw [if_pos q,if_pos (by lia)];simp_all
    ·rw [if_neg q];split <;> omega
 constructor
 ·intro h
  by_cases q:κ a < κ b
  ·exact q
  ·have:=mono (List.range 4) b a (by simp_all)
   unfold kg at h
   omega
 ·intro h
  exact strict _ _ _ h (Hu.mpr ha)
theorem wH (cs:List Int){j:Nat}(hj:j < 3){a b:Nat}(ha:a < 4)(hb:b < 4):ltV (zQ cs j) a b=ltV (cR cs j) a b:=by
 unfold ltV
 simp only [tM cs j ha,tM cs j hb,oJ cs hj a ha,oJ cs hj b hb]
 have:=oG (cR cs j) (b:=b) ha
 simp_all
theorem z9:∀{l:List Int},jU ltI l->∀x,bN ltI false l x=l.countP λp=>decide (p < x):=by
 intro l
 induction l with
 |nil=>intro _ x;rfl
 |cons p l ih=>
  intro h x
  obtain⟨h1,h2⟩:=HR.mp h
  unfold bN
  simp only [KS,IU]
  by_cases q:p < x
  ·have e1:fA ltI false x p=false:=by show (!ltI p x)=false;unfold ltI;rw [HD q];rfl
   rw [e1,cond_false,if_pos (HD q)]
   have:=ih h2 x
   unfold bN at this
   rw [this]
  ·have e1:fA ltI false x p=true:=by show (!ltI p x)=true;unfold ltI;rw [HJ q];rfl
   rw [e1,cond_true,if_neg (by simp [q])]
   have:l.countP (λp=>decide (p < x))=0:=List.countP_eq_zero.mpr λy hy=>by
    have:=h1 y hy
    unfold ltI at this
    simp only [IT,H5] at *
    omega
   lia
theorem y7:∀{l:List Int},jU ltI l->∀x,bN ltI true l x=l.countP λp=>decide (p<=x):=by
 intro l
 induction l with
 |nil=>intro _ x;rfl
 |cons p l ih=>
  intro h x
  obtain⟨h1,h2⟩:=HR.mp h
  unfold bN
  simp only [KS,IU]
  by_cases q:p<=x
  ·have e1:fA ltI true x p=false:=by exact HJ (by simp_all)
   rw [e1,cond_false,if_pos (HD q)]
   have:=ih h2 x
   unfold bN at this
   rw [this]
  ·have e1:fA ltI true x p=true:=by exact HD (by simp_all)
   rw [e1,cond_true,if_neg (by simp [q])]
   have:l.countP (λp=>decide (p<=x))=0:=List.countP_eq_zero.mpr λy hy=>by
    have:=h1 y hy
    unfold ltI at this
    simp only [IT,H5] at *
    omega
   lia
theorem q7 (F:List Int)(i:Nat):(bc F i).Perm ((List.range i).map λz=>F.getD z 0):=by
 induction i with
 |zero=>exact IJ _
 |succ i ih=>
  simp only [eI,IY,Hr]
  refine(cT ltI _ _ _).trans ?_
  exact(ih.cons _).trans (Jo (l₁:=[F.getD i 0]))
theorem ye (cs:List Int){j:Nat}(hj:j < 3):lj cs j (bM cs j 6):=by
 intro z hz
 have hp:=q7 (bM cs j 6) 4
 have hf:=oJ cs hj
 have lt:=λo ho=>oG (cR cs j) (a:=o) (b:=z) ho
 simp only [z9 (dk _ 4),y7 (dk _ 4),hp.countP_eq,List.countP_map]
 have e1:(List.range 4).countP ((λp=>decide (p < (bM cs j 6).getD z 0))∘λz=>(bM cs j 6).getD z 0)=kg (cR cs j) z:=by
  refine List.countP_congr λo ho=> ?_
  have ho:=Hu.mp ho
  show decide ((bM cs j 6).getD o 0 < (bM cs j 6).getD z 0)=true↔_
  simp only [hf o ho,hf z hz,H5,<-lt o ho]
  simp
 have e2:(List.range 4).countP ((λp=>decide (p<=(bM cs j 6).getD z 0))∘λz=>(bM cs j 6).getD z 0)=kg (cR cs j) z+DN cs j z:=by
  delta kg DN
  refine List.countP_eq_length_filter▸?_
  have:∀l:List Nat,(∀o∈l,o < 4)->l.countP ((λp=>decide (p<=(bM cs j 6).getD z 0))∘λz=>(bM cs j 6).getD z 0)=l.countP (λo=>decide (cR cs j o < cR cs j z))+l.countP (λo=>(aF cs o).getD j 0==(aF cs z).getD j 0):=by
   intro l
   induction l with
   |nil=>intro _;rfl
   |cons o l ih=>
    intro ho
    have h4:=ho o G9
    simp only [IU,ih λx hx=>ho x (Ha _ hx)]
    have a2:=(λo=>oG (cR cs j) (a:=z) (b:=o) hz) o
    have a4:((λp=>decide (p<=(bM cs j 6).getD z 0))∘λz=>(bM cs j 6).getD z 0) o=decide (cR cs j o<=cR cs j z):=by
     show decide ((bM cs j 6).getD o 0<=(bM cs j 6).getD z 0)=_
     rw [hf o h4,hf z hz,Js]
     grind -splitIndPred
    refine a4▸?_
    simp only [H5,Ip,<-(vP cs j o z)]
    by_cases q1:cR cs j o < cR cs j z
    ·lia
    ·by_cases q2:cR cs j o=cR cs j z
     ·rw [if_neg q1,if_pos (by simp_all),if_pos q2];omega
     ·rw [if_neg q1,if_neg (by lia),if_neg q2];simp
  exact this _ λo ho=>Hu.mp ho
 rw [e1,e2,hf z hz]
 exact⟨rfl,by simp⟩
noncomputable def φ1 (cs:List Int) (j:Nat) (x y:Nat) (b:Bool):Bool:=ltV (cR cs j) x y || (!ltV (cR cs j) y x && b)
noncomputable def φW (cs:List Int):List Nat->Nat->Nat->Bool->Bool
 |[],_,_,b=>b
 |j::w,x,y,b=>φ1 cs j x y (φW cs w x y b)
noncomputable def c8 (cs:List Int):List Nat->List Nat->List Nat
 |[],p=>p
 |j::w,p=>gI cs j (c8 cs w p)
theorem jM (cs:List Int):∀(w p:List Nat),(c8 cs w p).Perm p:=by
 intro w
 induction w with
 |nil=>intro p;exact IJ _
 |cons j w ih=>intro p;exact(eV _ _ _).trans (ih p)
theorem gO (cs:List Int)(w v p:List Nat):c8 cs (w ++ v) p=c8 cs w (c8 cs v p):=by
 induction w with
 |nil=>rfl
 |cons j w ih=>exact Hx (gI cs j) ih
def dN (p:List Nat):Prop:=p.Perm [0,1,2,3]
theorem dN.nd {p:List Nat}(h:dN p):p.Nodup:=h.nodup_iff.mpr (by decide)
theorem dN.DI {p:List Nat}(h:dN p){x:Nat}:x∈p↔x < 4:=by
 rw [h.mem_iff]
 simp only [Hf,HH,It]
 lia
theorem dN.run {p:List Nat}(h:dN p)(cs:List Int)(w:List Nat):dN (c8 cs w p):=(jM cs w p).trans h
theorem xD (cs:List Int){j:Nat}(hj:j < 3){p:List Nat}(hp:dN p){x y:Nat}(hx:x < 4)(hy:y < 4)(Lr:x≠y):kN (gI cs j p) x y=φ1 cs j x y (kN p x y):=by
 delta gI φ1
 rw [ur _ _ hp.nd (hp.DI.mpr hx) (hp.DI.mpr hy) Lr]
 unfold vC
 rw [wH cs hj hx hy,wH cs hj hy hx]
theorem oF (cs:List Int){p:List Nat}(hp:dN p){x y:Nat}(hx:x < 4)(hy:y < 4)(Lr:x≠y):∀w:List Nat,(∀j∈w,j < 3)->kN (c8 cs w p) x y=φW cs w x y (kN p x y):=by
 intro w
 induction w with
 |nil=>intro _;rfl
 |cons j w ih=>
  intro hw
  show kN (gI cs j (c8 cs w p)) x y=_
  simp only [xD cs (hw j G9) (hp.run cs w) hx hy Lr,ih λi hi=>hw i (Ha _ hi)]
  rfl
theorem run_eq (cs:List Int){p:List Nat}(hp:dN p){w v:List Nat}(hw:∀j∈w,j < 3)(hv:∀j∈v,j < 3)(h:∀x < 4,∀y < 4,x≠y->∀b,φW cs w x y b=φW cs v x y b):c8 cs w p=c8 cs v p:=by
 refine mX ((jM cs w p).trans (jM cs v p).symm) (hp.run cs w).nd λx hx y hy Lr=> ?_
 have hx:=(hp.run cs w).DI.mp hx
 have hy:=(hp.run cs w).DI.mp hy
 simp only [oF cs hp hx hy Lr w hw,oF cs hp hx hy Lr v hv,h x hx y hy Lr]
def jV (cs:List Int)(w:List Nat)(x y:Nat):Prop:=∀j∈w,cR cs j x=cR cs j y
theorem mZ {cs:List Int}{j x y:Nat}{b:Bool}(h:cR cs j x=cR cs j y):φ1 cs j x y b=b:=by
 delta φ1 ltV
 refine h▸?_;simp
theorem t6 {cs:List Int}{j x y:Nat}(h:cR cs j x≠cR cs j y)(b b':Bool):φ1 cs j x y b=φ1 cs j x y b':=by
 delta φ1 ltV
 by_cases q:cR cs j x < cR cs j y
 ·rw [HD q];rfl
 ·rw [HD (show cR cs j y < cR cs j x by lia)];rfl
theorem tX {cs:List Int}{x y:Nat}:∀{w:List Nat}(b b':Bool),¬jV cs w x y->φW cs w x y b=φW cs w x y b':=by
 intro w
 induction w with
 |nil=>intro b b' h;exact absurd (λ_ h=>nomatch h) h
 |cons j w ih=>
  intro b b' h
  by_cases q:cR cs j x=cR cs j y
  ·show φ1 cs j x y (φW cs w x y b)=φ1 cs j x y (φW cs w x y b')
   rw [ih b b' λh2=>h λi hi=> ?_]
   rcases Hf.mp hi with rfl |hi
   ·exact q
   ·exact h2 i hi
  ·exact t6 q _ _
theorem rH (cs:List Int)(w v:List Nat)(x y:Nat)(b:Bool):φW cs (w ++ v) x y b=φW cs w x y (φW cs v x y b):=by
 induction w with
 |nil=>rfl
 |cons j w ih=>exact Hx (φ1 cs j x y) ih
theorem qw (cs:List Int){p:List Nat}(hp:dN p){w:List Nat}{j:Nat}(hw:∀j∈w,j < 3)(hj:j < 3)(h:∀x < 4,∀y < 4,jV cs w x y->cR cs j x=cR cs j y):c8 cs (w ++ [j]) p=c8 cs w p:=by
 refine run_eq cs hp (λi hi=> ?_) hw λx hx y hy Lr b=> ?_
 ·rcases HA.mp hi with hi |hi
  ·exact hw i hi
  ·rw [Hi.mp hi];exact hj
 ·rw [rH]
  by_cases q:jV cs w x y
  ·show φW cs w x y (φ1 cs j x y b)=_
   rw [mZ (h x hx y hy q)]
  ·exact tX _ _ q
theorem ua (cs:List Int){p:List Nat}(hp:dN p){w:List Nat}{j:Nat}(hw:∀j∈w,j < 3)(hj:j∈w):c8 cs (w ++ [j]) p=c8 cs w p:=
 qw cs hp hw (hw j hj) λx _ y _ h=>h j hj
theorem yR (cs:List Int)(x y:Nat)(b:Bool):∀w:List Nat,φW cs w x y b=(gw (w.map λj=>cR cs j x) (w.map λj=>cR cs j y) || (!gw (w.map λj=>cR cs j y) (w.map λj=>cR cs j x) && b)):=by
 intro w
 induction w with
 |nil=>rfl
 |cons j w ih=>
  show φ1 cs j x y (φW cs w x y b)=_
  simp only [Hm,k7]
  by_cases q:cR cs j x=cR cs j y
  ·rw [mZ q,if_pos q,if_pos q.symm,ih]
  ·rw [if_neg q,if_neg (HE q)]
   unfold φ1 ltV
   by_cases q2:cR cs j x < cR cs j y
   ·rw [HD q2];rfl
   ·rw [HJ q2,HD (show cR cs j y < cR cs j x by lia)];rfl
theorem jo (cs:List Int){p:List Nat}(hp:dN p)(j:Nat)(w:List Nat):ax cs j (d6 (c8 cs w p))=d6 (c8 cs (j::w) p):=gU cs j (hp.run cs w).length_eq
theorem qc:("abcd":Str)=d6 [0,1,2,3]:=by decide+kernel
theorem iX:dN [0,1,2,3]:=IJ _
noncomputable abbrev w3 (e:Nat×Nat×Nat):List Nat:=[e.1,e.2.1,e.2.2]
theorem yi (cs:List Int)(e:Nat×Nat×Nat):g3 cs e=d6 (c8 cs (w3 e) [0,1,2,3]):=by
 unfold g3
 refine qc▸?_
 simp only [show ax cs e.2.2 (d6 [0,1,2,3])=_ from(jo cs iX e.2.2 []),(jo cs iX e.2.1 [e.2.2]),(jo cs iX e.1 [e.2.1,e.2.2])]
theorem uk (cs:List Int){e:Nat×Nat×Nat}(he:e∈dj):c8 cs (w3 e) [0,1,2,3]=cD cs e:=by
 have Ll:=lN e he
 have hw:∀j∈w3 e,j < 3:=by
  intro j hj
  simp only [Hf,HH,It] at hj
  lia
 have T:qE λi j=>gw (eF cs e i) (eF cs e j):=⟨λa b h=>Cs.asym _ _ h,λa b c h1 h2=>Cs.tr _ _ _ h1 h2⟩
 have hl:=mI T iX.nd
 simp only [<-(jS cs e).2] at hl
 have hp:=kz cs e
 refine mX ((iX.run cs _).trans hp.symm) (iX.run cs _).nd λx hx y hy Lr=> ?_
 simp only [xq hl (pF T λ_ _=>jr) (hp.mem_iff.mpr ((iX.run cs _).mem_iff.mp hx)) (hp.mem_iff.mpr ((iX.run cs _).mem_iff.mp hy)) Lr]
 simp only [oF cs iX ((iX.run cs _).DI.mp hx) ((iX.run cs _).DI.mp hy) Lr _ hw,yR]
 rfl
theorem xd (cs:List Int):∀e∈dj,g3 cs e=d6 (cD cs e):=λe he=>by simp only [yi,uk cs he]
theorem og {α:Type}{es:List (Str×α)}{x:Str}:(es.any λe=>decide (e.1=x))=true↔x∈es.map (·.1):=by
 rw [Ju,He]
 exact⟨λzz=>ae zz λe he h=>⟨e,he,H9 h⟩,λzz=>ae zz λe he h=>⟨e,he,HD h⟩⟩
theorem hV {α:Type}{es:List (Str×α)}{x:Str}{p:α}(h:x∉es.map (·.1)):bo es x p=es ++ [(x,p)]:=by
 unfold bo
 rw [if_neg λq=>h (og.mp q)]
theorem jL {α:Type}{es:List (Str×α)}{x:Str}{p:α}(h:x∈es.map (·.1)):(bo es x p).map (·.1)=es.map (·.1):=by
 unfold bo
 rw [if_pos (og.mpr h),Hq]
 refine HY λe _=> ?_
 simp only [Function.comp]
 split <;> rfl
theorem j3 {α:Type}:∀{l es:List (Str×α)},((es ++ l).map (·.1)).Nodup->l.foldl (λd e=>bo d e.1 e.2) es=es ++ l
 |[],es,_=>by simp
 |e::l,es,h=>by
  have h1:e.1∉es.map (·.1):=λq=>by
   rw [Hr,IP] at h
   exact h.2.2 _ q _ G9 rfl
  simp only [Ia,hV h1,j3 (l:=l) (es:=es ++ [(e.1,e.2)]) (by rw [Iq];exact h),Iq]
  rfl
theorem dE {α:Type}{es:List (Str×α)}(hn:(es.map (·.1)).Nodup){e:Str×α}(he:e∈es):es.lookup e.1=some e.2:=by
 induction es with
 |nil=>exact nomatch he
 |cons a es ih=>
  rw [Hm,Ht] at hn
  rw [Hl]
  rcases Hf.mp he with rfl |he
  ·simp
  ·have:e.1≠a.1:=λq=>hn.1 (q▸He.mpr ⟨e,he,rfl⟩)
   refine(HC this)▸?_
   exact ih hn.2 he
theorem iR {α:Type}{es:List (Str×α)}{x:Str}(h:x∈es.map (·.1)):∃p,es.lookup x=some p:=by
 cases q:es.lookup x with
 |some p=>exact⟨p,rfl⟩
 |none=>
  refine ae (He.mp h) λe he G'=> ?_;subst G'
  have:=Ih.mp q e he
  simp at this
theorem lx {α:Type}(f:Str->α->Int){x:Str}{p q:α}:∀{es:List (Str×α)},(es.map (·.1)).Nodup->es.lookup x=some q->((bo es x p).map λe=>f e.1 e.2).sum=(es.map λe=>f e.1 e.2).sum - f x q+f x p:=by
 intro es hn hl
 have hm:x∈es.map (·.1):=He.mpr ⟨_,aG hl,rfl⟩
 unfold bo
 rw [if_pos (og.mpr hm)]
 clear hm
 induction es with
 |nil=>cases hl
 |cons e es ih=>
  rw [Hm,Ht] at hn
  rw [Hl] at hl
  simp only [Hm,HW]
  by_cases h:e.1=x
  ·subst h
   simp only [Im,KW] at hl
   refine hl▸?_
   refine(if_pos rfl)▸?_
   have P6:∀l:List (Str×α),e.1∉l.map (·.1)->l.map (λe'=>if e'.1=e.1 then(e'.1,p) else e')=l:=by
    intro l
    induction l with
    |nil=>intro _;rfl
    |cons a l ih=>
     intro h
     rw [Hm,Hf,K4] at h
     rw [Hm,if_neg (HE h.1),ih h.2]
   rw [P6 es hn.1]
   show f e.1 p+_=_
   lia
  ·rw [HC (HE h)] at hl
   refine(if_neg h)▸(ih hn.2 hl)▸?_
   lia
noncomputable def i0 (i:Nat) (q:List Int):Int:=q.getD i 0
noncomputable def bf (i:Nat) (G:Str->Int) (es:List (Str×List Int)):Int:=(es.map λe=>i0 i e.2*G e.1).sum
theorem Cx {q r:List Int}(h:q.length=4)(h':r.length=4)(i:Nat):i0 i (List.zipWith (·+·) q r)=i0 i q+i0 i r:=by
 match q,h,r,h' with
 |[a,b,c,d],_,[a',b',c',d'],_=>
  match i with
  |0=>rfl
  |1=>rfl
  |2=>rfl
  |3=>rfl
  |i+4=>simp [i0]
structure gZ (t:aO):Prop where
 nd:(t.es.map (·.1)).Nodup
 four:∀q∈t.es,q.2.length=4
 a:t.a=bf 0 (λ_=>1) t.es
 b:t.b=bf 1 (λ_=>1) t.es
 c:t.c=bf 2 (λ_=>1) t.es
 d:t.d=bf 3 (λ_=>1) t.es
theorem v7 {es:List (Str×List Int)}(hn:(es.map (·.1)).Nodup)(o:Str)(q:List Int):c9 es [(o,q)]=kY es (o,q):=by
 unfold c9 hZ
 simp only [Ia,Li,j3 (es:=[]) hn,List.nil_append]
theorem w8 {es:List (Str×List Int)}(hn:(es.map (·.1)).Nodup)(h4:∀q∈es,q.2.length=4)(o:Str){q:List Int}(hq:q.length=4)(i:Nat)(G:Str->Int):bf i G (c9 es [(o,q)])=bf i G es+i0 i q*G o:=by
 rw [v7 hn]
 unfold kY bW
 cases hl:es.lookup o with
 |some r=>
  show bf i G (bo es o (List.zipWith (·+·) q r))=_
  unfold bf
  rw [lx (λo q=>i0 i q*G o) hn hl,Cx hq (h4 _ (aG hl)),Int.add_mul]
  dsimp only
  lia
 |none=>
  have hm:o∉es.map (·.1):=λhm=>by
   obtain⟨p,hp⟩:=iR hm
   replace hp:=hl▸hp;cases hp
  show bf i G (bo es o q)=_
  rw [hV hm]
  unfold bf
  simp only [Hr,JE]
  simp
theorem A3 {es:List (Str×List Int)}(hn:(es.map (·.1)).Nodup)(o:Str)(q:List Int):((c9 es [(o,q)]).map (·.1)).Nodup/\∀x∈(c9 es [(o,q)]).map (·.1),x∈es.map (·.1)\/x=o:=by
 rw [v7 hn]
 unfold kY bW
 have key:∀r:List Int,((bo es o r).map (·.1)).Nodup/\∀x∈(bo es o r).map (·.1),x∈es.map (·.1)\/x=o:=by
  intro r
  by_cases hm:o∈es.map (·.1)
  ·rw [jL hm]
   exact⟨hn,λx hx=> .inl hx⟩
  ·rw [hV hm,Hr]
   refine⟨IP.mpr ⟨hn,by simp,λa ha b hb=> ?_⟩,λx hx=> ?_⟩
   ·have:b=o:=by simpa using hb
    refine this▸?_
    exact λe=>hm (e▸ha)
   ·rcases HA.mp hx with hx |hx
    ·exact .inl hx
    ·exact .inr (by simpa using hx)
 split
 ·exact key _
 ·exact key _
theorem gZ.zero:gZ eD:=⟨JT,(λ_ h=>nomatch h),rfl,rfl,rfl,rfl⟩
theorem gZ.add {b:aO}(h:gZ b)(cs:List Int)(o g:Str)(j:Nat):gZ (b.add (a6 cs o g j)):=by
 have hq:(bt cs o g j).length=4:=rfl
 have hs:=λi G=>w8 h.nd h.four o hq i G
 refine⟨(A3 h.nd o _).1,lE h.four λq hq=>by rw [Hi.mp hq];rfl,?_,?_,?_,?_⟩
 ·show (a6 cs o g j).a+b.a=bf 0 _ (c9 b.es [(o,bt cs o g j)])
  simp only [hs,h.a,IV,K3]
  rfl
 ·show (a6 cs o g j).b+b.b=bf 1 _ (c9 b.es [(o,bt cs o g j)])
  simp only [hs,h.b,IV,K3]
  rfl
 ·show (a6 cs o g j).c+b.c=bf 2 _ (c9 b.es [(o,bt cs o g j)])
  simp only [hs,h.c,IV,K3]
  rfl
 ·show (a6 cs o g j).d+b.d=bf 3 _ (c9 b.es [(o,bt cs o g j)])
  simp only [hs,h.d,IV,K3]
  rfl
noncomputable def eE (i:Nat) (G:Str->Str->Int) (bk:List (Str×aO)):Int:=(bk.map λe=>bf i (G e.1) e.2.es).sum
structure Bk (S:LS):Prop where
 keys:S.book.map (·.1)=S.line
 perm:S.known.Perm S.line
 nd:S.line.Nodup
 ent:∀e∈S.book,gZ e.2
 call:∀e∈S.book,∀q∈e.2.es,q.1∈S.line
theorem Bk.zero:Bk LS.zero:=⟨rfl,IJ _,Ht.mpr ⟨(λh=>nomatch h),JT⟩,by
 intro e he
 rw [Hi.mp he]
 exact gZ.zero,by
 intro e he
 rw [Hi.mp he]
 exact λ_ h=>nomatch h⟩
theorem Bk.new {S:LS}(h:Bk S)(g:Str):Bk (S.new g)/\g∈(S.new g).line/\(∃r,(S.new g).line=S.line ++ r)/\∀i G,eE i G (S.new g).book=eE i G S.book:=by
 unfold LS.new
 split
 ·rename_i q
  exact⟨h,h.perm.mem_iff.mp q,⟨[],by simp⟩,λ_ _=>rfl⟩
 ·rename_i q
  have q':g∉S.line:=λx=>q (h.perm.mem_iff.mpr x)
  have hb:bo S.book g eD=S.book ++ [(g,eD)]:=hV (by rw [h.keys];exact q')
  refine⟨⟨?_,((cT dA true S.known g).trans (h.perm.cons g)).trans (Jo (l₁:=[g])),?_,?_,?_⟩,by simp,⟨[g],rfl⟩,λi G=> ?_⟩
  ·show (bo S.book g eD).map (·.1)=S.line ++ [g]
   simp only [hb,Hr,h.keys];rfl
  ·show (S.line ++ [g]).Nodup
   refine IP.mpr ⟨h.nd,by simp,λa ha b hb=> ?_⟩
   rw [Hi.mp hb]
   exact λe=>q' (e▸ha)
  ·show ∀e∈bo S.book g eD,gZ e.2
   rw [hb]
   intro e he
   rcases HA.mp he with he |he
   ·exact h.ent e he
   ·rw [Hi.mp he];exact gZ.zero
  ·show ∀e∈bo S.book g eD,∀q∈e.2.es,q.1∈S.line ++ [g]
   rw [hb]
   intro e he q hq
   rcases HA.mp he with he |he
   ·exact HI _ (h.call e he q hq)
   ·simp only [Hi.mp he] at hq;exact nomatch hq
  ·show eE i G (bo S.book g eD)=_
   rw [hb]
   unfold eE
   simp only [Hr,JE]
   simp [eD,bf]
theorem Bk.lk {S:LS}(h:Bk S){g:Str}(hg:g∈S.line):S.book.lookup g=some (b6 S g)/\gZ (b6 S g):=by
 rw [<-h.keys] at hg
 refine cz (iR hg) λb hb=> ?_
 have:b6 S g=b:=by unfold b6;rw [hb];rfl
 refine this▸?_
 exact⟨hb,h.ent _ (aG hb)⟩
theorem Bk.add {S:LS}(h:Bk S)(cs:List Int){o:Str}(ho:o∈S.line)(g:Str)(j:Nat):Bk (S.add cs o g j)/\g∈(S.add cs o g j).line/\(∃r,(S.add cs o g j).line=S.line ++ r)/\∀i G,eE i G (S.add cs o g j).book=eE i G S.book+i0 i (bt cs o g j)*G g o:=by
 refine l0 (h.new g) λh1 hg z2 hs=> ?_;refine cz z2 λr hr=> ?_
 have hb:=(h1.lk hg)
 have QH:(S.add cs o g j).book=bo (S.new g).book g ((b6 (S.new g) g).add (a6 cs o g j)):=rfl
 refine⟨⟨?_,h1.perm,h1.nd,?_,?_⟩,hg,⟨r,hr⟩,λi G=> ?_⟩
 ·rw [QH,jL (by rw [h1.keys];exact hg)];exact h1.keys
 ·rw [QH]
  exact eU (P:=λb=>gZ b) h1.ent (hb.2.add cs o g j)
 ·rw [QH]
  show ∀e∈bo (S.new g).book g ((b6 (S.new g) g).add (a6 cs o g j)),∀q∈e.2.es,q.1∈(S.new g).line
  refine eU (P:=λ(b:aO)=>∀q∈b.es,q.1∈(S.new g).line) h1.call λq hq=> ?_
  rcases(A3 hb.2.nd o (bt cs o g j)).2 q.1 (He.mpr ⟨q,hq,rfl⟩) with hx |hx
  ·refine ae (He.mp hx) λq' UC e=> ?_
   refine e▸?_
   exact h1.call _ (aG hb.1) q' UC
  ·rw [hx];exact(by rw [hr];exact HI _ ho)
 ·rw [QH]
  unfold eE
  rw [lx (λx (b:aO)=>bf i (G x) b.es) (by rw [h1.keys];exact h1.nd) hb.1]
  have e1:bf i (G g) ((b6 (S.new g) g).add (a6 cs o g j)).es=bf i (G g) (b6 (S.new g) g).es+i0 i (bt cs o g j)*G g o:=w8 hb.2.nd hb.2.four o rfl i (G g)
  have e2:=hs i G
  unfold eE at e2
  simp only [e1,e2]
  lia
noncomputable def vm (cs:List Int) (i:Nat) (G:Str->Str->Int) (o:Str):Int:=((List.range 3).map λj=>i0 i (bt cs o (ax cs j o) j)*G (ax cs j o) o).sum
theorem Bk.at {S:LS}(h:Bk S)(cs:List Int){o:Str}(ho:o∈S.line):∀n,Bk (S.at cs o n)/\(∀j < n,ax cs j o∈(S.at cs o n).line)/\(∃r,(S.at cs o n).line=S.line ++ r)/\(∀i G,eE i G (S.at cs o n).book=eE i G S.book+((List.range n).map λj=>i0 i (bt cs o (ax cs j o) j)*G (ax cs j o) o).sum)/\(S.at cs o n).steps=bo S.steps o (k9 cs o):=by
 intro n
 induction n with
 |zero=>
  refine⟨⟨h.keys,h.perm,h.nd,h.ent,h.call⟩,(λ_ h=>absurd h (Nat.not_lt_zero _)),⟨[],(IA _).symm⟩,λi G=>(Kh _).symm,rfl⟩
 |succ n ih=>
  rw [LS.jz]
  refine Dl ih λi1 i2 z2 i4 i5=> ?_;refine cz z2 λr hr=> ?_
  refine l0 (i1.add cs (o:=o) (by rw [hr];exact HI _ ho) (ax cs n o) n) λj1 j2 z2 j4=> ?_;refine cz z2 λr' TJ=> ?_
  refine⟨j1,λj hj=> ?_,⟨r ++ r',by simp only [TJ,hr,Iq]⟩,λi G=> ?_,?_⟩
  ·by_cases q:j=n
   ·rw [q];exact j2
   ·rw [TJ];exact HI _ (i2 j (by lia))
  ·simp only [j4,i4,IY,Hr,JE]
   simp only [Hm,Ib,HW,K8]
   lia
  ·rw [LS.nO];exact i5
structure Sk (cs:List Int)(k:Nat)(S:LS):Prop where
 bk:Bk S
 z:("abcd":Str)∈S.line
 clo:∀o∈S.line.take k,∀j < 3,ax cs j o∈S.line
 Ak:∀o∈S.line.take k,S.steps.lookup o=some (k9 cs o)
 sum:∀i G,eE i G S.book=((S.line.take k).map (vm cs i G)).sum
theorem Sk.pD (cs:List Int):∀k,Sk cs k (cJ cs k):=by
 intro k
 induction k with
 |zero=>exact⟨Bk.zero,Hi.mpr rfl,(λ_ h=>nomatch h),(λ_ h=>nomatch h),λi G=>rfl⟩
 |succ k ih=>
  show Sk cs (k+1) ((cQ (cJ cs k) k).foldl (LS.ord cs) (cJ cs k))
  generalize cJ cs k=S at ih
  have LQ:S.line.take (k+1)=S.line.take k ++ cQ S k:=by
   unfold cQ
   have:=II k (S.line.take (k+1))
   rw [List.take_take,I0 (Iz k)] at this
   exact this.symm
  have hle:=lP S k
  cases hn:cQ S k with
  |nil=>
   rw [hn,IA] at LQ
   exact⟨ih.bk,ih.z,λo ho=>ih.clo o (LQ▸ho),λo ho=>ih.Ak o (LQ▸ho),λi G=>by simp only [Li,LQ];exact ih.sum i G⟩
  |cons o rest=>
   have Uk:rest=[]:=by
    simp only [hn,Hv] at hle
    exact Ko (by lia)
   subst Uk
   rw [hn] at LQ
   show Sk cs (k+1) (S.at cs o 3)
   refine Dl (ih.bk.at cs (jK (by rw [hn];exact G9)) 3) λi1 i2 z2 i4 i5=> ?_;refine cz z2 λr hr=> ?_
   have Ni:k+1<=S.line.length:=by
    have h1:=Hx List.length LQ
    simp only [H8,HF,List.length_singleton] at h1
    grind -splitIndPred
   have RP:(S.at cs o 3).line.take (k+1)=S.line.take k ++ [o]:=by rw [hr,Kq Ni,LQ]
   refine⟨i1,by rw [hr];exact HI _ ih.z,λx hx j hj=> ?_,λx hx=> ?_,λi G=> ?_⟩
   ·rw [RP] at hx
    rcases HA.mp hx with hx |hx
    ·rw [hr];exact HI _ (ih.clo x hx j hj)
    ·rw [Hi.mp hx];exact i2 j hj
   ·rw [RP] at hx
    rw [i5]
    by_cases q:x=o
    ·refine q▸?_;exact fq
    ·rw [iV q]
     rcases HA.mp hx with hx |hx
     ·exact ih.Ak x hx
     ·exact absurd (Hi.mp hx) q
   ·simp only [RP,i4,ih.sum,Hr,JE]
    simp only [Hm,Ib,HW,K8,Kh]
    rfl
theorem gi {α:Type} [DecidableEq α](f:α->Int){x:α}:∀{l:List α},l.Nodup->x∈l->(l.map λo=>if o=x then f o else 0).sum=f x:=by
 intro l hn hx
 induction l with
 |nil=>exact nomatch hx
 |cons a l ih=>
  simp only [Hm,HW]
  have hz:∀l:List α,x∉l->(l.map λo=>if o=x then f o else 0).sum=0:=by
   intro l
   induction l with
   |nil=>intro _;rfl
   |cons b l ih=>
    intro h
    rw [Hf,K4] at h
    rw [Hm,HW,if_neg (HE h.1),ih h.2];rfl
  by_cases q:a=x
  ·subst q
   rw [if_pos rfl,hz l (Ht.mp hn).1,Kh]
  ·rw [if_neg q,ih (Ht.mp hn).2 ((Hf.mp hx).resolve_left (HE q)),I7]
theorem a8 {α:Type}{f g:α->Int}{l:List α}(h:∀a∈l,f a=g a):(l.map f).sum=(l.map g).sum:=by rw [HY h]
noncomputable abbrev LE (cs:List Int):LS:=cJ cs 24
theorem rB (cs:List Int):(LE cs).line.take 24=(LE cs).line:=HQ (lu cs 24)
theorem iO (cs:List Int):Bk (LE cs):=(Sk.pD cs 24).bk
theorem qP (cs:List Int)(i:Nat)(G:Str->Str->Int):eE i G (LE cs).book=((LE cs).line.map (vm cs i G)).sum:=by
 have:=(Sk.pD cs 24).sum i G
 rw [rB] at this
 exact this
theorem entry_sum (cs:List Int)(i:Nat)(H:Str->Int){g:Str}(hg:g∈(LE cs).line):bf i H (b6 (LE cs) g).es=((LE cs).line.map λo=>((List.range 3).map λj=>i0 i (bt cs o (ax cs j o) j)*(if ax cs j o=g then H o else 0)).sum).sum:=by
 have h:=qP cs i λx y=>if x=g then H y else 0
 have B:=iO cs
 generalize LE cs=S at *
 refine Eq.trans ?_ h
 unfold eE
 have e1:∀e:Str×aO,bf i (λy=>if e.1=g then H y else 0) e.2.es=if e.1=g then bf i H e.2.es else 0:=λe=>by
  by_cases q:e.1=g
  ·simp_all
  ·simp_all
   simp only [bf]
   simp_all
   induction e.2.es with
   |nil=>rfl
   |cons a l ih=>simp only [Hm,HW,ih];rfl
 refine(a8 (λe _=>e1 e))▸?_
 have e2:(S.book.map λe=>if e.1=g then bf i H e.2.es else 0).sum=(S.line.map λx=>if x=g then bf i H (b6 S x).es else 0).sum:=by
  simp only [<-B.keys,Hq]
  refine a8 λe he=> ?_
  show _=if e.1=g then bf i H (b6 S e.1).es else 0
  have:b6 S e.1=e.2:=by
   unfold b6
   rw [dE (by rw [B.keys];exact B.nd) he];rfl
  rw [this]
 simp only [e2,gi (λx=>bf i H (b6 S x).es) B.nd hg]
theorem mE {es:List (Str×List Int)}(hn:(es.map (·.1)).Nodup)(i:Nat)(o:Str):bf i (λy=>if y=o then 1 else 0) es=i0 i ((es.lookup o).getD []):=by
 simp only [bf]
 induction es with
 |nil=>rfl
 |cons e es ih=>
  rw [Hm,Ht] at hn
  rw [Hm,HW,Hl,ih hn.2]
  by_cases q:e.1=o
  ·refine q▸?_
   have:es.lookup e.1=none:=Ih.mpr λx hx=>by
    simp only [Jg,ne_eq,JC]
    intro h
    exact hn.1 (He.mpr ⟨x,hx,h.symm⟩)
   refine this▸?_
   simp [i0]
  ·show i0 i e.2*(if e.1=o then 1 else 0)+_=_
   simp only [if_neg q,HC (HE q),Jp,I7]
theorem yc (f:Str->Option (List Int))(i:Nat)(l:List Str):(((l.filter λg=>(f g).isSome).map λg=>(f g).getD []).map λq=>q.getD i 0).sum=(l.map λg=>i0 i ((f g).getD [])).sum:=by
 rw [Hq]
 induction l with
 |nil=>rfl
 |cons g l ih=>
  simp only [IF,Hm,HW,<-ih]
  cases q:f g with
  |none=>
   simp [i0]
  |some r=>
   rw [if_pos (by rfl),Hm,HW]
   rw [Function.comp,q]
   rfl
theorem pC (cs:List Int)(i:Nat){o:Str}(ho:o∈(LE cs).line):fJ i (cA (LE cs) o)=((List.range 3).map λj=>i0 i (bt cs o (ax cs j o) j)).sum:=by
 have B:=iO cs
 have h:=qP cs i λ_ y=>if y=o then 1 else 0
 generalize LE cs=S at *
 have e0:fJ i (cA S o)=(S.line.map λg=>i0 i (((b6 S g).es.lookup o).getD [])).sum:=yc (λg=>(b6 S g).es.lookup o) i _
 have e1:eE i (λ_ y=>if y=o then 1 else 0) S.book=(S.line.map λg=>i0 i (((b6 S g).es.lookup o).getD [])).sum:=by
  simp only [<-B.keys,Hq]
  refine a8 λe he=> ?_
  have:b6 S e.1=e.2:=by
   unfold b6
   rw [dE (by rw [B.keys];exact B.nd) he];rfl
  show _=i0 i (((b6 S e.1).es.lookup o).getD [])
  rw [this]
  exact mE (B.ent e he).nd i o
 simp only [e0,<-e1,h]
 have e2:∀x,vm cs i (λ_ y=>if y=o then 1 else 0) x=if x=o then((List.range 3).map λj=>i0 i (bt cs x (ax cs j x) j)).sum else 0:=λx=>by
  simp only [vm]
  by_cases q:x=o
  ·simp only [if_pos q,IV]
  ·simp_all
   rfl
 rw [a8 λx _=>e2 x,gi (λx=>((List.range 3).map λj=>i0 i (bt cs x (ax cs j x) j)).sum) B.nd ho]
theorem three (f:Nat->Int):((List.range 3).map f).sum=f 0+(f 1+(f 2+0)):=rfl
theorem o6 (cs:List Int):wJ cs 0+(wJ cs 1+(wJ cs 2+0))=aM cs:=by
 rfl
theorem uL (cs:List Int){g:Str}(hg:g∈(LE cs).line){q:Str×List Int}(hq:q∈(b6 (LE cs) g).es):i0 2 q.2=((List.range 3).map λj=>wJ cs j*(if ax cs j q.1=g then 1 else 0)).sum:=by
 have B:=iO cs
 have hk:=B.lk hg
 have h1:=mE hk.2.nd 2 q.1
 rw [dE hk.2.nd hq,entry_sum cs 2 _ hg] at h1
 refine h1.symm.trans ?_
 have e2:∀x:Str,((List.range 3).map λj=>i0 2 (bt cs x (ax cs j x) j)*(if ax cs j x=g then(if x=q.1 then 1 else 0) else 0)).sum=if x=q.1 then((List.range 3).map λj=>wJ cs j*(if ax cs j x=g then 1 else 0)).sum else 0:=λx=>by
  by_cases e:x=q.1
  ·simp only [if_pos e];rfl
  ·simp_all
   simp only [three]
   simp
 rw [a8 λx _=>e2 x,gi (λx=>((List.range 3).map λj=>wJ cs j*(if ax cs j x=g then 1 else 0)).sum) B.nd (B.call _ (aG hk.1) q hq)]
theorem sJ (cs:List Int):di cs (LE cs):=by
 have K:=Sk.pD cs 24
 have B:=iO cs
 have hl:(LE cs).line.length<=24:=lu cs 24
 have Ma:∀e∈(LE cs).book,e.1∈(LE cs).line/\b6 (LE cs) e.1=e.2:=λe he=>⟨by rw [<-B.keys];exact He.mpr ⟨e,he,rfl⟩,by
  unfold b6
  rw [dE (by rw [B.keys];exact B.nd) he];rfl⟩
 have MZ:∀(i:Nat) (o:Str),bf i (λ_=>1) (b6 (LE cs) o).es=fJ i (dv (LE cs) o):=λi o=>by
  delta bf fJ pA dv
  rw [Hq]
  exact a8 λe _=>IV _
 refine⟨λo ho=>⟨_,(B.lk ho).1⟩,λe he=>⟨?_,(B.ent e he).four⟩,λo ho=>K.Ak o (by rw [rB];exact ho),by lia,K.z,λo ho=>K.clo o (by rw [rB];exact ho),λe he q hq=> ?_,λo ho=> ?_,λo ho=> ?_,λo ho=>⟨?_,?_⟩,λo ho=>⟨?_,?_,?_⟩⟩
 ·have:=dW (L:=(LE cs).line) (B.ent e he).nd λx hx=>by
   refine ae (He.mp hx) λq hq G'=> ?_;refine G'▸?_
   exact B.call e he q hq
  rw [Hd] at this
  lia
 ·obtain⟨h1,h2⟩:=Ma e he
  have:=uL cs h1 (q:=q) (by refine h2▸?_;exact hq)
  simp only [three] at this
  show (i0 2 q.2).natAbs < 2 ^ 60
  rw [this]
  exact pf (fX (qI (kr cs (by decide))) (fX (qI (kr cs (by decide))) (fX (qI (kr cs (by decide))) (Hh 0)))) rfl
 ·rw [pC cs 1 ho];rfl
 ·rw [pC cs 2 ho]
  exact o6 cs
 ·rw [(B.lk ho).2.a,entry_sum cs 0 _ ho]
  have e2:∀x:Str,((List.range 3).map λj=>i0 0 (bt cs x (ax cs j x) j)*(if ax cs j x=o then(1:Int) else 0)).sum=if x=o then(((k9 cs x).countP (·==x):Nat):Int) else 0:=λx=>by
   have a0:∀j,i0 0 (bt cs x (ax cs j x) j)=if ax cs j x=x then 1 else 0:=λ_=>rfl
   simp only [three,a0]
   by_cases e:x=o
   ·refine e▸?_
    rw [if_pos rfl]
    show _=(((([ax cs 0 x,ax cs 1 x,ax cs 2 x]:List Str).countP (·==x)):Nat):Int)
    simp only [IU,List.countP_nil,Ip]
    split <;> split <;> split <;> rfl
   ·rw [if_neg e]
    have:∀y:Str,(if y=x then(1:Int) else 0)*(if y=o then 1 else 0)=0:=λy=>by
     by_cases q:y=x
     ·rw [if_neg (λq2=>e (q.symm.trans q2)),Jp]
     ·rw [if_neg q,Int.zero_mul]
    simp only [this];rfl
  rw [a8 λx _=>e2 x,gi (λx=>(((k9 cs x).countP (·==x):Nat):Int)) B.nd ho]
 ·rw [(B.lk ho).2.a];exact MZ 0 o
 ·rw [(B.lk ho).2.b];exact MZ 1 o
 ·rw [(B.lk ho).2.c];exact MZ 2 o
 ·rw [(B.lk ho).2.d];exact MZ 3 o
theorem zK (cs:List Int):∀g∈(LE cs).line,∀e∈(b6 (LE cs) g).es,e.1∈(LE cs).line:=λg hg e he=>(iO cs).call _ (aG ((iO cs).lk hg).1) e he
noncomputable def dS (H:Str->Int) (d:List (Str×Int)):Int:=(d.map λe=>e.2*H e.1).sum
theorem Ct {d:List (Str×Int)}(hn:(d.map (·.1)).Nodup)(x:Str)(p:Int):((cH d [(x,p)]).map (·.1)).Nodup/\(∀y∈(cH d [(x,p)]).map (·.1),y∈d.map (·.1)\/y=x)/\∀H,dS H (cH d [(x,p)])=dS H d+p*H x:=by
 have e0:cH d [(x,p)]=qL d (x,p):=by
  delta cH hZ
  simp only [Ia,Li,j3 (es:=[]) hn,List.nil_append]
 refine e0▸?_
 simp only [qL,bW]
 cases hl:d.lookup x with
 |some r=>
  rw [jL (He.mpr ⟨_,aG hl,rfl⟩)]
  refine⟨hn,λy hy=> .inl hy,λH=> ?_⟩
  unfold dS
  simp only [lx (λx (p:Int)=>p*H x) hn hl,Int.add_mul]
  lia
 |none=>
  have hm:x∉d.map (·.1):=λhm=>by
   obtain⟨p,hp⟩:=iR hm
   replace hp:=hl▸hp;cases hp
  refine(hV hm)▸Hr▸?_
  refine⟨IP.mpr ⟨hn,by simp,λa ha b hb=> ?_⟩,λy hy=> ?_,λH=> ?_⟩
  ·have:b=x:=by simpa using hb
   refine this▸?_
   exact λe=>hm (e▸ha)
  ·rcases HA.mp hy with hy |hy
   ·exact .inl hy
   ·exact .inr (by simpa using hy)
  ·unfold dS
   simp
theorem y6 (x:Nat×Nat×Nat->Str)(w:Nat×Nat×Nat->Int):∀(l:List (Nat×Nat×Nat))(d:List (Str×Int)),(d.map (·.1)).Nodup->
 ((l.foldl (λd e=>cH d [(x e,w e)]) d).map (·.1)).Nodup/\(∀y∈(l.foldl (λd e=>cH d [(x e,w e)]) d).map (·.1),y∈d.map (·.1)\/∃e∈l,y=x e)/\∀H,dS H (l.foldl (λd e=>cH d [(x e,w e)]) d)=dS H d+(l.map λe=>w e*H (x e)).sum:=by
 intro l
 induction l with
 |nil=>intro d hn;exact⟨hn,λy hy=> .inl hy,λH=>(Kh _).symm⟩
 |cons e l ih=>
  intro d hn
  refine cZ (Ct hn (x e) (w e)) λh1 h2 h3=> ?_
  refine⟨(ih (cH d [(x e,w e)]) h1).1,λy hy=> ?_,λH=> ?_⟩
  ·rcases(ih (cH d [(x e,w e)]) h1).2.1 y hy with q |⟨e',Nf,q⟩
   ·rcases h2 y q with q |q
    ·exact .inl q
    ·exact .inr ⟨e,G9,q⟩
   ·exact .inr ⟨e',Ha _ Nf,q⟩
  ·simp only [Ia,(ih (cH d [(x e,w e)]) h1).2.2,h3,Hm,HW]
   lia
theorem zJ (cs:List Int):((bB cs 6).map (·.1)).Nodup/\(∀y∈(bB cs 6).map (·.1),∃e∈dj,y=g3 cs e)/\∀H,dS H (bB cs 6)=(dj.map λe=>bZ cs e*H (g3 cs e)).sum:=by
 refine cZ (y6 (g3 cs) (bZ cs) dj [] JT) λh1 h2 h3=> ?_
 have e0:bB cs 6=dj.foldl (λd e=>cH d [(g3 cs e,bZ cs e)]) []:=rfl
 refine e0▸?_
 refine⟨h1,λy hy=> ?_,λH=> ?_⟩
 ·rcases h2 y hy with q |q
  ·exact nomatch q
  ·exact q
 ·rw [h3]
  exact I7 _
theorem zZ {d:List (Str×Int)}(hn:(d.map (·.1)).Nodup)(g:Str):(d.lookup g).getD 0=dS (λy=>if y=g then 1 else 0) d:=by
 simp only [dS]
 induction d with
 |nil=>rfl
 |cons e d ih=>
  rw [Hm,Ht] at hn
  rw [Hm,HW,Hl,<-ih hn.2]
  show _=e.2*(if e.1=g then 1 else 0)+_
  by_cases q:e.1=g
  ·refine q▸?_
   have:d.lookup e.1=none:=Ih.mpr λx hx=>by
    simp only [Jg,ne_eq,JC]
    intro h
    exact hn.1 (He.mpr ⟨x,hx,h.symm⟩)
   refine this▸(if_pos rfl)▸?_
   simp
  ·simp only [if_neg q,HC (HE q),Jp,I7]
theorem xZ {α:Type}(l:List α):(l.map λ_=>(0:Int)).sum=0:=by
 induction l with
 |nil=>rfl
 |cons a l ih=>simp only [Hm,HW,ih];rfl
theorem yZ (V:Str->Int){l:List Str}(hl:l.Nodup):∀{d:List (Str×Int)},(d.map (·.1)).Nodup->(∀y∈d.map (·.1),y∈l)->(l.map λo=>V o*(d.lookup o).getD 0).sum=dS V d:=by
 intro d
 induction d with
 |nil=>
  intro _ _
  simp_all
  exact xZ l
 |cons e d ih=>
  intro hn hs
  rw [Hm,Ht] at hn
  have hx:e.1∈l:=hs e.1 G9
  have QP:d.lookup e.1=none:=Ih.mpr λx hx=>by
   simp only [Jg,ne_eq,JC]
   intro h
   exact hn.1 (He.mpr ⟨x,hx,h.symm⟩)
  have e1:∀o:Str,V o*((e::d).lookup o).getD 0=(if o=e.1 then V o*e.2 else 0)+V o*(d.lookup o).getD 0:=λo=>by
   rw [Hl]
   by_cases q:o=e.1
   ·subst q
    rw [if_pos rfl,QP]
    simp
   ·rw [if_neg q,HC q,I7]
  rw [a8 λo _=>e1 o]
  have OP:∀l:List Str,(l.map λo=>(if o=e.1 then V o*e.2 else 0)+V o*(d.lookup o).getD 0).sum=(l.map λo=>if o=e.1 then V o*e.2 else 0).sum+(l.map λo=>V o*(d.lookup o).getD 0).sum:=by
   intro l
   induction l with
   |nil=>rfl
   |cons a l ih=>simp only [Hm,HW,ih];lia
  simp only [OP,(gi (λo=>V o*e.2) hl hx),(ih hn.2 λy hy=>hs y (Ha _ hy))]
  unfold dS
  simp only [Hm,HW,Int.mul_comm]
theorem An (cs:List Int){p:List Nat}(hp:dN p){a:Nat}{w:List Nat}(v:List Nat)(ha:a < 3)(hw:∀j∈w,j < 3):c8 cs (a::w ++ a::v) p=c8 cs (a::w ++ v) p:=by
 rw [(by simp:a::w ++ a::v=(a::w ++ [a]) ++ v),gO,gO cs (a::w) v,ua cs (hp.run cs v) (λj hj=> ?_) G9]
 rcases Hf.mp hj with rfl |hj
 ·exact ha
 ·exact hw j hj
noncomputable def mQ (cs:List Int) (w:List Nat):Str:=d6 (c8 cs w [0,1,2,3])
theorem AK (cs:List Int)(j:Nat)(w:List Nat):ax cs j (mQ cs w)=mQ cs (j::w):=jo cs iX j w
theorem mz (cs:List Int){a:Nat}{w:List Nat}(v:List Nat)(ha:a < 3)(hw:∀j∈w,j < 3):mQ cs (a::w ++ a::v)=mQ cs (a::w ++ v):=Hx d6 (An cs iX v ha hw)
theorem uf (T a b c x1 x2 x3 x4 x5 x6:Int)(h:T=a+(b+(c+0))):
 a*b*(T - b)*(T - c)*(a*x1+(b*x3+(c*x5+0)))+(a*c*(T - c)*(T - b)*(a*x2+(b*x3+(c*x5+0)))+(b*a*(T - a)*(T - c)*(a*x1+(b*x3+(c*x6+0)))+(b*c*(T - c)*(T - a)*(a*x1+(b*x4+(c*x6+0)))+(c*a*(T - a)*(T - b)*(a*x2+(b*x4+(c*x5+0)))+(c*b*(T - b)*(T - a)*(a*x2+(b*x4+(c*x6+0)))+0)))))=
 T*(a*b*(T - b)*(T - c)*x1+(a*c*(T - c)*(T - b)*x2+(b*a*(T - a)*(T - c)*x3+(b*c*(T - c)*(T - a)*x4+(c*a*(T - a)*(T - b)*x5+(c*b*(T - b)*(T - a)*x6+0)))))):=by
 subst h
 grind
theorem oh (p:Prop) [Decidable p](z:Int):(if p then z else 0)=(if p then 1 else 0)*z:=by split <;> simp
theorem rq (a b c x y w z:Int):a*(x*z)+(b*(y*z)+(c*(w*z)+0))=(a*x+(b*y+(c*w+0)))*z:=by grind
theorem Au (cs:List Int):qU cs (LE cs):=by
 refine cZ (zJ cs) λh1 h2 h3=> ?_
 have hT:=o6 cs
 constructor
 ·have:=h3 λ_=>1
  unfold dS at this
  simp only [IV] at this
  simp only [this]
  simp only [dj,bZ,Hm,Ib,HW,K8]
  refine hT▸?_
  grind
 ·intro g hg
  have K:=sJ cs
  have NG:∀y∈(bB cs 6).map (·.1),y∈(LE cs).line:=λy hy=>by
   refine ae (h2 y hy) λe he G'=> ?_;simp only [G']
   have Ll:=lN e he
   exact K.clo _ (K.clo _ (K.clo _ K.z _ Ll.2.2) _ Ll.2.1) _ Ll.1
  have e1:(o8 (LE cs) (bB cs 6) g).sum=bf 2 (λo=>((bB cs 6).lookup o).getD 0) (b6 (LE cs) g).es:=rfl
  refine e1▸(entry_sum cs 2 _ hg)▸?_
  have e2:∀o:Str,((List.range 3).map λj=>i0 2 (bt cs o (ax cs j o) j)*(if ax cs j o=g then((bB cs 6).lookup o).getD 0 else 0)).sum=(wJ cs 0*(if ax cs 0 o=g then 1 else 0)+(wJ cs 1*(if ax cs 1 o=g then 1 else 0)+(wJ cs 2*(if ax cs 2 o=g then 1 else 0)+0)))*((bB cs 6).lookup o).getD 0:=λo=>by
   have a2:∀j,i0 2 (bt cs o (ax cs j o) j)=wJ cs j:=λ_=>rfl
   simp only [three,a2]
   generalize ((bB cs 6).lookup o).getD 0=z
   simp only [oh (ax cs 0 o=g) z,oh (ax cs 1 o=g) z,oh (ax cs 2 o=g) z]
   exact rq _ _ _ _ _ _ _
  rw [a8 λo _=>e2 o,yZ (λo=>wJ cs 0*(if ax cs 0 o=g then 1 else 0)+(wJ cs 1*(if ax cs 1 o=g then 1 else 0)+(wJ cs 2*(if ax cs 2 o=g then 1 else 0)+0))) (iO cs).nd h1 NG,h3,zZ h1,h3]
  have Uy:∀e,g3 cs e=mQ cs (w3 e):=yi cs
  have d0:∀v,mQ cs (0::0::v)=mQ cs (0::v):=λv=>mz cs (w:=[]) v (by decide) (λ_ h=>nomatch h)
  have d1:∀v,mQ cs (1::1::v)=mQ cs (1::v):=λv=>mz cs (w:=[]) v (by decide) (λ_ h=>nomatch h)
  have d2:∀v,mQ cs (2::2::v)=mQ cs (2::v):=λv=>mz cs (w:=[]) v (by decide) (λ_ h=>nomatch h)
  have q:∀a b v,a < 3->b < 3->mQ cs (a::b::a::v)=mQ cs (a::b::v):=λa b v ha hb=>mz cs (w:=[b]) v ha (by intro j hj;rw [Hi.mp hj];exact hb)
  have r:∀a b c,a < 3->b < 3->c < 3->mQ cs [a,b,c,a]=mQ cs [a,b,c]:=λa b c ha hb hc=>mz cs (w:=[b,c]) [] ha (by
   intro j hj
   rcases Hf.mp hj with rfl |hj
   ·exact hb
   ·rw [Hi.mp hj];exact hc)
  simp only [Uy,AK,dj,bZ,w3,Hm,Ib,HW,K8]
  simp only [d0 [1,2],d0 [2,1],d1 [0,2],d1 [2,0],d2 [0,1],d2 [1,0],
   q 1 0 [2] (by decide) (by decide),q 1 2 [0] (by decide) (by decide),q 2 0 [1] (by decide) (by decide),q 2 1 [0] (by decide) (by decide),q 0 1 [2] (by decide) (by decide),q 0 2 [1] (by decide) (by decide),
   r 1 0 2 (by decide) (by decide) (by decide),r 2 0 1 (by decide) (by decide) (by decide),r 0 1 2 (by decide) (by decide) (by decide),r 2 1 0 (by decide) (by decide) (by decide),r 0 2 1 (by decide) (by decide) (by decide),r 1 2 0 (by decide) (by decide) (by decide)]
  generalize (if mQ cs [0,1,2]=g then(1:Int) else 0)=x1
  generalize (if mQ cs [0,2,1]=g then(1:Int) else 0)=x2
  generalize (if mQ cs [1,0,2]=g then(1:Int) else 0)=x3
  generalize (if mQ cs [1,2,0]=g then(1:Int) else 0)=x4
  generalize (if mQ cs [2,0,1]=g then(1:Int) else 0)=x5
  generalize (if mQ cs [2,1,0]=g then(1:Int) else 0)=x6
  generalize aM cs=T at hT ⊢
  generalize wJ cs 0=a at hT ⊢
  generalize wJ cs 1=b at hT ⊢
  generalize wJ cs 2=c at hT ⊢
  exact uf T a b c x1 x2 x3 x4 x5 x6 hT.symm
theorem sum_add {α:Type}(f g:α->Int)(l:List α):(l.map λa=>f a+g a).sum=(l.map f).sum+(l.map g).sum:=by
 induction l with
 |nil=>rfl
 |cons a l ih=>simp only [Hm,HW,ih];lia
theorem Aw {α:Type}(c:Int)(f:α->Int)(l:List α):(l.map λa=>c*f a).sum=c*(l.map f).sum:=by
 induction l with
 |nil=>exact(Jp c).symm
 |cons a l ih=>simp only [Hm,HW,ih,Int.mul_add]
noncomputable def yB (cs:List Int) (v:Int) (φ:Str->Int) (o:Str):Int:=wJ cs 0*φ (ax cs 0 o)+wJ cs 1*φ (ax cs 1 o)+wJ cs 2*φ (ax cs 2 o) - v*φ o
theorem tV (cs:List Int)(v:Int)(φ h:Str->Int):((LE cs).line.map λg=>φ g*eC (LE cs) v h g).sum=((LE cs).line.map λo=>yB cs v φ o*h o).sum:=by
 have B:=iO cs
 have hs:=qP cs 2 λx y=>φ x*h y
 generalize LE cs=S at *
 have e0:∀o,vm cs 2 (λx y=>φ x*h y) o=(wJ cs 0*φ (ax cs 0 o)+wJ cs 1*φ (ax cs 1 o)+wJ cs 2*φ (ax cs 2 o))*h o:=λo=>by
  have a2:∀j,i0 2 (bt cs o (ax cs j o) j)=wJ cs j:=λ_=>rfl
  unfold vm
  simp only [three,a2]
  grind
 rw [a8 λo _=>e0 o] at hs
 have e1:eE 2 (λx y=>φ x*h y) S.book=(S.line.map λg=>φ g*bf 2 h (b6 S g).es).sum:=by
  unfold eE
  rw [<-B.keys,Hq]
  refine a8 λe he=> ?_
  have:b6 S e.1=e.2:=by
   unfold b6
   rw [dE (by rw [B.keys];exact B.nd) he];rfl
  show _=φ e.1*bf 2 h (b6 S e.1).es
  rw [this]
  unfold bf
  rw [<-Aw]
  exact a8 λq _=>by grind
 rw [e1] at hs
 have e2:∀g,φ g*eC S v h g=φ g*bf 2 h (b6 S g).es+(-v)*(φ g*h g):=λg=>by
  show φ g*(bf 2 h (b6 S g).es - v*h g)=_
  grind
 have e3:∀o,yB cs v φ o*h o=(wJ cs 0*φ (ax cs 0 o)+wJ cs 1*φ (ax cs 1 o)+wJ cs 2*φ (ax cs 2 o))*h o+(-v)*(φ o*h o):=λo=>by
  unfold yB
  grind
 simp only [a8 λg _=>e2 g,a8 λo _=>e3 o,sum_add,hs]
theorem vr (cs:List Int):∀(fs:List (List (Nat×Nat)))(φ h:Str->Int),((LE cs).line.map λg=>φ g*fs.foldl (λh fl=>eC (LE cs) (aJ cs fl) h) h g).sum=((LE cs).line.map λo=>fs.foldr (λfl φ=>yB cs (aJ cs fl) φ) φ o*h o).sum:=by
 intro fs
 induction fs with
 |nil=>intro φ h;rfl
 |cons fl fs ih=>
  intro φ h
  simp only [Ia,ih,tV]
  rfl
noncomputable def Dn (cs:List Int) (v:Int) (ψ:List Nat->Int) (p:List Nat):Int:=wJ cs 0*ψ (gI cs 0 p)+wJ cs 1*ψ (gI cs 1 p)+wJ cs 2*ψ (gI cs 2 p) - v*ψ p
noncomputable abbrev lU (cs:List Int) (fs:List (List (Nat×Nat))) (ψ:List Nat->Int):List Nat->Int:=fs.foldr (λfl ψ=>Dn cs (aJ cs fl) ψ) ψ
theorem dN.goal {p:List Nat}(h:dN p)(cs:List Int)(j:Nat):dN (gI cs j p):=(eV _ _ _).trans h
theorem zd (cs:List Int)(v:Int){φ:Str->Int}{ψ:List Nat->Int}(h:∀p,dN p->φ (d6 p)=ψ p)(p:List Nat)(hp:dN p):yB cs v φ (d6 p)=Dn cs v ψ p:=by
 unfold yB Dn
 simp only [gU cs 0 hp.length_eq,gU cs 1 hp.length_eq,gU cs 2 hp.length_eq,h _ (hp.goal cs 0),h _ (hp.goal cs 1),h _ (hp.goal cs 2),h _ hp]
theorem wI (cs:List Int)(φ:Str->Int):∀(fs:List (List (Nat×Nat)))(p:List Nat),dN p->fs.foldr (λfl φ=>yB cs (aJ cs fl) φ) φ (d6 p)=lU cs fs (λp=>φ (d6 p)) p:=by
 intro fs
 induction fs with
 |nil=>intro p _;rfl
 |cons fl fs ih=>
  intro p hp
  exact zd cs _ ih p hp
theorem AU (cs:List Int)(a b:Int)(ψ:List Nat->Int):Dn cs a (Dn cs b ψ)=Dn cs b (Dn cs a ψ):=by
 funext p
 unfold Dn
 grind
theorem x8 (cs:List Int){fs Tg:List (List (Nat×Nat))}(h:fs.Perm Tg)(ψ:List Nat->Int):lU cs fs ψ=lU cs Tg ψ:=by
 induction h generalizing ψ with
 |nil=>rfl
 |cons x _ ih=>exact Hx (Dn cs (aJ cs x)) (ih ψ)
 |swap x y l=>exact AU cs _ _ _
 |trans _ _ h1 h2=>exact(h1 ψ).trans (h2 ψ)
theorem vy (cs:List Int){ψ Q2:List Nat->Int}(h:∀p,dN p->ψ p=Q2 p):∀(fs:List (List (Nat×Nat)))(p:List Nat),dN p->lU cs fs ψ p=lU cs fs Q2 p:=by
 intro fs
 induction fs with
 |nil=>exact h
 |cons fl fs ih=>
  intro p hp
  show Dn cs (aJ cs fl) (lU cs fs ψ) p=Dn cs (aJ cs fl) (lU cs fs Q2) p
  unfold Dn
  simp only [ih _ (hp.goal cs 0),ih _ (hp.goal cs 1),ih _ (hp.goal cs 2),ih _ hp]
theorem zv (cs:List Int)(a b c:Int)(QJ QI Q1:List Nat->Int):∀(fs:List (List (Nat×Nat))),lU cs fs (λp=>a*QJ p+b*QI p+c*Q1 p)=λp=>a*lU cs fs QJ p+b*lU cs fs QI p+c*lU cs fs Q1 p:=by
 intro fs
 induction fs with
 |nil=>rfl
 |cons fl fs ih=>
  show Dn cs (aJ cs fl) (lU cs fs λp=>a*QJ p+b*QI p+c*Q1 p)=λp=>a*Dn cs (aJ cs fl) (lU cs fs QJ) p+b*Dn cs (aJ cs fl) (lU cs fs QI) p+c*Dn cs (aJ cs fl) (lU cs fs Q1) p
  simp only [ih]
  funext p
  unfold Dn
  grind
noncomputable def bJ (cs:List Int) (w:List Nat):List (Nat×Nat):=kJ.filter λe=>w.all λj=>cR cs j e.1==cR cs j e.2
theorem eR {cs:List Int}{w:List Nat}{e:Nat×Nat}:e∈bJ cs w↔e∈kJ/\jV cs w e.1 e.2:=by
 unfold bJ jV
 rw [HG,Hw]
 simp only [Ip]
theorem By:kJ=(List.range 6).map λi=>dB.getD i default:=by decide+kernel
theorem mq (cs:List Int){c:Nat}{w:List Nat}(h:∀j,j∈lL c↔j∈w):bb cs c=bJ cs w:=by
 unfold bb bJ
 simp only [By,Lc]
 congr 1
 refine List.filter_congr λi _=> ?_
 show (dg cs c (dB.getD i default)==0)=(w.all λj=>cR cs j (dB.getD i default).1==cR cs j (dB.getD i default).2)
 rw [Bool.eq_iff_iff,Ip,yk,Hw]
 simp only [Ip,vP]
 exact⟨λq j hj=>q j ((h j).mpr hj),λq j hj=>q j ((h j).mp hj)⟩
theorem wj (cs:List Int):∀c,c < 8->bb cs c∈a5 cs:=by
 intro c
 induction c using Nat.strongRecOn with
 |ind c ih=>
  intro hc
  by_cases h:vU cs c=true
  ·exact He.mpr ⟨c,HG.mpr ⟨Hu.mpr hc,h⟩,rfl⟩
  ·unfold vU at h
   rw [Bool.not_eq_true,Bool.not_eq_false',List.contains_iff_mem] at h
   refine ae (He.mp h) λi hi e=> ?_
   have hi:=Hu.mp hi
   refine e▸?_
   exact ih i hi (by lia)
noncomputable def Bc (w:List Nat):Nat:=(if 0∈w then 1 else 0)+((if 1∈w then 2 else 0)+(if 2∈w then 4 else 0))
theorem nP {w:List Nat}(hw:∀j∈w,j < 3):Bc w < 8/\∀j,j∈lL (Bc w)↔j∈w:=by
 have:=(by decide+kernel:∀b0 b1 b2:Bool,((if b0=true then 1 else 0)+((if b1=true then 2 else 0)+(if b2=true then 4 else 0)) < 8)/\∀j,j < 3->(j∈lL ((if b0=true then 1 else 0)+((if b1=true then 2 else 0)+(if b2=true then 4 else 0)))↔[b0,b1,b2].getD j false=true)) (decide (0∈w)) (decide (1∈w)) (decide (2∈w))
 simp only [H5] at this
 refine⟨this.1,λj=> ?_⟩
 by_cases hj:j < 3
 ·refine(this.2 j hj).trans ?_
  match j,hj with
  |0,_=>exact KH
  |1,_=>exact KH
  |2,_=>exact KH
 ·exact⟨λh=>absurd (Hu.mp (HG.mp h).1) hj,λh=>absurd (hw j h) hj⟩
theorem sU (cs:List Int){w:List Nat}(hw:∀j∈w,j < 3):bJ cs w∈a5 cs:=by
 refine(mq cs (nP hw).2)▸?_
 exact wj cs _ (nP hw).1
theorem iG (cs:List Int){w:List Nat}{j:Nat}(hj:j < 3):dm cs (bJ cs w) j=true↔∀x < 4,∀y < 4,jV cs w x y->cR cs j x=cR cs j y:=by
 unfold dm
 rw [(mq cs λi=>by rw [o5 j hj]),Hw]
 simp only [List.contains_iff_mem,eR]
 constructor
 ·intro h x hx y hy ha
  rcases(by decide+kernel:∀x,x < 4->∀y,y < 4->x=y\/(x,y)∈kJ\/(y,x)∈kJ) x hx y hy with q |q |q
  ·rw [q]
  ·exact(h (x,y) ⟨q,ha⟩).2 j (Hi.mpr rfl)
  ·exact((h (y,x) ⟨q,λi hi=>(ha i hi).symm⟩).2 j (Hi.mpr rfl)).symm
 ·intro h e he
  have h4:=(by decide+kernel:∀e∈kJ,e.1 < 4/\e.2 < 4) e he.1
  refine⟨he.1,λi hi=> ?_⟩
  refine(Hi.mp hi)▸?_
  exact h _ h4.1 _ h4.2 he.2
theorem Cy (cs:List Int)(ψ:List Nat->Int){w:List Nat}(hw:∀j∈w,j < 3){p:List Nat}(hp:dN p):Dn cs (aJ cs (bJ cs w)) (λp=>ψ (c8 cs w p)) p=
 (if dm cs (bJ cs w) 0 then 0 else wJ cs 0)*ψ (c8 cs (w ++ [0]) p)+(if dm cs (bJ cs w) 1 then 0 else wJ cs 1)*ψ (c8 cs (w ++ [1]) p)+(if dm cs (bJ cs w) 2 then 0 else wJ cs 2)*ψ (c8 cs (w ++ [2]) p):=by
 have e:∀j,c8 cs w (gI cs j p)=c8 cs (w ++ [j]) p:=λj=>(gO cs w [j] p).symm
 have d:∀j,j < 3->dm cs (bJ cs w) j=true->c8 cs (w ++ [j]) p=c8 cs w p:=λj hj h=>qw cs hp hw hj ((iG cs hj).mp h)
 unfold Dn aJ
 dsimp only
 simp only [tG,e]
 have d0:=d 0 (by decide)
 have d1:=d 1 (by decide)
 have d2:=d 2 (by decide)
 generalize wJ cs 0=a
 generalize wJ cs 1=b
 generalize wJ cs 2=c
 cases h0:dm cs (bJ cs w) 0 <;> cases h1:dm cs (bJ cs w) 1 <;> cases h2:dm cs (bJ cs w) 2 <;>
  simp only [h0,h1,h2,Kw,JL,forall_const,IH,false_implies] at d0 d1 d2 ⊢<;>
  (try rw [d0]) <;> (try rw [d1]) <;> (try rw [d2]) <;> grind
theorem nW (cs:List Int)(ψ:List Nat->Int){w:List Nat}(hw:∀j∈w,j < 3){fs:List (List (Nat×Nat))}(hf:bJ cs w∈fs)(H:∀j,j < 3->dm cs (bJ cs w) j=false->∀p,dN p->lU cs (fs.erase (bJ cs w)) (λp=>ψ (c8 cs (w ++ [j]) p)) p=0):
 ∀p,dN p->lU cs fs (λp=>ψ (c8 cs w p)) p=0:=by
 intro p hp
 rw [x8 cs ((List.perm_cons_erase hf).trans (Jo (l₁:=[bJ cs w])))]
 show lU cs (fs.erase (bJ cs w) ++ [bJ cs w]) _ p=0
 have e1:∀ψ:List Nat->Int,lU cs (fs.erase (bJ cs w) ++ [bJ cs w]) ψ=lU cs (fs.erase (bJ cs w)) (Dn cs (aJ cs (bJ cs w)) ψ):=λψ=>List.foldr_append ..
 rw [e1,vy cs (λp hp=>Cy cs ψ hw hp) _ p hp,zv]
 have z:∀j,j < 3->(if dm cs (bJ cs w) j=true then 0 else wJ cs j)*lU cs (fs.erase (bJ cs w)) (λp=>ψ (c8 cs (w ++ [j]) p)) p=0:=λj hj=>by
  cases h:dm cs (bJ cs w) j with
  |true=>rw [if_pos rfl,Int.zero_mul]
  |false=>rw [H j hj h p hp,Jp]
 show _+_+_=(0:Int)
 simp only [z 0 (by decide),z 1 (by decide),z 2 (by decide)]
 rfl
theorem kill (cs:List Int)(ψ:List Nat->Int):∀(n:Nat)(w:List Nat),(∀j∈w,j < 3)->w.Nodup->3<=w.length+n->∀fs:List (List (Nat×Nat)),(∀f∈a5 cs,(∀e∈f,e∈bJ cs w)->f∈fs)->∀p,dN p->lU cs fs (λp=>ψ (c8 cs w p)) p=0:=by
 intro n
 induction n with
 |zero=>
  intro w hw hn hl fs QR
  refine nW cs ψ hw (QR _ (sU cs hw) λ_ h=>h) λj hj h=> ?_
  exfalso
  have Sj:j∉w:=λq=>by
   have:=(iG cs hj (w:=w)).mpr λx _ y _ ha=>ha j q
   replace this:=h▸this;cases this
  have:=dW (L:=[0,1,2]) (Ht.mpr ⟨Sj,hn⟩) λx hx=>by
   have:x < 3:=by
    rcases Hf.mp hx with rfl |hx
    ·exact hj
    ·exact hw x hx
   simp only [Hf,HH,It]
   lia
  simp only [Hv,H0] at this
  lia
 |succ n ih=>
  intro w hw hn hl fs QR
  refine nW cs ψ hw (QR _ (sU cs hw) λ_ h=>h) λj hj h=> ?_
  have Sj:j∉w:=λq=>by
   have:=(iG cs hj (w:=w)).mpr λx _ y _ ha=>ha j q
   replace this:=h▸this;cases this
  refine ih (w ++ [j]) (λi hi=> ?_) (IP.mpr ⟨hn,by simp,λa ha b hb=> ?_⟩) (by rw [HF];simp only [Hv,H0];lia) _ λf hf hs=> ?_
  ·rcases HA.mp hi with hi |hi
   ·exact hw i hi
   ·rw [Hi.mp hi];exact hj
  ·rw [Hi.mp hb]
   exact λq=>Sj (q▸ha)
  ·have MU:∀e∈bJ cs (w ++ [j]),e∈bJ cs w:=λe he=>by
    have:=eR.mp he
    exact eR.mpr ⟨this.1,λi hi=>this.2 i (HI _ hi)⟩
   refine(List.mem_erase_of_ne λq=> ?_).mpr (QR f hf λe he=>MU e (hs e he))
   have:dm cs (bJ cs w) j=true:=(iG cs hj).mpr λx hx y hy ha=>by
    rcases(by decide+kernel:∀x,x < 4->∀y,y < 4->x=y\/(x,y)∈kJ\/(y,x)∈kJ) x hx y hy with r |r |r
    ·rw [r]
    ·exact(eR.mp (hs (x,y) (q▸eR.mpr ⟨r,ha⟩))).2 j (HT _ (Hi.mpr rfl))
    ·exact((eR.mp (hs (y,x) (q▸eR.mpr ⟨r,λi hi=>(ha i hi).symm⟩))).2 j (HT _ (Hi.mpr rfl))).symm
   replace this:=h▸this;cases this
theorem EE (cs:List Int)(ψ:List Nat->Int)(fs:List (List (Nat×Nat)))(h:∀f∈a5 cs,f∈fs):∀p,dN p->lU cs fs ψ p=0:=
 kill cs ψ 3 [] (λ_ h=>nomatch h) JT (by decide) fs λf hf _=>h f hf
theorem uI (cs:List Int)(S:LS):cX cs S 8=(cM cs).foldl (λh fl=>eC S (aJ cs fl) h) h0:=by
 unfold cX
 rw [HQ (qo cs)]
theorem ya (cs:List Int){S:LS}(B:Bk S)(hz:("abcd":Str)∈S.line)(P:∀φ h:Str->Int,(S.line.map λg=>φ g*(cM cs).foldl (λh fl=>eC S (aJ cs fl) h) h g).sum=(S.line.map λo=>(cM cs).foldr (λfl φ=>yB cs (aJ cs fl) φ) φ o*h o).sum):∀o∈S.line,cX cs S 8 o=0:=by
 intro g hg
 have hp:=P (λo=>if o=g then 1 else 0) h0
 rw [uI]
 have e1:(S.line.map λx=>(if x=g then 1 else 0)*(cM cs).foldl (λh fl=>eC S (aJ cs fl) h) h0 x).sum=(cM cs).foldl (λh fl=>eC S (aJ cs fl) h) h0 g:=by
  have e2:∀x,(if x=g then(1:Int) else 0)*(cM cs).foldl (λh fl=>eC S (aJ cs fl) h) h0 x=if x=g then(cM cs).foldl (λh fl=>eC S (aJ cs fl) h) h0 x else 0:=λx=>by
   split
   ·exact Int.one_mul _
   ·exact Int.zero_mul _
  rw [a8 λx _=>e2 x]
  exact gi _ B.nd hg
 rw [e1] at hp
 rw [hp]
 have e3:∀x:Str,(cM cs).foldr (λfl φ=>yB cs (aJ cs fl) φ) (λo=>if o=g then 1 else 0) x*h0 x=if x="abcd" then(cM cs).foldr (λfl φ=>yB cs (aJ cs fl) φ) (λo=>if o=g then 1 else 0) x else 0:=λx=>by
  unfold h0
  simp only [Ip]
  split
  ·exact IV _
  ·exact Jp _
 rw [a8 λx _=>e3 x,gi _ B.nd hz,qc,(wI cs (λo=>if o=g then 1 else 0) (cM cs) _ iX)]
 exact(EE cs (λp=>if d6 p=g then 1 else 0) (cM cs) λf hf=>qb.mpr hf) _ iX
theorem qN (cs:List Int):∀o∈(LE cs).line,cX cs (LE cs) 8 o=0:=ya cs (iO cs) (Sk.pD cs 24).z λφ h=>vr cs (cM cs) φ h
theorem yI (x y:Str):(x ++ y).cps.toList=x.cps.toList ++ y.cps.toList:=by
 show (x.cps ++ y.cps).toList=_
 simp
theorem zO:∀n,n < 27->iH (((rD.getD n 0).toNat:Nat):Int)=true:=by decide+kernel
theorem uw (t:Str)(d:Int):∃A B x,(fH t d).cps.toList=A ++ x::B/\A ++ B=t.cps.toList/\((A.length:Nat):Int)=cW t d/\iH ((x:Nat):Int)=true:=by
 have hlen:t.length=t.cps.toList.length:=rfl
 have h0:=HZ d (b:=(t.length:Int)+1) (by lia)
 have h1:=Ii d (b:=(t.length:Int)+1) (by omega)
 obtain⟨pl,hp⟩:∃pl:Nat,cW t d=(pl:Int):=⟨(cW t d).toNat,Int.eq_natCast_toNat.mpr h0⟩
 have LU:pl<=t.cps.toList.length:=by
  have:cW t d=d.fmod ((t.length:Int)+1):=rfl
  omega
 have hn:((d.fdiv 3).fmod 27).toNat < 27:=by
  have h3:=Ii (d.fdiv 3) (b:=27) (by decide)
  omega
 refine⟨t.cps.toList.take pl,t.cps.toList.drop pl,(rD.getD ((d.fdiv 3).fmod 27).toNat 0).toNat,?_,II _ _,?_,zO _ hn⟩
 ·unfold fH wO
  simp only [yI,hp,ni,jk,ip]
  simp
 ·rw [H8,I0 LU];exact hp.symm
theorem oU {L:List Nat}(q:Nat->Bool){α:Type}(f:Nat->α):((List.range L.length).filter λi=>q (L.getD i 0)).map (λi=>f (L.getD i 0))=(L.filter q).map f:=by
 have e:L=(List.range L.length).map λi=>L.getD i 0:=by
  refine List.ext_getElem (by simp) λi h1 h2=> ?_
  simp_all
 conv=>rhs;rw [e,Lc,Hq]
 rfl
noncomputable abbrev fw (n f:Nat):List Nat:=(wordAt n f).cps.toList
theorem q9:∀n,n < 6->∀f,f < 4->∀c∈fw n f,iH ((c:Nat):Int)=false:=by decide+kernel
noncomputable def pS (c:Nat):Str:=j6 z7 (Internal.s1 c)
theorem oL:((List.range 6).all λn=>(List.range 4).all λf=>(fw n f).flatMap (λc=>(pS c).cps.toList)==fw n 0)=true:=by rfl
theorem qf:((List.range 6).all λn=>(List.range 4).all λf=>Nat.ble ((fw n f).map λc=>(pS c).length).sum 100 && Nat.ble (fw n f).length 2)=true:=by rfl
structure FW (n f:Nat)(d:Int):Prop where
 size:(fH (wordAt n f) d).cps.size<=100
 sum:((fv z7 (fH (wordAt n f) d)).map (·.length)).sum<=10000
 word:Txt.join "" (fv z7 (fH (wordAt n f) d))=wordAt n 0
 place:∀j:Nat,j < (fH (wordAt n f) d).cps.size->(bX (fH (wordAt n f) d)).getD j false=((j:Int)==cW (wordAt n f) d)
theorem FI {n f:Nat}(hn:n < 6)(hf:f < 4)(d:Int):FW n f d:=by
 have hb:=q9 n hn f hf
 have R2:(fw n f).flatMap (λc=>(pS c).cps.toList)=fw n 0:=JH (Hw.mp (Hw.mp oL n (Hu.mpr hn)) f (Hu.mpr hf))
 have hle:=Hw.mp (Hw.mp qf n (Hu.mpr hn)) f (Hu.mpr hf)
 simp only [HO] at hle
 have NW:=Ho hle.1
 have Pb:=Ho hle.2
 refine gm (uw (wordAt n f) d) λA B x e1 e2 e3 e4=> ?_
 unfold fw at hb R2 NW Pb
 rw [<-e2] at hb R2 NW Pb
 have L9:(fH (wordAt n f) d).cps.size=(A ++ x::B).length:=by refine e1▸?_;rfl
 have MJ:∀j,(fH (wordAt n f) d).cps.getD j 0=(A ++ x::B).getD j 0:=λj=>by
  simp only [<-e1,List.getD_eq_getElem?_getD,Array.getElem?_toList,Array.getD_eq_getD_getElem?]
 generalize Nc:fH (wordAt n f) d=ty at e1 L9 MJ
 have htg:∀j,j < (A ++ x::B).length->(bX ty).getD j false=iH (((A ++ x::B).getD j 0:Nat):Int):=λj hj=>by
  simp only [(by unfold bX;rw [e1]:bX ty=(A ++ x::B).map λ(c:Nat)=>iH (c:Int)),List.getD_eq_getElem?_getD,List.getElem?_map,List.getD_eq_getElem?_getD,List.getElem?_eq_getElem hj]
  rfl
 have R5:(A ++ x::B).filter (λc=> !iH ((c:Nat):Int))=A ++ B:=by
  rw [Kx,IF,if_neg (by simp [e4])]
  rw [List.filter_eq_self.mpr λc hc=>by simp [hb c (HI _ hc)],List.filter_eq_self.mpr λc hc=>by simp [hb c (HT _ hc)]]
 have Ox:fv z7 ty=(A ++ B).map pS:=by
  refine R5▸(oU (L:=A ++ x::B) (λc=> !iH ((c:Nat):Int)) pS)▸?_
  unfold fv
  rw [L9,List.filter_congr λi hi=>by rw [htg i (Hu.mp hi)]]
  exact HY λi _=>by rw [MJ];rfl
 refine⟨?_,?_,?_,λj hj=> ?_⟩
 ·rw [Nc,L9]
  simp only [HF,Hv] at Pb ⊢
  lia
 ·simp only [Nc,Ox,Hq]
  exact Hg NW (by decide)
 ·refine kR ?_
  simp only [Nc,A6,Ox,Hq,<-R2]
  exact List.flatMap_def.symm
 ·rw [Nc,L9] at hj
  rw [Nc,htg j hj,<-e3,List.getD_eq_getElem?_getD]
  by_cases h:j < A.length
  ·rw [List.getElem?_append_left h,List.getElem?_eq_getElem h]
   rw [show iH (((some A[j]).getD 0:Nat):Int)=false from hb _ (HI _ (IG h))]
   exact(HC (by omega)).symm
  ·rw [List.getElem?_append_right (by omega)]
   by_cases h2:j=A.length
   ·refine h2▸?_
    rw [Nat.sub_self]
    show iH ((x:Nat):Int)=_
    rw [e4];simp
   ·obtain⟨k,hk⟩:∃k,j - A.length=k+1:=⟨j - A.length - 1,by lia⟩
    rw [hk,List.getElem?_cons_succ]
    have Td:k < B.length:=by
     simp only [HF,Hv] at hj
     omega
    rw [List.getElem?_eq_getElem Td,show iH (((some B[k]).getD 0:Nat):Int)=false from hb _ (HT _ (IG Td))]
    exact(HC (by lia)).symm
theorem C0 (cs:List Int):qR z7 cs:=by
 have h:=λi=>FI (jq (cs.getD 0 0) i).1 (nR (cs.getD 0 0) i).1 (n9 (cs.getD 0 0) i)
 exact⟨λi _=>(h i).size,λi _=>(h i).sum,λi _=>(h i).word,λi _=>(h i).place⟩
theorem facts (cs:List Int)(hc:cs.length=6):Facts z7 cs:=
 ⟨hc,C0 cs,λj hj=>ye cs hj,sJ cs,(iO cs).nd,zK cs,xd cs,Au cs,qN cs⟩
set_option maxRecDepth 100000
theorem Fn:E8 (C1 w vs os):=⟨⟨_,x7,rfl,rfl,rfl,by rfl,rfl⟩,(55,51,"add_callers.<locals>.<genexpr>"),by show _∈mD;simp,rfl,by rfl⟩
theorem zl:n7 (C1 w vs os):=⟨(181,179,"law.<locals>.<lambda>"),by show _∈mD;simp,rfl,by rfl⟩
theorem vM {l:List Env}{fa:Addr}{fd:FuncData}{body:List Stmt}{args:Args}{binds:List (Str×Value)}{q:List (Str×PV)}{Q:Value->Shared->Prop}
 (ok:C.Ok)(F:FnAt C fa fd body)(g:Gd C W s)(K':∀x∈own,x.1∈W/\dO C W s.heap x.1 x.2/\x.1∉C.aq)
 (rm:ak A (k+1))(Mj:BindsTo s fd args binds)(rep:dy C W s.heap binds q)(nd:(binds.map (·.1)).Nodup)
 (hk:∀x∈binds,fd.scope.names.lookup x.1=some .local\/fd.scope.names.lookup x.1=some .cell)
 (ME:A.frames=some l)
 (Mg:∀L env J,s.heap.objs.size<=L->env.frame=some env.locals->St C (L::W) (lC fd) own (aC q) env J->Bs C (own.map (·.1)) (iq fd) s own env J->∀A',ak A' k->A'.frames=some (env::l)->
  wpAny C.M A' (execs body env) (λf Lv=>Q (match f with | .ret v=>v |_=> .none) Lv) (λ_ _=>False) J):
 wpAny C.M A (call (.ref fa) args.pos args.kw) Q E s:=by
 refine ae F.obj λo ho hd=> ?_
 refine K0 ?_
 show codeAny C.M A (.call (.ref fa) args) _ s
 refine J9 (Hn (IX (HN _ _) rm.depth) (by decide)) (g.inv.old _ _ F.fa ho) hd F.co F.gen F.body (g.inv.oI F.code F.noTab) (Mj _ _ _ _ ?_)
 refine F.clos▸?_
 have LI:∀x,fd.scope.names.lookup x=some .cell->((cellsFrom (s.heap.objs.size+1) fd.scope.names []).lookup x).isSome=true:=λx hx=>by
  refine cz (aY (n:=s.heap.objs.size+1) (acc:=[]) (HX hx)) λc hc=> ?_
  obtain⟨d,hd⟩:=aH hc
  refine hd▸?_;rfl
 refine JA F.kind (λx hx=>(hk x hx).imp id λh=>⟨h,LI _ h⟩) λenv he J x=> ?_
 subst he
 have X:St C (s.heap.objs.size::W) (lC fd) own (aC q) (callEnvC fd s.heap.objs.size fa) J:=
  St.enter g K' rfl F.glob F.blt F.kind nd rep (λx hx=>F.free _ (HX hx) rfl) LI x
 have B:Bs C (own.map (·.1)) (iq fd) s own (callEnvC fd s.heap.objs.size fa) J:=by
  refine⟨(ix (C:=C) x).up,⟨g.inv.beyond (Hh _),.inl (Hh _)⟩,λy c _ _ hc=> ?_,λy hy=>⟨g.new _ (K' y hy).1,.inr (He.mpr ⟨y,hy,rfl⟩)⟩⟩
  have:=bV (HX hc)
  exact⟨g.inv.beyond (HM this),.inl (HM this)⟩
 refine⟨X.inv.nolimit ok,codeAny_func (Hb (Mg _ _ J (Hh _) rfl X B _ (rm.deeper _) (Around.frames_deeper ME)) (λf Lv h=>h) λ_ _ q=>q.elim)⟩
theorem sR {P:Addr->List DictEntry->List (Str×Value)->Prop}{N:Addr->Prop}{h:Heap}:∀{vs:List Value}{ns:List Int},IntsAre vs ns->aQ P N h vs (ns.map .int)
 |_,[],x=>by cases x;rfl
 |_,n::ns,x=>by
  cases x with
  |cons _ t y=>exact⟨_,_,rfl,⟨t,rfl⟩,sR y⟩
theorem uX (h:∀ns:List Int,ns.length<=63->Facts z7 (cellsOf ns)):sS pw H1 2387 182:=by
 intro w ns vs f' hn hI hh hg ht
 have hi:Inv (C1 w vs f'.os) f':=i7 hh hg
 have Vi:Gd (C1 w vs f'.os) [] f':=⟨hi,(λa ha=>by
  rcases ha with ha |ha
  ·exact hi.fV a ha
  ·cases ha),by simp⟩
 have hz:(H1 w.params).objs.size=183:=by rfl
 have hl:f'.heap.get? 183=some (ao vs 0):=by
  rw [hh]
  have:=Heap.get?_push_size (H1 w.params) (o:=ao vs 0) rfl
  rw [hz] at this
  exact this
 refine hz▸?_
 have hr:dy (C1 w vs f'.os) [] f'.heap [("script",.ref 183)] [("script",.lst (ns.map .int))]:=
  .cons ⟨183,vs,0,rfl,(λq=>by
   rcases q with q |q
   ·have:¬(183:Nat)∈[51,172,179]:=by decide
    exact this q
   ·cases q),hl,sR hI⟩ .nil
 refine vM (l:=[]) (k:=100) (own:=[]) (args:=⟨[.ref 183],[]⟩) Gg yT Vi (by grind) (⟨rfl,by decide,by decide⟩) (BindsTo.of_eq (by rfl)) hr (by decide) ?_ rfl ?_
 ·intro x hx
  refine(Hi.mp hx)▸?_
  exact .inl (rfl)
 ·intro L env J hL RF X B A' L5 ME
  refine uW (k:=94) G0 GP FJ Fn zl hn (h ns hn) L5 X B λW v Lv i _ r=> ?_
  have:=i.oldK
  refine⟨r,?_,i.os,i.gens⟩
  rw [hh]
  exact this
end Mine.Internal
set_option maxRecDepth 100000 in
set_option maxHeartbeats 8000000 in
theorem PySem.Challenge.cw_xh0048_02_holds : PySem.Challenge.rw_xh0048_02.Holds :=
 Mine.Internal.u9 (Mine.Internal.AN (Mine.Internal.uX λns _=>Mine.Internal.facts _ (Mine.Internal.kB _ _)))
