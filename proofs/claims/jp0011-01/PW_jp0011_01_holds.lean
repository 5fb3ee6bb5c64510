import PyProof.Rows.All
import Wide.All
import OpenK.AllK
import Wide.FinOn
import KE.KNestM
import Lean
import PySem.Challenge.RW_jp0011_01
open PySem PySem.W PyProof.Rows
set_option compiler.extract_closed false
set_option Elab.async false
set_option autoImplicit false
set_option linter.all false
set_option maxRecDepth 100000
set_option maxHeartbeats 8000000
set_option genInjectivity false
set_option genSizeOf false
open PySem renaming wpAny_bind->Og,wpAny_pure->Oi,Expr->Ol,Shared->On,Value->Oq,wpAny_mono->Ot,model->Ov,wpAny->Oz,starEach->OC,wpAny_holding->ON,Addr->OO,Builtin->OT,foldedSetIterable->OU,keywordEach->OY,bootBuiltins->OZ,Heap->O0,SetTable->O4,Around->O6,builtinsNs->O7,wpAny_call_entry->O9,codeAny_mono->Pb,wpAny_of_eq->Pc,wpAny_execs_cons->Pe,NameKind->Pk,wpAny_execs_nil->Po,attributeBase->Pq,wpAny_askSetting->Ps,wpAny_Call_NameR->Pu,mainGlobals->PF,wpAny_standAt->Py,backToKw->Pz,codeAny_builtin->PC,compareOp->PH,wpAny_setState_of->PM,wpAny_callSpecial?_slot->PN,eval->PX,sizeLine_eq->P7,swapsWith->P8,Arguments->P9,standAt->Qb,rawInt->Qd,Comprehension->Qi,holding->Qo,backTo->Qr,wpAny_setField_rec->Qu,wpAny_newObj_type->Qy,intKind_is->Qz,letOwnedTupleGo->QB,DictEntry->QD,wpAny_rule->QL,wpAny_isInstance->QM,letTemporaryGo->QT,isSubtype_type->QU,GenState->QZ,seg_bind_wrap->Q8,plainId_quiet->Q9,codeAny->Ra,FuncData->Rb,intKind->Rf,binaryOp->Rj,wpAny_assign_Name->Rn,wpAny_Name->Ro,wpAny_Assign_Name->Rp,callWith->Rq,recursionLimit->Rz,getMethod->RD,cellsFrom->RJ,subscripted->RQ,wpAny_call->RU,sysModules->Sp,Stmt->RV,codeAny_of_tree->R4,Operator->R5,Callee->aaC,Scope->Sj,pyNext->Sk,wpAny_truthy_bool->Sn,wpAny_storeSet_of->So,firstArgMember->Ss,wpAny_isTrue_Compare1->Sy,codeAny_call_function->Sz,callSpecialIfBoundUnlessNone?->SF,codeAny_call_builtin->SM,behindInMarks->SR,unsupported->SY,importedModules->aaL,sizeLine->Sr,constantsAlone->Tc,wpAny_setEpoch_of->Th,pyIter->Ti,wpAny_list_append_plain->Tr,wpAny_field->Ts,wpAny_attempt->Tt,wpAny_alloc->Tu,slot_gen_next->Tv,treeTable->aaP,storeName->TN,relabel->TO,compTurn->TZ,wpAny_loadName_local->T5,World->We,wpAny_fieldsOf->Ud,wpAny_Expr_any->Ue,entryFor_alias->Uf,dunder->Ug,wpAny_setEntries_of->Um,wpAny_point->Uo,getAttr->Up,wpAny_Call_Name_kw->UA,methodCallPos->UB,isSeqSlot->UC,comprehension->UD,IsEnum->UG,setItem->UV,call_meets->UW,BindsTo->U1,wpAny_typeOf->U2,sub_set_self->U3,slotAt->aaE,codeAny_func->U4,Call_method1->U9,noFill_tuple_add->Vb,wpAny_throw->Vj,wpAny_ite_split->Vk,wpAny_For->Vl,theTreesLotGoes->Vm,setGen_self->Vo,pickOrder->Vp,interactive->Vq,genEnv->Vr,fillsNumberSlot->Vs,PyData->Vt,Program->aay,wpAny_runValue->VG,wpAny_binaryOp_repeat_ref->VH,isSubtype_stop->VI,execs->VJ,typeIs_int->VS,methodCall->VT,wpAny_newList->V2,wpAny_handled->V3,wpAny_If->V4,spliced->V7,seq_tuple_add->V8,runValue->V9,evalAll->Wa,entryFor->Wb,bindArgs->Wc,Slot->Wg,Flow->Wv,wpAny_Assign_Subscript->Ww,Code->WA,wpAny_storeName_local->WD,weight_type_call_type->WE,seqIndex?->WF,noteFrame->WG,int___rmul___int_list->WH,exec_Assign_Name_used->WJ,concat_meets->WK,builtinLookup_eq_fast->WL,assign->WM,IsEnumOut->W0
open Option.some renaming inj->Oh,injEq->Vc
open Option renaming some->Oj,bind->Oy,map->Ox,bind_eq_some_iff->OH,map_eq_some_iff->O3,isSome->PV,some_ne_none->PY,isSome_iff_exists->P0,bind_some->QW,map_some->Rx,getD_some->Uh,isNone_iff_eq_none->UO,elim->VC,getD_none->Wh
open Nat renaming le_trans->Op,lt_of_lt_of_le->OL,lt_of_le_of_lt->OW,le_of_eq->O2,succ_add_eq_add_succ->aaF,zero_add->O1,le_refl->O5,le_of_lt_succ->aaJ,ne_of_lt->Px,pow_le_pow_right->PO,lt_succ_self->PZ,ne_of_gt->Qh,le_of_ble_eq_true->P5,lt_add_of_pos_right->aaG,le_add_left->Qc,le_of_lt->Qp,lt_trans->QX,not_lt->R8,le_add_right->Rt,mod_two_eq_zero_or_one->QC,succ_le_succ->Q6,mod_lt->QE,zero_le->QJ,le_succ->QK,succ_pos->Rg,lt_succ_of_le->aaR,ble->Rv,add_le_add_left->Rw,or_lt_two_pow->R6,one_shiftLeft->R7,lt_succ_of_lt->R9,shiftRight->Se,mul_le_mul_right->Su,eq_of_testBit_eq->Sv,add_le_add_right->TE,add_right_comm->SW,add_comm->SX,min_eq_right->Tf,testBit_lt_two_pow->Tk,two_pow_pos->Tw,min_eq_left->Tx,le_antisymm->aaO,pow_lt_pow_right->TD,mul_le_mul_left->TV,add_sub_cancel'->TW,lt_irrefl->T7,add_assoc->T8,le_succ_of_le->aaS,add_zero->Uv,land->UP,and_le_left->UZ,sub_lt_right_of_lt_add->U7,testBit_or->Vd,add_le_add->aaV,le_total->VK,sub_eq_of_eq_add->aaY,zero_or->Wm,testBit_two_pow->Wn,pos_of_ne_zero->Wy,le_of_succ_le->WQ,add_left_comm->WR
open PySem.Heap renaming get?_push_of_some->Om,get?_push_size->OB,SameBut->OE,get?_none_of_le->OX,lt_size->Pl,get?_update_self->Pm,size_push->Sc,ExtBut->SE,get?_update_other->Vx
open _root_.List renaming range->Oo,all_eq_true->Ou,length_map->OA,mem_range->OF,mem_cons->OG,size_toArray->OI,mem_singleton->OJ,mem_map->OM,getElem?_eq_getElem->OP,replicate->OS,mem_flatMap->OV,length_append->Pd,getD_eq_getElem?_getD->Pg,getElem?_eq_some_iff->Pn,mem_cons_of_mem->Pp,nodup_cons->PI,map_append->PJ,getElem?_toArray->P4,cons->Qa,lookup_cons->Qe,length_cons->Qf,length_range->Ql,mem_append_right->Qn,mem_of_getElem?->Qs,getElem?_map->Qw,ne_and_not_mem_of_not_mem_cons->Qx,mem_cons_self->QG,length_singleton->P1,mem_append_left->QO,append_nil->QQ,append_assoc->QR,map_congr_left->QY,eq_nil_of_length_eq_zero->Q3,any_eq_true->Q4,mem_append->Rd,contains_iff_mem->Re,sum_cons->Rk,map_inj_left->Rl,nodup_nil->Sa,all_cons->RM,take_of_length_le->R1,toArray->Sf,map_map->Sg,length_filter_le->Sh,length_drop->Sl,map_cons->Sw,mem_filter->SA,pairwise_cons->SU,getElem?_set->S5,Perm->S6,not_mem_nil->Td,forIn_cons->Tn,range'->TK,length->TL,append_toArray->TM,zip_cons_cons->T1,any_cons->T2,flatten_replicate_singleton->T9,push_toArray->Ui,nodup_append->Uj,any_eq_false->Uk,all_nil->Uq,nodup_range->Uw,map_fst_zip->Ux,isEmpty_iff->Uy,getElem_mem->Uz,foldl_cons->UR,forIn_nil->U8,filterMap_cons_some->Ve,ne_of_not_mem_cons->Vf,map->Wp,length_eq_zero_iff->Vg,drop_of_length_le->Vu,getElem?_eq_none->VD,mem_iff_getElem->VM,getElem?_append->VN,toList_toArray->VY,zip_nil_right->Wo,lookup_append->Wq,find?_eq_none->Wr,contains_cons->Ws,getElem?_inj->Wz,mem_toArray->WT,map_snd_zip->WU,length_take->WV,isEmpty_nil->WW,filter_cons->WX,any_toArray->WY
open Bool renaming false_ne_true->OD,and_eq_true_iff->OR,false_eq_true->PP,and_eq_true->Qg,false_or->Qm,noConfusion->Qq,eq_iff_iff->QS,or_eq_true->Tq,true_and->T4,or_eq_true_iff->aaZ
open Exists renaming imp->OQ
open Prod.mk renaming inj->Pa
open PySem.Challenge renaming pw_jp0011_01->QN,rw_jp0011_01->aaH
open List.cons renaming inj->O8
open PySem.Heap.SameBut renaming update->Ph,refl->Ru
open PySem.Builtin.Frozenset renaming addrOf->Pj,updateFrom->QI,intersection->Tb,manyOthers->Tg,unchanged->Tl,newClass->Tp,slot0->W1,sizeOf->W2,oneOther->W3,isAnySet->W4,copyOf->W5,baseOf->W6
open Int renaming ofNat_lt->PS,natCast_nonneg->PT,eq_ofNat_of_zero_le->Q1,ofNat_le->Rh,le_trans->Ry,toNat_natCast->Rm,ofNat->SH,lt_of_lt_of_le->aaQ,le_of_lt->aa1,not_lt->aa3,toNat->Ub,add_sub_cancel->aa2,lt_trans->aaT,zero_add->aa5,toNat_of_nonneg->Wt,natAbs_ne_zero->aa4,lt_of_le_of_lt->aa0
open PySem.F renaming called_enumerate->Pw,called_set->PW,slot_enumerate_next->Sq,args_tuple_add_2->SS,entry_tuple_add->S2,slot_tuple_add->S9,plainAttrs_set->To,slot_int_rmul->TF,plainAttrs_list->UI,entry_type_call->UJ,slot_set_add->Vy,args_enumerate_next_1->VP,entry_enumerate_next->V1
open PySem.Value renaming none->PA,ref->PL,type->Q2,str->S1,isInt->S7,bool->Tm,isStr->UE,int->WN
open PyProof.Rows renaming callWith_type1->PB,spliced_more->PE,spliced_none->Qk,callWith_builtin1->QH,evalArgs_none->Q5,seqObj->Ri,AllBare->RR,getItem_tuple->TS,callWith_type->TU,Attribute_any_->Ul,lt_int->UM,le_int->UN,IntsAre->Vw,Subscript_->VV,tail_any->V5,subscriptTail->V6
open And renaming imp_right->PD,imp->SK,imp_left->TA
open PySem.Obj renaming mapSeq->PG,putSet->TB,data_mapDictKeys->VX,isFreed_of_dict->Wl
open PySem.NameKind renaming free->PQ,cell->Rc
open _root_.Array renaming getElem?_eq_getElem->PU,getElem?_setIfInBounds->Q7,getElem?_eq_none->RZ,getElem?_toList->Sd,getElem?_eq_some_iff->SJ,mk->aaN,mem_or_eq_of_mem_setIfInBounds->TC,not_mem_empty->TG,getElem?_size->TH,toList_inj->Us,getElem?_push_size->Va,getElem?_push_lt->Vi,length_toList->VQ,toList_map->WB,any_toList->WC
open Prod renaming mk->Qv,fst->Ta
open PySem.SetTable renaming sizeAbove->P6,laid->QP,toList_insertAt->SN,insertAt->TJ,grown->Ut,below->Uu,layClean->VB,fill->UL
open Eq renaming trans->Qj
open PySem.W renaming boot_heap->aaI,findIn->Q0,maskOf->aaB,instObj->R3,boot_drawn->aaK,cellsFrom_some->aaD,dictOf->S0,boot_toks->aaM,looks_findIn->TP,emptyDict->TQ,Looks->TY,any_some->T0,ownOf->UX,kitOne->VU
open PySem.Builtin.SmallTypes renaming nextOf->Qt,ownedTupleHandOut->SI,ownedTupleIsFree->SQ
open Classical renaming byContradiction->QA,propDecidable->UK,epsilon_spec->UT,epsilon->Vz,byCases->VA,choice->VF
open PySem.Str renaming ofString->QV
open Int.ofNat renaming inj->Rr
open ForInStep renaming yield->Rs
open PySem.Calls renaming callWith_builtin->RY,evalArgs_plain->Sm,spliced_cons->SP,spliced_nil->S3,Name_function_global->UU,call_function_entry->U0
open PySem.Builtin.Generator renaming genWake->R2
open PySem.Builtin.List renaming listTooLong->Sx,listFitsIndex->Si,listSameRef->Uc
open PySem.Sem renaming onRaise_eq_wrap->SG,bind_eq_wrap'->S8,wrap_wrap->T6
open Function renaming comp_def->SO
open PySem.Operator renaming info->SV,BitOr->Wj
open PySem.Expr renaming Name->S4
open Ne renaming symm->Te
open PySem.PyData renaming int->Tj
open PySem.AutoListH renaming list___mul___list_int_3->Tz
open PySem.W.WData renaming int->TR
open PySem.W.Looks renaming of_pure->TX
open PySem.Code renaming quiet_builtin->T3,compLoop->Vh
open Decidable renaming byContradiction->Ur
open PySem.W.OpenRow renaming toRowW->aaU
open PySem.Shared renaming setGen->U5,TypeIs->U6
open PySem.W.OpenLaw renaming row->aaW,wellSaid->aaX
open PySem.IsRange renaming new->Vv
open PySem.DictEntry renaming refKey->VE
open PyProof.Rows.F renaming entry_set_update_loop->VO
open PySem.Around renaming under_plain->VR
open PySem.P renaming iadd_int->VW
open List.Perm renaming refl->VZ
open PySem.Keeper renaming boundFrame->V0,machine->WZ
open PySem.Walks renaming list->Wf
open PySem.FuncBody renaming stmts->Wu
open PySem.pickOrder renaming go->Wx
open PySem.SeqRoads2.EqGives renaming str->WO
open Nat.succ renaming inj->WP
open PySem.BindsTo renaming of_eq->W7
open Option renaming some->W8,none->W9
namespace Mine
local macro_rules | `(command| def $n:declId $s:optDeclSig $v:declVal) => `(command| noncomputable def $n:declId $s:optDeclSig $v:declVal)
set_option genInjectivity true in
inductive V where
 |none
 |bool (b:Bool)
 |int (i:Int)
 |str (x:List Nat)
 |list (xs:List V)
 |tup (xs:List V)
 |set (xs:List Int)
 |dict (ks:List Int) (vs:List V)
 |inst (c:Nat) (fs:List V)
 |adr (a:OO)
 |any
 deriving Inhabited
inductive Slot where
 |loc
 |cell (n:Str)
 |own (i:Nat)
 |obj
inductive Fl where
 |next
 |cont
 |ret (t:V)
structure Cx where
 vars:List (Str×Nat)
 globs:List Str
 own:List Nat
 fre:List Nat:= []
 mn:List Str:= []
 caps:List Str:= []
 gen:Bool:=false
structure Az where
 cenv:Env
 body:List RV
 sn:Str
 c:Nat
 e:OO
 a:OO
 L:OO
 pa:OO
 pd:OO
 l:OO
 g:Nat
 fvs:List Oq
 vs:Array Oq
structure br where
 adr:Nat->OO
 names:Nat->List Str
 led:Bool
structure Cf (ag:aay) (w:We) where
 hb:O0
 K:Frag
 cls:br
 mg:Str->Option Oq
 mb:Str->Option Oq
 tabs:List (OO×OO)
def bP:List Str:= ["len","set","isinstance","int","all","any","list","range","enumerate","sorted","sum","max","min","abs","str"]
def LW (w:We):Bool:= !w.params.followText "set-order"
def ar (i:Nat):P9×List RV×Sj:=match QN.main.body[i]? with
 |some (.FunctionDef _ a b _ _ _ s _ _ _)=>(a,b,s)
 |_=>default
def aJ (i j:Nat):P9×List RV×Sj:=match QN.main.body[i]? with
 |some (.ClassDef _ _ _ b _ _ _ _ _ _ _)=>(match b[j]? with
  |some (.FunctionDef _ a b _ _ _ s _ _ _)=>(a,b,s)
  |_=>default)
 |_=>default
def fK:List (List Nat):= ["pareto","jr","pjr","ejr","ejr+","fjr","priceability","stable-priceability","core"].map λs:String=>(QV s).cps.toList
def b3:List (OO×OO):= [(29,25),(296,292),(309,307),(322,320),(445,441)]
def y4:Option Obj->Option Rb
 |some ⟨_,_,.func fd,_⟩=>W8 fd
 |_=>W9
def uH:Option Obj->Option (Array Oq)
 |some ⟨_,_,.fields vs,_⟩=>W8 vs
 |_=>W9
def Gp:Option Obj->Option (Array Oq)
 |some ⟨_,_,.seq vs _,_⟩=>W8 vs
 |_=>W9
def Gu:Oq->Option OO
 | .ref a=>W8 a
 |_=>W9
def Gl:Option Oq->Option Str
 |some (.str q _)=>W8 q
 |_=>W9
def jw (K:Frag)(f:OO):Rb:=(y4 (K.lookup f)).getD default
def Gr:V->Oq->Bool
 | .none,.none=>true
 | .bool b,.bool c=>b==c
 | .int i,.int j _=>i==j
 | .str x,.str y _=>decide (y=⟨x.toArray⟩)
 | .any,_=>true
 |_,_=>false
def tZ:List V->List Oq->Bool
 | [],[]=>true
 |x::xs,v::vs=>Gr x v&&tZ xs vs
 |_,_=>false
def Kb (K:Frag)(dfl:List V)(d:Oq):Bool:=match dfl,d with
 | [],.none=>true
 |_::_,.ref T=> !(b3.any (·.2==T))&&(Gp (K.lookup T)).any λvs=>tZ dfl vs.toList
 |_,_=>false
def CZ (K:Frag)(f:OO)(dfl:List V)(g:Bool):Bool:= !(b3.any (·.2==f))&&(y4 (K.lookup f)).any λfd=>((Gu fd.code).any λc=>
 !(b3.any (·.2==c))&&(!g ||b3.any (·.1==c))&&(uH (K.lookup c)).any λvs=>(Gl (vs[1]?:Option Oq)).any λq=>decide (q=fd.qualname))&&
 fd.closure.isEmpty&&fd.globals==PF&&fd.builtins==O7&&Kb K dfl fd.defaults
structure Ah (K:Frag) (a:OO) (ns:List Str):Prop where
 dict:(clsIn K a).any (·.hasDict)=true
 ga:Q0 K (.ref a) "__getattribute__"=W8 (W8 (.builtin "object.__getattribute__"))
 gk:Q0 K (.ref a) "__getattr__"=W8 W9
 nd:ns.Nodup
 own:ns.map (λx=>Q0 K (.ref a) x)=ns.map λ_=>W8 W9
 over:plainOver K a=true
 set:Q0 K (.ref a) "__setattr__"=W8 (W8 (.builtin "object.__setattr__"))
 makes:makesIn K a=true
 cls:Q0 K (.ref a) "__class__"=W8 (W8 (.builtin "object.__class__"))
 obj:mroIn K a (.type "object")=W8 true
 nInt:VU K (.type "int") (.ref a)=W8 false
 nList:VU K (.type "list") (.ref a)=W8 false
 isInt:VU K (.ref a) (.type "int")=W8 false
 first:selfFirst K a=true
 sub:subIn K (.type "int") (.ref a)=W8 false
def xH (K:Frag)(a:OO):List Oq×Nat:=match K.lookup a with
 |some ⟨_,_,.seq vs n,_⟩=>(vs.toList,n)
 |_=>([],0)
def FT:List (Str×OO×Nat×List V×Bool):= [("CandidateSet",30,2,[.any,.none],true),("powerset",46,4,[.none],false),("combinations",58,6,[],false),("total",213,8,[],false),("check",222,11,[.none,.any],false),("check_EJR",238,13,[.none,.any],false),("check_PJR",246,14,[.none,.any],false),("check_JR",254,15,[.none],false),("_check_JR",261,16,[],false),("_check_EJR_brute_force",275,18,[],false),("_check_PJR_brute_force",282,19,[],false),("check_EJR_plus",290,20,[.none],false),("_check_EJR_plus",297,21,[],true),("check_FJR",305,22,[.none,.any],false),("_check_FJR_brute_force",310,23,[],true),("check_core",318,24,[.none,.any],false),("_check_core_brute_force",323,25,[],true),("compute",344,28,[.none,.bool true],false),("apply_threshold",351,29,[],false),("within_quota",358,30,[],false),("largest_remainder",364,31,[.bool true],false),("divisor",370,32,[.bool true],false),("_divzero_fewerseatsthanparties",377,33,[],false),("quota",383,34,[.bool true],false),("_law_names",553,39,[],false),("_law_methods",560,40,[],false),("_law_quota",567,41,[],false),("law",572,42,[],false)]
def MT:List (Nat×Str×OO×Nat×Nat×List V×Bool):= [(0,"floor",87,7,2,[],false),(0,"ceil",94,7,3,[],false),(1,"approved_candidates",411,36,2,[],false),(1,"_unique_voter",425,36,4,[],false),(1,"add_voter",432,36,5,[],false),(1,"add_voters",439,36,6,[],false),(1,"total_weight",446,36,7,[],true),(1,"__getitem__",481,36,12,[],false),(0,"__init__",73,7,0,[.int 0,.int 1],false),(1,"__init__",396,36,0,[.none],false),(2,"__init__",524,37,0,[.int 1,.none],false)]
def tI:Nat->OO
 |0=>202
 |1=>505
 |_=>542
def fY:Nat->List Str
 |0=> ["numerator","denominator"]
 |1=> ["candidates","cand_names","_voters"]
 |_=> ["approved","weight"]
def zI:Option (Option Oq)->Option (Option Oq)->Bool
 |some fo,W8 ro=>(fo.isSome&& !UC fo) || (ro.isSome&& !UC ro)
 |_,_=>false
structure Kx (K:Frag):Prop where
 kT:(K.all λp=> !(b3.any (·.2==p.1)))=true
 tb:(b3.all λp=>codeHdIn K p.1 p.2)=true
 miss:bP.map (nsIn K PF)=bP.map λ_=>W8 W9
 fns:(FT.map λt=>(nsIn K PF t.1,CZ K t.2.1 t.2.2.2.1 t.2.2.2.2,(jw K t.2.1).body,(jw K t.2.1).scope,(jw K t.2.1).params))=FT.map λt=>(W8 (W8 (.ref t.2.1)),true,.stmts (ar t.2.2.1).2.1,(ar t.2.2.1).2.2,(ar t.2.2.1).1)
 mts:(MT.map λt=>(Q0 K (.ref (tI t.1)) t.2.1,typeIn K (.ref t.2.2.1),fnIn K t.2.2.1,CZ K t.2.2.1 t.2.2.2.2.2.1 t.2.2.2.2.2.2,(jw K t.2.2.1).body,(jw K t.2.2.1).scope,(jw K t.2.2.1).params))=MT.map λt=>(W8 (W8 (.ref t.2.2.1)),W8 (.type "function"),true,true,.stmts (aJ t.2.2.2.1 t.2.2.2.2.1).2.1,(aJ t.2.2.2.1 t.2.2.2.2.1).2.2,(aJ t.2.2.2.1 t.2.2.2.2.1).1)
 keep: [0,1,2].map (λc=>keepIn K (.ref (tI c)))= [true,true,true]
 glb:(["Fraction","Profile","Voter","__builtins__","PROPERTY_NAMES"]:List Str).map (λx=>nsIn K PF x)= [W8 (W8 (.ref 202)),W8 (W8 (.ref 505)),W8 (W8 (.ref 542)),W8 (W8 (.ref 4)),W8 (W8 (.ref 214))]
 cl:∀c,c<3->Ah K (tI c) (fY c)
 clsG:specialIn K (.builtin "object.__class__") "__get__"=W8 (W8 (.builtin "getset_descriptor.__get__"))
 clsT:takesIn K (.builtin "object.__class__")=W8 true
 pr1:∀od:Option Obj,findObj K 505 od "num_cand"=W8 (.bind (.builtin "property.__get__") (.ref 404))
 pr2:(recIn K 404 "property").map (·.head?)=W8 (W8 (.ref 403))
 prf:(CZ K 403 [] false,(jw K 403).body,(jw K 403).scope,(jw K 403).params)=(true,.stmts (aJ 36 1).2.1,(aJ 36 1).2.2,(aJ 36 1).1)
 it1:(Q0 K (.ref 505) "__iter__",typeIn K (.ref 474),CZ K 474 [] false,(jw K 474).body,(jw K 474).scope,(jw K 474).params)=(W8 (W8 (.ref 474)),W8 (.type "function"),true,.stmts (aJ 36 11).2.1,(aJ 36 11).2.2,(aJ 36 11).1)
 it2:∀v:Oq,Wc (jw K 474) ⟨[v],[]⟩=pure [(("self":Str),v)]
 om:(Q0 K (.ref 202) (Ug (SV .Mult).2),isFn K (.ref 143),Q0 K (.ref 202) (dunderR (SV .Mult).2),zI (Q0 K (.type "int") (Ug (SV .Mult).2)) (Q0 K (.type "int") (dunderR (SV .Mult).2)),CZ K 143 [] false,(jw K 143).body,(jw K 143).scope,(jw K 143).params)=(W8 (W8 (.ref 143)),true,W8 (W8 (.ref 150)),true,true,.stmts (aJ 7 10).2.1,(aJ 7 10).2.2,(aJ 7 10).1)
 ol:(isFn K (.ref 185),Q0 K (.ref 202) (cmpInfo .LtE).2.1,CZ K 185 [] false,(jw K 185).body,(jw K 185).scope,(jw K 185).params)=(true,W8 (W8 (.ref 185)),true,.stmts (aJ 7 16).2.1,(aJ 7 16).2.2,(aJ 7 16).1)
 pn:(K.lookup 214,tZ (fK.map V.str) (xH K 214).1)=(W8 {cls:= .type "list",dict:=W9,data:= .seq (xH K 214).1.toArray (xH K 214).2,slots:= #[]},true)
def rg {ag:aay}{w:We}(K:Frag)(h:O0)(mg mb:Str->Option Oq):Cf ag w:= {hb:=h,K:=K,cls:=⟨tI,fY,LW w⟩,mg:=mg,mb:=mb,tabs:=b3}
structure IK where
 w:We
 K:Frag
 h:O0
 mg:Str->Option Oq
 mb:Str->Option Oq
def ag:aay:=QN
def Af (d:IK):Prop:= ∀s:On,s.heap=d.h->Kx d.K->d.K.In s.heap->s.heap.Ns PF d.mg->s.heap.Ns O7 d.mb->s.heap.NoLimit->(∀x:Str,x≠ "__name__"->d.mb x=OZ x)->(∀p∈ [25,292,307,320,441],s.heap.get? p=W8 (tabObj #[]))->
 (∃bm ob,d.mg "__builtins__"=W8 (.ref bm)/\ bm≠O7/\ s.heap.get? bm=W8 ob/\ ob.cls= .type "module"/\ ob.dict=W8 O7/\ ob.data= .plain)->(∃o,s.heap.get? Sp=W8 o)->s.gens= #[]->
 ∀(fa a:OO) (vs:List Oq) (xs:List Int),d.mg "law"=W8 (.ref fa)->s.heap.get? a=W8 {cls:= .type "list",data:= .seq vs.toArray}->a∉b3.map (·.2)->WellAll d.w.params s.heap vs (xs.map TR)->xs.length<=63->
 Oz (Ov ag d.w) callerA (call (.ref fa) [.ref a]) (λv s'=>v= .bool true/\ OldK s.heap s'.heap/\ s'.os=s.os/\ RR s'.gens) (λ_ _=>False) s
instance:Nonempty IK:=⟨⟨⟨λ_ _=>0,{strHash:=λ_=>0,shareClass:=id,mergeTok:=id,idOf:=λ_=>0,idOfShared:=λ_ _=>0,followText:=λ_=>false,idOfImm:=λ_=>0}⟩,[],default,λ_=>W9,λ_=>W9⟩⟩
def wK:IK:=Vz λd=> ¬Af d
theorem tH (h:Af wK)(d:IK):Af d:=QA λn=>(UT (p:=λd=> ¬Af d) ⟨d,n⟩) h
@[irreducible] noncomputable def w:We:=wK.w
@[irreducible] noncomputable def C:Cf ag w:=rg wK.K wK.h wK.mg wK.mb
def aar (tb:String->Option OT) (p:aay) (w:We) (n₀:Nat) (ann:Option Oq):Nat->SharedT->Thread->Option SharedT
 |0,_,_=>W9
 |n+1,s,t=>match through t with
  |true=>W8 s
  |false=>match stepOk n₀ ann t with
   |false=>W9
   |true=>match stepT (denote tb) p w s t with
    |some (s',t')=>aar tb p w n₀ ann n s' t'
    |none=>W9
theorem aas {tb:String->Option OT}{p:aay}{w:We}{n₀:Nat}{ann:Option Oq}:∀ {n:Nat} {s s':SharedT} {t:Thread},aar tb p w n₀ ann n s t=W8 s'->topRun tb p w n₀ ann n s.abs t=W8 s'.abs
 |0,_,_,_,h=>by cases h
 |n+1,s,s',t,h=>by
  unfold aar at h;unfold topRun;cases he:through t with
  |true=>rw[he]at h;cases h;rfl
  |false=>
   rw[he]at h;cases hk:stepOk n₀ ann t with
   |false=>rw[hk]at h;cases h
   |true=>
    rw[hk]at h;cases hs:stepT (denote tb) p w s t with
    |none=>rw[hs]at h;cases h
    |some r=>obtain⟨XC,t₂⟩:=r;rw[hs]at h;dsimp only;rw[stepT_spec hs];exact aas h
def aaq (P:Params):BT:=(aaI P).objs.toList.zipIdx.foldl (λt p=>t.ins p.2 p.1) .nil
theorem aat {p q:aay}{loose:List Str}{Xt:On->Bool}{α:Type}{Yf:On->α}{Ya:We->α}{N n₀:Nat}{ann:Option Oq}
 (b:∀w:We,(fencedOpening aaP p w N).map (λs=>(s.heap,s.gens,s.drawn,s.toks))=W8 (aaI w.params,aaN [],aaK,aaM))
 (z:∀P:Params,(aaI P,(aaI P).isNs PF,(aaI P).objs.size,(aaI P).nsMap PF "__annotations__")=(absHeap (aaq P) n₀ (aaI P).life,true,n₀,ann))
 (h1:∀w:We,(λos=>(aar aaP p w n₀ ann N ⟨aaq w.params,n₀,(aaI w.params).life,aaN [],aaK,aaM,os⟩ (topStub p)).map (λs=>(λXB=>(staticsOk (aaL p.main.body) (aaI w.params) XB.heap&&namesBound p XB.heap&&gensDone XB&&laidKept (aaI w.params) XB.heap,openSeen q loose (aaL p.main.body) Xt true XB)) s.abs))=λ_=>W8 (true,openGood q loose))
 (h2:∀w:We,(λos=>(aar aaP p w n₀ ann N ⟨aaq w.params,n₀,(aaI w.params).life,aaN [],aaK,aaM,os⟩ (topStub p)).map (λs=>Yf s.abs))=λ_=>W8 (Ya w)):LeftO p q loose Xt Yf Ya N:=λw=>by
 obtain⟨⟨h0,g0,d0,k0,os⟩,hs,hv⟩:=O3.mp (b w);obtain⟨e1,e2⟩:=Pa hv;obtain⟨e2,e3⟩:=Pa e2;obtain⟨e3,e4⟩:=Pa e3;have e1:h0=_:=e1;have e2:g0=_:=e2;have e3:d0=_:=e3;have e4:k0=_:=e4;subst e1 e2 e3 e4;obtain⟨z1,z2⟩:=Pa (z w.params);obtain⟨z2,z3⟩:=Pa z2;obtain⟨z3,z4⟩:=Pa z3;obtain⟨s',hr,hc⟩:=O3.mp (congrFun (h1 w) os);obtain⟨c1,c2⟩:=Pa hc;have c3:(aar aaP p w n₀ ann N ⟨aaq w.params,n₀,(aaI w.params).life,aaN [],aaK,aaM,os⟩ (topStub p)).map (λs=>Yf s.abs)=W8 (Ya w):=congrFun (h2 w) os;rw[hr]at c3;have c3:=Oh c3;have r:=aas hr;have ea:SharedT.abs ⟨aaq w.params,n₀,(aaI w.params).life,aaN [],aaK,aaM,os⟩=⟨aaI w.params,aaN [],aaK,aaM,os⟩:=congrArg (λH=>On.mk H (aaN []) aaK aaM os) z1.symm;rw[ea]at r;unfold openEnds;rw[hs];show(topFrom aaP p w N _).map _=_;have t:topFrom aaP p w N ⟨aaI w.params,aaN [],aaK,aaM,os⟩=W8 s'.abs:=by unfold topFrom;dsimp only;rw[z2,z3,z4,r];show(match staticsOk (aaL p.main.body) (aaI w.params) s'.abs.heap&&namesBound p s'.abs.heap&&gensDone s'.abs&&laidKept (aaI w.params) s'.abs.heap with |true=>_ |false=>_)=_;rw[c1]
 rw[t];exact congrArg W8 (Prod.ext c2 c3)
@[reducible] noncomputable def vwL:aay:=PySem.W.view QN [0,5,6,7,8,10,16,17,18,19,21,23,25,27,29,30,33,36,37,39,40,41,42]
@[reducible] noncomputable def lsL:List Str:= ["CandidateSet","str_set_of_candidates","powerset","PROPERTY_NAMES","check","check_pareto_optimality","check_EJR","check_PJR","check_JR","check_EJR_plus","check_FJR","check_core","compute","largest_remainder","divisor","quota","Profile"]
theorem LL {K:Frag}(h0:Ah K 202 (fY 0))(h1:Ah K 505 (fY 1))(h2:Ah K 542 (fY 2)):∀c,c<3->Ah K (tI c) (fY c)
 |0,_=>h0
 |1,_=>h1
 |2,_=>h2
 |_+3,h=>absurd h (by omega)
def HK:Prop:= ∀(K:Params->Frag) (as:List OO) (e:∀P,as=(K P).map (·.1)) (d:DefRec) (kwd:List (Str×Ol)),(∀P,Kx (K P))->d.name= "law"->WalkO vwL lsL (XL vwL []) (Hook.says (kmHook K as e [25,292,307,320,441])) (aaU (aaW aaH)) d kwd λf vs=>PySem.call f vs
theorem wsT:aaX aaH=true:=by
 unfold aaX OpenRow.wellSaid OpenRow.partSaid looksOpen
 repeat (with_reducible refine look_both ?_ ?_)
 all_goals decide+kernel
theorem aau:∀w:We,(λos=>(aar aaP QN w 11 (W8 (.ref 6)) 6538 ⟨aaq w.params,11,(aaI w.params).life,aaN [],aaK,aaM,os⟩ (topStub QN)).map (λs=>(λXB=>(staticsOk (aaL QN.main.body) (aaI w.params) XB.heap&&namesBound QN XB.heap&&gensDone XB&&laidKept (aaI w.params) XB.heap,openSeen vwL lsL (aaL QN.main.body) (λs=>xlAt vwL [] s&&recOk (RowW.records (aaU (aaW aaH))) s) true XB)) s.abs))=λ_=>W8 (true,openGood vwL lsL):=λw=>by kernel_rfl
local macro_rules | `(tactic|o_head (kHook $k $a $e))=> `(tactic| (refine holds_open (q:=vwL) (loose:=lsL) (Xt:=λs=>xlAt vwL [] s&&recOk (RowW.records (aaU (aaW aaH))) s) (XP:=XL vwL []) (Yf:=Hook.obs (kmHook $k $a $e [25,292,307,320,441])) (Ya:=Hook.val (kmHook $k $a $e [25,292,307,320,441])) (YP:=Hook.says (kmHook $k $a $e [25,292,307,320,441])) (N:=6538) ?hl (Hook.of (kmHook $k $a $e [25,292,307,320,441])) (Hook.keeps (kmHook $k $a $e [25,292,307,320,441])) (λs e=>xl_of s (OR.mp e).1) XL.keeps (by rfl) (by rfl) (by rfl) (λs e=>recFacts_of (OR.mp e).2) (by rfl) (by first |assumption |decide+kernel) (by decide+kernel) ⟨rfl,rfl,rfl,rfl,rfl,by decide+kernel⟩ ?hw ?hc))
theorem aax (H:HK):aaH.Holds:=by
 refine holds_law wsT λsaid=> ?_
 k_head
 case hl=>exact aat (n₀:=11) (ann:=W8 (.ref 6)) (boot_open rfl (by decide) λs=>rfl) (λP=>by kernel_rfl) aau (λw=>by kernel_rfl)
 case hw=>w_witness2
 case hc=>exact H _ _ _ _ _ (λP=> {
  kT:=by kernel_rfl
  tb:=by kernel_rfl
  miss:=by kernel_rfl
  fns:=by kernel_rfl
  mts:=by kernel_rfl
  keep:=by kernel_rfl
  glb:=by kernel_rfl
  cl:=LL ⟨by kernel_rfl,by kernel_rfl,by kernel_rfl,by decide,by kernel_rfl,by kernel_rfl,by kernel_rfl,by kernel_rfl,by kernel_rfl,by kernel_rfl,by kernel_rfl,by kernel_rfl,by kernel_rfl,by kernel_rfl,by kernel_rfl⟩ ⟨by kernel_rfl,by kernel_rfl,by kernel_rfl,by decide,by kernel_rfl,by kernel_rfl,by kernel_rfl,by kernel_rfl,by kernel_rfl,by kernel_rfl,by kernel_rfl,by kernel_rfl,by kernel_rfl,by kernel_rfl,by kernel_rfl⟩ ⟨by kernel_rfl,by kernel_rfl,by kernel_rfl,by decide,by kernel_rfl,by kernel_rfl,by kernel_rfl,by kernel_rfl,by kernel_rfl,by kernel_rfl,by kernel_rfl,by kernel_rfl,by kernel_rfl,by kernel_rfl,by kernel_rfl⟩
  clsG:=by kernel_rfl
  clsT:=by kernel_rfl
  pr1:=λod=>by kernel_rfl
  pr2:=by kernel_rfl
  prf:=by kernel_rfl
  it1:=by kernel_rfl
  it2:=λv=>by kernel_rfl
  om:=by kernel_rfl
  ol:=by kernel_rfl
  pn:=by kernel_rfl}) rfl
open V renaming none->Xa,bool->Xb,int->Xc,str->Xd,list->Xe,tup->Xf,set->Xg,any->Xh
instance:Nonempty On:=⟨{}⟩
instance:Nonempty O6:=⟨callerA⟩
instance:Nonempty QZ:=⟨.finished⟩
instance:Nonempty Slot:=⟨.loc⟩
instance:Nonempty Fl:=⟨.next⟩
instance:Nonempty Cx:=⟨⟨[],[],[],[],[],[],false⟩⟩
instance:Nonempty br:=⟨⟨λ_=>0,λ_=> [],false⟩⟩
instance:Nonempty Az:=⟨⟨default,[],default,0,0,0,0,0,0,0,0,[],#[]⟩⟩
@[elab_as_elim] theorem ab {α:Type}{a b:α}{motive:α->Prop}(h:a=b)(x:motive b):motive a:=h.symm▸x
@[elab_as_elim] theorem bV {α:Type}{a b:α}{motive:α->Prop}(h:b=a)(x:motive b):motive a:=h▸x
def Un:Type 1:=(T:Type)->Nonempty T->Nat->T
def zp {T:Type}[i:Nonempty T](u:Un)(j:Nat):T:=u T i j
instance:Nonempty Un:=⟨λ_ i _=>VF i⟩
structure Sb where
 T:Type
 i:Nonempty T
@[reducible] noncomputable def zt (T:Type)[i:Nonempty T]:Sb:=⟨T,i⟩
def Fn:List Sb->Type
 | []=>Prop
 | ⟨T,_⟩::l=>T->Fn l
def Al:(l:List Sb)->Fn l->Prop
 | [],P=>P
 | ⟨T,_⟩::l,P=> ∀a:T,Al l (P a)
def Ap (u:Un):(l:List Sb)->Nat->Fn l->Prop
 | [],_,P=>P
 | ⟨_,i⟩::l,j,P=>Ap u l (j+1) (P (@zp _ i u j))
def zQ (l:List Sb)(P:Fn l):Un:=Vz λu=> ¬Ap u l 0 P
theorem Mn (l:List Sb):∀(j:Nat) (P:Fn l) (u:Un),¬Al l P->∃u':Un,(∀T i k,k<j->u' T i k=u T i k)/\ ¬Ap u' l j P:=by
 induction l with
 |nil=>exact λj P u n=>⟨u,λ_ _ _ _=>rfl,n⟩
 |cons t l ih=>obtain⟨T,i⟩:=t;intro j P u n;obtain⟨a,n⟩:=Classical.not_forall.mp n;obtain⟨u',h,n⟩:=ih (j+1) (P a) (λS i k=> @dite S (k=j/\ T=S) (UK _) (λh=>h.2▸a) λ_=>u S i k) n;refine⟨u',λS i k hk=>(h S i k (R9 hk)).trans (dif_neg λe=>Px hk e.1),λm=>n ?_⟩;have e:u' T i j=a:=(h T i j (PZ j)).trans (dif_pos ⟨rfl,rfl⟩);exact e▸m
theorem zg (l:List Sb)(P:Fn l)(h:Ap (zQ l P) l 0 P):Al l P:=by refine QA λn=> ?_;obtain⟨u,_,m⟩:=Mn l 0 P (VF inferInstance) n;exact UT (p:=λu:Un=> ¬Ap u l 0 P) ⟨u,m⟩ h
set_option synthInstance.maxHeartbeats 400000
set_option synthInstance.maxSize 2000
local macro_rules | `(tactic| injections $vs*) => do
  let a := vs.toList.takeWhile (·.raw.isIdent)
  let t (l : List (Lean.TSyntax [`ident, `Lean.Parser.Term.hole])) : Lean.TSyntaxArray `term := (l.map fun x => ⟨x.raw⟩).toArray
  let b := t (vs.toList.drop (a.length + 1))
  let a := t a
  let k := List.range a.size
  let q ← `(zp (zQ _ ?P))
  let z ← `(zt _)
  let c ← `((?f : Al _ ?P))
  let l := k.foldl (fun r _ => Lean.Syntax.mkApp (Lean.mkIdent `List.cons) #[z, r]) (Lean.mkIdent `List.nil)
  let m ← if b.isEmpty then `(tactic| skip) else `(tactic| revert $b*)
  `(tactic| ($m; revert $a*; f_assign (refine @(zg $l ?P $(k.foldl (fun t j => Lean.Syntax.mkApp t #[Lean.Syntax.mkApp q #[Lean.quote j]]) c))); intro $(a ++ b)*))
variable {k m j tk N np mv mt ep ct nl k' slot is iu iv ln nn vct s0 l0 h0 l1 h1 : Nat} {s s' XB XC XO : On} {a f I fI : OO} {A A' : O6} {pos p sp q ap q₀ cp p1 p2 p3 p4 p' p5 p6 p7 pos' vp bp Zg s1 s2 s3 u1 u2 u3 v1 sp3 scp scpos a2 cpos up apos ifpos p0 : Pos} {t x y : V} {cx ci cx' : Cx} {v it u code : Oq} {α β G : Type} {K : br} {env cenv : Env} {E Q Q₁ R₁ : Oq → On → Prop} {xs ys dfl ts ds l' fts zs : List V} {P : Prop} {pe target iter elt po pi pv pb t' i' test pa ce test1 ue : Ol} {vs first us : List Oq} {J J' : Nat → Prop} {L fl : Bool} {kn params mn : List Str} {l oc as O' ms Yo : List Nat} {h' H : O0} {scope : Sj} {x8 x9 x6 x7 x10 x5 x11 x12 x4 x14 x16 x0 x1 x2 x3 x13 x15 x17 x18 x19 x20 x21 x22 x23 x24 ub ell VL mgv : Option V} {D : List V → Option V} {fn n₀ vn sn an un Zj : Str} {fd : Rb} {es : Array (Int × Oq)} {body rest Zk sts : List RV} {o : Obj} {XU XY f' elts : List Ol} {kws : List Keyword} {φ : List V → List V} {n0 n1 n2 n3 n4 n5 n6 n7 n8 n9 z : Int} {R : List V → Prop} {gs : QZ} {op : CmpOp} {ks ns : List Int} {cl cs : List (Str × OO)} {kd : Str → Option Pk} {fs : List Frame} {X fp : List OO} {mk : List V → V} {Y9 : Sem Oq} {M : Model} {R' : List V → List V → Prop} {mg mb : Str → Option Oq} {ann : Option Oq} {lo hi : Option Int} {args : Args} {cd : ClassData} {Y : Protocol} {Φ : End → On → Prop} {lc : WA} {ps : List (Int × Oq)}
def bs (b:Nat):List Nat:=(Oo 6).filter λi=>b.testBit i
def r4 (m:Nat):Bool:=m==7 ||m==15 ||m==31
def tab (m mv:Nat)(L:Bool)(xs:List Nat):O4:= {mask:=m,place:=xs.toArray,dummies:= #[],finger:=0,led:=L,moves:=mv,plain:=true}
def Lz (m mv:Nat)(L:Bool)(b x:Nat):Bool:=
 let t:=tab m mv L (bs b)
 b.testBit x || (t.freeSlot (x:Int)==W8 (x,false)&&(t.put x).1.place==(bs (b ||| (1<<<x))).toArray&&(t.put x).1.dummies== #[])
def KC (mv:Nat)(L:Bool):Bool:= [7,15,31].all λm=>(Oo 64).all λb=>(Oo 6).all λx=>Lz m mv L b x
theorem Ci (mv:Nat)(L:Bool):KC mv L=true:=by kernel_rfl
theorem kU (h:r4 m=true):m∈ [7,15,31]:=
 (aaZ.mp h).elim (λh=>(aaZ.mp h).elim (λh=>eq_of_beq h▸ .head _) λh=>eq_of_beq h▸ .tail _ (.head _)) λh=>eq_of_beq h▸ .tail _ (.tail _ (.head _))
theorem o8 {b x:Nat}(hm:r4 m=true)(hb:b<64)(hx:x<6)(hn:b.testBit x=false):
 (tab m mv L (bs b)).freeSlot (x:Int)=W8 (x,false)/\ ((tab m mv L (bs b)).put x).1.place=(bs (b ||| (1<<<x))).toArray/\ ((tab m mv L (bs b)).put x).1.dummies= #[]:=by
 have h:=Ou.mp (Ou.mp (Ou.mp (Ci mv L) m (kU hm)) b (OF.mpr hb)) x (OF.mpr hx);simp only[Lz,hn,Qm,Qg,beq_iff_eq]at h;exact⟨h.1.1,h.1.2,h.2⟩
def CM (m b:Nat):Bool:=match QP m 0 0 true true ((bs b).map λn:Nat=>(n:Int)).toArray with
 |some (t,o)=>t.place==(bs b).toArray&&o==(Oo (bs b).length).toArray
 |none=>false
theorem Ch:([7,15,31].all λm=>(Oo 64).all λb=>CM m b)=true:=by kernel_rfl
theorem pB {b:Nat}(hm:r4 m=true)(hb:b<64):QP m 0 mv L true ((bs b).map λn:Nat=>(n:Int)).toArray=W8 (tab m mv L (bs b),(Oo (bs b).length).toArray):=by
 injections m mv L b _ hm hb;have h:=Ou.mp (Ou.mp Ch m (kU hm)) b (OF.mpr hb);unfold CM at h;have e:QP m 0 mv L true ((bs b).map λn:Nat=>(n:Int)).toArray=(QP m 0 0 true true ((bs b).map λn:Nat=>(n:Int)).toArray).map λp=>({p.1 with moves:=mv,led:=L},p.2):=by unfold QP;cases VB m ((bs b).map λn:Nat=>(n:Int)).toArray<;>rfl
 simp only[e];have e':∀t o,QP m 0 0 true true ((bs b).map λn:Nat=>(n:Int)).toArray=W8 (t,o)->t= {tab m 0 true (bs b)with place:=t.place}:=λt o h=>by
  unfold QP at h;cases hl:VB m ((bs b).map λn:Nat=>(n:Int)).toArray with
  |none=>rw[hl]at h;cases h
  |some ow=>rw[hl]at h;cases h;rfl
 split at h
 ·rename_i t o hq
  simp only[Qg,beq_iff_eq]at h;refine ab hq (ab (e' t o hq) (ab h.1 (ab h.2 ?_)));rfl
 ·cases h
def fj (es:Array (Int×Oq))(xs:List Nat):Prop:=es.toList.map (·.1)=xs.map (λn:Nat=>(n:Int))/\ ∀e∈es.toList,∃t,e.2= .int e.1 t
theorem fj.size {xs:List Nat}(h:fj es xs):es.size=xs.length:=by have:=congrArg TL h.1;simpa using this
theorem fb (b:Nat):(bs b).length<=6:=by have:=Sh (λi=>b.testBit i) (Oo 6);simpa [bs]using this
theorem eQ {b n:Nat}:n∈bs b↔n<6/\ b.testBit n=true:=by simp[bs]
theorem xX {b x:Nat}{t:Tok}(hm:r4 m=true)(hb:b<64)(hx:x<6)(hn:b.testBit x=false)(h:fj es (bs b)):
 fj (TJ es ((tab m mv L (bs b)).put x).2 ((x:Int),.int x t)) (bs (b ||| (1<<<x))):=by
 injections m mv L es b x t _ hm hb hx hn h;have hp:=(o8 (mv:=mv) (L:=L) hm hb hx hn).2.1;have e:((tab m mv L (bs b)).put x).1.place=TJ (bs b).toArray ((tab m mv L (bs b)).put x).2 x:=rfl;rw[e]at hp;have hq:=congrArg Array.toList hp;rw[SN]at hq;refine⟨?_,λe he=> ?_⟩
 ·simp only[SN,PJ,Sw,List.map_take,List.map_drop,h.1]
  refine ab (show(bs (b |||1<<<x))=(bs (b |||1<<<x)).toArray.toList from rfl) (bV hq ?_);simp
 ·rw[SN]at he
  rcases Rd.mp he with he |he
  ·exact h.2 e (List.mem_of_mem_take he)
  ·rcases OG.mp he with rfl |he
   ·exact⟨t,rfl⟩
   ·exact h.2 e (List.mem_of_mem_drop he)
inductive be (L:Bool) (g:OO->Option Obj) (a:OO) (b:Nat):Prop
 |mk (lt:b<64) (es:Array (Int×Oq)) (ep mv m:Nat) (e:g a=W8 {cls:= .type "set",dict:=W9,data:= .set es ep (tab m mv L (bs b)),slots:= #[]}) (hm:r4 m=true) (he:fj es (bs b))
theorem be.keep {g g':OO->Option Obj}{b:Nat}(x:be L g a b)(k:∀o,g a=W8 o->g' a=W8 o):be L g' a b:=(by obtain⟨p,es,ep,mv,m,ho,r,q⟩:=x;exact⟨p,es,ep,mv,m,k _ ho,r,q⟩)
theorem be.lt {g:OO->Option Obj}{b:Nat}(h:be L g a b):b<64:=(by obtain⟨h,_,_,_,_,_,_,_⟩:=h;exact h)
theorem eR {n:Nat}(h:n<6):hashInt (n:Int)=(n:Int):=
 (by decide+kernel:∀n:Nat,n<6->hashInt (n:Int)=(n:Int)) n h
section
theorem bK {b:Nat}(hm:r4 m=true):(tab m mv L (bs b)).fits (bs b).length=true:=by have:=fb b;have h7:7<=m:=(by decide:∀m∈ [7,15,31],7<=m) m (kU hm);exact OR.mpr ⟨beq_iff_eq.mpr OI,decide_eq_true (Op (O2 (show(bs b).toArray.size+0=_ from OI)) (Op this (Op (by decide) h7)))⟩
theorem fj.elems {b:Nat}(h:fj es (bs b)):ElemsOf (Rf ag w) es.toList:=λe he=>by obtain⟨t,ht⟩:=h.2 e he;have:e.1∈(bs b).map (λn:Nat=>(n:Int)):=h.1▸OM.mpr ⟨e,he,rfl⟩;obtain⟨n,hn,hn'⟩:=OM.mp this;refine⟨⟨e.1,by refine ab ht ?_;exact Qz _ _ _ _,?_⟩,by refine ab ht ?_;rfl⟩;refine bV hn' ?_;exact(eR (eQ.mp hn).1).symm
theorem fj.mem {b:Nat}(h:fj es (bs b))(k:Int):decide (k∈(bs b).map λn:Nat=>(n:Int))=true↔∃e∈es.toList,(Rf ag w).is k e.2=true:=by
 rw[decide_eq_true_eq,<-h.1,OM];constructor
 ·rintro⟨e,he,rfl⟩
  obtain⟨t,ht⟩:=h.2 e he;exact⟨e,he,by refine ab ht ?_;exact Qz _ _ _ _⟩
 ·rintro⟨e,he,hk⟩
  obtain⟨t,ht⟩:=h.2 e he;rw[ht]at hk;refine⟨e,he,?_⟩;have:=(Rf ag w).inj _ _ _ hk (Qz ag w e.1 t);exact this.symm
theorem be.objOf {g:OO->Option Obj}{b:Nat}(h:be L g a b):∃o,g a=W8 o/\ o.SetObjOf (Rf ag w) (λk=>decide (k∈(bs b).map λn:Nat=>(n:Int))) (bs b).length:=by obtain⟨hb,es,ep,mv,m,ho,hm,he⟩:=h;exact⟨_,ho,⟨rfl,rfl,rfl⟩,es,ep,_,rfl,he.elems,he.mem,he.size,by refine ab he.size ?_;exact bK hm⟩
end
set_option tactic.hygienic false
section
theorem GL {b n:Nat}(hb:b<64)(hn:n<6):b ||| (1<<<n)<64:=by
 have h1:(1<<<n)<2^6:=by rw[R7];exact TD (PZ _) hn
 exact R6 (n:=6) hb h1
theorem H3 {b n:Nat}(h:b.testBit n=true):b ||| (1<<<n)=b:=by
 apply Sv;intro i;rw[Vd,R7,Wn];by_cases e:n=i
 ·subst e;simp[h]
 ·simp[e]
theorem pJ {b n:Nat}(h:fj es (bs b))(hn:n<6):(es.toList.findIdx? λe=>(Rf ag w).is (n:Int) e.2).isSome=b.testBit n:=by
 injections es b n _ h hn;rw[List.findIdx?_isSome];have:=h.mem (n:Int);cases hb:b.testBit n with
 |true=>
  rw[Q4];have h1:decide (((n:Nat):Int)∈(bs b).map λn:Nat=>(n:Int))=true:=by refine ab decide_eq_true_eq ?_;exact OM.mpr ⟨n,eQ.mpr ⟨hn,hb⟩,rfl⟩
  obtain⟨e,he,hk⟩:=this.mp h1;exact⟨e,he,hk⟩
 |false=>
  rw[<-Bool.not_eq_true,Q4];rintro⟨e,he,hk⟩;have:=this.mpr ⟨e,he,hk⟩;simp only[decide_eq_true_eq]at this;obtain⟨k,hk',ZK⟩:=OM.mp this;have:k=n:=by exact_mod_cast ZK
  subst this;rw[(eQ.mp hk').2]at hb;cases hb
theorem gt (es:Array (Int×Oq)):(Oo es.size).toArray.filterMap (es[·]?)=es:=by have:=filterMap_getElem?_range es;apply Us.mp;refine ab Array.toList_filterMap ?_;exact this
theorem xP {b:Nat}(hb:b<64)(hm:r4 m=true)(h:fj es (bs b))(hf:(tab m mv L (bs b)).tooFull=true):
 ∃mv',relayAll (tab m mv L (bs b)) es (Ut es.size)=(es,tab 31 mv' L (bs b),false):=by
 injections m mv L es b _ hb hm h hf;have hl:=fb b;have hn:m=7/\ 5<=(bs b).length:=by
  have Zv:(bs b).length*5>=m*3:=by simpa [O4.tooFull,tab,UL]using hf
  rcases OG.mp (kU hm)with e |e
  ·exact⟨e,Nat.lt_of_mul_lt_mul_right (a:=5) (OL (by rw[e];decide) Zv)⟩
  ·exact absurd (Op (Op (Su 3 ((by decide:∀m∈ [15,31],15<=m) m e)) Zv) (Su 5 hl)) (by decide)
 have hs:P6 (Ut es.size) - 1=31:=by refine ab h.size ?_;have:(bs b).length=5 \/(bs b).length=6:=(Nat.lt_or_eq_of_le hl).imp_left λh=>aaO (aaJ h) hn.2;rcases this with e |e<;>refine ab e ?_<;>decide
 have hh:es.map (·.1)=((bs b).map λn:Nat=>(n:Int)).toArray:=by apply Us.mp;exact ab WB (ab h.1 rfl)
 have e1:(tab m mv L (bs b)).relaid (es.map (·.1)) (Ut es.size)=W8 (tab 31 ((tab m mv L (bs b)).movedTo 31) L (bs b),(Oo (bs b).length).toArray):=by unfold O4.relaid;refine ab hs (ab hh ?_);exact pB (m:=31) (by rfl) hb
 refine⟨(tab m mv L (bs b)).movedTo 31,?_⟩;unfold relayAll;refine ab e1 ?_;dsimp only;have e2:(Oo (bs b).length).toArray.filterMap (es[·]?)=es:=by refine bV h.size ?_;exact gt es
 refine ab e2 ?_;have e3:coversAll (Oo (bs b).length).toArray es.size=true:=by unfold coversAll;refine ab h.size ?_;exact List.isPerm_iff.mpr .rfl
 have e4:(tab 31 ((tab m mv L (bs b)).movedTo 31) L (bs b)).fits es.size=true:=by refine ab h.size ?_;exact bK (by rfl)
 simp only[e3,e4];rfl
theorem iW {b n:Nat}{t:Tok}{Q:Bool->On->Prop}(h:be L s.heap.get? a b)(hn:n<6)
 (q:∀h',be L h'.get? a (b ||| (1<<<n))->OE a s.heap h'->Q (!b.testBit n) {s with heap:=h'}):Oz (Ov ag w) A (setAddHashed a (.int n t) (n:Int)) Q E s:=by
 injections s a A E L b n t Q _ h hn q;obtain⟨hb,es,ep,mv,m,ho,hm,he⟩:=h;have YE:=he.size;have hbl:=fb b;have Yb:(tab m mv L (bs b)).fits es.size=true:=by refine ab YE ?_;exact bK hm
 have hk:(Rf ag w).hash (n:Int)=(n:Int):=eR hn;refine ON (Og (PM ho rfl Yb ?_));dsimp only;refine ab (byScan_of (knd:=Rf ag w) (x:= .int n t) rfl (by refine ab YE ?_;exact OW hbl (by decide)) he.elems) ?_;refine Og (Og (QL ?_));have ZJ:=pJ he hn;have hsc:=wpAny_setScan_of (A:=A) (E:=E) (knd:=Rf ag w) (k:=(n:Int)) (x:= .int n t) (adding:=true) (s:=s) (Q:=λr s'=>s'=s/\ r=(match es.toList.findIdx? (λe=>(Rf ag w).is (n:Int) e.2)with |some j=> .found (0+j) |none=> .absent)) (Qz _ _ _ _) ho rfl Yb he.elems ⟨rfl,rfl⟩;rw[hk]at hsc;refine Og (Ot hsc (λr s' ⟨e1,e2⟩=> ?_) λ_ _ h=>h);have e1':=e1.symm;clear e1;subst e1';refine ab e2 ?_;cases hr:es.toList.findIdx? (λe=>(Rf ag w).is (n:Int) e.2)with
 |some j=>rw[hr]at ZJ;refine Oi (Oi ?_);have hbt:b.testBit n=true:=ZJ.symm;have:=q s.heap (by refine ab (H3 hbt) ?_;exact⟨hb,es,ep,mv,m,ho,hm,he⟩) (Ru a s.heap);simp only[hbt]at this;exact this
 |none=>
  rw[hr]at ZJ;have hbt:b.testBit n=false:=ZJ.symm;have p1:=(o8 (mv:=mv) (L:=L) hm hb hn hbt).1;have p2:=(o8 (mv:=mv) (L:=L) hm hb hn hbt).2.1;have p3:=(o8 (mv:=mv) (L:=L) hm hb hn hbt).2.2;have pe:=xX (t:=t) (mv:=mv) (L:=L) hm hb hn hbt he;have ZE:=GL hb hn;have et:((tab m mv L (bs b)).put n).1=tab m mv L (bs (b |||1<<<n)):=by have:((tab m mv L (bs b)).put n).1= {(tab m mv L (bs b))with place:=((tab m mv L (bs b)).put n).1.place,dummies:=((tab m mv L (bs b)).put n).1.dummies}:=rfl;refine ab this (ab p2 (ab p3 ?_));rfl
  generalize hes':TJ es ((tab m mv L (bs b)).put n).2 ((n:Int),WN n t)=Zo at pe;have hfit':(tab m mv L (bs (b |||1<<<n))).fits Zo.size=true:=by refine ab pe.size ?_;exact bK hm
  have eL:layNew (tab m mv L (bs b)) es (n:Int) (.int n t)=(Zo,tab m mv L (bs (b |||1<<<n)),false,false):=by unfold layNew;refine ab p1 ?_;dsimp only;refine ab hes' (ab et ?_);unfold O4.orStandIn;refine ab hfit' ?_;rfl
  refine(eL)▸ ?_;refine Og (Pc (a:=()) rfl ?_);refine Og (Pc (a:=true) rfl ?_);simp only[if_true];have hsz':=fb (b |||1<<<n);have hz:Zo.size<=Sr:=by refine ab pe.size (ab P7 ?_);exact Op hsz' (by decide)
  refine Og (So ho rfl ?_ hz);have Yw:(s.heap.update a (TB Zo (tab m mv L (bs (b |||1<<<n))))).get? a=W8 {cls:= .type "set",dict:=W9,data:= .set Zo (ep+1) (tab m mv L (bs (b |||1<<<n))),slots:= #[]}:=by have:=Pm (TB Zo (tab m mv L (bs (b |||1<<<n)))) ho (by rfl);exact this
  have hs1:=Ph s.heap a (TB Zo (tab m mv L (bs (b |||1<<<n))));by_cases hfull:(tab m mv L (bs (b |||1<<<n))).tooFull=true
  ·obtain⟨mv',hrel⟩:=xP (mv:=mv) (L:=L) ZE hm pe hfull
   show Oz _ _ (if(!false&&(tab m mv L (bs (b |||1<<<n))).tooFull)=true then _ else _) _ _ _;rw[if_pos (by refine ab hfull ?_;rfl),hrel];dsimp only;refine Og (Pc (a:=()) rfl ?_);refine Og (So Yw rfl ?_ hz);refine Oi (Oi ?_);have:=q ((s.heap.update a (TB Zo (tab m mv L (bs (b |||1<<<n))))).update a (TB Zo (tab 31 mv' L (bs (b |||1<<<n))))) ⟨ZE,Zo,ep+1+1,mv',31,Pm _ Yw (by rfl),rfl,pe⟩ (hs1.trans (Ph _ a _));rw[hbt]at this;exact this
  ·show Oz _ _ (if(!false&&(tab m mv L (bs (b |||1<<<n))).tooFull)=true then _ else _) _ _ _
   refine ab (if_neg (by simpa using hfull)) ?_;refine Oi (Oi ?_);have:=q _ ⟨ZE,Zo,ep+1,mv,m,Yw,hm,pe⟩ hs1;rw[hbt]at this;exact this
end
def m4 (l:List (Int×Oq))(b:Nat):Prop:=(l.map (·.1)).Perm ((bs b).map λn:Nat=>(n:Int))/\ ∀e∈l,∃t,e.2= .int e.1 t
theorem fj.walk {b:Nat}(h:fj es (bs b)){l:List (Int×Oq)}(p:l.Perm es.toList):m4 l b:=⟨by rw[<-h.1];exact p.map _,λe he=>h.2 e (p.mem_iff.mp he)⟩
theorem t6 {α:Type}(next:Nat->Nat):∀(fuel k:Nat) (left:List α) (out:Array α),fuel=left.length->(Wx next fuel k left out).toList.Perm (out.toList++left)
 |0,k,left,out,h=>by have:left= []:=Q3 h.symm;subst this;rw[QQ];exact .refl _
 |fuel+1,k,left,out,h=>by
  have hl:0<left.length:=h▸Rg _;have ZQ:next k % left.length<left.length:=QE _ hl;show(match left[next k % left.length]? with |some x=>Wx next fuel (k+1) (left.eraseIdx (next k % left.length)) (out.push x) |none=>out).toList.Perm _;rw[OP ZQ];refine(t6 next fuel (k+1) _ _ (by rw[List.length_eraseIdx_of_lt ZQ,<-h];rfl)).trans ?_;rw[Array.toList_push,QR];refine S6.append_left _ ?_;have e:left=left.take (next k % left.length)++left[next k % left.length]::left.drop (next k % left.length+1):=by rw[<-List.drop_eq_getElem_cons ZQ,List.take_append_drop]
  simp only[List.eraseIdx_eq_take_drop_succ,List.singleton_append];refine S6.trans (l₂:=left.take (next k % left.length)++left[next k % left.length]::left.drop (next k % left.length+1)) List.perm_middle.symm ?_;rw[<-e]
theorem nJ (next:Nat->Nat)(xs:Array α):(Vp next xs).toList.Perm xs.toList:=by
 unfold Vp;have:=t6 next xs.size 0 xs.toList #[] (by simp)
 simpa using this
section
theorem tV (q:∀h',be (LW w) h'.get? s.heap.objs.size 0->(∀b o,s.heap.get? b=W8 o->h'.get? b=W8 o)->Q (.ref s.heap.objs.size) {s with heap:=h'}):
 Oz (Ov ag w) A (newSet (.type "set")) Q E s:=by
 refine Og (Og (Ps (Oi ?_)));dsimp only;refine Og (Tu (Oi (q _ ⟨by decide,#[],0,0,7,?_,rfl,rfl,λe he=>by simp at he⟩ λb o e=>Om _ e)));exact OB _ rfl
theorem qU {b:Nat}{Q:Array (Int×Oq)->On->Prop}(h:be (LW w) s.heap.get? a b)(q:∀ZH,m4 ZH.toList b->Q ZH s):Oz (Ov ag w) A (setWalk a) Q E s:=by
 obtain⟨hb,es,ep,mv,m,ho,hm,he⟩:=h;have Yb:(tab m mv (LW w) (bs b)).fits es.size=true:=by rw[he.size];exact bK hm
 refine Og (PM ho rfl Yb ?_);refine Og (Og (Ps (Oi ?_)));show Oz _ _ (if w.params.followText "set-order"=true then _ else _) _ _ _;split
 ·refine Og (Ps (Oi (q _ (he.walk (nJ _ _)))))
 ·rename_i hT
  have hL:LW w=true:=by unfold LW;simpa using hT
  first
   |exact Oi (q _ (he.walk .rfl))
   | (rw[hL];exact Og (Pc (a:=()) rfl (Oi (q _ (he.walk .rfl)))))
   | (show Oz _ _ (do (if(!(LW w)&&decide (es.size>1))=true then SY "set:maker-not-led" else pure ());pure es) _ _ _
      rw[hL];exact Og (Oi (Oi (q _ (he.walk .rfl)))))
theorem nt {b:Nat}{others:List OO}{filled:Option OO}{Q:Array (Int×Oq)->On->Prop}(h:be (LW w) s.heap.get? a b)(q:∀ZH,m4 ZH.toList b->Q ZH s):Oz (Ov ag w) A (setWalkUnseen a others filled) Q E s:=by
 have h':=h;obtain⟨hb,es,ep,mv,m,ho,hm,he⟩:=h;have Yb:(tab m mv (LW w) (bs b)).fits es.size=true:=by rw[he.size];exact bK hm
 refine Og (PM ho rfl Yb ?_);refine Og (Og (Ps (Oi ?_)));have hc:(w.params.followText "set-order" || ((LW w)&&true) ||decide (es.size<=1))=true:=by unfold LW;cases w.params.followText "set-order"<;>rfl
 show Oz _ _ (if(w.params.followText "set-order" || ((LW w)&&true) ||decide (es.size<=1))=true then _ else _) _ _ _;rw[if_pos hc]
 first
  |exact qU h' q
  |exact Og (qU h' λZH ha=>Oi (q ZH ha))
theorem rG {f:Int×Oq->PUnit->Sem (ForInStep PUnit)}{I:List (Int×Oq)->On->Prop}{Q:PUnit->On->Prop}
 (hf:∀e r s,I (e::r) s->Oz (Ov ag w) A (f e ⟨⟩) (λst s'=>st= .yield ⟨⟩/\ I r s') E s) (hq:∀s,I [] s->Q ⟨⟩ s):∀(l:List (Int×Oq)) (s:On),I l s->Oz (Ov ag w) A (forIn l ⟨⟩ f) Q E s
 | [],s,h=>by rw[U8];exact Oi (hq s h)
 |e::r,s,h=>by rw[Tn];refine Og (Ot (hf e r s h) (λst s' ⟨e1,h1⟩=> ?_) λ_ _ x=>x);subst e1;exact rG hf hq r s' h1
theorem uE {f:Int×Oq->PUnit->Sem (ForInStep PUnit)}{I:List (Int×Oq)->On->Prop}{Q:PUnit->On->Prop}
 (hf:∀e r s,I (e::r) s->Oz (Ov ag w) A (f e ⟨⟩) (λst s'=>st= .yield ⟨⟩/\ I r s') E s) (hq:∀s,I [] s->Q ⟨⟩ s) (ZH:Array (Int×Oq)) (s:On) (h:I ZH.toList s):Oz (Ov ag w) A (forIn ZH ⟨⟩ f) Q E s:=by
 rw[<-Array.forIn_toList];exact rG hf hq ZH.toList s h
theorem xD {b n:Nat}{t:Tok}{Q:Option Nat->On->Prop}(h:be L s.heap.get? a b)(hn:n<6)(q:∀r:Option Nat,r.isSome=b.testBit n->Q r s):Oz (Ov ag w) A (setFind a (.int n t) (n:Int)) Q E s:=by
 obtain⟨o,ho,hs⟩:=h.objOf;have hS:=hs.setOf ho (OW (fb b) (by decide));have:=wpAny_setFind_of (A:=A) (E:=E) (knd:=Rf ag w) (k:=(n:Int)) (x:= .int n t) (Q:=Q) (Qz _ _ _ _) rfl hS (λr hr=>q r (by
  rw[hr];by_cases hb:b.testBit n=true
  ·rw[hb];rw[decide_eq_true_eq];exact OM.mpr ⟨n,eQ.mpr ⟨hn,hb⟩,rfl⟩
  ·have ZE:b.testBit n=false:=by simpa using hb
   rw[ZE,decide_eq_false_iff_not];intro hm;obtain⟨k,hk,he⟩:=OM.mp hm;have:k=n:=by exact_mod_cast he
   subst this;rw[(eQ.mp hk).2]at ZE;cases ZE))
 have hk:(Rf ag w).hash (n:Int)=(n:Int):=eR hn;rw[hk]at this;exact this
end
def pq (l:List (Int×Oq)):List Nat:=l.map λe=>e.1.toNat
def lG (b:Nat)(l:List Nat):Nat:=l.foldl (λc n=>c ||| (1<<<n)) b
theorem fx:∀(l:List Nat) (b i:Nat),(lG b l).testBit i=(b.testBit i ||decide (i∈l))
 | [],b,i=>by simp[lG]
 |n::r,b,i=>by
  show(lG (b ||| (1<<<n)) r).testBit i=_;simp only[fx r,Vd,R7,Wn];by_cases h:n=i
  ·subst h;simp
  ·have:¬i=n:=λe=>h e.symm
   simp[h,this]
theorem m4.small {l:List (Int×Oq)}{b:Nat}(h:m4 l b){e:Int×Oq}(he:e∈l):∃n t,n<6/\ b.testBit n=true/\ e=((n:Int),.int n t):=by obtain⟨t,ht⟩:=h.2 e he;have:e.1∈(bs b).map (λn:Nat=>(n:Int)):=h.1.mem_iff.mp (OM.mpr ⟨e,he,rfl⟩);obtain⟨n,hn,hn'⟩:=OM.mp this;obtain⟨e1,e2⟩:=e;dsimp only at hn' ht;subst hn';exact⟨n,t,(eQ.mp hn).1,(eQ.mp hn).2,by exact ab ht rfl⟩
theorem m4.mem {l:List (Int×Oq)}{b:Nat}(h:m4 l b)(n:Nat):n∈pq l↔n<6/\ b.testBit n=true:=by
 rw[<-eQ];unfold pq;have e:l.map (λe=>e.1.toNat)=(l.map (·.1)).map Ub:=by simp
 rw[e,(h.1.map Ub).mem_iff];simp
theorem Bg {l:List (Int×Oq)}{b c:Nat}(hc:c<64)(h:m4 l c):lG b (pq l)=b |||c:=by
 apply Sv;intro i;simp only[fx,Vd];congr 1;rw[QS,decide_eq_true_eq,h.mem];constructor
 ·exact λh=>h.2
 ·intro hb
  refine⟨?_,hb⟩;apply QA;intro hi;have:c<2^i:=OL hc (by have:2^6<=2^i:=PO (Qc _ _) (R8.mp hi);exact this);rw[Tk this]at hb;cases hb
theorem uS {b:Nat}(hb:b<64)(h:(bs b).length=0):b=0:=by
 have:∀c:Nat,c<64->(bs c).length=0->c=0:=by decide
 exact this b hb h
theorem lq {n:Nat}(h:n<=24):r4 (P6 n - 1)=true/\ P6 n<=32:=by
 have:∀c:Nat,c<25->r4 (P6 c - 1)=true/\ P6 c<=32:=by decide
 exact this n (aaR h)
section
theorem ji {b:Nat}(h:fj es (bs b)):(Oo (bs b).length).toArray.filterMap (es[·]?)=es:=by refine bV h.size ?_;exact gt es
theorem yO {b:Nat}(h:fj es (bs b)):es.map (·.1)=((bs b).map λn:Nat=>(n:Int)).toArray:=by apply Us.mp;exact ab WB (ab h.1 rfl)
theorem vF {b n:Nat}{Q:Unit->On->Prop}(hn:n<=24)(h:be L s.heap.get? a b)(q:∀h',be L h'.get? a b->OE a s.heap h'->Q () {s with heap:=h'}):Oz (Ov ag w) A (setRelay a n) Q E s:=by
 obtain⟨hb,es,ep,mv,m,ho,hm,he⟩:=h;have Yb:(tab m mv L (bs b)).fits es.size=true:=by refine ab he.size ?_;exact bK hm
 have r1:=(lq hn).1;have r2:=(lq hn).2;refine Og (PM ho rfl Yb ?_);dsimp only;rw[if_neg (by refine ab P7 ?_;exact R8.mpr (Op r2 (by decide)))];have e1:(tab m mv L (bs b)).relaid (es.map (·.1)) n=W8 (tab (P6 n - 1) ((tab m mv L (bs b)).movedTo (P6 n - 1)) L (bs b),(Oo (bs b).length).toArray):=by refine ab (yO he) ?_;exact pB r1 hb
 refine ab e1 ?_;have hl:=fb b;have hz:es.size<=Sr:=by refine ab he.size (ab P7 ?_);exact Op hl (by decide)
 refine Og (m:=(do
  let Zo:=(Oo (bs b).length).toArray.filterMap (es[·]?)
  if Zo.size !=es.size then SY "internal:set-table-lost-an-element"
  pure (Zo,tab (P6 n - 1) ((tab m mv L (bs b)).movedTo (P6 n - 1)) L (bs b)):Sem (Array (Int×Oq)×O4))) ?_
 refine ab (ji he) ?_;simp only[bne_self_eq_false,PP,if_false];refine Oi ?_;refine So ho rfl ?_ hz;exact q _ ⟨hb,es,ep+1,_,_,Pm _ ho (by rfl),r1,he⟩ (Ph ..)
theorem xA {b n:Nat}{Q:Unit->On->Prop}(hn:n<=6)(h:be L s.heap.get? a b)(q:∀h',be L h'.get? a b->OE a s.heap h'->Q () {s with heap:=h'}):Oz (Ov ag w) A (setRoomFor a n) Q E s:=by
 have Z7:=h;obtain⟨hb,es,ep,mv,m,ho,hm,he⟩:=h;have Yb:(tab m mv L (bs b)).fits es.size=true:=by refine ab he.size ?_;exact bK hm
 refine Og (PM ho rfl Yb ?_);dsimp only;have hl:=fb b;unfold O4.roomFor;by_cases hc:((tab m mv L (bs b)).fill+n)*5>=(tab m mv L (bs b)).mask*3
 ·refine ab (if_pos hc) ?_
  exact vF (Op (Su 2 (aaV (Op (O2 (Uv _)) hl) hn)) (by decide)) Z7 q
 ·refine ab (if_neg hc) ?_
  exact Oi (q s.heap Z7 (Ru a s.heap))
theorem nu {o:OO}{b c:Nat}{each:Sem Unit}{Q:Unit->On->Prop}(Yn:a≠o)(ha:be (LW w) s.heap.get? a b)(ho:be (LW w) s.heap.get? o c)
 (he:∀s' (Q':Unit->On->Prop),s'.heap.get? o=s.heap.get? o->Q' () s'->Oz (Ov ag w) A each Q' E s')
 (q:∀h',be (LW w) h'.get? a (b |||c)->OE a s.heap h'->Q () {s with heap:=h'}):Oz (Ov ag w) A (setMerge a o each) Q E s:=by
 injections s a A E o b c each Q _ Yn ha ho he q;have ho₀:=ho;have hb:b<64:=ha.lt;obtain⟨hc,eo,epo,N',mo,hoo,hmo,heo⟩:=ho;have hfo:(tab mo N' (LW w) (bs c)).fits eo.size=true:=by refine ab heo.size ?_;exact bK hmo
 have hlc:=fb c;unfold setMerge;refine ab (if_neg (by simpa using Yn)) ?_;refine Og (PM hoo rfl hfo ?_);dsimp only;by_cases hemp:eo.isEmpty=true
 ·refine ab (if_pos hemp) ?_
  have:c=0:=uS hc (by refine bV heo.size ?_;simpa using hemp);subst this;exact Oi (q s.heap (by simpa using ha) (Ru a s.heap))
 ·refine ab (if_neg hemp) ?_
  refine Og (xA ((heo.size)▸hlc) ha λXM Ze Yu=> ?_);have ha₁':=Ze;obtain⟨_,es,ep,mv,m,hoa,hm,hea⟩:=Ze;have hfa:(tab m mv (LW w) (bs b)).fits es.size=true:=by refine ab hea.size ?_;exact bK hm
  refine Og (PM (s:= {s with heap:=XM}) hoa rfl hfa ?_);dsimp only;have hlz:eo.size<=Sr:=by refine ab heo.size (ab P7 ?_);exact Op (fb _) (by decide)
  have hLL:(LW w&&LW w)=LW w:=Bool.and_self _;unfold O4.road;by_cases hf:(tab m mv (LW w) (bs b)).fill≠0
  ·refine ab (if_pos (by simpa using hf)) ?_
   have Zd:be (LW w) XM.get? o c:=by exact ho₀.keep λ_ e=>(Yu.2 o Yn.symm).trans e
   refine Og (nt (s:= {s with heap:=XM}) Zd λZH harr=> ?_);refine Og (uE (I:=λl s'=> ∃b' h',s'= {s with heap:=h'}/\ be (LW w) h'.get? a b'/\ lG b' (pq l)=b |||c/\ (∀e∈l,e∈ZH.toList)/\ OE a s.heap h') ?_ ?_ ZH _ ⟨b,XM,rfl,ha₁',Bg hc harr,λe h=>h,Yu⟩)
   ·rintro e r s' ⟨b',h',rfl,X2,hor,YG,hsb⟩
    obtain⟨n,t,hn,hcn,rfl⟩:=harr.small (YG e QG);refine Og (ON (iW (s:= {s with heap:=h'}) X2 hn λXN X6 Y0=> ?_));have hk:XN.get? o=s.heap.get? o:=(Y0.2 o Yn.symm).trans (hsb.2 o Yn.symm);refine Og (he _ _ hk ?_);refine Og (PM (s:= {s with heap:=XN}) (show XN.get? o=_ from hk.trans hoo) rfl hfo ?_);simp only[bne_self_eq_false,PP,if_false];exact Oi ⟨rfl,b' ||| (1<<<n),XN,rfl,X6,hor,λe h=>YG e (Pp _ h),hsb.trans Y0⟩
   ·rintro s' ⟨b',h',rfl,X2,hor,_,hsb⟩
    have:b'=b |||c:=hor;subst this;exact Oi (q h' X2 hsb)
  ·refine ab (if_neg (by simpa using hf)) ?_
   have hfl:(tab m mv (LW w) (bs b)).fill=(bs b).length:=by simp[UL,tab]
   have hz:b=0:=uS hb (by refine bV hfl ?_;simpa using hf);subst hz;rw[Wm]at q;have upd:∀(m' mv':Nat),r4 m'=true->Q () {s with heap:=XM.update a (TB eo (tab m' mv' (LW w) (bs c)))}:=λm' mv' YJ=>q _ ⟨hc,eo,ep+1,mv',m',Pm _ hoa (by rfl),YJ,heo⟩ (Yu.trans (Ph ..));by_cases hmm:m=mo
   ·refine bV hmm ?_
    have hc1:((tab m mv (LW w) (bs 0)).mask==(tab m N' (LW w) (bs c)).mask&&(tab m N' (LW w) (bs c)).dummies.isEmpty)=true:=by simp[tab]
    refine ab (if_pos hc1) ?_;have et:({(tab m N' (LW w) (bs c))with finger:=(tab m mv (LW w) (bs 0)).finger,led:=(tab m mv (LW w) (bs 0)).led&&(tab m N' (LW w) (bs c)).led,moves:=(tab m mv (LW w) (bs 0)).moves,plain:=(tab m mv (LW w) (bs 0)).plain&&(tab m N' (LW w) (bs c)).plain}:O4)=tab m mv (LW w) (bs c):=by simp[tab]
    refine So (s:= {s with heap:=XM}) hoa rfl ?_ hlz;refine(et)▸ ?_;exact upd m mv hm
   ·have hc1:¬((tab m mv (LW w) (bs 0)).mask==(tab mo N' (LW w) (bs c)).mask&&(tab mo N' (LW w) (bs c)).dummies.isEmpty)=true:=by simp[tab,hmm]
    refine ab (if_neg hc1) ?_;dsimp only;have e1:QP (tab m mv (LW w) (bs 0)).mask (tab m mv (LW w) (bs 0)).finger (tab m mv (LW w) (bs 0)).moves ((tab m mv (LW w) (bs 0)).led&&(tab mo N' (LW w) (bs c)).led) ((tab m mv (LW w) (bs 0)).plain&&(tab mo N' (LW w) (bs c)).plain) (eo.map (·.1))=W8 (tab m mv (LW w) (bs c),(Oo (bs c).length).toArray):=by refine ab (yO heo) ?_;show QP m 0 mv (LW w&&LW w) true _=_;refine ab hLL ?_;exact pB hm hc
    refine ab e1 ?_;refine Og (m:=(do
     let Zo:=(Oo (bs c).length).toArray.filterMap (eo[·]?)
     if Zo.size !=eo.size then SY "internal:set-table-lost-an-element"
     pure (Zo,tab m mv (LW w) (bs c)):Sem (Array (Int×Oq)×O4))) ?_
    refine ab (ji heo) ?_;simp only[bne_self_eq_false,PP,if_false];refine Oi ?_;refine So (s:= {s with heap:=XM}) hoa rfl ?_ hlz;exact upd m mv hm
end
section
theorem EJ {b i:Nat}(hb:b<64)(hi:6<=i):b.testBit i=false:=by
 refine Tk (OL hb ?_);have:2^6<=2^i:=PO (by decide) hi
 simpa using this
theorem tE {b c:Nat}(hb:b<64)(hc:c<64)(h:bs b=bs c):b=c:=by
 apply Sv;intro i;by_cases hi:i<6
 ·have h1:=eQ (b:=b) (n:=i)
  have h2:=eQ (b:=c) (n:=i);rw[h]at h1;rw[QS];exact⟨λq=>(h2.mp (h1.mpr ⟨hi,q⟩)).2,λq=>(h1.mp (h2.mpr ⟨hi,q⟩)).2⟩
 ·exact ab (EJ hb (R8.mp hi)) (ab (EJ hc (R8.mp hi)) rfl)
theorem be.typeIs {b:Nat}(h:be L s.heap.get? a b):s.TypeIs (.ref a) "set":=(by obtain⟨_,_,_,_,_,ho,_,_⟩:=h;exact⟨_,ho,rfl⟩)
theorem j6 {b:Nat}{Q:Bool->On->Prop}(h:be L s.heap.get? a b)(q:Q true s):Oz (Ov ag w) A (W4 (.ref a)) Q E s:=by
 refine Og (QM h.typeIs U3 ?_)
 first
  |exact Oi q
  | (simp only[if_true];exact Oi q)
theorem zU {b:Nat}(h:be L s.heap.get? a b)(q:Q (.type "set") s):Oz (Ov ag w) A (W6 a) Q E s:=by refine Og (QM h.typeIs U3 (Oi ?_));exact q
theorem sj {b:Nat}{Q:Nat->On->Prop}(h:be L s.heap.get? a b)(q:Q (bs b).length s):Oz (Ov ag w) A (W2 a) Q E s:=by
 obtain⟨hb,es,ep,mv,m,ho,hm,he⟩:=h;have Yb:(tab m mv L (bs b)).fits es.size=true:=by refine ab he.size ?_;exact bK hm
 refine Og (Um ho rfl Yb (Oi ?_));refine ab he.size ?_;exact q
theorem cY {h:O0}:h.get? h.objs.size=W9:=by
 cases e:h.get? h.objs.size with
 |none=>rfl
 |some o=>exact absurd (Pl e) (T7 _)
theorem be.ne_new {b:Nat}(h:be L s.heap.get? a b):a≠s.heap.objs.size:=λe=>by obtain⟨_,_,_,_,_,ho,_,_⟩:=h;rw[e,cY]at ho;cases ho
theorem qW {b:Nat}(h:be (LW w) s.heap.get? a b)(q:∀h',be (LW w) h'.get? s.heap.objs.size b->(∀c o,s.heap.get? c=W8 o->h'.get? c=W8 o)->Q (.ref s.heap.objs.size) {s with heap:=h'}):
 Oz (Ov ag w) A (W5 a) Q E s:=by
 refine Og (zU h (Og (tV λXM h1 hk=> ?_)));refine Og (m:=Pj (.ref s.heap.objs.size)) (Oi ?_);refine Og (nu (s:= {s with heap:=XM}) (b:=0) (c:=b) h.ne_new.symm h1 (h.keep λo e=>hk _ o e) (λs' Q' _ hq=>Oi hq) λXN h2 hs=>Oi ?_);simp only[Wm]at h2;exact q XN h2 λc o e=>(hs.2 c (λe'=>by subst e';rw[cY]at e;cases e)).trans (hk c o e)
theorem dJ {id:String}{o:OO}{t:O4}{Q:Unit->On->Prop}(ho:s'.heap.get? o=W8 {cls:= .type "set",dict:=W9,data:= .set es ep t,slots:= #[]}) (hf:t.fits es.size=true) (q:Q () s'):
 Oz (Ov ag w) A (Tl id o ep) Q E s':=by
 refine Og (Th ho rfl hf ?_);simp only[bne_self_eq_false,PP,if_false];exact Oi q
theorem dH {id:String}{o:OO}{b c:Nat}{Q:Unit->On->Prop}(ha:be (LW w) s.heap.get? a b)(ho:be (LW w) s.heap.get? o c)
 (q:∀h',be (LW w) h'.get? a (b |||c)->OE a s.heap h'->Q () {s with heap:=h'}):Oz (Ov ag w) A (QI id a (.ref o)) Q E s:=by
 injections s a A E id o b c Q _ ha ho q;refine Og (j6 ho ?_);refine Og (m:=Pj (.ref o)) (Oi ?_);have Yw:=ho;obtain⟨hc,eo,epo,N',mo,hoo,hmo,heo⟩:=Yw;have hfo:(tab mo N' (LW w) (bs c)).fits eo.size=true:=by refine ab heo.size ?_;exact bK hmo
 refine Og (Th hoo rfl hfo ?_);by_cases Yn:a=o
 ·subst Yn
  have:b=c:=by
   obtain⟨hb,e1,_,_,_,x1,_,y1⟩:=ha;rw[hoo]at x1;injection x1 with x1;injection x1 with _ _ x1 _;injection x1 with x1 _ _;subst x1;have hl:(bs b).map (λn:Nat=>(n:Int))=(bs c).map (λn:Nat=>(n:Int)):=y1.1.symm.trans heo.1;have YR:bs b=bs c:=by have:=congrArg (Wp Ub) hl;simpa [SO]using this
   exact tE hb hc YR
  subst this;unfold setMerge;refine ab (if_pos (by simp)) ?_;exact Oi (q s.heap (by rw[Nat.or_self];exact ha) (Ru a s.heap))
 ·exact nu Yn ha ho (λs' Q' hk hq=>dJ (hk.trans hoo) hfo hq) q
theorem Kz {b c:Nat}(hb:b<64):b&&&c<64:=OW UZ hb
theorem zX {l:List (Int×Oq)}{b c:Nat}(hb:b<64)(h:m4 l b):lG 0 ((pq l).filter λn=>c.testBit n)=b&&&c:=by
 apply Sv;intro i;simp only[fx,Nat.testBit_and];simp only[Nat.zero_testBit,Qm];rw[QS,decide_eq_true_eq,SA,h.mem,Qg];constructor
 ·rintro⟨⟨_,h1⟩,h2⟩;exact⟨h1,h2⟩
 ·rintro⟨h1,h2⟩
  refine⟨⟨?_,h1⟩,h2⟩;apply QA;intro hi;rw[EJ hb (R8.mp hi)]at h1;cases h1
theorem vG {id:String}{o:OO}{b c:Nat}(ha:be (LW w) s.heap.get? a b)(ho:be (LW w) s.heap.get? o c)
 (q:∀h',be (LW w) h'.get? s.heap.objs.size (b&&&c)->(∀c o,s.heap.get? c=W8 o->h'.get? c=W8 o)->Q (.ref s.heap.objs.size) {s with heap:=h'}):
 Oz (Ov ag w) A (Tb id a (.ref o)) Q E s:=by
 injections s a A E Q id o b c _ ha ho q;unfold Tb;by_cases Yn:o=a
 ·subst Yn
  refine ab (if_pos (by simp)) ?_;have:b=c:=by
   obtain⟨hb,e1,_,_,_,x1,_,y1⟩:=ha;obtain⟨hc,e2,_,_,_,x2,_,y2⟩:=ho;rw[x2]at x1;injection x1 with x1;injection x1 with _ _ x1 _;injection x1 with x1 _ _;subst x1;have hl:(bs b).map (λn:Nat=>(n:Int))=(bs c).map (λn:Nat=>(n:Int)):=y1.1.symm.trans y2.1;have YR:bs b=bs c:=by have:=congrArg (Wp Ub) hl;simpa [SO]using this
   exact tE hb hc YR
  subst this;exact qW ha λh' h1 h2=>q h' (by rw[Nat.and_self];exact h1) h2
 ·refine ab (if_neg (by simpa using Yn)) ?_
  refine Og (zU ha (Og (tV λXM h1 hk=> ?_)));refine Og (m:=Pj (.ref s.heap.objs.size)) (Oi ?_);have Ze:be (LW w) XM.get? a b:=ha.keep λo e=>hk _ o e;have Zd:be (LW w) XM.get? o c:=ho.keep λo e=>hk _ o e;have key:∀(Zh YC:OO) (x y:Nat),be (LW w) XM.get? Zh x->be (LW w) XM.get? YC y->Zh≠s.heap.objs.size->YC≠s.heap.objs.size->y&&&x=b&&&c->
   Oz (Ov ag w) A (do
    let was <-setEpoch YC
    for (h,x)in <-setWalkUnseen YC [Zh,s.heap.objs.size] (W8 s.heap.objs.size) do
     Qo [x] do
      if(<-setFind Zh x h).isSome then
       let _ <-setAddHashed s.heap.objs.size x h
     Tl id YC was) (λ_ s'=>Q (.ref s.heap.objs.size) s') E {s with heap:=XM}:=by
   intro Zh YC x y hx hy nx ny hxy;have hy₀:=hy;obtain⟨hyb,ey,epy,mvy,my,hoy,hmy,hey⟩:=hy₀;have hfy:(tab my mvy (LW w) (bs y)).fits ey.size=true:=by refine ab hey.size ?_;exact bK hmy
   refine Og (Th (s:= {s with heap:=XM}) hoy rfl hfy ?_);refine Og (nt (s:= {s with heap:=XM}) hy λZH harr=> ?_);refine Og (uE (I:=λl s'=> ∃b' h',s'= {s with heap:=h'}/\ be (LW w) h'.get? s.heap.objs.size b'/\ lG b' ((pq l).filter λn=>x.testBit n)=b&&&c/\ (∀e∈l,e∈ZH.toList)/\ OE s.heap.objs.size XM h') ?_ ?_ ZH _ ⟨0,XM,rfl,h1,by exact ab (zX hyb harr) (ab hxy rfl),λe h=>h,Ru _ _⟩)
   ·rintro e r s' ⟨b',h',rfl,X2,hor,YG,hsb⟩
    obtain⟨n,t,hn,hcn,rfl⟩:=harr.small (YG e QG);have T':be (LW w) h'.get? Zh x:=hx.keep λo e=>(hsb.2 _ nx).trans e;have S':h'.get? YC=_:=(hsb.2 _ ny).trans hoy;have hnat:pq (((n:Int),WN n t)::r)=n::pq r:=by simp[pq]
    simp only[hnat,WX]at hor;refine Og (ON (Og (xD (s:= {s with heap:=h'}) T' hn λr' Y'=> ?_)));refine(Y')▸ ?_;cases hxn:x.testBit n with
    |true=>rw[hxn]at hor;simp only[if_true]at hor⊢;refine Og (iW (s:= {s with heap:=h'}) X2 hn λXN X6 Y0=> ?_);refine Oi ?_;refine Og (dJ (s':= {s with heap:=XN}) ((Y0.2 _ ny).trans S') hfy ?_);exact Oi ⟨rfl,b' ||| (1<<<n),XN,rfl,X6,hor,λe h=>YG e (Pp _ h),hsb.trans Y0⟩
    |false=>rw[hxn]at hor;simp only[PP,if_false]at hor⊢;refine Oi ?_;refine Og (dJ (s':= {s with heap:=h'}) S' hfy ?_);exact Oi ⟨rfl,b',h',rfl,X2,hor,λe h=>YG e (Pp _ h),hsb⟩
   ·rintro s' ⟨b',h',rfl,X2,hor,_,hsb⟩
    have:b'=b&&&c:=hor;subst this;exact Oi (q h' X2 λd o e=>(hsb.2 d (λe'=>by subst e';rw[cY]at e;cases e)).trans (hk d o e))
  have nA:=ha.ne_new;have nO:=ho.ne_new;refine Og (ON (Og (j6 (s:= {s with heap:=XM}) Zd ?_)));refine Og (m:=Pj (.ref o)) (Oi ?_);refine Og (sj (s:= {s with heap:=XM}) Zd (Og (sj (s:= {s with heap:=XM}) Ze ?_)));by_cases hgt:(bs c).length>(bs b).length
  ·refine ab (if_pos hgt) ?_
   exact Ot (key o a c b Zd Ze nO nA rfl) (λ_ s' h=>Oi h) λ_ _ h=>h
  ·refine ab (if_neg hgt) ?_
   exact Ot (key a o b c Ze Zd nA nO (Nat.and_comm _ _)) (λ_ s' h=>Oi h) λ_ _ h=>h
end
theorem wd:Wb table "set.__and__"=W8 OT.«frozenset.__and__»:=Uf (id':= "frozenset.__and__") (by kernel_rfl) rfl (by decide+kernel) (by kernel_rfl)
theorem v5:Vs (.type "set") (R5.BitAnd.info).2=pure true:=by kernel_rfl
section
theorem be.fun {g:OO->Option Obj}{b c:Nat}(ha:be L g a b)(ho:be L g a c):b=c:=by
 obtain⟨hb,e1,_,_,_,x1,_,y1⟩:=ha;obtain⟨hc,e2,_,_,_,x2,_,y2⟩:=ho;rw[x2]at x1;injection x1 with x1;injection x1 with _ _ x1 _;injection x1 with x1 _ _;subst x1;have hl:(bs b).map (λn:Nat=>(n:Int))=(bs c).map (λn:Nat=>(n:Int)):=y1.1.symm.trans y2.1;have YR:bs b=bs c:=by have:=congrArg (Wp Ub) hl;simpa [SO]using this
 exact tE hb hc YR
theorem A3 {o:OO}{b c:Nat}(ha:be (LW w) s.heap.get? a b)(ho:be (LW w) s.heap.get? o c)
 (q:∀h',be (LW w) h'.get? s.heap.objs.size (b&&&c)->(∀c o,s.heap.get? c=W8 o->h'.get? c=W8 o)->Q (.ref s.heap.objs.size) {s with heap:=h'}):
 Oz (Ov ag w) A (Rj .BitAnd (.ref a) (.ref o)) Q E s:=by
 refine wpAny_binaryOp_same (op:= .BitAnd) (T:= "set") ha.typeIs ho.typeIs v5 F.slot_set_and (O9 F.slot_set_and ha.typeIs wd ?_ (F.args_set_and_2 _ _));refine Og (Pc (a:=(.ref a,.ref o)) rfl ?_);refine Og (Og (j6 ha ?_))
 first
  | (simp only[if_true];refine j6 ho ?_)
  |refine j6 ho ?_
 refine Og (m:=Pj (.ref a)) (Oi ?_);refine Og (vG ha ho λh' h1 h2=> ?_);exact Oi ⟨_,rfl,(by intro h;cases h),q h' h1 h2⟩
theorem rJ:fillsInplaceSlot (.type "set") (Wj.info).2 (Wj== .Add)=pure true:=by kernel_rfl
theorem A2 {o:OO}{b c:Nat}(ha:be (LW w) s.heap.get? a b)(ho:be (LW w) s.heap.get? o c)
 (q:∀h',be (LW w) h'.get? a (b |||c)->OE a s.heap h'->Q (.ref a) {s with heap:=h'}):
 Oz (Ov ag w) A (inplaceOp .BitOr (.ref a) (.ref o)) Q E s:=by
 refine ON ?_;dsimp only;refine Og (U2 ha.typeIs ?_);refine Og (Pc rJ ?_);refine Og (wpAny_tryMethod_slot ha.typeIs F.slot_set_ior (O9 F.slot_set_ior ha.typeIs F.entry_set_ior ?_ (F.args_set_ior_2 _ _)));refine Og (Pc (a:=(.ref a,.ref o)) rfl ?_);dsimp only;refine Og (j6 ho ?_);refine Og (m:=Pj (.ref a)) (Oi ?_);refine Og (dH ha ho λh' h1 h2=> ?_);refine Oi ⟨_,rfl,(by intro h;cases h),?_⟩;exact Og (QL (Oi (q h' h1 h2)))
theorem sI {o:OO}{b c:Nat}(ha:be (LW w) s.heap.get? a b)(ho:be (LW w) s.heap.get? o c)
 (q:∀h',be (LW w) h'.get? a (b |||c)->OE a s.heap h'->Q .none {s with heap:=h'}):
 Oz (Ov ag w) A (call (.builtin "set.update") [.ref a,.ref o]) Q E s:=by
 refine O9 F.slot_set_update ha.typeIs F.entry_set_update ?_ (F.args_set_update_2 _ _)
 delta OT.«set.update» Tg
 refine Og (Og (m:=Pj (.ref a)) (Oi (Oi ?_)));simp only[Tn,U8];refine Og (Og (Og (dH ha ho λh' h1 h2=>Oi ?_)));exact Oi (Oi ⟨_,rfl,q h' h1 h2⟩)
theorem rM:Wb table "set.union"=W8 OT.«frozenset.union»:=Uf (id':= "frozenset.union") (by kernel_rfl) rfl (by decide+kernel) (by kernel_rfl)
theorem vE {o:OO}{b c:Nat}(ha:be (LW w) s.heap.get? a b)(ho:be (LW w) s.heap.get? o c)
 (q:∀h',be (LW w) h'.get? s.heap.objs.size (b |||c)->(∀c o,s.heap.get? c=W8 o->h'.get? c=W8 o)->Q (.ref s.heap.objs.size) {s with heap:=h'}):
 Oz (Ov ag w) A (call (.builtin "set.union") [.ref a,.ref o]) Q E s:=by
 injections s a A E Q o b c _ ha ho q;refine O9 F.slot_set_union ha.typeIs rM ?_ (F.args_set_union_2 _ _);unfold OT.«frozenset.union» Tg;simp only[WW,Bool.not_true,PP,if_false];refine Og (Og (m:=Pj (.ref a)) (Oi (Oi ?_)));dsimp only;refine Og (qW ha λXM h1 hk=> ?_);simp only[Tn,U8];refine Og (ON (Og (m:=_) ?_));by_cases e:o=a
 ·subst e
  have:=ha.fun ho;subst this;refine ab (if_neg (by simp)) ?_;refine Og (Oi (Oi (Oi ?_)));exact Oi ⟨_,rfl,q XM (by rw[Nat.or_self];exact h1) hk⟩
 ·have Yn:(PL o !=PL a)=true:=by simpa using e
  refine ab (if_pos Yn) ?_;refine Og (Og (m:=Pj (.ref s.heap.objs.size)) (Oi ?_));refine Og (dH (s:= {s with heap:=XM}) h1 (ho.keep λo e=>hk _ o e) λXN h2 hs=> ?_);refine Oi (Oi (Oi (Oi ⟨_,rfl,q XN h2 λd o' e'=> ?_⟩)));exact(hs.2 d (λe''=>by subst e'';rw[cY]at e';cases e')).trans (hk d o' e')
end
section
def bU (w:We):Obj:= {cls:= .type "set",dict:=W9,data:= .set #[] 0 (.fresh 0 0 (LW w))}
theorem gN {h:O0}{w:We}:be (LW w) (h.push (bU w)).get? h.objs.size 0:=⟨by decide,#[],0,0,7,OB _ rfl,rfl,rfl,λe he=>by simp at he⟩
theorem xB (x:Oq)(q:Q₁ (.ref s.heap.objs.size) {s with heap:=s.heap.push (bU w)}):
 Ra (Ov ag w) A (.call (.builtin "set.__new__") ⟨[.type "set",x],[]⟩) (wants Q₁ E) s:=by
 injections s A E Q₁ x _ q;refine R4 ?_;refine Og (Pc (F.newCall_set_1 x) (Oi ⟨Q9 F.plain_set_new _,PC F.entry_set_new ?_⟩))
 delta OT.«set.__new__» Tp
 have YG:=U3;obtain⟨hp,g,d,tk,os⟩:=s
 wp_walk
 refine Ps (Oi ?_);dsimp only;refine Og (Tu (Oi ?_));exact Oi q
theorem nv (x:Oq){F₂:On->Prop}
 (hu:Oz (Ov ag w) A.in1.in1 (QI "set.__init__" s.heap.objs.size x) (λ_ XC=>F₂ XC) E {s with heap:=s.heap.push (bU w)})
 (q:∀XC,F₂ XC->XC.TypeIs (.ref s.heap.objs.size) "set"/\ Q (.ref s.heap.objs.size) XC):
 Oz (Ov ag w) A (call (.type "set") [x]) Q E s:=by
 injections s A E Q x F₂ _ hu q;obtain⟨c,tl,hmro⟩:=PW.mro;have hmade:=PW.made;have YG:=PW.sub;refine RU (R4 ?_);refine Oi ⟨T3 _ (by decide+kernel),PC UJ ?_⟩;refine(VR (WE "set" [x] []) rfl)▸ ?_;have h1:=PW.notType;have h2:=PW.canCreate;have hct:=F.typeCall_set_1 x
 repeat (any_goals (first |assumption |wp_step))
 refine Pb (xB x (E:=E) (Q₁:=λobj XB=>obj= .ref s.heap.objs.size/\ XB= {s with heap:=s.heap.push (bU w)}) ⟨rfl,rfl⟩) λr XB hr=> ?_;cases r with
 |error e=>exact hr
 |ok fl=>
  cases fl with
  |ret obj=>
   obtain⟨rfl,rfl⟩:=hr;have hS:(s.heap.push (bU w)).get? s.heap.objs.size=W8 (bU w):=OB _ rfl;have hT:U6 {s with heap:=s.heap.push (bU w)} (.ref s.heap.objs.size) "set":=⟨_,hS,rfl⟩;have hli:=PW.init.lookup;have Zw:=PW.init.bind (.ref s.heap.objs.size)
   repeat (any_goals (first |assumption |wp_step))
   refine Pb (SM (R:=wants (λr XC=>r= .none/\ F₂ XC) E) PW.init.plain F.entry_set_init (check_set_init_1 hT ?_)) λXZ XC Yv=> ?_
   ·have hS':(s.heap.push {cls:= .type "set",dict:=W9,data:= .set #[] 0 (.fresh 0 0 (LW w))}).get? s.heap.objs.size=W8 {cls:= .type "set",dict:=W9,data:= .set #[] 0 (.fresh 0 0 (LW w))}:=hS
    delta OT.«set.__init__» noKeywords
    unfold bU at hu hT⊢;generalize hUF:QI=UF at hu⊢
    wp_walk
    exact Ot hu (λ_ s' hf=>Oi ⟨rfl,hf⟩) λ_ _ h=>h
   ·cases XZ with
    |error e=>exact Yv
    |ok fl₂=>
     cases fl₂ with
     |ret r=>
      obtain⟨rfl,hf⟩:=Yv;obtain⟨hT2,hq⟩:=q _ hf
      repeat (any_goals (first |assumption |wp_step))
     |_=>exact Yv.elim
  |_=>exact hr.elim
theorem sJ {o:OO}{c:Nat}(ho:be (LW w) s.heap.get? o c)
 (q:∀h',be (LW w) h'.get? s.heap.objs.size c->(∀c o,s.heap.get? c=W8 o->h'.get? c=W8 o)->Q (.ref s.heap.objs.size) {s with heap:=h'}):Oz (Ov ag w) A (call (.type "set") [.ref o]) Q E s:=by
 injections s A E Q o c _ ho q;refine nv (.ref o) (F₂:=λXC=> ∃h',XC= {s with heap:=h'}/\ be (LW w) h'.get? s.heap.objs.size c/\ ∀c o,s.heap.get? c=W8 o->h'.get? c=W8 o) ?_ ?_
 ·refine dH (s:= {s with heap:=s.heap.push (bU w)}) gN (ho.keep λo e=>Om _ e) λh' h1 h2=>⟨h',rfl,by rw[Wm]at h1;exact h1,λd o' e=> ?_⟩
  exact(h2.2 d (λe'=>by subst e';rw[cY]at e;cases e)).trans (Om _ e)
 ·rintro XC ⟨h',rfl,h1,h2⟩
  exact⟨h1.typeIs,q h' h1 h2⟩
end
theorem c9:Wg "set_iterator" "__next__" "set_iterator.__next__":=
 .of (owner:= "set_iterator") (n:= "__next__") (by rw[typeLookup_type,WL];kernel_rfl) (by decide+kernel) (by decide+kernel) (by decide+kernel) (by first |exact .inl (by decide+kernel) |exact .inr (by decide+kernel)) (by rw[QU];kernel_rfl)
theorem iU:Wg "set_iterator" "__iter__" "set_iterator.__iter__":=
 .of (owner:= "set_iterator") (n:= "__iter__") (by rw[typeLookup_type,WL];kernel_rfl) (by decide+kernel) (by decide+kernel) (by decide+kernel) (by first |exact .inl (by decide+kernel) |exact .inr (by decide+kernel)) (by rw[QU];kernel_rfl)
theorem im:Wb table "set_iterator.__next__"=W8 OT.«set_iterator.__next__»:=entryFor_of_tree (by kernel_rfl)
theorem ra:Manifest.owners.lookup (String.ofList ['r','o','t','a','r','e','t','i','_','t','e','s'].reverse)=W8 Manifest.sig_set_iterator:=by kernel_rfl
theorem jq (a:Oq):argsOk "set_iterator.__next__" ⟨[a],[]⟩:=by unfold argsOk;rw[signature?_of (id:= "set_iterator.__next__") (n:= ['_','_','t','x','e','n','_','_']) (o:= ['r','o','t','a','r','e','t','i','_','t','e','s']) (by kernel_rfl) ra];kernel_rfl
theorem pW (a:Oq):argsOk "set_iterator.__iter__" ⟨[a],[]⟩:=by unfold argsOk;rw[signature?_of (id:= "set_iterator.__iter__") (n:= ['_','_','r','e','t','i','_','_']) (o:= ['r','o','t','a','r','e','t','i','_','t','e','s']) (by kernel_rfl) ra];kernel_rfl
theorem mu:Wb table "set.__iter__"=W8 OT.«frozenset.__iter__»:=Uf (id':= "frozenset.__iter__") (by kernel_rfl) rfl (by decide+kernel) (by kernel_rfl)
def fV (b:Nat):Nat->Nat
 |0=>0
 |i+1=>(bs b).getD i 0+1
theorem zO:((Oo 64).all λb=>(Oo 7).all λi=> !(decide (i<=(bs b).length)) ||Uu (bs b).toArray (fV b i)==i)=true:=by kernel_rfl
theorem zP {b i:Nat}(hb:b<64)(hi:i<=(bs b).length):Uu (bs b).toArray (fV b i)=i:=by
 have hl:=fb b;have h:=Ou.mp (Ou.mp zO b (OF.mpr hb)) i (OF.mpr (aaR (Op hi hl)))
 simpa [hi]using h
def oH (g:OO->Option Obj)(I a:OO)(slot i n ep:Nat):Prop:=g I=W8 {cls:= .type "set_iterator",dict:=W9,data:= .fields #[Qd slot,Qd i,.ref a,Qd n,Qd ep],slots:= #[]}
section
theorem qV {b:Nat}(hb:b<64)(ho:s.heap.get? a=W8 {cls:= .type "set",dict:=W9,data:= .set es ep (tab m mv (LW w) (bs b)),slots:= #[]}) (hm:r4 m=true) (he:fj es (bs b))
 (q:Q (.ref s.heap.objs.size) {s with heap:=s.heap.push {cls:= .type "set_iterator",data:= .fields #[Qd 0,Qd 0,.ref a,Qd (bs b).length,Qd ep]}}):Oz (Ov ag w) A (Ti (.ref a)) Q E s:=by
 injections m mv ep s a A E Q es b _ hb ho hm he q;have hT:s.TypeIs (.ref a) "set":=⟨_,ho,rfl⟩;have Yb:(tab m mv (LW w) (bs b)).fits es.size=true:=by refine ab he.size ?_;exact bK hm
 refine wpAny_pyIter_slot hT F.slot_set_iter (O9 F.slot_set_iter hT mu ?_ (F.args_set_iter_1 _));unfold OT.«frozenset.__iter__»;show Oz _ _ (W1 "__iter__" ⟨[.ref a],[]⟩>>=_) _ _ s;refine Og (Pc (a:=a) rfl ?_);refine Og (sj ⟨hb,es,ep,mv,m,ho,hm,he⟩ ?_);refine Og (Og (PM ho rfl Yb ?_));refine Og (Og (Ps (Oi (Oi ?_))));show Oz _ _ (if(!(w.params.followText "set-order")&&(!true&&decide (es.size>1)))=true then _ else _) _ _ _;refine ab (if_neg (by simp)) ?_;refine Og (Oi ?_);refine Og (Th ho rfl Yb ?_);refine Og (Og (Tu (Oi ?_)));exact Oi ⟨_,rfl,"set_iterator",_,⟨_,OB _ rfl,rfl⟩,c9.lookup,q⟩
def cQ (w:We)(a ep:Nat)(es:Array (Int×Oq)):Array (Int×Oq):=if w.params.followText "set-order" then Vp (w.params.setOrder a ep) es else es
theorem eM {a b:Nat}(h:fj es (bs b)):m4 (cQ w a ep es).toList b:=by
 unfold cQ;split
 ·exact h.walk (nJ _ _)
 ·exact h.walk .rfl
theorem vD {b:Nat}{Q:Array (Int×Oq)->On->Prop}(ho:s.heap.get? a=W8 {cls:= .type "set",dict:=W9,data:= .set es ep (tab m mv (LW w) (bs b)),slots:= #[]}) (hm:r4 m=true) (he:fj es (bs b)) (q:Q (cQ w a ep es) s):
 Oz (Ov ag w) A (setWalk a) Q E s:=by
 injections m mv ep s a A E es b Q _ ho hm he q;have Yb:(tab m mv (LW w) (bs b)).fits es.size=true:=by refine ab he.size ?_;exact bK hm
 refine Og (PM ho rfl Yb ?_);refine Og (Og (Ps (Oi ?_)));show Oz _ _ (if w.params.followText "set-order"=true then _ else _) _ _ _;split
 ·rename_i hT
  unfold cQ at q;rw[if_pos hT]at q;exact Og (Ps (Oi q))
 ·rename_i hT
  unfold cQ at q;rw[if_neg hT]at q;have hL:LW w=true:=by unfold LW;simpa using hT
  first
   |exact Oi q
   | (refine ab hL ?_;exact Og (Pc (a:=()) rfl (Oi q)))
   | (show Oz _ _ (do (if(!(LW w)&&decide (es.size>1))=true then SY "set:maker-not-led" else pure ());pure es) _ _ _
      rw[hL];exact Og (Oi (Oi q)))
theorem lh {b i:Nat}{Q:Option (Oq×Nat)->On->Prop}(hb:b<64)(ho:s.heap.get? a=W8 {cls:= .type "set",dict:=W9,data:= .set es ep (tab m mv (LW w) (bs b)),slots:= #[]}) (hm:r4 m=true) (he:fj es (bs b)) (hi:i<=(bs b).length)
 (YN:w.params.followText "set-order"=false->slot=fV b i)
 (q:∀Yj,(w.params.followText "set-order"=false->i<(bs b).length->Yj=fV b (i+1))->Q ((cQ w a ep es)[i]?.map λx=>(x.2,Yj)) s):Oz (Ov ag w) A (setNext a slot i ep) Q E s:=by
 injections m mv ep slot s a A E es b i Q _ hb ho hm he hi YN q;have Yb:(tab m mv (LW w) (bs b)).fits es.size=true:=by refine ab he.size ?_;exact bK hm
 refine Og (PM ho rfl Yb ?_);dsimp only;refine Og (Og (Ps (Oi ?_)));show Oz _ _ (if w.params.followText "set-order"=true then _ else _) _ _ _;cases hT:w.params.followText "set-order" with
 |true=>refine ab (if_pos rfl) ?_;simp only[bne_self_eq_false,PP,if_false];exact Og (vD ho hm he (Oi (q slot λh=>by rw[hT]at h;cases h)))
 |false=>
  refine ab (if_neg (by simp)) ?_;have hs:=YN hT;have Yw:cQ w a ep es=es:=by unfold cQ;refine ab hT ?_;rfl
  have hL:LW w=true:=by unfold LW;refine ab hT ?_;rfl
  show Oz _ _ (if(!true&&decide (es.size>1))=true then _ else _) _ _ _;refine ab (if_neg (by simp)) ?_;have eb:Uu (tab m mv (LW w) (bs b)).place slot=i:=by refine ab hs ?_;exact zP hb hi
  refine Og (Pc (a:=()) (by show(if(!(LW w)&& !es.isEmpty)=true then SY "set:maker-not-led" else pure ())=pure ();refine ab hL ?_;rfl) ?_);refine ab eb ?_;have YE:=he.size;by_cases ZQ:i<(bs b).length
  ·have e1:es[i]?=W8 es[i]:=PU (YE▸ZQ)
   have e2:(tab m mv (LW w) (bs b)).place[i]?=W8 ((bs b)[i]):=by simp[tab,ZQ]
   refine ab e1 (ab e2 ?_);refine Oi ?_;have:=q ((bs b)[i]+1) λ_ _=>by simp[fV,ZQ]
   rw[Yw,e1]at this;exact this
  ·have e1:es[i]?=W9:=RZ (YE▸Nat.le_of_not_lt ZQ)
   refine ab e1 ?_;refine Oi ?_;have:=q 0 λ_ h=>absurd h ZQ;rw[Yw,e1]at this;exact this
theorem mV {b i:Nat}{x:Int×Oq}{Q:Option Oq->On->Prop}(hb:b<64)(ho:s.heap.get? a=W8 {cls:= .type "set",dict:=W9,data:= .set es ep (tab m mv (LW w) (bs b)),slots:= #[]}) (hm:r4 m=true) (he:fj es (bs b))
 (hI:oH s.heap.get? I a slot i (bs b).length ep) (YN:w.params.followText "set-order"=false->slot=fV b i) (hx:(cQ w a ep es)[i]?=W8 x)
 (q:∀h' Yj,oH h'.get? I a Yj (i+1) (bs b).length ep->(w.params.followText "set-order"=false->Yj=fV b (i+1))->OE I s.heap h'->Q (W8 x.2) {s with heap:=h'}):Oz (Ov ag w) A (Sk (.ref I)) Q E s:=by
 injections m mv ep slot s a I A E es b i x Q _ hb ho hm he hI YN hx q;have hT:s.TypeIs (.ref I) "set_iterator":=⟨_,hI,rfl⟩;have Yb:(tab m mv (LW w) (bs b)).fits es.size=true:=by refine ab he.size ?_;exact bK hm
 unfold Sk;refine Og (Tt (PN (name:=QV "__next__") hT c9 (O9 c9 hT im ?_ (jq _))));unfold OT.«set_iterator.__next__»;show Oz _ _ (slotArgs "__next__" 0 ⟨[.ref I],[]⟩>>=_) _ _ s;refine Og (Pc (a:=(.ref I,[])) rfl ?_);dsimp only;refine Og (Ud hI rfl ?_);dsimp only;refine Og (Um ho rfl Yb ?_);have YE:=he.size;have Yn:(((es.size:Nat):Int) !=(((bs b).length:Nat):Int))=false:=by refine ab YE ?_;simp
 rw[if_neg (by refine ab Yn ?_;simp)];have hosz:(cQ w a ep es).size=(bs b).length:=by
  have:=(eM (a:=a) (ep:=ep) he).1.length_eq
  simpa using this
 have hi:i<(bs b).length:=by refine bV hosz ?_;exact(SJ.mp hx).1
 have en:∀n:Nat,(Qd n)= .int (n:Int) 0:=λn=>rfl;refine Og (lh (i:=i) (slot:=slot) hb ho hm he (Qp hi) YN λYj X2=> ?_);have ex:Ox (λx:Int×Oq=>(x.snd,Yj)) (cQ w a ((ep:Int).toNat) es)[i]?=W8 (x.2,Yj):=by show Ox _ (cQ w a ep es)[i]?=_;refine ab hx ?_;rfl
 refine ab ex ?_;dsimp only;refine Og (Qu (k:=0) (x:=Qd Yj) hI (by simp) λXM hI₁ Yu=> ?_);refine Og (Qu (s:= {s with heap:=XM}) (k:=1) (x:=Qd (i+1)) hI₁ (by simp) λXN Y2 X6=> ?_);refine Oi ⟨_,rfl,Oi ?_⟩;refine q XN Yj ?_ (λh=>X2 h hi) (Yu.trans X6)
 simpa [oH]using Y2
end
section
theorem o1 {b:Nat}{Q:Option Oq->On->Prop}(hh:A.handled=W9)(hb:b<64)(ho:s.heap.get? a=W8 {cls:= .type "set",dict:=W9,data:= .set es ep (tab m mv (LW w) (bs b)),slots:= #[]}) (hm:r4 m=true) (he:fj es (bs b))
 (hI:oH s.heap.get? I a slot (bs b).length (bs b).length ep) (YN:w.params.followText "set-order"=false->slot=fV b (bs b).length)
 (q:∀h',SE I s.heap h'->Q W9 {s with heap:=h'}):Oz (Ov ag w) A (Sk (.ref I)) Q E s:=by
 injections m mv ep slot s a I A E es b Q _ hh hb ho hm he hI YN q;have hT:s.TypeIs (.ref I) "set_iterator":=⟨_,hI,rfl⟩;have Yb:(tab m mv (LW w) (bs b)).fits es.size=true:=by refine ab he.size ?_;exact bK hm
 refine Og (Tt (PN (name:=QV "__next__") hT c9 (O9 c9 hT im ?_ (jq _))));unfold OT.«set_iterator.__next__»;show Oz _ _ (slotArgs "__next__" 0 ⟨[.ref I],[]⟩>>=_) _ _ s;refine Og (Pc (a:=(.ref I,[])) rfl ?_);refine Og (Ud hI rfl ?_);refine Og (Um ho rfl Yb ?_);have YE:=he.size;have Yn:(((es.size:Nat):Int) !=(((bs b).length:Nat):Int))=false:=by refine ab YE ?_;simp
 rw[if_neg (by refine ab Yn ?_;simp)];have hosz:(cQ w a ep es).size=(bs b).length:=by
  have:=(eM (a:=a) (ep:=ep) he).1.length_eq
  simpa using this
 refine Og (lh (i:=(bs b).length) (slot:=slot) hb ho hm he (O5 _) YN λYj X2=> ?_);have ex:Ox (λx:Int×Oq=>(x.snd,Yj)) (cQ w a ((ep:Int).toNat) es)[(bs b).length]?=W9:=by show Ox _ (cQ w a ep es)[(bs b).length]?=_;rw[RZ (O2 hosz)];rfl
 refine ab ex ?_;dsimp only;refine Og (Qu (k:=2) (x:= .none) hI (by simp) λXM hI₁ Yu=> ?_);show Oz _ _ (newExc (.type "StopIteration") []>>=_) _ _ _;refine Og ?_;refine Og (Qy ?_ (by size_fits));refine Og (m:=Ss _ _) (Pc (a:=PA) (by first |rfl | (simp only[Ss];rfl)) ?_);refine Qy ?_ (by size_fits);dsimp only[raiseNew];refine Og (V3 ?_)
 first |refine ab (show A.in1.handled=W9 from hh) ?_ |rw[hh]
 refine Og (Oi (Vj ?_));refine Og (QM (T:= "StopIteration") (b:=true) ⟨_,OB _ rfl,rfl⟩ VI ?_);exact Oi (q _ ((Yu.extBut.push _).push _))
theorem mZ:Wb table "set_iterator.__iter__"=W8 OT.«dict_keyiterator.__iter__»:=
 Uf (id':= "dict_keyiterator.__iter__") (by kernel_rfl) (by first |rfl |decide+kernel | (unfold String.splitOn;simp+decide [String.splitOnAux])) (by decide+kernel) (by kernel_rfl)
theorem mW {i n:Nat}(hI:oH s.heap.get? I a slot i n ep)(q:Q (.ref I) s):Oz (Ov ag w) A (Ti (.ref I)) Q E s:=by have hT:s.TypeIs (.ref I) "set_iterator":=⟨_,hI,rfl⟩;refine wpAny_pyIter_slot hT iU (O9 iU hT mZ ?_ (pW _));exact Oi ⟨_,rfl,"set_iterator",_,hT,c9.lookup,q⟩
theorem m6 (hh:A.handled=W9)(Yn:a≠I){b:Nat}(hb:b<64)(hm:r4 m=true)(he:fj es (bs b)):
 Walks ag w A I [I,a] [I] (bs b).length (λi v=>((cQ w a ep es)[i]?).map (·.2)=W8 v) (λi h=>(∃slot,oH h.get? I a slot i (bs b).length ep/\ (w.params.followText "set-order"=false->slot=fV b i))/\ h.get? a=W8 {cls:= .type "set",dict:=W9,data:= .set es ep (tab m mv (LW w) (bs b)),slots:= #[]}) where
 sub:=λb hb=>by simp at hb;simp[hb]
 frame:=λi h h' qq hk=>by obtain⟨⟨slot,h1,h2⟩,h3⟩:=qq;exact⟨⟨slot,hk I (by simp) _ h1,h2⟩,hk a (by simp) _ h3⟩
 item:=λi s Q E hi ⟨⟨slot,h1,h2⟩,h3⟩ hQ=>by
  have hosz:(cQ w a ep es).size=(bs b).length:=by
   have:=(eM (a:=a) (ep:=ep) he).1.length_eq
   simpa using this
  have hx:(cQ w a ep es)[i]?=W8 ((cQ w a ep es)[i]'(hosz▸hi)):=PU _;refine mV hb h3 hm he h1 h2 hx λh' Yj q1 q2 q3=> ?_;exact hQ _ h' s.toks (by refine ab hx ?_;rfl) ⟨⟨Yj,q1,q2⟩,(q3.2 a Yn).trans h3⟩ λc o hc e=>(q3.2 c (λh=>hc (by simp[h]))).trans e
 done:=λs Q E qq hQ=>by obtain⟨⟨slot,h1,h2⟩,h3⟩:=qq;exact o1 hh hb h3 hm he h1 h2 λh' hx=>hQ h' s.toks λc o hc e=>hx c o (λh=>hc (by simp[h])) e
 self:=λ_ _ _ _ ⟨⟨slot,h1,_⟩,_⟩ hQ=>mW h1 hQ
end
def az (b:Nat):List Int:=(bs b).map λn:Nat=>(n:Int)
def cB (xs:List Int):Nat:=xs.foldl (λb i=>b ||| (1<<<i.toNat)) 0
theorem bT {b:Nat}(hb:b<64):cB (az b)=b:=by
 have:∀c:Nat,c<64->cB (az c)=c:=by decide
 exact this b hb
theorem zH (b:Nat):(bs b).Nodup:=(Uw).filter _
theorem vO (b:Nat):(az b).Nodup:=by have h:=zH b;exact List.pairwise_map.mpr (h.imp λYn e=>Yn (by exact_mod_cast e))
theorem Bo (b:Nat):(az b).length<=6:=by unfold az;rw[OA];exact fb b
section
theorem kf {b n:Nat}{t:Tok}(h:be L s.heap.get? a b)(hn:n<6)
 (q:∀h',be L h'.get? a (b ||| (1<<<n))->OE a s.heap h'->Q .none {s with heap:=h',toks:=s.toks+1}):Oz (Ov ag w) A (call (.builtin "set.add") [.ref a,.int n t]) Q E s:=by
 refine O9 Vy h.typeIs F.entry_set_add ?_ (F.args_set_add_2 _ _)
 delta OT.«set.add» W3
 simp only[WW,bind_assoc];refine Og (Oi ?_)
 try dsimp only
 refine Og (Oi ?_)
 try dsimp only
 refine Og ?_;refine ON ?_;refine Og ((Rf ag w).pyHash (k:=(n:Int)) (Qz _ _ _ _) ?_);have hk:(Rf ag w).hash (n:Int)=(n:Int):=eR hn;refine ab hk ?_;refine iW (s:= {s with toks:=s.toks+1}) h hn λh' h1 h2=> ?_;show Oz _ _ (ret PA) _ _ _;exact Oi ⟨_,rfl,q h' h1 h2⟩
end
section
theorem xC (q:Q₁ (.ref s.heap.objs.size) {s with heap:=s.heap.push (bU w)}):
 Ra (Ov ag w) A (.call (.builtin "set.__new__") ⟨[.type "set"],[]⟩) (wants Q₁ E) s:=by
 injections s A E Q₁ _ q;refine R4 ?_;refine Og (Pc F.newCall_set_0 (Oi ⟨Q9 F.plain_set_new _,PC F.entry_set_new ?_⟩))
 delta OT.«set.__new__» Tp
 have YG:=U3;obtain⟨hp,g,d,tk,os⟩:=s;dsimp only
 wp_walk
 refine Ps (Oi ?_);dsimp only;refine Og (Tu (Oi ?_));exact Oi q
theorem nz (q:∀h',be (LW w) h'.get? s.heap.objs.size 0->(∀b o,s.heap.get? b=W8 o->h'.get? b=W8 o)->Q (.ref s.heap.objs.size) {s with heap:=h'}):
 Oz (Ov ag w) A (call (.type "set") []) Q E s:=by
 injections s A E Q _ q;have q:=q (s.heap.push (bU w)) gN λb o e=>Om _ e;obtain⟨c,tl,hmro⟩:=PW.mro;have hmade:=PW.made;have YG:=PW.sub;refine RU (R4 ?_);refine Oi ⟨T3 _ (by decide+kernel),PC UJ ?_⟩;have h1:=PW.notType;have h2:=PW.canCreate;have hct:=F.typeCall_set_0
 repeat (any_goals (first |assumption |wp_step))
 refine Pb (xC (E:=E) (Q₁:=λobj XB=>obj= .ref s.heap.objs.size/\ XB= {s with heap:=s.heap.push (bU w)}) ⟨rfl,rfl⟩) λr XB hr=> ?_;cases r with
 |error e=>exact hr
 |ok fl=>
  cases fl with
  |ret obj=>
   obtain⟨rfl,rfl⟩:=hr;have hS:(s.heap.push (bU w)).get? s.heap.objs.size=W8 (bU w):=OB _ rfl;have hT:U6 {s with heap:=s.heap.push (bU w)} (.ref s.heap.objs.size) "set":=⟨_,hS,rfl⟩;have hli:=PW.init.lookup;have Zw:=PW.init.bind (.ref s.heap.objs.size)
   repeat (any_goals (first |assumption |wp_step))
   refine Pb (SM (R:=wants (λr XC=>r= .none/\ Q (.ref s.heap.objs.size) XC) E) PW.init.plain F.entry_set_init (check_set_init hT ?_)) λXZ XC Yv=> ?_
   ·have hS':(s.heap.push {cls:= .type "set",dict:=W9,data:= .set #[] 0 (.fresh 0 0 (LW w))}).get? s.heap.objs.size=W8 {cls:= .type "set",dict:=W9,data:= .set #[] 0 (.fresh 0 0 (LW w))}:=hS
    delta OT.«set.__init__» noKeywords
    unfold bU at q hT⊢
    wp_walk
    exact⟨rfl,q⟩
   ·cases XZ with
    |error e=>exact Yv
    |ok fl₂=>
     cases fl₂ with
     |ret r=>
      obtain⟨rfl,hq⟩:=Yv
      repeat (any_goals (first |assumption |wp_step))
     |_=>exact Yv.elim
  |_=>exact hr.elim
end
noncomputable abbrev a0:=OO->Option Obj
noncomputable abbrev Ow:=OO->Option (OO×Slot)
def view (U:Ow)(h:O0):a0:=λa=>match U a with
 |none=>h.get? a
 |some _=>W9
def tw (T:List OO):Ow:=λa=>if a∈T then W8 (a,.obj)else W9
theorem AH {T:List OO}:tw T a=W9↔a∉T:=by
 unfold tw;by_cases h:a∈T
 ·refine ab (if_pos h) ?_;exact⟨λe=>(nomatch e),λe=>(e h).elim⟩
 ·refine ab (if_neg h) ?_;exact⟨λ_=>h,λ_=>rfl⟩
noncomputable abbrev b0 (T:List OO)(h:O0):a0:=view (tw T) h
def bw (T:String)(g:a0)(a:OO)(vs:List Oq):Prop:= ∃n,g a=W8 {cls:= .type T,dict:=W9,data:= .seq vs.toArray n,slots:= #[]}
def ed (L:Bool)(g:a0)(a:OO)(xs:List Int):Prop:= ∃b,be L g a b/\ xs=az b
def lk (ks:List Int)(vs:List Oq)(k:Int):Option Oq:=(ks.zip vs).lookup k
def cF (g:a0)(a:OO)(ks:List Int)(vs:List Oq):Prop:=
 ks.length=vs.length/\ (a==Sp)=false/\ ∃o es n,g a=W8 o/\ o.ExactDict/\ o.data= .dict es n/\ (∀e∈es,∃k t,e.key= .int k t/\ e.hash=hashInt k)/\ (∀k,findBy S7 es k=lk ks vs k)/\ es.size<=ks.length
def bC (K:br)(g:a0)(a:OO)(c:Nat)(d:OO)(vs:List Oq):Prop:=
 g a=W8 (R3 (K.adr c) d)/\ a≠d/\ vs.length=(K.names c).length/\ ∃es n,g d=W8 (S0 es n)/\ es.map (λe=>e.val)=vs/\ (∀(i:Nat) (x:Str),(K.names c)[i]?=W8 x->∃t,(es[i]?).map (λe:QD=>e.key)=W8 (S1 x t))
mutual
def bj (K:br)(g:a0):V->Oq->Prop
 | .none,v=>v= .none
 | .bool b,v=>v= .bool b
 | .int i,v=> ∃t,v= .int i t
 | .str x,v=> ∃t,v= .str ⟨x.toArray⟩ t
 | .list xs,v=> ∃a vs,v= .ref a/\ bw "list" g a vs/\ aq K g xs vs
 | .tup xs,v=> ∃a vs,v= .ref a/\ bw "tuple" g a vs/\ aq K g xs vs
 | .set xs,v=> ∃a,v= .ref a/\ ed K.led g a xs
 | .dict ks ts,v=> ∃a vs,v= .ref a/\ cF g a ks vs/\ aq K g ts vs
 | .inst c fs,v=> ∃a d vs,v= .ref a/\ bC K g a c d vs/\ aq K g fs vs
 | .adr a,v=>v= .ref a
 | .any,_=>True
def aq (K:br)(g:a0):List V->List Oq->Prop
 | [],vs=>vs= []
 |x::xs,vs=> ∃v r,vs=v::r/\ bj K g x v/\ aq K g xs r
end
def Le (g g':a0):Prop:= ∀a o,g a=W8 o->g' a=W8 o
theorem Le.refl (g:a0):Le g g:=λ_ _ e=>e
theorem Le.trans {g g' g'':a0}(x:Le g g')(y:Le g' g''):Le g g'':=λa o e=>y a o (x a o e)
theorem bw.mono {T:String}{g g':a0}(l:Le g g'){a vs}(h:bw T g a vs):bw T g' a vs:=(by obtain⟨n,e⟩:=h;exact⟨n,l a _ e⟩)
theorem ed.at {g g':a0}{a xs}(h:ed L g a xs)(l:∀o,g a=W8 o->g' a=W8 o):ed L g' a xs:=(by obtain⟨b,k,e⟩:=h;exact⟨b,k.keep l,e⟩)
theorem ed.mono {g g':a0}(l:Le g g'){a xs}(h:ed L g a xs):ed L g' a xs:=h.at λo e=>l a o e
theorem ed.obj {g:a0}{xs:List Int}(h:ed L g a xs):∃o,g a=W8 o/\ o.IntSetOf (λk=>decide (k∈xs)) xs.length/\ xs.Nodup:=by obtain⟨b,⟨hb,es,ep,mv,m,ho,hm,he⟩,rfl⟩:=h;refine⟨_,ho,λag w=>⟨⟨rfl,rfl,rfl⟩,es,ep,_,rfl,he.elems,he.mem,?_,by refine ab he.size ?_;exact bK hm⟩,vO b⟩;refine ab he.size ?_;simp[az]
theorem cF.mono {g g':a0}(l:Le g g'){a ks vs}(h:cF g a ks vs):cF g' a ks vs:=⟨h.1,h.2.1,h.2.2.imp λo=>OQ λ_=>OQ λ_=>TA (l a o)⟩
theorem bC.mono {g g':a0}(l:Le g g'){a c d vs}(h:bC K g a c d vs):bC K g' a c d vs:=
 ⟨l _ _ h.1,h.2.1,h.2.2.1,h.2.2.2.imp λ_=>OQ λ_=>TA (l _ _)⟩
mutual
theorem bj.mono {K:br}{g g':a0}(l:Le g g'):∀(t:V) (v:Oq),bj K g t v->bj K g' t v
 | .none,v,h=>h
 | .bool b,v,h=>h
 | .int i,v,h=>h
 | .str x,v,h=>h
 | .list xs,v,h=>OQ (λ_=>OQ λvs=>PD (SK (bw.mono l) (aq.mono l xs vs))) h
 | .tup xs,v,h=>OQ (λ_=>OQ λvs=>PD (SK (bw.mono l) (aq.mono l xs vs))) h
 | .set xs,v,h=>OQ (λ_=>PD (ed.mono l)) h
 | .dict ks ts,v,h=>OQ (λ_=>OQ λvs=>PD (SK (cF.mono l) (aq.mono l ts vs))) h
 | .inst c fs,v,h=>OQ (λ_=>OQ λ_=>OQ λvs=>PD (SK (bC.mono l) (aq.mono l fs vs))) h
 | .adr a,v,h=>h
 | .any,v,h=>trivial
theorem aq.mono {K:br}{g g':a0}(l:Le g g'):∀(ts:List V) (vs:List Oq),aq K g ts vs->aq K g' ts vs
 | [],vs,h=>h
 |t::ts,vs,h=>OQ (λv=>OQ λr=>PD (SK (bj.mono l t v) (aq.mono l ts r))) h
end
theorem aq.length {K:br}{g:a0}:∀ {ts:List V} {vs:List Oq},aq K g ts vs->vs.length=ts.length
 | [],vs,h=>by subst h;rfl
 |t::ts,vs,h=>by obtain⟨v,r,rfl,_,h2⟩:=h;exact congrArg (· +1) (aq.length h2)
theorem aq.get {K:br}{g:a0}:∀ {ts:List V} {vs:List Oq},aq K g ts vs->∀ {i:Nat} {t:V},ts[i]?=W8 t->∃v,vs[i]?=W8 v/\ bj K g t v
 | [],vs,h,i,t,e=>(λq=>nomatch q:(W9:Option V)≠W8 t) e |>.elim
 |x::ts,vs,h,i,t,e=>by
  obtain⟨v,r,rfl,h1,h2⟩:=h;cases i with
  |zero=>exact⟨v,rfl,Oh e▸h1⟩
  |succ i=>exact aq.get h2 e
theorem aq.cons {g:a0}(h:bj K g t v)(hs:aq K g ts vs):aq K g (t::ts) (v::vs):=Exists.intro v (Exists.intro vs ⟨rfl,h,hs⟩)
theorem aq.nil {g:a0}:aq K g [] []:=(rfl: []= [])
theorem aq.append {K:br}{g:a0}:∀ {ts us:List V} {vs ws:List Oq},aq K g ts vs->aq K g us ws->aq K g (ts++us) (vs++ws)
 | [],us,vs,ws,h,h'=>by subst h;exact h'
 |t::ts,us,vs,ws,h,h'=>by obtain⟨v,r,rfl,h1,h2⟩:=h;exact aq.cons h1 (aq.append h2 h')
theorem aq.take {K:br}{g:a0}:∀ {ts:List V} {vs:List Oq} (n:Nat),aq K g ts vs->aq K g (ts.take n) (vs.take n)
 |ts,vs,0,_=>aq.nil
 | [],vs,n+1,h=>by subst h;exact aq.nil
 |t::ts,vs,n+1,h=>by obtain⟨v,r,rfl,h1,h2⟩:=h;exact aq.cons h1 (aq.take n h2)
theorem aq.drop {K:br}{g:a0}:∀ {ts:List V} {vs:List Oq} (n:Nat),aq K g ts vs->aq K g (ts.drop n) (vs.drop n)
 |ts,vs,0,h=>by simpa using h
 | [],vs,n+1,h=>by subst h;exact aq.nil
 |t::ts,vs,n+1,h=>by obtain⟨v,r,rfl,h1,h2⟩:=h;exact aq.drop n h2
theorem ao {U:Ow}{h:O0}:view U h a=W8 o↔U a=W9/\ h.get? a=W8 o:=by
 unfold view;cases U a with
 |none=>exact⟨λe=>⟨rfl,e⟩,λe=>e.2⟩
 |some c=>exact⟨λe=>(nomatch e),λe=>(nomatch e.1)⟩
theorem av {T:List OO}{h:O0}:b0 T h a=W8 o↔a∉T/\ h.get? a=W8 o:=ao.trans (and_congr_left' AH)
theorem bw.list {U:Ow}{h:O0}(x:bw "list" (view U h) a vs):h.IsList a vs.toArray:=
 (by obtain⟨n,e⟩:=x;exact⟨_,(ao.mp e).2,rfl,n,rfl⟩)
theorem bw.list' {h:O0}(x:bw "list" h.get? a vs):h.IsList a vs.toArray:=(by obtain⟨n,e⟩:=x;exact⟨_,e,rfl,n,rfl⟩)
theorem bw.tup' {h:O0}(x:bw "tuple" h.get? a vs):IsTup h a vs.toArray:=(by obtain⟨n,e⟩:=x;exact⟨_,e,rfl,n,rfl⟩)
def fe (K:br)(X3 g:a0):V->Oq->Prop
 | .list xs,v=> ∃a vs,v= .ref a/\ bw "list" X3 a vs/\ aq K g xs vs
 | .tup xs,v=> ∃a vs,v= .ref a/\ bw "tuple" X3 a vs/\ aq K g xs vs
 | .set xs,v=> ∃a,v= .ref a/\ ed K.led X3 a xs
 | .dict ks ts,v=> ∃a vs,v= .ref a/\ cF X3 a ks vs/\ aq K g ts vs
 | .inst c fs,v=> ∃a d vs,v= .ref a/\ bC K X3 a c d vs/\ aq K g fs vs
 |t,v=>bj K g t v
theorem dw {U:Ow}{h:O0}:Le (view U h) h.get?:=λa o e=>(ao.mp e).2
theorem dG {T:List OO}{U:Ow}{h:O0}(s:∀a∈T,U a≠W9):Le (view U h) (b0 T h):=λa o e=>av.mpr ⟨λh1=>s a h1 (ao.mp e).1,(ao.mp e).2⟩
theorem bj.top {X3 g:a0}(l:Le g X3)(r:bj K g t v):fe K X3 g t v:=by
 cases t with
 |list=>exact OQ (λ_=>OQ λ_=>PD (SK (bw.mono l) id)) r
 |tup=>exact OQ (λ_=>OQ λ_=>PD (SK (bw.mono l) id)) r
 |set=>exact OQ (λ_=>PD (ed.mono l)) r
 |dict=>exact OQ (λ_=>OQ λ_=>PD (SK (cF.mono l) id)) r
 |inst=>exact OQ (λ_=>OQ λ_=>OQ λ_=>PD (SK (bC.mono l) id)) r
 |_=>exact r
theorem fe.mono {X3 g₀' g g':a0}(Z5:Le X3 g₀')(l:Le g g')(r:fe K X3 g t v):fe K g₀' g' t v:=by
 cases t with
 |list=>exact OQ (λ_=>OQ λ_=>PD (SK (bw.mono Z5) (aq.mono l _ _))) r
 |tup=>exact OQ (λ_=>OQ λ_=>PD (SK (bw.mono Z5) (aq.mono l _ _))) r
 |set=>exact OQ (λ_=>PD (ed.mono Z5)) r
 |dict=>exact OQ (λ_=>OQ λ_=>PD (SK (cF.mono Z5) (aq.mono l _ _))) r
 |inst=>exact OQ (λ_=>OQ λ_=>OQ λ_=>PD (SK (bC.mono Z5) (aq.mono l _ _))) r
 |_=>exact bj.mono l _ _ r
theorem Xu {a:α}:(W9:Option α)≠W8 a:=λh=>nomatch h
variable {U U' XE Yi X4 XX : Ow} {g' X3 g₀' : a0}
section
def Cf.T (C:Cf ag w):List OO:=C.tabs.map (·.2)
structure Cf.Ok (C:Cf ag w):Prop where
 kin:C.K.In C.hb
 kT:∀a o,C.K.lookup a=W8 o->a∉C.T
 g:C.hb.Ns PF C.mg
 b:C.hb.Ns O7 C.mb
 lim:C.hb.NoLimit
 nT:PF∉C.T/\ O7∉C.T/\ cStatics∉C.T
 bi:∀x:Str,x≠ "__name__"->C.mb x=OZ x
 tab:∀p∈C.tabs,p.1∉C.T/\ ∃ps,C.hb.TableAt p.1 p.2 ps
 miss:∀x∈bP,C.mg x=W9
 led:C.cls.led=LW w
structure ff (C:Cf ag w) (s:On):Prop where
 ok:C.Ok
 base:∀b o,b∉C.T->C.hb.get? b=W8 o->s.heap.get? b=W8 o
 old:OldK C.hb s.heap
 tab:∀p∈C.tabs,∃ps,s.heap.IsCode p.1 p.2 ps/\ s.heap.TableAt p.1 p.2 ps
 bare:RR s.gens
structure aH (C:Cf ag w) (s s':On):Prop where
 up:∀b o,b∉C.T->s.heap.get? b=W8 o->s'.heap.get? b=W8 o
 os:s'.os=s.os
 gen:∀(i:Nat) (x:QZ),s.gens[i]?=W8 x->s'.gens[i]?=W8 x
 inv:ff C s->ff C s'
theorem aH.refl (s:On):aH C s s:=⟨λ_ _ _ e=>e,rfl,λ_ _ e=>e,id⟩
theorem aH.trans {Ye:On}(x:aH C s s')(y:aH C s' Ye):aH C s Ye:=
 ⟨λb o hb e=>y.up b o hb (x.up b o hb e),y.os.trans x.os,λi g e=>y.gen i g (x.gen i g e),λi=>y.inv (x.inv i)⟩
theorem aH.heap (hk:∀b o,s.heap.get? b=W8 o->h'.get? b=W8 o):aH C s {s with heap:=h',toks:=tk} where
 up:=λb o _ e=>hk b o e
 os:=rfl
 gen:=λ_ _ e=>e
 inv:=λi=>⟨i.ok,λb o hb e=>hk b o (i.base b o hb e),i.old.step_keeps hk,λp hp=>(by obtain⟨ps,h1,h2⟩:=i.tab p hp;exact⟨ps,h1.keeps hk,h2.keeps hk⟩),i.bare⟩
theorem aH.tok:aH C s {s with toks:=tk}:=aH.heap λ_ _ e=>e
theorem aH.push:aH C s {s with heap:=s.heap.push o,toks:=tk}:=aH.heap λb o' e=>Om o e
theorem ff.g (i:ff C s):s.heap.Ns PF C.mg:=i.ok.g.at' λo e=>i.base _ o i.ok.nT.1 e
theorem ff.b (i:ff C s):s.heap.Ns O7 C.mb:=i.ok.b.at' λo e=>i.base _ o i.ok.nT.2.1 e
theorem ff.lim (i:ff C s):s.heap.NoLimit:=(by obtain⟨mc,h,e⟩:=i.ok.lim;exact⟨mc,h.at' λo e=>i.base _ o i.ok.nT.2.2 e,e⟩)
theorem ff.kin (i:ff C s):C.K.In s.heap:=λa o e=>i.base a o (i.ok.kT a o e) (i.ok.kin a o e)
structure aV (A:O6) (k:Nat):Prop where
 handled:A.handled=W9
 depth:A.depth+40*k+40<=980
 units:A.units+400*k+400<=9800
theorem rd {a d c n x:Nat}(h:d<=a+c)(hc:c<=m)(r:a+m*(k+1)+n<=x):d+m*k+n<=x:=by rw[Nat.mul_succ]at r;omega
theorem L2 {a b c x:Nat}(h:a+b+c<=x):a<=x:=Op (Op (Rt _ _) (Rt _ _)) h
theorem aV.down (r:aV A (k+1))(h:A'.handled=W9)(h1:A'.depth<=A.depth+1)(h2:A'.units<=A.units+4):aV A' k:=
 ⟨h,rd h1 (by decide) r.depth,rd h2 (by decide) r.units⟩
theorem aV.lt (r:aV A k):A.depth<Rz:=OW (L2 r.depth) (by decide)
theorem aV.unit (r:aV A k):A.units<cLine:=OW (L2 r.units) (by decide)
noncomputable abbrev ai:=List (Option V)
noncomputable abbrev ED:=ai->Option V
def aK (σ:ai)(i:Nat):Option V:=(σ[i]?).join
def Holds (env:Env)(s:On)(x:Str)(v:Oq):Prop:=
 (env.kindOf x=W8 .local/\ ∃m,s.heap.Ns env.locals m/\ m x=W8 v) \/
 ((env.kindOf x=W8 .cell \/env.kindOf x=W8 .free)/\ ∃c,env.cells.lookup x=W8 c/\ s.heap.IsCell c (W8 v))
structure aY (C:Cf ag w) (U:Ow) (s:On):Prop where
 inv:ff C s
 live:∀a c q,U a=W8 (c,q)->(∃o,s.heap.get? a=W8 o)/\ ∃o,s.heap.get? c=W8 o
 tU:∀a∈C.T,U a≠W9
structure Ie (C:Cf ag w) (cx:Cx) (env:Env):Prop where
 kind:env.scope.kind= .function
 gl:env.globals=PF
 bi:env.builtins=O7
 co:env.scope.isCoroutine=false
 code:cx.gen=true->∃p∈C.tabs,env.code= .ref p.1
 frame:env.locals∉C.T/\ ∀x c,env.cells.lookup x=W8 c->c∉C.T
 plain:∀x i,cx.vars.lookup x=W8 i->(x==("__debug__":Str))=false/\ (x==("__classdict__":Str))=false
 globs:∀x∈cx.globs,env.kindOf x=W8 .globalImplicit/\ (x==("__debug__":Str))=false
structure bA (C:Cf ag w) (cx:Cx) (U:Ow) (env:Env) (σ:ai) (s:On):Prop extends aY C U s,Ie C cx env where
 caps:∀x∈cx.caps,(env.kindOf x=W8 .cell \/env.kindOf x=W8 .free)/\ ∃c v,env.cells.lookup x=W8 c/\ s.heap.IsCell c v
 vars:∀x i t,cx.vars.lookup x=W8 i->aK σ i=W8 t->∃v,Holds env s x v/\ (i∉cx.own->bj C.cls (view U s.heap) t v)/\ (i∈cx.own->fe C.cls (b0 C.T s.heap) (view U s.heap) t v)
theorem aH.le (x:aH C s s')(tU:∀a∈C.T,U a≠W9):Le (view U s.heap) (view U s'.heap):=λa o e=>by obtain⟨h1,h2⟩:=ao.mp e;exact ao.mpr ⟨h1,x.up a o (λh=>tU a h h1) h2⟩
theorem aH.still (g:aH C s s')(i:ff C s)(h:∃o,s.heap.get? a=W8 o):∃o,s'.heap.get? a=W8 o:=by
 by_cases hT:a∈C.T
 ·obtain⟨p,hp,rfl⟩:=OM.mp hT
  obtain⟨ps,_,h2⟩:=(g.inv i).tab p hp;exact⟨_,h2.2⟩
 ·obtain⟨o,ho⟩:=h
  exact⟨o,g.up a o hT ho⟩
theorem Holds.grow {x:Str}(h:Holds env s x v)(g:aH C s s')(hL:env.locals∉C.T)(hc:∀x c,env.cells.lookup x=W8 c->c∉C.T):Holds env s' x v:=by
 injections s s' v env x _ h g hL hc;rcases h with⟨h1,m,hn,hm⟩ | ⟨h1,c,h2,o,ho,hd⟩
 ·exact .inl ⟨h1,m,hn.at' λo e=>g.up _ o hL e,hm⟩
 ·exact .inr ⟨h1,c,h2,o,g.up _ o (hc x c h2) ho,hd⟩
theorem aH.leT (x:aH C s s'):Le (b0 C.T s.heap) (b0 C.T s'.heap):=λa o e=>by obtain⟨h1,h2⟩:=av.mp e;exact av.mpr ⟨h1,x.up a o h1 h2⟩
theorem aY.grow (x:aY C U s)(g:aH C s s'):aY C U s' where
 inv:=g.inv x.inv
 live:=λa c q h=>⟨g.still x.inv (x.live a c q h).1,g.still x.inv (x.live a c q h).2⟩
 tU:=x.tU
theorem bA.grow {σ:ai}(x:bA C cx U env σ s)(g:aH C s s'):bA C cx U env σ s' where
 toaY:=x.toaY.grow g
 toIe:=x.toIe
 caps:=λy hy=>⟨(x.caps y hy).1,(x.caps y hy).2.imp λc=>OQ λ_ h=>⟨h.1,h.2.imp λo=>TA (g.up c o (x.frame.2 y c h.1))⟩⟩
 vars:=λy i t hy ht=>by obtain⟨v,h1,h2,h3⟩:=x.vars y i t hy ht;exact⟨v,h1.grow g x.frame.1 x.frame.2,λho=>bj.mono (g.le x.tU) _ _ (h2 ho),λho=>(h3 ho).mono g.leT (g.le x.tU)⟩
def aC (C:Cf ag w)(k:Nat)(cx:Cx)(pe:Ol)(d:ED):Prop:=
 ∀(A:O6) (U:Ow) (env:Env) (σ:ai) (s:On) (t:V),aV A k->bA C cx U env σ s->d σ=W8 t->Oz (Ov ag w) A (PX pe env) (λv s'=>aH C s s'/\ bj C.cls (view U s'.heap) t v) (λ_ _=>False) s
def gm (C:Cf ag w)(k:Nat)(cx:Cx)(pe:Ol)(d:ED):Prop:=
 ∀(A:O6) (U:Ow) (env:Env) (σ:ai) (s:On) (t:V),aV A k->bA C cx U env σ s->d σ=W8 t->Oz (Ov ag w) A (PX pe env) (λv s'=>aH C s s'/\ fe C.cls (b0 C.T s'.heap) (view U s'.heap) t v) (λ_ _=>False) s
def fi (C:Cf ag w)(k:Nat)(cx:Cx)(pe:Ol)(d:ai->Option Bool):Prop:=
 ∀(A:O6) (U:Ow) (env:Env) (σ:ai) (s:On) (b:Bool),aV A k->bA C cx U env σ s->d σ=W8 b->Oz (Ov ag w) A (isTrue pe env (PX pe env)) (λb' s'=>aH C s s'/\ b'=b) (λ_ _=>False) s
theorem aC.peek {d:ED}(h:aC C k cx pe d):gm C k cx pe d:=
 λA U env σ s t r x e=>Ot (h A U env σ s t r x e) (λv s' qq=>by obtain⟨g,hr⟩:=qq;exact⟨g,hr.top (dG x.tU)⟩) λ_ _ f=>f
theorem Eo {σ:ai}(x:bA C cx U env σ s){n:Str}(hd:(n==("__classdict__":Str))=false)(h:Holds env s n v)(q:Q v s):
 Oz (Ov ag w) A (loadName env n) Q E s:=by
 rcases h with⟨h1,m,hn,hm⟩ | ⟨h1 |h1,c,h2,h3⟩
 ·exact T5 x.kind h1 hn hm q
 ·exact wpAny_loadName_cell x.kind h1 h2 h3 q
 ·exact wpAny_loadName_free x.kind h1 h2 h3 q hd
theorem gL {σ:ai}(x:bA C cx U env σ s){n:Str}{i:Nat}(hx:cx.vars.lookup n=W8 i)(h:Holds env s n v)(q:Q v s):Oz (Ov ag w) A (loadName env n) Q E s:=Eo x (x.plain n i hx).2 h q
def dV (i:Nat):ED:=λσ=>aK σ i
def dK (t:V):ED:=λ_=>W8 t
def dU (f:V->Option V)(a:ED):ED:=λσ=>(a σ).bind f
def dB (f:V->V->Option V)(a b:ED):ED:=λσ=>(a σ).bind λx=>(b σ).bind λy=>f x y
theorem a8 {n:Str}{i:Nat}(hx:cx.vars.lookup n=W8 i)(ho:i∉cx.own):aC C k cx (.Name n pos) (dV i):=λA U env σ s t r x e=>by obtain⟨v,h1,h2,_⟩:=x.vars n i t hx e;exact Ro (gL x hx h1 ⟨.refl s,h2 ho⟩) (x.plain n i hx).1
theorem iA {n:Str}{i:Nat}(hx:cx.vars.lookup n=W8 i):gm C k cx (.Name n pos) (dV i):=λA U env σ s t r x e=>by
 obtain⟨v,h1,h2,h3⟩:=x.vars n i t hx e;by_cases ho:i∈cx.own
 ·exact Ro (gL x hx h1 ⟨.refl s,h3 ho⟩) (x.plain n i hx).1
 ·exact Ro (gL x hx h1 ⟨.refl s,(h2 ho).top (dG x.tU)⟩) (x.plain n i hx).1
theorem gY {i:Int}{q:Nat}:aC C k cx (.Constant (.int i) q pos) (dK (.int i)):=λA U env σ s t r x e=>by cases e;exact wpAny_Constant_int ⟨.tok,Exists.intro _ rfl⟩
theorem lg {b:Bool}{q:Nat}:aC C k cx (.Constant (.bool b) q pos) (dK (.bool b)):=λA U env σ s t r x e=>by cases e;exact λ_ _ _=>⟨.refl s,rfl⟩
theorem xo {q:Nat}:aC C k cx (.Constant .none q pos) (dK .none):=λA U env σ s t r x e=>by cases e;exact λ_ _ _=>⟨.refl s,rfl⟩
theorem oW {y:Str}{z:List Nat}{q:Nat}(hz:y=⟨z.toArray⟩):aC C k cx (.Constant (.str y) q pos) (dK (.str z)):=λA U env σ s t r x e=>by cases e;exact Calls.Constant_str ⟨.tok,Exists.intro _ (by exact ab hz rfl)⟩
def ir (C:Cf ag w)(k:Nat)(m:Oq->Oq->Sem Oq)(f:V->V->Option V):Prop:=
 ∀(A:O6) (U:Ow) (s:On) (x y t:V) (v u:Oq),aV A k->aY C U s->f x y=W8 t->bj C.cls (view U s.heap) x v->bj C.cls (view U s.heap) y u->Oz (Ov ag w) A (m v u) (λz s'=>aH C s s'/\ bj C.cls (view U s'.heap) t z) (λ_ _=>False) s
theorem Ik {l r:Ol}{a b:ED}{f:V->V->Option V}{m:Oq->Oq->Sem Oq}(hl:aC C k cx l a)(hr:aC C k cx r b)(Zt:ir C k m f) {σ:ai} (rm:aV A k) (x:bA C cx U env σ s) (e:dB f a b σ=W8 t):Oz (Ov ag w) A (PX l env) (λv XB=>Oz (Ov ag w) A (PX r env) (λu XC=>Oz (Ov ag w) A (m v u) (λz s'=>aH C s s'/\ bj C.cls (view U s'.heap) t z) (λ_ _=>False) XC) (λ_ _=>False) XB) (λ_ _=>False) s:=by unfold dB at e;obtain⟨p,hp,e⟩:=OH.mp e;obtain⟨q,hq,e⟩:=OH.mp e;refine Ot (hl A U env σ s p rm x hp) (λv XB ⟨XI,XQ⟩=> ?_) λ_ _ f=>f;have XD:=x.grow XI;refine Ot (hr A U env σ XB q rm XD hq) (λu XC ⟨XF,XZ⟩=> ?_) λ_ _ f=>f;have XG:=XD.grow XF;exact Ot (Zt A U XC p q t v u rm XG.toaY e (bj.mono (XF.le x.tU) _ _ XQ) XZ) (λz XJ qq=>by obtain⟨XW,Yq⟩:=qq;exact⟨(XI.trans XF).trans XW,Yq⟩) λ_ _ f=>f
theorem fq {op:R5}{l r:Ol}{a b:ED}{f:V->V->Option V}(hl:aC C k cx l a)(hr:aC C k cx r b)(Zt:ir C k (Rj op) f):aC C k cx (.BinOp l op r pos) (dB f a b):=λA U env σ s t rm x e=>wpAny_BinOp (Ik hl hr Zt rm x e)
theorem AZ {l r:Ol}{a b:ED}{f:V->V->Option V}(hl:aC C k cx l a)(hr:aC C k cx r b)(Zt:ir C k (PH op) f) (hm:SR op r=false:=by with_unfolding_all rfl):aC C k cx (.Compare l [op] [r] pos) (dB f a b):=λA U env σ s t rm x e=>wpAny_Compare1 (Ik hl hr Zt rm x e) hm
end
variable {σ σ' XK σ₂ tl : ai} {d de ut ei dd : ED} {st : V → ai → Option ai} {di dl : ai → Option (List V)} {cond : ai → Option Bool}
section
section
theorem aY.not (ok:aY C U s)(h:s.heap.get? a=W9):U a=W9:=by
 cases e:U a with
 |none=>rfl
 |some c=>obtain⟨o,ho⟩:=(ok.live a c.1 c.2 e).1;rw[h]at ho;cases ho
theorem aY.newNot (ok:aY C U s):U s.heap.objs.size=W9:=ok.not (by
 cases e:s.heap.get? s.heap.objs.size with
 |none=>rfl
 |some o=>exact absurd (Pl e) (T7 _))
theorem m8 (ok:aY C U s)(hf:o.isFreed=false:=by rfl):view U (s.heap.push o) s.heap.objs.size=W8 o:=
 ao.mpr ⟨ok.newNot,OB _ hf⟩
theorem iQ {h:O0}:Le (view U h) (view U (h.push o)):=λa o' e=>ao.mpr ⟨(ao.mp e).1,Om o (ao.mp e).2⟩
section
variable{g:a0}
theorem b6 {i:Int}{t:Tok}:bj K g (.int i) (.int i t):=Exists.intro t rfl
theorem bu {b:Bool}:bj K g (.bool b) (.bool b):=rfl
theorem cG {i:Int}(h:bj K g (.int i) v):∃t,v= .int i t:=h
theorem xO {b:Bool}(h:bj K g (.bool b) v):v= .bool b:=h
theorem CA (h:bj K g .none v):v= .none:=h
theorem xN {x:List Nat}(h:bj K g (.str x) v):∃t,v= .str ⟨x.toArray⟩ t:=h
theorem gI (h:bj K g (.list xs) v):∃a vs,v= .ref a/\ bw "list" g a vs/\ aq K g xs vs:=h
theorem xM (h:bj K g (.tup xs) v):∃a vs,v= .ref a/\ bw "tuple" g a vs/\ aq K g xs vs:=h
theorem CT (h:bw "list" g a vs)(r:aq K g xs vs):bj K g (.list xs) (.ref a):=Exists.intro a (Exists.intro vs ⟨rfl,h,r⟩)
theorem w8 (h:bw "tuple" g a vs)(r:aq K g xs vs):bj K g (.tup xs) (.ref a):=Exists.intro a (Exists.intro vs ⟨rfl,h,r⟩)
end
theorem gH (ok:aY C U s)(r:aq C.cls (view U s.heap) xs vs):bj C.cls (view U (s.heap.push {cls:= .type "list",data:= .seq vs.toArray})) (.list xs) (.ref s.heap.objs.size):=CT ⟨0,m8 ok⟩ (aq.mono iQ _ _ r)
theorem lr (ok:aY C U s)(r:aq C.cls (view U s.heap) xs vs):bj C.cls (view U (s.heap.push {cls:= .type "tuple",data:= .seq vs.toArray})) (.tup xs) (.ref s.heap.objs.size):=w8 ⟨0,m8 ok⟩ (aq.mono iQ _ _ r)
def lim:Nat:=4096
theorem lR:lim<=Sr:=by refine ab P7 ?_;decide
def bJ:V->V->Option V
 | .int a,.int b=>W8 (.int (a+b))
 | .list xs,.list ys=>if xs.length+ys.length<=lim then W8 (.list (xs++ys))else W9
 | .tup xs,.tup ys=>if xs.length+ys.length<=lim then W8 (.tup (xs++ys))else W9
 |_,_=>W9
def ii (g:Int->Int->Option V):V->V->Option V
 | .int a,.int b=>g a b
 |_,_=>W9
theorem EC {g:Int->Int->Option V}(h:ii g x y=W8 t):∃a b,x= .int a/\ y= .int b/\ g a b=W8 t:=by
 cases x with
 |int a=>
  cases y with
  |int b=>exact⟨_,_,rfl,rfl,h⟩
  |_=>exact absurd h Xu
 |_=>exact absurd h Xu
noncomputable abbrev Oc (C:Cf ag w)(A:O6)(U:Ow)(t:V)(c:Sem Oq)(s:On):Prop:=Oz (Ov ag w) A c (λz s'=>aH C s s'/\ bj C.cls (view U s'.heap) t z) (λ_ _=>False) s
theorem km {m:Oq->Oq->Sem Oq}{g:Int->Int->Option V}(h:∀(A:O6) (s:On) (a b:Int) (t:V) (t1 t2:Tok) (U:Ow),aV A k->g a b=W8 t->Oc C A U t (m (.int a t1) (.int b t2)) s):ir C k m (ii g):=λA U s x y t v u rm ok e r1 r2=>by obtain⟨a,b,rfl,rfl,e⟩:=EC e;obtain⟨t1,rfl⟩:=cG r1;obtain⟨t2,rfl⟩:=cG r2;exact h A s a b t t1 t2 U rm e
def iw:V->V->Option V:=ii λa b=>W8 (.int (a - b))
def c8:V->V->Option V
 | .int a,.int b=>if a.natAbs<2^60 then W8 (.int (a*b))else W9
 | .list xs,.int b=>if xs.length*b.toNat<=lim/\ -(2^60)<b/\ b<2^60/\ xs.length=1 then W8 (.list (OS b.toNat (xs.headD .none)))else W9
 |_,_=>W9
def d2:V->V->Option V:=ii λa b=>if b=0 \/¬b.natAbs<2^60 then W9 else W8 (.int (a.fdiv b))
def fU:V->V->Option V:=ii λa b=>if b=0 then W9 else W8 (.int (a.fmod b))
theorem yM {c:Prop}[Decidable c]{a:V}(h:(if c then W9 else W8 a)=W8 t):¬c/\ a=t:=by
 by_cases hc:c
 ·rw[if_pos hc]at h;cases h
 ·rw[if_neg hc]at h;exact⟨hc,Oh h⟩
theorem jb {c:Prop}[Decidable c]{a t:α}(h:(if c then W8 a else W9)=W8 t):c/\ a=t:=by
 by_cases hc:c
 ·rw[if_pos hc]at h;exact⟨hc,Oh h⟩
 ·rw[if_neg hc]at h;cases h
theorem xZ:ir C k (Rj .Sub) iw:=km λA s a b t t1 t2 U rm e=>by cases e;exact PyProof.Rows.sub_int ⟨.tok,b6⟩
theorem pj:ir C k (Rj .Add) bJ:=λA U s x y t v u rm ok e r1 r2=>by
 have hl:=lR;cases x with
 |int=>
  cases y with
  |int=>refine bV (Oh e) ?_;obtain⟨t1,rfl⟩:=cG r1;obtain⟨t2,rfl⟩:=cG r2;exact PyProof.Rows.add_int ⟨.tok,b6⟩
  |_=>exact absurd e Xu
 |list=>
  cases y with
  |list=>obtain⟨hlen,rfl⟩:=jb e;obtain⟨a,vs,rfl,⟨n1,h1⟩,q1⟩:=gI r1;obtain⟨b,ws,rfl,⟨n2,h2⟩,q2⟩:=gI r2;refine P.add_list (ao.mp h1).2 (ao.mp h2).2 ?_ (by refine ab OI (ab OI (ab q1.length (ab q2.length ?_)));exact Op hlen hl);rw[TM];exact⟨.push,gH ok (q1.append q2)⟩
  |_=>exact absurd e Xu
 |tup=>
  cases y with
  |tup=>
   obtain⟨hlen,rfl⟩:=jb e;obtain⟨a,vs,rfl,⟨n1,h1⟩,q1⟩:=xM r1;obtain⟨b,ws,rfl,⟨n2,h2⟩,q2⟩:=xM r2;have m1:=(ao.mp h1).2;have m2:=(ao.mp h2).2;by_cases hv:vs= []
   ·subst hv
    refine ab (Q3 q1.length.symm) ?_;exact WK ⟨_,m1,rfl⟩ ⟨_,m2,rfl⟩ Vb V8 S9 S2 (SS _ _) (tuple_addW0 a b #[] ws.toArray n1 n2 W9 W9 #[] #[] rfl) ⟨m1,m2,⟨.refl s,w8 ⟨n2,h2⟩ q2⟩⟩
   ·by_cases hw:ws= []
    ·subst hw
     refine ab (Q3 q2.length.symm) ?_;rw[QQ];exact WK ⟨_,m1,rfl⟩ ⟨_,m2,rfl⟩ Vb V8 S9 S2 (SS _ _) (tuple_addW1 a b vs.toArray #[] n1 n2 W9 W9 #[] #[] (by simpa using hv) rfl) ⟨m1,m2,⟨.refl s,w8 ⟨n1,h1⟩ q1⟩⟩
    ·refine WK ⟨_,m1,rfl⟩ ⟨_,m2,rfl⟩ Vb V8 S9 S2 (SS _ _) (tuple_addW2 a b vs.toArray ws.toArray n1 n2 W9 W9 #[] #[] (by simpa using hv) (by simpa using hw) (by refine ab OI (ab OI (ab q1.length (ab q2.length ?_)));exact Op hlen hl)) ⟨m1,m2,?_⟩
     rw[TM];exact⟨.push,lr ok (q1.append q2)⟩
  |_=>exact absurd e Xu
 |_=>exact absurd e Xu
theorem J8 {b:Int}(h1: -2^60<b)(h2:b<2^60):¬(!Si b)=true:=by rw[show Si b=true from OR.mpr ⟨decide_eq_true (aa1 (aa0 (by decide) h1)),decide_eq_true (aaQ h2 (by decide))⟩];exact OD
theorem Hp {n:Nat}(h:n<=lim):¬1*n>(2^63 - 1)/8/\ ¬Sx (1*n)=true:=by rw[Nat.one_mul];exact⟨R8.mpr (Op h (by decide)),λe=>absurd (of_decide_eq_true e) (R8.mpr (Op h lR))⟩
theorem G2 {a b:Int}(h:a.natAbs<2^60):IntMulOk a b:= .of_left (by
 unfold OT.Int.intBits;split
 ·decide
 ·rename_i h0
  have h0':a≠0:=λe=>h0 (beq_iff_eq.mpr e);exact Op ((Nat.log2_lt (aa4.mpr h0')).mpr h) (by decide))
theorem Jp {a b:Int}(h:b.natAbs<2^60):OT.divisionGoesByPylong a b=false:=by
 by_cases h0:b=0
 ·subst h0;rfl
 ·refine PyProof.noPylong_of_log2 ?_
  exact Op ((Nat.log2_lt (aa4.mpr h0)).mpr h) (by decide)
theorem mm (xs:Array α)(n:Nat):List.foldl (λ(x1 x2:Array α)=>x1++x2) #[] (OS n xs)=((OS n xs.toList).flatten).toArray:=by
 have key:∀(l:List (Array α)) (acc:Array α),List.foldl (λ(x1 x2:Array α)=>x1++x2) acc l=acc++((l.map (·.toList)).flatten).toArray:=by
  intro l;induction l with
  |nil=>intro acc;simp
  |cons x l ih=>intro acc;rw[UR,ih];apply Array.ext';simp
 rw[key];apply Array.ext';simp
theorem q5 {K:br}{g:a0}{x:V}{v:Oq}(h:bj K g x v):∀n,aq K g (OS n x) (OS n v)
 |0=>aq.nil
 |n+1=>aq.cons h (q5 h n)
theorem D3:ir C k (Rj .Mult) c8:=λA U s x y t v u rm ok e r1 r2=>by
 cases x with
 |int=>
  cases y with
  |int=>obtain⟨h,rfl⟩:=jb e;obtain⟨t1,rfl⟩:=cG r1;obtain⟨t2,rfl⟩:=cG r2;exact PyProof.Rows.mul_int ⟨.tok,b6⟩ (G2 h)
  |_=>exact absurd e Xu
 |list xs=>
  cases y with
  |int b=>
   obtain⟨⟨hl,hlo,hhi,h1⟩,hq⟩:=jb e;refine bV hq ?_;obtain⟨a,vs,rfl,⟨n1,h1'⟩,q1⟩:=gI r1;obtain⟨t2,rfl⟩:=cG r2;have m1:=(ao.mp h1').2;obtain⟨x,rfl⟩:∃x,xs= [x]:=List.length_eq_one_iff.mp h1;obtain⟨v,r,rfl,hv,hr⟩:∃v r,vs=v::r/\ bj C.cls (view U s.heap) x v/\ aq C.cls (view U s.heap) [] r:=q1;obtain rfl:r= []:=hr;rw[P1,Nat.one_mul]at hl;have hline:(lim:Nat)=4096:=rfl;refine VH (T:= "list") (U:= "int") (by decide) ⟨_,m1,rfl⟩ (λs'=>VS s' b t2) noFill_list_mul F.fills_int_mul TF repeat_list F.slot_int_index.lookup
    (UW TF (VS s b t2) F.entry_int_rmul (F.args_int_rmul_2 _ _) (WH b t2 a [v].toArray n1)
      ⟨m1,rfl,⟨_,m1,rfl⟩,UW F.slot_list_mul ⟨_,m1,rfl⟩ F.entry_list_mul (F.args_list_mul_2 _ _)
       (Tz a [v].toArray n1 b t2 (J8 hlo hhi) (Hp hl).1 (Hp hl).2)
       ⟨m1,?_⟩⟩)
   rw[mm,show(OS (if([v].toArray:Array Oq).isEmpty=true then 0 else b.toNat) ([v].toArray:Array Oq).toList).flatten=OS b.toNat v from T9];exact⟨.push,gH ok (q5 hv _)⟩
  |_=>exact absurd e Xu
 |_=>exact absurd e Xu
theorem D9:ir C k (Rj .FloorDiv) d2:=km λA s a b t t1 t2 U rm e=>by obtain⟨h,rfl⟩:=yM e;exact PyProof.Rows.floordiv_int (not_or.mp h).1 ⟨.tok,b6⟩ (.inl (Jp (Decidable.not_not.mp (not_or.mp h).2)))
theorem D4:ir C k (Rj .Mod) fU:=km λA s a b t t1 t2 U rm e=>by obtain⟨h,rfl⟩:=yM e;exact PyProof.Rows.mod_int h ⟨.tok,b6⟩
end
end
section
theorem ez {K:br}{g:a0}:∀ {ns:List Int} {vs:List Oq},aq K g (ns.map Xc) vs->Vw vs ns
 | [],vs,h=>by obtain rfl:vs= []:=h
               exact .nil
 |n::ns,vs,h=>by obtain⟨v,r,rfl,h1,h2⟩:∃v r,vs=v::r/\ bj K g (.int n) v/\ aq K g (ns.map Xc) r:=h;obtain⟨t,hq⟩:=cG h1;refine ab hq ?_;exact .cons n t (ez h2)
theorem nX {g:a0}(h:Vw vs ns):aq K g (ns.map Xc) vs:=by
 induction h with
 |nil=>exact aq.nil
 |cons n t _ ih=>exact aq.cons b6 ih
def dN:List V->Option (List Int)
 | []=>W8 []
 | .int i::r=>(dN r).map (i:: ·)
 |_::_=>W9
theorem px {x:Option α}{f:α->β}{b:β}(h:x.map f=W8 b)(k:∀a,x=W8 a->f a=b->P):P:=by
 cases x with
 |none=>cases h
 |some a=>exact k a rfl (Oh h)
theorem eE:∀ {xs:List V} {ns:List Int},dN xs=W8 ns->xs=ns.map Xc
 | [],ns,h=>by refine bV (Oh h) ?_;rfl
 |x::r,ns,h=>by
  cases x with
  |int i=>exact px h λa h1 h2=>by refine bV h2 (ab (eE h1) ?_);rfl
  |_=>exact absurd h Xu
theorem ma (ns:List Int):dN (ns.map Xc)=W8 ns:=by induction ns with |nil=>rfl |cons n ns ih=>exact congrArg (Ox (n:: ·)) ih
def oT:List V->Option (List (List Nat))
 | []=>W8 []
 | .str i::r=>(oT r).map (i:: ·)
 |_::_=>W9
def fv:List V->Option (List Bool)
 | []=>W8 []
 | .bool i::r=>(fv r).map (i:: ·)
 |_::_=>W9
def bf (f:Int->Int->Bool):V->V->Option V:=ii λa b=>W8 (.bool (f a b))
theorem GO:ir C k (PH .Lt) (bf λa b=>decide (a<b)):=km λA s a b t t1 t2 U rm e=>by cases e;exact UM ⟨.refl s,bu⟩
theorem GR:ir C k (PH .Gt) (bf λa b=>decide (b<a)):=km λA s a b t t1 t2 U rm e=>by cases e;exact PyProof.Rows.gt_int ⟨.refl s,bu⟩
theorem GP:ir C k (PH .LtE) (bf λa b=>decide (a<=b)):=km λA s a b t t1 t2 U rm e=>by cases e;exact UN ⟨.refl s,bu⟩
theorem GS:ir C k (PH .GtE) (bf λa b=>decide (b<=a)):=km λA s a b t t1 t2 U rm e=>by cases e;exact PyProof.Rows.ge_int ⟨.refl s,bu⟩
def fC:V->V->Option Bool
 | .int a,.int b=>W8 (a==b)
 | .str a,.str b=>W8 (a==b)
 |_,_=>W9
theorem tQ {c:Bool}{g:a0}(h:fC x y=W8 c)(r1:bj K g x v)(r2:bj K g y u):(∃a b t t',v= .int a t/\ u= .int b t'/\ c=(a==b)) \/∃a b:List Nat,∃t t',v= .str ⟨a.toArray⟩ t/\ u= .str ⟨b.toArray⟩ t'/\ c=(a==b):=by
 injections x y v u K c g _ h r1 r2;cases x with
 |int=>
  cases y with
  |int=>obtain⟨t,rfl⟩:=cG r1;obtain⟨t',rfl⟩:=cG r2;exact .inl ⟨_,_,_,_,rfl,rfl,(Oh h).symm⟩
  |_=>exact absurd h Xu
 |str=>
  cases y with
  |str=>obtain⟨t,rfl⟩:=xN r1;obtain⟨t',rfl⟩:=xN r2;exact .inr ⟨_,_,_,_,rfl,rfl,(Oh h).symm⟩
  |_=>exact absurd h Xu
 |_=>exact absurd h Xu
theorem GU:ir C k (PH .Eq) (λa b=>(fC a b).map Xb):=λA U s x y t v u rm ok e r1 r2=>by
 obtain⟨c,hc,rfl⟩:=O3.mp e;rcases tQ hc r1 r2 with⟨a,b,t,t',rfl,rfl,rfl⟩ | ⟨a,b,t,t',rfl,rfl,rfl⟩
 ·exact PyProof.Rows.eq_int ⟨.refl s,bu⟩
 ·exact P.eq_str ⟨.refl s,bu⟩
theorem GN:ir C k (PH .NotEq) (λa b=>(fC a b).map λc=>Xb (!c)):=λA U s x y t v u rm ok e r1 r2=>by
 obtain⟨c,hc,rfl⟩:=O3.mp e;rcases tQ hc r1 r2 with⟨a,b,t,t',rfl,rfl,rfl⟩ | ⟨a,b,t,t',rfl,rfl,rfl⟩
 ·exact P.ne_int ⟨.refl s,bu⟩
 ·exact P.ne_str ⟨.refl s,bu⟩
def Cr:V->Option Bool
 | .none=>W8 true
 | .any=>W9
 |_=>W8 false
theorem A7 {g:a0}(r:bj K g t v):match t with
 | .list _ | .tup _ | .set _ | .dict _ _ | .inst _ _ | .adr _=> ∃a,v= .ref a
 |_=>True:=by
 injections t v K g _ r;cases t with
 |list=>obtain⟨a,_,rfl,_⟩:=gI r;exact⟨a,rfl⟩
 |tup=>obtain⟨a,_,rfl,_⟩:=xM r;exact⟨a,rfl⟩
 |set=>obtain⟨a,rfl,_⟩:=r;exact⟨a,rfl⟩
 |dict=>obtain⟨a,_,rfl,_⟩:=r;exact⟨a,rfl⟩
 |inst=>obtain⟨a,_,_,rfl,_⟩:=r;exact⟨a,rfl⟩
 |adr=>exact⟨_,r⟩
 |_=>trivial
theorem wS {g:a0}{b:Bool}(h:Cr t=W8 b)(r:bj K g t v):(v==PA)=b:=by
 injections t v K g b _ h r;have q:=A7 r;cases t with
 |none=>cases h;refine ab (CA r) ?_;rfl
 |any=>cases h
 |bool=>cases h;refine ab (xO r) ?_;rfl
 |int=>cases h;obtain⟨_,rfl⟩:=cG r;rfl
 |str=>cases h;obtain⟨_,rfl⟩:=xN r;rfl
 |_=>cases h;obtain⟨_,rfl⟩:=q;rfl
def qg (x y:V):Option Bool:=match y with
 | .none=>Cr x
 | .bool b=>(match x with | .bool a=>W8 (a==b) |_=>W9)
 |_=>W9
theorem tO {c:Bool}{g:a0}(h:qg x y=W8 c)(r1:bj K g x v)(r2:bj K g y u):(u= .none/\ (v==PA)=c) \/∃a b,v= .bool a/\ u= .bool b/\ (Tm a==Tm b)=c:=by
 injections x y v u K c g _ h r1 r2;cases y with
 |none=>exact .inl ⟨CA r2,wS h r1⟩
 |bool b=>
  cases x with
  |bool a=>refine bV (Oh h) ?_;exact .inr ⟨_,_,xO r1,xO r2,by cases a<;>cases b<;>decide⟩
  |_=>exact absurd h Xu
 |_=>exact absurd h Xu
theorem GQ:ir C k (PH .Is) (λa b=>(qg a b).map Xb):=λA U s x y t v u rm ok e r1 r2=>by
 obtain⟨c,hc,rfl⟩:=O3.mp e;rcases tO hc r1 r2 with⟨rfl,rfl⟩ | ⟨a,b,rfl,rfl,rfl⟩
 ·exact is_none ⟨.refl s,bu⟩
 ·exact wpAny_is_plain rfl ⟨.refl s,bu⟩
theorem ye:ir C k (PH .IsNot) (λa b=>(qg a b).map λc=>Xb (!c)):=λA U s x y t v u rm ok e r1 r2=>by
 obtain⟨c,hc,rfl⟩:=O3.mp e;rcases tO hc r1 r2 with⟨rfl,rfl⟩ | ⟨a,b,rfl,rfl,rfl⟩
 ·exact isNot_none ⟨.refl s,bu⟩
 ·exact wpAny_isNot_plain rfl ⟨.refl s,bu⟩
end
section
def aah (C:Cf ag w)(k:Nat)(m:Oq->Oq->Sem Oq)(f:V->V->Option V):Prop:=
 ∀(A:O6) (U:Ow) (s:On) (x y t:V) (v u:Oq),aV A k->aY C U s->f x y=W8 t->bj C.cls (view U s.heap) x v->fe C.cls (b0 C.T s.heap) (view U s.heap) y u->Oz (Ov ag w) A (m v u) (λz s'=>aH C s s'/\ bj C.cls (view U s'.heap) t z) (λ_ _=>False) s
def iK (C:Cf ag w)(k:Nat)(m:Oq->Sem Oq)(f:V->Option V):Prop:=
 ∀(A:O6) (U:Ow) (s:On) (x t:V) (v:Oq),aV A k->aY C U s->f x=W8 t->fe C.cls (b0 C.T s.heap) (view U s.heap) x v->Oz (Ov ag w) A (m v) (λz s'=>aH C s s'/\ bj C.cls (view U s'.heap) t z) (λ_ _=>False) s
theorem Gf {l r:Ol}{a b:ED}{f:V->V->Option V}{m:Oq->Oq->Sem Oq}(hl:aC C k cx l a)(hr:gm C k cx r b)(Zt:aah C k m f) (rm:aV A k) (x:bA C cx U env σ s) (e:dB f a b σ=W8 t):Oz (Ov ag w) A (PX l env) (λv XB=>Oz (Ov ag w) A (PX r env) (λu XC=>Oz (Ov ag w) A (m v u) (λz s'=>aH C s s'/\ bj C.cls (view U s'.heap) t z) (λ_ _=>False) XC) (λ_ _=>False) XB) (λ_ _=>False) s:=by unfold dB at e;obtain⟨p,hp,e⟩:=OH.mp e;obtain⟨q,hq,e⟩:=OH.mp e;refine Ot (hl A U env σ s p rm x hp) (λv XB ⟨XI,XQ⟩=> ?_) λ_ _ f=>f;have XD:=x.grow XI;refine Ot (hr A U env σ XB q rm XD hq) (λu XC ⟨XF,XZ⟩=> ?_) λ_ _ f=>f;have XG:=XD.grow XF;exact Ot (Zt A U XC p q t v u rm XG.toaY e (bj.mono (XF.le x.tU) _ _ XQ) XZ) (λz XJ qq=>by obtain⟨XW,Yq⟩:=qq;exact⟨(XI.trans XF).trans XW,Yq⟩) λ_ _ f=>f
theorem xw {l r:Ol}{a b:ED}{f:V->V->Option V}(hl:aC C k cx l a)(hr:gm C k cx r b)(Zt:aah C k (PH op) f) (hm:SR op r=false:=by with_unfolding_all rfl):aC C k cx (.Compare l [op] [r] pos) (dB f a b):=λA U env σ s t rm x e=>wpAny_Compare1 (Gf hl hr Zt rm x e) hm
def cZ:V->Option Bool
 | .none=>W8 false
 | .bool b=>W8 b
 | .int i=>W8 (i !=0)
 | .list xs=>if xs.length<=lim then W8 (!xs.isEmpty)else W9
 |_=>W9
def dT (a:ED):ai->Option Bool:=λσ=>(a σ).bind cZ
theorem qA {b:Bool}(e:cZ t=W8 b)(r:fe C.cls (b0 C.T s.heap) (view U s.heap) t v):
 Oz (Ov ag w) A (truthy v) (λc s'=>aH C s s'/\ c=b) (λ_ _=>False) s:=by
 injections s A t v U b _ e r;cases t with
 |none=>exact(show v= .none from r)▸truthy_none ⟨.refl s,Oh e⟩
 |bool y=>exact(show v= .bool y from r)▸Sn ⟨.refl s,Oh e⟩
 |int i=>obtain⟨t,r⟩:=r;exact r▸PyProof.Rows.truthy_int ⟨.refl s,Oh e⟩
 |list xs=>
  obtain⟨hl,e⟩:=jb (show(if xs.length<=lim then W8 (!xs.isEmpty)else W9)=W8 b from e);obtain⟨a,vs,r,h1,h2⟩:=r;have:=h2.length;refine r▸wpAny_truthy_list h1.list (by refine ab OI (ab this ?_);exact aa0 (Rh.mpr hl) (by decide)) ⟨.tok,Qj ?_ e⟩;cases xs with
  |nil=>refine ab (show vs= []from h2) ?_;rfl
  |cons x xs=>obtain⟨v,r,e,_⟩:=h2;refine ab e ?_;rfl
 |_=>exact absurd e Xu
theorem Cw (h:gm C k cx pe d)(he:∀env YK,isTrue pe env YK=(do let v <-YK;Qb pe.pos;Qo [v] (truthy v)):=by intros;rfl):fi C k cx pe (dT d):=λA U env σ s b rm x e=>by unfold dT at e;obtain⟨p,hp,e⟩:=OH.mp e;refine isTrue_plain (Ot (h A U env σ s p rm x hp) (λv XB ⟨XI,XQ⟩=> ?_) λ_ _ f=>f) (he _ _);exact Ot (qA e XQ) (λc XC qq=>by obtain⟨XF,XN⟩:=qq;exact⟨XI.trans XF,XN⟩) λ_ _ f=>f
theorem nh {m:Sem Oq}{b:Bool}(e:cZ t=W8 b)
 (h:Oz (Ov ag w) A m (λz s'=>aH C XO s'/\ bj C.cls (view U s'.heap) t z) (λ_ _=>False) s) (hU:∀a∈C.T,U a≠W9):
 Oz (Ov ag w) A m (λz s'=>Oz (Ov ag w) A (truthy z) (λc Ye=>aH C XO Ye/\ c=b) (λ_ _=>False) s') (λ_ _=>False) s:=
 Ot h (λz XB qq=>by obtain⟨XI,XQ⟩:=qq;exact Ot (qA e (XQ.top (dG hU))) (λc XC ⟨XF,XN⟩=>⟨XI.trans XF,XN⟩) λ_ _ f=>f) λ_ _ f=>f
theorem qI {l r:Ol}{a b:ED}{f:V->V->Option V}(hl:aC C k cx l a)(hr:aC C k cx r b)(Zt:ir C k (PH op) f)
 (hm:SR op r=false:=by with_unfolding_all rfl):fi C k cx (.Compare l [op] [r] pos) (dT (dB f a b)):=λA U env σ s c rm x e=>by
 obtain⟨t,ht,e⟩:=OH.mp e;exact Sy (Ot (Ik hl hr Zt rm x ht) (λv XB XM=>Ot XM (λu XC XN=>nh e XN x.tU) λ_ _ f=>f) λ_ _ f=>f) hm
theorem jD {l r:Ol}{a b:ED}{f:V->V->Option V}(hl:aC C k cx l a)(hr:gm C k cx r b)(Zt:aah C k (PH op) f)
 (hm:SR op r=false:=by with_unfolding_all rfl):fi C k cx (.Compare l [op] [r] pos) (dT (dB f a b)):=λA U env σ s c rm x e=>by
 obtain⟨t,ht,e⟩:=OH.mp e;exact Sy (Ot (Gf hl hr Zt rm x ht) (λv XB XM=>Ot XM (λu XC XN=>nh e XN x.tU) λ_ _ f=>f) λ_ _ f=>f) hm
def eG (a:ai->Option Bool):ai->Option Bool:=λσ=>(a σ).map (!·)
def cw (a b:ai->Option Bool):ai->Option Bool:=λσ=>(a σ).bind λc=>if c then b σ else W8 false
def Il (a b:ai->Option Bool):ai->Option Bool:=λσ=>(a σ).bind λc=>if c then W8 true else b σ
theorem xi {a:ai->Option Bool}(h:fi C k cx pe a):fi C k cx (.UnaryOp .Not pe pos) (eG a):=λA U env σ s b rm x e=>by obtain⟨c,hc,hq⟩:=O3.mp e;refine bV hq ?_;exact isTrue_not (Ot (h A U env σ s c rm x hc) (λc' s' ⟨g,h'⟩=>⟨g,by exact ab h' rfl⟩) λ_ _ f=>f)
theorem vm:fi C k cx (.BoolOp .And [] pos) (λ_=>W8 true):=λA U env σ s b rm x e=>by cases e;exact isTrue_and_nil ⟨.refl s,rfl⟩
theorem xh:fi C k cx (.BoolOp .Or [] pos) (λ_=>W8 false):=λA U env σ s b rm x e=>by cases e;exact isTrue_or_nil ⟨.refl s,rfl⟩
theorem xj {rest:List Ol}{a b:ai->Option Bool}(h:fi C k cx pe a)(h':fi C k cx (.BoolOp .And rest pos) b):fi C k cx (.BoolOp .And (pe::rest) pos) (cw a b):=λA U env σ s c rm x e=>by
 obtain⟨p,hp,e⟩:=OH.mp e;refine isTrue_and (Ot (h A U env σ s p rm x hp) (λc' XB ⟨XI,XM⟩=> ?_) λ_ _ f=>f);subst XM;cases c' with
 |false=>cases e;exact⟨XI,rfl⟩
 |true=>exact Ot (h' A U env σ XB c rm (x.grow XI) e) (λc' XC ⟨XF,XN⟩=>⟨XI.trans XF,XN⟩) λ_ _ f=>f
theorem AO {rest:List Ol}{a b:ai->Option Bool}(h:fi C k cx pe a)(h':fi C k cx (.BoolOp .Or rest pos) b):fi C k cx (.BoolOp .Or (pe::rest) pos) (Il a b):=λA U env σ s c rm x e=>by
 obtain⟨p,hp,e⟩:=OH.mp e;refine isTrue_or (Ot (h A U env σ s p rm x hp) (λc' XB ⟨XI,XM⟩=> ?_) λ_ _ f=>f);subst XM;cases c' with
 |true=>cases e;exact⟨XI,rfl⟩
 |false=>exact Ot (h' A U env σ XB c rm (x.grow XI) e) (λc' XC ⟨XF,XN⟩=>⟨XI.trans XF,XN⟩) λ_ _ f=>f
def BR (a:ED):ED:=λσ=>(dT a σ).map λc=> .bool (!c)
def wl (a:ai->Option Bool)(b c:ED):ED:=λσ=>(a σ).bind λt=>if t then b σ else c σ
def FL (a b:ED):ED:=λσ=>(a σ).bind λv=>(cZ v).bind λc=>if c then W8 v else b σ
theorem AT {a:ED}(h:aC C k cx pe a):aC C k cx (.UnaryOp .Not pe pos) (BR a):=λA U env σ s t rm x e=>by obtain⟨c,hc,rfl⟩:=O3.mp e;obtain⟨p,hp,hc⟩:=OH.mp hc;refine UnaryOp_ (Ot (h A U env σ s p rm x hp) (λv XB ⟨XI,XQ⟩=> ?_) λ_ _ f=>f);exact not_of (Ot (qA hc (XQ.top (dG x.tU))) (λc' XC qq=>by obtain⟨XF,XN⟩:=qq;exact⟨XI.trans XF,by refine ab XN ?_;exact bu⟩) λ_ _ f=>f)
theorem xr {t b c:Ol}{dt:ai->Option Bool}{db dc:ED}(ht:fi C k cx t dt)(hb:aC C k cx b db)(hc:aC C k cx c dc):aC C k cx (.IfExp t b c pos) (wl dt db dc):=λA U env σ s r rm x e=>by
 obtain⟨p,hp,e⟩:=OH.mp e;refine IfExp_ (Ot (ht A U env σ s p rm x hp) (λc' XB ⟨XI,XM⟩=> ?_) λ_ _ f=>f);subst XM;cases c' with
 |true=>exact Ot (hb A U env σ XB r rm (x.grow XI) e) (λv XC ⟨XF,XN⟩=>⟨XI.trans XF,XN⟩) λ_ _ f=>f
 |false=>exact Ot (hc A U env σ XB r rm (x.grow XI) e) (λv XC ⟨XF,XN⟩=>⟨XI.trans XF,XN⟩) λ_ _ f=>f
theorem AR {op:BoolOp}{a:ED}(h:aC C k cx pe a):aC C k cx (.BoolOp op [pe] pos) a:=λA U env σ s t rm x e=>BoolOp_one (h A U env σ s t rm x e)
theorem DA {pe':Ol}{rest:List Ol}{a b:ED}(h:aC C k cx pe a)(h':aC C k cx (.BoolOp .Or (pe'::rest) pos) b):aC C k cx (.BoolOp .Or (pe::pe'::rest) pos) (FL a b):=λA U env σ s t rm x e=>by
 obtain⟨p,hp,e⟩:=OH.mp e;obtain⟨c,hc,e⟩:=OH.mp e;refine BoolOp_or (Ot (h A U env σ s p rm x hp) (λv XB ⟨XI,XQ⟩=> ?_) λ_ _ f=>f);refine Ot (qA hc (XQ.top (dG x.tU))) (λc' XC ⟨XF,XN⟩=> ?_) λ_ _ f=>f;subst XN;cases c' with
 |true=>cases e;exact⟨XI.trans XF,bj.mono (XF.le x.tU) _ _ XQ⟩
 |false=>exact Ot (h' A U env σ XC t rm ((x.grow XI).grow XF) e) (λv XJ qq=>by obtain⟨XW,X5⟩:=qq;exact⟨(XI.trans XF).trans XW,X5⟩) λ_ _ f=>f
def iy:V->Option V
 | .int i=>W8 (.int (-i))
 |_=>W9
theorem AU {a:ED}(h:aC C k cx pe a):aC C k cx (.UnaryOp .USub pe pos) (dU iy a):=λA U env σ s t rm x e=>by
 obtain⟨p,hp,e⟩:=OH.mp e;refine UnaryOp_ (Ot (h A U env σ s p rm x hp) (λv XB ⟨XI,XQ⟩=> ?_) λ_ _ f=>f);cases p with
 |int i=>obtain⟨t,XQ⟩:=XQ;exact XQ▸PyProof.Rows.neg_int ⟨XI.trans .tok,Oh e▸b6⟩
 |_=>exact absurd e Xu
def fw:V->V->Option Bool
 | .int i,.set xs=>if xs.length<4000 then W8 (decide (i∈xs))else W9
 | .int i,.dict ks ts=>W8 (decide (i∈ks))
 | .int i,.list xs=>(dN xs).map λns=>ns.any (· ==i)
 | .str i,.list xs=>(oT xs).map λns=>ns.any (· ==i)
 | .bool i,.list xs=>(fv xs).map λns=>ns.any (· ==i)
 |_,_=>W9
end
set_option tactic.hygienic true
section
theorem ed.setOf {g:a0}{h:O0}{xs:List Int}(x:ed L g a xs)(l:Le g h.get?)(hb:xs.length<4000):h.SetOf (Rf ag w) a (λk=>decide (k∈xs)) xs.length:=by obtain⟨o,ho,hs,_⟩:=x.obj;exact(hs.kind ag w).setOf (l a o ho) (QX hb (by decide))
theorem nR (e:ks.length=vs.length)(i:Int):(lk ks vs i).isSome=decide (i∈ks):=by
 unfold lk;induction ks generalizing vs with
 |nil=>simp
 |cons k ks ih=>
  cases vs with
  |nil=>simp at e
  |cons v vs=>
   dsimp only[T1,Qe];by_cases h:i=k
   ·subst h;simp
   ·have:(i==k)=false:=by simpa using h
    simp[this,h,ih (by simpa using e)]
theorem cF.mapOf {g:a0}{h:O0}(x:cF g a ks vs)(l:Le g h.get?):h.MapOf (Rf ag w) a (lk ks vs):=by injections a vs ks g h _ x l;obtain⟨_,_,o,es,n,ho,hc,hd,hk,hf,_⟩:=x;exact⟨o,es,n,l a o ho,hc,hd,λe he=>by obtain⟨k,t,h1,h2⟩:=hk e he;exact⟨k,by refine ab h1 ?_;simp[Rf,S7],h2⟩,hf⟩
theorem xK {g:a0}(h:aq K g [] vs):vs= []:=h
theorem o6 {g:a0}(h:aq K g (t::ts) vs):∃v vs',vs=v::vs'/\ bj K g t v/\ aq K g ts vs':=h
theorem nC {K:br}{g:a0}:∀ {xs:List V} {ns:List (List Nat)} {vs:List Oq},oT xs=W8 ns->aq K g xs vs->∃ts:List Tok,vs=(ns.zip ts).map (λp=>S1 ⟨p.1.toArray⟩ p.2)/\ ts.length=ns.length
 | [],ns,vs,e,h=>by refine bV (Oh e) (ab (xK h) ?_);exact⟨[],rfl,rfl⟩
 |x::r,ns,vs,e,h=>by
  cases x with
  |str x=>refine px e λns' e' en=> ?_;obtain⟨v,r',hv,h1,h2⟩:=o6 h;obtain⟨t,ht⟩:=h1;obtain⟨ts,e1,e2⟩:=nC e' h2;simp only[hv,ht,e1,<-en];exact⟨t::ts,rfl,congrArg (· +1) e2⟩
  |_=>exact absurd e Xu
theorem lu {K:br}{g:a0}:∀ {xs:List V} {ns:List Bool} {vs:List Oq},fv xs=W8 ns->aq K g xs vs->vs=ns.map Tm
 | [],ns,vs,e,h=>by refine bV (Oh e) (ab (xK h) ?_);rfl
 |x::r,ns,vs,e,h=>by
  cases x with
  |bool x=>refine px e λns' e' en=> ?_;obtain⟨v,r',hv,h1,h2⟩:=o6 h;refine ab hv (ab h1 (bV en (ab (lu e' h2) ?_)));rfl
  |_=>exact absurd e Xu
def oU (i:List Nat):Oq->Bool
 | .str x _=>x.cps.toList==i
 |_=>false
def kZ (i:Bool):Oq->Bool
 | .bool x=>x==i
 |_=>false
theorem AK {i:List Nat}{ns:List (List Nat)}:∀ {ts:List Tok},ts.length=ns.length->(((ns.zip ts).map λp=>S1 ⟨p.1.toArray⟩ p.2).any (oU i))=ns.any (· ==i):=by
 induction ns with
 |nil=>intro ts _;rfl
 |cons n ns ih=>intro ts e;cases ts with
  |nil=>nomatch e
  |cons t ts=>exact congrArg (n==i || ·) (ih (WP e))
theorem zJ {i:Bool}{ns:List Bool}:(ns.map Tm).any (kZ i)=ns.any (· ==i):=by
 induction ns with
 |nil=>rfl
 |cons n ns ih=>exact congrArg (n==i || ·) ih
theorem jz {g:a0}(h:fe K X3 g (.list xs) v):∃a vs,v= .ref a/\ bw "list" X3 a vs/\ aq K g xs vs:=h
theorem jQ {g:a0}{i:Int}(h:bj K g (.int i) v):∃t,v= .int i t:=h
inductive FV:V->V->Bool->Prop
 |bl {i:Bool} {xs:List V} {ns:List Bool} (h:fv xs=W8 ns):FV (.bool i) (.list xs) (ns.any (· ==i))
 |il {i:Int} {xs:List V} {ns:List Int} (h:dN xs=W8 ns):FV (.int i) (.list xs) (ns.any (· ==i))
 |is {i:Int} {xs:List Int} (h:xs.length<4000):FV (.int i) (.set xs) (decide (i∈xs))
 |id {i:Int} {ks:List Int} {ts:List V}:FV (.int i) (.dict ks ts) (decide (i∈ks))
 |sl {i:List Nat} {xs:List V} {ns:List (List Nat)} (h:oT xs=W8 ns):FV (.str i) (.list xs) (ns.any (· ==i))
theorem Em {x:Option α}{f:α->β}{b:β}{p:β->Prop}(h:x.map f=W8 b)(k:∀a,x=W8 a->p (f a)):p b:=by
 cases x with
 |none=>cases h
 |some a=>exact Oh h▸k a rfl
theorem AE {b:Bool}(e:fw x y=W8 b):FV x y b:=by
 cases x with
 |int i=>
  cases y with
  |set xs=>
   by_cases h:xs.length<4000
   ·exact Oh ((if_pos h).symm.trans e)▸ .is h
   ·exact absurd ((if_neg h).symm.trans e) Xu
  |dict is ts=>exact Oh e▸ .id
  |list xs=>exact Em e λns h=> .il h
  |_=>exact absurd e Xu
 |str i=>
  cases y with
  |list xs=>exact Em e λns h=> .sl h
  |_=>exact absurd e Xu
 |bool i=>
  cases y with
  |list xs=>exact Em e λns h=> .bl h
  |_=>exact absurd e Xu
 |_=>exact absurd e Xu
def Ft (A:O6)(v u:Oq)(s:On)(b:Bool):Prop:=
 (∀ {E:Oq->On->Prop} {Q:Oq->On->Prop},(∀tk,Q (.bool b) {s with toks:=tk})->Oz (Ov ag w) A (PH .In v u) Q E s)/\(∀ {E:Oq->On->Prop} {Q:Oq->On->Prop},(∀tk,Q (.bool (!b)) {s with toks:=tk})->Oz (Ov ag w) A (PH .NotIn v u) Q E s)
theorem yL {b:Bool}(ok:aY C U s)(e:fw x y=W8 b)(r1:bj C.cls (view U s.heap) x v)(r2:fe C.cls (b0 C.T s.heap) (view U s.heap) y u):Ft A v u s b:=by
 injections s A x y v u U b _ ok e r1 r2;cases AE e with
 |bl e'=>
  rename_i i xs ns;obtain⟨a,vs,hu,h1,h2⟩:=jz r2;refine ab r1 (ab hu ?_);simp only[lu e' h2]at h1;have he:∀y,y∈(ns.map Tm).toArray->SeqAt.EqAt A.in1 s y (.bool i) (kZ i y):=λy hy=>by obtain⟨c,_,hc⟩:=OM.mp (WT.mp hy);exact(hc)▸(SeqAt.EqAt.bool_bool c i)
  refine bV zJ (bV WY ?_);exact⟨λq=>SeqAt.in_listAt (kZ i) h1.list he (q s.toks),λq=>SeqAt.notIn_listAt (kZ i) h1.list he (q s.toks)⟩
 |il e'=>obtain⟨t,hv⟩:=jQ r1;obtain⟨a,vs,hu,h1,h2⟩:=jz r2;simp only[hv,hu];simp only[eE e']at h2;exact⟨λq=>in_list_ints h1.list (ez h2) (q s.toks),λq=>notin_list_ints h1.list (ez h2) (q s.toks)⟩
 |is hl=>obtain⟨t,hv⟩:=jQ r1;obtain⟨a,hu,h1⟩:=r2;simp only[hv,hu];exact⟨λq=>wpAny_inSet_of (Qz _ _ _ _) rfl (h1.setOf dw hl) (q _),λq=>wpAny_notInSet_of (Qz _ _ _ _) rfl (h1.setOf dw hl) (q _)⟩
 |id=>obtain⟨t,hv⟩:=jQ r1;obtain⟨a,vs,hu,h1,h2⟩:=r2;simp only[hv,hu,<-nR h1.1];exact⟨λq=>wpAny_in_of (Qz _ _ _ _) h1.2.1 (h1.mapOf dw) (q _),λq=>wpAny_notIn_of (Qz _ _ _ _) h1.2.1 (h1.mapOf dw) (q _)⟩
 |sl e'=>
  rename_i i xs ns;obtain⟨t,hv⟩:=r1;obtain⟨a,vs,hu,h1,h2⟩:=jz r2;obtain⟨ts,Zl,et⟩:=nC e' h2;simp only[hv,hu];simp only[Zl]at h1;have he:∀y,y∈((ns.zip ts).map λp=>S1 ⟨p.1.toArray⟩ p.2).toArray->MeetsSeq.EqGives y (.str ⟨i.toArray⟩ t) (oU i y):=λy hy=>by obtain⟨p,_,hp⟩:=OM.mp (WT.mp hy);refine(hp)▸ ?_;exact WO ⟨p.1.toArray⟩ ⟨i.toArray⟩ p.2 t
  refine bV (AK et) (bV WY ?_);exact⟨λq=>SeqInW.in_listW (oU i) he h1.list (q s.toks),λq=>SeqInW.notIn_listW (oU i) he h1.list (q s.toks)⟩
theorem yf:aah C k (PH .In) (λa b=>(fw a b).map Xb):=λA U s x y t v u rm ok e r1 r2=>by obtain⟨b,hb,rfl⟩:=O3.mp e;exact(yL ok hb r1 r2).1 λtk=>⟨.tok,bu⟩
theorem yc:aah C k (PH .NotIn) (λa b=>(fw a b).map λc=>Xb (!c)):=λA U s x y t v u rm ok e r1 r2=>by obtain⟨b,hb,rfl⟩:=O3.mp e;exact(yL ok hb r1 r2).2 λtk=>⟨.tok,bu⟩
theorem eP (x:bA C cx U env σ s){n:Str}(hg:n∈cx.globs)(hm:n∈bP)(hb:OZ n=W8 v)
 (q:Q v s):Oz (Ov ag w) A (PX (.Name n pos) env) Q E s:=by
  have h1:=x.globs n hg;have hn:n≠("__name__":Str):=λe=>by subst e;revert hm;decide
  exact UU x.kind h1.1 (Calls.loadGlobal_builtin (by refine ab x.gl ?_;exact x.inv.g) (x.inv.ok.miss n hm) (by refine ab x.bi ?_;exact x.inv.b) ((x.inv.ok.bi n hn).trans hb) q) h1.2
theorem nq {id:String}{f:V->Option V}(h:gm C k cx pe d)(op:iK C k (λv=>call (.builtin id) [v]) f)
 (hg:fn∈cx.globs) (hm:fn∈bP:=by decide) (hb:OZ fn=W8 (.builtin id):=by rfl) (he:∀env,OC [pe] env= [(false,PX pe env)]:=by intro _;rfl):
 aC C k cx (.Call (.Name fn p) [pe] [] pos) (dU f d):=λA U env σ s t rm x e=>by
 obtain⟨y,hy,e⟩:=OH.mp e;refine Pu (eP x hg hm hb (QH (rest:= []) (PE (Ot (h A U env σ s y rm x hy) (λv XB ⟨XI,XQ⟩=>Qk ?_) λ_ _ f=>f) (he env)) (he env)));exact Ot (op A U XB y t v rm (x.toaY.grow XI) e XQ) (λz XC ⟨XF,XZ⟩=>⟨XI.trans XF,XZ⟩) λ_ _ f=>f
theorem sE {T:String}{f:V->Option V}(h:gm C k cx pe d)(op:iK C k (λv=>call (.type T) [v]) f)
 (hg:fn∈cx.globs) (hm:fn∈bP:=by decide) (hb:OZ fn=W8 (.type T):=by rfl) (he:∀env,OC [pe] env= [(false,PX pe env)]:=by intro _;rfl):
 aC C k cx (.Call (.Name fn p) [pe] [] pos) (dU f d):=λA U env σ s t rm x e=>by
 obtain⟨y,hy,e⟩:=OH.mp e;refine Pu (eP x hg hm hb (PB (rest:= []) (PE (Ot (h A U env σ s y rm x hy) (λv XB ⟨XI,XQ⟩=>Qk ?_) λ_ _ f=>f) (he env)) (he env)));exact Ot (op A U XB y t v rm (x.toaY.grow XI) e XQ) (λz XC ⟨XF,XZ⟩=>⟨XI.trans XF,XZ⟩) λ_ _ f=>f
def aP:V->Option V
 | .list xs=>if xs.length<=lim then W8 (.int xs.length)else W9
 | .tup xs=>if xs.length<=lim then W8 (.int xs.length)else W9
 | .set xs=>if xs.length<=lim then W8 (.int xs.length)else W9
 |_=>W9
inductive wC:V->Nat->Prop
 |l (xs:List V):wC (.list xs) xs.length
 |t (xs:List V):wC (.tup xs) xs.length
 |s (xs:List Int):wC (.set xs) xs.length
theorem wT (e:aP x=W8 t):∃n,wC x n/\ n<=lim/\ t= .int n:=by
 have one:∀ {n:Nat},wC x n->(if n<=lim then W8 (Xc n)else W9)=W8 t->∃n,wC x n/\ n<=lim/\ t= .int n:=λ {n} h e=>by
  by_cases hn:n<=lim
  ·rw[if_pos hn]at e;exact⟨n,h,hn,(Oh e).symm⟩
  ·rw[if_neg hn]at e;cases e
 cases x with
 |list xs=>exact one (.l xs) e
 |tup xs=>exact one (.t xs) e
 |set xs=>exact one (.s xs) e
 |_=>exact absurd e Xu
theorem yd:iK C k (λv=>call (.builtin "len") [v]) aP:=λA U s x t v rm ok e r=>by
 obtain⟨n,hx,hn,ht⟩:=wT e;refine(ht)▸ ?_;have hl:n<=4096:=hn;cases hx with
 |l xs=>obtain⟨a,vs,hv,h1,h2⟩:=jz r;have h3:=h2.length;refine(hv)▸ ?_;exact Calls.call_len_list h1.list (by refine ab OI ?_;omega) ⟨.tok,by refine ab OI (ab h3 ?_);exact b6⟩
 |t xs=>obtain⟨a,vs,hv,⟨n,h1⟩,h2⟩:=r;have h3:=h2.length;refine(hv)▸ ?_;exact P.len_tuple (ao.mp h1).2 (by refine ab OI ?_;omega) ⟨.tok,by refine ab OI (ab h3 ?_);exact b6⟩
 |s xs=>obtain⟨a,hv,ZP⟩:=r;obtain⟨o,ho,hs,_⟩:=ZP.obj;obtain⟨hex,es,ep,t,hd,hel,hmem,hn,hf⟩:=hs.kind ag w;refine(hv)▸ ?_;exact call_len_set (ao.mp ho).2 hex hd hf (PS.mpr (OW (Op (O2 hn) hl) (by decide:4096<2^63))) ⟨.tok,by refine ab hn ?_;exact b6⟩
end
set_option tactic.hygienic false
section
def Z4 (xs:List α)(i:Int):Option α:=if 0<=i then(if i<lim then xs[i.toNat]? else W9)else if -(xs.length:Int)<=i/\ xs.length<=lim then xs[(i+xs.length).toNat]? else W9
def Au (ks:List Int)(ts:List V)(i:Int):Option V:=(ks.zip ts).lookup i
def aZ:V->V->Option V
 | .list xs,.int i=>Z4 xs i
 | .tup xs,.int i=>Z4 xs i
 | .dict ks ts,.int i=>Au ks ts i
 |_,_=>W9
inductive Oe (K:br) (g:a0) (t:V) (vs:List Oq) (i:Int):Prop
 |pos (h0:0<=i) (h1:i<2^63) (z:Oq) (hz:vs[i.toNat]?=W8 z) (r:bj K g t z)
 |neg (h0:i<0) (h1: -(vs.length:Int)<=i) (h2: -(2^63)<=i) (z:Oq) (hz:vs[(i+vs.length).toNat]?=W8 z) (r:bj K g t z)
theorem aq.at {g:a0}(h:aq K g ts vs){i:Int}(e:Z4 ts i=W8 t):Oe K g t vs i:=by
 injections t K ts vs g i _ h e;have ZB:(lim:Nat)=4096:=rfl;unfold Z4 at e;rw[<-h.length]at e;by_cases h0:0<=i
 ·rw[if_pos h0]at e
  by_cases h1:i<lim
  ·rw[if_pos h1]at e
   obtain⟨z,hz,r⟩:=h.get e;exact .pos h0 (aaT h1 (by decide)) z hz r
  ·rw[if_neg h1]at e;cases e
 ·rw[if_neg h0]at e
  by_cases h1: -(vs.length:Int)<=i/\ vs.length<=lim
  ·rw[if_pos h1]at e
   obtain⟨z,hz,r⟩:=h.get e;exact .neg (Int.not_le.mp h0) h1.1 (Ry (Ry (by decide: -(2^63)<= -((lim:Nat):Int)) (Int.neg_le_neg (Rh.mpr h1.2))) h1.1) z hz r
  ·rw[if_neg h1]at e;cases e
theorem sW {K:br}{g:a0}:∀ {ks:List Int} {ts:List V} {vs:List Oq},aq K g ts vs->∀ {i:Int} {t:V},Au ks ts i=W8 t->∃v,lk ks vs i=W8 v/\ bj K g t v
 | [],ts,vs,h,i,t,e=>nomatch e
 |k::ks,[],vs,h,i,t,e=>nomatch e
 |k::ks,x::ts,vs,h,i,t,e=>by
  obtain⟨v,r,hv,h1,h2⟩:=o6 h;refine ab hv ?_;have e:(match i==k with |true=>W8 x |false=>(ks.zip ts).lookup i)=W8 t:=e;show ∃u,(match i==k with |true=>W8 v |false=>(ks.zip r).lookup i)=W8 u/\ _;cases hik:i==k with
  |true=>rw[hik]at e;exact⟨v,rfl,Oh e▸h1⟩
  |false=>rw[hik]at e;exact sW h2 e
theorem o2 {i:Int}{n:Nat}(h:i<n)(h0:0<=i):WF i n=W8 i.toNat:=by unfold WF;have h1:¬i<0:=aa3.mpr h0;simp[h1,h0,h]
theorem o3 {i:Int}{n:Nat}(h:i<0)(h0: -(n:Int)<=i):WF i n=W8 (i+n).toNat:=by
 unfold WF;have h1:0<=i+n:=by omega
 have h2:i+n<n:=aaQ (Int.add_lt_add_right h n) (Int.le_of_eq (aa5 _));simp[h,h1,h2]
inductive Cm:V->Int->V->Prop
 |l {xs:List V} {i:Int} {t:V} (h:Z4 xs i=W8 t):Cm (.list xs) i t
 |t {xs:List V} {i:Int} {t:V} (h:Z4 xs i=W8 t):Cm (.tup xs) i t
 |d {ks:List Int} {ts:List V} {i:Int} {t:V} (h:Au ks ts i=W8 t):Cm (.dict ks ts) i t
theorem wU (e:aZ x y=W8 t):∃i,y= .int i/\ Cm x i t:=by
 cases x with
 |list xs=>
  cases y with
  |int i=>exact⟨i,rfl,.l e⟩
  |_=>exact absurd e Xu
 |tup xs=>
  cases y with
  |int i=>exact⟨i,rfl,.t e⟩
  |_=>exact absurd e Xu
 |dict ks ts=>
  cases y with
  |int i=>exact⟨i,rfl,.d e⟩
  |_=>exact absurd e Xu
 |_=>exact absurd e Xu
theorem EF {value slice:Ol}(Y6:∀o i,RQ slice false o i=operate [o,i] (getItem o i))
 (e:aZ x y=W8 t) (r1:fe C.cls (b0 C.T s.heap) (view U s.heap) x v) (r2:bj C.cls (view U s.heap) y u):
 Oz (Ov ag w) A (V6 value slice v u) (λz s'=>aH C s s'/\ bj C.cls (view U s.heap) t z) (λ_ _=>False) s:=by
 injections s A t x y v u U value slice _ Y6 e r1 r2;obtain⟨i,hy,hx⟩:=wU e;rw[hy]at r2;obtain⟨tk,hu⟩:=jQ r2;refine ab hu ?_;cases hx with
 |l h=>
  obtain⟨a,vs,hv,h1,h2⟩:=jz r1;refine ab hv ?_;refine V5 h1.list.typeIs slot_list_getitem.lookup ?_ (Y6 _ _);cases h2.at h with
  |pos h3 h4 z h5 h6=>exact wpAny_getItem_list h1.list h3 h4 (P4.trans h5) ⟨.refl s,h6⟩
  |neg h3 h4 h4' z h5 h6=>exact wpAny_getItem_list_neg h1.list h3 (OI▸h4) h4' (P4.trans (OI▸h5)) ⟨.refl s,h6⟩
 |t h=>
  obtain⟨a,vs,hv,⟨n,h1⟩,h2⟩:=r1;have ht:IsTup s.heap a vs.toArray:=⟨_,(ao.mp h1).2,rfl,n,rfl⟩;refine ab hv ?_;refine V5 ht.typeIs slot_tuple_getitem.lookup ?_ (Y6 _ _);cases h2.at h with
  |pos h3 h4 z h5 h6=>have ZQ:=(Pn.mp h5).1;exact TS ht (Ry (by decide) h3) h4 (o2 (by refine ab OI ?_;exact(Int.toNat_lt h3).mp ZQ) h3) (P4.trans h5) ⟨.refl s,h6⟩
  |neg h3 h4 h4' z h5 h6=>exact TS ht h4' (aaT h3 (by decide)) (o3 h3 (OI.symm▸h4)) (P4.trans (OI▸h5)) ⟨.refl s,h6⟩
 |d h=>obtain⟨a,vs,hv,h1,h2⟩:=r1;obtain⟨z,h5,h6⟩:=sW h2 h;refine ab hv ?_;have hm:=h1.mapOf dw;exact V5 hm.typeIs slot_dict_getitem.lookup (wpAny_getItem_of (Qz _ _ _ _) hm h5 ⟨.tok,h6⟩) (Y6 _ _)
theorem AY {a b:ED}(hv:gm C k cx pe a)(hi:aC C k cx pi b)(Y6:∀o i,RQ pi false o i=operate [o,i] (getItem o i):=by intro _ _;rfl):
 aC C k cx (.Subscript pe pi pos) (dB aZ a b):=λA U env σ s t rm x e=>by
 obtain⟨p,hp,e⟩:=OH.mp e;obtain⟨q,hq,e⟩:=OH.mp e;refine VV (Ot (hv A U env σ s p rm x hp) (λv XB ⟨XI,XQ⟩=> ?_) λ_ _ f=>f);have XD:=x.grow XI;refine Ot (hi A U env σ XB q rm XD hq) (λu XC ⟨XF,XZ⟩=> ?_) λ_ _ f=>f;have XG:=XD.grow XF;exact Ot (EF Y6 e (XQ.mono XF.leT (XF.le x.tU)) XZ) (λz XJ qq=>by obtain⟨XW,Yq⟩:=qq;exact⟨(XI.trans XF).trans XW,bj.mono (XW.le x.tU) _ _ Yq⟩) λ_ _ f=>f
def wF (xs:List α)(lo hi:Option Int):Option (List α):=
 if 0<=lo.getD 0/\ 0<=hi.getD xs.length/\ xs.length<=lim then W8 ((xs.drop (lo.getD 0).toNat).take ((hi.getD xs.length).toNat - (lo.getD 0).toNat))else W9
def wR:Option ED->ai->Option (Option Int)
 | .none,_=>W8 .none
 | .some d,σ=>(d σ).bind λ | .int i=>W8 (W8 i) |_=>W9
def gG (a:ED)(lo hi:Option ED):ED:=λσ=>(a σ).bind λ | .list xs=>(wR lo σ).bind λl=>(wR hi σ).bind λh=>(wF xs l h).map Xe |_=>W9
def pX (C:Cf ag w)(k:Nat)(cx:Cx):Option Ol->Option ED->Prop
 | .none,.none=>True
 | .some pe,.some d=>aC C k cx pe d
 |_,_=>False
theorem t7 {pe:Option Ol}{d:Option ED}(h:pX C k cx pe d){i:Option Int}(rm:aV A k)(x:bA C cx U env σ s)(e:wR d σ=W8 i):
 Oz (Ov ag w) A (evalPart pe env) (λv s'=>aH C s s'/\ IsPart v i) (λ_ _=>False) s:=by
 match pe,d,h with
 | .none,.none,_=>cases e;exact wpAny_evalPart_none ⟨.refl s,.none⟩
 | .some pe,.some d,h=>
   obtain⟨p,hp,e⟩:=OH.mp e;refine wpAny_evalPart_some (Ot (h A U env σ s p rm x hp) (λv XB ⟨XI,XQ⟩=> ?_) λ_ _ f=>f);cases p with
   |int i'=>obtain⟨t,XQ⟩:=XQ;exact⟨XI,XQ▸Oh e▸ .int _ _⟩
   |_=>exact absurd e Xu
theorem mI (xs:List α)(a b:Nat):(xs.drop (min a xs.length)).take (min b xs.length - min a xs.length)=(xs.drop a).take (b - a):=by
 rcases VK a xs.length with h |h
 ·refine ab (Tx h) ?_
  rcases VK b xs.length with h' |h'
  ·exact ab (Tx h') rfl
  ·exact ab (Tf h') (ab (R1 (O2 Sl)) (ab (R1 (Op (O2 Sl) (Nat.sub_le_sub_right h' a))) rfl))
 ·refine ab (Tf h) (ab (Vu (O5 _)) (ab (Vu h) ?_));simp
theorem xg {xs:List Oq}{ys:List Oq}(e:wF xs lo hi=W8 ys):slicePick xs.toArray lo hi W9=ys.toArray:=by
 injections lo hi xs ys _ e;unfold wF at e;split at e
 ·rename_i h
  cases e;obtain⟨h1,h2,h4⟩:=h;rw[slicePick_plain];have c:∀i:Int,0<=i->clipAt xs.toArray.size i=min i.toNat xs.length:=λi hi=>by obtain⟨m,rfl⟩:=Q1 hi;rw[clipAt_nat];simp
  congr 1;cases lo with
  |none=>
   cases hi with
   |none=>simp
   |some b=>
    simp only[Wh,Uh,VC]at h1 h2⊢;refine ab (c b h2) ?_;have:=mI xs 0 b.toNat
    simpa using this
  |some a=>
   simp only[Uh]at h1⊢;cases hi with
   |none=>
    simp only[Wh,VC];refine ab (c a h1) ?_;have:=mI xs a.toNat xs.length
    simpa using this
   |some b=>simp only[Uh,VC]at h2⊢;refine ab (c a h1) (ab (c b h2) ?_);exact mI xs a.toNat b.toNat
 ·cases e
theorem AN {g:a0}(h:aq K g xs vs)(e:wF xs lo hi=W8 ys):∃ws,wF vs lo hi=W8 ws/\ aq K g ys ws:=by
 injections K xs ys vs lo hi g _ h e;unfold wF at e⊢;rw[<-h.length]at e;split at e
 ·rename_i hc;cases e;refine ab (if_pos hc) ?_;exact⟨_,rfl,(h.drop _).take _⟩
 ·cases e
theorem vr {pl pu:Option Ol}{a:ED}{l u:Option ED}(hv:gm C k cx pe a)(hl:pX C k cx pl l)(hu:pX C k cx pu u):
 aC C k cx (.Subscript pe (.Slice pl pu W9 p) pos) (gG a l u):=by
 injections k pos p cx pe pl pu a l u _ hv hl hu;exact λA U env σ s t rm x e=>by
  obtain⟨q,hq,e⟩:=OH.mp e;refine VV (Ot (hv A U env σ s q rm x hq) (λv XB ⟨XI,XQ⟩=> ?_) λ_ _ f=>f);cases q<;>simp only[reduceCtorEq]at e;obtain⟨lo,hlo,e⟩:=OH.mp e;obtain⟨hi,hhi,e⟩:=OH.mp e;obtain⟨ys,YM,rfl⟩:=O3.mp e;have XD:=x.grow XI;refine wpAny_Slice (Ot (t7 hl rm XD hlo) (λvl XC ⟨XF,p₂⟩=>Ot (t7 hu rm (XD.grow XF) hhi) (λvu XJ ⟨XW,p₃⟩=>wpAny_evalPart_none ?_) λ_ _ f=>f) λ_ _ f=>f);have g:=(XI.trans XF).trans XW;have Yq:=XQ.mono (XF.trans XW).leT ((XF.trans XW).le x.tU);obtain⟨b,vs,rfl,h1,h2⟩:=Yq;obtain⟨ws,hws,hr⟩:=AN h2 YM;have Yy:aH C XJ {XJ with heap:=XJ.heap.push {cls:= .type "slice",data:= .fields #[vl,vu,.none]}}:= .push;have ok₄:=(x.toaY.grow g).grow Yy;have YE:vs.toArray.size<=Sr:=by
   have:=h2.length;have hh:=lR
   unfold wF at YM;split at YM
   ·rename_i hc;exact ab OI (Op (O2 this) (Op hc.2.2 hh))
   ·cases YM
  refine V5 (ops:= [_,_]) (h1.mono Yy.leT).list.typeIs slot_list_getitem.lookup (wpAny_getItem_list_slice (h1.mono Yy.leT).list (O0.IsSliceOf.new ..) p₂ p₃ .none (by simp) ?_ YE) rfl;refine ab (xg hws) ?_;exact⟨(g.trans Yy).trans .push,gH ok₄ (aq.mono (Yy.le x.tU) _ _ hr)⟩
end
section
theorem py {f:List V->Option α}{r:α}(h:(match x with | .list a=>f a |_=>W9)=W8 r)(k:∀a,x= .list a->f a=W8 r->P):P:=by
 cases x with
 |list a=>exact k a rfl h
 |_=>exact absurd h Xu
theorem uu {f:Int->Option α}{r:α}(h:(match x with | .int a=>f a |_=>W9)=W8 r)(k:∀a,x= .int a->f a=W8 r->P):P:=by
 cases x with
 |int a=>exact k a rfl h
 |_=>exact absurd h Xu
theorem mL {x:Option α}{f:α->Option β}{r:β}(h:x.bind f=W8 r)(k:∀a,x=W8 a->f a=W8 r->P):P:=by
 cases x with
 |none=>cases h
 |some a=>exact k a rfl h
theorem CV {c:Prop}[Decidable c]{x:Option α}{t:α}(h:(if c then x else W9)=W8 t)(k:c->x=W8 t->P):P:=by
 by_cases hc:c
 ·rw[if_pos hc]at h;exact k hc h
 ·rw[if_neg hc]at h;cases h
theorem lY {g:a0}(e:dN xs=W8 ns)(r:fe K X3 g (.list xs) v):∃a vs,v= .ref a/\ bw "list" X3 a vs/\ Vw vs ns:=by obtain⟨a,vs,hv,h1,h2⟩:=jz r;rw[eE e]at h2;exact⟨a,vs,hv,h1,ez h2⟩
theorem lZ (h:Vw vs ns):∃xs:Array (Int×Tok),vs.toArray=intItems xs/\ xs.toList.map (·.1)=ns:=by
 suffices ∃ys:List (Int×Tok),vs=ys.map (λp=>WN p.1 p.2)/\ ys.map (·.1)=ns by obtain⟨ys,rfl,e⟩:=this;exact⟨ys.toArray,by simp[intItems],by simpa using e⟩
 induction h with
 |nil=>exact⟨[],rfl,rfl⟩
 |cons n t _ ih=>obtain⟨ys,rfl,e⟩:=ih;exact⟨(n,t)::ys,rfl,by simp[e]⟩
def small (ns:List Int):Bool:=ns.all λi=>decide (i.natAbs<2^40)
def dn:V->Option V
 | .list xs=>(dN xs).bind λns=>if small ns/\ ns.length<=lim then W8 (.int ns.sum)else W9
 |_=>W9
theorem D0:iK C k (λv=>call (.builtin "sum") [v]) dn:=λA U s x t v rm ok e r=>by
 have ZB:(lim:Nat)=4096:=rfl;refine py e λxs hx e=>mL e λns e1 e=>CV e λhs e=> ?_;simp only[hx]at r;obtain⟨a,vs,hv,h1,h2⟩:=lY e1 r;obtain⟨xs,ex,en⟩:=lZ h2;refine ab hv (bV (Oh e) ?_);have hlen:xs.size=ns.length:=by refine bV en ?_;simp
 refine sum_intListG rm.handled (ex▸h1.list) λh' tk t' hk=>⟨.heap hk,?_⟩;rw[preSum_eq,en,R1 (O2 hlen.symm)];exact b6
def ij:List Int->Int
 | []=>0
 |n::r=>if r.isEmpty then n else if ij r<n then n else ij r
theorem lO:∀ {ns:List Int},ns≠ []->ij ns∈ns/\ ∀a∈ns,a<=ij ns
 | [n],_=>⟨.head _,λa ha=>Int.le_of_eq (OJ.mp ha)⟩
 |n::m::r,_=>by
  have ih:=lO (ns:=m::r) (by simp);show(if ij (m::r)<n then n else ij (m::r))∈_/\ ∀a∈_,a<=(if ij (m::r)<n then n else ij (m::r));split
  ·refine⟨by simp,λa ha=> ?_⟩
   rcases OG.mp ha with rfl |ha
   ·exact Int.le_refl _
   ·exact Ry (ih.2 a ha) (aa1 (by assumption))
  ·refine⟨Pp _ ih.1,λa ha=> ?_⟩
   rcases OG.mp ha with rfl |ha
   ·exact aa3.mp (by assumption)
   ·exact ih.2 a ha
def AB:V->Option V
 | .list xs=>(dN xs).bind λns=>if ns.isEmpty then W9 else W8 (.int (ij ns))
 |_=>W9
theorem D6:iK C k (λv=>call (.builtin "max") [v]) AB:=λA U s x t v rm ok e r=>by
 refine py e λxs hx e=>mL e λns e1 e=> ?_;rw[hx]at r;have hne':ns≠ []:=λh=>by rw[h]at e;cases e
 rw[if_neg (by rw[Uy];exact hne')]at e;obtain⟨a,vs,hv,h1,h2⟩:=lY e1 r;obtain⟨xs,ex,en⟩:=lZ h2;refine ab hv (bV (Oh e) ?_);have hlen:xs.size=ns.length:=by refine bV en ?_;simp
 have YE:0<xs.size:=by refine ab hlen ?_;exact List.length_pos_iff.mpr hne'
 refine max_intList rm.handled (ex▸h1.list) YE λv h' tk hv hk=> ?_;obtain⟨t,hq⟩:=intItems_at hv;refine ab hq ?_;have q1:=(argBest_gt (numAt xs) (xs.size - 1)).1;have q2:=(argBest_gt (numAt xs) (xs.size - 1)).2;refine⟨.heap hk,?_⟩;have m:=lO hne';have e3:numAt xs (argBest (λi j=>decide (numAt xs i>numAt xs j)) (xs.size - 1))=ij ns:=by
  apply Int.le_antisymm
  ·rw[numAt_eq,en];exact m.2 _ (getD_mem (hlen▸OW q1 (Nat.sub_lt YE Nat.one_pos)))
  ·obtain⟨j,hj,ej⟩:=mem_getD m.1
   rw[<-ej,<-en,<-numAt_eq];exact q2 j (Nat.le_sub_one_of_lt (hlen▸hj))
 refine ab e3 ?_;exact b6
def qr:V->Option V
 | .int a=>W8 (.int (if a<0 then -a else a))
 |_=>W9
theorem Ea:iK C k (λv=>call (.builtin "abs") [v]) qr:=λA U s x t v rm ok e r=>by refine uu e λa hx e=> ?_;rw[hx]at r;obtain⟨t,hv⟩:=jQ (K:=C.cls) (g:=view U s.heap) r;refine ab hv (bV (Oh e) ?_);exact call_abs_int λu tk=>⟨.tok,b6⟩
def oO:V->Option V
 | .int a=>W8 (.int a)
 |_=>W9
theorem D8:iK C k (λv=>call (.type "int") [v]) oO:=λA U s x t v rm ok e r=>by refine uu e λa hx e=> ?_;rw[hx]at r;obtain⟨t,hv⟩:=jQ (K:=C.cls) (g:=view U s.heap) r;refine ab hv (bV (Oh e) ?_);exact call_int_int ⟨.refl s,b6⟩
def ins (a:Int):List Int->List Int
 | []=> [a]
 |b::r=>if a<=b then a::b::r else b::ins a r
def ja:List Int->List Int
 | []=> []
 |a::r=>ins a (ja r)
theorem rE {a b:Int}{r:List Int}:ins a (b::r)=if a<=b then a::b::r else b::ins a r:=rfl
theorem me (a:Int):∀l:List Int,(ins a l).Perm (a::l)
 | []=> .refl _
 |b::r=>by
  refine ab rE ?_;split
  ·exact .refl _
  ·exact((me a r).cons b).trans (.swap a b r)
theorem iD:∀l:List Int,(ja l).Perm l
 | []=> .refl _
 |a::r=>(me a _).trans ((iD r).cons a)
theorem md (a:Int):∀ {l:List Int},l.Pairwise (· <= ·)->(ins a l).Pairwise (· <= ·)
 | [],_=>List.pairwise_singleton _ _
 |b::r,h=>by
  obtain⟨h1,h2⟩:=SU.mp h;refine ab rE ?_;split
  ·rename_i Z'
   refine SU.mpr ⟨λx hx=> ?_,h⟩;rcases OG.mp hx with rfl |hx
   ·exact Z'
   ·exact Ry Z' (h1 x hx)
  ·rename_i Z'
   refine SU.mpr ⟨λx hx=> ?_,md a h2⟩;rcases OG.mp ((me a r).mem_iff.mp hx)with rfl |hx
   ·exact aa1 (Int.not_le.mp Z')
   ·exact h1 x hx
theorem f0:∀l:List Int,(ja l).Pairwise (· <= ·)
 | []=> .nil
 |a::r=>md a (f0 r)
theorem ni {a b:List Int}(p:a.Perm b)(ha:a.Pairwise (· <= ·))(hb:b.Pairwise (· <= ·)):a=b:=
 p.eq_of_pairwise (λx y _ _ h1 h2=>Int.le_antisymm h1 h2) ha hb
def qp:V->Option V
 | .list xs=>(dN xs).bind λns=>if ns.length<64 then W8 (.list ((ja ns).map Xc))else W9
 |_=>W9
theorem sL {e:Nat}(ha:U a=W9)(hg:h'.get? a=W8 (Ri "list" vs.toArray e))(r:aq K (view U h') xs vs):bj K (view U h') (.list xs) (.ref a):=Exists.intro a (Exists.intro vs ⟨rfl,⟨e,ao.mpr ⟨ha,hg⟩⟩,r⟩)
theorem Bh:iK C k (λv=>call (.builtin "sorted") [v]) qp:=λA U s x t v rm ok e r=>by refine py e λxs hx e=>mL e λns e1 e=>CV e λhl e=> ?_;rw[hx]at r;obtain⟨a,vs,hv,h1,h2⟩:=lY e1 r;refine ab hv (bV (Oh e) ?_);refine sorted_ints h1.list h2 (h2.length▸hl) λout ns' a1 a2 a3=> ?_;obtain⟨e,he⟩:=sortedAll_at s.heap vs out;refine⟨.heap λ_ _=>sortedAll_old,?_⟩;simp only[ni (a2.trans (iD ns).symm) a3 (f0 ns)]at a1;have hn:s.heap.get? (s.heap.objs.size+1)=W9:=OX (QK _);exact sL (ok.not hn) he (nX a1)
theorem vB {pf:Ol}{id:String}{d':ED}{f:V->V->Option V}(h:aC C k cx pe d)(h':aC C k cx pf d')(op:ir C k (λv u=>call (.builtin id) [v,u]) f)
 (hg:fn∈cx.globs) (hm:fn∈bP:=by decide) (hb:OZ fn=W8 (.builtin id):=by rfl) (he:∀env,OC [pe,pf] env= [(false,PX pe env),(false,PX pf env)]:=by intro _;rfl) (q:∀env,OC [pf] env= [(false,PX pf env)]:=by intro _;rfl):
 aC C k cx (.Call (.Name fn p) [pe,pf] [] pos) (dB f d d'):=λA U env σ s t rm x e=>by
 refine Pu (eP x hg hm hb (QH (rest:= [pf]) ?_ (by rw[he,q]) (by rw[q];rfl)));refine PE (Ot (Ik h h' op rm x e) (λv XB XM=>PE (Ot XM (λu XC XN=>Qk XN) λ_ _ f=>f) (q env)) λ_ _ f=>f) (by rw[he,q])
def sf:V->V->Option V:=ii λa b=>W8 (.int (if b<a then b else a))
theorem D5:ir C k (λv u=>call (.builtin "min") [v,u]) sf:=km λA s a b t t1 t2 U rm e=>by refine bV (Oh e) ?_;refine min_two_ints rm.handled λh' tk hk=>⟨.heap hk,?_⟩;split<;>exact b6
end
section
section
variable{O O':OO->Prop}
noncomputable abbrev SD:=ai->Option (Fl×ai)
def aw (σ:ai)(i:Nat)(t:Option V):ai:=σ.set i t
theorem gc {i:Nat}{t:Option V}{u:V}(h:aK (aw σ i t) j=W8 u):(j=i/\ t=W8 u) \/(j≠i/\ aK σ j=W8 u):=by
 unfold aK aw at h;rw[S5]at h;by_cases hj:i=j
 ·rw[if_pos hj]at h
  split at h
  ·exact .inl ⟨hj.symm,h⟩
  ·exact nomatch h
 ·rw[if_neg hj]at h
  exact .inr ⟨λe=>hj e.symm,h⟩
def Dp (O:OO->Prop)(s s':On):Prop:= ∀b,(∃o,s.heap.get? b=W8 o)->O b \/∃o,s'.heap.get? b=W8 o
structure Ev (C:Cf ag w) (O:OO->Prop) (J:Nat->Prop) (U:Ow) (s:On) (U':Ow) (s':On):Prop where
 keep:∀b o,b∉C.T->(∀c q,U b=W8 (c,q)->¬O c)->s.heap.get? b=W8 o->s'.heap.get? b=W8 o
 col:∀b o,s.heap.get? b=W8 o->(∀c q,U b=W8 (c,q)->¬O c)->U' b=U b
 own:∀b c q,U' b=W8 (c,q)->U b=W8 (c,q) \/O c \/s.heap.get? c=W9
 os:s'.os=s.os
 gen:∀(i:Nat) (x:QZ),¬J i->s.gens[i]?=W8 x->s'.gens[i]?=W8 x
 go:aY C U s->aY C U' s'/\ Dp O s s'
theorem Ev.refl:Ev C O J U s U s:=⟨λ_ _ _ _ e=>e,λ_ _ _ _=>rfl,λ_ _ _ h=> .inl h,rfl,λ_ _ _ e=>e,λok=>⟨ok,λ_=> .inr⟩⟩
theorem aH.ev (g:aH C s s'):Ev C O J U s U s':=⟨λb o h _ e=>g.up b o h e,λ_ _ _ _=>rfl,λ_ _ _ h=> .inl h,g.os,λi x _ e=>g.gen i x e,λok=>⟨ok.grow g,λ_ h=> .inr (g.still ok.inv h)⟩⟩
theorem b7 (h:Dp O s s'){c:OO}(e:s'.heap.get? c=W9):O c \/s.heap.get? c=W9:=by
 cases e':s.heap.get? c with
 |none=>exact .inr rfl
 |some o=>exact .inl ((h c ⟨o,e'⟩).resolve_right λqq=>by obtain⟨o',h'⟩:=qq;exact by rw[e]at h';cases h')
theorem Ev.still (x:Ev C O J U s U' s')(ok:aY C U s){b:OO}(e:s.heap.get? b=W8 o)(hb:∀c q,U b=W8 (c,q)->¬O c):∃o',s'.heap.get? b=W8 o':=by
 by_cases hT:b∈C.T
 ·obtain⟨p,hp,hp2⟩:=OM.mp hT
  obtain⟨ps,_,h2⟩:=(x.go ok).1.inv.tab p hp;exact⟨_,hp2▸h2.2⟩
 ·exact⟨o,x.keep b o hT hb e⟩
theorem Ev.trans (ok:aY C U s)(x:Ev C O J U s U' s')(y:Ev C O' J' U' s' XE XC)(hO:∀c,O' c->O c \/s.heap.get? c=W9)(hJ:∀j,J' j->J j \/s.gens[j]?=W9):Ev C O J U s XE XC:=
 have key:∀b o,s.heap.get? b=W8 o->(∀c q,U b=W8 (c,q)->¬O c)->∀c q,U' b=W8 (c,q)->¬O' c:=λb o e hb c q h h'=>by
  rw[x.col b o e hb]at h;rcases hO c h' with h' |h'
  ·exact hb c q h h'
  ·obtain⟨_,o',ho⟩:=ok.live b c q h
   rw[h']at ho;cases ho
 {keep:=λb o hT hb e=>y.keep b o hT (key b o e hb) (x.keep b o hT hb e)
  col:=λb o e hb=>(by obtain⟨o',e'⟩:=x.still ok e hb;exact(y.col b o' e' (key b o e hb)).trans (x.col b o e hb))
  own:=λb c q h=>(y.own b c q h).elim (x.own b c q) λh=> .inr (h.elim (hO c) (b7 (x.go ok).2))
  os:=y.os.trans x.os
  gen:=λi z hj e=>y.gen i z (λh=>(hJ i h).elim hj λh=>by rw[h]at e;cases e) (x.gen i z hj e)
  go:=λi=>⟨(y.go (x.go i).1).1,λb h=>((x.go i).2 b h).elim .inl λh'=>((y.go (x.go i).1).2 b h').imp (λh'=>(hO b h').resolve_right λe=>by obtain⟨o,h⟩:=h;rw[e]at h;cases h) id⟩}
theorem Ev.wide (x:Ev C O J U s U' s')(h:∀c,O c->O' c):Ev C O' J U s U' s':= {x with
 keep:=λb o hT hb=>x.keep b o hT λc q e=>λhc=>hb c q e (h c hc)
 col:=λb o e hb=>x.col b o e λc q e=>λhc=>hb c q e (h c hc)
 own:=λb c q e=>(x.own b c q e).imp id (Or.imp (h c) id)
 go:=λok=>⟨(x.go ok).1,λb hb=>((x.go ok).2 b hb).imp (h b) id⟩}
theorem Ev.narrow (x:Ev C O J U s U' s')(ok:aY C U s)(h:∀c,O c->s.heap.get? c=W9 \/O' c):Ev C O' J U s U' s':=
 have key:∀ {b:OO},(∀c q,U b=W8 (c,q)->¬O' c)->∀c q,U b=W8 (c,q)->¬O c:=λhb c q e hc=>(h c hc).elim (λd=>by obtain⟨_,o,e'⟩:=ok.live _ c q e;rw[d]at e';cases e') (hb c q e)
 {x with
  keep:=λb o hT hb=>x.keep b o hT (key hb)
  col:=λb o e hb=>x.col b o e (key hb)
  own:=λb c q e=>(x.own b c q e).imp id λh'=>h'.elim (λhc=>(h c hc).symm) .inr
  go:=λok=>⟨(x.go ok).1,λb hb=>((x.go ok).2 b hb).imp (λhc=>(h b hc).resolve_left λe=>by obtain⟨o,e'⟩:=hb;rw[e]at e';cases e') id⟩}
theorem Ev.le (x:Ev C O J U s U' s')(tU:∀a∈C.T,U a≠W9):Le (view U s.heap) (view U' s'.heap):=λa o e=>by
 obtain⟨h1,h2⟩:=ao.mp e;have hn:∀c q,U a=W8 (c,q)->¬O c:=λc q h=>by rw[h1]at h;cases h
 exact ao.mpr ⟨(x.col a o h2 hn).trans h1,x.keep a o (λh=>tU a h h1) hn h2⟩
theorem vN {Z7 h:O0}(K:OldK Z7 h)(same:∀b o,Z7.get? b=W8 o->h'.get? b=h.get? b):OldK Z7 h':=by
 refine⟨λb o e=> ?_,λb o e=>(by obtain⟨o',Yw⟩:=K.there b o e;exact⟨o',(same b o e).trans Yw⟩)⟩;rcases K.old b o e with x | ⟨t,hc,vs,more,hv,x⟩ | ⟨hb,hc,⟨o',es,n,Yw,r⟩,z⟩
 ·exact .inl ((same b o e).trans x)
 ·exact .inr (.inl ⟨t,hc,vs,more,hv,(same b o e).trans x⟩)
 ·exact .inr (.inr ⟨hb,hc,⟨o',es,n,(same _ o e).trans Yw,r⟩,λkey=>by refine ab (OldK.staticOf_congr (hb▸same _ o e) key) ?_;exact z key⟩)
theorem gW {h:O0}(ha:U a≠W9)(hs:OE a h h'):Le (view U h) (view U h'):=λb o e=>by obtain⟨h1,h2⟩:=ao.mp e;exact ao.mpr ⟨h1,(hs.2 b λh=>ha (h▸h1)).trans h2⟩
theorem g8 (hs:SE a s.heap h')(ha:∃o,h'.get? a=W8 o){b:OO}(h:∃o,s.heap.get? b=W8 o):∃o,h'.get? b=W8 o:=by
 by_cases e:b=a
 ·refine ab e ?_;exact ha
 ·obtain⟨o,ho⟩:=h;exact⟨o,hs b o e ho⟩
theorem ff.many {bad:OO->Prop}(i:ff C s)(hb:∀b,bad b->C.hb.get? b=W9/\ b∉C.T)(hk:∀b o,¬bad b->s.heap.get? b=W8 o->s'.heap.get? b=W8 o)(bare:RR s'.gens):ff C s':=
 have base:∀ {b o},C.hb.get? b=W8 o->¬bad b:=λe h=>by rw[(hb _ h).1]at e;cases e
 ⟨i.ok,λb o hT e=>hk b o (base e) (i.base b o hT e),vN i.old λb o e=>by obtain⟨o',Yw⟩:=i.old.there b o e;exact(hk b o' (base e) Yw).trans Yw.symm,
  λp hp=>by
   obtain⟨ps,h1,h2⟩:=i.tab p hp;have n2:¬bad p.2:=λh=>(hb _ h).2 (OM.mpr ⟨p,hp,rfl⟩);have n1:¬bad p.1:=by obtain⟨ps',⟨o,vs,e,_⟩,_⟩:=(i.ok.tab p hp).2;exact base e
   exact⟨ps,h1.at2 (λo=>hk _ o n1) (λo=>hk _ o n2),h2.at2 (λo=>hk _ o n1) (λo=>hk _ o n2)⟩,bare⟩
theorem ff.same (i:ff C s)(hb:C.hb.get? a=W9)(hT:a∉C.T)(hs:SE a s.heap h'):ff C {s with heap:=h',toks:=tk}:=
 i.many (bad:=(· =a)) (λb e=>e▸⟨hb,hT⟩) (λb o h e=>hs b o h e) i.bare
theorem Ev.one {c:OO}{q:Slot}(ha:U a=W8 (c,q))(hO:O c)(hb:C.hb.get? a=W9)(hT:a∉C.T)(hs:SE a s.heap h')(hl:∃o,h'.get? a=W8 o):Ev C O J U s U {s with heap:=h',toks:=tk} where
 keep:=λb o _ hn e=>hs b o (λh=>hn c q (h▸ha) hO) e
 col:=λ_ _ _ _=>rfl
 own:=λ_ _ _ h=> .inl h
 os:=rfl
 gen:=λ_ _ _ e=>e
 go:=λk=>⟨⟨k.inv.same hb hT hs,λb c q h=>⟨g8 hs hl (k.live b c q h).1,g8 hs hl (k.live b c q h).2⟩,k.tU⟩,λ_ h=> .inr (g8 hs hl h)⟩
structure bF (C:Cf ag w) (cx:Cx) (U:Ow) (env:Env) (σ:ai) (s:On):Prop extends bA C cx U env σ s where
 hL:U env.locals=W8 (env.locals,.loc)
 hc:∀n c,n∈cx.mn->env.cells.lookup n=W8 c->U c=W8 (env.locals,.cell n)
 hf:∀n c,n∉cx.mn->env.cells.lookup n=W8 c->(∀q,U c≠W8 (env.locals,q))/\ ∃v,s.heap.IsCell c v
 base:∀a q,U a=W8 (env.locals,q)->a∉C.T/\ C.hb.get? a=W9
 loc:∀x i,cx.vars.lookup x=W8 i->i∉cx.fre->env.kindOf x=W8 .local \/(env.kindOf x=W8 .cell/\ x∈cx.mn/\ ∃c v,env.cells.lookup x=W8 c/\ s.heap.IsCell c v)
 ns:∃m,s.heap.Ns env.locals m
 inj:∀x y i,cx.vars.lookup x=W8 i->cx.vars.lookup y=W8 i->x=y
 own:∀x i t,cx.vars.lookup x=W8 i->i∈cx.own->aK σ i=W8 t->∃a,Holds env s x (.ref a)/\ U a=W8 (env.locals,.own i)/\ ∀c fs,t≠ .inst c fs
theorem Holds.fun' {x:Str}{v':Oq}(h:Holds env s x v)(h':Holds env s x v'):v=v':=by
 injections s v env x v' _ h h';rcases h with⟨h1,m,⟨o,es,ep,ho,hd,hk,hf⟩,hm⟩ | ⟨h1,c,h2,o,ho,hd⟩<;>rcases h' with⟨h1',m',⟨o',Zo,ep',Yw,hd',hk',Zv⟩,YJ⟩ | ⟨h1',c',h2',o',Yw,hd'⟩
 ·rw[ho]at Yw;cases Yw;rw[hd]at hd';cases hd'
  have:=(hf x).symm.trans (Zv x);rw[hm,YJ]at this;exact Oh this
 ·rw[h1]at h1';rcases h1' with h |h<;>cases h
 ·rw[h1']at h1;rcases h1 with h |h<;>cases h
 ·rw[h2]at h2';cases h2';rw[ho]at Yw;cases Yw;rw[hd]at hd';cases hd';rfl
theorem fe.at {g:a0}(h:fe K X3 g t (.ref a))(hk:∀c fs,t≠ .inst c fs)(ha:∀o,X3 a=W8 o->g₀' a=W8 o)(l:Le g g'):fe K g₀' g' t (.ref a):=by
 have ha:∀b,PL a= .ref b->∀o,X3 b=W8 o->g₀' b=W8 o:=λb e=>PL.inj e▸ha;generalize PL a=v at h ha;cases t with
 |list=>obtain⟨b,vs,e,h1,h2⟩:=h;exact Exists.intro b (Exists.intro vs ⟨e,h1.imp λ_ h=>ha b e _ h,aq.mono l _ _ h2⟩)
 |tup=>obtain⟨b,vs,e,h1,h2⟩:=h;exact Exists.intro b (Exists.intro vs ⟨e,h1.imp λ_ h=>ha b e _ h,aq.mono l _ _ h2⟩)
 |set=>obtain⟨b,e,h1⟩:=h;exact Exists.intro b ⟨e,h1.at (ha b e)⟩
 |dict=>obtain⟨b,vs,e,h1,h2⟩:=h;exact Exists.intro b (Exists.intro vs ⟨e,⟨h1.1,h1.2.1,h1.2.2.imp λ_=>OQ λ_=>OQ λ_=>TA (ha b e _)⟩,aq.mono l _ _ h2⟩)
 |inst=>exact absurd rfl (hk _ _)
 |_=>exact bj.mono l _ _ h
theorem fe.rep {g:a0}(h:fe K g g t v):bj K g t v:=by cases t<;>exact h
theorem fe.fresh {h:O0}(r:fe K (view X4 h) (view U h) t (.ref a))(hU:U' a=W9)(l:∀b,U b=W9->U' b=W9)(hk:∀c fs,t≠ .inst c fs):bj K (view U' h) t (.ref a):=
 (r.at hk (g₀':=view U' h) (λo e=>ao.mpr ⟨hU,(ao.mp e).2⟩) λb o e=>ao.mpr ⟨l b (ao.mp e).1,(ao.mp e).2⟩).rep
theorem Holds.keep {x:Str}(h:Holds env s x v)(hL:∀o,s.heap.get? env.locals=W8 o->s'.heap.get? env.locals=W8 o)(hc:∀ {c:OO},env.cells.lookup x=W8 c->∀o,s.heap.get? c=W8 o->s'.heap.get? c=W8 o):Holds env s' x v:=by injections s s' v env x _ h hL hc;exact h.imp (λqq=>by obtain⟨h1,m,hn,hm⟩:=qq;exact⟨h1,m,hn.at' hL,hm⟩) λqq=>by obtain⟨h1,c,h2,o,ho,hd⟩:=qq;exact⟨h1,c,h2,o,hc h2 o ho,hd⟩
theorem bF.other (x:bF C cx U env σ s)(ev:Ev C O J U s U' s')(h1:¬O env.locals)(h2:∀n c,n∉cx.mn->env.cells.lookup n=W8 c->∀c' q,U c=W8 (c',q)->¬O c'):bF C cx U' env σ s':=by
 injections s s' cx env J U U' σ O _ x ev h1 h2;exact
  have le:=ev.le x.tU;have kL:∀ {b:OO} {q:Slot},U b=W8 (env.locals,q)->(∀o,s.heap.get? b=W8 o->s'.heap.get? b=W8 o)/\ U' b=W8 (env.locals,q):=λ {b q} h=>
   have hn:∀c q',U b=W8 (c,q')->¬O c:=λc q' e=>by rw[h]at e;cases e;exact h1
   ⟨λo=>ev.keep b o (x.base b q h).1 hn,(by obtain⟨⟨o,e⟩,_⟩:=x.live b _ q h;exact(ev.col b o e hn).trans h)⟩
  have kc:∀ {n:Str} {c:OO},env.cells.lookup n=W8 c->∀o,s.heap.get? c=W8 o->s'.heap.get? c=W8 o:=λ {n c} h o=>if hm:n∈cx.mn then(kL (x.hc n c hm h)).1 o else ev.keep c o (x.frame.2 n c h) (h2 n c hm h)
  have kh:∀ {y:Str} {v:Oq},Holds env s y v->Holds env s' y v:=λh=>h.keep (kL x.hL).1 kc;have kC:∀ {n:Str} {c:OO} {v:Option Oq},env.cells.lookup n=W8 c->s.heap.IsCell c v->s'.heap.IsCell c v:=λh qq=>by obtain⟨o,ho,hd⟩:=qq;exact⟨o,kc h o ho,hd⟩
  have back:∀ {b:OO} {q:Slot},U' b=W8 (env.locals,q)->U b=W8 (env.locals,q):=λh=>(ev.own _ _ _ h).elim id λh'=>h'.elim (λh=>absurd h h1) λe=>by obtain⟨o,e'⟩:=(x.live _ _ _ x.hL).1;rw[e]at e';cases e'
  {x with
   tobA:= {toaY:=(ev.go x.toaY).1,toIe:=x.toIe,caps:=λy hy=>let ⟨k,c,v,h,hc⟩:=x.caps y hy;⟨k,c,v,h,kC h hc⟩
           vars:=λy i t hy ht=>let ⟨v,p1,p2,p3⟩:=x.vars y i t hy ht;⟨v,kh p1,λh=>bj.mono le _ _ (p2 h),λh=>by obtain⟨b,q1,q2,q3⟩:=x.own y i t hy h ht;rw[p1.fun' q1]at p3⊢;exact(p3 h).at q3 (λo e=>(by obtain⟨p,q⟩:=av.mp e;exact av.mpr ⟨p,(kL q2).1 o q⟩)) le⟩}
   hL:=(kL x.hL).2
   hc:=λn c h h'=>(kL (x.hc n c h h')).2
   hf:=λn c h h'=>⟨λq e=>(x.hf n c h h').1 q (back e),(by obtain⟨v,hv⟩:=(x.hf n c h h').2;exact⟨v,kC h' hv⟩)⟩
   base:=λa q h=>x.base a q (back h)
   loc:=λy i h hf=>(x.loc y i h hf).imp id λ⟨h1,hm,c,v,h2,h3⟩=>⟨h1,hm,c,v,h2,kC h2 h3⟩
   ns:=(by obtain⟨m,hm⟩:=x.ns;exact⟨m,hm.at' (kL x.hL).1⟩)
   own:=λy i t a b c=>(by obtain⟨d,q1,q2,q3⟩:=x.own y i t a b c;exact⟨d,kh q1,(kL q2).2,q3⟩)}
theorem bF.more (x:bF C cx U env σ s)(ev:Ev C O J U s U' s')(h:∀c,O c->s.heap.get? c=W9):bF C cx U' env σ s':=
 have no:∀b c q,U b=W8 (c,q)->¬O c:=λb c q e hc=>by obtain⟨_,o,e'⟩:=x.live b c q e;rw[h c hc]at e';cases e'
 x.other ev (no _ _ _ x.hL) λ_ _ _ _=>no _
theorem bF.grow (x:bF C cx U env σ s)(g:aH C s s'):bF C cx U env σ s':=x.more (O:=λ_=>False) (J:=λ_=>False) g.ev λ_ h=>h.elim
theorem bF.cellNe (x:bF C cx U env σ s){y:Str}{c:OO}(h:env.cells.lookup y=W8 c){q:Slot}(hq:q≠ .cell y):U c≠W8 (env.locals,q):=λe=>by
 by_cases hy:y∈cx.mn
 ·rw[x.hc y c hy h]at e;exact hq (by cases e;rfl)
 ·exact(x.hf y c hy h).1 q e
theorem bF.step (x:bF C cx U env σ s){q:Slot}(ha:U a=W8 (env.locals,q))(hs:OE a s.heap h')(hl:∃o,h'.get? a=W8 o)(N:Str->Prop)
 (hh:∀y u,¬N y->(∃c,env.cells.lookup y=W8 c) \/env.kindOf y=W8 .local->Holds env s y u->Holds env {s with heap:=h',toks:=tk} y u) (Yh:∀y c,env.cells.lookup y=W8 c->(∃v,s.heap.IsCell c v)->∃v,h'.IsCell c v) (Y6:∃m,h'.Ns env.locals m)
 (hv:∀y i t,cx.vars.lookup y=W8 i->aK σ' i=W8 t->(¬N y/\ aK σ i=W8 t/\ q≠ .own i) \/∃v,Holds env {s with heap:=h',toks:=tk} y v/\ (i∉cx.own->bj C.cls (view U h') t v)/\ (i∈cx.own->∃b,v= .ref b/\ U b=W8 (env.locals,.own i)/\ fe C.cls (b0 C.T h') (view U h') t v/\ ∀c fs,t≠ .inst c fs)):
 bF C cx U env σ' {s with heap:=h',toks:=tk}/\ ∀ {O:OO->Prop} {J:Nat->Prop},O env.locals->Ev C O J U s U {s with heap:=h',toks:=tk}:=by
 injections tk s a cx env h' U σ σ' q N _ x ha hs hl hh Yh Y6 hv;have hT:=(x.base a q ha).1;have hb:=(x.base a q ha).2;have le:Le (view U s.heap) (view U h'):=gW (by refine ab ha ?_;exact PY _) hs;have ok:=((Ev.one (J:=λ_=>False) (tk:=tk) ha (O:=λ_=>True) trivial hb hT hs.extBut hl).go x.toaY).1;have hold:∀y u,¬N y->Holds env s y u->Holds env {s with heap:=h',toks:=tk} y u:=λy u hn h=>hh y u hn (h.elim (λh=> .inr h.1) λh=> .inl ⟨h.2.choose,h.2.choose_spec.1⟩) h;have nT:∀ {b:OO} {o:Obj},b≠a->b0 C.T s.heap b=W8 o->b0 C.T h' b=W8 o:=λYn e=>av.mpr ⟨(av.mp e).1,(hs.2 _ Yn).trans (av.mp e).2⟩;refine⟨{x with
  tobA:= {toaY:=ok,toIe:=x.toIe,caps:=λy hy=>let ⟨k,c,v,h,hc⟩:=x.caps y hy;(by obtain⟨v',h'⟩:=Yh y c h ⟨v,hc⟩;exact⟨k,c,v',h,h'⟩),vars:=λy i t hy ht=> ?_}
  hf:=λy c h1 h2=>⟨(x.hf y c h1 h2).1,Yh y c h2 (x.hf y c h1 h2).2⟩
  loc:=λy i hy hf=>(x.loc y i hy hf).imp id λ⟨h1,hm,c,v,h2,h3⟩=>(by obtain⟨v',h'⟩:=Yh y c h2 ⟨v,h3⟩;exact⟨h1,hm,c,v',h2,h'⟩)
  ns:=Y6
  own:=λy i t hy hi ht=> ?_},λhO=>Ev.one ha hO hb hT hs.extBut hl⟩
 ·rcases hv y i t hy ht with⟨hn,ht0,hq⟩ | ⟨v,h1,h2,h3⟩
  ·obtain⟨v,h1,h2,h3⟩:=x.vars y i t hy ht0
   refine⟨v,hold y v hn h1,λh=>bj.mono le _ _ (h2 h),λh=> ?_⟩;obtain⟨b,p1,p2,p3⟩:=x.own y i t hy h ht0;obtain rfl:=h1.fun' p1;exact(h3 h).at p3 (λo=>nT λe=>by rw[e,ha]at p2;cases p2;exact hq rfl) le
  ·exact⟨v,h1,h2,λh=>(by obtain⟨_,_,_,q,_⟩:=h3 h;exact q)⟩
 ·rcases hv y i t hy ht with⟨hn,ht0,hq⟩ | ⟨v,h1,h2,h3⟩
  ·obtain⟨b,p1,p2,p3⟩:=x.own y i t hy hi ht0
   exact⟨b,hold y _ hn p1,p2,p3⟩
  ·obtain⟨b,rfl,p,_,p'⟩:=h3 hi
   exact⟨b,h1,p,p'⟩
theorem bF.store' (x:bF C cx U env σ s){n:Str}{i:Nat}(hx:cx.vars.lookup n=W8 i)(hf:i∉cx.fre)(ho:i∈cx.own->∃b,v= .ref b/\ U b=W8 (env.locals,.own i)/\ fe C.cls (b0 C.T s.heap) (view U s.heap) t v/\ ∀c fs,t≠ .inst c fs)
 (r:i∉cx.own->bj C.cls (view U s.heap) t v) {Q:Unit->On->Prop}
 (q:∀s',bF C cx U env (aw σ i (W8 t)) s'->(∀ {O:OO->Prop} {J:Nat->Prop},O env.locals->Ev C O J U s U s')->Holds env s' n v->Q () s'):Oz (Ov ag w) A (TN env n v) Q E s:=by
 injections s A t cx v env E U σ n i Q _ x hx hf ho r q;have fin:∀(a:OO) (q:Slot) (h':O0) (tk:Nat),U a=W8 (env.locals,q)->(∀j,q≠ .own j)->OE a s.heap h'->(∃o,h'.get? a=W8 o)->Holds env {s with heap:=h',toks:=tk} n v->
  (∀y u,¬y=n->(∃c,env.cells.lookup y=W8 c) \/env.kindOf y=W8 .local->Holds env s y u->Holds env {s with heap:=h',toks:=tk} y u)->(∀y c,env.cells.lookup y=W8 c->(∃v,s.heap.IsCell c v)->∃v,h'.IsCell c v)->(∃m,h'.Ns env.locals m)->Q () {s with heap:=h',toks:=tk}:=by
  intro a q' h' tk ha hq hs hl hn hh Yh Y6;have le:Le (view U s.heap) (view U h'):=gW (by refine ab ha ?_;exact PY _) hs;obtain⟨x',ev⟩:=x.step (σ':=aw σ i (W8 t)) ha hs hl (· =n) hh Yh Y6 λy j u hy hu=>by
   rcases gc hu with⟨rfl,e⟩ | ⟨hj,e⟩
   ·refine bV (Oh e) ?_
    refine ab (x.inj y n _ hy hx) ?_;refine .inr ⟨v,hn,λh=>bj.mono le _ _ (r h),λh=> ?_⟩;obtain⟨b,rfl,e2,e3,e4⟩:=ho h;exact⟨b,rfl,e2,e3.at e4 (λo p=>av.mpr ⟨(av.mp p).1,(hs.2 _ λe=>by rw[e,ha]at e2;cases e2;exact hq _ rfl).trans (av.mp p).2⟩) le,e4⟩
   ·exact .inl ⟨λe'=>hj (by subst e';rw[hx]at hy;exact(Oh hy).symm),e,hq j⟩
  exact q _ x' ev hn
 have hp:(env.scope.kind== .class || (env.scope.kind== .module&&env.locals !=env.globals))=false:=by refine ab x.kind ?_;rfl
 rcases x.loc n i hx hf with hl | ⟨hl,hlm,c,v₀,hc,Yh⟩
 ·obtain⟨m,hm⟩:=x.ns
  refine WD hl hm (λh' hn' X2=> ?_) hp;have ne:∀ {y:Str} {c:OO},env.cells.lookup y=W8 c->c≠env.locals:=λh e=>x.cellNe h (q:= .loc) (λe=>by cases e) (e▸x.hL);refine fin env.locals .loc h' _ x.hL (λj e=>by cases e) X2 ((by obtain⟨o,_,_,ho,_⟩:=hn';exact⟨o,ho⟩)) (.inl ⟨hl,_,hn',by simp⟩) ?_ (λy c h qq=>by obtain⟨v,hc⟩:=qq;exact⟨v,hc.sameBut X2 (ne h)⟩) ⟨_,hn'⟩;rintro y u Yn _ (⟨h1,m',YJ,hu⟩ | ⟨h1,c,h2,h3⟩)
  ·refine .inl ⟨h1,_,hn',?_⟩
   refine ab (if_neg Yn) ?_;obtain⟨o,es,ep,ho1,hd1,_,hf1⟩:=hm;obtain⟨o',Zo,ep',ho2,hd2,_,hf2⟩:=YJ;rw[ho1]at ho2;cases ho2;rw[hd1]at hd2;cases hd2;refine bV (hf1 y) (ab (hf2 y) ?_);exact hu
  ·exact .inr ⟨h1,c,h2,h3.sameBut X2 (ne h2)⟩
 ·refine wpAny_storeName_cell x.kind hl hc Yh (λh' hc' X2=> ?_)
  have hcu:=x.hc n c hlm hc;have ne:∀ {y:Str} {c':OO},y≠n->env.cells.lookup y=W8 c'->c'≠c:=λhy h e=>x.cellNe h (q:= .cell n) (λe=>by cases e;exact hy rfl) (e▸hcu);have nl:env.locals≠c:=λe=>by rw[<-e,x.hL]at hcu;cases hcu
  refine fin c (.cell n) h' s.toks hcu (λj e=>by cases e) X2 ((by obtain⟨o,ho,_⟩:=hc';exact⟨o,ho⟩)) (.inr ⟨.inl hl,c,hc,hc'⟩) ?_ (λy c' h ⟨v,X8⟩=> ?_) ((by obtain⟨m,hm⟩:=x.ns;exact⟨m,hm.sameBut X2 nl⟩))
  ·rintro y u Yn _ (⟨h1,m',YJ,hu⟩ | ⟨h1,c',h2,h3⟩)
   ·exact .inl ⟨h1,m',YJ.sameBut X2 nl,hu⟩
   ·exact .inr ⟨h1,c',h2,h3.sameBut X2 (ne Yn h2)⟩
  ·by_cases e:y=n
   ·subst e;rw[hc]at h;cases h;exact⟨_,hc'⟩
   ·exact⟨v,X8.sameBut X2 (ne e h)⟩
theorem bF.store (x:bF C cx U env σ s){n:Str}{i:Nat}(hx:cx.vars.lookup n=W8 i)(ho:i∉cx.own)(hf:i∉cx.fre)(r:bj C.cls (view U s.heap) t v){Q:Unit->On->Prop}
 (q:∀s',bF C cx U env (aw σ i (W8 t)) s'->(∀ {O:OO->Prop} {J:Nat->Prop},O env.locals->Ev C O J U s U s')->Holds env s' n v->Q () s'):Oz (Ov ag w) A (TN env n v) Q E s:=
 x.store' hx hf (λh=>absurd h ho) (λ_=>r) q
theorem bF.turn (x:bF C cx U env σ s){n:Str}{i:Nat}(hx:cx.vars.lookup n=W8 i)(hn:Holds env s n (.ref a))(ha:U a=W8 (env.locals,.own i))(hs:OE a s.heap h')(hl:∃o,h'.get? a=W8 o)
 (r:fe C.cls (b0 C.T h') (view U s.heap) t (.ref a)) (hk:∀c fs,t≠ .inst c fs) (ho:i∈cx.own):
 bF C cx U env (aw σ i (W8 t)) {s with heap:=h',toks:=tk}/\ ∀ {O:OO->Prop} {J:Nat->Prop},O env.locals->Ev C O J U s U {s with heap:=h',toks:=tk}:=by
 injections tk s a t cx env h' U σ n i _ x hx hn ha hs hl r hk ho;have le:Le (view U s.heap) (view U h'):=gW (by refine ab ha ?_;exact PY _) hs;have nl:env.locals≠a:=λe=>by rw[<-e,x.hL]at ha;cases ha
 have nc:∀ {y:Str} {c:OO},env.cells.lookup y=W8 c->c≠a:=λh e=>x.cellNe h (q:= .own i) (λe=>by cases e) (e▸ha);have keepH:∀y u,Holds env s y u->Holds env {s with heap:=h',toks:=tk} y u:=by
  rintro y u (⟨h1,m,hm,hu⟩ | ⟨h1,c,h2,h3⟩)
  ·exact .inl ⟨h1,m,hm.sameBut hs nl,hu⟩
  ·exact .inr ⟨h1,c,h2,h3.sameBut hs (nc h2)⟩
 refine x.step ha hs hl (λ_=>False) (λy u _ _=>keepH y u) (λy c h qq=>by obtain⟨v,hv⟩:=qq;exact⟨v,hv.sameBut hs (nc h)⟩) ((by obtain⟨m,hm⟩:=x.ns;exact⟨m,hm.sameBut hs nl⟩)) λy j u hy hu=> ?_;rcases gc hu with⟨rfl,e⟩ | ⟨hj,e⟩
 ·refine bV (Oh e) ?_
  refine ab (x.inj y n _ hy hx) ?_;exact .inr ⟨_,keepH _ _ hn,λh=>absurd ho h,λ_=>⟨a,rfl,ha,r.mono (Le.refl _) le,hk⟩⟩
 ·exact .inl ⟨id,e,λe=>hj (by cases e;rfl)⟩
end
end
variable {bd db : SD}
section
section
variable{r q:Fl×ai}{f:Wv}{st:RV}{a b:SD}
noncomputable abbrev only (L:OO):OO->Prop:=(· =L)
noncomputable abbrev bM:Nat->Prop:=λ_=>False
def dk (C:Cf ag w)(cx:Cx)(oc O':List Nat)(env:Env)(U:Ow)(s:On)(r:Fl×ai)(f:Wv)(s':On):Prop:=
 ∃U',Ev C (only env.locals) bM U s U' s'/\ match r.1 with
 | .next=>f= .next/\ bF C {cx with own:=O'} U' env r.2 s'
 | .cont=>f= .cont/\ bF C {cx with own:=oc} U' env r.2 s'
 | .ret t=> ∃v,f= .ret v/\ bj C.cls (view U' s'.heap) t v
def du (C:Cf ag w)(k:Nat)(cx:Cx)(oc:List Nat)(st:RV)(O':List Nat)(d:SD):Prop:=
 ∀(A:O6) (U:Ow) (env:Env) (σ:ai) (s:On) (r:Fl×ai),aV A k->bF C cx U env σ s->d σ=W8 r->Oz (Ov ag w) A (exec st env) (λf s'=>dk C cx oc O' env U s r f s') (λ_ _=>False) s
def bG (C:Cf ag w)(k:Nat)(cx:Cx)(oc:List Nat)(st:List RV)(O':List Nat)(d:SD):Prop:=
 ∀(A:O6) (U:Ow) (env:Env) (σ:ai) (s:On) (r:Fl×ai),aV A k->bF C cx U env σ s->d σ=W8 r->Oz (Ov ag w) A (VJ st env) (λf s'=>dk C cx oc O' env U s r f s') (λ_ _=>False) s
theorem dk.pre (ok:aY C U s)(ev:Ev C (only env.locals) bM U s Yi XB)(p:dk C cx oc O' env Yi XB r f s'):dk C cx oc O' env U s r f s':=
 p.imp λ_ h=>⟨ev.trans ok h.1 (λ_ h=> .inl h) (λ_ h=> .inl h),h.2⟩
theorem dk.grow0 (g:aH C s XB)(ok:aY C U s)(p:dk C cx oc O' env U XB r f s'):dk C cx oc O' env U s r f s':=p.pre ok g.ev
theorem dk.ofNext (ev:Ev C (only env.locals) bM U s Yi s')(x:bF C {cx with own:=O'} Yi env σ s'):dk C cx oc O' env U s (.next,σ) .next s':=⟨Yi,ev,rfl,x⟩
def af:SD:=λσ=>W8 (.next,σ)
def aa (a b:SD):SD:=λσ=>(a σ).bind λr=>match r.1 with
 | .next=>b r.2
 |_=>W8 r
theorem fm:bG C k cx oc [] cx.own af:=λA U env σ s r rm x e=>by cases e;exact Po (.ofNext .refl x)
def Ay (U:Ow)(L:OO)(O':List Nat):Ow:=λa=> @ite _ (∃i,U a=W8 (L,.own i)/\ i∉O') (UK _) W9 (U a)
theorem BD {L:OO}{i:Nat}{a:OO}(h:U a=W8 (L,.own i))(hi:i∉O'):Ay U L O' a=W9:=if_pos ⟨i,h,hi⟩
theorem jf {L c:OO}{q:Slot}{a:OO}(h:U a=W8 (c,q))(hq:c=L->∀i,q= .own i->i∈O'):Ay U L O' a=W8 (c,q):=
 (if_neg λe=>e.elim λi e=>e.2 (hq (congrArg Ta (Oh (h.symm.trans e.1))) i (congrArg Prod.snd (Oh (h.symm.trans e.1))))).trans h
theorem pI {L c:OO}{q:Slot}{a:OO}(h:Ay U L O' a=W8 (c,q)):U a=W8 (c,q)/\ (c=L->∀i,q= .own i->i∈O'):=
 VA (p:= ∃i,U a=W8 (L,.own i)/\ i∉O') (λhn=>nomatch (if_pos hn).symm.trans h) λhn=>
  have e:=(if_neg hn).symm.trans h
  ⟨e,λhc j hj=>QA λn=>hn ⟨j,by exact ab e (ab hc (ab hj rfl)),n⟩⟩
theorem ml {L:OO}{a:OO}(h:U a=W9):Ay U L O' a=W9:=VA (λhn=>if_pos hn) λhn=>(if_neg hn).trans h
theorem zb {L:OO}{h:O0}:Le (view U h) (view (Ay U L O') h):=λa o e=>ao.mpr ⟨ml (ao.mp e).1,(ao.mp e).2⟩
theorem bF.freeze (x:bF C cx U env σ s)(sub:∀i∈O',i∈cx.own):bF C {cx with own:=O'} (Ay U env.locals O') env σ s/\ ∀ {J:Nat->Prop},Ev C (only env.locals) J U s (Ay U env.locals O') s:=by
 injections s cx env O' U σ _ x sub;have ne:∀ {a:OO} {q:Slot},(∀i,q≠ .own i)->U a=W8 (env.locals,q)->Ay U env.locals O' a=W8 (env.locals,q):=λhq h=>jf h λ_ i e=>absurd e (hq i);have nf:∀ {a:OO},(∀q,U a≠W8 (env.locals,q))->∀q,Ay U env.locals O' a≠W8 (env.locals,q):=λh q e=>h q (pI e).1;have ok:aY C (Ay U env.locals O') s:=⟨x.inv,λa c q h=>x.live a c q (pI h).1,λa ha e=>by obtain⟨⟨c,q⟩,e'⟩:=Option.ne_none_iff_exists'.mp (x.tU a ha);rw[jf e' λhc=>absurd ha (x.base a q (by exact ab e' (ab hc rfl))).1]at e;cases e⟩;refine⟨{x with
  tobA:= {toaY:=ok,toIe:= {x.toIe with},caps:=x.caps,vars:=λy i t hy ht=> ?_}
  hL:=ne (λi e=>by cases e) x.hL
  hc:=λn c h1 h2=>ne (λi e=>by cases e) (x.hc n c h1 h2)
  hf:=λn c h1 h2=>⟨nf (x.hf n c h1 h2).1,(x.hf n c h1 h2).2⟩
  base:=λa q h=>x.base a q (pI h).1
  own:=λy i t hy hi ht=>(by obtain⟨a,h1,h2,h3⟩:=x.own y i t hy (sub i hi) ht;exact⟨a,h1,jf h2 λ_ j e=>by cases e;exact hi,h3⟩)},⟨λb o _ _ e=>e,λb o _ hb=> ?_,λ_ _ _ h=> .inl (pI h).1,rfl,λ_ _ _ e=>e,λ_=>⟨ok,λ_=> .inr⟩⟩⟩
 ·obtain⟨v,h1,h2,h3⟩:=x.vars y i t hy ht
  refine⟨v,h1,λho=> ?_,λho=>(h3 (sub i ho)).mono (Le.refl _) zb⟩;by_cases hi:i∈cx.own
  ·obtain⟨a,p1,p2,p3⟩:=x.own y i t hy hi ht
   obtain rfl:=h1.fun' p1;exact(h3 hi).fresh (BD p2 ho) (λb=>ml) p3
  ·exact bj.mono zb _ _ (h2 hi)
 ·cases e:U b with
  |none=>exact ml e
  |some p=>exact jf e λh=>absurd h (hb p.1 p.2 e)
def b5 (U:Ow)(a:OO)(q:OO×Slot):Ow:=λb=>if b=a then W8 q else U b
theorem aD {a:OO}{q:OO×Slot}:b5 U a q a=W8 q:=if_pos rfl
theorem aO {a b:OO}{q:OO×Slot}(h:b≠a):b5 U a q b=U b:=if_neg h
theorem aY.new (ok:aY C U s){a:OO}(h:s.heap.get? a=W9):a∉C.T/\ U a=W9/\ C.hb.get? a=W9:=by
 have hU:=ok.not h;have hT:a∉C.T:=λhm=>ok.tU a hm hU;refine⟨hT,hU,?_⟩;cases e:C.hb.get? a with
 |none=>rfl
 |some o=>have:=ok.inv.base a o hT e;rw[h]at this;cases this
theorem ff.tabLive (i:ff C s){a:OO}(h:a∈C.T):∃o,s.heap.get? a=W8 o:=by obtain⟨p,hp,rfl⟩:=OM.mp h;obtain⟨ps,_,h2⟩:=i.tab p hp;exact⟨_,h2.2⟩
theorem Ev.new {O:OO->Prop}(g:aH C s XB)(h1:∀b o,s.heap.get? b=W8 o->Yi b=U b)(h3:∀b c q,Yi b=W8 (c,q)->s.heap.get? b=W9->O c/\ (∃o,XB.heap.get? b=W8 o)/\ ∃o,XB.heap.get? c=W8 o):Ev C O J U s Yi XB where
 keep:=λb o hT _ e=>g.up b o hT e
 col:=λb o e _=>h1 b o e
 own:=λb c q h=>by
  cases e:s.heap.get? b with
  |none=>exact .inr (.inl (h3 b c q h e).1)
  |some o=>exact .inl ((h1 b o e).symm.trans h)
 os:=g.os
 gen:=λi x _ e=>g.gen i x e
 go:=λok=>⟨⟨g.inv ok.inv,λb c q h=>by
  cases e:s.heap.get? b with
  |none=>exact(h3 b c q h e).2
  |some o=>exact(ok.grow g).live b c q ((h1 b o e).symm.trans h),λa ha=>(by obtain⟨o,e⟩:=ok.inv.tabLive ha;exact λh=>ok.tU a ha ((h1 a o e).symm.trans h))⟩,λ_ h=> .inr (g.still ok.inv h)⟩
theorem Ev.new1 {d:OO}(g:aH C s XB)(ok:aY C U s)(hn:s.heap.get? d=W9)(hl:∃o,XB.heap.get? d=W8 o):Ev C (only d) J U s (b5 U d (d,.obj)) XB:=
 Ev.new g (λb o e=>aO λh=>by rw[h,hn]at e;cases e) λb c q h e=>by
  by_cases hbd:b=d
  ·rw[hbd,aD]at h;cases h;exact⟨rfl,hbd▸hl,hl⟩
  ·rw[aO hbd]at h;obtain⟨⟨o,e'⟩,_⟩:=ok.live b c q h;rw[e]at e';cases e'
theorem gb {i:Nat}{u:V}(h:aK (aw σ i (W8 t)) i=W8 u):u=t:=by
 rcases gc h with⟨_,e⟩ | ⟨h,_⟩
 ·exact(Oh e).symm
 ·exact absurd rfl h
theorem aU {i:Nat}{q:Option V}(h:j≠i):aK (aw σ i q) j=aK σ j:=by unfold aK aw;rw[S5,if_neg (λe=>h e.symm)]
theorem bF.take {n:Str}{i:Nat}{d:OO}{p:OO×Slot}(x:bF C cx (b5 U d p) env (aw σ i (W8 (.adr d))) s)(hp:p.1≠env.locals)(hU:∀q,U d≠W8 (env.locals,q))(hx:cx.vars.lookup n=W8 i)(ho:i∉cx.own)(hb:C.hb.get? d=W9)(hT:d∉C.T)(hh:Holds env s n (.ref d))(hk:∀c fs,t≠ .inst c fs)
 (hfa:∀y c,y∉cx.mn->env.cells.lookup y=W8 c->c≠d) (r:fe C.cls (b0 C.T s.heap) (view (b5 U d p) s.heap) t (.ref d)):
 bF C {cx with own:=i::cx.own} (b5 U d (env.locals,.own i)) env (aw σ i (W8 t)) s:=by
 injections s t cx env U σ n i d p _ x hp hU hx ho hb hT hh hk hfa r;have eU:∀ {b:OO},b≠d->b5 U d (env.locals,.own i) b=b5 U d p b:=λh=>(aO h).trans (aO h).symm;have ne:∀ {b:OO} {q:Slot},b5 U d p b=W8 (env.locals,q)->b≠d:=λh e=>by rw[e,aD]at h;cases h;exact hp rfl
 have keep:∀ {b:OO} {q:Slot},b5 U d p b=W8 (env.locals,q)->b5 U d (env.locals,.own i) b=W8 (env.locals,q):=λh=>(eU (ne h)).trans h;have le:Le (view (b5 U d p) s.heap) (view (b5 U d (env.locals,.own i)) s.heap):=λb o e=>by obtain⟨h1,h2⟩:=ao.mp e;exact ao.mpr ⟨(eU λh=>by rw[h,aD]at h1;cases h1).trans h1,h2⟩
 have gs:∀ {j u},j≠i->aK (aw σ i (W8 t)) j=W8 u->aK (aw σ i (W8 (.adr d))) j=W8 u:=λhj h=>by rw[aU hj]at h⊢;exact h
 have lL:∃o,s.heap.get? env.locals=W8 o:=(by obtain⟨m,o,_,_,h,_⟩:=x.ns;exact⟨o,h⟩);refine{x with
  tobA:= {toaY:=⟨x.inv,λb c q h=> ?_,λb ZE=> ?_⟩,toIe:= {x.toIe with},caps:=x.caps,vars:=λy j u hy hu=> ?_}
  hL:=keep x.hL
  hc:=λm c h1 h2=>keep (x.hc m c h1 h2)
  hf:=λm c h1 h2=>⟨λq h=>(x.hf m c h1 h2).1 q ((eU (hfa m c h1 h2)).symm.trans h),(x.hf m c h1 h2).2⟩
  base:=λb q h=> ?_
  own:=λy j u hy hj hu=> ?_}
 ·by_cases e:b=d
  ·rw[e,aD]at h;cases h
   exact⟨e▸(x.live d p.1 p.2 aD).1,lL⟩
  ·exact x.live b c q ((eU e).symm.trans h)
 ·refine ab (eU λe=>hT (e▸ZE)) ?_;exact x.tU b ZE
 ·by_cases hj:j=i
  ·rw[hj]at hy hu⊢
   refine ab (x.inj y n _ hy hx) (ab (gb hu) ?_);exact⟨_,hh,λh=>absurd (QG) h,λ_=>r.mono (Le.refl _) le⟩
  ·obtain⟨v,h1,h2,h3⟩:=x.vars y j u hy (gs hj hu)
   exact⟨v,h1,λh=>bj.mono le _ _ (h2 λh'=>h (Pp _ h')),λh=>(h3 ((OG.mp h).resolve_left hj)).mono (Le.refl _) le⟩
 ·by_cases e:b=d
  ·exact(e)▸(⟨hT,hb⟩)
  ·exact x.base b q ((eU e).symm.trans h)
 ·by_cases e:j=i
  ·rw[e]at hy hu⊢
   refine ab (x.inj y n _ hy hx) (ab (gb hu) ?_);exact⟨d,hh,aD,hk⟩
  ·obtain⟨b,q1,q2,q3⟩:=x.own y j u hy ((OG.mp hj).resolve_left e) (gs e hu)
   exact⟨b,q1,keep q2,q3⟩
def iJ (C:Cf ag w)(k:Nat)(cx:Cx)(pe:Ol)(d:ED):Prop:=
 ∀(A:O6) (U:Ow) (env:Env) (σ:ai) (s:On) (t:V),aV A k->bA C cx U env σ s->d σ=W8 t->Oz (Ov ag w) A (PX pe env) (λv s'=>aH C s s'/\ ∃a,v= .ref a/\ s.heap.get? a=W9/\ (∀q,fe C.cls (b0 C.T s'.heap) (view (b5 U a q) s'.heap) t v)/\ (∃o,s'.heap.get? a=W8 o)/\ ∀c fs,t≠ .inst c fs) (λ_ _=>False) s
theorem iJ.e (h:iJ C k cx pe d):aC C k cx pe d:=λA U env σ s t rm x e=>Ot (h A U env σ s t rm x e) (λv s' p=>by obtain⟨g,a,hv,h1,h2,h3,h4⟩:=p;rw[hv]at h2⊢;exact⟨g,(h2 (a,.obj)).fresh (x.toaY.new h1).2.1 (λb hb=>by by_cases e:b=a;exact e▸(x.toaY.new h1).2.1;rwa [aO e]at hb) h4⟩) λ_ _ f=>f
def ak (i:Nat)(e:ED):SD:=λσ=>(e σ).map λt=>(.next,aw σ i (W8 t))
theorem aam {n:Str}{i:Nat}(hx:cx.vars.lookup n=W8 i)(ho:i∉cx.own)(hf:i∉cx.fre)(h:aC C k cx pe d)(hs:∀env,P8 pe (W8 (.Name n p)) pos.line env=pure false:=by intro _;rfl):
 du C k cx oc (.Assign [.Name n p] pe pos) cx.own (ak i d):=λA U env σ s r rm x e=>by
 obtain⟨t,ht,rfl⟩:=O3.mp e;refine Rp (Ot (h A _ env σ s t rm x.tobA ht) (λv XB ⟨g,rv⟩=> ?_) λ_ _ f=>f) (hs env);exact(x.grow g).store hx ho hf rv λXC XG ev _=>dk.grow0 g x.toaY (.ofNext (ev rfl) XG)
theorem bF.keepF {n:Str}{i:Nat}{d:OO}(XD:bF C cx (b5 U d (d,.obj)) env σ XB)(hU:U d=W9)(hdL:d≠env.locals)(hT:d∉C.T)(hb:C.hb.get? d=W9)(hfa:∀y c,y∉cx.mn->env.cells.lookup y=W8 c->c≠d)(hl:∃o,XB.heap.get? d=W8 o)(hx:cx.vars.lookup n=W8 i)(ho:i∉cx.own)(hf:i∉cx.fre)(hk:∀c fs,t≠ .inst c fs)
 (r:fe C.cls (b0 C.T XB.heap) (view (b5 U d (d,.obj)) XB.heap) t (.ref d)) {Q:Unit->On->Prop}
 (q:∀s',Ev C (λc=>c=d \/c=env.locals) bM (b5 U d (d,.obj)) XB (b5 U d (env.locals,.own i)) s'->bF C {cx with own:=i::cx.own} (b5 U d (env.locals,.own i)) env (aw σ i (W8 t)) s'->Q () s'):Oz (Ov ag w) A (TN env n (.ref d)) Q E XB:=by
 injections XB A t cx env E U σ n i d Q _ XD hU hdL hT hb hfa hl hx ho hf hk r q;refine XD.store (t:= .adr d) hx ho hf (rfl) λXC XG ev hh=> ?_;have ev2:Ev C (only env.locals) bM (b5 U d (d,.obj)) XB (b5 U d (d,.obj)) XC:=ev rfl;have dl:∃o,XC.heap.get? d=W8 o:=((ev2.go XD.toaY).2 d hl).resolve_left hdL;have ev3:Ev C (λc=>c=d \/c=env.locals) bM (b5 U d (d,.obj)) XC (b5 U d (env.locals,.own i)) XC:=⟨λ_ _ _ _ e=>e,λb o _ hb=>by
  by_cases e:b=d
  ·rw[e]at hb;exact absurd (.inl rfl) (hb _ _ aD)
  ·exact ab (aO e) (ab (aO e) rfl),λb c q h=>by
  by_cases e:b=d
  ·rw[e,aD]at h;cases h;exact .inr (.inl (.inr rfl))
  ·rw[aO e]at h⊢;exact .inl h,rfl,λ_ _ _ e=>e,λok=>⟨⟨ok.inv,λb c q h=>by
   by_cases e:b=d
   ·rw[e,aD]at h;cases h;exact⟨e▸dl,(XG.live _ _ _ XG.hL).1⟩
   ·rw[aO e]at h;exact XG.live b c q ((aO e).trans h),λb hb=>by have:=XD.tU b hb;have e:b≠d:=λe=>hT ((e)▸hb);rw[aO e]at this⊢;exact this⟩,λ_=> .inr⟩⟩
 refine q XC ((ev2.wide (O':=λc=>c=d \/c=env.locals) λ_=> .inr).trans XD.toaY ev3 (λc h=> .inl h) λ_ h=>h.elim) ?_;have hk2:XC.heap.get? d=XB.heap.get? d:=by obtain⟨o,e⟩:=hl;exact(ev2.keep d o hT (λc q h e'=>by rw[aD]at h;cases h;exact hdL e') e).trans e.symm
 exact XG.take (p:=(d,.obj)) hdL (λq h=>by rw[hU]at h;cases h) hx ho hb hT hh hk hfa (r.at hk (λo e=>av.mpr ⟨(av.mp e).1,hk2.trans (av.mp e).2⟩) (ev2.le XD.tU))
theorem bF.storeF (x:bF C cx U env σ s)(g:aH C s XB){n:Str}{i:Nat}{d:OO}(hn:s.heap.get? d=W9)(hl:∃o,XB.heap.get? d=W8 o)(hx:cx.vars.lookup n=W8 i)(ho:i∉cx.own)(hf:i∉cx.fre)(hk:∀c fs,t≠ .inst c fs)
 (r:fe C.cls (b0 C.T XB.heap) (view (b5 U d (d,.obj)) XB.heap) t (.ref d)) {Q:Unit->On->Prop}
 (q:∀s',dk C cx oc (i::cx.own) env U s (.next,aw σ i (W8 t)) .next s'->Q () s'):Oz (Ov ag w) A (TN env n (.ref d)) Q E XB:=by
 have qq:=x.toaY.new hn;have hT:=qq.1;have hU:=qq.2.1;have hb:=qq.2.2;have hdL:d≠env.locals:=λe=>by obtain⟨o,h⟩:=(x.live _ _ _ x.hL).1;rw[<-e,hn]at h;cases h
 have ev1:Ev C (λc=>c=d \/c=env.locals) bM U s (b5 U d (d,.obj)) XB:=(Ev.new1 g x.toaY hn hl).wide λ_=> .inl;refine(x.more (Ev.new1 (J:=bM) g x.toaY hn hl) λc h=>by refine ab h ?_;exact hn).keepF hU hdL hT hb (λy c h1 h2 e=> ?_) hl hx ho hf hk r λXC ev2 XG=>q XC (.ofNext ((ev1.trans x.toaY ev2 (λc h=> .inl h) λ_ h=>h.elim).narrow x.toaY λc h=>h.elim (λe=> .inl (e▸hn)) .inr) XG);obtain⟨_,v,o,hc,_⟩:=x.hf y c h1 h2;rw[e,hn]at hc;cases hc
end
end
section
section
variable{b:Bool}{n m:Str}{i:Nat}{st:RV}{sd:SD}{r:Fl×ai}
theorem aI {a:α}:(W9:Option α)≠W8 a:=nofun
theorem ay {x:Option α}{f:α->Option β}{r:β}(h:x.bind f=W8 r)(k:∀a,x=W8 a->f a=W8 r->P):P:=by
 cases x with
 |none=>cases h
 |some a=>exact k a rfl h
theorem dF {x:Option α}{f:α->β}{r:β}(h:x.map f=W8 r)(k:∀a,x=W8 a->f a=r->P):P:=by
 cases x with
 |none=>cases h
 |some a=>exact k a rfl (Oh h)
theorem f7 {c:Prop}[Decidable c]{x:Option α}{t:α}(h:(if c then x else W9)=W8 t)(k:c->x=W8 t->P):P:=by
 by_cases hc:c
 ·rw[if_pos hc]at h;exact k hc h
 ·rw[if_neg hc]at h;cases h
theorem nY {f:Int->Option α}{r:α}(h:(match x with | .int a=>f a |_=>W9)=W8 r)(k:∀a,x= .int a->f a=W8 r->P):P:=by
 cases x with
 |int a=>exact k a rfl h
 |_=>exact absurd h aI
theorem uv {f:Int->Int->Option α}{r:α}(h:(match x,y with | .int a,.int b=>f a b |_,_=>W9)=W8 r)(k:∀a b,x= .int a->y= .int b->f a b=W8 r->P):P:=by
 cases x with
 |int a=>
  cases y with
  |int b=>exact k a b rfl rfl h
  |_=>exact absurd h aI
 |_=>exact absurd h aI
theorem cf {c:Sem α}{P R Q:α->On->Prop}(h:Oz (Ov ag w) A c (λv s'=>P v s'/\ R v s') (λ_ _=>False) s)(q:∀v s',P v s'->R v s'->Q v s'):Oz (Ov ag w) A c Q E s:=Ot h (λv s' p=>q v s' p.1 p.2) λ_ _ f=>f.elim
theorem aC.run (h:aC C k cx pe d)(rm:aV A k)(x:bF C cx U env σ s)(e:d σ=W8 t)(q:∀v s',aH C s s'->bF C cx U env σ s'->bj C.cls (view U s'.heap) t v->Q v s'):Oz (Ov ag w) A (PX pe env) Q E s:=
 cf (h A U env σ s t rm x.tobA e) λv s' g=>q v s' g (x.grow g)
theorem aC.runI {j:Int}(h:aC C k cx pe d)(rm:aV A k)(x:bF C cx U env σ s)(e:d σ=W8 (.int j))(q:∀t s',aH C s s'->bF C cx U env σ s'->Q (.int j t) s'):Oz (Ov ag w) A (PX pe env) Q E s:=
 h.run rm x e λv s' g x' r=>by obtain⟨t,h⟩:=cG r;refine ab h ?_;exact q t s' g x'
theorem fi.run {c:ai->Option Bool}(h:fi C k cx pe c)(rm:aV A k)(x:bF C cx U env σ s)(e:c σ=W8 b){Q:Bool->On->Prop}(q:∀s',aH C s s'->bF C cx U env σ s'->Q b s'):Oz (Ov ag w) A (isTrue pe env (PX pe env)) Q E s:=
 cf (h A U env σ s b rm x.tobA e) λv s' g e=>by refine ab e ?_;exact q s' g (x.grow g)
theorem iJ.run (h:iJ C k cx pe d)(rm:aV A k)(x:bF C cx U env σ s)(e:d σ=W8 t)(q:∀a s',aH C s s'->s.heap.get? a=W9->(∀q,fe C.cls (b0 C.T s'.heap) (view (b5 U a q) s'.heap) t (.ref a))->(∃o,s'.heap.get? a=W8 o)->(∀c fs,t≠ .inst c fs)->Q (.ref a) s'):Oz (Ov ag w) A (PX pe env) Q E s:=
 cf (h A U env σ s t rm x.tobA e) λv s' g p=>by obtain⟨a,hv,h1,h2,h3,h4⟩:=p;rw[hv]at h2⊢;exact q a s' g h1 h2 h3 h4
theorem du.run (h:du C k cx oc st O' sd)(rm:aV A k)(x:bF C cx U env σ s)(e:sd σ=W8 r){Q:Wv->On->Prop}(q:∀f s',dk C cx oc O' env U s r f s'->Q f s'):Oz (Ov ag w) A (exec st env) Q E s:=Ot (h A U env σ s r rm x e) q λ_ _ f=>f.elim
theorem bG.run (h:bG C k cx oc sts O' sd)(rm:aV A k)(x:bF C cx U env σ s)(e:sd σ=W8 r){Q:Wv->On->Prop}(q:∀f s',dk C cx oc O' env U s r f s'->Q f s'):Oz (Ov ag w) A (VJ sts env) Q E s:=Ot (h A U env σ s r rm x e) q λ_ _ f=>f.elim
theorem dk.elim {f:Wv}(p:dk C cx oc O' env U s r f s'){P:Fl×ai->Wv->Prop}(next:∀U' σ',Ev C (only env.locals) bM U s U' s'->bF C {cx with own:=O'} U' env σ' s'->r=(.next,σ')->P (.next,σ') .next)
 (cont:∀U' σ',Ev C (only env.locals) bM U s U' s'->bF C {cx with own:=oc} U' env σ' s'->r=(.cont,σ')->P (.cont,σ') .cont) (ret:∀U' σ' t v,Ev C (only env.locals) bM U s U' s'->bj C.cls (view U' s'.heap) t v->r=(.ret t,σ')->P (.ret t,σ') (.ret v)):P r f:=by
 injections s s' cx env oc O' U r f P _ p next cont ret;obtain⟨fl,σ'⟩:=r;obtain⟨U',ev,h⟩:=p;cases fl with
 |next=>refine ab h.1 ?_;exact next U' σ' ev h.2 rfl
 |cont=>refine ab h.1 ?_;exact cont U' σ' ev h.2 rfl
 |ret t=>obtain⟨v,e,rv⟩:=h;refine ab e ?_;exact ret U' σ' t v ev rv rfl
def Aq (A:O6)(rest:List RV)(env:Env)(Q:Wv->On->Prop)(f:Wv)(s:On):Prop:=match f with
 | .next=>Oz (Ov ag w) A (VJ rest env) Q (λ_ _=>False) s
 |f=>Q f s
theorem zB {Q:Wv->On->Prop}(h:Oz (Ov ag w) A (exec st env) (Aq A rest env Q) (λ_ _=>False) s):Oz (Ov ag w) A (VJ (st::rest) env) Q (λ_ _=>False) s:=Pe h
theorem dk.seq {q:Fl×ai}{f:Wv}(h':bG C k {cx with own:=Yo} oc rest O' sd) (rm:aV A k) (ok:aY C U s) (hp:dk C cx oc Yo env U s q f XB) (e:(match q.1 with | .next=>sd q.2 |_=>W8 q)=W8 r):
 Aq A rest env (dk C cx oc O' env U s r) f XB:=
 hp.elim (P:=λq f=>(match q.1 with | .next=>sd q.2 |_=>W8 q)=W8 r->Aq A rest env (dk C cx oc O' env U s r) f XB) (λU' σ' ev x _ e=>h'.run rm x e λf XC p=>dk.pre ok ev p) (λU' σ' ev x _ e=>Oh e▸⟨U',ev,rfl,x⟩) (λU' σ' t v ev rv _ e=>Oh e▸⟨U',ev,v,rfl,rv⟩) e
theorem qP {a b:SD}(h:du C k cx oc st Yo a)(h':bG C k {cx with own:=Yo} oc rest O' b):bG C k cx oc (st::rest) O' (aa a b):=λA U env σ s r rm x e=>ay e λq hq e=>zB (h.run rm x hq λf XB hp=>hp.seq h' rm x.toaY e)
theorem bF.int (x:bF C cx U env σ s)(hx:cx.vars.lookup n=W8 i)(ho:i∉cx.own){a:Int}(e:aK σ i=W8 (.int a))(k:∀t,Holds env s n (.int a t)->P):P:=by obtain⟨_,q1,q2,_⟩:=x.vars n i _ hx e;obtain⟨t,h⟩:=cG (q2 ho);exact k t (h▸q1)
theorem aH.tokS:aH C s {s with toks:=s.toks+1}:= .tok
theorem bF.save (x:bF C cx U env σ XB)(g:aH C s XB)(ok:aY C U s)(hx:cx.vars.lookup n=W8 i)(ho:i∉cx.own)(hf:i∉cx.fre)(r:bj C.cls (view U XB.heap) t v){Q:Unit->On->Prop}(q:∀s',dk C cx oc cx.own env U s (.next,aw σ i (W8 t)) .next s'->Q () s'):Oz (Ov ag w) A (TN env n v) Q E XB:=
 x.store hx ho hf r λs' x' ev _=>q s' (.grow0 g ok (.ofNext (ev rfl) x'))
end
end
section
section
variable{st:RV}{c:ai->Option Bool}{a a' b:SD}{n:Str}{i:Nat}
theorem tG (hx:cx.vars.lookup n=W8 i)(ho:i∉cx.own)(hf:i∉cx.fre)(h:iJ C k cx pe d){r:Fl×ai}(rm:aV A k)(x:bF C cx U env σ s)(e:ak i d σ=W8 r)
 (hs:P8 pe (W8 (.Name n p)) pos.line env=pure false):Oz (Ov ag w) A (exec (.Assign [.Name n p] pe pos) env) (λf s'=>dk C cx oc (i::cx.own) env U s r f s') (λ_ _=>False) s:=
 dF e λt ht er=>er▸Rp (h.run rm x ht λa XB g hn hr hl hk=>x.storeF g hn hl hx ho hf hk (hr _) λ_ h=>h) hs
theorem ke (hx:cx.vars.lookup n=W8 i)(ho:i∉cx.own)(hf:i∉cx.fre)(h:iJ C k cx pe d)(hs:∀env,P8 pe (W8 (.Name n p)) pos.line env=pure false:=by intro _;rfl):du C k cx oc (.Assign [.Name n p] pe pos) (i::cx.own) (ak i d):=λA U env σ s r rm x e=>tG hx ho hf h rm x e (hs env)
theorem nj:bG C k cx oc sts O' λ_=>W9:=λ_ _ _ _ _ _ _ _ e=>by cases e
theorem iV (sub:∀i∈O',i∈cx.own):bG C k cx oc [] O' af:=λA U env σ s r rm x e=>Oh e▸Po (.ofNext (x.freeze sub).2 (x.freeze sub).1)
theorem sw (sub:∀i∈Yo,i∈cx.own)(h:bG C k {cx with own:=Yo} oc sts O' a):bG C k cx oc sts O' a:=λA U env σ s r rm x e=>h.run rm (x.freeze sub).1 e λf s' hp=>dk.pre (cx:=cx) x.toaY (x.freeze sub).2 hp
def aE (c:ai->Option Bool)(a b:SD):SD:=λσ=>(c σ).bind λt=>if t then a σ else b σ
theorem kM (hc:fi C k cx test c)(ha:bG C k cx oc body O' a)(hb:bG C k cx oc Zk O' b):
 du C k cx oc (.If test body Zk pos) O' (aE c a b):=λA U env σ s r rm x e=>
 ay e λt ht e=>V4 (hc.run rm x ht λXB g XD=>by
  cases t
  ·exact hb.run rm XD e λf XC p=>p.grow0 g x.toaY
  ·exact ha.run rm XD e λf XC p=>p.grow0 g x.toaY)
theorem vq (hc:fi C k cx test c)(ha:bG C k cx oc body Yo a)(ha':bG C k {cx with own:=Yo} oc rest O' a') (hb:bG C k cx oc rest O' b):
 bG C k cx oc (.If test body [] pos::rest) O' (aE c (aa a a') b):=λA U env σ s r rm x e=>
 ay e λt ht e=>zB (V4 (hc.run rm x ht λXB g XD=>by
  cases t
  ·exact Po (hb.run rm XD e λf XC p=>p.grow0 g x.toaY)
  ·exact ay e λq hq e=>ha.run rm XD hq λf XC p=>(p.grow0 g x.toaY).seq ha' rm x.toaY e))
def bz (e:ED):SD:=λσ=>(e σ).map λt=>(.ret t,σ)
theorem kK (h:aC C k cx pe d):du C k cx oc (.Return (W8 pe) pos) O' (bz d):=λA U env σ s r rm x e=>dF e λt ht er=>wpAny_Return_some (h.run rm x ht λv XB g _ rv=>er▸⟨U,g.ev,v,rfl,rv⟩)
def iq:SD:=λσ=>W8 (.cont,σ)
theorem qO (sub:∀i∈oc,i∈cx.own):du C k cx oc (.Continue pos) O' iq:=λA U env σ s r rm x e=>Oh e▸wpAny_Continue ⟨_,(x.freeze sub).2,rfl,(x.freeze sub).1⟩
end
end
section
section
variable{b:Bool}{it:Ol}
theorem aq.cons_inv {g:a0}(h:aq K g (t::ts) vs):∃v vs',vs=v::vs'/\ bj K g t v/\ aq K g ts vs':=h
theorem aq.nil_inv {g:a0}(h:aq K g [] vs):vs= []:=h
def IJ (b:Bool)(K:br)(U:Ow)(h:O0)(x:V)(v:Oq):Prop:=if b then(∃xs,x= .tup xs)/\ fe K h.get? (view U h) x v else bj K (view U h) x v
theorem IJ.tup {h:O0}(x:IJ b K U h (.tup xs) v):∃a vs,v= .ref a/\ bw "tuple" h.get? a vs/\ aq K (view U h) xs vs:=by
 cases b
 ·exact bj.top dw x
 ·exact x.2
noncomputable abbrev cK:=OO->Prop
inductive II (C:Cf ag w) (b:Bool) (W:cK) (J:Nat->Prop) (St:cK->Ow->List V->On->Prop) (U:Ow) (s:On) (x:V) (xs:List V) (v:Oq) (XC:On):Prop
 |mk (W':cK) (U':Ow) (hW:∀c,W' c->W c \/s.heap.get? c=W9) (ev:Ev C W J U s U' XC) (st:St W' U' xs XC) (itm:IJ b C.cls U' XC.heap x v)
structure It (C:Cf ag w) (k:Nat) (A:O6) (b:Bool) (target:Ol) (it:Oq) (F:cK) (J:Nat->Prop) (St:cK->Ow->List V->On->Prop):Prop where
 self:∀ {W U xs s} {Q:Oq->On->Prop} {E:Oq->On->Prop},A.handled=W9->St W U xs s->Q it s->Oz (Ov ag w) A (Ti it) Q E s
 keep:∀ {W U xs s O U' s'},St W U xs s->aY C U s->Ev C O bM U s U' s'->(∀c,O c->¬W c/\ ¬F c)->St W U' xs s'
 next:∀ {W U x xs s},aV A k->St W U (x::xs) s->aY C U s->Oz (Ov ag w) A (Sk it) (λr XB=> ∃v,r=W8 v/\ Oz (Ov ag w) A (QB target it v) (λ_ XC=>II C b W J St U s x xs v XC) (λ_ _=>False) XB) (λ_ _=>False) s
 done:∀ {W U s},aV A k->St W U [] s->aY C U s->Oz (Ov ag w) A (Sk it) (λr XB=>r=W9/\ ∃U',Ev C W J U s U' XB) (λ_ _=>False) s
 gens:∀ {W U xs s s'},St W U xs s->s'.heap=s.heap->s'.os=s.os->(RR s.gens->RR s'.gens)->(∀i,J i->s'.gens[i]?=s.gens[i]?)->St W U xs s'
theorem It.step {it:Oq}{F:cK}{St:cK->Ow->List V->On->Prop}(I:It C k A b target it F J St){W:cK}(rm:aV A k)(h:St W U (x::xs) s)(ok:aY C U s){Q:Option Oq->On->Prop}(q:∀v XB,Oz (Ov ag w) A (QB target it v) (λ_ XC=>II C b W J St U s x xs v XC) (λ_ _=>False) XB->Q (W8 v) XB):Oz (Ov ag w) A (Sk it) Q E s:=
 Ot (I.next rm h ok) (λr XB p=>by obtain⟨v,e,h⟩:=p;refine ab e ?_;exact q v XB h) λ_ _ f=>f.elim
theorem It.stop {it:Oq}{F:cK}{St:cK->Ow->List V->On->Prop}(I:It C k A b target it F J St){W:cK}(rm:aV A k)(h:St W U [] s)(ok:aY C U s){Q:Option Oq->On->Prop}(q:∀XB U',Ev C W J U s U' XB->Q W9 XB):Oz (Ov ag w) A (Sk it) Q E s:=
 Ot (I.done rm h ok) (λr XB p=>by obtain⟨e,U',h⟩:=p;refine ab e ?_;exact q XB U' h) λ_ _ f=>f.elim
inductive iL (C:Cf ag w) (k:Nat) (b:Bool) (target:Ol) (F:cK) (J:Nat->Prop) (R:List V->Prop) (W:cK) (U:Ow) (s:On) (it:Oq) (XC:On):Prop
 |mk (W':cK) (U':Ow) (St:O6->cK->Ow->List V->On->Prop) (ys:List V) (hR:R ys) (I:∀A,aV A k->It C k A b target it F J (St A)) (st:∀A,aV A k->St A W' U' ys XC) (ev:Ev C W J U s U' XC) (hW:∀c,W' c->W c \/s.heap.get? c=W9) (lv:∀c,W' c->∃o,XC.heap.get? c=W8 o) (gv:∀j,J j->∃x,XC.gens[j]?=W8 x)
structure FU (C:Cf ag w) (k:Nat) (b:Bool) (target:Ol) (v:Oq) (F:cK) (J:Nat->Prop) (R:List V->Prop) (Pr:cK->Ow->On->Prop):Prop where
 keep:∀ {W U s O U' s'},Pr W U s->aY C U s->Ev C O bM U s U' s'->(∀c,O c->¬W c/\ ¬F c)->Pr W U' s'
 iter:∀ {A W U s},aV A k->Pr W U s->aY C U s->(∀c,W c->∃o,s.heap.get? c=W8 o)->Oz (Ov ag w) A (Ti v) (λit XC=>iL C k b target F J R W U s it XC) (λ_ _=>False) s
inductive r6 (C:Cf ag w) (k:Nat) (b:Bool) (target:Ol) (F:cK) (R:List V->Prop) (U:Ow) (s:On) (v:Oq) (XB:On):Prop
 |mk (W:cK) (XX:Ow) (J:Nat->Prop) (Pr:cK->Ow->On->Prop) (S:FU C k b target v F J R Pr) (pr:Pr W XX XB) (ev:Ev C (λ_=>False) bM U s XX XB) (hW:∀c,W c->s.heap.get? c=W9) (lv:∀c,W c->∃o,XB.heap.get? c=W8 o) (hJ:∀j,J j->s.gens[j]?=W9)
def dP (C:Cf ag w)(k:Nat)(cx:Cx)(b p:Bool)(target pe:Ol)(d:ai->Option (List V))(R:List V->List V->Prop):Prop:=
 ∀(A:O6) (U:Ow) (env:Env) (σ:ai) (s:On) (xs:List V),aV A k->bA C cx U env σ s->d σ=W8 xs->Oz (Ov ag w) A (PX pe env) (λv XB=>r6 C k b target (λc=>p=true/\ ∃o,s.heap.get? c=W8 o) (R xs) U s v XB) (λ_ _=>False) s
def d9 (C:Cf ag w)(k:Nat)(cx:Cx)(b:Bool)(target:Ol)(st:V->ai->Option ai):Prop:=
 ∀(A:O6) (U:Ow) (env:Env) (σ σ':ai) (s:On) (x:V) (v:Oq),aV A k->bF C cx U env σ s->st x σ=W8 σ'->IJ b C.cls U s.heap x v->Oz (Ov ag w) A (WM target env v) (λ_ s'=>bF C cx U env σ' s'/\ Ev C (only env.locals) bM U s U s') (λ_ _=>False) s
def cH (i:Nat):V->ai->Option ai:=λx σ=>W8 (aw σ i (W8 x))
theorem dZ {n:Str}{i:Nat}(hx:cx.vars.lookup n=W8 i)(ho:i∉cx.own)(hf:i∉cx.fre):d9 C k cx false (.Name n p) (cH i):=λA U env σ σ' s x v rm h e hi=>Oh e▸Rn (h.store hx ho hf hi λs' x' ev _=>⟨x',ev rfl⟩)
def eH (i j:Nat):V->ai->Option ai:=λx σ=>match x with
 | .tup [a,b]=>W8 (aw (aw σ i (W8 a)) j (W8 b))
 |_=>W9
theorem AM {i:Nat}(e:eH i j x σ=W8 σ')(k:∀a b,x= .tup [a,b]->aw (aw σ i (W8 a)) j (W8 b)=σ'->P):P:=by
 cases x with
 |tup xs=>
  cases xs with
  |nil=>exact absurd e aI
  |cons a xs=>
   cases xs with
   |nil=>exact absurd e aI
   |cons b xs=>
    cases xs with
    |nil=>exact k _ _ rfl (Oh e)
    |cons=>exact absurd e aI
 |_=>exact absurd e aI
theorem oR {n m:Str}{tp:Pos}{i:Nat}(hx:cx.vars.lookup n=W8 i)(ho:i∉cx.own)(hf:i∉cx.fre)(hy:cx.vars.lookup m=W8 j)(Yw:j∉cx.own)(Zv:j∉cx.fre):
 d9 C k cx b (.Tuple [.Name n p,.Name m q] ct tp) (eH i j):=λA U env σ σ' s x v rm h e hi=>by
 injections k j ct p q cx b n m tp i A U env σ σ' s x v _ hx ho hf hy Yw Zv rm h e hi;refine AM e λa c T' e=> ?_;simp only[T']at hi;refine(e)▸ ?_;obtain⟨ta,vs,hv,hs,hr⟩:=hi.tup;refine(hv)▸ ?_;obtain⟨u,r,Zl,ru,hr⟩:=hr.cons_inv;obtain⟨u',r',Y',ru',hr⟩:=hr.cons_inv;simp only[Zl,Y',hr.nil_inv]at hs;refine assign_Tuple_tuple (items:= #[u,u']) rm.handled hs.tup' rfl rfl λh' hk=> ?_;have g:aH C s {s with heap:=h'}:=aH.heap (s:=s) (h':=h') (tk:=s.toks) λb o e=>hk b o (λhb=>by have:=Pl e;rw[hb]at this;exact absurd this (T7 _)) e;have XD:=h.grow g;have le:=g.le h.tU;refine Og (ON (Rn (XD.store hx ho hf (bj.mono le _ _ ru) λXC XG XH _=> ?_)));have XH:Ev C (only env.locals) bM U _ U XC:=XH rfl;refine Og (ON (Rn (XG.store hy Yw Zv (bj.mono (le.trans (XH.le h.tU)) _ _ ru') λXJ Yp XR _=> ?_)));have XR:Ev C (only env.locals) bM U _ U XJ:=XR rfl;exact Oi ⟨Yp,(g.ev.trans h.toaY XH (λ_ h=> .inl h) λ_ h=> .inl h).trans h.toaY XR (λ_ h=> .inl h) λ_ h=> .inl h⟩
def aQ (st:V->ai->Option ai)(b:SD):List V->SD
 | [],σ=>W8 (.next,σ)
 |x::xs,σ=>(st x σ).bind λXK=>(b XK).bind λr=>match r.1 with
  | .ret _=>W8 r
  |_=>aQ st b xs r.2
def bR (d:ai->Option (List V))(st:V->ai->Option ai)(b:SD):SD:=λσ=>(d σ).bind λxs=>aQ st b xs σ
structure Ag (C:Cf ag w) (cx:Cx) (D:cK) (U:Ow) (env:Env) (s:On):Prop where
 nL:¬D env.locals
 free:∀n c,n∉cx.mn->env.cells.lookup n=W8 c->∀c' q,U c=W8 (c',q)->¬D c'
 dead:∀c,s.heap.get? c=W9->D c
theorem bF.far (x:bF C cx U env σ s):Ag C cx (λc=>s.heap.get? c=W9) U env s where
 nL:=λh=>by obtain⟨_,o,e⟩:=x.live _ _ _ x.hL;rw[h]at e;cases e
 free:=λn c _ _ c' q h e=>by obtain⟨_,o,e'⟩:=x.live _ _ _ h;rw[e]at e';cases e'
 dead:=λ_ h=>h
structure LI (C:Cf ag w) (cx:Cx) (env:Env) (D:cK) (J:Nat->Prop) (U:Ow) (s:On) (W:cK) (σ':ai) (U':Ow) (s':On):Prop where
 x:bF C cx U' env σ' s'
 ev:Ev C (λc=>c=env.locals \/D c) J U s U' s'
 hW:∀c,W c->D c
theorem LI.turn {D W W':cK}(x:bF C cx U env σ s)(F:Ag C cx D U env s)(L:LI C cx env D J U s W σ' U' s')(ev:Ev C W J U' s' XE XC)(hW:∀c,W' c->W c \/s'.heap.get? c=W9):LI C cx env D J U s W' σ' XE XC where
 x:=L.x.other ev (λh=>F.nL (L.hW _ h)) (λn c h1 h2 c' q h3 h4=>by obtain⟨h5,v,o,h6,_⟩:=x.hf n c h1 h2;have nD:=F.free n c h1 h2;exact nD c' q ((L.ev.col c o h6 λc' q e h=>h.elim (λe'=>h5 q (e'▸e)) (nD c' q e)).symm.trans h3) (L.hW _ h4))
 ev:=L.ev.trans x.toaY ev (λc h=> .inl (.inr (L.hW c h))) λ_ h=> .inl h
 hW:=λc h=>(hW c h).elim (L.hW c) λh=>(b7 (L.ev.go x.toaY).2 h).elim (λh'=>h'.elim (λe=>by obtain⟨o,e'⟩:=(L.x.live _ _ _ L.x.hL).1;rw[<-e,h]at e';cases e') id) (F.dead c)
theorem LI.step {D W:cK}(x:bF C cx U env σ s)(L:LI C cx env D J U s W σ' U' s')(ev:Ev C (only env.locals) bM U' s' XE XC)(XG:bF C cx XE env σ₂ XC):LI C cx env D J U s W σ₂ XE XC:=
 ⟨XG,L.ev.trans x.toaY ev (λc h=> .inl (.inl h)) λ_ h=>h.elim,L.hW⟩
theorem LI.no {D W F':cK}(F:Ag C cx D U env s)(hF:¬F' env.locals)(L:LI C cx env D J U s W σ' U' s'):∀c,c=env.locals->¬W c/\ ¬F' c:=λ_ e=>⟨λh=>F.nL (L.hW _ (e▸h)),e▸hF⟩
def k7 (C:Cf ag w)(cx:Cx)(D:cK)(J:Nat->Prop)(U:Ow)(env:Env)(s:On)(r:Fl×ai)(f:Wv)(s':On):Prop:=
 ∃U',Ev C (λc=>c=env.locals \/D c) J U s U' s'/\ match r.1 with
 | .ret t=> ∃v,f= .ret v/\ bj C.cls (view U' s'.heap) t v
 |_=>r.1= .next/\ f= .next/\ bF C cx U' env r.2 s'
theorem LI.out {D W:cK}(ok:aY C U s)(L:LI C cx env D J U s W σ' U' s')(ev:Ev C (only env.locals) bM U' s' XE XC)(rv:bj C.cls (view XE XC.heap) t v):k7 C cx D J U env s (.ret t,σ₂) (.ret v) XC:=
 ⟨XE,L.ev.trans ok ev (λc h=> .inl (.inl h)) λ_ h=>h.elim,v,rfl,rv⟩
inductive FI (C:Cf ag w) (cx:Cx) (env:Env) (D:cK) (J:Nat->Prop) (U:Ow) (s:On) (St:cK->Ow->List V->On->Prop) (lp:List V->ai->Prop) (n:Nat) (s':On):Prop
 |mk (rem:List V) (σ':ai) (W:cK) (U':Ow) (hn:n=rem.length) (L:LI C cx env D J U s W σ' U' s') (st:St W U' rem s') (el:lp rem σ')
theorem jg (ht:d9 C k cx b target st)(hb:bG C k cx cx.own body cx.own bd)
 {it:Oq} {D W F':cK} {St:cK->Ow->List V->On->Prop} {r:Fl×ai} (rm:aV A k) (I:It C k A b target it F' J St) (x:bF C cx U env σ s) (F:Ag C cx D U env s) (hF:¬F' env.locals) (L:LI C cx env D J U s W σ U' s') (YT:St W U' xs s') (e:aQ st bd xs σ=W8 r):
 Ra (Ov ag w) A (.forLoop target it body [] env) (λr' s'=> ∃f,r'= .ok f/\ k7 C cx D J U env s r f s') s':=by
 injections k s s' A cx env xs target J body U U' σ st bd b it D W F' St r _ ht hb rm I x F hF L YT e;refine codeAny_forLoop_any (FI C cx env D J U s St λrem σ'=>aQ st bd rem σ'=W8 r) (λn XJ h=> ?_) xs.length ⟨xs,σ,W,U',rfl,L,YT,e⟩;obtain⟨rem,σ',W',U',hn,L,YT,el⟩:=h;refine(hn)▸ ?_;cases rem with
 |nil=>refine I.stop rm YT L.x.toaY λYm U₄ X1=> ?_;have M':=L.turn x F X1 λ_=> .inl;exact Po ⟨_,rfl,U₄,M'.ev,Oh el▸⟨rfl,rfl,M'.x⟩⟩
 |cons y rem=>
  refine ay el λXK h1 el=>ay el λq h2 el=>I.step rm YT L.x.toaY λv Ym h=>Ot h (λ_ X9 nx=> ?_) λ_ _ f=>f.elim;obtain⟨W₅,Yg,ZF,X0,st₅,itm⟩:=nx;have ZV:=L.turn x F X0 ZF;refine cf (ht A Yg env σ' XK X9 y v rm ZV.x h1 itm) λ_ Zi YX Yr=> ?_;have ZU:=ZV.step x Yr YX;have st₆:=I.keep st₅ ZV.x.toaY Yr (ZV.no F hF);refine hb.run rm YX h2 λf s₇ p=> ?_;have nxt:∀(σ₂:ai) (Y3:Ow),Ev C (only env.locals) bM Yg Zi Y3 s₇->bF C cx Y3 env σ₂ s₇->aQ st bd rem σ₂=W8 r->∃m,m<(y::rem).length/\ FI C cx env D J U s St (λrem σ'=>aQ st bd rem σ'=W8 r) m s₇:=
   λσ₂ Y3 Yx Zx el=>⟨rem.length,PZ _,rem,σ₂,W₅,Y3,rfl,ZU.step x Yx Zx,I.keep st₆ YX.toaY Yx (ZU.no F hF),el⟩
  revert el;apply p.elim
  ·exact λY3 σ₂ Yx Zx _ el=>nxt σ₂ Y3 Yx Zx el
  ·exact λY3 σ₂ Yx Zx _ el=>nxt σ₂ Y3 Yx Zx el
  ·exact λY3 σ₂ t v Yx rv _ el=>⟨_,rfl,Oh el▸ZU.out x.toaY Yx rv⟩
end
end
variable {W O F W' Dn F' Fo : cK} {St : cK → Ow → List V → On → Prop}
section
section
variable{b:Bool}{n m:Str}{i:Nat}
theorem Ev.strict {O':cK}(x:Ev C O J U s U' s')(ok:aY C U s)(h:∀c,O c->s.heap.get? c=W9 \/O' c)(hJ:∀j,J j->s.gens[j]?=W9):Ev C O' bM U s U' s':=
 {x.narrow ok h with gen:=λi z _ e=>x.gen i z (λhj=>by rw[hJ i hj]at e;cases e) e}
theorem Ev.weak {O':cK}(x:Ev C (λ_=>False) bM U s U' s'):Ev C O' J U s U' s':= {x.wide λ_ h=>h.elim with gen:=λi z _=>x.gen i z id}
theorem k7.post {D:cK}{r:Fl×ai}{f:Wv}(p:k7 C cx D J U env s r f s')(ok:aY C U s)(hD:∀c,D c->s.heap.get? c=W9)(hJ:∀j,J j->s.gens[j]?=W9):dk C cx oc cx.own env U s r f s':=by
 injections s s' cx env J oc U D r f _ p ok hD hJ;obtain⟨XX,ev,h⟩:=p;refine⟨XX,ev.strict ok (λc h=>h.elim .inr λh=> .inl (hD c h)) hJ,?_⟩;obtain⟨fl,XK⟩:=r;cases fl with
 |next=>exact h.2
 |cont=>cases h.1
 |ret t=>exact h
theorem r6.start (x:bF C cx U env σ s)(g:r6 C k b target F R U s v XB)(q:∀W XX J Pr,FU C k b target v F J R Pr->Pr W XX XB->LI C cx env (λc=>s.heap.get? c=W9) J U s W σ XX XB->(∀c,W c->∃o,XB.heap.get? c=W8 o)->(∀j,J j->s.gens[j]?=W9)->P):P:=by obtain⟨W,XX,J,Pr,S,hP,ev,hW,lv,hJ⟩:=g;exact q W XX J Pr S hP ⟨x.more ev (λ_ h=>h.elim),ev.weak,hW⟩ lv hJ
theorem oZ {d:ai->Option (List V)}
 (hi:dP C k cx b false target iter d Eq) (ht:d9 C k cx b target st) (hb:bG C k cx cx.own body cx.own bd) (hs:∀env x,OU iter env x=pure x:=by intro _ _;rfl):
 du C k cx oc (.For target iter body [] pos) cx.own (bR d st bd):=λA U env σ s r rm x e=>
 ay e λxs hxs e=>Vl (Ot (hi A U env σ s xs rm x.tobA hxs) (λv XB h=>h.start x λW XX J Pr S hP ZI lv hJ=>Ot (S.iter rm hP ZI.x.toaY lv) (λit XC m=>by obtain⟨W',U',St,ys,hy,I,YT,XH,Zf,_,_⟩:=m;exact Pb (jg ht hb rm (I A rm) x x.far (λh=>Qq h.1) (ZI.turn x x.far XH Zf) (YT A rm) (hy▸e)) λr' s' p=>by obtain⟨f,hf,p⟩:=p;refine ab hf ?_;exact p.post x.toaY (λ_ h=>h) hJ) λ_ _ f=>f.elim) λ_ _ f=>f.elim) (hs env)
def bB (c:ai->Option Bool)(b:SD):Nat->SD
 |0,_=>W9
 |n+1,σ=>(c σ).bind λt=>if t then(b σ).bind λr=>(match r.1 with
  | .ret _=>W8 r
  |_=>bB c b n r.2)else W8 (.next,σ)
inductive WI (C:Cf ag w) (cx:Cx) (env:Env) (U:Ow) (s:On) (lp:ai->Prop) (s':On):Prop
 |mk (σ':ai) (U':Ow) (x:bF C cx U' env σ' s') (ev:Ev C (only env.locals) bM U s U' s') (el:lp σ')
theorem vj (n:Nat){c:ai->Option Bool}(hc:fi C k cx test c)(hb:bG C k cx cx.own body cx.own bd):
 du C k cx oc (.While test body [] pos) cx.own (bB c bd n):=λA U env σ s r rm x e=>by
 injections k pos cx test oc body bd n c A U env σ s r _ hc hb rm x e;refine wpAny_While (codeAny_whileLoop (λm=>WI C cx env U s λσ'=>bB c bd m σ'=W8 r) (λm XJ h=> ?_) n ⟨σ,U,x,.refl,e⟩);obtain⟨σ',U',Yp,ev,el⟩:=h;cases m with
 |zero=>cases el
 |succ m=>
  refine ay el λt ht el=>hc.run rm Yp ht λYm g Yd=> ?_;have X1:Ev C (only env.locals) bM U s U' Ym:=ev.trans x.toaY (O':=only env.locals) g.ev (λ_=> .inl) λ_=> .inl;cases t with
  |false=>exact Po (Oh el▸ .ofNext X1 Yd)
  |true=>
   refine ay el λq hq el=>hb.run rm Yd hq λf X9 p=> ?_;have nxt:∀(σ₂:ai) (Yg:Ow),Ev C (only env.locals) bM U' Ym Yg X9->bF C cx Yg env σ₂ X9->bB c bd m σ₂=W8 r->∃m',m'<m+1/\ WI C cx env U s (λσ'=>bB c bd m' σ'=W8 r) X9:=
    λσ₂ Yg X0 YY el=>⟨m,PZ _,σ₂,Yg,YY,X1.trans x.toaY X0 (λ_=> .inl) λ_=> .inl,el⟩
   revert el;apply p.elim
   ·exact λYg σ₂ X0 YY _ el=>nxt σ₂ Yg X0 YY el
   ·exact λYg σ₂ X0 YY _ el=>nxt σ₂ Yg X0 YY el
   ·exact λYg σ₂ t v X0 rv _ el=>Oh el▸dk.pre x.toaY X1 ⟨Yg,X0,v,rfl,rv⟩
theorem qY {l:OO}{i:Int}{t:Tok}{Q:Unit->On->Prop}(hl:bw "list" s.heap.get? l vs)
 (h0:0<=i) (Yb:i<2^63) (hn:i<vs.length) (hQ:∀h',bw "list" h'.get? l (vs.set i.toNat v)->OE l s.heap h'->Q () {s with heap:=h'}):
 Oz (Ov ag w) A (UV (.ref l) (.int i t) v) Q E s:=by
 injections s A v E vs l i t Q _ hl h0 Yb hn hQ;have hL:=hl.list';obtain⟨n,ho⟩:=hl;unfold UV
 try with_reducible refine ON ?_
 first |refine Og (Oi ?_) |skip
 refine Og (wpAny_sequenceKey hL.typeIs (by decide) ?_);refine Og (PN (name:=QV "__setitem__") hL.typeIs slot_list_setitem (O9 slot_list_setitem hL.typeIs entry_list_setitem ?_ (args_list_setitem _ _ _)));show Oz _ _ (OT.List.listSubscript? (.int i t)>>=_) _ _ s;refine Og (wpAny_listSubscript_int (fitsIndex_of h0 Yb) ?_);obtain⟨j,rfl⟩:=Q1 h0;have hj:j<vs.toArray.size:=by rw[OI];exact PS.mp hn
 refine Og (Og (wpAny_seqItemAt ho rfl (Oi ?_)));refine(show vs.toArray[j]?=W8 vs.toArray[j]from PU hj)▸ ?_;have e1:PG (·.setIfInBounds j v) {cls:= .type "list",dict:=W9,data:= .seq vs.toArray n,slots:= #[]}= {cls:= .type "list",dict:=W9,data:= .seq (vs.set j v).toArray n,slots:= #[]}:=by simp[PG]
 have fin:bw "list" (s.heap.update l (PG (·.setIfInBounds j v))).get? l (vs.set j v):=⟨n,by rw[Pm _ ho (by refine ab e1 ?_;rfl),e1]⟩;refine Og (wpAny_setSeqItemAt ho rfl ?_)
 first
  |exact Og (Oi (Oi ⟨.none,rfl,Oi (hQ _ fin (Ph ..))⟩))
  |exact Oi ⟨.none,rfl,Oi (hQ _ fin (Ph ..))⟩
structure At (C:Cf ag w) (cx:Cx) (U:Ow) (env:Env) (s:On) (n:Str) (i:Nat) (t:V) (a:OO):Prop where
 h:Holds env s n (.ref a)
 u:U a=W8 (env.locals,.own i)
 top:fe C.cls (b0 C.T s.heap) (view U s.heap) t (.ref a)
theorem bF.at (x:bF C cx U env σ s)(hx:cx.vars.lookup n=W8 i)(ho:i∈cx.own)(e:aK σ i=W8 t):∃a,At C cx U env s n i t a:=by obtain⟨v,h1,_,h3⟩:=x.vars n i t hx e;obtain⟨a,p1,p2,_⟩:=x.own n i t hx ho e;exact⟨a,p1,p2,h1.fun' p1▸h3 ho⟩
theorem At.grow (h:At C cx U env s n i t a)(x:bA C cx U env σ s)(g:aH C s s'):At C cx U env s' n i t a:=⟨h.h.grow g x.frame.1 x.frame.2,h.u,h.top.mono g.leT (g.le x.tU)⟩
theorem At.name (h:At C cx U env s n i t a)(x:bA C cx U env σ s)(hx:cx.vars.lookup n=W8 i)(q:Q (.ref a) s):Oz (Ov ag w) A (PX (.Name n p) env) Q E s:=Ro (gL x hx h.h q) (x.plain n i hx).1
theorem At.turn {t':V}(h:At C cx U env XB n i t a)(XD:bF C cx U env σ XB)(g:aH C s XB)(ok:aY C U s)(hx:cx.vars.lookup n=W8 i)(ho:i∈cx.own)(hs:OE a XB.heap h')(hl:∃o,h'.get? a=W8 o)
 (r:fe C.cls (b0 C.T h') (view U XB.heap) t' (.ref a)) (hk:∀c fs,t'≠ .inst c fs):dk C cx oc cx.own env U s (.next,aw σ i (W8 t')) .next {XB with heap:=h',toks:=tk}:=
 let ⟨XG,ev⟩:=XD.turn (tk:=tk) hx h.h h.u hs hl r hk ho
 .grow0 g ok (.ofNext (ev rfl) XG)
theorem g7 (h:env.scope.kind= .function):Vq env=false:=by unfold Vq;refine ab h ?_;rfl
theorem g6 {t₀:V}{R:Oq->On->Prop}{T id:String}{Q:Wv->On->Prop}
 (pa:PlainAttrs T) (slot:Wg T m id) (ty:typeOf (.builtin id)=pure (.type "method_descriptor")) (x:bF C cx U env σ s) (hx:cx.vars.lookup n=W8 i) (h:At C cx U env s n i t₀ a)
 (hT:∃ob:Obj,s.heap.get? a=W8 ob/\ ob.cls= .type T/\ ob.dict=W9) (he:Oz (Ov ag w) A (PX pe env) R (λ_ _=>False) s)
 (q:∀v XB,R v XB->Oz (Ov ag w) A (call (.builtin id) [.ref a,v]) (λ_ XC=>Q .next XC) (λ_ _=>False) XB)
 (hb:Pq (.Name n p) m env (PX (.Name n p) env)=PX (.Name n p) env) (hs:OC [pe] env= [(false,PX pe env)]) (hl:(ap.endLine==cp.line)=true) (hw:P8 (.Call (.Attribute (.Name n p) m ap) [pe] [] cp) W9 sp.line env=pure false):
 Oz (Ov ag w) A (exec (.Expr (.Call (.Attribute (.Name n p) m ap) [pe] [] cp) sp) env) Q (λ_ _=>False) s:=by
 obtain⟨ob,h1,h2,h3⟩:=hT;exact Ue (U9 hb hs hl (h.name x.tobA hx ⟨T,id,pa,slot,ty,⟨ob,h1,h2⟩,λa ha=>by cases ha;exact⟨ob,h1,h3⟩,RY rfl (Sm (SP (Ot he (λv XB r=>S3 (q v XB r)) λ_ _ f=>f)))⟩)) (g7 x.kind) hw
theorem iT {g:a0}(h:fe K X3 g (.list xs) (.ref a)):∃vs m,X3 a=W8 {cls:= .type "list",dict:=W9,data:= .seq vs.toArray m,slots:= #[]}/\ aq K g xs vs:=by injections a K xs X3 g _ h;obtain⟨b,vs,e,⟨m,h1⟩,h2⟩:=h;cases e;exact⟨vs,m,h1,h2⟩
theorem w6 {g:a0}{xs:List Int}(h:fe K X3 g (.set xs) (.ref a)):ed K.led X3 a xs:=by obtain⟨b,e,h0⟩:=h;cases e;exact h0
theorem bF.atE (x:bF C cx U env σ s)(hx:cx.vars.lookup n=W8 i)(ho:i∈cx.own)(e:aK σ i=W8 t)(k:∀a,At C cx U env s n i t a->P):P:=by obtain⟨a,h⟩:=x.at hx ho e;exact k a h
def lI (i:Nat)(f:ai->List V->Option (List V)):SD:=λσ=>(aK σ i).bind λl=>match l with
 | .list xs=>(f σ xs).map λys=>(.next,aw σ i (W8 (.list ys)))
 |_=>W9
theorem G5 {f:List V->Option (List V)}{l:V}{g:List V->Fl×ai}{r:Fl×ai}(h:(match l with | .list xs=>(f xs).map λys=>g ys |_=>W9)=W8 r)(k:∀xs ys,l= .list xs->f xs=W8 ys->g ys=r->P):P:=by
 cases l with
 |list a=>exact dF h λys p q=>k a ys rfl p q
 |_=>exact absurd h aI
theorem kP {f:ai->List V->Option (List V)}{r:Fl×ai}(h:lI i f σ=W8 r)(k:∀xs ys,aK σ i=W8 (.list xs)->f σ xs=W8 ys->(Fl.next,aw σ i (W8 (.list ys)))=r->P):P:=
 ay h λl hl h=>G5 h λxs ys e a b=>k xs ys (e▸hl) a b
def pR (i:Nat)(e:ED):SD:=lI i λσ xs=>(e σ).bind λt=>if xs.length<lim then W8 (xs++ [t])else W9
theorem sH (hx:cx.vars.lookup n=W8 i)(ho:i∈cx.own)(h:aC C k cx pe d)
 (hb:∀env,Pq (.Name n p) "append" env (PX (.Name n p) env)=PX (.Name n p) env:=by intro _;rfl) (hs:∀env,OC [pe] env= [(false,PX pe env)]:=by intro _;rfl) (hl:(ap.endLine==cp.line)=true:=by rfl)
 (hw:∀env,P8 (.Call (.Attribute (.Name n p) "append" ap) [pe] [] cp) W9 sp.line env=pure false:=by intro _;rfl):
 du C k cx oc (.Expr (.Call (.Attribute (.Name n p) "append" ap) [pe] [] cp) sp) cx.own (pR i d):=λA U env σ s r rm x e=>
 kP e λxs ys h0 e hr=>ay e λt ht e=>f7 e λhlen e=>x.atE hx ho h0 λa at'=>by obtain⟨_,_,h1,_⟩:=iT at'.top;refine g6 UI F.slot_list_append F.type_list_append x hx at' ⟨_,(av.mp h1).2,rfl,rfl⟩ (h A U env σ s t rm x.tobA ht) (λv XB p=> ?_) (hb env) (hs env) hl (hw env);have X7:=at'.grow x.tobA p.1;obtain⟨vs,m,h1,h2⟩:=iT X7.top;have ZB:(lim:Nat)=4096:=rfl;have:=h2.length;refine bV hr (bV (Oh e) ?_);refine Tr (items:=vs.toArray) ⟨m,(av.mp h1).2⟩ (λh' hm X2=> ?_) (by refine ab OI ?_;exact Op (O2 this) (Op (Qp hlen) lR));obtain⟨m',YJ⟩:=hm;exact X7.turn (tk:=XB.toks) (x.grow p.1) p.1 x.toaY hx ho X2 ⟨_,YJ⟩ (by exact⟨_,vs++ [v],rfl,⟨m',av.mpr ⟨(av.mp h1).1,by rw[YJ,Ui]⟩⟩,aq.append h2 (aq.cons p.2 aq.nil)⟩) λc fs hc=>by cases hc
def wm (i:Nat)(e:ED):SD:=λσ=>(aK σ i).bind λl=>match l with
 | .set xs=>(e σ).bind λt=>match t with
   | .int j=>if 0<=j/\ j<6 then W8 (.next,aw σ i (W8 (.set (az (cB xs ||| (1<<<j.toNat))))))else W9
   |_=>W9
 |_=>W9
theorem xE {f:List Int->Option α}{r:α}(h:(match x with | .set a=>f a |_=>W9)=W8 r)(k:∀a,x= .set a->f a=W8 r->P):P:=by
 cases x with
 |set a=>exact k a rfl h
 |_=>exact absurd h aI
theorem sK {g:a0}{xs:List Int}(h:fe K (b0 C.T h') g (.set xs) (.ref a)):∃ob,h'.get? a=W8 ob/\ ob.cls= .type "set"/\ ob.dict=W9:=
 (by obtain⟨o,h1,h2,_⟩:=(w6 h).obj;exact⟨o,(av.mp h1).2,(h2.kind ag w).1.1,(h2.kind ag w).1.2.1⟩)
theorem be.sub {g:a0}{m:Nat}(h:be L g a m)(hg:∀o,g a=W8 o->g' a=W8 o):be L g' a m:=h.keep hg
theorem be.here {g:a0}{m:Nat}(h:be L g a m):∃o,g a=W8 o:=(by obtain⟨_,_,_,_,_,q,_,_⟩:=h;exact⟨_,q⟩)
theorem A1 (hx:cx.vars.lookup n=W8 i)(ho:i∈cx.own)(h:aC C k cx pe d)
 (hb:∀env,Pq (.Name n p) "add" env (PX (.Name n p) env)=PX (.Name n p) env:=by intro _;rfl) (hs:∀env,OC [pe] env= [(false,PX pe env)]:=by intro _;rfl) (hl:(ap.endLine==cp.line)=true:=by rfl)
 (hw:∀env,P8 (.Call (.Attribute (.Name n p) "add" ap) [pe] [] cp) W9 sp.line env=pure false:=by intro _;rfl):
 du C k cx oc (.Expr (.Call (.Attribute (.Name n p) "add" ap) [pe] [] cp) sp) cx.own (wm i d):=λA U env σ s r rm x e=>
 ay e λl YR e=>xE e λxs hxs e=>ay e λt ht e=>nY e λj hj e=>f7 e λhlen e=>x.atE hx ho (hxs▸YR) λa at'=>by refine g6 To Vy F.type_set_add x hx at' (sK at'.top) (h A U env σ s _ rm x.tobA (hj▸ht)) (λv XB p=> ?_) (hb env) (hs env) hl (hw env);obtain⟨tk,hv⟩:=cG p.2;have X7:=at'.grow x.tobA p.1;obtain⟨mk,h1,hm⟩:=w6 X7.top;obtain⟨o,Yw⟩:=h1.here;rw[hv,<-Oh e,hm,bT h1.1,<-Wt hlen.1,Rm];exact kf (h1.sub λo e=>(av.mp e).2) ((Int.toNat_lt hlen.1).mpr hlen.2) λh' hS X2=>X7.turn (x.grow p.1) p.1 x.toaY hx ho X2 hS.here (by exact⟨_,rfl,_,hS.sub λo e=>av.mpr ⟨(av.mp Yw).1,e⟩,rfl⟩) λc fs hc=>by cases hc
theorem aq.set {K:br}{g:a0}{t:V}{v:Oq}:∀ {ts:List V} {vs:List Oq} (n:Nat),aq K g ts vs->bj K g t v->aq K g (ts.set n t) (vs.set n v)
 | [],vs,n,h,_=>by subst h;exact aq.nil
 |x::ts,vs,0,h,hv=>by obtain⟨u,r,rfl,h1,h2⟩:=h;exact aq.cons hv h2
 |x::ts,vs,n+1,h,hv=>by obtain⟨u,r,rfl,h1,h2⟩:=h;exact aq.cons h1 (aq.set n h2 hv)
theorem kl {j:Int}{tk:Tok}(h:At C cx U env XB n i (.list xs) a)(XD:bF C cx U env σ XB)(g:aH C s XB)(ok:aY C U s)(hx:cx.vars.lookup n=W8 i)(ho:i∈cx.own)
 (hc:0<=j/\ j<xs.length/\ xs.length<=lim) (rv:bj C.cls (view U XB.heap) t v):
 Oz (Ov ag w) A (UV (.ref a) (.int j tk) v) (λ_ XC=>dk C cx oc cx.own env U s (.next,aw σ i (W8 (.list (xs.set j.toNat t)))) .next XC) (λ_ _=>False) XB:=by
 have ZB:(lim:Nat)=4096:=rfl;obtain⟨vs,m,h1,h2⟩:=iT h.top;have hT:=(av.mp h1).1;have h1:=(av.mp h1).2;have:=h2.length;exact qY ⟨m,h1⟩ hc.1 (aaQ hc.2.1 (Ry (Rh.mpr hc.2.2) (by decide))) (this▸hc.2.1) λh' ⟨m',YJ⟩ X2=>h.turn (tk:=XB.toks) XD g ok hx ho X2 ⟨_,YJ⟩ (by exact⟨_,_,rfl,⟨m',av.mpr ⟨hT,YJ⟩⟩,aq.set _ h2 rv⟩) λc fs hc=>by cases hc
def tj (i:Nat)(ei ev:ED):SD:=lI i λσ xs=>(ev σ).bind λt=>(ei σ).bind λj=>match j with
 | .int j=>if 0<=j/\ j<xs.length/\ xs.length<=lim then W8 (xs.set j.toNat t)else W9
 |_=>W9
theorem AQ {ev:ED}(hx:cx.vars.lookup n=W8 i)(ho:i∈cx.own)(hi:aC C k cx pi ei)(hv:aC C k cx pv ev)
 (hs:∀env,P8 pv (W8 (.Subscript (.Name n p) pi sp)) pos.line env=pure false:=by intro _;rfl):
 du C k cx oc (.Assign [.Subscript (.Name n p) pi sp] pv pos) cx.own (tj i ei ev):=λA U env σ s r rm x e=>
 kP e λxs ys h0 e hr=>ay e λt ht e=>ay e λjv hj e=>nY e λj hjv e=>f7 e λhc e=>x.atE hx ho h0 λa at'=>Ww (hv.run rm x ht λv XB XI XD XQ=>(at'.grow x.tobA XI).name XD.tobA hx (hi.runI rm XD (hjv▸hj) λtk XC XF XG=>by refine bV hr (bV (Oh e) ?_);exact kl ((at'.grow x.tobA XI).grow XD.tobA XF) XG (XI.trans XF) x.toaY hx ho hc (bj.mono (XF.le x.tU) _ _ XQ))) (hs env)
def ib (i:Nat)(ei ev:ED):SD:=lI i λσ xs=>(ei σ).bind λj=>(ev σ).bind λt=>match j,t with
 | .int j,.int y=>if 0<=j/\ j<xs.length/\ xs.length<=lim then(match xs[j.toNat]? with
   |some (.int x)=>W8 (xs.set j.toNat (.int (x+y)))
   |_=>W9)else W9
 |_,_=>W9
theorem xf {x:Option V}{f:Int->Option α}{r:α}(h:(match x with |some (.int a)=>f a |_=>W9)=W8 r)(k:∀a,x=W8 (.int a)->f a=W8 r->P):P:=by
 cases x with
 |none=>exact absurd h aI
 |some x=>
  cases x with
  |int a=>exact k _ rfl h
  |_=>exact absurd h aI
theorem sr {ev:ED}(hx:cx.vars.lookup n=W8 i)(ho:i∈cx.own)(hi:aC C k cx pi ei)(hv:aC C k cx pv ev)
 (hs:∀ov iv new,augStore pi ov iv new=(do Qo [new,ov,iv] (UV ov iv new);release [new,ov,iv] [];pure .next):=by intros;rfl):
 du C k cx oc (.AugAssign (.Subscript (.Name n p) pi sp) .Add pv pos) cx.own (ib i ei ev):=λA U env σ s r rm x e=>
 kP e λxs ys h0 e hr=>ay e λjv hj e=>ay e λt ht e=>uv e λj y hjv hty e=>f7 e λhc e=>xf e λz hz e=>x.atE hx ho h0 λa at'=>by refine wpAny_AugAssign_SubscriptAny (at'.name x.tobA hx (hi.runI rm x (hjv▸hj) λtk XB XI XD=> ?_)) hs;have X7:=at'.grow x.tobA XI;obtain⟨vs,m,h1,h2⟩:=iT X7.top;obtain⟨z',hz',rz⟩:=h2.get hz;obtain⟨tz,rz⟩:=cG rz;have h3:bw "list" XB.heap.get? a vs:=⟨m,(av.mp h1).2⟩;have ZB:(lim:Nat)=4096:=rfl;refine wpAny_getItem_list h3.list' hc.1 (aaQ hc.2.1 (Ry (Rh.mpr hc.2.2) (by decide))) (x:= .int z tz) (by rw[P4,hz',rz]) (hv.runI rm XD (hty▸ht) λty XC XF XG=>VW ?_);refine bV hr (bV (Oh e) ?_);exact kl ((X7.grow XD.tobA XF).grow XG.tobA .tokS) (XG.grow .tokS) ((XI.trans XF).trans .tokS) x.toaY hx ho hc b6
def tm (i:Nat)(ev:ED):SD:=λσ=>(aK σ i).bind λx=>(ev σ).bind λy=>match x,y with
 | .int x,.int y=>W8 (.next,aw σ i (W8 (.int (x+y))))
 |_,_=>W9
theorem AX {ev:ED}(hx:cx.vars.lookup n=W8 i)(ho:i∉cx.own)(hf:i∉cx.fre)(hv:aC C k cx pv ev):
 du C k cx oc (.AugAssign (.Name n p) .Add pv pos) cx.own (tm i ev):=λA U env σ s r rm x e=>
 ay e λxv h0 e=>ay e λyv h1 e=>uv e λa b ha hb e=>x.int hx ho (ha▸h0) λt hh=>wpAny_AugAssign_Name (gL x.tobA hx hh (hv.runI rm x (hb▸h1) λtu XB XI XD=>VW ((XD.grow .tokS).save (XI.trans .tokS) x.toaY hx ho hf b6 λXJ p=>by refine bV (Oh e) ?_;exact p)))
end
end
section
section
variable{b p:Bool}{n:Nat}{P:Nat->Oq->Prop}{St:Nat->O0->Prop}
structure WS (C:Cf ag w) (I:OO) (F:cK) (fp:List OO) (n:Nat) (P:Nat->Oq->Prop) (St:Nat->O0->Prop) (W:cK) (U:Ow) (xs:List V) (s:On):Prop where
 wI:W I
 uI:∃q,U I=W8 (I,q)
 oI:∀b q,U b=W8 (I,q)->b=I
 bI:C.hb.get? I=W9/\ I∉C.T
 rd:∀b∈fp,b∉C.T/\ ∀c q,U b=W8 (c,q)->W c \/F c
 lv:∀b∈fp,∃o,s.heap.get? b=W8 o
 st:∃i,St i s.heap/\ i+xs.length=n/\ ∀j t,xs[j]?=W8 t->∀v,P (i+j) v->bj C.cls (view U s.heap) t v
noncomputable abbrev CN:O6:= {depth:=0,units:=0,handled:=W9}
theorem WS.keep (Wk:∀A:O6,A.handled=W9->Walks ag w A I fp [I] n P St)(h:WS C I F fp n P St W U xs s)(ok:aY C U s)(ev:Ev C O bM U s U' s')(hO:∀c,O c->¬W c/\ ¬F c):WS C I F fp n P St W U' xs s':=by
 have no:∀b∈fp,∀c q,U b=W8 (c,q)->¬O c:=λb hb c q e ho=>((h.rd b hb).2 c q e).elim (hO c ho).1 (hO c ho).2;have col:∀b∈fp,U' b=U b:=λb hb=>(by obtain⟨o,e⟩:=h.lv b hb;exact ev.col b o e (no b hb));have hI:I∈fp:=(Wk CN rfl).sub I (OJ.mpr rfl);obtain⟨i,h1,h2,h3⟩:=h.st;exact⟨h.wI,by refine ab (col I hI) ?_;exact h.uI,λb q e=>(ev.own b I q e).elim (h.oI b q) λh'=>h'.elim (λh'=>absurd h.wI (hO I h').1) λh'=>(by obtain⟨o,e⟩:=h.lv I hI;exact absurd (h'.symm.trans e) (λe=>by cases e)),
  h.bI,λb hb=>by refine ab (col b hb) ?_;exact h.rd b hb,λb hb=>(by obtain⟨o,e⟩:=h.lv b hb;exact⟨o,ev.keep b o (h.rd b hb).1 (no b hb) e⟩),
  i,(Wk CN rfl).frame i _ _ h1 λb hb o e=>ev.keep b o (h.rd b hb).1 (no b hb) e,h2,λj t e v hp=>bj.mono (ev.le ok.tU) _ _ (h3 j t e v hp)⟩
def C6 (U:Ow)(I:OO):Ow:=λb=>if b=I then W9 else U b
theorem ti {b:OO}(h:b≠I):C6 U I b=U b:=if_neg h
theorem zo {b c:OO}{q:Slot}(h:C6 U I b=W8 (c,q)):b≠I/\ U b=W8 (c,q):=by
 injections I U b c q _ h;by_cases e:b=I
 ·rw[e]at h;unfold C6 at h;rw[if_pos rfl]at h;cases h
 ·exact⟨e,(ti e).symm.trans h⟩
theorem Ev.drop {q:Slot}(hq:U I=W8 (I,q))(oI:∀b q,U b=W8 (I,q)->b=I)(hO:O I)(hb:C.hb.get? I=W9)(hT:I∉C.T)(hs:SE I s.heap h'):Ev C O J U s (C6 U I) {s with heap:=h',toks:=tk} where
 keep:=λb o _ hn e=>hs b o (λh=>hn I q (h▸hq) hO) e
 col:=λb o _ hn=>ti λh=>hn I q (h▸hq) hO
 own:=λb c q h=> .inl (zo h).2
 os:=rfl
 gen:=λ_ _ _ e=>e
 go:=λk=>⟨⟨k.inv.same hb hT hs,λb c q' h=>by
  obtain⟨h1,h2⟩:=zo h;obtain⟨⟨o,e⟩,o',e'⟩:=k.live b c q' h2;exact⟨⟨o,hs b o h1 e⟩,o',hs c o' (λh=>h1 (oI b q' (h▸h2))) e'⟩,λb hb=>(ti (U:=U) λh:b=I=>hT (h▸hb))▸k.tU b hb⟩,
  λb h=>if e:b=I then .inl (e▸hO)else .inr ((by obtain⟨o,h⟩:=h;exact⟨o,hs b o e h⟩))⟩
theorem It.ofWalks (Wk:∀A:O6,A.handled=W9->Walks ag w A I fp [I] n P St)(hl:∀i h,St i h->∃o,h.get? I=W8 o)
 (hlet:∀(A:O6) i (s:On) v (Q:Unit->On->Prop),St i s.heap->Q () s->Oz (Ov ag w) A (QB target (.ref I) v) Q (λ_ _=>False) s):
 It C k A false target (.ref I) F bM (WS C I F fp n P St) where
 self:=λhh h q=>by obtain⟨i,h1,_⟩:=h.st;exact(Wk _ hh).self i _ _ _ h1 q
 keep:=λh ok ev hO=>h.keep Wk ok ev hO
 next:=λ {W U x xs s} rm h ok=>by obtain⟨i,h1,h2,h3⟩:=h.st;obtain⟨q,hq⟩:=h.uI;refine(Wk A rm.handled).item i s _ _ (h2▸aaG (Rg _)) h1 λv h' tk hp Y5 hk=>⟨v,rfl,hlet A (i+1) _ v _ Y5 ?_⟩;have hs:SE I s.heap h':=λb o hb=>hk b o λh=>hb (OJ.mp h);have ev:Ev C W bM U s U {s with heap:=h',toks:=tk}:= .one hq h.wI h.bI.1 h.bI.2 hs (hl _ _ Y5);refine⟨W,U,λ_=> .inl,ev,⟨h.wI,h.uI,h.oI,h.bI,h.rd,λb hb=>g8 hs (hl _ _ Y5) (h.lv b hb),i+1,Y5,(aaF _ _).trans h2,λj t e u hp'=>bj.mono (ev.le ok.tU) _ _ (h3 (j+1) t e u ((aaF i j)▸hp'))⟩,bj.mono (ev.le ok.tU) _ _ (h3 0 x rfl v hp)⟩
 done:=λ {W U s} rm h ok=>by obtain⟨i,h1,h2,h3⟩:=h.st;obtain⟨q,hq⟩:=h.uI;rw[show i=n from h2]at h1;exact(Wk A rm.handled).done s _ _ h1 λh' tk hk=>⟨rfl,C6 U I,.drop hq h.oI h.wI h.bI.1 h.bI.2 λb o hb=>hk b o λh=>hb (OJ.mp h)⟩
 gens:=λh e _ _ _=>by obtain⟨wI,uI,oI,bI,rd,lv,st⟩:=h;exact⟨wI,uI,oI,bI,rd,e▸lv,e▸st⟩
end
end
section
section
variable{b p:Bool}{n:Nat}{P:Nat->Oq->Prop}{St:Nat->O0->Prop}
theorem bw.tuple {h:O0}(x:bw "tuple" h.get? a vs):h.IsTuple a vs.toArray:=(by obtain⟨n,e⟩:=x;exact⟨_,e,rfl,n,rfl⟩)
def fR:V->Option (List V)
 | .list xs=>W8 xs
 | .tup xs=>W8 xs
 |_=>W9
def cO (d:ED):ai->Option (List V):=λσ=>(d σ).bind fR
theorem oP {g:a0}(e:fR x=W8 xs)(r:fe K X3 g x v){P:Prop}(k:∀T a vs,(T= "list" \/T= "tuple")->v= .ref a->bw T X3 a vs->aq K g xs vs->P):P:=by
 cases x with
 |list a=>obtain⟨a,vs,hv,h1,h2⟩:=r;exact k _ a vs (.inl rfl) hv h1 (Oh e▸h2)
 |tup a=>obtain⟨a,vs,hv,h1,h2⟩:=r;exact k _ a vs (.inr rfl) hv h1 (Oh e▸h2)
 |_=>exact absurd e aI
theorem DM {g:a0}(e:fR x=W8 xs)(r:bj K g x v){P:Prop}(k:∀T a vs,(T= "list" \/T= "tuple")->v= .ref a->bw T g a vs->aq K g xs vs->P):P:=oP e (r.top (Le.refl g)) k
theorem iL.walk (ok:aY C U s)(hf:o.isFreed=false)(Wk:∀A:O6,A.handled=W9->Walks ag w A s.heap.objs.size (s.heap.objs.size::fp) [s.heap.objs.size] n P St)
 (hfp:∀b∈fp,(∃o,s.heap.get? b=W8 o)/\ b∉C.T/\ ∀c q,U b=W8 (c,q)->W c \/F c) (YT:St 0 (s.heap.push o)) (hn:xs.length=n) (hx:∀j t,xs[j]?=W8 t->∀v,P j v->bj C.cls (view U s.heap) t v)
 (hl:∀i h,St i h->∃o,h.get? s.heap.objs.size=W8 o)
 (hlet:∀(A:O6) i (XB:On) v (Q:Unit->On->Prop),St i XB.heap->Q () XB->Oz (Ov ag w) A (QB target (.ref s.heap.objs.size) v) Q (λ_ _=>False) XB):
 (∀c,W c->∃o,s.heap.get? c=W8 o)->iL C k false target F bM (xs= ·) W U s (.ref s.heap.objs.size) {s with heap:=s.heap.push o,toks:=tk}:=by
 injections k tk s xs target o fp U W F n P St _ ok hf Wk hfp YT hn hx hl hlet;intro lv;have new:s.heap.get? s.heap.objs.size=W9:=OX (O5 _);have g:aH C s {s with heap:=s.heap.push o,toks:=tk}:= .push;have ev:=Ev.new1 (J:=bM) g ok new ⟨_,OB _ hf⟩;have n1:=(ok.new new).1;have n2:=(ok.new new).2.1;have n3:=(ok.new new).2.2;have ne:∀ {b:OO},(∃o,s.heap.get? b=W8 o)->b≠s.heap.objs.size:=λh e=>by obtain⟨o,h⟩:=h;rw[e,new]at h;cases h
 refine⟨λc=>W c \/c=s.heap.objs.size,b5 U s.heap.objs.size (s.heap.objs.size,.obj),λ_=>WS C s.heap.objs.size F (s.heap.objs.size::fp) n P St,xs,rfl,λA _=>It.ofWalks Wk hl hlet,λ_ _=>⟨.inr rfl,⟨_,aD⟩,λb q h=> ?_,⟨n3,n1⟩,λb hb=> ?_,λb hb=> ?_,0,YT,(O1 _).trans (by assumption),λj t e v hp=>bj.mono (ev.le ok.tU) _ _ (hx j t e v (by rwa [O1]at hp))⟩,ev.narrow ok λc h=> .inl (h▸new),λc h=>h.imp id λ(e:c=s.heap.objs.size)=>e▸new,λc h=>h.elim (λh=>let ⟨o,e⟩:=lv c h;⟨o,Om _ e⟩) λ(e:c=s.heap.objs.size)=>e▸⟨_,OB _ hf⟩,λ_ h=>h.elim⟩
 ·by_cases e:b=s.heap.objs.size
  ·exact e
  ·rw[aO e]at h;exact absurd rfl (ne (ok.live b _ q h).2)
 ·cases hb with
  |head=>exact⟨n1,λc q e=>by rw[aD]at e;cases e;exact .inl (.inr rfl)⟩
  |tail _ hb=>exact⟨(hfp b hb).2.1,λc q e=>by rw[aO (ne (hfp b hb).1)]at e;exact((hfp b hb).2.2 c q e).imp .inl id⟩
 ·cases hb with
  |head=>exact⟨_,OB _ hf⟩
  |tail _ hb=>obtain⟨o',e⟩:=(hfp b hb).1;exact⟨o',Om _ e⟩
structure gU (C:Cf ag w) (F:cK) (T:String) (a:OO) (vs:List Oq) (xs:List V) (W:cK) (U:Ow) (s:On):Prop where
 h:bw T s.heap.get? a vs
 r:aq C.cls (view U s.heap) xs vs
 nT:a∉C.T
 o:∀c q,U a=W8 (c,q)->W c \/F c
theorem gU.keep {T:String}(h:gU C F T a vs xs W U s)(ok:aY C U s)(ev:Ev C O bM U s U' s')(hO:∀c,O c->¬W c/\ ¬F c):gU C F T a vs xs W U' s':=by obtain⟨⟨n,e⟩,r,nT,o⟩:=h;have no:∀c q,U a=W8 (c,q)->¬O c:=λc q e ho=>(o c q e).elim (hO c ho).1 (hO c ho).2;exact⟨⟨n,ev.keep a _ nT no e⟩,aq.mono (ev.le ok.tU) _ _ r,nT,by refine ab (ev.col a _ e no) ?_;exact o⟩
theorem gU.ls:FU C k false target (.ref a) F bM (xs= ·) (gU C F "list" a vs xs) where
 keep:=λh ok ev hO=>h.keep ok ev hO
 iter:=λ {A W U s} rm h ok lv=>by obtain⟨n,ho⟩:=h.h;have hL:s.heap.IsList a vs.toArray:=bw.list' ⟨n,ho⟩;exact wpAny_pyIter_list hL (iL.walk (tk:=s.toks) (fp:= [a]) ok rfl (λA hh=>Wf hh s.heap.objs.size a (Px (Pl ho)) vs.toArray) (λb hb=>by refine ab (OJ.mp hb) ?_;exact⟨⟨_,ho⟩,h.nT,h.o⟩) ⟨⟨_,OB _ rfl,rfl,rfl⟩,hL.push _⟩ h.r.length.symm (λj t e v hv=>by obtain⟨v',e',r'⟩:=h.r.get e;rw[P4,e']at hv;cases hv;exact r') (λi h hs=>(by obtain⟨o,ho,_⟩:=hs.1;exact⟨o,ho⟩)) (λA i s v Q hs q=>letGo_listiter hs.1 q) lv)
theorem gU.tp:FU C k false target (.ref a) F bM (xs= ·) (gU C F "tuple" a vs xs) where
 keep:=λh ok ev hO=>h.keep ok ev hO
 iter:=λ {A W U s} rm h ok lv=>by obtain⟨n,ho⟩:=h.h;have hL:s.heap.IsTuple a vs.toArray:=bw.tuple ⟨n,ho⟩;exact wpAny_pyIter_tuple hL (iL.walk (tk:=s.toks) (fp:= [a]) ok rfl (λA hh=>Walks.tuple hh s.heap.objs.size a (Px (Pl ho)) vs.toArray) (λb hb=>by refine ab (OJ.mp hb) ?_;exact⟨⟨_,ho⟩,h.nT,h.o⟩) ⟨⟨_,OB _ rfl,rfl,rfl⟩,hL.at λo e=>Om _ e⟩ h.r.length.symm (λj t e v hv=>by obtain⟨v',e',r'⟩:=h.r.get e;rw[P4,e']at hv;cases hv;exact r') (λi h hs=>(by obtain⟨o,ho,_⟩:=hs.1;exact⟨o,ho⟩)) (λA i s v Q hs q=>letGo_tupleiter hs.1 q) lv)
end
end
section
section
variable{p:Bool}
theorem ry (e:fR x=W8 xs)(r:fe C.cls (b0 C.T XB.heap) (view U XB.heap) x v)(ho:∀a,v= .ref a->∀c q,U a=W8 (c,q)->F c)(g:aH C s XB):r6 C k false target F (xs= ·) U s v XB:=
 oP e r λT a vs hT hv h1 h2=>by
  have pr:gU C F T a vs xs (λ_=>False) U XB:=(by obtain⟨n,h1⟩:=h1;exact⟨⟨n,(av.mp h1).2⟩,h2,(av.mp h1).1,λc q h=> .inr (ho _ hv c q h)⟩);refine ab hv ?_;rcases hT with e |e
  ·exact⟨λ_=>False,U,bM,_,gU.ls,e▸pr,g.ev,λ_ h=>h.elim,λ_ h=>h.elim,λ_ h=>h.elim⟩
  ·exact⟨λ_=>False,U,bM,_,gU.tp,e▸pr,g.ev,λ_ h=>h.elim,λ_ h=>h.elim,λ_ h=>h.elim⟩
theorem lV (h:aC C k cx pe d):dP C k cx false p target pe (cO d) Eq:=λA U env σ s xs rm x e=>ay e λy hy e=>cf (h A U env σ s y rm x hy) λv XB g r=>ry e (r.top (dG x.tU)) (λa ha c q h=>DM e r λ_ b vs _ hv h1 _=>by obtain⟨n,h1⟩:=h1;rw[ha]at hv;cases hv;rw[(ao.mp h1).1]at h;cases h) g
def cy (a:Int)(n:Nat):List V:=(Oo n).map λj:Nat=>Xc (a+(j:Int))
def aX (a b:ED):ai->Option (List V):=λσ=>(a σ).bind λx=>(b σ).bind λy=>match x,y with
 | .int x,.int y=>if -(2^62)<=x/\ x<2^62/\ -(2^62)<=y/\ y<2^62 then W8 (cy x (y - x).toNat)else W9
 |_,_=>W9
theorem rD {x:Int}{n:Nat}(e:(cy x n)[j]?=W8 t):t= .int (x+j*1):=by unfold cy at e;obtain⟨h,e⟩:=Pn.mp e;rw[List.getElem_map,List.getElem_range]at e;rw[Int.mul_one];exact e.symm
theorem vi {x y:Int}{r:OO}{t u v:Tok}(hc: -(2^62)<=x/\ x<2^62/\ -(2^62)<=y/\ y<2^62):FU C k false (.Name n₀ q₀) (.ref r) F bM (cy x (y - x).toNat= ·) λ_ U s=>IsRange s.heap r x y 1 t u v/\ U r=W9/\ r∉C.T where
 keep:=λh ok ev _=>⟨ev.keep r _ h.2.2 (λc q e=>by rw[h.2.1]at e;cases e) h.1,(ev.col r _ h.1 (λc q e=>by rw[h.2.1]at e;cases e)).trans h.2.1,h.2.2⟩
 iter:=λ {A W U s} rm h ok lv=>wpAny_pyIter_range h.1 (small_one hc.1 hc.2.1 hc.2.2.1 hc.2.2.2) (iL.walk (tk:=s.toks) (fp:= []) ok rfl (λA hh=>Walks.range hh s.heap.objs.size x 1 (y - x).toNat)
  (λb hb=>by cases hb) (by
    show(s.heap.push _).get? _=_;rw[OB _ rfl,rangeSize_one];have e1:(if x<y then y - x else 0)=(((y - x).toNat:Nat):Int) - ((0:Nat):Int):=by refine Qj ?_ (Int.sub_zero _).symm;split;exact(Wt (Int.sub_nonneg_of_le (aa1 (by assumption)))).symm;rename_i h;exact(congrArg Nat.cast (Int.toNat_of_nonpos (Int.sub_nonpos_of_le (aa3.mp h)))).symm
    refine ab e1 ?_;simp) (by unfold cy;rw[OA,Ql]) (λj t e v hv=>by
    obtain⟨tk,hv⟩:=hv;refine ab (rD e) (ab hv ?_);exact Exists.intro _ rfl) (λi h hs=>⟨_,hs⟩) (λA i s v Q hs q=>Pc (a:=()) rfl q) lv)
theorem oh {x y:Int}{t u v:Tok}(ok:aY C U XB)(g:aH C s XB)(h:IsRange (XB.heap.push o) XB.heap.objs.size x y 1 t u v)(hc: -(2^62)<=x/\ x<2^62/\ -(2^62)<=y/\ y<2^62):r6 C k false (.Name n₀ q₀) F (cy x (y - x).toNat= ·) U s (.ref XB.heap.objs.size) {XB with heap:=XB.heap.push o,toks:=tk}:=
 have new:=ok.new (OX (O5 XB.heap.objs.size))
 ⟨λ_=>False,U,bM,_,vi hc,⟨h,new.2.1,new.1⟩,(g.trans .push).ev,λ_ h=>h.elim,λ_ h=>h.elim,λ_ h=>h.elim⟩
theorem aC.int {j:Int}(h:aC C k cx pe d)(rm:aV A k)(x:bA C cx U env σ s)(e:d σ=W8 (.int j))(q:∀t s',aH C s s'->bA C cx U env σ s'->Q (.int j t) s'):Oz (Ov ag w) A (PX pe env) Q E s:=
 cf (h A U env σ s _ rm x e) λv s' g r=>by obtain⟨t,h⟩:=cG r;refine ab h ?_;exact q t s' g (x.grow g)
theorem kt {a b:ED}(ha:aC C k cx pa a)(hb:aC C k cx pb b)(hg:fn∈cx.globs)(hm:fn∈bP:=by decide) (Z9:OZ fn=W8 (.type "range"):=by rfl)
 (he:∀env,OC [pa,pb] env=(false,PX pa env)::OC [pb] env:=by intro _;rfl) (ZK:∀env,OC [pb] env=(false,PX pb env)::OC [] env:=by intro _;rfl):
 dP C k cx false p (.Name n₀ q₀) (.Call (.Name fn q) [pa,pb] [] pos) (aX a b) Eq:=λA U env σ s xs rm x e=>
 ay e λxa h1 e=>ay e λxb h2 e=>uv e λi j hi hj e=>f7 e λhc e=>Pu (eP x hg hm Z9 (PB (PE (ha.int rm x (hi▸h1) λt XB XI XD=>PE (hb.int rm XD (hj▸h2) λt' XC XF XG=>Qk (call_range_2 (Oh e▸oh XG.toaY (XI.trans XF) (Vv ..) hc))) (ZK env)) (he env)) (he env) (by rw[ZK];rfl)))
theorem rA {b:ED}(hb:aC C k cx pb b)(hg:fn∈cx.globs)(hm:fn∈bP:=by decide) (Z9:OZ fn=W8 (.type "range"):=by rfl)
 (he:∀env,OC [pb] env= [(false,PX pb env)]:=by intro _;rfl):
 dP C k cx false p (.Name n₀ q₀) (.Call (.Name fn q) [pb] [] pos) (aX (dK (.int 0)) b) Eq:=λA U env σ s xs rm x e=>
 ay e λxa h1 e=>ay e λxb h2 e=>uv e λi j hi hj e=>f7 e λhc e=>Pu (eP x hg hm Z9 (PB (rest:= []) (PE (hb.int rm x (hj▸h2) λt' XC XF XG=>Qk (call_range_1 (by cases(Oh h1).trans hi;exact Oh e▸oh XG.toaY XF (Vv ..) hc))) (he env)) (he env)))
end
end
theorem iG {env:Env}(f:Str×Pk->List (Str×OO)->Sem (ForInStep (List (Str×OO))))(hf:∀n kd cs,f (n,kd) cs=if kd== .free then do let c <-cellOf env n;pure (Rs ((n,c)::cs))else pure (Rs cs)):∀(names:List (Str×Pk)) (acc:List (Str×OO)),(∀x,(x,PQ)∈names->∃c,env.cells.lookup x=W8 c)->(∀x c,acc.lookup x=W8 c->env.cells.lookup x=W8 c)->
 ∃cl,(forIn names acc f)=pure cl/\(∀x c,cl.lookup x=W8 c->env.cells.lookup x=W8 c)/\ (∀x,((x,PQ)∈names \/∃c,acc.lookup x=W8 c)->∃c,cl.lookup x=W8 c)/\ ∀p∈cl,(p.1,PQ)∈names \/p∈acc
 | [],acc,_,h2=>⟨acc,rfl,h2,λx h=>h.elim (λh=>by cases h) id,λp h=> .inr h⟩
 | (n,kd)::r,acc,h1,h2=>by
   simp only[Tn,hf];by_cases hk:kd= .free
   ·subst hk
    obtain⟨c,hc⟩:=h1 n (QG ..);have e1:cellOf env n=pure c:=by unfold cellOf;exact ab hc rfl
    obtain⟨cl,e2,h3,h4,h5⟩:=iG f hf r ((n,c)::acc) (λx h=>h1 x (Pp _ h)) (λx c' h=>by
     rw[Qe]at h;cases hb:x==n with
     |true=>rw[hb]at h;cases h;refine ab (beq_iff_eq.mp hb) ?_;exact hc
     |false=>rw[hb]at h;exact h2 x c' h)
    refine⟨cl,?_,h3,λx h=>h4 x ?_,λp hp=>(h5 p hp).elim (λh=> .inl (Pp _ h)) λh=>(OG.mp h).elim (λh=> .inl ((h)▸QG)) .inr⟩
    ·simp only[beq_self_eq_true,if_true,e1,pure_bind];exact e2
    ·rcases h with h | ⟨c',h⟩
     ·rcases OG.mp h with h |h
      ·cases h;exact .inr ⟨c,by simp[Qe]⟩
      ·exact .inl h
     ·refine .inr ?_
      refine ab Qe ?_;cases hb:x==n with
      |true=>exact⟨c,rfl⟩
      |false=>exact⟨c',h⟩
   ·have hb:(kd==PQ)=false:=by simpa using hk
    obtain⟨cl,e2,h3,h4,h5⟩:=iG f hf r acc (λx h=>h1 x (Pp _ h)) h2;refine⟨cl,?_,h3,λx h=>h4 x ?_,λp hp=>(h5 p hp).imp (Pp _) id⟩
    ·simp only[hb,PP,if_false,pure_bind];exact e2
    ·rcases h with h |h
     ·rcases OG.mp h with h |h
      ·cases h;exact absurd rfl hk
      ·exact .inl h
     ·exact .inr h
theorem mH (h:∀x,(x,PQ)∈scope.names->∃c,env.cells.lookup x=W8 c):
 ∃cl,closureFor scope env=pure cl/\ (∀x c,cl.lookup x=W8 c->env.cells.lookup x=W8 c)/\ (∀x,(x,PQ)∈scope.names->∃c,cl.lookup x=W8 c)/\ ∀p∈cl,(p.1,PQ)∈scope.names:=by
 injections env scope _ h;obtain⟨cl,e,h1,h2,h3⟩:=iG (env:=env) (λx cs=>match x with
  | (name,kind)=>if(kind==PQ)=true then do
      let c <-cellOf env name
      pure (Rs ((name,c)::cs))
    else pure (Rs cs)) (λ_ _ _=>rfl) scope.names [] h (λx c h=>by cases h)
 refine⟨cl,?_,h1,λx hx=>h2 x (.inl hx),λp hp=>(h3 p hp).resolve_right (by simp)⟩;have:∀m:Sem (List (Str×OO)),(m>>=λx=>pure x)=m:=λm=>bind_pure m;exact(this _).trans e
theorem ca:∀(names:List (Str×Pk)) (n:Nat) (acc:List (Str×OO)),RJ n names acc=RJ n names []++acc
 | [],n,acc=>rfl
 | (x,kd)::r,n,acc=>by
   unfold RJ;split
   ·refine ab (ca r (n+1) ((x,n)::acc)) (ab (ca r (n+1) [(x,n)]) ?_);simp
   ·exact ca r n acc
noncomputable abbrev jt:=List (Str×Pk)
def fy (x:Str):Bool:= !(x==("__debug__":Str))&& !(x==("__classdict__":Str))
theorem eB {x:Str}(h:fy x=true):(x==("__debug__":Str))=false/\ (x==("__classdict__":Str))=false:=by
 injections x _ h;unfold fy at h;cases h1:x==("__debug__":Str)
 ·cases h2:x==("__classdict__":Str)
  ·exact⟨rfl,rfl⟩
  ·rw[h1,h2]at h;cases h
 ·rw[h1]at h;cases h
def Fs (l:List (Str×Nat)):Prop:= ∀p∈l,∀q∈l,p.2=q.2->p.1=q.1
instance (l:List (Str×Nat)):Decidable (Fs l):=inferInstanceAs (Decidable (∀p∈l,∀q∈l,p.2=q.2->p.1=q.1))
theorem Fs.eq {l:List (Str×Nat)}(h:Fs l)(x y:Str)(i:Nat)(hx:l.lookup x=W8 i)(hy:l.lookup y=W8 i):x=y:=h _ (mem_of_lookup hx) _ (mem_of_lookup hy) rfl
def tJ (names:jt)(mn:List Str)(x:Str):Prop:=names.lookup x=W8 .local \/(names.lookup x=W8 .cell/\ x∈mn)
instance (names:jt) (mn:List Str) (x:Str):Decidable (tJ names mn x):=inferInstanceAs (Decidable (_ \/_))
structure p8 (scope:Sj) (cx ci:Cx):Prop where
 kind:scope.kind= .function/\ scope.isCoroutine=false/\ (ci.gen=true->cx.gen=true)/\ ci.own= []
 vars:∀p∈ci.vars,fy p.1=true/\ (p.2∉ci.fre->tJ scope.names ci.mn p.1)/\ (p.2∈ci.fre->scope.names.lookup p.1=W8 .free/\ cx.vars.lookup p.1=W8 p.2/\ p.2∉cx.own/\ p.1∈cx.caps)
 inj:Fs ci.vars
 globs:∀x∈ci.globs,scope.names.lookup x=W8 .globalImplicit/\ fy x=true
 names:∀p∈scope.names,(p.2= .cell->p.1∈ci.mn)/\ (p.2= .local->scope.names.lookup p.1=W8 .local)/\ (p.2= .free->p.1∈cx.caps/\ p.1∉ci.mn)
 mn:∀x∈ci.mn,(x,Rc)∈scope.names
 caps:∀x∈ci.caps,(scope.names.lookup x=W8 .free/\ x∈cx.caps/\ x∉ci.mn) \/(scope.names.lookup x=W8 .cell/\ x∈ci.mn)
def c5 (scope:Sj)(cx ci:Cx):Bool:=
 decide (scope.kind= .function/\ scope.isCoroutine=false/\ (ci.gen=true->cx.gen=true)/\ ci.own= [])&&
 (decide (∀p∈ci.vars,fy p.1=true/\ (p.2∉ci.fre->tJ scope.names ci.mn p.1)/\ (p.2∈ci.fre->scope.names.lookup p.1=W8 .free/\ cx.vars.lookup p.1=W8 p.2/\ p.2∉cx.own/\ p.1∈cx.caps))&&
 (decide (Fs ci.vars)&&(decide (∀x∈ci.globs,scope.names.lookup x=W8 .globalImplicit/\ fy x=true)&&
 (decide (∀p∈scope.names,(p.2= .cell->p.1∈ci.mn)/\ (p.2= .local->scope.names.lookup p.1=W8 .local)/\ (p.2= .free->p.1∈cx.caps/\ p.1∉ci.mn))&&
 (decide (∀x∈ci.mn,(x,Rc)∈scope.names)&&decide (∀x∈ci.caps,(scope.names.lookup x=W8 .free/\ x∈cx.caps/\ x∉ci.mn) \/(scope.names.lookup x=W8 .cell/\ x∈ci.mn)))))))
theorem jp {a b:Bool}(h:(a&&b)=true)(k:a=true->b=true->P):P:=k (OR.mp h).1 (OR.mp h).2
theorem oy (h:c5 scope cx ci=true):p8 scope cx ci:=by injections cx ci scope _ h;exact jp h λh1 h=>jp h λh2 h=>jp h λh3 h=>jp h λh4 h=>jp h λh5 h=>jp h λh6 h7=>⟨of_decide_eq_true h1,of_decide_eq_true h2,of_decide_eq_true h3,of_decide_eq_true h4,of_decide_eq_true h5,of_decide_eq_true h6,of_decide_eq_true h7⟩
theorem kq {f:Str×Pk->Str×Pk}(hf:∀p,(f p).1=p.1){x:Str}:∀ {l:jt},(l.map f).lookup x=(l.lookup x).map λk=>(f (x,k)).2
 | []=>rfl
 | (y,k)::r=>by
   refine ab Sw (ab (show f (y,k)=(y,(f (y,k)).2)from Prod.ext (hf (y,k)) rfl) (ab Qe (ab Qe ?_)));cases h:x==y with
   |true=>refine ab (eq_of_beq h) ?_;rfl
   |false=>exact kq hf
def Gx (env:Env)(p:Str×Pk):Str×Pk:=if(p.2== .free&&env.scope.kind== .function&&env.kindOf p.1==W8 .cell)then(p.1,.cell)else p
theorem lx {x:Str}:(TO scope env).names.lookup x=(scope.names.lookup x).map λk=>(Gx env (x,k)).2:=
 kq (f:=Gx env) λp=>by unfold Gx;split<;>rfl
theorem ee {kd:Pk}(hk:(kd== .free)=false){x:Str}(h:scope.names.lookup x=W8 kd):(TO scope env).names.lookup x=W8 kd:=by simp only[lx,h];unfold Gx;rw[Rx,hk];rfl
theorem iZ {x:Str}(h:scope.names.lookup x=W8 .free):(TO scope env).names.lookup x=W8 .cell \/(TO scope env).names.lookup x=W8 .free:=by
 simp only[lx,h];unfold Gx;rw[Rx];split
 ·exact .inl rfl
 ·exact .inr rfl
theorem c6:∀ {names:jt} {n:Nat} {x:Str},(x,Rc)∈names->∃c,(x,c)∈RJ n names []
 | (y,kd)::r,n,x,h=>by
   unfold RJ;rcases OG.mp h with h |h
   ·rw[(Pa h).1,<-(Pa h).2,if_pos (beq_self_eq_true _),ca]
    exact⟨n,Qn _ QG⟩
   ·split
    ·rw[ca]
     obtain⟨c,hc⟩:=c6 (n:=n+1) h;exact⟨c,QO _ hc⟩
    ·exact c6 h
theorem dq:∀ {names:jt} {n:Nat} {x:Str} {c:OO},(x,c)∈RJ n names []->(x,Rc)∈names
 | [],n,x,c,h=>by cases h
 | (y,kd)::r,n,x,c,h=>by
   unfold RJ at h;split at h;next hk=>
    rw[ca]at h;rcases Rd.mp h with h |h
    ·exact Pp _ (dq h)
    ·refine ab ((Pa (OJ.mp h)).1) (ab (eq_of_beq hk) ?_);exact QG
   next=>exact Pp _ (dq h)
theorem fu {x:Str}:∀ {l:List (Str×OO)} {c:OO},(x,c)∈l->∃c,l.lookup x=W8 c
 | (y,d)::r,c,h=>by
   refine ab Qe ?_;cases e:x==y with
   |true=>exact⟨d,rfl⟩
   |false=>exact fu ((OG.mp h).resolve_left λh=>by rw[(Pa h).1,beq_self_eq_true]at e;cases e)
theorem j5:∀ {cs:List (Str×OO)},cs.Pairwise (λx y=>x.2≠y.2)->∀n m c,(n,c)∈cs->(m,c)∈cs->n=m
 |p::r,h,n,m,c,h1,h2=>by
  obtain⟨ha,hr⟩:=SU.mp h;rcases OG.mp h1 with h1 |h1<;>rcases OG.mp h2 with h2 |h2
  ·exact(Pa (h1.trans h2.symm)).1
  ·exact absurd (congrArg Prod.snd h1).symm (ha (m,c) h2)
  ·exact absurd (congrArg Prod.snd h2).symm (ha (n,c) h1)
  ·exact j5 hr n m c h1 h2
section
section
variable{L:OO}
structure ju (s:On) (H:O0) (L:OO) (cs:List (Str×OO)) (mn:List Str):Prop where
 keep:∀b o,s.heap.get? b=W8 o->H.get? b=W8 o
 new:s.heap.get? L=W9
 ns:∃m,H.Ns L m
 cell:∀n c,(n,c)∈cs->n∈mn/\ s.heap.get? c=W9/\ c≠L/\ ∃v,H.IsCell c v
 one:∀n m c,(n,c)∈cs->(m,c)∈cs->n=m
def lU (U:Ow)(L:OO)(cs:List (Str×OO)):Ow:=λb=>if b=L then W8 (L,.loc)else match cs.find? λp=>p.2==b with
 |some p=>W8 (L,.cell p.1)
 |none=>U b
theorem jh {b:OO}{p:Str×OO}(e:(cs.find? λp=>p.2==b)=W8 p):p.2=b/\ p∈cs:=⟨eq_of_beq (List.find?_some (p:=λp:Str×OO=>p.2==b) e),List.mem_of_find?_eq_some e⟩
theorem yA:lU U L cs L=W8 (L,.loc):=if_pos rfl
theorem ju.at (Y:ju s H L cs mn){n:Str}{c:OO}(h:(n,c)∈cs):lU U L cs c=W8 (L,.cell n):=by
 unfold lU;refine ab (if_neg (Y.cell n c h).2.2.1) ?_;cases e:cs.find? λp=>p.2==c with
 |none=>exact absurd (beq_self_eq_true c) (Wr.mp e _ h)
 |some p=>obtain⟨e1,e2⟩:=jh e;rw[<-e1]at h;exact ab (Y.one _ _ _ h e2) rfl
theorem ju.of (Y:ju s H L cs mn){b c:OO}{q:Slot}(h:lU U L cs b=W8 (c,q)):U b=W8 (c,q) \/(c=L/\ s.heap.get? b=W9/\ ∃o,H.get? b=W8 o):=by
 injections s mn H cs U L b c q _ Y h;unfold lU at h;by_cases e:b=L
 ·rw[if_pos e]at h
  obtain⟨m,o,_,_,ho,_⟩:=Y.ns;exact .inr ⟨(congrArg Ta (Oh h)).symm,e▸Y.new,o,e▸ho⟩
 ·rw[if_neg e]at h
  cases e':cs.find? λp=>p.2==b with
  |none=>rw[e']at h;exact .inl h
  |some p=>rw[e']at h;obtain⟨e1,e2⟩:=jh e';obtain⟨_,h2,_,v,o,h3,_⟩:=Y.cell p.1 p.2 e2;rw[e1]at h2 h3;exact .inr ⟨(congrArg Ta (Oh h)).symm,h2,o,h3⟩
theorem ju.old (Y:ju s H L cs mn){b:OO}(e:s.heap.get? b=W8 o):lU U L cs b=U b:=by
 have nw:∀ {c:OO},s.heap.get? c=W9->b≠c:=λh e'=>by rw[e',h]at e;cases e
 unfold lU;refine ab (if_neg (nw Y.new)) ?_;cases e':cs.find? λp=>p.2==b with
 |none=>rfl
 |some p=>exact absurd (jh e').1.symm (nw (Y.cell p.1 p.2 (jh e').2).2.1)
theorem ju.ev (Y:ju s H L cs mn)(ok:aY C U s):Ev C (only L) J U s (lU U L cs) {s with heap:=H,toks:=tk}:=
 have hl:∃o,H.get? L=W8 o:=(by obtain⟨_,o,_,_,ho,_⟩:=Y.ns;exact⟨o,ho⟩)
 Ev.new (aH.heap Y.keep) (λb o e=>Y.old e) λb c q h e=>(Y.of h).elim (λh=>absurd (ok.not e) (h▸PY _)) λh=>⟨h.1,h.2.2,h.1▸hl⟩
theorem bF.enter (ok:aY C U s)(Y:ju s H env.locals cs cx.mn)(es:env.locals∉C.T/\ (∀x c,env.cells.lookup x=W8 c->c∉C.T)->Ie C cx env)(own0:cx.own= [])(inj:∀x y i,cx.vars.lookup x=W8 i->cx.vars.lookup y=W8 i->x=y)
 (cell:∀n c,env.cells.lookup n=W8 c->(n∈cx.mn/\ (n,c)∈cs) \/(n∉cx.mn/\ ∃v,s.heap.IsCell c v)) (cT:∀n c,env.cells.lookup n=W8 c->n∉cx.mn->c∉C.T)
 (caps:∀x∈cx.caps,(env.kindOf x=W8 .cell \/env.kindOf x=W8 .free)/\ ∃c v,env.cells.lookup x=W8 c/\ H.IsCell c v)
 (loc:∀x i,cx.vars.lookup x=W8 i->i∉cx.fre->env.kindOf x=W8 .local \/(env.kindOf x=W8 .cell/\ x∈cx.mn/\ ∃c,env.cells.lookup x=W8 c))
 (vars:∀x i t,cx.vars.lookup x=W8 i->aK σ i=W8 t->∃v,Holds env {s with heap:=H,toks:=tk} x v/\ bj C.cls (view U s.heap) t v):
 bF C cx (lU U env.locals cs) env σ {s with heap:=H,toks:=tk}:=by
 injections tk s cx env H cs U σ _ ok Y es own0 inj cell cT caps loc vars;have ev:Ev C (only env.locals) bM U s (lU U env.locals cs) {s with heap:=H,toks:=tk}:=Y.ev ok;have le:=ev.le ok.tU;have lT:Le (b0 C.T s.heap) (b0 C.T H):=(aH.heap (tk:=tk) Y.keep).leT;have nw:∀ {b:OO} {q:Slot},lU U env.locals cs b=W8 (env.locals,q)->s.heap.get? b=W9:=λh=>(Y.of h).elim (λh=>by obtain⟨_,o,e⟩:=ok.live _ _ _ h;rw[Y.new]at e;cases e) λh=>h.2.1;have no:∀ {b:OO} {o:Obj},s.heap.get? b=W8 o->∀q,lU U env.locals cs b≠W8 (env.locals,q):=λe q h=>by rw[nw h]at e;cases e
 exact{tobA:= {
        toaY:=(ev.go ok).1
        toIe:=es ⟨(ok.new Y.new).1,λx c h=>(cell x c h).elim (λh=>(ok.new (Y.cell _ _ h.2).2.1).1) λh'=>cT x c h h'.1⟩
        caps:=caps
        vars:=λx i t hx ht=>(by obtain⟨v,h1,h2⟩:=vars x i t hx ht;exact⟨v,h1,λ_=>bj.mono le _ _ h2,λh=>by rw[own0]at h;cases h⟩)}
       hL:=yA
       hc:=λn c hn h=>(cell n c h).elim (λh=>Y.at h.2) λh=>absurd hn h.1
       hf:=λn c hn h=>(cell n c h).elim (λh=>absurd h.1 hn) λh=>(by obtain⟨v,o,h1,h2⟩:=h.2;exact⟨no h1,v,o,Y.keep _ _ h1,h2⟩)
       base:=λa q h=>let h:=ok.new (nw h);⟨h.1,h.2.2⟩
       loc:=λx i hx hf=>(loc x i hx hf).imp id λ⟨h1,h2,c,h3⟩=>⟨h1,h2,c,(cell x c h3).elim (λh=>(by obtain⟨_,_,_,v,h4⟩:=Y.cell _ _ h.2;exact⟨v,h3,h4⟩)) λh=>absurd h2 h.1⟩
       ns:=Y.ns
       inj:=inj
       own:=λx i t hx h=>by rw[own0]at h;cases h}
theorem Ev.off (ok:aY C U s)(ev:Ev C O J U s U' s')(hO:∀c,O c->s.heap.get? c=W9)(hJ:∀j,J j->s.gens[j]?=W9):aH C s s'/\ ∀b,U' b=W9->U b=W9:=
 have no:∀ {b:OO},∀c q,U b=W8 (c,q)->¬O c:=λc q h e=>by obtain⟨_,o,h'⟩:=ok.live _ c q h;rw[hO c e]at h';cases h'
 ⟨⟨λb o hT e=>ev.keep b o hT no e,ev.os,λi x e=>ev.gen i x (λh=>by rw[hJ i h]at e;cases e) e,λ_=>(ev.go ok).1.inv⟩,λb h1=>by
  cases h:s.heap.get? b with
  |none=>exact ok.not h
  |some o=>exact(ev.col b o h no).symm.trans h1⟩
end
end
section
section
variable{e:Ol}{d:Nat}{acc:Oq}{R:Result->On->Prop}{gens:List Qi}
def si (XU:List Ol)(env:Env):Sem Bool:=forIn XU true λc r=>if r=true then do let ok <-isTrue c env (PX c env);pure (Rs ok)else pure (Rs r)
def Gg (e:Ol)(d:Nat)(it acc:Oq)(env:Env)(target:Ol)(XU:List Ol)(p:Pos)(rest:Sem Fin):Sem Fin:=
 Qb p>>=λ_=>Sk it>>=λr=>match r with
 |none=>pure (.done .next)
 |some v=>QB target it v>>=λ_=>WM target env v>>=λ_=>si XU env>>=λok=>if ok=true then rest else again (.compLoop e d it acc env)
def mN (e:Ol)(d:Nat)(target:Ol)(XU:List Ol)(inner:Oq->Env->Sem Unit):Prop:=
 ∃p,∀it acc env,∃rest,TZ e d it acc env=Gg e d it acc env target XU p rest/\ ∀ {A:O6} {s:On} {Q:Fin->On->Prop},Oz (Ov ag w) A (inner acc env) (λ_ s'=>Q (.again (.compLoop e d it acc env)) s') (λ_ _=>False) s->Oz (Ov ag w) A rest Q (λ_ _=>False) s
def mw (elt:Ol)(acc:Oq)(env:Env):Sem Unit:=do let _ <-call (.builtin "list.append") [acc,<-PX elt env]
theorem vf (hg:gens[d]?=W8 ⟨target,iter,XU,0⟩)(hn:gens[d+1]?=W9):mN (.ListComp elt gens scope pos) d target XU (mw elt):=by refine⟨iter.pos,λit acc env=>⟨mw elt acc env>>=λ_=>again (.compLoop (.ListComp elt gens scope pos) d it acc env),?_,λh=>Og (Ot h (λ_ s' q=>Oi q) λ_ _ f=>f)⟩⟩;unfold TZ;simp only[hg,hn];rfl
def jk (e:Ol)(d:Nat)(i':Ol)(acc:Oq)(env:Env):Sem Unit:=do
 let x <-PX i' env
 Qb i'.pos
 let x <-OU i' env x;let _ <-runOwn (.compStart e (d+1) (<-Qo [x] (Ti x)) acc env) env
theorem ve (hg:gens[d]?=W8 ⟨target,iter,XU,0⟩)(hn:gens[d+1]?=W8 ⟨t',i',f',0⟩):mN (.ListComp elt gens scope pos) d target XU (jk (.ListComp elt gens scope pos) d i'):=by
 injections pos target iter elt t' i' scope XU f' d gens _ hg hn;refine⟨iter.pos,λit acc env=>⟨jk (.ListComp elt gens scope pos) d i' acc env>>=λ_=>again (.compLoop (.ListComp elt gens scope pos) d it acc env),?_,λh=>Og (Ot h (λ_ s' q=>Oi q) λ_ _ f=>f)⟩⟩
 delta TZ jk
 simp only[hg,hn,bind_assoc];rfl
structure mQ (e:Ol) (gens:List Qi):Prop where
 cl:clausesOf e=gens
 fr:∀d it acc env,(WA.compStart e d it acc env).isFrame=false
 fr':∀d it acc env,(Vh e d it acc env).isFrame=false
 q:∀d it acc env,(Vh e d it acc env).quiet=true
 un:∀(A:O6) d it acc env,A.under (.compStart e d it acc env)=A
 un':∀(A:O6) d it acc env,A.under (.compLoop e d it acc env)=A
theorem eZ:mQ (.ListComp elt gens scope pos) gens:=⟨rfl,λ_ _ _ _=>rfl,λ_ _ _ _=>rfl,λ_ _ _ _=>rfl,λ_ _ _ _ _=>rfl,λ_ _ _ _ _=>rfl⟩
theorem wn {inner:Oq->Env->Sem Unit}(hT:mN e d target XU inner)(hE:mQ e gens)(I:Nat->On->Prop)
 (turn:∀n s,I n s->Oz (Ov ag w) A (Sk it) (λr XB=>match r with
   |none=>R (.ok .next) XB
   |some v=>Oz (Ov ag w) A (QB target it v) (λ_ XC=>Oz (Ov ag w) A (WM target env v) (λ_ XJ=>Oz (Ov ag w) A (si XU env) (λok Ym=>if ok=true then Oz (Ov ag w) A (inner acc env) (λ_ X9=> ∃m,m<n/\ I m X9) (λ_ _=>False) Ym else ∃m,m<n/\ I m Ym) (λ_ _=>False) XJ) (λ_ _=>False) XC) (λ_ _=>False) XB) (λ_ _=>False) s)
 (n:Nat) (h:I n s):Ra (Ov ag w) A (.compLoop e d it acc env) R s:=by
 injections s A it env target XU e d acc R gens inner I n _ hT hE turn h;refine codeAny_loop (hE.q ..) I (λn s hI=> ?_) n h;obtain⟨p,hT⟩:=hT;obtain⟨rest,e1,hr⟩:=hT it acc env;rw[hE.un'];show Oz _ A (if(Vh e d it acc env).isFrame then(TZ e d it acc env).onRaise (leaving env)else(TZ e d it acc env).onRaise (λx=>do WG x env;Vm x)) _ _ s;rw[hE.fr'];refine wpAny_noted ?_;refine ab e1 ?_;refine Og (Py (Og (Ot (turn n s hI) (λr XB XM=> ?_) λ_ _ f=>f.elim)));cases r with
 |none=>exact Oi XM
 |some v=>
  refine Og (Ot XM (λ_ XC XN=>Og (Ot XN (λ_ XJ X5=>Og (Ot X5 (λok Ym Za=> ?_) λ_ _ f=>f.elim)) λ_ _ f=>f.elim)) λ_ _ f=>f.elim);cases ok with
  |false=>exact Oi ⟨rfl,Za⟩
  |true=>exact Ot (hr (Ot Za (λ_ _ q=>⟨rfl,q⟩) λ_ _ f=>f)) (λ_ _ q=>q) λ_ _ f=>f.elim
theorem mE {g:Qi}(hg:gens[d]?=W8 g)(ha:g.is_async=0)(hE:mQ e gens)
 (h0:Ra (Ov ag w) A (.compLoop e d it acc env) R s) (h:Oz (Ov ag w) A (Ti it) (λit' s'=>Ra (Ov ag w) A (.compLoop e d it' acc env) R s') (λ_ _=>False) s):
 Ra (Ov ag w) A (.compStart e d it acc env) R s:=by
 refine R4 ?_;show Oz _ _ (if(WA.compStart e d it acc env).isFrame then(compStart e d it acc env).onRaise (leaving env)else(compStart e d it acc env).onRaise (λx=>do WG x env;Qb theWindowsPlace)) _ _ s;rw[hE.fr,hE.un];refine wpAny_notedAt ?_;unfold compStart;refine ab hE.cl (ab hg ?_);rw[Option.elim_some,ha];refine Og (Ps (wpAny_ite ?_));split
 ·first
   |exact Og (Oi (Oi (And.intro (hE.q ..) h0)))
   |exact Oi (And.intro (hE.q ..) h0)
 ·exact Og (QL (Og (Py (Og (Ot h (λit' s' h'=>Oi (And.intro (hE.q ..) h')) λ_ _ f=>f.elim)))))
end
end
section
section
variable{n:Str}
def dx (ci:Cx)(σ:ai):Bool:=ci.vars.all λp=>ci.fre.contains p.2 || (aK σ p.2).isNone
theorem og (h:dx ci σ=true){i:Nat}(hx:ci.vars.lookup n=W8 i)(hf:i∉ci.fre):aK σ i=W9:=by exact((Tq _ _).mp (Ou.mp h _ (mem_of_lookup hx))).elim (λh=>absurd (Re.mp h) hf) UO.mp
theorem uQ (x:bA C cx U env σ s)(hc:n∈cx.caps)(h:Holds env s n v):∃c,env.cells.lookup n=W8 c/\ s.heap.IsCell c (W8 v):=by
 have hk:=(x.caps n hc).1;rcases h with⟨h1,_⟩ | ⟨_,h⟩
 ·rw[h1]at hk;rcases hk with h |h<;>cases h
 ·exact h
noncomputable abbrev uP (s:On)(names:jt):O0:=pushCells (s.heap.push {cls:= .type "dict",data:= .dict #[]}) names
noncomputable abbrev d8 (s:On)(names:jt):List (Str×OO):=RJ (s.heap.push {cls:= .type "dict",data:= .dict #[]}).objs.size names []
theorem sY {names:jt}(hn:∀x,(x,Rc)∈names->x∈mn):ju s (uP s names) s.heap.objs.size (d8 s names) mn/\ (uP s names).Ns s.heap.objs.size λ_=>W9:=by injections s mn names _ hn;have fresh:∀ {a},s.heap.objs.size<=a->s.heap.get? a=W9:=OX;have ck:CellsOk (uP s names) (s.heap.objs.size+1) (d8 s names):=cellsFrom_ok names _ _ [] ⟨λn c h=>(nomatch h),List.Pairwise.nil⟩ (by rw[Sc];exact O5 _);have ns:(uP s names).Ns s.heap.objs.size λ_=>W9:=⟨_,#[],0,pushCells_keeps _ _ _ _ (OB _ rfl),rfl,λe he=>(TG e he).elim,λx=>rfl⟩;exact⟨⟨λb o e=>pushCells_keeps _ _ b o (Om _ e),fresh (O5 _),⟨_,ns⟩,λn c h=>⟨hn n (dq h),fresh (WQ (ck.empty n c h).2),Qh (ck.empty n c h).2,_,(ck.empty n c h).1⟩,j5 ck.apart⟩,ns⟩
theorem lQ {l r:List (Str×OO)}:(l++r).lookup n=(l.lookup n).or (r.lookup n):=Wq
theorem tx (cc:p8 scope cx ci)(x:bA C cx U env σ s)(hg:dx ci σ=true)
 (Y8:∀x c,cl.lookup x=W8 c->env.cells.lookup x=W8 c) (Zn:∀x,(x,PQ)∈scope.names->∃c,cl.lookup x=W8 c) (YB:∀p∈cl,(p.1,PQ)∈scope.names) {Q:Env->On->Prop}
 (q:∀cenv cs H,ju s H cenv.locals cs ci.mn->H.Ns cenv.locals (λ_=>W9)->bF C ci (lU U cenv.locals cs) {cenv with scope:=TO scope env} σ {s with heap:=H}->(∀n c,n∉ci.mn->cenv.cells.lookup n=W8 c->env.cells.lookup n=W8 c/\ n∈cx.caps)->Q cenv {s with heap:=H}):
 Oz (Ov ag w) A (newFunctionEnv scope env.globals cl [] env.qual W9 .none (W8 env)) Q (λ_ _=>False) s:=by
 injections s A cx ci env scope cl U σ Q _ cc x hg Y8 Zn YB q;refine Og (Tu ?_);refine Og (wpAny_layCells _ (λname kind cells=>by cases hkc:kind==Rc<;>simp[hkc]) _ _ _ _ ?_);rw[ca];obtain⟨Y,ns⟩:=sY (s:=s) (names:=scope.names) (mn:=ci.mn) λx h=>(cc.names _ h).1 rfl;have csn:∀n,n∉ci.mn->(d8 s scope.names).lookup n=W9:=λn h=>by
  cases e:(d8 s scope.names).lookup n with
  |none=>rfl
  |some c=>exact absurd (Y.cell n c (mem_of_lookup e)).1 h
 have css:∀n,n∈ci.mn->∃c,(d8 s scope.names).lookup n=W8 c:=λn h=>(by obtain⟨c,hc⟩:=c6 (cc.mn n h);exact fu hc);have look:∀n,n∉ci.mn->(d8 s scope.names++cl).lookup n=cl.lookup n:=λn h=>by refine ab lQ (ab (csn n h) ?_);rfl
 have lookM:∀n,n∈ci.mn->∃c,(d8 s scope.names++cl).lookup n=W8 c/\ (n,c)∈d8 s scope.names:=λn h=>(by obtain⟨c,hc⟩:=css n h;exact⟨c,by refine ab lQ (ab hc ?_);rfl,mem_of_lookup hc⟩);have old:∀n c,n∉ci.mn->(d8 s scope.names++cl).lookup n=W8 c->env.cells.lookup n=W8 c/\ n∈cx.caps:=λn c hn hc=>by rw[look n hn]at hc;exact⟨Y8 n c hc,((cc.names _ (YB _ (mem_of_lookup hc))).2.2 rfl).1⟩
 have cap:∀ {n v} {H:O0},(∀b o,s.heap.get? b=W8 o->H.get? b=W8 o)->scope.names.lookup n=W8 .free->n∈cx.caps->(∃c,env.cells.lookup n=W8 c/\ s.heap.IsCell c v)->∃c,(d8 s scope.names++cl).lookup n=W8 c/\ H.IsCell c v:=λ {n v H} hk h1 h2 h=>by obtain⟨c,hc⟩:=Zn n (mem_of_lookup h1);have h3:=Y8 n c hc;obtain⟨c',h4,h5⟩:=h;exact⟨c,by refine ab (look n ((cc.names _ (mem_of_lookup h1)).2.2 rfl).2) ?_;exact hc,(Oh (h4.symm.trans h3))▸h5.keeps hk⟩
 refine Oi (q _ (d8 s scope.names) _ Y ns ?_ old);refine bF.enter (env:= {scope:=TO scope env,locals:=s.heap.objs.size,globals:=env.globals,cells:=d8 s scope.names++cl,qual:=env.qual,func:=W9,code:=env.code,frame:=env.frame,builtins:=env.builtins}) x.toaY Y (λfr=>⟨cc.kind.1,x.gl,x.bi,cc.kind.2.1,λh=>x.code (cc.kind.2.2.1 h),fr,λy i h=>eB (cc.vars _ (mem_of_lookup h)).1,λy h=>⟨ee rfl (cc.globs y h).1,(eB (cc.globs y h).2).1⟩⟩) cc.kind.2.2.2 cc.inj.eq (λn c h=> ?_) (λn c h hn=>x.frame.2 n c (old n c hn h).1) (λn h=> ?_) (λn i hx hf=> ?_) λn i t hx ht=> ?_
 ·by_cases hm:n∈ci.mn
  ·obtain⟨c',h1,h2⟩:=lookM n hm
   exact .inl ⟨hm,Oh (h1.symm.trans h)▸h2⟩
  ·obtain⟨h1,h2⟩:=old n c hm h
   obtain⟨_,c',v,h3,h4⟩:=x.caps n h2;rw[h1]at h3;exact .inr ⟨hm,v,Oh h3▸h4⟩
 ·rcases cc.caps n h with⟨h1,h2,h3⟩ | ⟨h1,h2⟩
  ·obtain⟨_,c,v,h4⟩:=x.caps n h2
   obtain⟨c',h5⟩:=cap Y.keep h1 h2 ⟨c,h4⟩;exact⟨iZ h1,c',v,h5⟩
  ·obtain⟨c,h3,h4⟩:=lookM n h2
   obtain⟨_,_,_,v,h5⟩:=Y.cell n c h4;exact⟨.inl (ee rfl h1),c,v,h3,h5⟩
 ·rcases(cc.vars _ (mem_of_lookup hx)).2.1 hf with h | ⟨h,hm⟩
  ·exact .inl (ee rfl h)
  ·obtain⟨c,h3,_⟩:=lookM n hm
   exact .inr ⟨ee rfl h,hm,c,h3⟩
 ·by_cases hf:i∈ci.fre
  ·obtain⟨h1,h2,h3,h4⟩:=(cc.vars _ (mem_of_lookup hx)).2.2 hf
   obtain⟨v,q1,q2,_⟩:=x.vars n i t h2 ht;exact⟨v,.inr ⟨iZ h1,cap Y.keep h1 h4 (uQ x h4 q1)⟩,q2 h3⟩
  ·rw[og hg hx hf]at ht;cases ht
end
end
section
section
variable{D:OO}{l:List V}{b:Bool}{it':Ol}{i:Nat}{n m:Str}{e:Ol}{d:Nat}{gens:List Qi}{f:ai->Option (List V)}
theorem bF.weak (x:bF C cx U env σ' s)(h:∀i t,aK σ i=W8 t->aK σ' i=W8 t):bF C cx U env σ s:=
 {x with tobA:= {x.tobA with vars:=λn i t h1 h2=>x.vars n i t h1 (h i t h2)},own:=λn i t h1 h2 h3=>x.own n i t h1 h2 (h i t h3)}
def collect (f:V->Option (List V)):List V->Option (List V)
 | []=>W8 []
 |x::xs=>(f x).bind λa=>(collect f xs).bind λb=>W8 (a++b)
def aj (st:V->ai->Option ai)(cond:ai->Option Bool)(inner:ai->Option (List V))(σ:ai)(x:V):Option (List V):=(st x σ).bind λXK=>(cond XK).bind λb=>if b then inner XK else W8 []
def aF (e:ED):ai->Option (List V):=λσ=>(e σ).map λt=> [t]
def ku (it:ai->Option (List V))(f:ai->V->Option (List V)):ai->Option (List V):=λσ=>(it σ).bind λxs=>collect (f σ) xs
def nb (i:Nat)(st:V->ai->Option ai):V->ai->Option ai:=λx σ=>match aK σ i with
 |none=>st x σ
 |some _=>W9
def bg (i:Nat):V->ai->Option ai:=nb i (cH i)
def iz (i j:Nat):V->ai->Option ai:=nb i (nb j (eH i j))
theorem Ir (e:nb i st x σ=W8 σ')(k:aK σ i=W9->st x σ=W8 σ'->P):P:=by
 unfold nb at e;cases h:aK σ i with
 |none=>rw[h]at e;exact k h e
 |some t=>rw[h]at e;cases e
def wM (st:V->ai->Option ai):Prop:= ∀x σ XK,st x σ=W8 XK->∀i t,aK σ i=W8 t->aK XK i=W8 t
theorem tR {q:Option V}(hn:aK σ i=W9)(h:aK σ j=W8 t):aK (aw σ i q) j=W8 t:=by refine ab (aU λq=>by rw[q,hn]at h;cases h) ?_;exact h
theorem up1:wM (bg i):=λx σ XK e j t h=>Ir e λhn e=>Oh e▸tR hn h
theorem My:wM (iz i j):=λx σ XK e l t h=>Ir e λhn e=>Ir e λhm e=>AM e λa b _ e=>by refine bV e (ab (aU λq=>by rw[q,hm]at h;cases h) ?_);exact tR hn h
theorem sh (h:d9 C k cx b target st):d9 C k cx b target (nb i st):=λA U env σ σ' s x v rm h' e hi=>Ir e λ_ e=>h A U env σ σ' s x v rm h' e hi
theorem w7 (hx:cx.vars.lookup n=W8 i)(ho:i∉cx.own)(hf:i∉cx.fre):d9 C k cx false (.Name n p) (bg i):=sh (dZ hx ho hf)
theorem Dx {tp:Pos}(hx:cx.vars.lookup n=W8 i)(ho:i∉cx.own)(hf:i∉cx.fre)(hy:cx.vars.lookup m=W8 j)(Yw:j∉cx.own)(Zv:j∉cx.fre):d9 C k cx b (.Tuple [.Name n p,.Name m q] ct tp) (iz i j):=sh (sh (oR hx ho hf hy Yw Zv))
def gC (C:Cf ag w)(k:Nat)(cx:Cx)(XU:List Ol)(d:ai->Option Bool):Prop:=
 ∀(A:O6) (U:Ow) (env:Env) (σ:ai) (s:On) (b:Bool),aV A k->bA C cx U env σ s->d σ=W8 b->Oz (Ov ag w) A (si XU env) (λb' s'=>aH C s s'/\ b'=b) (λ_ _=>False) s
theorem ng:gC C k cx [] λ_=>W8 true:=λA U env σ s b rm x e=>wpAny_tests_nil ⟨.refl s,Oh e⟩
theorem vh {d:ai->Option Bool}(h:fi C k cx pe d):gC C k cx [pe] d:=λA U env σ s b rm x e=>wpAny_tests_one (h A U env σ s b rm x e)
structure AC (C:Cf ag w) (ci:Cx) (mk:List V->V) (D:OO) (U:Ow) (env:Env) (σ:ai) (s:On) (l:List V):Prop where
 x:bF C ci U env σ s
 nD:D≠env.locals
 nT:D∉C.T
 nB:C.hb.get? D=W9
 oD:U D=W8 (D,.obj)
 fD:∀n c,n∉ci.mn->env.cells.lookup n=W8 c->∀q,U c≠W8 (D,q)
 acc:fe C.cls s.heap.get? (view U s.heap) (mk l) (.ref D)
 inst:∀l c fs,mk l≠ .inst c fs
theorem AC.weak (a:AC C ci mk D U env σ' s l)(h:∀i t,aK σ i=W8 t->aK σ' i=W8 t):AC C ci mk D U env σ s l:= {a with x:=a.x.weak h}
theorem AC.other (a:AC C ci mk D U env σ s l)(ev:Ev C O J U s U' s')(x':bF C ci U' env σ' s')(hD:¬O D)(hf:∀n c,n∉ci.mn->env.cells.lookup n=W8 c->∀c' q,U c=W8 (c',q)->¬O c'):AC C ci mk D U' env σ' s' l:=
 have no:∀c q,U D=W8 (c,q)->¬O c:=λc q h=>by rw[a.oD]at h;cases h;exact hD
 {a with
  x:=x'
  oD:=(by obtain⟨⟨o,h⟩,_⟩:=a.x.live _ _ _ a.oD;exact(ev.col D o h no).trans a.oD)
  fD:=λn c h1 h2 q=>(by obtain⟨_,v,o,h,_⟩:=a.x.hf n c h1 h2;exact ev.col c o h (hf n c h1 h2)▸a.fD n c h1 h2 q)
  acc:=a.acc.at (a.inst l) (λo e=>ev.keep D o a.nT no e) (ev.le a.x.tU)}
theorem AC.step (a:AC C ci mk D U env σ s l)(ev:Ev C (only env.locals) J U s U' s')(x':bF C ci U' env σ' s'):AC C ci mk D U' env σ' s' l:=
 a.other ev x' a.nD λn c h1 h2 c' q h e=>(a.x.hf n c h1 h2).1 q ((show c'=env.locals from e)▸h)
theorem AC.grow (a:AC C ci mk D U env σ s l)(g:aH C s s'):AC C ci mk D U env σ s' l:=a.step (J:=bM) g.ev (a.x.grow g)
theorem AC.turn (a:AC C ci mk D U env σ s l)(hs:OE D s.heap h')(hl:∃o,h'.get? D=W8 o)(acc:fe C.cls h'.get? (view U s.heap) (mk l') (.ref D)):
 AC C ci mk D U env σ {s with heap:=h',toks:=tk} l'/\ Ev C (only D) bM U s U {s with heap:=h',toks:=tk}:=
 have ev:Ev C (only D) bM U s U {s with heap:=h',toks:=tk}:= .one a.oD rfl a.nB a.nT hs.extBut hl
 ⟨{a with x:=a.x.other ev (λe=>a.nD e.symm) λn c h1 h2 c' q h e=>a.fD n c h1 h2 q ((show c'=D from e)▸h),acc:=acc.mono (Le.refl _) (gW ((a.oD)▸PY _) hs)},ev⟩
noncomputable abbrev fQ (L D:OO):cK:=λc=>c=L \/c=D
def u7 (C:Cf ag w)(k:Nat)(ci:Cx)(mk:List V->V)(em:Oq->Env->Sem Unit)(f:ai->Option (List V)):Prop:=
 ∀(A:O6) (U:Ow) (env:Env) (σ:ai) (s:On) (D:OO) (l ys:List V),aV A k->AC C ci mk D U env σ s l->f σ=W8 ys->l.length+ys.length<=lim->Oz (Ov ag w) A (em (.ref D) env) (λ_ s'=> ∃U',Ev C (fQ env.locals D) bM U s U' s'/\ AC C ci mk D U' env σ s' (l++ys)) (λ_ _=>False) s
theorem wf (he:aC C k ci elt de):u7 C k ci Xe (mw elt) (aF de):=λA U env σ s D l ys rm a e hlen=>dF e λt ht e=>Og (he.run rm a.x ht λv XB g XD rv=>Og (by have a₁:=a.grow g;rw[<-e]at hlen⊢;obtain⟨vs,m,h1,h2⟩:=iT a₁.acc;have:=h2.length;have ZB:(lim:Nat)=4096:=rfl;refine Tr (items:=vs.toArray) ⟨m,h1⟩ (λh' YR X2=> ?_) (by refine ab OI ?_;exact Op (Op (O2 this) (Rt _ _)) (Op hlen lR));obtain⟨m',YJ⟩:=YR;have t:=a₁.turn (l':=l++ [t]) (tk:=XB.toks) X2 ⟨_,YJ⟩ (by exact⟨D,vs++ [v],rfl,⟨m',by rw[YJ,Ui]⟩,aq.append h2 (aq.cons rv aq.nil)⟩);exact Oi ⟨U,(g.ev (J:=bM)).trans a.x.toaY t.2 (λ_ h=> .inl (.inr h)) (λ_=> .inl),t.1⟩))
structure LF (C:Cf ag w) (k:Nat) (A:O6) (ci:Cx) (b:Bool) (target:Ol) (it:Oq) (D:OO) (Dn F:cK) (J:Nat->Prop) (St:cK->Ow->List V->On->Prop) (U:Ow) (env:Env) (σ:ai) (s:On):Prop where
 x:bF C ci U env σ s
 far:Ag C ci Dn U env s
 hD:Dn D
 I:It C k A b target it F J St
 nF:¬F env.locals/\ ¬F D
inductive CI (C:Cf ag w) (ci:Cx) (mk:List V->V) (env:Env) (D:OO) (Dn:cK) (J:Nat->Prop) (St:cK->Ow->List V->On->Prop) (U:Ow) (s:On) (xs l:List V) (σ':ai) (s':On):Prop
 |mk (W:cK) (U':Ow) (L:LI C ci env Dn J U s W σ' U' s') (a:AC C ci mk D U' env σ' s' l) (nW:¬W D) (st:St W U' xs s')
theorem LI.by_ (F:LF C k A ci b target it D Dn F J St U env σ s)(L:LI C ci env Dn J U s W σ' U' s')(ev:Ev C (fQ env.locals D) bM U' s' XE XC)(XG:bF C ci XE env σ₂ XC):LI C ci env Dn J U s W σ₂ XE XC:=
 ⟨XG,L.ev.trans F.x.toaY ev (λc h=> .inl (Or.imp id (λ(e:c=D)=>e.symm▸F.hD) h)) λ_ h=>h.elim,L.hW⟩
theorem LF.by_ (F':LF C k A ci b target it D Dn F J St U env σ s)(L:LI C ci env Dn J U s W σ' U' s')(nW:¬W D)(st:St W U' xs s')(ev:Ev C (fQ env.locals D) bM U' s' XE XC)(Zs:AC C ci mk D XE env σ₂ XC l'):CI C ci mk env D Dn J St U s xs l' σ₂ XC:=
 ⟨W,XE,L.by_ F' ev Zs.x,Zs,nW,F'.I.keep st L.x.toaY ev λc h=>by
  rcases h with h |h
  ·refine ab h ?_;exact⟨λh=>F'.far.nL (L.hW _ h),F'.nF.1⟩
  ·refine ab h ?_;exact⟨nW,F'.nF.2⟩⟩
theorem AC.turnI (F:LF C k A ci b target it D Dn F J St U env σ s)(L:LI C ci env Dn J U s W σ' U' s')(a:AC C ci mk D U' env σ' s' l)(nW:¬W D)(ev:Ev C W J U' s' XE XC)(hW:∀c,W' c->W c \/s'.heap.get? c=W9):LI C ci env Dn J U s W' σ' XE XC/\ AC C ci mk D XE env σ' XC l/\ ¬W' D:=
 have Ys:=L.turn F.x F.far ev hW
 ⟨Ys,a.other ev Ys.x nW λn c h1 h2 c' q h3 h4=>(by
  obtain⟨h5,v,o,h6,_⟩:=F.x.hf n c h1 h2;have nD:=F.far.free n c h1 h2;exact nD c' q ((L.ev.col c o h6 λc' q e h=>h.elim (λe'=>h5 q (e'▸e)) (nD c' q e)).symm.trans h3) (L.hW _ h4)),λh=>(hW D h).elim nW λh=>by
  obtain⟨⟨o,e⟩,_⟩:=a.x.live _ _ _ a.oD;rw[h]at e;cases e⟩
def cX (C:Cf ag w)(k:Nat)(ci:Cx)(mk:List V->V)(e:Ol)(d:Nat)(b:Bool)(target:Ol)(f:ai->V->Option (List V)):Prop:=
 ∀(A:O6) (U:Ow) (env:Env) (it:Oq) (D:OO) (Dn F:cK) (J:Nat->Prop) (St:cK->Ow->List V->On->Prop) (s s':On) (σ:ai) (xs l ys:List V),aV A k->
  LF C k A ci b target it D Dn F J St U env σ s->CI C ci mk env D Dn J St U s xs l σ s'->collect (f σ) xs=W8 ys->l.length+ys.length<=lim->
  Ra (Ov ag w) A (.compLoop e d it (.ref D) env) (λr s'=>r= .ok .next/\ ∃U',Ev C (λc=>c=env.locals \/Dn c) J U s U' s'/\ AC C ci mk D U' env σ s' (l++ys)) s'
inductive CJ (C:Cf ag w) (ci:Cx) (mk:List V->V) (env:Env) (D:OO) (Dn:cK) (J:Nat->Prop) (St:cK->Ow->List V->On->Prop) (U:Ow) (s:On) (σ:ai) (cl:List V->Option (List V)) (zs:List V) (n:Nat) (s':On):Prop
 |mk (rem l c:List V) (hn:n=rem.length) (I:CI C ci mk env D Dn J St U s rem l σ s') (hc:cl rem=W8 c) (hz:l++c=zs)
theorem jV {em:Oq->Env->Sem Unit}(hE:mQ e gens)(hT:mN e d target XU em)(ht:d9 C k ci b target st)(hu:wM st)(Y4:gC C k ci XU cond)(he:u7 C k ci mk em f):cX C k ci mk e d b target (aj st cond f):=by
 injections k ci target XU mk st cond b e d gens f em _ hE hT ht hu Y4 he;exact λA U env it D Dn F J St s s' σ xs l ys rm Lf I e' hlen=>by
  refine wn hT hE (CJ C ci mk env D Dn J St U s σ (collect (aj st cond f σ)) (l++ys)) (λn XB h=> ?_) xs.length ⟨xs,l,ys,rfl,I,e',rfl⟩;obtain⟨rem,l₁,c,hn,I,hc,hz⟩:=h;obtain⟨W,XX,L,a,nW,st₁⟩:=I;cases rem with
  |nil=>refine Lf.I.stop rm st₁ L.x.toaY λXC XE XH=> ?_;obtain⟨Ys,Zs,_⟩:=a.turnI Lf L nW XH λ_=> .inl;rw[<-Oh hc,QQ]at hz;exact⟨rfl,XE,Ys.ev,hz▸Zs⟩
  |cons y rem=>
   refine ay hc λc₁ X8 hc=>ay hc λc₂ Z3 hc=>ay X8 λXK h1 X8=>ay X8 λt h2 X8=>Lf.I.step rm st₁ L.x.toaY λv XC h=>Ot h (λ_ XJ nx=> ?_) λ_ _ f=>f.elim;rw[<-Oh hc]at hz;obtain⟨W₃,Yc,hW₃,XR,st₃,itm⟩:=nx;have YI:=(a.turnI Lf L nW XR hW₃).1;have a₃:=(a.turnI Lf L nW XR hW₃).2.1;have nW₃:=(a.turnI Lf L nW XR hW₃).2.2;refine cf (ht A Yc env σ XK XJ y v rm YI.x h1 itm) λ_ Ym Yd X1=>cf (Y4 A Yc env XK Ym t rm Yd.tobA h2) λt' X9 g ht'=> ?_;have X0:Ev C (only env.locals) bM Yc XJ Yc X9:=X1.trans YI.x.toaY (J':=bM) (O':=only env.locals) g.ev (λ_=> .inl) λ_=> .inl;have Zr:=a₃.step X0 (Yd.grow g);have fin:∀ {l₂ Zi U₆},Ev C (fQ env.locals D) bM Yc XJ U₆ Zi->AC C ci mk D U₆ env XK Zi l₂->l₂++c₂=l++ys->∃m,m<n/\ CJ C ci mk env D Dn J St U s σ (collect (aj st cond f σ)) (l++ys) m Zi:=λYr a₆ hz=>⟨rem.length,by refine ab hn ?_;exact PZ _,rem,_,c₂,rfl,Lf.by_ YI nW₃ st₃ Yr (a₆.weak (hu _ _ _ h1)),Z3,hz⟩;have w₅:=X0.wide (O':=fQ env.locals D) λ_=> .inl;refine(ht')▸ ?_;cases t with
   |false=>rw[<-Oh X8]at hz;exact fin w₅ Zr hz
   |true=>rw[if_pos rfl]at X8⊢;rw[<-QR]at hz;have hl:=congrArg TL hz;rw[Pd,Pd,Pd]at hl;exact Ot (he A Yc env XK X9 D l₁ c₁ rm Zr X8 (Op (Op (Rt _ _) (O2 hl)) (by assumption))) (λ_ Zi h=>(by obtain⟨U₆,Yr,a₆⟩:=h;exact fin (w₅.trans YI.x.toaY Yr (λ_=> .inl) λ_=> .inl) a₆ hz)) λ_ _ f=>f
theorem vQ (hg:gens[d]?=W8 ⟨target,iter,XU,0⟩)(hn:gens[d+1]?=W9)(ht:d9 C k ci b target st)(hu:wM st)(Y4:gC C k ci XU cond)(he:aC C k ci elt de):cX C k ci Xe (.ListComp elt gens scope pos) d b target (aj st cond (aF de)):=
 jV eZ (vf hg hn) ht hu Y4 (wf he)
end
end
section
section
variable{D L:OO}{l:List V}{b:Bool}{i:Nat}{n m:Str}{e:Ol}{d:Nat}{gens rest:List Qi}{f:ai->V->Option (List V)}
theorem we (hE:mQ e gens)(hn:gens[d+1]?=W8 ⟨t',i',f',0⟩)(hi:dP C k ci b false t' i' di Eq)(hl:cX C k ci mk e (d+1) b t' f)(hs:∀env x,OU i' env x=pure x):u7 C k ci mk (jk e d i') (ku di f):=λA U env σ s D l ys rm a hf hlen=>by
 injections k ci t' i' f' mk di b e d gens f A U env σ s D l ys _ hE hn hi hl hs rm a hf hlen;exact ay hf λxs hx hc=>by
  refine Og (Ot (hi A U env σ s xs rm a.x.tobA hx) (λv XB got=> ?_) λ_ _ f=>f.elim);refine Og (Py (Og (Pc (hs env v) ?_)));refine Og (ON (got.start a.x λW XX J Pr S hP ZI lv hJ=>Ot (S.iter rm hP ZI.x.toaY lv) (λit XC m=> ?_) λ_ _ f=>f.elim));obtain⟨W',XE,St,YW,hy,I,YT,XH,Zf,_,_⟩:=m;have Ys:=ZI.turn a.x a.x.far XH Zf;have Dl:s.heap.get? D≠W9:=λh=>by obtain⟨⟨o,e⟩,_⟩:=a.x.live _ _ _ a.oD;rw[h]at e;cases e
  have fr:=a.x.far.free;have Zs:AC C ci mk D XE env σ XC l:=a.other Ys.ev Ys.x (λh=>h.elim a.nD Dl) λn c h1 h2 c' q h3 h4=>h4.elim (λe=>(a.x.hf n c h1 h2).1 q (e▸h3)) (fr n c h1 h2 c' q h3);have Lf:LF C k A ci b t' it D (λc=>s.heap.get? c=W9 \/c=D) _ J (St A) U env σ s:=⟨a.x,⟨λh=>h.elim a.x.far.nL λe=>a.nD e.symm,λn c h1 h2 c' q h3 h4=>h4.elim (fr n c h1 h2 c' q h3) λe=>a.fD n c h1 h2 q (e▸h3),λ_=> .inl⟩,.inr rfl,I A rm,(λh=>Qq h.1),λh=>Qq h.1⟩;have ci₂:CI C ci mk env D (λc=>s.heap.get? c=W9 \/c=D) J (St A) U s xs l σ XC:=⟨W',XE,⟨Ys.x,Ys.ev.wide λc h=>h.imp id .inl,λc h=> .inl (Ys.hW c h)⟩,Zs,λh=>Dl (Ys.hW D h),hy▸YT A rm⟩;have fin:Ra (Ov ag w) A (.compLoop e (d+1) it (.ref D) env) (λr XJ=>r= .ok .next/\ ∃U',Ev C (fQ env.locals D) bM U s U' XJ/\ AC C ci mk D U' env σ XJ (l++ys)) XC:=
   Pb (hl A U env it D _ _ J (St A) s XC σ xs l ys rm Lf ci₂ hc hlen) λr XJ h=>⟨h.1,(by obtain⟨Yc,XR,a₃⟩:=h.2;exact⟨Yc,XR.strict a.x.toaY (λc h=>h.elim (λh=> .inr (.inl h)) λh=>h.imp id .inr) hJ,a₃⟩)⟩
  have go:=mE hn rfl hE fin ((I A rm).self rm.handled (YT A rm) fin);refine Og (wpAny_runOwn (h:=W9) (Pb go λr XJ h=> ?_));exact(h.1)▸(Oi h.2)
theorem vP {b':Bool}
 (hg:gens[d]?=W8 ⟨target,iter,XU,0⟩) (hn:gens[d+1]?=W8 ⟨t',i',f',0⟩) (ht:d9 C k ci b target st) (hu:wM st) (Y4:gC C k ci XU cond) (hi:dP C k ci b' false t' i' di Eq) (YR:cX C k ci Xe (.ListComp elt gens scope pos) (d+1) b' t' f)
 (hs:∀env x,OU i' env x=pure x:=by intro _ _;rfl):cX C k ci Xe (.ListComp elt gens scope pos) d b target (aj st cond (ku di f)):=
 jV eZ (ve hg hn) ht hu Y4 (we eZ hn hi YR hs)
end
end
section
section
variable{D L:OO}{l:List V}{b:Bool}{i:Nat}{n m:Str}{e:Ol}{d:Nat}{gens rest:List Qi}{f:ai->V->Option (List V)}
theorem bA.more (x:bA C cx U env σ s)(ev:Ev C O J U s U' s')(hO:∀c,O c->s.heap.get? c=W9):bA C cx U' env σ s':=
 have no:∀ {b:OO},∀c q,U b=W8 (c,q)->¬O c:=λc q h e=>by obtain⟨_,o,h'⟩:=x.live _ c q h;rw[hO c e]at h';cases h'
 have kh:∀ {y:Str} {v:Oq},Holds env s y v->Holds env s' y v:=λh=>h.keep (λo=>ev.keep _ o x.frame.1 no) λ {c} h o=>ev.keep c o (x.frame.2 _ c h) no;have le:=ev.le x.tU
 {x with
  toaY:=(ev.go x.toaY).1
  caps:=λy hy=>(by obtain⟨q,c,v,h,o,ho,hd⟩:=x.caps y hy;exact⟨q,c,v,h,o,ev.keep c o (x.frame.2 y c h) no ho,hd⟩)
  vars:=λy i t hy ht=>(by obtain⟨v,h1,h2,h3⟩:=x.vars y i t hy ht;exact⟨v,kh h1,λh=>bj.mono le _ _ (h2 h),λh=>(h3 h).mono (λa o e=>av.mpr ⟨(av.mp e).1,ev.keep a o (av.mp e).1 no (av.mp e).2⟩) le⟩)}
theorem Ev.andThen (ok:aY C U s)(x:Ev C (λc=>s.heap.get? c=W9) J U s U' s')(y:Ev C O J' U' s' XE XC)(hO:∀c,O c->s.heap.get? c=W9 \/s'.heap.get? c=W9)(hJ:∀j,J' j->J j):Ev C (λc=>s.heap.get? c=W9) J U s XE XC:=
 x.trans ok y (λc h=> .inl ((hO c h).elim id λh=>(b7 (x.go ok).2 h).elim id id)) λj h=> .inl (hJ j h)
def dX (mk:List V->V)(ci:Cx)(di:ai->Option (List V))(f:ai->V->Option (List V)):ED:=λσ=>if dx ci σ then(di σ).bind λxs=>(collect (f σ) xs).bind λys=>if ys.length<=lim then W8 (mk ys)else W9 else W9
def ba (ci:Cx)(di:ai->Option (List V))(f:ai->V->Option (List V)):ED:=dX Xe ci di f
structure Mk (C:Cf ag w) (mk:List V->V) (Y9:Sem Oq):Prop where
 inst:∀l c fs,mk l≠ .inst c fs
 run:∀(A:O6) (s:On) (Q:Oq->On->Prop),ff C s->(∀o,o.isFreed=false->(∀X3 g:a0,X3 s.heap.objs.size=W8 o->fe C.cls X3 g (mk []) (.ref s.heap.objs.size))->Q (.ref s.heap.objs.size) {s with heap:=s.heap.push o})->Oz (Ov ag w) A Y9 Q (λ_ _=>False) s
theorem uk:Mk C Xe (newList []) where
 inst:=λl c fs h=>by cases h
 run:=λA s Q _ q=>by refine Qy ?_ (by size_fits);exact q {cls:= .type "list",data:= .seq ([]:List Oq).toArray} rfl λX3 g h=>Exists.intro _ ⟨[],rfl,⟨0,h⟩,aq.nil⟩
structure CD (C:Cf ag w) (U:Ow) (s:On) (t:V) (D L:OO) (s':On):Prop where
 g:aH C s s'
 nD:s.heap.get? D=W9
 nL:s.heap.get? L=W9
 ne:D≠L
 ns:∃m,s'.heap.Ns L m
 top:∀p q,fe C.cls (b0 C.T s'.heap) (view (b5 (b5 U L p) D q) s'.heap) t (.ref D)
 lD:∃o,s'.heap.get? D=W8 o
 inst:∀c fs,t≠ .inst c fs
theorem j0 (hmk:Mk C mk Y9)(hce:mQ ce (⟨target,iter,XU,0⟩::rest))(hc:c5 scope cx ci=true)(hi:dP C k cx b false target iter di Eq)
 (hl:cX C k ci mk ce 0 b target f) (hs:∀env x,OU iter env x=pure x) (rm:aV A k) (x:bA C cx U env σ s) (e:dX mk ci di f σ=W8 t) {use:Option (Oq->Sem Unit)}
 (q:∀D L s',CD C U s t D L s'->match use with
   |none=> ∃m,s'.heap.Ns L m/\ ∀h',OE L s'.heap h'->Q (.ref D) {s' with heap:=h'}
   |some u=>Oz (Ov ag w) A (u (.ref D)) (λ_ Ye=> ∃m,Ye.heap.Ns L m/\ ∀h',OE L Ye.heap h'->Q .none {Ye with heap:=h'}) (λ_ _=>False) s'):
 Oz (Ov ag w) A (UD ce scope env p Y9 false (PX iter env) use) Q (λ_ _=>False) s:=by
 injections k s A p t cx ci env Q target iter ce scope XU mk Y9 U σ di b rest f use _ hmk hce hc hi hl hs rm x e q;refine f7 e λhgd e=>ay e λxs hxs e=>ay e λys YM e=>f7 e λhlen e=> ?_;have cc:=oy hc;obtain⟨cl,Y8,h1,h2,h3⟩:=mH (scope:=scope) (env:=env) λn hn=>by obtain⟨_,c,_,h,_⟩:=x.caps n ((cc.names _ hn).2.2 rfl).1;exact⟨c,h⟩
 refine wpAny_comprehension_free (g:=⟨target,iter,XU,0⟩) (gs:=rest) hce.cl (hs env) Y8 cc.kind.1 (λp h1 h2=>(cc.names p h1).2.1 h2) ?_;refine Ot (hi A U env σ s xs rm x hxs) (λv XB got=> ?_) λ_ _ f=>f.elim;obtain⟨W,XX,J,Pr,S,hP,XS,hW,lv,hJ⟩:=got;refine Ot (S.iter rm hP (XS.go x.toaY).1 lv) (λit XC m=> ?_) λ_ _ f=>f.elim;obtain⟨W',XE,St,YW,hy,I,YT,XH,Zf,lv',_⟩:=m;have YQ:Ev C (λc=>s.heap.get? c=W9) J U s XX XB:=XS.weak;have ZT:=YQ.andThen x.toaY XH (λc h=> .inl (hW c h)) λ_ h=>h;have Yk:=(ZT.go x.toaY).1;refine hmk.run A XC _ Yk.inv λob hfr hTop=> ?_;have hn:XC.heap.get? XC.heap.objs.size=W9:=OX (O5 _);have hD:(XC.heap.push ob).get? XC.heap.objs.size=W8 ob:=OB _ hfr;generalize XC.heap.objs.size=D at hn hD hTop;have nD:=Yk.new hn;have XR:Ev C (only D) bM XE XC (b5 XE D (D,.obj)) {XC with heap:=XC.heap.push ob}:=Ev.new1 (aH.push (tk:=XC.toks)) Yk hn ⟨_,hD⟩;have C':=ZT.andThen x.toaY XR (λc h=> .inr (h.symm▸hn)) λ_ h=>h.elim;refine tx cc (x.more C' λ_ h=>h) hgd h1 h2 h3 λcenv cs H Y ns Yd old=> ?_;have X1:Ev C (only cenv.locals) bM _ _ (lU (b5 XE D (D,.obj)) cenv.locals cs) {XC with heap:=H}:=Y.ev (tk:=XC.toks) (C'.go x.toaY).1;have e₄:=C'.andThen x.toaY X1 (λc h=> .inr (h.symm▸Y.new)) λ_ h=>h.elim;have dd:∀ {c},XC.heap.get? c=W9->s.heap.get? c=W9:=λh=>(b7 (ZT.go x.toaY).2 h).elim id id;have nL:s.heap.get? cenv.locals=W9:=(b7 (C'.go x.toaY).2 Y.new).elim id id;have DL:D≠cenv.locals:=λh=>by have:=Y.new;rw[<-h]at this;rw[hD]at this;cases this
 have oD:lU (b5 XE D (D,.obj)) cenv.locals cs D=W8 (D,.obj):=(Y.old hD).trans aD;have lW:∀c,W' c->s.heap.get? c=W9/\ c≠cenv.locals:=λc h=>⟨(Zf c h).elim (hW c) λh=>(b7 (YQ.go x.toaY).2 h).elim id id,λh'=>by obtain⟨o,ho⟩:=lv' c h;have:=Y.new;rw[<-h',Om ob ho]at this;cases this⟩;have cell:∀n c,n∉ci.mn->cenv.cells.lookup n=W8 c->∀c' q,lU (b5 XE D (D,.obj)) cenv.locals cs c=W8 (c',q)->s.heap.get? c'≠W9:=λn c h1 h2 c' q h3 h4=>by obtain⟨h5,h6⟩:=old n c h1 h2;obtain⟨_,c₁,v,h7,o,h8,_⟩:=x.caps n h6;rw[h5]at h7;cases h7;rw[e₄.col c o h8 λc q e h=>by obtain⟨_,o,h'⟩:=x.live _ c q e;rw[h]at h';cases h']at h3;obtain⟨_,o,h'⟩:=x.live _ _ _ h3;rw[h4]at h';cases h'
 have Lf:LF C k A ci b target it D (λc=>s.heap.get? c=W9/\ c≠cenv.locals) _ J (St A) (lU (b5 XE D (D,.obj)) cenv.locals cs) {cenv with scope:=TO scope env} σ {XC with heap:=H}:=
  ⟨Yd,⟨λh=>h.2 rfl,λn c h1 h2 c' q h3 h4=>cell n c h1 h2 c' q h3 h4.1,λc h=>⟨(b7 (e₄.go x.toaY).2 h).elim id id,λh'=>by obtain⟨_,o,e⟩:=Yd.live _ _ _ Yd.hL;rw[h',show H.get? cenv.locals=W8 o from e]at h;cases h⟩⟩,⟨dd hn,DL⟩,I A rm,(λh=>Qq h.1),λh=>Qq h.1⟩
 have ac:AC C ci mk D (lU (b5 XE D (D,.obj)) cenv.locals cs) {cenv with scope:=TO scope env} σ {XC with heap:=H} []:=
  ⟨Yd,DL,nD.1,nD.2.2,oD,λn c h1 h2 q h=>cell n c h1 h2 D q h (dd hn),hTop _ _ (Y.keep _ _ hD),hmk.inst⟩
 have ev₂₄:Ev C (λc=>c=D \/c=cenv.locals) bM XE XC (lU (b5 XE D (D,.obj)) cenv.locals cs) {XC with heap:=H}:=(XR.wide λ_=> .inl).trans Yk X1 (λ_ h=> .inl (.inr h)) λ_=> .inl;have st₄:=(I A rm).keep (YT A rm) Yk ev₂₄ λc h=>⟨λh'=>h.elim (λe=>by obtain⟨o,ho⟩:=lv' c h';rw[e,hn]at ho;cases ho) (lW c h').2,λh'=>Qq h'.1⟩;have ci₄:CI C ci mk {cenv with scope:=TO scope env} D (λc=>s.heap.get? c=W9/\ c≠cenv.locals) J (St A) _ _ xs [] σ {XC with heap:=H}:=⟨W',_,⟨Yd,.refl,lW⟩,ac,(λh=>by obtain⟨o,ho⟩:=lv' D h;rw[hn]at ho;cases ho),hy▸st₄⟩;have fin:Ra (Ov ag w) A (.compLoop ce 0 it (.ref D) {cenv with scope:=TO scope env}) (compPost (Ov ag w) A (λ_ _=>False) use Q (.ref D) cenv.locals) {XC with heap:=H}:=by
  refine Pb (hl A _ _ it D _ _ J (St A) _ _ σ xs [] ys rm Lf ci₄ YM (by rw[List.length_nil,O1];exact hlen)) λr X9 h=> ?_;obtain⟨hr,Yg,X0,Zr⟩:=h;have e₅:=e₄.andThen x.toaY X0 (λc h=> .inl (h.elim (λh=>h.symm▸nL) λh=>h.1)) λ_ h=>h;obtain⟨g,hv⟩:=e₅.off x.toaY (λ_ h=>h) hJ;have cd:CD C U s t D cenv.locals X9:=⟨g,dd hn,nL,DL,Zr.x.ns,λp q=>by refine(Oh e)▸ ?_;refine Zr.acc.at (hmk.inst ys) (λo e=>av.mpr ⟨nD.1,e⟩) λb o h=> ?_;obtain⟨h1,h2⟩:=ao.mp h;exact ao.mpr ⟨by refine ab (aO λh=>(by rw[h,Zr.oD]at h1;cases h1)) (ab (aO λh=>(by rw[h]at h1;rw[Zr.x.hL]at h1;cases h1)) ?_);exact hv b h1,h2⟩,(Zr.x.live _ _ _ Zr.oD).1,by refine bV (Oh e) ?_;exact hmk.inst ys⟩;refine(hr)▸ ?_;have q':=q D cenv.locals X9 cd;cases use with
  |none=>exact q'
  |some u=>exact q'
 exact mE (g:=⟨target,iter,XU,0⟩) rfl rfl hce fin ((I A rm).self rm.handled st₄ fin)
end
end
section
section
variable{D L:OO}{b:Bool}{i:Nat}{n m:Str}{rest:List Qi}{f:ai->V->Option (List V)}
theorem CD.lL (c:CD C U s t D L s'):∃o,s'.heap.get? L=W8 o:=(by obtain⟨_,o,_,_,ho,_⟩:=c.ns;exact⟨o,ho⟩)
theorem aY.one (ok:aY C U s)(h:s.heap.get? L=W9){p:OO×Slot}(b:OO)(q:Slot)(e:b5 U L p b=W8 (L,q)):b=L:=
 Ur λhb=>by rw[aO hb]at e;obtain⟨_,o,e⟩:=ok.live b L q e;rw[h]at e;cases e
theorem CD.gone (c:CD C U s t D L s')(ok:aY C U s)(hs:OE L s'.heap h'):aH C s {s' with heap:=h'}:=
 have n:=ok.new c.nL
 (((Ev.new1 (J:=bM) c.g ok c.nL c.lL).trans ok (.drop (tk:=s'.toks) (O:=only L) (J:=bM) aD (ok.one c.nL) rfl n.2.2 n.1 hs.extBut) (λ_=> .inl) λ_=> .inl).off ok (λc' h=>h.symm▸c.nL) λ_ h=>h.elim).1
theorem CD.after (c:CD C U s t D L s')(hs:OE L s'.heap h'):(∀q,fe C.cls (b0 C.T h') (view (b5 U D q) h') t (.ref D))/\ ∃o,h'.get? D=W8 o:=by
 refine⟨λq=>(c.top (L,.obj) q).at c.inst (λo e=>(by obtain⟨h1,h2⟩:=av.mp e;exact av.mpr ⟨h1,(hs.2 D c.ne).trans h2⟩)) λb o e=> ?_,(by obtain⟨o,h⟩:=c.lD;exact⟨o,(hs.2 D c.ne).trans h⟩)⟩;obtain⟨h1,h2⟩:=ao.mp e;unfold b5 at h1;by_cases hD:b=D
 ·rw[if_pos hD]at h1;cases h1
 ·rw[if_neg hD]at h1
  by_cases hL:b=L
  ·rw[if_pos hL]at h1;cases h1
  ·rw[if_neg hL]at h1
   exact ao.mpr ⟨(aO hD).trans h1,(hs.2 b hL).trans h2⟩
theorem oY (ci:Cx)(hc:c5 scope cx ci=true)(hi:dP C k cx b false target iter di Eq)
 (hl:cX C k ci Xe (.ListComp elt (⟨target,iter,XU,0⟩::rest) scope pos) 0 b target f) (hs:∀env x,OU iter env x=pure x:=by intro _ _;rfl):iJ C k cx (.ListComp elt (⟨target,iter,XU,0⟩::rest) scope pos) (ba ci di f):=λA U env σ s t rm x e=>by
 exact j0 uk eZ hc hi hl hs rm x e (use:=W9) λD L s' c=>let ⟨m,hm⟩:=c.ns;⟨m,hm,λh' X2=>⟨c.gone x.toaY X2,D,rfl,c.nD,(c.after X2).1,(c.after X2).2,c.inst⟩⟩
def aag (C:Cf ag w)(k:Nat)(cx:Cx)(ce:Ol)(scope:Sj)(Y9:Sem Oq)(iter:Ol)(d:ED):Prop:=
 ∀(A:O6) (U:Ow) (env:Env) (σ:ai) (s:On) (t:V),aV A k->bF C cx U env σ s->d σ=W8 t->∀ {p:Pos} {use:Option (Oq->Sem Unit)} {Q:Oq->On->Prop},
  (∀D L s',CD C U s t D L s'->match use with
    |none=> ∃m,s'.heap.Ns L m/\ ∀h',OE L s'.heap h'->Q (.ref D) {s' with heap:=h'}
    |some u=>Oz (Ov ag w) A (u (.ref D)) (λ_ Ye=> ∃m,Ye.heap.Ns L m/\ ∀h',OE L Ye.heap h'->Q .none {Ye with heap:=h'}) (λ_ _=>False) s')->
  Oz (Ov ag w) A (UD ce scope env p Y9 false (PX iter env) use) Q (λ_ _=>False) s
def mX:V->Bool
 | .list _ | .tup _ | .set _ | .dict _ _ | .inst _ _ | .adr _=>false
 |_=>true
theorem xI {g:a0}(hs:mX t=true)(h:bj K g t v):bj K g' t v:=by
 cases t with
 |list |tup |set |dict |inst |adr=>cases hs
 |_=>exact h
theorem g5 {K:br}{g g':a0}:∀ {ts:List V} {vs:List Oq},aq K g ts vs->ts.all mX=true->aq K g' ts vs
 | [],vs,h,_=>h
 |t::ts,vs,h,hs=>by obtain⟨v,r,e,h1,h2⟩:=h.cons_inv;obtain⟨p,q⟩:=OR.mp hs;exact(e)▸(aq.cons (xI p h1) (g5 h2 q))
def flat:V->Bool
 | .list xs=>xs.all mX
 |_=>false
theorem zd (h:flat t=true):∃xs,t= .list xs/\ xs.all mX=true:=by
 cases t with
 |list xs=>exact⟨xs,rfl,h⟩
 |_=>exact absurd h OD
def mD (d:ED):ED:=λσ=>(d σ).bind λt=>if flat t=true then W8 t else W9
theorem CD.flat (c:CD C U s t D L s')(h:flat t=true):CD C U' s t D L s':=
 {c with
  top:=λp q=>by have:=c.top p q;obtain⟨xs,e,h⟩:=zd h;rw[e]at this⊢;obtain⟨vs,m,h1,h2⟩:=iT this;exact Exists.intro D ⟨vs,rfl,⟨m,h1⟩,g5 h2 h⟩}
theorem aag.frozen (h:aag C k {cx with own:= []} ce scope Y9 iter d):aag C k cx ce scope Y9 iter (mD d):=λA U env σ s t rm x e _ _ _ q=>ay e λu hu e=>f7 e λhf e=>h A _ env σ s t rm (x.freeze (O':= []) λ_ h=>nomatch h).1 (e▸hu) λD L s' c=>q D L s' (c.flat (Oh e▸hf))
theorem jJ (ci:Cx)(hc:c5 scope cx ci=true)(hi:dP C k cx b false target iter di Eq) (hl:cX C k ci Xe (.ListComp elt (⟨target,iter,XU,0⟩::rest) scope pos) 0 b target f) (hs:∀env x,OU iter env x=pure x):aag C k cx (.ListComp elt (⟨target,iter,XU,0⟩::rest) scope pos) scope (newList []) iter (ba ci di f):=λA U env σ s t rm x e _ _ _ q=>j0 uk eZ hc hi hl hs rm x.tobA e q
theorem bF.dropNew (x:bF C cx Yi env σ s)(hV:Yi L=W8 (L,.obj))(one:∀b q,Yi b=W8 (L,q)->b=L)(nL:L≠env.locals)(fr:∀n c,n∉cx.mn->env.cells.lookup n=W8 c->c≠L)(hT:L∉C.T)(hb:C.hb.get? L=W9)(hs:OE L s.heap h'):
 bF C cx (C6 Yi L) env σ {s with heap:=h'}/\ Ev C (only L) bM Yi s (C6 Yi L) {s with heap:=h'}:=
 have ev:Ev C (only L) bM Yi s (C6 Yi L) {s with heap:=h'}:= .drop (tk:=s.toks) hV one rfl hb hT hs.extBut
 ⟨x.other ev (λe=>nL e.symm) λn c h1 h2 c' q h3 e=>fr n c h1 h2 (one c q ((show c'=L from e)▸h3)),ev⟩
theorem qF {gens:List Qi}(h:∀c,P8 (.ListComp elt gens scope pos) (W8 (.Name n p)) ln env=pure c->P):P:=h _ rfl
theorem v8 {g:Qi}{Q:Wv->On->Prop}(ha:g.is_async=0)(hs:P8 (.ListComp elt (g::rest) scope pos) (W8 (.Name n p)) sp.line env=pure true)
 (h:Oz (Ov ag w) A (UD (.ListComp elt (g::rest) scope pos) scope env (firstIterPos (g::rest) pos) (newList []) false (PX g.iter env) (W8 (WM (.Name n p) env))) (λ_ s'=>Q .next s') (λ_ _=>False) s):
 Oz (Ov ag w) A (exec (.Assign [.Name n p] (.ListComp elt (g::rest) scope pos) sp) env) Q (λ_ _=>False) s:=by
 refine ab (WJ _ _ _ _ hs) ?_;refine Og (Py (Og ?_));obtain⟨t,i,f,a⟩:=g;cases ha;exact Og (Ot h (λ_ s' hq=>Oi (Oi hq)) λ_ _ e=>e)
def iH (C:Cf ag w)(cx:Cx)(oc O':List Nat)(env:Env)(U:Ow)(s:On)(n:Str)(i:Nat)(σ:ai)(t:V):Prop:=
 ∀(A:O6) (D L:OO) (s':On),CD C U s t D L s'->
  (∀(h':O0),OE L s'.heap h'->Oz (Ov ag w) A (TN env n (.ref D)) (λ_ XC=>dk C cx oc O' env U s (.next,aw σ i (W8 t)) .next XC) (λ_ _=>False) {s' with heap:=h'})/\
  Oz (Ov ag w) A (TN env n (.ref D)) (λ_ XC=> ∃m,XC.heap.Ns L m/\ ∀h',OE L XC.heap h'->dk C cx oc O' env U s (.next,aw σ i (W8 t)) .next {XC with heap:=h'}) (λ_ _=>False) s'
theorem iH.fin (hs:Y9=newList [])(hc:aag C k cx (.ListComp elt (⟨target,iter,XU,0⟩::rest) scope pos) scope Y9 iter d)(st:∀ {U σ s t},bF C cx U env σ s->iH C cx oc O' env U s n i σ t)(rm:aV A k)(x:bF C cx U env σ s){r:Fl×ai}(e:ak i d σ=W8 r):
 Oz (Ov ag w) A (exec (.Assign [.Name n p] (.ListComp elt (⟨target,iter,XU,0⟩::rest) scope pos) sp) env) (λf s'=>dk C cx oc O' env U s r f s') (λ_ _=>False) s:=
 dF e λt ht er=>qF (elt:=elt) (gens:=⟨target,iter,XU,0⟩::rest) (scope:=scope) (pos:=pos) (p:=p) (n:=n) (ln:=sp.line) (env:=env) λc hw=>by
  rw[hs]at hc;refine(er)▸ ?_;cases c with
  |true=>exact v8 rfl hw (hc A U env σ s t rm x ht λD L s' c=>Rn (st x A D L s' c).2)
  |false=>refine Rp ?_ hw;exact hc A U env σ s t rm x ht (use:=W9) λD L s' c=>let ⟨m,hm⟩:=c.ns;⟨m,hm,λh' X2=>(st x A D L s' c).1 h' X2⟩
end
end
section
section
variable{D L:OO}{b:Bool}{i:Nat}{n m:Str}{rest:List Qi}{f:ai->V->Option (List V)}
theorem bF.endC (x:bF C cx U env σ s)(c:CD C U s t D L s')(ev:Ev C (λc=>(c=L \/c=D) \/c=env.locals) bM U s Yi XC)(XG:bF C {cx with own:=O'} Yi env σ₂ XC) (hV:Yi L=W8 (L,.obj)) (one:∀b q,Yi b=W8 (L,q)->b=L) (hs:OE L XC.heap h'):dk C cx oc O' env U s (.next,σ₂) .next {XC with heap:=h'}:=
 have n:=x.toaY.new c.nL;have nl:∀ {c:OO},(∃o,s.heap.get? c=W8 o)->c≠L:=λh e=>by obtain⟨o,h⟩:=h;rw[e,c.nL]at h;cases h
 have d:=XG.dropNew hV one (nl (x.live _ _ _ x.hL).1).symm (λy c h1 h2=>nl (let ⟨_,v,o,h,_⟩:=x.hf y c h1 h2;⟨o,h⟩)) n.1 n.2.2 hs
 .ofNext ((ev.trans x.toaY d.2 (λc h=> .inl (.inl (.inl h))) λ_=> .inl).narrow x.toaY λc' h=>h.elim (λh=> .inl (h.elim (λe=>e.symm▸c.nL) λe=>e.symm▸c.nD)) .inr) d.1
theorem CD.ev1 (c:CD C U s t D L s')(ok:aY C U s):Ev C (only L) bM U s (b5 U L (L,.obj)) s':=Ev.new1 c.g ok c.nL c.lL
theorem Ev.nsKeep (ev:Ev C O J U s U' s')(hT:L∉C.T){p:OO×Slot}(hU:U L=W8 p)(hO:¬O p.1)(h:∃m,s.heap.Ns L m):∃m,s'.heap.Ns L m:=
 (by obtain⟨m,h⟩:=h;exact⟨m,h.at' λo e=>ev.keep L o hT (λc q h=>by rw[hU]at h;cases h;exact hO) e⟩)
theorem kJ (hx:cx.vars.lookup n=W8 i)(ho:i∉cx.own)(hf:i∉cx.fre)(x:bF C cx U env σ s):iH C cx oc cx.own env U s n i σ t:=λA D L s' c=>by
 obtain⟨nT,nU,_⟩:=x.toaY.new c.nD;constructor
 ·exact λh' X2=>(x.grow (c.gone x.toaY X2)).save (c.gone x.toaY X2) x.toaY hx ho hf (((c.after X2).1 (D,.obj)).fresh nU (λb hb=>by unfold b5 at hb;split at hb;cases hb;exact hb) c.inst) λ_ h=>h
 ·have XD:=x.more (c.ev1 x.toaY) λc' h=>h.symm▸c.nL
  have lL:L≠env.locals:=λe=>by obtain⟨o,h⟩:=(x.live _ _ _ x.hL).1;rw[<-e,c.nL]at h;cases h
  refine XD.store hx ho hf ((c.top (L,.obj) (D,.obj)).fresh ((aO c.ne).trans nU) (λb hb=>by unfold b5 at hb⊢;split at hb;cases hb;exact hb) c.inst) λXC XG ev _=> ?_;have XH:Ev C (only env.locals) bM (b5 U L (L,.obj)) s' (b5 U L (L,.obj)) XC:=ev rfl;obtain⟨m,hm⟩:=XH.nsKeep (x.toaY.new c.nL).1 aD lL c.ns;exact⟨m,hm,λh' X2=>x.endC c (((c.ev1 x.toaY).wide λ_ h=> .inl (.inl h)).trans x.toaY XH (λ_ h=> .inl (.inr h)) λ_=> .inl) XG aD (x.toaY.one c.nL) X2⟩
theorem AL (hx:cx.vars.lookup n=W8 i)(ho:i∉cx.own)(hf:i∉cx.fre)(x:bF C cx U env σ s):iH C cx oc (i::cx.own) env U s n i σ t:=λA D L s' c=>by
 have nT:=(x.toaY.new c.nD).1;have nU:=(x.toaY.new c.nD).2.1;have nB:=(x.toaY.new c.nD).2.2;constructor
 ·exact λh' X2=>x.storeF (c.gone x.toaY X2) c.nD (c.after X2).2 hx ho hf c.inst ((c.after X2).1 _) λ_ h=>h
 ·have live:∀ {c':OO},(∃o,s.heap.get? c'=W8 o)->c'≠D/\ c'≠L:=λh=>by obtain⟨o,h⟩:=h;exact⟨(λe=>by rw[e,c.nD]at h;cases h),λe=>by rw[e,c.nL]at h;cases h⟩
  have ev₀:Ev C (λc=>c=L \/c=D) bM U s (b5 (b5 U L (L,.obj)) D (D,.obj)) s':=Ev.new c.g (λb o h=>(aO (live ⟨o,h⟩).1).trans (aO (live ⟨o,h⟩).2)) λb c' q h e=>by
   by_cases h1:b=D
   ·rw[h1,aD]at h;cases h;exact⟨.inr rfl,h1▸c.lD,c.lD⟩
   ·rw[aO h1]at h
    by_cases h2:b=L
    ·rw[h2,aD]at h;cases h;exact⟨.inl rfl,h2▸c.lL,c.lL⟩
    ·rw[aO h2,x.toaY.not e]at h;cases h
  have XS:Ev C (λc=>(c=L \/c=D) \/c=env.locals) bM U s (b5 (b5 U L (L,.obj)) D (D,.obj)) s':=ev₀.wide λ_=> .inl;have lL:=(live (x.live _ _ _ x.hL).1);have XD:bF C cx (b5 (b5 U L (L,.obj)) D (D,.obj)) env σ s':=x.more ev₀ λc' h=>h.elim (λe=>e.symm▸c.nL) λe=>e.symm▸c.nD;refine XD.keepF ((aO c.ne).trans nU) lL.1.symm nT nB (λy c' h1 h2=>(live (let ⟨_,v,o,h,_⟩:=x.hf y c' h1 h2;⟨o,h⟩)).1) c.lD hx ho hf c.inst (c.top _ _) λXC XH XG=> ?_;obtain⟨m,hm⟩:=XH.nsKeep (x.toaY.new c.nL).1 ((aO c.ne.symm).trans aD) (λh=>h.elim c.ne.symm lL.2.symm) c.ns;exact⟨m,hm,λh' X2=>x.endC c (XS.trans x.toaY XH (λ_ h=> .inl (h.imp .inr id)) λ_=> .inl) XG ((aO c.ne.symm).trans aD) (λb q h=>by
   by_cases h1:b=D
   ·rw[h1,aD]at h;exact absurd (congrArg Ta (Oh h)) lL.2
   ·rw[aO h1]at h;exact x.toaY.one c.nL b q h) X2⟩
theorem qS (ci:Cx)(hx:cx.vars.lookup n=W8 i)(ho:i∉cx.own)(hf:i∉cx.fre)(hc:c5 scope cx ci=true)(hi:dP C k cx b false target iter di Eq)
 (hl:cX C k ci Xe (.ListComp elt (⟨target,iter,XU,0⟩::rest) scope pos) 0 b target f) (hs:∀env x,OU iter env x=pure x:=by intro _ _;rfl):
 du C k cx oc (.Assign [.Name n p] (.ListComp elt (⟨target,iter,XU,0⟩::rest) scope pos) sp) cx.own (ak i (ba ci di f)):=λA U env σ s r rm x e=>iH.fin rfl (jJ ci hc hi hl hs) (λx=>kJ hx ho hf x) rm x e
theorem o0 (ci:Cx)(hx:cx.vars.lookup n=W8 i)(ho:i∉cx.own)(hf:i∉cx.fre)(hc:c5 scope cx ci=true)(hi:dP C k cx b false target iter di Eq)
 (hl:cX C k ci Xe (.ListComp elt (⟨target,iter,XU,0⟩::rest) scope pos) 0 b target f) (hs:∀env x,OU iter env x=pure x:=by intro _ _;rfl):
 du C k cx oc (.Assign [.Name n p] (.ListComp elt (⟨target,iter,XU,0⟩::rest) scope pos) sp) (i::cx.own) (ak i (ba ci di f)):=λA U env σ s r rm x e=>iH.fin rfl (jJ ci hc hi hl hs) (λx=>AL hx ho hf x) rm x e
theorem qQ (ci:Cx)(hx:cx.vars.lookup n=W8 i)(ho:i∉cx.own)(hf:i∉cx.fre)(hc:c5 scope {cx with own:= []} ci=true) (hi:dP C k {cx with own:= []} b false target iter di Eq)
 (hl:cX C k ci Xe (.ListComp elt (⟨target,iter,XU,0⟩::rest) scope pos) 0 b target f) (hs:∀env x,OU iter env x=pure x:=by intro _ _;rfl):
 du C k cx oc (.Assign [.Name n p] (.ListComp elt (⟨target,iter,XU,0⟩::rest) scope pos) sp) cx.own (ak i (mD (ba ci di f))):=λA U env σ s r rm x e=>iH.fin rfl (jJ ci hc hi hl hs).frozen (λx=>kJ hx ho hf x) rm x e
end
end
theorem oE {kd:Str->Option Pk}{n:Str}:∀ {bs:List (Str×Oq)} {m:Str->Option Oq},n∉bs.map (·.1)->bindL kd bs m n=m n
 | [],m,_=>rfl
 |p::r,m,h=>by
  obtain⟨h1,h2⟩:=Qx h;show bindL kd r _ n=_;refine ab (oE h2) ?_;split
  ·exact if_neg h1
  ·rfl
theorem rV {kd:Str->Option Pk}{n:Str}{v:Oq}(hk:kd n=W8 .local):∀ {bs:List (Str×Oq)} {m:Str->Option Oq},(bs.map (·.1)).Nodup->(n,v)∈bs->bindL kd bs m n=W8 v
 |p::r,m,hd,h=>by
  obtain⟨h1,h2⟩:=PI.mp hd;show bindL kd r _ n=_;rcases OG.mp h with h |h
  ·rw[<-h]at h1⊢;refine ab (oE h1) (ab (if_pos hk) ?_);exact if_pos rfl
  ·exact rV hk h2 h
theorem oG {kd:Str->Option Pk}{n:Str}:∀ {bs:List (Str×Oq)} {m:Str->Option Oq},n∉bs.map (·.1)->bindC kd bs m n=m n
 | [],m,_=>rfl
 |p::r,m,h=>by
  obtain⟨h1,h2⟩:=Qx h;show bindC kd r _ n=_;refine ab (oG h2) ?_;split
  ·rfl
  ·exact if_neg h1
theorem rW {kd:Str->Option Pk}{n:Str}{v:Oq}(hk:kd n≠W8 .local):∀ {bs:List (Str×Oq)} {m:Str->Option Oq},(bs.map (·.1)).Nodup->(n,v)∈bs->bindC kd bs m n=W8 v
 |p::r,m,hd,h=>by
  obtain⟨h1,h2⟩:=PI.mp hd;show bindC kd r _ n=_;rcases OG.mp h with h |h
  ·rw[<-h]at h1⊢;refine ab (oG h1) (ab (if_neg hk) ?_);exact if_pos rfl
  ·exact rW hk h2 h
theorem d7:∀ {names:jt} {n:Nat},(names.map (·.1)).Nodup->((RJ n names []).map (·.1)).Nodup
 | [],n,_=>Sa
 |p::r,n,h=>by
  obtain⟨h1,h2⟩:=PI.mp h;show((if p.2== .cell then RJ (n+1) r [(p.1,n)]else RJ n r []).map (·.1)).Nodup;split
  ·rw[ca,PJ]
   refine Uj.mpr ⟨d7 h2,PI.mpr ⟨(λh=>nomatch h),Sa⟩,λa ha b hb e=> ?_⟩;obtain⟨q,hq,hq'⟩:=OM.mp ha;rw[<-hq',OJ.mp hb]at e;exact h1 (e▸OM.mpr ⟨_,dq hq,rfl⟩)
  ·exact d7 h2
theorem lP:∀ {l:List (Str×OO)} {n:Str} {c:OO},(l.map (·.1)).Nodup->(n,c)∈l->l.lookup n=W8 c
 |p::r,n,c,h,hm=>by
  obtain⟨h1,h2⟩:=PI.mp h;refine ab (show(p::r)=((p.1,p.2)::r)from rfl) (ab Qe ?_);rcases OG.mp hm with e |hm
  ·refine bV e ?_;simp only[beq_self_eq_true]
  ·cases e:n==p.1 with
   |true=>exact absurd (OM.mpr ⟨(n,c),hm,eq_of_beq e⟩) h1
   |false=>exact lP h2 hm
structure Ib (scope:Sj) (params:List Str) (cx:Cx):Prop where
 kind:scope.kind= .function/\ scope.isCoroutine=false/\ scope.isGenerator=false/\ cx.own= []
 vars:∀p∈cx.vars,fy p.1=true/\ tJ scope.names cx.mn p.1/\ (p.2<params.length->params[p.2]?=W8 p.1)
 inj:Fs cx.vars
 nd:params.Nodup/\ (scope.names.map (·.1)).Nodup
 par:∀x∈params,tJ scope.names cx.mn x
 globs:∀x∈cx.globs,scope.names.lookup x=W8 .globalImplicit/\ fy x=true
 cell:∀p∈scope.names,p.2= .cell->p.1∈cx.mn
 mn:∀x∈cx.mn,scope.names.lookup x=W8 .cell/\ (x,Rc)∈scope.names
 caps:∀x∈cx.caps,x∈cx.mn
def zc (scope:Sj)(params:List Str)(cx:Cx):Bool:=
 decide (scope.kind= .function/\ scope.isCoroutine=false/\ scope.isGenerator=false/\ cx.own= [])&&
 (decide (∀p∈cx.vars,fy p.1=true/\ tJ scope.names cx.mn p.1/\ (p.2<params.length->params[p.2]?=W8 p.1))&&
 (decide (Fs cx.vars)&&(decide (params.Nodup/\ (scope.names.map (·.1)).Nodup)&&(decide (∀x∈params,tJ scope.names cx.mn x)&&
 (decide (∀x∈cx.globs,scope.names.lookup x=W8 .globalImplicit/\ fy x=true)&&(decide (∀p∈scope.names,p.2= .cell->p.1∈cx.mn)&&
 (decide (∀x∈cx.mn,scope.names.lookup x=W8 .cell/\ (x,Rc)∈scope.names)&&decide (∀x∈cx.caps,x∈cx.mn))))))))
theorem kW (h:zc scope params cx=true):Ib scope params cx:=by injections cx params scope _ h;exact jp h λh1 h=>jp h λh2 h=>jp h λh3 h=>jp h λh4 h=>jp h λh5 h=>jp h λh6 h=>jp h λh7 h=>jp h λh8 h9=>⟨of_decide_eq_true h1,of_decide_eq_true h2,of_decide_eq_true h3,of_decide_eq_true h4,of_decide_eq_true h5,of_decide_eq_true h6,of_decide_eq_true h7,of_decide_eq_true h8,of_decide_eq_true h9⟩
section
def c0 (nl:Nat)(xs:List V):ai:=xs.map W8++OS nl W9
theorem BC {i:Nat}(h:aK (c0 nl xs) i=W8 t):xs[i]?=W8 t:=by
 injections nl t xs i _ h;unfold aK c0 at h;rw[VN]at h;split at h
 ·rw[Qw]at h
  cases hx:xs[i]? with
  |none=>rw[hx]at h;cases h
  |some v=>rw[hx]at h;exact h
 ·rw[List.getElem?_replicate]at h
  split at h<;>cases h
theorem hZ {qual:Str}(Yl:cx.gen=true->∃p∈C.tabs,code= .ref p.1)(ok:aY C U s)(cc:Ib scope params cx)(r:aq C.cls (view U s.heap) xs vs)(hlen:xs.length=params.length){Q:Env->On->Prop}
 (q:∀env s' U',bF C cx U' env (c0 nl xs) s'->Ev C (only env.locals) bM U s U' s'->s.heap.get? env.locals=W9->(∀n c,env.cells.lookup n=W8 c->n∈cx.mn)->Q env s'):
 Oz (Ov ag w) A (newFunctionEnv scope PF [] (params.zip vs) qual (W8 f) code W9 O7) Q (λ_ _=>False) s:=by
 injections nl s f A cx code xs vs params scope U qual Q _ Yl ok cc r hlen q;have zk:(params.zip vs).map (·.1)=params:=Ux (by refine ab r.length (ab hlen ?_);exact O5 _);refine wpAny_newFunctionEnv_cells cc.kind.1 (λx hx=> ?_) λenv he s' ic=> ?_
 ·exact(cc.par _ (zk▸OM.mpr ⟨x,hx,rfl⟩)).imp id λh=>⟨h.1,by obtain⟨c,hc⟩:=c6 (n:=s.heap.objs.size+1) (cc.mn _ h.2).2;obtain⟨c,hc⟩:=fu hc;refine ab hc ?_;rfl⟩
 ·obtain⟨⟨⟨h,tk,X2⟩,Y6,keep,hfr⟩,Yh,hap,Z'⟩:=ic
  rw[X2]at Y6 keep Yh⊢;have eK:∀n,env.kindOf n=scope.names.lookup n:=λn=>by refine ab he ?_;rfl
  have eC:env.cells=RJ (s.heap.objs.size+1) scope.names []:=by refine ab he ?_;rfl
  have fresh:∀ {a},s.heap.objs.size<=a->s.heap.get? a=W9:=OX;have Y:ju s h env.locals env.cells cx.mn:=⟨keep,fresh hfr,⟨_,Y6⟩,λn c hc=>⟨cc.cell _ (dq ((eC)▸hc)) rfl,fresh (Op hfr (Qp (Z' n c hc))),Qh (Z' n c hc),_,Yh n c (lP (eC▸d7 cc.nd.2) hc)⟩,j5 hap⟩;have cs:∀n,n∈cx.mn->∃c,env.cells.lookup n=W8 c:=λn hn=>by obtain⟨c,hc⟩:=c6 (n:=s.heap.objs.size+1) (cc.mn n hn).2;exact(eC)▸(fu hc)
  refine q env _ _ (bF.enter ok Y (λfr=>⟨by refine ab he ?_;exact cc.kind.1,by refine ab he ?_;rfl,by refine ab he ?_;rfl,by refine ab he ?_;exact cc.kind.2.1,by refine ab he ?_;exact Yl,fr,λy i h=>eB (cc.vars _ (mem_of_lookup h)).1,λy h=>⟨(eK y).trans (cc.globs y h).1,(eB (cc.globs y h).2).1⟩⟩) cc.kind.2.2.2 cc.inj.eq (λn c h=> .inl ⟨(Y.cell n c (mem_of_lookup h)).1,mem_of_lookup h⟩) (λn c h hn=>absurd (Y.cell n c (mem_of_lookup h)).1 hn) (λn h=> ?_) (λn i hx _=> ?_) λn i t hx ht=> ?_) (Y.ev ok) Y.new λn c h=>(Y.cell n c (mem_of_lookup h)).1
  ·obtain⟨c,hc⟩:=cs n (cc.caps n h)
   exact⟨.inl ((eK n).trans (cc.mn n (cc.caps n h)).1),c,_,hc,Yh n c hc⟩
  ·exact(cc.vars _ (mem_of_lookup hx)).2.1.imp (λh=>(eK n).trans h) λh=>⟨(eK n).trans h.1,h.2,cs n h.2⟩
  ·have T':=BC ht
   have hp:=(cc.vars _ (mem_of_lookup hx)).2.2 (hlen▸(Pn.mp T').1);obtain⟨v,hv',hr⟩:=r.get T';have hb:(n,v)∈params.zip vs:=List.mem_iff_getElem?.mpr ⟨i,List.getElem?_zip_eq_some.mpr ⟨hp,hv'⟩⟩;have nd:((params.zip vs).map (·.1)).Nodup:=zk.symm▸cc.nd.1;refine⟨v,(cc.vars _ (mem_of_lookup hx)).2.1.imp (λhk=>⟨(eK n).trans hk,_,Y6,rV ((eK n).trans hk) nd hb⟩) λhk=> ?_,hr⟩;obtain⟨c,hc⟩:=cs n hk.2;have:=Yh n c hc;rw[rW (by rw[eK];exact hk.1▸λe=>by cases e) nd hb]at this;exact⟨.inl ((eK n).trans hk.1),c,hc,this⟩
theorem Ev.ret (ok:aY C U s)(ev:Ev C O J U s U' s')(hO:∀c,O c->s.heap.get? c=W9)(hJ:∀j,J j->s.gens[j]?=W9):aH C s s'/\ Le (view U' s'.heap) (view U s'.heap):=
 have h:=ev.off ok hO hJ
 ⟨h.1,λb o e=>ao.mpr ⟨h.2 b (ao.mp e).1,(ao.mp e).2⟩⟩
structure m5 (C:Cf ag w) (f:OO) (fd:Rb) (params:List Str) (body:List RV) (cx:Cx):Prop where
 obj:∃o,C.hb.get? f=W8 o/\ o.data= .func fd
 notT:f∉C.T
 code:C.hb.CodeRec fd.code fd.qualname
 codeT:∀c,fd.code= .ref c->c∉C.T
 codeG:cx.gen=true->∃p∈C.tabs,fd.code= .ref p.1
 clo:fd.closure= []
 gl:fd.globals=PF
 bi:fd.builtins=O7
 body:fd.body= .stmts body
 cx:zc fd.scope params cx=true
def cr (nl:Nat)(d:SD)(xs:List V):Option V:=(d (c0 nl xs)).bind λr=>match r.1 with
 | .ret t=>W8 t
 | .next=>W8 .none
 | .cont=>W9
theorem aV.deeper (rm:aV A (k+1))(env:Env):aV (A.deeper env) k:=rm.down rm.handled (O5 _) (QK _)
theorem za {d:SD}(nl:Nat)(F:m5 C f fd params body cx)(hb:bG C k cx [] body O' d)(rm:aV A (k+1))(ok:aY C U s)
 (YO:U1 s fd args (params.zip vs)) (r:aq C.cls (view U s.heap) xs vs) (hlen:xs.length=params.length) (e:cr nl d xs=W8 t):
 Ra (Ov ag w) A (.call (.ref f) args) (λr s'=> ∃v,r= .ok (.ret v)/\ aH C s s'/\ bj C.cls (view U s'.heap) t v) s:=by
 obtain⟨o,ho,hd⟩:=F.obj;have cc:=kW F.cx;have Yl:s.heap.CodeRec fd.code fd.qualname:=F.code.imp λc=>OQ λo=>OQ λ_=>OQ λ_ h=>⟨h.1,ok.inv.base c o (F.codeT c h.1) h.2.1,h.2.2⟩;refine Sz rm.lt (ok.inv.base f o F.notT ho) hd cc.kind.2.1 cc.kind.2.2.1 F.body Yl (YO _ _ _ _ ?_);simp only[F.gl,F.clo,F.bi];refine Ot (hZ (nl:=nl) F.codeG ok cc r hlen λenv s' U' sok ev hL _=>⟨sok.inv.lim,U4 (ay e λq hq e=> ?_)⟩) (λ_ _ h=>h) λ_ _ f=>f.elim;refine hb.run (rm.deeper env) sok hq λfl Ye p=> ?_;have out:∀ {XE},Ev C (only env.locals) bM U' s' XE Ye->aH C s Ye/\ Le (view XE Ye.heap) (view U Ye.heap):=λXH=>(ev.trans ok XH (λ_=> .inl) λ_=> .inl).ret ok (λc h=>h.symm▸hL) λ_ h=>h.elim;revert e;apply p.elim
 ·exact λXE σ₂ XH XG _ e=>⟨.none,rfl,(out XH).1,by refine bV (Oh e) ?_;rfl⟩
 ·exact λXE σ₂ XH XG _ e=>nomatch e
 ·exact λXE σ₂ t v XH rv _ e=>⟨v,rfl,(out XH).1,Oh e▸bj.mono (out XH).2 _ _ rv⟩
end
section
section
variable{n:Str}{a:ED}{b:ai->Option (List V)}
noncomputable abbrev Gv (C:Cf ag w)(U:Ow)(s:On)(t:V)(v:Oq)(s':On):Prop:=aH C s s'/\ bj C.cls (view U s'.heap) t v
structure rX (C:Cf ag w) (k:Nat) (f:OO) (fd:Rb) (params:List Str) (D:List V->Option V):Prop where
 obj:∃o,C.hb.get? f=W8 o/\ o.data= .func fd
 notT:f∉C.T
 call:∀(A:O6) (U:Ow) (s:On) (args:Args) (vs:List Oq) (xs:List V) (t:V),aV A (k+1)->aY C U s->U1 s fd args (params.zip vs)->aq C.cls (view U s.heap) xs vs->xs.length=params.length->D xs=W8 t->Ra (Ov ag w) A (.call (.ref f) args) (λr s'=> ∃v,r= .ok (.ret v)/\ aH C s s'/\ bj C.cls (view U s'.heap) t v) s
theorem m5.fun {d:SD}(nl:Nat)(F:m5 C f fd params body cx)(hb:bG C k cx [] body O' d):rX C k f fd params (cr nl d):=
 ⟨F.obj,F.notT,λA U s args vs xs t rm ok Zw r hl e=>za nl F hb rm ok Zw r hl e⟩
def Ab (C:Cf ag w)(fd:Rb)(params:List Str)(np:Nat)(kn:List Str)(φ:List V->List V):Prop:=
 ∀(U:Ow) (s:On) (vs us:List Oq) (xs:List V),aY C U s->vs.length=np->us.length=kn.length->aq C.cls (view U s.heap) xs (vs++us)->∃ws,U1 s fd ⟨vs,kn.zip us⟩ (params.zip ws)/\ aq C.cls (view U s.heap) (φ xs) ws/\ (φ xs).length=params.length
def gT (C:Cf ag w)(k:Nat)(cx:Cx)(XY:List Ol)(d:ai->Option (List V)):Prop:=
 ∀(A:O6) (U:Ow) (env:Env) (σ:ai) (s:On) (ts:List V) (pos:Pos),aV A k->bA C cx U env σ s->d σ=W8 ts->Oz (Ov ag w) A (V7 (Qr pos (OC XY env))) (λvs s'=>aH C s s'/\ aq C.cls (view U s'.heap) ts vs/\ vs.length=XY.length) (λ_ _=>False) s
def jr (C:Cf ag w)(k:Nat)(cx:Cx)(kws:List Keyword)(kn:List Str)(d:ai->Option (List V)):Prop:=
 (∀env pos,(Pz pos (OY kws env)).all (·.1.isSome)=true/\ (Pz pos (OY kws env)).filterMap (·.1)=kn)/\
 ∀(A:O6) (U:Ow) (env:Env) (σ:ai) (s:On) (ts:List V) (pos:Pos),aV A k->bA C cx U env σ s->d σ=W8 ts->Oz (Ov ag w) A (Wa ((Pz pos (OY kws env)).map (·.2))) (λvs s'=>aH C s s'/\ aq C.cls (view U s'.heap) ts vs/\ vs.length=kn.length) (λ_ _=>False) s
def au:ai->Option (List V):=λ_=>W8 []
def ah (a:ED)(b:ai->Option (List V)):ai->Option (List V):=λσ=>(a σ).bind λx=>(b σ).map λxs=>x::xs
theorem args_nil:gT C k cx [] au:=λA U env σ s ts pos rm x e=>Oh e▸Qk ⟨.refl s,aq.nil,rfl⟩
theorem aC.runE (h:aC C k cx pe a)(rm:aV A k)(x:bA C cx U env σ s)(e:a σ=W8 t)(q:∀v s',aH C s s'->bA C cx U env σ s'->bj C.cls (view U s'.heap) t v->Q v s'):Oz (Ov ag w) A (PX pe env) Q E s:=
 cf (h A U env σ s t rm x e) λv s' g=>q v s' g (x.grow g)
theorem gT.run (h:gT C k cx XY b)(rm:aV A k)(x:bA C cx U env σ s)(e:b σ=W8 xs){Q:List Oq->On->Prop}(q:∀vs s',aH C s s'->bA C cx U env σ s'->aq C.cls (view U s'.heap) xs vs->vs.length=XY.length->Q vs s'):Oz (Ov ag w) A (V7 (Qr pos (OC XY env))) Q (λ_ _=>False) s:=
 cf (h A U env σ s xs pos rm x e) λvs s' g r=>q vs s' g (x.grow g) r.1 r.2
theorem jr.run (h:jr C k cx kws kn b)(rm:aV A k)(x:bA C cx U env σ s)(e:b σ=W8 xs){Q:List Oq->On->Prop}(q:∀vs s',aH C s s'->bA C cx U env σ s'->aq C.cls (view U s'.heap) xs vs->vs.length=kn.length->Q vs s'):Oz (Ov ag w) A (Wa ((Pz pos (OY kws env)).map (·.2))) Q (λ_ _=>False) s:=
 cf (h.2 A U env σ s xs pos rm x e) λvs s' g r=>q vs s' g (x.grow g) r.1 r.2
theorem args_cons {rest:List Ol}(h:aC C k cx pe a)(h':gT C k cx rest b)(he:∀env,OC (pe::rest) env=(false,PX pe env)::OC rest env:=by intro _;rfl):gT C k cx (pe::rest) (ah a b):=λA U env σ s ts pos rm x e=>ay e λy hy e=>dF e λys YM e=>PE (h.runE rm x hy λv XB g XD r=>h'.run rm XD YM λvs XC XF _ XZ l₂=>e▸⟨g.trans XF,aq.cons (bj.mono (XF.le x.tU) _ _ r) XZ,congrArg (· +1) l₂⟩) (he env)
theorem fZ:jr C k cx [] [] au:=⟨λ_ _=>⟨rfl,rfl⟩,λA U env σ s ts pos rm x e=>Oh e▸wpAny_evalAll_nil ⟨.refl s,aq.nil,rfl⟩⟩
theorem uq {rest:List Keyword}(h:aC C k cx pe a)(h':jr C k cx rest kn b):jr C k cx (⟨W8 n,pe,p⟩::rest) (n::kn) (ah a b):=
 ⟨λenv pos=>⟨(h'.1 env pos).1,congrArg (n:: ·) (h'.1 env pos).2⟩,λA U env σ s ts pos rm x e=>ay e λy hy e=>dF e λys YM e=>kwAll_cons (h.runE rm x hy λv XB g XD r=>h'.run rm XD YM λvs XC XF _ XZ l₂=>e▸⟨g.trans XF,aq.cons (bj.mono (XF.le x.tU) _ _ r) XZ,congrArg (· +1) l₂⟩)⟩
theorem lN (x:bA C cx U env σ s)(hg:n∈cx.globs)(hm:C.mg n=W8 v)(q:Q v s):Oz (Ov ag w) A (PX (.Name n pos) env) Q E s:=
 UU x.kind (x.globs n hg).1 (Calls.loadGlobal_global (by refine ab x.gl ?_;exact x.inv.g) hm q) (x.globs n hg).2
end
end
section
section
variable{xs ys:List Int}{n:Str}{i:Nat}{a b:ED}{o:OO}{g:a0}{r:Fl×ai}
theorem xF {f:List Int->List Int->Option α}{r:α}(h:(match x,y with | .set a,.set b=>f a b |_,_=>W9)=W8 r)(k:∀a b,x= .set a->y= .set b->f a b=W8 r->P):P:=by
 cases x with
 |set a=>
  cases y with
  |set b=>exact k a b rfl rfl h
  |_=>exact absurd h aI
 |_=>exact absurd h aI
theorem oQ (ok:aY C U s)(h:fe C.cls (b0 C.T s.heap) g (.set xs) v)(k:∀o c,v= .ref o->be (LW w) s.heap.get? o c->xs=az c->P):P:=by obtain⟨o,e,c,h,e'⟩:=h;exact k o c e (ok.inv.ok.led▸h.sub λ_ e=>(av.mp e).2) e'
theorem A8 (ok:aY C U s)(h:bj C.cls (view U s.heap) (.set xs) v)(k:∀o c,v= .ref o->be (LW w) s.heap.get? o c->xs=az c->P):P:=oQ ok (h.top (dG ok.tU)) k
theorem A6 {c:Nat}(ok:aY C U s)(hn:s.heap.get? o=W9)(h:be (LW w) h'.get? o c):bj C.cls (view U h') (.set (az c)) (.ref o):=by exact⟨o,rfl,c,ok.inv.ok.led▸h.sub λ_ e=>ao.mpr ⟨(ok.new hn).2.1,e⟩,rfl⟩
theorem iS {c:Nat}(ok:aY C U s)(hT:o∉C.T)(h:be (LW w) h'.get? o c):fe C.cls (b0 C.T h') g (.set (az c)) (.ref o):=by exact⟨o,rfl,c,ok.inv.ok.led▸h.sub λ_ e=>av.mpr ⟨hT,e⟩,rfl⟩
theorem s7 {c:Nat}(ok:aY C U s)(q1:be (LW w) h'.get? s.heap.objs.size c)(q2:∀b o,s.heap.get? b=W8 o->h'.get? b=W8 o):Gv C U s (.set (az c)) (.ref s.heap.objs.size) {s with heap:=h'}:=
 ⟨aH.heap (tk:=s.toks) q2,A6 ok (OX (O5 _)) q1⟩
def bW:V->V->Option V
 | .set xs,.set ys=>W8 (.set (az (cB xs&&&cB ys)))
 |_,_=>W9
theorem yh:ir C k (Rj .BitAnd) bW:=λA U s x y t v u rm ok e r1 r2=>by refine xF e λxs ys hx hy e=> ?_;rw[hx]at r1;rw[hy]at r2;refine A8 ok r1 λo c hv h1 ex=>A8 ok r2 λo' c' hu h2 ey=> ?_;simp only[<-Oh e,ex,ey,bT h1.1,bT h2.1,hv,hu];exact A3 h1 h2 λh' q1 q2=>s7 ok q1 q2
theorem oX (hg:fn∈cx.globs)(hm:fn∈bP:=by decide) (hb:OZ fn=W8 (.type "set"):=by rfl):iJ C k cx (.Call (.Name fn p) [] [] pos) (dK (.set (az 0))):=λA U env σ s t rm x e=>by refine Pu (eP x hg hm hb (TU rfl (Q5 (nz λh' q1 q2=> ?_))));have new:s.heap.get? s.heap.objs.size=W9:=OX (O5 _);refine(Oh e)▸ ?_;exact⟨aH.heap (tk:=s.toks) q2,_,rfl,new,λ_=>iS x.toaY (x.toaY.new new).1 q1,q1.here,λ_ _ h=>by cases h⟩
def zv (i:Nat)(e:ED):SD:=λσ=>(aK σ i).bind λl=>match l with
 | .set xs=>(e σ).bind λt=>match t with
   | .set ys=>W8 (.next,aw σ i (W8 (.set (az (cB xs |||cB ys)))))
   |_=>W9
 |_=>W9
theorem sm (hx:cx.vars.lookup n=W8 i)(ho:i∈cx.own)(h:gm C k cx pe d)
 (hb:∀env,Pq (.Name n p) "update" env (PX (.Name n p) env)=PX (.Name n p) env:=by intro _;rfl) (hs:∀env,OC [pe] env= [(false,PX pe env)]:=by intro _;rfl) (hl:(ap.endLine==cp.line)=true:=by rfl)
 (hw:∀env,P8 (.Call (.Attribute (.Name n p) "update" ap) [pe] [] cp) W9 sp.line env=pure false:=by intro _;rfl):
 du C k cx oc (.Expr (.Call (.Attribute (.Name n p) "update" ap) [pe] [] cp) sp) cx.own (zv i d):=λA U env σ s r rm x e=>
 ay e λl YR e=>xE e λxs hxs e=>ay e λt ht e=>xE e λys YM e=>x.atE hx ho (hxs▸YR) λa at'=>g6 To F.slot_set_update F.type_set_update x hx at' (sK at'.top) (h A U env σ s t rm x.tobA ht) (λv XB p=>by have X7:=at'.grow x.tobA p.1;have XT:=x.toaY.grow p.1;simp only[YM]at p;refine oQ XT X7.top λo c hv h1 ex=>oQ XT p.2 λo' c' hu h2 ey=> ?_;cases hv;simp only[<-Oh e,ex,ey,bT h1.1,bT h2.1,hu];exact sI h1 h2 λh' q1 q2=>X7.turn (tk:=XB.toks) (x.grow p.1) p.1 x.toaY hx ho q2 q1.here (iS XT (x.base a _ at'.u).1 q1) λ_ _ h=>by cases h) (hb env) (hs env) hl (hw env)
def Dg:V->Option (List V)
 | .set xs=>W8 (xs.map Xc)
 |_=>W9
def pO (d:ED):ai->Option (List V):=λσ=>(d σ).bind Dg
structure z8 (C:Cf ag w) (F:cK) (o:OO) (c:Nat) (W:cK) (U:Ow) (s:On):Prop where
 h:be (LW w) s.heap.get? o c
 nT:o∉C.T
 o:∀c q,U o=W8 (c,q)->W c \/F c
theorem iL.perm {R':List V->Prop}(m:iL C k false target F J R W U s it s')(h:∀ys,R ys->R' ys):iL C k false target F J R' W U s it s':=by obtain⟨W',U',St,ys,hR,I,st,ev,hW,lv,gv⟩:=m;exact⟨W',U',St,ys,h ys hR,I,st,ev,hW,lv,gv⟩
theorem z8.src {c:Nat}:FU C k false (.Name n q₀) (.ref o) F bM (S6 · ((az c).map Xc)) (z8 C F o c) where
 keep:=λ {W U s O U' s'} h ok ev hO=>by have no:∀c q,U o=W8 (c,q)->¬O c:=λc q e ho=>(h.o c q e).elim (hO c ho).1 (hO c ho).2;obtain⟨ob,e⟩:=h.h.here;exact⟨h.h.sub λob=>ev.keep o ob h.nT no,h.nT,by refine ab (ev.col o ob e no) ?_;exact h.o⟩
 iter:=λ {A W U s} rm h ok lv=>by
  obtain⟨hb,es,ep,mv,m,ho,hm,he⟩:=h.h;have hw:=eM (a:=o) (ep:=ep) he;have hl:(cQ w o ep es).toList.length=(bs c).length:=by have:=hw.1.length_eq;exact(OA ..).symm.trans (this.trans (OA ..))
  refine qV hb ho hm he ((iL.walk (k:=k) (xs:=(cQ w o ep es).toList.map λe=>Xc e.1) (tk:=s.toks) (o:= {cls:= .type "set_iterator",data:= .fields #[Qd 0,Qd 0,.ref o,Qd (bs c).length,Qd ep]}) (fp:= [o]) ok rfl (λA hh=>m6 hh (Px (Pl ho)) hb hm he) (λb hb=>by refine ab (OJ.mp hb) ?_;exact⟨⟨_,ho⟩,h.nT,h.o⟩) ⟨⟨0,OB _ rfl,λ_=>rfl⟩,Om _ ho⟩ (by rw[OA];exact hl) (λj t e v hv=> ?_) (λi h hs=>(by obtain⟨⟨_,h1,_⟩,_⟩:=hs;exact⟨_,h1⟩)) (λA i s v Q hs q=>Pc (a:=()) rfl q) lv).perm λys hy=> ?_)
  ·rw[Qw]at e
   rw[<-Sd]at hv;cases hx:(cQ w o ep es).toList[j]? with
   |none=>rw[hx]at e;cases e
   |some x=>rw[hx]at e hv;simp only[<-Oh e,<-Oh hv];exact hw.2 x (Qs hx)
  ·have:=hw.1.map Xc
   rw[Sg]at this;exact(hy)▸this
theorem kr (e:Dg x=W8 zs)(ok:aY C U XB)(r:fe C.cls (b0 C.T XB.heap) (view U XB.heap) x v)(ho:∀a,v= .ref a->∀c q,U a=W8 (c,q)->F c)(g:aH C s XB):r6 C k false (.Name n q₀) F (S6 · zs) U s v XB:=by
 cases x with
 |set=>have hT:=r;refine oQ ok r λo c hv h ex=> ?_;simp only[<-Oh e,ex,hv];have h':=w6 (hv▸hT);obtain⟨ob,h',_⟩:=h'.obj;exact⟨λ_=>False,U,bM,_,z8.src,⟨h,(av.mp h').1,λc q h=> .inr (ho _ hv c q h)⟩,g.ev,λ_ h=>h.elim,λ_ h=>h.elim,λ_ h=>h.elim⟩
 |_=>exact absurd e aI
theorem vR (h:gm C k cx pe d):dP C k cx false true (.Name n q₀) pe (pO d) (λxs ys=>S6 ys xs):=λA U env σ s xs rm x e=>ay e λy hy e=>cf (h A U env σ s y rm x hy) λv XB g r=>kr e (x.toaY.grow g) r (λa _ c q h=>⟨rfl,(x.live a c q h).2⟩) g
theorem yJ {p:Bool}(h:aC C k cx pe d):dP C k cx false p (.Name n q₀) pe (pO d) (λxs ys=>S6 ys xs):=λA U env σ s xs rm x e=>
 ay e λy hy e=>cf (h A U env σ s y rm x hy) λv XB g r=>kr e (x.toaY.grow g) (r.top (dG x.tU)) (λa ha c q h=>by
  cases y with
  |set=>obtain⟨b,hv,_,h1,_⟩:=r;rw[ha]at hv;cases hv;obtain⟨o,h1⟩:=h1.here;rw[(ao.mp h1).1]at h;cases h
  |_=>exact absurd e aI) g
def wQ:V->Option V
 | .set xs=>W8 (.set xs)
 |_=>W9
theorem Bi:iK C k (λv=>call (.type "set") [v]) wQ:=λA U s x t v rm ok e r=>by refine xE e λxs hx e=> ?_;simp only[hx]at r;refine oQ ok r λo c hv h1 ex=> ?_;simp only[<-Oh e,ex,hv];exact sJ h1 λh' q1 q2=>s7 ok q1 q2
def eF:V->V->Option V
 | .set xs,.set ys=>W8 (.set (az (cB xs |||cB ys)))
 |_,_=>W9
theorem vk (ho:gm C k cx po a)(h:aC C k cx pe b)
 (hb:∀env,Pq po "union" env (PX po env)=PX po env:=by intro _;rfl) (hs:∀env,OC [pe] env= [(false,PX pe env)]:=by intro _;rfl) (hl:(ap.endLine==cp.line)=true:=by rfl):
 aC C k cx (.Call (.Attribute po "union" ap) [pe] [] cp) (dB eF a b):=λA U env σ s t rm x e=>
 ay e λy hy e=>ay e λz hz e=>xF e λxs ys T' S' e=>U9 (hb env) (hs env) hl (cf (ho A U env σ s y rm x hy) λv XB g r=>by simp only[T']at r;have XD:=x.grow g;refine oQ XD.toaY r λo c hv h1 ex=> ?_;rw[hv]at r⊢;obtain⟨ob,q1,q2,q3⟩:=sK r;refine⟨"set","set.union",To,F.slot_set_union,F.type_set_union,⟨ob,q1,q2⟩,λa ha=>by cases ha;exact⟨ob,q1,q3⟩,RY rfl (Sm (SP (h.runE rm XD hz λu XC XF XG XZ=>S3 ?_)))⟩;simp only[S']at XZ;refine oQ XG.toaY (r.mono XF.leT (XF.le x.tU)) λo' c' hv' h1 ex=>A8 XG.toaY XZ λo₂ c₂ hu h2 ey=> ?_;cases hv';simp only[<-Oh e,ex,ey,bT h1.1,bT h2.1,hu];exact vE h1 h2 λh' q1 q2=>let gv:=s7 XG.toaY q1 q2;⟨(g.trans XF).trans gv.1,gv.2⟩)
theorem eI {p q:Option V}:aw (aw σ i p) i q=aw σ i q:=List.set_set ..
theorem s9 {u:V}(h:aK σ i=W8 u):aK (aw σ i (W8 t)) i=W8 t:=by
 unfold aK at h⊢;unfold aw;rw[S5,if_pos rfl];split
 ·rfl
 ·rename_i hi;rw[VD (Nat.le_of_not_lt hi)]at h;cases h
def BS (i:Nat)(ev:ED):SD:=λσ=>(aK σ i).bind λx=>(ev σ).bind λy=>match x,y with
 | .set xs,.set ys=>W8 (.next,aw σ i (W8 (.set (az (cB xs |||cB ys)))))
 |_,_=>W9
theorem AW (hx:cx.vars.lookup n=W8 i)(ho:i∈cx.own)(hf:i∉cx.fre)(hv:aC C k cx pe d):
 du C k cx oc (.AugAssign (.Name n p) .BitOr pe pos) cx.own (BS i d):=λA U env σ s r rm x e=>
 ay e λxv h0 e=>ay e λyv h1 e=>xF e λxs ys T' S' e=>x.atE hx ho (T'▸h0) λa at'=>wpAny_AugAssign_Name (gL x.tobA hx at'.h (hv.run rm x h1 λu XB g XD XQ=>by have X7:=at'.grow x.tobA g;simp only[S']at XQ;refine oQ XD.toaY X7.top λo c hv' k1 ex=>A8 XD.toaY XQ λo' c' hu k2 ey=> ?_;cases hv';simp only[<-Oh e,ex,ey,bT k1.1,bT k2.1,hu];refine A2 k1 k2 λh' q1 q2=> ?_;have top:=iS (g:=view U h') XD.toaY (x.base a _ at'.u).1 q1;obtain⟨XG,XH⟩:=XD.turn (tk:=XB.toks) hx X7.h X7.u q2 q1.here (iS (g:=view U XB.heap) XD.toaY (x.base a _ at'.u).1 q1) (λ_ _ h=>by cases h) ho;refine XG.store' hx hf (t:= .set (az (c |||c'))) (λ_=>⟨a,rfl,X7.u,top,λ_ _ h=>by cases h⟩) (λh=>absurd ho h) λXJ Yp XR _=> ?_;have ZT:Ev C (only env.locals) bM U XB U _:=XH rfl;have C':Ev C (only env.locals) bM U _ U XJ:=XR rfl;simp only[eI]at Yp;exact .grow0 g x.toaY (.ofNext (ZT.trans XD.toaY C' (λ_=> .inl) λ_=> .inl) Yp)))
end
end
section
section
variable{n:Str}{i:Nat}{pc l r:Ol}{a b c:ED}{st:RV}{sa sb:SD}
theorem yw {f:List V->Option α}{r:α}(h:(match x with | .list a=>f a |_=>W9)=W8 r)(k:∀a,x= .list a->f a=W8 r->P):P:=by
 cases x with
 |list a=>exact k a rfl h
 |_=>exact absurd h aI
theorem G4 {f:List V->List V->Option α}{r:α}(h:(match x,y with | .list a,.list b=>f a b |_,_=>W9)=W8 r)(k:∀a b,x= .list a->y= .list b->f a b=W8 r->P):P:=by
 cases x with
 |list a=>
  cases y with
  |list b=>exact k a b rfl rfl h
  |_=>exact absurd h aI
 |_=>exact absurd h aI
theorem sX:(lim:Nat)=4096:=rfl
theorem iJ.new (ok:aY C U s)(g:aH C s XB)(r:aq C.cls (view U XB.heap) xs vs)(ho:o= {cls:= .type "list",dict:=W9,data:= .seq vs.toArray 0,slots:= #[]}):
 aH C s {XB with heap:=XB.heap.push o,toks:=tk}/\ ∃a,PL XB.heap.objs.size= .ref a/\ s.heap.get? a=W9/\ (∀q,fe C.cls (b0 C.T (XB.heap.push o)) (view (b5 U a q) (XB.heap.push o)) (.list xs) (.ref XB.heap.objs.size))/\ (∃o',(XB.heap.push o).get? a=W8 o')/\ ∀c fs,Xe xs≠ .inst c fs:=by
 have hn:XB.heap.get? XB.heap.objs.size=W9:=OX (O5 _);have Yw:(XB.heap.push o).get? XB.heap.objs.size=W8 o:=OB _ (by refine ab ho ?_;rfl);have new:s.heap.get? XB.heap.objs.size=W9:=(b7 ((g.ev (O:=λ_=>False) (J:=bM) (U:=U)).go ok).2 hn).elim False.elim id;refine⟨g.trans .push,_,rfl,new,λq=> ?_,⟨o,Yw⟩,λ_ _ h=>nomatch h⟩;refine⟨_,vs,rfl,⟨0,av.mpr ⟨(ok.new new).1,by exact ab Yw (ab ho rfl)⟩⟩,aq.mono (λb o' e=> ?_) _ _ r⟩;obtain⟨h1,h2⟩:=ao.mp e;exact ao.mpr ⟨(aO λe'=>by rw[e',hn]at h2;cases h2).trans h1,Om _ h2⟩
def b9 (d:ai->Option (List V)):ED:=λσ=>(d σ).map Xe
def dj (d:ai->Option (List V)):ED:=λσ=>(d σ).map Xf
theorem xp (h:gT C k cx XY dl)(hl:XY.length<=4096:=by decide):iJ C k cx (.List XY pos) (b9 dl):=λA U env σ s t rm x e=>dF e λts ht e=>wpAny_List (h.run rm x ht λvs XB g XD r l=>⟨by refine ab l (ab P7 ?_);exact Op hl (by decide),e▸iJ.new (tk:=XB.toks) x.toaY g r rfl⟩)
theorem oV (h:gT C k cx XY dl)(hl:XY.length<=4096:=by decide):aC C k cx (.Tuple XY ct pos) (dj dl):=λA U env σ s t rm x e=>dF e λts ht e=>wpAny_Tuple (h.run rm x ht λvs XB g XD r l=>⟨by refine ab l (ab P7 ?_);exact Op hl (by decide),g.trans (aH.push (tk:=XB.toks)),e▸lr XD.toaY r⟩)
def bE (d:ED)(st:V->ai->Option ai):SD:=λσ=>(d σ).bind λt=>(st t σ).map λσ'=>(.next,σ')
theorem sq {st:V->ai->Option ai}(h:aC C k cx pe d)(ht:d9 C k cx false target st)
 (hx:∀env,exec (.Assign [target] pe pos) env=(do Qb pos;let v <-PX pe env;WM target env v;pure .next)):du C k cx oc (.Assign [target] pe pos) cx.own (bE d st):=λA U env σ s r rm x e=>
 ay e λt h1 e=>dF e λσ' h2 e=>by rw[hx];exact Og (Py (Og (h.run rm x h1 λv XB g XD rv=>Og (cf (ht A U env σ σ' XB t v rm XD h2 rv) λ_ XC XG ev=>Oi (e▸ .grow0 g x.toaY (.ofNext ev XG))))))
theorem b4 (h:du C k cx oc st cx.own sa)(h':bG C k cx oc rest O' sb):bG C k cx oc (st::rest) O' (aa sa sb):=qP h h'
theorem qH (e: {cx with own:=Yo}=cx') (h:du C k cx oc st Yo sa) (h':bG C k cx' oc rest O' sb):bG C k cx oc (st::rest) O' (aa sa sb):=qP h (e▸h')
def oK (x:V):Option V:=(fR x).bind λxs=>if xs.length<=lim then W8 (.list xs)else W9
theorem vM:iK C k (λv=>call (.type "list") [v]) oK:=λA U s x t v rm ok e r=>ay e λxs hx e=>f7 e λhl e=>oP hx r λT a vs hT hv h1 h2=>by obtain⟨n,h1⟩:=h1;have:=h2.length;have:=sX;refine ab hv (bV (Oh e) ?_);refine PySem.call_list_seq a (T:=T) hT (av.mp h1).2 rfl rfl (λh' c' hk hn=> ?_) (by refine ab OI (ab P7 ?_);exact Op (O2 (by assumption)) (Op hl (by decide)));have g:aH C s {s with heap:=h'}:=aH.heap (tk:=s.toks) hk;exact⟨g,CT ⟨c',ao.mpr ⟨ok.newNot,hn⟩⟩ (aq.mono (g.le ok.tU) _ _ h2)⟩
theorem Cy {n:Nat}(h:n<=8192):Sx n=false:=by unfold Sx;refine ab P7 ?_;exact decide_eq_false (R8.mpr (Op h (by decide)))
def E4 (i:Nat)(e:ED):SD:=lI i λσ xs=>(e σ).bind λt=>match t with
 | .list ys=>if xs.length<=lim/\ ys.length<=lim/\ xs.length+ys.length<=lim then W8 (xs++ys)else W9
 |_=>W9
theorem sD (hx:cx.vars.lookup n=W8 i)(ho:i∈cx.own)(h:aC C k cx pe d)
 (hb:∀env,Pq (.Name n p) "extend" env (PX (.Name n p) env)=PX (.Name n p) env:=by intro _;rfl) (hs:∀env,OC [pe] env= [(false,PX pe env)]:=by intro _;rfl) (hl:(ap.endLine==cp.line)=true:=by rfl)
 (hw:∀env,P8 (.Call (.Attribute (.Name n p) "extend" ap) [pe] [] cp) W9 sp.line env=pure false:=by intro _;rfl):
 du C k cx oc (.Expr (.Call (.Attribute (.Name n p) "extend" ap) [pe] [] cp) sp) cx.own (E4 i d):=λA U env σ s r rm x e=>
 kP e λxs zs h0 e hr=>ay e λt ht e=>yw e λys hy e=>f7 e λhc e=>x.atE hx ho h0 λa at'=>by obtain⟨_,_,h1,_⟩:=iT at'.top;refine g6 UI F.slot_list_extend F.type_list_extend x hx at' ⟨_,(av.mp h1).2,rfl,rfl⟩ (h A U env σ s t rm x.tobA ht) (λv XB p=> ?_) (hb env) (hs env) hl (hw env);have X7:=at'.grow x.tobA p.1;obtain⟨vs,m,k1,k2⟩:=iT X7.top;rw[hy]at p;obtain⟨b,us,hv,⟨m',q1⟩,q2⟩:=gI p.2;have l1:=k2.length;have l2:=q2.length;have hk:=(av.mp k1).2;have:=sX;refine bV hr (bV (Oh e) (ab hv ?_));refine UW F.slot_list_extend ⟨_,hk,rfl⟩ F.entry_list_extend (F.args_list_extend_2 _ _) (AutoSeq1.list_extend_list_list_0 a vs.toArray m b us.toArray m' (by rw[Cy (by refine ab OI (ab OI ?_);exact Op (aaV (l1▸hc.1) (l2▸hc.2.1)) (by decide)),Bool.and_false];exact OD) (by refine ab OI (ab P7 ?_);exact Op (l1▸hc.1) (by decide)) (by refine ab OI (ab OI (ab P7 ?_));exact Op (aaV (l1▸hc.1) (l2▸hc.2.1)) (by decide))) ⟨hk,(ao.mp q1).2,?_⟩;have YJ:(XB.heap.update a (PG λx=>x++us.toArray)).get? a=W8 (PG (λx=>x++us.toArray) {cls:= .type "list",dict:=W9,data:= .seq vs.toArray m,slots:= #[]}):=Pm _ hk rfl;have e1:∃m₂,PG (λx=>x++us.toArray) {cls:= .type "list",dict:=W9,data:= .seq vs.toArray m,slots:= #[]}= {cls:= .type "list",dict:=W9,data:= .seq (vs++us).toArray m₂,slots:= #[]}:=⟨_,by rw[<-TM];rfl⟩;obtain⟨m₂,e1⟩:=e1;rw[e1]at YJ;exact X7.turn (tk:=XB.toks) (x.grow p.1) p.1 x.toaY hx ho (Ph ..) ⟨_,YJ⟩ (by exact⟨_,_,rfl,⟨m₂,av.mpr ⟨(av.mp k1).1,YJ⟩⟩,aq.append k2 q2⟩) λc fs hc=>nomatch hc
def to (f g:V->V->Option V)(a b c:ED):ED:=λσ=>(a σ).bind λx=>(b σ).bind λy=>(f x y).bind λr=>(cZ r).bind λt=>if t then(c σ).bind λz=>g y z else W8 r
theorem vw {op':CmpOp}{f g:V->V->Option V}(ha:aC C k cx pa a)(hb:aC C k cx pb b)(hc:aC C k cx pc c)(hf:ir C k (PH op) f)(hg:ir C k (PH op') g)
 (hm:lastMarks [op,op'] [pb,pc]=false:=by with_unfolding_all rfl):aC C k cx (.Compare pa [op,op'] [pb,pc] pos) (to f g a b c):=λA U env σ s t rm x e=>
 ay e λxa h1 e=>ay e λxb h2 e=>ay e λr h3 e=>ay e λq h4 e=>Compare_chain (ha.runE rm x h1 λv XB XI XD XQ=>chain_link (hb.runE rm XD h2 λu XC XF XG XZ=>
  cf (hf A U XC _ _ _ _ _ rm XG.toaY h3 (bj.mono (XF.le x.tU) _ _ XQ) XZ) λz XJ XW Yq=>by
   have g:=(XI.trans XF).trans XW;refine cf (qA h4 (Yq.top (dG x.tU))) λc' Ym Yy h=> ?_;have Yd:=(XG.grow XW).grow Yy;refine(h)▸ ?_;cases q with
   |false=>exact Oh e▸⟨g.trans Yy,bj.mono (Yy.le x.tU) _ _ Yq⟩
   |true=>exact ay e λxc h5 e=>chain_last (hc.runE rm Yd h5 λy X9 g₅ YY r₅=>cf (hg A U X9 _ _ _ _ _ rm YY.toaY e (bj.mono (((XW.trans Yy).trans g₅).le x.tU) _ _ XZ) r₅) λz Zi g₆ r₆=>⟨((g.trans Yy).trans g₅).trans g₆,r₆⟩))) hm
def AF:V->V->Option Bool
 | .list xs,.list ys=>(dN xs).bind λns=>(dN ys).map λms=>decide (ns=ms)
 |_,_=>W9
theorem D2:ir C k (PH .NotEq) (λa b=>(AF a b).map λc=>Xb (!c)):=λA U s x y t v u rm ok e r1 r2=>dF e λb hb e=>G4 hb λxs ys hx hy hb=>ay hb λns e1 hb=>dF hb λms e2 hb=>by rw[hx,eE e1]at r1;rw[hy,eE e2]at r2;obtain⟨a,vs,hv,h1,q1⟩:=gI r1;obtain⟨b,ws,hu,h2,q2⟩:=gI r2;refine ab hv (ab hu (bV e (bV hb ?_)));exact ke_ne_ints h1.list h2.list (ez q1) (ez q2) (OW (TE (L2 rm.units) 64) (by decide)) ⟨.refl s,bu⟩
theorem qK (hg:fn∈cx.globs)(hm:C.mg fn=W8 (.ref f))(F:rX C k f fd params D)(P:Ab C fd params 0 [] φ):
 aC C (k+1) cx (.Call (.Name fn p) [] [] pos) (λ_=>D (φ [])):=λA U env σ s t rm x e=>by
 obtain⟨o,ho,hd⟩:=F.obj;obtain⟨ws,Zw,hr,hl⟩:=P U s [] [] [] x.toaY rfl rfl aq.nil;exact Pu (lN x hg hm (PySem.Calls.callWith_function (o:=o) (fd:=fd) (Q5 ⟨⟨x.inv.base f o F.notT ho,hd⟩,RU (Pb (F.call A U s _ ws _ t rm x.toaY Zw hr hl e) λr XJ h=>by obtain⟨v,hv,h⟩:=h;refine ab hv ?_;exact h)⟩)))
def qm:V->Option V
 | .int a=>if a.natAbs<2^40 then W8 .any else W9
 |_=>W9
theorem D1:iK C k (λv=>call (.type "str") [v]) qm:=λA U s x t v rm ok e r=>nY e λa hx e=>f7 e λh e=>by rw[hx]at r;obtain⟨t,hv⟩:=cG (K:=C.cls) (g:=view U s.heap) r;refine ab hv (bV (Oh e) ?_);exact str_of_int_fit (N:=2^40) (by rw[show(if a<0 then 0 - a else a)=(a.natAbs:Int)from by split;exact(Int.zero_sub a).trans (Int.ofNat_natAbs_of_nonpos (aa1 (by assumption))).symm;exact(Int.natAbs_of_nonneg (aa3.mp (by assumption))).symm];exact PS.mpr h) (by decide) λ_=>⟨.tok,trivial⟩
theorem vt {o:OO}{xs:List (List Nat)}(hg:n∈cx.globs)(hm:C.mg n=W8 (.ref o))(ho:∃m,C.hb.get? o=W8 {cls:= .type "list",dict:=W9,data:= .seq vs.toArray m,slots:= #[]}) (hT:o∉C.T)
 (hr:∀(K:br) (g:a0),aq K g (xs.map Xd) vs):gm C k cx (.Name n pos) (dK (.list (xs.map Xd))):=λA U env σ s t rm x e=>by
 obtain⟨m,ho⟩:=ho;exact lN x hg hm ⟨.refl s,Oh e▸(Exists.intro o ⟨vs,rfl,⟨m,av.mpr ⟨hT,x.inv.base _ _ hT ho⟩⟩,hr _ _⟩)⟩
def se:V->V->Option V
 | .list [x],.int b=>if b.toNat<=lim/\ -(2^60)<b/\ b<2^60 then W8 (.list (OS b.toNat x))else W9
 |_,_=>W9
theorem F1 (e:se x y=W8 t)(k:∀z b,x= .list [z]->y= .int b->b.toNat<=lim/\ -(2^60)<b/\ b<2^60-> .list (OS b.toNat z)=t->P):P:=by
 cases x with
 |list xs=>
  cases xs with
  |nil=>exact absurd e aI
  |cons a xs=>
   cases xs with
   |nil=>
    cases y with
    |int b=>exact f7 e λh e=>k _ _ rfl rfl h (Oh e)
    |_=>exact absurd e aI
   |cons=>exact absurd e aI
 |_=>exact absurd e aI
theorem nE {K:br}{g:a0}(h:bj K g x v):∀n,aq K g (OS n x) (OS n v)
 |0=>aq.nil
 |n+1=>aq.cons h (nE h n)
theorem AP (hl:aC C k cx l a)(hr:aC C k cx r b):iJ C k cx (.BinOp l .Mult r pos) (dB se a b):=λA U env σ s t rm x e=>by
 injections k pos cx l r a b A U env σ s t _ hl hr rm x e;exact ay e λp hp e=>ay e λq hq e=>F1 e λz b hz hb hc e=>wpAny_BinOp (hl.runE rm x hp λv XB XI XD r1=>hr.runE rm XD hq λu XC XF XG r2=>by
  have h0:=hc.1;have hlo:=hc.2.1;have hhi:=hc.2.2;rw[hz]at r1;rw[hb]at r2;obtain⟨a,vs,hv,⟨n1,h1'⟩,q1⟩:=gI (bj.mono (XF.le x.tU) _ _ r1);obtain⟨t2,hu⟩:=cG r2;have m1:=(ao.mp h1').2;obtain⟨v,r,Zl,hv',hr⟩:=q1.cons_inv;rw[Zl,hr.nil_inv]at m1;have:=sX;refine ab hv (ab hu (bV e ?_));refine VH (T:= "list") (U:= "int") (by decide) ⟨_,m1,rfl⟩ (λs'=>VS s' b t2) noFill_list_mul F.fills_int_mul TF repeat_list F.slot_int_index.lookup
   (UW TF (VS XC b t2) F.entry_int_rmul (F.args_int_rmul_2 _ _) (WH b t2 a [v].toArray n1)
     ⟨m1,rfl,⟨_,m1,rfl⟩,UW F.slot_list_mul ⟨_,m1,rfl⟩ F.entry_list_mul (F.args_list_mul_2 _ _)
      (Tz a [v].toArray n1 b t2 (J8 hlo hhi) (Hp h0).1 (Hp h0).2)
      ⟨m1,?_⟩⟩)
  rw[mm,show(OS (if([v].toArray:Array Oq).isEmpty=true then 0 else b.toNat) ([v].toArray:Array Oq).toList).flatten=OS b.toNat v from T9];exact iJ.new (tk:=XC.toks) x.toaY (XI.trans XF) (nE hv' _) rfl)
end
end
section
structure bH (C:Cf ag w) (c:Nat):Prop where
 dict:(clsIn C.K (C.cls.adr c)).any (·.hasDict)=true
 ga:Q0 C.K (.ref (C.cls.adr c)) "__getattribute__"=W8 (W8 (.builtin "object.__getattribute__"))
 gk:Q0 C.K (.ref (C.cls.adr c)) "__getattr__"=W8 W9
 nd:(C.cls.names c).Nodup
 own:∀x∈C.cls.names c,Q0 C.K (.ref (C.cls.adr c)) x=W8 W9
 over:plainOver C.K (C.cls.adr c)=true
 set:Q0 C.K (.ref (C.cls.adr c)) "__setattr__"=W8 (W8 (.builtin "object.__setattr__"))
 makes:makesIn C.K (C.cls.adr c)=true
 cls:Q0 C.K (.ref (C.cls.adr c)) "__class__"=W8 (W8 (.builtin "object.__class__"))
 clsG:specialIn C.K (.builtin "object.__class__") "__get__"=W8 (W8 (.builtin "getset_descriptor.__get__"))
 clsT:takesIn C.K (.builtin "object.__class__")=W8 true
 obj:mroIn C.K (C.cls.adr c) (.type "object")=W8 true
 nInt:VU C.K (.type "int") (.ref (C.cls.adr c))=W8 false
 nList:VU C.K (.type "list") (.ref (C.cls.adr c))=W8 false
 isInt:VU C.K (.ref (C.cls.adr c)) (.type "int")=W8 false
 first:selfFirst C.K (C.cls.adr c)=true
 sub:subIn C.K (.type "int") (.ref (C.cls.adr c))=W8 false
theorem nQ {es:List QD}{n:Nat}{names:List Str}(nd:names.Nodup)(hl:es.length=names.length)(hk:∀(i:Nat) (x:Str),names[i]?=W8 x->∃t,(es[i]?).map (λe:QD=>e.key)=W8 (S1 x t)){i:Nat}{x:Str}{e:QD}(hx:names[i]?=W8 x)(he:es[i]?=W8 e):
 lookIn x (S0 es n)=W8 (W8 e.val):=by
 have hf:es.find? (λe=>e.key.isStr x)=W8 e:=by
  rw[List.find?_eq_some_iff_getElem];obtain⟨hi,hei⟩:=Pn.mp he;obtain⟨t,ht⟩:=hk i x hx;rw[he]at ht;simp only[Rx,Vc]at ht;refine⟨by refine ab ht ?_;simp[UE],i,hi,hei,λj hj=> ?_⟩;have hj':j<names.length:=QX hj (hl▸hi);obtain⟨t',ht'⟩:=hk j names[j] (OP hj');rw[OP (QX hj hi)]at ht';simp only[Rx,Vc]at ht';refine(ht')▸ ?_;have Yn:names[j]≠x:=λh=>by obtain⟨hi',hxi⟩:=Pn.mp hx;have:=(Wz hj' nd (j:=i)).mp (by rw[OP hj',OP hi',h,hxi]);exact Px hj this
  simpa [UE]using Yn
 unfold lookIn;simp only[VY,hf]
theorem bC.at {h:O0}{d:OO}{c:Nat}(x:bC K h.get? a c d vs):∃es n,InstAt h a (R3 (K.adr c) d) (K.adr c) (W8 (S0 es n))/\ h.get? d=W8 (S0 es n)/\ es.map (λe=>e.val)=vs/\ es.length=(K.names c).length/\
 (∀(i:Nat) (x:Str),(K.names c)[i]?=W8 x->∃t,(es[i]?).map (λe:QD=>e.key)=W8 (S1 x t)):=by
 injections a K vs h d c _ x;obtain⟨h1,h2,h3,es,n,h4,h5,h6⟩:=x;exact⟨es,n,⟨h1,rfl,rfl,h4⟩,h4,h5,by rw[<-h3,<-h5,OA],h6⟩
theorem ux {g:a0}(r:bj K g t v)(ht:t≠ .any):handedIn v=true/\ v≠ .notImplemented:=by
 have ref:∀ {a:OO} {P:Prop},v= .ref a/\ P->handedIn v=true/\ v≠ .notImplemented:=λh=>by refine ab h.1 ?_;exact⟨rfl,nofun⟩
 cases t with
 |none=>refine ab (show v= .none from r) ?_;exact⟨rfl,nofun⟩
 |bool b=>refine ab (show v= .bool b from r) ?_;exact⟨rfl,nofun⟩
 |int i=>obtain⟨_,h⟩:=r;refine ab h ?_;exact⟨rfl,nofun⟩
 |str x=>obtain⟨_,h⟩:=r;refine ab h ?_;exact⟨rfl,nofun⟩
 |adr a=>exact ref (P:=True) ⟨r,trivial⟩
 |any=>exact absurd rfl ht
 |list |tup |dict=>obtain⟨_,_,h⟩:=r;exact ref h
 |set=>obtain⟨_,h⟩:=r;exact ref h
 |inst=>obtain⟨_,_,_,h⟩:=r;exact ref h
theorem yR {g:a0}(r:bj K g t v)(ht:t≠ .any):handedIn v=true:=(ux r ht).1
theorem rI {K:Frag}{od:Option Obj}{x:Str}(hc:clsIn K a=W8 cd)(hn:Q0 K (.ref a) x=W8 W9)(ho:UX cd od x=W8 (W8 v)):findObj K a od x=W8 (.value v):=by injections a v cd K od x _ hc hn ho;show(clsIn K a).bind _=_;refine ab hc ?_;show(Q0 K (.ref a) x).bind _=_;refine ab hn ?_;show(UX cd od x).bind _=_;refine ab ho ?_;rfl
theorem t9 {x:Str}{r:Option (Option Oq)}(hd:cd.hasDict=true)(h:lookIn x o=r):UX cd (W8 o) x=r:=(if_pos hd).trans h
theorem tM (ok:aY C U s){c:Nat}(K:bH C c){d:OO}(I:bC C.cls s.heap.get? a c d vs){i:Nat}{x:Str}{expr:Bool}
 (hx:(C.cls.names c)[i]?=W8 x) (hv:vs[i]?=W8 v) (hh:handedIn v=true) (q:Q v {s with toks:=s.toks+1}):Oz (Ov ag w) A (Up (.ref a) x expr) Q E s:=by
 obtain⟨es,n,ia,_,Zl,hl,hk⟩:=I.at;subst Zl;rw[Qw]at hv;obtain⟨e,he,rfl⟩:=O3.mp hv;have hn:=K.own x (Qs hx);refine get_value ok.inv.kin ia K.ga ?_ hh q;obtain⟨cd,hc,hd⟩:=T0 K.dict;exact rI hc hn (t9 hd (nQ K.nd hl hk hx he))
def aR (c i:Nat):V->Option V
 | .inst c' fs=>if c'=c then(match fs[i]? with |some .any=>W9 |o=>o)else W9
 |_=>W9
theorem yK {f:Nat->List V->Option α}{r:α}(h:(match x with | .inst a b=>f a b |_=>W9)=W8 r)(k:∀a b,x= .inst a b->f a b=W8 r->P):P:=by
 cases x with
 |inst a b=>exact k a b rfl h
 |_=>exact absurd h aI
theorem CO {o:Option V}(e:(match o with |some .any=>W9 |o=>o)=W8 t):o=W8 t/\ t≠ .any:=by
 cases o with
 |none=>exact absurd e aI
 |some x=>
  cases x with
  |any=>exact absurd e aI
  |_=>exact⟨e,λh=>nomatch (Oh e).trans h⟩
theorem Dt {c i:Nat}(e:aR c i y=W8 t)(k:∀fs,y= .inst c fs->fs[i]?=W8 t->t≠ .any->P):P:=
 yK e λc' fs hy e=>f7 e λhc e=>k fs (hc▸hy) (CO e).1 (CO e).2
theorem fG {x:Str}{a:ED}(c i:Nat)(K:bH C c)(hx:(C.cls.names c)[i]?=W8 x)(ho:gm C k cx po a)
 (he:∀env,PX (.Attribute po x pos) env=(do
   let o <-PX po env
   Qb pos.atName
   let r <-Qo [o] (Up o x true)
   QT po o r
   pure r):=by intro _;with_unfolding_all rfl):aC C k cx (.Attribute po x pos) (dU (aR c i) a):=λA U env σ s t rm xx e=>
 ay e λy hy e=>Dt e λfs S' ht hna=>Ul (cf (ho A U env σ s y rm xx hy) λv XB g r=>by rw[S']at r;obtain⟨ad,d,vs,hv,hI,hr⟩:=r;obtain⟨u,hu,rv⟩:=hr.get ht;refine(hv)▸ ?_;exact tM (xx.toaY.grow g) K (hI.mono λa o e=>(av.mp e).2) hx hu (yR rv hna) ⟨g.trans .tok,rv⟩) (he env)
end
section
theorem t3 {x:Str}{hs:Int}{tk:Tok}{es:List QD}{n:Nat}(hn:∀e∈es,∃y t,e.key= .str y t/\ y≠x):Obj.putName x hs (.str x tk) v (S0 es n)=S0 (es++ [⟨hs,.str x tk,v⟩]) (n+1):=by
 refine ab Obj.putName_eq ?_;have hf:es.toArray.findIdx? (λe=>e.key.isStr x)=W9:=by rw[Array.findIdx?_eq_none_iff];intro e he;obtain⟨y,t,h1,h2⟩:=hn e (by simpa using he);refine ab h1 ?_;simpa [UE]using h2
 simp only[Obj.putNameByArray,hf];simp[S0]
theorem r7 {Q:Unit->On->Prop}(ok:aY C U s){c:Nat}(K:bH C c){d:OO}{es:List QD}{n:Nat}{x:Str}(ha:s.heap.get? a=W8 (R3 (C.cls.adr c) d))(hd:s.heap.get? d=W8 (S0 es n))
 (hx:x∈C.cls.names c) (hn:∀e∈es,∃y t,e.key= .str y t/\ y≠x) (hl:es.length<=100)
 (q:∀h' hs tk,OE d s.heap h'->h'.get? d=W8 (S0 (es++ [⟨hs,.str x tk,v⟩]) (n+1))->Q () {s with heap:=h',toks:=s.toks+1+1}):Oz (Ov ag w) A (setAttr (.ref a) x v) Q E s:=by
 injections s a A v E U Q c d es n x _ ok K ha hd hx hn hl q;have I:InstAt s.heap a (R3 (C.cls.adr c) d) (C.cls.adr c) (W8 (S0 es n)):=⟨ha,rfl,rfl,hd⟩;have X:=ok.inv.kin;refine set_plain X I K.set ?_;have ht:takerIn C.K (C.cls.adr c) x=W8 W9:=by unfold takerIn;refine ab (K.own x hx) ?_;rfl
 refine osa_open (s:= {s with toks:=s.toks+1}) (r:=W9) X I K.over ht λb=> ?_;obtain⟨cd,hc,hd'⟩:=T0 K.dict;refine Og (Oi (Og (Og (wpAny_loadPart ha (Og (looks_clsIn X hc _ _ _ _ (λ_ _ e=>e) ?_))))));refine ab hd' ?_;refine Oi (a:=W8 d) (Og (Oi (Og ?_)));refine Og (Og (Ps (Oi (Og (wpAny_mkText (Og (wpAny_loadPart hd ?_)))))));dsimp only;have hz:(!es.any (·.key.isStr x)&&es.any (·.refKey))=false:=by
  have:es.any (·.refKey)=false:=by rw[Uk];intro e he;obtain⟨y,t,h1,_⟩:=hn e he;simp[VE,h1]
  simp only[this,Bool.and_false]
 simp only[aRefKeyMayBeTheName_at,<-WC,<-WC];refine ab hz ?_;have D':=Pm (h:=s.heap) (λo=>Obj.putName x (Vt.keyHash w.params x) (.str x (s.toks+1)) v o) hd (by refine ab (t3 hn) ?_;rfl);rw[t3 hn]at D';refine wpAny_updatePart hd ?_;refine Og (wpAny_lookBehind D' (pastItsLine_dict (by refine ab OI (ab Pd (ab P7 ?_));simp;omega)) ?_);exact Oi (q _ _ _ (Ph ..) D')
end
section
structure cM (C:Cf ag w) (k:Nat) (v:Oq) (np:Nat) (kn:List Str) (D:List V->Option V):Prop where
 keep:∀h:O0,(∀b o,b∉C.T->C.hb.get? b=W8 o->h.get? b=W8 o)->C.K.In h->∃q,(q=Keeper.frame \/q=WZ \/q=V0)/\ TY (Ov ag w) h (keeperOf v) q
 call:∀(A:O6) (U:Ow) (s:On) (vs us:List Oq) (xs:List V) (t:V),aV A (k+1)->aY C U s->vs.length=np->us.length=kn.length->aq C.cls (view U s.heap) xs (vs++us)->D xs=W8 t->Oz (Ov ag w) A (call v vs (kn.zip us)) (λz s'=>aH C s s'/\ bj C.cls (view U s'.heap) t z) (λ_ _=>False) s
theorem rX.callee (F:rX C k f fd params D)(P:Ab C fd params np kn φ):cM C k (.ref f) np kn λxs=>D (φ xs) where
 keep:=λh hb _=>by obtain⟨o,ho,hd⟩:=F.obj;refine⟨.frame,.inl rfl,(TY.ld (part:=W9) (hb f o F.notT ho)).andThen ?_⟩;exact(hd)▸TY.now
 call:=λA U s vs us xs t rm ok hv hu r e=>by obtain⟨ws,Zw,hr,hl⟩:=P U s vs us xs ok hv hu r;exact RU (Pb (F.call A U s _ ws _ t rm ok Zw hr hl e) λr XJ h=>by obtain⟨v,hv,h⟩:=h;refine ab hv ?_;exact h)
def aM (D:List V->Option V)(a b:ai->Option (List V)):ED:=λσ=>(a σ).bind λxs=>(b σ).bind λys=>D (xs++ys)
theorem yH {l:List (Option Str×α)}(h:l.all (·.1.isSome)=true):l.any (·.1.isNone)=false:=
 Uk.mpr λy hy h'=>by
  have:=Ou.mp h y hy;cases e:y.1 with
  |none=>rw[e]at this;cases this
  |some _=>rw[e]at h';cases h'
noncomputable abbrev Ia (C:Cf ag w)(v:Oq):Prop:= ∀h:O0,(∀b o,b∉C.T->C.hb.get? b=W8 o->h.get? b=W8 o)->C.K.In h->∃q,(q=Keeper.frame \/q=WZ \/q=V0)/\ TY (Ov ag w) h (keeperOf v) q
theorem j4 {a b:ai->Option (List V)}(F:Ia C v)(ha:gT C (k+1) cx XY a)(hb:jr C (k+1) cx kws kn b)
 (Zb:∀env pos,((Qr pos (OC XY env)).any (·.1))=false) (rm:aV A (k+1)) (x:bA C cx U env σ s) (hf:aq C.cls (view U s.heap) fts first) (hx:a σ=W8 xs) (hy:b σ=W8 ys)
 (hev:∀ {Q:Args->On->Prop},Oz (Ov ag w) A (V7 (Qr pos (OC XY env))) (λvs XB=>Oz (Ov ag w) A (Wa ((Pz pos (OY kws env)).map (·.2))) (λks XC=>Q ⟨vs,((Pz pos (OY kws env)).filterMap (·.1)).zip ks⟩ XC) (λ_ _=>False) XB) (λ_ _=>False) s->Oz (Ov ag w) A (evalArgs v true (Qr pos (OC XY env)) (Pz pos (OY kws env))) Q (λ_ _=>False) s)
 (q:∀vs us s',aH C s s'->bA C cx U env σ s'->aq C.cls (view U s'.heap) (fts++(xs++ys)) ((first++vs)++us)->(first++vs).length=first.length+XY.length->us.length=kn.length->Oz (Ov ag w) A (call v (first++vs) (kn.zip us)) Q (λ_ _=>False) s'):Oz (Ov ag w) A (Rq pos v first (Qr pos (OC XY env)) (Pz pos (OY kws env))) Q (λ_ _=>False) s:=by refine callWith_of (P:=λh=>(∀b o,b∉C.T->C.hb.get? b=W8 o->h.get? b=W8 o)/\ C.K.In h) (by rw[Zb,yH (hb.1 env pos).1];rfl) (λh hP=>F h hP.1 hP.2) (hev (ha.run rm x hx λvs XB g XD r l=>hb.run rm XD hy λus XC XF XG XZ l₂=>⟨⟨XG.inv.base,XG.inv.kin⟩,?_⟩));refine((hb.1 env pos).2)▸ ?_;exact q vs us XC (g.trans XF) XG (by simp only[QR];exact aq.append (aq.mono ((g.trans XF).le x.tU) _ _ hf) (aq.append (aq.mono (XF.le x.tU) _ _ r) XZ)) (by exact ab Pd (ab l rfl)) l₂
theorem oz {a b:ai->Option (List V)}(F:cM C k v np kn D)(hnp:first.length+XY.length=np)(ha:gT C (k+1) cx XY a)(hb:jr C (k+1) cx kws kn b)
 (Zb:∀env pos,((Qr pos (OC XY env)).any (·.1))=false) (rm:aV A (k+1)) (x:bA C cx U env σ s) (hf:aq C.cls (view U s.heap) fts first) (e:aM (λys=>D (fts++ys)) a b σ=W8 t)
 (hev:∀ {Q:Args->On->Prop},Oz (Ov ag w) A (V7 (Qr pos (OC XY env))) (λvs XB=>Oz (Ov ag w) A (Wa ((Pz pos (OY kws env)).map (·.2))) (λks XC=>Q ⟨vs,((Pz pos (OY kws env)).filterMap (·.1)).zip ks⟩ XC) (λ_ _=>False) XB) (λ_ _=>False) s->Oz (Ov ag w) A (evalArgs v true (Qr pos (OC XY env)) (Pz pos (OY kws env))) Q (λ_ _=>False) s):
 Oz (Ov ag w) A (Rq pos v first (Qr pos (OC XY env)) (Pz pos (OY kws env))) (λz s'=>aH C s s'/\ bj C.cls (view U s'.heap) t z) (λ_ _=>False) s:=
 ay e λxs hx e=>ay e λys hy e=>j4 F.keep ha hb Zb rm x hf hx hy hev λvs us XC g XG r l l₂=>cf (F.call A U XC (first++vs) us _ t rm XG.toaY (l.trans hnp) l₂ r e) λz XJ XW Yq=>⟨g.trans XW,Yq⟩
theorem vz {a b:ai->Option (List V)}(hg:fn∈cx.globs)(hm:C.mg fn=W8 v)(F:cM C k v XY.length kn D)(ha:gT C (k+1) cx XY a)(hb:jr C (k+1) cx kws kn b)
 (Zb:∀env pos,((Qr pos (OC XY env)).any (·.1))=false:=by intro _ _;rfl)
 (hev:∀(A:O6) (env:Env) (s:On) (Q:Args->On->Prop),(Pz pos (OY kws env)).all (·.1.isSome)=true->Oz (Ov ag w) A (V7 (Qr pos (OC XY env))) (λvs XB=>Oz (Ov ag w) A (Wa ((Pz pos (OY kws env)).map (·.2))) (λks XC=>Q ⟨vs,((Pz pos (OY kws env)).filterMap (·.1)).zip ks⟩ XC) (λ_ _=>False) XB) (λ_ _=>False) s->Oz (Ov ag w) A (evalArgs v true (Qr pos (OC XY env)) (Pz pos (OY kws env))) Q (λ_ _=>False) s):
 aC C (k+1) cx (.Call (.Name fn p) XY kws pos) (aM D a b):=λA U env σ s t rm x e=>
 UA (lN x hg hm (oz (fts:= []) (first:= []) F (by simp) ha hb Zb rm x aq.nil e (hev A env s _ (hb.1 env pos).1)))
end
section
theorem jd (he:∀env,OC (pe::XY) env=(false,PX pe env)::OC XY env:=by intro _;rfl):∀(A:O6) (env:Env) (s:On) (Q:Args->On->Prop),(Pz pos (OY kws env)).all (·.1.isSome)=true->Oz (Ov ag w) A (V7 (Qr pos (OC (pe::XY) env))) (λvs XB=>Oz (Ov ag w) A (Wa ((Pz pos (OY kws env)).map (·.2))) (λks XC=>Q ⟨vs,((Pz pos (OY kws env)).filterMap (·.1)).zip ks⟩ XC) (λ_ _=>False) XB) (λ_ _=>False) s->Oz (Ov ag w) A (evalArgs v true (Qr pos (OC (pe::XY) env)) (Pz pos (OY kws env))) Q (λ_ _=>False) s:=λA env s Q j' h=>evalArgs_kw2 j' h (he env)
theorem tC (F:cM C k v np [] D)(hnp:first.length=np)(rm:aV A (k+1))(ok:aY C U s)(hf:aq C.cls (view U s.heap) fts first)(e:D fts=W8 t):
 Oz (Ov ag w) A (Rq pos v first (Qr pos (OC [] env)) (Pz pos (OY [] env))) (λz s'=>aH C s s'/\ bj C.cls (view U s'.heap) t z) (λ_ _=>False) s:=
 callWith_of (P:=λh=>(∀b o,b∉C.T->C.hb.get? b=W8 o->h.get? b=W8 o)/\ C.K.In h) rfl (λh hP=>F.keep h hP.1 hP.2) (Q5 ⟨⟨ok.inv.base,ok.inv.kin⟩,by rw[QQ];exact F.call A U s first [] fts t rm ok hnp rfl (by rw[QQ];exact hf) e⟩)
structure ec (C:Cf ag w) (c:Nat) (name:Str) (f:OO):Prop where
 at_:Q0 C.K (.ref (C.cls.adr c)) name=W8 (W8 (.ref f))
 fn:typeIn C.K (.ref f)=W8 (.type "function")
 free:name∉C.cls.names c
theorem rr {es:List QD}{n:Nat}{x:Str}(hn:∀e∈es,∃y t,e.key= .str y t/\ y≠x):lookIn x (S0 es n)=W8 W9:=by
 have hf:es.find? (λe=>e.key.isStr x)=W9:=by rw[Wr];intro e he;obtain⟨y,t,h1,h2⟩:=hn e he;refine ab h1 ?_;simpa [UE]using h2
 have hr:es.any (·.refKey)=false:=by rw[Uk];intro e he;obtain⟨y,t,h1,_⟩:=hn e he;simp[VE,h1]
 unfold lookIn;simp only[VY,hf,hr];simp
theorem bC.keys {g:a0}{a d:OO}{c:Nat}{vs:List Oq}{es:List QD}(hl:es.length=(K.names c).length)(hk:∀(i:Nat) (x:Str),(K.names c)[i]?=W8 x->∃t,(es[i]?).map (λe:QD=>e.key)=W8 (S1 x t)){x:Str}(hx:x∉K.names c):
 ∀e∈es,∃y t,e.key= .str y t/\ y≠x:=λe he=>by
 obtain⟨i,hi,hei⟩:=VM.mp he;have hi':i<(K.names c).length:=hl▸hi;obtain⟨t,ht⟩:=hk i _ (OP hi');rw[OP hi,hei]at ht;exact⟨_,t,by simpa using ht,λh=>hx (h▸Uz hi')⟩
theorem u9 {Q:Oq×List Oq->On->Prop}(ok:aY C U s){c:Nat}(K:bH C c){name:Str}(M:ec C c name f){d:OO}(I:bC C.cls s.heap.get? a c d vs){pl:Sem Bool}
 (q:Q (.ref f,[.ref a]) s):Oz (Ov ag w) A (RD (.ref a) name pl) Q E s:=by
 obtain⟨es,n,ia,_,Zl,hl,hk⟩:=I.at;refine method_fn ok.inv.kin ia K.ga K.gk M.at_ M.fn ?_ q;unfold shadowIn;simp only[rr (bC.keys (g:=s.heap.get?) (a:=a) (d:=d) (vs:=vs) hl hk M.free)];rfl
def aS (c:Nat):V->Option V
 | .inst c' fs=>if c'=c then W8 (.inst c fs)else W9
 |_=>W9
theorem pV {c:Nat}(e:aS c y=W8 t)(k:∀fs,y= .inst c fs->t= .inst c fs->P):P:=
 yK e λc' fs hy e=>f7 e λhc e=>k fs (hc▸hy) (Oh e).symm
def C7 (c:Nat)(D:List V->Option V)(o:ED)(a b:ai->Option (List V)):ED:=λσ=>((o σ).bind (aS c)).bind λy=>aM (λys=>D (y::ys)) a b σ
theorem jU {name:Str}{c:Nat}{o:ED}(K:bH C c)(M:ec C c name f)(ho:aC C (k+1) cx po o)(pl:Env->Sem Bool)(he:∀env,PX (.Call (.Attribute po name ap) XY kws pos) env=(do
 let ov <-PX po env
 Qb ap.atName
 let (f,first) <-Qo [ov] (RD ov name (pl env))
 Rq pos f first (Qr pos (OC XY env)) (Pz pos (OY kws env))))
 (rm:aV A (k+1)) (x:bA C cx U env σ s) (hy:(o σ).bind (aS c)=W8 y)
 (q:∀ad XB,aH C s XB->bA C cx U env σ XB->aq C.cls (view U XB.heap) [y] [.ref ad]->Oz (Ov ag w) A (Rq pos (.ref f) [.ref ad] (Qr pos (OC XY env)) (Pz pos (OY kws env))) Q (λ_ _=>False) XB):Oz (Ov ag w) A (PX (.Call (.Attribute po name ap) XY kws pos) env) Q (λ_ _=>False) s:=
  ay hy λz hz hy=>pV hy λfs hz' hy=>methodCall_KW (ho.runE rm x hz λv XB g XD r=>by have r':=r;rw[hz']at r;obtain⟨ad,d,vs,hv,hI,hr⟩:=r;rw[hv]at r'⊢;exact u9 XD.toaY K M (hI.mono dw) (q ad XB g XD (aq.cons (hy▸hz'▸r') aq.nil))) (he env)
theorem vA {name:Str}{c:Nat}{o:ED}{a b:ai->Option (List V)}(K:bH C c)(M:ec C c name f)(F:cM C k (.ref f) ((pe::XY).length+1) kn D)(ho:aC C (k+1) cx po o)(ha:gT C (k+1) cx (pe::XY) a)(hb:jr C (k+1) cx kws kn b)
 (pl:Env->Sem Bool) (he:∀env,PX (.Call (.Attribute po name ap) (pe::XY) kws pos) env=(do
   let ov <-PX po env
   Qb ap.atName
   let (f,first) <-Qo [ov] (RD ov name (pl env))
   Rq pos f first (Qr pos (OC (pe::XY) env)) (Pz pos (OY kws env))):=by intro _;rfl)
 (Zb:∀env pos,((Qr pos (OC (pe::XY) env)).any (·.1))=false:=by intro _ _;rfl) (X':∀env,OC (pe::XY) env=(false,PX pe env)::OC XY env:=by intro _;rfl):
 aC C (k+1) cx (.Call (.Attribute po name ap) (pe::XY) kws pos) (C7 c D o a b):=λA U env σ s t rm x e=>
 ay e λy hy e=>jU K M ho pl he rm x hy λad XB g XD r=>cf (oz F (SX ..) ha hb Zb rm XD r e (jd X' A env XB _ (hb.1 env pos).1)) λz XC XF XZ=>⟨g.trans XF,XZ⟩
theorem sG {name:Str}{c:Nat}{o:ED}(K:bH C c)(M:ec C c name f)(F:cM C k (.ref f) 1 [] D)(ho:aC C (k+1) cx po o)
 (pl:Env->Sem Bool) (he:∀env,PX (.Call (.Attribute po name ap) [] [] pos) env=(do
   let ov <-PX po env
   Qb ap.atName
   let (f,first) <-Qo [ov] (RD ov name (pl env))
   Rq pos f first (Qr pos (OC [] env)) (Pz pos (OY [] env))):=by intro _;rfl):
 aC C (k+1) cx (.Call (.Attribute po name ap) [] [] pos) (λσ=>((o σ).bind (aS c)).bind λy=>D [y]):=λA U env σ s t rm x e=>
 ay e λy hy e=>jU K M ho pl he rm x hy λad XB g XD r=>cf (tC F rfl rm XD.toaY r e) λz XC XF XZ=>⟨g.trans XF,XZ⟩
end
section
section
variable{H:OO}{P:G->Ow->On->Prop}{x y:G}{c i:Nat}{fs:List V}{n:Str}
structure Gh (C:Cf ag w) (H:OO) (P:G->Ow->On->Prop):Prop where
 keep:∀ {x:G} {U:Ow} {s:On} {O:cK} {J:Nat->Prop} {U':Ow} {s':On},P x U s->aY C U s->Ev C O J U s U' s'->¬O H->P x U' s'
structure HS (C:Cf ag w) (cx:Cx) (H:OO) (P:G->Ow->On->Prop) (x:G) (U:Ow) (env:Env) (σ:ai) (s:On):Prop where
 S:bF C cx U env σ s
 nL:H≠env.locals
 fr:∀n c,n∉cx.mn->env.cells.lookup n=W8 c->∀q,U c≠W8 (H,q)
 p:P x U s
theorem HS.other (h:HS C cx H P x U env σ s)(g:Gh C H P)(ev:Ev C O J U s U' s')(x':bF C cx U' env σ' s')(hH:¬O H)(hf:∀n c,n∉cx.mn->env.cells.lookup n=W8 c->∀c' q,U c=W8 (c',q)->¬O c'):HS C cx H P x U' env σ' s':=
 ⟨x',h.nL,λn c h1 h2 q=>let ⟨_,v,o,e,_⟩:=h.S.hf n c h1 h2;ev.col c o e (hf n c h1 h2)▸h.fr n c h1 h2 q,g.keep h.p h.S.toaY ev hH⟩
theorem HS.step (h:HS C cx H P x U env σ s)(g:Gh C H P)(ev:Ev C (only env.locals) J U s U' s')(x':bF C cx U' env σ' s'):HS C cx H P x U' env σ' s':=
 h.other g ev x' h.nL λn c h1 h2 c' q e h'=>(h.S.hf n c h1 h2).1 q ((show c'=env.locals from h')▸e)
theorem HS.grow (h:HS C cx H P x U env σ s)(g:Gh C H P)(gr:aH C s s'):HS C cx H P x U env σ s':=h.step (J:=bM) g gr.ev (h.S.grow gr)
theorem HS.turn (h:HS C cx H P x U env σ s)(ev:Ev C (only H) J U s U' s')(p:P y U' s'):HS C cx H P y U' env σ s':=
 ⟨h.S.other ev (λe=>h.nL e.symm) λn c h1 h2 c' q e h'=>h.fr n c h1 h2 q ((show c'=H from h')▸e),h.nL,λn c h1 h2 q=>let ⟨_,v,o,e,_⟩:=h.S.hf n c h1 h2;ev.col c o e (λc' q e h'=>h.fr n c h1 h2 q ((show c'=H from h')▸e))▸h.fr n c h1 h2 q,p⟩
def fS (C:Cf ag w)(cx:Cx)(H:OO)(P:G->Ow->On->Prop)(U:Ow)(env:Env)(s:On)(x:G)(σ:ai)(s':On):Prop:=
 ∃U',Ev C (fQ env.locals H) bM U s U' s'/\ HS C cx H P x U' env σ s'
theorem fS.pre (ok:aY C U s)(ev:Ev C (fQ env.locals H) bM U s XE XB)(p:fS C cx H P XE env XB x σ s'):fS C cx H P U env s x σ s':=
 (by obtain⟨U',ev',h⟩:=p;exact⟨U',ev.trans ok ev' (λ_=> .inl) λ_=> .inl,h⟩)
inductive js (C:Cf ag w) (c:Nat) (a:OO) (fs:List V) (U:Ow) (s:On):Prop
 |mk (d:OO) (es:List QD) (n:Nat) (ne:a≠d) (tA:a∉C.T/\ C.hb.get? a=W9) (tD:d∉C.T/\ C.hb.get? d=W9) (uA:U a=W8 (a,.obj)) (uD:U d=W8 (a,.obj)) (hA:s.heap.get? a=W8 (R3 (C.cls.adr c) d)) (hD:s.heap.get? d=W8 (S0 es n))
  (hR:aq C.cls (view U s.heap) fs (es.map λe=>e.val)) (hK:∀(i:Nat) (e:QD),es[i]?=W8 e->∃x t,(C.cls.names c)[i]?=W8 x/\ e.key= .str x t)
theorem kO:Gh C a (js C c a) where
 keep:=λ {fs U s O J U' s'} p ok ev h=>by obtain⟨d,es,n,ne,tA,tD,uA,uD,hA,hD,hR,hK⟩:=p;have no:∀ {b:OO},U b=W8 (a,Slot.obj)->∀c q,U b=W8 (c,q)->¬O c:=λ {b} e c q e' h'=>h (by rw[e]at e';cases e';exact h');exact⟨d,es,n,ne,tA,tD,(ev.col a _ hA (no uA)).trans uA,(ev.col d _ hD (no uD)).trans uD,ev.keep a _ tA.1 (no uA) hA,ev.keep d _ tD.1 (no uD) hD,aq.mono (ev.le ok.tU) _ _ hR,hK⟩
theorem js.inst (p:js C c a fs U s)(hl:fs.length=(C.cls.names c).length){g:a0}(Z6:∀ {b:OO} {o:Obj},U b=W8 (a,.obj)->s.heap.get? b=W8 o->g b=W8 o){P:Prop}(k:∀d vs,bC C.cls g a c d vs->aq C.cls (view U s.heap) fs vs->P):P:=by
 obtain⟨d,es,n,ne,tA,tD,uA,uD,hA,hD,hR,hK⟩:=p;have hel:es.length=fs.length:=by have:=hR.length;rwa [OA]at this
 refine k d _ ⟨Z6 uA hA,ne,by rw[OA,hel,hl],es,n,Z6 uD hD,rfl,λi x hx=> ?_⟩ hR;have hi:i<es.length:=by refine ab hel (ab hl ?_);exact(Pn.mp hx).1
 obtain⟨y,t,h5,h6⟩:=hK i _ (OP hi);rw[hx]at h5;exact⟨t,by rw[OP hi,Rx,h6,Oh h5]⟩
def iI (C:Cf ag w)(k:Nat)(cx:Cx)(c:Nat)(st:List RV)(g:List V->ai->Option (List V)):Prop:=
 ∀(A:O6) (U:Ow) (env:Env) (σ:ai) (s:On) (fs r:List V) (a:OO),aV A k->HS C cx a (js C c a) fs U env σ s->aK σ 0=W8 (.adr a)->g fs σ=W8 r->Oz (Ov ag w) A (VJ st env) (λf s'=>f= .next/\ ∃σ',fS C cx a (js C c a) U env s r σ' s') (λ_ _=>False) s
theorem iI.run {st:List RV}{g:List V->ai->Option (List V)}(h:iI C k cx c st g)(rm:aV A k)(hs:HS C cx a (js C c a) fs U' env σ' XB)(e0:aK σ' 0=W8 (.adr a)){r:List V}(e:g fs σ'=W8 r)(ok:aY C U s)(ev:Ev C (fQ env.locals a) bM U s U' XB):
 Oz (Ov ag w) A (VJ st env) (λf s'=>f= .next/\ ∃σ',fS C cx a (js C c a) U env s r σ' s') (λ_ _=>False) XB:=
 cf (h A U' env σ' XB fs r a rm hs e0 e) λf s' hf p=>⟨hf,(by obtain⟨σ₂,p⟩:=p;exact⟨σ₂,p.pre ok ev⟩)⟩
theorem aH.ev2 (g:aH C s XB):Ev C (fQ env.locals a) bM U s U XB:=g.ev
theorem CX:iI C k cx c [] λfs _=>W8 fs:=λA U env σ s fs r a rm hs e0 e=>Po ⟨rfl,σ,U,.refl,Oh e▸hs⟩
def dW (b:SD)(g:List V->ai->Option (List V)):List V->ai->Option (List V):=λfs σ=>(b σ).bind λr=>match r.1,aK σ 0,aK r.2 0 with
 | .next,W8 (.adr a),W8 (.adr a')=>if a=a' then g fs r.2 else W9
 |_,_,_=>W9
theorem yZ {fl:Fl}{p q:Option V}{f:Option (List V)}{r:List V}{Q:Prop}(e:(match fl,p,q with | .next,W8 (.adr a),W8 (.adr a')=>if a=a' then f else W9 |_,_,_=>W9)=W8 r)(k:∀a,fl= .next->p=W8 (.adr a)->q=W8 (.adr a)->f=W8 r->Q):Q:=by
 cases fl with
 |next=>
  cases p with
  |none=>exact absurd e aI
  |some p=>
   cases p with
   |adr b=>
    cases q with
    |none=>exact absurd e aI
    |some q=>
     cases q with
     |adr b'=>exact f7 e λh e=>k b rfl rfl (h▸rfl) e
     |_=>exact absurd e aI
   |_=>exact absurd e aI
 |_=>exact absurd e aI
theorem EM {st:RV}{b:SD}{g:List V->ai->Option (List V)}(h:du C k cx [] st [] b)(hr:iI C k cx c rest g)(ho:cx.own= []:=by rfl):iI C k cx c (st::rest) (dW b g):=λA U env σ s fs r a rm hs e0 e=>
 ay e λq hq e=>yZ e λa' hf h1 h2 e=>zB (h.run rm hs.S hq λf XB p=>by
  cases h1.symm.trans e0;revert hf h2 e;apply p.elim
  ·intro XX XK ev x _ hf e h2
   rw[show({cx with own:= []}:Cx)=cx from by exact bV ho rfl]at x;exact hr.run rm (hs.step kO ev x) h2 e hs.S.toaY (ev.wide λ_=> .inl)
  ·exact λXX XK ev x _ hf=>nomatch hf
  ·exact λXX XK t v ev x _ hf=>nomatch hf)
theorem HS.self (h:HS C cx H P x U env σ s)(hn:cx.vars.lookup n=W8 0)(h0:0∉cx.own)(e0:aK σ 0=W8 (.adr a)):Holds env s n (.ref a):=by obtain⟨v,h1,h2,_⟩:=h.S.vars n 0 _ hn e0;have:=h2 h0;exact this▸h1
def ge (i:Nat)(de:ED)(g:List V->ai->Option (List V)):List V->ai->Option (List V):=λfs σ=>if fs.length=i then(de σ).bind λt=>g (fs++ [t]) σ else W9
theorem pG {x:Str}{g:List V->ai->Option (List V)}(K:bH C c)(hx:(C.cls.names c)[i]?=W8 x)(hn:cx.vars.lookup n=W8 0)(he:aC C k cx pe de)(hr:iI C k cx c rest g)(h0:0∉cx.own:=by decide) (hi:i<=20:=by decide)
 (hs:∀env,P8 pe (W8 (.Attribute (.Name n p) x p')) pos.line env=pure false:=by intro _;rfl):iI C k cx c (.Assign [.Attribute (.Name n p) x p'] pe pos::rest) (ge i de g):=λA U env σ s fs r a rm X2 e0 e=>
 f7 e λhlen e=>ay e λt ht e=>Pe (plainObj_wpAny_Assign_Attribute (he.run rm X2.S ht λv XB XI XD rv=>by
  have XM:=X2.grow kO XI;refine Ro (gL XD.tobA hn (XM.self hn h0 e0) ?_) (XD.plain n 0 hn).1;obtain⟨d,es,m,ne,tA,tD,uA,uD,hA,hD,hR,hK⟩:=XM.p;have hel:es.length=i:=by have:=hR.length;rw[OA]at this;exact this.trans hlen
  have hix:∀j y,(C.cls.names c)[j]?=W8 y->j<i->y≠x:=λj y hj ZQ h=>Px ZQ ((Wz (Pn.mp hj).1 K.nd (j:=i)).mp ((h▸hj).trans hx.symm));refine r7 XD.toaY K hA hD (Qs hx) (λe' ZK=> ?_) (hel▸Op hi (by decide)) λh' hs tk sb hd'=> ?_
  ·obtain⟨j,hj,hje⟩:=VM.mp ZK
   obtain⟨y,ty,h3,h4⟩:=hK j _ (OP hj);exact⟨y,ty,hje▸h4,hix j y h3 (hel▸hj)⟩
  ·have ev:Ev C (only a) bM U XB U {XB with heap:=h',toks:=XB.toks+1+1}:= .one uD rfl tD.2 tD.1 sb.extBut ⟨_,hd'⟩
   have le:=ev.le XD.tU;refine hr.run rm (XM.turn ev ⟨d,_,_,ne,tA,tD,uA,uD,(sb.2 a ne).trans hA,hd',?_,λj e' ZK=> ?_⟩) e0 e X2.S.toaY (XI.ev2.trans X2.S.toaY ev (λ_ h=> .inl (.inr h)) λ_=> .inl)
   ·refine ab PJ ?_;exact aq.append (aq.mono le _ _ hR) (aq.cons (bj.mono le _ _ rv) aq.nil)
   ·rw[VN]at ZK
    split at ZK
    ·exact hK j e' ZK
    ·rename_i hj
     have hji:j=i:=by have:=(Pn.mp ZK).1;rw[P1]at this;exact hel▸aaO (Nat.sub_eq_zero_iff_le.mp (Nat.lt_one_iff.mp this)) (R8.mp hj)
     rw[hji,hel,Nat.sub_self]at ZK;refine(hji)▸ ?_;exact⟨x,tk,hx,(congrArg (λe:QD=>e.key) (Oh ZK)).symm⟩) (hs env))
def y0 (Xu i:Nat)(z:Int)(g:List V->ai->Option (List V)):List V->ai->Option (List V):=λfs σ=>if fs.length=Xu then(match fs[i]? with
 |some (.int m)=>if m<=z then W9 else g fs σ
 |_=>W9)else W9
theorem ym {x:Option V}{f:Int->Option α}{r:α}{P:Prop}(h:(match x with |some (.int a)=>f a |_=>W9)=W8 r)(k:∀a,x=W8 (.int a)->f a=W8 r->P):P:=by
 cases x with
 |some t=>
  cases t with
  |int a=>exact k a rfl h
  |_=>exact absurd h aI
 |none=>exact absurd h aI
theorem EN {Xu:Nat}{x:Str}{tp:Pos}{q:Nat}{g:List V->ai->Option (List V)}(K:bH C c)(hnn:(C.cls.names c).length=Xu)(hx:(C.cls.names c)[i]?=W8 x)(hn:cx.vars.lookup n=W8 0)(hr:iI C k cx c rest g)(h0:0∉cx.own:=by decide)
 (he:∀env,PX (.Attribute (.Name n p) x p') env=(do
   let o <-PX (.Name n p) env
   Qb p'.atName
   let r <-Qo [o] (Up o x true)
   QT (.Name n p) o r
   pure r):=by intro _;with_unfolding_all rfl):iI C k cx c (.If (.Compare (.Attribute (.Name n p) x p') [.LtE] [.Constant (.int z) q cp] tp) body [] pos::rest) (y0 Xu i z g):=λA U env σ s fs r a rm hs e0 e=>by
 injections k pos p cp p' cx body rest z c i n Xu x tp q g A U env σ s fs r a _ K hnn hx hn hr h0 he rm hs e0 e;exact f7 e λhlen e=>ym e λm hf e=>hs.p.inst (hlen.trans hnn.symm) (λ_ e=>e) λd vs hI hR=>by
  have hm:¬m<=z:=λh=>by rw[if_pos h]at e;cases e
  rw[if_neg hm]at e;obtain⟨v,hv,rv⟩:=hR.get hf;obtain⟨tk,hv'⟩:=cG rv;rw[hv']at hv;refine Pe (V4 (Sy (Ul (Ro (gL hs.S.tobA hn (hs.self hn h0 e0) (tM hs.S.toaY K hI hx hv rfl (wpAny_Constant_int (UN (Sn ?_))))) (hs.S.plain n 0 hn).1) (he env))));refine(decide_eq_false hm)▸ ?_;have XI:aH C s {s with toks:=s.toks+1+1}:= .tok;exact Po (hr.run rm (hs.grow kO XI) e0 e hs.S.toaY XI.ev2)
structure Ae (C:Cf ag w) (c:Nat) (fI:OO) (fd:Rb) (params:List Str) (body:List RV) (cx:Cx):Prop where
 at_:Q0 C.K (.ref (C.cls.adr c)) "__init__"=W8 (W8 (.ref fI))
 fn:typeIn C.K (.ref fI)=W8 (.type "function")
 keep:keepIn C.K (.ref (C.cls.adr c))=true
 F:m5 C fI fd params body cx
theorem ql {rest:List Oq}{kw:List (Str×Oq)}:(WA.builtin "type.__call__" ⟨.ref a::rest,kw⟩).weight=1/\ (WA.builtin "type.__call__" ⟨.ref a::rest,kw⟩).cUnits=1:=by
 constructor
 ·with_unfolding_all rfl
 ·with_unfolding_all rfl
theorem Kw (h:xs[0]?=W8 t):aK (c0 nl xs) 0=W8 t:=by
 cases xs with
 |nil=>cases h
 |cons y ys=>exact congrArg W8 (Oh h)
structure KY (C:Cf ag w) (c:Nat) (s:On) (h':O0) (x d:OO):Prop where
 nD:s.heap.get? d=W9
 nA:s.heap.get? x=W9
 gA:h'.get? x=W8 (R3 (C.cls.adr c) d)
 gD:h'.get? d=W8 TQ
 keep:∀b o,s.heap.get? b=W8 o->h'.get? b=W8 o
 ne:x≠d
theorem E6 {g:List V->ai->Option (List V)}(K:bH C c)(I:Ae C c fI fd params body cx)(P:Ab C fd params (np+1) kn φ)(hg:iI C k cx c body g)
 (rm:aV A (k+1)) (ok:aY C U s) (hv:vs.length=np) (hu:us.length=kn.length) (r:aq C.cls (view U s.heap) xs (vs++us)) (et:t= .inst c fs) (hfl:fs.length=(C.cls.names c).length) {x d:OO} (hx:g [] (c0 nl (φ (.adr x::xs)))=W8 fs/\ (φ (.adr x::xs))[0]?=W8 (.adr x)) (B:KY C c s h' x d):Ra (Ov ag w) (A.under (.builtin "type.__call__" ⟨.ref (C.cls.adr c)::vs,kn.zip us⟩)) (.call (.ref fI) ⟨.ref x::vs,kn.zip us⟩) (λr s'=>r= .ok (.ret .none)/\ aH C s s'/\ bj C.cls (view U s'.heap) t (.ref x)) {s with heap:=h'}:=by
  injections k np nl s fI A t cx xs vs us kn params h' fd body φ U c fs g x d _ K I P hg rm ok hv hu r et hfl hx B;have nwA:=ok.new B.nA;have nwD:=ok.new B.nD;have ev:Ev C (only x) bM U s (b5 (b5 U d (x,.obj)) x (x,.obj)) {s with heap:=h'}:=Ev.new (aH.heap (tk:=s.toks) B.keep) (λb o e=>(aO λh=>by rw[h,B.nA]at e;cases e).trans (aO λh=>by rw[h,B.nD]at e;cases e)) λb c' q h e=>by
   by_cases h1:b=x
   ·rw[h1,aD]at h;cases h;exact⟨rfl,⟨_,h1▸B.gA⟩,_,B.gA⟩
   ·rw[aO h1]at h
    by_cases h2:b=d
    ·rw[h2,aD]at h;cases h;exact⟨rfl,⟨_,h2▸B.gD⟩,_,B.gA⟩
    ·rw[aO h2,ok.not e]at h;cases h
  have CM:=(ev.go ok).1;obtain⟨ws,Zw,hr,hl⟩:=P _ _ (.ref x::vs) us (.adr x::xs) CM (congrArg (· +1) hv) hu (aq.cons (rfl) (aq.mono (ev.le ok.tU) _ _ r));have hgx:=hx.1;have hx0:=hx.2;have F:=I.F;obtain⟨o,hob,hdt⟩:=F.obj;have cc:=kW F.cx;have Yl:h'.CodeRec fd.code fd.qualname:=(by obtain⟨c,o,vs,t,e,g,r⟩:=F.code;exact⟨c,o,vs,t,e,CM.inv.base c o (F.codeT c e) g,r⟩);have hw:=ql (a:=C.cls.adr c) (rest:=vs) (kw:=kn.zip us);have rmU:(A.under (.builtin "type.__call__" ⟨.ref (C.cls.adr c)::vs,kn.zip us⟩)).depth=A.depth+1:=by unfold O6.under;simp only[hw.1]
  have rmV:(A.under (.builtin "type.__call__" ⟨.ref (C.cls.adr c)::vs,kn.zip us⟩)).units=A.units+1:=by unfold O6.under;simp only[hw.2]
  generalize hA':A.under (.builtin "type.__call__" ⟨.ref (C.cls.adr c)::vs,kn.zip us⟩)=A' at rmU rmV⊢;have hdep:=rm.depth;have huni:=rm.units;refine Sz (by refine ab rmU ?_;exact OW (Q6 (L2 hdep)) (by decide)) (CM.inv.base fI o F.notT hob) hdt cc.kind.2.1 cc.kind.2.2.1 F.body Yl (Zw _ _ _ _ ?_);simp only[F.gl,F.clo,F.bi];refine Ot (hZ (nl:=nl) F.codeG CM cc hr hl λenv XC XE sok XH hL Y8=>⟨sok.inv.lim,U4 ?_⟩) (λ_ _ h=>h) λ_ _ f=>f.elim;have rm':aV (A'.deeper env) k:=⟨by refine bV hA' ?_;exact rm.handled,by show A'.depth+1+40*k+40<=980;refine ab rmU ?_;exact rd (c:=2) (O5 _) (by decide) hdep,by show A'.units+3+400*k+400<=9800;refine ab rmV ?_;exact rd (c:=4) (O5 _) (by decide) huni⟩;have nx:x≠env.locals:=λh=>by have e:=B.gA;rw[h,show h'.get? env.locals=W9 from hL]at e;cases e
  have p0:js C c x [] (b5 (b5 U d (x,.obj)) x (x,.obj)) {s with heap:=h'}:=⟨d,[],0,B.ne,⟨nwA.1,nwA.2.2⟩,⟨nwD.1,nwD.2.2⟩,aD,(aO B.ne.symm).trans aD,B.gA,B.gD,aq.nil,λi e he=>nomatch he⟩;have hs:HS C cx x (js C c x) [] XE env (c0 nl (φ (.adr x::xs))) XC:=⟨sok,nx,λn c hn h=>absurd (Y8 n c h) hn,kO.keep p0 CM XH nx⟩;refine Ot (hg _ XE env _ XC [] fs x rm' hs (Kw hx0) hgx) (λfl XJ hp=> ?_) λ_ _ f=>f.elim;obtain⟨hf,YV,Yc,XR,Zc⟩:=hp;refine(hf)▸ ?_;have evT:Ev C (λc=>c=x \/c=env.locals) bM U s Yc XJ:=((ev.wide λ_=> .inl).trans ok XH (λ_ h=> .inl (.inr h)) λ_=> .inl).trans ok XR (λ_ h=> .inl h.symm) λ_=> .inl;have dead:∀c,c=x \/c=env.locals->s.heap.get? c=W9:=λc h=>h.elim (λh=>h.symm▸B.nA) λh=>h.symm▸(b7 (ev.go ok).2 hL).elim (λh=>absurd h.symm nx) id;obtain⟨gr,le⟩:=evT.ret ok dead λ_ h=>h.elim;refine⟨rfl,gr,?_⟩;have hU:∀ {b:OO},Yc b=W8 (x,.obj)->U b=W9:=λ {b} h=>by
   cases e:s.heap.get? b with
   |none=>exact ok.not e
   |some o=>rw[evT.col b o e λc q h h'=>by obtain⟨_,o,e⟩:=ok.live _ c q h;rw[dead c h']at e;cases e]at h;obtain⟨_,o,e⟩:=ok.live _ _ _ h;rw[B.nA]at e;cases e
  simp only[et];refine Zc.p.inst hfl (g:=view U XJ.heap) (λh e=>ao.mpr ⟨hU h,e⟩) λd' vs' hI hR=> ?_;exact Exists.intro x (Exists.intro d' (Exists.intro vs' ⟨rfl,hI,aq.mono le _ _ hR⟩))
theorem tB {g:List V->ai->Option (List V)}(K:bH C c)(I:Ae C c fI fd params body cx)(P:Ab C fd params (np+1) kn φ)(hg:iI C k cx c body g)
 (hD:∀xs t,D xs=W8 t->∃fs,t= .inst c fs/\ fs.length=(C.cls.names c).length/\ ∀x,g [] (c0 nl (φ (.adr x::xs)))=W8 fs/\ (φ (.adr x::xs))[0]?=W8 (.adr x)):cM C k (.ref (C.cls.adr c)) np kn D where
 keep:=λh _ X=>keeps_K I.keep h X
 call:=λA U s vs us xs t rm ok hv hu r e=>by
  obtain⟨fs,et,hfl,hx⟩:=hD xs t e;obtain⟨h,gg,dr,tk,os⟩:=s;refine RU (make_core (makes_of ok.inv.kin K.makes) (TP ok.inv.kin I.at_) (λself=>bind_fn ok.inv.kin self I.fn) (.inl rfl) ?_);have nD:h.get? h.objs.size=W9:=OX (O5 _);have nA:h.get? (h.objs.size+1)=W9:=OX (QK _);have gA:((h.push TQ).push (R3 (C.cls.adr c) h.objs.size)).get? (h.objs.size+1)=W8 (R3 (C.cls.adr c) h.objs.size):=by
   have:=OB (h:=h.push TQ) (o:=R3 (C.cls.adr c) h.objs.size) rfl
   rwa [Sc]at this
  have gD:((h.push TQ).push (R3 (C.cls.adr c) h.objs.size)).get? h.objs.size=W8 TQ:=Om _ (OB _ rfl);have keep:∀b o,h.get? b=W8 o->((h.push TQ).push (R3 (C.cls.adr c) h.objs.size)).get? b=W8 o:=λb o e=>Om _ (Om _ e);have Yn:h.objs.size+1≠h.objs.size:=Nat.succ_ne_self _;generalize (h.push TQ).push (R3 (C.cls.adr c) h.objs.size)=h' at*;generalize h.objs.size+1=x at*;generalize h.objs.size=d at*;exact Pb (E6 K I P hg (s:=⟨h,gg,dr,tk,os⟩) rm ok hv hu r et hfl (hx x) ⟨nD,nA,gA,gD,keep,Yn⟩) λr s' p=>by refine ab p.1 ?_;exact⟨rfl,p.2⟩
end
end
set_option tactic.hygienic true
section
section
variable{c:Nat}{fs:List V}{cn it x:Str}{cv:Oq}{pe2:Ol}{q' tp:Pos}{a b:ED}
theorem bH.kit (K:bH C c){a:OO}{ox od:Obj}:KitX C.K (.ref a) (.ref (C.cls.adr c)) (λh=>InstAt h a ox (C.cls.adr c) (W8 od)):=
 kitx_own (by unfold plainGet;refine ab K.ga (ab K.gk ?_);rfl) K.dict K.cls K.clsG K.clsT K.obj
theorem i9:VU C.K v v=W8 true:=by unfold VU;exact ab (if_pos (beq_self_eq_true v)) rfl
def AD (bi bl bc:Option Bool)(c:Nat):V->Option V
 | .int _=>bi.map Xb
 | .list _=>bl.map Xb
 | .inst c' _=>if c'=c then bc.map Xb else W9
 |_=>W9
theorem Ez {bi bl bc:Option Bool}(e:AD bi bl bc c y=W8 t)(k1:∀i b,y= .int i->bi=W8 b->t= .bool b->P)(k2:∀xs b,y= .list xs->bl=W8 b->t= .bool b->P)(k3:∀fs b,y= .inst c fs->bc=W8 b->t= .bool b->P):P:=by
 cases y with
 |int i=>exact dF e λb h e=>k1 i b rfl h e.symm
 |list xs=>exact dF e λb h e=>k2 xs b rfl h e.symm
 |inst c' fs=>exact f7 e λhc e=>dF e λb h e=>k3 fs b (hc▸rfl) h e.symm
 |_=>exact absurd e aI
def vc (c:Nat):V->Option V:=AD (W8 true) W9 (W8 false) c
def vd (c:Nat):V->Option V:=AD (W8 false) (W8 false) (W8 true) c
def tP (c:Nat):V->Option V:=AD (W8 true) W9 (W8 true) c
theorem fJ (r:bj C.cls (view U s.heap) (.inst c fs) v)(k:∀a d es n,v= .ref a->InstAt s.heap a (R3 (C.cls.adr c) d) (C.cls.adr c) (W8 (S0 es n))->(∀ {x},x∉C.cls.names c->∀e∈es,∃y t,e.key= .str y t/\ y≠x)->P):P:=by obtain⟨a,d,vs,hv,hI,_⟩:=r;obtain⟨es,n,ia,_,_,hl,hk⟩:=(hI.mono dw).at;exact k a d es n hv ia λhx=>bC.keys (g:=s.heap.get?) (a:=a) (d:=d) (vs:=vs) hl hk hx
theorem la {R:Oq->On->Prop}{f:V->Option V}(h:aC C k cx pe d)(hg:fn∈cx.globs)(hm:fn∈bP)(hb:OZ fn=W8 (.builtin "isinstance"))(he:∀env,OC [pe,pe2] env=(false,PX pe env)::OC [pe2] env)(he2:∀env,OC [pe2] env= [(false,PX pe2 env)])
 (h2:∀(A:O6) (U:Ow) (env:Env) (σ:ai) (s:On),bA C cx U env σ s->Oz (Ov ag w) A (PX pe2 env) (λcv s'=>aH C s s'/\ R cv s') (λ_ _=>False) s)
 (op:∀(A:O6) (U:Ow) (s:On) (y t:V) (v cv:Oq),aY C U s->R cv s->f y=W8 t->bj C.cls (view U s.heap) y v->Oz (Ov ag w) A (call (.builtin "isinstance") [v,cv]) (λz s'=>aH C s s'/\ bj C.cls (view U s'.heap) t z) (λ_ _=>False) s):
 aC C k cx (.Call (.Name fn p) [pe,pe2] [] pos) (dU f d):=λA U env σ s t rm x e=>
 ay e λy hy e=>Pu (eP x hg hm hb (QH (rest:= [pe2]) (PE (h.runE rm x hy λv XB g XD r=>PE (cf (h2 A U env σ XB XD) λcv XC XF hR=>Qk (cf (op A U XC y t v cv (XD.grow XF).toaY hR e (bj.mono (XF.le x.tU) _ _ r)) λz XJ XW Yq=>⟨(g.trans XF).trans XW,Yq⟩)) (he2 env)) (he env)) (he env) (by rw[he2];rfl)))
theorem tT (K:bH C c)(h:aC C k cx pe d)(hg:fn∈cx.globs)(hgc:cn∈cx.globs)(hmc:C.mg cn=W8 (.ref (C.cls.adr c)))(hm:fn∈bP:=by decide) (hb:OZ fn=W8 (.builtin "isinstance"):=by rfl)
 (he:∀env,OC [pe,.Name cn q] env=(false,PX pe env)::OC [.Name cn q] env:=by intro _;rfl):aC C k cx (.Call (.Name fn p) [pe,.Name cn q] [] pos) (dU (vd c) d):=
 la (R:=λcv _=>cv= .ref (C.cls.adr c)) h hg hm hb he (λ_=>rfl) (λA U env σ s x=>lN x hgc hmc ⟨.refl s,rfl⟩) λA U s y t v cv ok hcv e r=>by
  refine ab hcv ?_;refine Ez e (λi b hy hb ht=> ?_) (λxs b hy hb ht=> ?_) λfs b hy hb ht=> ?_<;>rw[hy]at r<;>refine ab ht (bV (Oh hb) ?_)
  ·obtain⟨tk,hv⟩:=cG r
   refine ab hv ?_;exact kia_one kitx_int ok.inv.kin trivial K.nInt nofun λtk=>⟨.tok,bu⟩
  ·obtain⟨a,vs,hv,⟨n,h1⟩,_⟩:=gI r
   refine ab hv ?_;exact kia_one kitx_list ok.inv.kin ⟨_,(ao.mp h1).2,rfl⟩ K.nList nofun λtk=>⟨.tok,bu⟩
  ·exact fJ r λa d es n hv ia _=>hv▸kia_one K.kit ok.inv.kin ia i9 nofun λtk=>⟨.tok,bu⟩
theorem AV (K:bH C c)(h:aC C k cx pe d)(hg:fn∈cx.globs)(hgi:it∈cx.globs)(hm:fn∈bP:=by decide) (hmi:it∈bP:=by decide) (hb:OZ fn=W8 (.builtin "isinstance"):=by rfl) (Zw:OZ it=W8 (.type "int"):=by rfl)
 (he:∀env,OC [pe,.Name it q] env=(false,PX pe env)::OC [.Name it q] env:=by intro _;rfl):aC C k cx (.Call (.Name fn p) [pe,.Name it q] [] pos) (dU (vc c) d):=
 la (R:=λcv _=>cv= .type "int") h hg hm hb he (λ_=>rfl) (λA U env σ s x=>eP x hgi hmi Zw ⟨.refl s,rfl⟩) λA U s y t v cv ok hcv e r=>by
  refine ab hcv ?_;refine Ez e (λi b hy hb ht=> ?_) (λxs b hy hb ht=>nomatch hb) λfs b hy hb ht=> ?_<;>rw[hy]at r<;>refine ab ht (bV (Oh hb) ?_)
  ·obtain⟨tk,hv⟩:=cG r
   refine ab hv ?_;exact kia_one kitx_int ok.inv.kin trivial i9 nofun λtk=>⟨.tok,bu⟩
  ·exact fJ r λa d es n hv ia _=>hv▸kia_one K.kit ok.inv.kin ia K.isInt nofun λtk=>⟨.tok,bu⟩
theorem xq (K:bH C c)(h:aC C k cx pe d)(hg:fn∈cx.globs)(hgi:it∈cx.globs)(hgc:cn∈cx.globs)(hmc:C.mg cn=W8 (.ref (C.cls.adr c)))(hm:fn∈bP:=by decide) (hb:OZ fn=W8 (.builtin "isinstance"):=by rfl) (hmi:it∈bP:=by decide) (Zw:OZ it=W8 (.type "int"):=by rfl)
 (he:∀env,OC [pe,.Tuple [.Name it q,.Name cn q'] ct tp] env=(false,PX pe env)::OC [.Tuple [.Name it q,.Name cn q'] ct tp] env:=by intro _;rfl):aC C k cx (.Call (.Name fn p) [pe,.Tuple [.Name it q,.Name cn q'] ct tp] [] pos) (dU (tP c) d):=
 la (R:=λcv s=> ∃o,cv= .ref o/\ s.heap.get? o=W8 ⟨.type "tuple",W9,.seq [Q2 "int",PL (C.cls.adr c)].toArray 0,#[]⟩) h hg hm hb he (λ_=>rfl)
  (λA U env σ s x=>wpAny_Tuple (PE (eP x hgi hmi Zw (PE (lN x hgc hmc (Qk ⟨by refine ab P7 ?_;exact P5 rfl,.push (tk:=s.toks),_,rfl,OB _ rfl⟩)) rfl)) rfl)) λA U s y t v cv ok hcv e r=>by
  obtain⟨o,hcv,htp⟩:=hcv;refine ab hcv ?_;refine Ez e (λi b hy hb ht=> ?_) (λxs b hy hb ht=>nomatch hb) λfs b hy hb ht=> ?_<;>rw[hy]at r<;>refine ab ht (bV (Oh hb) ?_)
  ·obtain⟨tk,hv⟩:=cG r
   refine ab hv ?_;exact kia_tup kitx_int ok.inv.kin trivial htp (by unfold kitAny;exact ab i9 rfl) nofun λtk=>⟨.tok,bu⟩
  ·exact fJ r λa d es n hv ia _=>hv▸kia_tup K.kit ok.inv.kin ia htp (by unfold kitAny;refine ab K.isInt ?_;dsimp only;unfold kitAny;exact ab i9 rfl) nofun λtk=>⟨.tok,bu⟩
structure Fq (C:Cf ag w) (c:Nat) (nm:String) (f:OO):Prop where
 at_:Q0 C.K (.ref (C.cls.adr c)) (Ug nm)=W8 (W8 (.ref f))
 fn:isFn C.K (.ref f)=true
 r:∃g:OO,Q0 C.K (.ref (C.cls.adr c)) (dunderR nm)=W8 (W8 (.ref g))
 i:∃fo ro,Q0 C.K (.type "int") (Ug nm)=W8 fo/\ Q0 C.K (.type "int") (dunderR nm)=W8 ro/\ ((fo.isSome&& !UC fo) || (ro.isSome&& !UC ro))=true
def Eg:V->Option V
 | .any=>W9
 |t=>W8 t
theorem CP (e:Eg y=W8 t)(k:y=t->y≠ .any->P):P:=by
 cases y with
 |any=>exact absurd e aI
 |_=>exact k (Oh e) nofun
theorem G1 {g:a0}(r:bj K g t v)(ht:t≠ .any):v≠ .notImplemented:=(ux r ht).2
theorem Cb {op:R5}{a d:OO}{es:List QD}{n:Nat}{i:Int}{tk:Tok}(X:C.K.In s.heap)(K:bH C c)(O:Fq C c op.info.2 f)(I:InstAt s.heap a (R3 (C.cls.adr c) d) (C.cls.adr c) (W8 (S0 es n)))
 (h:Oz (Ov ag w) A (call (.ref f) [.ref a,.int i tk]) (λv s'=>v≠ .notImplemented/\ Q v s') (λ_ _=>False) s):Oz (Ov ag w) A (Rj op (.ref a) (.int i tk)) Q (λ_ _=>False) s:=by
 injections s f A Q c op a d es n i tk _ X K O I h;rcases hi:op.info with⟨sym,nm⟩;rw[hi]at O;have h1:=O.at_;obtain⟨g,h2⟩:=O.r;obtain⟨fo,ro,h3,h4,h5⟩:=O.i;dsimp only at h1 h2 h3 h4;obtain⟨cd,rest,hcd,hm⟩:=ksp_first K.first;have one:=ksp_try (M:=Ov ag w) (Q:=Q) X I h1 O.fn (Ot h (λv s' hv=>by obtain⟨p,q⟩:=hv;cases v<;>first |exact q |exact absurd rfl p) λ_ _ e=>e);obtain⟨hp,gg,dr,tt,os⟩:=s;have t1:TY (Ov ag w) hp (typeOf (.ref a)) (.ref (C.cls.adr c)):=I.type;have t2:TY (Ov ag w) hp (typeOf (.int i tk)) (.type "int"):=TX rfl;have l1:TY (Ov ag w) hp (Vs (.ref (C.cls.adr c)) nm) true:=fills_K X hcd hm h1;have l2:TY (Ov ag w) hp (Vs (.type "int") nm) true:=h5▸ksp_fillsT X h3 h4;have l3:TY (Ov ag w) hp (isSubtype (.type "int") (.ref (C.cls.adr c))) false:=looks_subIn X K.sub;have l4:TY (Ov ag w) hp (numberSlotInPython (.ref (C.cls.adr c)) nm) true:=ksp_inPy X h1 h2 (.inr ⟨_,rfl⟩);have l5:TY (Ov ag w) hp (numberSlotInPython (.type "int") nm) false:=TX rfl;have l6:TY (Ov ag w) hp (typeLookup (.type "int") (dunderR nm)) ro:=TP X h4;have Yn:(PL (C.cls.adr c)==Q2 "int")=false:=Bool.eq_false_iff.mpr λq=>by cases beq_iff_eq.mp q
 unfold Rj;refine ab hi ?_;dsimp only;refine ON (Og ?_);unfold binaryOp1;refine Og (t1.at (Og (t2.at (Og (l1.at (Og (wpAny_ite_false (a:=pure false) (Yn.symm▸rfl:decide ((PL (C.cls.adr c)==Q2 "int")=true)=false) (l2.at ?_))))))))
 ksp_lk
 refine Ot one (λr s' Y'=> ?_) λ_ _ e=>e;obtain⟨v,hr,hq⟩:=Y';refine ab hr ?_
 ksp_lk
 exact hq
def Ds (c:Nat)(D:List V->Option V)(x y:V):Option V:=match x,y with
 | .inst c' fs,.int i=>if c'=c then(D [.inst c fs,.int i]).bind Eg else W9
 |_,_=>W9
theorem yi {x:V}{m:Oq->Oq->Sem Oq}(F:cM C k (.ref f) 2 [] D)(rm:aV A (k+1))(ok:aY C U s)(e:Ds c D x y=W8 t)(r1:bj C.cls (view U s.heap) x v)(r2:bj C.cls (view U s.heap) y u)
 (q:∀a d es n i tk,InstAt s.heap a (R3 (C.cls.adr c) d) (C.cls.adr c) (W8 (S0 es n))->Oz (Ov ag w) A (call (.ref f) [.ref a,.int i tk]) (λz s'=>z≠ .notImplemented/\ aH C s s'/\ bj C.cls (view U s'.heap) t z) (λ_ _=>False) s->Oz (Ov ag w) A (m (.ref a) (.int i tk)) (λz s'=>aH C s s'/\ bj C.cls (view U s'.heap) t z) (λ_ _=>False) s):
 Oz (Ov ag w) A (m v u) (λz s'=>aH C s s'/\ bj C.cls (view U s'.heap) t z) (λ_ _=>False) s:=by
 cases x with
 |inst c' fs=>
  cases y with
  |int i=>refine f7 e λhc e=>ay e λt' ht e=>CP e λht' hna=> ?_;rw[hc]at r1;obtain⟨tk,hu⟩:=cG r2;refine fJ r1 λa d es n hv ia _=> ?_;rw[hv]at r1⊢;rw[hu]at r2⊢;exact q a d es n i tk ia (cf (F.call A U s [.ref a,.int i tk] [] _ _ rm ok rfl rfl (aq.cons r1 (aq.cons r2 aq.nil)) ht) λz s' g r=>⟨G1 r hna,g,ht'▸r⟩)
  |_=>exact absurd e Xu
 |_=>exact absurd e Xu
theorem Bk {op:R5}(K:bH C c)(O:Fq C c op.info.2 f)(F:cM C k (.ref f) 2 [] D):ir C (k+1) (Rj op) (Ds c D):=λA U s x y t v u rm ok e r1 r2=>yi (m:=Rj op) F rm ok e r1 r2 λa d es n i tk ia h=>Cb ok.inv.kin K O ia h
theorem Bj (K:bH C c)(hf:isFn C.K (.ref f)=true)(hs:Q0 C.K (.ref (C.cls.adr c)) (cmpInfo op).2.1=W8 (W8 (.ref f)))(F:cM C k (.ref f) 2 [] D)
 (Zt:∀a b,PH op a b=richCompare op a b):ir C (k+1) (PH op) (Ds c D):=by
 injections k f D op c _ K hf hs F Zt;exact λA U s x y t v u rm ok e r1 r2=>
  yi (m:=PH op) F rm ok e r1 r2 λa d es n i tk ia h=>by
   have one:Oz (Ov ag w) A (tryCompare (.ref a) (cmpInfo op).2.1 (.int i tk)) (λr s'=> ∃v,r=W8 v/\ aH C s s'/\ bj C.cls (view U s'.heap) t v) (λ_ _=>False) s:=by unfold tryCompare;refine Og (ifBound_K ok.inv.kin ia hs hf (Ot h (λv s' hv=> ?_) λ_ _ e=>e));obtain⟨p,q⟩:=hv;cases v<;>first |exact absurd rfl p |exact Oi ⟨_,rfl,q⟩
   rw[Zt];unfold richCompare;simp only[oneThing_ref];refine ON (Og (wpAny_cRoomFor rm.unit (Og (ia.type.here (Og ((TX rfl:TY (Ov ag w) s.heap (typeOf (.int i tk)) (.type "int")).here ?_))))));refine ab (if_pos (by simp)) ?_;refine Og ((looks_subIn ok.inv.kin K.sub).here ?_);simp only[PP,if_false];refine Og (Ot one (λr s' hr=> ?_) λ_ _ e=>e);obtain⟨v,hr,hq⟩:=hr;refine ab hr ?_;exact Oi hq
theorem aV.le (h:k<=k')(r:aV A k'):aV A k:=⟨r.handled,Op (TE (Rw (TV 40 h) _) 40) r.depth,Op (TE (Rw (TV 400 h) _) 400) r.units⟩
theorem aV.in1 (r:aV A (k+1)):aV A.in1 k:=r.down r.handled (QK _) (Rw (by decide:1<=4) _)
theorem cM.le (h:k<=k')(F:cM C k v np kn D):cM C k' v np kn D:=
 ⟨F.keep,λA U s vs us xs t rm=>F.call A U s vs us xs t (rm.le (Q6 h))⟩
theorem rX.le (h:k<=k')(F:rX C k f fd params D):rX C k' f fd params D:=
 ⟨F.obj,F.notT,λA U s args vs xs t rm=>F.call A U s args vs xs t (rm.le (Q6 h))⟩
theorem BG {K:Frag}(h:fnIn K f=true):∃c d x s,K.lookup f=W8 ⟨c,d,.func x,s⟩:=by
 injections f K _ h;unfold fnIn at h;cases e:K.lookup f with
 |none=>rw[e]at h;cases h
 |some o=>
  rw[e]at h;obtain⟨c,d,x,s⟩:=o;cases x with
  |func x=>exact⟨c,d,x,s,rfl⟩
  |_=>exact absurd h OD
theorem s8 (X:C.K.In s.heap)(K:bH C c)(M:ec C c "__getitem__" f)(hfn:fnIn C.K f=true){a d:OO}{es:List QD}{n:Nat}(ia:InstAt s.heap a (R3 (C.cls.adr c) d) (C.cls.adr c) (W8 (S0 es n)))
 (hsl:∀x i,RQ pi true (.ref x) i=V9 (.builtin "lifetime.subscript" ⟨[.ref x,i],[]⟩)) (h:Oz (Ov ag w) A.in1 (call (.ref f) [.ref a,u]) Q (λ_ _=>False) s):Oz (Ov ag w) A (V6 pe pi (.ref a) u) Q (λ_ _=>False) s:=by
 injections s f A u Q pe pi c a d es n _ X K M hfn ia hsl h;obtain⟨_,_,_,_,Yw⟩:=BG hfn
 ·unfold V6 getitemInPython
  refine Og (Og (Og (ia.type.here ((TP X M.at_).here ?_))));dsimp only;refine Og (wpAny_load (X _ _ Yw) (Oi ?_));dsimp only;rw[hsl];refine Og (VG (PC entry_sub ?_));unfold OT.«lifetime.subscript»;refine Og (special_fn X ia M.at_ M.fn (Ot h (λv s' q=>Oi ?_) λ_ _ f=>f.elim));show Oz (Ov ag w) A (QT pe (.ref a) v>>=λ_=>pure v) _ _ s';exact Og (wpAny_letTemporaryGo (Oi q))
theorem xt (K:bH C c)(M:ec C c "__getitem__" f)(hfn:fnIn C.K f=true)(F:cM C k (.ref f) 2 [] D)(ho:aC C (k+2) cx pe a)(hi:aC C (k+2) cx pi b)
 (hsl:∀x i,RQ pi true (.ref x) i=V9 (.builtin "lifetime.subscript" ⟨[.ref x,i],[]⟩):=by intro _ _;with_unfolding_all rfl):
 aC C (k+2) cx (.Subscript pe pi pos) (λσ=>((a σ).bind (aS c)).bind λx=>(b σ).bind λy=>D [x,y]):=λA U env σ s t rm x e=>
 ay e λy hy e=>ay hy λz hz hy=>pV hy λfs hz' hy=>ay e λq hq e=>VV (ho.runE rm x hz λv XB XI XD XQ=>hi.runE rm XD hq λu XC XF XG XZ=>by have ZW:=bj.mono (XF.le x.tU) _ _ XQ;rw[hz']at ZW;refine fJ ZW λad d es n hv ia _=> ?_;rw[hy]at e;rw[hv]at ZW⊢;exact s8 XG.inv.kin K M hfn ia hsl (cf (F.call A.in1 U XC [.ref ad,u] [] _ _ rm.in1 XG.toaY rfl rfl (aq.cons ZW (aq.cons XZ aq.nil)) e) λv s' XW Yq=>⟨(XI.trans XF).trans XW,Yq⟩))
structure z9 (C:Cf ag w) (c:Nat) (name:Str) (p f:OO):Prop where
 find:∀es n,(∀e∈es,∃y t,e.key=S1 y t/\ y≠name)->findObj C.K (C.cls.adr c) (W8 (S0 es n)) name=W8 (.bind (.builtin "property.__get__") (.ref p))
 recd:∃rest,recIn C.K p "property"=W8 (.ref f::rest)
 free:name∉C.cls.names c
theorem xm {p:OO}(K:bH C c)(PR:z9 C c x p f)(F:rX C k f fd params D)(P:Ab C fd params 1 [] φ)(ho:aC C (k+2) cx po a)
 (he:∀env,PX (.Attribute po x pos) env=(do
   let o <-PX po env
   Qb pos.atName
   let r <-Qo [o] (Up o x true)
   QT po o r
   pure r):=by intro _;with_unfolding_all rfl):aC C (k+2) cx (.Attribute po x pos) (λσ=>((a σ).bind (aS c)).bind λy=>(D (φ [y])).bind Eg):=λA U env σ s t rm xx e=>
 ay e λy hy e=>ay hy λz hz hy=>pV hy λfs hz' hy=>ay e λt' ht e=>CP e λht' hna=>Ul (ho.runE rm xx hz λv XB g XD r=>by rw[hz']at r;refine fJ r λad d es n hv ia hk=> ?_;rw[hv]at r⊢;obtain⟨rest,hrec⟩:=PR.recd;have XI:aH C XB {XB with toks:=XB.toks+1}:= .tok;have XG:=XD.grow XI;rw[hy]at ht;obtain⟨ws,Zw,Y',YR⟩:=P U {XB with toks:=XB.toks+1} [.ref ad] [] [.inst c fs] XG.toaY rfl rfl (aq.cons (bj.mono (XI.le xx.tU) _ _ r) aq.nil);refine get_bind XD.inv.kin ia K.ga (PR.find es n (hk PR.free)) K.gk (RU (prop_get (s:= {XB with toks:=XB.toks+1}) XD.inv.kin hrec (Pb (F.call A.in1 U _ _ ws _ t' rm.in1 XG.toaY Zw Y' YR ht) λr XJ h=> ?_)));obtain⟨v,hr,XW,rv⟩:=h;refine ab hr ?_;exact handed_on (yR rv hna) ⟨(g.trans XI).trans XW,ht'▸rv⟩) (he env)
end
end
set_option tactic.hygienic false
section
section
def kX (it:Oq):Obj:= {cls:= .type "enumerate",data:= .fields #[.none,.bool false,it,Qd 0,.none,.none]}
theorem Ky {f:β->Sem α}{b:β}{Q:α->On->Prop}(h:∀b,Oz (Ov ag w) A (f b) Q E s):Oz (Ov ag w) A (f b) Q E s:=h b
theorem zi (x:Oq)(hi:Oz (Ov ag w) A (Ti x) (λv s'=>Q (.ref s'.heap.objs.size) {s' with heap:=s'.heap.push (kX v)}) E s):
 Oz (Ov ag w) A (OT.«enumerate.__new__» ⟨[.type "enumerate",x],[]⟩) (λfin s'=> ∃v,fin= .done (.ret v)/\ Q v s') E s:=by
 injections s A E Q x _ hi;obtain⟨hp,g,d,tk,os⟩:=s;have YG:=sub_enumerate;unfold OT.«enumerate.__new__»;generalize hP:Ti=P at hi⊢
 wp_walk
 refine wpAny_stack_any λst=>Oi ?_;refine Ky λb=> ?_;cases b<;>
  (wp_walk
   refine Ot hi (λv s' hq=> ?_) λ_ _ h=>h
   wp_walk
   exact⟨_,rfl,hq⟩)
theorem wb (x:Oq)(hi:Oz (Ov ag w) A.in1.in1 (Ti x) (λv s'=>Q (.ref s'.heap.objs.size) {s' with heap:=s'.heap.push (kX v)}) E s):
 Oz (Ov ag w) A (call (.type "enumerate") [x]) Q E s:=by
 injections s A E Q x _ hi;obtain⟨c,tl,hmro⟩:=Pw.mro;have hmade:=Pw.made;have YG:=Pw.sub;refine RU (R4 ?_);refine Oi ⟨T3 _ (by decide+kernel),PC UJ ?_⟩;refine(VR (WE "enumerate" [x] []) rfl)▸ ?_;have h1:=Pw.notType;have h2:=Pw.canCreate;have hct:=F.typeCall_enumerate_1 x
 repeat (any_goals (first |assumption |wp_step))
 refine Pb (SM (R:=wants (λobj XB=>XB.TypeIs obj "enumerate"/\ Q obj XB) E) Pw.plain F.entry_enumerate_new (Pc (F.newCall_enumerate_1 x) ?_)) λr XB hr=> ?_
 ·exact Ot (zi x (Q:=λobj XB=>XB.TypeIs obj "enumerate"/\ Q obj XB) (Ot hi (λv s' hq=>⟨⟨_,OB _ rfl,rfl⟩,hq⟩) λ_ _ h=>h)) (λfin s' qq=>by obtain⟨v,e,h⟩:=qq;exact by subst e;exact h) λ_ _ h=>h
 ·cases r with
  |error e=>exact hr
  |ok fl=>
   cases fl with
   |ret obj=>
    have hT:=hr.1;have hq:=hr.2;have hli:=Pw.init.lookup;have Zw:=Pw.init.bind obj
    repeat (any_goals (first |assumption |wp_step))
    refine Pb (SM (R:=wants (λr XC=>r= .none/\ Q obj XC) E) Pw.init.plain F.entry_object_init (Pw.init.check _ _ _ _ _ _ _ _ hT (F.args_object_init_2 obj _) (object_init_meets Pw.init.lookup Pw.made (by decide) ag w _ _ XB ⟨hT,rfl,hq⟩))) λXZ XC Yv=> ?_;cases XZ with
    |error e=>exact Yv
    |ok fl₂=>
     cases fl₂ with
     |ret r=>
      obtain⟨rfl,hq⟩:=Yv
      repeat (any_goals (first |assumption |wp_step))
     |_=>exact Yv.elim
   |_=>exact hr.elim
end
section
variable{R:GenEnd}{n:Nat}{c:WA} {K:Wv->Sem Fin} {H:Oq->Sem Fin} {gd:Bool->Bool} {lv:List Oq->List Oq}
def Ce (env:Env)(K:Wv->Sem Fin)(H:Oq->Sem Fin)(gd:Bool->Bool)(lv:List Oq->List Oq)(r:Result):Sem Fin:=
 ((match r with | .ok f=>(.pure f:Sem Wv) | .error e=> .raise e).onRaise λ(x:Oq)=>do
    if(<-field x 1)==PA then SY "frame.own-activation:exception-without-traceback"
    setFlight x env.frame).wrap K H gd lv
theorem A4
 (h:Oz M (A.over c fs) (PX iter env) (λx XB=>Oz M (A.over c fs) (Ti x) (λit XC=> ∀p,Seg M A R Y n XO (.forLoop target it body Zk env) (M.den (.forLoop target it body Zk env)) (.ret (Ce env K H gd lv) W9 (gd false) (lv []) c p []::fs) XC) (λ_ _=>False) XB) (λ_ _=>False) s)
 (hs:∀x,OU iter env x=pure x:=by intro _;rfl):Seg M A R Y n XO c ((exec (.For target iter body Zk pos) env).wrap K H gd lv) fs s:=by
 refine Q8 (Py (Q8 (Ot h (λx XB XM=> ?_) λ_ _ f=>f.elim)));refine Q8 (Pc (hs x) (Q8 (Py (Q8 (ON (Ot XM (λit XC XN=> ?_) λ_ _ f=>f.elim))))));exact seg_call XN
end
section
variable{R:GenEnd}{n:Nat}
def ly (env:Env)(e:Oq):Sem Fin:=(do WG e env;Vm e:Sem Unit).wrap (λ_=> .raise e) .raise id id
theorem kg
 (h:Oz (Ov ag w) (A.over (.forLoop target it body [] env) fs) (Sk it) (λr XB=>match r with
   |none=>Seg (Ov ag w) A R Y n XO (.block [] env) ((Ov ag w).den (.block [] env)) fs XB
   |some v=>Oz (Ov ag w) (A.over (.forLoop target it body [] env) fs) (QB target it v) (λ_ XC=>Oz (Ov ag w) (A.over (.forLoop target it body [] env) fs) (WM target env v) (λ_ XJ=>
     Seg (Ov ag w) A R Y n XO (.forLoop target it body [] env) ((VJ body env).wrap (λf=>match f with
      | .next | .cont=> .pure (.again (.forLoop target it body [] env))
      | .brk=> .pure (.done .next)
      | .ret v=> .pure (.done (.ret v))) (ly env) id id) fs XJ) (λ_ _=>False) XC) (λ_ _=>False) XB) (λ_ _=>False) s):
 Seg (Ov ag w) A R Y n XO (.forLoop target it body [] env) ((Ov ag w).den (.forLoop target it body [] env)) fs s:=by
 injections s XO A it env target body fs Y R n _ h;show Seg (Ov ag w) A R Y n XO _ ((forTurn target it body [] env).onRaise (λx=>do WG x env;Vm x)) fs s;simp only[SG];refine Q8 (Py (Q8 (wpAny_onRaise (Ot h (λr XB XM=> ?_) λ_ _ f=>f.elim))));cases r with
 |none=>exact seg_again rfl XM
 |some v=>
  refine Q8 (Ot XM (λ_ XC XN=>Q8 (Ot XN (λ_ XJ X5=> ?_) λ_ _ f=>f.elim)) λ_ _ f=>f.elim);rw[S8,T6];refine ab (Sem.wrap_congr (VJ body env) _ _ (K':=λf=>match f with
   | .next | .cont=> .pure (.again (.forLoop target it body [] env))
   | .brk=> .pure (.done .next)
   | .ret v=> .pure (.done (.ret v))) (H':=ly env) (λf=>by cases f<;>rfl)
   (λe=>by unfold ly;first |exact Sem.bind_eq_wrap _ _ |rfl)) ?_
  exact X5
theorem lM {g n:Nat}{r₀:Wv}{P:Nat->On->On->Prop}(hr₀:r₀= .ret .none \/r₀= .next)(hh:A.handled=W9)
 (hl:s.heap.NoLimit) (ZA:A.depth<Rz)
 (hg:s.heap.IsGen a g) (Zu:s.gens[g]?=W8 gs)
 (Z1:gs.Goes (Ov ag w) A.in1 (λn XO r XB=>r= .ok r₀/\ P n XO XB) Y n (.send .none) (s.setGen g .running))
 (hY:∀v XB ZS,ZS.bare=true->Y (n - 1) (s.setGen g .running) v XB (λr' Ye=>match n with
   |0=>False
   |m+1=>ZS.Goes (Ov ag w) A.in1 (λn XO r XB=>r= .ok r₀/\ P n XO XB) Y m r' Ye)->Q v (XB.setGen g ZS))
 (hP:∀XB,P n (s.setGen g .running) XB->∀h' e,(∀b o,XB.heap.get? b=W8 o->h'.get? b=W8 o)->(∃o,h'.get? e=W8 o/\ o.cls= .type "StopIteration")->E (.ref e) {XB.setGen g .finished with heap:=h'}):
 Oz (Ov ag w) A (Qt (.ref a)) Q E s:=by
 injections s a A E Q gs Y g n r₀ P _ hr₀ hh hl ZA hg Zu Z1 hY hP;unfold Qt;refine Og (PN (name:=QV "__next__") hg.typeIs Tv (O9 Tv hg.typeIs entry_gen_next ?_ (args_gen_next _)));show Oz _ A.in1 (R2 (.ref a) (.send .none)) _ _ s;unfold R2;refine Og (ON (wpAny_genNumber hg (Og (wpAny_genState Zu ?_))));cases gs with
 |running=>exact Z1.elim
 |finished=>exact Z1.elim
 |_=>
  refine Og (wpAny_roomToWake hl ZA ?_);show Oz _ A.in1 (.resume g (.send .none) [] _) _ _ s;refine wpAny_resumeQ Zu Z1 (λx XB hx=> ?_) (λv XB ZS hb hv=> ?_)
  ·obtain⟨rfl,hp⟩:=hx
   have fin:∀(K:Oq->Sem Fin) (Φ:Fin->On->Prop),(∀e,K e=(raiseNew e:Sem Unit)>>=λ_=>(do rule "generator.return-value";let e <-newExc (.type "StopIteration") [.none];throw e))->Oz (Ov ag w) A.in1 (newExc (.type "StopIteration") []>>=K) Φ E (XB.setGen g .finished):=λK Φ hK=>by
    refine Og ?_;simp only[newExc,newTuple];refine Og (Qy ?_ (by size_fits));refine Og (m:=Ss _ _) (Pc (a:=PA) (by first |rfl | (simp only[Ss];rfl)) ?_);refine Qy ?_ (by size_fits);rw[hK];simp only[raiseNew];refine Og (Og (V3 ?_))
    first |refine ab (show A.in1.handled=W9 from hh) ?_ |rw[hh]
    first |refine Vj ?_ |refine Oi (Vj ?_) |refine Oi ?_
    exact hP XB hp _ _ (λb o hb=>Om _ (Om _ hb)) ⟨_,OB _ rfl,rfl⟩
   rcases hr₀ with rfl |rfl
   ·exact fin _ _ λ_=>rfl
   ·exact fin _ _ λ_=>rfl
  ·exact Oi ⟨v,rfl,Oi (hY v XB ZS hb hv)⟩
end
section
theorem wa {e it:OO}{i:Nat}{old:Oq}(he:UG s.heap e it i old)
 (hi:Oz (Ov ag w) A (Qt (.ref it)) (λx XB=>UG XB.heap e it i old/\ R₁ x XB) E s)
 (hQ:∀x XB,R₁ x XB->∀h',W0 h' e it ((i:Int)+1) x XB.heap.objs.size->h'.get? XB.heap.objs.size=W8 {cls:= .type "tuple",data:= .seq #[.int i XB.toks,x]}->(∀b o,b≠e->XB.heap.get? b=W8 o->h'.get? b=W8 o)->Q (.ref XB.heap.objs.size) {XB with heap:=h',toks:=XB.toks+1}):
 Oz (Ov ag w) A (OT.«enumerate.__next__» ⟨[.ref e],[]⟩) (λfin s'=> ∃v,fin= .done (.ret v)/\ Q v s') E s:=by
 injections s A E Q R₁ e it i old _ he hi hQ;show Oz _ _ (field (.ref e) 2>>=_) _ _ _;refine Og (Ts he rfl (x:= .ref it) rfl ?_);refine Og (Ot hi (λx XB XM=> ?_) λ_ _ h=>h);obtain⟨ZD,hR⟩:=XM;have hQ:=hQ x XB hR;obtain⟨XM,g,d,tk,os⟩:=XB;dsimp only at ZD hQ;have hel:e<XM.objs.size:=Pl ZD;show Oz _ _ (field (.ref e) 3>>=_) _ _ _;refine Og (Ts ZD rfl (x:=Qd i) rfl ?_);show Oz _ _ (field (.ref e) 4>>=_) _ _ _;refine Og (Ts ZD rfl (x:= .none) rfl ?_);show Oz _ _ (mkInt i>>=_) _ _ _;refine Og (wpAny_mkInt ?_);show Oz _ _ (setField (.ref e) 3 (Qd ((i:Int)+1))>>=_) _ _ ⟨XM,g,d,tk+1,os⟩;refine Og (Qu ZD (by simp) λXN he₂ X6=> ?_)
 replace X6:OE e XM XN:=X6
 replace he₂:UG XN e it ((i:Int)+1) old:=he₂
 show Oz _ _ (setField (.ref e) 4 .none>>=_) _ _ ⟨XN,g,d,tk+1,os⟩;refine Og (Qu he₂ (by simp) λX5 he₃ Zc=> ?_)
 replace Zc:OE e XN X5:=Zc
 replace he₃:UG X5 e it ((i:Int)+1) old:=he₃
 show Oz _ _ (newTuple [.int i tk,x]>>=_) _ _ ⟨X5,g,d,tk+1,os⟩;refine Og (wpAny_newTuple ?_);have YE:X5.objs.size=XM.objs.size:=by exact ab Zc.1 (ab X6.1 rfl)
 have Z2:UG (X5.push {cls:= .type "tuple",data:= .seq #[.int i tk,x]}) e it ((i:Int)+1) old:=Om _ he₃;have ht₄:(X5.push {cls:= .type "tuple",data:= .seq #[.int i tk,x]}).get? XM.objs.size=W8 {cls:= .type "tuple",data:= .seq #[.int i tk,x]}:=by refine bV YE ?_;exact OB _ rfl
 have hk₄:∀b o,b≠e->XM.get? b=W8 o->(X5.push {cls:= .type "tuple",data:= .seq #[.int i tk,x]}).get? b=W8 o:=λb o hb ho=>Om _ (Zc.extBut b o hb (X6.extBut b o hb ho));refine ab YE ?_;generalize X5.push {cls:= .type "tuple",data:= .seq #[.int i tk,x]}=Za at Z2 ht₄ hk₄⊢;show Oz _ _ (SQ (.ref e)>>=_) _ _ ⟨Za,g,d,tk+1,os⟩;refine Og ?_;unfold SQ;refine Og (Ts Z2 rfl (x:= .none) rfl (Oi ?_));simp only[if_true];refine Og (QL ?_);refine Og (Ts Z2 rfl (x:=old) rfl ?_);refine Og (Qu Z2 (by simp) λYF he₅ hs₅=> ?_)
 replace hs₅:OE e Za YF:=hs₅
 replace he₅:UG YF e it ((i:Int)+1) x:=he₅
 show Oz _ _ (SI (.ref e) (.ref XM.objs.size)>>=_) _ _ ⟨YF,g,d,tk+1,os⟩;refine Og ?_;unfold SI;refine Og (Qu he₅ (by simp) λh₆ he₆ hs₆=> ?_)
 replace hs₆:OE e YF h₆:=hs₆
 replace he₆:W0 h₆ e it ((i:Int)+1) x XM.objs.size:=he₆
 refine Qu he₆ (by simp) λZN he₇ hs₇=> ?_
 replace hs₇:OE e h₆ ZN:=hs₇
 replace he₇:W0 ZN e it ((i:Int)+1) x XM.objs.size:=he₇
 have kk:∀b o,b≠e->Za.get? b=W8 o->ZN.get? b=W8 o:=λb o hb ho=>hs₇.extBut b o hb (hs₆.extBut b o hb (hs₅.extBut b o hb ho));exact Og (wpAny_letGo (Oi ⟨_,rfl,hQ ZN he₇ (kk _ _ (Qh hel) ht₄) λb o hb ho=>kk b o hb (hk₄ b o hb ho)⟩))
theorem rL {e it:OO}{i:Nat}{old:Oq}{Q:Option Oq->On->Prop}(he:UG s.heap e it i old)
 (hi:Oz (Ov ag w) A.in1 (Qt (.ref it)) (λx XB=>UG XB.heap e it i old/\ R₁ x XB) (λ_ _=>False) s)
 (hQ:∀x XB,R₁ x XB->∀h',W0 h' e it ((i:Int)+1) x XB.heap.objs.size->h'.get? XB.heap.objs.size=W8 {cls:= .type "tuple",data:= .seq #[.int i XB.toks,x]}->(∀b o,b≠e->XB.heap.get? b=W8 o->h'.get? b=W8 o)->Q (W8 (.ref XB.heap.objs.size)) {XB with heap:=h',toks:=XB.toks+1}):Oz (Ov ag w) A (Sk (.ref e)) Q E s:=by
 have hT:s.TypeIs (.ref e) "enumerate":=⟨_,he,rfl⟩;unfold Sk;refine Og (Tt (PN (name:=QV "__next__") hT Sq (O9 Sq hT V1 (Ot (wa he hi (Q:=λv s'=>Q (W8 v) s') hQ) (λfin s' ⟨v,e,h⟩=> ?_) λ_ _ f=>f.elim) (VP _))));subst e;exact⟨v,rfl,Oi h⟩
theorem aac {e it:OO}{i:Nat}{old:Oq}{Q:Option Oq->On->Prop}(he:UG s.heap e it i old)
 (hi:Oz (Ov ag w) A.in1 (Qt (.ref it)) (λ_ _=>False) (λx XB=>(∃a o,x= .ref a/\ XB.heap.get? a=W8 o/\ o.cls= .type "StopIteration")/\ Q W9 XB) s):Oz (Ov ag w) A (Sk (.ref e)) Q E s:=by
 injections s A E e it i old Q _ he hi;have hT:s.TypeIs (.ref e) "enumerate":=⟨_,he,rfl⟩;unfold Sk;refine Og (Tt (PN (name:=QV "__next__") hT Sq (O9 Sq hT V1 ?_ (VP _))));show Oz _ _ (field (.ref e) 2>>=_) _ _ _;refine Og (Ts he rfl (x:= .ref it) rfl ?_);refine Og (Ot hi (λ_ _ h=>h.elim) λx XB h=> ?_);obtain⟨⟨a,o,rfl,ho,hc⟩,hq⟩:=h;refine Og (QM (T:= "StopIteration") (b:=true) ⟨o,ho,hc⟩ VI ?_);exact Oi hq
end
section
def gS (wr:List OO)(XO s:On):Prop:= ∃h' tk,s= {XO with heap:=h',toks:=tk}/\ ∀b o,b∉wr->XO.heap.get? b=W8 o->h'.get? b=W8 o
theorem gS.refl (wr:List OO)(s:On):gS wr s s:=⟨s.heap,s.toks,rfl,λ_ _ _ e=>e⟩
theorem gS.step {wr:List OO}(x:gS wr XO s)(hk:∀b o,b∉wr->s.heap.get? b=W8 o->h'.get? b=W8 o):gS wr XO {s with heap:=h',toks:=tk}:=by obtain⟨XM,tk₁,rfl,Y1⟩:=x;exact⟨h',tk,rfl,λb o hb e=>hk b o hb (Y1 b o hb e)⟩
def rB (fp wr:List OO)(vs:Array Oq):Protocol:=λm XO v s kap=>(∃i,i+m+1=vs.size/\ vs[i]?=W8 v)/\ gS wr XO s/\ (∀b∈fp,∃o,s.heap.get? b=W8 o)/\ ∀Ye:On,(∀b∈fp,∀o,s.heap.get? b=W8 o->Ye.heap.get? b=W8 o)->kap (.send .none) Ye
def rC (wr:List OO):GenEnd:=λn XO r XB=>r= .ok (.ret .none)/\ (n=0/\ gS wr XO XB)
theorem o4 {l L:OO}{vs:Array Oq}(hL:cenv.locals=L)(hIL:I≠L)(hlL:l≠L)(hlI:l≠I)(hk:cenv.scope.kind= .function)(hco:cenv.scope.isCoroutine=false)(hx:cenv.kindOf vn=W8 .local)(hd:(vn==("__debug__":Str))=false)
 (hfs:splitAtGen fs=W9) (hfg:fs.any Frame.guarded=false) (hA:∀c,(A.over c fs).handled=W9)
 (hret:∀XO s,gS [L,I] XO s->Seg (Ov ag w) A (rC [L,I]) (rB [L,I,l] [L,I] vs) 0 XO (.block [] cenv) (.pure (.done .next)) fs s):
 ∀(k i:Nat) (XO s:On) (m:Str->Option Oq),i+k=vs.size->s.heap.IsListIter I l i->s.heap.IsList l vs->s.heap.Ns L m->gS [L,I] XO s->Seg (Ov ag w) A (rC [L,I]) (rB [L,I,l] [L,I] vs) k XO (.forLoop (.Name vn p1) (.ref I) [.Expr (.Yield (W8 (.Name vn p2)) p3) p4] [] cenv) ((Ov ag w).den (.forLoop (.Name vn p1) (.ref I) [.Expr (.Yield (W8 (.Name vn p2)) p3) p4] [] cenv)) fs s:=by
 injections I A p1 p2 p3 p4 cenv vn fs l L vs _ hL hIL hlL hlI hk hco hx hd hfs hfg hA hret;have hp:(cenv.scope.kind== .class || (cenv.scope.kind== .module&&cenv.locals !=cenv.globals))=false:=by refine ab hk ?_;rfl
 have hi:Vq cenv=false:=by unfold Vq;refine ab hk ?_;rfl
 intro k;induction k with
 |zero=>intro i XO s m hik hI hl hn hs;have W:=Wf (prog:=ag) (w:=w) (hA (.forLoop (.Name vn p1) (.ref I) [.Expr (.Yield (W8 (.Name vn p2)) p3) p4] [] cenv)) I l hlI vs;have:i=vs.size:=hik;subst this;refine kg (W.done s _ _ ⟨hI,hl⟩ λh' tk hk'=> ?_);exact hret _ _ (hs.step λb o hb e=>hk' b o (λh=>hb (by simp at h;subst h;simp)) e)
 |succ k ih=>
  intro i XO s m hik hI hl hn hs;have W:=Wf (prog:=ag) (w:=w) (hA (.forLoop (.Name vn p1) (.ref I) [.Expr (.Yield (W8 (.Name vn p2)) p3) p4] [] cenv)) I l hlI vs;refine kg (W.item i s _ _ (hik▸aaG (Rg _)) ⟨hI,hl⟩ λv XM tk₁ hPv hst₁ Y1=> ?_);refine Pc (a:=()) rfl ?_;have kI:∀b o,b≠I->s.heap.get? b=W8 o->XM.get? b=W8 o:=λb o hb e=>Y1 b o (by simpa using hb) e;refine Rn (WD hx (by refine ab hL ?_;exact hn.at' λo e=>kI _ o (Te hIL) e) (λXN ZZ X6=> ?_) hp);rw[hL]at ZZ X6;have Y2:XN.IsListIter I l (i+1):=hst₁.1.at λo e=>(X6.2 I hIL).trans e;have Z0:XN.IsList l vs:=hst₁.2.at λo e=>(X6.2 l hlL).trans e;have X2:=hs.step (h':=XN) (tk:=tk₁+1) λb o hb e=>(X6.2 b λh=>hb (by simp[h])).trans (kI b o (λh=>hb (by simp[h])) e);refine seg_execs_cons (seg_Expr_Yield hfs rfl hfg (Ro (T5 hk hx (by refine ab hL ?_;exact ZZ) (v:=v) (by simp) ?_) hd) hco hi);intro kap hkap;refine⟨⟨i,hik,hPv⟩,X2,?_,λYe hal=>hkap _ Ye ?_⟩
  ·intro b hb
   simp only[OG,Td,or_false]at hb;rcases hb with rfl |rfl |rfl
   ·obtain⟨o,_,_,ho,_⟩:=ZZ;exact⟨o,ho⟩
   ·obtain⟨o,ho,_⟩:=Y2;exact⟨o,ho⟩
   ·obtain⟨o,ho,_⟩:=Z0;exact⟨o,ho⟩
  refine seg_execs_nil (seg_again rfl (ih (i+1) Ye Ye _ ((aaF i k).trans hik) (Y2.at λo e=>hal I (by simp) o e) (Z0.at λo e=>hal l (by simp) o e) (ZZ.at' λo e=>hal L (by simp) o e) (.refl _ _)))
theorem o5 {L pa pd l:OO}{c:Nat}{fs:List Oq}{vs:Array Oq}{m:Str->Option Oq}(hh:A.handled=W9)(K:bH C c)(X:C.K.In s.heap)(hL:cenv.locals=L)(hLl:l≠L)
 (hk:cenv.scope.kind= .function) (hco:cenv.scope.isCoroutine=false) (hx:cenv.kindOf vn=W8 .local) (hd:(vn==("__debug__":Str))=false) (hsx:cenv.kindOf sn=W8 .local) (hsd:(sn==("__debug__":Str))=false)
 (hn:s.heap.Ns L m) (hm:m sn=W8 (.ref pa)) (hI:bC C.cls s.heap.get? pa c pd fs) (hj:(C.cls.names c)[j]?=W8 an) (hfj:fs[j]?=W8 (.ref l)) (hl:s.heap.IsList l vs)
 (he:PX (.Attribute (.Name sn p5) an p6) cenv=(do
   let o <-PX (.Name sn p5) cenv
   Qb p6.atName
   let r <-Qo [o] (Up o an true)
   QT (.Name sn p5) o r
   pure r)):
 Seg (Ov ag w) A (rC [L,s.heap.objs.size]) (rB [L,s.heap.objs.size,l] [L,s.heap.objs.size] vs) vs.size s (.func [.For (.Name vn p1) (.Attribute (.Name sn p5) an p6) [.Expr (.Yield (W8 (.Name vn p2)) p3) p4] [] p7] cenv) ((Ov ag w).den (.func [.For (.Name vn p1) (.Attribute (.Name sn p5) an p6) [.Expr (.Yield (W8 (.Name vn p2)) p3) p4] [] p7] cenv)) [] s:=by
 injections j s A p1 p2 p3 p4 p5 p6 p7 cenv vn sn an L pa pd l c fs vs m _ hh K X hL hLl hk hco hx hd hsx hsd hn hm hI hj hfj hl he;refine seg_func (seg_execs_cons (A4 (Ot (Q:=λv XB=>v= .ref l/\ XB= {s with toks:=s.toks+1}) (Ul (Ro (T5 hk hsx (by refine ab hL ?_;exact hn) hm ?_) hsd) he) (λv XB h=> ?_) λ_ _ f=>f)))
 ·obtain⟨es,n,ia,_,Zl,hel,hkk⟩:=hI.at
  subst Zl;rw[Qw]at hfj;obtain⟨e,hee,hev⟩:=O3.mp hfj;refine get_value X ia K.ga (v:= .ref l) ?_ rfl ⟨rfl,rfl⟩;obtain⟨cd,hc,hdct⟩:=T0 K.dict;exact rI hc (K.own an (Qs hj)) (t9 hdct (hev▸nQ K.nd hel hkk hj hee))
 ·obtain⟨rfl,rfl⟩:=h
  refine wpAny_pyIter_list (s:= {s with toks:=s.toks+1}) hl λp=> ?_;have nI:s.heap.get? s.heap.objs.size=W9:=cY;have hIL:s.heap.objs.size≠L:=λh=>by obtain⟨o,_,_,ho,_⟩:=hn;rw[<-h,nI]at ho;cases ho
  have hlI:l≠s.heap.objs.size:=λh=>by obtain⟨o,ho,_⟩:=hl;rw[h,nI]at ho;cases ho
  refine o4 hL hIL hLl hlI hk hco hx hd rfl rfl ?_ (λXO s' hs=> ?_) vs.size 0 s _ m (by omega) ⟨_,OB _ rfl,rfl,rfl⟩ (hl.at λo e=>Om _ e) (hn.at' λo e=>Om _ e) ⟨_,_,rfl,λb o _ e=>Om _ e⟩
  ·intro c
   show(marksOver _ (A.handled,A.handled)).1=W9;refine ab hh ?_;rfl
  exact seg_leaf (.ok .next) (seg_end (.ok (.ret .none)) ⟨rfl,rfl,hs⟩)
end
section
def j7 (M:Model)(A:O6)(Q:Oq->On->Prop)(it:Oq)(s':On):Prop:=
 Oz M A (specialOf it "__next__") (λr XC=>match r with
  |none=>False
  |some _=>Q it XC) (λ_ _=>False) s'
theorem sP (X:C.K.In s.heap){c:Nat}(M:ec C c "__iter__" f){d:OO}(I:bC C.cls s.heap.get? a c d vs)
 (h:Oz (Ov ag w) A (call (.ref f) [.ref a]) (j7 (Ov ag w) A Q) (λ_ _=>False) s):Oz (Ov ag w) A (Ti (.ref a)) Q (λ_ _=>False) s:=by
 injections s a f A Q vs c d _ X M I h;obtain⟨es,n,ia,_⟩:=I.at;have fin:Oz (Ov ag w) A (call (.ref f) [.ref a]>>=λv=>pure (W8 v)) (λr s'=> ∃v,r=W8 v/\ j7 (Ov ag w) A Q v s') (λ_ _=>False) s:=
  Og (Ot h (λv s' h'=>Oi ⟨v,rfl,h'⟩) λ_ _ z=>z)
 have one:∀ZM:Sem Oq,Oz (Ov ag w) A (SF (.ref a) "__iter__" ZM) (λr s'=> ∃v,r=W8 v/\ j7 (Ov ag w) A Q v s') (λ_ _=>False) s:=by
  intro ZM;simp only[SF,bindSpecialIfBound?];refine ON (Og (Og (Og (ia.type.here ((TP X M.at_).here ?_)))));refine Og (Ps (wpAny_ite ?_));have BL:Oz (Ov ag w) A (if(PL f==PA)=true then(ZM>>=λv=>pure (W8 v))else(call (.ref f) [.ref a]>>=λv=>pure (W8 v))) (λr s'=> ∃v,r=W8 v/\ j7 (Ov ag w) A Q v s') (λ_ _=>False) s:=by refine ab (if_neg (show¬((PL f==PA)=true)from OD)) ?_;exact fin
  split
  ·exact Og ((bind_fn X _ M.fn).here (Oi (by exact BL)))
  ·exact wpAny_tryCatch (Og ((bind_fn X _ M.fn).here (Oi (by exact BL))))
 unfold Ti;refine Og (Og (ia.type.here ((TP X M.at_).here ?_)));show Oz (Ov ag w) A (SF (.ref a) "__iter__" _>>=_) Q _ s;refine Og (Ot (one _) (λr s' hr=> ?_) λ_ _ z=>z);obtain⟨v,rfl,hv⟩:=hr;refine Og (Ot hv (λr XC hr=> ?_) λ_ _ z=>z);cases r with
 |none=>exact hr.elim
 |some g=>exact Oi hr
theorem sU {a g:Nat}(hg:s.heap.IsGen a g)(q:Q (.ref a) s):j7 (Ov ag w) A Q (.ref a) s:=by unfold j7;exact wpAny_specialOf hg.typeIs Tv.lookup q
structure tK (C:Cf ag w) (c:Nat) (f:OO) (fd:Rb) (j:Nat) (sn vn an:Str) (p1 p2 p3 p4 p5 p6 p7:Pos):Prop where
 m:ec C c "__iter__" f
 obj:∃o,C.hb.get? f=W8 o/\ o.data= .func fd
 notT:f∉C.T
 code:C.hb.CodeRec fd.code fd.qualname
 codeT:∀c,fd.code= .ref c->c∉C.T
 clo:fd.closure= []
 gl:fd.globals=PF
 bi:fd.builtins=O7
 body:fd.body= .stmts [.For (.Name vn p1) (.Attribute (.Name sn p5) an p6) [.Expr (.Yield (W8 (.Name vn p2)) p3) p4] [] p7]
 co:fd.scope.isCoroutine=false
 gen:fd.scope.isGenerator=true
 kind:fd.scope.kind= .function
 nocell:∀x∈fd.scope.names,x.2≠ .cell
 ls:fd.scope.names.lookup sn=W8 .local
 lv:fd.scope.names.lookup vn=W8 .local
 ds:(sn==("__debug__":Str))=false
 dv:(vn==("__debug__":Str))=false
 bind:∀v:Oq,Wc fd ⟨[v],[]⟩=pure [(sn,v)]
 nm:(C.cls.names c)[j]?=W8 an
 ev:∀cenv,PX (.Attribute (.Name sn p5) an p6) cenv=(do
  let o <-PX (.Name sn p5) cenv
  Qb p6.atName
  let r <-Qo [o] (Up o an true)
  QT (.Name sn p5) o r
  pure r)
theorem sZ {c:Nat}(F:tK C c f fd j sn vn an p1 p2 p3 p4 p5 p6 p7)(i:ff C s)(hA:A.depth<Rz)
 (q:∀(cenv:Env) (h':O0) (tk:Nat) (a:OO) (nm qn:Oq),cenv.locals=s.heap.objs.size->cenv.scope.kind= .function->cenv.scope.isCoroutine=false->cenv.kindOf sn=W8 .local->cenv.kindOf vn=W8 .local->(∃m:Str->Option Oq,h'.Ns s.heap.objs.size m/\ m sn=W8 v)->(∀b o,s.heap.get? b=W8 o->h'.get? b=W8 o)->a=h'.objs.size->s.heap.objs.size<a->Q (.ref a) {s with heap:=h'.push {cls:= .type "generator",data:= .fields #[.int s.gens.size 0,nm,qn]},toks:=tk,gens:=s.gens.push (.fresh (.func [.For (.Name vn p1) (.Attribute (.Name sn p5) an p6) [.Expr (.Yield (W8 (.Name vn p2)) p3) p4] [] p7] cenv))}):
 Oz (Ov ag w) A (call (.ref f) [v]) Q (λ_ _=>False) s:=by
 obtain⟨o,ho,hd⟩:=F.obj;have Yl:s.heap.CodeRec fd.code fd.qualname:=(by obtain⟨c,o,vs,t,e,g,r⟩:=F.code;exact⟨c,o,vs,t,e,i.base c o (F.codeT c e) g,r⟩);refine RU (codeAny_call_generator hA (i.base f o F.notT ho) hd F.co F.gen F.body Yl ?_);refine Pc (F.bind v) ?_;refine ab F.gl (ab F.clo (ab F.bi ?_));refine wpAny_newFunctionEnv F.nocell (λx hx=>by simp at hx;subst hx;exact F.ls) (λh' hn hs=> ?_) F.kind;have keep:∀b o,s.heap.get? b=W8 o->h'.get? b=W8 o:=λb o e=>by have hb:b≠s.heap.objs.size:=Px (Pl e);refine ab (hs.2 b hb) ?_;exact Om _ e
 refine⟨(i.lim).keeps keep,?_⟩;refine q _ h' _ _ _ _ rfl F.kind F.co F.ls F.lv ⟨_,hn,by simp⟩ keep rfl ?_;refine ab hs.1 ?_;simp[O0.push]
end
end
section
section
theorem Ev.many (hX:∀b∈X,O b/\ C.hb.get? b=W9/\ b∉C.T/\ (U b=W8 (b,.obj) \/s.heap.get? b=W9))(hV:∀b,b∉X->Yi b=U b)(hV':∀b∈X,Yi b=W9 \/(Yi b=W8 (b,.obj)/\ ∃o,s'.heap.get? b=W8 o))(one:∀b∈X,∀c q,U c=W8 (b,q)->c=b)
 (hk:∀b o,b∉X->s.heap.get? b=W8 o->s'.heap.get? b=W8 o) (hos:s'.os=s.os) (hg:∀(i:Nat) (x:QZ),¬J i->s.gens[i]?=W8 x->s'.gens[i]?=W8 x) (hb:RR s.gens->RR s'.gens):Ev C O J U s Yi s':=
 have no:∀ {b o},s.heap.get? b=W8 o->(∀c q,U b=W8 (c,q)->¬O c)->b∉X:=λe h hb=>(hX _ hb).2.2.2.elim (λh'=>h _ _ h' (hX _ hb).1) λh'=>by rw[h']at e;cases e
 {keep:=λb o _ h e=>hk b o (no e h) e
  col:=λb o e h=>hV b (no e h)
  own:=λb c q h=>by
   by_cases hx:b∈X
   ·rcases hV' b hx with h' | ⟨h',_⟩<;>rw[h']at h<;>cases h
    exact .inr (.inl (hX b hx).1)
   ·exact .inl ((hV b hx).symm.trans h)
  os:=hos
  gen:=hg
  go:=λok=>⟨⟨ok.inv.many (bad:=(· ∈X)) (λb h=>⟨(hX b h).2.1,(hX b h).2.2.1⟩) hk (hb ok.inv.bare),λb c q h=>by
   by_cases hx:b∈X
   ·rcases hV' b hx with h' | ⟨h',l⟩<;>rw[h']at h<;>cases h
    exact⟨l,l⟩
   ·rw[hV b hx]at h
    obtain⟨⟨o,e⟩,o',e'⟩:=ok.live b c q h;exact⟨⟨o,hk b o hx e⟩,o',hk c o' (λhc=>hx (one c hc b q h▸hc)) e'⟩,λb hT=>by refine ab (hV b λhx=>(hX b hx).2.2.1 hT) ?_;exact ok.tU b hT⟩,
   λb h=>if hx:b∈X then .inl (hX b hx).1 else .inr ((by obtain⟨o,e⟩:=h;exact⟨o,hk b o hx e⟩))⟩}
def dz (i:Nat):List V->List V
 | []=> []
 |y::r=> .tup [.int ((i:Nat):Int),y]::dz (i+1) r
theorem oj:∀ {ys:List V} {i j:Nat} {t:V},(dz i ys)[j]?=W8 t->∃y,ys[j]?=W8 y/\ t= .tup [.int ((i+j:Nat):Int),y]
 |y::r,i,0,t,h=>⟨y,rfl,(Oh h).symm⟩
 |y::r,i,j+1,t,h=>by obtain⟨z,h1,h2⟩:=oj (show(dz (i+1) r)[j]?=W8 t from h);exact⟨z,h1,by rw[h2,SW];rfl⟩
theorem jj:∀(ys:List V) (i:Nat),(dz i ys).length=ys.length
 | [],i=>rfl
 |y::r,i=>congrArg (· +1) (jj r (i+1))
variable{P:Az}
def te (P:Az)(A:O6)(I:OO)(i:Nat)(gs:QZ)(s:On):Prop:=
 gs.Goes (Ov ag w) A.in1.in1 (rC [P.L,I]) (rB [P.L,I,P.l] [P.L,I] P.vs) (P.vs.size - i) (.send .none) s
structure wD (C:Cf ag w) (P:Az) (X:List OO) (W:cK) (U:Ow) (xs:List V) (s:On) (i:Nat) (old:Oq) (gs:QZ):Prop where
 hX:∀b∈X,W b/\ C.hb.get? b=W9/\ b∉C.T/\ U b=W8 (b,.obj)/\ (∀c q,U c=W8 (b,q)->c=b)/\ ∃o,s.heap.get? b=W8 o
 eX:P.e∈X
 LX:P.L∈X
 hR:∀b∈ [P.a,P.pa,P.pd,P.l],b∉C.T/\ U b=W9/\ ∃o,s.heap.get? b=W8 o
 he:UG s.heap P.e P.a i old
 hg:s.heap.IsGen P.a P.g
 hlen:i+xs.length=P.vs.size
 hx:∀j t,xs[j]?=W8 t->∃y v,t= .tup [.int ((i+j:Nat):Int),y]/\ P.vs[i+j]?=W8 v/\ bj C.cls (view U s.heap) y v
 hs:s.gens[P.g]?=W8 gs
inductive j8 (C:Cf ag w) (P:Az) (A:O6) (W:cK) (U:Ow) (xs:List V) (s:On):Prop
 |new (old:Oq) (c:wD C P [P.e,P.L] W U xs s 0 old (.fresh (.func P.body P.cenv))) (hn:∃m,s.heap.Ns P.L m/\ m P.sn=W8 (.ref P.pa)) (hI:bC C.cls s.heap.get? P.pa P.c P.pd P.fvs) (hl:s.heap.IsList P.l P.vs)
 |on (I:OO) (i:Nat) (old:Oq) (gs:QZ) (ne:I≠P.e) (c:wD C P [I,P.e,P.L] W U xs s i old gs) (go:∀Ye:On,(∀b∈ [P.L,I,P.l],∀o,s.heap.get? b=W8 o->Ye.heap.get? b=W8 o)->te P A I i gs Ye)
theorem wD.ne {i:Nat}{old:Oq}(c:wD C P X W U xs s i old gs){b d:OO}(hb:b∈X)(hd:d∈ [P.a,P.pa,P.pd,P.l]):d≠b:=λh=>by have:=(c.hR d hd).2.1;rw[h,(c.hX b hb).2.2.2.1]at this;cases this
theorem wD.kp {i:Nat}{old:Oq}(c:wD C P X W U xs s i old gs)(ev:Ev C O J U s U' s')(hO:∀c,O c->¬W c/\ ¬F c){b:OO}(hb:b∈X \/b∈ [P.a,P.pa,P.pd,P.l]):(∀o,s.heap.get? b=W8 o->s'.heap.get? b=W8 o)/\ U' b=U b:=by
 have no:∀c q,U b=W8 (c,q)->¬O c:=λc' q e h=>hb.elim (λhb=>(hO c' h).1 (by rw[(c.hX b hb).2.2.2.1]at e;cases e;exact(c.hX _ hb).1)) λhb=>by rw[(c.hR b hb).2.1]at e;cases e
 have T:b∉C.T/\ ∃o,s.heap.get? b=W8 o:=hb.elim (λhb=>⟨(c.hX b hb).2.2.1,(c.hX b hb).2.2.2.2.2⟩) λhb=>⟨(c.hR b hb).1,(c.hR b hb).2.2⟩;obtain⟨o,e⟩:=T.2;exact⟨λo=>ev.keep b o T.1 no,ev.col b o e no⟩
theorem IsGen.at {h:O0}{a g:Nat}(x:h.IsGen a g)(l:∀o,h.get? a=W8 o->h'.get? a=W8 o):h'.IsGen a g:=(by obtain⟨o,nm,qn,ho,r⟩:=x;exact⟨o,nm,qn,l o ho,r⟩)
theorem wD.keep {i:Nat}{old:Oq}(c:wD C P X W U xs s i old gs)(ok:aY C U s)(ev:Ev C O bM U s U' s')(hO:∀c,O c->¬W c/\ ¬F c):wD C P X W U' xs s' i old gs where
 hX:=λb hb=>
  have k:=c.kp ev hO (.inl hb);have h:=c.hX b hb
  ⟨h.1,h.2.1,h.2.2.1,k.2.trans h.2.2.2.1,(λc' q e=>(ev.own c' b q e).elim (h.2.2.2.2.1 c' q) λh'=>h'.elim (λh'=>absurd h.1 (hO b h').1) λh'=>by obtain⟨o,e⟩:=h.2.2.2.2.2;rw[h']at e;cases e),h.2.2.2.2.2.imp k.1⟩
 eX:=c.eX
 LX:=c.LX
 hR:=λb hb=>have k:=c.kp ev hO (.inr hb);⟨(c.hR b hb).1,k.2.trans (c.hR b hb).2.1,(c.hR b hb).2.2.imp k.1⟩
 he:=(c.kp ev hO (.inl c.eX)).1 _ c.he
 hg:=IsGen.at c.hg (c.kp ev hO (.inr (.head _))).1
 hlen:=c.hlen
 hx:=λj t e=>(c.hx j t e).imp λ_=>OQ λ_ h=>⟨h.1,h.2.1,bj.mono (ev.le ok.tU) _ _ h.2.2⟩
 hs:=ev.gen _ _ id c.hs
theorem bC.at2 {g:a0}{d:OO}{c:Nat}(x:bC K g a c d vs)(ha:∀o,g a=W8 o->g' a=W8 o)(hd:∀o,g d=W8 o->g' d=W8 o):bC K g' a c d vs:=
 ⟨ha _ x.1,x.2.1,x.2.2.1,x.2.2.2.imp λ_=>OQ λ_=>TA (hd _)⟩
theorem j8.keep (h:j8 C P A W U xs s)(ok:aY C U s)(ev:Ev C O bM U s U' s')(hO:∀c,O c->¬W c/\ ¬F c):j8 C P A W U' xs s':=by
 injections s s' A xs U U' W O F P _ h ok ev hO;cases h with
 |new old c hn hI hl=>have kp:∀ {b},b∈ [P.e,P.L] \/b∈ [P.a,P.pa,P.pd,P.l]->∀o,s.heap.get? b=W8 o->s'.heap.get? b=W8 o:=λh=>(c.kp ev hO h).1;exact .new old (c.keep ok ev hO) ((by obtain⟨m,h,h'⟩:=hn;exact⟨m,h.at' (kp (.inl c.LX)),h'⟩)) (hI.at2 (kp (.inr (.tail _ (.head _)))) (kp (.inr (.tail _ (.tail _ (.head _)))))) (hl.at (kp (.inr (.tail _ (.tail _ (.tail _ (.head _)))))))
 |on I i old gs ne c go=>
  refine .on I i old gs ne (c.keep ok ev hO) λYe al=>go Ye λb hb o e=>al b hb o ((c.kp ev hO ?_).1 o e);cases hb with
  |head=>exact .inl c.LX
  |tail _ hb=>cases hb with
   |head=>exact .inl (.head _)
   |tail _ hb=>refine ab (OJ.mp hb) ?_;exact .inr (.tail _ (.tail _ (.tail _ (.head _))))
theorem j8.gens (h:j8 C P A W U xs s)(hh:s'.heap=s.heap)(hg:s'.gens[P.g]?=s.gens[P.g]?):j8 C P A W U xs s':=by
 have c':∀ {X i old gs},wD C P X W U xs s i old gs->wD C P X W U xs s' i old gs:=λc=>⟨hh▸c.hX,c.eX,c.LX,hh▸c.hR,hh▸c.he,hh▸c.hg,c.hlen,hh▸c.hx,hg.trans c.hs⟩;cases h with
 |new old c hn hI hl=>exact .new old (c' c) (hh▸hn) (hh▸hI) (hh▸hl)
 |on I i old gs ne c go=>exact .on I i old gs ne (c' c) (hh▸go)
theorem j8.gv (h:j8 C P A W U xs s):∃x,s.gens[P.g]?=W8 x:=by
 cases h with
 |new _ c _ _ _=>exact⟨_,c.hs⟩
 |on _ _ _ _ _ c _=>exact⟨_,c.hs⟩
theorem uW (h:RR s.gens){g:Nat}{x y:QZ}(hy:y.bare=true):RR ((s.setGen g x).setGen g y).gens:=λz hz=>by rw[show((s.setGen g x).setGen g y).gens=s.gens.setIfInBounds g y from Array.setIfInBounds_setIfInBounds ..]at hz;exact(TC hz).elim (h z) λe=>e▸hy
theorem rF {g:Nat}{x y:QZ}(i:Nat)(z:QZ)(hi:¬i=g)(e:s.gens[i]?=W8 z):((s.setGen g x).setGen g y).gens[i]?=W8 z:=by unfold U5;rw[Q7,if_neg (Te hi),Q7,if_neg (Te hi)];exact e
end
end
section
section
variable{P:Az}{i:Nat}{old:Oq}{tp:Pos}
structure Od (P:Az) (A:O6) (I:OO) (i:Nat) (s:On) (v:Oq) (XB:On):Prop where
 hv:P.vs[i]?=W8 v
 os:XB.os=s.os
 gs:∃ZS,ZS.bare=true/\ XB.gens=((s.setGen P.g .running).setGen P.g ZS).gens/\ ∀Ye:On,(∀b∈ [P.L,I,P.l],∀o,XB.heap.get? b=W8 o->Ye.heap.get? b=W8 o)->te P A I (i+1) ZS Ye
 kp:∀b o,b∉ [P.L,I]->s.heap.get? b=W8 o->XB.heap.get? b=W8 o
 lv:∀b∈ [P.L,I,P.l],∃o,XB.heap.get? b=W8 o
theorem yp {b c:OO}(h1:c≠a)(h2:c≠b):c∉ [a,b]:=λh=>(OG.mp h).elim h1 λh=>h2 (OJ.mp h)
theorem uK (c:wD C P X W U (x::xs) s i old gs)(sub:∀b∈X,b∈ [I,P.e,P.L])(nI:I∈X \/s.heap.get? I=W9)(hIe:I≠P.e)(eL:P.e≠P.L)(rm:aV A k)(ok:aY C U s)(go:te P A I i gs (s.setGen P.g .running)):
 Oz (Ov ag w) A (Sk (.ref P.e)) (λr XB=> ∃v,r=W8 v/\ Oz (Ov ag w) A (QB (.Tuple elts ct tp) (.ref P.e) v) (λ_ XC=>II C true W (· =P.g) (j8 C P A) U s x xs v XC) (λ_ _=>False) XB) (λ_ _=>False) s:=by
 injections k ct s I A x xs elts gs X U W P i old tp _ c sub nI hIe eL rm ok go;have hlen:=c.hlen;simp only[Qf]at hlen;have hR:=c.hR;have nI':∀ {d},d∈ [P.a,P.pa,P.pd,P.l]->d≠I:=λhd h=>nI.elim (λhI=>c.ne hI hd h) λhI=>by obtain⟨o,e⟩:=(hR _ hd).2.2;rw[h,hI]at e;cases e
 have eN:P.e∉ [P.L,I]:=yp eL hIe.symm;have aN:P.a∉ [P.L,I]:=yp (c.ne c.LX (.head _)) (nI' (.head _));refine rL (R₁:=Od P A I i s) c.he ?_ ?_
 ·unfold te at go
  have s1:P.vs.size - (i+1)=xs.length:=aaY (hlen.symm.trans (WR _ _ _));rw[show P.vs.size - i=(P.vs.size - (i+1))+1 from(aaY (hlen.symm.trans (SX _ _))).trans (congrArg (· +1) s1.symm)]at go;refine lM (P:=λn XO XB=>n=0/\ gS [P.L,I] XO XB) (.inl rfl) rm.handled ok.inv.lim (show A.in1.depth<Rz from rm.lt) c.hg c.hs go (λv XB ZS hb hY=> ?_) λXB h=>nomatch h.1;obtain⟨⟨i',hi',hv⟩,hs,hlv,hk⟩:=hY;rw[show i'=i by rw[Nat.add_sub_cancel,s1]at hi';exact Nat.add_right_cancel (m:=xs.length+1) (hi'.trans hlen.symm)]at hv;obtain⟨XM,tk,Yu,Y1⟩:=hs;have kp:∀b o,b∉ [P.L,I]->s.heap.get? b=W8 o->XM.get? b=W8 o:=Y1;rw[Yu]at hlv hk⊢;exact⟨kp _ _ eN c.he,hv,rfl,⟨ZS,hb,rfl,hk⟩,kp,hlv⟩
 ·intro v XB m h' hout htup hkeep
  refine⟨_,rfl,wpAny_letOwnedTupleGo_enum hout λYU he'' hs''=> ?_⟩;obtain⟨ZS,hb,hgens,hk⟩:=m.gs;have ZY:∀b o,b≠P.e->XB.heap.get? b=W8 o->YU.get? b=W8 o:=λb o hb e=>hs''.extBut b o hb (hkeep b o hb e);have kp₃:∀b o,b∉ [I,P.e,P.L]->s.heap.get? b=W8 o->YU.get? b=W8 o:=λb o hb e=>by obtain⟨h1,hb⟩:=Qx hb;obtain⟨h2,hb⟩:=Qx hb;exact ZY b o h2 (m.kp b o (yp (λh=>hb (OJ.mpr h)) h1) e)
  have hX:∀b∈ [I,P.e,P.L],(b∈X \/(b=I/\ s.heap.get? I=W9)):=λb hb=>by
   cases hb with
   |head=>exact nI.imp id λh=>⟨rfl,h⟩
   |tail _ hb=>cases hb with
    |head=>exact .inl c.eX
    |tail _ hb=>exact .inl (OJ.mp hb▸c.LX)
  have hBT:∀b∈ [I,P.e,P.L],C.hb.get? b=W9/\ b∉C.T:=λb hb=>(hX b hb).elim (λhb=>⟨(c.hX b hb).2.1,(c.hX b hb).2.2.1⟩) λh=>h.1▸⟨(ok.new h.2).2.2,(ok.new h.2).1⟩;have uX:∀b∈ [I,P.e,P.L],U b=W8 (b,.obj) \/s.heap.get? b=W9:=λb hb=>(hX b hb).imp (λhb=>(c.hX b hb).2.2.2.1) λ(h:b=I/\ s.heap.get? I=W9)=>h.1.symm▸h.2;have wX:∀b∈ [I,P.e,P.L],W b \/b=I:=λb hb=>(hX b hb).imp (λhb=>(c.hX b hb).1) And.left;have one:∀b∈ [I,P.e,P.L],∀c' q,U c'=W8 (b,q)->c'=b:=λb hb c' q e=>(hX b hb).elim (λhb=>(c.hX b hb).2.2.2.2.1 c' q e) λh=>by obtain⟨_,o,e'⟩:=ok.live c' b q e;rw[h.1,h.2]at e';cases e'
  have lv:∀b∈ [I,P.e,P.L],∃o,YU.get? b=W8 o:=λb hb=>by
   cases hb with
   |head=>obtain⟨o,e⟩:=m.lv I (.tail _ (.head _));exact⟨o,ZY I o hIe e⟩
   |tail _ hb=>cases hb with
    |head=>exact⟨_,he''⟩
    |tail _ hb=>obtain⟨o,e⟩:=m.lv P.L (.head _);refine ab (OJ.mp hb) ?_;exact⟨o,ZY P.L o eL.symm e⟩
  have V':∀b∈ [I,P.e,P.L],b5 U I (I,.obj) b=W8 (b,.obj):=λb hb=>by
   by_cases h:b=I
   ·exact ab h (ab aD rfl)
   ·refine ab (aO h) ?_;exact(hX b hb).elim (λhb=>(c.hX b hb).2.2.2.1) λh'=>absurd h'.1 h
  have ev:Ev C (λc=>W c \/c=I) (· =P.g) U s (b5 U I (I,.obj)) {XB with heap:=YU,toks:=XB.toks+1}:=
   .many (X:= [I,P.e,P.L]) (λb hb=>⟨wX b hb,(hBT b hb).1,(hBT b hb).2,uX b hb⟩) (λb hb=>aO (Vf hb)) (λb hb=> .inr ⟨V' b hb,lv b hb⟩) one kp₃ m.os (λj z hj e=>(congrArg (·[j]?) hgens).trans (rF j z hj e)) λhB=>by refine ab hgens ?_;exact uW hB hb
  have le:=ev.le ok.tU;have kR:∀ {d},d∈ [P.a,P.pa,P.pd,P.l]->d∉ [I,P.e,P.L]:=λhd h=>by
   rcases hX _ h with h |h
   ·exact c.ne h hd rfl
   ·exact nI' hd h.1
  have hlv:∀ {d},d∈ [P.a,P.pa,P.pd,P.l]->(∀o,s.heap.get? d=W8 o->YU.get? d=W8 o)/\ b5 U I (I,.obj) d=W9:=λhd=>⟨λo=>kp₃ _ o (kR hd),(aO (nI' hd)).trans (hR _ hd).2.1⟩;refine⟨λc=>W c \/c=I,b5 U I (I,.obj),λc' h=>h.elim .inl λ(h:c'=I)=>nI.imp (λhI=>h.symm▸(c.hX I hI).1) λhI=>h.symm▸hI,ev.narrow ok λc' h=>h.elim .inr λ(h:c'=I)=>nI.symm.imp (λhI=>h.symm▸hI) λhI=>h.symm▸(c.hX I hI).1,.on I (i+1) v ZS hIe ⟨λb hb=>⟨wX b hb,(hBT b hb).1,(hBT b hb).2,V' b hb,λc' q e=> ?_,lv b hb⟩,.tail _ (.head _),.tail _ (.tail _ (.head _)),λd hd=>⟨(hR d hd).1,(hlv hd).2,(by obtain⟨o,e⟩:=(hR d hd).2.2;exact⟨o,(hlv hd).1 o e⟩)⟩,he'',IsGen.at c.hg (hlv (.head _)).1,(aaF _ _).trans hlen,λj t e=> ?_,?_⟩ λYe hal=>hk Ye λb hb o e=>hal b hb o (ZY b o (λh=> ?_) e),?_⟩
  ·by_cases h:c'=I
   ·rw[h,aD]at e;refine ab h ?_;exact congrArg Ta (Oh e)
   ·rw[aO h]at e;exact one b hb c' q e
  ·obtain⟨y,u,h1,h2,h3⟩:=c.hx (j+1) t e
   exact⟨y,u,by rw[h1,SW];rfl,by rw[<-h2,SW];rfl,bj.mono le _ _ h3⟩
  ·show XB.gens[P.g]?=W8 ZS
   refine ab hgens ?_;exact Vo (Vo c.hs)
  ·simp only[h]at hb
   rcases OG.mp hb with h |hb
   ·exact eL h
   ·rcases OG.mp hb with h |hb
    ·exact hIe h.symm
    ·exact c.ne c.eX (.tail _ (.tail _ (.tail _ (.head _)))) (OJ.mp hb).symm
  ·obtain⟨y,u,h1,h2,h3⟩:=c.hx 0 x rfl
   simp only[Uv,m.hv]at h2;simp only[h1,Uv];refine⟨⟨_,rfl⟩,?_⟩;exact⟨_,_,rfl,⟨0,hs''.extBut _ _ (Qh (Pl (m.kp _ _ eN c.he))) htup⟩,aq.cons b6 (aq.cons (bj.mono le _ _ (Oh h2▸h3)) aq.nil)⟩
structure u8 (C:Cf ag w) (P:Az):Prop where
 eL:P.e≠P.L
 seg:∀(A:O6) (s:On) (m:Str->Option Oq),A.handled=W9->C.K.In s.heap->s.heap.Ns P.L m->m P.sn=W8 (.ref P.pa)->bC C.cls s.heap.get? P.pa P.c P.pd P.fvs->s.heap.IsList P.l P.vs->Seg (Ov ag w) A (rC [P.L,s.heap.objs.size]) (rB [P.L,s.heap.objs.size,P.l] [P.L,s.heap.objs.size] P.vs) P.vs.size s (.func P.body P.cenv) ((Ov ag w).den (.func P.body P.cenv)) [] s
theorem u8.go0 (F:u8 C P)(hh:A.handled=W9)(K:C.K.In s.heap)(hn:∃m,s.heap.Ns P.L m/\ m P.sn=W8 (.ref P.pa))(hI:bC C.cls s.heap.get? P.pa P.c P.pd P.fvs)(hl:s.heap.IsList P.l P.vs):
 te P A s.heap.objs.size 0 (.fresh (.func P.body P.cenv)) (s.setGen P.g .running):=
 (by obtain⟨m,hm,hs⟩:=hn;exact⟨rfl,F.seg A.in1.in1 (s.setGen P.g .running) m hh K hm hs hI hl⟩)
theorem uL (c:wD C P X W U [] s i old gs)(nI:I∈X \/s.heap.get? I=W9)(rm:aV A k)(ok:aY C U s)(go:te P A I i gs (s.setGen P.g .running)):
 Oz (Ov ag w) A (Sk (.ref P.e)) (λr XB=>r=W9/\ ∃U',Ev C W (· =P.g) U s U' XB) (λ_ _=>False) s:=by
 injections k s I A gs X U W P i old _ c nI rm ok go;refine aac c.he ?_;unfold te at go;simp only[<-c.hlen,List.length_nil,Uv,Nat.sub_self]at go;refine lM (P:=λn XO XB=>n=0/\ gS [P.L,I] XO XB) (.inl rfl) rm.handled ok.inv.lim (show A.in1.depth<Rz from rm.lt) c.hg c.hs go (λv XB ZS hb hY=>(hY.2.2.2 XB λ_ _ _ e=>e).elim) λXB h h' e hk Y5=> ?_;obtain⟨_,XM,tk,Yu,Y1⟩:=h;rw[Yu]at hk⊢;refine⟨(by obtain⟨o,ho,hc⟩:=Y5;exact⟨e,o,rfl,ho,hc⟩),rfl,λb=>if b∈X then W9 else U b,.many (X:=X) (λb hb=>let h:=c.hX b hb;⟨h.1,h.2.1,h.2.2.1,.inl h.2.2.2.1⟩) (λb hb=>if_neg hb) (λb hb=> .inl (if_pos hb)) (λb hb=>(c.hX b hb).2.2.2.2.1) (λb o hb e=>hk b o (Y1 b o (yp (λh=>hb (h▸c.LX)) λh=>nI.elim (λhI=>hb (h▸hI)) λhI=> ?_) e)) rfl (λj z hj e=>rF j z hj e) λhB=>uW hB rfl⟩;rw[h,hI]at e;cases e
theorem It.ofEnum (F:u8 C P):It C k A true (.Tuple elts ct tp) (.ref P.e) F' (· =P.g) (j8 C P A) where
 self:=λ_ h q=>by cases h with
  |new old c _ _ _=>exact wpAny_pyIter_enum c.he q
  |on I i old gs ne c _=>exact wpAny_pyIter_enum c.he q
 keep:=λh ok ev hO=>h.keep ok ev hO
 next:=λrm h ok=>by cases h with
  |new old c hn hI hl=>exact uK c (λb hb=> .tail _ hb) (.inr (OX (O5 _))) (Qh (Pl c.he)) F.eL rm ok (F.go0 rm.handled ok.inv.kin hn hI hl)
  |on I i old gs ne c go=>exact uK c (λb hb=>hb) (.inl (.head _)) ne F.eL rm ok (go _ λb _ o e=>e)
 done:=λrm h ok=>by cases h with
  |new old c hn hI hl=>exact uL c (.inr (OX (O5 _))) rm ok (F.go0 rm.handled ok.inv.kin hn hI hl)
  |on I i old gs ne c go=>exact uL c (.inl (.head _)) rm ok (go _ λb _ o e=>e)
 gens:=λh hh _ _ hg=>h.gens hh (hg _ rfl)
end
end
section
section
variable{c:Nat}{tp:Pos}{p:Bool}
def Fj (c j:Nat):V->Option (List V)
 | .inst c' fs=>if c'=c then(match fs[j]? with |some (.list ys)=>W8 (dz 0 ys) |_=>W9)else W9
 |_=>W9
theorem GY {x:Option V}{f:List V->Option α}{r:α}(h:(match x with |some (.list a)=>f a |_=>W9)=W8 r)(k:∀a,x=W8 (.list a)->f a=W8 r->P):P:=by
 cases x with
 |some t=>
  cases t with
  |list a=>exact k a rfl h
  |_=>exact absurd h aI
 |none=>exact absurd h aI
def dO (c j:Nat)(d:ED):ai->Option (List V):=λσ=>(d σ).bind (Fj c j)
structure Dm (C:Cf ag w) (P:Az) (s:On) (h':O0):Prop where
 keep:∀b o,s.heap.get? b=W8 o->h'.get? b=W8 o
 he:UG h' P.e P.a 0 .none
 hg:h'.IsGen P.a P.g
 hn:∃m,h'.Ns P.L m/\ m P.sn=W8 (.ref P.pa)
 nL:s.heap.get? P.L=W9
 na:s.heap.get? P.a=W9
 ne:s.heap.get? P.e=W9
 eL:P.e≠P.L
 ae:P.a≠P.e
 aL:P.a≠P.L
theorem zh {P:Az}(ok:aY C U s)(N:Dm C P s s'.heap)(Fx:u8 C P)(hg:s'.gens=s.gens.push (.fresh (.func P.body P.cenv)))(hPg:P.g=s.gens.size)(hos:s'.os=s.os)
 (hI:bC C.cls (view U s.heap) P.pa P.c P.pd P.fvs) (Zl:P.vs=vs.toArray) (hl:bw "list" (view U s.heap) P.l vs) (hr:aq C.cls (view U s.heap) ys vs):r6 C k true (.Tuple elts ct tp) F' (dz 0 ys= ·) U s (.ref P.e) s':=by
 injections k ct s s' ys vs elts U F' tp P _ ok N Fx hg hPg hos hI Zl hl hr;have hLs:∃m,s'.heap.Ns P.L m:=(by obtain⟨m,h,_⟩:=N.hn;exact⟨m,h⟩);have bare:RR s.gens->RR s'.gens:=λhB z hz=>by rw[hg]at hz;exact(Array.mem_push.mp hz).elim (hB z) λh=>h▸rfl
 have gens:∀(i:Nat) (z:QZ),s.gens[i]?=W8 z->s'.gens[i]?=W8 z:=λi z e=>by have hi:=(SJ.mp e).1;rw[hg,Vi hi,<-PU hi];exact e
 have live:∀b∈ [P.e,P.L],s.heap.get? b=W9/\ ∃o,s'.heap.get? b=W8 o:=λb hb=>by
  rcases OG.mp hb with h |hb
  ·refine ab h ?_;exact⟨N.ne,_,N.he⟩
  ·refine ab (OJ.mp hb) ?_;exact⟨N.nL,hLs.elim λ_ h=>h.imp λ_ h=>h.elim λ_ h=>h.elim λ_ h=>h.1⟩
 have V':∀b∈ [P.e,P.L],b5 (b5 U P.L (P.L,.obj)) P.e (P.e,.obj) b=W8 (b,.obj):=λb hb=>by
  by_cases h:b=P.e
  ·exact ab h (ab aD rfl)
  ·exact ab (aO h) (ab (OJ.mp ((OG.mp hb).resolve_left h)) (ab aD rfl))
 have Vn:∀b,b∉ [P.e,P.L]->b5 (b5 U P.L (P.L,.obj)) P.e (P.e,.obj) b=U b:=λb hb=>(aO (Vf hb)).trans (aO λh=>hb (h▸ .tail _ (.head _)));have ev:Ev C (λc=>s.heap.get? c=W9) bM U s (b5 (b5 U P.L (P.L,.obj)) P.e (P.e,.obj)) s':=
  .many (X:= [P.e,P.L]) (λb hb=>⟨(live b hb).1,(ok.new (live b hb).1).2.2,(ok.new (live b hb).1).1,.inr (live b hb).1⟩) Vn (λb hb=> .inr ⟨V' b hb,(live b hb).2⟩) (λb hb c q e=>by obtain⟨_,o,e'⟩:=ok.live c b q e;rw[(live b hb).1]at e';cases e') (λb o _=>N.keep b o) hos (λi z _=>gens i z) bare
 have old:∀ {b o},view U s.heap b=W8 o->b∉C.T/\ b5 (b5 U P.L (P.L,.obj)) P.e (P.e,.obj) b=W9/\ s'.heap.get? b=W8 o:=λ {b o} h=>by have h1:=(ao.mp h).1;have h2:=(ao.mp h).2;exact⟨λhT=>ok.tU b hT h1,(Vn b λhb=>by rw[(live b hb).1]at h2;cases h2).trans h1,N.keep b o h2⟩
 obtain⟨nl,hl⟩:=hl;have hD:∃o,view U s.heap P.pd=W8 o:=(by obtain⟨_,_,_,es,n,h,_⟩:=hI;exact⟨_,h⟩);have st:∀A,j8 C P A (· ∈ [P.e,P.L]) (b5 (b5 U P.L (P.L,.obj)) P.e (P.e,.obj)) (dz 0 ys) s':=λA=>.new .none ⟨λb hb=>⟨hb,(ok.new (live b hb).1).2.2,(ok.new (live b hb).1).1,V' b hb,λc q e=>Ur λhc=> ?_,(live b hb).2⟩,.head _,.tail _ (.head _),λb hb=> ?_,N.he,N.hg,by rw[jj,Zl,OI,hr.length,O1],λj t e=> ?_,by refine ab hg (ab hPg ?_);exact Va⟩ N.hn (hI.at2 (λo e=>(old e).2.2) λo e=>(old e).2.2) (Zl▸bw.list' ⟨nl,(old hl).2.2⟩)
 ·refine⟨(· ∈ [P.e,P.L]),_,(· =P.g),λW U s=> ∀A,j8 C P A W U (dz 0 ys) s,⟨λh ok ev hO A=>(h A).keep ok ev hO,λ {A W U s} rm h ok lv=> ?_⟩,st,ev.narrow ok λc h=> .inl h,λc h=>(live c h).1,λc h=>(live c h).2,λi h=> ?_⟩
  ·have go:Oz (Ov ag w) A (Ti (.ref P.e)) (λit s'=>it= .ref P.e/\ s'=s) (λ_ _=>False) s:=(It.ofEnum (A:=A) (k:=k) (elts:=elts) (ct:=ct) (tp:=tp) (F':=F') Fx).self rm.handled (h A) ⟨rfl,rfl⟩
   exact cf go λit s' h1 h2=>by refine ab h1 (ab h2 ?_);exact⟨W,U,j8 C P,_,rfl,λA _=>It.ofEnum Fx,λA _=>h A,.refl,λ_=> .inl,lv,λj e=>e▸(h A).gv⟩
  ·exact(show i=s.gens.size from h.trans hPg)▸(TH)
 ·by_cases h1:c=P.e
  ·rw[h1,aD]at e;exact hc (h1.trans (congrArg Ta (Oh e)))
  ·rw[aO h1]at e
   by_cases h2:c=P.L
   ·rw[h2,aD]at e;exact hc (h2.trans (congrArg Ta (Oh e)))
   ·rw[aO h2]at e
    obtain⟨_,o,e'⟩:=ok.live c b q e;rw[(live b hb).1]at e';cases e'
 ·have Z6:∀ {b:OO},(∃o,view U s.heap b=W8 o)->b∉C.T/\ b5 (b5 U P.L (P.L,.obj)) P.e (P.e,.obj) b=W9/\ ∃o,s'.heap.get? b=W8 o:=λh=>(by obtain⟨o,h⟩:=h;exact⟨(old h).1,(old h).2.1,o,(old h).2.2⟩)
  rcases OG.mp hb with h |hb
  ·refine(h)▸ ?_
   obtain⟨o,_,_,h',_⟩:=N.hg;exact⟨(ok.new N.na).1,(Vn _ (yp N.ae N.aL)).trans (ok.new N.na).2.1,o,h'⟩
  ·rcases OG.mp hb with h |hb
   ·exact(h)▸(Z6 ⟨_,hI.1⟩)
   ·rcases OG.mp hb with h |hb
    ·refine ab h ?_;exact Z6 hD
    ·refine ab (OJ.mp hb) ?_;exact Z6 ⟨_,hl⟩
 ·obtain⟨z,hz,ht⟩:=oj e
  obtain⟨u,hu,ru⟩:=hr.get hz;exact⟨z,u,ht,by rw[Zl,O1,P4];exact hu,bj.mono (ev.le ok.tU) _ _ ru⟩
theorem r6.pre {b:Bool}(ok:aY C U s)(g:aH C s XB)(h:r6 C k b target F R U XB v s'):r6 C k b target F R U s v s':=by
 obtain⟨W,XX,J,Pr,S,pr,ev,hW,lv,hJ⟩:=h;refine⟨W,XX,J,Pr,S,pr,(g.ev (O:=λ_=>False) (J:=bM)).trans ok ev (λ_ h=>h.elim) λ_ h=>h.elim,λc h=> ?_,lv,λj h=> ?_⟩
 ·cases e:s.heap.get? c with
  |none=>rfl
  |some o=>obtain⟨o',e'⟩:=g.still ok.inv ⟨o,e⟩;rw[hW c h]at e';cases e'
 ·cases e:s.gens[j]? with
  |none=>rfl
  |some z=>have:=g.gen j z e;rw[hJ j h]at this;cases this
theorem vT (K:bH C c)(F:tK C c f fd j sn vn an p1 p2 p3 p4 p5 p6 p7)(ho:aC C k cx pe d)
 (hg:fn∈cx.globs) (hm:fn∈bP:=by decide) (Z9:OZ fn=W8 (.type "enumerate"):=by rfl) (he:∀env,OC [pe] env= [(false,PX pe env)]:=by intro _;rfl):
 dP C k cx true p (.Tuple elts ct tp) (.Call (.Name fn q) [pe] [] pos) (dO c j d) Eq:=λA U env σ s xs rm x e=>by
 injections k j ct f pos q p1 p2 p3 p4 p5 p6 p7 cx pe fn vn sn an fd elts d c tp p A U env σ s xs _ K F ho hg hm Z9 he rm x e;exact ay e λy hy e=>yK e λc' fs S' e=>f7 e λhc e=>GY e λys hj e=>Pu (eP x hg hm Z9 (PB (rest:= []) (PE (ho.runE rm x hy λu XB XI XD XQ=>Qk (by
  rw[S',hc]at XQ;obtain⟨pa,pd,fvs,hu,hI,hr⟩:=XQ;obtain⟨lv,hlv,hrl⟩:=hr.get hj;obtain⟨l,vs,hlv',hl,hrs⟩:=gI hrl;refine(hu)▸ ?_;rw[hlv']at hlv;have XT:=XD.toaY;refine wb _ (sP (A:=A.in1.in1) XT.inv.kin F.m (hI.mono dw) (sZ (A:=A.in1.in1) (v:= .ref pa) F XT.inv (show A.in1.in1.depth<Rz from rm.lt) λcenv h' tk a nm qn hL hk hco hks hkv Y6 keep ha hLa=> ?_));have hgA:(h'.push {cls:= .type "generator",data:= .fields #[.int XB.gens.size 0,nm,qn]}).IsGen a XB.gens.size:=⟨_,nm,qn,by refine ab ha ?_;exact OB _ rfl,rfl,rfl,rfl⟩;refine sU (g:=XB.gens.size) hgA ?_;generalize hGo:({cls:= .type "generator",data:= .fields #[.int XB.gens.size 0,nm,qn]}:Obj)=go at hgA;have fresh:∀ {b},XB.heap.objs.size<=b->XB.heap.get? b=W9:=OX;have hae: @LT.lt Nat _ a (h'.push go).objs.size:=by rw[ha,Sc];exact PZ _
  have hLe: @LT.lt Nat _ XB.heap.objs.size (h'.push go).objs.size:=QX hLa hae;obtain⟨o,ho⟩:=(⟨_,(ao.mp hl.choose_spec).2⟩:∃o,XB.heap.get? l=W8 o);have N:Dm C {cenv:=cenv,body:= [.For (.Name vn p1) (.Attribute (.Name sn p5) an p6) [.Expr (.Yield (W8 (.Name vn p2)) p3) p4] [] p7],sn:=sn,c:=c,e:=(h'.push go).objs.size,a:=a,L:=XB.heap.objs.size,pa:=pa,pd:=pd,l:=l,g:=XB.gens.size,fvs:=fvs,vs:=vs.toArray} XB ((h'.push go).push (kX (.ref a))):=
   ⟨λb o e=>Om _ (Om _ (keep b o e)),OB _ rfl,IsGen.at hgA λo=>Om _,let ⟨m,h,h'⟩:=Y6;⟨m,h.at' λo e=>Om _ (Om _ e),h'⟩,fresh (O5 _),fresh (Qp hLa),fresh (Qp hLe),Qh hLe,Px hae,Qh hLa⟩
  refine(Oh e)▸ ?_;exact r6.pre x.toaY XI (zh (k:=k) (elts:=elts) (ct:=ct) (tp:=tp) (F':=λc=>p=true/\ ∃o,s.heap.get? c=W8 o) (s':= {XB with heap:=(h'.push go).push (kX (.ref a)),toks:=tk,gens:=XB.gens.push (.fresh (.func [.For (.Name vn p1) (.Attribute (.Name sn p5) an p6) [.Expr (.Yield (W8 (.Name vn p2)) p3) p4] [] p7] cenv))}) XT N ⟨Qh hLe,λA s m hh X hn hm hI hl=>o5 hh K X hL (Px (Pl ho)) hk hco hkv F.dv hks F.ds hn hm hI F.nm hlv hl (F.ev cenv)⟩ rfl rfl rfl hI rfl hl hrs))) (he env)) (he env)))
end
end
section
section
variable{c:WA}
def c7 (M:Model)(A:O6)(c:WA)(t:Sem Fin)(fs:List Frame)(s:On)(Φ:End->On->Prop):Prop:=
 ∀(Γ:Ctx) (p:Pos),Γ.code=c->Γ.Woken A->∃e s',Runs M Γ p t fs s e s'/\ Φ e s'
theorem ll {m:Sem α}{K:α->Sem Fin}{H:Oq->Sem Fin}{gd lv}
 (h:Oz M (A.over c fs) m (λa s'=>c7 M A c (K a) fs s' Φ) (λx s'=>c7 M A c (H x) fs s' Φ) s):c7 M A c (m.wrap K H gd lv) fs s Φ:=by
 rintro Γ p rfl hΓ;exact runs_wrap_of_wp K H gd lv m (h (Γ.over fs) p (hΓ.over fs)) (λa p' s' h'=>h' Γ p' rfl hΓ) (λx p' s' h'=>h' Γ p' rfl hΓ)
theorem bn {m:Sem α}{K:α->Sem β}{K':β->Sem Fin}{H':Oq->Sem Fin}{gd lv}
 (h:Oz M (A.over c fs) m (λa s'=>c7 M A c ((K a).wrap K' H' gd lv) fs s' Φ) (λx s'=>c7 M A c (H' x) fs s' Φ) s):c7 M A c ((m>>=K).wrap K' H' gd lv) fs s Φ:=by
 rw[S8,T6];exact ll h
theorem DI {k:Unit->Sem Fin}(h:c7 M A c (k ()) fs s Φ):c7 M A c (.at p' k) fs s Φ:=
 ll (m:=Qb p') (K:=k) (H:= .raise) (gd:=id) (lv:=id) (Py h)
theorem fH {c':WA}(hq:c'.quiet=true)(hc:c7 M A c' (M.den c') fs s Φ):c7 M A c (.pure (.again c')) fs s Φ:=by rintro Γ p rfl hΓ;obtain⟨e,s',hr,he⟩:=hc (Γ.goto c') p rfl (hΓ.goto c');exact⟨e,s',Runs.head (c₁:=c') (λ_ _ x=> .again hq x) hr,he⟩
theorem A5 (r:Result)(h:Φ (.ret r) s):c7 M A c (leafOf r) [] s Φ:=by rintro Γ p rfl _;exact⟨.ret r,s,Runs.leaf r,h⟩
theorem vJ {v g l}{k:Resume->Sem Fin}(hfs:splitAtGen fs=W9)(h:∀p,Φ (.susp v g l k c p fs) s):c7 M A c (.yield v g l k) fs s Φ:=by rintro Γ p rfl _;exact⟨_,s,Runs.yield' fs hfs,h p⟩
def tL (M:Model)(A:O6)(gs:QZ)(r:Resume)(s:On)(Φ:End->On->Prop):Prop:=
 match gs with
 | .fresh c=>r= .send .none/\ c7 M A c (M.den c) [] s Φ
 | .suspended k _ c _ fs _=>c7 M A c (k r) fs s Φ
 |_=>False
theorem mS {g:Nat}{r:Resume}{l:List Oq}{k:GenResult->Sem α}{Q:α->On->Prop}(hg:s.gens[g]?=W8 gs)
 (Z1:tL M A gs r (s.setGen g .running) Φ) (hΦ:∀e XB,Φ e XB->e.quiet=true/\ Oz M A (k e.result) Q E (XB.setGen g e.genState)):Oz M A (.resume g r l k) Q E s:=by
 intro Γ p hΓ;have hB:∀c,(Γ.wake c p).Woken A:=λc=>hΓ.wake c p;cases gs with
 |fresh c=>obtain⟨rfl,hs⟩:=Z1;obtain⟨YQ,XB,hr,he⟩:=hs (Γ.wake c p) p rfl (hB c);have hq:=(hΦ YQ XB he).1;have hw:=(hΦ YQ XB he).2;exact⟨_,_,by unfold Wakes;refine ab hg ?_;exact⟨YQ,XB,hr,hq,rfl,rfl⟩,hw Γ p hΓ⟩
 |suspended k₀ Z5 c₀ p₀ fs₀ cl=>obtain⟨YQ,XB,hr,he⟩:=Z1 (Γ.wake c₀ p) p₀ rfl (hB c₀);have hq:=(hΦ YQ XB he).1;have hw:=(hΦ YQ XB he).2;exact⟨_,_,by unfold Wakes;refine ab hg ?_;exact⟨YQ,XB,hr,hq,rfl,rfl⟩,hw Γ p hΓ⟩
 |running=>exact Z1.elim
 |finished=>exact Z1.elim
end
section
def Dj (g:Nat)(Q:Option Oq->On->Prop)(e:End)(XB:On):Prop:=
 (e= .ret (.ok .next)/\ ∀h':O0,(∀b o,XB.heap.get? b=W8 o->h'.get? b=W8 o)->Q W9 {XB.setGen g .finished with heap:=h'}) \/
 ∃v X3 l k c p fs,e= .susp v X3 l k c p fs/\ e.quiet=true/\ Q (W8 v) (XB.setGen g e.genState)
theorem vK {g:Nat}{Q:Option Oq->On->Prop}(hh:A.handled=W9)(hl:s.heap.NoLimit)(ZA:A.depth<Rz)(hg:s.heap.IsGen a g)(Zu:s.gens[g]?=W8 gs)
 (Z1:tL (Ov ag w) A.in1 gs (.send .none) (s.setGen g .running) (Dj g Q)):Oz (Ov ag w) A (Sk (.ref a)) Q E s:=by
 injections s a A E gs g Q _ hh hl ZA hg Zu Z1;refine Og (Tt (PN (name:=QV "__next__") hg.typeIs Tv (O9 Tv hg.typeIs entry_gen_next ?_ (args_gen_next _))));show Oz _ A.in1 (R2 (.ref a) (.send .none)) _ _ s;refine Og (ON (wpAny_genNumber hg (Og (wpAny_genState Zu ?_))));cases gs with
 |running=>exact Z1.elim
 |finished=>exact Z1.elim
 |_=>
  refine Og (wpAny_roomToWake hl ZA ?_);refine mS Zu Z1 λe XB he=> ?_;rcases he with⟨rfl,hp⟩ | ⟨v,X3,l,k,c,p,fs,rfl,hq,hY⟩
  ·refine⟨rfl,?_⟩
   show Oz _ A.in1 (newExc (.type "StopIteration") []>>=_) _ _ _;refine Og ?_;refine Og (Qy ?_ (by size_fits));refine Og (m:=Ss _ _) (Pc (a:=PA) (by first |rfl | (simp only[Ss];rfl)) ?_);refine Qy ?_ (by size_fits);refine Og (Og (V3 ?_))
   first |refine ab (show A.in1.handled=W9 from hh) ?_ |rw[hh]
   refine Vj ?_;refine Og (QM (T:= "StopIteration") (b:=true) ⟨_,OB _ rfl,rfl⟩ VI ?_);exact Oi (hp _ λb o hb=>Om _ (Om _ hb))
  ·exact⟨hq,Oi ⟨v,rfl,Oi hY⟩⟩
end
end
section
section
variable{b:Bool}{n₀:Ol}{g:Nat}
noncomputable abbrev mf (elt target iter:Ol)(XU:List Ol)(scope:Sj)(pos:Pos):Ol:= .GeneratorExp elt [⟨target,iter,XU,0⟩] scope pos
noncomputable abbrev wH (e:Ol)(it:Oq)(cenv:Env):WA:= .compLoop e 0 it .none cenv
noncomputable abbrev BB (e:Ol)(it:Oq)(cenv:Env):WA:= .compStart e 0 it .none cenv
structure Of (C:Cf ag w) (ci:Cx) (A:O6) (c:WA) (f:V->Option (List V)) (cenv:Env) (σ:ai) (Dn:cK) (J:Nat->Prop) (St:cK->Ow->List V->On->Prop) (X4:Ow) (XO:On) (ys:List V) (Φ:End->On->Prop):Prop where
 done:∀U' s',ys= []->Ev C (λc=>c=cenv.locals \/Dn c) J X4 XO U' s'->Φ (.ret (.ok .next)) s'
 out:∀W U' t YW rem v l p s',ys=t::YW->LI C ci cenv Dn J X4 XO W σ U' s'->St W U' rem s'->collect f rem=W8 YW->bj C.cls (view U' s'.heap) t v->∀kk:Resume->Sem Fin,(∀Φ' Ye,c7 (Ov ag w) A c ((Ov ag w).den c) [] Ye Φ'->c7 (Ov ag w) A c (kk (.send .none)) [] Ye Φ')->Φ (.susp v false l kk c p []) s'
theorem BA (ht:d9 C k ci b target st)(hu:wM st)(Y4:gC C k ci XU cond)(he:aC C k ci elt de)(co:cenv.scope.isCoroutine=false)(rm:aV (A.over (wH (mf elt target iter XU scope pos) it cenv) []) k)(I:It C k (A.over (wH (mf elt target iter XU scope pos) it cenv) []) b target it F J St)
 (XV:bF C ci X4 cenv σ XO) (Fr:Ag C ci Dn X4 cenv XO) (nF:¬F cenv.locals) (K:Of C ci A (wH (mf elt target iter XU scope pos) it cenv) (aj st cond (aF de) σ) cenv σ Dn J St X4 XO ys Φ):
 ∀(xs:List V) (W:cK) (U:Ow) (s:On),LI C ci cenv Dn J X4 XO W σ U s->St W U xs s->collect (aj st cond (aF de) σ) xs=W8 ys->c7 (Ov ag w) A (wH (mf elt target iter XU scope pos) it cenv) ((Ov ag w).den (wH (mf elt target iter XU scope pos) it cenv)) [] s Φ:=by
 injections k XO A pos ci it cenv ys target iter elt J scope XU Φ X4 σ de st cond F Dn St b _ ht hu Y4 he co rm I XV Fr nF K;intro xs;induction xs with
 |nil=>intro W U s L Y5 hc;show c7 _ A _ ((TZ (.GeneratorExp elt [⟨target,iter,XU,0⟩] scope pos) 0 it .none cenv).onRaise (leaving cenv)) [] s _;rw[compTurn_gen,SG];exact bn (Py (bn (I.stop rm Y5 L.x.toaY λXB XX ev=>A5 (.ok .next) (K.done XX XB (Oh hc).symm (L.turn XV Fr ev λ_=> .inl).ev))))
 |cons y rem ih=>
  intro W U s L Y5 hc;show c7 _ A _ ((TZ (.GeneratorExp elt [⟨target,iter,XU,0⟩] scope pos) 0 it .none cenv).onRaise (leaving cenv)) [] s _;rw[compTurn_gen,SG];refine ay hc λc₁ X8 hc=>ay hc λc₂ Z3 hc=>ay X8 λXK h1 X8=>ay X8 λt h2 X8=>bn (Py (bn (I.step rm Y5 L.x.toaY λv XB h=>bn (Ot h (λ_ XC nx=> ?_) λ_ _ f=>f.elim))));obtain⟨Yz,XE,hW₂,XH,st₂,itm⟩:=nx;have Ys:=L.turn XV Fr XH hW₂;refine bn (cf (ht _ XE cenv σ XK XC y v rm Ys.x h1 itm) λ_ XJ Yp XR=> ?_);have YI:=Ys.step XV XR Yp;have st₃:=I.keep st₂ Ys.x.toaY XR (Ys.no Fr nF);have post:∀ {s'},aH C XJ s'->LI C ci cenv Dn J X4 XO Yz σ XE s'/\ St Yz XE rem s':=λg=>
   have L':=YI.step XV g.ev (Yp.grow g)
   ⟨⟨L'.x.weak (hu _ _ _ h1),L'.ev,L'.hW⟩,I.keep (O:=λ_=>False) st₃ Yp.toaY g.ev λ_ h=>h.elim⟩
  refine bn (cf (Y4 _ XE cenv XK XJ t rm Yp.tobA h2) λok Ym Yy hok=> ?_);refine(hok)▸ ?_;cases t with
  |false=>rw[<-Oh X8]at hc;exact fH rfl (ih Yz XE Ym (post Yy).1 (post Yy).2 (Z3.trans hc))
  |true=>
   refine dF X8 λtv hv X8=> ?_;have hy:∀v,yieldOut cenv v=yieldValue v:=λv=>by unfold yieldOut;refine ab co ?_;rfl
   simp only[hy,if_true];rw[S8,S8,T6,T6];refine ll (he.run rm (Yp.grow Yy) hv λv X9 g₅ YY rv=>DI (vJ rfl λp=> ?_));have p₅:=post (Yy.trans g₅);exact K.out Yz XE tv c₂ rem v _ p X9 (by refine bV (Oh hc) (bV X8 ?_);rfl) p₅.1 p₅.2 Z3 rv _ λΦ' Ye hr=>fH rfl hr
end
end
section
section
variable{b:Bool}{St:O6->cK->Ow->List V->On->Prop}{g:Nat}{f:V->Option (List V)}{ls:WA}
theorem uY {x:QZ}(hx:x.bare=true)(h:RR s.gens):RR (s.setGen g x).gens:=λz hz=>(TC hz).elim (h z) λe=>e▸hx
theorem Ev.setg {x:QZ}(hJ:J g)(hb:x.bare=true)(hk:∀b o,s.heap.get? b=W8 o->h'.get? b=W8 o):Ev C O J U s U {s.setGen g x with heap:=h'}:=
 .many (X:= []) (λ_ h=>nomatch h) (λ_ _=>rfl) (λ_ h=>nomatch h) (λ_ h=>nomatch h) (λb o _=>hk b o) rfl (λi z hi e=>by unfold U5;rw[Q7,if_neg λh:g=i=>hi (h▸hJ)];exact e) (uY hb)
theorem jM {i:Nat}{x:QZ}(h:i≠g):(s.setGen g x).gens[i]?=s.gens[i]?:=by unfold U5;rw[Q7,if_neg (Te h)]
inductive kH (C:Cf ag w) (ci:Cx) (f:V->Option (List V)) (ls lc:WA) (cenv:Env) (σ:ai) (a:OO) (g:Nat) (F:cK) (St:O6->cK->Ow->List V->On->Prop) (A:O6) (W:cK) (U:Ow) (ys:List V) (s:On):Prop
 |mk (gs:QZ) (Wi:cK) (rem:List V) (hL:W cenv.locals) (hW:∀c,Wi c->W c) (nW:¬Wi cenv.locals) (x:bF C ci U cenv σ s) (fr:∀n c,n∉ci.mn->cenv.cells.lookup n=W8 c->∀c' q,U c=W8 (c',q)->F c'/\ ¬Wi c')
  (ha:a∉C.T/\ U a=W9) (hg:s.heap.IsGen a g) (Zu:s.gens[g]?=W8 gs) (Y5:St (A.in1.over lc []) Wi U rem s) (hc:collect f rem=W8 ys)
  (ph:(gs= .fresh ls/\ St (A.in1.over ls []) Wi U rem s) \/∀(Φ:End->On->Prop) (Ye:On),c7 (Ov ag w) A.in1 lc ((Ov ag w).den lc) [] Ye Φ->tL (Ov ag w) A.in1 gs (.send .none) Ye Φ)
theorem aV.ov (rm:aV A (k+1))(h:A'.handled=W9)(h1:A'.depth=A.depth+1)(h2:A'.units=A.units+4):aV A' k:=rm.down h (h1▸O5 _) (h2▸O5 _)
theorem uy (hT:d9 C k ci b target st)(hu:wM st)(Y4:gC C k ci XU cond)(he:aC C k ci elt de)(I:∀A,aV A k->It C k A b target it F J (St A))(hJ:¬J g)(nF:¬F cenv.locals)(rm:aV A (k+1))
 (h:kH C ci (aj st cond (aF de) σ) (BB (mf elt target iter XU scope pos) it cenv) (wH (mf elt target iter XU scope pos) it cenv) cenv σ a g F St A W U ys s) (ok:aY C U s) {Q:Option Oq->On->Prop}
 (hend:ys= []->∀U' s',Ev C W (λi=>i=g \/J i) U s U' s'->Q W9 s')
 (hnext:∀t YW v XC,ys=t::YW->II C false W (λi=>i=g \/J i) (kH C ci (aj st cond (aF de) σ) (BB (mf elt target iter XU scope pos) it cenv) (wH (mf elt target iter XU scope pos) it cenv) cenv σ a g F St A) U s t YW v XC->Q (W8 v) XC):
 Oz (Ov ag w) A (Sk (.ref a)) Q (λ_ _=>False) s:=by
 injections k s a A pos ci it cenv ys target iter elt J scope XU U σ de st cond W F b St g Q _ hT hu Y4 he I hJ nF rm h ok hend hnext;obtain⟨gs,Wi,rem,hL,hW,nW,x,fr,ha,hg,Zu,Y5,hc,ph⟩:=h;have rmc:aV (A.in1.over (wH (mf elt target iter XU scope pos) it cenv) []) k:=rm.ov rm.handled rfl rfl;have rms:aV (A.in1.over (BB (mf elt target iter XU scope pos) it cenv) []) k:=rm.ov rm.handled rfl rfl;have Ic:=I _ rmc;have Is:=I _ rms;have Yn:∀ {i},J i->i≠g:=λh e=>hJ (e▸h);have ev0:Ev C W (λi=>i=g \/J i) U s U (s.setGen g .running):= .setg (h':=s.heap) (.inl rfl) rfl λ_ _ e=>e;have XV:bF C ci U cenv σ (s.setGen g .running):=x.more (O:=λ_=>False) (.setg (h':=s.heap) (J:=(· =g)) rfl rfl λ_ _ e=>e) λ_ h=>h.elim;have YL:=XV.toaY;have Fr:Ag C ci (λc=>Wi c \/s.heap.get? c=W9) U cenv (s.setGen g .running):=⟨λh=>h.elim nW x.far.nL,λn c h1 h2 c' q h3 h4=>h4.elim (fr n c h1 h2 c' q h3).2 (x.far.free n c h1 h2 c' q h3),λ_=> .inr⟩;have evT:∀ {U' s'},Ev C (λc=>c=cenv.locals \/(Wi c \/s.heap.get? c=W9)) J U (s.setGen g .running) U' s'->Ev C W (λi=>i=g \/J i) U s U' s':=λev=>(ev0.wide (O':=λc=>W c \/s.heap.get? c=W9) λ_=> .inl).trans ok ev (λc h=> .inl (h.elim (λe=> .inl (e▸hL)) λh=>h.imp (hW c) id)) (λ_ h=> .inl (.inr h)) |>.narrow ok λc h=>h.symm;have loop:c7 (Ov ag w) A.in1 (wH (mf elt target iter XU scope pos) it cenv) ((Ov ag w).den (wH (mf elt target iter XU scope pos) it cenv)) [] (s.setGen g .running) (Dj g Q):=by
  refine BA hT hu Y4 he x.co rmc Ic XV Fr nF ⟨λU' s' e ev=> .inl ⟨rfl,λh' hk=>hend e U' _ ((evT ev).trans ok (.setg (.inl rfl) rfl hk) (λ_ h=> .inl h) λ_ h=> .inl h)⟩,λW' U' t YW rem' v l p s' e L st' hc' rv kk hkk=> .inr ⟨v,false,l,kk,_,p,[],rfl,rfl,hnext t YW v _ e ?_⟩⟩ rem Wi U _ ⟨XV,.refl,λ_=> .inl⟩ (Ic.gens Y5 rfl rfl (uY rfl) λi h=>jM (Yn h)) hc;have evS:∀ {x:QZ} {O:cK},x.bare=true->Ev C O (λi=>i=g \/J i) U' s' U' (s'.setGen g x):=λhb=> .setg (h':=s'.heap) (.inl rfl) hb λ_ _ e=>e;have CN:∀c q,U a=W8 (c,q)->¬(c=cenv.locals \/(Wi c \/s.heap.get? c=W9)):=λc q h=>by rw[ha.2]at h;cases h
  obtain⟨o,nm,qn,ho,hr⟩:=hg;have W'W:∀c,W' c->W c \/s.heap.get? c=W9:=λc h=>(L.hW c h).imp (hW c) id;refine⟨λc=>W c \/W' c,U',λc h=>h.elim .inl (W'W c),(evT L.ev).trans ok (evS rfl) (λ_ h=> .inl h) λ_ h=> .inl h,⟨_,W',rem',.inl hL,λ_=> .inr,λh=>Fr.nL (L.hW _ h),L.x.more (O:=λ_=>False) (evS rfl) λ_ h=>h.elim,λn c h1 h2 c' q h3=> ?_,⟨ha.1,(L.ev.col a o ho CN).trans ha.2⟩,⟨o,nm,qn,L.ev.keep a o ha.1 CN ho,hr⟩,Vo (L.ev.gen g .running hJ (Vo Zu)),Ic.gens st' rfl rfl (uY rfl) λi h=>jM (Yn h),hc',.inr λΦ Ye hr=>hkk Φ Ye hr⟩,rv⟩;obtain⟨h5,v,o',h6,_⟩:=x.hf n c h1 h2;rw[L.ev.col c o' h6 λc' q e h=>h.elim (λe'=>h5 q (e'▸e)) (Fr.free n c h1 h2 c' q e)]at h3;exact⟨(fr n c h1 h2 c' q h3).1,λh=>Fr.free n c h1 h2 c' q h3 (L.hW _ h)⟩
 refine vK rm.handled ok.inv.lim rm.lt hg Zu ?_;rcases ph with⟨hgf,hst'⟩ |ph
 ·refine(hgf)▸ ?_
  refine⟨rfl,?_⟩;show c7 _ A.in1 _ ((compStart (.GeneratorExp elt [⟨target,iter,XU,0⟩] scope pos) 0 it .none cenv).onRaise (leaving cenv)) [] _ _;rw[SG];have hst'':=Is.gens (s':=s.setGen g .running) hst' rfl rfl (uY rfl) λi h=>jM (Yn h);refine bn (Ps ?_);split
  ·exact fH rfl loop
  ·first
    |exact bn (QL (bn (Py (bn (Is.self rms.handled hst'' (fH rfl loop))))))
    | (refine bn (QL ?_);show c7 _ A.in1 _ ((Qb iter.pos>>=_).wrap _ _ _ _) [] _ _;exact bn (Py (bn (Is.self rms.handled hst'' (fH rfl loop)))))
 ·exact ph _ _ loop
theorem kH.keep (I:∀A,aV A k->It C k A b target it F J (St A))(rmc:aV (A.in1.over lc []) k)(rms:aV (A.in1.over ls []) k)(h:kH C ci f ls lc cenv σ a g F St A W U ys s)(ok:aY C U s)(ev:Ev C O bM U s U' s')(hO:∀c,O c->¬W c/\ ¬F c):kH C ci f ls lc cenv σ a g F St A W U' ys s':=by
 obtain⟨gs,Wi,rem,hL,hW,nW,x,fr,ha,hg,Zu,Y5,hc,ph⟩:=h;have CN:∀c q,U a=W8 (c,q)->¬O c:=λc q h=>by rw[ha.2]at h;cases h
 have hO':∀c,O c->¬Wi c/\ ¬F c:=λc h=>⟨λh'=>(hO c h).1 (hW c h'),(hO c h).2⟩;have noC:∀n c,n∉ci.mn->cenv.cells.lookup n=W8 c->∀c' q,U c=W8 (c',q)->¬O c':=λn c h1 h2 c' q h3 h4=>(hO c' h4).2 (fr n c h1 h2 c' q h3).1;obtain⟨o,nm,qn,ho,hr⟩:=hg;refine⟨gs,Wi,rem,hL,hW,nW,x.other ev (λh=>(hO _ h).1 hL) noC,λn c h1 h2 c' q h3=> ?_,⟨ha.1,(ev.col a o ho CN).trans ha.2⟩,⟨o,nm,qn,ev.keep a o ha.1 CN ho,hr⟩,ev.gen _ _ id Zu,(I _ rmc).keep Y5 ok ev hO',hc,ph.imp (λh=>⟨h.1,(I _ rms).keep h.2 ok ev hO'⟩) id⟩;obtain⟨_,v,o',h6,_⟩:=x.hf n c h1 h2;rw[ev.col c o' h6 (noC n c h1 h2)]at h3;exact fr n c h1 h2 c' q h3
end
end
section
section
variable{b:Bool}{St:O6->cK->Ow->List V->On->Prop}{L:OO}{g:Nat}{f:V->Option (List V)}{R:List V->List V->Prop}
structure BF (C:Cf ag w):Prop where
 bm:∃bm o,C.mg "__builtins__"=W8 (.ref bm)/\ bm≠O7/\ bm∉C.T/\ C.hb.get? bm=W8 o/\ o.cls= .type "module"/\ o.dict=W8 O7/\ o.data= .plain
 tabs:∀p∈C.tabs,∀q∈C.tabs,p.2=q.2->p=q
 sys:Sp∉C.T/\ ∃o,C.hb.get? Sp=W8 o
theorem r8 (B:BF C)(i:ff C s){p:OO×OO}(hp:p∈C.tabs){qn:Str}(hc:env.code= .ref p.1)(q:∀code s',aH C s s'->s'.gens=s.gens->Q code s'):
 Oz (Ov ag w) A (genexprCode env pos qn scope) Q E s:=by
 injections s A pos env E Q scope p qn _ B i hp hc q;obtain⟨ps,h1,h2⟩:=i.tab p hp;have hpT:p.2∈C.T:=OM.mpr ⟨p,hp,rfl⟩;cases hnf:codeAmong pos ps.toList with
 |some cv=>
  obtain⟨o,vs,file,tf,flags,tg,inF,text,tt,op,ho,hd,h11,_,_,_,_,Zt,hpd,_,_⟩:=h1
  delta genexprCode codeAt
  refine ab hc (ab (if_neg (show¬((PL p.1==PA)=true)from OD)) ?_);refine Og (Ud ho hd ?_);refine(h11)▸ ?_;refine Og (Ud Zt hpd ?_);refine(hnf)▸ ?_;exact Oi (q cv s (.refl s) rfl)
 |none=>
  refine wpAny_genexprCodeX hc h1 h2 hnf λc' h' tk hx _ _ hok' _ htab' _=>q _ _ ?_ rfl;obtain⟨h1T,ps₀,ht₀⟩:=i.ok.tab p hp;exact
  {up:=λb o hT e=>hx b o (λh=>hT (h▸hpT)) e
   os:=rfl
   gen:=λ_ _ e=>e
   inv:=λi=>⟨i.ok,λb o hT e=>hx b o (λh=>hT (h▸hpT)) (i.base b o hT e),i.old.step_table ht₀ h2 htab' hx (λh=>i.ok.nT.2.2 (h▸hpT)),λr hr=>by
    by_cases hrp:r.2=p.2
    ·exact(B.tabs r hr p hp hrp)▸(⟨_,hok',htab'⟩)
    ·obtain⟨qs,q1,q2⟩:=i.tab r hr
     have n1:r.1≠p.2:=λh=>(i.ok.tab r hr).1 (h▸hpT);exact⟨qs,q1.extBut hx n1 hrp,q2.extBut hx n1 hrp⟩,i.bare⟩}
theorem AA (B:BF C)(i:ff C s){running:OO}{Q:OO->On->Prop}(q:Q O7 s):Oz (Ov ag w) A (builtinsFor PF running) Q E s:=by obtain⟨bm,o,h1,h2,h3,h4,h5,h6,h7⟩:=B.bm;exact wpAny_builtinsFor i.g h1 h2 (i.base bm o h3 h4) h5 h6 h7 q
def pP (ci:Cx)(di:ai->Option (List V))(f:ai->V->Option (List V)):ai->Option (List V):=λσ=>if dx ci σ then(di σ).bind λxs=>collect (f σ) xs else W9
def Ck (R R':List V->List V->Prop):Prop:= ∀(f:V->Option (List V)) (xs ys zs:List V),R xs ys->collect f xs=W8 zs->∃ws,collect f ys=W8 ws/\ R' zs ws
theorem Ba:Ck Eq Eq:=λf xs ys zs e h=>⟨zs,e▸h,rfl⟩
theorem zC {a b:List V}(h1:f x=W8 a)(h2:collect f xs=W8 b):collect f (x::xs)=W8 (a++b):=by show(f x).bind _=_;rw[h1,QW,h2];rfl
theorem pS (p:xs.Perm ys):∀ {zs},collect f xs=W8 zs->∃ws,collect f ys=W8 ws/\ ws.Perm zs:=by
 induction p with
 |nil=>exact λ {zs} h=>⟨zs,h,.refl _⟩
 |cons x p ih=>intro zs h;refine ay h λa h1 h=>ay h λc h2 h=> ?_;obtain⟨ws,h3,h4⟩:=ih h2;exact⟨a++ws,zC h1 h3,Oh h▸h4.append_left a⟩
 |swap x y l=>intro zs h;refine ay h λa h1 h=>ay h λc h2 h=>ay h2 λa' h1' h2=>ay h2 λc' h2' h2=>⟨_,zC h1' (zC h1 h2'),?_⟩;rw[<-Oh h,<-Oh h2,<-QR,<-QR];exact List.perm_append_comm.append_right c'
 |trans p q ih ih'=>intro zs h;obtain⟨ws,h1,h2⟩:=ih h;obtain⟨us,h3,h4⟩:=ih' h1;exact⟨us,h3,h4.trans h2⟩
theorem nG:Ck (λxs ys=>ys.Perm xs) (λxs ys=>ys.Perm xs):=λf xs ys zs p h=>pS p.symm h
def kz (C:Cf ag w)(k:Nat)(cx:Cx)(b p:Bool)(target pe:Ol)(d:ai->Option (List V))(R:List V->List V->Prop):Prop:=
 ∀(A:O6) (U:Ow) (env:Env) (σ:ai) (s:On) (xs:List V),aV A k->bA C cx U env σ s->d σ=W8 xs->Oz (Ov ag w) A (PX pe env) (λv XB=>r6 C k b target (λc=>p=true/\ ∃o,s.heap.get? c=W8 o) (R xs) U s v XB/\ ∃a T,v= .ref a/\ XB.TypeIs v T/\ T∈ ["list","tuple","generator"]) (λ_ _=>False) s
theorem kz.i {p:Bool}(h:kz C k cx b p target pe di R):dP C k cx b p target pe di R:=λA U env σ s xs rm x e=>cf (h A U env σ s xs rm x e) λv XB g _=>g
theorem vS (h:gm C k cx pe d):kz C k cx false true target pe (cO d) Eq:=λA U env σ s xs rm x e=>ay e λy hy e=>cf (h A U env σ s y rm x hy) λv XB g r=>⟨ry e r (λa _ c q h=>⟨rfl,(x.live a c q h).2⟩) g,oP e r λT a vs hT hv h1 _=>⟨a,T,hv,hv▸⟨_,(av.mp h1.choose_spec).2,rfl⟩,hT.elim (λh=>h▸ .head _) λh=>h▸ .tail _ (.head _)⟩⟩
theorem aH.gpush {x:QZ}(hx:x.bare=true):aH C s {s with gens:=s.gens.push x} where
 up:=λ_ _ _ e=>e
 os:=rfl
 gen:=λi z e=>by have hi:=(SJ.mp e).1;rw[Vi hi,<-PU hi];exact e
 inv:=λi=>⟨i.ok,i.base,i.old,i.tab,λz hz=>(Array.mem_push.mp hz).elim (i.bare z) λh=>h▸hx⟩
theorem yT (cc:p8 scope cx ci)(h0:ci.mn= []/\ ci.caps= []/\ ci.gen=false)(x:bA C cx U env σ s)(hg:dx ci σ=true)(Y8:∀x c,cl.lookup x=W8 c->env.cells.lookup x=W8 c)(Zn:∀x,(x,PQ)∈scope.names->∃c,cl.lookup x=W8 c)(YB:∀p∈cl,(p.1,PQ)∈scope.names)
 (ok:aY C XE XC) (keep:∀b o,b∉C.T->s.heap.get? b=W8 o->XC.heap.get? b=W8 o) (le:Le (view U s.heap) (view XE XC.heap)) (Y:ju XC H L [] ci.mn):bF C ci (lU XE L []) (Vr scope cl L code O7 env) σ {XC with heap:=H,toks:=tk}:=by
 injections tk s XC cx ci code env H scope cl U XE σ L _ cc h0 x hg Y8 Zn YB ok keep le Y;have cell:∀n c,cl.lookup n=W8 c->c∉C.T/\ ∃v,XC.heap.IsCell c v:=λn c h=>by obtain⟨_,c',v,h1,o,h2,h3⟩:=x.caps n ((cc.names _ (YB _ (mem_of_lookup h))).2.2 rfl).1;have h4:=Y8 n c h;rw[h4]at h1;cases h1;exact⟨x.frame.2 n c h4,v,o,keep c o (x.frame.2 n c h4) h2,h3⟩
 have mn0:∀n,n∉ci.mn:=λn h=>by rw[h0.1]at h;cases h
 refine bF.enter (env:=Vr scope cl L code O7 env) ok Y (λfr=>⟨cc.kind.1,x.gl,rfl,cc.kind.2.1,(λh=>by rw[h0.2.2]at h;cases h),fr,λy i h=>eB (cc.vars _ (mem_of_lookup h)).1,λy h=>⟨(cc.globs y h).1,(eB (cc.globs y h).2).1⟩⟩) cc.kind.2.2.2 cc.inj.eq (λn c h=> .inr ⟨mn0 n,(cell n c h).2⟩) (λn c h _=>(cell n c h).1) (λn h=>by rw[h0.2.1]at h;cases h) (λn i h hf=>((cc.vars _ (mem_of_lookup h)).2.1 hf).imp id λh=>absurd h.2 (mn0 n)) λn i t hx ht=> ?_;by_cases hf:i∈ci.fre
 ·have qq:=(cc.vars _ (mem_of_lookup hx)).2.2 hf;have h1:=qq.1;have h2:=qq.2.1;have h3:=qq.2.2.1;have h4:=qq.2.2.2
  obtain⟨v,q1,q2,_⟩:=x.vars n i t h2 ht;obtain⟨c,hc,o,ho,hd⟩:=uQ x h4 q1;obtain⟨c',hc'⟩:=Zn n (mem_of_lookup h1);have:=Y8 n c' hc';rw[hc]at this;cases this;exact⟨v,.inr ⟨.inr h1,c,hc',o,Y.keep _ _ (keep c o (x.frame.2 n c hc) ho),hd⟩,bj.mono le _ _ (q2 h3)⟩
 ·rw[og hg hx hf]at ht;cases ht
end
end
section
section
variable{b:Bool}{St:O6->cK->Ow->List V->On->Prop}{L:OO}{g:Nat}{f:V->Option (List V)}{R:List V->List V->Prop}{ls:WA}
theorem kH.gen (h:kH C ci f ls lc cenv σ a g F St A W U ys s):s.heap.IsGen a g:=by cases h;assumption
theorem kH.gens (I:∀A,aV A k->It C k A b target it F J (St A))(rmc:aV (A.in1.over lc []) k)(rms:aV (A.in1.over ls []) k)(h:kH C ci f ls lc cenv σ a g F St A W U ys s)(hh:s'.heap=s.heap)(ho:s'.os=s.os)(hb:RR s.gens->RR s'.gens)(hg:∀i,(i=g \/J i)->s'.gens[i]?=s.gens[i]?):kH C ci f ls lc cenv σ a g F St A W U ys s':=by obtain⟨gs,Wi,rem,hL,hW,nW,x,fr,ha,hga,Zu,Y5,hc,ph⟩:=h;have ev:Ev C (λ_=>False) (λ_=>True) U s U s':= .many (X:= []) (λ_ h=>nomatch h) (λ_ _=>rfl) (λ_ h=>nomatch h) (λ_ h=>nomatch h) (λb o _ e=>hh▸e) ho (λi z h _=>absurd trivial h) hb;exact⟨gs,Wi,rem,hL,hW,nW,x.more ev λ_ h=>h.elim,fr,ha,hh▸hga,(hg g (.inl rfl)).trans Zu,(I _ rmc).gens Y5 hh ho hb λi h=>hg i (.inr h),hc,ph.imp (λh=>⟨h.1,(I _ rms).gens h.2 hh ho hb λi h=>hg i (.inr h)⟩) id⟩
theorem It.ofGx (hT:d9 C k ci b target st)(hu:wM st)(Y4:gC C k ci XU cond)(he:aC C k ci elt de)(I:∀A,aV A k->It C k A b target it F J (St A))(hJ:¬J g)(nF:¬F cenv.locals)(A:O6)(rm:aV A (k+1)):It C (k+1) A false (.Name n₀ q₀) (.ref a) F (λi=>i=g \/J i)
 (kH C ci (aj st cond (aF de) σ) (BB (mf elt target iter XU scope pos) it cenv) (wH (mf elt target iter XU scope pos) it cenv) cenv σ a g F St A) where
 self:=λ_ h q=>wpAny_pyIter_gen h.gen q
 keep:=λh ok ev hO=>h.keep I (rm.ov rm.handled rfl rfl) (rm.ov rm.handled rfl rfl) ok ev hO
 next:=λrm h ok=>uy hT hu Y4 he I hJ nF rm h ok (λe=>nomatch e) λt YW v XC e nx=>⟨v,rfl,Pc (a:=()) rfl (by injection e with e1 e2;refine ab e1 (ab e2 ?_);exact nx)⟩
 done:=λrm h ok=>uy hT hu Y4 he I hJ nF rm h ok (λ_ U' s' ev=>⟨rfl,U',ev⟩) λt YW v XC e _=>nomatch e
 gens:=λh=>h.gens I (rm.ov rm.handled rfl rfl) (rm.ov rm.handled rfl rfl)
end
end
section
section
variable{XJ:On}{b:Bool}{St:O6->cK->Ow->List V->On->Prop}{L:OO}{g:Nat}{f:V->Option (List V)}{R:List V->List V->Prop}
theorem iX {c:Sem α}{P Q:α->On->Prop}(h:Oz (Ov ag w) A c P (λ_ _=>False) s)(q:∀v s',P v s'->Q v s'):Oz (Ov ag w) A c Q E s:=Ot h q λ_ _ f=>f.elim
theorem iL.inv {R:List V->Prop}(M:iL C k b target F J R W U s it s')(ok:aY C U s):ff C s':=(by obtain⟨_,_,_,_,_,_,_,ev,_,_,_⟩:=M;exact(ev.go ok).1.inv)
theorem EK (cc:p8 scope cx ci)(h0:ci.mn= []/\ ci.caps= []/\ ci.gen=false)(x:bA C cx U env σ s)(hg:dx ci σ=true)(Y8:∀x c,cl.lookup x=W8 c->env.cells.lookup x=W8 c)(Zn:∀x,(x,PQ)∈scope.names->∃c,cl.lookup x=W8 c)(YB:∀p∈cl,(p.1,PQ)∈scope.names)
 (ht:d9 C k ci b target st) (hu:wM st) (Y4:gC C k ci XU cond) (he:aC C k ci elt de) (hR:Ck R R') (e:collect (aj st cond (aF de) σ) xs=W8 zs)
 (XS:Ev C (λ_=>False) bM U s XX XB) (hW:∀c,W c->s.heap.get? c=W9) (hJ:∀j,J j->s.gens[j]?=W9) (M:iL C k b target (λc=>true=true/\ ∃o,s.heap.get? c=W8 o) J (R xs) W XX XB it XC) (XW:aH C XC XJ) (ZC:XJ.gens=XC.gens)
 (Y:ju XJ H L [] ci.mn) (hLa:XJ.heap.get? a=W9/\ a≠L) (hga:H.IsGen a XJ.gens.size):
 r6 C (k+1) false (.Name n₀ q₀) (λc=>true=true/\ ∃o,s.heap.get? c=W8 o) (R' zs) U s (.ref a) {XJ with gens:=XJ.gens.push (.fresh (BB (mf elt target iter XU scope pos) it (Vr scope cl L code O7 env))),toks:=tk,heap:=H}:=by
 injections k tk s XB XC a pos q₀ cx ci it code env xs zs target iter elt J H scope n₀ XU cl R' U XX σ de st cond W XJ b L R _ cc h0 x hg Y8 Zn YB ht hu Y4 he hR e XS hW hJ M XW ZC Y hLa hga;obtain⟨W',XE,St,ys,hRy,I,st',XH,Zf,lv,gv⟩:=M;obtain⟨ws,hws,hRw⟩:=hR _ xs ys zs hRy e;have nL:=Y.new;have YL:=x.toaY;have XT:=(XS.go YL).1;have Yk:=(XH.go XT).1;have ZX:=Yk.grow XW;have E':Ev C (λ_=>False) bM U s XE XC:=XS.trans YL XH (λc h=> .inr (hW c h)) λj h=> .inr (hJ j h);have ev13:Ev C (λ_=>False) bM U s XE XJ:=E'.trans YL XW.ev (λ_=> .inl) λ_=> .inl;have dead:∀ {c:OO},XJ.heap.get? c=W9->XC.heap.get? c=W9:=λh=>(b7 (O:=λ_=>False) ((XW.ev (J:=bM)).go Yk).2 h).resolve_left id;have Zp:∀ {c:OO},XJ.heap.get? c=W9->s.heap.get? c=W9:=λh=>(b7 (ev13.go YL).2 h).resolve_left id;have nW:∀c,W' c->s.heap.get? c=W9:=λc h=>(Zf c h).elim (hW c) λh=>(b7 (XS.go YL).2 h).resolve_left id;have nWL:¬W' L:=λh=>by obtain⟨o,e⟩:=lv _ h;rw[dead nL]at e;cases e
 have nF:¬(true=true/\ ∃o,s.heap.get? L=W8 o):=λh=>by obtain⟨_,o,e⟩:=h;rw[Zp nL]at e;cases e
 have gp:aH C {XJ with heap:=H,toks:=tk} _:= .gpush (x:= .fresh (BB (mf elt target iter XU scope pos) it (Vr scope cl L code O7 env))) rfl;have Yd:=(yT (code:=code) (tk:=tk) cc h0 x hg Y8 Zn YB ZX (λb o hT e=>ev13.keep b o hT (λ_ _ _=>id) e) (ev13.le YL.tU) Y).grow gp;have ev24:Ev C (only L) bM XE XC (lU XE L []) _:=((XW.ev.trans Yk (Y.ev ZX (J:=bM) (tk:=tk)) (λ_=> .inl) λ_=> .inl).trans Yk gp.ev (λ_=> .inl) λ_=> .inl);have ev:Ev C (λ_=>False) bM U s (lU XE L []) _:=E'.trans YL ev24 (λc h=> .inr (h▸Zp nL)) λ_=> .inl;have hJg:¬J XJ.gens.size:=λh=>by obtain⟨z,hz⟩:=gv _ h;rw[<-ZC,TH]at hz;cases hz
 have hO:∀c,only L c->¬W' c/\ ¬(true=true/\ ∃o,s.heap.get? c=W8 o):=λc h=>h▸⟨nWL,nF⟩;have Zu:(XJ.gens.push (.fresh (BB (mf elt target iter XU scope pos) it (Vr scope cl L code O7 env))))[XJ.gens.size]?=W8 (.fresh (BB (mf elt target iter XU scope pos) it (Vr scope cl L code O7 env))):=Va;have lL:∃o,H.get? L=W8 o:=(by obtain⟨_,o,_,_,h,_⟩:=Y.ns;exact⟨o,h⟩);refine⟨λc=>c=L \/W' c,_,λi=>i=XJ.gens.size \/J i,λW U s=>(∀A,aV A (k+1)->kH C ci (aj st cond (aF de) σ) (BB (mf elt target iter XU scope pos) it (Vr scope cl L code O7 env)) (wH (mf elt target iter XU scope pos) it (Vr scope cl L code O7 env)) (Vr scope cl L code O7 env) σ a XJ.gens.size _ St A W U ws s)/\ ∀j,(j=XJ.gens.size \/J j)->∃x,s.gens[j]?=W8 x,⟨λh ok ev hO=>⟨λA rm=>(h.1 A rm).keep I (rm.ov rm.handled rfl rfl) (rm.ov rm.handled rfl rfl) ok ev hO,λj hj=>(h.2 j hj).imp λz=>ev.gen j z id⟩,λ {A W U s} rm h ok lv=>(It.ofGx (st:=st) (n₀:=n₀) (q₀:=q₀) ht hu Y4 he I hJg nF A rm).self rm.handled (h.1 A rm) ⟨W,U,_,ws,hRw,It.ofGx ht hu Y4 he I hJg nF,h.1,.refl,λ_=> .inl,lv,h.2⟩⟩,⟨λA rm=> ?_,λj h=>h.elim (λh=>⟨_,h▸Zu⟩) λh=>(gv j h).imp λz=>ev24.gen j z id⟩,ev,λc h=>h.elim (λh=>h▸Zp nL) (nW c),λc h=>h.elim (λh=>h▸lL) λh=>((ev24.go Yk).2 c (lv c h)).elim (λe=>e▸lL) id,λj h=> ?_⟩
 ·have stF:∀ {A},aV A k->St A W' (lU XE L []) ys _:=λ {A} r=>(I A r).keep (st' A r) Yk ev24 hO
  exact⟨_,W',ys,.inl rfl,λ_=> .inr,nWL,Yd,λn c hn hc c' q h=>by obtain⟨_,c₀,v,h1,o,h2,_⟩:=x.caps n ((cc.names _ (YB _ (mem_of_lookup hc))).2.2 rfl).1;have h4:=Y8 n c hc;rw[h4]at h1;cases h1;rw[ev.col c o h2 λ_ _ _=>id]at h;have h5:=(x.live _ _ _ h).2;exact⟨⟨rfl,h5⟩,λh'=>by obtain⟨o,e⟩:=h5;rw[nW _ h']at e;cases e⟩,⟨(ZX.new hLa.1).1,(if_neg hLa.2).trans (ZX.new hLa.1).2.1⟩,hga,Zu,stF (rm.ov rm.handled rfl rfl),hws,.inl ⟨rfl,stF (rm.ov rm.handled rfl rfl)⟩⟩
 ·refine h.elim (λh=> ?_) (hJ j)
  cases e:s.gens[j]? with
  |none=>rfl
  |some z=>have:=ev13.gen j z id e;rw[h,TH]at this;cases this
theorem pC (B:BF C)(ci:Cx)(hc:c5 scope cx ci=true)(h0:ci.mn= []/\ ci.caps= []/\ ci.gen=false)(hgen:cx.gen=true)
 (Yh:∀y∈scope.names,y.2≠ .cell) (hl0:scope.names.lookup (".0":Str)=W8 Pk.local) (hi:dP C k cx b true target iter di R) (ht:d9 C k ci b target st) (hu:wM st) (Y4:gC C k ci XU cond) (he:aC C k ci elt de) (hR:Ck R R') (hs:∀env x,genFold iter env x=pure x:=by intro _ _;rfl):
 kz C (k+1) cx false true (.Name n₀ q₀) (mf elt target iter XU scope pos) (pP ci di (aj st cond (aF de))) R':=λA U env σ s zs rm x e=>by
 injections k pos q₀ cx target iter elt scope n₀ XU R' de st di cond b R ci A U env σ s zs _ B hc h0 hgen Yh hl0 hi ht hu Y4 he hR hs rm x e;exact f7 e λhg e=>ay e λxs hxs e=>by
  have cc:=oy hc;have rk:=rm.le (QK k);obtain⟨cl,hclo,Y8,Zn,YB⟩:=mH (scope:=scope) (env:=env) λn h=>by obtain⟨_,c,v,h1,_⟩:=x.caps n ((cc.names _ h).2.2 rfl).1;exact⟨c,h1⟩
  obtain⟨p,hp,Yl⟩:=x.code hgen;refine wpAny_GeneratorExp_make cc.kind.2.1 hclo Yh hl0 cc.kind.1 rm.lt ?_ (hs env);refine iX (hi A U env σ s xs rk x hxs) λxv XB got=> ?_;obtain⟨W,XX,J,Pr,S,pr,XS,hW,lv,hJ⟩:=got;have XT:=(XS.go x.toaY).1;refine iX (S.iter rk pr XT lv) λit XC M=> ?_;have i₂:=M.inv XT;refine⟨i₂.lim,r8 B i₂ hp Yl λcode XJ XW ZC=> ?_⟩;refine(x.gl)▸ ?_;refine AA B (XW.inv i₂) λh' Y6 hsame=> ?_;have hLa: @LT.lt Nat _ XJ.heap.objs.size h'.objs.size:=by rw[hsame.1,Sc];exact PZ _
  have na:XJ.heap.get? h'.objs.size=W9:=OX (Qp hLa);have ha:=OB h' (o:= {cls:= .type "generator",data:= .fields #[.int XJ.gens.size 0,.str "<genexpr>" (XJ.toks+1),.str (env.qual++ "<genexpr>") (XJ.toks+1+1)]}) rfl;have hga:O0.IsGen (h'.push _) h'.objs.size XJ.gens.size:=⟨_,_,_,ha,rfl,rfl,rfl⟩;exact⟨EK cc h0 x hg Y8 Zn YB ht hu Y4 he hR e XS hW hJ M XW ZC ⟨λb o e=>Om _ ((hsame.2 b (Px (Pl e))).trans (Om _ e)),cY,⟨_,Y6.at' λo=>Om _⟩,λn c h=>(nomatch h),λn m c h=>(nomatch h)⟩ ⟨na,Qh hLa⟩ hga,_,"generator",rfl,hga.typeIs,.tail _ (.tail _ (.head _))⟩
end
end
section
section
variable{b:Bool}{D:cK}{R:List V->List V->Prop}
structure Dr (C:Cf ag w) (D:cK) (J:Nat->Prop) (St:cK->Ow->List V->On->Prop) (X4:Ow) (XO:On) (xs:List V) (W:cK) (U:Ow) (s:On):Prop where
 ok:aY C X4 XO
 ev:Ev C D J X4 XO U s
 hW:∀c,W c->D c
 dead:∀c,XO.heap.get? c=W9->D c
 st:St W U xs s
theorem Dr.now (h:Dr C D J St X4 XO xs W U s):aY C U s:=(h.ev.go h.ok).1
theorem Dr.turn (h:Dr C D J St X4 XO xs W U s)(ev:Ev C W J U s U' s')(hW:∀c,W' c->W c \/s.heap.get? c=W9)(st:St W' U' ys s'):Dr C D J St X4 XO ys W' U' s' where
 ok:=h.ok
 ev:=h.ev.trans h.ok ev (λc e=> .inl (h.hW c e)) λ_=> .inl
 hW:=λc e=>(hW c e).elim (h.hW c) λe=>(b7 (h.ev.go h.ok).2 e).elim id (h.dead c)
 dead:=h.dead
 st:=st
theorem Dr.other (I:It C k A b target it Fo J St)(h:Dr C D J St X4 XO xs W U s)(ev:Ev C O bM U s U' s')(hO:∀c,O c->D c/\ ¬W c/\ ¬Fo c):Dr C D J St X4 XO xs W U' s':=
 ⟨h.ok,h.ev.trans h.ok ev (λc e=> .inl (hO c e).1) (λ_ e=>e.elim),h.hW,h.dead,I.keep h.st h.now ev λc e=>(hO c e).2⟩
theorem Dr.next (I:It C k A false (.Name n₀ q₀) it Fo J St)(rm:aV A k)(h:Dr C D J St X4 XO (x::xs) W U s){f:Option Oq->Sem α}{Q:α->On->Prop}
 (q:∀v XC Yz XE,Dr C D J St X4 XO xs Yz XE XC->Ev C W J U s XE XC->(∀c,Yz c->W c \/s.heap.get? c=W9)->bj C.cls (view XE XC.heap) x v->Oz (Ov ag w) A (f (W8 v)) Q E XC):Oz (Ov ag w) A (Sk it>>=f) Q E s:=
 Og (I.step rm h.st h.now λv XB hh=>by show Oz (Ov ag w) A (QB (.Name n₀ q₀) it v>>=λ_=>f (W8 v)) Q E XB;refine Og (iX hh λ_ XC nx=> ?_);obtain⟨Yz,XE,hW,ev,st,itm⟩:=nx;exact q v XC Yz XE (h.turn ev hW st) ev hW itm)
theorem Dr.stop (I:It C k A b target it Fo J St)(rm:aV A k)(h:Dr C D J St X4 XO [] W U s){f:Option Oq->Sem α}{Q:α->On->Prop}
 (q:∀XC XE,Ev C D J X4 XO XE XC->Ev C W J U s XE XC->Oz (Ov ag w) A (f W9) Q E XC):Oz (Ov ag w) A (Sk it>>=f) Q E s:=
 Og (I.stop rm h.st h.now λXB XX ev=>q XB XX (h.ev.trans h.ok ev (λc e=> .inl (h.hW c e)) λ_=> .inl) ev)
def Aa (C:Cf ag w)(D:cK)(J:Nat->Prop)(X4:Ow)(XO:On)(u:Oq)(r:Result)(s':On):Prop:=r= .ok (.ret u)/\ ∃U',Ev C D J X4 XO U' s'
theorem zZ (I:It C k A.in1 false (.Name n₀ q₀) it Fo J St)(rm:aV A.in1 k):∀(bs:List Bool) (W:cK) (U:Ow) (s:On),Dr C D J St X4 XO (bs.map Xb) W U s->Ra (Ov ag w) A (.builtin "all.loop" ⟨[it],[]⟩) (Aa C D J X4 XO (.bool (bs.all id))) s:=by
 intro bs;induction bs with
 |nil=>intro W U s h;refine PC F.entry_all_loop ?_;exact h.stop I rm λXC XE ev _=>Og (QL (Oi ⟨rfl,XE,ev⟩))
 |cons b bs ih=>
  intro W U s h;refine PC F.entry_all_loop ?_;refine h.next I rm λv XC Yz XE XN _ _ rv=> ?_;refine(show v= .bool b from rv)▸ ?_;refine Og (ON (Sn (Og (wpAny_letGo ?_))));cases b with
  |true=>exact Oi ⟨Q9 F.plain_all_loop _,ih Yz XE XC XN⟩
  |false=>exact Og (QL (Oi ⟨rfl,XE,XN.ev⟩))
theorem zW (I:It C k A.in1 false (.Name n₀ q₀) it Fo J St)(rm:aV A.in1 k):∀(bs:List Bool) (W:cK) (U:Ow) (s:On),Dr C D J St X4 XO (bs.map Xb) W U s->Ra (Ov ag w) A (.builtin "any.loop" ⟨[it],[]⟩) (Aa C D J X4 XO (.bool (bs.any id))) s:=by
 intro bs;induction bs with
 |nil=>intro W U s h;refine PC F.entry_any_loop ?_;exact h.stop I rm λXC XE ev _=>Og (QL (Oi ⟨rfl,XE,ev⟩))
 |cons b bs ih=>
  intro W U s h;refine PC F.entry_any_loop ?_;refine h.next I rm λv XC Yz XE XN _ _ rv=> ?_;refine(show v= .bool b from rv)▸ ?_;refine Og (ON (Sn (Og (wpAny_letGo ?_))));cases b with
  |false=>exact Oi ⟨Q9 F.plain_any_loop _,ih Yz XE XC XN⟩
  |true=>exact Og (QL (Oi ⟨rfl,XE,XN.ev⟩))
theorem lC {f:α->β}{ys zs:List β}(p:ys.Perm zs):∀ {bs:List α},zs=bs.map f->∃cs:List α,cs.Perm bs/\ ys=cs.map f:=by
 induction p with
 |nil=>exact λ {bs} h=>⟨bs,.refl _,h⟩
 |cons x p ih=>
  intro bs h;cases bs with
  |nil=>cases h
  |cons b bs=>injection h with h1 h2;obtain⟨cs,h3,h4⟩:=ih h2;exact⟨b::cs,h3.cons b,by refine ab h1 (ab h4 ?_);rfl⟩
 |swap x y l=>
  intro bs h;cases bs with
  |nil=>cases h
  |cons b bs=>
   cases bs with
   |nil=>cases h
   |cons c bs=>injection h with h1 h2;injection h2 with h2 h3;exact⟨c::b::bs,.swap _ _ _,by refine ab h1 (ab h2 (ab h3 ?_));rfl⟩
 |trans p q ih ih'=>intro bs h;obtain⟨cs,h1,h2⟩:=ih' h;obtain⟨ds,h3,h4⟩:=ih h2;exact⟨ds,h3.trans h1,h4⟩
theorem mJ:∀ {xs:List V} {bs:List Bool},fv xs=W8 bs->xs=bs.map Xb
 | [],bs,h=>by refine bV (Oh h) ?_;rfl
 |x::r,bs,h=>by
  cases x with
  |bool b=>exact dF h λcs h1 h2=>by refine bV h2 (ab (mJ h1) ?_);rfl
  |_=>exact absurd h aI
theorem zY {a b:List Bool}(p:a.Perm b):a.all id=b.all id:=by rw[QS,Ou,Ou];exact⟨λh x hx=>h x (p.mem_iff.mpr hx),λh x hx=>h x (p.mem_iff.mp hx)⟩
theorem zV {a b:List Bool}(p:a.Perm b):a.any id=b.any id:=by rw[QS,Q4,Q4];exact⟨λ⟨x,hx,e⟩=>⟨x,p.mem_iff.mp hx,e⟩,λ⟨x,hx,e⟩=>⟨x,p.mem_iff.mpr hx,e⟩⟩
def BV (di:ai->Option (List V)):ED:=λσ=>(di σ).bind λxs=>(fv xs).map λbs=> .bool (bs.all id)
def BU (di:ai->Option (List V)):ED:=λσ=>(di σ).bind λxs=>(fv xs).map λbs=> .bool (bs.any id)
theorem iL.dr {R:List V->Prop}(M:iL C k b target Fo J R W XX XB it XC)(ok:aY C U s)(ev:Ev C (λ_=>False) bM U s XX XB)(hW:∀c,W c->s.heap.get? c=W9)
 (q:∀(St:O6->cK->Ow->List V->On->Prop) ys W' XE,R ys->(∀A,aV A k->It C k A b target it Fo J (St A))->(∀A,aV A k->Dr C (λc=>s.heap.get? c=W9) J (St A) U s ys W' XE XC)->P):P:=by
 obtain⟨W',XE,St,ys,hR,I,st,XH,Zf,lv,gv⟩:=M;exact q St ys W' XE hR I λA rm=>⟨ok,(ev.weak (O':=λc=>s.heap.get? c=W9)).trans ok XH (λc h=> .inl (hW c h)) (λ_=> .inl),λc h=>(Zf c h).elim (hW c) λh=>(b7 (ev.go ok).2 h).resolve_left id,λ_ h=>h,st A rm⟩
theorem nr {id lp:String}{f:List Bool->Bool}(hp:∀ {a b:List Bool},a.Perm b->f a=f b)(h:dP C k cx false true (.Name n₀ q₀) pe di R)(hR:∀xs ys,R xs ys->ys.Perm xs)
 (hcall:∀ {A:O6} {v:Oq} {s:On} {u:Oq} {Q:Oq->On->Prop},Oz (Ov ag w) A.in1 (Ti v) (λit XC=>Ra (Ov ag w) A (.builtin lp ⟨[it],[]⟩) (λr s'=>r= .ok (.ret u)/\ Q u s') XC) (λ_ _=>False) s->Oz (Ov ag w) A (call (.builtin id) [v]) Q (λ_ _=>False) s)
 (hloop:∀ {A:O6} {it:Oq} {D Fo:cK} {J:Nat->Prop} {St:cK->Ow->List V->On->Prop} {X4:Ow} {XO:On},It C k A.in1 false (.Name n₀ q₀) it Fo J St->aV A.in1 k->∀(bs:List Bool) (W:cK) (U:Ow) (s:On),Dr C D J St X4 XO (bs.map Xb) W U s->Ra (Ov ag w) A (.builtin lp ⟨[it],[]⟩) (Aa C D J X4 XO (.bool (f bs))) s)
 (hg:fn∈cx.globs) (hm:fn∈bP) (hb:OZ fn=W8 (.builtin id)) (he:∀env,OC [pe] env= [(false,PX pe env)]):
 aC C (k+1) cx (.Call (.Name fn p) [pe] [] pos) λσ=>(di σ).bind λxs=>(fv xs).map λbs=> .bool (f bs):=λA U env σ s t rm x e=>
 ay e λxs hxs e=>dF e λbs hbs e=>by refine(e)▸ ?_;refine Pu (eP x hg hm hb (QH (rest:= []) (PE (iX (h A U env σ s xs (rm.le (QK k)) x hxs) λv XB got=>Qk ?_) (he env)) (he env)));obtain⟨W,XX,J,Pr,S,pr,XS,hW,lv,hJ⟩:=got;refine hcall (u:= .bool (f bs)) (iX (S.iter rm.in1 pr (XS.go x.toaY).1 lv) λit XC M=>M.dr x.toaY XS hW λSt ys W' XE hr I st=> ?_);obtain⟨cs,hcs,YM⟩:=lC (hR _ _ hr) (mJ hbs);refine(hp hcs)▸ ?_;refine Pb (hloop (I _ rm.in1) rm.in1 cs W' XE XC (YM▸st _ rm.in1)) λr s' hr=>⟨hr.1,?_⟩;obtain⟨U',ev⟩:=hr.2;exact⟨(Ev.off x.toaY ev (λ_ h=>h) hJ).1,rfl⟩
theorem A0 (h:dP C k cx false true (.Name n₀ q₀) pe di R)(hR:∀xs ys,R xs ys->ys.Perm xs)
 (hg:fn∈cx.globs) (hm:fn∈bP:=by decide) (hb:OZ fn=W8 (.builtin "all"):=by rfl) (he:∀env,OC [pe] env= [(false,PX pe env)]:=by intro _;rfl):aC C (k+1) cx (.Call (.Name fn p) [pe] [] pos) (BV di):=
 nr zY h hR (λh=>call_function_tree F.kind_all F.plain_all F.entry_all (F.args_all1 _) (by exact Og (m:=oneArg "all" _) (Oi (Og (iX h λit XC h=>Oi ⟨Q9 F.plain_all_loop _,Pb h λr s' e=>by refine ab e.1 ?_;exact e.2⟩))))) zZ hg hm hb he
theorem xy (h:dP C k cx false true (.Name n₀ q₀) pe di R)(hR:∀xs ys,R xs ys->ys.Perm xs)
 (hg:fn∈cx.globs) (hm:fn∈bP:=by decide) (hb:OZ fn=W8 (.builtin "any"):=by rfl) (he:∀env,OC [pe] env= [(false,PX pe env)]:=by intro _;rfl):aC C (k+1) cx (.Call (.Name fn p) [pe] [] pos) (BU di):=
 nr zV h hR (λh=>call_function_tree F.kind_any F.plain_any F.entry_any (F.args_any1 _) (by exact Og (m:=oneArg "any" _) (Oi (Og (iX h λit XC h=>Oi ⟨Q9 F.plain_any_loop _,Pb h λr s' e=>by refine ab e.1 ?_;exact e.2⟩))))) zW hg hm hb he
end
end
set_option tactic.hygienic true
section
section
variable{b:Bool}{D:cK}{R:List V->List V->Prop}{T:String}{d:OO}
theorem jC (h:T∈ ["list","tuple","generator"]):isSubtype (.type T) (.type "set")=pure false/\ isSubtype (.type T) (.type "frozenset")=pure false/\ (Q2 T==Q2 "dict")=false:=by
 rcases OG.mp h with h |h
 ·refine ab h ?_;exact⟨by rw[QU];kernel_rfl,by rw[QU];kernel_rfl,by decide⟩
 ·rcases OG.mp h with h |h
  ·refine ab h ?_;exact⟨by rw[QU];kernel_rfl,by rw[QU];kernel_rfl,by decide⟩
  ·refine ab (OJ.mp h) ?_;exact⟨by rw[QU];kernel_rfl,by rw[QU];kernel_rfl,by decide⟩
theorem AG {x:Oq}{id:String}{Q:Unit->On->Prop}(hT:s.TypeIs x T)(h:T∈ ["list","tuple","generator"])
 (hi:Oz (Ov ag w) A (Ti x) (λit XB=>Ra (Ov ag w) A (.builtin "set.update.loop" ⟨[.ref d,it],[]⟩) (λr XC=>r= .ok (.ret .none)/\ Q () XC) XB) E s):Oz (Ov ag w) A (QI id d x) Q E s:=by
 injections s A E T d x id Q _ hT h hi;have h1:=(jC h).1;have h2:=(jC h).2.1;have h3:=(jC h).2.2;refine Og (Og (QM hT h1 ?_));refine QM hT h2 ?_;refine Og (U2 hT ?_);refine ab h3 (ab (if_neg OD) ?_);exact Og (Ot hi (λit XB XM=>Og (VG (Pb XM λr XC XN=>by refine ab XN.1 ?_;exact Oi XN.2))) λ_ _ e=>e)
theorem wW (I:It C k A.in1 false (.Name n₀ q₀) it Fo J St)(rm:aV A.in1 k)(hDd:D d)(hb:C.hb.get? d=W9)(hT:d∉C.T)(nF:¬Fo d):
 ∀(ns:List Nat) (b:Nat) (W:cK) (U:Ow) (s:On),(∀n∈ns,n<6)->Dr C D J St X4 XO (ns.map λn:Nat=>Xc (n:Int)) W U s->¬W d->U d=W8 (d,.obj)->be (LW w) s.heap.get? d b->Ra (Ov ag w) A (.builtin "set.update.loop" ⟨[.ref d,it],[]⟩) (λr s'=>r= .ok (.ret .none)/\ (∃U',Ev C D J X4 XO U' s')/\ be (LW w) s'.heap.get? d (ns.foldl (λb n=>b ||| (1<<<n)) b)) s:=by
 injections k XO A q₀ it J n₀ X4 Fo St D d _ I rm hDd hb hT nF;intro ns;induction ns with
 |nil=>intro b W U s hn h nW hU hS;refine PC VO ?_;exact h.stop I rm λXC XE ev ev'=>Oi ⟨rfl,⟨XE,ev⟩,hS.sub λo e=>ev'.keep d o hT (λc q e=>by rw[hU]at e;cases e;exact nW) e⟩
 |cons n ns ih=>
  intro b W U s hn h nW hU hS;refine PC VO ?_;refine h.next I rm λv XC Yz XE XN ev hW rv=> ?_;obtain⟨t,rv⟩:=cG rv;refine(rv)▸ ?_;have no:∀c q,U d=W8 (c,q)->¬W c:=λc q e=>by rw[hU]at e;cases e;exact nW
  have ZG:be (LW w) XC.heap.get? d b:=hS.sub λo e=>ev.keep d o hT no e;obtain⟨o,ho⟩:=hS.here;have hU₂:XE d=W8 (d,.obj):=(ev.col d o ho no).trans hU;have nW₂:¬Yz d:=λh=>(hW d h).elim nW λh=>by rw[ho]at h;cases h
  have hn6:=hn n (.head _);refine Og (ON ?_);refine ON (Og ((Rf ag w).pyHash (k:=(n:Int)) (Qz _ _ _ _) ?_));refine ab (show(Rf ag w).hash (n:Int)=(n:Int)from eR hn6) ?_;exact iW (s:= {XC with toks:=XC.toks+1}) ZG hn6 λh' h1 h2=>Oi ⟨Q9 F.plain_set_update_loop _,ih _ Yz XE _ (λm hm=>hn m (.tail _ hm)) (XN.other I (Ev.one (tk:=XC.toks+1) hU₂ rfl hb hT h2.extBut h1.here) λc e=>e▸⟨hDd,nW₂,nF⟩) nW₂ hU₂ h1⟩
def cI:List V->Option (List Nat)
 | []=>W8 []
 | .int i::r=>if 0<=i/\ i<6 then(cI r).map (i.toNat:: ·)else W9
 |_::_=>W9
theorem fk:∀ {xs:List V} {ns:List Nat},cI xs=W8 ns->xs=ns.map (λn:Nat=>Xc (n:Int))/\ ∀n∈ns,n<6
 | [],ns,h=>by refine bV (Oh h) ?_;exact⟨rfl,λ_ h=>nomatch h⟩
 |x::r,ns,h=>by
  cases x with
  |int i=>exact f7 h λhi h=>dF h λms h1 h2=>by have h3:=(fk h1).1;have h4:=(fk h1).2;obtain⟨n,rfl⟩:=Q1 hi.1;refine bV h2 (ab h3 ?_);exact⟨rfl,λm hm=>(OG.mp hm).elim (λe=>by refine ab e ?_;exact PS.mp hi.2) (h4 m)⟩
  |_=>exact absurd h aI
def am (ns:List Nat):Nat:=ns.foldl (λb n=>b ||| (1<<<n)) 0
theorem wu {a c:List Nat}(p:a.Perm c):∀b,a.foldl (λb n=>b ||| (1<<<n)) b=c.foldl (λb n=>b ||| (1<<<n)) b:=by
 induction p with
 |nil=>exact λb=>rfl
 |cons x p ih=>exact λb=>ih _
 |swap x y l=>exact λb=>congrArg (l.foldl _) ((Nat.or_assoc ..).trans ((congrArg (b ||| ·) (Nat.or_comm ..)).trans (Nat.or_assoc ..).symm))
 |trans p q ih ih'=>exact λb=>(ih b).trans (ih' b)
def aan (di:ai->Option (List V)):ED:=λσ=>(di σ).bind λxs=>(cI xs).map λns=> .set (az (am ns))
theorem qz (h:s.TypeIs v T):U6 {s with heap:=s.heap.push o} v T:=by injections s v o T _ h;cases v<;>first |exact h | (obtain⟨o,ho,hc⟩:=h;exact⟨o,Om _ ho,hc⟩)
theorem xl (h:kz C k cx false true (.Name n₀ q₀) pe di R)(hR:∀xs ys,R xs ys->ys.Perm xs)
 (hg:fn∈cx.globs) (hm:fn∈bP:=by decide) (hb:OZ fn=W8 (.type "set"):=by rfl) (he:∀env,OC [pe] env= [(false,PX pe env)]:=by intro _;rfl):
 iJ C (k+1) cx (.Call (.Name fn p) [pe] [] pos) (aan di):=λA U env σ s t rm x e=>
 ay e λxs hxs e=>dF e λns Y6 e=>by
  refine(e)▸ ?_;refine Pu (eP x hg hm hb (PB (rest:= []) (PE (cf (h A U env σ s xs (rm.le (QK k)) x hxs) λv XB got ht=>Qk ?_) (he env)) (he env)));obtain⟨_,T,_,hT,hTm⟩:=ht;obtain⟨W,XX,J,Pr,S,pr,XS,hW,lv,hJ⟩:=got;have hx:=(fk Y6).1;have hn6:=(fk Y6).2;have ok:=x.toaY;have XT:=(XS.go ok).1;have hS₀:=gN (h:=XB.heap) (w:=w);have nD:XB.heap.get? XB.heap.objs.size=W9:=cY;have lD:=hS₀.here;have evD:=Ev.new1 (J:=bM) (aH.push (o:=bU w) (tk:=XB.toks)) XT nD lD;have dD:s.heap.get? XB.heap.objs.size=W9:=(b7 (XS.go ok).2 nD).resolve_left id;have kD:=ok.new dD;have nW:¬W XB.heap.objs.size:=λh=>by obtain⟨o,e⟩:=lv _ h;rw[nD]at e;cases e
  have nF:¬(true=true/\ ∃o,s.heap.get? XB.heap.objs.size=W8 o):=λh=>by obtain⟨_,o,e⟩:=h;rw[dD]at e;cases e
  have ev0:Ev C (λc=>s.heap.get? c=W9) bM U s _ _:=(XS.wide λ_ h=>h.elim).trans ok evD (λc e=> .inl (e▸dD)) λ_=> .inl;have rm2:aV A.in1.in1 k:=rm.down rm.handled (QK _) (Rw (by decide:2<=4) _);have rm3:aV A.in1.in1.in1 k:=rm.down rm.handled (QK _) (Rw (by decide:3<=4) _);refine nv v (F₂:=λXC=>aH C s XC/\ be (LW w) XC.heap.get? XB.heap.objs.size (am ns)) ?_ λXC h=>⟨h.2.typeIs,h.1,_,rfl,dD,λq=>iS ok kD.1 h.2,h.2.here,λ_ _ h=>nomatch h⟩;refine AG (qz hT) hTm (iX (S.iter rm2 (S.keep pr XT evD λc e=>e▸⟨nW,nF⟩) (evD.go XT).1 λc h=>let ⟨o,e⟩:=lv c h;⟨o,Om _ e⟩) λit XC M=> ?_);obtain⟨W',XE,St,ys,hr,I,st,XH,Zf,lv',gv⟩:=M;have no:∀c q,b5 XX XB.heap.objs.size (XB.heap.objs.size,.obj) XB.heap.objs.size=W8 (c,q)->¬W c:=λc q e=>by rw[aD]at e;cases e;exact nW
  obtain⟨o,ho⟩:=lD;obtain⟨ms,hpm,YM⟩:=lC (hR _ _ hr) hx;have dead:∀ {c:OO},XB.heap.get? c=W9->s.heap.get? c=W9:=λh=>(b7 (XS.go ok).2 h).resolve_left id;refine Pb (wW (D:=λc=>s.heap.get? c=W9) (I _ rm3) rm3 dD kD.2.2 kD.1 nF ms 0 W' XE XC (λn hn=>hn6 n (hpm.mem_iff.mp hn)) ⟨ok,{ev0 with gen:=λi z _=>ev0.gen i z id}.trans ok XH (λc h=> .inl (hW c h)) (λ_=> .inl),λc h=>(Zf c h).elim (hW c) λh=>(b7 (ev0.go ok).2 h).elim id id,λ_ h=>h,YM▸st _ rm3⟩ (λh=>(Zf _ h).elim nW λh=>by rw[ho]at h;cases h) ((XH.col _ o ho no).trans aD) (hS₀.sub λo e=>XH.keep _ o kD.1 no e)) λr s' h=>⟨h.1,?_,(show am ns=_ from(wu hpm 0).symm)▸h.2.2⟩;obtain⟨U',ev⟩:=h.2.1;exact(Ev.off ok ev (λ_ h=>h) hJ).1
end
end
set_option tactic.hygienic false
section
section
variable{b:Bool}{n:Str}{i:Nat}{R:List V->List V->Prop}{s1:RV}{lb s3:List RV}{d1 d3:SD}{c:ai->Option Bool}
def pQ (di:ai->Option (List V))(i:Nat)(c:ai->Option Bool):SD:=λσ=>(di σ).bind λxs=>if xs.all λx=>c (aw σ i (W8 x))==W8 false then W8 (.next,aw σ i W9)else W9
theorem rq (hbd:∀σ,c σ=W8 false->bd σ=W8 (.next,σ)):∀(ys:List V) (σ':ai),(∀q,aw σ' i q=aw σ i q)->(∀y∈ys,c (aw σ i (W8 y))=W8 false)->
 ∃Yt,aQ (cH i) bd ys σ'=W8 (.next,Yt)/\ aw Yt i W9=aw σ i W9
 | [],σ',h,_=>⟨σ',rfl,h W9⟩
 |y::ys,σ',h1,h=>by obtain⟨Yt,e1,e2⟩:=rq hbd ys (aw σ i (W8 y)) (λq=>eI) λz hz=>h z (.tail _ hz);refine⟨Yt,?_,e2⟩;show(bd (aw σ' i (W8 y))).bind _=_;rw[h1,hbd _ (h y (.head _))];exact e1
theorem yW (h:aK (aw σ i W9) j=W8 t):j≠i/\ aK σ j=W8 t:=(gc h).elim (λh=>nomatch h.2) id
theorem sB (hi:dP C k cx false false (.Name n q) iter di R)(hR:∀xs ys,R xs ys->ys.Perm xs)(hx:cx.vars.lookup n=W8 i)(ho:i∉cx.own)(hf:i∉cx.fre)(hb:bG C k cx cx.own body cx.own bd)(hbd:∀σ,c σ=W8 false->bd σ=W8 (.next,σ))(hs:∀env x,OU iter env x=pure x:=by intro _ _;rfl):
 du C k cx oc (.For (.Name n q) iter body [] pos) cx.own (pQ di i c):=λA U env σ s r rm x e=>
 ay e λxs hxs e=>f7 e λj' e=>Vl (iX (hi A U env σ s xs rm x.tobA hxs) λv XB h=>h.start x λW XX J Pr S hP ZI lv hJ=>iX (S.iter rm hP ZI.x.toaY lv) λit XC m=>by obtain⟨W',U',St,ys,hy,I,YT,XH,Zf,_,_⟩:=m;obtain⟨Yt,e1,e2⟩:=rq (i:=i) (σ:=σ) hbd ys σ (λ_=>rfl) λy S'=>eq_of_beq (Ou.mp j' y ((hR _ _ hy).mem_iff.mp S'));refine Pb (jg (dZ hx ho hf) hb rm (I A rm) x x.far (λh=>Qq h.1) (ZI.turn x x.far XH Zf) (YT A rm) e1) λr' s' p=> ?_;obtain⟨f,hf,Yc,ev,_,Zv,x'⟩:=p;refine ab hf (bV (Oh e) ?_);exact⟨Yc,ev.strict x.toaY (λc h=>h.elim .inr λh=> .inl h) hJ,Zv,x'.weak λj t h=>by rw[<-e2]at h;exact(yW h).2⟩) (hs env)
theorem r6.base {R:List V->Prop}(G:r6 C k b target Fo R U s v XB)(ok:aY C U s)(ho:C.hb.get? f=W8 o)(hT:f∉C.T):XB.heap.get? f=W8 o:=(by obtain⟨_,_,_,_,_,_,ev,_,_,_⟩:=G;exact(ev.go ok).1.inv.base f o hT ho)
theorem vU {b:SD}(h:c σ=W8 false):aE c b af σ=W8 (.next,σ):=by unfold aE;refine ab h ?_;rfl
theorem yX (nl:Nat)(F:m5 C f fd [vn] (s1:: .For target (.Name vn p) lb [] pos::s3) cx)(h1:du C k cx [] s1 [] d1)(ht:d9 C k cx false target st)(hlb:bG C k cx cx.own lb cx.own bd)(h3:bG C k cx [] s3 O' d3)(hvn:cx.vars.lookup vn=W8 0)
 {R:List V->Prop} (rm:aV A (k+1)) (ok:aY C U s) (G:r6 C k false target (λc=>true=true/\ ∃o,s.heap.get? c=W8 o) R U s (.ref a) XB) (YO:U1 XB fd ⟨[.ref a],[]⟩ [(vn,.ref a)])
 (hd1:d1 (c0 nl [.adr a])=W8 (.next,XK)) (h0:aK XK 0=W8 (.adr a)) (hD:∀zs,R zs->∃σ₂ YV,aQ st bd zs XK=W8 (.next,σ₂)/\ d3 σ₂=W8 (.ret t,YV)) (hs:∀env x,OU (.Name vn p) env x=pure x:=by intro _ _;rfl):Oz (Ov ag w) A (call (.ref f) [.ref a]) (λz s'=>aH C s s'/\ bj C.cls (view U s'.heap) t z) (λ_ _=>False) XB:=by
  injections k s XB a f A pos p t cx target O' vn fd U XK st bd s1 lb s3 d1 d3 nl R _ F h1 ht hlb h3 hvn rm ok G YO hd1 h0 hD hs;obtain⟨W,XX,J,Pr,S,pr,XS,hW,lv,hJ⟩:=G;have XT:=(XS.go ok).1;obtain⟨o,ho,hd⟩:=F.obj;have cc:=kW F.cx;have Yl:XB.heap.CodeRec fd.code fd.qualname:=(by obtain⟨c,o,vs,t,e,g,r⟩:=F.code;exact⟨c,o,vs,t,e,XT.inv.base c o (F.codeT c e) g,r⟩);have hce:({cx with own:= []}:Cx)=cx:=by exact bV cc.kind.2.2.2 rfl
  refine RU (Sz rm.lt (XT.inv.base f o F.notT ho) hd cc.kind.2.1 cc.kind.2.2.1 F.body Yl (YO _ _ _ _ ?_));refine ab F.gl (ab F.clo (ab F.bi ?_));refine iX (hZ (nl:=nl) (params:= [vn]) (vs:= [.ref a]) (xs:= [.adr a]) F.codeG XT cc (aq.cons (rfl) aq.nil) rfl λenv s' U' sok ev hL Y8=>⟨sok.inv.lim,U4 ?_⟩) λ_ _ h=>h;have rm':=rm.deeper env;refine Pe (h1.run rm' sok hd1 λf XC hp=> ?_);obtain⟨XE,XH,hf,XG⟩:=hp;refine(hf)▸ ?_;rw[hce]at XG;have YH:∀ {c},XB.heap.get? c=W9->s.heap.get? c=W9:=λh=>(b7 (XS.go ok).2 h).resolve_left id;have nW:¬W env.locals:=λh=>by obtain⟨o,e⟩:=lv _ h;rw[hL]at e;cases e
  have nF:¬(true=true/\ ∃o,s.heap.get? env.locals=W8 o):=λh=>by obtain⟨_,o,e⟩:=h;rw[YH hL]at e;cases e
  have evL:Ev C (only env.locals) bM XX XB XE XC:=ev.trans XT XH (λ_=> .inl) λ_=> .inl;have dead₂:∀ {c},XC.heap.get? c=W9->s.heap.get? c=W9:=λ {c} h=>(b7 (evL.go XT).2 h).elim (λe=>by obtain⟨o,e'⟩:=(XG.live _ _ _ XG.hL).1;rw[<-e,h]at e';cases e') YH;have Fr:Ag C cx (λc=>W c \/XC.heap.get? c=W9) XE env XC:=⟨λh=>h.elim nW XG.far.nL,λn c hn hc=>absurd (Y8 n c hc) hn,λ_=> .inr⟩;obtain⟨v,hv,hr,_⟩:=XG.vars vn 0 _ hvn h0;have hr:=hr ((cc.kind.2.2.2)▸Td);rw[hr]at hv;refine Pe (Vl (Ro (gL XG.tobA hvn hv ?_) (XG.plain vn 0 hvn).1) (hs env));refine iX (S.iter rm' (S.keep pr XT evL λc e=>e▸⟨nW,nF⟩) XG.toaY λc h=>((evL.go XT).2 c (lv c h)).resolve_left λe=>nW (e▸h)) λit XJ m=> ?_;obtain⟨W',Yc,St,zs,hR,I,YT,XR,Zf,_,_⟩:=m;obtain⟨σ₂,YV,e1,e2⟩:=hD zs hR;have L:LI C cx env (λc=>W c \/XC.heap.get? c=W9) J XE XC W XK XE XC:=⟨XG,.refl,λ_=> .inl⟩;refine Pb (jg ht hlb rm' (I _ rm') XG Fr nF (L.turn XG Fr XR Zf) (YT _ rm') e1) λr' Ym h=> ?_;obtain⟨f,hf,U₄,X1,_,Zv,Yd⟩:=h;refine ab hf (ab Zv ?_);refine h3.run rm' Yd e2 λf X9 hp=> ?_;obtain⟨Yg,X0,v,hf,rv⟩:=hp;refine(hf)▸ ?_;have all:Ev C (λc=>s.heap.get? c=W9) J U s Yg X9:=((({XS.wide λ_ h=>h.elim with gen:=λi z _=>XS.gen i z id}:Ev C (λc=>s.heap.get? c=W9) J U s XX XB).trans ok evL (λc e=> .inr (e▸YH hL)) λ_ h=>h.elim).trans ok X1 (λc h=> .inl (h.elim (λe=>e▸YH hL) λh=>h.elim (hW c) dead₂)) λ_=> .inl).trans ok X0 (λc e=> .inr (e▸YH hL)) λ_ h=>h.elim;have out:=all.ret ok (λ_ h=>h) hJ;exact⟨out.1,bj.mono out.2 _ _ rv⟩
theorem sv (nl:Nat)(F:m5 C f fd [vn] (s1:: .For target (.Name vn p) lb [] pos::s3) cx)(h1:du C k cx [] s1 [] d1)(ht:d9 C k cx false target st)(hlb:bG C k cx cx.own lb cx.own bd)(h3:bG C k cx [] s3 O' d3)(hvn:cx.vars.lookup vn=W8 0)
 (YO:∀(s:On) (a:OO),U1 s fd ⟨[.ref a],[]⟩ [(vn,.ref a)]) (D:List V->Option V) (hD:∀a zs t,D zs=W8 t->∃XK,d1 (c0 nl [.adr a])=W8 (.next,XK)/\ aK XK 0=W8 (.adr a)/\ ∀ys,R zs ys->∃σ₂ YV,aQ st bd ys XK=W8 (.next,σ₂)/\ d3 σ₂=W8 (.ret t,YV))
 (hg:fn∈cx'.globs) (hm:C.mg fn=W8 (.ref f)) (hi:kz C k cx' false true target pe di R) (hs:∀env x,OU (.Name vn p) env x=pure x:=by intro _ _;rfl) (he:∀env,OC [pe] env=(false,PX pe env)::OC [] env:=by intro _;rfl):
 aC C (k+1) cx' (.Call (.Name fn p') [pe] [] pos') (λσ=>(di σ).bind D):=λA U env σ s t rm x e=>
 ay e λxs hx e=>by obtain⟨o,ho,hd⟩:=F.obj;refine UA (lN x hg hm (callWith_def_kw hd (evalArgs_kw2 ((fZ (k:=k) (cx:=cx')).1 env pos').1 (PE (cf (hi A U env σ s xs (rm.le (QK k)) x hx) λv XB g ht'=>Qk ?_) (he env)) (he env))));obtain⟨a,T,ea,_⟩:=ht';rw[ea]at g⊢;obtain⟨XK,e1,e2,e3⟩:=hD a xs t e;exact wpAny_evalAll_nil ⟨g.base x.toaY ho F.notT,yX nl F h1 ht hlb h3 hvn rm x.toaY g (YO XB a) e1 e2 e3 hs⟩
end
end
section
theorem yN {b:Nat}{Q:Bool->On->Prop}(h:be (LW w) s.heap.get? a b)(q:Q false s):Oz (Ov ag w) A (OT.List.listLengthHint (.ref a)) Q E s:=by
 injections s a A E b Q _ h q;refine Og (wpAny_specialOf h.typeIs F.slot_set_len.lookup ?_);generalize hid:("set.__len__":String)=id0
 wp_delta
 subst hid;refine Og (QM (T:= "set") (b:=true) h.typeIs (by rw[QU];kernel_rfl) ?_);refine Vk (λZ'=>absurd Z' (by decide)) (λ_=> ?_);refine Vk (λ_=> ?_) (λZ'=>absurd (show _=true by decide+kernel) Z');refine Og (U2 h.typeIs ?_);exact Oi q
theorem rQ {b:Nat}{Q:List Oq->On->Prop}(hh:A.handled=W9)(h:be (LW w) s.heap.get? a b)
 (q:∀(vs:List Oq) (ns:List Int) (h':O0) (tk:Nat),Vw vs ns->ns.Perm (az b)->(∀c o,s.heap.get? c=W8 o->h'.get? c=W8 o)->Q vs {s with heap:=h',toks:=tk}):Oz (Ov ag w) A (PySem.collect (.ref a)) Q E s:=by
 injections s a A E b Q _ hh h q;obtain⟨hb,es,ep,mv,m,ho,hm,he⟩:=id h;have hw:=eM (a:=a) (ep:=ep) he;have ha:a<s.heap.objs.size:=Pl ho;refine Og (VG (PC F.entry_proto_collect ?_));show Oz _ A.in1 (newList []>>=λl=>again (.builtin "list.__iadd__" ⟨[l,.ref a],[]⟩)) _ _ s;refine Og (Qy ?_);refine Oi ⟨Q9 F.plain_list_iadd _,PC F.entry_list_iadd ?_⟩;generalize hS:s.heap.objs.size=S at ha;generalize hH₁:s.heap.push {cls:= .type "list",data:= .seq ([]:List Oq).toArray}=H₁;have hSz:H₁.objs.size=S+1:=by rw[<-hH₁,Sc,hS]
 have hS₁:H₁.get? S=W8 {cls:= .type "list",data:= .seq ([]:List Oq).toArray}:=by refine bV hH₁ (bV hS ?_);exact OB _ rfl
 have k₁:∀c o,s.heap.get? c=W8 o->H₁.get? c=W8 o:=λc o e=>by refine bV hH₁ ?_;exact Om _ e
 have XM:be (LW w) H₁.get? a b:=h.sub (k₁ a);show Oz _ A.in1 (OT.List.listExtendWith (.ref S) (.ref a) (.ref S)) _ _ _;refine Og (U2 (T:= "set") (XM.typeIs (s:= {s with heap:=H₁})) ?_);have e1:Uc (.ref S) (.ref a)=false:=by have:S≠a:=Qh ha;simp[Uc,this]
 have e2:(Q2 "set"==Q2 "list")=false:=by decide
 have e3:(Q2 "set"==Q2 "tuple")=false:=by decide
 simp only[e1,e2,e3,Bool.or_false,PP,if_false];refine Og (qV (s:= {s with heap:=H₁}) hb (k₁ a _ ho) hm he ?_);refine(hSz)▸ ?_;have Y2:∀o,H₁.get? a=W8 o->(H₁.push {cls:= .type "set_iterator",data:= .fields #[Qd 0,Qd 0,.ref a,Qd (bs b).length,Qd ep]}).get? a=W8 o:=λo e=>Om _ e;have hIt:(H₁.push {cls:= .type "set_iterator",data:= .fields #[Qd 0,Qd 0,.ref a,Qd (bs b).length,Qd ep]}).get? (S+1)=W8 {cls:= .type "set_iterator",data:= .fields #[Qd 0,Qd 0,.ref a,Qd (bs b).length,Qd ep]}:=by refine bV hSz ?_;exact OB _ rfl
 have ZG:(H₁.push {cls:= .type "set_iterator",data:= .fields #[Qd 0,Qd 0,.ref a,Qd (bs b).length,Qd ep]}).get? S=W8 {cls:= .type "list",data:= .seq ([]:List Oq).toArray}:=Om _ hS₁;have k₂:∀c o,s.heap.get? c=W8 o->(H₁.push {cls:= .type "set_iterator",data:= .fields #[Qd 0,Qd 0,.ref a,Qd (bs b).length,Qd ep]}).get? c=W8 o:=λc o e=>Om _ (k₁ c o e);generalize H₁.push {cls:= .type "set_iterator",data:= .fields #[Qd 0,Qd 0,.ref a,Qd (bs b).length,Qd ep]}=H₂ at Y2 hIt ZG k₂;refine Og (ON (yN (s:= {s with heap:=H₂}) (XM.sub Y2) ?_));refine Vk (λ_=> ?_) (λZ'=>absurd (show _=true by decide+kernel) Z');refine Og (QL ?_);refine Og ?_;refine Og (wpAny_updateSeq ZG rfl ?_);have hS₃:=Pm (PG (·.push PA)) ZG rfl;refine wpAny_updateSeq (hz:=by seq_fits) hS₃ rfl ?_;have hS₄:=Pm (PG (·.pop)) hS₃ rfl;have k₃:∀c o,c≠S->H₂.get? c=W8 o->((H₂.update S (PG (·.push PA))).update S (PG (·.pop))).get? c=W8 o:=λc o hc e=>(Vx _ _ (Te hc)).trans ((Vx _ _ (Te hc)).trans e);generalize (H₂.update S (PG (·.push PA))).update S (PG (·.pop))=H₃ at hS₄ k₃;have haS:a≠S:=Px ha;have haI:a≠S+1:=Px (R9 ha);have hlen:(cQ w a ep es).toList.length=(bs b).length:=by have:=hw.1.length_eq;simpa using this
 have hbl:=fb b;refine Oi ⟨Q9 F.plain_extend_loop _,codeAny_extend_loopS (n:=(bs b).length) (m6 (A:=A.in1) hh haI hb hm he).toS (by refine ab P7 ?_;exact Op hbl (by decide)) S (λh=>by rcases OG.mp h with h |h;exact absurd h (Px (PZ _));exact haS.symm (by simpa using h)) (.ref S) ((bs b).length - 0) 0 _ #[] _ rfl (QJ _) ⟨⟨0,k₃ _ _ (Qh (PZ _)) hIt,λ_=>rfl⟩,k₃ a _ haS (k₂ a _ ho)⟩ hS₄ (ItemsOf.nil _) λs' acc' c' hmv hS' B'=> ?_⟩;refine Og (wpAny_load hS' ?_);refine ab (Moved.eq_with hmv) ?_;have eacc:acc'.toList=(cQ w a ep es).toList.map (·.2):=by
  refine List.ext_getElem? λi=> ?_;simp only[Sd,Qw,Sd];by_cases hi:i<(bs b).length
  ·have hx:acc'[i]?=W8 (acc'[i]'(by refine ab B'.1 ?_;exact hi)):=PU _
   refine ab hx ?_;exact(B'.2 i _ hx).symm
  ·rw[RZ (by refine ab B'.1 ?_;exact R8.mp hi),RZ (by refine bV VQ (ab hlen ?_);exact R8.mp hi)];rfl
 have hints:Vw ((cQ w a ep es).toList.map (·.2)) ((cQ w a ep es).toList.map (·.1)):=by
  have:∀l:List (Int×Oq),(∀x∈l,∃tk,x.2= .int x.1 tk)->Vw (l.map (·.2)) (l.map (·.1)):=by
   intro l;induction l with
   |nil=>intro _;exact .nil
   |cons x l ih=>intro hl;obtain⟨tk,ht⟩:=hl x (by simp);refine ab Sw (ab ht ?_);exact .cons _ _ (ih λy hy=>hl y (by simp[hy]))
  refine this _ λx hx=> ?_;obtain⟨tk,ht⟩:=hw.2 x hx;exact⟨tk,ht⟩
 refine Oi ?_;show Q acc'.toList _;simp only[eacc];refine q _ _ s'.heap s'.toks hints (by simpa [az,SO]using hw.1) λc o e=> ?_;have hcS:c≠S:=Px ((hS)▸Pl e);have hcI:c≠S+1:=Px (R9 ((hS)▸Pl e));exact hmv.heap c o (λh=>by rcases OG.mp h with h |h;exact hcS h;exact hcI (by simpa using h)) (k₃ c o hcS (k₂ c o e))
end
section
def ix:V->Option V
 | .set xs=>W8 (.list ((ja xs).map Xc))
 |_=>W9
theorem yb:iK C k (λv=>call (.builtin "sorted") [v]) ix:=λA U s x t v rm ok e r=>by
 refine xE e λxs hx e=> ?_;simp only[hx]at r;refine oQ ok r λo b hv k1 hxs=> ?_;refine ab hv (bV (Oh e) (ab hxs ?_));refine U0 kind_sorted plain_sorted entry_sorted (args_sorted1 _) ?_;refine Og (m:=checkCount "sorted" 1 1 _) (Oi ?_);refine Og (rQ (A:=A.in1) rm.handled k1 λvs ns h' tk hI hp hk=> ?_);have hlen:vs.length<64:=by have h1:=hp.length_eq;have h2:=Bo b;have h3:vs.length=ns.length:=hI.length;exact OW (Op (O2 (h3.trans h1)) h2) (by decide)
 refine Og (V2 ?_);have XI:aH C s {s with heap:=h',toks:=tk}:=aH.heap hk;have XT:=ok.grow XI;have hoL:(h'.push (Ri "list" vs.toArray 0)).get? h'.objs.size=W8 (Ri "list" vs.toArray 0):=OB _ rfl;have kp:∀c o,h'.get? c=W8 o->(h'.push (Ri "list" vs.toArray 0)).get? c=W8 o:=λc o e=>Om _ e;have YE:(h'.push (Ri "list" vs.toArray 0)).objs.size=h'.objs.size+1:=Sc ..;generalize h'.push (Ri "list" vs.toArray 0)=XN at hoL kp YE;refine Og (ON (O9 slot_list_sort ⟨_,hoL,rfl⟩ entry_list_sort (list_sort_tree (s:= {s with heap:=XN,toks:=tk}) hoL hI hlen λout ns' a1 a2 a3=>⟨_,rfl,?_⟩) (args_list_sort _)));refine Oi ⟨_,rfl,?_⟩;obtain⟨e,he⟩:=sortedHeap_at (out:=out) hoL;have XF:aH C {s with heap:=h',toks:=tk} {s with heap:=sortedHeap XN h'.objs.size vs out,toks:=tk}:=aH.heap λc o e=>by have hc:=Pl e;refine(sortedHeap_old (Px hc) (by refine ab YE ?_;exact R9 hc))▸ ?_;exact kp c o e
 refine⟨XI.trans XF,?_⟩;have:ns'=ja (az b):=ni ((a2.trans hp).trans (iD (az b)).symm) a3 (f0 _);refine bV this ?_;exact sL (XT.not cY) he (nX a1)
theorem aq.of {K:br}{g:a0}:∀ {ts:List V} {vs:List Oq},vs.length=ts.length->(∀(i:Nat) (t:V),ts[i]?=W8 t->∃v,vs[i]?=W8 v/\ bj K g t v)->aq K g ts vs
 | [],vs,h,_=>by refine ab (Vg.mp h) ?_;exact aq.nil
 |t::ts,[],h,_=>nomatch h
 |t::ts,v::vs,h,q=>by obtain⟨u,e,r⟩:=q 0 t rfl;refine(Oh e)▸ ?_;exact aq.cons r (aq.of (WP h) λi t e=>q (i+1) t e)
theorem mU {fr:Str}{rpos:Pos}(h:aC C k cx pe d)(hg:fn∈cx.globs)(hgr:fr∈cx.globs)(hm:fn∈bP:=by decide) (hmr:fr∈bP:=by decide) (hb:OZ fn=W8 (.type "list"):=by rfl) (hbr:OZ fr=W8 (.type "range"):=by rfl)
 (he:∀env,OC [pe] env= [(false,PX pe env)]:=by intro _;rfl) (ZK:∀env,OC [.Call (.Name fr q) [pe] [] rpos] env= [(false,PX (.Call (.Name fr q) [pe] [] rpos) env)]:=by intro _;rfl):
 aC C k cx (.Call (.Name fn p) [.Call (.Name fr q) [pe] [] rpos] [] pos) (λσ=>(d σ).bind λ | .int n=>if 0<=n/\ n<=4096 then W8 (.list (cy 0 n.toNat))else W9 |_=>W9):=λA U env σ s t rm x e=>
 ay e λy hy e=>nY e λn hn e=>f7 e λhc e=>by
  refine Pu (eP x hg hm hb (PB (rest:= []) (PE (Pu (eP x hgr hmr hbr (PB (rest:= []) (PE (h.runE rm x hy λu XB XI XD XQ=>Qk ?_) (he env)) (he env)))) (ZK env)) (ZK env)));simp only[hn]at XQ;obtain⟨tk,hu⟩:=cG XQ;obtain⟨n,rfl⟩:=Q1 hc.1;have hn':n<=4096:=Rh.mp hc.2;refine ab hu (bV (Oh e) ?_);refine call_range_1 (Qk (call_list_range (n:=n) rm.handled (Vv ..) (small_one (by decide) (by omega) (by omega) (by omega)) (by rw[rangeSize_one];split<;>omega) (by omega) λh' tk' acc c' hk hl B'=> ?_));have gp:aH C XB {XB with heap:=XB.heap.push {cls:= .type "range",data:= .fields #[.int 0 XB.toks,.int n tk,.int 1 (XB.toks+1)]},toks:=XB.toks+1+1}:= .push;have Yk:=(XD.grow gp).toaY;refine⟨(XI.trans gp).trans (aH.heap (tk:=tk') hk),?_⟩;have ha:acc.toList.length=n:=B'.1;refine⟨_,acc.toList,rfl,⟨c',ao.mpr ⟨Yk.newNot,hl⟩⟩,aq.of (ha.trans (by unfold cy;rw[OA,Ql];rfl)) λi t e=> ?_⟩;have hi:i<n:=by have:=(Pn.mp e).1;unfold cy at this;rw[OA,Ql]at this;exact this
  have hv:=OP (ha.symm▸hi:i<acc.toList.length);obtain⟨t',ht⟩:=B'.2 i _ ((Sd (xs:=acc)).symm.trans hv);simp only[rD e];exact⟨_,hv,by refine ab ht ?_;exact b6⟩
end
set_option tactic.hygienic true
section
section
variable{ks:List (Option Ol)}{vs:List Ol}{b:ai->Bool}
theorem aH.upd (g:aH C s XB)(ok:aY C U s){d:OO}(hd:s.heap.get? d=W9)(hs:SE d XB.heap h'):aH C s {XB with heap:=h',toks:=tk}:=
 ⟨λb o hT e=>hs b o (λh=>by rw[h,hd]at e;cases e) (g.up b o hT e),g.os,g.gen,λi=>(g.inv i).same (ok.new hd).2.2 (ok.new hd).1 hs⟩
theorem nk:aC C k cx (.Dict [] [] pos) (dK .any):=λA U env σ s t rm x e=>Oh e▸wpAny_Dict_empty ⟨.push,trivial⟩
inductive fT (C:Cf ag w) (k:Nat) (cx:Cx):List (Option Ol)->List Ol->(ai->Bool)->Prop
 |nil:fT C k cx [] [] λ_=>true
 |cons {y:Str} {q:Nat} {p:Pos} {v:Ol} {ks:List (Option Ol)} {vs:List Ol} {d:ED} {b:ai->Bool} (h:gm C k cx v d) (r:fT C k cx ks vs b):fT C k cx (W8 (.Constant (.str y) q p)::ks) (v::vs) λσ=>(d σ).isSome&&b σ
theorem fT.all (h:fT C k cx ks vs b):ks.all (·.isSome)=true/\ ks.length=vs.length:=by
 induction h with
 |nil=>exact⟨rfl,rfl⟩
 |cons _ _ ih=>exact⟨ih.1,congrArg (· +1) ih.2⟩
theorem fT.run (h:fT C k cx ks vs b):∀ {A:O6} {U:Ow} {env:Env} {σ:ai} {s:On} {pos:Pos},aV A k->bA C cx U env σ s->b σ=true->
 Oz (Ov ag w) A (evalPairs (pairTrees ks vs env pos)) (λps s'=>aH C s s'/\ ∃kvs,Carries (PySem.strKind ag w) ps kvs) (λ_ _=>False) s:=by
 induction h with
 |nil=>exact λ {A U env σ s pos} rm x _=>Oi ⟨.refl s,[],trivial⟩
 |cons hv hr ih=>rename_i y q p v ks vs d b;intro A U env σ s pos rm x e;have h1:=(OR.mp e).1;have h2:=(OR.mp e).2;obtain⟨t,ht⟩:=P0.mp h1;show Oz (Ov ag w) A (evalPairs ((PX (.Constant (.str y) q p) env,do let x <-PX v env;Qb pos;pure x)::pairTrees ks vs env pos)) _ _ _;refine Og ((oW (k:=k) (cx:=cx) (z:=y.cps.toList) (by cases y;rfl)).runE rm x rfl λkv XB XI XD XQ=> ?_);refine Og (ON (Og (cf (hv A U env σ XB t rm XD ht) λvv XC XF _=>Og (Py (Oi ?_)))));refine Og (ON (cf (ih rm (XD.grow XF) h2) λps XJ XW hc=> ?_));obtain⟨kvs,hc⟩:=hc;obtain⟨tk,hk⟩:=XQ;refine(hk)▸ ?_;exact Oi ⟨(XI.trans XF).trans XW,(⟨y.cps⟩,vv)::kvs,decide_eq_true rfl,rfl,hc⟩
theorem kb (h:fT C k cx ks vs b)(h0:ks.isEmpty=false:=by rfl) (hl:decide (ks.length<=15)=true:=by rfl):aC C k cx (.Dict ks vs pos) (λσ=>if b σ then W8 .any else W9):=λA U env σ s t rm x e=>
 f7 e λhb e=>by
  have ha:=h.all.1;have hlen:=h.all.2;have gp:aH C s {s with heap:=s.heap.push {cls:= .type "dict",data:= .dict #[]}}:= .push;have hn:=pairTrees_length ks vs env pos ha hlen;have new:s.heap.get? s.heap.objs.size=W9:=cY;have nD:=x.toaY.new new;refine(Oh e)▸ ?_;refine wpAny_Dict_pairs (knd:=strKind ag w) (zip_pairTrees ks vs env pos ha hlen) (λhe=> ?_) ((hn)▸of_decide_eq_true hl) (cf (h.run rm (x.grow gp) hb) λps XB g hc=> ?_)
  ·rw[he]at hn
   rw[Vg.mp hn.symm]at h0;exact nomatch h0
  ·obtain⟨kvs,hc⟩:=hc
   refine⟨kvs,hc,?_,λh' _=> ?_⟩
   ·obtain⟨o,es,ep,ho,r⟩:=O0.DictOf.new (knd:=strKind ag w) s.heap
    exact⟨o,es,ep,g.up _ o nD.1 ho,r⟩
   ·exact λhs=>⟨(gp.trans g).upd x.toaY new hs.extBut,trivial⟩
end
end
set_option tactic.hygienic false
section
section
variable{ps:List (Int×α)}{k x:Int}{v:α}
def d4 {α:Type}:List (Int×α)->Int->α->List (Int×α)
 | [],k,v=> [(k,v)]
 | (k',v')::r,k,v=>if k'=k then(k,v)::r else(k',v')::d4 r k v
theorem gX {k':Int}{v':α}{r:List (Int×α)}:d4 ((k',v')::r) k v=if k'=k then(k,v)::r else(k',v')::d4 r k v:=rfl
theorem dh:((k,v)::ps).lookup x=if x=k then W8 v else ps.lookup x:=by
 refine ab Qe ?_;by_cases h:x=k
 ·rw[if_pos h,h,beq_self_eq_true]
 ·exact ab (if_neg h) (ab (beq_false_of_ne h) rfl)
theorem ka:∀(ps:List (Int×α)),(d4 ps k v).lookup x=if x=k then W8 v else ps.lookup x
 | []=>dh
 | (k',v')::r=>by
   refine ab gX ?_;by_cases h:k'=k
   ·refine ab (if_pos h) (ab dh (ab dh (ab h ?_)))
    by_cases hx:x=k
    ·exact ab (if_pos hx) (ab (if_pos hx) rfl)
    ·exact ab (if_neg hx) (ab (if_neg hx) (ab (if_neg hx) rfl))
   ·refine ab (if_neg h) (ab dh (ab dh (ab (ka r) ?_)))
    by_cases hx:x=k'
    ·exact ab (if_pos hx) (ab (if_pos hx) (ab (if_neg λe=>h (hx.symm.trans e)) rfl))
    ·exact ab (if_neg hx) (ab (if_neg hx) rfl)
theorem iR:∀(ps:List (Int×α)),(d4 ps k v).length=if(ps.lookup k).isSome then ps.length else ps.length+1
 | []=>rfl
 | (k',v')::r=>by
   refine ab gX (ab dh ?_);by_cases h:k'=k
   ·refine ab (if_pos h) (ab (if_pos h.symm) ?_);rfl
   ·refine ab (if_neg h) (ab (if_neg (Te h)) ?_)
    show(d4 r k v).length+1=_;refine ab (iR r) ?_;split<;>rfl
theorem iO:∀(ps:List (Int×α)),(ps.map (·.1)).zip (ps.map (·.2))=ps
 | []=>rfl
 |p::ps=>congrArg (p:: ·) (iO ps)
end
section
theorem mB {d:OO}{ps:List (Int×Oq)}{k:Int}{t:Tok}{v:Oq}{Q:Unit->On->Prop}(hm:cF s.heap.get? d (ps.map (·.1)) (ps.map (·.2)))(hn:ps.length<=Sr)
 (hQ:∀h',cF h'.get? d ((d4 ps k v).map (·.1)) ((d4 ps k v).map (·.2))->OE d s.heap h'->Q () {s with heap:=h',toks:=s.toks+1}):
 Oz (Ov ag w) A (dictSet d (.int k t) v) Q E s:=by
 injections s A E d ps k t v Q _ hm hn hQ;obtain⟨_,hsys,o,es,ep,ho,hc,hd,hk,hf,YE⟩:=hm;have hk:IntKeys es:=hk;have hf:∀x,findBy S7 es x=ps.lookup x:=λx=>(hf x).trans (by unfold lk;rw[iO]);have hl:∀x,lk ((d4 ps k v).map (·.1)) ((d4 ps k v).map (·.2)) x=if x=k then W8 v else ps.lookup x:=λx=>by unfold lk;rw[iO,ka]
 have hlen:((d4 ps k v).map (·.1)).length=((d4 ps k v).map (·.2)).length:=by rw[OA,OA]
 rw[OA]at YE;unfold dictSet
 try with_reducible refine ON ?_
 refine Og (wpAny_pyHash_int ?_);unfold dictSetHashed
 try with_reducible refine ON ?_
 refine Og (wpAny_dictFind_int (s:= {s with toks:=s.toks+1}) ho hd hk ?_);have hfk:=hf k;rw[findBy_of_findIdx?]at hfk;cases hi:es.findIdx? λe=>S7 k e.key with
 |some i=>
  rw[hi]at hfk;have YS:(ps.lookup k).isSome=true:=by refine bV hfk ?_;show(es[i]?.map _).isSome=true;rw[PU (Array.findIdx?_eq_some_iff_getElem.mp hi).1];rfl
  refine Og (QL (Og (wpAny_updateDict (s:= {s with toks:=s.toks+1}) ho hd (Uo (hQ _ ⟨hlen,hsys,_,_,ep,Pm _ ho (Wl (Obj.data_mapDict hd _)),hc.mapDict _,Obj.data_mapDict hd _,hk.modify _ _,λx=> ?_,?_⟩ (Ph ..))))))
  ·rw[findBy_modify S7 Oq.isInt_inj es k x v i hi,hf,hl]
  ·rw[OA,iR,if_pos YS,Array.size_modify];exact YE
 |none=>
  rw[hi]at hfk;have hout:ps.lookup k=W9:=hfk.symm;refine Og (QL (wpAny_updateDictKeys (hz:=Op YE hn) (s:= {s with toks:=s.toks+1}) ho hd (hQ _ ⟨hlen,hsys,_,_,ep+1,Pm _ ho (Wl (VX hd _)),hc.mapDictKeys _,VX hd _,hk.push _ _ _,λx=> ?_,?_⟩ (Ph ..))))
  ·rw[findBy_push S7 es k x _ _ v (λy=>by exact Bool.beq_comm) hi,hf,hl]
  ·rw[OA,iR,hout,Array.size_push];exact Q6 YE
end
def yI:V->Int
 | .tup [.int k,_]=>k
 |_=>0
def wP:V->V
 | .tup [_,t]=>t
 |_=> .none
def fz (l:List V):List (Int×V):=l.foldl (λps p=>d4 ps (yI p) (wP p)) []
def cU (l:List V):V:= .dict ((fz l).map (·.1)) ((fz l).map (·.2))
theorem kj (l:List V)(p:V):fz (l++ [p])=d4 (fz l) (yI p) (wP p):=List.foldl_append
section
variable{g:a0}
theorem k8:∀ {qs:List (Int×V)} {ps:List (Int×Oq)} {k:Int},qs.map (·.1)=ps.map (·.1)->aq K g (qs.map (·.2)) (ps.map (·.2))->bj K g t v->
 (d4 qs k t).map (·.1)=(d4 ps k v).map (·.1)/\ aq K g ((d4 qs k t).map (·.2)) ((d4 ps k v).map (·.2))
 | [],[],k,_,_,h=>⟨rfl,aq.cons h aq.nil⟩
 | [],_::_,k,e,_,_=>nomatch e
 |_::_,[],k,e,_,_=>nomatch e
 | (a,x)::qs,(b,y)::ps,k,e,hr,h=>by
   injection e with e1 e2;obtain⟨v',r,er,h1,h2⟩:=hr.cons_inv;injection er with er1 er2;simp only[<-er2]at h2;have e1:a=b:=e1;have er1:y=v':=er1;refine ab gX (ab gX ?_);by_cases hk:a=k
   ·refine ab (if_pos hk) (ab (if_pos (e1▸hk)) ?_)
    exact⟨congrArg (k:: ·) e2,aq.cons h h2⟩
   ·refine ab (if_neg hk) (ab (if_neg (e1▸hk)) ?_)
    obtain⟨i1,i2⟩:=k8 (k:=k) e2 h2 h;refine ab e1 (ab er1 ?_);exact⟨congrArg (b:: ·) i1,aq.cons h1 i2⟩
theorem rH:∀(l:List V) (ps:List (Int×V)),(l.foldl (λps p=>d4 ps (yI p) (wP p)) ps).length<=ps.length+l.length
 | [],ps=>O5 _
 |p::l,ps=>by
  refine Op (rH l _) ?_;rw[iR,Qf,<-T8,SW];refine TE ?_ _;split
  ·exact QK _
  ·exact O5 _
theorem sS (l:List V):(fz l).length<=l.length:=Op (rH l []) (O2 (O1 _))
theorem Br (B:BF C):Mk C cU newDict where
 inst:=λl c fs h=>nomatch h
 run:=λA s Q i q=>by
  refine Og (Tu (Oi (q {cls:= .type "dict",data:= .dict #[]} rfl λX3 g e=> ?_)));have Yn:(s.heap.objs.size==Sp)=false:=by obtain⟨h1,o,h2⟩:=B.sys;exact beq_false_of_ne (Qh (Pl (i.base _ o h1 h2)))
  exact⟨_,[],rfl,⟨rfl,Yn,_,#[],0,e,⟨rfl,rfl,rfl⟩,rfl,λe he=>absurd he (TG e),λk=>rfl,O5 _⟩,aq.nil⟩
end
end
section
section
variable{kx vx:Ol}{gens:List Qi}{d:Nat}{b:Bool}{ek ev:ED}{n:Str}{i:Nat}{f:ai->V->Option (List V)}
def mx (kx vx:Ol)(p:Pos)(acc:Oq)(env:Env):Sem Unit:=
 PX kx env>>=λkv=>Qo [kv] (PX vx env)>>=λvv=>match acc with
 | .ref d=>Qb p>>=λ_=>Qo [kv,vv] (dictSet d kv vv)
 |_=>SY "internal:dictcomp"
theorem vg (hg:gens[d]?=W8 ⟨target,iter,XU,0⟩)(hn:gens[d+1]?=W9):mN (.DictComp kx vx gens scope pos) d target XU (mx kx vx {kx.pos with endLine:=vx.pos.endLine,endCol:=vx.pos.endCol}):=by injections pos target iter scope XU kx vx gens d _ hg hn;refine⟨iter.pos,λit acc env=>⟨mx kx vx {kx.pos with endLine:=vx.pos.endLine,endCol:=vx.pos.endCol} acc env>>=λ_=>again (.compLoop (.DictComp kx vx gens scope pos) d it acc env),?_,λh=>Og (Ot h (λ_ s' q=>Oi q) λ_ _ f=>f)⟩⟩;unfold TZ;simp only[hg,hn];rfl
theorem mF:mQ (.DictComp kx vx gens scope pos) gens:=⟨rfl,λ_ _ _ _=>rfl,λ_ _ _ _=>rfl,λ_ _ _ _=>rfl,λ_ _ _ _ _=>rfl,λ_ _ _ _ _=>rfl⟩
def gf (ek ev:ED):ai->Option (List V):=λσ=>(ek σ).bind λa=>(ev σ).bind λb=>match a with
 | .int k=>W8 [.tup [.int k,b]]
 |_=>W9
theorem wN {g:a0}{qs:List (Int×V)}(h:aq K g (qs.map (·.2)) vs):∃ps:List (Int×Oq),qs.map (·.1)=ps.map (·.1)/\ vs=ps.map (·.2):=by have hl:=h.length;rw[OA]at hl;have YR:(qs.map (·.1)).length=vs.length:=(OA _).trans hl.symm;exact⟨(qs.map (·.1)).zip vs,(Ux (O2 YR)).symm,(WU (O2 YR.symm)).symm⟩
theorem wg (hk:aC C k ci kx ek)(hv:aC C k ci vx ev):u7 C k ci cU (mx kx vx p) (gf ek ev):=λA U env σ s D l ys rm a e hlen=>by
 injections k p ci kx vx ek ev A U env σ s D l ys _ hk hv rm a e hlen;exact ay e λx hx e=>ay e λy hy e=>nY e λi hi e=>Og (hk.runI rm a.x (hi▸hx) λtk XB XI XD=>Og (ON (hv.run rm XD hy λv XC XF XG rv=>Og (Py (ON (by
  have Zs:=(a.grow XI).grow XF;have acc:=Zs.acc;rw[<-Oh e]at hlen⊢;obtain⟨o,vs,eo,h1,h2⟩:=acc;cases eo;obtain⟨ps,e1,e2⟩:=wN h2;simp only[e1,e2]at h1;simp only[e2]at h2;have Zb:ps.length<=Sr:=by have h3:=sS l;have h4:=congrArg TL e1;simp only[OA,OA]at h4;refine(h4)▸ ?_;exact Op h3 (Op (Rt _ _) (Op hlen (by decide+kernel)))
  have u1:=(k8 (k:=i) e1 h2 rv).1;have u2:=(k8 (k:=i) e1 h2 rv).2;refine mB h1 Zb λh' q1 q2=> ?_;have t:=Zs.turn (l':=l++ [.tup [.int i,y]]) (tk:=XC.toks+1) q2 ((by obtain⟨_,_,o,_,_,ho,_⟩:=q1;exact⟨o,ho⟩)) (by
   delta cU fe
   simp only[kj];exact⟨D,(d4 ps i v).map λp:Int×Oq=>p.2,rfl,(show cF h'.get? D ((d4 (fz l) i y).map λp:Int×V=>p.1) _ from u1▸q1),u2⟩)
  exact⟨U,((XI.trans XF).ev (J:=bM)).trans a.x.toaY t.2 (λ_ h=> .inl (.inr h)) (λ_=> .inl),t.1⟩))))))
theorem sV (hg:gens[d]?=W8 ⟨target,iter,XU,0⟩)(hn:gens[d+1]?=W9)
 (ht:d9 C k ci b target st) (hu:wM st) (Y4:gC C k ci XU cond) (hk:aC C k ci kx ek) (hv:aC C k ci vx ev):cX C k ci cU (.DictComp kx vx gens scope pos) d b target (aj st cond (gf ek ev)):=
 jV mF (vg hg hn) ht hu Y4 (wg hk hv)
theorem vC (B:BF C)(ci:Cx)(hc:c5 scope cx ci=true)(hi:dP C k cx b false target iter di Eq) (hl:cX C k ci cU (.DictComp kx vx [⟨target,iter,XU,0⟩] scope pos) 0 b target f) (hs:∀env x,OU iter env x=pure x):aag C k cx (.DictComp kx vx [⟨target,iter,XU,0⟩] scope pos) scope newDict iter (dX cU ci di f):=λA U env σ s t rm x e _ _ _ q=>j0 (Br B) mF hc hi hl hs rm x.tobA e q
theorem Dy (h:∀c,P8 (.DictComp kx vx gens scope pos) (W8 (.Name n p)) ln env=pure c->P):P:=h _ rfl
theorem td {Q:Wv->On->Prop}(hs:P8 (.DictComp kx vx [⟨target,iter,XU,0⟩] scope pos) (W8 (.Name n p)) sp.line env=pure true)
 (h:Oz (Ov ag w) A (UD (.DictComp kx vx [⟨target,iter,XU,0⟩] scope pos) scope env (firstIterPos [⟨target,iter,XU,0⟩] pos) newDict false (PX iter env) (W8 (WM (.Name n p) env))) (λ_ s'=>Q .next s') (λ_ _=>False) s):
 Oz (Ov ag w) A (exec (.Assign [.Name n p] (.DictComp kx vx [⟨target,iter,XU,0⟩] scope pos) sp) env) Q (λ_ _=>False) s:=by
 refine ab (WJ _ _ _ _ hs) ?_;refine Og (Py (Og ?_));exact Og (Ot h (λ_ s' hq=>Oi (Oi hq)) λ_ _ e=>e)
theorem qR (B:BF C)(ci:Cx)(hx:cx.vars.lookup n=W8 i)(ho:i∉cx.own)(hf:i∉cx.fre)(hc:c5 scope cx ci=true)(hi:dP C k cx b false target iter di Eq)
 (hl:cX C k ci cU (.DictComp kx vx [⟨target,iter,XU,0⟩] scope pos) 0 b target f) (hs:∀env x,OU iter env x=pure x:=by intro _ _;rfl):
 du C k cx oc (.Assign [.Name n p] (.DictComp kx vx [⟨target,iter,XU,0⟩] scope pos) sp) cx.own (ak i (dX cU ci di f)):=λA U env σ s r rm x e=>
 dF e λt ht er=>Dy (kx:=kx) (vx:=vx) (gens:= [⟨target,iter,XU,0⟩]) (scope:=scope) (pos:=pos) (p:=p) (n:=n) (ln:=sp.line) (env:=env) λc hw=>by
  have hC:=vC B ci hc hi hl hs;refine(er)▸ ?_;cases c with
  |true=>exact td hw (hC A U env σ s t rm x ht λD L s' c=>Rn (kJ (oc:=oc) hx ho hf x A D L s' c).2)
  |false=>refine Rp ?_ hw;exact hC A U env σ s t rm x ht (use:=W9) λD L s' c=>(by obtain⟨m,hm⟩:=c.ns;exact⟨m,hm,λh' X2=>(kJ (oc:=oc) hx ho hf x A D L s' c).1 h' X2⟩)
end
end
section
def DJ {α:Type}(n:Nat)(lt:Nat->Nat->Bool):KasT α->Option α
 | .ret a=>W8 a
 | .ask i j k=>if i<n/\ j<n then DJ n lt (k (lt i j))else W9
theorem rx {α:Type}{cmp:Nat->Nat->(Bool->On->Prop)->On->Prop}{n:Nat}{lt:Nat->Nat->Bool}{s:On}(h:∀i j (C:Bool->On->Prop),i<n->j<n->C (lt i j) s->cmp i j C s){Q:α->On->Prop}:∀(t:KasT α) (a:α),DJ n lt t=W8 a->Q a s->t.kasWp cmp Q s
 | .ret b,a,e,q=>by cases e;exact q
 | .ask i j k,a,e,q=>f7 e λZm e=>h i j _ Zm.1 Zm.2 (rx h (k (lt i j)) a e q)
section
theorem En {n:Nat}{P:PySem.Fin->On->Prop}(ho:s.heap.get? a=W8 (Ri "list" vs.toArray n))(h2:2<=vs.length)(ZL:vs.length<64)
 (h:∀h' e1,(∀b o,b≠a->s.heap.get? b=W8 o->h'.get? b=W8 o)->h'.get? a=W8 (Ri "list" #[] e1)->Oz (Ov ag w) A (keyKind' vs.toArray) (λκ s'=>(kas_sort vs.length).kasWp (kas_ask ag w A κ vs) (λp Ye=>Ye.heap.get? a=W8 (Ri "list" #[] e1)/\∀YU c,YU.get? a=W8 (Ri "list" (Sf (p.toList.map λi=>vs.getD i PA)) c)->OE a Ye.heap YU->P (.done (.ret .none)) {Ye with heap:=YU}) s') (λ_ _=>False) {s with heap:=h'}):
 Oz (Ov ag w) A (OT.«list.sort» ⟨[.ref a],[]⟩) P E s:=by
 injections s a A E vs n P _ ho h2 ZL h;have ha:a<s.heap.objs.size:=Pl ho;have s1:=Ph s.heap a (PG λ_=>(#[]:Array Oq));obtain⟨e1,ho1⟩:∃e1,(s.heap.update a (PG λ_=>(#[]:Array Oq))).get? a=W8 (Ri "list" #[] e1):=⟨_,get?_update_seq ho λ_=> #[]⟩;have ask:=h (((s.heap.update a (PG λ_=>(#[]:Array Oq))).push (Ri "tuple" vs.toArray 0)).push (Ri "list" #[] 0)) e1 (λb o hb e=>Om _ (Om _ ((s1.2 b hb).trans e))) (Om _ (Om _ ho1));rw[list_sort_plain];refine Og (listItems_at ho rfl ?_);refine Og (listUpdate_at ho rfl ?_ (by refine ab OI (ab P7 ?_);exact Op (Qp ZL) (by decide)) (QJ _));refine Og (seqEpoch_at ho1 rfl ?_);refine Og (wpAny_newTuple ?_ (by show vs.length<=_;refine ab P7 ?_;exact Op (Qp ZL) (by decide)));refine Og (V2 ?_ (QJ _));refine ON ?_;have hn2:¬vs.toArray.size<2:=by refine ab OI ?_;exact R8.mpr h2
 refine ab (if_neg hn2) (ab (if_neg hn2) ?_);refine Og (Ot ask (λκ s0 hk=> ?_) λ_ _ x=>x.elim);refine Og (Ot (kat_run (Q:=λst' s'=> ∃p:Array Nat,p.size=vs.length/\ arrOf st'=p.map (kas_item (vs.toArray.zip vs.toArray))/\ failedOf st'=W9/\ s'.heap.get? a=W8 (Ri "list" #[] e1)/\
  ∀YU c,YU.get? a=W8 (Ri "list" (Sf (p.toList.map λi=>vs.getD i PA)) c)->OE a s'.heap YU->P (.done (.ret .none)) {s' with heap:=YU})
  rfl h2 ZL (λp' st' s' a1 a2 a3 a4=>⟨p',a1,a2,a3,a4⟩) hk) ?_ λ_ _ e=>e)
 rintro⟨⟨⟩,st'⟩ s' ⟨p,hp,har,hf,na,k⟩;dsimp only;have hout:=kat_snds rfl har;have YE:(Sf (p.toList.map λi=>vs.getD i PA)).size=vs.length:=by rw[OI,OA,VQ,hp]
 refine(hout)▸ ?_;have s2:=Ph s'.heap a (PG λ_=>Sf (p.toList.map λi=>vs.getD i PA));obtain⟨c2,hc2⟩:∃c2,(s'.heap.update a (PG λ_=>Sf (p.toList.map λi=>vs.getD i PA))).get? a=W8 (Ri "list" (Sf (p.toList.map λi=>vs.getD i PA)) c2):=⟨_,get?_update_seq na λ_=>Sf (p.toList.map λi=>vs.getD i PA)⟩;refine Og (seqEpoch_at na rfl ?_);refine Og (listUpdate_at na rfl ?_ (QJ _) (Op (O2 YE) (by refine ab P7 ?_;exact Op (Qp ZL) (by decide))));refine ab hf ?_;rw[bne_self_eq_false,if_neg OD];exact Oi (k _ c2 hc2 s2)
end
def lE:V->Int×Int
 | .tup [.int a,.int b]=>(a,b)
 |_=>(0,0)
def pD:V->Bool
 | .tup [.int _,.int _]=>true
 |_=>false
def Jt (p q:Int×Int):Bool:=if p.1==q.1 then(if p.2==q.2 then false else decide (p.2<q.2))else decide (p.1<q.1)
def Gn (xs:List V):Option (List V):=(DJ xs.length (λi j=>Jt (lE (xs.getD i .none)) (lE (xs.getD j .none))) (kas_sort xs.length)).map λp=>p.toList.map λi=>xs.getD i .none
def r9:V->Option V
 | .list xs=>if xs.all pD&&decide (2<=xs.length/\ xs.length<64)then(Gn xs).map Xe else W9
 |_=>W9
section
variable{h:O0}
theorem vV (h:pD x=true):∃a b,x= .tup [.int a,.int b]:=by
 cases x with
 |tup xs=>
  cases xs with
  |nil=>exact absurd h OD
  |cons p xs=>
   cases p with
   |int a=>
    cases xs with
    |nil=>exact absurd h OD
    |cons q xs=>
     cases q with
     |int b=>
      cases xs with
      |nil=>exact⟨_,_,rfl⟩
      |cons=>exact absurd h OD
     |_=>exact absurd h OD
   |_=>exact absurd h OD
 |_=>exact absurd h OD
theorem iY {g:a0}(r:aq K g xs vs)(i:Nat):bj K g (xs.getD i .none) (vs.getD i .none):=by
 simp only[Pg,Pg];cases e:xs[i]? with
 |some t=>obtain⟨v,hv,hr⟩:=r.get e;refine ab hv ?_;exact hr
 |none=>rw[VD (r.length▸List.getElem?_eq_none_iff.mp e)];exact(rfl:PA= .none)
def Ac (h:O0)(x:V)(v:Oq):Prop:= ∃(ta:OO) (n:Nat) (a b:Int) (u u':Tok),v= .ref ta/\ h.get? ta=W8 {cls:= .type "tuple",dict:=W9,data:= .seq #[.int a u,.int b u'] n,slots:= #[]}/\ lE x=(a,b)
theorem t8 (hx:pD x=true)(r:bj K (view U h) x v):Ac h x v:=by obtain⟨a,b,e⟩:=vV hx;rw[e]at r⊢;obtain⟨ta,ws,ev,⟨n,h1⟩,r⟩:=r;obtain⟨v1,r1,ew,i1,r⟩:=r.cons_inv;obtain⟨v2,r2,er,i2,r⟩:=r.cons_inv;obtain⟨u,i1⟩:=cG i1;obtain⟨u',i2⟩:=cG i2;simp only[ew,er,r.nil_inv,i1,i2]at h1;exact⟨ta,n,a,b,u,u',ev,(ao.mp h1).2,rfl⟩
theorem Gi {K:br}:∀ {xs:List V} {vs:List Oq},aq K (view U h) xs vs->xs.all pD=true->∃fs:List Oq,fs.length=xs.length/\ KatTups h vs fs/\ ∀f∈fs,∃a u,f= .int a u
 | [],vs,r,_=>by refine ab r.nil_inv ?_;exact⟨[],rfl,trivial,λ_ h=>nomatch h⟩
 |x::xs,vs,r,ha=>by obtain⟨h1,h2⟩:=OR.mp ha;obtain⟨v,r',ev,r1,r2⟩:=r.cons_inv;obtain⟨fs,f1,f2,f3⟩:=Gi r2 h2;obtain⟨ta,n,a,b,u,u',e,q,_⟩:=t8 h1 r1;refine ab ev (ab e ?_);exact⟨.int a u::fs,congrArg (· +1) f1,KatTups.cons q rfl rfl rfl f2,λf hf=>(OG.mp hf).elim (λe=>⟨a,u,e⟩) (f3 f)⟩
theorem ya:iK C k (λv=>call (.builtin "sorted") [v]) r9:=λA U s x t v rm ok e r=>by
 injections k A U s x t v _ rm ok e r;refine yw e λxs hx e=>f7 e λhc e=>dF e λys YM e=>dF YM λp hp YM=> ?_;obtain⟨j',hc⟩:=OR.mp hc;obtain⟨h2,ZL⟩:=of_decide_eq_true hc;simp only[hx]at r;refine bV e (bV YM ?_);obtain⟨l,vs,hv,hl,hr⟩:=r;refine(hv)▸ ?_;have hL:s.heap.IsList l vs.toArray:=(by obtain⟨n,h⟩:=hl;exact bw.list' ⟨n,(av.mp h).2⟩);have hlen:=hr.length;have hss:vs.length<=Sr:=Op (Qp (hlen▸ZL)) (by decide+kernel);refine U0 kind_sorted plain_sorted entry_sorted (args_sorted1 _) ?_;refine Og (m:=checkCount "sorted" 1 1 _) (Oi ?_);refine Og (collect_list hL ?_ hss);refine Og (V2 ?_ hss);have YE:((s.heap.push (Ri "list" #[] 0)).update s.heap.objs.size (PG (· ++vs.toArray))).objs.size=s.heap.objs.size+1:=by rw[O0.size_update,size_push']
 have hoL:(((s.heap.push (Ri "list" #[] 0)).update s.heap.objs.size (PG (· ++vs.toArray))).push (Ri "list" vs.toArray 0)).get? (s.heap.objs.size+1)=W8 (Ri "list" vs.toArray 0):=by exact(YE)▸(OB _ rfl)
 have keep:∀b o,s.heap.get? b=W8 o->(((s.heap.push (Ri "list" #[] 0)).update s.heap.objs.size (PG (· ++vs.toArray))).push (Ri "list" vs.toArray 0)).get? b=W8 o:=λb o q=>
  have ZQ:=Px (Pl q)
  Om _ ((O0.get?_update_ne _ _ _ _ ZQ).trans (Om _ q))
 show Oz _ _ _ _ _ {s with heap:=((s.heap.push (Ri "list" #[] 0)).update s.heap.objs.size (PG (· ++vs.toArray))).push (Ri "list" vs.toArray 0)};refine ab YE ?_;generalize ((s.heap.push (Ri "list" #[] 0)).update s.heap.objs.size (PG (· ++vs.toArray))).push (Ri "list" vs.toArray 0)=H at hoL keep;have hD0:s.heap.get? (s.heap.objs.size+1)=W9:=OX (QK _);generalize s.heap.objs.size+1=D at hoL hD0;refine Og (ON (O9 slot_list_sort ⟨_,hoL,rfl⟩ entry_list_sort ?_ (args_list_sort _)));refine En (A:=A.in1.in1) (s:= {s with heap:=H}) hoL (hlen▸h2) (hlen▸ZL) λh' e1 hk' ha'=> ?_;have kp:∀b o,s.heap.get? b=W8 o->h'.get? b=W8 o:=λb o e=>hk' b o (λh=>by rw[h,hD0]at e;cases e) (keep b o e);have up:∀ {YU:O0},(∀b o,s.heap.get? b=W8 o->YU.get? b=W8 o)->aH C s {s with heap:=YU}/\ aq C.cls (view U YU) xs vs:=λhk=>
  have g:=aH.heap (s:=s) (tk:=s.toks) hk
  ⟨g,aq.mono (g.le ok.tU) _ _ hr⟩
 have Y':=(up kp).2;have item:∀i,i<xs.length->Ac h' (xs.getD i .none) (vs.getD i .none):=λi hi=>t8 (Ou.mp j' _ (by rw[Pg,OP hi];exact Uz hi)) (iY Y' i);obtain⟨fs,f1,f2,f3⟩:=Gi Y' j';refine kat_kind (T:= .type "int") f2 (f1.symm▸OL (by decide) h2) (λf hf=> ?_) (by decide) ?_
 ·obtain⟨a,u,e⟩:=f3 f hf
  refine ab e ?_;exact TX rfl
 simp only[hlen];refine rx (n:=xs.length) (lt:=λi j=>Jt (lE (xs.getD i .none)) (lE (xs.getD j .none))) (λi j Cq hi hj hq=> ?_) _ p hp ⟨ha',λYU c hc hs=>⟨_,rfl,Oi ⟨_,rfl,?_⟩⟩⟩
 ·obtain⟨t1,n1,a1,b1,u1,u1',e1,g1,p1⟩:=item i hi
  obtain⟨t2,n2,a2,b2,u2,u2',e2,g2,p2⟩:=item j hj;unfold kas_ask;refine ab e1 (ab e2 ?_);refine kat_lt g1 rfl g2 rfl ?_;simp only[p1,p2]at hq;unfold Jt at hq;refine kat_cons (wpAny_eqBool_int (kat_go (λe=> ?_) λe=> ?_))
  ·rw[if_pos e]at hq
   refine kat_yes (kat_cons (wpAny_eqBool_int (kat_go (λe'=> ?_) λe'=> ?_)))
   ·rw[if_pos e']at hq
    exact kat_yes (kat_nil hq)
   ·rw[if_neg (e'▸OD)]at hq
    exact kat_no (kat_one _ _ (UM hq))
  ·rw[if_neg (e▸OD)]at hq
   exact kat_no (oneLt_int hq)
 ·obtain⟨g,rl⟩:=up λb o e=>(hs.2 b λh=>by rw[h,hD0]at e;cases e).trans (kp b o e)
  exact⟨g,sL (ok.new hD0).2.1 hc ((λq:List Nat=>List.rec (motive:=λq=>aq C.cls (view U YU) (q.map λi=>xs.getD i .none) (q.map λi=>vs.getD i PA)) aq.nil (λi q ih=>aq.cons (iY rl i) ih) q) p.toList)⟩
end
end
section
def wV (x i e:V):Option V:=match x,i with
 | .dict ks ts,.int i=>W8 ((Au ks ts i).getD e)
 |_,_=>W9
theorem F2 {i e:V}(h:wV x i e=W8 t)(q:∀ks ts j,x= .dict ks ts->i= .int j->(Au ks ts j).getD e=t->P):P:=by
 cases x with
 |dict ks ts=>
  cases i with
  |int j=>exact q ks ts j rfl rfl (Oh h)
  |_=>exact absurd h aI
 |_=>exact absurd h aI
theorem ul {K:br}{g:a0}:∀ {ks:List Int} {ts:List V} {vs:List Oq},aq K g ts vs->∀ {i:Int},Au ks ts i=W9->lk ks vs i=W9
 | [],ts,vs,h,i,e=>rfl
 |k::ks,[],vs,h,i,e=>by refine ab h.nil_inv ?_;rfl
 |k::ks,x::ts,vs,h,i,e=>by
  obtain⟨v,r,hv,h1,h2⟩:=h.cons_inv;refine(hv)▸ ?_;have e:((k,x)::ks.zip ts).lookup i=W9:=e;show((k,v)::ks.zip r).lookup i=W9;rw[dh]at e⊢;split at e
  ·exact nomatch e
  ·rename_i hk;refine ab (if_neg hk) ?_;exact ul h2 e
theorem xu {a b c:ED}(ho:aC C k cx po a)(hi:aC C k cx pi b)(he:aC C k cx pe c)
 (hb:∀env,Pq po "get" env (PX po env)=PX po env:=by intro _;rfl) (hs:∀env,OC [pi,pe] env= [(false,PX pi env),(false,PX pe env)]:=by intro _;rfl) (hl:(ap.endLine==cp.line)=true:=by rfl):
 aC C k cx (.Call (.Attribute po "get" ap) [pi,pe] [] cp) (λσ=>(a σ).bind λx=>(b σ).bind λy=>(c σ).bind λz=>wV x y z):=λA U env σ s t rm x e=>
 ay e λy hy e=>ay e λi hi' e=>ay e λz hz e=>F2 e λks ts j hyd Zm e=>Call_method2 (hb env) (hs env) hl (ho.runE rm x hy λv XB XI XD XQ=>by
  rw[hyd]at XQ;obtain⟨d,vs,hv,h1,h2⟩:=XQ;refine(hv)▸ ?_;have hm:=h1.mapOf (h:=XB.heap) dw;refine⟨"dict","dict.get",F.plainAttrs_dict,F.slot_dict_get,F.type_dict_get,hm.typeIs,hm.noDict,wpAny_dict_get2 (knd:=Rf ag w) h1.2.1 (hi.runE rm XD (Zm▸hi') λu XC XF XG XZ=>he.runE rm XG hz λq XJ XW Yp Yq=> ?_)⟩;obtain⟨tk,hu⟩:=cG XZ;refine ab hu ?_;have le:Le (view U XB.heap) (view U XJ.heap):=(XF.trans XW).le x.tU;refine⟨j,lk ks vs,Qz _ _ _ _,(h1.mono le).mapOf dw,((XI.trans XF).trans XW).trans .tok,?_⟩;simp only[<-e];cases hk:Au ks ts j with
  |some t'=>obtain⟨v',e1,e2⟩:=sW h2 hk;refine(e1)▸ ?_;exact bj.mono le _ _ e2
  |none=>refine(ul h2 hk)▸ ?_;exact Yq)
theorem zK (h:env.scope.kind= .function):env.blockKind= .function:=by unfold Env.blockKind;refine ab h ?_;rfl
theorem AJ {n m c:Str}{tp:Pos}{l r:Ol}{op:R5}(hb:env.blockKind= .function)(hn:env.kindOf n=W8 .local)(hm:env.kindOf m=W8 .local)(hq:(q.line==p.line)=true)(hnm:(m==n)=false)(f2:Tc 8 (.Name c cp)=false):
 swappedStores [.Tuple [.Name n p,.Name m q] ct tp] (.Tuple [.Name c cp,.BinOp l op r bp] vct vp) env=pure (W8 [n,m]):=by
 have f1: [S4 c cp,.BinOp l op r bp].all (foldedForSure 8)=false:=rfl;have f2: [S4 c cp,.BinOp l op r bp].all (Tc 8)=false:=by show(Tc 8 (.Name c cp)&&_)=false;refine ab f2 ?_;rfl
 have e1:List.filterMap (λ | .Name id pos=>if env.kindOf id==W8 .local&&pos.line==p.line then W8 id else W9 |_=>W9) [S4 n p,.Name m q]= [n,m]:=by rw[Ve (b:=n) (by show(if _ then _ else _)=_;refine ab hn (ab (beq_self_eq_true p.line) ?_);rfl),Ve (b:=m) (by show(if _ then _ else _)=_;refine ab hm (ab hq ?_);rfl)];rfl
 have e2: [n,m].eraseDups= [n,m]:=by rw[List.eraseDups_cons,List.filter_cons_of_pos (by refine ab hnm ?_;rfl)];rfl
 unfold swappedStores;dsimp only;generalize hG:List.filterMap _ [S4 n p,.Name m q]=G;rw[if_neg (by refine ab hb ?_;exact OD),if_neg (by exact OD),hG.symm.trans e1,if_neg (by refine ab e2 ?_;exact OD),f1,f2];rfl
theorem bF.local (x:bF C cx U env σ s){n:Str}{i:Nat}(hx:cx.vars.lookup n=W8 i)(hf:i∉cx.fre)(hm:n∉cx.mn):env.kindOf n=W8 .local:=(x.loc n i hx hf).resolve_right λh=>hm h.2.1
theorem cb {i:Nat}{p q:Option V}(h:i≠j):aw (aw σ j q) i p=aw (aw σ i p) j q:=List.set_comm _ _ (Te h)
theorem xk {n m c:Str}{tp:Pos}{i:Nat}{l r:Ol}{op:R5}(hnm:(m==n)=false)(Zm:(i==j)=false)(hq:(q.line==p.line)=true)(f2:Tc 8 (.Name c cp)=false)(hx:cx.vars.lookup n=W8 i)(ho:i∉cx.own)(hf:i∉cx.fre)(hy:cx.vars.lookup m=W8 j)(Yw:j∉cx.own)(Zv:j∉cx.fre)(hmn:n∉cx.mn/\ m∉cx.mn)
 (h:aC C k cx (.Tuple [.Name c cp,.BinOp l op r bp] vct vp) d):du C k cx oc (.Assign [.Tuple [.Name n p,.Name m q] ct tp] (.Tuple [.Name c cp,.BinOp l op r bp] vct vp) pos) cx.own (bE d (eH i j)):=by
 injections k j ct vct pos p q cp vp bp cx oc d n m c tp i l r op _ hnm Zm hq f2 hx ho hf hy Yw Zv hmn h;exact λA U env σ s r' rm x e=>ay e λt h1 e=>dF e λσ' h2 e=>AM h2 λa b ht h2=>by refine Og (Py (Og (Pc (a:=false) rfl ?_)));refine ab (if_neg OD) (ab (AJ (zK x.kind) (x.local hx hf hmn.1) (x.local hy Zv hmn.2) hq hnm f2) ?_);refine Og (h.run rm x h1 λv XB g XD rv=>Og (Oi ?_));simp only[ht]at rv;obtain⟨ta,vs,hv,hseq,hr⟩:=bj.top dw rv;obtain⟨u,r1,Zl,ru,hr⟩:=hr.cons_inv;obtain⟨u',r2,hr1,ru',hr⟩:=hr.cons_inv;simp only[Zl,hr1,hr.nil_inv]at hseq;refine(hv)▸ ?_;refine Og (QL (Og (unpackItems_tuple (items:= #[u,u']) rm.handled hseq.tup' λh' hk=> ?_)));have XF:aH C XB {XB with heap:=h'}:=aH.heap (tk:=XB.toks) λb o e=>hk b o (Px (Pl e)) e;have XG:=XD.grow XF;have le:=XF.le (U:=U) XD.tU;show Oz _ _ (assignInOrder [bindName env m,bindName env n] [u',u]>>=λ_=>(pure Wv.next:Sem Wv)) _ _ _;refine Og ?_;refine Og (ON (Og (ON (Uo (Og (XG.store hy Yw Zv (bj.mono le _ _ ru') λXJ Yp XR _=>Uo ?_))))));have XR:Ev C (only env.locals) bM U _ U XJ:=XR rfl;refine Og (ON (Og (ON (Uo (Og (Yp.store hx ho hf (bj.mono (le.trans (XR.le x.tU)) _ _ ru) λYm Yd X1 _=>Uo ?_))))));rw[cb (ne_of_beq_false Zm)]at Yd;have X1:Ev C (only env.locals) bM U XJ U Ym:=X1 rfl;refine bV e (bV h2 ?_);exact Oi (Oi (.grow0 (g.trans XF) x.toaY (.ofNext (XR.trans XG.toaY X1 (λ_=> .inl) λ_=> .inl) Yd)))
end
section
section
variable{Yc:Ow}{O₂:List Nat}{n tn:Str}{i:Nat}{L:OO}{q:Slot}
def gu (i:Nat)(l:List Nat):List Nat:=l.filter λj=>decide (j≠i)
theorem dg:j∈gu i l↔j∈l/\ j≠i:=SA.trans (and_congr_right λ_=>decide_eq_true_iff)
theorem qu {p:OO×Slot}(h:U a=W8 p):b5 U a p=U:=funext λb=>by
 by_cases e:b=a
 ·exact ab e (ab aD (ab h rfl))
 ·exact aO e
theorem bF.untake (x:bF C cx U env σ s)(hx:cx.vars.lookup n=W8 i)(ho:i∈cx.own)(h:At C cx U env s n i t a):bF C {cx with own:=gu i cx.own} (b5 U a (a,.obj)) env (aw σ i (W8 (.adr a))) s:=by
 injections s a t cx env U σ n i _ x hx ho h;have ne:∀ {b q},U b=W8 (env.locals,q)->q≠ .own i->b≠a:=λe hq e'=>by rw[e',h.u]at e;cases e;exact hq rfl
 have aL:a≠env.locals:=(ne x.hL λe=>nomatch e).symm;have back:∀ {b q},b5 U a (a,.obj) b=W8 (env.locals,q)->U b=W8 (env.locals,q):=λ {b q} e=>by
  by_cases e':b=a
  ·rw[e',aD]at e;exact absurd (congrArg Ta (Oh e)) aL
  ·exact(aO e').symm.trans e
 have fwd:∀ {b q},U b=W8 (env.locals,q)->q≠ .own i->b5 U a (a,.obj) b=W8 (env.locals,q):=λe hq=>(aO (ne e hq)).trans e;have le:Le (view U s.heap) (view (b5 U a (a,.obj)) s.heap):=λb o e=>by obtain⟨h1,h2⟩:=ao.mp e;exact ao.mpr ⟨(aO λe=>by rw[e,h.u]at h1;cases h1).trans h1,h2⟩
 have hi:i∉gu i cx.own:=λh=>(dg.mp h).2 rfl;exact{x with
  tobA:= {toaY:=⟨x.inv,λb c q e=>by
           by_cases e':b=a
           ·rw[e',aD]at e;cases e;refine ab e' ?_;exact⟨(x.live _ _ _ h.u).1,(x.live _ _ _ h.u).1⟩
           ·exact x.live b c q ((aO e').symm.trans e),λb hb=>by refine ab (aO λe:b=a=>(x.base a _ h.u).1 (e▸hb)) ?_;exact x.tU b hb⟩
          toIe:= {x.toIe with},caps:=x.caps
          vars:=λy l u h1 h2=>(gc h2).elim (λe=>by
           rw[e.1]at h1⊢;refine ab (x.inj y n _ h1 hx) (bV (Oh e.2) ?_);exact⟨_,h.h,λ_=>rfl,λh=>absurd h hi⟩) λe=>
           let ⟨v,p1,p2,p3⟩:=x.vars y l u h1 e.2
           ⟨v,p1,λh=>bj.mono le _ _ (p2 λh'=>h (dg.mpr ⟨h',e.1⟩)),λh=>(p3 (dg.mp h).1).mono (Le.refl _) le⟩}
  hL:=fwd x.hL λe=>nomatch e
  hc:=λm c h1 h2=>fwd (x.hc m c h1 h2) λe=>nomatch e
  hf:=λm c h1 h2=>⟨λq e=>(x.hf m c h1 h2).1 q (back e),(x.hf m c h1 h2).2⟩
  base:=λb q e=>x.base b q (back e)
  own:=λy l u h1 h2 h3=>
   have hl:=(dg.mp h2).2;let ⟨b,p1,p2,p3⟩:=x.own y l u h1 (dg.mp h2).1 ((aU hl).symm.trans h3)
   ⟨b,p1,fwd p2 λe=>hl (by cases e;rfl),p3⟩}
theorem bF.reown (x:bF C {cx with own:=Yo} U env σ s) (h:∀j,j∈Yo↔j∈O₂):bF C {cx with own:=O₂} U env σ s:=by
 injections s cx env Yo U σ O₂ _ x h;exact
  {x with
   tobA:= {x.tobA with toIe:= {x.toIe with},vars:=λy l u h1 h2=>(by obtain⟨v,p1,p2,p3⟩:=x.vars y l u h1 h2;exact⟨v,p1,λq=>p2 λq'=>q ((h l).mp q'),λq=>p3 ((h l).mpr q)⟩)}
   own:=λy l u h1 h2 h3=>x.own y l u h1 ((h l).mpr h2) h3}
theorem Ev.relab (ha:U a=W8 (L,q))(XT:aY C (b5 U a (a,.obj)) s)(ev:Ev C O J (b5 U a (a,.obj)) s Yc s')(h3:Yc a=W8 (a,.obj))(hO:O L)(lL:∃o,s'.heap.get? L=W8 o):Ev C O J U s (b5 Yc a (L,q)) s':=by
 injections s s' a J U O Yc L q _ ha XT ev h3 hO lL;exact
  have ne:∀ {b:OO},(∀c q,U b=W8 (c,q)->¬O c)->b≠a:=λh e=>h L q (e▸ha) hO;have fwd:∀ {b:OO},(∀c q,U b=W8 (c,q)->¬O c)->∀c q,b5 U a (a,.obj) b=W8 (c,q)->¬O c:=λh c q e=>h c q ((aO (ne h)).symm.trans e)
  {keep:=λb o hT hb e=>ev.keep b o hT (fwd hb) e
   col:=λb o e hb=>(aO (ne hb)).trans ((ev.col b o e (fwd hb)).trans (aO (ne hb)))
   own:=λb c q' e=>by
    by_cases h:b=a
    ·rw[h,aD]at e;cases e;exact .inr (.inl hO)
    ·rw[aO h]at e;exact(ev.own b c q' e).imp (λe=>(aO h).symm.trans e) id
   os:=ev.os
   gen:=ev.gen
   go:=λ_=>
    have g:=ev.go XT
    ⟨⟨g.1.inv,λb c q' e=>by
     by_cases h:b=a
     ·rw[h,aD]at e;cases e;refine ab h ?_;exact⟨(g.1.live _ _ _ h3).1,lL⟩
     ·rw[aO h]at e;exact g.1.live b c q' e,λb hb=>by
     by_cases h:b=a
     ·refine ab h (ab aD ?_);exact PY _
     ·refine ab (aO h) ?_;exact g.1.tU b hb⟩,g.2⟩}
def kY (i j:Nat)(bd:SD):SD:=λσ=>(aK σ i).bind λl=>match l with
 | .list xs=>(aQ (cH j) bd xs (aw σ i (W8 (.adr 0)))).bind λr=>(match r.1,aK r.2 i with
   | .next,W8 _=>W8 (.next,aw r.2 i (W8 (.list xs)))
   |_,_=>W9)
 |_=>W9
def Am (i:Nat)(bd:SD):Prop:= ∀(a:OO) (σ:ai) (r:Fl×ai),bd (aw σ i (W8 (.adr 0)))=W8 r->r.1= .next/\ ∃σ',r.2=aw σ' i (W8 (.adr 0))/\ bd (aw σ i (W8 (.adr a)))=W8 (.next,aw σ' i (W8 (.adr a)))
theorem mK (Zm:j≠i)(hb:Am i bd)(a:OO):∀(xs:List V) (σ:ai) (r:Fl×ai),aQ (cH j) bd xs (aw σ i (W8 (.adr 0)))=W8 r->r.1= .next/\ ∃σ',r.2=aw σ' i (W8 (.adr 0))/\ aQ (cH j) bd xs (aw σ i (W8 (.adr a)))=W8 (.next,aw σ' i (W8 (.adr a)))
 | [],σ,r,h=>by refine bV (Oh h) ?_;exact⟨rfl,σ,rfl,rfl⟩
 |x::xs,σ,r,h=>by have h:(bd (aw (aw σ i (W8 (.adr 0))) j (W8 x))).bind _=W8 r:=h;rw[cb Zm]at h;refine ay h λq hq h=> ?_;obtain⟨fl,XK⟩:=q;obtain⟨h1,σ',h2,h3⟩:=hb a _ _ hq;have h1:fl= .next:=h1;have h2:XK=_:=h2;simp only[h1,h2]at h;obtain⟨e1,Yt,e2,e3⟩:=mK Zm hb a xs σ' r h;refine⟨e1,Yt,e2,?_⟩;show(bd (aw (aw σ i (W8 (.adr a))) j (W8 x))).bind _=_;refine ab (cb Zm) (ab h3 ?_);exact e3
theorem BE {r:Fl×ai}(e:kY i j bd σ=W8 r)(k:∀xs q u,aK σ i=W8 (.list xs)->aQ (cH j) bd xs (aw σ i (W8 (.adr 0)))=W8 q->aK q.2 i=W8 u->(.next,aw q.2 i (W8 (.list xs)))=r->P):P:=
 ay e λl hl e=>yw e λxs hx e=>ay e λq hq e=>by
  cases h:q.1 with
  |next=>
   cases h':aK q.2 i with
   |some u=>rw[h,h']at e;exact k xs q u (hx▸hl) hq h' (Oh e)
   |none=>rw[h,h']at e;cases e
  |_=>rw[h]at e;cases e
theorem sz {tq:Pos}(hx:cx.vars.lookup n=W8 i)(ho:i∈cx.own)(hy:cx.vars.lookup tn=W8 j)(hj:j∉cx.own)(hf:j∉cx.fre)(Zm:(j==i)=false)(hbl:Am i bd)
 (hb:bG C k {cx with own:=gu i cx.own} (gu i cx.own) body (gu i cx.own) bd) (hs:∀env x,OU (.Name n p) env x=pure x:=by intro _ _;rfl):
 du C k cx oc (.For (.Name tn tq) (.Name n p) body [] pos) cx.own (kY i j bd):=by
 injections k j pos p cx oc body bd n tn i tq _ hx ho hy hj hf Zm hbl hb hs;exact λA U env σ s r rm x e=>
  BE e λxs q u h0 hq hu er=>x.atE hx ho h0 λa at'=>by
   obtain⟨_,σ',hq2,hq3⟩:=mK (ne_of_beq_false Zm) hbl a xs σ q hq;rw[hq2]at hu er;rw[eI]at er;have XD:=x.untake hx ho at';obtain⟨vs,m,h1,h2⟩:=iT at'.top;have hT:=(av.mp h1).1;have h1:=(av.mp h1).2;have aL:a≠env.locals:=λe=>by have:=x.hL;rw[<-e,at'.u]at this;cases this
   have le:Le (view U s.heap) (view (b5 U a (a,.obj)) s.heap):=λb o e=>by obtain⟨h1,h2⟩:=ao.mp e;exact ao.mpr ⟨(aO λe=>by rw[e,at'.u]at h1;cases h1).trans h1,h2⟩
   refine Vl (Ro (gL x.tobA hx at'.h (iX ((gU.ls (k:=k) (target:= .Name tn tq) (F:=only a)).iter (W:=λ_=>False) (U:=b5 U a (a,.obj)) rm ⟨⟨m,h1⟩,aq.mono le _ _ h2,hT,λc q e=>by rw[aD]at e;cases e;exact .inr rfl⟩ XD.toaY λ_ h=>h.elim) λit XC M=> ?_)) (x.plain n i hx).1) (hs env);obtain⟨W',XE,St,ys,YM,I,st,XH,Zf,_,_⟩:=M;have L:LI C {cx with own:=gu i cx.own} env (λc=>s.heap.get? c=W9) bM (b5 U a (a,.obj)) s (λ_=>False) _ (b5 U a (a,.obj)) s:=⟨XD,.refl,λ_ h=>h.elim⟩;refine Pb (jg (cx:= {cx with own:=gu i cx.own}) (dZ hy (λh=>hj (dg.mp h).1) hf) hb rm (I A rm) XD XD.far (λe=>aL (Eq.symm e)) (L.turn XD XD.far XH Zf) (st A rm) (YM▸hq3)) λr' s' p=> ?_;obtain⟨f,Zv,Yc,ev,_,hn,Yp⟩:=p;have no:∀c q,b5 U a (a,.obj) a=W8 (c,q)->¬(c=env.locals \/s.heap.get? c=W9):=λc q e h=>by rw[aD]at e;cases e;exact h.elim aL λh=>by rw[h1]at h;cases h
   have h3:Yc a=W8 (a,.obj):=(ev.col a _ h1 no).trans aD;obtain⟨v,p1,p2,_⟩:=Yp.vars n i _ hx (eI (σ:=σ') (p:=W8 (.adr 0))▸s9 (t:= .adr a) hu);have p2:=p2 λh=>(dg.mp h).2 rfl;rw[p2]at p1;have Yd:bF C {cx with own:=i::gu i cx.own} (b5 Yc a (env.locals,.own i)) env (aw σ' i (W8 (.list xs))) s':=bF.take (cx:= {cx with own:=gu i cx.own}) (t:= .list xs) (σ:=σ') (p:=(a,.obj)) (by refine ab (qu h3) ?_;exact Yp) aL (λq e=>by rw[h3]at e;cases e;exact aL rfl) hx (λh=>(dg.mp h).2 rfl) (x.base a _ at'.u).2 hT p1 (λ_ _ h=>nomatch h) (λy c h4 h5 e=>(x.hf y c h4 h5).1 _ (e▸at'.u)) (by refine ab (qu h3) ?_;exact⟨a,vs,rfl,⟨m,av.mpr ⟨hT,ev.keep a _ hT no h1⟩⟩,aq.mono (le.trans (ev.le XD.tU)) _ _ h2⟩);refine ab Zv (bV er ?_);exact⟨_,(Ev.relab at'.u XD.toaY ev h3 (.inl rfl) (Yp.live _ _ _ Yp.hL).1).narrow x.toaY λc h=>h.symm,hn,Yd.reown λl=>by rw[OG,dg];exact⟨λh=>h.elim (λe=>e▸ho) And.left,λh=>(Decidable.em (l=i)).imp id λhl=>⟨h,hl⟩⟩⟩
end
end
section
section
variable{H:OO}{P:G->Ow->On->Prop}{x y:G}{b:Bool}{bd:G->ai->Option (G×ai)}{r:G×ai}
def z7 (C:Cf ag w)(k:Nat)(cx:Cx)(H:OO)(P:G->Ow->On->Prop)(body:List RV)(bd:G->ai->Option (G×ai)):Prop:=
 ∀(A:O6) (U:Ow) (env:Env) (σ:ai) (x:G) (s:On) (r:G×ai),aV A k->HS C cx H P x U env σ s->bd x σ=W8 r->Oz (Ov ag w) A (VJ body env) (λf s'=>(f= .next \/f= .cont)/\ fS C cx H P U env s r.1 r.2 s') (λ_ _=>False) s
def dR (st:V->ai->Option ai)(bd:G->ai->Option (G×ai)):List V->G->ai->Option (G×ai)
 | [],x,σ=>W8 (x,σ)
 |y::ys,x,σ=>(st y σ).bind λXK=>(bd x XK).bind λr=>dR st bd ys r.1 r.2
theorem HS.turnI (h:HS C cx H P x U' env σ' s')(HP:Gh C H P)(lH:∃o,s'.heap.get? H=W8 o)(XV:bF C cx U env σ s)(F:Ag C cx Dn U env s)(L:LI C cx env Dn J U s W σ' U' s')(nW:¬W H)(ev:Ev C W J U' s' XE XC)(hW:∀c,W' c->W c \/s'.heap.get? c=W9):LI C cx env Dn J U s W' σ' XE XC/\ HS C cx H P x XE env σ' XC/\ ¬W' H:=
 have Ys:=L.turn XV F ev hW
 ⟨Ys,h.other HP ev Ys.x nW λn c h1 h2 c' q h3 h4=>(by
  obtain⟨h5,v,o,h6,_⟩:=XV.hf n c h1 h2;have nD:=F.free n c h1 h2;exact nD c' q ((L.ev.col c o h6 λc' q e h=>h.elim (λe'=>h5 q (e'▸e)) (nD c' q e)).symm.trans h3) (L.hW _ h4)),λh=>(hW H h).elim nW λh=>by
  obtain⟨o,e⟩:=lH;rw[h]at e;cases e⟩
inductive FH (C:Cf ag w) (cx:Cx) (env:Env) (H:OO) (P:G->Ow->On->Prop) (Dn:cK) (J:Nat->Prop) (U:Ow) (s:On) (St:cK->Ow->List V->On->Prop) (lp:List V->G->ai->Prop) (n:Nat) (s':On):Prop
 |mk (rem:List V) (x:G) (σ':ai) (W:cK) (U':Ow) (hn:n=rem.length) (L:LI C cx env Dn J U s W σ' U' s') (h:HS C cx H P x U' env σ' s') (nW:¬W H) (st:St W U' rem s') (el:lp rem x σ')
theorem v0 (HP:Gh C H P)(hl:∀ {x U s},P x U s->∃o,s.heap.get? H=W8 o)(ht:d9 C k cx b target st)(hb:z7 C k cx H P body bd)(rm:aV A k)(I:It C k A b target it F J St)(XV:bF C cx U env σ s)(Fr:Ag C cx Dn U env s)(nF:¬F env.locals/\ ¬F H)(hD:Dn H)(L:LI C cx env Dn J U s W σ' U' s')(h:HS C cx H P x U' env σ' s')(nW:¬W H)(YT:St W U' xs s')(e:dR st bd xs x σ'=W8 r):
 Ra (Ov ag w) A (.forLoop target it body [] env) (λr' s'=>r'= .ok .next/\ ∃U',Ev C (λc=>c=env.locals \/Dn c) J U s U' s'/\ HS C cx H P r.1 U' env r.2 s') s':=by
 refine codeAny_forLoop_any (FH C cx env H P Dn J U s St λrem x σ'=>dR st bd rem x σ'=W8 r) (λn XJ h=> ?_) xs.length ⟨xs,x,σ',W,U',rfl,L,h,nW,YT,e⟩;obtain⟨rem,x,σ',W,U',hn,L,h,nW,YT,el⟩:=h;refine(hn)▸ ?_;cases rem with
 |nil=>refine I.stop rm YT L.x.toaY λYm U₄ X1=> ?_;obtain⟨M',Za,_⟩:=h.turnI HP (hl h.p) XV Fr L nW X1 λ_=> .inl;exact Po ⟨rfl,U₄,M'.ev,Oh el▸Za⟩
 |cons y rem=>
  refine ay el λXK h1 el=>ay el λq h2 el=>I.step rm YT L.x.toaY λv Ym hd=>iX hd λ_ X9 nx=> ?_;obtain⟨W₅,Yg,ZF,X0,st₅,itm⟩:=nx;have ZV:=(h.turnI HP (hl h.p) XV Fr L nW X0 ZF).1;have YF:=(h.turnI HP (hl h.p) XV Fr L nW X0 ZF).2.1;have nW₅:=(h.turnI HP (hl h.p) XV Fr L nW X0 ZF).2.2;refine cf (ht A Yg env σ' XK X9 y v rm YF.S h1 itm) λ_ Zi YX Yr=> ?_;have ZU:=ZV.step XV Yr YX;have h₆:=YF.step HP Yr YX;have st₆:=I.keep st₅ YF.S.toaY Yr (ZV.no Fr nF.1);refine cf (hb A Yg env XK x Zi q rm h₆ h2) λf s₇ hf p=> ?_;obtain⟨Y3,Yx,ZN⟩:=p;have nxt:∃m,m<(y::rem).length/\ FH C cx env H P Dn J U s St (λrem x σ'=>dR st bd rem x σ'=W8 r) m s₇:=
   ⟨rem.length,PZ _,rem,q.1,q.2,W₅,Y3,rfl,⟨ZN.S,ZU.ev.trans XV.toaY Yx (λc h=> .inl (Or.imp id (λ(e:c=H)=>e.symm▸hD) h)) (λ_ h=>h.elim),ZU.hW⟩,ZN,nW₅,I.keep st₆ YX.toaY Yx λc h=>by
    rcases h with h |h
    ·exact ZU.no Fr nF.1 c h
    ·refine ab h ?_;exact⟨nW₅,nF.2⟩,el⟩
  rcases hf with hf |hf
  ·refine ab hf ?_;exact nxt
  ·refine ab hf ?_;exact nxt
def wz (C:Cf ag w)(k:Nat)(cx:Cx)(H:OO)(P:G->Ow->On->Prop)(st:RV)(bd:G->ai->Option (G×ai)):Prop:=
 ∀(A:O6) (U:Ow) (env:Env) (σ:ai) (x:G) (s:On) (r:G×ai),aV A k->HS C cx H P x U env σ s->bd x σ=W8 r->Oz (Ov ag w) A (exec st env) (λf s'=>f= .next/\ fS C cx H P U env s r.1 r.2 s') (λ_ _=>False) s
def C8 (d:ai->Option (List V))(st:V->ai->Option ai)(bd:G->ai->Option (G×ai))(x:G)(σ:ai):Option (G×ai):=(d σ).bind λxs=>dR st bd xs x σ
theorem qL {d:ai->Option (List V)}(HP:Gh C H P)(lH:∀ {x U s},P x U s->∃o,s.heap.get? H=W8 o)(hi:dP C k cx b false target iter d Eq)(ht:d9 C k cx b target st)(hb:z7 C k cx H P body bd)(hfs:∀env x,OU iter env x=pure x:=by intro _ _;rfl):
 wz C k cx H P (.For target iter body [] p4) (C8 d st bd):=λA U env σ x s r rm h e=>
 ay e λxs hxs hl=>by
  have XV:=h.S;have nH:¬s.heap.get? H=W9:=λh'=>by obtain⟨o,e⟩:=lH h.p;rw[h']at e;cases e
  refine Vl (Ot (hi A _ env _ s xs rm XV.tobA hxs) (λv XJ got=>got.start XV λW XX J Pr S hP YI lv hJ=>Ot (S.iter rm hP YI.x.toaY lv) (λit Ym M=> ?_) λ_ _ f=>f.elim) λ_ _ f=>f.elim) (hfs env);obtain⟨W',U₄,St,ys,YM,I,st',X1,Zf,_,_⟩:=M;have L:LI C cx env (λc=>s.heap.get? c=W9 \/c=H) J U s W σ XX XJ:=⟨YI.x,YI.ev.wide λc h=>h.imp id .inl,λc h=> .inl (YI.hW c h)⟩;have Fr:Ag C cx (λc=>s.heap.get? c=W9 \/c=H) U env s:=⟨λh'=>h'.elim XV.far.nL λe=>h.nL e.symm,λn c h1 h2 c' q h3 h4=>h4.elim (XV.far.free n c h1 h2 c' q h3) λe=>h.fr n c h1 h2 q (e▸h3),λ_=> .inl⟩;have X5:=h.other HP YI.ev YI.x (λh'=>h'.elim h.nL nH) λn c h1 h2 c' q h3 h4=>h4.elim (λe=>(XV.hf n c h1 h2).1 q (e▸h3)) (XV.far.free n c h1 h2 c' q h3);obtain⟨M',Za,nW₄⟩:=X5.turnI HP (lH X5.p) XV Fr L (λh=>nH (YI.hW H h)) X1 Zf;refine Pb (v0 HP lH ht hb rm (I A rm) XV Fr ⟨λh=>Qq h.1,λh=>Qq h.1⟩ (.inr rfl) M' Za nW₄ (st' A rm) (YM▸hl)) λr' X9 p=> ?_;obtain⟨Y',Yg,X0,YF⟩:=p;refine(Y')▸ ?_;exact⟨rfl,Yg,X0.strict XV.toaY (λc h=>h.elim (λh=> .inr (.inl h)) λh=>h.imp id .inr) hJ,YF⟩
end
end
set_option tactic.hygienic true
section
def ig (x:List (Int×Nat))(u:Int):List (Int×Nat):=if(x.map (·.1)).contains u then x else x++ [(u,0)]
def r0:List (Int×Nat)->Int->Nat->List (Int×Nat)
 | [],_,_=> []
 | (k,b)::r,u,v=>if k=u then(k,b ||| (1<<<v))::r else(k,b)::r0 r u v
section
variable{w:We}{g:a0}{x:List (Int×Nat)}{as:List OO}{u:Int}{v:Nat}{S:OO}
inductive fB (w:We) (g:a0):List (Int×Nat)->List OO->Prop
 |nil:fB w g [] []
 |cons {p:Int×Nat} {x:List (Int×Nat)} {a:OO} {as:List OO} (h:be (LW w) g a p.2) (r:fB w g x as):fB w g (p::x) (a::as)
theorem fB.len (h:fB w g x as):as.length=x.length:=by
 induction h with
 |nil=>rfl
 |cons _ _ ih=>exact congrArg (· +1) ih
theorem fB.at (h:fB w g x as)(l:∀a∈as,∀o,g a=W8 o->g' a=W8 o):fB w g' x as:=by
 induction h with
 |nil=>exact .nil
 |cons h r ih=>exact .cons (h.sub (l _ (.head _))) (ih λa ha=>l a (.tail _ ha))
theorem fB.snoc (h:fB w g x as)(hS:be (LW w) g S 0):fB w g (x++ [(u,0)]) (as++ [S]):=by
 induction h with
 |nil=>exact .cons hS .nil
 |cons h r ih=>exact .cons h ih
theorem rb:∀ {x:List (Int×Nat)},(r0 x u v).map (·.1)=x.map (·.1)
 | []=>rfl
 |p::r=>by
  show(if p.1=u then(p.1,p.2 ||| (1<<<v))::r else(p.1,p.2)::r0 r u v).map (·.1)=_;split
  ·rfl
  ·exact congrArg (p.1:: ·) rb
theorem fB.find (h:fB w g x as)(nd:as.Nodup)(hu:u∈x.map (·.1)):∃S c,lk (x.map (·.1)) (as.map PL) u=W8 (.ref S)/\ S∈as/\ be (LW w) g S c/\
 ∀(g':a0) (v:Nat),be (LW w) g' S (c ||| (1<<<v))->(∀a∈as,a≠S->∀o,g a=W8 o->g' a=W8 o)->fB w g' (r0 x u v) as:=by
 induction h with
 |nil=>exact nomatch hu
 |cons h r ih=>
  rename_i p x a as;have n1:=(PI.mp nd).1;have n2:=(PI.mp nd).2;by_cases e:p.1=u
  ·refine⟨a,p.2,dh.trans (if_pos e.symm),.head _,h,λg' v hS hk=> ?_⟩
   show fB w g' (if p.1=u then _ else _) _;refine ab (if_pos e) ?_;exact .cons hS (r.at λb hb=>hk b (.tail _ hb) λe=>n1 (e▸hb))
  ·obtain⟨S,c,h1,h2,h3,h4⟩:=ih n2 ((OG.mp hu).resolve_left (Te e))
   refine⟨S,c,(dh.trans (if_neg (Te e))).trans h1,.tail _ h2,h3,λg' v hS hk=> ?_⟩;show fB w g' (if p.1=u then _ else _) _;refine ab (if_neg e) ?_;exact .cons (h.sub (hk a (.head _) λe=>n1 (e▸h2))) (h4 g' v hS λb hb=>hk b (.tail _ hb))
theorem jx {α:Type}{k:Int}{v:α}:∀ {ps:List (Int×α)},k∉ps.map (·.1)->d4 ps k v=ps++ [(k,v)]
 | [],h=>rfl
 |p::r,h=>by show(if p.1=k then _ else _::d4 r k v)=_;refine ab (if_neg λe:p.1=k=>h (e▸ .head _)) (ab (jx λh'=>h (.tail _ h')) ?_);rfl
end
section
variable{D d:OO}{x:List (Int×Nat)}{as:List OO}
theorem li {k:Int}{t:Tok}{v:Oq}{Q:Unit->On->Prop}(hm:cF s.heap.get? d (ps.map (·.1)) (ps.map (·.2)))(hn:ps.length<=Sr)
 (hQ:∀h',cF h'.get? d ((d4 ps k v).map (·.1)) ((d4 ps k v).map (·.2))->OE d s.heap h'->Q () {s with heap:=h',toks:=s.toks+1}):
 Oz (Ov ag w) A (UV (.ref d) (.int k t) v) Q E s:=by
 injections s A E ps d k t v Q _ hm hn hQ;have hM:=hm.mapOf (h:=s.heap) (Le.refl _);unfold UV
 try with_reducible refine ON ?_
 refine Og (wpAny_sequenceKey hM.typeIs (by decide) ?_);refine Og (PN (name:=QV "__setitem__") hM.typeIs slot_dict_setitem (O9 slot_dict_setitem hM.typeIs entry_dict_setitem ?_ (args_dict_setitem _ _ _)));refine Og (wpAny_notOrdered_dict hM.typeIs ?_);show Oz _ _ (dictSet d (.int k t) v>>=_) _ _ s;exact Og (mB hm hn λh' YJ X2=>Oi ⟨.none,rfl,Oi (hQ h' YJ X2)⟩)
theorem cF.at {g:a0}(h:cF g a ks vs)(l:∀o,g a=W8 o->g' a=W8 o):cF g' a ks vs:=let ⟨h1,h2,o,es,n,e,r⟩:=h;⟨h1,h2,o,es,n,l o e,r⟩
theorem cF.here {g:a0}(h:cF g a ks vs):∃o,g a=W8 o:=h.2.2.imp λ_ h=>h.elim λ_ h=>h.elim λ_ h=>h.1
structure FX (C:Cf ag w) (D:OO) (as:List OO) (x:List (Int×Nat)) (U:Ow) (s:On):Prop where
 d:cF s.heap.get? D (x.map (·.1)) (as.map PL)
 ss:fB w s.heap.get? x as
 nd:(D::as).Nodup
 o:∀a∈D::as,U a=W8 (D,.obj)/\ C.hb.get? a=W9/\ a∉C.T
def zj (C:Cf ag w)(D:OO)(x:List (Int×Nat))(U:Ow)(s:On):Prop:= ∃as,FX C D as x U s
theorem fB.here {g:a0}(h:fB w g x as):∀a∈as,∃o,g a=W8 o:=by
 induction h with
 |nil=>exact λ_ h=>nomatch h
 |cons h r ih=>exact λa ha=>(OG.mp ha).elim (λe=>e▸h.here) (ih a)
theorem FX.keep (p:FX C D as x U s)(ev:Ev C O J U s U' s')(hO:¬O D):FX C D as x U' s':=
 have no:∀a∈D::as,∀c q,U a=W8 (c,q)->¬O c:=λa ha c q e h=>by rw[(p.o a ha).1]at e;cases e;exact hO h
 have lv:∀a∈D::as,∃o,s.heap.get? a=W8 o:=λa ha=>(OG.mp ha).elim (λe=>e▸p.d.here) (p.ss.here a)
 ⟨p.d.at λo=>ev.keep D o (p.o D (.head _)).2.2 (no D (.head _)),p.ss.at λa ha o=>ev.keep a o (p.o a (.tail _ ha)).2.2 (no a (.tail _ ha)),p.nd,λa ha=>⟨(by obtain⟨o,e⟩:=lv a ha;exact(ev.col a o e (no a ha)).trans (p.o a ha).1),(p.o a ha).2⟩⟩
theorem uM:Gh C D (zj C D):=⟨λp ok ev h=>p.imp λas p=>p.keep ev h⟩
end
end
set_option tactic.hygienic false
section
section
variable{D:OO}{x:List (Int×Nat)}{n:Str}{i:Nat}{u:Int}{v:Nat}{ep:Pos}{c:ai->Option Bool}{vv:Oq}
theorem bF.nm (x:bF C cx U env σ s)(hx:cx.vars.lookup n=W8 i)(h:Holds env s n vv)(q:Q vv s):Oz (Ov ag w) A (PX (.Name n p) env) Q E s:=Ro (gL x.tobA hx h q) (x.plain n i hx).1
theorem bF.adr (x:bF C cx U env σ s)(hx:cx.vars.lookup n=W8 i)(ho:i∉cx.own)(e:aK σ i=W8 (.adr a)):Holds env s n (.ref a):=by obtain⟨v,h1,h2,_⟩:=x.vars n i _ hx e;have:=h2 ho;exact this▸h1
structure KX (cx:Cx) (sn un vn:Str) (is iu iv:Nat):Prop where
 hs:cx.vars.lookup sn=W8 is
 so:is∉cx.own
 hu:cx.vars.lookup un=W8 iu
 uo:iu∉cx.own
 hv:cx.vars.lookup vn=W8 iv
 vo:iv∉cx.own
theorem EY (K:KX cx sn un vn is iu iv)(h:HS C cx D (zj C D) x U env σ s)(h0:aK σ is=W8 (.adr D))(ZR:aK σ iu=W8 (.int u))(hgv:aK σ iv=W8 (.int (v:Int)))(hv6:v<6)(YS:u∈x.map (·.1))(hl:(ap.endLine==Zg.line)=true):
 Oz (Ov ag w) A (exec (.Expr (.Call (.Attribute (.Subscript (.Name sn s3) (.Name un u3) sp3) "add" ap) [.Name vn v1] [] Zg) ep) env) (λf s'=>f= .next/\ fS C cx D (zj C D) U env s (r0 x u v) σ s') (λ_ _=>False) s:=by
 injections is iu iv s A ap Zg s3 u3 v1 sp3 cx env vn sn un U σ D x u v ep _ K h h0 ZR hgv hv6 YS hl;obtain⟨as,P⟩:=h.p;obtain⟨S,c,hlk,hm,hc,up⟩:=P.ss.find (PI.mp P.nd).2 YS;have XV:=h.S;refine XV.int K.hu K.uo ZR λtu hu=>XV.int K.hv K.vo hgv λtv hv=> ?_;have hM:=P.d.mapOf (h:=s.heap) (Le.refl _);refine Ue (U9 rfl rfl hl (VV (XV.nm K.hs (XV.adr K.hs K.so h0) (XV.nm K.hu hu (V5 hM.typeIs slot_dict_getitem.lookup (wpAny_getItem_of (Qz _ _ _ _) hM hlk ?_) rfl))))) (g7 XV.kind) rfl;obtain⟨ob,q1,q2⟩:∃ob:Obj,s.heap.get? S=W8 ob/\ ob.cls= .type "set"/\ ob.dict=W9:=(by obtain⟨_,_,_,_,_,ho,_,_⟩:=hc;exact⟨_,ho,rfl,rfl⟩);have XD:=XV.grow .tokS;refine⟨"set","set.add",To,Vy,F.type_set_add,⟨ob,q1,q2.1⟩,λa ha=>by cases ha;exact⟨ob,q1,q2.2⟩,RY rfl (Sm (SP (XD.nm K.hv hv (S3 (kf hc hv6 λh' r1 r2=> ?_)))))⟩;have oS:=P.o S (.tail _ hm);have nD:D≠S:=λe=>(PI.mp P.nd).1 (e▸hm);have ev:Ev C (only D) bM U s U {s with heap:=h',toks:=s.toks+1+1}:= .one oS.1 rfl oS.2.1 oS.2.2 r2.extBut r1.here;exact⟨rfl,U,ev.wide λ_=> .inr,h.turn ev ⟨as,(rb (x:=x) (u:=u) (v:=v)).symm▸P.d.at λo e=>(r2.2 D nD).trans e,up _ v r1 λa ha Yn o e=>(r2.2 a Yn).trans e,P.nd,P.o⟩⟩
theorem EX (K:KX cx sn un vn is iu iv)(h:HS C cx D (zj C D) x U env σ s)(h0:aK σ is=W8 (.adr D))(ZR:aK σ iu=W8 (.int u))(hx:x.length<4000)(YS:u∉x.map (·.1))(ZP:Zj∈cx.globs)(hm:Zj∈bP)(Z9:OZ Zj=W8 (.type "set")):
 Oz (Ov ag w) A (exec (.Assign [.Subscript (.Name sn s2) (.Name un u2) sp] (.Call (.Name Zj scp) [] [] scpos) a2) env) (λf s'=>f= .next/\ fS C cx D (zj C D) U env s (x++ [(u,0)]) σ s') (λ_ _=>False) s:=by
 injections is iu iv s A sp s2 u2 scp scpos a2 cx env vn sn un Zj U σ D x u _ K h h0 ZR hx YS ZP hm Z9;obtain⟨as,P⟩:=h.p;have XV:=h.S;have ok:=XV.toaY;refine Ww (Pu (eP XV.tobA ZP hm Z9 (TU rfl (Q5 (nz λh' q1 q2=> ?_))))) rfl;have dS:s.heap.get? s.heap.objs.size=W9:=cY;generalize s.heap.objs.size=S at q1 dS;have nS:=ok.new dS;have g:aH C s {s with heap:=h'}:=aH.heap (tk:=s.toks) q2;have XD:=XV.grow g;have oD:=P.o D (.head _);obtain⟨od,eD⟩:=P.d.here;refine XD.nm K.hs (XD.adr K.hs K.so h0) (XD.int K.hu K.uo ZR λtu hu=>XD.nm K.hu hu ?_);have hlen:as.length=x.length:=P.ss.len;have e1:((x.map (·.1)).zip (as.map PL)).map (·.1)=x.map (·.1):=Ux (by rw[OA,OA,hlen];exact O5 _);have e2:((x.map (·.1)).zip (as.map PL)).map (·.2)=as.map PL:=WU (by rw[OA,OA,hlen];exact O5 _);refine li (ps:=(x.map (·.1)).zip (as.map PL)) (by refine ab e1 (ab e2 ?_);exact P.d.at (q2 D)) ?_ λYU r1 r2=>⟨rfl,?_⟩
 ·simp only[List.length_zip,OA,OA,hlen,Nat.min_self]
  exact Op (Qp hx) (by decide+kernel)
 simp only[jx (e1.symm▸YS),PJ,PJ,e1,e2]at r1;have live:∀a∈D::as,∃o,s.heap.get? a=W8 o:=λa ha=>(OG.mp ha).elim (λe=>e▸P.d.here) (P.ss.here a);have ne:∀a∈D::as,a≠S:=λa ha e=>by obtain⟨o,e'⟩:=live a ha;rw[e,dS]at e';cases e'
 have nD:∀a∈as,a≠D:=λa ha e=>(PI.mp P.nd).1 (e▸ha);have XS:Ev C (only D) bM U s (b5 U S (D,.obj)) {s with heap:=h'}:=Ev.new g (λb o e=>aO λe'=>by rw[e',dS]at e;cases e) λb c q e hb=>by
  by_cases h:b=S
  ·rw[h,aD]at e;cases e;exact⟨rfl,h▸q1.here,_,q2 _ _ eD⟩
  ·rw[aO h,ok.not hb]at e;cases e
 have uD:b5 U S (D,.obj) D=W8 (D,.obj):=(aO (ne D (.head _))).trans oD.1;have ev:Ev C (only D) bM U s (b5 U S (D,.obj)) {s with heap:=YU,toks:=s.toks+1}:=XS.trans ok (.one (O:=only D) (J:=bM) (tk:=s.toks+1) uD rfl oD.2.1 oD.2.2 r2.extBut r1.here) (λ_=> .inl) λ_=> .inl;exact⟨_,ev.wide λ_=> .inr,h.turn ev ⟨as++ [S],by refine ab PJ (ab PJ ?_);exact r1,(P.ss.at λa ha o e=>(r2.2 a (nD a ha)).trans (q2 a o e)).snoc (q1.sub λo e=>(r2.2 S (ne D (.head _)).symm).trans e),
  (Uj (l₁:=D::as)).mpr ⟨P.nd,PI.mpr ⟨Td,Sa⟩,λa ha b hb e=>ne a ha (e.trans (OJ.mp hb))⟩,λa ha=>by
    rcases(Rd (s:=D::as)).mp ha with ha |ha
    ·exact⟨(aO (ne a ha)).trans (P.o a ha).1,(P.o a ha).2⟩
    ·refine ab (OJ.mp ha) ?_;exact⟨aD,nS.2.2,nS.1⟩⟩⟩
end
end
section
section
variable{D:OO}{x:List (Int×Nat)}{n:Str}{i l:Nat}{ep:Pos}{c:ai->Option Bool}
def fA (D:OO)(c:ai->Option Bool)(ut:ED)(is iu iv:Nat)(x:List (Int×Nat))(σ:ai):Option (List (Int×Nat)×ai):=
 match aK σ is with
 |some (.adr D')=>if D'=D then(c σ).bind λb=>if b then(ut σ).bind λu=>(match u,aK (aw σ iu (W8 u)) iv,aK (aw σ iu (W8 u)) iu with
   | .int u,W8 (.int v),W8 _=>if 0<=v/\ v<6/\ x.length<4000 then W8 (r0 (ig x u) u v.toNat,aw σ iu (W8 (.int u)))else W9
   |_,_,_=>W9)else W8 (x,σ)else W9
 |_=>W9
theorem G0 {o:Option V}{f:OO->Option α}{r:α}(h:(match o with |some (.adr a)=>f a |_=>W9)=W8 r)(k:∀a,o=W8 (.adr a)->f a=W8 r->P):P:=by
 cases o with
 |none=>exact absurd h aI
 |some t=>
  cases t with
  |adr a=>exact k a rfl h
  |_=>exact absurd h aI
theorem LM {a:V}{p q:Option V}{f:Int->Int->Option α}{r:α}(h:(match a,p,q with | .int u,W8 (.int v),W8 _=>f u v |_,_,_=>W9)=W8 r)(k:∀u v t,a= .int u->p=W8 (.int v)->q=W8 t->f u v=W8 r->P):P:=by
 cases a with
 |int u=>
  cases p with
  |none=>exact absurd h aI
  |some t=>
   cases t with
   |int v=>
    cases q with
    |none=>exact absurd h aI
    |some t=>exact k u v t rfl rfl rfl h
   |_=>exact absurd h aI
 |_=>exact absurd h aI
theorem BO (K:KX cx sn un vn is iu iv)(huf:iu∉cx.fre)(hsu:(iu==is)=false)(ZP:Zj∈cx.globs)(hm:Zj∈bP)(Z9:OZ Zj=W8 (.type "set"))
 (h1:fi C k cx test1 c) (h2:aC C k cx ue ut) (hsw:∀env,P8 ue (W8 (.Name un up)) apos.line env=pure false) (hl:(ap.endLine==Zg.line)=true):
 z7 C k cx D (zj C D) [.If test1 [.Assign [.Name un up] ue apos,.If (.Compare (.Name un u1) [.NotIn] [.Name sn s1] cpos) [.Assign [.Subscript (.Name sn s2) (.Name un u2) sp] (.Call (.Name Zj scp) [] [] scpos) a2] [] ifpos,.Expr (.Call (.Attribute (.Subscript (.Name sn s3) (.Name un u3) sp3) "add" ap) [.Name vn v1] [] Zg) ep] [] p0] (fA D c ut is iu iv):=by
 injections k is iu iv sp ap Zg s1 s2 s3 u1 u2 u3 v1 sp3 scp scpos a2 cpos up apos ifpos p0 cx test1 ue vn sn un Zj ut D ep c _ K huf hsu ZP hm Z9 h1 h2 hsw hl;exact λA U env σ x s r rm h e=>
  G0 e λD' h0 e=>f7 e λhD e=>ay e λb hb e=>by
   rw[hD]at h0;have ok:=h.S.toaY;refine Pe (V4 (h1.run rm h.S hb λXB XI XD=> ?_));have XM:=h.grow uM XI;cases b with
   |false=>exact Oh e▸Po (Po ⟨.inl rfl,U,XI.ev2,XM⟩)
   |true=>
    refine ay e λud hu e=>LM e λu v t hud hgv ZR e=>f7 e λhc e=> ?_;rw[hud]at hu hgv ZR;obtain⟨v,rfl⟩:=Q1 hc.1;refine bV (Oh e) ?_;refine Pe ((aam (oc:= []) K.hu K.uo huf h2 hsw).run rm XD (r:=(.next,aw σ iu (W8 (.int u)))) (by unfold ak;refine ab hu ?_;rfl) λf XC hp=> ?_);obtain⟨XE,XH,hf,XG⟩:=hp;have XN:=XM.step uM XH XG;have X6:aK (aw σ iu (W8 (.int u))) is=W8 (.adr D):=(aU (ne_of_beq_false hsu).symm).trans h0;simp only[gb ZR]at ZR;have ev:Ev C (fQ env.locals D) bM U s XE XC:=XI.ev2.trans ok (XH.wide λ_=> .inl) (λ_=> .inl) λ_=> .inl;refine ab hf ?_;obtain⟨as,P⟩:=XN.p;have fin:∀ {XJ},fS C cx D (zj C D) U env s (ig x u) (aw σ iu (W8 (.int u))) XJ->u∈(ig x u).map (·.1)->Oz (Ov ag w) A (VJ [.Expr (.Call (.Attribute (.Subscript (.Name sn s3) (.Name un u3) sp3) "add" ap) [.Name vn v1] [] Zg) ep] env) (λf s'=>match f with
     | .next=>Oz (Ov ag w) A (VJ [] env) (λf s'=>(f= .next \/f= .cont)/\ fS C cx D (zj C D) U env s (r0 (ig x u) u v) (aw σ iu (W8 (.int u))) s') (λ_ _=>False) s'
     |f=>(f= .next \/f= .cont)/\ fS C cx D (zj C D) U env s (r0 (ig x u) u v) (aw σ iu (W8 (.int u))) s') (λ_ _=>False) XJ:=λ {XJ} p YS=>by
     obtain⟨Yc,XR,X5⟩:=p;refine Pe (cf (EY K X5 X6 ZR hgv (PS.mp hc.2.1) YS hl) λf Ym hf p=> ?_);refine ab hf ?_;exact Po (Po ⟨.inl rfl,p.pre ok XR⟩)
    refine XG.int K.hu K.uo ZR λtu hu'=>Pe (V4 (Sy (XG.nm K.hu hu' (XG.nm K.hs (XG.adr K.hs K.so X6) (wpAny_notIn_of (Qz _ _ _ _) P.d.2.1 (P.d.mapOf (h:=XC.heap) (Le.refl _)) (Sn ?_)))) rfl));rw[nR P.d.1];have X5:=XN.grow uM .tokS;have XR:Ev C (fQ env.locals D) bM U s XE {XC with toks:=XC.toks+1}:=ev.trans ok (aH.tokS).ev2 (λ_=> .inl) λ_=> .inl;by_cases YS:u∈x.map (·.1)
    ·have e1:ig x u=x:=if_pos (Re.mpr YS)
     refine ab (decide_eq_true YS) ?_;exact Po (fin ⟨XE,XR,e1.symm▸X5⟩ (e1.symm▸YS))
    ·have e1:ig x u=x++ [(u,0)]:=if_neg λh=>YS (Re.mp h)
     refine ab (decide_eq_false YS) ?_;refine Pe (cf (EX K X5 X6 ZR hc.2.2 YS ZP hm Z9) λf Ym hf p=> ?_);refine ab hf ?_;exact Po (fin (e1.symm▸p.pre ok XR) (by refine ab e1 (ab PJ ?_);exact Qn _ (.head _)))
end
end
section
section
variable{D:OO}{x:List (Int×Nat)}{as:List OO}{n:Str}{i l:Nat}
theorem bF.retree (x:bF C cx U env σ s)(hx:cx.vars.lookup n=W8 i)(ho:i∉cx.own)(hh:Holds env s n v)(r:bj C.cls (view U s.heap) t v):bF C cx U env (aw σ i (W8 t)) s:=
 {x with
  tobA:= {x.tobA with vars:=λy j u h1 h2=>(gc h2).elim (λe=>by rw[e.1]at h1⊢;refine ab (x.inj y n _ h1 hx) (bV (Oh e.2) ?_);exact⟨v,hh,λ_=>r,λh=>absurd h ho⟩) λe=>x.vars y j u h1 e.2}
  own:=λy j u h1 h2 h3=>(gc h3).elim (λe=>absurd (e.1▸h2) ho) λe=>x.own y j u h1 h2 e.2}
theorem bZ (h:i<σ.length):aK (aw σ i (W8 t)) i=W8 t:=by
 delta aK aw
 rw[S5,if_pos rfl,if_pos h];rfl
theorem gM {q:Option V}:(aw σ i q).length=σ.length:=List.length_set ..
def bQ (x:List (Int×Nat)):V:= .dict (x.map (·.1)) (x.map λp=> .set (az p.2))
def Ke (is:Nat)(ej:ai->Option (List (Int×Nat)×ai)):SD:=λσ=>(ej σ).bind λr=>W8 (.next,aw r.2 is (W8 (bQ r.1)))
def free (U:Ow)(X:List OO):Ow:=λb=>if b∈X then W9 else U b
theorem uC {b:OO}{p:OO×Slot}(h:free U X b=W8 p):U b=W8 p:=by
 unfold free at h;split at h
 ·exact absurd h aI
 ·exact h
theorem Ev.free (hX:∀a∈X,(∃q,U a=W8 (D,q))/\ a∉C.T):Ev C (only D) J U s (Mine.free U X) s where
 keep:=λ_ _ _ _ e=>e
 col:=λb o e h=>if_neg λhb=>(by obtain⟨q,e⟩:=(hX b hb).1;exact h D q e rfl)
 own:=λb c q h=> .inl (uC h)
 os:=rfl
 gen:=λ_ _ _ e=>e
 go:=λok=>⟨⟨ok.inv,λb c q h=>ok.live b c q (uC h),λb hb=>by unfold Mine.free;refine ab (if_neg λh=>(hX b h).2 hb) ?_;exact ok.tU b hb⟩,λ_=> .inr⟩
theorem fB.rep {g:a0}(hK:K.led=LW w)(h:fB w g x as):aq K g (x.map λp=>Xg (az p.2)) (as.map PL):=by
 induction h with
 |nil=>exact aq.nil
 |cons h r ih=>exact aq.cons (Exists.intro _ ⟨rfl,_,hK▸h,rfl⟩) ih
theorem FX.rep (p:FX C D as x U s)(i:ff C s):bj C.cls (view (Mine.free U (D::as)) s.heap) (bQ x) (.ref D):=by have up:∀a∈D::as,∀o,s.heap.get? a=W8 o->view (Mine.free U (D::as)) s.heap a=W8 o:=λa ha o e=>ao.mpr ⟨if_pos ha,e⟩;exact⟨D,as.map PL,rfl,p.d.at (up D (.head _)),(p.ss.at λa ha=>up a (.tail _ ha)).rep i.ok.led⟩
theorem DB (B:BF C){b:Bool}{d:ai->Option (List V)}{bd:OO->List (Int×Nat)->ai->Option (List (Int×Nat)×ai)}{ej:ai->Option (List (Int×Nat)×ai)}
 (hs:cx.vars.lookup sn=W8 is) (hso:is∉cx.own) (hsf:is∉cx.fre) (hi:dP C k cx b false target iter d Eq) (ht:d9 C k cx b target st) (hb:∀D,z7 C k cx D (zj C D) body (bd D))
 (hej:∀D σ r,ej σ=W8 r->∃xs,d (aw σ is (W8 (.adr D)))=W8 xs/\ dR st (bd D) xs [] (aw σ is (W8 (.adr D)))=W8 (r.1,aw r.2 is (W8 (.adr D)))/\ is<r.2.length)
 (hrest:bG C k cx oc rest O' db) (hfs:∀env x,OU iter env x=pure x:=by intro _ _;rfl):
 bG C k cx oc (.Assign [.Name sn p1] (.Dict [] [] p2) p3:: .For target iter body [] p4::rest) O' (aa (Ke is ej) db):=λA U env σ s r rm x e=>by
 injections k is p1 p2 p3 p4 cx target iter oc O' sn body rest st db b d bd ej A U env σ s r _ B hs hso hsf hi ht hb hej hrest hfs rm x e;exact ay e λq hq e=>ay hq λy hy hq=>by
  obtain⟨xs,hxs,hl,hlen⟩:=hej s.heap.objs.size σ y hy;rw[<-Oh hq]at e;have ok:=x.toaY;have gp:aH C s {s with heap:=s.heap.push {cls:= .type "dict",data:= .dict #[]}}:= .push;have dD:s.heap.get? s.heap.objs.size=W9:=cY;have hD0:({s with heap:=s.heap.push {cls:= .type "dict",data:= .dict #[]}}:On).heap.get? s.heap.objs.size=W8 {cls:= .type "dict",data:= .dict #[]}:=OB _ rfl;have Yn:(s.heap.objs.size==Sp)=false:=by obtain⟨h1,o,h2⟩:=B.sys;exact beq_false_of_ne (Qh (Pl (x.inv.base _ o h1 h2)))
  refine Pe (Rp (wpAny_Dict_empty ?_) rfl);generalize ({s with heap:=s.heap.push {cls:= .type "dict",data:= .dict #[]}}:On)=XB at gp hD0;generalize s.heap.objs.size=D at*;have nT:=(ok.new dD).1;have nU:=(ok.new dD).2.1;have nb:=(ok.new dD).2.2;have XS:Ev C (only D) bM U s (b5 U D (D,.obj)) XB:=Ev.new1 gp ok dD ⟨_,hD0⟩;have nL:D≠env.locals:=λe=>by obtain⟨_,o,h⟩:=x.live _ _ _ x.hL;rw[<-e,dD]at h;cases h
  refine(x.more XS λc h=>h.symm▸dD).store (t:= .adr D) hs hso hsf (rfl) λXC XG XH _=> ?_;have XH:Ev C (only env.locals) bM (b5 U D (D,.obj)) XB (b5 U D (D,.obj)) XC:=XH rfl;have hD2:XC.heap.get? D=W8 _:=XH.keep D _ nT (λc q e=>by rw[aD]at e;cases e;exact nL) hD0;have XN:HS C cx D (zj C D) [] (b5 U D (D,.obj)) env (aw σ is (W8 (.adr D))) XC:=⟨XG,nL,(λn c h1 h2 q e=>by obtain⟨_,v,o,h3,_⟩:=x.hf n c h1 h2;rw[aO λe=>by rw[e,dD]at h3;cases h3]at e;obtain⟨_,o,h⟩:=x.live _ _ _ e;rw[dD]at h;cases h),[],⟨rfl,Yn,_,#[],0,hD2,⟨rfl,rfl,rfl⟩,rfl,λe he=>absurd he (TG e),λk=>rfl,O5 _⟩,.nil,PI.mpr ⟨Td,Sa⟩,λa ha=>by refine ab (OJ.mp ha) ?_;exact⟨aD,nb,nT⟩⟩;have E':Ev C (λc=>c=env.locals \/s.heap.get? c=W9) bM U s (b5 U D (D,.obj)) XC:=(XS.wide λc h=> .inr (h.symm▸dD)).trans ok XH (λc h=> .inl (.inl h)) λ_=> .inl;refine Pe (cf (qL uM (λp=>(by obtain⟨_,p⟩:=p;exact p.d.here)) hi ht (hb D) hfs A _ env _ [] XC (y.1,aw y.2 is (W8 (.adr D))) rm XN (by unfold C8;refine ab hxs ?_;exact hl)) λf X9 hf p=> ?_);obtain⟨Yg,X0,YF⟩:=p;refine(hf)▸ ?_;obtain⟨as,P⟩:=YF.p;have Yr:Ev C (only D) bM Yg X9 (free Yg (D::as)) X9:= .free λa ha=>⟨⟨_,(P.o a ha).1⟩,(P.o a ha).2.2⟩;have YX:=YF.S.other Yr (λe=>nL e.symm) λn c h1 h2 c' q h3 e=>YF.fr n c h1 h2 q ((show c'=D from e)▸h3);have Zx:=YX.retree hs hso (YX.adr hs hso (bZ hlen)) (P.rep YX.inv);simp only[eI]at Zx;have evF:Ev C (only env.locals) bM U s _ X9:=(E'.trans ok (X0.trans XG.toaY Yr (λc h=> .inl (.inr h)) λ_=> .inl) (λc h=>h.elim (λh=> .inl (.inl h)) λe=> .inr (e.symm▸dD)) λ_=> .inl).narrow ok λc h=>h.symm;exact dk.seq hrest rm ok (.ofNext evF Zx) e
end
end
section
section
variable{i l:Nat}{D:OO}{c:ai->Option Bool}{x:List (Int×Nat)}{r:List (Int×Nat)×ai}
def bk (i:Nat)(d:ai->α):Prop:= ∀a σ,d (aw σ i (W8 (.adr a)))=d (aw σ i (W8 (.adr 0)))
def qa (i:Nat)(st:V->ai->Option ai):Prop:= ∀y σ σ',st y (aw σ i (W8 (.adr 0)))=W8 σ'->∃Yt,σ'=aw Yt i (W8 (.adr 0))/\ Yt.length=σ.length/\ ∀a,st y (aw σ i (W8 (.adr a)))=W8 (aw Yt i (W8 (.adr a)))
theorem oA (h1:i≠l)(h2:j≠l):qa l (eH i j):=λy σ σ' e=>AM e λa b hy e=>by refine⟨aw (aw σ i (W8 a)) j (W8 b),by exact bV e (ab (cb h1) (ab (cb h2) rfl)),gM.trans gM,λc=> ?_⟩;refine ab hy ?_;show W8 _=_;exact ab (cb h1) (ab (cb h2) rfl)
theorem zL (h:j≠i):bk i (dV j):=λa σ=>(aU h).trans (aU h).symm
theorem wt (hd:bk i d)(h:j≠i):Am i (aa (ak j d) af):=λa σ r e=>ay e λq hq e=>dF hq λt ht hq=>by rw[<-hq]at e;refine⟨Oh e▸rfl,aw σ j (W8 t),Oh e▸cb h,?_⟩;show((d _).map _).bind _=_;refine ab (hd a σ) (ab ht ?_);exact congrArg (λz=>W8 (Fl.next,z)) (cb h)
theorem pM (hc:bk is c)(hu:bk is ut)(h1:iu≠is)(h2:iv≠is)(hg:is<σ.length)(e:fA 0 c ut is iu iv x (aw σ is (W8 (.adr 0)))=W8 r):
 ∃σ',r.2=aw σ' is (W8 (.adr 0))/\ is<σ'.length/\ fA D c ut is iu iv x (aw σ is (W8 (.adr D)))=W8 (r.1,aw σ' is (W8 (.adr D))):=by
 injections is iu iv σ ut D c x r _ hc hu h1 h2 hg e;unfold fA at e⊢;rw[bZ hg]at e⊢;refine f7 e λ_ e=>ay e λb hb e=> ?_;show ∃σ',_/\ _/\ (if D=D then _ else _)=_;rw[if_pos rfl,hc D σ,hb,QW];cases b with
 |false=>refine bV (Oh e) ?_;exact⟨σ,rfl,hg,rfl⟩
 |true=>have w1:∀(t:V) (q:Option V),aw (aw σ is (W8 t)) iu q=aw (aw σ iu q) is (W8 t):=λt q=>cb h1;have w2:∀(t:V) (q:Option V),aK (aw (aw σ iu q) is (W8 t)) iv=aK (aw σ iu q) iv/\ aK (aw (aw σ iu q) is (W8 t)) iu=aK (aw σ iu q) iu:=λt q=>⟨aU h2,aU h1⟩;refine ay e λud hud e=>LM e λu v t hud' hv ZR e=>f7 e λhcnd e=>⟨aw σ iu (W8 (.int u)),by rw[<-Oh e,w1],gM.symm▸hg,?_⟩;rw[hud',w1,(w2 _ _).1]at hv;rw[hud',w1,(w2 _ _).2]at ZR;rw[if_pos rfl,hu D σ,hud,QW,hud',w1,(w2 _ _).1,(w2 _ _).2,hv,ZR];show(if _ then _ else _)=_;rw[if_pos hcnd,<-Oh e,w1 (.adr D)]
theorem ko (hc:bk is c)(hu:bk is ut)(h1:iu≠is)(h2:iv≠is)(Y5:qa is st):∀(xs:List V) (x:List (Int×Nat)) (σ:ai) (r:List (Int×Nat)×ai),is<σ.length->dR st (fA 0 c ut is iu iv) xs x (aw σ is (W8 (.adr 0)))=W8 r->
 ∃σ',r.2=aw σ' is (W8 (.adr 0))/\ is<σ'.length/\ dR st (fA D c ut is iu iv) xs x (aw σ is (W8 (.adr D)))=W8 (r.1,aw σ' is (W8 (.adr D)))
 | [],x,σ,r,hg,e=>by refine bV (Oh e) ?_;exact⟨σ,rfl,hg,rfl⟩
 |y::ys,x,σ,r,hg,e=>ay e λXK e1 e=>ay e λq e2 e=>by obtain⟨σ₂,h3,hl,h4⟩:=Y5 y σ XK e1;rw[h3]at e2;obtain⟨YV,e3,ZC,h5⟩:=pM (D:=D) hc hu h1 h2 (hl.symm▸hg) e2;rw[e3]at e;obtain⟨σ',e6,hg',h7⟩:=ko hc hu h1 h2 Y5 ys q.1 YV r ZC e;refine⟨σ',e6,hg',?_⟩;show(st y _).bind _=_;simp only[h4 D,QW,h5,QW];exact h7
def EZ (is iu iv:Nat)(d:ai->Option (List V))(st:V->ai->Option ai)(c:ai->Option Bool)(ut:ED):ai->Option (List (Int×Nat)×ai):=λσ=>if is<σ.length then(d (aw σ is (W8 (.adr 0)))).bind λxs=>dR st (fA 0 c ut is iu iv) xs [] (aw σ is (W8 (.adr 0)))else W9
theorem BP (hd:bk is dl)(hc:bk is c)(hu:bk is ut)(h1:(iu==is)=false)(h2:(iv==is)=false)(Y5:qa is st):
 ∀D σ r,EZ is iu iv dl st c ut σ=W8 r->∃xs,dl (aw σ is (W8 (.adr D)))=W8 xs/\ dR st (fA D c ut is iu iv) xs [] (aw σ is (W8 (.adr D)))=W8 (r.1,aw r.2 is (W8 (.adr D)))/\ is<r.2.length:=λD σ r e=>
 f7 e λhl e=>ay e λxs hxs e=>by obtain⟨σ',e2,YR,h⟩:=ko (D:=D) hc hu (ne_of_beq_false h1) (ne_of_beq_false h2) Y5 xs [] σ r hl e;exact⟨xs,(hd D σ).trans hxs,by refine ab e2 (ab eI ?_);exact h,by refine ab e2 (ab gM ?_);exact YR⟩
end
end
section
section
variable{H l:OO}{P:G->Ow->On->Prop}{x:G}{bd:G->ai->Option (G×ai)}{r:G×ai}{o:ED}{st:RV}
def mO (C:Cf ag w)(k:Nat)(cx:Cx)(H:OO)(P:G->Ow->On->Prop)(body:List RV)(bd:G->ai->Option (G×ai)):Prop:=
 ∀(A:O6) (U:Ow) (env:Env) (σ:ai) (x:G) (s:On) (r:G×ai),aV A k->HS C cx H P x U env σ s->bd x σ=W8 r->Oz (Ov ag w) A (VJ body env) (λf s'=>f= .next/\ fS C cx H P U env s r.1 r.2 s') (λ_ _=>False) s
theorem wz.n (h:wz C k cx H P st bd):mO C k cx H P [st] bd:=λA U env σ x s r rm X e=>Pe (cf (h A U env σ x s r rm X e) λf s' q p=>by refine ab q ?_;exact Po ⟨rfl,p⟩)
theorem mO.h (h:mO C k cx H P body bd):z7 C k cx H P body bd:=λA U env σ x s r rm X e=>cf (h A U env σ x s r rm X e) λ_ _ q p=>⟨.inl q,p⟩
def vb (C:Cf ag w)(l:OO)(x:List V)(U:Ow)(s:On):Prop:=(∃vs,bw "list" s.heap.get? l vs/\ aq C.cls (view U s.heap) x vs)/\ U l=W8 (l,.obj)/\ C.hb.get? l=W9/\ l∉C.T
theorem vb.live {x:List V}(p:vb C l x U s):∃o,s.heap.get? l=W8 o:=(by obtain⟨⟨_,⟨_,h⟩,_⟩,_⟩:=p;exact⟨_,h⟩)
theorem m7:Gh C l (vb C l):=by injections l;exact⟨λ {x U s O J U' s'} p ok ev h=>by obtain⟨⟨vs,⟨m,hq⟩,hr⟩,hu,hb,hT⟩:=p;have no:∀c q,U l=W8 (c,q)->¬O c:=λc q e h'=>h (by rw[hu]at e;cases e;exact h');exact⟨⟨vs,⟨m,ev.keep l _ hT no hq⟩,aq.mono (ev.le ok.tU) _ _ hr⟩,(ev.col l _ hq no).trans hu,hb,hT⟩⟩
def E2 (l:OO)(o d:ED)(x:List V)(σ:ai):Option (List V×ai):=(o σ).bind λy=>match y with
 | .adr a=>if a=l then(d σ).bind λt=>if x.length<lim then W8 (x++ [t],σ)else W9 else W9
 |_=>W9
theorem H8 {f:OO->Option α}{r:α}{P:Prop}(h:(match y with | .adr a=>f a |_=>W9)=W8 r)(k:∀a,y= .adr a->f a=W8 r->P):P:=by
 cases y with
 |adr a=>exact k a rfl h
 |_=>exact absurd h aI
theorem sk (ho:aC C k cx po o)(h:aC C k cx pe d)
 (hb:∀env,Pq po "append" env (PX po env)=PX po env:=by intro _;rfl) (hs:∀env,OC [pe] env= [(false,PX pe env)]:=by intro _;rfl) (hl:(ap.endLine==cp.line)=true:=by rfl)
 (hw:∀env,P8 (.Call (.Attribute po "append" ap) [pe] [] cp) W9 sp.line env=pure false:=by intro _;rfl):
 mO C k cx l (vb C l) [.Expr (.Call (.Attribute po "append" ap) [pe] [] cp) sp] (E2 l o d):=by
 injections k sp ap cp cx pe po d l o _ ho h hb hs hl hw;exact λA U env σ x s r rm X e=>ay e λy hy e=>H8 e λa ha e=>f7 e λhal e=>ay e λt ht e=>f7 e λhlen e=>Pe (Ue (U9 (hb env) (hs env) hl (ho.run rm X.S hy λv XB XI XD XQ=>by simp only[ha,hal]at XQ;refine ab XQ (bV (Oh e) ?_);have X₁:=X.grow m7 XI;obtain⟨ob,h1,h2,h3⟩:∃ob:Obj,XB.heap.get? l=W8 ob/\ ob.cls= .type "list"/\ ob.dict=W9:=(by obtain⟨⟨_,⟨m,ho⟩,_⟩,_⟩:=X₁.p;exact⟨_,ho,rfl,rfl⟩);refine⟨"list","list.append",UI,F.slot_list_append,F.type_list_append,⟨ob,h1,h2⟩,λa ha=>by cases ha;exact⟨ob,h1,h3⟩,RY rfl (Sm (SP (h.run rm XD ht λv XC XF XG rv=>S3 ?_)))⟩;have X₂:=X₁.grow m7 XF;obtain⟨⟨vs,⟨m,hq⟩,hr⟩,hu,hb,hT⟩:=X₂.p;refine Tr (items:=vs.toArray) ⟨m,hq⟩ (λh' YR X2=> ?_) (by refine ab OI (ab hr.length ?_);exact Op (Qp hlen) (by decide+kernel:lim<=Sr));obtain⟨m',YJ⟩:=YR;have ev:Ev C (only l) bM U XC U {XC with heap:=h'}:= .one (tk:=XC.toks) hu rfl hb hT X2.extBut ⟨_,YJ⟩;have le:=ev.le XG.tU;exact Po ⟨rfl,U,(XI.trans XF).ev2.trans X.S.toaY ev (λ_ h=> .inl (.inr h)) (λ_=> .inl),X₂.turn ev ⟨⟨vs++ [v],⟨m',by rw[YJ,Ui]⟩,aq.append (aq.mono le _ _ hr) (aq.cons (bj.mono le _ _ rv) aq.nil)⟩,hu,hb,hT⟩⟩)) (g7 X.S.kind) (hw env))
theorem vZ (HP:Gh C H P)(lH:∀ {x U s},P x U s->∃o,s.heap.get? H=W8 o)(nl:Nat)(F:m5 C f fd params body cx)(hb:mO C k cx H P body bd)(rm:aV A (k+1))(ok:aY C U s)(hP:P x U s)(YO:U1 s fd args (params.zip vs))(rp:aq C.cls (view U s.heap) xs vs)(hlen:xs.length=params.length)(e:bd x (c0 nl xs)=W8 r):
 Ra (Ov ag w) A (.call (.ref f) args) (λr' s'=>r'= .ok (.ret .none)/\ ∃U',Ev C (only H) bM U s U' s'/\ P r.1 U' s') s:=by
 obtain⟨o,ho,hd⟩:=F.obj;have cc:=kW F.cx;have Yl:s.heap.CodeRec fd.code fd.qualname:=(by obtain⟨c,o,vs,t,e,g,r⟩:=F.code;exact⟨c,o,vs,t,e,ok.inv.base c o (F.codeT c e) g,r⟩);refine Sz rm.lt (ok.inv.base f o F.notT ho) hd cc.kind.2.1 cc.kind.2.2.1 F.body Yl (YO _ _ _ _ ?_);simp only[F.gl,F.clo,F.bi];refine Ot (hZ (nl:=nl) F.codeG ok cc rp hlen λenv XB XX sok ev hL Y8=>⟨sok.inv.lim,U4 ?_⟩) (λ_ _ h=>h) λ_ _ f=>f.elim;have nL:H≠env.locals:=λe=>by obtain⟨o,h⟩:=lH hP;rw[e,hL]at h;cases h
 refine Ot (hb _ XX env _ x XB r (rm.deeper env) ⟨sok,nL,λn c hn h=>absurd (Y8 n c h) hn,HP.keep hP ok ev nL⟩ e) (λfl XC hp=> ?_) λ_ _ f=>f.elim;obtain⟨hf,XE,XH,XN⟩:=hp;refine(hf)▸ ?_;exact⟨rfl,XE,((ev.wide (O':=fQ env.locals H) λ_=> .inl).trans ok XH (λ_=> .inl) λ_=> .inl).narrow ok λc h=>h.imp (λ(e:c=env.locals)=>e.symm▸hL) id,XN.p⟩
structure p9 (C:Cf ag w) (k:Nat) (H:OO) (P:G->Ow->On->Prop) (v:Oq) (np:Nat) (kn:List Str) (D:G->List V->Option G):Prop where
 keep:Ia C v
 call:∀(A:O6) (U:Ow) (s:On) (vs us:List Oq) (xs:List V) (x x':G),aV A (k+1)->aY C U s->P x U s->vs.length=np->us.length=kn.length->aq C.cls (view U s.heap) xs (vs++us)->D x xs=W8 x'->Oz (Ov ag w) A (call v vs (kn.zip us)) (λz s'=>z= .none/\ ∃U',Ev C (only H) bM U s U' s'/\ P x' U' s') (λ_ _=>False) s
def zz (nl:Nat)(bd:G->ai->Option (G×ai))(x:G)(xs:List V):Option G:=(bd x (c0 nl xs)).map (·.1)
theorem mO.callee (HP:Gh C H P)(lH:∀ {x U s},P x U s->∃o,s.heap.get? H=W8 o)(nl:Nat)(F:m5 C f fd params body cx)(hb:mO C k cx H P body bd)(Pt:Ab C fd params np kn φ):p9 C k H P (.ref f) np kn λx xs=>zz nl bd x (φ xs) where
 keep:=λh hb _=>by obtain⟨o,ho,hd⟩:=F.obj;refine⟨.frame,.inl rfl,(TY.ld (part:=W9) (hb f o F.notT ho)).andThen ?_⟩;exact(hd)▸TY.now
 call:=λA U s vs us xs x x' rm ok hP hv hu r e=>by obtain⟨ws,Zw,hr,hl⟩:=Pt U s vs us xs ok hv hu r;exact dF e λq hq e=>RU (Pb (vZ HP lH nl F hb rm ok hP Zw hr hl hq) λr XJ h=>by refine ab h.1 ?_;exact⟨rfl,e▸h.2⟩)
def iF (c:Nat)(D:G->List V->Option G)(o:ED)(a b:ai->Option (List V))(x:G)(σ:ai):Option (G×ai):=
 ((o σ).bind (aS c)).bind λy=>(a σ).bind λxs=>(b σ).bind λys=>(D x (y::(xs++ys))).map λx'=>(x',σ)
theorem su (HP:Gh C H P){name:Str}{c:Nat}{D:G->List V->Option G}{a b:ai->Option (List V)}(K:bH C c)(M:ec C c name f)(F:p9 C k H P (.ref f) ((pe::XY).length+1) kn D)(ho:aC C (k+1) cx po o)(ha:gT C (k+1) cx (pe::XY) a)(hb:jr C (k+1) cx kws kn b)
 (pl:Env->Sem Bool) (he:∀env,PX (.Call (.Attribute po name ap) (pe::XY) kws pos) env=(do
   let ov <-PX po env
   Qb ap.atName
   let (f,first) <-Qo [ov] (RD ov name (pl env))
   Rq pos f first (Qr pos (OC (pe::XY) env)) (Pz pos (OY kws env))):=by intro _;rfl)
 (Zb:∀env pos,((Qr pos (OC (pe::XY) env)).any (·.1))=false:=by intro _ _;rfl) (X':∀env,OC (pe::XY) env=(false,PX pe env)::OC XY env:=by intro _;rfl)
 (hw:∀env,P8 (.Call (.Attribute po name ap) (pe::XY) kws pos) W9 sp.line env=pure false:=by intro _;rfl):
 wz C (k+1) cx H P (.Expr (.Call (.Attribute po name ap) (pe::XY) kws pos) sp) (iF c D o a b):=λA U env σ x s r rm h e=>
 ay e λy hy e=>ay e λxs hxs e=>ay e λys YM e=>dF e λx' T' e=>
  Ue (jU K M ho pl he rm h.S.tobA hy λad XB g XD XQ=>j4 F.keep ha hb Zb rm XD XQ hxs YM (jd X' A env XB _ (hb.1 env pos).1) λvs us XC XF XG XZ l l₂=>
   have XN:=h.grow HP (g.trans XF)
   cf (F.call A U XC _ us _ x x' rm XG.toaY XN.p (l.trans (SX ..)) l₂ XZ T') λz XJ _ p=>by obtain⟨U',ev,P'⟩:=p;refine(e)▸ ?_;exact⟨rfl,U',(g.trans XF).ev2.trans h.S.toaY ev (λ_ h=> .inl (.inr h)) (λ_=> .inl),XN.turn ev P'⟩) (g7 h.S.kind) (hw env)
end
end
section
section
variable{Ua:Ow}{l:OO}{g:a0}{h:O0}{c i:Nat}{a b y':V}{YW vo:List V}{z:Oq}
theorem Gs (r:bj K g (.inst c [a,b,x]) z)(q:∀ad dd v1 v2 v3,z= .ref ad->bC K g ad c dd [v1,v2,v3]->bj K g a v1->bj K g b v2->bj K g x v3->P):P:=by obtain⟨ad,dd,vs,e,hI,r⟩:=r;obtain⟨v1,r1,e1,q1,r⟩:=r.cons_inv;obtain⟨v2,r2,e2,q2,r⟩:=r.cons_inv;obtain⟨v3,r3,e3,q3,r⟩:=r.cons_inv;rw[e1,e2,e3,r.nil_inv]at hI;exact q ad dd v1 v2 v3 e hI q1 q2 q3
theorem t0 {ad dd}{v1 v2 v3:Oq}(e:z= .ref ad)(hI:bC K g ad c dd [v1,v2,v3])(q1:bj K g a v1)(q2:bj K g b v2)(q3:bj K g x v3):bj K g (.inst c [a,b,x]) z:=
 Exists.intro ad (Exists.intro dd (Exists.intro _ ⟨e,hI,aq.cons q1 (aq.cons q2 (aq.cons q3 aq.nil))⟩))
theorem tY (le:∀b o,g b=W8 o->b≠l->g' b=W8 o)(hl:bw "list" g l [])(r:bj K g (.list ys) v)(hs:ys≠ []/\ ys.all mX=true):bj K g' (.list ys) v:=by obtain⟨a,vs,e,⟨m,hm⟩,hr⟩:=r;refine Exists.intro a (Exists.intro vs ⟨e,⟨m,le a _ hm λq=> ?_⟩,g5 hr hs.2⟩);obtain⟨m',YJ⟩:=hl;rw[q,YJ]at hm;cases hm;exact hs.1 (Q3 hr.length.symm)
theorem vL (r:bj K (view Ua h) (.inst c [.list ys,.list YW,.list []]) z)(h1:ys≠ []/\ ys.all mX=true)(h2:YW≠ []/\ YW.all mX=true)
 (q:∀l,bw "list" (view Ua h) l []->(∀g',(∀b o,view Ua h b=W8 o->b≠l->g' b=W8 o)->bj K g' (.inst c [.list ys,.list YW,.adr l]) z)->P):P:=
 Gs r λad dd v1 v2 v3 e hI q1 q2 q3=>by obtain⟨l,ws,e3,hl,hw⟩:=gI q3;rw[hw.nil_inv]at hl;refine q l hl λg' le=>t0 (dd:=dd) e ?_ (tY le hl q1 h1) (tY le hl q2 h2) e3;obtain⟨z1,z2,z3,es,n,z4,z5⟩:=hI;obtain⟨m,hm⟩:=hl;exact⟨le _ _ z1 (λq=>by rw[q,hm]at z1;cases z1),z2,z3,es,n,le _ _ z4 (λq=>by rw[q,hm]at z4;exact absurd (Q2.inj (show Q2 "list"=Q2 "dict" from congrArg Obj.cls (Oh z4))) (by decide)),z5⟩
theorem zG (hg:fn∈cx.globs)(hm:C.mg fn=W8 v)(F:cM C k v 1 [] D)(h:aC C (k+1) cx pe d)(rm:aV A (k+1))(x:bA C cx U env σ s)(hy:d σ=W8 y)(hsc:mX y=true)(ht:D [y]=W8 t)
 (Zb:∀env pos,((Qr pos (OC [pe] env)).any (·.1))=false:=by intro _ _;rfl) (X':∀env,OC [pe] env=(false,PX pe env)::OC [] env:=by intro _;rfl):
 Oz (Ov ag w) A (PX (.Call (.Name fn p) [pe] [] pos) env) (λz s'=>aH C s s'/\ ∃Ua:Ow,(∀a o,s.heap.get? a=W8 o->Ua a≠W9)/\ bj C.cls (view Ua s'.heap) t z) (λ_ _=>False) s:=
 UA (lN x hg hm (j4 (fts:= []) (first:= []) (xs:= [y]) (ys:= []) F.keep (args_cons h args_nil X') (fZ (k:=k+1) (cx:=cx)) Zb rm x aq.nil (by unfold ah;refine ab hy ?_;rfl) rfl (jd X' A env s _ rfl) λvs us XC g XG r l l₂=>by
  have ok:aY C (λa=>if(XC.heap.get? a).isSome then W8 (a,.obj)else W9) XC:=⟨XG.inv,(λa c q e=>by
   by_cases h:(XC.heap.get? a).isSome=true
   ·rw[if_pos h]at e;cases e;exact⟨P0.mp h,P0.mp h⟩
   ·rw[if_neg h]at e;cases e),λa ha=>by
   refine ab (if_pos (P0.mpr (XG.inv.tabLive ha))) ?_;exact PY _⟩
  exact cf (F.call A _ XC _ us _ t rm ok l l₂ (g5 r (by rw[List.nil_append,QQ,RM,hsc];rfl)) ht) λz XJ XW Yq=>⟨g.trans XW,_,λa o ho=>by refine ab (if_pos (P0.mpr (g.still x.inv ⟨o,ho⟩))) ?_;exact PY _,Yq⟩))
def zu (i:Nat)(c:Nat)(pv:ai->Option (List (V)×List V×List V×ai)):SD:=λσ=>(pv σ).bind λ(cl,nm,vo,σ')=>W8 (.next,aw σ' i (W8 (.inst c [.list cl,.list nm,.list vo])))
inductive KW (D:List V->Option V) (d:ED) (i c:Nat) (bd:OO->List V->ai->Option (List V×ai)) (σ:ai):List V->List V->List V->ai->Prop where
 |mk {n:Int} {ys YW vo:List V} {σ':ai}:ys≠ []/\ ys.all mX=true->YW≠ []/\ YW.all mX=true->d σ=W8 (.int n)->D [.int n]=W8 (.inst c [.list ys,.list YW,.list []])->i<σ'.length->(∀l,bd l [] (aw σ i (W8 (.inst c [.list ys,.list YW,.adr l])))=W8 (vo,aw σ' i (W8 (.inst c [.list ys,.list YW,.adr l]))))->KW D d i c bd σ ys YW vo σ'
theorem xn {eH:RV}{bd:OO->List V->ai->Option (List V×ai)}{pv:ai->Option (List V×List V×List V×ai)}
 (hs:cx.vars.lookup sn=W8 i) (hso:i∉cx.own) (hsf:i∉cx.fre) (hg:fn∈cx.globs) (hm:C.mg fn=W8 v) (F:cM C k v 1 [] D) (h:aC C (k+1) cx pe d) (hX:∀l,wz C (k+1) cx l (vb C l) eH (bd l))
 (hpvd:∀σ cl nm vo σ',pv σ=W8 (cl,nm,vo,σ')->KW D d i c bd σ cl nm vo σ')
 (hrest:bG C (k+1) cx oc rest O' db) (hw:∀env,P8 (.Call (.Name fn p) [pe] [] p1) (W8 (.Name sn p2)) p3.line env=pure false:=by intro _;rfl)
 (Zb:∀env pos,((Qr pos (OC [pe] env)).any (·.1))=false:=by intro _ _;rfl) (X':∀env,OC [pe] env=(false,PX pe env)::OC [] env:=by intro _;rfl):
 bG C (k+1) cx oc (.Assign [.Name sn p2] (.Call (.Name fn p) [pe] [] p1) p3::eH::rest) O' (aa (zu i c pv) db):=λA U env σ s r rm x e=>by
 injections k p p1 p2 p3 cx v pe oc O' D fn sn rest d db c i eH bd pv A U env σ s r _ hs hso hsf hg hm F h hX hpvd hrest hw Zb X' rm x e;exact ay e λq hq e=>ay hq λu hy hq=>by
  rw[<-Oh hq]at e;obtain⟨sc1,sc2,hd,hD,hil,hbd⟩:=hpvd σ _ _ _ _ hy;have ok:=x.toaY;refine Pe (Rp (cf (zG hg hm F h rm x.tobA hd rfl hD Zb X') λz XB g hz=> ?_) (hw env));obtain⟨Ua,hUa,rz⟩:=hz;refine vL rz sc1 sc2 λl hl open_=> ?_;obtain⟨m,hl⟩:=hl;have hl:=ao.mp hl;have new:∀ {a:OO},Ua a=W9->s.heap.get? a=W9:=λh=>by
   cases e:s.heap.get? _ with
   |none=>rfl
   |some o=>exact absurd h (hUa _ o e)
  have dl:=new hl.1;have hl:=hl.2;have nw:=ok.new dl;have XS:Ev C (only l) bM U s (b5 U l (l,.obj)) XB:=Ev.new1 g ok dl ⟨_,hl⟩;have nL:l≠env.locals:=λe=>by obtain⟨_,o,h⟩:=x.live _ _ _ x.hL;rw[<-e,dl]at h;cases h
  refine(x.more XS λc h=>h.symm▸dl).store hs hso hsf (open_ _ λb o h1 h2=>ao.mpr ⟨(aO h2).trans (ok.new (new (ao.mp h1).1)).2.1,(ao.mp h1).2⟩) λXC XG XH _=> ?_;have XH:Ev C (only env.locals) bM (b5 U l (l,.obj)) XB (b5 U l (l,.obj)) XC:=XH rfl;have Z0:=XH.keep l _ nw.1 (λc q e=>by rw[aD]at e;cases e;exact nL) hl;have XN:HS C cx l (vb C l) [] (b5 U l (l,.obj)) env _ XC:=⟨XG,nL,(λn c h1 h2 q e=>by obtain⟨_,v,o,h3,_⟩:=x.hf n c h1 h2;rw[aO λe=>by rw[e,dl]at h3;cases h3]at e;obtain⟨_,o,h⟩:=x.live _ _ _ e;rw[dl]at h;cases h),⟨[],⟨m,Z0⟩,aq.nil⟩,aD,nw.2.2,nw.1⟩;have E':Ev C (λc=>c=env.locals \/s.heap.get? c=W9) bM U s (b5 U l (l,.obj)) XC:=(XS.wide λc h=> .inr (h.symm▸dl)).trans ok XH (λc h=> .inl (.inl h)) λ_=> .inl;refine Pe (cf (hX l A _ env _ [] XC (_,_) rm XN (hbd l)) λf XJ hf p=> ?_);obtain⟨Yc,XR,X5⟩:=p;refine ab hf ?_;have X1:Ev C (only l) bM Yc XJ (free Yc [l]) XJ:= .free λa ha=>by refine ab (OJ.mp ha) ?_;exact⟨⟨_,X5.p.2.1⟩,X5.p.2.2.2⟩
  have Yd:=X5.S.other X1 (λe=>nL e.symm) λn c h1 h2 c' q h3 e=>X5.fr n c h1 h2 q ((show c'=l from e)▸h3);have le:=X1.le X5.S.tU;obtain⟨v',q1,q2,_⟩:=X5.S.vars sn i _ hs (bZ hil);have YY:=Yd.retree (t:= .inst c [.list _,.list _,.list _]) hs hso q1 (Gs (q2 hso) λad dd v1 v2 v3 e4 hI w1 w2 w3=>by obtain⟨ws,⟨m',hws⟩,hrw⟩:=X5.p.1;exact t0 e4 (hI.mono le) (bj.mono le _ _ w1) (bj.mono le _ _ w2) (Exists.intro l (Exists.intro ws ⟨w3,⟨m',ao.mpr ⟨if_pos (.head _),hws⟩⟩,aq.mono le _ _ hrw⟩)));rw[eI]at YY;have evF:Ev C (only env.locals) bM U s _ XJ:=(E'.trans ok (XR.trans XG.toaY X1 (λc h=> .inl (.inr h)) λ_=> .inl) (λc h=>h.elim (λh=> .inl (.inl h)) λe=> .inr (e.symm▸dl)) λ_=> .inl).narrow ok λc h=>h.symm;exact dk.seq hrest rm ok (.ofNext evF YY) e
end
end
section
structure dC (C:Cf ag w) (f:OO) (fd:Rb) (P:P9×List RV×Sj) (dfl:List V) (g:Bool):Prop where
 obj:∃o,C.hb.get? f=W8 o/\ o.data= .func fd
 notT:f∉C.T
 code:C.hb.CodeRec fd.code fd.qualname
 codeT:∀c,fd.code= .ref c->c∉C.T
 codeG:g=true->∃p∈C.tabs,fd.code= .ref p.1
 clo:fd.closure= []
 gl:fd.globals=PF
 bi:fd.builtins=O7
 body:fd.body= .stmts P.2.1
 scope:fd.scope=P.2.2
 par:fd.params=P.1
 dfl:match dfl with
  | []=>fd.defaults= .none
  |_=> ∃T o vs n,fd.defaults= .ref T/\ T∉C.T/\ C.hb.get? T=W8 o/\ o.data= .seq vs n/\ ∀g:a0,aq C.cls g dfl vs.toList
theorem dC.ok {P:P9×List RV×Sj}{g:Bool}(R:dC C f fd P dfl g)(params:List Str)(hg:cx.gen=true->g=true)(hc:zc P.2.2 params cx=true):m5 C f fd params P.2.1 cx:=
 ⟨R.obj,R.notT,R.code,R.codeT,λh=>R.codeG (hg h),R.clo,R.gl,R.bi,R.body,R.scope▸hc⟩
theorem dC.pat0 {P:P9×List RV×Sj}{g:Bool}(R:dC C f fd P [] g)
 (h:∀(fd:Rb) (vs us:List Oq),vs.length=np->us.length=kn.length->fd.params=P.1->fd.defaults= .none->Wc fd ⟨vs,kn.zip us⟩=pure (params.zip (vs++us)))
 (hl:params.length=np+kn.length):Ab C fd params np kn id:=λU s vs us xs ok h1 h2 r=>
 ⟨vs++us,W7 (h fd vs us h1 h2 R.par R.dfl),r,by show xs.length=_;exact bV r.length (ab Pd (ab h1 (ab h2 (ab hl rfl))))⟩
theorem eO {α:Type}:∀(l:List α) (z:α),(Oo l.length).map (λi=>l.getD i z)=l
 | [],z=>rfl
 |a::l,z=>by refine ab Qf (ab List.range_succ_eq_map (ab Sw (ab Sg ?_)));exact congrArg (a:: ·) (eO l z)
theorem Lw (vs us:List α)(z:α):(Oo vs.length).map (λi=>(vs++us).getD i z)=vs:=
 (QY λi hi=>by rw[Pg,Pg,List.getElem?_append_left (OF.mp hi)]).trans (eO vs z)
theorem Lv (vs us:List α)(z:α):(Oo us.length).map (λi=>(vs++us).getD (vs.length+i) z)=us:=
 (QY λi _=>by rw[Pg,Pg,List.getElem?_append_right (Rt _ _),Nat.add_sub_cancel_left]).trans (eO us z)
def Do (P:P9)(params:List Str)(np:Nat)(kn:List Str):Prop:=
 ∀(n q:Str) (b:FuncBody) (sc:Sj) (gl:OO) (cl:List (Str×OO)) (kd dc pm:Oq) (an:Option OO) (cd ct:Oq) (bi:OO) (g:Nat->Oq),Wc ⟨n,q,P,b,sc,gl,cl,.none,kd,dc,pm,an,cd,ct,bi⟩ ⟨(Oo np).map g,kn.zip ((Oo kn.length).map λi=>g (np+i))⟩=pure (params.zip ((Oo (np+kn.length)).map g))
theorem dC.pat00 {P:P9×List RV×Sj}{g:Bool}(R:dC C f fd P [] g)(h:Do P.1 params np kn)(hl:params.length=np+kn.length):Ab C fd params np kn id:=
 R.pat0 (λfd vs us h1 h2 h3 h4=>by obtain⟨n,q,p,b,sc,gl,cl,df,kd,dc,pm,an,cd,ct,bi⟩:=fd;have h3:p=P.1:=h3;have h4:df= .none:=h4;have:=h n q b sc gl cl kd dc pm an cd ct bi λi=>(vs++us).getD i .none;rw[<-h1,<-h2,Lw,Lv,<-Pd,eO]at this;refine ab h3 (ab h4 ?_);exact this) hl
def eu (z:α)(ds:List α)(l:List (Nat⊕Nat))(xs:List α):List α:=l.map λ | .inl i=>xs.getD i z | .inr j=>ds.getD j z
theorem o7 {K:br}{g:a0}{xs ds:List V}{vs ws:List Oq}(r:aq K g xs vs)(r':aq K g ds ws):∀l:List (Nat⊕Nat),aq K g (eu .none ds l xs) (eu .none ws l vs)
 | []=>aq.nil
 | .inl i::l=>aq.cons (iY r i) (o7 r r' l)
 | .inr j::l=>aq.cons (iY r' j) (o7 r r' l)
def bY (C:Cf ag w)(k:Nat)(nm:Str)(np:Nat)(kn:List Str)(D:List V->Option V):Prop:= ∃v,C.mg nm=W8 v/\ cM C k v np kn D
def fc (C:Cf ag w)(c k:Nat)(nm:Str)(np:Nat)(kn:List Str)(D:List V->Option V):Prop:= ∃f:OO,ec C c nm f/\ fnIn C.K f=true/\ cM C k (PL f) np kn D
theorem gZ {a b:ai->Option (List V)}(F:bY C k fn (pe::XY).length kn D)(hg:fn∈cx.globs)(ha:gT C (k+1) cx (pe::XY) a)(hb:jr C (k+1) cx kws kn b)
 (Zb:∀env pos,((Qr pos (OC (pe::XY) env)).any (·.1))=false:=by intro _ _;rfl) (he:∀env,OC (pe::XY) env=(false,PX pe env)::OC XY env:=by intro _;rfl):aC C (k+1) cx (.Call (.Name fn p) (pe::XY) kws pos) (aM D a b):=λA U env σ s t rm x e=>by
 obtain⟨v,hm,F⟩:=F;exact vz hg hm F ha hb Zb (jd he) A U env σ s t rm x e
theorem vy {name:Str}{c:Nat}{o:ED}{a b:ai->Option (List V)}(K:bH C c)(F:fc C c k name ((pe::XY).length+1) kn D)(ho:aC C (k+1) cx po o)(ha:gT C (k+1) cx (pe::XY) a)(hb:jr C (k+1) cx kws kn b)
 (pl:Env->Sem Bool) (he:∀env,PX (.Call (.Attribute po name ap) (pe::XY) kws pos) env=(do
   let ov <-PX po env
   Qb ap.atName
   let (f,first) <-Qo [ov] (RD ov name (pl env))
   Rq pos f first (Qr pos (OC (pe::XY) env)) (Pz pos (OY kws env))):=by intro _;rfl)
 (Zb:∀env pos,((Qr pos (OC (pe::XY) env)).any (·.1))=false:=by intro _ _;rfl) (X':∀env,OC (pe::XY) env=(false,PX pe env)::OC XY env:=by intro _;rfl):
 aC C (k+1) cx (.Call (.Attribute po name ap) (pe::XY) kws pos) (C7 c D o a b):=λA U env σ s t rm x e=>by
 obtain⟨f,M,_,F⟩:=F;exact vA K M F ho ha hb pl he Zb X' A U env σ s t rm x e
theorem iB {name:Str}{c:Nat}{o:ED}(K:bH C c)(F:fc C c k name 1 [] D)(ho:aC C (k+1) cx po o)
 (pl:Env->Sem Bool) (he:∀env,PX (.Call (.Attribute po name ap) [] [] pos) env=(do
   let ov <-PX po env
   Qb ap.atName
   let (f,first) <-Qo [ov] (RD ov name (pl env))
   Rq pos f first (Qr pos (OC [] env)) (Pz pos (OY [] env))):=by intro _;rfl):
 aC C (k+1) cx (.Call (.Attribute po name ap) [] [] pos) (λσ=>((o σ).bind (aS c)).bind λy=>D [y]):=λA U env σ s t rm x e=>by
 obtain⟨f,M,_,F⟩:=F;exact sG K M F ho pl he A U env σ s t rm x e
theorem qJ {c:Nat}{a b:ED}(K:bH C c)(F:fc C c k "__getitem__" 2 [] D)(ho:aC C (k+2) cx pe a)(hi:aC C (k+2) cx pi b)
 (hsl:∀x i,RQ pi true (.ref x) i=V9 (.builtin "lifetime.subscript" ⟨[.ref x,i],[]⟩):=by intro _ _;with_unfolding_all rfl):
 aC C (k+2) cx (.Subscript pe pi pos) (λσ=>((a σ).bind (aS c)).bind λx=>(b σ).bind λy=>D [x,y]):=λA U env σ s t rm x e=>by
 obtain⟨f,M,hf,F⟩:=F;exact xt K M hf F ho hi hsl A U env σ s t rm x e
theorem bY.le {nm:Str}(F:bY C k nm np kn D)(h:k<=k'):bY C k' nm np kn D:=(by obtain⟨v,a,b⟩:=F;exact⟨v,a,b.le h⟩)
theorem fc.le {c:Nat}{nm:Str}(F:fc C c k nm np kn D)(h:k<=k'):fc C c k' nm np kn D:=(by obtain⟨v,a,b,d⟩:=F;exact⟨v,a,b,d.le h⟩)
theorem ir.le {m:Oq->Oq->Sem Oq}{f:V->V->Option V}(F:ir C k m f)(h:k<=k'):ir C k' m f:=λA U s x y t v u rm=>F A U s x y t v u (rm.le h)
def iM (C:Cf ag w)(nm:Str)(P:P9×List RV×Sj)(dfl:List V)(g:Bool):Prop:= ∃(f:OO) (fd:Rb),C.mg nm=W8 (PL f)/\ dC C f fd P dfl g
def Ad (C:Cf ag w)(c:Nat)(nm:Str)(P:P9×List RV×Sj)(dfl:List V)(g:Bool):Prop:= ∃(f:OO) (fd:Rb),ec C c nm f/\ fnIn C.K f=true/\ dC C f fd P dfl g
end
section
def FW (C:Cf ag w)(c:Nat)(P:P9×List RV×Sj)(dfl:List V):Prop:= ∃(f:OO) (fd:Rb),Q0 C.K (.ref (C.cls.adr c)) "__init__"=W8 (W8 (.ref f))/\ typeIn C.K (.ref f)=W8 (.type "function")/\ keepIn C.K (.ref (C.cls.adr c))=true/\ dC C f fd P dfl false
structure Wd (C:Cf ag w):Prop where
 B:BF C
 KF:bH C 0
 KP:bH C 1
 KV:bH C 2
 nF:C.cls.names 0= [("numerator":Str),"denominator"]
 nP:C.cls.names 1= [("candidates":Str),"cand_names","_voters"]
 nV:C.cls.names 2= [("approved":Str),"weight"]
 gF:C.mg ("Fraction":Str)=W8 (.ref (C.cls.adr 0))
 gP:C.mg ("Profile":Str)=W8 (.ref (C.cls.adr 1))
 gV:C.mg ("Voter":Str)=W8 (.ref (C.cls.adr 2))
 f2:iM C "CandidateSet" (ar 2) [.any,.none] true
 f4:iM C "powerset" (ar 4) [.none] false
 f6:iM C "combinations" (ar 6) [] false
 f8:iM C "total" (ar 8) [] false
 f11:iM C "check" (ar 11) [.none,.any] false
 f13:iM C "check_EJR" (ar 13) [.none,.any] false
 f14:iM C "check_PJR" (ar 14) [.none,.any] false
 f15:iM C "check_JR" (ar 15) [.none] false
 f16:iM C "_check_JR" (ar 16) [] false
 f18:iM C "_check_EJR_brute_force" (ar 18) [] false
 f19:iM C "_check_PJR_brute_force" (ar 19) [] false
 f20:iM C "check_EJR_plus" (ar 20) [.none] false
 f21:iM C "_check_EJR_plus" (ar 21) [] true
 f22:iM C "check_FJR" (ar 22) [.none,.any] false
 f23:iM C "_check_FJR_brute_force" (ar 23) [] true
 f24:iM C "check_core" (ar 24) [.none,.any] false
 f25:iM C "_check_core_brute_force" (ar 25) [] true
 f28:iM C "compute" (ar 28) [.none,.bool true] false
 f29:iM C "apply_threshold" (ar 29) [] false
 f30:iM C "within_quota" (ar 30) [] false
 f31:iM C "largest_remainder" (ar 31) [.bool true] false
 f32:iM C "divisor" (ar 32) [.bool true] false
 f33:iM C "_divzero_fewerseatsthanparties" (ar 33) [] false
 f34:iM C "quota" (ar 34) [.bool true] false
 f39:iM C "_law_names" (ar 39) [] false
 f40:iM C "_law_methods" (ar 40) [] false
 f41:iM C "_law_quota" (ar 41) [] false
 m72:Ad C 0 "floor" (aJ 7 2) [] false
 m73:Ad C 0 "ceil" (aJ 7 3) [] false
 m362:Ad C 1 "approved_candidates" (aJ 36 2) [] false
 m364:Ad C 1 "_unique_voter" (aJ 36 4) [] false
 m365:Ad C 1 "add_voter" (aJ 36 5) [] false
 m366:Ad C 1 "add_voters" (aJ 36 6) [] false
 m367:Ad C 1 "total_weight" (aJ 36 7) [] true
 m3612:Ad C 1 "__getitem__" (aJ 36 12) [] false
 i7:FW C 0 (aJ 7 0) [.int 0,.int 1]
 i36:FW C 1 (aJ 36 0) [.none]
 i37:FW C 2 (aJ 37 0) [.int 1,.none]
 pr:∃(p f:OO) (fd:Rb),z9 C 1 "num_cand" p f/\ dC C f fd (aJ 36 1) [] false
 it:∃(f:OO) (fd:Rb) (sn vn an:Str) (p1 p2 p3 p4 p5 p6 p7:Pos),tK C 1 f fd 2 sn vn an p1 p2 p3 p4 p5 p6 p7
 oM:∃(f:OO) (fd:Rb),Fq C 0 (SV .Mult).2 f/\ dC C f fd (aJ 7 10) [] false
 oL:∃(f:OO) (fd:Rb),isFn C.K (.ref f)=true/\ Q0 C.K (.ref (C.cls.adr 0)) (cmpInfo .LtE).2.1=W8 (W8 (.ref f))/\ dC C f fd (aJ 7 16) [] false
 pn:∃(a:OO) (vs:List Oq),C.mg ("PROPERTY_NAMES":Str)=W8 (.ref a)/\ (∃m,C.hb.get? a=W8 {cls:= .type "list",dict:=W9,data:= .seq vs.toArray m,slots:= #[]})/\ a∉C.T/\ ∀(K:br) (g:a0),aq K g (fK.map Xd) vs
theorem Wd.a00 (W:Wd C):(C.cls.names 0)[0]?=W8 ("numerator":Str):=by refine ab W.nF ?_;rfl
theorem Wd.a01 (W:Wd C):(C.cls.names 0)[1]?=W8 ("denominator":Str):=by refine ab W.nF ?_;rfl
theorem Wd.a10 (W:Wd C):(C.cls.names 1)[0]?=W8 ("candidates":Str):=by refine ab W.nP ?_;rfl
theorem Wd.a11 (W:Wd C):(C.cls.names 1)[1]?=W8 ("cand_names":Str):=by refine ab W.nP ?_;rfl
theorem Wd.a12 (W:Wd C):(C.cls.names 1)[2]?=W8 ("_voters":Str):=by refine ab W.nP ?_;rfl
theorem Wd.a20 (W:Wd C):(C.cls.names 2)[0]?=W8 ("approved":Str):=by refine ab W.nV ?_;rfl
theorem Wd.a21 (W:Wd C):(C.cls.names 2)[1]?=W8 ("weight":Str):=by refine ab W.nV ?_;rfl
theorem lX (W:Wd C){p:Bool}{tp:Pos}(ho:aC C k cx pe d)
 (hg:fn∈cx.globs) (hm:fn∈bP:=by decide) (Z9:OZ fn=W8 (.type "enumerate"):=by rfl) (he:∀env,OC [pe] env= [(false,PX pe env)]:=by intro _;rfl):
 dP C k cx true p (.Tuple elts ct tp) (.Call (.Name fn q) [pe] [] pos) (dO 1 2 d) Eq:=by
 obtain⟨f,fd,sn,vn,an,p1,p2,p3,p4,p5,p6,p7,F⟩:=W.it;exact vT W.KP F ho hg hm Z9 he
theorem D7 (W:Wd C){n:Str}(hg:n∈cx.globs)(hn:n=("PROPERTY_NAMES":Str)):gm C k cx (.Name n pos) (dK (.list (fK.map Xd))):=by obtain⟨a,vs,h1,h2,h3,h4⟩:=W.pn;exact vt hg (hn▸h1) h2 h3 h4
def An (g:List V->ai->Option (List V)):Prop:= ∀(a:OO) (fs:List V) (σ:ai) (r:List V),0<σ.length->g fs (aw σ 0 (W8 (.adr 0)))=W8 r->g fs (aw σ 0 (W8 (.adr a)))=W8 r
theorem pU:An λfs _=>W8 fs:=λ_ _ _ _ _ e=>e
theorem j3 {i:Nat}{g:List V->ai->Option (List V)}(hd:bk 0 de)(hg:An g):An (ge i de g):=λa fs σ r h0 e=>f7 e λhi e=>ay e λt ht e=>by unfold ge;rw[if_pos hi,hd a,ht];exact hg a _ σ r h0 e
theorem zM {Xu i:Nat}{g:List V->ai->Option (List V)}(hg:An g):An (y0 Xu i z g):=λa fs σ r h0 e=>
 f7 e λhi e=>ym e λm hm e=>by
  unfold y0;refine ab (if_pos hi) (ab hm ?_);by_cases h:m<=z
  ·rw[if_pos h]at e;cases e
  ·rw[if_neg h]at e;exact(if_neg h).trans (hg a fs σ r h0 e)
def wE (b:SD):Prop:= ∀(a:OO) (σ:ai) (r:Fl×ai),0<σ.length->b (aw σ 0 (W8 (.adr 0)))=W8 r->∃σ',0<σ'.length/\ r.2=aw σ' 0 (W8 (.adr 0))/\ b (aw σ 0 (W8 (.adr a)))=W8 (r.1,aw σ' 0 (W8 (.adr a)))
theorem rR {b:SD}{g:List V->ai->Option (List V)}(hb:wE b)(hg:An g):An (dW b g):=λa fs σ r h0 e=>ay e λq hq e=>yZ e λ_ hf _ _ e=>by obtain⟨σ',h1,h2,h3⟩:=hb a σ q h0 hq;unfold dW;rw[h3,QW,hf,bZ h0,bZ h1];rw[h2]at e;exact(if_pos rfl).trans (hg a fs σ' r h1 e)
theorem rS:wE af:=λa σ r h0 e=>Oh e▸⟨σ,h0,rfl,rfl⟩
theorem rT:wE λ_=>W9:=λa σ r h0 e=>nomatch e
theorem Ca {b c:SD}(hb:wE b)(hc:wE c):wE (aa b c):=λa σ r h0 e=>
 ay e λq hq e=>by
  obtain⟨σ',h1,h2,h3⟩:=hb a σ q h0 hq;unfold aa;refine ab h3 ?_;obtain⟨fl,XK⟩:=q;cases fl with
  |next=>exact hc a σ' r h1 ((show XK=_ from h2)▸e)
  |_=>refine bV (Oh e) ?_;exact⟨σ',h1,h2,rfl⟩
theorem uU {t:ai->Option Bool}{b c:SD}(ht:bk 0 t)(hb:wE b)(hc:wE c):wE (aE t b c):=λa σ r h0 e=>
 ay e λv hv e=>by
  unfold aE;rw[ht a,hv];cases v with
  |false=>exact hc a σ r h0 e
  |true=>exact hb a σ r h0 e
theorem B9 (hd:bk 0 d)(hj:0≠j):wE (ak j d):=λa σ r h0 e=>dF e λt ht e=>by refine bV e ?_;refine⟨aw σ j (W8 t),gM.symm▸h0,cb hj.symm,?_⟩;unfold ak;rw[hd a,ht];exact congrArg (λx=>W8 (Fl.next,x)) (cb hj.symm)
theorem oB {t:ai->Option Bool}{b:SD}(ht:bk 0 t)(hb:wE b):∀n,wE (bB t b n)
 |0=>λa σ r h0 e=>nomatch e
 |n+1=>λa σ r h0 e=>ay e λv hv e=>by
  show ∃Yt,_/\ _/\ ((t (aw σ 0 (W8 (.adr a)))).bind _)=_;rw[ht a,hv];cases v with
  |false=>refine bV (Oh e) ?_;exact⟨σ,h0,rfl,rfl⟩
  |true=>
   refine ay e λq hq e=> ?_;obtain⟨σ',h1,h2,h3⟩:=hb a σ _ h0 hq;show ∃Yt,0<Yt.length/\ r.2=aw Yt 0 (W8 (.adr 0))/\ ((b (aw σ 0 (W8 (.adr a)))).bind λr=>match r.1 with | .ret _=>W8 r |_=>bB t b n r.2)=W8 (r.1,aw Yt 0 (W8 (.adr a)));refine ab h3 ?_;obtain⟨fl,XK⟩:=q;cases fl with
   |ret t=>refine bV (Oh e) ?_;exact⟨σ',h1,h2,rfl⟩
   |_=>exact oB ht hb n a σ' r h1 ((show XK=_ from h2)▸e)
theorem tF {i:Nat}(hd:bk 0 d)(hi:0≠i)(hj:0≠j):wE (bE d (eH i j)):=λa σ r h0 e=>ay e λt ht e=>dF e λσ' hs e=>by obtain⟨Yt,h1,hl,h2⟩:=oA hi.symm hj.symm t σ σ' hs;refine bV e (ab h1 ?_);refine⟨Yt,hl.symm▸h0,rfl,?_⟩;unfold bE;rw[hd a,ht,QW,h2 a];rfl
def rO (c n nl:Nat)(φ:List V->List V)(g:List V->ai->Option (List V))(xs:List V):Option V:=(g [] (c0 nl (φ (.adr 0::xs)))).bind λfs=>if fs.length=n then W8 (.inst c fs)else W9
theorem FW.call {c:Nat}{P:P9×List RV×Sj}(F:FW C c P dfl)(K:bH C c)(n nl:Nat)(hn:(C.cls.names c).length=n)(hg:cx.gen=true->false=true)(hc:zc P.2.2 params cx=true){g:List V->ai->Option (List V)}(hb:iI C k cx c P.2.1 g)(bl:An g){l:List (Nat⊕Nat)}
 (hp:∀f fd,dC C f fd P dfl false->Ab C fd params (np+1) kn (eu .none ds (.inl 0::l))) (hl:∀(i:Nat),.inl i∈l->i≠0):cM C k (.ref (C.cls.adr c)) np kn (rO c n nl (eu .none ds (.inl 0::l)) g):=by
 obtain⟨f,fd,h1,h2,h3,R⟩:=F;refine tB K ⟨h1,h2,h3,R.ok params hg hc⟩ (hp f fd R) hb (nl:=nl) λxs t e=> ?_;obtain⟨fs,hfs,e⟩:=OH.mp e;split at e
 ·rename_i hlen
  cases e;refine⟨fs,rfl,by refine ab hn ?_;exact hlen,λx=>⟨?_,rfl⟩⟩;have key:∀y:OO,c0 nl (eu .none ds (.inl 0::l) (.adr y::xs))=aw (c0 nl (eu .none ds (.inl 0::l) (.adr 0::xs))) 0 (W8 (.adr y)):=λy=>by
   have e1:∀l':List (Nat⊕Nat),(∀(i:Nat),.inl i∈l'->i≠0)->eu (Xa) ds l' (.adr y::xs)=eu .none ds l' (.adr 0::xs):=λl' YR=>QY λq hq=>by
    cases q with
    |inl i=>
     cases i with
     |zero=>exact absurd rfl (YR 0 hq)
     |succ i=>rfl
    |inr j=>rfl
   show(W8 (V.adr y)::((eu .none ds l (.adr y::xs)).map W8++_))=_;refine ab (e1 l hl) ?_;rfl
  refine ab (key x) ?_;refine bl x [] _ fs (Rg _) ?_;rw[key 0]at hfs;exact hfs
 ·cases e
end
section
structure PK:Prop where
 W:Wd C
structure Xk where
 D:Type
 P:PK->D->Prop
structure T (j:Xk) where
 d:j.D
 h:∀p,j.P p d
section
variable{j:Xk}
def Xp {i:Xk}(x:Option (T i))(f:T i->Option (T j)):Option (T j):=x.bind f
def ck (c:Bool)(f:c=true->Option (T j)):Option (T j):=by
 cases c with
 |true=>exact f rfl
 |false=>exact W9
def Ju (cx:Cx)(n:Str)(f:∀i,cx.vars.lookup n=W8 i->Option (T j)):Option (T j):=by
 generalize cx.vars.lookup n=o at f;cases o with
 |some i=>exact f i rfl
 |none=>exact W9
theorem Jq {i:Nat}(h:(!l.contains i)=true):i∉l:=by simpa using h
theorem As {b:Bool}(h:(!b)=true):b=false:=by cases b<;>first |rfl |cases h
theorem Aw {n:Str}{l:List Str}(h:l.contains n=true):n∈l:=by simpa using h
theorem Dz {m:List Nat}(h:(l.all λi=>m.contains i)=true):∀i∈l,i∈m:=by simpa using h
def IB (cx:Cx)(n:Str)(f:∀i,cx.vars.lookup n=W8 i->i∉cx.own->Option (T j)):Option (T j):=Ju cx n λi h=>ck (!cx.own.contains i) λo=>f i h (Jq o)
def pA (cx:Cx)(n:Str)(f:∀i,cx.vars.lookup n=W8 i->i∉cx.own->i∉cx.fre->Option (T j)):Option (T j):=IB cx n λi h o=>ck (!cx.fre.contains i) λq=>f i h o (Jq q)
def DV (cx:Cx)(n:Str)(f:∀i,cx.vars.lookup n=W8 i->i∈cx.own->Option (T j)):Option (T j):=Ju cx n λi h=>ck (cx.own.contains i) λo=>f i h (by simpa using o)
def blt (cx:Cx)(n:Str)(v:Oq)(f:n∈cx.globs->n∈bP->OZ n=W8 v->Option (T j)):Option (T j):=
 ck (cx.globs.contains n) λa=>ck (bP.contains n) λb=>ck (OZ n==W8 v) λc=>f (Aw a) (Aw b) (eq_of_beq c)
end
def jE (cx:Cx)(k:Nat)(e:Ol):Xk:=⟨ED,λp d=>aC C k cx e d⟩
def jP (cx:Cx)(k:Nat)(e:Ol):Xk:=⟨ED,λp d=>gm C k cx e d⟩
def jF (cx:Cx)(k:Nat)(e:Ol):Xk:=⟨ED,λp d=>iJ C k cx e d⟩
def jT (cx:Cx)(k:Nat)(e:Ol):Xk:=⟨ai->Option Bool,λp d=>fi C k cx e d⟩
def NA (cx:Cx)(k:Nat)(e:List Ol):Xk:=⟨ai->Option Bool,λp d=>gC C k cx e d⟩
def jL (cx:Cx)(k:Nat)(e:List Ol):Xk:=⟨ai->Option (List V),λp d=>gT C k cx e d/\ ∀env pos,((Qr pos (OC e env)).any (·.1))=false⟩
def jK (cx:Cx)(k:Nat)(e:List Keyword):Xk:=⟨List Str×(ai->Option (List V)),λp d=>jr C k cx e d.1 d.2⟩
def jA (cx:Cx)(k:Nat)(b:Bool)(e:Ol):Xk:=⟨V->ai->Option ai,λp d=>d9 C k cx b e d⟩
def jN (cx:Cx)(k:Nat)(b:Bool)(e:Ol):Xk:=⟨V->ai->Option ai,λp d=>d9 C k cx b e d/\ wM d⟩
def jI (cx:Cx)(k:Nat)(b q:Bool)(t e:Ol):Xk:=⟨ai->Option (List V),λp d=>dP C k cx b q t e d Eq⟩
def LN (cx:Cx)(k:Nat)(b q:Bool)(t e:Ol):Xk:=⟨ai->Option (List V),λp d=>dP C k cx b q t e d λxs ys=>ys.Perm xs⟩
def jG (cx:Cx)(k:Nat)(e:Ol):Xk:=⟨ai->Option (List V),λp d=> ∀n q,∃R:List V->List V->Prop,kz C k cx false true (.Name n q) e d R/\ ∀xs ys,R xs ys->ys.Perm xs⟩
def jS (cx:Cx)(k:Nat)(oc:List Nat)(s:RV)(O:List Nat):Xk:=⟨SD,λp d=>du C k cx oc s O d⟩
def qi (cx:Cx)(k:Nat)(oc:List Nat)(s:List RV)(O:List Nat):Xk:=⟨SD,λp d=>bG C k cx oc s O d⟩
def jO (k:Nat)(m:Oq->Oq->Sem Oq):Xk:=⟨V->V->Option V,λp f=>ir C k m f⟩
def NB (k:Nat)(m:Oq->Oq->Sem Oq):Xk:=⟨V->V->Option V,λp f=>aah C k m f⟩
def jX (cx:Cx)(k:Nat)(x:Option Ol):Xk:=⟨Option ED,λp d=>pX C k cx x d⟩
def jW (cx:Cx)(k:Nat)(ks:List (Option Ol))(vs:List Ol):Xk:=⟨ai->Bool,λp d=>fT C k cx ks vs d⟩
noncomputable abbrev RE:= ∀cx k e,Option (T (jE cx k e))
noncomputable abbrev RP:= ∀cx k e,Option (T (jP cx k e))
noncomputable abbrev RF:= ∀cx k e,Option (T (jF cx k e))
noncomputable abbrev RT:= ∀cx k e,Option (T (jT cx k e))
noncomputable abbrev Fm:= ∀cx k e,Option (T (NA cx k e))
noncomputable abbrev RL:= ∀cx k e,Option (T (jL cx k e))
noncomputable abbrev RK:= ∀cx k e,Option (T (jK cx k e))
noncomputable abbrev RA:= ∀cx k b e,Option (T (jA cx k b e))
noncomputable abbrev RN:= ∀cx k b e,Option (T (jN cx k b e))
noncomputable abbrev RI:= ∀cx k b q t e,Option (T (jI cx k b q t e))
noncomputable abbrev KU:= ∀cx k b q t e,Option (T (LN cx k b q t e))
noncomputable abbrev RG:= ∀cx k e,Option (T (jG cx k e))
noncomputable abbrev RS:= ∀cx k oc s O,Option (T (jS cx k oc s O))
noncomputable abbrev r5:= ∀cx k oc s O,Option (T (qi cx k oc s O))
noncomputable abbrev RO:= ∀k o,Option (T (jO k (Rj o)))
noncomputable abbrev RC:= ∀k o,Option (T (jO k (PH o)))
noncomputable abbrev RX:= ∀cx k x,Option (T (jX cx k x))
noncomputable abbrev RW:= ∀cx k ks vs,Option (T (jW cx k ks vs))
def Xj {γ:Ol->Type}(e:Ol)(d:∀e,γ e)(h0:∀ {n p},γ (.Name n p))(h1:∀ {g as ks p},γ (.Call g as ks p))(h2:∀ {v a p},γ (.Attribute v a p))(h3:∀ {v i p},γ (.Subscript v i p))(h4:∀ {l o r p},γ (.BinOp l o r p))(h5:∀ {o x p},γ (.UnaryOp o x p))(h6:∀ {c q p},γ (.Constant c q p))(h7:∀ {x p},γ (.List x p))(h8:∀ {l o r p},γ (.Compare l o r p))(h9:∀ {t x y p},γ (.IfExp t x y p))(h10:∀ {x y p},γ (.Dict x y p))(h11:∀ {o x p},γ (.BoolOp o x p))(h12:∀ {x g s p},γ (.ListComp x g s p))(h13:∀ {x g s p},γ (.GeneratorExp x g s p))(h14:∀ {x c p},γ (.Tuple x c p))(h15:∀ {l u s p},γ (.Slice l u s p))(h16:∀ {x y g s p},γ (.DictComp x y g s p)):γ e:=by
 cases e with
 |Name=>exact h0
 |Call=>exact h1
 |Attribute=>exact h2
 |Subscript=>exact h3
 |BinOp=>exact h4
 |UnaryOp=>exact h5
 |Constant=>exact h6
 |List=>exact h7
 |Compare=>exact h8
 |IfExp=>exact h9
 |Dict=>exact h10
 |BoolOp=>exact h11
 |ListComp=>exact h12
 |GeneratorExp=>exact h13
 |Tuple=>exact h14
 |Slice=>exact h15
 |DictComp=>exact h16
 |_=>exact d _
section
variable{β:Ol->Xk}
def bN (e:Ol)(f:∀n p,Option (T (β (.Name n p)))):Option (T (β e)):=Xj (γ:=λe=>Option (T (β e))) e (λ_=>W9) (f _ _) W9 W9 W9 W9 W9 W9 W9 W9 W9 W9 W9 W9 W9 W9 W9 W9
def ug (e:Ol)(f:∀l o r p,Option (T (β (.BinOp l o r p)))):Option (T (β e)):=Xj (γ:=λe=>Option (T (β e))) e (λ_=>W9) W9 W9 W9 W9 (f _ _ _ _) W9 W9 W9 W9 W9 W9 W9 W9 W9 W9 W9 W9
def Eb (e:Ol)(f:∀o x p,Option (T (β (.UnaryOp o x p)))):Option (T (β e)):=Xj (γ:=λe=>Option (T (β e))) e (λ_=>W9) W9 W9 W9 W9 W9 (f _ _ _) W9 W9 W9 W9 W9 W9 W9 W9 W9 W9 W9
def i3 (e:Ol)(f:∀o x p,Option (T (β (.BoolOp o x p)))):Option (T (β e)):=Xj (γ:=λe=>Option (T (β e))) e (λ_=>W9) W9 W9 W9 W9 W9 W9 W9 W9 W9 W9 W9 (f _ _ _) W9 W9 W9 W9 W9
def Jl (e:Ol)(f:∀t a b p,Option (T (β (.IfExp t a b p)))):Option (T (β e)):=Xj (γ:=λe=>Option (T (β e))) e (λ_=>W9) W9 W9 W9 W9 W9 W9 W9 W9 W9 (f _ _ _ _) W9 W9 W9 W9 W9 W9 W9
def CH (e:Ol)(f:∀l os rs p,Option (T (β (.Compare l os rs p)))):Option (T (β e)):=Xj (γ:=λe=>Option (T (β e))) e (λ_=>W9) W9 W9 W9 W9 W9 W9 W9 W9 (f _ _ _ _) W9 W9 W9 W9 W9 W9 W9 W9
def sT (e:Ol)(f:∀g as ks p,Option (T (β (.Call g as ks p)))):Option (T (β e)):=Xj (γ:=λe=>Option (T (β e))) e (λ_=>W9) W9 (f _ _ _ _) W9 W9 W9 W9 W9 W9 W9 W9 W9 W9 W9 W9 W9 W9 W9
def pp (e:Ol)(f:∀v a p,Option (T (β (.Attribute v a p)))):Option (T (β e)):=Xj (γ:=λe=>Option (T (β e))) e (λ_=>W9) W9 W9 (f _ _ _) W9 W9 W9 W9 W9 W9 W9 W9 W9 W9 W9 W9 W9 W9
def rc (e:Ol)(f:∀v a p,Option (T (β (.Subscript v a p)))):Option (T (β e)):=Xj (γ:=λe=>Option (T (β e))) e (λ_=>W9) W9 W9 W9 (f _ _ _) W9 W9 W9 W9 W9 W9 W9 W9 W9 W9 W9 W9 W9
def Bm (e:Ol)(f:∀l u s p,Option (T (β (.Slice l u s p)))):Option (T (β e)):=Xj (γ:=λe=>Option (T (β e))) e (λ_=>W9) W9 W9 W9 W9 W9 W9 W9 W9 W9 W9 W9 W9 W9 W9 W9 (f _ _ _ _) W9
def GW (e:Ol)(f:∀x p,Option (T (β (.List x p)))):Option (T (β e)):=Xj (γ:=λe=>Option (T (β e))) e (λ_=>W9) W9 W9 W9 W9 W9 W9 W9 (f _ _) W9 W9 W9 W9 W9 W9 W9 W9 W9
def nM (e:Ol)(f:∀x c p,Option (T (β (.Tuple x c p)))):Option (T (β e)):=Xj (γ:=λe=>Option (T (β e))) e (λ_=>W9) W9 W9 W9 W9 W9 W9 W9 W9 W9 W9 W9 W9 W9 W9 (f _ _ _) W9 W9
def yl (e:Ol)(f:∀ks vs p,Option (T (β (.Dict ks vs p)))):Option (T (β e)):=Xj (γ:=λe=>Option (T (β e))) e (λ_=>W9) W9 W9 W9 W9 W9 W9 W9 W9 W9 W9 (f _ _ _) W9 W9 W9 W9 W9 W9
def Jk (e:Ol)(f:∀x g s p,Option (T (β (.ListComp x g s p)))):Option (T (β e)):=Xj (γ:=λe=>Option (T (β e))) e (λ_=>W9) W9 W9 W9 W9 W9 W9 W9 W9 W9 W9 W9 W9 (f _ _ _ _) W9 W9 W9 W9
def Jn (e:Ol)(f:∀x y g s p,Option (T (β (.DictComp x y g s p)))):Option (T (β e)):=Xj (γ:=λe=>Option (T (β e))) e (λ_=>W9) W9 W9 W9 W9 W9 W9 W9 W9 W9 W9 W9 W9 W9 W9 W9 W9 (f _ _ _ _ _)
def Jm (e:Ol)(f:∀x g s p,Option (T (β (.GeneratorExp x g s p)))):Option (T (β e)):=Xj (γ:=λe=>Option (T (β e))) e (λ_=>W9) W9 W9 W9 W9 W9 W9 W9 W9 W9 W9 W9 W9 W9 (f _ _ _ _) W9 W9 W9
def kQ (e:Ol)(f:∀c q p,Option (T (β (.Constant c q p)))):Option (T (β e)):=Xj (γ:=λe=>Option (T (β e))) e (λ_=>W9) W9 W9 W9 W9 W9 W9 (f _ _ _) W9 W9 W9 W9 W9 W9 W9 W9 W9 W9
def ft (e:Ol)(f:∀n q as ks p,Option (T (β (.Call (.Name n q) as ks p)))):Option (T (β e)):=sT e λg as ks p=>bN (β:=λg=>β (.Call g as ks p)) g λn q=>f n q as ks p
def kS (e:Ol)(f:∀v a q as ks p,Option (T (β (.Call (.Attribute v a q) as ks p)))):Option (T (β e)):=sT e λg as ks p=>pp (β:=λg=>β (.Call g as ks p)) g λv a q=>f v a q as ks p
end
section
variable{β:List α->Xk}
def cg (l:List α)(f:Option (T (β []))):Option (T (β l)):=by
 cases l with
 |nil=>exact f
 |cons a l=>exact W9
def cR (l:List α)(f:∀a l,Option (T (β (a::l)))):Option (T (β l)):=by
 cases l with
 |nil=>exact W9
 |cons a l=>exact f a l
def uh (l:List α)(f:∀a,Option (T (β [a]))):Option (T (β l)):=cR l λa l=>cg (β:=λl=>β (a::l)) l (f a)
def CL (l:List α)(f:∀a b,Option (T (β [a,b]))):Option (T (β l)):=cR l λa l=>uh (β:=λl=>β (a::l)) l (f a)
end
def qh {β:Nat->Xk}(k:Nat)(f:∀k,Option (T (β (k+1)))):Option (T (β k)):=by
 cases k with
 |zero=>exact W9
 |succ k=>exact f k
section
variable{j:Xk}
def Ar (e:Ol)(f:(∀es env,OC (e::es) env=(false,PX e env)::OC es env)->Option (T j)):Option (T j):=Xj (γ:=λe=>((∀es env,OC (e::es) env=(false,PX e env)::OC es env)->Option (T j))->Option (T j)) e (λ_ _=>W9) (λf=>f λ_ _=>rfl) (λf=>f λ_ _=>rfl) (λf=>f λ_ _=>rfl) (λf=>f λ_ _=>rfl) (λf=>f λ_ _=>rfl) (λf=>f λ_ _=>rfl) (λf=>f λ_ _=>rfl) (λf=>f λ_ _=>rfl) (λf=>f λ_ _=>rfl) (λf=>f λ_ _=>rfl) (λ_=>W9) (λ_=>W9) (λf=>f λ_ _=>rfl) (λf=>f λ_ _=>rfl) (λf=>f λ_ _=>rfl) (λ_=>W9) (λ_=>W9) f
def Ig (e:Ol)(f:(∀t l env,P8 e t l env=pure false)->Option (T j)):Option (T j):=Xj (γ:=λe=>((∀t l env,P8 e t l env=pure false)->Option (T j))->Option (T j)) e (λ_ _=>W9) (λf=>f λ_ _ _=>rfl) (λf=>f λ_ _ _=>rfl) (λf=>f λ_ _ _=>rfl) (λf=>f λ_ _ _=>rfl) (λf=>f λ_ _ _=>rfl) (λf=>f λ_ _ _=>rfl) (λf=>f λ_ _ _=>rfl) (λf=>f λ_ _ _=>rfl) (λf=>f λ_ _ _=>rfl) (λf=>f λ_ _ _=>rfl) (λf=>f λ_ _ _=>rfl) (λf=>f λ_ _ _=>rfl) (λ_=>W9) (λ_=>W9) (λ_=>W9) (λ_=>W9) (λ_=>W9) f
def Cp (e:Ol)(f:(∀env x,OU e env x=pure x)->Option (T j)):Option (T j):=Xj (γ:=λe=>((∀env x,OU e env x=pure x)->Option (T j))->Option (T j)) e (λ_ _=>W9) (λf=>f λ_ _=>rfl) (λf=>f λ_ _=>rfl) (λf=>f λ_ _=>rfl) (λf=>f λ_ _=>rfl) (λ_=>W9) (λ_=>W9) (λ_=>W9) (λ_=>W9) (λ_=>W9) (λ_=>W9) (λ_=>W9) (λ_=>W9) (λ_=>W9) (λ_=>W9) (λ_=>W9) (λ_=>W9) (λ_=>W9) f
def K1 (e:Ol)(f:(∀env x,genFold e env x=pure x)->Option (T j)):Option (T j):=Xj (γ:=λe=>((∀env x,genFold e env x=pure x)->Option (T j))->Option (T j)) e (λ_ _=>W9) (λf=>f λ_ _=>rfl) (λf=>f λ_ _=>rfl) (λf=>f λ_ _=>rfl) (λ_=>W9) (λ_=>W9) (λ_=>W9) (λ_=>W9) (λ_=>W9) (λ_=>W9) (λ_=>W9) (λ_=>W9) (λ_=>W9) (λ_=>W9) (λ_=>W9) (λ_=>W9) (λ_=>W9) (λ_=>W9) f
def Mp (e:Ol)(f:(∀o i,RQ e false o i=operate [o,i] (getItem o i))->Option (T j)):Option (T j):=Xj (γ:=λe=>((∀o i,RQ e false o i=operate [o,i] (getItem o i))->Option (T j))->Option (T j)) e (λ_ _=>W9) (λf=>f λ_ _=>rfl) (λ_=>W9) (λ_=>W9) (λf=>f λ_ _=>rfl) (λf=>f λ_ _=>rfl) (λf=>f λ_ _=>rfl) (λf=>f λ_ _=>rfl) (λ_=>W9) (λ_=>W9) (λ_=>W9) (λ_=>W9) (λ_=>W9) (λ_=>W9) (λ_=>W9) (λ_=>W9) (λ_=>W9) (λ_=>W9) f
def Mq (e:Ol)(f:(∀o i,RQ e true o i=V9 (.builtin "lifetime.subscript" ⟨[o,i],[]⟩))->Option (T j)):Option (T j):=Xj (γ:=λe=>((∀o i,RQ e true o i=V9 (.builtin "lifetime.subscript" ⟨[o,i],[]⟩))->Option (T j))->Option (T j)) e (λ_ _=>W9) (λf=>f λ_ _=>rfl) (λ_=>W9) (λ_=>W9) (λ_=>W9) (λ_=>W9) (λ_=>W9) (λ_=>W9) (λ_=>W9) (λ_=>W9) (λ_=>W9) (λ_=>W9) (λ_=>W9) (λ_=>W9) (λ_=>W9) (λ_=>W9) (λ_=>W9) (λ_=>W9) f
def Mr (e:Ol)(f:(∀ov iv new,augStore e ov iv new=(do Qo [new,ov,iv] (UV ov iv new);release [new,ov,iv] [];pure .next))->Option (T j)):Option (T j):=Xj (γ:=λe=>((∀ov iv new,augStore e ov iv new=(do Qo [new,ov,iv] (UV ov iv new);release [new,ov,iv] [];pure .next))->Option (T j))->Option (T j)) e (λ_ _=>W9) (λf=>f λ_ _ _=>rfl) (λ_=>W9) (λ_=>W9) (λ_=>W9) (λ_=>W9) (λ_=>W9) (λf=>f λ_ _ _=>rfl) (λ_=>W9) (λ_=>W9) (λ_=>W9) (λ_=>W9) (λ_=>W9) (λ_=>W9) (λ_=>W9) (λ_=>W9) (λ_=>W9) (λ_=>W9) f
def Mo (e:Ol)(f:(∀env YK,PySem.isTrue e env YK=(do let v <-YK;Qb e.pos;Qo [v] (truthy v)))->Option (T j)):Option (T j):=Xj (γ:=λe=>((∀env YK,PySem.isTrue e env YK=(do let v <-YK;Qb e.pos;Qo [v] (truthy v)))->Option (T j))->Option (T j)) e (λ_ _=>W9) (λf=>f λ_ _=>rfl) (λf=>f λ_ _=>rfl) (λf=>f λ_ _=>rfl) (λf=>f λ_ _=>rfl) (λ_=>W9) (λ_=>W9) (λ_=>W9) (λ_=>W9) (λ_=>W9) (λ_=>W9) (λ_=>W9) (λ_=>W9) (λ_=>W9) (λ_=>W9) (λ_=>W9) (λ_=>W9) (λ_=>W9) f
def HT {g:Ol}{as:List Ol}{ks:List Keyword}(f:(∀a env w,Pq (.Call g as ks p) a env w=w)->Option (T j)):Option (T j):=by
 cases as with
 |nil=>exact W9
 |cons v vs=>exact Xj (γ:=λg=>((∀a env w,Pq (.Call g (v::vs) ks p) a env w=w)->Option (T j))->Option (T j)) g (λ_ _=>W9) (λf=>f λ_ _ _=>rfl) (λ_=>W9) (λ_=>W9) (λ_=>W9) (λ_=>W9) (λ_=>W9) (λ_=>W9) (λ_=>W9) (λ_=>W9) (λ_=>W9) (λ_=>W9) (λ_=>W9) (λ_=>W9) (λ_=>W9) (λ_=>W9) (λ_=>W9) (λ_=>W9) f
def Ih (e:Ol)(f:(∀a env w,Pq e a env w=w)->Option (T j)):Option (T j):=Xj (γ:=λe=>((∀a env w,Pq e a env w=w)->Option (T j))->Option (T j)) e (λ_ _=>W9) (λf=>f λ_ _ _=>rfl) (λf=>HT f) (λf=>f λ_ _ _=>rfl) (λf=>f λ_ _ _=>rfl) (λf=>f λ_ _ _=>rfl) (λ_=>W9) (λ_=>W9) (λ_=>W9) (λ_=>W9) (λ_=>W9) (λ_=>W9) (λ_=>W9) (λ_=>W9) (λ_=>W9) (λ_=>W9) (λ_=>W9) (λ_=>W9) f
end
theorem uZ {e:Ol}{x:Str}(h:∀a env w,Pq e a env w=w)(pos:Pos)(env:Env):PX (.Attribute e x pos) env=(do let o <-PX e env;Qb pos.atName;let r <-Qo [o] (Up o x true);QT e o r;pure r):=by show(do let o <-Pq e x env (PX e env);Qb pos.atName;let r <-Qo [o] (Up o x true);QT e o r;pure r)=_;rw[h]
end
noncomputable section
def qv:RE:=λcx k e=>bN e λn p=>IB cx n λi h o=>W8 ⟨dV i,λ_=>a8 h o⟩
def qo:RP:=λcx k e=>bN e λn p=>Ju cx n λi h=>W8 ⟨dV i,λ_=>iA h⟩
def pk (x:RE):RP:=λcx k e=>Xp (x cx k e) λa=>W8 ⟨a.d,λp=>(a.h p).peek⟩
def bh:RP:=pk qv
def qe (x:RF):RE:=λcx k e=>Xp (x cx k e) λa=>W8 ⟨a.d,λp=>(a.h p).e⟩
def qc:RE:=λcx k e=>kQ e λc q p=>by
 cases c with
 |int i=>exact W8 ⟨dK (.int i),λ_=>gY⟩
 |bool b=>exact W8 ⟨dK (.bool b),λ_=>lg⟩
 |none=>exact W8 ⟨dK .none,λ_=>xo⟩
 |str y=>exact W8 ⟨dK (.str y.cps.toList),λ_=>oW (by cases y;rfl)⟩
 |_=>exact W9
def oI:RO:=λk o=>by
 cases o with
 |Add=>exact W8 ⟨bJ,λ_=>pj⟩
 |Sub=>exact W8 ⟨iw,λ_=>xZ⟩
 |Mult=>exact W8 ⟨c8,λ_=>D3⟩
 |FloorDiv=>exact W8 ⟨d2,λ_=>D9⟩
 |Mod=>exact W8 ⟨fU,λ_=>D4⟩
 |BitAnd=>exact W8 ⟨bW,λ_=>yh⟩
 |_=>exact W9
def oC:RC:=λk o=>by
 cases o with
 |Eq=>exact W8 ⟨λa b=>(fC a b).map Xb,λ_=>GU⟩
 |NotEq=>exact W8 ⟨λa b=>(fC a b).map λc=>Xb (!c),λ_=>GN⟩
 |Lt=>exact W8 ⟨bf λa b=>decide (a<b),λ_=>GO⟩
 |LtE=>exact W8 ⟨bf λa b=>decide (a<=b),λ_=>GP⟩
 |Gt=>exact W8 ⟨bf λa b=>decide (b<a),λ_=>GR⟩
 |GtE=>exact W8 ⟨bf λa b=>decide (b<=a),λ_=>GS⟩
 |Is=>exact W8 ⟨λa b=>(qg a b).map Xb,λ_=>GQ⟩
 |IsNot=>exact W8 ⟨λa b=>(qg a b).map λc=>Xb (!c),λ_=>ye⟩
 |_=>exact W9
def oL:RC:=λk o=>by
 cases o with
 |NotEq=>exact W8 ⟨λa b=>(AF a b).map λc=>Xb (!c),λ_=>D2⟩
 |_=>exact W9
def oN:∀k o,Option (T (NB k (PH o))):=λk o=>by
 cases o with
 |In=>exact W8 ⟨λa b=>(fw a b).map Xb,λ_=>yf⟩
 |NotIn=>exact W8 ⟨λa b=>(fw a b).map λc=>Xb (!c),λ_=>yc⟩
 |_=>exact W9
def qB (o:RO)(x y:RE):RE:=λcx k e=>ug e λl op r _=>Xp (x cx k l) λa=>Xp (y cx k r) λb=>Xp (o k op) λf=>W8 ⟨dB f.d a.d b.d,λp=>fq (a.h p) (b.h p) (f.h p)⟩
def qb:RE->RE->RE:=qB oI
def Bd (x y:RE):RF:=λcx k e=>ug e λl op r _=>by
 cases op with
 |Mult=>exact Xp (x cx k l) λa=>Xp (y cx k r) λb=>W8 ⟨dB se a.d b.d,λp=>AP (a.h p) (b.h p)⟩
 |_=>exact W9
def jR (x:RE):RE:=λcx k e=>Eb e λo v _=>by
 cases o with
 |USub=>exact Xp (x cx k v) λa=>W8 ⟨dU iy a.d,λp=>AU (a.h p)⟩
 |_=>exact W9
def IY (x:RE):RE:=λcx k e=>Eb e λo v _=>by
 cases o with
 |Not=>exact Xp (x cx k v) λa=>W8 ⟨BR a.d,λp=>AT (a.h p)⟩
 |_=>exact W9
def rY (x:RT):RT:=λcx k e=>Eb e λo v _=>by
 cases o with
 |Not=>exact Xp (x cx k v) λa=>W8 ⟨eG a.d,λp=>xi (a.h p)⟩
 |_=>exact W9
def Bn {β:Ol->Xk}(e:Ol)(f:∀l o r p,SR o r=false->Option (T (β (.Compare l [o] [r] p)))):Option (T (β e)):=
 CH e λl os rs p=>uh (β:=λos=>β (.Compare l os rs p)) os λo=>uh (β:=λrs=>β (.Compare l [o] rs p)) rs λr=>ck (!SR o r) λh=>f l o r p (As h)
def qC (o:RC)(x y:RE):RE:=λcx k e=>Bn e λl op r _ h=>Xp (x cx k l) λa=>Xp (y cx k r) λb=>Xp (o k op) λf=>W8 ⟨dB f.d a.d b.d,λp=>AZ (a.h p) (b.h p) (f.h p) h⟩
def Fy (o:RC)(x y:RE):RT:=λcx k e=>Bn e λl op r _ h=>Xp (x cx k l) λa=>Xp (y cx k r) λb=>Xp (o k op) λf=>W8 ⟨dT (dB f.d a.d b.d),λp=>qI (a.h p) (b.h p) (f.h p) h⟩
def cu:RE->RE->RT:=Fy oC
def qN (x:RE)(y:RP):RE:=λcx k e=>Bn e λl op r _ h=>Xp (x cx k l) λa=>Xp (y cx k r) λb=>Xp (oN k op) λf=>W8 ⟨dB f.d a.d b.d,λp=>xw (a.h p) (b.h p) (f.h p) h⟩
def rZ (x:RE)(y:RP):RT:=λcx k e=>Bn e λl op r _ h=>Xp (x cx k l) λa=>Xp (y cx k r) λb=>Xp (oN k op) λf=>W8 ⟨dT (dB f.d a.d b.d),λp=>jD (a.h p) (b.h p) (f.h p) h⟩
def DP (x y z:RE):RE:=λcx k e=>CH e λl os rs p=>CL (β:=λos=>jE cx k (.Compare l os rs p)) os λo o'=>CL (β:=λrs=>jE cx k (.Compare l [o,o'] rs p)) rs λr r'=>ck (!lastMarks [o,o'] [r,r']) λh=>Xp (x cx k l) λa=>Xp (y cx k r) λb=>Xp (z cx k r') λc=>Xp (oC k o) λf=>Xp (oC k o') λg=>W8 ⟨to f.d g.d a.d b.d c.d,λp=>vw (a.h p) (b.h p) (c.h p) (f.h p) (g.h p) (As h)⟩
def qt (x:RP):RT:=λcx k e=>Mo e λh=>Xp (x cx k e) λa=>W8 ⟨dT a.d,λp=>Cw (a.h p) λenv w=>h env w⟩
def fX:RT:=λcx k e=>i3 e λo vs _=>by
 cases o with
 |And=>exact cg (β:=λvs=>jT cx k (.BoolOp .And vs _)) vs (W8 ⟨λ_=>W8 true,λ_=>vm⟩)
 |Or=>exact cg (β:=λvs=>jT cx k (.BoolOp .Or vs _)) vs (W8 ⟨λ_=>W8 false,λ_=>xh⟩)
def gn (x y:RT):RT:=λcx k e=>i3 e λo vs q=>by
 cases o with
 |And=>exact cR (β:=λvs=>jT cx k (.BoolOp .And vs q)) vs λv vs=>Xp (x cx k v) λa=>Xp (y cx k (.BoolOp .And vs q)) λb=>W8 ⟨cw a.d b.d,λp=>xj (a.h p) (b.h p)⟩
 |Or=>exact cR (β:=λvs=>jT cx k (.BoolOp .Or vs q)) vs λv vs=>Xp (x cx k v) λa=>Xp (y cx k (.BoolOp .Or vs q)) λb=>W8 ⟨Il a.d b.d,λp=>AO (a.h p) (b.h p)⟩
def IX (x:RE):RE:=λcx k e=>i3 e λo vs q=>uh (β:=λvs=>jE cx k (.BoolOp o vs q)) vs λv=>Xp (x cx k v) λa=>W8 ⟨a.d,λp=>AR (a.h p)⟩
def Ly (x y:RE):RE:=λcx k e=>i3 e λo vs q=>by
 cases o with
 |Or=>exact cR (β:=λvs=>jE cx k (.BoolOp .Or vs q)) vs λv vs=>cR (β:=λvs=>jE cx k (.BoolOp .Or (v::vs) q)) vs λu us=>Xp (x cx k v) λa=>Xp (y cx k (.BoolOp .Or (u::us) q)) λb=>W8 ⟨FL a.d b.d,λp=>DA (a.h p) (b.h p)⟩
 |_=>exact W9
def GC (t:RT)(x y:RE):RE:=λcx k e=>Jl e λc u v _=>Xp (t cx k c) λa=>Xp (x cx k u) λb=>Xp (y cx k v) λd=>W8 ⟨wl a.d b.d d.d,λp=>xr (a.h p) (b.h p) (d.h p)⟩
def eJ:Fm:=λcx k e=>cg e (W8 ⟨λ_=>W8 true,λ_=>ng⟩)
def CC (x:RT):Fm:=λcx k e=>uh e λv=>Xp (x cx k v) λa=>W8 ⟨a.d,λp=>vh (a.h p)⟩
def bx (x:RP)(y:RE):RE:=λcx k e=>rc e λv i _=>Mp i λh=>Xp (x cx k v) λa=>Xp (y cx k i) λb=>W8 ⟨dB aZ a.d b.d,λp=>AY (a.h p) (b.h p) (h)⟩
def Xl:RX:=λcx k x=>by
 cases x with
 |none=>exact W8 ⟨W9,λ_=>trivial⟩
 |some e=>exact W9
def Xm (y:RE):RX:=λcx k x=>by
 cases x with
 |none=>exact W9
 |some e=>exact Xp (y cx k e) λa=>W8 ⟨W8 a.d,λp=>a.h p⟩
def xT (x:RP)(l u:RX):RE:=λcx k e=>rc e λv i q=>Bm (β:=λi=>jE cx k (.Subscript v i q)) i λlo up st q'=>by
 cases st with
 |none=>exact Xp (x cx k v) λa=>Xp (l cx k lo) λb=>Xp (u cx k up) λc=>W8 ⟨gG a.d b.d c.d,λp=>vr (a.h p) (b.h p) (c.h p)⟩
 |some _=>exact W9
def Fz (c i:Nat)(n:Str)(hK:∀p:PK,bH C c)(hn:∀p:PK,(C.cls.names c)[i]?=W8 n)(x:RP):RE:=λcx k e=>pp e λv a q=>ck (a==n) λh=>Ih v λh'=>Xp (x cx k v) λb=>W8 ⟨dU (aR c i) b.d,λp=>fG c i (hK p) (eq_of_beq h▸hn p) (b.h p) (uZ h' q)⟩
def wy:RP->RE:=Fz 0 0 "numerator" (λp=>p.W.KF) λp=>p.W.a00
def wx:RP->RE:=Fz 0 1 "denominator" (λp=>p.W.KF) λp=>p.W.a01
def Cg:RP->RE:=Fz 1 0 "candidates" (λp=>p.W.KP) λp=>p.W.a10
def Fi:RP->RE:=Fz 1 2 "_voters" (λp=>p.W.KP) λp=>p.W.a12
def kG:RP->RE:=Fz 2 0 "approved" (λp=>p.W.KV) λp=>p.W.a20
def ww:RP->RE:=Fz 2 1 "weight" (λp=>p.W.KV) λp=>p.W.a21
def Xy:RL:=λcx k e=>cg e (W8 ⟨au,λ_=>⟨Mine.args_nil,λ_ _=>rfl⟩⟩)
def Xv (x:RE)(y:RL):RL:=λcx k e=>cR e λv vs=>Ar v λh=>Xp (x cx k v) λa=>Xp (y cx k vs) λb=>W8 ⟨ah a.d b.d,λp=>⟨Mine.args_cons (a.h p) (b.h p).1 λenv=>h vs env,λenv pos=>by refine ab (h vs env) ?_;exact(b.h p).2 env pos⟩⟩
def k0:RK:=λcx k e=>cg e (W8 ⟨([],au),λ_=>fZ⟩)
def kc (x:RE)(y:RK):RK:=λcx k e=>cR e λv vs=>by
 cases v with
 |mk n u q=>
  cases n with
  |none=>exact W9
  |some n=>exact Xp (x cx k u) λa=>Xp (y cx k vs) λb=>W8 ⟨(n::b.d.1,ah a.d b.d.2),λp=>uq (a.h p) (b.h p)⟩
def cm (x:RL):RF:=λcx k e=>GW e λes _=>ck (Rv es.length 4096) λh=>Xp (x cx k es) λa=>W8 ⟨b9 a.d,λp=>xp (a.h p).1 (P5 h)⟩
def ef (x:RL):RE:=λcx k e=>nM e λes _ _=>ck (Rv es.length 4096) λh=>Xp (x cx k es) λa=>W8 ⟨dj a.d,λp=>oV (a.h p).1 (P5 h)⟩
def w0:RW:=λcx k ks vs=>cg (β:=λks=>jW cx k ks vs) ks (cg vs (W8 ⟨λ_=>true,λ_=> .nil⟩))
def wc (x:RP)(y:RW):RW:=λcx k ks vs=>cR (β:=λks=>jW cx k ks vs) ks λc ks=>cR (β:=λvs=>jW cx k (c::ks) vs) vs λv vs=>(by
 cases c with
 |none=>exact W9
 |some c=>exact kQ (β:=λc=>jW cx k (W8 c::ks) (v::vs)) c λc q q'=>(by
  cases c with
  |str s=>exact Xp (x cx k v) λa=>Xp (y cx k ks vs) λb=>W8 ⟨λσ=>(a.d σ).isSome&&b.d σ,λp=> .cons (a.h p) (b.h p)⟩
  |_=>exact W9))
def GD:RE:=λcx k e=>yl e λks vs q=>cg (β:=λks=>jE cx k (.Dict ks vs q)) ks (cg (β:=λvs=>jE cx k (.Dict [] vs q)) vs (W8 ⟨dK .any,λ_=>nk⟩))
def qd (x:RW):RE:=λcx k e=>yl e λks vs q=>ck (!ks.isEmpty) λh=>ck (decide (ks.length<=15)) λh'=>Xp (x cx k ks vs) λa=>W8 ⟨λσ=>if a.d σ then W8 .any else W9,λp=>kb (a.h p) (As h) h'⟩
def lJ {β:Ol->Xk}(e:Ol)(f:∀n q v p,(∀env,OC [v] env= [(false,PX v env)])->Option (T (β (.Call (.Name n q) [v] [] p)))):Option (T (β e)):=
 ft e λn q as ks p=>uh (β:=λas=>β (.Call (.Name n q) as ks p)) as λv=>cg (β:=λks=>β (.Call (.Name n q) [v] ks p)) ks (Ar v λh=>f n q v p λenv=>h [] env)
def q1 (id:String)(f:V->Option V)(op:∀(p:PK) k,iK C k (λv=>call (.builtin id) [v]) f)(x:RP):RE:=λcx k e=>lJ e λn q v _ hs=>blt cx n (.builtin id) λh1 h2 h3=>Xp (x cx k v) λa=>W8 ⟨dU f a.d,λp=>nq (a.h p) (op p k) h1 h2 h3 hs⟩
def qT (ty:String)(f:V->Option V)(op:∀(p:PK) k,iK C k (λv=>call (.type ty) [v]) f)(x:RP):RE:=λcx k e=>lJ e λn q v _ hs=>blt cx n (.type ty) λh1 h2 h3=>Xp (x cx k v) λa=>W8 ⟨dU f a.d,λp=>sE (a.h p) (op p k) h1 h2 h3 hs⟩
def bS:RP->RE:=q1 "len" aP λ_ _=>yd
def d5:RP->RE:=q1 "sum" dn λ_ _=>D0
def GA:RP->RE:=q1 "max" AB λ_ _=>D6
def q7:RP->RE:=q1 "abs" qr λ_ _=>Ea
def xS:RP->RE:=q1 "sorted" qp λ_ _=>Bh
def xR:RP->RE:=q1 "sorted" ix λ_ _=>yb
def DO:RP->RE:=q1 "sorted" r9 λ_ _=>ya
def sO:RP->RE:=qT "int" oO λ_ _=>D8
def IZ:RP->RE:=qT "list" oK λ_ _=>vM
def IW:RP->RE:=qT "set" wQ λ_ _=>Bi
def IV:RP->RE:=qT "str" qm λ_ _=>D1
def Gz (x y:RE):RE:=λcx k e=>ft e λn q as ks p=>CL (β:=λas=>jE cx k (.Call (.Name n q) as ks p)) as λu v=>cg (β:=λks=>jE cx k (.Call (.Name n q) [u,v] ks p)) ks (Ar u λh=>Ar v λh'=>blt cx n (.builtin "min") λh1 h2 h3=>Xp (x cx k u) λa=>Xp (y cx k v) λb=>W8 ⟨dB sf a.d b.d,λp=>vB (a.h p) (b.h p) D5 h1 h2 h3 (λenv=>(h [v] env).trans (congrArg _ (h' [] env))) λenv=>h' [] env⟩)
def xU:RF:=λcx k e=>ft e λn q as ks p=>cg (β:=λas=>jF cx k (.Call (.Name n q) as ks p)) as (cg (β:=λks=>jF cx k (.Call (.Name n q) [] ks p)) ks (blt cx n (.type "set") λh1 h2 h3=>W8 ⟨dK (.set (az 0)),λ_=>oX h1 h2 h3⟩))
def q6 (g:RG):RF:=λcx k e=>qh (β:=λk=>jF cx k e) k λk=>lJ e λn q v _ hs=>blt cx n (.type "set") λh1 h2 h3=>Xp (g cx k v) λa=>W8 ⟨aan a.d,λp=>(a.h p "c" ⟨0,0,0,0⟩).elim λ_ h=>xl h.1 h.2 h1 h2 h3 hs⟩
def GG (g:RG):RE:=λcx k e=>qh (β:=λk=>jE cx k e) k λk=>lJ e λn q v _ hs=>blt cx n (.builtin "all") λh1 h2 h3=>Xp (g cx k v) λa=>W8 ⟨BV a.d,λp=>(a.h p "c" ⟨0,0,0,0⟩).elim λ_ h=>A0 h.1.i h.2 h1 h2 h3 hs⟩
def GF (g:RG):RE:=λcx k e=>qh (β:=λk=>jE cx k e) k λk=>lJ e λn q v _ hs=>blt cx n (.builtin "any") λh1 h2 h3=>Xp (g cx k v) λa=>W8 ⟨BU a.d,λp=>(a.h p "c" ⟨0,0,0,0⟩).elim λ_ h=>xy h.1.i h.2 h1 h2 h3 hs⟩
def Ed {β:Ol->Xk}(e:Ol)(f:∀n q v t p,(∀es env,OC (v::es) env=(false,PX v env)::OC es env)->Option (T (β (.Call (.Name n q) [v,t] [] p)))):Option (T (β e)):=
 ft e λn q as ks p=>CL (β:=λas=>β (.Call (.Name n q) as ks p)) as λv t=>cg (β:=λks=>β (.Call (.Name n q) [v,t] ks p)) ks (Ar v λh=>f n q v t p h)
def I0 (c:Nat)(hK:∀p:PK,bH C c)(x:RE):RE:=λcx k e=>Ed e λn q v t p h=>bN (β:=λt=>jE cx k (.Call (.Name n q) [v,t] [] p)) t λm q'=>blt cx n (.builtin "isinstance") λh1 h2 h3=>blt cx m (.type "int") λg1 g2 g3=>Xp (x cx k v) λa=>W8 ⟨dU (vc c) a.d,λp=>AV (hK p) (a.h p) h1 g1 h2 g2 h3 g3 λenv=>h _ env⟩
def GB (c:Nat)(cn:Str)(hK:∀p:PK,bH C c)(hc:∀p:PK,C.mg cn=W8 (.ref (C.cls.adr c)))(x:RE):RE:=λcx k e=>Ed e λn q v t p h=>bN (β:=λt=>jE cx k (.Call (.Name n q) [v,t] [] p)) t λm q'=>blt cx n (.builtin "isinstance") λh1 h2 h3=>ck (cx.globs.contains m) λg1=>ck (m==cn) λg2=>Xp (x cx k v) λa=>W8 ⟨dU (vd c) a.d,λp=>tT (hK p) (a.h p) h1 (Aw g1) (eq_of_beq g2▸hc p) h2 h3 λenv=>h _ env⟩
def CB (x:RE):RE:=λcx k e=>Ed e λn q v t p h=>nM (β:=λt=>jE cx k (.Call (.Name n q) [v,t] [] p)) t λts ct q'=>CL (β:=λts=>jE cx k (.Call (.Name n q) [v,.Tuple ts ct q'] [] p)) ts λt1 t2=>
 bN (β:=λt1=>jE cx k (.Call (.Name n q) [v,.Tuple [t1,t2] ct q'] [] p)) t1 λm1 p1=>bN (β:=λt2=>jE cx k (.Call (.Name n q) [v,.Tuple [.Name m1 p1,t2] ct q'] [] p)) t2 λm2 p2=>
 blt cx n (.builtin "isinstance") λh1 h2 h3=>blt cx m1 (.type "int") λg1 g2 g3=>ck (cx.globs.contains m2) λf1=>ck (m2== "Fraction") λf2=>Xp (x cx k v) λa=>W8 ⟨dU (tP 0) a.d,λp=>xq p.W.KF (a.h p) h1 g1 (Aw f1) (eq_of_beq f2▸p.W.gF) h2 h3 g2 g3 λenv=>h _ env⟩
def Iv:RE->RE:=I0 0 λp=>p.W.KF
def EA:RE->RE:=GB 0 "Fraction" (λp=>p.W.KF) λp=>p.W.gF
def Jy:RE->RE:=GB 2 "Voter" (λp=>p.W.KV) λp=>p.W.gV
def Kd:V->Option V
 | .int n=>if 0<=n/\ n<=4096 then W8 (Xe (cy 0 n.toNat))else W9
 |_=>W9
def MO (x:RE):RE:=λcx k e=>lJ e λn q v p hs=>lJ (β:=λv=>jE cx k (.Call (.Name n q) [v] [] p)) v λm q' u p' X2=>blt cx n (.type "list") λh1 h2 h3=>blt cx m (.type "range") λg1 g2 g3=>Xp (x cx k u) λa=>W8 ⟨λσ=>(a.d σ).bind Kd,λp=>mU (a.h p) h1 g1 h2 g2 h3 g3 X2⟩
end
section
noncomputable section
section
variable{β:RV->Xk}
def GV (s:RV)(f:∀e p,Option (T (β (.Return (W8 e) p)))):Option (T (β s)):=by
 cases s with
 |Return e p=>cases e with
  |some e=>exact f e p
  |none=>exact W9
 |_=>exact W9
def re (s:RV)(f:∀t v p,Option (T (β (.Assign [t] v p)))):Option (T (β s)):=by
 cases s with
 |Assign ts v p=>exact uh (β:=λts=>β (.Assign ts v p)) ts λt=>f t v p
 |_=>exact W9
def CK (s:RV)(f:∀t o v p,Option (T (β (.AugAssign t o v p)))):Option (T (β s)):=by
 cases s with
 |AugAssign t o v p=>exact f t o v p
 |_=>exact W9
def yk (s:RV)(f:∀t i b p,Option (T (β (.For t i b [] p)))):Option (T (β s)):=by
 cases s with
 |For t i b o p=>exact cg (β:=λo=>β (.For t i b o p)) o (f t i b p)
 |_=>exact W9
def Ji (s:RV)(f:∀t b p,Option (T (β (.While t b [] p)))):Option (T (β s)):=by
 cases s with
 |While t b o p=>exact cg (β:=λo=>β (.While t b o p)) o (f t b p)
 |_=>exact W9
def yj (s:RV)(f:∀t a b p,Option (T (β (.If t a b p)))):Option (T (β s)):=by
 cases s with
 |If t a b p=>exact f t a b p
 |_=>exact W9
def GX (s:RV)(f:∀e p,Option (T (β (.Expr e p)))):Option (T (β s)):=by
 cases s with
 |Expr e p=>exact f e p
 |_=>exact W9
def Ee (s:RV)(f:∀p,Option (T (β (.Continue p)))):Option (T (β s)):=by
 cases s with
 |Continue p=>exact f p
 |_=>exact W9
def nN (s:RV)(f:∀n q v p,Option (T (β (.Assign [.Name n q] v p)))):Option (T (β s)):=re s λt v p=>bN (β:=λt=>β (.Assign [t] v p)) t λn q=>f n q v p
def uf (m:Str)(s:RV)(f:∀n q ap v cp sp,(∀env,OC [v] env= [(false,PX v env)])->(ap.endLine==cp.line)=true->Option (T (β (.Expr (.Call (.Attribute (.Name n q) m ap) [v] [] cp) sp)))):Option (T (β s)):=
 GX s λe sp=>kS (β:=λe=>β (.Expr e sp)) e λo a ap as ks cp=>bN (β:=λo=>β (.Expr (.Call (.Attribute o a ap) as ks cp) sp)) o λn q=>uh (β:=λas=>β (.Expr (.Call (.Attribute (.Name n q) a ap) as ks cp) sp)) as λv=>cg (β:=λks=>β (.Expr (.Call (.Attribute (.Name n q) a ap) [v] ks cp) sp)) ks (Ar v λh=>ck (ap.endLine==cp.line) λh'=>ck (a==m) λe=>eq_of_beq e▸f n q ap v cp sp (λenv=>h [] env) h')
end
def CF {β:Ol->Xk}(e:Ol)(f:∀x t i fs r s p,Option (T (β (.ListComp x (⟨t,i,fs,0⟩::r) s p)))):Option (T (β e)):=
 Jk e λx g s p=>cR (β:=λg=>β (.ListComp x g s p)) g λc r=>by
  cases c with
  |mk t i fs a=>cases a with
   |ofNat n=>cases n with
    |zero=>exact f x t i fs r s p
    |succ n=>exact W9
   |negSucc n=>exact W9
def Np {j:Xk}(g:List Qi)(d:Nat)(f:∀t i fs,g[d]?=W8 ⟨t,i,fs,0⟩->Option (T j)):Option (T j):=by
 generalize g[d]?=o at f;cases o with
 |none=>exact W9
 |some c=>cases c with
  |mk t i fs a=>cases a with
   |ofNat n=>cases n with
    |zero=>exact f t i fs rfl
    |succ n=>exact W9
   |negSucc n=>exact W9
theorem yn {o:Option α}(h:o.isNone=true):o=W9:=UO.mp h
def cN (x:RE):RI:=λcx k b q t e=>by
 cases b with
 |false=>exact Xp (x cx k e) λa=>W8 ⟨cO a.d,λp=>lV (a.h p)⟩
 |true=>exact W9
def r1 (x:RE):RI:=λcx k b q t e=>by
 cases b with
 |false=>exact bN (β:=λt=>jI cx k false q t e) t λn₀ q₀=>lJ (β:=λe=>jI cx k false q (.Name n₀ q₀) e) e λn _ v _ hs=>blt cx n (.type "range") λh1 h2 h3=>Xp (x cx k v) λa=>W8 ⟨aX (dK (.int 0)) a.d,λp=>rA (a.h p) h1 h2 h3 hs⟩
 |true=>exact W9
def r2 (x y:RE):RI:=λcx k b q t e=>by
 cases b with
 |false=>exact bN (β:=λt=>jI cx k false q t e) t λn₀ q₀=>ft (β:=λe=>jI cx k false q (.Name n₀ q₀) e) e λn q' as ks p'=>CL (β:=λas=>jI cx k false q (.Name n₀ q₀) (.Call (.Name n q') as ks p')) as λu v=>cg (β:=λks=>jI cx k false q (.Name n₀ q₀) (.Call (.Name n q') [u,v] ks p')) ks (Ar u λh=>Ar v λh'=>blt cx n (.type "range") λh1 h2 h3=>Xp (x cx k u) λa=>Xp (y cx k v) λb=>W8 ⟨aX a.d b.d,λp=>kt (a.h p) (b.h p) h1 h2 h3 (λenv=>h _ env) λenv=>h' _ env⟩)
 |true=>exact W9
def nZ (x:RE):RI:=λcx k b q t e=>by
 cases b with
 |true=>exact nM (β:=λt=>jI cx k true q t e) t λes ct tp=>lJ (β:=λe=>jI cx k true q (.Tuple es ct tp) e) e λn _ v _ hs=>blt cx n (.type "enumerate") λh1 h2 h3=>Xp (x cx k v) λa=>W8 ⟨dO 1 2 a.d,λp=>lX p.W (a.h p) h1 h2 h3 hs⟩
 |false=>exact W9
def Bv (x:RE):KU:=λcx k b q t e=>by
 cases b with
 |false=>exact bN (β:=λt=>LN cx k false q t e) t λn₀ q₀=>Xp (x cx k e) λa=>W8 ⟨pO a.d,λp=>yJ (a.h p)⟩
 |true=>exact W9
def vX (x:RP):RG:=λcx k e=>Xp (x cx k e) λa=>W8 ⟨cO a.d,λp n q=>⟨_,vS (a.h p),λ_ _ h=>h▸VZ _⟩⟩
def t1:RA:=λcx k b e=>by
 cases b with
 |false=>exact bN (β:=λe=>jA cx k false e) e λn _=>pA cx n λi h1 h2 h3=>W8 ⟨cH i,λp=>dZ h1 h2 h3⟩
 |true=>exact W9
def Ec {β:Ol->Xk}(e:Ol)(f:∀n p m q ct tp,Option (T (β (.Tuple [.Name n p,.Name m q] ct tp)))):Option (T (β e)):=nM e λes ct tp=>CL (β:=λes=>β (.Tuple es ct tp)) es λx y=>bN (β:=λx=>β (.Tuple [x,y] ct tp)) x λn p=>bN (β:=λy=>β (.Tuple [.Name n p,y] ct tp)) y λm q=>f n p m q ct tp
def t2:RA:=λcx k b e=>Ec e λn _ m _ _ _=>pA cx n λi h1 h2 h3=>pA cx m λj g1 g2 g3=>W8 ⟨eH i j,λp=>oR h1 h2 h3 g1 g2 g3⟩
def Xn:RN:=λcx k b e=>by
 cases b with
 |false=>exact bN (β:=λe=>jN cx k false e) e λn _=>pA cx n λi h1 h2 h3=>W8 ⟨bg i,λp=>⟨w7 h1 h2 h3,Mine.up1⟩⟩
 |true=>exact W9
def Xo:RN:=λcx k b e=>Ec e λn _ m _ _ _=>pA cx n λi h1 h2 h3=>pA cx m λj g1 g2 g3=>W8 ⟨iz i j,λp=>⟨Dx h1 h2 h3 g1 g2 g3,My⟩⟩
def NC (ci:Cx)(k:Nat)(x:Ol)(g:List Qi)(s:Sj)(q:Pos)(d:Nat)(b:Bool)(t:Ol):Xk:=⟨ai->V->Option (List V),λp f=>cX C k ci Xe (.ListComp x g s q) d b t f⟩
noncomputable abbrev Fp:= ∀ci k x g s q d b t i fs,g[d]?=W8 ⟨t,i,fs,0⟩->Option (T (NC ci k x g s q d b t))
def lz (t:RN)(ts:Fm)(x:RE):Fp:=λci k e g s q d b t' i fs hg=>ck (g[d+1]?).isNone λhn=>Xp (t ci k b t') λa=>Xp (ts ci k fs) λc=>Xp (x ci k e) λy=>W8 ⟨aj a.d c.d (aF y.d),λp=>vQ hg (yn hn) (a.h p).1 (a.h p).2 (c.h p) (y.h p)⟩
def lm (b':Bool)(t:RN)(ts:Fm)(i:RI)(l:Fp):Fp:=λci k e g s q d b t' i' fs hg=>Np g (d+1) λt'' i'' fs' hg'=>Cp i'' λhf=>Xp (t ci k b t') λa=>Xp (ts ci k fs) λc=>Xp (i ci k b' false t'' i'') λy=>Xp (l ci k e g s q (d+1) b' t'' i'' fs' hg') λz=>W8 ⟨aj a.d c.d (ku y.d z.d),λp=>vP hg hg' (a.h p).1 (a.h p).2 (c.h p) (y.h p) (z.h p) hf⟩
def gq (ci:Cx)(b:Bool)(i:RI)(l:Fp):RF:=λcx k e=>CF e λx t it fs r s q=>Cp it λhf=>ck (c5 s cx ci) λhc=>Xp (i cx k b false t it) λa=>Xp (l ci k x (⟨t,it,fs,0⟩::r) s q 0 b t it fs rfl) λc=>W8 ⟨ba ci a.d c.d,λp=>oY ci hc (a.h p) (c.h p) hf⟩
def CG {β:Ol->Xk}(e:Ol)(f:∀x t i fs s p,Option (T (β (mf x t i fs s p)))):Option (T (β e)):=
 Jm e λx g s p=>uh (β:=λg=>β (.GeneratorExp x g s p)) g λc=>by
  cases c with
  |mk t i fs a=>cases a with
   |ofNat n=>cases n with
    |zero=>exact f x t i fs s p
    |succ n=>exact W9
   |negSucc n=>exact W9
def L1 {j:Xk}(s:Sj)(cx ci:Cx)(f:c5 s cx ci=true->(ci.mn= []/\ ci.caps= []/\ ci.gen=false)->cx.gen=true->(∀y∈s.names,y.2≠ .cell)->s.names.lookup (".0":Str)=W8 Pk.local->Option (T j)):Option (T j):=
 ck (c5 s cx ci) λh1=>ck (decide (ci.mn= []/\ ci.caps= []/\ ci.gen=false)) λh2=>ck cx.gen λh3=>ck (decide (∀y∈s.names,y.2≠ .cell)) λh4=>ck (decide (s.names.lookup (".0":Str)=W8 Pk.local)) λh5=>f h1 (of_decide_eq_true h2) h3 (of_decide_eq_true h4) (of_decide_eq_true h5)
def gx (ci:Cx)(b:Bool)(i:RI)(t:RN)(ts:Fm)(x:RE):RG:=λcx k e=>qh (β:=λk=>jG cx k e) k λk=>CG (β:=λe=>jG cx (k+1) e) e λy tg it fs s q=>L1 s cx ci λh1 h2 h3 h4 h5=>K1 it λh6=>Xp (i cx k b true tg it) λa=>Xp (t ci k b tg) λc=>Xp (ts ci k fs) λd=>Xp (x ci k y) λz=>W8 ⟨pP ci a.d (aj c.d d.d (aF z.d)),λp n q=>⟨_,pC p.W.B ci h1 h2 h3 h4 h5 (a.h p) (c.h p).1 (c.h p).2 (d.h p) (z.h p) Ba h6,λ_ _ h=>h▸VZ _⟩⟩
def JN (ci:Cx)(i:KU)(t:RN)(ts:Fm)(x:RE):RG:=λcx k e=>qh (β:=λk=>jG cx k e) k λk=>CG (β:=λe=>jG cx (k+1) e) e λy tg it fs s q=>L1 s cx ci λh1 h2 h3 h4 h5=>K1 it λh6=>Xp (i cx k false true tg it) λa=>Xp (t ci k false tg) λc=>Xp (ts ci k fs) λd=>Xp (x ci k y) λz=>W8 ⟨pP ci a.d (aj c.d d.d (aF z.d)),λp n q=>⟨_,pC p.W.B ci h1 h2 h3 h4 h5 (a.h p) (c.h p).1 (c.h p).2 (d.h p) (z.h p) nG h6,λ_ _ h=>h⟩⟩
def gE {s:RV}{O:List Nat}(O':List Nat)(x:Option (T (jS cx k oc s O'))):Option (T (jS cx k oc s O)):=ck (O==O') λh=>eq_of_beq h▸x
def Xx:r5:=λcx k oc s O=>cg (β:=λs=>qi cx k oc s O) s (ck (O.all λi=>cx.own.contains i) λh=>W8 ⟨af,λ_=>iV (Dz h)⟩)
def sN:r5:=λcx k oc s O=>W8 ⟨λ_=>W9,λ_=>nj⟩
def sx (x:RS)(y:r5):r5:=λcx k oc s O=>cR (β:=λs=>qi cx k oc s O) s λst r=>Xp (x cx k oc st cx.own) λa=>Xp (y cx k oc r O) λb=>W8 ⟨aa a.d b.d,λp=>b4 (a.h p) (b.h p)⟩
def sy (Yo:List Nat)(x:RS)(y:r5):r5:=λcx k oc s O=>cR (β:=λs=>qi cx k oc s O) s λst r=>Xp (x cx k oc st Yo) λa=>Xp (y {cx with own:=Yo} k oc r O) λb=>W8 ⟨aa a.d b.d,λp=>qH rfl (a.h p) (b.h p)⟩
def xz (Yo:List Nat)(x:r5):r5:=λcx k oc s O=>ck (Yo.all λi=>cx.own.contains i) λh=>Xp (x {cx with own:=Yo} k oc s O) λa=>W8 ⟨a.d,λp=>sw (Dz h) (a.h p)⟩
def bX (t:RT)(x y:r5):RS:=λcx k oc s O=>yj (β:=λs=>jS cx k oc s O) s λc u v _=>Xp (t cx k c) λa=>Xp (x cx k oc u O) λb=>Xp (y cx k oc v O) λd=>W8 ⟨aE a.d b.d d.d,λp=>kM (a.h p) (b.h p) (d.h p)⟩
def MF (Yo:List Nat)(t:RT)(x y z:r5):r5:=λcx k oc s O=>cR (β:=λs=>qi cx k oc s O) s λst r=>yj (β:=λst=>qi cx k oc (st::r) O) st λc u v q=>cg (β:=λv=>qi cx k oc (.If c u v q::r) O) v (Xp (t cx k c) λa=>Xp (x cx k oc u Yo) λb=>Xp (y {cx with own:=Yo} k oc r O) λd=>Xp (z cx k oc r O) λf=>W8 ⟨aE a.d (aa b.d d.d) f.d,λp=>vq (a.h p) (b.h p) (d.h p) (f.h p)⟩)
def sR (x:RE):RS:=λcx k oc s O=>GV (β:=λs=>jS cx k oc s O) s λe _=>Xp (x cx k e) λa=>W8 ⟨bz a.d,λp=>kK (a.h p)⟩
def sC:RS:=λcx k oc s O=>Ee (β:=λs=>jS cx k oc s O) s λ_=>ck (oc.all λi=>cx.own.contains i) λh=>W8 ⟨iq,λp=>qO (Dz h)⟩
def sA (x:RE):RS:=λcx k oc s O=>gE cx.own (nN (β:=λs=>jS cx k oc s cx.own) s λn q v _=>pA cx n λi h1 h2 h3=>Ig v λh=>Xp (x cx k v) λa=>W8 ⟨ak i a.d,λp=>aam h1 h2 h3 (a.h p) (h _ _)⟩)
def sF (i:Nat)(x:RF):RS:=λcx k oc s O=>nN (β:=λs=>jS cx k oc s O) s λn q v _=>ck (O==i::cx.own) λhO=>pA cx n λj h1 h2 h3=>ck (i==j) λhj=>Ig v λh=>Xp (x cx k v) λa=>W8 ⟨ak i a.d,λp=>by have h4:O=j::cx.own:=eq_of_beq hj▸eq_of_beq hO;have h5:i=j:=eq_of_beq hj;subst h5;exact h4▸ke h1 h2 h3 (a.h p) (h _ _)⟩
def Ef {β:RV->Xk}(s:RV)(f:∀n q x t i fs r sc p sp,Option (T (β (.Assign [.Name n q] (.ListComp x (⟨t,i,fs,0⟩::r) sc p) sp)))):Option (T (β s)):=nN s λn q v sp=>CF (β:=λv=>β (.Assign [.Name n q] v sp)) v λx t i fs r sc p=>f n q x t i fs r sc p sp
def mY (ci:Cx)(b:Bool)(i:RI)(l:Fp):RS:=λcx k oc s O=>gE cx.own (Ef (β:=λs=>jS cx k oc s cx.own) s λn q x t it fs r sc q' _=>pA cx n λv h1 h2 h3=>Cp it λhf=>ck (c5 sc cx ci) λhc=>Xp (i cx k b false t it) λa=>Xp (l ci k x (⟨t,it,fs,0⟩::r) sc q' 0 b t it fs rfl) λc=>W8 ⟨ak v (ba ci a.d c.d),λp=>qS ci h1 h2 h3 hc (a.h p) (c.h p) hf⟩)
def DH (j:Nat)(ci:Cx)(b:Bool)(i:RI)(l:Fp):RS:=λcx k oc s O=>gE (j::cx.own) (Ef (β:=λs=>jS cx k oc s (j::cx.own)) s λn q x t it fs r sc q' _=>pA cx n λv h1 h2 h3=>ck (j==v) λhj=>Cp it λhf=>ck (c5 sc cx ci) λhc=>Xp (i cx k b false t it) λa=>Xp (l ci k x (⟨t,it,fs,0⟩::r) sc q' 0 b t it fs rfl) λc=>
 W8 ⟨ak v (ba ci a.d c.d),λp=>by
 have h5:j=v:=eq_of_beq hj;subst h5;exact o0 ci h1 h2 h3 hc (a.h p) (c.h p) hf⟩)
def Io (ci:Cx)(b:Bool)(i:RI)(l:Fp):RS:=λcx k oc s O=>gE cx.own (Ef (β:=λs=>jS cx k oc s cx.own) s λn q x t it fs r sc q' _=>pA cx n λv h1 h2 h3=>Cp it λhf=>ck (c5 sc {cx with own:= []} ci) λhc=>Xp (i {cx with own:= []} k b false t it) λa=>Xp (l ci k x (⟨t,it,fs,0⟩::r) sc q' 0 b t it fs rfl) λc=>W8 ⟨ak v (mD (ba ci a.d c.d)),λp=>qQ ci h1 h2 h3 hc (a.h p) (c.h p) hf⟩)
def Lx (ci:Cx)(b:Bool)(i:RI)(t:RN)(ts:Fm)(x y:RE):RS:=λcx k oc s O=>gE cx.own (nN (β:=λs=>jS cx k oc s cx.own) s λn q v sp=>Jn (β:=λv=>jS cx k oc (.Assign [.Name n q] v sp) cx.own) v λkx vx g sc q'=>uh (β:=λg=>jS cx k oc (.Assign [.Name n q] (.DictComp kx vx g sc q') sp) cx.own) g λc=>(by
 cases c with
 |mk tg it fs m=>cases m with
  |negSucc m=>exact W9
  |ofNat m=>cases m with
   |succ m=>exact W9
   |zero=>exact pA cx n λv h1 h2 h3=>Cp it λhf=>ck (c5 sc cx ci) λhc=>Xp (i cx k b false tg it) λa=>Xp (t ci k b tg) λc=>Xp (ts ci k fs) λd=>Xp (x ci k kx) λe=>Xp (y ci k vx) λf=>W8 ⟨ak v (dX cU ci a.d (aj c.d d.d (gf e.d f.d))),λp=>qR p.W.B ci h1 h2 h3 hc (a.h p) (sV rfl rfl (c.h p).1 (c.h p).2 (d.h p) (e.h p) (f.h p)) hf⟩))
def dL (b:Bool)(i:RI)(t:RA)(x:r5):RS:=λcx k oc s O=>gE cx.own (yk (β:=λs=>jS cx k oc s cx.own) s λtg it bo _=>Cp it λhf=>Xp (i cx k b false tg it) λa=>Xp (t cx k b tg) λc=>Xp (x cx k cx.own bo cx.own) λd=>W8 ⟨bR a.d c.d d.d,λp=>oZ (a.h p) (c.h p) (d.h p) hf⟩)
def Gq (n:Nat)(t:RT)(x:r5):RS:=λcx k oc s O=>gE cx.own (Ji (β:=λs=>jS cx k oc s cx.own) s λc bo _=>Xp (t cx k c) λa=>Xp (x cx k cx.own bo cx.own) λd=>W8 ⟨bB a.d d.d n,λp=>vj n (a.h p) (d.h p)⟩)
def xJ (x:RE):RS:=λcx k oc s O=>gE cx.own (uf (β:=λs=>jS cx k oc s cx.own) "append" s λn q ap v cp sp hs hl=>DV cx n λi h1 h2=>Xp (x cx k v) λa=>W8 ⟨pR i a.d,λp=>sH h1 h2 (a.h p) (λ_=>rfl) hs hl (λ_=>rfl)⟩)
def IR (x:RE):RS:=λcx k oc s O=>gE cx.own (uf (β:=λs=>jS cx k oc s cx.own) "extend" s λn q ap v cp sp hs hl=>DV cx n λi h1 h2=>Xp (x cx k v) λa=>W8 ⟨E4 i a.d,λp=>sD h1 h2 (a.h p) (λ_=>rfl) hs hl (λ_=>rfl)⟩)
def IS (x:RE):RS:=λcx k oc s O=>gE cx.own (uf (β:=λs=>jS cx k oc s cx.own) "add" s λn q ap v cp sp hs hl=>DV cx n λi h1 h2=>Xp (x cx k v) λa=>W8 ⟨wm i a.d,λp=>A1 h1 h2 (a.h p) (λ_=>rfl) hs hl (λ_=>rfl)⟩)
def IQ (x:RP):RS:=λcx k oc s O=>gE cx.own (uf (β:=λs=>jS cx k oc s cx.own) "update" s λn q ap v cp sp hs hl=>DV cx n λi h1 h2=>Xp (x cx k v) λa=>W8 ⟨zv i a.d,λp=>sm h1 h2 (a.h p) (λ_=>rfl) hs hl (λ_=>rfl)⟩)
def DF (x y:RE):RS:=λcx k oc s O=>gE cx.own (re (β:=λs=>jS cx k oc s cx.own) s λt v q=>rc (β:=λt=>jS cx k oc (.Assign [t] v q) cx.own) t λu w sp=>bN (β:=λu=>jS cx k oc (.Assign [.Subscript u w sp] v q) cx.own) u λn q'=>DV cx n λi h1 h2=>Ig v λh=>Xp (x cx k w) λa=>Xp (y cx k v) λb=>W8 ⟨tj i a.d b.d,λp=>AQ h1 h2 (a.h p) (b.h p) (h _ _)⟩)
def Im (x y:RE):RS:=λcx k oc s O=>gE cx.own (CK (β:=λs=>jS cx k oc s cx.own) s λt o v q=>rc (β:=λt=>jS cx k oc (.AugAssign t o v q) cx.own) t λu w sp=>bN (β:=λu=>jS cx k oc (.AugAssign (.Subscript u w sp) o v q) cx.own) u λn q'=>DV cx n λi h1 h2=>Mr w λh=>(by
 cases o with
 |Add=>exact Xp (x cx k w) λa=>Xp (y cx k v) λb=>W8 ⟨ib i a.d b.d,λp=>sr h1 h2 (a.h p) (b.h p) h⟩
 |_=>exact W9))
def DG (x:RE):RS:=λcx k oc s O=>gE cx.own (CK (β:=λs=>jS cx k oc s cx.own) s λt o v q=>bN (β:=λt=>jS cx k oc (.AugAssign t o v q) cx.own) t λn q'=>(by
 cases o with
 |Add=>exact pA cx n λi h1 h2 h3=>Xp (x cx k v) λa=>W8 ⟨tm i a.d,λp=>AX h1 h2 h3 (a.h p)⟩
 |_=>exact W9))
def Fw (x:RE)(t:RA):RS:=λcx k oc s O=>gE cx.own (re (β:=λs=>jS cx k oc s cx.own) s λtg v q=>nM (β:=λtg=>jS cx k oc (.Assign [tg] v q) cx.own) tg λes ct tp=>sT (β:=λv=>jS cx k oc (.Assign [.Tuple es ct tp] v q) cx.own) v λg as ks cp=>Xp (x cx k (.Call g as ks cp)) λa=>Xp (t cx k false (.Tuple es ct tp)) λb=>W8 ⟨bE a.d b.d,λp=>sq (a.h p) (b.h p) λ_=>rfl⟩)
end
end
noncomputable abbrev US (cx:Cx)(k:Nat)(s:List RV):Type:= {d:SD// ∀(W:Wd C),bG C k cx [] s [] d}
theorem Gm {j:Xk}{o:Option (T j)}{d:j.D}(h:o.map T.d=W8 d)(p:PK):j.P p d:=by
 cases o with
 |none=>cases h
 |some a=>cases h;exact a.h p
def fE (cx:Cx)(k:Nat)(s:List RV)(r:r5)(d:SD)(h:(r cx k [] s []).map T.d=W8 d):US cx k s:=⟨d,λW=>Gm h ⟨W⟩⟩
def q9 (P:P9×List RV×Sj):List Str:=P.1.args.map (·.arg)
def CR (o:Obj)(t:Sem α):Option (OO×Sem α):=by
 cases t with
 |load a p k=>cases p with
  |none=>exact W8 (a,k o)
  |some _=>exact W9
 |_=>exact W9
theorem yx {Q:α->On->Prop}{t t':Sem α}(h:CR o t=W8 (a,t'))(ho:s.heap.get? a=W8 o)(hw:Oz M A t' Q E s):Oz M A t Q E s:=by
 cases t with
 |load a p k=>cases p with
  |none=>cases h;exact Og (m:=load _) (wpAny_load ho hw)
  |some _=>exact absurd h aI
 |_=>exact absurd h aI
def Ao (P:P9)(params:List Str)(np:Nat)(kn:List Str)(nd:Nat)(l:List (Nat⊕Nat)):Prop:=
 ∀(n q:Str) (b:FuncBody) (sc:Sj) (gl:OO) (cl:List (Str×OO)) (T:OO) (kd dc pm:Oq) (an:Option OO) (cd ct:Oq) (bi:OO) (c:Oq) (di:Option OO) (m:Nat) (sl:Array (Option Oq)) (g h:Nat->Oq),CR ⟨c,di,.seq ((Oo nd).map h).toArray m,sl⟩ (Wc ⟨n,q,P,b,sc,gl,cl,.ref T,kd,dc,pm,an,cd,ct,bi⟩ ⟨(Oo np).map g,kn.zip ((Oo kn.length).map λi=>g (np+i))⟩)=W8 (T,pure (params.zip (eu .none ((Oo nd).map h) l ((Oo (np+kn.length)).map g))))
theorem dC.patL {P:P9×List RV×Sj}{d:V}{g:Bool}(R:dC C f fd P (d::ds) g)(l:List (Nat⊕Nat))
 (h:Ao P.1 params np kn (ds.length+1) l) (hl:params.length=l.length):Ab C fd params np kn (eu .none (d::ds) l):=λU s vs us xs ok h1 h2 r=>by
 obtain⟨T,o,ws,m,e1,e2,e3,e4,e5⟩:=R.dfl;refine⟨eu .none ws.toList l (vs++us),λM A E Q hq=>yx (o:=o) (a:=T) ?_ (ok.inv.base T o e2 e3) (Oi hq),o7 r (e5 _) l,by refine ab hl ?_;exact OA _⟩;obtain⟨n,q,p,b,sc,gl,cl,df,kd,dc,pm,an,cd,ct,bi⟩:=fd;obtain⟨c,di,da,sl⟩:=o;have e6:ws.toList.length=ds.length+1:=(e5 (view U s.heap)).length;have:=h n q b sc gl cl T kd dc pm an cd ct bi c di m sl (λi=>(vs++us).getD i .none) λi=>ws.toList.getD i .none;rw[<-h1,<-h2,Lw,Lv,<-Pd,eO,<-e6,eO]at this;have h3:p=P.1:=R.par;have h4:df= .ref T:=e1;have h5:da= .seq ws m:=e4;refine ab h3 (ab h4 (ab h5 ?_));exact this
def cj (P:P9×List RV×Sj)(dfl:List V)(np:Nat)(kn:List Str)(φ:List V->List V):Prop:= ∀(f:OO) (fd:Rb) (g:Bool),dC C f fd P dfl g->Ab C fd (q9 P) np kn φ
theorem pat0 {P:P9×List RV×Sj}(h:Do P.1 (q9 P) np kn)(hl:(q9 P).length=np+kn.length):cj P [] np kn id:=λ_ _ _ R=>R.pat00 h hl
theorem gJ {P:P9×List RV×Sj}{d:V}{l:List (Nat⊕Nat)}(h:Ao P.1 (q9 P) np kn (ds.length+1) l)(hl:(q9 P).length=l.length):cj P (d::ds) np kn (eu .none (d::ds) l):=λ_ _ _ R=>R.patL l h hl
def Iq (P:P9×List RV×Sj)(cx:Cx)(g:Bool):Bool:=zc P.2.2 (q9 P) cx&&(!cx.gen ||g)
section
theorem dC.okB {P:P9×List RV×Sj}{g:Bool}(R:dC C f fd P dfl g)(h:Iq P cx g=true):m5 C f fd (q9 P) P.2.1 cx:=by unfold Iq at h;rw[Qg,Tq]at h;exact R.ok (q9 P) (λq=>h.2.elim (λe=>by rw[q]at e;cases e) id) h.1
theorem iM.c {nm:Str}{P:P9×List RV×Sj}{g:Bool}(F:iM C nm P dfl g)(nl:Nat){d:SD}(hb:bG C k cx [] P.2.1 [] d)(ho:Iq P cx g=true)(hp:cj P dfl np kn φ):bY C k nm np kn λxs=>cr nl d (φ xs):=by obtain⟨f,fd,hm,R⟩:=F;exact⟨_,hm,((R.okB ho).fun nl hb).callee (hp f fd g R)⟩
theorem Ad.c {c:Nat}{nm:Str}{P:P9×List RV×Sj}{g:Bool}(F:Ad C c nm P dfl g)(nl:Nat){d:SD}(hb:bG C k cx [] P.2.1 [] d)(ho:Iq P cx g=true)(hp:cj P dfl np kn φ):fc C c k nm np kn λxs=>cr nl d (φ xs):=by obtain⟨f,fd,hm,hf,R⟩:=F;exact⟨_,hm,hf,((R.okB ho).fun nl hb).callee (hp f fd g R)⟩
end
noncomputable section
def qG (m:Nat)(nm:Str)(np:Nat)(kn:List Str)(D:List V->Option V)(F:∀p:PK,bY C m nm np kn D)(x:RL)(y:RK):RE:=λcx k e=>qh (β:=λk=>jE cx k e) k λk=>ft (β:=λe=>jE cx (k+1) e) e λn q as ks p=>cR (β:=λas=>jE cx (k+1) (.Call (.Name n q) as ks p)) as λv vs=>Ar v λhs=>ck (Rv m k) λhk=>Xp (x cx (k+1) (v::vs)) λa=>Xp (y cx (k+1) ks) λb=>ck ((n,(v::vs).length,b.d.1)==(nm,np,kn)) λh=>ck (cx.globs.contains n) λhg=>W8 ⟨aM D a.d b.d.2,λp=>by have h:=eq_of_beq h;have F:=(F p).le (P5 hk);have h1:n=nm:=congrArg (·.1) h;have h2:(v::vs).length=np:=congrArg (·.2.1) h;have h3:b.d.1=kn:=congrArg (·.2.2) h;rw[<-h1,<-h2,<-h3]at F;exact gZ F (Aw hg) (a.h p).1 (b.h p) (a.h p).2 (hs vs)⟩
theorem yt {e:Ol}(h:∀a env w,Pq e a env w=w){nm:Str}(hl:(q.endLine==p.line)=true)(env:Env):PX (.Call (.Attribute e nm q) [] [] p) env=(do
 let ov <-PX e env
 Qb q.atName
 let (f,first) <-Qo [ov] (RD ov nm (do return (<-importBound e env).getD true))
 Rq p f first (Qr p (OC [] env)) (Pz p (OY [] env))):=by
 show(do
  let ov <-Pq e nm env (PX e env)
  Qb q.atName
  VT e nm q p env ov 0 (Qr p (OC [] env)) (Pz p (OY [] env)))=_
 rw[h];have:UB true e env q p=pure p:=if_pos (by refine ab hl ?_;rfl);unfold VT;show(do
  let ov <-PX e env
  Qb q.atName
  let (f,first) <-Qo [ov] (RD ov nm _);let Zq <-UB true e env q p
  Rq Zq f first _ _)=_
 refine ab this ?_;rfl
theorem yr {e v:Ol}(h:∀a env w,Pq e a env w=w){nm:Str}(hl:(q.endLine==p.line)=true)(hv:∀env,OC [v] env= [(false,PX v env)])(env:Env):PX (.Call (.Attribute e nm q) [v] [] p) env=(do
 let ov <-PX e env
 Qb q.atName
 let (f,first) <-Qo [ov] (RD ov nm (do return (<-importBound e env).getD true))
 Rq p f first (Qr p (OC [v] env)) (Pz p (OY [] env))):=by
 show(do
  let ov <-Pq e nm env (PX e env)
  Qb q.atName
  VT e nm q p env ov 1 (Qr p (OC [v] env)) (Pz p (OY [] env)))=_
 rw[h,hv];have:UB true e env q p=pure p:=if_pos (by refine ab hl ?_;rfl);unfold VT;show(do
  let ov <-PX e env
  Qb q.atName
  let (f,first) <-Qo [ov] (RD ov nm _);let Zq <-UB true e env q p
  Rq Zq f first _ _)=_
 refine ab this ?_;rfl
def qM (c m:Nat)(nm:Str)(D:List V->Option V)(K:∀p:PK,bH C c)(F:∀p:PK,fc C c m nm 1 [] D)(x:RE):RE:=λcx k e=>qh (β:=λk=>jE cx k e) k λk=>kS (β:=λe=>jE cx (k+1) e) e λv a q as ks p=>cg (β:=λas=>jE cx (k+1) (.Call (.Attribute v a q) as ks p)) as (cg (β:=λks=>jE cx (k+1) (.Call (.Attribute v a q) [] ks p)) ks (Ih v λhs=>ck (q.endLine==p.line) λhl=>ck (Rv m k) λhk=>ck (a==nm) λh=>Xp (x cx (k+1) v) λb=>W8 ⟨λσ=>((b.d σ).bind (aS c)).bind λy=>D [y],λp=>by have F:=(F p).le (P5 hk);rw[<-eq_of_beq h]at F;exact iB (K p) F (b.h p) _ (yt hs hl)⟩))
def qX (c m:Nat)(D:List V->Option V)(K:∀p:PK,bH C c)(F:∀p:PK,fc C c m "__getitem__" 2 [] D)(x y:RE):RE:=λcx k e=>qh (β:=λk=>jE cx k e) k λk=>qh (β:=λk=>jE cx (k+1) e) k λk=>rc (β:=λe=>jE cx (k+2) e) e λv i q=>Mq i λh=>ck (Rv m k) λhk=>Xp (x cx (k+2) v) λa=>Xp (y cx (k+2) i) λb=>W8 ⟨λσ=>((a.d σ).bind (aS c)).bind λx=>(b.d σ).bind λy=>D [x,y],λp=>qJ (K p) ((F p).le (P5 hk)) (a.h p) (b.h p) λ_ _=>h _ _⟩
def jZ (cx:Cx)(k:Nat)(e:List Ol):Xk:=⟨List V,λp l=>gT C k cx e (λ_=>W8 l)/\ ∀env pos,((Qr pos (OC e env)).any (·.1))=false⟩
def Nt (cx:Cx)(k:Nat)(es:List Ol):Option (T (jZ cx k es)):=by
 induction es with
 |nil=>exact W8 ⟨[],λ_=>⟨Mine.args_nil,λ_ _=>rfl⟩⟩
 |cons e es ih=>exact kQ (β:=λe=>jZ cx k (e::es)) e λc q p=>(by
  cases c with
  |str y=>exact Xp ih λa=>W8 ⟨.str y.cps.toList::a.d,λp=>⟨Mine.args_cons (b:=λ_=>W8 a.d) (oW (z:=y.cps.toList) (by cases y;rfl)) (a.h p).1 λ_=>rfl,(a.h p).2⟩⟩
  |_=>exact W9)
def lS:RL:=λcx k e=>Xp (Nt cx k e) λa=>W8 ⟨λ_=>W8 a.d,λp=>a.h p⟩
def MN (x:RP)(y:RE):RE:=λcx k e=>kS e λo a ap as ks p=>uh (β:=λas=>jE cx k (.Call (.Attribute o a ap) as ks p)) as λv=>cg (β:=λks=>jE cx k (.Call (.Attribute o a ap) [v] ks p)) ks (Ih o λh1=>Ar v λh2=>ck (ap.endLine==p.line) λh3=>ck (a== "union") λh4=>Xp (x cx k o) λb=>Xp (y cx k v) λc=>W8 ⟨dB eF b.d c.d,λp=>eq_of_beq h4▸vk (b.h p) (c.h p) (λenv=>h1 _ env _) (λenv=>h2 [] env) h3⟩)
theorem w9 (e o:Ol)(a:Str)(q:Pos)(l:Nat)(env:Env):P8 e (W8 (.Attribute o a q)) l env=pure false:=by cases e<;>rfl
def jH (c:Nat)(cx:Cx)(k:Nat)(s:List RV):Xk:=⟨List V->ai->Option (List V),λp g=>iI C k cx c s g⟩
noncomputable abbrev RH:= ∀c cx k s,Option (T (jH c cx k s))
def Xz:RH:=λc cx k s=>cg s (W8 ⟨λfs _=>W8 fs,λ_=>CX⟩)
def hP (x:RS)(y:RH):RH:=λc cx k s=>cR (β:=λs=>jH c cx k s) s λst r=>ck cx.own.isEmpty λho=>Xp (x cx k [] st []) λa=>Xp (y c cx k r) λb=>W8 ⟨dW a.d b.d,λp=>EM (a.h p) (b.h p) (Uy.mp ho)⟩
def hS (c i:Nat)(n:Str)(K:∀p:PK,bH C c)(hn:∀p:PK,(C.cls.names c)[i]?=W8 n)(hi:i<=20)(x:RE)(y:RH):RH:=λc' cx k s=>cR (β:=λs=>jH c' cx k s) s λst r=>re (β:=λst=>jH c' cx k (st::r)) st λt v q=>pp (β:=λt=>jH c' cx k (.Assign [t] v q::r)) t λo a q'=>bN (β:=λo=>jH c' cx k (.Assign [.Attribute o a q'] v q::r)) o λm q''=>ck (a==n) λh1=>ck (c'==c) λh2=>ck (!cx.own.contains 0) λh4=>ck (cx.vars.lookup m==W8 0) λh5=>Xp (x cx k v) λa=>Xp (y c' cx k r) λb=>W8 ⟨ge i a.d b.d,λp=>by have h2:=eq_of_beq h2;subst h2;exact pG (K p) (eq_of_beq h1▸hn p) (eq_of_beq h5) (a.h p) (b.h p) (Jq h4) hi (w9 _ _ _ _ _)⟩
end
theorem wv {i:Nat}(h:j≠i):bk i (dV j):=zL h
theorem Cd {i:Nat}:bk i (dK t):=λ_ _=>rfl
theorem Kv {i:Nat}{f:V->Option V}(h:bk i d):bk i (dU f d):=λa σ=>congrArg (λx:Option V=>x.bind f) (h a σ)
theorem Fh {i:Nat}{f:V->V->Option V}{e:ED}(h:bk i d)(h':bk i e):bk i (dB f d e):=λa σ=>by unfold dB;rw[h a,h' a]
theorem H7 {i:Nat}(h:bk i d):bk i (dT d):=λa σ=>by unfold dT;rw[h a]
noncomputable section
noncomputable abbrev UH (c:Nat)(cx:Cx)(k:Nat)(s:List RV):Type:= {g:List V->ai->Option (List V)// ∀(W:Wd C),iI C k cx c s g}
def LA (c:Nat)(cx:Cx)(k:Nat)(s:List RV)(r:RH)(g:List V->ai->Option (List V))(h:(r c cx k s).map T.d=W8 g):UH c cx k s:=⟨g,λW=>Gm h ⟨W⟩⟩
def JM:RE->RH->RH:=hS 0 0 "numerator" (λp=>p.W.KF) (λp=>p.W.a00) (by decide)
def JL:RE->RH->RH:=hS 0 1 "denominator" (λp=>p.W.KF) (λp=>p.W.a01) (by decide)
def JK:RE->RH->RH:=hS 1 0 "candidates" (λp=>p.W.KP) (λp=>p.W.a10) (by decide)
def JJ:RE->RH->RH:=hS 1 1 "cand_names" (λp=>p.W.KP) (λp=>p.W.a11) (by decide)
def JI:RE->RH->RH:=hS 1 2 "_voters" (λp=>p.W.KP) (λp=>p.W.a12) (by decide)
def ME (x:RE):RS:=λcx k oc s O=>gE cx.own (re (β:=λs=>jS cx k oc s cx.own) s λt v sp=>Ec (β:=λt=>jS cx k oc (.Assign [t] v sp) cx.own) t λn p m q ct tp=>nM (β:=λv=>jS cx k oc (.Assign [.Tuple [.Name n p,.Name m q] ct tp] v sp) cx.own) v λes vct vp=>
 CL (β:=λes=>jS cx k oc (.Assign [.Tuple [.Name n p,.Name m q] ct tp] (.Tuple es vct vp) sp) cx.own) es λe1 e2=>bN (β:=λe1=>jS cx k oc (.Assign [.Tuple [.Name n p,.Name m q] ct tp] (.Tuple [e1,e2] vct vp) sp) cx.own) e1 λc cp=>ug (β:=λe2=>jS cx k oc (.Assign [.Tuple [.Name n p,.Name m q] ct tp] (.Tuple [.Name c cp,e2] vct vp) sp) cx.own) e2 λl op r bp=>
 ck (!(m==n)) λa1=>ck (q.line==p.line) λa2=>ck (!cx.mn.contains n) λa4=>ck (!cx.mn.contains m) λa5=>pA cx n λi h1 h2 h3=>pA cx m λj g1 g2 g3=>ck (!(i==j)) λa3=>ck (!Tc 8 (.Name c cp)) λa6=>Xp (x cx k (.Tuple [.Name c cp,.BinOp l op r bp] vct vp)) λa=>
 W8 ⟨bE a.d (eH i j),λp=>xk (As a1) (As a3) a2 (As a6) h1 h2 h3 g1 g2 g3 ⟨by simpa using a4,by simpa using a5⟩ (a.h p)⟩)
def MI (it:KU)(t:RT):RS:=λcx k oc s O=>gE cx.own (yk (β:=λs=>jS cx k oc s cx.own) s λtg i bo q=>bN (β:=λtg=>jS cx k oc (.For tg i bo [] q) cx.own) tg λn p=>uh (β:=λbo=>jS cx k oc (.For (.Name n p) i bo [] q) cx.own) bo λst=>yj (β:=λst=>jS cx k oc (.For (.Name n p) i [st] [] q) cx.own) st λc u v q'=>cg (β:=λv=>jS cx k oc (.For (.Name n p) i [.If c u v q'] [] q) cx.own) v (pA cx n λj h1 h2 h3=>Cp i λhf=>Xp (it cx k false false (.Name n p) i) λa=>Xp (t cx k c) λb=>W8 ⟨pQ a.d j b.d,λp=>sB (a.h p) (λ_ _ h=>h) h1 h2 h3 (b4 (kM (b.h p) nj fm) fm) (λσ h=>by simp only[aa];refine ab (vU h) ?_;rfl) hf⟩))
def jB (i:Nat)(cx:Cx)(k:Nat)(e:Ol):Xk:=⟨ED,λp d=>aC C k cx e d/\ bk i d⟩
noncomputable abbrev RB:= ∀i cx k e,Option (T (jB i cx k e))
def bv:RB:=λi cx k e=>bN e λn p=>IB cx n λj h o=>ck (!(j==i)) λhj=>W8 ⟨dV j,λ_=>⟨a8 h o,wv (ne_of_beq_false (As hj))⟩⟩
def bc:RB:=λi cx k e=>kQ e λc q p=>by
 cases c with
 |int z=>exact W8 ⟨dK (.int z),λ_=>⟨gY,Cd⟩⟩
 |_=>exact W9
def bb (x y:RB):RB:=λi cx k e=>ug e λl op r _=>Xp (x i cx k l) λa=>Xp (y i cx k r) λb=>Xp (oI k op) λf=>W8 ⟨dB f.d a.d b.d,λp=>⟨fq (a.h p).1 (b.h p).1 (f.h p),Fh (a.h p).2 (b.h p).2⟩⟩
def MH (x:RB):RS:=λcx k oc s O=>gE cx.own (yk (β:=λs=>jS cx k oc s cx.own) s λtg it bo q=>bN (β:=λtg=>jS cx k oc (.For tg it bo [] q) cx.own) tg λtn tq=>bN (β:=λit=>jS cx k oc (.For (.Name tn tq) it bo [] q) cx.own) it λn p=>uh (β:=λbo=>jS cx k oc (.For (.Name tn tq) (.Name n p) bo [] q) cx.own) bo λst=>nN (β:=λst=>jS cx k oc (.For (.Name tn tq) (.Name n p) [st] [] q) cx.own) st λm mq v vp=>
 DV cx n λi h1 h2=>pA cx tn λj g1 g2 g3=>ck (!(j==i)) λZm=>pA {cx with own:=gu i cx.own} m λl f1 f2 f3=>ck (!(l==i)) λhl=>Ig v λhw=>Xp (x i {cx with own:=gu i cx.own} k v) λa=>
 W8 ⟨kY i j (aa (ak l a.d) af),λp=>sz h1 h2 g1 g2 g3 (As Zm) (wt (a.h p).2 (ne_of_beq_false (As hl))) (b4 (aam f1 f2 f3 (a.h p).1 (hw _ _)) fm)⟩)
def Jj {β:Ol->Xk}(n:Str)(e:Ol)(f:∀p,Option (T (β (.Name n p)))):Option (T (β e)):=bN e λm p=>ck (n==m) λh=>eq_of_beq h▸f p
end
def Kp:Cx:= {vars:= [("self",0),("numerator",1),("denominator",2),("upper",3),("lower",4),("divisor",5),("rest",6)],globs:= ["isinstance","int","Fraction"],own:= []}
def IH:Cx:= {vars:= [("self",0)],globs:= [],own:= []}
def IG:Cx:= {vars:= [("self",0),("other",1)],globs:= ["Fraction","isinstance","int"],own:= []}
@[reducible] noncomputable def aT (s:String):V:= .str (QV s).cps.toList
def Fv:=LA 0 Kp 0 (aJ 7 0).2.1 (hP (bX (rY (qt (pk (CB qv)))) sN Xx) (hP (bX (rY (qt (pk (CB qv)))) sN Xx) (hP (sA qv) (hP (sA qv) (hP (bX (qt (pk (EA qv))) (sx (sA (wy qo)) Xx) Xx) (hP (bX (qt (pk (EA qv))) (sx (sA (qb qv (wx qo))) (sx (sA (wy qo)) Xx)) Xx) (hP (bX (qt (pk (EA qv))) (sx (sA (qb qv (wx qo))) Xx) Xx) (hP (bX (cu qv qc) sN Xx) (hP (bX (cu qv qc) (sx (sA (jR qv)) (sx (sA (jR qv)) Xx)) Xx) (hP (sA qv) (hP (sA (qb qv qv)) (hP (Gq 40 (qt bh) (sx (ME (ef (Xv qv (Xv (qb qv qv) Xy)))) Xx)) (JM (qb qv qv) (JL (qb qv qv) Xz)))))))))))))) (dW (aE (eG (dT (dU (tP 0) (dV 1)))) (λx=>W9) af) (dW (aE (eG (dT (dU (tP 0) (dV 2)))) (λx=>W9) af) (dW (ak 3 (dV 1)) (dW (ak 4 (dV 2)) (dW (aE (dT (dU (vd 0) (dV 1))) (aa (ak 3 (dU (aR 0 0) (dV 1))) af) af) (dW (aE (dT (dU (vd 0) (dV 2))) (aa (ak 3 (dB c8 (dV 3) (dU (aR 0 1) (dV 2)))) (aa (ak 4 (dU (aR 0 0) (dV 2))) af)) af) (dW (aE (dT (dU (vd 0) (dV 1))) (aa (ak 4 (dB c8 (dV 4) (dU (aR 0 1) (dV 1)))) af) af) (dW (aE (dT (dB (λa b=>Ox Xb (fC a b)) (dV 4) (dK (Xc 0)))) (λx=>W9) af) (dW (aE (dT (dB (bf λa b=>decide (a<b)) (dV 4) (dK (Xc 0)))) (aa (ak 3 (dU iy (dV 3))) (aa (ak 4 (dU iy (dV 4))) af)) af) (dW (ak 5 (dV 4)) (dW (ak 6 (dB fU (dV 3) (dV 4))) (dW (bB (dT (dV 6)) (aa (bE (dj (ah (dV 6) (ah (dB fU (dV 5) (dV 6)) au))) (eH 5 6)) af) 40) (ge 0 (dB d2 (dV 3) (dV 5)) (ge 1 (dB d2 (dV 4) (dV 5)) λfs x=>W8 fs)))))))))))))) (by kernel_rfl)
def K3:=fE IH 0 (aJ 7 2).2.1 (sx (sR (qb (wy qo) (wx qo))) Xx) (aa (bz (dB d2 (dU (aR 0 0) (dV 0)) (dU (aR 0 1) (dV 0)))) af) (by kernel_rfl)
def K2:=fE IH 0 (aJ 7 3).2.1 (sx (sR (jR (qb (jR (wy qo)) (wx qo)))) Xx) (aa (bz (dU iy (dB d2 (dU iy (dU (aR 0 0) (dV 0))) (dU (aR 0 1) (dV 0))))) af) (by kernel_rfl)
theorem Fg {i:Nat}{d:ai->Option Bool}(h:bk i d):bk i (eG d):=λa σ=>by unfold eG;rw[h a]
theorem zS {i:Nat}:bk i au:=λ_ _=>rfl
theorem uV {i:Nat}{e:ai->Option (List V)}(h:bk i d)(h':bk i e):bk i (ah d e):=λa σ=>by unfold ah;rw[h a,h' a]
theorem Ff {i:Nat}{e:ai->Option (List V)}(h':bk i e):bk i (dj e):=λa σ=>by unfold dj;rw[h' a]
theorem Cc {i:Nat}{d e:ai->Option (List V)}(h:bk i d)(h':bk i e):bk i (aM D d e):=λa σ=>by unfold aM;rw[h a,h' a]
theorem H5:An Fv.1:=by
 unfold Fv
 repeat' first
  |exact pU |refine rR ?_ ?_ |refine j3 ?_ ?_
  |exact rS |exact rT |refine oB ?_ ?_ _ |refine uU ?_ ?_ ?_ |refine Ca ?_ ?_ |refine B9 ?_ (by decide) |refine tF ?_ (by decide) (by decide)
  |exact wv (by decide) |exact Cd |exact zS |refine Kv ?_ |refine Fh ?_ ?_ |refine H7 ?_ |refine Fg ?_ |refine uV ?_ ?_ |refine Ff ?_
theorem I7:cj (aJ 7 0) [.int 0,.int 1] 3 [] (eu .none [.int 0,.int 1] [.inl 0,.inl 1,.inl 2]):=gJ (λ_ _ _ _ _ _ _ _ _ _ _ _ _ _ _ _ _ _ _ _=>rfl) rfl
theorem I6:cj (aJ 7 0) [.int 0,.int 1] 2 [] (eu .none [.int 0,.int 1] [.inl 0,.inl 1,.inr 1]):=gJ (λ_ _ _ _ _ _ _ _ _ _ _ _ _ _ _ _ _ _ _ _=>rfl) rfl
theorem MX:cj (aJ 7 2) [] 1 [] id:=pat0 (λ_ _ _ _ _ _ _ _ _ _ _ _ _ _=>rfl) rfl
theorem MW:cj (aJ 7 3) [] 1 [] id:=pat0 (λ_ _ _ _ _ _ _ _ _ _ _ _ _ _=>rfl) rfl
theorem I5:cj (aJ 7 10) [] 2 [] id:=pat0 (λ_ _ _ _ _ _ _ _ _ _ _ _ _ _=>rfl) rfl
theorem I4:cj (aJ 7 16) [] 2 [] id:=pat0 (λ_ _ _ _ _ _ _ _ _ _ _ _ _ _=>rfl) rfl
def eV:List V->Option V:=rO 0 2 4 (eu .none [.int 0,.int 1] [.inl 0,.inl 1,.inl 2]) Fv.1
def aao:List V->Option V:=rO 0 2 4 (eu .none [.int 0,.int 1] [.inl 0,.inl 1,.inr 1]) Fv.1
def d6:List V->Option V:=λxs=>cr 0 K3.1 (id xs)
def ky:List V->Option V:=λxs=>cr 0 K2.1 (id xs)
section
theorem Dd (W:Wd C):bY C 0 "Fraction" 2 [] eV:=⟨_,W.gF,W.i7.call W.KF 2 4 (by refine ab W.nF ?_;rfl) (cx:=Kp) (k:=0) (by intro h;cases h) (by decide+kernel) (Fv.2 W) H5 (λf fd R=>I7 f fd false R) (by intro i h;rcases OG.mp h with h |h<;>simp_all)⟩
def eS:RL->RK->RE:=qG 0 "Fraction" 2 [] eV λp=>Dd p.W
theorem De (W:Wd C):bY C 0 "Fraction" 1 [] aao:=⟨_,W.gF,W.i7.call W.KF 2 4 (by refine ab W.nF ?_;rfl) (cx:=Kp) (k:=0) (by intro h;cases h) (by decide+kernel) (Fv.2 W) H5 (λf fd R=>I6 f fd false R) (by intro i h;rcases OG.mp h with h |h<;>simp_all)⟩
def mj:RL->RK->RE:=qG 0 "Fraction" 1 [] aao λp=>De p.W
theorem uR (W:Wd C):fc C 0 0 "floor" 1 [] d6:=W.m72.c 0 (cx:=IH) (K3.2 W) (by decide+kernel) MX
def je:RE->RE:=qM 0 0 "floor" d6 (λp=>p.W.KF) λp=>uR p.W
theorem Fd (W:Wd C):fc C 0 0 "ceil" 1 [] ky:=W.m73.c 0 (cx:=IH) (K2.2 W) (by decide+kernel) MW
def uB:RE->RE:=qM 0 0 "ceil" ky (λp=>p.W.KF) λp=>Fd p.W
end
def F8:=fE IG 1 (aJ 7 10).2.1 (sx (bX (qt (pk (Iv qv))) (sx (sR (eS (Xv (qb (wy qo) qv) (Xv (wx qo) Xy)) k0)) Xx) Xx) sN) (aa (aE (dT (dU (vc 0) (dV 1))) (aa (bz (aM eV (ah (dB c8 (dU (aR 0 0) (dV 0)) (dV 1)) (ah (dU (aR 0 1) (dV 0)) au)) au)) af) af) λx=>W9) (by kernel_rfl)
def F7:=fE IG 0 (aJ 7 16).2.1 (sx (bX (qt (pk (Iv qv))) (sx (sR (qC oC (wy qo) (qb qv (wx qo)))) Xx) Xx) sN) (aa (aE (dT (dU (vc 0) (dV 1))) (aa (bz (dB (bf λa b=>decide (a<=b)) (dU (aR 0 0) (dV 0)) (dB c8 (dV 1) (dU (aR 0 1) (dV 0))))) af) af) λx=>W9) (by kernel_rfl)
def dA:List V->Option V:=λxs=>cr 0 F8.1 (id xs)
def eW:List V->Option V:=λxs=>cr 0 F7.1 (id xs)
def cA (D:List V->Option V):V->V->Option V:=λx y=>match x,y with
 | .inst c' fs,.int i=>if c'=0 then(D [.inst 0 fs,.int i]).bind λt=>(match t with | .any=>W9 |t=>W8 t)else W9
 |_,_=>W9
section
theorem uc (W:Wd C):ir C (k+2) (Rj .Mult) (cA dA):=by obtain⟨f,fd,h1,R⟩:=W.oM;exact(Bk W.KF h1 (((R.okB (cx:=IG) (by decide+kernel)).fun 0 (F8.2 W)).callee (I5 f fd _ R))).le (Qc _ _)
theorem yg (W:Wd C):ir C (k+1) (PH .LtE) (cA eW):=by obtain⟨f,fd,h1,h2,R⟩:=W.oL;exact(Bj W.KF h1 h2 (((R.okB (cx:=IG) (by decide+kernel)).fun 0 (F7.2 W)).callee (I4 f fd _ R)) (λ_ _=>rfl)).le (Qc _ _)
end
def oF:RO:=λk o=>qh (β:=λk=>jO k (Rj o)) k λk=>qh (β:=λk=>jO (k+1) (Rj o)) k λk=>by
 cases o with
 |Mult=>exact W8 ⟨cA dA,λp=>uc p.W⟩
 |_=>exact W9
def Jo:RC:=λk o=>qh (β:=λk=>jO k (PH o)) k λk=>by
 cases o with
 |LtE=>exact W8 ⟨cA eW,λp=>yg p.W⟩
 |_=>exact W9
def uF:Option RV->List RV
 |some (.For _ _ b _ _)=>b
 |_=> []
def cC:Cx:= {vars:= [("items",0),("size",1),("rows",2),("taken",3),("last",4)],globs:= ["len","range"],own:= [],mn:= ["items","last"],caps:= ["items","last"]}
def LU:Cx:= {vars:= [("items",0),("last",4),("row",5),("start",6),("place",7)],globs:= ["range"],own:= [],fre:= [0,4]}
def LS:Cx:= {vars:= [("row",5),("start",6)],globs:= [],own:= []}
def u6:=fE cC 1 (ar 6).2.1 (sx (bX (cu qv (bS bh)) (sx (sR (qe (cm Xy))) Xx) Xx) (sx (sA (qe (cm (Xv (ef (Xv (ef Xy) (Xv qc Xy))) Xy)))) (sx (dL false (r1 qv) t1 (sx (sA (qb (qb (bS bh) qv) qv)) (sx (mY LU false (cN qv) (lm false Xo eJ (r2 qv (qb qv qc)) (lz Xn eJ (ef (Xv (qb qv (ef (Xv (bx bh qv) Xy))) (Xv (qb qv qc) Xy)))))) Xx))) (sx (sR (qe (gq LS false (cN qv) (lz Xo eJ qv)))) Xx)))) (aa (aE (dT (dB (bf λa b=>decide (b<a)) (dV 1) (dU aP (dV 0)))) (aa (bz (b9 au)) af) af) (aa (ak 2 (b9 (ah (dj (ah (dj au) (ah (dK (Xc 0)) au))) au))) (aa (bR (aX (dK (Xc 0)) (dV 1)) (cH 3) (aa (ak 4 (dB bJ (dB iw (dU aP (dV 0)) (dV 1)) (dV 3))) (aa (ak 2 (ba LU (cO (dV 2)) (aj (iz 5 6) (λx=>W8 true) (ku (aX (dV 6) (dB bJ (dV 4) (dK (Xc 1)))) (aj (bg 7) (λx=>W8 true) (aF (dj (ah (dB bJ (dV 5) (dj (ah (dB aZ (dV 0) (dV 7)) au))) (ah (dB bJ (dV 7) (dK (Xc 1))) au))))))))) af))) (aa (bz (ba LS (cO (dV 2)) (aj (iz 5 6) (λx=>W8 true) (aF (dV 5))))) af)))) (by kernel_rfl)
theorem Xs:cj (ar 6) [] 2 [] id:=pat0 (λ_ _ _ _ _ _ _ _ _ _ _ _ _ _=>rfl) rfl
def gz:List V->Option V:=λxs=>cr 6 u6.1 (id xs)
theorem Fc (W:Wd C):bY C 1 "combinations" 2 [] gz:=W.f6.c 6 (cx:=cC) (u6.2 W) (by decide+kernel) Xs
def pF:RL->RK->RE:=qG 1 "combinations" 2 [] gz λp=>Fc p.W
def cP:Cx:= {vars:= [("iterable",0),("max_size",1),("s",2),("subsets",3),("r",4)],globs:= ["list","len","range","combinations"],own:= []}
def u4:=fE cP 2 (ar 4).2.1 (sx (sA (IZ bh)) (sx (bX (cu qv qc) (sx (sA (bS bh)) Xx) Xx) (sy [3] (sF 3 (cm Xy)) (sx (dL false (r1 (qb qv qc)) t1 (sx (IR (pF (Xv qv (Xv qv Xy)) k0)) Xx)) (xz [] (sx (sR qv) Xx)))))) (aa (ak 2 (dU oK (dV 0))) (aa (aE (dT (dB (λa b=>Ox Xb (qg a b)) (dV 1) (dK Xa))) (aa (ak 1 (dU aP (dV 2))) af) af) (aa (ak 3 (b9 au)) (aa (bR (aX (dK (Xc 0)) (dB bJ (dV 1) (dK (Xc 1)))) (cH 4) (aa (E4 3 (aM gz (ah (dV 2) (ah (dV 4) au)) au)) af)) (aa (bz (dV 3)) af))))) (by kernel_rfl)
theorem Xr:cj (ar 4) [.none] 1 [("max_size":Str)] (eu .none [.none] [.inl 0,.inl 1]):=gJ (λ_ _ _ _ _ _ _ _ _ _ _ _ _ _ _ _ _ _ _ _=>rfl) rfl
def ip:List V->Option V:=λxs=>cr 3 u4.1 (eu .none [.none] [.inl 0,.inl 1] xs)
theorem Fb (W:Wd C):bY C 2 "powerset" 1 ["max_size"] ip:=W.f4.c 3 (cx:=cP) (u4.2 W) (by decide+kernel) Xr
def uz:RL->RK->RE:=qG 2 "powerset" 1 ["max_size"] ip λp=>Fb p.W
def cT:Cx:= {vars:= [("values",0),("result",1),("value",2)],globs:= ["isinstance","Fraction"],own:= []}
def cW (zs:List V):Option V:=(dN zs).map λns=> .int ns.sum
theorem xd {a b:List Int}(p:a.Perm b):a.sum=b.sum:=by
 induction p with
 |nil=>rfl
 |cons x _ ih=>exact ab Rk (ab Rk (ab ih rfl))
 |swap x y l=>refine ab Rk (ab Rk (ab Rk (ab Rk ?_)));exact Int.add_left_comm _ _ _
 |trans _ _ h1 h2=>exact h1.trans h2
def AI: {d:SD// ∀(W:Wd C),bG C 0 cT cT.own (uF ((ar 8).2.1[1]?)) cT.own d}:=⟨_,λW=>(b4 (aam (i:=1) rfl (by decide) (by decide) (xr (Cw (aC.peek (tT W.KF (a8 rfl (by decide)) (by decide) (by decide) W.gF))) (fq (a8 rfl (by decide)) (a8 rfl (by decide)) pj) (fq (a8 rfl (by decide)) (a8 rfl (by decide)) pj))) fm)⟩
theorem qE {z:Option V}:∀(ns:List Int) (acc:Int) (x:Option V),∃y,aQ (cH 2) AI.1 (ns.map Xc) [z,W8 (.int acc),x]=W8 (.next,[z,W8 (.int (acc+ns.sum)),y])
 | [],acc,x=>⟨x,by rw[List.sum_nil,Int.add_zero];rfl⟩
 |n::ns,acc,x=>by obtain⟨y,h⟩:=qE ns (acc+n) (W8 (.int n));refine⟨y,?_⟩;show aQ (cH 2) AI.1 (ns.map Xc) [z,W8 (.int (acc+n)),W8 (.int n)]=_;rw[h,Rk,Int.add_assoc]
theorem w5 (W:Wd C):bG C k cT cT.own (uF ((ar 8).2.1[1]?)) cT.own AI.1:=λA U env σ s r rm=>AI.2 W A U env σ s r (rm.le (QJ _))
theorem k9 (W:Wd C){Xj:Ol}{q:Pos}{R:List V->List V->Prop}(hi:kz C k cx false true (.Name "value" ⟨168,8,168,13⟩) Xj di R)(hR:∀xs ys,R xs ys->ys.Perm xs)(hg:("total":Str)∈cx.globs)(he:∀env,OC [Xj] env=(false,PX Xj env)::OC [] env:=by intro _;rfl):
 aC C (k+1) cx (.Call (.Name "total" p') [Xj] [] pos') (λσ=>(di σ).bind cW):=by
 obtain⟨f,fd,hm,R0⟩:=W.f8;refine sv 2 (R0.okB (cx:=cT) (by decide+kernel)) (aam (i:=1) rfl (by decide) (by decide) gY) (dZ (i:=2) rfl (by decide) (by decide)) (w5 W) (O':= []) (b4 (kK (O':= []) (a8 rfl (by decide))) (iV (by decide))) rfl (λs a=> ?_) cW (λa zs t e=> ?_) hg hm hi (he:=he)
 ·have hp:=R0.par
  have hd:=R0.dfl;revert hp hd;obtain⟨⟩:=fd;intro hp hd;cases hp;cases hd;exact W7 rfl
 ·refine⟨[W8 (.adr a),W8 (.int 0),W9],rfl,rfl,λys h=> ?_⟩
  obtain⟨ns,hn,rfl⟩:=O3.mp e;obtain rfl:=eE hn;obtain⟨ms,pm,rfl⟩:=lC (hR _ _ h) rfl;obtain⟨y,h⟩:=qE (z:=W8 (.adr a)) ms 0 W9;refine⟨_,[W8 (.adr a),W8 (.int (0+ms.sum)),y],h,?_⟩;rw[aa5,xd pm];rfl
def DN (g:RG):RE:=λcx k e=>qh (β:=λk=>jE cx k e) k λk=>lJ (β:=λe=>jE cx (k+1) e) e λn q v _ hs=>ck (n== "total") λh1=>ck (cx.globs.contains n) λh2=>Xp (g cx k v) λa=>W8 ⟨λσ=>(a.d σ).bind cW,λp=>by obtain⟨R,h,r⟩:=a.h p "value" ⟨168,8,168,13⟩;have h2:=Aw h2;rw[eq_of_beq h1]at h2⊢;exact k9 p.W (q:=⟨0,0,0,0⟩) h r h2 hs⟩
def L9:Cx:= {vars:= [("self",0)],globs:= ["total"],own:= [],gen:=true}
def JB:Cx:= {vars:= [("voter",1)],globs:= [],own:= []}
def F9:=fE L9 2 (aJ 36 7).2.1 (sx (sR (DN (gx JB false (cN (Fi qo)) Xn eJ (ww qo)))) Xx) (aa (bz λσ=>Oy (pP JB (cO (dU (aR 1 2) (dV 0))) (aj (bg 1) (λx=>W8 true) (aF (dU (aR 2 1) (dV 1)))) σ) cW) af) (by kernel_rfl)
theorem I8:cj (aJ 36 7) [] 1 [] id:=pat0 (λ_ _ _ _ _ _ _ _ _ _ _ _ _ _=>rfl) rfl
def oo:List V->Option V:=λxs=>cr 1 F9.1 (id xs)
theorem HU (W:Wd C):fc C 1 2 "total_weight" 1 [] oo:=W.m367.c 1 (cx:=L9) (F9.2 W) (by decide+kernel) I8
def ik:RE->RE:=qM 1 2 "total_weight" oo (λp=>p.W.KP) λp=>HU p.W
def Mj:Cx:= {vars:= [("self",0),("_approved_candidates",1),("voter",2)],globs:= ["set"],own:= []}
def Gd:=fE Mj 0 (aJ 36 2).2.1 (sy [1] (sF 1 xU) (sx (dL false (cN (Fi qo)) t1 (sx (IQ (pk (kG qo))) Xx)) (xz [] (sx (sR qv) Xx)))) (aa (ak 1 (dK (Xg (az 0)))) (aa (bR (cO (dU (aR 1 2) (dV 0))) (cH 2) (aa (zv 1 (dU (aR 2 0) (dV 2))) af)) (aa (bz (dV 1)) af))) (by kernel_rfl)
theorem Jc:cj (aJ 36 2) [] 1 [] id:=pat0 (λ_ _ _ _ _ _ _ _ _ _ _ _ _ _=>rfl) rfl
def C9:List V->Option V:=λxs=>cr 2 Gd.1 (id xs)
theorem Ko (W:Wd C):fc C 1 0 "approved_candidates" 1 [] C9:=W.m362.c 2 (cx:=Mj) (Gd.2 W) (by decide+kernel) Jc
def CW:RE->RE:=qM 1 0 "approved_candidates" C9 (λp=>p.W.KP) λp=>Ko p.W
def Mb:Cx:= {vars:= [("self",0),("i",1)],globs:= [],own:= []}
def Ct:=fE Mb 0 (aJ 36 12).2.1 (sx (sR (bx (pk (Fi qo)) qv)) Xx) (aa (bz (dB aZ (dU (aR 1 2) (dV 0)) (dV 1))) af) (by kernel_rfl)
theorem GK:cj (aJ 36 12) [] 2 [] id:=pat0 (λ_ _ _ _ _ _ _ _ _ _ _ _ _ _=>rfl) rfl
def gO:List V->Option V:=λxs=>cr 0 Ct.1 (id xs)
theorem Dc (W:Wd C):fc C 1 0 "__getitem__" 2 [] gO:=W.m3612.c 0 (cx:=Mb) (Ct.2 W) (by decide+kernel) GK
def mh:RE->RE->RE:=qX 1 0 gO (λp=>p.W.KP) λp=>Dc p.W
def Ma:Cx:= {vars:= [("self",0)],globs:= ["len"],own:= []}
def Ge:=fE Ma 0 (aJ 36 1).2.1 (sx (sR (bS (pk (Cg qo)))) Xx) (aa (bz (dU aP (dU (aR 1 0) (dV 0)))) af) (by kernel_rfl)
theorem Jd:cj (aJ 36 1) [] 1 [] id:=pat0 (λ_ _ _ _ _ _ _ _ _ _ _ _ _ _=>rfl) rfl
def wj:List V->Option V:=cr 0 Ge.1
def gy (a:ED):ED:=λσ=>((a σ).bind (aS 1)).bind λy=>(wj [y]).bind λt=>match t with | .any=>W9 |t=>W8 t
theorem AS (W:Wd C){a:ED}(ho:aC C (k+2) cx po a)
 (he:∀env,PX (.Attribute po "num_cand" pos) env=(do
   let o <-PX po env
   Qb pos.atName
   let r <-Qo [o] (Up o "num_cand" true)
   QT po o r
   pure r):=by intro _;with_unfolding_all rfl):aC C (k+2) cx (.Attribute po "num_cand" pos) (gy a):=by
 obtain⟨p,f,fd,h,R⟩:=W.pr;exact xm (φ:=id) W.KP h (((R.okB (cx:=Ma) (by decide+kernel)).fun 0 (Ge.2 W)).le (QJ _)) (Jd f fd _ R) ho he
def sM (x:RE):RE:=λcx k e=>qh (β:=λk=>jE cx k e) k λk=>qh (β:=λk=>jE cx (k+1) e) k λk=>pp (β:=λe=>jE cx (k+2) e) e λv a q=>Ih v λh1=>ck (a== "num_cand") λh2=>Xp (x cx (k+2) v) λb=>W8 ⟨gy b.d,λp=>eq_of_beq h2▸AS p.W (b.h p) (uZ h1 _)⟩
def cS:Cx:= {vars:= [("candidates",0),("num_cand",1),("approved",2),("cand",3)],globs:= ["set","len","isinstance","int","all","any"],own:= [],mn:= ["num_cand"],caps:= ["num_cand"],gen:=true}
def Ix:Cx:= {vars:= [("cand",4)],globs:= [],own:= []}
def Iw:Cx:= {vars:= [("num_cand",1),("cand",5)],globs:= [],own:= [],fre:= [1]}
def Ld:=fE cS 2 (ar 2).2.1 (sx (sA (qe (q6 (vX bh)))) (sx (bX (cu (bS bh) (bS bh)) sN Xx) (sx (dL false (cN qv) t1 (sx (bX (rY (qt (pk (Iv qv)))) sN Xx) Xx)) (sx (bX (rY (qt (pk (GG (gx Ix false (cN qv) Xn eJ (qC oC qv qc)))))) sN Xx) (sx (bX (gn (cu qv qc) (gn (qt (pk (GF (gx Iw false (cN qv) Xn eJ (qC oC qv qv))))) fX)) sN Xx) (sx (sR qv) Xx)))))) (aa (ak 2 (aan (cO (dV 0)))) (aa (aE (dT (dB (λa b=>Ox (λc=>Xb !c) (fC a b)) (dU aP (dV 0)) (dU aP (dV 2)))) (λx=>W9) af) (aa (bR (cO (dV 0)) (cH 3) (aa (aE (eG (dT (dU (vc 0) (dV 3)))) (λx=>W9) af) af)) (aa (aE (eG (dT (BV (pP Ix (cO (dV 0)) (aj (bg 4) (λx=>W8 true) (aF (dB (bf λa b=>decide (b<=a)) (dV 4) (dK (Xc 0))))))))) (λx=>W9) af) (aa (aE (cw (dT (dB (λa b=>Ox (λc=>Xb !c) (qg a b)) (dV 1) (dK Xa))) (cw (dT (BU (pP Iw (cO (dV 0)) (aj (bg 5) (λx=>W8 true) (aF (dB (bf λa b=>decide (b<=a)) (dV 5) (dV 1))))))) λx=>W8 true)) (λx=>W9) af) (aa (bz (dV 2)) af)))))) (by kernel_rfl)
def Lc:=fE cS 2 (ar 2).2.1 (sx (sA (IW bh)) (sx (bX (cu (bS bh) (bS bh)) sN Xx) (sx (MI (Bv qv) (rY (qt (pk (Iv qv))))) (sx (bX (rY (qt (pk (GG (JN Ix (Bv qv) Xn eJ (qC oC qv qc)))))) sN Xx) (sx (bX (gn (cu qv qc) (gn (qt (pk (GF (JN Iw (Bv qv) Xn eJ (qC oC qv qv))))) fX)) sN Xx) (sx (sR qv) Xx)))))) (aa (ak 2 (dU wQ (dV 0))) (aa (aE (dT (dB (λa b=>Ox (λc=>Xb !c) (fC a b)) (dU aP (dV 0)) (dU aP (dV 2)))) (λx=>W9) af) (aa (pQ (pO (dV 0)) 3 (eG (dT (dU (vc 0) (dV 3))))) (aa (aE (eG (dT (BV (pP Ix (pO (dV 0)) (aj (bg 4) (λx=>W8 true) (aF (dB (bf λa b=>decide (b<=a)) (dV 4) (dK (Xc 0))))))))) (λx=>W9) af) (aa (aE (cw (dT (dB (λa b=>Ox (λc=>Xb !c) (qg a b)) (dV 1) (dK Xa))) (cw (dT (BU (pP Iw (pO (dV 0)) (aj (bg 5) (λx=>W8 true) (aF (dB (bf λa b=>decide (b<=a)) (dV 5) (dV 1))))))) λx=>W8 true)) (λx=>W9) af) (aa (bz (dV 2)) af)))))) (by kernel_rfl)
theorem Xq:cj (ar 2) [.any,.none] 1 [("num_cand":Str)] (eu .none [.any,.none] [.inl 0,.inl 1]):=gJ (λ_ _ _ _ _ _ _ _ _ _ _ _ _ _ _ _ _ _ _ _=>rfl) rfl
def Hs:List V->Option V:=λxs=>cr 4 Ld.1 (eu .none [.any,.none] [.inl 0,.inl 1] xs)
def fO:List V->Option V:=λxs=>cr 4 Lc.1 (eu .none [.any,.none] [.inl 0,.inl 1] xs)
theorem Fa (W:Wd C):bY C 2 "CandidateSet" 1 ["num_cand"] Hs:=W.f2.c 4 (cx:=cS) (Ld.2 W) (by decide+kernel) Xq
theorem E9 (W:Wd C):bY C 2 "CandidateSet" 1 ["num_cand"] fO:=W.f2.c 4 (cx:=cS) (Lc.2 W) (by decide+kernel) Xq
def g9:RL->RK->RE:=qG 2 "CandidateSet" 1 ["num_cand"] fO λp=>E9 p.W
def cV:Cx:= {vars:= [("self",0),("approved",1),("weight",2),("num_cand",3)],globs:= ["CandidateSet"],own:= []}
def Ii: {g:List V->ai->Option (List V)// ∀(W:Wd C),iI C 3 cV 2 (aJ 37 0).2.1 g}:=⟨_,λW=>pG W.KV W.a20 rfl (gZ (Fa W) (by decide) (args_cons (a8 rfl (by decide)) args_nil) (uq (a8 rfl (by decide)) fZ)) (pG W.KV W.a21 rfl (a8 rfl (by decide)) (EN (Xu:=2) W.KV (by refine ab W.nV ?_;rfl) W.a21 rfl CX))⟩
theorem Kt:An Ii.1:=by
 unfold Ii
 repeat' first |exact pU |refine j3 ?_ ?_ |refine zM ?_ |exact wv (by decide) |exact zS |refine uV ?_ ?_ |refine Cc ?_ ?_
theorem M2:cj (aJ 37 0) [.int 1,.none] 2 [("num_cand":Str)] (eu .none [.int 1,.none] [.inl 0,.inl 1,.inr 0,.inl 2]):=gJ (λ_ _ _ _ _ _ _ _ _ _ _ _ _ _ _ _ _ _ _ _=>rfl) rfl
def dy:List V->Option V:=rO 2 2 0 (eu .none [.int 1,.none] [.inl 0,.inl 1,.inr 0,.inl 2]) Ii.1
theorem B8 (W:Wd C):bY C 3 "Voter" 1 ["num_cand"] dy:=⟨_,W.gV,W.i37.call W.KV 2 0 (by refine ab W.nV ?_;rfl) (cx:=cV) (k:=3) (by intro h;cases h) (by decide+kernel) (Ii.2 W) Kt (λf fd R=>M2 f fd false R) (by intro i h;rcases OG.mp h with h |h<;>simp_all)⟩
def yY:RL->RK->RE:=qG 3 "Voter" 1 ["num_cand"] dy λp=>B8 p.W
def L8:Cx:= {vars:= [("self",0),("voter",1),("_voter",2)],globs:= ["isinstance","Voter"],own:= []}
def Gc:=fE L8 4 (aJ 36 4).2.1 (sx (bX (qt (pk (Jy qv))) sN (sx (sA (yY (Xv qv Xy) (kc (sM qv) k0))) Xx)) (sx (sR qv) Xx)) (aa (aE (dT (dU (vd 2) (dV 1))) (λx=>W9) (aa (ak 2 (aM dy (ah (dV 1) au) (ah (gy (dV 0)) au))) af)) (aa (bz (dV 2)) af)) (by kernel_rfl)
theorem Jb:cj (aJ 36 4) [] 2 [] id:=pat0 (λ_ _ _ _ _ _ _ _ _ _ _ _ _ _=>rfl) rfl
def Kc:List V->Option V:=λxs=>cr 1 Gc.1 (id xs)
theorem Km (W:Wd C):fc C 1 4 "_unique_voter" 2 [] Kc:=W.m364.c 1 (cx:=L8) (Gc.2 W) (by decide+kernel) Jb
def Mi:Cx:= {vars:= [("self",0),("voter",1)],globs:= [],own:= []}
def H2:Cx:= {vars:= [("self",0),("voters",1),("voter",2)],globs:= [],own:= []}
def Ai (C:Cf ag w)(l:OO)(k:Nat)(nm:Str)(np:Nat)(kn:List Str)(D:List V->List V->Option (List V)):Prop:= ∃f:OO,ec C 1 nm f/\ p9 C k l (vb C l) (PL f) np kn D
theorem lf {l:OO}{name:Str}{Xj:Ol}{D:List V->List V->Option (List V)}{o:ED}{a b:ai->Option (List V)}(K:bH C 1)(F:Ai C l k name ((Xj::XY).length+1) kn D)(ho:aC C (k+1) cx po o)(ha:gT C (k+1) cx (Xj::XY) a)(hb:jr C (k+1) cx kws kn b)
 (pl:Env->Sem Bool) (he:∀env,PX (.Call (.Attribute po name ap) (Xj::XY) kws pos) env=(do
   let ov <-PX po env
   Qb ap.atName
   let (f,first) <-Qo [ov] (RD ov name (pl env))
   Rq pos f first (Qr pos (OC (Xj::XY) env)) (Pz pos (OY kws env))):=by intro _;rfl)
 (Zb:∀env pos,((Qr pos (OC (Xj::XY) env)).any (·.1))=false:=by intro _ _;rfl) (X':∀env,OC (Xj::XY) env=(false,PX Xj env)::OC XY env:=by intro _;rfl)
 (hw:∀env,P8 (.Call (.Attribute po name ap) (Xj::XY) kws pos) W9 sp.line env=pure false:=by intro _;rfl):
 wz C (k+1) cx l (vb C l) (.Expr (.Call (.Attribute po name ap) (Xj::XY) kws pos) sp) (iF 1 D o a b):=by
 obtain⟨f,M,F⟩:=F;exact su m7 K M F ho ha hb pl he Zb X' hw
def Gb (l:OO): {d:List V->ai->Option (List V×ai)// ∀(W:Wd C),mO C 6 Mi l (vb C l) (aJ 36 5).2.1 d}:=⟨_,λW=>sk (fG 1 2 W.KP W.a12 (iA rfl)) (vy W.KP ((Km W).le (by decide)) (a8 rfl (by decide)) (args_cons (a8 rfl (by decide)) args_nil) fZ _)⟩
theorem Ja:cj (aJ 36 5) [] 2 [] id:=pat0 (λ_ _ _ _ _ _ _ _ _ _ _ _ _ _=>rfl) rfl
theorem I9:cj (aJ 36 6) [] 2 [] id:=pat0 (λ_ _ _ _ _ _ _ _ _ _ _ _ _ _=>rfl) rfl
def FM (l:OO)(x:List V)(xs:List V):Option (List V):=zz 0 (Gb l).1 x (id xs)
theorem Kn (W:Wd C)(l:OO):Ai C l 6 "add_voter" 2 [] (FM l):=by obtain⟨f,fd,M,_,R⟩:=W.m365;exact⟨f,M,mO.callee m7 vb.live 0 (R.okB (cx:=Mi) (by decide+kernel)) ((Gb l).2 W) (Ja f fd _ R)⟩
def Ga (l:OO): {d:List V->ai->Option (List V×ai)// ∀(W:Wd C),mO C 7 H2 l (vb C l) (aJ 36 6).2.1 d}:=⟨_,λW=>(qL m7 vb.live (lV (a8 rfl (by decide))) (dZ (i:=2) rfl (by decide) (by decide)) (lf W.KP (Kn W l) (a8 rfl (by decide)) (args_cons (a8 rfl (by decide)) args_nil) fZ _).n.h).n⟩
def BW (l:OO)(x:List V)(xs:List V):Option (List V):=zz 1 (Ga l).1 x (id xs)
theorem HV (W:Wd C)(l:OO):Ai C l 7 "add_voters" 2 [] (BW l):=by obtain⟨f,fd,M,_,R⟩:=W.m366;exact⟨f,M,mO.callee m7 vb.live 1 (R.okB (cx:=H2) (by decide+kernel)) ((Ga l).2 W) (I9 f fd _ R)⟩
def Md:Cx:= {vars:= [("self",0),("num_cand",1),("cand_names",2)],globs:= ["list","range","str"],own:= [],mn:= ["cand_names"],caps:= ["cand_names"]}
def FF:Cx:= {vars:= [("cand",3)],globs:= ["str"],own:= []}
def Ij:=LA 1 Md 0 (aJ 36 0).2.1 (hP (bX (cu qv qc) sN Xx) (JK (MO qv) (JJ (qe (gq FF false (r1 qv) (lz Xn eJ (IV bh)))) (JI (qe (cm Xy)) (hP (bX (qt bh) sN Xx) Xz))))) (dW (aE (dT (dB (bf λa b=>decide (a<=b)) (dV 1) (dK (Xc 0)))) (λx=>W9) af) (ge 0 (λσ=>Oy (dV 1 σ) Kd) (ge 1 (ba FF (aX (dK (Xc 0)) (dV 1)) (aj (bg 3) (λx=>W8 true) (aF (dU qm (dV 3))))) (ge 2 (b9 au) (dW (aE (dT (dV 2)) (λx=>W9) af) λfs x=>W8 fs))))) (by kernel_rfl)
theorem zR {i:Nat}(h:bk i d):bk i (λσ=>(d σ).bind Kd):=λa σ=>by show(d _).bind _=_;rw[h a]
theorem H6 {i:Nat}{e:ED}(h:bk i d)(h':bk i e):bk i (aX d e):=λa σ=>by unfold aX;rw[h a,h' a]
theorem zT:bk 0 (ba FF (aX (dK (.int 0)) (dV 1)) (aj (bg 3) (λ_=>W8 true) (aF (dU qm (dV 3))))):=λa σ=>by
 have hg:∀q:Option V,dx FF (aw σ 0 q)=dx FF σ:=λq=>by simp[dx,FF,aU]
 have hf:∀q:Option V,aj (bg 3) (λ_=>W8 true) (aF (dU qm (dV 3))) (aw σ 0 q)=aj (bg 3) (λ_=>W8 true) (aF (dU qm (dV 3))) σ:=λq=>by
  funext x;unfold aj bg nb;refine ab (aU (by decide)) ?_;cases aK σ 3 with
  |some _=>rfl
  |none=>show((aF (dU qm (dV 3)) (aw (aw σ 0 q) 3 (W8 x))))=aF (dU qm (dV 3)) (aw σ 3 (W8 x));refine ab (cb (by decide)) ?_;unfold aF dU dV;exact ab (aU (by decide)) rfl
 unfold ba dX;rw[hg,hg,hf,hf,H6 Cd (wv (by decide)) a]
theorem Ku:An Ij.1:=by
 unfold Ij
 repeat' first |exact zT |exact zR (wv (by decide)) |exact pU |refine rR ?_ ?_ |refine j3 ?_ ?_ |exact rS |exact rT |refine uU ?_ ?_ ?_ |exact wv (by decide) |exact Cd |refine Fh ?_ ?_ |refine H7 ?_ |exact λ_ _=>rfl
theorem M3:cj (aJ 36 0) [.none] 2 [] (eu .none [.none] [.inl 0,.inl 1,.inr 0]):=gJ (λ_ _ _ _ _ _ _ _ _ _ _ _ _ _ _ _ _ _ _ _=>rfl) rfl
def mC:List V->Option V:=rO 1 3 1 (eu .none [.none] [.inl 0,.inl 1,.inr 0]) Ij.1
theorem wo (W:Wd C):cM C k (.ref (C.cls.adr 1)) 1 [] mC:=(W.i36.call W.KP 3 1 (by refine ab W.nP ?_;rfl) (cx:=Md) (k:=0) (by intro h;cases h) (by decide+kernel) (Ij.2 W) Ku (λf fd R=>M3 f fd false R) (by intro i h;rcases OG.mp h with h |h<;>simp_all)).le (QJ _)
def cJ:Cx:= {vars:= [("profile",0),("committee",1),("quota",2),("cand",3),("group",4),("group_weight",5),("vi",6),("voter",7),("detailed_information",8)],globs:= ["set","enumerate","len","Fraction"],own:= []}
def Lq:=fE cJ 5 (ar 16).2.1 (sx (dL false (cN (Cg qo)) t1 (sy [4] (sF 4 xU) (sx (sA qc) (sx (dL true (nZ qv) t2 (sx (bX (gn (rZ qv (pk (kG qo))) (gn (cu (bS (pk (qb (kG qo) qv))) qc) fX)) (sx (IS qv) (sx (DG (ww qo)) Xx)) Xx) Xx)) (sx (bX (Fy Jo (mj (Xv qv Xy) k0) qv) (sx (sA (qd (wc qo (wc bh w0)))) (sx (sR (ef (Xv qc (Xv qv Xy)))) Xx)) Xx) Xx))))) (sx (sA GD) (sx (sR (ef (Xv qc (Xv qv Xy)))) Xx))) (aa (bR (cO (dU (aR 1 0) (dV 0))) (cH 3) (aa (ak 4 (dK (Xg (az 0)))) (aa (ak 5 (dK (Xc 0))) (aa (bR (dO 1 2 (dV 0)) (eH 6 7) (aa (aE (cw (dT (dB (λa b=>Ox Xb (fw a b)) (dV 3) (dU (aR 2 0) (dV 7)))) (cw (dT (dB (λa b=>Ox Xb (fC a b)) (dU aP (dB bW (dU (aR 2 0) (dV 7)) (dV 1))) (dK (Xc 0)))) λx=>W8 true)) (aa (wm 4 (dV 6)) (aa (tm 5 (dU (aR 2 1) (dV 7))) af)) af) af)) (aa (aE (dT (dB (cA eW) (aM aao (ah (dV 2) au) au) (dV 5))) (aa (ak 8 λσ=>if(PV (dV 4 σ)&&(PV (dV 3 σ)&&true))=true then W8 Xh else W9) (aa (bz (dj (ah (dK (Xb false)) (ah (dV 8) au)))) af)) af) af))))) (aa (ak 8 (dK Xh)) (aa (bz (dj (ah (dK (Xb true)) (ah (dV 8) au)))) af))) (by kernel_rfl)
theorem Nk:cj (ar 16) [] 2 [("quota":Str)] id:=pat0 (λ_ _ _ _ _ _ _ _ _ _ _ _ _ _=>rfl) rfl
def FS:List V->Option V:=λxs=>cr 6 Lq.1 (id xs)
theorem N2 (W:Wd C):bY C 5 "_check_JR" 2 ["quota"] FS:=W.f16.c 6 (cx:=cJ) (Lq.2 W) (by decide+kernel) Nk
def J3:RL->RK->RE:=qG 5 "_check_JR" 2 ["quota"] FS λp=>N2 p.W
def cE:Cx:= {vars:= [("profile",0),("committee",1),("quota",2),("ell_upper_bound",3),("ell",4),("voters_less_than_ell_approved_candidates",5),("voters_less_than_ell_approved_candidates_weight",6),("min_group_size",7),("i",8),("voter",9),("combination",10),("cut",11),("vi",12),("detailed_information",13)],globs:= ["Fraction","range","enumerate","len","combinations","set"],own:= []}
def Lp:=fE cE 5 (ar 18).2.1 (sx (sA (je (eS (Xv (ik qv) (Xv qv Xy)) k0))) (sx (dL false (r2 qc (qb qv qc)) t1 (sy [5] (sF 5 (cm Xy)) (sx (sA qc) (sx (sA (uB (qB oF (mj (Xv qv Xy) k0) qv))) (sx (dL true (nZ qv) t2 (sx (bX (cu (bS (pk (qb (kG qo) qv))) qv) (sx (xJ qv) (sx (DG (ww qo)) Xx)) Xx) Xx)) (sx (bX (cu qv qv) (sx sC Xx) Xx) (xz [] (sx (dL false (cN (pF (Xv qv (Xv qv Xy)) k0)) t1 (sx (sA (qe (q6 (vX (pk (Cg qo)))))) (sx (dL false (cN qv) t1 (sx (sA (qb qv (kG (pk (mh qv qv))))) Xx)) (sx (bX (cu (bS bh) qv) (sx (sA (qd (wc bh (wc bh (wc bh w0))))) (sx (sR (ef (Xv qc (Xv qv Xy)))) Xx)) Xx) Xx)))) Xx)))))))) (sx (sA GD) (sx (sR (ef (Xv qc (Xv qv Xy)))) Xx)))) (aa (ak 3 λσ=>Oy (Oy (aM eV (ah (λσ=>Oy (Oy (dV 0 σ) (aS 1)) λy=>oo [y]) (ah (dV 2) au)) au σ) (aS 0)) λy=>d6 [y]) (aa (bR (aX (dK (Xc 1)) (dB bJ (dV 3) (dK (Xc 1)))) (cH 4) (aa (ak 5 (b9 au)) (aa (ak 6 (dK (Xc 0))) (aa (ak 7 λσ=>Oy (Oy (dB (cA dA) (aM aao (ah (dV 2) au) au) (dV 4) σ) (aS 0)) λy=>ky [y]) (aa (bR (dO 1 2 (dV 0)) (eH 8 9) (aa (aE (dT (dB (bf λa b=>decide (a<b)) (dU aP (dB bW (dU (aR 2 0) (dV 9)) (dV 1))) (dV 4))) (aa (pR 5 (dV 8)) (aa (tm 6 (dU (aR 2 1) (dV 9))) af)) af) af)) (aa (aE (dT (dB (bf λa b=>decide (a<b)) (dV 6) (dV 7))) (aa iq af) af) (aa (bR (cO (aM gz (ah (dV 5) (ah (dV 7) au)) au)) (cH 10) (aa (ak 11 (aan (cO (dU (aR 1 0) (dV 0))))) (aa (bR (cO (dV 10)) (cH 12) (aa (ak 11 (dB bW (dV 11) (dU (aR 2 0) λσ=>Oy (Oy (dV 0 σ) (aS 1)) λx=>Oy (dV 12 σ) λy=>gO [x,y]))) af)) (aa (aE (dT (dB (bf λa b=>decide (b<=a)) (dU aP (dV 11)) (dV 4))) (aa (ak 13 λσ=>if(PV (dV 5 σ)&&(PV (dV 4 σ)&&(PV (dV 11 σ)&&true)))=true then W8 Xh else W9) (aa (bz (dj (ah (dK (Xb false)) (ah (dV 13) au)))) af)) af) af)))) af))))))) (aa (ak 13 (dK Xh)) (aa (bz (dj (ah (dK (Xb true)) (ah (dV 13) au)))) af)))) (by kernel_rfl)
theorem Nj:cj (ar 18) [] 3 [] id:=pat0 (λ_ _ _ _ _ _ _ _ _ _ _ _ _ _=>rfl) rfl
def FR:List V->Option V:=λxs=>cr 11 Lp.1 (id xs)
theorem N1 (W:Wd C):bY C 5 "_check_EJR_brute_force" 3 [] FR:=W.f18.c 11 (cx:=cE) (Lp.2 W) (by decide+kernel) Nj
def J2:RL->RK->RE:=qG 5 "_check_EJR_brute_force" 3 [] FR λp=>N1 p.W
def Mc:Cx:= {vars:= [("profile",0),("committee",1),("quota",2),("ell_upper_bound",3),("ell",4),("voters_less_than_ell_approved_candidates",5),("voters_less_than_ell_approved_candidates_weight",6),("min_group_size",7),("vi",8),("voter",9),("group",10),("cut",11),("j",12),("approved_cands_union",13),("detailed_information",14)],globs:= ["Fraction","range","enumerate","len","combinations","set"],own:= []}
def Lo:=fE Mc 5 (ar 19).2.1 (sx (sA (je (eS (Xv (ik qv) (Xv qv Xy)) k0))) (sx (dL false (r2 qc (qb qv qc)) t1 (sy [5] (sF 5 (cm Xy)) (sx (sA qc) (sx (sA (uB (qB oF (mj (Xv qv Xy) k0) qv))) (sx (dL true (nZ qv) t2 (sx (bX (cu (bS (pk (qb (kG qo) qv))) qv) (sx (xJ qv) (sx (DG (ww qo)) Xx)) Xx) Xx)) (sx (bX (cu qv qv) (sx sC Xx) Xx) (xz [] (sx (dL false (cN (pF (Xv qv (Xv qv Xy)) k0)) t1 (sx (sA (qe (q6 (vX (pk (Cg qo)))))) (sx (dL false (cN qv) t1 (sx (sA (qb qv (kG (pk (mh qv qv))))) Xx)) (sx (bX (cu (bS bh) qv) (sx (sA (qe xU)) (sx (dL false (cN qv) t1 (sx (sA (MN bh (kG (pk (mh qv qv))))) Xx)) (sx (bX (cu (bS (pk (qb qv qv))) qv) (sx (sA (qd (wc bh (wc bh (wc bh w0))))) (sx (sR (ef (Xv qc (Xv qv Xy)))) Xx)) Xx) Xx))) Xx) Xx)))) Xx)))))))) (sx (sA GD) (sx (sR (ef (Xv qc (Xv qv Xy)))) Xx)))) (aa (ak 3 λσ=>Oy (Oy (aM eV (ah (λσ=>Oy (Oy (dV 0 σ) (aS 1)) λy=>oo [y]) (ah (dV 2) au)) au σ) (aS 0)) λy=>d6 [y]) (aa (bR (aX (dK (Xc 1)) (dB bJ (dV 3) (dK (Xc 1)))) (cH 4) (aa (ak 5 (b9 au)) (aa (ak 6 (dK (Xc 0))) (aa (ak 7 λσ=>Oy (Oy (dB (cA dA) (aM aao (ah (dV 2) au) au) (dV 4) σ) (aS 0)) λy=>ky [y]) (aa (bR (dO 1 2 (dV 0)) (eH 8 9) (aa (aE (dT (dB (bf λa b=>decide (a<b)) (dU aP (dB bW (dU (aR 2 0) (dV 9)) (dV 1))) (dV 4))) (aa (pR 5 (dV 8)) (aa (tm 6 (dU (aR 2 1) (dV 9))) af)) af) af)) (aa (aE (dT (dB (bf λa b=>decide (a<b)) (dV 6) (dV 7))) (aa iq af) af) (aa (bR (cO (aM gz (ah (dV 5) (ah (dV 7) au)) au)) (cH 10) (aa (ak 11 (aan (cO (dU (aR 1 0) (dV 0))))) (aa (bR (cO (dV 10)) (cH 12) (aa (ak 11 (dB bW (dV 11) (dU (aR 2 0) λσ=>Oy (Oy (dV 0 σ) (aS 1)) λx=>Oy (dV 12 σ) λy=>gO [x,y]))) af)) (aa (aE (dT (dB (bf λa b=>decide (b<=a)) (dU aP (dV 11)) (dV 4))) (aa (ak 13 (dK (Xg (az 0)))) (aa (bR (cO (dV 10)) (cH 12) (aa (ak 13 (dB eF (dV 13) (dU (aR 2 0) λσ=>Oy (Oy (dV 0 σ) (aS 1)) λx=>Oy (dV 12 σ) λy=>gO [x,y]))) af)) (aa (aE (dT (dB (bf λa b=>decide (a<b)) (dU aP (dB bW (dV 13) (dV 1))) (dV 4))) (aa (ak 14 λσ=>if(PV (dV 5 σ)&&(PV (dV 4 σ)&&(PV (dV 11 σ)&&true)))=true then W8 Xh else W9) (aa (bz (dj (ah (dK (Xb false)) (ah (dV 14) au)))) af)) af) af))) af) af)))) af))))))) (aa (ak 14 (dK Xh)) (aa (bz (dj (ah (dK (Xb true)) (ah (dV 14) au)))) af)))) (by kernel_rfl)
theorem Ni:cj (ar 19) [] 3 [] id:=pat0 (λ_ _ _ _ _ _ _ _ _ _ _ _ _ _=>rfl) rfl
def FQ:List V->Option V:=λxs=>cr 12 Lo.1 (id xs)
theorem N0 (W:Wd C):bY C 5 "_check_PJR_brute_force" 3 [] FQ:=W.f19.c 12 (cx:=Mc) (Lo.2 W) (by decide+kernel) Ni
def J1:RL->RK->RE:=qG 5 "_check_PJR_brute_force" 3 [] FQ λp=>N0 p.W
def Mf:Cx:= {vars:= [("profile",0),("committee",1),("quota",2),("max_num_of_candidates",3),("cands",4),("set_of_voters",5),("detailed_information",6)],globs:= ["Fraction","powerset","sorted","set","enumerate","len","total"],own:= [],mn:= ["profile","committee","cands"],caps:= ["profile","committee","cands"],gen:=true}
def By:Cx:= {vars:= [("committee",1),("cands",4),("vi",7),("voter",8)],globs:= ["len"],own:= [],fre:= [1,4]}
def EH:Cx:= {vars:= [("profile",0),("vi",9)],globs:= [],own:= [],fre:= [0]}
def Li:=fE Mf 5 (ar 25).2.1 (sx (sA (je (eS (Xv (ik qv) (Xv qv Xy)) k0))) (sx (dL false (cN (uz (Xv (xR (pk (CW qv))) Xy) (kc qv k0))) t1 (sx (sA (qe (q6 (vX bh)))) (sx (mY By true (nZ qv) (lz Xo (CC (cu (bS (pk (qb (kG qo) qv))) (bS (pk (qb (kG qo) qv))))) qv)) (sx (bX (rY (qt bh)) (sx sC Xx) Xx) (sx (bX (Fy Jo (qB oF (mj (Xv qv Xy) k0) (bS bh)) (DN (gx EH false (cN qv) Xn eJ (ww (pk (mh qv qv)))))) (sx (sA (qd (wc bh (wc bh w0)))) (sx (sR (ef (Xv qc (Xv qv Xy)))) Xx)) Xx) Xx))))) (sx (sA GD) (sx (sR (ef (Xv qc (Xv qv Xy)))) Xx)))) (aa (ak 3 λσ=>Oy (Oy (aM eV (ah (λσ=>Oy (Oy (dV 0 σ) (aS 1)) λy=>oo [y]) (ah (dV 2) au)) au σ) (aS 0)) λy=>d6 [y]) (aa (bR (cO (aM ip (ah (dU ix λσ=>Oy (Oy (dV 0 σ) (aS 1)) λy=>C9 [y]) au) (ah (dV 3) au))) (cH 4) (aa (ak 4 (aan (cO (dV 4)))) (aa (ak 5 (ba By (dO 1 2 (dV 0)) (aj (iz 7 8) (dT (dB (bf λa b=>decide (b<a)) (dU aP (dB bW (dU (aR 2 0) (dV 8)) (dV 4))) (dU aP (dB bW (dU (aR 2 0) (dV 8)) (dV 1))))) (aF (dV 7))))) (aa (aE (eG (dT (dV 5))) (aa iq af) af) (aa (aE (dT (dB (cA eW) (dB (cA dA) (aM aao (ah (dV 2) au) au) (dU aP (dV 4))) λσ=>Oy (pP EH (cO (dV 5)) (aj (bg 9) (λx=>W8 true) (aF (dU (aR 2 1) λσ=>Oy (Oy (dV 0 σ) (aS 1)) λx=>Oy (dV 9 σ) λy=>gO [x,y]))) σ) cW)) (aa (ak 6 λσ=>if(PV (dV 5 σ)&&(PV (dV 4 σ)&&true))=true then W8 Xh else W9) (aa (bz (dj (ah (dK (Xb false)) (ah (dV 6) au)))) af)) af) af))))) (aa (ak 6 (dK Xh)) (aa (bz (dj (ah (dK (Xb true)) (ah (dV 6) au)))) af)))) (by kernel_rfl)
theorem Nb:cj (ar 25) [] 3 [] id:=pat0 (λ_ _ _ _ _ _ _ _ _ _ _ _ _ _=>rfl) rfl
def FN:List V->Option V:=λxs=>cr 7 Li.1 (id xs)
theorem NU (W:Wd C):bY C 5 "_check_core_brute_force" 3 [] FN:=W.f25.c 7 (cx:=Mf) (Li.2 W) (by decide+kernel) Nb
def JV:RL->RK->RE:=qG 5 "_check_core_brute_force" 3 [] FN λp=>NU p.W
def Me:Cx:= {vars:= [("profile",0),("committee",1),("quota",2),("set_upper_bound",3),("committee_utility_at_most",4),("T",5),("T_utility_at_least",6),("beta",7),("cohesive_group",8),("detailed_information",9)],globs:= ["Fraction","range","powerset","sorted","set","len","total"],own:= [],mn:= ["profile","committee","T"],caps:= ["profile","committee","T"],gen:=true}
def JG:Cx:= {vars:= [("profile",0),("committee",1),("utility",10)],globs:= ["set","enumerate"],own:= [],fre:= [0,1],mn:= ["utility"],caps:= ["profile","committee","utility"],gen:=true}
def JF:Cx:= {vars:= [("committee",1),("utility",10),("vi",11),("voter",12)],globs:= ["len"],own:= [],fre:= [1,10]}
def JE:Cx:= {vars:= [("profile",0),("T",5),("utility",10)],globs:= ["set","enumerate"],own:= [],fre:= [0,5],mn:= ["utility"],caps:= ["profile","T","utility"],gen:=true}
def JD:Cx:= {vars:= [("T",5),("utility",10),("vi",11),("voter",12)],globs:= ["len"],own:= [],fre:= [5,10]}
def JC:Cx:= {vars:= [("profile",0),("vi",13)],globs:= [],own:= [],fre:= [0]}
def Lk:=fE Me 5 (ar 23).2.1 (sx (sA (je (eS (Xv (ik qv) (Xv qv Xy)) k0))) (sx (Lx JG false (r1 (qb qv qc)) Xn eJ qv (qe (q6 (gx JF true (nZ qv) Xo (CC (cu (bS (pk (qb (kG qo) qv))) qv)) qv)))) (sx (dL false (cN (uz (Xv (xR (pk (CW qv))) Xy) (kc qv k0))) t1 (sx (sA (qe (q6 (vX bh)))) (sx (Lx JE false (r1 (qb (bS bh) qc)) Xn eJ qv (qe (q6 (gx JD true (nZ qv) Xo (CC (cu (bS (pk (qb (kG qo) qv))) qv)) qv)))) (sx (dL false (r2 qc (qb (bS bh) qc)) t1 (sx (sA (qb (bx bh qv) (bx bh (qb qv qc)))) (sx (bX (Fy Jo (qB oF (mj (Xv qv Xy) k0) (bS bh)) (DN (JN JC (Bv qv) Xn eJ (ww (pk (mh qv qv)))))) (sx (sA (qd (wc (pk (bS bh)) (wc bh (wc bh (wc bh w0)))))) (sx (sR (ef (Xv qc (Xv qv Xy)))) Xx)) Xx) Xx))) Xx)))) (sx (sA GD) (sx (sR (ef (Xv qc (Xv qv Xy)))) Xx))))) (aa (ak 3 λσ=>Oy (Oy (aM eV (ah (λσ=>Oy (Oy (dV 0 σ) (aS 1)) λy=>oo [y]) (ah (dV 2) au)) au σ) (aS 0)) λy=>d6 [y]) (aa (ak 4 (dX cU JG (aX (dK (Xc 0)) (dB bJ (dV 3) (dK (Xc 1)))) (aj (bg 10) (λx=>W8 true) (gf (dV 10) (aan (pP JF (dO 1 2 (dV 0)) (aj (iz 11 12) (dT (dB (bf λa b=>decide (a<=b)) (dU aP (dB bW (dU (aR 2 0) (dV 12)) (dV 1))) (dV 10))) (aF (dV 11))))))))) (aa (bR (cO (aM ip (ah (dU ix λσ=>Oy (Oy (dV 0 σ) (aS 1)) λy=>C9 [y]) au) (ah (dV 3) au))) (cH 5) (aa (ak 5 (aan (cO (dV 5)))) (aa (ak 6 (dX cU JE (aX (dK (Xc 0)) (dB bJ (dU aP (dV 5)) (dK (Xc 1)))) (aj (bg 10) (λx=>W8 true) (gf (dV 10) (aan (pP JD (dO 1 2 (dV 0)) (aj (iz 11 12) (dT (dB (bf λa b=>decide (b<=a)) (dU aP (dB bW (dU (aR 2 0) (dV 12)) (dV 5))) (dV 10))) (aF (dV 11))))))))) (aa (bR (aX (dK (Xc 1)) (dB bJ (dU aP (dV 5)) (dK (Xc 1)))) (cH 7) (aa (ak 8 (dB bW (dB aZ (dV 6) (dV 7)) (dB aZ (dV 4) (dB iw (dV 7) (dK (Xc 1)))))) (aa (aE (dT (dB (cA eW) (dB (cA dA) (aM aao (ah (dV 2) au) au) (dU aP (dV 5))) λσ=>Oy (pP JC (pO (dV 8)) (aj (bg 13) (λx=>W8 true) (aF (dU (aR 2 1) λσ=>Oy (Oy (dV 0 σ) (aS 1)) λx=>Oy (dV 13 σ) λy=>gO [x,y]))) σ) cW)) (aa (ak 9 λσ=>if(PV (dU aP (dV 5) σ)&&(PV (dV 7 σ)&&(PV (dV 5 σ)&&(PV (dV 8 σ)&&true))))=true then W8 Xh else W9) (aa (bz (dj (ah (dK (Xb false)) (ah (dV 9) au)))) af)) af) af))) af)))) (aa (ak 9 (dK Xh)) (aa (bz (dj (ah (dK (Xb true)) (ah (dV 9) au)))) af))))) (by kernel_rfl)
theorem Nd:cj (ar 23) [] 3 [] id:=pat0 (λ_ _ _ _ _ _ _ _ _ _ _ _ _ _=>rfl) rfl
def FO:List V->Option V:=λxs=>cr 11 Lk.1 (id xs)
theorem NW (W:Wd C):bY C 5 "_check_FJR_brute_force" 3 [] FO:=W.f23.c 11 (cx:=Me) (Lk.2 W) (by decide+kernel) Nd
def JX:RL->RK->RE:=qG 5 "_check_FJR_brute_force" 3 [] FO λp=>NW p.W
def Kr:Cx:= {vars:= [("profile",0),("committee",1),("quota",2),("cand",3),("supporters_by_utility",4),("vi",5),("voter",6),("utility",7),("ell_upper_bound",8),("group",9),("ell",10),("detailed_information",11)],globs:= ["enumerate","len","set","Fraction","range","total"],own:= [],mn:= ["profile"],caps:= ["profile"],gen:=true}
def Kq:Cx:= {Kr with own:= [9]}
def LO:Cx:= {vars:= [("profile",0),("vi",12)],globs:= [],own:= [],fre:= [0]}
def Lm: {d:SD// ∀(W:Wd C),bG C 5 Kr [] (ar 21).2.1 [] d}:=⟨_,λW=>(b4 (oZ (lV (fG 1 0 W.KP W.a10 (iA rfl))) (dZ (i:=3) rfl (by decide) (by decide)) (b4 (kM (jD (a8 rfl (by decide)) (a8 rfl (by decide)).peek yf) (b4 (qO (by decide)) fm) fm) (DB W.B (is:=4) rfl (by decide) (by decide) (lX W (a8 rfl (by decide)) (by decide)) (oR (i:=5) (j:=6) rfl (by decide) (by decide) rfl (by decide) (by decide))
 (λD=>BO (is:=4) (iu:=7) (iv:=5) ⟨rfl,by decide,rfl,by decide,rfl,by decide⟩ (by decide) rfl (by decide) (by decide) rfl (jD (a8 rfl (by decide)) (aC.peek (fG 2 0 W.KV W.a20 (iA rfl))) yf) (nq (aC.peek (fq (fG 2 0 W.KV W.a20 (iA rfl)) (a8 rfl (by decide)) yh)) yd (by decide)) (λ_=>rfl) rfl)
 (BP (λa σ=>by unfold dO dV;exact ab (aU (by decide)) (ab (aU (by decide)) rfl)) (λa σ=>by unfold dT dB dU dV;exact ab (aU (by decide)) (ab (aU (by decide)) (ab (aU (by decide)) (ab (aU (by decide)) rfl)))) (λa σ=>by unfold dU dB dV;dsimp only;exact ab (aU (by decide)) (ab (aU (by decide)) (ab (aU (by decide)) (ab (aU (by decide)) rfl)))) rfl rfl (oA (by decide) (by decide))) (b4 (aam (i:=8) rfl (by decide) (by decide) (iB W.KF ((uR W).le (by decide)) (gZ ((Dd W).le (by decide)) (by decide) (args_cons (iB W.KP ((HU W).le (by decide)) (a8 rfl (by decide)) _) (args_cons (a8 rfl (by decide)) args_nil)) fZ) _)) (qH (cx':=Kq) rfl (ke (i:=9) rfl (by decide) (by decide) (oX (by decide))) (b4 (oZ (kt gY (fq (a8 rfl (by decide)) gY pj) (by decide)) (dZ (i:=10) rfl (by decide) (by decide)) (b4 (AW rfl (by decide) (by decide) (xu (a8 rfl (by decide)) (fq (a8 rfl (by decide)) gY xZ) (oX (by decide)).e)) (b4 (kM (qI (fq (gZ ((De W).le (by decide)) (by decide) (args_cons (a8 rfl (by decide)) args_nil) fZ) (a8 rfl (by decide)) (uc W)) (k9 W (q:=⟨0,0,0,0⟩) (pC W.B LO (by decide+kernel) ⟨rfl,rfl,rfl⟩ rfl (by decide+kernel) (by decide+kernel) (vR (iA rfl)) (w7 (i:=12) rfl (by decide) (by decide)) up1 ng (fG 2 1 W.KV W.a21 (aC.peek (qJ W.KP ((Dc W).le (by decide)) (a8 rfl (by decide)) (a8 rfl (by decide))))) nG) (λ_ _ h=>h) (by decide)) (yg W)) (b4 (aam (i:=11) rfl (by decide) (by decide) (kb (fT.cons (iA rfl) (fT.cons (aC.peek (a8 rfl (by decide))) (fT.cons (aC.peek (a8 rfl (by decide))) fT.nil))))) (b4 (kK (oV (args_cons lg (args_cons (a8 rfl (by decide)) args_nil)))) (iV (by decide)))) fm) fm))) (iV (by decide)))))))) (b4 (aam (i:=11) rfl (by decide) (by decide) nk) (b4 (kK (O':= []) (oV (args_cons lg (args_cons (a8 rfl (by decide)) args_nil)))) (iV (by decide)))))⟩
theorem Ng:cj (ar 21) [] 3 [] id:=pat0 (λ_ _ _ _ _ _ _ _ _ _ _ _ _ _=>rfl) rfl
def FP:List V->Option V:=λxs=>cr 10 Lm.1 (id xs)
theorem NY (W:Wd C):bY C 5 "_check_EJR_plus" 3 [] FP:=W.f21.c 10 (cx:=Kr) (Lm.2 W) (by decide+kernel) Ng
def JZ:RL->RK->RE:=qG 5 "_check_EJR_plus" 3 [] FP λp=>NY p.W
def aaf (i:Nat)(s:String):ai->Option Bool:=dT (dB (λa b=>Ox Xb (fC a b)) (dV i) (dK (aT s)))
def dQ:ED:=aM eV (ah (λσ=>((dV 0 σ).bind (aS 1)).bind λy=>oo [y]) (ah (dU aP (dV 1)) au)) au
def dM:ED:=aM fO (ah (dV 1) au) (ah (gy (dV 0)) au)
def hdW (i:Nat)(R:SD):SD:=aa (aE (dT (dB (λa b=>Ox Xb (qg a b)) (dV 2) (dK Xa))) (aa (ak i (dK (Xb true))) (aa (ak 2 dQ) af)) λx=>W9) (aa (ak 1 dM) R)
def wrA (e:ED):SD:=hdW 3 (aa (bE e (eH 4 5)) (aa (bz (dV 4)) af))
def wrB (D:List V->Option V):SD:=hdW 4 (aa (aE (aaf 3 "fastest") (λx=>W9) af) (aa (aE (aaf 3 "brute-force") (aa (bE (aM D (ah (dV 0) (ah (dV 1) (ah (dV 2) au))) au) (eH 5 6)) af) λx=>W9) (aa (bz (dV 5)) af)))
def hdS (r:r5):r5:=sx (bX (cu qv qc) (sx (sA qc) (sx (sA (eS (Xv (ik qv) (Xv (bS bh) Xy)) k0)) Xx)) sN) (sx (sA (g9 (Xv qv Xy) (kc (sM qv) k0))) r)
def scA (e:RE):r5:=hdS (sx (Fw e t2) (sx (sR qv) Xx))
def scB (g:RL->RK->RE):r5:=hdS (sx (bX (cu qv qc) sN Xx) (sx (bX (cu qv qc) (sx (Fw (g (Xv qv (Xv qv (Xv qv Xy))) k0) t2) Xx) sN) (sx (sR qv) Xx)))
def cWA (g:Str):Cx:= {vars:= [("profile",0),("committee",1),("quota",2),("standard_quota",3),("result",4),("detailed_information",5)],globs:= ["Fraction","len","CandidateSet",g],own:= []}
def cWB (g:Str):Cx:= {vars:= [("profile",0),("committee",1),("quota",2),("algorithm",3),("standard_quota",4),("result",5),("detailed_information",6)],globs:= ["Fraction","len","CandidateSet",g],own:= []}
def dWA (u:SD):List V->Option V:=λxs=>cr 3 u (eu .none [.none] [.inl 0,.inl 1,.inl 2] xs)
def dWB (u:SD):List V->Option V:=λxs=>cr 3 u (eu .none [.none,.any] [.inl 0,.inl 1,.inl 2,.inl 3] xs)
def Lr:=fE (cWA "_check_JR") 6 (ar 15).2.1 (scA (J3 (Xv qv (Xv qv Xy)) (kc qv k0))) (wrA (aM FS (ah (dV 0) (ah (dV 1) au)) (ah (dV 2) au))) (by kernel_rfl)
theorem Nl:cj (ar 15) [.none] 2 [("quota":Str)] (eu .none [.none] [.inl 0,.inl 1,.inl 2]):=gJ (λ_ _ _ _ _ _ _ _ _ _ _ _ _ _ _ _ _ _ _ _=>rfl) rfl
def Hx:List V->Option V:=dWA Lr.1
theorem N3 (W:Wd C):bY C 6 "check_JR" 2 ["quota"] Hx:=W.f15.c 3 (cx:=cWA "_check_JR") (Lr.2 W) (by decide+kernel) Nl
def J4:RL->RK->RE:=qG 6 "check_JR" 2 ["quota"] Hx λp=>N3 p.W
def Lu:=fE (cWB "_check_EJR_brute_force") 6 (ar 13).2.1 (scB J2) (wrB FR) (by kernel_rfl)
theorem Nn:cj (ar 13) [.none,.any] 2 [("quota":Str),("algorithm":Str)] (eu .none [.none,.any] [.inl 0,.inl 1,.inl 2,.inl 3]):=gJ (λ_ _ _ _ _ _ _ _ _ _ _ _ _ _ _ _ _ _ _ _=>rfl) rfl
def Hz:List V->Option V:=dWB Lu.1
theorem N5 (W:Wd C):bY C 6 "check_EJR" 2 ["quota","algorithm"] Hz:=W.f13.c 3 (cx:=cWB "_check_EJR_brute_force") (Lu.2 W) (by decide+kernel) Nn
def J6:RL->RK->RE:=qG 6 "check_EJR" 2 ["quota","algorithm"] Hz λp=>N5 p.W
def Ls:=fE (cWB "_check_PJR_brute_force") 6 (ar 14).2.1 (scB J1) (wrB FQ) (by kernel_rfl)
theorem Nm:cj (ar 14) [.none,.any] 2 [("quota":Str),("algorithm":Str)] (eu .none [.none,.any] [.inl 0,.inl 1,.inl 2,.inl 3]):=gJ (λ_ _ _ _ _ _ _ _ _ _ _ _ _ _ _ _ _ _ _ _=>rfl) rfl
def Hy:List V->Option V:=dWB Ls.1
theorem N4 (W:Wd C):bY C 6 "check_PJR" 2 ["quota","algorithm"] Hy:=W.f14.c 3 (cx:=cWB "_check_PJR_brute_force") (Ls.2 W) (by decide+kernel) Nm
def J5:RL->RK->RE:=qG 6 "check_PJR" 2 ["quota","algorithm"] Hy λp=>N4 p.W
def Ln:=fE (cWA "_check_EJR_plus") 6 (ar 20).2.1 (scA (JZ (Xv qv (Xv qv (Xv qv Xy))) k0)) (wrA (aM FP (ah (dV 0) (ah (dV 1) (ah (dV 2) au))) au)) (by kernel_rfl)
theorem Nh:cj (ar 20) [.none] 2 [("quota":Str)] (eu .none [.none] [.inl 0,.inl 1,.inl 2]):=gJ (λ_ _ _ _ _ _ _ _ _ _ _ _ _ _ _ _ _ _ _ _=>rfl) rfl
def Hw:List V->Option V:=dWA Ln.1
theorem NZ (W:Wd C):bY C 6 "check_EJR_plus" 2 ["quota"] Hw:=W.f20.c 3 (cx:=cWA "_check_EJR_plus") (Ln.2 W) (by decide+kernel) Nh
def J0:RL->RK->RE:=qG 6 "check_EJR_plus" 2 ["quota"] Hw λp=>NZ p.W
def Ll:=fE (cWB "_check_FJR_brute_force") 6 (ar 22).2.1 (scB JX) (wrB FO) (by kernel_rfl)
theorem Nf:cj (ar 22) [.none,.any] 2 [("quota":Str),("algorithm":Str)] (eu .none [.none,.any] [.inl 0,.inl 1,.inl 2,.inl 3]):=gJ (λ_ _ _ _ _ _ _ _ _ _ _ _ _ _ _ _ _ _ _ _=>rfl) rfl
def Hv:List V->Option V:=dWB Ll.1
theorem NX (W:Wd C):bY C 6 "check_FJR" 2 ["quota","algorithm"] Hv:=W.f22.c 3 (cx:=cWB "_check_FJR_brute_force") (Ll.2 W) (by decide+kernel) Nf
def JY:RL->RK->RE:=qG 6 "check_FJR" 2 ["quota","algorithm"] Hv λp=>NX p.W
def Lj:=fE (cWB "_check_core_brute_force") 6 (ar 24).2.1 (scB JV) (wrB FN) (by kernel_rfl)
theorem Nc:cj (ar 24) [.none,.any] 2 [("quota":Str),("algorithm":Str)] (eu .none [.none,.any] [.inl 0,.inl 1,.inl 2,.inl 3]):=gJ (λ_ _ _ _ _ _ _ _ _ _ _ _ _ _ _ _ _ _ _ _=>rfl) rfl
def Hu:List V->Option V:=dWB Lj.1
theorem NV (W:Wd C):bY C 6 "check_core" 2 ["quota","algorithm"] Hu:=W.f24.c 3 (cx:=cWB "_check_core_brute_force") (Lj.2 W) (by decide+kernel) Nc
def JW:RL->RK->RE:=qG 6 "check_core" 2 ["quota","algorithm"] Hu λp=>NV p.W
def Mh:Cx:= {vars:= [("property_name",0),("profile",1),("committee",2),("quota",3),("algorithm",4)],globs:= ["PROPERTY_NAMES","check_JR","check_PJR","check_EJR","check_EJR_plus","check_FJR","check_core"],own:= []}
def MP:RP:=λcx k e=>bN e λn _=>ck (cx.globs.contains n) λh1=>ck (n== "PROPERTY_NAMES") λh2=>W8 ⟨dK (.list (fK.map Xd)),λp=>D7 p.W (Aw h1) (eq_of_beq h2)⟩
def aae (s:String)(e:ED)(r:SD):SD:=aa (aE (aaf 0 s) (aa (bz e) af) r) af
def kA (d:List V->Option V):ED:=aM d (ah (dV 1) (ah (dV 2) au)) (ah (dV 3) au)
def kB (d:List V->Option V):ED:=aM d (ah (dV 1) (ah (dV 2) au)) (ah (dV 3) (ah (dV 4) au))
def aal (r:SD):SD:=aa (aE (dT (dB (λa b=>Ox (λc=>Xb !c) (fw a b)) (dV 0) (dK (Xe (Wp Xd fK))))) (λx=>W9) af) (aa (aE (aaf 0 "pareto") (λx=>W9) r) af)
def scK (e:RE)(r:r5):r5:=sx (bX (cu qv qc) (sx (sR e) Xx) r) Xx
def aak (g:RL->RK->RE):RE:=g (Xv qv (Xv qv Xy)) (kc qv k0)
def aai (g:RL->RK->RE):RE:=g (Xv qv (Xv qv Xy)) (kc qv (kc qv k0))
def kCh:SD:=aae "jr" (kA Hx) (aae "pjr" (kB Hy) (aae "ejr" (kB Hz) (aae "ejr+" (kA Hw) (aae "fjr" (kB Hv) (aae "core" (kB Hu) λx=>W9)))))
def m9:=fE Mh 7 (ar 11).2.1 (sx (bX (rZ qv MP) sN Xx) (sx (bX (cu qv qc) sN (scK (aak J4) (scK (aai J5) (scK (aai J6) (scK (aak J0) (scK (aai JY) (scK (aai JW) sN))))))) Xx)) (aal kCh) (by kernel_rfl)
theorem No:cj (ar 11) [.none,.any] 3 [("algorithm":Str)] (eu .none [.none,.any] [.inl 0,.inl 1,.inl 2,.inr 0,.inl 3]):=gJ (λ_ _ _ _ _ _ _ _ _ _ _ _ _ _ _ _ _ _ _ _=>rfl) rfl
def wL:List V->Option V:=λxs=>cr 0 m9.1 (eu .none [.none,.any] [.inl 0,.inl 1,.inl 2,.inr 0,.inl 3] xs)
theorem N7 (W:Wd C):bY C 7 "check" 3 ["algorithm"] wL:=W.f11.c 0 (cx:=Mh) (m9.2 W) (by decide+kernel) No
def J7:RL->RK->RE:=qG 7 "check" 3 ["algorithm"] wL λp=>N7 p.W
def HA:Cx:= {vars:= [("votes",0),("representatives",1),("n",2),("seats",3),("within",4),("i",5),("upperquota",6),("lowerquota",7)],globs:= ["sum","range","len"],own:= []}
def Lb:=fE HA 0 (ar 30).2.1 (sx (sA (d5 bh)) (sx (sA (d5 bh)) (sx (sA qc) (sx (dL false (r1 (bS bh)) t1 (sx (sA (jR (qb (qb (jR (bx bh qv)) qv) qv))) (sx (bX (cu (bx bh qv) qv) (sx (sA qc) Xx) Xx) (sx (sA (qb (qb (bx bh qv) qv) qv)) (sx (bX (cu (bx bh qv) qv) (sx (sA qc) Xx) Xx) Xx))))) (sx (sR qv) Xx))))) (aa (ak 2 (dU dn (dV 0))) (aa (ak 3 (dU dn (dV 1))) (aa (ak 4 (dK (Xb true))) (aa (bR (aX (dK (Xc 0)) (dU aP (dV 0))) (cH 5) (aa (ak 6 (dU iy (dB d2 (dB c8 (dU iy (dB aZ (dV 0) (dV 5))) (dV 3)) (dV 2)))) (aa (aE (dT (dB (bf λa b=>decide (b<a)) (dB aZ (dV 1) (dV 5)) (dV 6))) (aa (ak 4 (dK (Xb false))) af) af) (aa (ak 7 (dB d2 (dB c8 (dB aZ (dV 0) (dV 5)) (dV 3)) (dV 2))) (aa (aE (dT (dB (bf λa b=>decide (a<b)) (dB aZ (dV 1) (dV 5)) (dV 7))) (aa (ak 4 (dK (Xb false))) af) af) af))))) (aa (bz (dV 4)) af))))) (by kernel_rfl)
def HB:Cx:= {vars:= [("sizes",0),("seats",1),("held",2),("best",3),("party",4)],globs:= ["sum","range","len"],own:= []}
def K4:=fE HB 1 (ar 41).2.1 (sy [2] (sF 2 (Bd (qe (cm (Xv qc Xy))) (bS bh))) (sx (Gq 8 (cu (d5 qo) qv) (sx (sA qc) (sx (dL false (r1 (bS bh)) t1 (sx (bX (cu (qb (bx qo qv) (d5 bh)) (qb (bx bh qv) (qb (d5 qo) qc))) (sx (bX (gn (cu qv qc) (gn (cu (qb (bx bh qv) (qb (bx qo qv) qc)) (qb (bx bh qv) (qb (bx qo qv) qc))) fX)) (sx (sA qv) Xx) Xx) Xx) Xx) Xx)) (sx (DF qv (qb (bx qo qv) qc)) Xx)))) (xz [] (sx (sR qv) Xx)))) (aa (ak 2 (dB se (b9 (ah (dK (Xc 0)) au)) (dU aP (dV 0)))) (aa (bB (dT (dB (bf λa b=>decide (a<b)) (dU dn (dV 2)) (dV 1))) (aa (ak 3 (dK Xa)) (aa (bR (aX (dK (Xc 0)) (dU aP (dV 0))) (cH 4) (aa (aE (dT (dB (bf λa b=>decide (a<b)) (dB c8 (dB aZ (dV 2) (dV 4)) (dU dn (dV 0))) (dB c8 (dB aZ (dV 0) (dV 4)) (dB bJ (dU dn (dV 2)) (dK (Xc 1)))))) (aa (aE (Il (dT (dB (λa b=>Ox Xb (qg a b)) (dV 3) (dK Xa))) (Il (dT (dB (bf λa b=>decide (b<a)) (dB c8 (dB aZ (dV 0) (dV 4)) (dB bJ (dB aZ (dV 2) (dV 3)) (dK (Xc 1)))) (dB c8 (dB aZ (dV 0) (dV 3)) (dB bJ (dB aZ (dV 2) (dV 4)) (dK (Xc 1)))))) λx=>W8 false)) (aa (ak 3 (dV 4)) af) af) af) af) af)) (aa (tj 2 (dV 3) (dB bJ (dB aZ (dV 2) (dV 3)) (dK (Xc 1)))) af))) 8) (aa (bz (dV 2)) af))) (by kernel_rfl)
def L6:Cx:= {vars:= [("votes",0),("seats",1),("tiesallowed",2),("representatives",3),("common",4),("r",5),("quotas",6),("upperquota",8),("maxquota",10),("maxquotas",11),("nextrep",12)],globs:= ["len","sum","range","max"],own:= [],mn:= ["votes","representatives","common","quotas","upperquota","maxquota"],caps:= ["votes","representatives","common","quotas","upperquota","maxquota"]}
def HG:Cx:= {vars:= [("votes",0),("common",4),("i",7),("representatives",3)],fre:= [0,4,3],globs:= ["int"],own:= []}
def HF:Cx:= {vars:= [("votes",0),("p",9),("representatives",3)],fre:= [0,3],globs:= ["sum"],own:= []}
def HE:Cx:= {vars:= [("upperquota",8),("quotas",6),("i",7),("representatives",3)],fre:= [8,6,3],globs:= [],own:= []}
def HD:Cx:= {vars:= [("quotas",6),("maxquota",10),("i",7)],fre:= [6,10],globs:= [],own:= []}
def K7:=fE L6 1 (ar 34).2.1 (sx (bX (rY (qt bh)) sN Xx) (sy [3] (sF 3 (Bd (qe (cm (Xv qc Xy))) (bS bh))) (sx (Gq 8 (cu (d5 qo) qv) (sx (sA qc) (sx (MH (bb bv (bb bv bc))) (sx (Io HG false (r1 (bS bh)) (lz Xn eJ (qb (qb (sO (pk (bx bh qv))) qv) (qb (sO (pk (bx bh qv))) qc)))) (sx (bX (cu (d5 bh) qc) (sx (Io HF false (cN qv) (lz Xn eJ (jR (qb (qb (jR qv) (qb (d5 bh) qc)) (d5 bh))))) (sx (Io HE false (r1 (bS bh)) (lz Xn eJ (GC (cu (bx bh qv) (bx bh qv)) qc (bx bh qv)))) Xx)) Xx) (sx (sA (GA bh)) (sx (mY HD false (r1 (bS bh)) (lz Xn (CC (cu (bx bh qv) qv)) qv)) (sx (sA (bx bh qc)) (sx (Im qv qc) Xx))))))))) (xz [] (sx (sR qv) Xx))))) (aa (aE (eG (dT (dV 2))) (λx=>W9) af) (aa (ak 3 (dB se (b9 (ah (dK (Xc 0)) au)) (dU aP (dV 0)))) (aa (bB (dT (dB (bf λa b=>decide (a<b)) (dU dn (dV 3)) (dV 1))) (aa (ak 4 (dK (Xc 1))) (aa (kY 3 5 (aa (ak 4 (dB c8 (dV 4) (dB bJ (dV 5) (dK (Xc 1))))) af)) (aa (ak 6 (mD (ba HG (aX (dK (Xc 0)) (dU aP (dV 0))) (aj (bg 7) (λx=>W8 true) (aF (dB d2 (dB c8 (dU oO (dB aZ (dV 0) (dV 7))) (dV 4)) (dB bJ (dU oO (dB aZ (dV 3) (dV 7))) (dK (Xc 1))))))))) (aa (aE (dT (dB (λa b=>Ox (λc=>Xb !c) (fC a b)) (dU dn (dV 0)) (dK (Xc 0)))) (aa (ak 8 (mD (ba HF (cO (dV 0)) (aj (bg 9) (λx=>W8 true) (aF (dU iy (dB d2 (dB c8 (dU iy (dV 9)) (dB bJ (dU dn (dV 3)) (dK (Xc 1)))) (dU dn (dV 0))))))))) (aa (ak 6 (mD (ba HE (aX (dK (Xc 0)) (dU aP (dV 0))) (aj (bg 7) (λx=>W8 true) (aF (wl (dT (dB (bf λa b=>decide (b<=a)) (dB aZ (dV 3) (dV 7)) (dB aZ (dV 8) (dV 7)))) (dK (Xc 0)) (dB aZ (dV 6) (dV 7)))))))) af)) af) (aa (ak 10 (dU AB (dV 6))) (aa (ak 11 (ba HD (aX (dK (Xc 0)) (dU aP (dV 0))) (aj (bg 7) (dT (dB (λa b=>Ox Xb (fC a b)) (dB aZ (dV 6) (dV 7)) (dV 10))) (aF (dV 7))))) (aa (ak 12 (dB aZ (dV 11) (dK (Xc 0)))) (aa (ib 3 (dV 12) (dK (Xc 1))) af)))))))) 8) (aa (bz (dV 3)) af)))) (by kernel_rfl)
def L7:Cx:= {vars:= [("votes",0),("seats",1),("tiesallowed",2),("quotas",3),("representatives",4),("ties",5),("i",6),("remainders",7),("cutoff",8),("reps_sum",9)],globs:= ["sum","range","len","sorted"],own:= [],mn:= ["votes","seats","quotas","representatives"],caps:= ["votes","seats","quotas","representatives"]}
def HJ:Cx:= {vars:= [("votes",0),("seats",1),("p",10)],fre:= [0,1],globs:= ["int","sum"],own:= []}
def HI:Cx:= {vars:= [("qu",11)],globs:= [],own:= []}
def HH:Cx:= {vars:= [("quotas",3),("i",12),("representatives",4)],fre:= [3,4],globs:= [],own:= []}
def La:=fE L7 1 (ar 31).2.1 (sx (bX (cu qv qc) sN Xx) (sx (mY HJ false (cN qv) (lz Xn eJ (ef (Xv (qb (sO bh) qv) (Xv (sO (pk (d5 bh))) Xy))))) (sy [4] (DH 4 HI false (cN qv) (lz Xn eJ (qb (bx bh qc) (bx bh qc)))) (sx (sA qc) (sx (bX (cu (d5 qo) qv) (sx (Io HH false (r1 (bS bh)) (lz Xn eJ (qb (bx (pk (bx bh qv)) qc) (qb (bx bh qv) (bx (pk (bx bh qv)) qc))))) (sx (sA (bx (pk (xS bh)) (qb (d5 qo) qv))) (sx (dL false (r1 (bS bh)) t1 (sx (sA (d5 qo)) (sx (bX (gn (cu qv qv) (gn (cu (bx bh qv) qv) fX)) (sx (bX (rY (qt bh)) (sx (sA qc) Xx) Xx) Xx) (sx (bX (gn (cu qv qv) (gn (cu (bx bh qv) qv) fX)) (sx (Im qv qc) Xx) (sx (bX (gn (cu qv qv) (gn (cu (bx bh qv) qv) fX)) (sx (Im qv qc) Xx) Xx) Xx)) Xx)) Xx))) Xx))) Xx) (sx (bX (gn (qt bh) (gn (rY (qt bh)) fX)) sN Xx) (xz [] (sx (sR qv) Xx)))))))) (aa (aE (dT (dB (λa b=>Ox Xb (fC a b)) (dV 1) (dK (Xc 0)))) (λx=>W9) af) (aa (ak 3 (ba HJ (cO (dV 0)) (aj (bg 10) (λx=>W8 true) (aF (dj (ah (dB c8 (dU oO (dV 10)) (dV 1)) (ah (dU oO (dU dn (dV 0))) au))))))) (aa (ak 4 (ba HI (cO (dV 3)) (aj (bg 11) (λx=>W8 true) (aF (dB d2 (dB aZ (dV 11) (dK (Xc 0))) (dB aZ (dV 11) (dK (Xc 1)))))))) (aa (ak 5 (dK (Xb false))) (aa (aE (dT (dB (bf λa b=>decide (a<b)) (dU dn (dV 4)) (dV 1))) (aa (ak 7 (mD (ba HH (aX (dK (Xc 0)) (dU aP (dV 0))) (aj (bg 12) (λx=>W8 true) (aF (dB iw (dB aZ (dB aZ (dV 3) (dV 12)) (dK (Xc 0))) (dB c8 (dB aZ (dV 4) (dV 12)) (dB aZ (dB aZ (dV 3) (dV 12)) (dK (Xc 1)))))))))) (aa (ak 8 (dB aZ (dU qp (dV 7)) (dB iw (dU dn (dV 4)) (dV 1)))) (aa (bR (aX (dK (Xc 0)) (dU aP (dV 0))) (cH 6) (aa (ak 9 (dU dn (dV 4))) (aa (aE (cw (dT (dB (λa b=>Ox Xb (fC a b)) (dV 9) (dV 1))) (cw (dT (dB (bf λa b=>decide (b<=a)) (dB aZ (dV 7) (dV 6)) (dV 8))) λx=>W8 true)) (aa (aE (eG (dT (dV 5))) (aa (ak 5 (dK (Xb true))) af) af) af) (aa (aE (cw (dT (dB (bf λa b=>decide (a<b)) (dV 9) (dV 1))) (cw (dT (dB (bf λa b=>decide (b<a)) (dB aZ (dV 7) (dV 6)) (dV 8))) λx=>W8 true)) (aa (ib 4 (dV 6) (dK (Xc 1))) af) (aa (aE (cw (dT (dB (bf λa b=>decide (a<b)) (dV 9) (dV 1))) (cw (dT (dB (λa b=>Ox Xb (fC a b)) (dB aZ (dV 7) (dV 6)) (dV 8))) λx=>W8 true)) (aa (ib 4 (dV 6) (dK (Xc 1))) af) af) af)) af)) af))) af))) af) (aa (aE (cw (dT (dV 5)) (cw (eG (dT (dV 2))) λx=>W8 true)) (λx=>W9) af) (aa (bz (dV 4)) af))))))) (by kernel_rfl)
def L5:Cx:= {vars:= [("votes",0),("seats",1),("tiesallowed",2),("representatives",3),("ties",4),("mincount",5),("i",6)],globs:= ["sum","range","len","sorted"],own:= []}
def HC:Cx:= {vars:= [("votes",0),("threshold",1)],globs:= [],own:= []}
def Lg:=fE HC 0 (ar 29).2.1 (sx (bX (cu qv qc) sN (sx (sR qv) Xx)) Xx) (aa (aE (dT (dB (λa b=>Ox (λc=>Xb !c) (qg a b)) (dV 1) (dK Xa))) (λx=>W9) (aa (bz (dV 0)) af)) af) (by kernel_rfl)
def K8:=fE L5 1 (ar 33).2.1 (sy [3] (sF 3 (Bd (qe (cm (Xv qc Xy))) (bS bh))) (sx (sA qc) (sx (sA (bx (pk (xS bh)) (jR qv))) (sx (dL false (r1 (bS bh)) t1 (sx (bX (gn (cu (d5 qo) qv) (gn (cu (bx bh qv) qv) fX)) (sx (DF qv qc) Xx) (sx (bX (gn (cu (d5 qo) qv) (gn (cu (bx bh qv) qv) fX)) (sx (bX (rY (qt bh)) (sx (sA qc) Xx) Xx) Xx) Xx) Xx)) Xx)) (sx (bX (gn (qt bh) (gn (rY (qt bh)) fX)) sN Xx) (xz [] (sx (sR qv) Xx))))))) (aa (ak 3 (dB se (b9 (ah (dK (Xc 0)) au)) (dU aP (dV 0)))) (aa (ak 4 (dK (Xb false))) (aa (ak 5 (dB aZ (dU qp (dV 0)) (dU iy (dV 1)))) (aa (bR (aX (dK (Xc 0)) (dU aP (dV 0))) (cH 6) (aa (aE (cw (dT (dB (bf λa b=>decide (a<b)) (dU dn (dV 3)) (dV 1))) (cw (dT (dB (bf λa b=>decide (b<=a)) (dB aZ (dV 0) (dV 6)) (dV 5))) λx=>W8 true)) (aa (tj 3 (dV 6) (dK (Xc 1))) af) (aa (aE (cw (dT (dB (λa b=>Ox Xb (fC a b)) (dU dn (dV 3)) (dV 1))) (cw (dT (dB (bf λa b=>decide (b<=a)) (dB aZ (dV 0) (dV 6)) (dV 5))) λx=>W8 true)) (aa (aE (eG (dT (dV 4))) (aa (ak 4 (dK (Xb true))) af) af) af) af) af)) af)) (aa (aE (cw (dT (dV 4)) (cw (eG (dT (dV 2))) λx=>W8 true)) (λx=>W9) af) (aa (bz (dV 3)) af)))))) (by kernel_rfl)
def IE:Cx:= {vars:= [],globs:= [],own:= []}
def K6:=fE IE 0 (ar 39).2.1 (sx (sR (qe (cm lS))) Xx) (aa (bz (b9 λx=>W8 [aT "pjr",aT "ejr",aT "ejr+",aT "fjr",aT "core",aT "jr"])) af) (by kernel_rfl)
def K5:=fE IE 0 (ar 40).2.1 (sx (sR (qe (cm lS))) Xx) (aa (bz (b9 λx=>W8 [aT "dhondt",aT "largest_remainder",aT "quota",aT "saintelague",aT "modified_saintelague",aT "huntington",aT "adams",aT "dean"])) af) (by kernel_rfl)
theorem M8:cj (ar 30) [] 2 [] id:=pat0 (λ_ _ _ _ _ _ _ _ _ _ _ _ _ _=>rfl) rfl
def Kj:List V->Option V:=λxs=>cr 6 Lb.1 (id xs)
theorem NS (W:Wd C):bY C 0 "within_quota" 2 [] Kj:=W.f30.c 6 (cx:=HA) (Lb.2 W) (by decide+kernel) M8
def JS:RL->RK->RE:=qG 0 "within_quota" 2 [] Kj λp=>NS p.W
theorem MZ:cj (ar 41) [] 2 [] id:=pat0 (λ_ _ _ _ _ _ _ _ _ _ _ _ _ _=>rfl) rfl
def Kf:List V->Option V:=λxs=>cr 3 K4.1 (id xs)
theorem NN (W:Wd C):bY C 1 "_law_quota" 2 [] Kf:=W.f41.c 3 (cx:=HB) (K4.2 W) (by decide+kernel) MZ
def JO:RL->RK->RE:=qG 1 "_law_quota" 2 [] Kf λp=>NN p.W
theorem M4:cj (ar 34) [.bool true] 3 [] (eu .none [.bool true] [.inl 0,.inl 1,.inl 2]):=gJ (λ_ _ _ _ _ _ _ _ _ _ _ _ _ _ _ _ _ _ _ _=>rfl) rfl
def Kg:List V->Option V:=λxs=>cr 10 K7.1 (eu .none [.bool true] [.inl 0,.inl 1,.inl 2] xs)
theorem NO (W:Wd C):bY C 1 "quota" 3 [] Kg:=W.f34.c 10 (cx:=L6) (K7.2 W) (by decide+kernel) M4
def JP:RL->RK->RE:=qG 1 "quota" 3 [] Kg λp=>NO p.W
theorem M7:cj (ar 31) [.bool true] 3 [] (eu .none [.bool true] [.inl 0,.inl 1,.inl 2]):=gJ (λ_ _ _ _ _ _ _ _ _ _ _ _ _ _ _ _ _ _ _ _=>rfl) rfl
def Ki:List V->Option V:=λxs=>cr 10 La.1 (eu .none [.bool true] [.inl 0,.inl 1,.inl 2] xs)
theorem NR (W:Wd C):bY C 1 "largest_remainder" 3 [] Ki:=W.f31.c 10 (cx:=L7) (La.2 W) (by decide+kernel) M7
def JR:RL->RK->RE:=qG 1 "largest_remainder" 3 [] Ki λp=>NR p.W
theorem M9:cj (ar 29) [] 2 [] id:=pat0 (λ_ _ _ _ _ _ _ _ _ _ _ _ _ _=>rfl) rfl
def Kk:List V->Option V:=λxs=>cr 0 Lg.1 (id xs)
theorem Ks (W:Wd C):bY C 0 "apply_threshold" 2 [] Kk:=W.f29.c 0 (cx:=HC) (Lg.2 W) (by decide+kernel) M9
def JT:RL->RK->RE:=qG 0 "apply_threshold" 2 [] Kk λp=>Ks p.W
theorem M5:cj (ar 33) [] 3 [] id:=pat0 (λ_ _ _ _ _ _ _ _ _ _ _ _ _ _=>rfl) rfl
def Ht:List V->Option V:=λxs=>cr 4 K8.1 (id xs)
theorem NP (W:Wd C):bY C 1 "_divzero_fewerseatsthanparties" 3 [] Ht:=W.f33.c 4 (cx:=L5) (K8.2 W) (by decide+kernel) M5
def EL:RL->RK->RE:=qG 1 "_divzero_fewerseatsthanparties" 3 [] Ht λp=>NP p.W
def cD:Cx:= {vars:= [("votes",0),("seats",1),("method",2),("tiesallowed",3),("representatives",4),("i",5),("divisors",6),("common",7),("d",8),("weights",9),("flatweights",10),("minweight",11),("ties",12)],globs:= ["len","range","_divzero_fewerseatsthanparties","sum","sorted"],own:= [],mn:= ["representatives","divisors","common","weights","minweight"],caps:= ["representatives","divisors","common","weights","minweight"]}
def wG:Cx:= {vars:= [("i",13)],globs:= [],own:= []}
def FG:Cx:= {vars:= [("p",14)],globs:= [],own:= []}
def Iz:Cx:= {vars:= [("divisors",6),("common",7),("p",14)],globs:= [],own:= [],fre:= [6,7],mn:= ["p"],caps:= ["p","common","divisors"]}
def Iy:Cx:= {vars:= [("common",7),("p",14),("d",15)],globs:= ["int"],own:= [],fre:= [7,14]}
def LR:Cx:= {vars:= [("l",16),("w",17)],globs:= [],own:= []}
def LQ:Cx:= {vars:= [("representatives",4),("weights",9),("minweight",11),("i",13)],globs:= ["len"],own:= [],fre:= [4,9,11],caps:= ["minweight"]}
def LP:Cx:= {vars:= [("minweight",11),("w",17)],globs:= [],own:= [],fre:= [11]}
def K9:=fE cD 2 (ar 32).2.1 (sx (sA (qe (Bd (qe (cm (Xv qc Xy))) (bS bh)))) (sx (bX (rZ qv (pk (qe (cm lS)))) (sx (mY wG false (r1 qv) (lz Xn eJ (ef (Xv (qb qv qc) (Xv qc Xy))))) Xx) (sx (bX (rZ qv (pk (qe (cm lS)))) (sx (mY wG false (r1 qv) (lz Xn eJ (ef (Xv (qb (qb qc qv) qc) (Xv qc Xy))))) Xx) (sx (bX (rZ qv (pk (qe (cm lS)))) (sx (sA (qb (qe (cm (Xv (ef (Xv qc (Xv qc Xy))) Xy))) (qe (gq wG false (r2 qc qv) (lz Xn eJ (ef (Xv (qb (qb qc qv) qc) (Xv qc Xy)))))))) Xx) (sx (bX (rZ qv (pk (qe (cm lS)))) (sx (bX (cu qv (bS bh)) (sx (sA (EL (Xv qv (Xv qv (Xv qv Xy))) k0)) Xx) (sx (mY FG false (cN qv) (lz Xn eJ (GC (cu qv qc) qc qc))) (sx (mY wG false (r1 qv) (lz Xn eJ (ef (Xv (qb (qb qv qc) (qb qv qc)) (Xv qc Xy))))) Xx))) Xx) (sx (bX (rZ qv (pk (qe (cm lS)))) (sx (bX (cu qv (bS bh)) (sx (sA (EL (Xv qv (Xv qv (Xv qv Xy))) k0)) Xx) (sx (mY FG false (cN qv) (lz Xn eJ (GC (cu qv qc) qc qc))) (sx (mY wG false (r1 qv) (lz Xn eJ (ef (Xv (qb qv qc) (Xv qc Xy))))) Xx))) Xx) (sx (bX (rZ qv (pk (qe (cm lS)))) (sx (bX (cu qv (bS bh)) (sx (sA (EL (Xv qv (Xv qv (Xv qv Xy))) k0)) Xx) (sx (mY FG false (cN qv) (lz Xn eJ (GC (cu qv qc) qc qc))) (sx (mY wG false (r1 qv) (lz Xn eJ (ef (Xv (qb (qb qc (qb qv qc)) (qb qv qc)) (Xv (qb (qb qc (qb qv qc)) qc) Xy))))) Xx))) Xx) sN) Xx)) Xx)) Xx)) Xx)) Xx)) (MF [4] (cu qv (d5 bh)) (sx (sA qc) (sx (dL false (cN qv) t1 (sx (sA (qb qv (bx bh qc))) Xx)) (sx (bX (rZ qv (pk (qe (cm lS)))) (sx (mY Iz false (cN qv) (lz Xn eJ (qe (gq Iy false (cN qv) (lz Xn eJ (qb (qb (qb (qb (sO bh) (sO bh)) (bx bh qc)) qv) (bx bh qc))))))) Xx) (sx (mY Iz false (cN qv) (lz Xn eJ (qe (gq Iy false (cN qv) (lz Xn eJ (qb (qb (qb (sO bh) (bx bh qc)) qv) (bx bh qc))))))) Xx)) (sx (sA (xS (pk (qe (gq LR false (cN qv) (lm false Xn eJ (cN qv) (lz Xn eJ qv))))))) (sx (sA (bx bh (qb (jR qv) (d5 bh)))) (sy [4] (DH 4 LQ false (r1 (bS bh)) (lz Xn eJ (qb (bx bh qv) (bS (pk (qe (gq LP false (cN (bx bh qv)) (lz Xn (CC (cu qv qv)) qv)))))))) Xx)))))) (sx (sA qc) (sx (bX (cu qv (d5 qo)) (sx (dL false (r1 (bS bh)) t1 (sx (bX (gn (cu (d5 qo) qv) (gn (rZ qv (pk (bx bh qv))) fX)) (sx (bX (rY (qt bh)) (sx (bX (rY (qt bh)) sN Xx) (sx (sA qc) Xx)) Xx) Xx) Xx) (sx (bX (gn (cu (d5 qo) qv) (gn (rZ qv (pk (bx bh qv))) fX)) (sx (Im qv qc) Xx) Xx) Xx))) Xx) Xx) (sx (bX (gn (qt bh) (gn (rY (qt bh)) fX)) sN Xx) (xz [] (sx (sR qv) Xx))))) (sx (sA qc) (sx (bX (cu qv (d5 bh)) sN Xx) (sx (bX (gn (qt bh) (gn (rY (qt bh)) fX)) sN Xx) (sx (sR qv) Xx))))))) (aa (ak 4 (dB se (b9 (ah (dK (Xc 0)) au)) (dU aP (dV 0)))) (aa (aE (dT (dB (λa b=>Ox Xb (fw a b)) (dV 2) (b9 λx=>W8 [aT "dhondt",aT "jefferson",aT "greatestdivisors"]))) (aa (ak 6 (ba wG (aX (dK (Xc 0)) (dV 1)) (aj (bg 13) (λx=>W8 true) (aF (dj (ah (dB bJ (dV 13) (dK (Xc 1))) (ah (dK (Xc 1)) au))))))) af) (aa (aE (dT (dB (λa b=>Ox Xb (fw a b)) (dV 2) (b9 λx=>W8 [aT "saintelague",aT "webster",aT "majorfractions"]))) (aa (ak 6 (ba wG (aX (dK (Xc 0)) (dV 1)) (aj (bg 13) (λx=>W8 true) (aF (dj (ah (dB bJ (dB c8 (dK (Xc 2)) (dV 13)) (dK (Xc 1))) (ah (dK (Xc 1)) au))))))) af) (aa (aE (dT (dB (λa b=>Ox Xb (fw a b)) (dV 2) (b9 λx=>W8 [aT "modified_saintelague"]))) (aa (ak 6 (dB bJ (b9 (ah (dj (ah (dK (Xc 7)) (ah (dK (Xc 5)) au))) au)) (ba wG (aX (dK (Xc 1)) (dV 1)) (aj (bg 13) (λx=>W8 true) (aF (dj (ah (dB bJ (dB c8 (dK (Xc 2)) (dV 13)) (dK (Xc 1))) (ah (dK (Xc 1)) au)))))))) af) (aa (aE (dT (dB (λa b=>Ox Xb (fw a b)) (dV 2) (b9 λx=>W8 [aT "huntington",aT "hill",aT "equalproportions"]))) (aa (aE (dT (dB (bf λa b=>decide (a<b)) (dV 1) (dU aP (dV 0)))) (aa (ak 4 (aM Ht (ah (dV 0) (ah (dV 1) (ah (dV 3) au))) au)) af) (aa (ak 4 (ba FG (cO (dV 0)) (aj (bg 14) (λx=>W8 true) (aF (wl (dT (dB (bf λa b=>decide (b<a)) (dV 14) (dK (Xc 0)))) (dK (Xc 1)) (dK (Xc 0))))))) (aa (ak 6 (ba wG (aX (dK (Xc 0)) (dV 1)) (aj (bg 13) (λx=>W8 true) (aF (dj (ah (dB c8 (dB bJ (dV 13) (dK (Xc 1))) (dB bJ (dV 13) (dK (Xc 2)))) (ah (dK (Xc 1)) au))))))) af))) af) (aa (aE (dT (dB (λa b=>Ox Xb (fw a b)) (dV 2) (b9 λx=>W8 [aT "adams",aT "smallestdivisor"]))) (aa (aE (dT (dB (bf λa b=>decide (a<b)) (dV 1) (dU aP (dV 0)))) (aa (ak 4 (aM Ht (ah (dV 0) (ah (dV 1) (ah (dV 3) au))) au)) af) (aa (ak 4 (ba FG (cO (dV 0)) (aj (bg 14) (λx=>W8 true) (aF (wl (dT (dB (bf λa b=>decide (b<a)) (dV 14) (dK (Xc 0)))) (dK (Xc 1)) (dK (Xc 0))))))) (aa (ak 6 (ba wG (aX (dK (Xc 0)) (dV 1)) (aj (bg 13) (λx=>W8 true) (aF (dj (ah (dB bJ (dV 13) (dK (Xc 1))) (ah (dK (Xc 1)) au))))))) af))) af) (aa (aE (dT (dB (λa b=>Ox Xb (fw a b)) (dV 2) (b9 λx=>W8 [aT "dean",aT "harmonicmean"]))) (aa (aE (dT (dB (bf λa b=>decide (a<b)) (dV 1) (dU aP (dV 0)))) (aa (ak 4 (aM Ht (ah (dV 0) (ah (dV 1) (ah (dV 3) au))) au)) af) (aa (ak 4 (ba FG (cO (dV 0)) (aj (bg 14) (λx=>W8 true) (aF (wl (dT (dB (bf λa b=>decide (b<a)) (dV 14) (dK (Xc 0)))) (dK (Xc 1)) (dK (Xc 0))))))) (aa (ak 6 (ba wG (aX (dK (Xc 0)) (dV 1)) (aj (bg 13) (λx=>W8 true) (aF (dj (ah (dB c8 (dB c8 (dK (Xc 2)) (dB bJ (dV 13) (dK (Xc 1)))) (dB bJ (dV 13) (dK (Xc 2)))) (ah (dB bJ (dB c8 (dK (Xc 2)) (dB bJ (dV 13) (dK (Xc 1)))) (dK (Xc 1))) au))))))) af))) af) λx=>W9) af)) af)) af)) af)) af)) (aE (dT (dB (bf λa b=>decide (b<a)) (dV 1) (dU dn (dV 4)))) (aa (aa (ak 7 (dK (Xc 1))) (aa (bR (cO (dV 6)) (cH 8) (aa (ak 7 (dB c8 (dV 7) (dB aZ (dV 8) (dK (Xc 0))))) af)) (aa (aE (dT (dB (λa b=>Ox Xb (fw a b)) (dV 2) (b9 λx=>W8 [aT "huntington",aT "hill",aT "equalproportions"]))) (aa (ak 9 (ba Iz (cO (dV 0)) (aj (bg 14) (λx=>W8 true) (aF (ba Iy (cO (dV 6)) (aj (bg 15) (λx=>W8 true) (aF (dB d2 (dB c8 (dB c8 (dB c8 (dU oO (dV 14)) (dU oO (dV 14))) (dB aZ (dV 15) (dK (Xc 1)))) (dV 7)) (dB aZ (dV 15) (dK (Xc 0))))))))))) af) (aa (ak 9 (ba Iz (cO (dV 0)) (aj (bg 14) (λx=>W8 true) (aF (ba Iy (cO (dV 6)) (aj (bg 15) (λx=>W8 true) (aF (dB d2 (dB c8 (dB c8 (dU oO (dV 14)) (dB aZ (dV 15) (dK (Xc 1)))) (dV 7)) (dB aZ (dV 15) (dK (Xc 0))))))))))) af)) (aa (ak 10 (dU qp (ba LR (cO (dV 9)) (aj (bg 16) (λx=>W8 true) (ku (cO (dV 16)) (aj (bg 17) (λx=>W8 true) (aF (dV 17)))))))) (aa (ak 11 (dB aZ (dV 10) (dB bJ (dU iy (dV 1)) (dU dn (dV 4))))) (aa (ak 4 (ba LQ (aX (dK (Xc 0)) (dU aP (dV 0))) (aj (bg 13) (λx=>W8 true) (aF (dB bJ (dB aZ (dV 4) (dV 13)) (dU aP (ba LP (cO (dB aZ (dV 9) (dV 13))) (aj (bg 17) (dT (dB (bf λa b=>decide (b<a)) (dV 17) (dV 11))) (aF (dV 17)))))))))) af)))))) (aa (ak 12 (dK (Xb false))) (aa (aE (dT (dB (bf λa b=>decide (b<a)) (dV 1) (dU dn (dV 4)))) (aa (bR (aX (dK (Xc 0)) (dU aP (dV 0))) (cH 5) (aa (aE (cw (dT (dB (λa b=>Ox Xb (fC a b)) (dU dn (dV 4)) (dV 1))) (cw (dT (dB (λa b=>Ox Xb (fw a b)) (dV 11) (dB aZ (dV 9) (dV 5)))) λx=>W8 true)) (aa (aE (eG (dT (dV 12))) (aa (aE (eG (dT (dV 3))) (λx=>W9) af) (aa (ak 12 (dK (Xb true))) af)) af) af) af) (aa (aE (cw (dT (dB (bf λa b=>decide (a<b)) (dU dn (dV 4)) (dV 1))) (cw (dT (dB (λa b=>Ox Xb (fw a b)) (dV 11) (dB aZ (dV 9) (dV 5)))) λx=>W8 true)) (aa (ib 4 (dV 5) (dK (Xc 1))) af) af) af))) af) af) (aa (aE (cw (dT (dV 12)) (cw (eG (dT (dV 3))) λx=>W8 true)) (λx=>W9) af) (aa (bz (dV 4)) af))))) (aa (ak 12 (dK (Xb false))) (aa (aE (dT (dB (bf λa b=>decide (b<a)) (dV 1) (dU dn (dV 4)))) (λx=>W9) af) (aa (aE (cw (dT (dV 12)) (cw (eG (dT (dV 3))) λx=>W8 true)) (λx=>W9) af) (aa (bz (dV 4)) af))))))) (by kernel_rfl)
theorem M6:cj (ar 32) [.bool true] 4 [] (eu .none [.bool true] [.inl 0,.inl 1,.inl 2,.inl 3]):=gJ (λ_ _ _ _ _ _ _ _ _ _ _ _ _ _ _ _ _ _ _ _=>rfl) rfl
def Kh:List V->Option V:=λxs=>cr 14 K9.1 (eu .none [.bool true] [.inl 0,.inl 1,.inl 2,.inl 3] xs)
theorem NQ (W:Wd C):bY C 2 "divisor" 4 [] Kh:=W.f32.c 14 (cx:=cD) (K9.2 W) (by decide+kernel) M6
def JQ:RL->RK->RE:=qG 2 "divisor" 4 [] Kh λp=>NQ p.W
def Mg:Cx:= {vars:= [("method",0),("votes",1),("seats",2),("threshold",3),("tiesallowed",4),("filtered_votes",5)],globs:= ["apply_threshold","quota","largest_remainder","divisor"],own:= []}
def Lh:=fE Mg 3 (ar 28).2.1 (sx (sA (JT (Xv qv (Xv qv Xy)) k0)) (sx (bX (cu qv qc) (sx (sR (JP (Xv qv (Xv qv (Xv qv Xy))) k0)) Xx) (sx (bX (rZ qv (pk (qe (cm lS)))) (sx (sR (JR (Xv qv (Xv qv (Xv qv Xy))) k0)) Xx) (sx (bX (rZ qv (pk (qe (cm lS)))) (sx (sR (JQ (Xv qv (Xv qv (Xv qv (Xv qv Xy)))) k0)) Xx) sN) Xx)) Xx)) Xx)) (aa (ak 5 (aM Kk (ah (dV 1) (ah (dV 3) au)) au)) (aa (aE (dT (dB (λa b=>Ox Xb (fC a b)) (dV 0) (dK (aT "quota")))) (aa (bz (aM Kg (ah (dV 5) (ah (dV 2) (ah (dV 4) au))) au)) af) (aa (aE (dT (dB (λa b=>Ox Xb (fw a b)) (dV 0) (b9 λx=>W8 [aT "lrm",aT "hamilton",aT "largest_remainder"]))) (aa (bz (aM Ki (ah (dV 5) (ah (dV 2) (ah (dV 4) au))) au)) af) (aa (aE (dT (dB (λa b=>Ox Xb (fw a b)) (dV 0) (b9 λx=>W8 [aT "dhondt",aT "jefferson",aT "saintelague",aT "webster",aT "modified_saintelague",aT "huntington",aT "hill",aT "adams",aT "dean",aT "smallestdivisor",aT "harmonicmean",aT "equalproportions",aT "majorfractions",aT "greatestdivisors"]))) (aa (bz (aM Kh (ah (dV 5) (ah (dV 2) (ah (dV 0) (ah (dV 4) au)))) au)) af) λx=>W9) af)) af)) af)) (by kernel_rfl)
theorem Na:cj (ar 28) [.none,.bool true] 3 [] (eu .none [.none,.bool true] [.inl 0,.inl 1,.inl 2,.inr 0,.inr 1]):=gJ (λ_ _ _ _ _ _ _ _ _ _ _ _ _ _ _ _ _ _ _ _=>rfl) rfl
def Kl:List V->Option V:=λxs=>cr 1 Lh.1 (eu .none [.none,.bool true] [.inl 0,.inl 1,.inl 2,.inr 0,.inr 1] xs)
theorem NT (W:Wd C):bY C 3 "compute" 3 [] Kl:=W.f28.c 1 (cx:=Mg) (Lh.2 W) (by decide+kernel) Na
def JU:RL->RK->RE:=qG 3 "compute" 3 [] Kl λp=>NT p.W
theorem M1:cj (ar 39) [] 0 [] id:=pat0 (λ_ _ _ _ _ _ _ _ _ _ _ _ _ _=>rfl) rfl
theorem M0:cj (ar 40) [] 0 [] id:=pat0 (λ_ _ _ _ _ _ _ _ _ _ _ _ _ _=>rfl) rfl
def ID:List V->Option V:=cr 0 K6.1
def IC:List V->Option V:=cr 0 K5.1
theorem DD (W:Wd C)(hg:("_law_names":Str)∈cx.globs):aC C (k+1) cx (.Call (.Name "_law_names" p) [] [] pos) (λ_=>ID (id [])):=by obtain⟨f,fd,hm,R⟩:=W.f39;exact qK hg hm (((R.okB (cx:=IE) (by decide+kernel)).fun 0 (K6.2 W)).le (QJ _)) (M1 f fd _ R)
theorem DC (W:Wd C)(hg:("_law_methods":Str)∈cx.globs):aC C (k+1) cx (.Call (.Name "_law_methods" p) [] [] pos) (λ_=>IC (id [])):=by obtain⟨f,fd,hm,R⟩:=W.f40;exact qK hg hm (((R.okB (cx:=IE) (by decide+kernel)).fun 0 (K5.2 W)).le (QJ _)) (M0 f fd _ R)
def MR:RE:=λcx k e=>qh (β:=λk=>jE cx k e) k λk=>ft (β:=λe=>jE cx (k+1) e) e λn q as ks p=>cg (β:=λas=>jE cx (k+1) (.Call (.Name n q) as ks p)) as (cg (β:=λks=>jE cx (k+1) (.Call (.Name n q) [] ks p)) ks (ck (n== "_law_names") λh1=>ck (cx.globs.contains n) λh2=>W8 ⟨λ_=>ID (id []),λp=>by have h2:=Aw h2;rw[eq_of_beq h1]at h2⊢;exact DD p.W h2⟩))
def MQ:RE:=λcx k e=>qh (β:=λk=>jE cx k e) k λk=>ft (β:=λe=>jE cx (k+1) e) e λn q as ks p=>cg (β:=λas=>jE cx (k+1) (.Call (.Name n q) as ks p)) as (cg (β:=λks=>jE cx (k+1) (.Call (.Name n q) [] ks p)) ks (ck (n== "_law_methods") λh1=>ck (cx.globs.contains n) λh2=>W8 ⟨λ_=>IC (id []),λp=>by have h2:=Aw h2;rw[eq_of_beq h1]at h2⊢;exact DC p.W h2⟩))
noncomputable section
def mr (n:Nat):List V->List V->Option (List V)
 | [],x=>W8 x
 |v::vs,x=>match v with
  | .list as=>(dy [.list as,.int n]).bind λt=>if x.length<lim then mr n vs (x++ [t])else W9
  |_=>W9
theorem yz {f:List V->Option α}{r:α}(h:(match x with | .list a=>f a |_=>W9)=W8 r)(k:∀a,x= .list a->f a=W8 r->P):P:=by
 cases x with
 |list a=>exact k a rfl h
 |_=>exact absurd h aI
theorem uj (cl nm:List V)(z:V)(h:cl.length<=lim):wj [.inst 1 [.list cl,.list nm,z]]=W8 (.int cl.length):=by show Oy (Oy (Ox _ (aP (.list cl))) _) _=_;refine ab (show aP (.list cl)=W8 (.int cl.length)from if_pos h) ?_;rfl
theorem Du (cl nm:List V)(z:V)(as:List V)(h:cl.length<=lim):Kc [.inst 1 [.list cl,.list nm,z],.list as]=dy [.list as,.int cl.length]:=by
 have eA:aM dy (ah (dV 1) au) (ah (gy (dV 0)) au) (c0 1 [.inst 1 [.list cl,.list nm,z],.list as])=dy [.list as,.int cl.length]:=by show Oy (Oy (Oy (wj [.inst 1 [.list cl,.list nm,z]]) _) _) _=_;refine ab (uj cl nm z h) ?_;rfl
 show Oy (Oy (Oy (ak 2 (aM dy (ah (dV 1) au) (ah (gy (dV 0)) au)) (c0 1 [.inst 1 [.list cl,.list nm,z],.list as])) _) _) _=_;unfold ak;refine ab eA ?_;cases dy [.list as,.int cl.length]<;>rfl
theorem E5 (cl nm:List V)(l:OO)(x:List V)(as:List V)(h:cl.length<=lim):FM l x [.inst 1 [.list cl,.list nm,.adr l],.list as]=(dy [.list as,.int cl.length]).bind λt=>if x.length<lim then W8 (x++ [t])else W9:=by
 show(if l=l then _ else _:Option (List V×ai)).map _=_;refine ab (if_pos rfl) ?_;show(((Kc [.inst 1 [.list cl,.list nm,.adr l],.list as])).bind λt=>if x.length<lim then _ else _).map _=_;refine ab (Du _ _ _ _ h) ?_;cases dy [.list as,.int cl.length]with
 |none=>rfl
 |some t=>
  show(if x.length<lim then _ else _:Option (List V×ai)).map _=(if x.length<lim then _ else _);by_cases h:x.length<lim
  ·refine ab (if_pos h) (ab (if_pos h) ?_);rfl
  ·refine ab (if_neg h) (ab (if_neg h) ?_);rfl
theorem oi {cl nm:List V}{l:OO}(hl:cl.length<=lim):∀(vs x r:List V) (q z:Option V),mr cl.length vs x=W8 r->∃σ',dR (cH 2) (iF 1 (FM l) (dV 0) (ah (dV 2) au) au) vs x [W8 (.inst 1 [.list cl,.list nm,.adr l]),q,z]=W8 (r,σ')
 | [],x,r,q,z,h=>by cases h;exact⟨_,rfl⟩
 |v::vs,x,r,q,z,h=>yz h λas hv h=>ay h λt ht h=>f7 h λhx h=>by refine ab hv ?_;obtain⟨σ',e⟩:=oi hl vs (x++ [t]) r q (W8 (.list as)) h;refine⟨σ',?_⟩;show(((FM l x [.inst 1 [.list cl,.list nm,.adr l],.list as])).map λx'=>(x',[W8 (V.inst 1 [.list cl,.list nm,.adr l]),q,W8 (.list as)])).bind (λr=>dR (cH 2) (iF 1 (FM l) (dV 0) (ah (dV 2) au) au) vs r.1 r.2)=_;refine ab (E5 _ _ _ _ _ hl) (ab ht ?_);show((if x.length<lim then _ else _:Option (List V)).map _).bind _=_;refine ab (if_pos hx) ?_;exact e
theorem zf {cl nm:List V}{l:OO}{vs x r:List V}(hl:cl.length<=lim)(h:mr cl.length vs x=W8 r):BW l x [.inst 1 [.list cl,.list nm,.adr l],.list vs]=W8 r:=by obtain⟨σ',e⟩:=oi (l:=l) (nm:=nm) hl vs x r (W8 (.list vs)) W9 h;show(dR (cH 2) (iF 1 (FM l) (dV 0) (ah (dV 2) au) au) vs x [W8 (.inst 1 [.list cl,.list nm,.adr l]),W8 (.list vs),W9]).map _=_;refine ab e ?_;rfl
theorem GH:([1,2,3,4,5,6].map λN:Int=>mC [.int N])=([1,2,3,4,5,6].map λN:Int=>W8 (.inst 1 [.list (cy 0 N.toNat),.list (.replicate N.toNat .any),.list []])):=by kernel_rfl
def FK (d:ED)(i j:Nat):ai->Option (List V×List V×List V×ai):=λσ=>(d σ).bind λt=>match t with
 | .int n=>if n∈ [1,2,3,4,5,6]/\ i<σ.length then(aK σ j).bind λv=>(match v with
   | .list vs=>(mr n.toNat vs []).map λvo=>(cy 0 n.toNat,OS n.toNat .any,vo,σ)
   |_=>W9)else W9
 |_=>W9
theorem MS:∀n∈ [1,2,3,4,5,6],n.toNat=(n.toNat - 1)+1/\ n.toNat<=lim/\ ((n.toNat:Nat):Int)=n:=by decide
theorem E3 {i:Nat}(Zm:j≠i):∀σ cl nm vo σ',FK d i j σ=W8 (cl,nm,vo,σ')->KW mC d i 1 (λl=>iF 1 (BW l) (dV i) (ah (dV j) au) au) σ cl nm vo σ':=by
 injections j d i _ Zm;exact λσ cl nm vo σ' e=>
  ay e λt ht e=>nY e λn hn e=>f7 e λhc e=>ay e λv hv e=>yz e λvs Zl e=>dF e λvo' hf e=>by
   have h1:cl=cy 0 n.toNat:=(congrArg (·.1) e).symm;have h2:nm=OS n.toNat .any:=(congrArg (·.2.1) e).symm;have h3:vo=vo':=(congrArg (·.2.2.1) e).symm;have h4:σ'=σ:=(congrArg (·.2.2.2) e).symm;obtain⟨hm,ZB,hn'⟩:=MS n hc.1;have hp:=Rl.mp GH n hc.1;refine ab h1 (ab h2 (ab h3 (ab h4 ?_)));have Xz:n.toNat≠0:=hm▸Nat.succ_ne_zero _;refine .mk ⟨?_,?_⟩ ⟨?_,?_⟩ (ht.trans (congrArg W8 hn)) hp hc.2 λl=> ?_
   ·exact λh=>Xz (Ql.symm.trans ((OA _).symm.trans (congrArg TL h)))
   ·exact Ou.mpr λt ht=>by obtain⟨a,_,h⟩:=OM.mp ht;exact h▸rfl
   ·exact λh=>Xz (List.length_replicate.symm.trans (congrArg TL h))
   ·exact Ou.mpr λt ht=>List.eq_of_mem_replicate ht▸rfl
   ·have e2:dV j (aw σ i (W8 (.inst 1 [.list (cy 0 n.toNat),.list (OS n.toNat .any),.adr l])))=W8 (.list vs):=(aU Zm).trans (hv.trans (congrArg W8 Zl))
    have e3:dV i (aw σ i (W8 (.inst 1 [.list (cy 0 n.toNat),.list (OS n.toNat .any),.adr l])))=W8 (.inst 1 [.list (cy 0 n.toNat),.list (OS n.toNat .any),.adr l]):=bZ hc.2;have hl:(cy 0 n.toNat).length=n.toNat:=(OA _).trans Ql;unfold iF ah au;refine ab e3 (ab e2 ?_);show((BW l [] [.inst 1 [.list (cy 0 n.toNat),.list (OS n.toNat .any),.adr l],.list vs]).map _)=_;refine ab (zf (hl.symm▸ZB) (hl.symm▸hf)) ?_;rfl
end
def MG (rest:r5):r5:=λcx k oc s O=>qh (β:=λk=>qi cx k oc s O) k λk=>cR (β:=λs=>qi cx (k+1) oc s O) s λs1 s=>cR (β:=λs=>qi cx (k+1) oc (s1::s) O) s λs2 r=>nN (β:=λs1=>qi cx (k+1) oc (s1::s2::r) O) s1 λsn Xq ce p3=>lJ (β:=λce=>qi cx (k+1) oc (.Assign [.Name sn Xq] ce p3::s2::r) O) ce λfn q Xj p1 hs=>
 GX (β:=λs2=>qi cx (k+1) oc (.Assign [.Name sn Xq] (.Call (.Name fn q) [Xj] [] p1) p3::s2::r) O) s2 λe sp=>kS (β:=λe=>qi cx (k+1) oc (.Assign [.Name sn Xq] (.Call (.Name fn q) [Xj] [] p1) p3:: .Expr e sp::r) O) e λo a ap as ks pos=>Jj (β:=λo=>qi cx (k+1) oc (.Assign [.Name sn Xq] (.Call (.Name fn q) [Xj] [] p1) p3:: .Expr (.Call (.Attribute o a ap) as ks pos) sp::r) O) sn o λoq=>
 uh (β:=λas=>qi cx (k+1) oc (.Assign [.Name sn Xq] (.Call (.Name fn q) [Xj] [] p1) p3:: .Expr (.Call (.Attribute (.Name sn oq) a ap) as ks pos) sp::r) O) as λv=>bN (β:=λv=>qi cx (k+1) oc (.Assign [.Name sn Xq] (.Call (.Name fn q) [Xj] [] p1) p3:: .Expr (.Call (.Attribute (.Name sn oq) a ap) [v] ks pos) sp::r) O) v λvn vp=>cg (β:=λks=>qi cx (k+1) oc (.Assign [.Name sn Xq] (.Call (.Name fn q) [Xj] [] p1) p3:: .Expr (.Call (.Attribute (.Name sn oq) a ap) [.Name vn vp] ks pos) sp::r) O) ks
 (pA cx sn λi h1 h2 h3=>IB cx vn λj g1 g2=>ck (cx.globs.contains fn) λf1=>ck (fn== "Profile") λf2=>ck (a== "add_voters") λf3=>ck (ap.endLine==pos.line) λf4=>ck (k==7) λf5=>ck (!(j==i)) λf6=>Xp (d5 bh cx (k+1) Xj) λd=>Xp (rest cx (k+1) oc r O) λz=>W8 ⟨aa (zu i 1 (FK d.d i j)) z.d,λp=>by have f5:=eq_of_beq f5;have f3:=eq_of_beq f3;subst f5 f3;exact xn h1 h2 h3 (Aw f1) (eq_of_beq f2▸p.W.gP) (wo p.W) (d.h p) (λl=>lf p.W.KP (HV p.W l) (a8 h1 h2) (Mine.args_cons (a8 g1 g2) Mine.args_nil) fZ _ (yr (λ_ _ _=>rfl) f4 λ_=>rfl)) (E3 (ne_of_beq_false (As f6))) (z.h p) (λ_=>rfl) (λenv pos=>by rw[hs];rfl) hs⟩)
def cL:Cx:= {vars:= [("script",0),("numbers",1),("name",2),("parties",3),("seats",4),("sizes",5),("people",6),("method",7),("chosen",8),("filled",9),("lists",10),("blocks",11),("party",12),("members",13),("free",14),("pick",15),("one",16),("held",17),("due",18),("lower",19),("within",20),("voters",21),("place",22),("profile",23),("rows",24)],globs:= ["len","_law_names","abs","sum","min","_law_methods","compute","range","max","Profile","check","set","within_quota","_law_quota","sorted"],own:= [],mn:= ["parties","seats","sizes","people","chosen","lists","party","members","one","rows"],caps:= ["parties","seats","sizes","people","chosen","lists","party","members","one","rows"]}
def i5:Cx:= {vars:= [("parties",3),("number",25)],globs:= ["abs"],own:= [],fre:= [3]}
def i8:Cx:= {vars:= [("seat",26)],globs:= [],own:= []}
def Hn:Cx:= {vars:= [("number",25)],globs:= [],own:= []}
def L0:Cx:= {vars:= [("lists",10),("party",12),("k",27)],globs:= ["sum"],own:= [],fre:= [10,12]}
def JH:Cx:= {vars:= [("block",28),("k",29)],globs:= [],own:= []}
def EI:Cx:= {vars:= [("one",16),("k",29)],globs:= [],own:= [],fre:= [16]}
def IA:Cx:= {vars:= [("members",13),("block",28)],globs:= ["len"],own:= [],fre:= [13],caps:= ["members"]}
def vW:Cx:= {vars:= [("members",13),("k",29)],globs:= [],own:= [],fre:= [13]}
def LZ:Cx:= {vars:= [("sizes",5),("seats",4),("people",6),("chosen",8),("party",30)],globs:= [],own:= [],fre:= [5,4,6,8]}
def LY:Cx:= {vars:= [("sizes",5),("seats",4),("party",30),("k",31)],globs:= ["range"],own:= [],fre:= [5,4]}
def LV:Cx:= {vars:= [("rows",24),("party",30)],globs:= ["len"],own:= [],fre:= [24],mn:= ["party"],caps:= ["party"]}
def Hm:Cx:= {vars:= [("party",30),("row",32)],globs:= [],own:= [],fre:= [30]}
def dI (i:Int):ED:=dK (.int i)
def dE (a b:ED):ED:=dB (λa b=>Ox Xb (fC a b)) a b
def zw (f:V->V->Option Bool)(a b:ED):ED:=dB (λa b=>Ox (λc=>Xb !c) (f a b)) a b
def zx (a b:ED):ED:=dB (bf λa b=>decide (a<b)) a b
def jn (i:Int):ED:=dU qr (dB aZ (dV 1) (dI i))
def Bu (a:ai->Option Bool)(b:SD):SD:=aE a b af
def lF:SD:=aa (bz (dK (.bool false))) af
def m0:ai->Option Bool:=λ_=>W8 true
def pN:ED:=b9 (ah (dI 1) (ah (dI 0) (ah (dI 1) (ah (dI 1) (ah (dI 2) (ah (dI 0) (ah (dI 3) (ah (dI 1) (ah (dI 4) (ah (dI 2) au))))))))))
def XA:SD:=ak 1 (dB bJ (gG (dV 0) W9 (W8 (dI 10))) (gG pN (W8 (dU aP (dV 0))) W9))
def l2:SD:=ak 2 (dB aZ (λ_=>ID []) (dB fU (jn 0) (dI 6)))
def l3:SD:=ak 3 (dB bJ (dI 2) (dB fU (jn 1) (dI 2)))
def l4:SD:=ak 4 (dB bJ (dI 1) (dB fU (jn 2) (dI 3)))
def q0 (i:Int):ED:=ba i5 (cO (gG (dV 1) (W8 (dI i)) (W8 (dB bJ (dI i) (dV 3))))) (aj (bg 25) m0 (aF (dB bJ (dI 1) (dB fU (dU qr (dV 25)) (dB iw (dI 5) (dV 3))))))
def l5:SD:=ak 5 (q0 3)
def l6:SD:=ak 6 (dU dn (dV 5))
def l7:SD:=Bu (cw (dT (dE (dV 2) (dK (aT "fjr")))) (cw (dT (dB (bf λa b=>decide (b<a)) (dV 6) (dI 4))) m0)) (aa (ak 4 (dB sf (dV 4) (dI 2))) af)
def l8:SD:=ak 7 (dB aZ (λ_=>IC []) (dB fU (dB d2 (jn 0) (dI 6)) (dI 8)))
def l9:SD:=ak 8 (ba i8 (cO (aM Kl (ah (dV 7) (ah (gG (dV 5) W9 W9) (ah (dV 4) au))) au)) (aj (bg 26) m0 (aF (dV 26))))
def Iu:SD:=ak 9 (dE (dB fU (jn 6) (dI 2)) (dI 0))
def Ew:SD:=aa (ak 10 (ba Hn (cO (dV 8)) (aj (bg 25) m0 (aF (dB bJ (dV 25) (dI 1)))))) af
def Jx:SD:=aa (ak 10 (q0 7)) (aa (bB (dT (zx (dU dn (dV 10)) (dV 4))) (aa (tj 10 (dI 0) (dB bJ (dB aZ (dV 10) (dI 0)) (dI 1))) af) 8) af)
def Ex:SD:=aE (dT (dV 9)) Ew Jx
def DK:ai->Option (List V):=aX (dI 0) (dV 3)
def Eu:SD:=ak 11 (b9 au)
def Et:SD:=bR DK (cH 12) (aa (pR 11 (ba L0 (aX (dI 0) (dB aZ (dV 10) (dV 12))) (aj (bg 27) m0 (aF (dB bJ (dU dn (gG (dV 10) W9 (W8 (dV 12)))) (dV 27)))))) af)
def yF:SD:=aa (ak 13 (b9 au)) (aa (bR DK (cH 12) (aa (ak 13 (dB bJ (dV 13) (gG (dB aZ (dV 11) (dV 12)) W9 (W8 (dB aZ (dV 8) (dV 12)))))) af)) af)
def DR:SD:=aa (ak 16 (dB aZ (dV 14) (dB fU (dV 15) (dU aP (dV 14))))) (aa (ak 15 (dB d2 (dV 15) (dU aP (dV 14)))) (aa (pR 13 (dV 16)) (aa (ak 14 (ba EI (cO (dV 14)) (aj (bg 29) (dT (zw fC (dV 29) (dV 16))) (aF (dV 29))))) af)))
def Jw:SD:=aa (ak 14 (ba JH (cO (dV 11)) (aj (bg 28) m0 (ku (cO (dV 28)) (aj (bg 29) m0 (aF (dV 29))))))) (aa (ak 13 (b9 au)) (aa (ak 15 (dB d2 (jn 6) (dI 2))) (aa (bB (dT (zx (dU aP (dV 13)) (dV 4))) DR 8) af)))
def Es:SD:=aE (dT (dV 9)) yF Jw
def Ny:SD:=ak 17 (ba IA (cO (dV 11)) (aj (bg 28) m0 (aF (dU aP (ba vW (cO (dV 28)) (aj (bg 29) (dT (dB (λa b=>Ox Xb (fw a b)) (dV 29) (dV 13))) (aF (dV 29))))))))
def Nx:SD:=ak 18 (dK (.bool true))
def jl:SD:=aa (ak 19 (dB d2 (dB c8 (dB aZ (dV 5) (dV 12)) (dV 4)) (dV 6))) (aa (Bu (dT (zx (dB aZ (dV 17) (dV 12)) (dB sf (dV 19) (wl (dT (dE (dV 2) (dK (aT "jr")))) (dI 1) (dB aZ (dV 10) (dV 12)))))) (aa (ak 18 (dK (.bool false))) af)) af)
def Hi:SD:=bR DK (cH 12) jl
def Hf:SD:=ak 20 (ba LZ DK (aj (bg 30) m0 (aF (to (bf λa b=>decide (a<=b)) (bf λa b=>decide (a<=b)) (dB d2 (dB c8 (dB aZ (dV 5) (dV 30)) (dV 4)) (dV 6)) (dB aZ (dV 8) (dV 30)) (dU iy (dB d2 (dB c8 (dU iy (dB aZ (dV 5) (dV 30))) (dV 4)) (dV 6)))))))
def Nw:SD:=ak 21 (b9 au)
def Hd:SD:=bR (aX (dI 0) (dU AB (dV 5))) (cH 22) (aa (bR DK (cH 12) (aa (Bu (dT (zx (dV 22) (dB aZ (dV 5) (dV 12)))) (aa (pR 21 (gG (dB aZ (dV 11) (dV 12)) W9 W9)) af)) af)) af)
def LK:SD:=zu 23 1 (FK (dU dn (dV 10)) 23 21)
def LJ:SD:=Bu (dT (zw qg (aM wL (ah (dV 2) (ah (dV 23) (ah (aan (cO (dV 13))) au))) (ah (dK (aT "brute-force")) au)) (dV 18))) lF
def LH:SD:=Bu (dT (zw qg (aM Kj (ah (gG (dV 5) W9 W9) (ah (gG (dV 8) W9 W9) au)) au) (zw fw (dK (.bool false)) (dV 20)))) lF
def LG:SD:=Bu (cw (dT (dB (λa b=>Ox Xb (fw a b)) (dV 7) (dK (.list [aT "largest_remainder",aT "quota"])))) (cw (dT (dB (λa b=>Ox Xb (fw a b)) (dK (.bool false)) (dV 20))) m0)) lF
def LD:SD:=Bu (cw (dT (dE (dV 7) (dK (aT "quota")))) (cw (dT (zw AF (dV 8) (aM Kf (ah (dV 5) (ah (dV 4) au)) au))) m0)) lF
def Jv:SD:=ak 24 (gG (dU r9 (ba LY DK (aj (bg 30) m0 (ku (aX (dI 0) (dV 4)) (aj (bg 31) m0 (aF (dj (ah (dB c8 (dU iy (dB aZ (dV 5) (dV 30))) (dB aZ (b9 (ah (dI 6) (ah (dI 3) (ah (dI 2) au)))) (dV 31))) (ah (dV 30) au))))))))) W9 (W8 (dV 4)))
def LC:SD:=Bu (cw (dT (dE (dV 7) (dK (aT "dhondt")))) (cw (dT (zw AF (dV 8) (ba LV DK (aj (bg 30) m0 (aF (dU aP (ba Hm (cO (dV 24)) (aj (bg 32) (dT (dE (dB aZ (dV 32) (dI 1)) (dV 30))) (aF (dV 32)))))))))) m0)) lF
def FC:SD:=bz (FL (dV 18) (FL (BR (dV 9)) (zw fw (dV 7) (dK (.list [aT "dhondt",aT "largest_remainder",aT "quota"])))))
def lT:SD:=aa LH (aa LG (aa LD (aa Jv (aa LC (aa FC af)))))
def lB:SD:=aa Ny (aa Nx (aa Hi (aa Hf (aa Nw (aa Hd (aa LK (aa LJ lT)))))))
def lA:SD:=aa XA (aa l2 (aa l3 (aa l4 (aa l5 (aa l6 (aa l7 (aa l8 (aa l9 (aa Iu (aa Ex (aa Eu (aa Et (aa Es lB)))))))))))))
def IP:=fE cL 8 (ar 42).2.1 (sx (sA (qb (xT bh Xl (Xm qc)) (xT (pk (qe (cm (Xv qc (Xv qc (Xv qc (Xv qc (Xv qc (Xv qc (Xv qc (Xv qc (Xv qc (Xv qc Xy))))))))))))) (Xm (bS bh)) Xl))) (sx (sA (bx (pk MR) (qb (q7 (pk (bx bh qc))) qc))) (sx (sA (qb qc (qb (q7 (pk (bx bh qc))) qc))) (sx (sA (qb qc (qb (q7 (pk (bx bh qc))) qc))) (sx (mY i5 false (cN (xT bh (Xm qc) (Xm (qb qc qv)))) (lz Xn eJ (qb qc (qb (q7 bh) (qb qc qv))))) (sx (sA (d5 bh)) (sx (bX (gn (cu qv qc) (gn (cu qv qc) fX)) (sx (sA (Gz qv qc)) Xx) Xx) (sx (sA (bx (pk MQ) (qb (qb (q7 (pk (bx bh qc))) qc) qc))) (sx (mY i8 false (cN (JU (Xv qv (Xv (xT bh Xl Xl) (Xv qv Xy))) k0)) (lz Xn eJ qv)) (sx (sA (qC oC (qb (q7 (pk (bx bh qc))) qc) qc)) (sx (bX (qt bh) (sx (mY Hn false (cN qv) (lz Xn eJ (qb qv qc))) Xx) (sy [10] (DH 10 i5 false (cN (xT bh (Xm qc) (Xm (qb qc qv)))) (lz Xn eJ (qb qc (qb (q7 bh) (qb qc qv))))) (sx (Gq 8 (cu (d5 qo) qv) (sx (DF qc (qb (bx qo qc) qc)) Xx)) Xx))) (sy [11] (sF 11 (cm Xy)) (sx (dL false (r1 qv) t1 (sx (xJ (qe (gq L0 false (r1 (bx bh qv)) (lz Xn eJ (qb (d5 (pk (xT bh Xl (Xm qv)))) qv))))) Xx)) (xz [] (sx (bX (qt bh) (sx (sA (qe (cm Xy))) (sx (dL false (r1 qv) t1 (sx (sA (qb qv (xT (pk (bx bh qv)) Xl (Xm (bx bh qv))))) Xx)) Xx)) (sx (mY JH false (cN qv) (lm false Xn eJ (cN qv) (lz Xn eJ qv))) (sy [13] (sF 13 (cm Xy)) (sx (sA (qb (q7 (pk (bx bh qc))) qc)) (sx (Gq 8 (cu (bS qo) qv) (sx (sA (bx bh (qb qv (bS bh)))) (sx (sA (qb qv (bS bh))) (sx (xJ qv) (sx (mY EI false (cN qv) (lz Xn (CC (cu qv qv)) qv)) Xx))))) Xx))))) (sx (mY IA false (cN qv) (lz Xn eJ (bS (pk (qe (gq vW false (cN qv) (lz Xn (CC (rZ qv bh)) qv))))))) (sx (sA qc) (sx (dL false (r1 qv) t1 (sx (sA (qb (qb (bx bh qv) qv) qv)) (sx (bX (cu (bx bh qv) (Gz qv (GC (cu qv qc) qc (bx bh qv)))) (sx (sA qc) Xx) Xx) Xx))) (sx (mY LZ false (r1 qv) (lz Xn eJ (DP (qb (qb (bx bh qv) qv) qv) (bx bh qv) (jR (qb (qb (jR (bx bh qv)) qv) qv))))) (sy [21] (sF 21 (cm Xy)) (sx (dL false (r1 (GA bh)) t1 (sx (dL false (r1 qv) t1 (sx (bX (cu qv (bx bh qv)) (sx (xJ (xT (pk (bx bh qv)) Xl Xl)) Xx) Xx) Xx)) Xx)) (xz [] (MG (sx (bX (cu (J7 (Xv qv (Xv qv (Xv (qe (q6 (vX bh))) Xy))) (kc qc k0)) qv) (sx (sR qc) Xx) Xx) (sx (bX (cu (JS (Xv (xT bh Xl Xl) (Xv (xT bh Xl Xl) Xy)) k0) (qN qc bh)) (sx (sR qc) Xx) Xx) (sx (bX (gn (rZ qv (pk (qe (cm lS)))) (gn (rZ qc bh) fX)) (sx (sR qc) Xx) Xx) (sx (bX (gn (cu qv qc) (gn (Fy oL qv (JO (Xv qv (Xv qv Xy)) k0)) fX)) (sx (sR qc) Xx) Xx) (sx (sA (xT (pk (DO (pk (qe (gq LY false (r1 qv) (lm false Xn eJ (r1 qv) (lz Xn eJ (ef (Xv (qb (jR (bx bh qv)) (bx (pk (qe (cm (Xv qc (Xv qc (Xv qc Xy)))))) qv)) (Xv qv Xy)))))))))) Xl (Xm qv))) (sx (bX (gn (cu qv qc) (gn (Fy oL qv (qe (gq LV false (r1 qv) (lz Xn eJ (bS (pk (qe (gq Hm false (cN qv) (lz Xn (CC (cu (bx bh qc) qv)) qv))))))))) fX)) (sx (sR qc) Xx) Xx) (sx (sR (Ly qv (Ly (IY qv) (IX (qN qv (pk (qe (cm lS)))))))) Xx)))))))))))))))))))))))))))))) lA (by kernel_rfl)
def pc (b:Nat):Nat:=UP (Se 5266721624626081916652898579601397356032429460333936579656 (Nat.mul 3 b)) 7
def f9 (b c:Nat):Bool:=Rv 1 (UP (Se b c) 1)
theorem z0 {p:Nat->Prop}[DecidablePred p](h:(Oo 64).all (λb=>decide (p b))=true){b:Nat}(hb:b<64):p b:=by have:=Ou.mp h b (OF.mpr hb);exact of_decide_eq_true this
theorem pg {b:Nat}(hb:b<64):(az b).length=pc b:=z0 (p:=λb=>(az b).length=pc b) (by decide+kernel) hb
theorem Bz {b c:Nat}(hb:b<64):decide ((c:Int)∈az b)=f9 b c:=by
 by_cases hc:c<6
 ·exact z0 (p:=λb=> ∀c:Nat,c<6->decide ((c:Int)∈az b)=f9 b c) (by decide+kernel) hb c hc
 ·have h1:f9 b c=false:=by unfold f9;refine(show Se b c=0 from Nat.shiftRight_eq_zero b c (OL hb (PO (n:=2) (i:=6) (by decide) (R8.mp hc))))▸ ?_;rfl
  simp only[h1];refine decide_eq_false λh=>hc ?_;obtain⟨n,hn,e⟩:=OM.mp h;have:=(SA.mp hn).1;exact(Rr e)▸OF.mp this
theorem nK {b:Nat}(hb:b<64):pc b<=6:=z0 (p:=λb=>pc b<=6) (by decide+kernel) hb
theorem u0 {a b:Nat}(ha:a<64):a&&&b<64:=OW UZ ha
theorem i0 {a b:Nat}(ha:a<64)(hb:b<64):a |||b<64:=R6 (n:=6) ha hb
def dm (a:Nat):V:= .inst 2 [.set (az a),.int 1]
theorem k6 {a b:Nat}(ha:a<64)(hb:b<64):bW (.set (az a)) (.set (az b))=W8 (.set (az (a&&&b))):=by show W8 (Xg (az (cB (az a)&&&cB (az b))))=_;exact ab (bT ha) (ab (bT hb) rfl)
theorem DZ {a b:Nat}(ha:a<64)(hb:b<64):eF (.set (az a)) (.set (az b))=W8 (.set (az (a |||b))):=by show W8 (Xg (az (cB (az a) |||cB (az b))))=_;exact ab (bT ha) (ab (bT hb) rfl)
theorem dY {b:Nat}(hb:b<64):aP (.set (az b))=W8 (.int (pc b)):=by have h:(az b).length<=lim:=Op (pg hb▸nK hb) (by decide);show(if(az b).length<=lim then W8 (Xc (az b).length)else W9)=_;exact ab (if_pos h) (ab (pg hb) rfl)
theorem s5 {b c:Nat}(hb:b<64):fw (.int c) (.set (az b))=W8 (f9 b c):=by show(if(az b).length<4000 then W8 (decide ((c:Int)∈az b))else W9)=_;exact ab (if_pos (show(az b).length<4000 from OW (pg hb▸nK hb) (by decide))) (ab (Bz hb) rfl)
theorem sg {a:Nat}(ha:a<64)(hm:m<64):(bW (.set (az a)) (.set (az m))).bind aP=W8 (.int (pc (a&&&m))):=by refine ab (k6 ha hm) ?_;exact dY (u0 ha)
def cnt (p:Nat->Bool):List Nat->Nat
 | []=>0
 |a::as=>(if p a then 1 else 0)+cnt p as
theorem j2 (p:Nat->Bool):∀as,cnt p as<=as.length
 | []=>O5 _
 |a::as=>by
  show(if p a then 1 else 0)+cnt p as<=as.length+1;have:=j2 p as;split
  ·exact Op (O2 (SX _ _)) (Q6 this)
  ·exact Op (O2 (O1 _)) (aaS this)
def Bc (n k:Nat):Option V:=eV [.int n,.int k]
theorem cq {f g:α->β}{l:List α}(h:l.map f=l.map g){a:α}(ha:a∈l):f a=g a:=Rl.mp h a ha
def uT (a m b n:Nat):List (Nat×Nat):=(Oo m).flatMap λi=>(Oo n).map λj=>(a+i,b+j)
theorem pT {a b n i:Nat}(hi:i<m)(hj:j<n):(a+i,b+j)∈uT a m b n:=OV.mpr ⟨i,OF.mpr hi,OM.mpr ⟨j,OF.mpr hj,rfl⟩⟩
def Gy (n k:Nat):V:= .inst 0 [.int (n/Nat.gcd n k:Nat),.int (k/Nat.gcd n k:Nat)]
theorem Bb:((uT 1 6 1 3).map λp=>(Bc p.1 p.2,((eV [.int p.1,Gy p.1 p.2]).bind (aS 0)).bind (λy=>d6 [y])))=(uT 1 6 1 3).map λp=>(W8 (Gy p.1 p.2),W8 (.int p.2)):=by kernel_rfl
theorem Ep:((uT 1 6 1 3).map λp=>(Oo 7).map λt:Nat=>(aao [Gy p.1 p.2]).bind (λz=>cA eW z (.int t)))=(uT 1 6 1 3).map λp=>(Oo 7).map λt=>W8 (.bool (decide (p.1<=p.2*t))):=by kernel_rfl
theorem Bq:((uT 1 6 1 3).map λp=>(uT 0 4 0 7).map λt=>((aao [Gy p.1 p.2]).bind λz=>cA dA z (.int t.1)).bind (λz=>cA eW z (.int t.2)))=(uT 1 6 1 3).map λp=>(uT 0 4 0 7).map λt=>W8 (.bool (decide (p.1*t.1<=p.2*t.2))):=by kernel_rfl
theorem zE:((uT 1 6 1 3).map λp=>(Oo 4).map λc:Nat=>(((aao [Gy p.1 p.2]).bind λz=>cA dA z (.int c)).bind (aS 0)).bind (λy=>ky [y]))=(uT 1 6 1 3).map λp=>(Oo 4).map λc=>W8 (.int ((p.1*c+(p.2 - 1))/p.2:Nat)):=by kernel_rfl
structure QF (n k:Nat) (q:V):Prop where
 ub:((eV [.int n,q]).bind (aS 0)).bind (λy=>d6 [y])=W8 (.int k)
 le:∀t,t<7->(aao [q]).bind (λz=>cA eW z (.int (t:Nat)))=W8 (.bool (decide (n<=k*t)))
 mul:∀c t,c<4->t<7->((aao [q]).bind λz=>cA dA z (.int (c:Nat))).bind (λz=>cA eW z (.int (t:Nat)))=W8 (.bool (decide (n*c<=k*t)))
 ceil:∀c,c<4->(((aao [q]).bind λz=>cA dA z (.int (c:Nat))).bind (aS 0)).bind (λy=>ky [y])=W8 (.int ((n*c+(k - 1))/k:Nat))
theorem qf {n:Nat}(hn:0<n/\ n<7)(hk:0<k/\ k<4):∃q,Bc n k=W8 q/\ QF n k q:=by injections k n _ hn hk;have h:=pT (a:=1) (m:=6) (b:=1) (n:=3) (i:=n - 1) (j:=k - 1) (U7 hn.1 hn.2) (U7 hk.1 hk.2);simp only[TW hn.1,TW hk.1]at h;have e:=cq Bb h;exact⟨_,congrArg (·.1) e,congrArg (·.2) e,λt ht=>cq (cq Ep h) (OF.mpr ht),λc t hc ht=>by have:=cq (cq Bq h) (pT (a:=0) (b:=0) hc ht);rw[O1,O1]at this;exact this,λc hc=>cq (cq zE h) (OF.mpr hc)⟩
def prf (as:List Nat)(N:Nat)(nm:List V):V:= .inst 1 [.list (cy 0 N),.list nm,.list (as.map dm)]
theorem pE (N:Nat):cy 0 N=(Oo N).map λc:Nat=>Xc (c:Int):=by exact QY λc _=>by rw[aa5]
theorem i4 {α:Type}{i:Nat}{Xp:SD}{f:α->V}{P:α->Bool}{r:V}{ff:ai->Prop}:∀(xs:List α),(∀x∈xs,∀σ,ff σ->if P x then ∃σ',Xp (aw σ i (W8 (f x)))=W8 (.ret r,σ')else ∃fl σ',(∀t,fl≠ .ret t)/\ Xp (aw σ i (W8 (f x)))=W8 (fl,σ')/\ ff σ')->
 ∀(σ:ai),ff σ->if xs.any P then ∃σ',aQ (cH i) Xp (xs.map f) σ=W8 (.ret r,σ')else ∃σ',aQ (cH i) Xp (xs.map f) σ=W8 (.next,σ')/\ ff σ'
 | [],_,σ,hI=>⟨σ,rfl,hI⟩
 |x::xs,h,σ,hI=>by
  have hx:=h x (.head _) σ hI;have e:aQ (cH i) Xp ((x::xs).map f) σ=(Xp (aw σ i (W8 (f x)))).bind λr=>match r.1 with | .ret _=>W8 r |_=>aQ (cH i) Xp (xs.map f) r.2:=rfl
  refine(e)▸ ?_;cases hp:P x with
  |true=>rw[hp]at hx;obtain⟨σ',hb⟩:=hx;refine ab T2 (ab hp (ab hb ?_));exact⟨σ',rfl⟩
  |false=>
   rw[hp]at hx;obtain⟨fl,σ',hf,hb,hI'⟩:=hx;rw[T2,hp,hb,Qm];have:=i4 xs (λy hy=>h y (.tail _ hy)) σ' hI';cases fl with
   |next=>exact this
   |cont=>exact this
   |ret t=>exact absurd rfl (hf t)
def FD (as:List Nat)(m n k:Nat)(c:Nat):Bool:=decide (n<=k*cnt (λa=>f9 a c&&decide (pc (a&&&m)=0)) as)
def qy:SD:=(aa
 (aE
   (cw (dT (dB (λa b=>Ox Xb (fw a b)) (dV 3) (dU (aR 2 0) (dV 7))))
     (cw
       (dT (dB (λa b=>Ox Xb (fC a b)) (dU aP (dB bW (dU (aR 2 0) (dV 7)) (dV 1))) (dK (Xc 0))))
       λx=>W8 true))
   (aa (wm 4 (dV 6)) (aa (tm 5 (dU (aR 2 1) (dV 7))) af)) af)
 af)
theorem Hj {P q:Option V}{c a i g gw:Nat}{x6 x7:Option V}(hm:m<64)(ha:a<64)(hi:i<6):
 ∃g',qy [P,W8 (.set (az m)),q,W8 (.int c),W8 (.set (az g)),W8 (.int gw),W8 (.int i),W8 (dm a),x8]=W8 (.next,[P,W8 (.set (az m)),q,W8 (.int c),W8 (.set (az g')),W8 (.int (((if f9 a c&&decide (pc (a&&&m)=0)then 1 else 0)+gw:Nat))),W8 (.int i),W8 (dm a),x8]):=by
 injections m x8 P q c a i g gw x6 x7 _ hm ha hi;have h1:∀z:Nat,((z:Int)==(0:Int))=decide (z=0):=λz=>by cases z<;>rfl
 generalize hσ: [P,W8 (.set (az m)),q,W8 (.int c),W8 (.set (az g)),W8 (.int gw),W8 (.int i),W8 (dm a),x8]=σ;have e1:dT (dB (λa b=>Ox Xb (fw a b)) (dV 3) (dU (aR 2 0) (dV 7))) σ=W8 (f9 a c):=by refine bV hσ ?_;show(((fw (.int c) (.set (az a))).map Xb).bind cZ)=_;refine ab (s5 ha) ?_;rfl
 have e2:dT (dB (λa b=>Ox Xb (fC a b)) (dU aP (dB bW (dU (aR 2 0) (dV 7)) (dV 1))) (dK (Xc 0))) σ=W8 (decide (pc (a&&&m)=0)):=by refine bV hσ ?_;show((((bW (.set (az a)) (.set (az m))).bind aP).bind λx=>(fC x (.int 0)).map Xb).bind cZ)=_;refine ab (k6 ha hm) ?_;show(((aP (.set (az (a&&&m)))).bind λx=>(fC x (.int 0)).map Xb).bind cZ)=_;refine ab (dY (u0 ha)) ?_;exact congrArg W8 (h1 _)
 have e3:cw (dT (dB (λa b=>Ox Xb (fw a b)) (dV 3) (dU (aR 2 0) (dV 7)))) (cw (dT (dB (λa b=>Ox Xb (fC a b)) (dU aP (dB bW (dU (aR 2 0) (dV 7)) (dV 1))) (dK (Xc 0)))) λx=>W8 true) σ=W8 (f9 a c&&decide (pc (a&&&m)=0)):=by
  unfold cw;refine ab e1 ?_;cases f9 a c with
  |false=>rfl
  |true=>show(dT _ σ).bind _=_;refine ab e2 ?_;cases decide (pc (a&&&m)=0)<;>rfl
 show ∃g',((((cw _ _ σ).bind _).bind _))=_;refine ab e3 ?_;cases f9 a c&&decide (pc (a&&&m)=0)with
 |false=>exact⟨g,hσ▸by rw[if_neg OD,O1];rfl⟩
 |true=>
  refine⟨cB (az g) ||| (1<<<i),hσ▸ ?_⟩;refine ab (if_pos rfl) (ab (SX 1 gw) ?_);have e4:wm 4 (dV 6) [P,W8 (.set (az m)),q,W8 (.int c),W8 (.set (az g)),W8 (.int gw),W8 (.int i),W8 (dm a),x8]=W8 (.next,[P,W8 (.set (az m)),q,W8 (.int c),W8 (.set (az (cB (az g) ||| (1<<<i)))),W8 (.int gw),W8 (.int i),W8 (dm a),x8]):=by show(if(0:Int)<=(i:Int)/\ (i:Int)<6 then _ else W9)=_;refine ab (if_pos ⟨PT _,PS.mpr hi⟩) ?_;rfl
  show(((wm 4 (dV 6) _).bind _).bind _)=_;refine ab e4 ?_;rfl
def iN (b:Bool):V:= .tup [.bool b,.any]
theorem ur {P q:Option V}{m c:Nat}{x8:Option V}(hm:m<64):∀(as:List Nat) (i g gw:Nat) (x6 x7:Option V),(∀a∈as,a<64)->i+as.length<=6->
 ∃g' y6 y7,aQ (eH 6 7) qy (dz i (as.map dm)) [P,W8 (.set (az m)),q,W8 (.int c),W8 (.set (az g)),W8 (.int gw),x6,x7,x8]=W8 (.next,[P,W8 (.set (az m)),q,W8 (.int c),W8 (.set (az g')),W8 (.int ((cnt (λa=>f9 a c&&decide (pc (a&&&m)=0)) as+gw:Nat))),y6,y7,x8])
 | [],i,g,gw,x6,x7,_,_=>⟨g,x6,x7,by show W8 _=_;rw[show cnt _ ([]:List Nat)=0 from rfl,O1]⟩
 |a::as,i,g,gw,x6,x7,ha,hi=>by simp only[Qf]at hi;obtain⟨XI,YQ⟩:=Hj (P:=P) (q:=q) (c:=c) (g:=g) (gw:=gw) (x6:=x6) (x7:=x7) (x8:=x8) hm (ha a (.head _)) (i:=i) (OL (aaG (Rg _)) hi);obtain⟨g',y6,y7,ZT⟩:=ur hm as (i+1) XI ((if f9 a c&&decide (pc (a&&&m)=0)then 1 else 0)+gw) (W8 (.int i)) (W8 (dm a)) (λb hb=>ha b (.tail _ hb)) (Op (O2 (aaF i as.length)) hi);refine⟨g',y6,y7,?_⟩;show(qy [P,W8 (.set (az m)),q,W8 (.int c),W8 (.set (az g)),W8 (.int gw),W8 (.int i),W8 (dm a),x8]).bind _=_;refine ab YQ ?_;refine Qj ZT ?_;simp only[show cnt (λa=>f9 a c&&decide (pc (a&&&m)=0)) (a::as)=(if f9 a c&&decide (pc (a&&&m)=0)then 1 else 0)+cnt (λa=>f9 a c&&decide (pc (a&&&m)=0)) as from rfl,WR,T8]
theorem xL {i:Nat}{b:Bool}(hd:dd σ=W8 .any)(hi:i<σ.length):aa (ak i dd) (aa (bz (dj (ah (dK (Xb b)) (ah (dV i) au)))) af) σ=W8 (.ret (iN b),aw σ i (W8 .any)):=by have h1:=bZ (t:=Xh) hi;show Oy (Ox _ (dd σ)) _=_;refine ab hd ?_;show Oy (Ox _ (Ox _ (Ox _ (Oy (aK (aw σ i (W8 .any)) i) _)))) _=_;refine ab h1 ?_;rfl
theorem eh {t:ED}{i:Nat}{b:Bool}(h:t σ=W8 (.bool b))(hd:dd σ=W8 .any)(hi:i<σ.length):
 (aa (aE (dT t) (aa (ak i dd) (aa (bz (dj (ah (dK (Xb false)) (ah (dV i) au)))) af)) af) af) σ=if b then W8 (.ret (iN false),aw σ i (W8 .any))else W8 (.next,σ):=by
 have ht:dT t σ=W8 b:=by unfold dT;refine ab h ?_;rfl
 have hr:=xL (b:=false) hd hi;generalize aa (ak i dd) (aa (bz (dj (ah (dK (Xb false)) (ah (dV i) au)))) af)=R at hr⊢
 delta aa aE
 refine(ht)▸ ?_;cases b with
 |false=>rfl
 |true=>show(R σ).bind _=_;refine ab hr ?_;rfl
def tS (i:Nat)(t dd:ED):SD:=aa (aE (dT t) (aa (ak i dd) (aa (bz (dj (ah (dK (Xb false)) (ah (dV i) au)))) af)) af) af
theorem ie {f:α->V}{xs:List α}{P:α->Bool}{i:Nat}{Xp:SD}{ff:ai->Prop}(hj:∀σ,ff σ->j<σ.length)(hI:ff σ)
 (h:∀x∈xs,∀σ,ff σ->if P x then ∃σ',Xp (aw σ i (W8 (f x)))=W8 (.ret (iN false),σ')else ∃fl σ',(∀t,fl≠ .ret t)/\ Xp (aw σ i (W8 (f x)))=W8 (fl,σ')/\ ff σ'):
 ((aa (λσ=>aQ (cH i) Xp (xs.map f) σ) (aa (ak j (dK Xh)) (aa (bz (dj (ah (dK (Xb true)) (ah (dV j) au)))) af))) σ).bind (λr=>match r.1 with | .ret t=>W8 t | .next=>W8 .none | .cont=>W9)=W8 (iN (!xs.any P)):=by
 have key:=i4 xs h σ hI;cases hp:xs.any P with
 |true=>rw[hp]at key;obtain⟨σ',e⟩:=key;show((aQ (cH i) Xp (xs.map f) σ).bind _).bind _=_;refine ab e ?_;rfl
 |false=>rw[hp]at key;obtain⟨σ',e,hI'⟩:=key;have hr:=xL (b:=true) (dd:=dK Xh) (σ:=σ') rfl (hj _ hI');generalize aa (ak j (dK Xh)) (aa (bz (dj (ah (dK (Xb true)) (ah (dV j) au)))) af)=R at hr⊢;show((aQ (cH i) Xp (xs.map f) σ).bind _).bind _=_;refine(e)▸ ?_;show(R σ').bind _=_;refine ab hr ?_;rfl
def Cu:SD:=(aa (ak 4 (dK (Xg (az 0))))
 (aa (ak 5 (dK (Xc 0)))
   (aa
     (bR (dO 1 2 (dV 0)) (eH 6 7) qy)
     (tS 8 (dB (cA eW) (aM aao (ah (dV 2) au) au) (dV 5)) (λσ=>if((dV 4 σ).isSome&&((dV 3 σ).isSome&&true))=true then W8 Xh else W9)))))
theorem iE {f:(Nat->Option V)->ai}(h:σ=f (aK σ)):∃x,σ=f x:=⟨_,h⟩
theorem Hk {n:Nat}{nm:List V}{q:V}(Q:QF n k q)(hm:m<64)(has_:∀a∈as,a<64)(hl:as.length<=6):FS [prf as N nm,.set (az m),q]=W8 (iN (!(Oo N).any (FD as m n k))):=by
 injections k m N as n nm q _ Q hm has_ hl;have key:=ie (i:=3) (j:=8) (f:=λc:Nat=>Xc (c:Int)) (P:=FD as m n k) (ff:=λσ=> ∃x:Nat->Option V,σ= [W8 (prf as N nm),W8 (.set (az m)),W8 q,x 3,x 4,x 5,x 6,x 7,x 8])
  (Xp:=Cu) (xs:=Oo N) (by rintro σ ⟨x,rfl⟩;show 8<9;decide) ⟨λ_=>W9,rfl⟩ (λc _ σ hI=>by
    obtain⟨x,rfl⟩:=hI;obtain⟨g',y6,y7,e⟩:=ur (P:=W8 (prf as N nm)) (q:=W8 q) (c:=c) (x8:=x 8) hm as 0 0 0 (x 6) (x 7) has_ (Op (O2 (O1 _)) hl);have hc:=Q.le (cnt (λa=>f9 a c&&decide (pc (a&&&m)=0)) as+0) (OW (Op (j2 _ as) hl) (by decide));have hb:Cu (aw [W8 (prf as N nm),W8 (.set (az m)),W8 q,x 3,x 4,x 5,x 6,x 7,x 8] 3 (W8 (.int c)))=tS 8 (dB (cA eW) (aM aao (ah (dV 2) au) au) (dV 5)) (λσ=>if((dV 4 σ).isSome&&((dV 3 σ).isSome&&true))=true then W8 Xh else W9) [W8 (prf as N nm),W8 (.set (az m)),W8 q,W8 (.int c),W8 (.set (az g')),W8 (.int ((cnt (λa=>f9 a c&&decide (pc (a&&&m)=0)) as+0:Nat))),y6,y7,x 8]:=by show((aQ (eH 6 7) qy (dz 0 (as.map dm)) _).bind _)=_;exact(congrArg (λz=>Oy z _) e)
    have ht:=eh (i:=8) (t:=dB (cA eW) (aM aao (ah (dV 2) au) au) (dV 5)) (dd:=λσ=>if((dV 4 σ).isSome&&((dV 3 σ).isSome&&true))=true then W8 Xh else W9) (σ:= [W8 (prf as N nm),W8 (.set (az m)),W8 q,W8 (.int c),W8 (.set (az g')),W8 (.int ((cnt (λa=>f9 a c&&decide (pc (a&&&m)=0)) as+0:Nat))),y6,y7,x 8]) hc rfl (by show 8<9;decide);refine ab hb (ab (show tS 8 _ _ _=_ from ht) ?_);show if FD as m n k c=true then _ else _
    cases h:decide (n<=k*(cnt (λa=>f9 a c&&decide (pc (a&&&m)=0)) as+0))with
    |true=>refine ab (if_pos (show FD as m n k c=true from h)) ?_;exact⟨_,rfl⟩
    |false=>rw[if_neg (by refine ab (show FD as m n k c=false from h) ?_;decide)];exact⟨_,_,by rintro t ⟨⟩,rfl,iE rfl⟩)
 rw[<-pE]at key;exact key
def Bl (l:Nat):List V:=OS l (.int 1)
theorem qD (l:Nat):cW (Bl l)=W8 (.int l):=by
 have h:Bl l=(OS l (1:Int)).map Xc:=by unfold Bl;exact ab List.map_replicate rfl
 have hs:∀l:Nat,(OS l (1:Int)).sum=(l:Int):=λl=>by
  induction l with
  |zero=>rfl
  |succ l ih=>refine ab List.replicate_succ (ab Rk (ab ih ?_));exact Int.add_comm _ _
 unfold cW;rw[h,ma,Rx,hs]
theorem gi {α:Type}{f:V->Option (List V)}{g:α->V}:∀xs:List α,(∀x∈xs,f (g x)=W8 [.int 1])->collect f (xs.map g)=W8 (Bl xs.length)
 | [],_=>rfl
 |x::xs,h=>by show(f (g x)).bind _=_;refine ab (h x (.head _)) ?_;show((collect f (xs.map g)).bind λb=>W8 ([Xc 1]++b))=_;refine ab (gi xs λy hy=>h y (.tail _ hy)) ?_;rfl
theorem zy {e:ED}:cr nl (aa (bz e) af) xs=e (c0 nl xs):=by unfold cr aa bz;cases e (c0 nl xs)<;>rfl
theorem w4 {nm:List V}:oo [prf as N nm]=W8 (.int as.length):=by
 have h:=gi (f:=aj (bg 1) (λ_=>W8 true) (aF (dU (aR 2 1) (dV 1))) [W8 (prf as N nm),W9]) (g:=dm) as (λa _=>rfl);have e:(pP JB (cO (dU (aR 1 2) (dV 0))) (aj (bg 1) (λ_=>W8 true) (aF (dU (aR 2 1) (dV 1)))) [W8 (prf as N nm),W9]).bind cW=W8 (.int as.length):=by show((collect _ (as.map dm)).bind cW)=_;refine ab h ?_;exact qD _
 show cr 1 (aa (bz _) af) _=_;refine ab zy ?_;exact e
def Fu:List Nat->Nat->Nat
 | [],b=>b
 |a::as,b=>Fu as (b |||a)
theorem u5 {P:Option V}:∀(as:List Nat) (b:Nat) (x:Option V),b<64->(∀a∈as,a<64)->∃y,aQ (cH 2) (aa (zv 1 (dU (aR 2 0) (dV 2))) af) (as.map dm) [P,W8 (.set (az b)),x]=W8 (.next,[P,W8 (.set (az (Fu as b))),y])
 | [],b,x,_,_=>⟨x,rfl⟩
 |a::as,b,x,hb,ha=>by obtain⟨y,e⟩:=u5 (P:=P) as (b |||a) (W8 (dm a)) (i0 hb (ha a (.head _))) λc hc=>ha c (.tail _ hc);refine⟨y,?_⟩;show(aQ (cH 2) _ (as.map dm) [P,W8 (.set (az (cB (az b) |||cB (az a)))),W8 (dm a)])=_;refine ab (bT hb) (ab (bT (ha a (.head _))) ?_);exact e
theorem Fk {nm:List V}(ha:∀a∈as,a<64):C9 [prf as N nm]=W8 (.set (az (Fu as 0))):=by obtain⟨y,e⟩:=u5 (P:=W8 (prf as N nm)) as 0 W9 (by decide) ha;show(((aQ (cH 2) (aa (zv 1 (dU (aR 2 0) (dV 2))) af) (as.map dm) [W8 (prf as N nm),W8 (.set (az 0)),W9]).bind _).bind _)=_;refine ab e ?_;rfl
def gB:List Nat->Nat->List (List Nat)
 |_,0=> [[]]
 | [],_+1=> []
 |x::xs,r+1=>(gB xs r).map (x:: ·)++gB xs (r+1)
def pw (N k:Nat):List (List Nat):=(Oo (k+1)).flatMap λr=>gB (Oo N) r
def b8 (T:List Nat):V:= .tup (T.map λc:Nat=>Xc (c:Int))
def I2 (p:Nat×Nat):Bool:=(pw p.1 p.2).all λT=>T.all (λc=>decide (c<6))&&decide (am T<64/\ pc (am T)<=p.2)
theorem xW:(uT 0 7 0 4).all I2=true:=by decide+kernel
def I3 (p:Nat×Nat):Option V:=ip [.list ((ja (az (2^p.1 - 1))).map Xc),.int p.2]
def I1 (p:Nat×Nat):Option V:=W8 (.list ((pw p.1 p.2).map b8))
theorem DQ:(uT 0 7 0 4).map I3=(uT 0 7 0 4).map I1:=by kernel_rfl
theorem xV (hN:N<7)(hk:k<4):ip [.list ((ja (az (2^N - 1))).map Xc),.int k]=W8 (.list ((pw N k).map b8))/\ (∀T∈pw N k,∀c∈T,c<6)/\ ∀T∈pw N k,am T<64/\ pc (am T)<=k:=by injections k N _ hN hk;have h:=pT (a:=0) (b:=0) hN hk;rw[O1,O1]at h;have e:=λT hT=>OR.mp (Ou.mp (Ou.mp xW _ h) T hT);have e':I3 (N,k)=I1 (N,k):=cq DQ h;unfold I3 I1 at e';exact⟨e',λT hT c hc=>of_decide_eq_true (Ou.mp (e T hT).1 c hc),λT hT=>of_decide_eq_true (e T hT).2⟩
theorem fF:∀(T:List Nat),(∀c∈T,c<6)->cI (T.map λc:Nat=>Xc (c:Int))=W8 T
 | [],_=>rfl
 |c::T,h=>by have h1:(0:Int)<=(c:Int)/\ (c:Int)<6:=⟨PT _,PS.mpr (h c (.head _))⟩;show(if(0:Int)<=(c:Int)/\ (c:Int)<6 then(cI (T.map λc:Nat=>Xc (c:Int))).map ((c:Int).toNat:: ·)else W9)=_;refine ab (if_pos h1) (ab (fF T λd hd=>h d (.tail _ hd)) ?_);rfl
def fh (p:Nat->Bool):Nat->List Nat->List Nat
 |_,[]=> []
 |i,a::as=>if p a then i::fh p (i+1) as else fh p (i+1) as
theorem jc (p:Nat->Bool):∀(as:List Nat) (i:Nat),(fh p i as).length=cnt p as
 | [],_=>rfl
 |a::as,i=>by
  show(if p a then i::fh p (i+1) as else fh p (i+1) as).length=(if p a then 1 else 0)+cnt p as;cases p a with
  |true=>exact(congrArg (· +1) (jc p as (i+1))).trans (SX _ _)
  |false=>exact(jc p as (i+1)).trans (O1 _).symm
theorem jY (p:Nat->Bool):∀(as:List Nat) (i j:Nat),j∈fh p i as->i<=j/\ j<i+as.length
 | [],_,_,h=>by cases h
 |a::as,i,j,h=>by
  have h:j∈(if p a then i::fh p (i+1) as else fh p (i+1) as):=h;simp only[Qf];have wk:i+1<=j/\ j<i+1+as.length->i<=j/\ j<i+(as.length+1):=λh=>⟨WQ h.1,(aaF i as.length)▸h.2⟩;cases hp:p a with
  |true=>
   rw[hp]at h;rcases OG.mp h with rfl |h
   ·exact⟨O5 _,aaG (Rg _)⟩
   ·exact wk (jY p as (i+1) j h)
  |false=>rw[hp]at h;exact wk (jY p as (i+1) j h)
theorem gR {f:V->Option (List V)}{p:Nat->Bool}:∀(as:List Nat) (i:Nat),(∀i a,a∈as->f (.tup [.int (i:Nat),dm a])=W8 (if p a then[.int (i:Nat)]else[]))->collect f (dz i (as.map dm))=W8 ((fh p i as).map λj:Nat=>Xc (j:Int))
 | [],i,_=>rfl
 |a::as,i,h=>by show(f (.tup [.int (i:Nat),dm a])).bind _=_;refine ab (h i a (.head _)) ?_;show((collect f (dz (i+1) (as.map dm))).bind λb=>W8 ((if p a then[Xc (i:Nat)]else[])++b))=_;refine ab (gR as (i+1) λi b hb=>h i b (.tail _ hb)) ?_;show W8 _=W8 ((if p a then i::fh p (i+1) as else fh p (i+1) as).map _);cases p a<;>rfl
theorem FY {nm:List V}{i:Nat}(hi:i<as.length)(h6:as.length<=6):(gO [prf as N nm,.int (i:Nat)]).bind (aR 2 1)=W8 (.int 1):=by
 have h1:(0:Int)<=(i:Int):=PT _;have h2:(i:Int)<(lim:Nat):=PS.mpr (OL hi (Op h6 (by decide)));have h3:Z4 (as.map dm) (i:Int)=W8 (dm as[i]):=by unfold Z4;rw[if_pos h1,if_pos h2,Rm,Qw,OP hi];rfl
 show((((Z4 (as.map dm) (i:Int))).map _ |>.bind _ |>.bind _).bind _)=_;refine ab h3 ?_;rfl
theorem yS {nm:List V}(Xz:aK σ 0=W8 (prf as N nm))(hj:aK σ j=W9)(hl:j<σ.length)(hj0:j≠0)(h6:as.length<=6)(l:List Nat)(hi:∀i∈l,i<as.length):
 (collect (aj (bg j) (λ_=>W8 true) (aF (dU (aR 2 1) λσ=>((dV 0 σ).bind (aS 1)).bind λx=>(dV j σ).bind λy=>gO [x,y])) σ) (l.map λi:Nat=>Xc (i:Int))).bind cW=W8 (.int l.length):=by
 rw[gi l λi hx=> ?_]
 ·exact qD _
 ·unfold aj bg nb
  rw[hj];show(aF (dU (aR 2 1) λσ=>((dV 0 σ).bind (aS 1)).bind λx=>(dV j σ).bind λy=>gO [x,y]) (aw σ j (W8 (.int (i:Nat)))))=_;show((((aK (aw σ j (W8 (.int (i:Nat)))) 0).bind (aS 1)).bind λx=>(aK (aw σ j (W8 (.int (i:Nat)))) j).bind λy=>gO [x,y]).bind (aR 2 1)).map (λt=> [t])=_;rw[aU (Te hj0),Xz,bZ hl];show(((gO [prf as N nm,.int (i:Nat)]).bind (aR 2 1)).map _)=_;rw[FY (hi i hx) h6];rfl
section
structure Pf (as:List Nat) (m n k N:Nat):Prop where
 len:as.length=n
 n6:0<n/\ n<7
 k3:0<k/\ k<4
 N6:N<7
 a64:∀a∈as,a<64
 m64:m<64
 un:Fu as 0=2^N - 1
variable{n:Nat}{nm:List V}{q:V}
theorem Pf.l6 (F:Pf as m n k N):as.length<=6:=F.len▸aaJ F.n6.2
theorem qx (F:Pf as m n k N)(Q:QF n k q)(Xz:aK σ 0=W8 (prf as N nm))(h2:aK σ 2=W8 q):
 ((aM eV (ah (λσ=>((dV 0 σ).bind (aS 1)).bind λy=>oo [y]) (ah (dV 2) au)) au σ).bind (aS 0)).bind (λy=>d6 [y])=W8 (.int k):=by
 show((((((aK σ 0).bind (aS 1)).bind λy=>oo [y]).bind λx=>(((aK σ 2).bind λx=>W8 [x]).map λxs=>x::xs)).bind λxs=>eV (xs++ [])).bind (aS 0)).bind (λy=>d6 [y])=_;refine ab Xz (ab h2 ?_);show((((oo [prf as N nm]).bind λx=>W8 [x,q]).bind λxs=>eV (xs++ [])).bind (aS 0)).bind (λy=>d6 [y])=_;refine ab w4 (ab F.len ?_);exact Q.ub
theorem t4 (F:Pf as m n k N){i:Nat}(Xz:aK σ 0=W8 (prf as N nm))(hi:aK σ i=W8 (.int k)):
 cO (aM ip (ah (dU ix λσ=>((dV 0 σ).bind (aS 1)).bind λy=>C9 [y]) au) (ah (dV i) au)) σ=W8 ((pw N k).map b8):=by
 have h:=(xV F.N6 F.k3.2).1;show((((((((aK σ 0).bind (aS 1)).bind λy=>C9 [y]).bind ix).bind λx=>W8 [x]).bind λxs=>(((aK σ i).bind λx=>W8 [x])).bind λys=>ip (xs++ys))).bind fR)=_;refine ab Xz (ab hi ?_);show(((((C9 [prf as N nm]).bind ix).bind λx=>W8 [x]).bind λxs=>ip (xs++ [Xc k])).bind fR)=_;refine ab (Fk F.a64) (ab F.un ?_);show((ip [.list ((ja (az (2^N - 1))).map Xc),.int k]).bind fR)=_;refine ab h ?_;rfl
theorem tW {i:Nat}{T:List Nat}(hi:aK σ i=W8 (b8 T))(hT:∀c∈T,c<6):aan (cO (dV i)) σ=W8 (.set (az (am T))):=by show((((aK σ i).bind fR).bind λxs=>(cI xs).map λns=>Xg (az (am ns))))=_;refine ab hi ?_;show((cI (T.map λc:Nat=>Xc (c:Int))).map _)=_;refine ab (fF T hT) ?_;rfl
theorem aB {i:Nat}{e:ED}(h:e σ=W8 t):ak i e σ=W8 (.next,aw σ i (W8 t)):=by unfold ak;refine ab h ?_;rfl
theorem ax {a b:SD}(h:a σ=W8 (.next,σ')):aa a b σ=b σ':=by unfold aa;refine ab h ?_;rfl
theorem bq {a b:SD}(h:a σ=W8 (.ret t,σ')):aa a b σ=W8 (.ret t,σ'):=by unfold aa;refine ab h ?_;rfl
theorem lj {a b:SD}(h:a σ=W8 (.cont,σ')):aa a b σ=W8 (.cont,σ'):=by unfold aa;refine ab h ?_;rfl
theorem aG {t:ai->Option Bool}{a b:SD}{c:Bool}(h:t σ=W8 c):aE t a b σ=if c then a σ else b σ:=by unfold aE;refine ab h ?_;rfl
def dp (as:List Nat)(m:Nat)(t a:Nat):Bool:=decide (pc (a&&&m)<pc (a&&&t))
def uO (as:List Nat)(m n k:Nat)(t:Nat):Bool:=decide (0<cnt (dp as m t) as)&&decide (n*pc t<=k*cnt (dp as m t) as)
def IL (i:Nat):ED:=dU (aR 2 1) λσ=>((dV 0 σ).bind (aS 1)).bind λx=>(dV i σ).bind λy=>gO [x,y]
def IF:ED:=dB (cA eW) (dB (cA dA) (aM aao (ah (dV 2) au) au) (dU aP (dV 4))) λσ=>(pP EH (cO (dV 5)) (aj (bg 9) (λx=>W8 true) (aF (IL 9))) σ).bind cW
def zD:SD:=aa (ak 4 (aan (cO (dV 4))))
 (aa
   (ak 5
     (ba By (dO 1 2 (dV 0))
       (aj (iz 7 8)
         (dT (dB (bf λa b=>decide (b<a)) (dU aP (dB bW (dU (aR 2 0) (dV 8)) (dV 4))) (dU aP (dB bW (dU (aR 2 0) (dV 8)) (dV 1)))))
         (aF (dV 7)))))
   (aa (aE (eG (dT (dV 5))) (aa iq af) af) (tS 6 IF λσ=>if((dV 5 σ).isSome&&((dV 4 σ).isSome&&true))=true then W8 Xh else W9)))
theorem B0 (F:Pf as m n k N){t:Nat}(ht:t<64):ba By (dO 1 2 (dV 0))
             (aj (iz 7 8)
               (dT (dB (bf λa b=>decide (b<a)) (dU aP (dB bW (dU (aR 2 0) (dV 8)) (dV 4))) (dU aP (dB bW (dU (aR 2 0) (dV 8)) (dV 1)))))
               (aF (dV 7))) [W8 (prf as N nm),W8 (.set (az m)),W8 q,W8 (.int k),W8 (.set (az t)),x5,x6,W9,W9,W9]=W8 (.list ((fh (dp as m t) 0 as).map λj:Nat=>Xc (j:Int))):=by
 have h:=gR (p:=dp as m t) (f:=aj (iz 7 8)
  (dT (dB (bf λa b=>decide (b<a)) (dU aP (dB bW (dU (aR 2 0) (dV 8)) (dV 4))) (dU aP (dB bW (dU (aR 2 0) (dV 8)) (dV 1)))))
  (aF (dV 7)) [W8 (prf as N nm),W8 (.set (az m)),W8 q,W8 (.int k),W8 (.set (az t)),x5,x6,W9,W9,W9]) as 0 (λi a ha=>by
  have ZL:=F.a64 a ha;have e:(dT (dB (bf λa b=>decide (b<a)) (dU aP (dB bW (dU (aR 2 0) (dV 8)) (dV 4))) (dU aP (dB bW (dU (aR 2 0) (dV 8)) (dV 1))))) [W8 (prf as N nm),W8 (.set (az m)),W8 q,W8 (.int k),W8 (.set (az t)),x5,x6,W8 (.int (i:Nat)),W8 (dm a),W9]=W8 (dp as m t a):=by show(((bW (.set (az a)) (.set (az t))).bind aP).bind λx=>((bW (.set (az a)) (.set (az m))).bind aP).bind λy=>bf (λa b=>decide (b<a)) x y).bind cZ=_;refine ab (sg ZL ht) (ab (sg ZL F.m64) ?_);show W8 (decide (((pc (a&&&m):Nat):Int)<((pc (a&&&t):Nat):Int)))=_;unfold dp;exact congrArg W8 (decide_eq_decide.mpr PS)
  show((dT _ [W8 (prf as N nm),W8 (.set (az m)),W8 q,W8 (.int k),W8 (.set (az t)),x5,x6,W8 (.int (i:Nat)),W8 (dm a),W9]).bind λb=>if b then _ else W8 [])=_;refine ab e ?_;cases dp as m t a<;>rfl)
 have hl:((fh (dp as m t) 0 as).map λj:Nat=>Xc (j:Int)).length<=lim:=by rw[OA,jc];exact Op (j2 _ as) (Op F.l6 (by decide))
 show((collect _ (dz 0 (as.map dm))).bind λys=>if ys.length<=lim then W8 (Xe ys)else W9)=_;refine ab h ?_;show(if _ then _ else _:Option V)=_;exact ab (if_pos hl) rfl
theorem BZ (F:Pf as m n k N)(Q:QF n k q){t:Nat}(ht:t<64)(hk:pc t<=k)(hl:∀i∈l,i<as.length)(h6:l.length<=6):
 IF [W8 (prf as N nm),W8 (.set (az m)),W8 q,W8 (.int k),W8 (.set (az t)),W8 (.list (l.map λj:Nat=>Xc (j:Int))),x6,W9,W9,W9]=W8 (.bool (decide (n*pc t<=k*l.length))):=by
 have h1:=yS (σ:= [W8 (prf as N nm),W8 (.set (az m)),W8 q,W8 (.int k),W8 (.set (az t)),W8 (.list (l.map λj:Nat=>Xc (j:Int))),x6,W9,W9,W9]) (j:=9) rfl rfl (by show 9<10;decide) (by decide) F.l6 l hl;have h2:=Q.mul (pc t) l.length (OW hk F.k3.2) (OW h6 (by decide));show((((aao [q]).bind λx=>(aP (.set (az t))).bind λy=>cA dA x y)).bind λx=>((collect _ (l.map λj:Nat=>Xc (j:Int))).bind cW).bind λy=>cA eW x y)=_;refine ab (dY ht) ?_;show((((aao [q]).bind λx=>cA dA x (.int (pc t)))).bind λx=>((collect _ (l.map λj:Nat=>Xc (j:Int))).bind cW).bind λy=>cA eW x y)=_;refine Qj (congrArg (Oy _) (funext λx=> ?_)) h2;exact(congrArg (λz=>Oy z λy=>cA eW x y) h1)
theorem BX (F:Pf as m n k N)(Q:QF n k q):FN [prf as N nm,.set (az m),q]=W8 (iN (!(pw N k).any λT=>uO as m n k (am T))):=by
 injections k m N as n nm q _ F Q;have hp:=xV F.N6 F.k3.2;have key:=ie (i:=4) (j:=6) (f:=b8) (P:=λT=>uO as m n k (am T)) (ff:=λσ=> ∃x4 x5 x6,σ= [W8 (prf as N nm),W8 (.set (az m)),W8 q,W8 (.int k),x4,x5,x6,W9,W9,W9])
  (Xp:=zD) (xs:=pw N k) (by rintro σ ⟨x4,x5,x6,rfl⟩;show 6<10;decide) ⟨W9,W9,W9,rfl⟩ (λT hT σ hI=>by
    obtain⟨x4,x5,x6,rfl⟩:=hI;obtain⟨ht,hk⟩:=hp.2.2 T hT;have hb:zD (aw [W8 (prf as N nm),W8 (.set (az m)),W8 q,W8 (.int k),x4,x5,x6,W9,W9,W9] 4 (W8 (b8 T)))=aa (aE (eG (dT (dV 5))) (aa iq af) af) (tS 6 IF λσ=>if((dV 5 σ).isSome&&((dV 4 σ).isSome&&true))=true then W8 Xh else W9)
     [W8 (prf as N nm),W8 (.set (az m)),W8 q,W8 (.int k),W8 (.set (az (am T))),W8 (.list ((fh (dp as m (am T)) 0 as).map λj:Nat=>Xc (j:Int))),x6,W9,W9,W9]:=by
     unfold zD;refine ab (ax (aB (tW rfl (hp.2.1 T hT)))) ?_;exact ax (aB (B0 F ht))
    have hlen:=jc (dp as m (am T)) as 0;have hc:=BZ (nm:=nm) F Q ht hk (x6:=x6) (l:=fh (dp as m (am T)) 0 as) (λi hi=>OL (jY _ as 0 i hi).2 (O2 (O1 _))) (hlen▸Op (j2 _ as) F.l6);refine ab hb ?_;have hz:(eG (dT (dV 5))) [W8 (prf as N nm),W8 (.set (az m)),W8 q,W8 (.int k),W8 (.set (az (am T))),W8 (.list ((fh (dp as m (am T)) 0 as).map λj:Nat=>Xc (j:Int))),x6,W9,W9,W9]=W8 (decide (cnt (dp as m (am T)) as=0)):=by show((if((fh (dp as m (am T)) 0 as).map λj:Nat=>Xc (j:Int)).length<=lim then W8 (!((fh (dp as m (am T)) 0 as).map λj:Nat=>Xc (j:Int)).isEmpty)else W9).map (!·))=_;refine ab (if_pos (by rw[OA,hlen];exact Op (j2 _ as) (Op F.l6 (by decide)))) ?_;refine bV hlen ?_;cases fh (dp as m (am T)) 0 as<;>rfl
    have ht2:=eh (i:=6) (dd:=λσ=>if((dV 5 σ).isSome&&((dV 4 σ).isSome&&true))=true then W8 Xh else W9) hc rfl (by show 6<10;decide);unfold uO;rw[hlen]at ht2;cases h:decide (cnt (dp as m (am T)) as=0)with
    |true=>rw[h]at hz;have Xz:cnt (dp as m (am T)) as=0:=of_decide_eq_true h;rw[if_neg (by refine ab Xz ?_;simp)];exact⟨.cont,_,by rintro t ⟨⟩,lj ((aG hz).trans rfl),_,_,_,rfl⟩
    |false=>
     rw[h]at hz;have Xz:cnt (dp as m (am T)) as≠0:=of_decide_eq_false h;rw[ax ((aG hz).trans rfl),show tS 6 IF _ _=_ from ht2,show decide (0<cnt (dp as m (am T)) as)=true from decide_eq_true (Wy Xz),T4];cases decide (n*pc (am T)<=k*cnt (dp as m (am T)) as)with
     |true=>exact⟨_,rfl⟩
     |false=>exact⟨_,_,by rintro t ⟨⟩,rfl,_,_,_,rfl⟩)
 have e1:=qx (nm:=nm) F Q (σ:= [W8 (prf as N nm),W8 (.set (az m)),W8 q,W9,W9,W9,W9,W9,W9,W9]) rfl rfl;have e2:=t4 (nm:=nm) F (σ:= [W8 (prf as N nm),W8 (.set (az m)),W8 q,W8 (.int k),W9,W9,W9,W9,W9,W9]) (i:=3) rfl rfl;refine Qj ?_ key;show((aa (ak 3 _) (aa (bR _ (cH 4) zD) _) [W8 (prf as N nm),W8 (.set (az m)),W8 q,W9,W9,W9,W9,W9,W9,W9]).bind _)=_;refine ab (ax (aB e1)) ?_;show(((((cO _ [W8 (prf as N nm),W8 (.set (az m)),W8 q,W8 (.int k),W9,W9,W9,W9,W9,W9]).bind λxs=>aQ (cH 4) zD xs _).bind _)).bind _)=_;refine ab e2 ?_;rfl
end
section
theorem rU {r:Nat}:∀(l:List Nat) (b:Nat),b<2^r->(∀i∈l,i<r)->l.foldl (λb n=>b ||| (1<<<n)) b<2^r
 | [],b,hb,_=>hb
 |i::l,b,hb,h=>rU l _ (R6 hb (by rw[R7];exact TD (by decide) (h i (.head _)))) λj hj=>h j (.tail _ hj)
theorem gj {r:Nat}(h:∀i∈l,i<r):am l<2^r:=rU l 0 (Tw r) h
theorem Df {g r c:Nat}(hg:g<2^r)(h:c∈bs g):c<r:=by
 have h2:=(eQ.mp h).2;by_cases hc:c<r
 ·exact hc
 ·rw[Tk (OL hg (PO (by decide) (R8.mp hc)))]at h2
  cases h2
theorem gQ {α:Type}{f:V->Option (List V)}{g:α->V}{h:α->V}:∀xs:List α,(∀x∈xs,f (g x)=W8 [h x])->collect f (xs.map g)=W8 (xs.map h)
 | [],_=>rfl
 |x::xs,e=>by show(f (g x)).bind _=_;refine ab (e x (.head _)) ?_;show((collect f (xs.map g)).bind λb=>W8 ([h x]++b))=_;refine ab (gQ xs λy hy=>e y (.tail _ hy)) ?_;rfl
theorem ki (g:Nat->V):∀n:Nat,fz ((Oo n).map λu:Nat=>Xf [.int (u:Int),g u])=(Oo n).map λu:Nat=>((u:Int),g u)
 |0=>rfl
 |n+1=>by refine ab List.range_succ (ab PJ (ab PJ ?_));show fz (_++ [Xf [.int (n:Int),g n]])=_;rw[kj,ki g n];refine jx λh=> ?_;obtain⟨p,hp,e⟩:=OM.mp h;obtain⟨u,hu,hu'⟩:=OM.mp hp;rw[<-hu']at e;exact Px (OF.mp hu) (Rr e)
theorem uN (g:Nat->V){n:Nat}(hj:j<n):aZ (cU ((Oo n).map λu:Nat=>Xf [.int (u:Int),g u])) (.int (j:Nat))=W8 (g j):=by
 injections j g n _ hj;show(((fz _).map (·.1)).zip ((fz _).map (·.2))).lookup ((j:Nat):Int)=_;rw[ki,iO];induction n with
 |zero=>exact absurd hj (Nat.not_lt_zero _)
 |succ n ih=>
  refine ab List.range_succ (ab PJ (ab Wq ?_));by_cases h:j<n
  ·refine ab (ih h) ?_;rfl
  ·have:j=n:=aaO (aaJ hj) (R8.mp h)
   subst this;have Xz:((Oo j).map λu:Nat=>((u:Int),g u)).lookup (j:Int)=W9:=by rw[List.lookup_eq_none_iff];intro p hp;obtain⟨u,hu,rfl⟩:=OM.mp hp;have:=OF.mp hu;exact bne_iff_ne.mpr λe=>Qh this (Rr e)
   refine ab Xz ?_;simp
variable{n:Nat}{nm:List V}{q:V}
def rn (p:Nat->Bool)(as:List Nat):Nat:=am (fh p 0 as)
theorem ri (p:Nat->Bool)(as:List Nat):rn p as<2^as.length:=gj λi hi=>OL (jY p as 0 i hi).2 (O2 (O1 _))
theorem rj (p:Nat->Bool)(h6:as.length<=6):rn p as<64:=OL (ri p as) (PO (n:=2) (by decide) h6)
noncomputable abbrev mP (P q k4 x5 x6 x7 x8 x9 x10:Option V)(m k:Nat):ai:= [P,W8 (.set (az m)),q,W8 (.int k),k4,x5,x6,x7,x8,x9,x10,W9,W9,W9]
theorem qZ {p:Nat->Bool}{k4 q:Option V}(h6:as.length<=6)(hg:dx ci (mP (W8 (prf as N nm)) q k4 x5 x6 x7 x8 x9 x10 m k)=true)
 (hc:∀i a,a∈as->cond [W8 (prf as N nm),W8 (.set (az m)),q,W8 (.int k),k4,x5,x6,x7,x8,x9,x10,W8 (.int (i:Nat)),W8 (dm a),W9]=W8 (p a)):
 aan (pP ci (dO 1 2 (dV 0)) (aj (iz 11 12) cond (aF (dV 11)))) (mP (W8 (prf as N nm)) q k4 x5 x6 x7 x8 x9 x10 m k)=W8 (.set (az (rn p as))):=by
 have h:=gR (p:=p) (f:=aj (iz 11 12) cond (aF (dV 11)) (mP (W8 (prf as N nm)) q k4 x5 x6 x7 x8 x9 x10 m k)) as 0 (λi a ha=>by show((cond [W8 (prf as N nm),W8 (.set (az m)),q,W8 (.int k),k4,x5,x6,x7,x8,x9,x10,W8 (.int (i:Nat)),W8 (dm a),W9]).bind λb=>if b then _ else W8 [])=_;refine ab (hc i a ha) ?_;cases p a<;>rfl);show((if dx ci _=true then(collect _ (dz 0 (as.map dm)))else W9).bind λxs=>(cI xs).map λns=>Xg (az (am ns)))=_;refine ab (if_pos hg) (ab h ?_);show((cI ((fh p 0 as).map λj:Nat=>Xc (j:Int))).map _)=_;refine ab (fF _ λc hc=>OL (jY p as 0 c hc).2 (Op (O2 (O1 _)) h6)) ?_;rfl
theorem rN {e:ED}{g:Nat->V}{n':Nat}{dr:ai->Option (List V)}(hg:dx ci σ=true)(hr:dr σ=W8 (cy 0 n'))(hn:n'<=10)(h10:aK σ 10=W9)(hl:10<σ.length)
 (he:∀u,u<n'->e (aw σ 10 (W8 (.int (u:Nat))))=W8 (g u)):dX cU ci dr (aj (bg 10) (λ_=>W8 true) (gf (dV 10) e)) σ=W8 (cU ((Oo n').map λu:Nat=>Xf [.int (u:Int),g u])):=by
 have h:=gQ (f:=aj (bg 10) (λ_=>W8 true) (gf (dV 10) e) σ) (g:=λu:Nat=>Xc (u:Int)) (h:=λu:Nat=>Xf [.int (u:Int),g u]) (Oo n') (λu hu=>by unfold aj bg nb;refine ab h10 ?_;show(((aK (aw σ 10 (W8 (.int (u:Nat)))) 10).bind λa=>(e (aw σ 10 (W8 (.int (u:Nat))))).bind λb=>match a with | .int k=>W8 [Xf [.int k,b]] |_=>W9))=_;refine ab (bZ hl) (ab (he u (OF.mp hu)) ?_);rfl);unfold dX;rw[if_pos hg,hr,pE];show((collect _ _).bind λys=>if ys.length<=lim then W8 (cU ys)else W9)=_;refine ab h ?_;show(if _ then _ else _:Option V)=_;exact ab (if_pos (by rw[OA,Ql];exact Op hn (by decide))) rfl
theorem fP {a b:ED}{x y:Int}{c:Nat}(ha:a σ=W8 (.int x))(hb:b σ=W8 (.int y))(hx:0<=x/\ x<100)(hy:0<=y/\ y<100)(hc:(y - x).toNat=c):aX a b σ=W8 (cy x c):=by unfold aX;refine ab ha (ab hb (bV hc ?_));exact if_pos ⟨Ry (by decide) hx.1,aaT hx.2 (by decide),Ry (by decide) hy.1,aaT hy.2 (by decide)⟩
def C4 (as:List Nat)(m u:Nat):Nat:=rn (λa=>decide (pc (a&&&m)<=u)) as
def C0 (as:List Nat)(t u:Nat):Nat:=rn (λa=>decide (u<=pc (a&&&t))) as
def L3:ED:=dB (cA eW) (dB (cA dA) (aM aao (ah (dV 2) au) au) (dU aP (dV 5))) λσ=>(pP JC (pO (dV 8)) (aj (bg 13) (λx=>W8 true) (aF (IL 13))) σ).bind cW
def tc:SD:=aa (ak 8 (dB bW (dB aZ (dV 6) (dV 7)) (dB aZ (dV 4) (dB iw (dV 7) (dK (Xc 1)))))) (tS 9 L3 λσ=>if((dU aP (dV 5) σ).isSome&&((dV 7 σ).isSome&&((dV 5 σ).isSome&&((dV 8 σ).isSome&&true))))=true then W8 Xh else W9)
def BK:ED:=dX cU JG (aX (dK (Xc 0)) (dB bJ (dV 3) (dK (Xc 1)))) (aj (bg 10) (λx=>W8 true) (gf (dV 10) (aan (pP JF (dO 1 2 (dV 0)) (aj (iz 11 12) (dT (dB (bf λa b=>decide (a<=b)) (dU aP (dB bW (dU (aR 2 0) (dV 12)) (dV 1))) (dV 10))) (aF (dV 11)))))))
def EQ:ED:=dX cU JE (aX (dK (Xc 0)) (dB bJ (dU aP (dV 5)) (dK (Xc 1)))) (aj (bg 10) (λx=>W8 true) (gf (dV 10) (aan (pP JD (dO 1 2 (dV 0)) (aj (iz 11 12) (dT (dB (bf λa b=>decide (b<=a)) (dU aP (dB bW (dU (aR 2 0) (dV 12)) (dV 5))) (dV 10))) (aF (dV 11)))))))
def v4:SD:=aa (ak 5 (aan (cO (dV 5)))) (aa (ak 6 EQ) (aa (bR (aX (dK (Xc 1)) (dB bJ (dU aP (dV 5)) (dK (Xc 1)))) (cH 7) tc) af))
def fN (as:List Nat)(m k:Nat):V:=cU ((Oo (k+1)).map λu:Nat=>Xf [.int (u:Int),.set (az (C4 as m u))])
def jm (as:List Nat)(t:Nat):V:=cU ((Oo (pc t+1)).map λu:Nat=>Xf [.int (u:Int),.set (az (C0 as t u))])
theorem KZ (h:k<7):0<=(k:Int)+1/\ (k:Int)+1<100:=⟨PT (k+1),PS.mpr (QX (Nat.succ_lt_succ h) (by decide))⟩
theorem Nz (k:Nat):((k:Int)+1 - 1).toNat=k:=(congrArg Ub (aa2 _ _)).trans (Rm k)
theorem BJ (F:Pf as m n k N):BK (mP (W8 (prf as N nm)) (W8 q) x4 x5 x6 x7 x8 x9 W9 m k)=W8 (fN as m k):=by
 refine rN (g:=λu=> .set (az (C4 as m u))) (n':=k+1) (by rfl) ?_ (QX F.k3.2 (by decide)) rfl (by show 10<14;decide) λu hu=> ?_
 ·exact fP (x:=0) (y:=(k:Int)+1) rfl rfl (by decide) (KZ (QX F.k3.2 (by decide))) rfl
 ·refine qZ (N:=N) (nm:=nm) (x10:=W8 (.int (u:Nat))) F.l6 (by rfl) λi a ha=> ?_
  show((((bW (.set (az a)) (.set (az m))).bind aP).bind λx=>bf (λa b=>decide (a<=b)) x (.int (u:Nat)))).bind cZ=_;refine ab (sg (F.a64 a ha) F.m64) ?_;show W8 (decide (((pc (a&&&m):Nat):Int)<=(u:Nat)))=_;exact congrArg W8 (decide_eq_decide.mpr Rh)
theorem BI (F:Pf as m n k N){t:Nat}(ht:t<64):EQ (mP (W8 (prf as N nm)) (W8 q) x4 (W8 (.set (az t))) x6 x7 x8 x9 W9 m k)=W8 (jm as t):=by
 have:=nK ht;refine rN (g:=λu=> .set (az (C0 as t u))) (n':=pc t+1) (by rfl) ?_ (OW this (by decide)) rfl (by show 10<14;decide) λu hu=> ?_
 ·refine fP (x:=0) (y:=(pc t:Int)+1) rfl ?_ (by decide) (KZ (aaR this)) rfl
  show((aP (.set (az t))).bind λx=>bJ x (.int 1))=_;refine ab (dY ht) ?_;rfl
 ·refine qZ (N:=N) (nm:=nm) (x10:=W8 (.int (u:Nat))) F.l6 (by rfl) λi a ha=> ?_
  show((((bW (.set (az a)) (.set (az t))).bind aP).bind λx=>bf (λa b=>decide (b<=a)) x (.int (u:Nat)))).bind cZ=_;refine ab (sg (F.a64 a ha) ht) ?_;show W8 (decide (((u:Nat):Int)<=(pc (a&&&t):Nat)))=_;exact congrArg W8 (decide_eq_decide.mpr Rh)
end
section
variable{n:Nat}{nm:List V}{q:V}
theorem s4 (c:Nat):cy 1 c=(Oo c).map λj:Nat=>Xc ((j+1:Nat):Int):=by unfold cy;exact QY λj _=>by exact ab (show(1:Int)+(j:Int)=((j+1:Nat):Int)from Int.add_comm _ _) rfl
theorem ui (g:Nat):(az g).map Xc=(bs g).map λi:Nat=>Xc (i:Int):=by unfold az;refine ab Sg ?_;rfl
theorem CE {g:Nat}(hg:g<64):pc g=(bs g).length:=by refine bV (pg hg) ?_;unfold az;rw[OA]
def ER (as:List Nat)(m n k t j:Nat):Bool:=decide (n*pc t<=k*pc (C0 as t (j+1)&&&C4 as m j))
theorem EP (F:Pf as m n k N)(Q:QF n k q){t g:Nat}(ht:t<64)(hk:pc t<=k)(hg:g<2^as.length):
 L3 (mP (W8 (prf as N nm)) (W8 q) x4 (W8 (.set (az t))) x6 x7 (W8 (.set (az g))) x9 W9 m k)=W8 (.bool (decide (n*pc t<=k*pc g))):=by
 have h6:=F.l6;have g64:g<64:=OL hg (PO (n:=2) (by decide) h6);have h1:=yS (σ:=mP (W8 (prf as N nm)) (W8 q) x4 (W8 (.set (az t))) x6 x7 (W8 (.set (az g))) x9 W9 m k) (j:=13) rfl rfl (by show 13<14;decide) (by decide) h6 (bs g) (λi hi=>Df hg hi);have h2:=Q.mul (pc t) (pc g) (OW hk F.k3.2) (aaR (nK g64));show((((aao [q]).bind λx=>(aP (.set (az t))).bind λy=>cA dA x y)).bind λx=>((collect _ ((az g).map Xc)).bind cW).bind λy=>cA eW x y)=_;rw[dY ht,ui];show((((aao [q]).bind λx=>cA dA x (.int (pc t)))).bind λx=>((collect _ ((bs g).map λi:Nat=>Xc (i:Int))).bind cW).bind λy=>cA eW x y)=_;refine Qj (congrArg (Oy _) (funext λx=> ?_)) h2;refine ab (CE g64) ?_;exact(congrArg (λz=>Oy z λy=>cA eW x y) h1)
theorem BH (F:Pf as m n k N)(Q:QF n k q){t:Nat}(ht:t<64)(hk:pc t<=k)(hj:j<pc t):
 tc (aw (mP (W8 (prf as N nm)) (W8 q) (W8 (fN as m k)) (W8 (.set (az t))) (W8 (jm as t)) x7 x8 x9 W9 m k) 7 (W8 (.int ((j+1:Nat):Int))))=
  if ER as m n k t j then W8 (.ret (iN false),mP (W8 (prf as N nm)) (W8 q) (W8 (fN as m k)) (W8 (.set (az t))) (W8 (jm as t)) (W8 (.int ((j+1:Nat):Int))) (W8 (.set (az (C0 as t (j+1)&&&C4 as m j)))) (W8 .any) W9 m k)
  else W8 (.next,mP (W8 (prf as N nm)) (W8 q) (W8 (fN as m k)) (W8 (.set (az t))) (W8 (jm as t)) (W8 (.int ((j+1:Nat):Int))) (W8 (.set (az (C0 as t (j+1)&&&C4 as m j)))) x9 W9 m k):=by
 have h6:=F.l6;have e8:(dB bW (dB aZ (dV 6) (dV 7)) (dB aZ (dV 4) (dB iw (dV 7) (dK (Xc 1))))) (mP (W8 (prf as N nm)) (W8 q) (W8 (fN as m k)) (W8 (.set (az t))) (W8 (jm as t)) (W8 (.int ((j+1:Nat):Int))) x8 x9 W9 m k)=W8 (.set (az (C0 as t (j+1)&&&C4 as m j))):=by show((aZ (jm as t) (.int ((j+1:Nat):Int))).bind λx=>(aZ (fN as m k) (.int (((j+1:Nat):Int) - 1))).bind λy=>bW x y)=_;refine ab (show((j+1:Nat):Int) - 1=(j:Nat)from aa2 (j:Int) 1) ?_;unfold jm fN;refine ab (uN (λu=> .set (az (C0 as t u))) (Nat.succ_lt_succ hj)) (ab (uN (λu=> .set (az (C4 as m u))) (R9 (OL hj hk))) ?_);exact k6 (rj _ h6) (rj _ h6)
 have hT:=EP (nm:=nm) F Q ht hk (g:=C0 as t (j+1)&&&C4 as m j) (OW UZ (ri _ as)) (x4:=W8 (fN as m k)) (x6:=W8 (jm as t)) (x7:=W8 (.int ((j+1:Nat):Int))) (x9:=x9);show tc (mP (W8 (prf as N nm)) (W8 q) (W8 (fN as m k)) (W8 (.set (az t))) (W8 (jm as t)) (W8 (.int ((j+1:Nat):Int))) x8 x9 W9 m k)=_;unfold tc;refine ab (ax (aB e8)) ?_;have hl:=dY ht;refine(eh (i:=9) (dd:=λσ=>if((dU aP (dV 5) σ).isSome&&((dV 7 σ).isSome&&((dV 5 σ).isSome&&((dV 8 σ).isSome&&true))))=true then W8 Xh else W9) hT ?_ (by show 9<14;decide)).trans rfl;show(if((aP (.set (az t))).isSome&&true)=true then W8 Xh else W9)=_;refine ab hl ?_;rfl
theorem EO (F:Pf as m n k N)(Q:QF n k q):FO [prf as N nm,.set (az m),q]=W8 (iN (!(pw N k).any λT=>(Oo (pc (am T))).any (ER as m n k (am T)))):=by
 injections k m N as n nm q _ F Q;have hp:=xV F.N6 F.k3.2;have key:=ie (i:=5) (j:=9) (f:=b8) (P:=λT=>(Oo (pc (am T))).any (ER as m n k (am T))) (ff:=λσ=> ∃x:Nat->Option V,σ=mP (W8 (prf as N nm)) (W8 q) (W8 (fN as m k)) (x 5) (x 6) (x 7) (x 8) (x 9) W9 m k)
  (Xp:=v4) (xs:=pw N k) (by rintro σ ⟨x,rfl⟩;show 9<14;decide) ⟨λ_=>W9,rfl⟩ (λT hT σ hI=>by
    obtain⟨x,rfl⟩:=hI;obtain⟨ht,hk⟩:=hp.2.2 T hT;have inner:=i4 (i:=7) (Xp:=tc) (f:=λj:Nat=>Xc ((j+1:Nat):Int)) (P:=ER as m n k (am T)) (r:=iN false) (ff:=λσ=> ∃x:Nat->Option V,σ=mP (W8 (prf as N nm)) (W8 q) (W8 (fN as m k)) (W8 (.set (az (am T)))) (W8 (jm as (am T))) (x 7) (x 8) (x 9) W9 m k) (Oo (pc (am T))) (λj hj σ hI=>by
     obtain⟨x,rfl⟩:=hI;refine ab (BH F Q ht hk (OF.mp hj)) ?_;cases ER as m n k (am T) j with
     |true=>exact⟨_,rfl⟩
     |false=>exact⟨_,_,by rintro t ⟨⟩,rfl,iE rfl⟩) (mP (W8 (prf as N nm)) (W8 q) (W8 (fN as m k)) (W8 (.set (az (am T)))) (W8 (jm as (am T))) (x 7) (x 8) (x 9) W9 m k) ⟨x,rfl⟩
    have hr:aX (dK (Xc 1)) (dB bJ (dU aP (dV 5)) (dK (Xc 1))) (mP (W8 (prf as N nm)) (W8 q) (W8 (fN as m k)) (W8 (.set (az (am T)))) (W8 (jm as (am T))) (x 7) (x 8) (x 9) W9 m k)=W8 ((Oo (pc (am T))).map λj:Nat=>Xc ((j+1:Nat):Int)):=by have:=nK ht;rw[<-s4];refine fP (x:=1) (y:=(pc (am T):Int)+1) rfl ?_ (by decide) (KZ (aaR this)) (Nz _);show((aP (.set (az (am T)))).bind λx=>bJ x (.int 1))=_;refine ab (dY ht) ?_;rfl
    have hb:v4 (aw (mP (W8 (prf as N nm)) (W8 q) (W8 (fN as m k)) (x 5) (x 6) (x 7) (x 8) (x 9) W9 m k) 5 (W8 (b8 T)))=aa (λσ=>aQ (cH 7) tc ((Oo (pc (am T))).map λj:Nat=>Xc ((j+1:Nat):Int)) σ) af (mP (W8 (prf as N nm)) (W8 q) (W8 (fN as m k)) (W8 (.set (az (am T)))) (W8 (jm as (am T))) (x 7) (x 8) (x 9) W9 m k):=by unfold v4;refine ab (ax (aB (tW rfl (hp.2.1 T hT)))) ?_;show aa (ak 6 EQ) _ (mP (W8 (prf as N nm)) (W8 q) (W8 (fN as m k)) (W8 (.set (az (am T)))) (x 6) (x 7) (x 8) (x 9) W9 m k)=_;refine ab (ax (aB (BI (nm:=nm) (q:=q) F ht (x4:=W8 (fN as m k)) (x6:=x 6) (x7:=x 7) (x8:=x 8) (x9:=x 9)))) ?_;show(((aX _ _ (mP (W8 (prf as N nm)) (W8 q) (W8 (fN as m k)) (W8 (.set (az (am T)))) (W8 (jm as (am T))) (x 7) (x 8) (x 9) W9 m k)).bind λxs=>aQ (cH 7) tc xs _).bind _)=_;refine ab hr ?_;rfl
    refine ab hb ?_;cases hz:(Oo (pc (am T))).any (ER as m n k (am T))with
    |true=>rw[hz]at inner;obtain⟨σ',e⟩:=inner;exact⟨_,bq e⟩
    |false=>rw[hz]at inner;obtain⟨σ',e,x',rfl⟩:=inner;exact⟨.next,_,by rintro t ⟨⟩,ax e,iE rfl⟩)
 have e1:=qx (nm:=nm) F Q (σ:= [W8 (prf as N nm),W8 (.set (az m)),W8 q,W9,W9,W9,W9,W9,W9,W9,W9,W9,W9,W9]) rfl rfl;have e2:=BJ (nm:=nm) (q:=q) F (x4:=W9) (x5:=W9) (x6:=W9) (x7:=W9) (x8:=W9) (x9:=W9);have e3:=t4 (nm:=nm) F (σ:=mP (W8 (prf as N nm)) (W8 q) (W8 (fN as m k)) W9 W9 W9 W9 W9 W9 m k) (i:=3) rfl rfl;refine Qj ?_ key;show((aa (ak 3 _) (aa (ak 4 BK) (aa (bR _ (cH 5) v4) _)) [W8 (prf as N nm),W8 (.set (az m)),W8 q,W9,W9,W9,W9,W9,W9,W9,W9,W9,W9,W9]).bind _)=_;refine ab (ax (aB e1)) ?_;show((aa (ak 4 BK) (aa (bR _ (cH 5) v4) _) (mP (W8 (prf as N nm)) (W8 q) W9 W9 W9 W9 W9 W9 W9 m k)).bind _)=_;rw[ax (a:=ak 4 BK) (aB e2)];show(((((cO _ (mP (W8 (prf as N nm)) (W8 q) (W8 (fN as m k)) W9 W9 W9 W9 W9 W9 m k)).bind λxs=>aQ (cH 5) v4 xs _).bind _)).bind _)=_;rw[e3];rfl
end
section
variable{n:Nat}{nm:List V}{q:V}
def mR (m c:Nat):List Nat->Nat->List (Int×Nat)->List (Int×Nat)
 | [],_,x=>x
 |a::as,i,x=>mR m c as (i+1) (if f9 a c then r0 (ig x (pc (a&&&m):Nat)) (pc (a&&&m):Nat) i else x)
theorem ua:∀(x:List (Int×Nat)) (u:Int) (v:Nat),(r0 x u v).length=x.length
 | [],_,_=>rfl
 | (k,b)::r,u,v=>by
   show(if k=u then _ else _:List (Int×Nat)).length=_;split
   ·rfl
   ·simp[ua r u v]
theorem z6 (x:List (Int×Nat))(u:Int):(ig x u).length<=x.length+1:=by unfold ig;split<;>simp
theorem xY {r:Nat}{u:Int}{v:Nat}(hv:v<r):∀x:List (Int×Nat),(∀p∈x,p.2<2^r)->∀p∈r0 x u v,p.2<2^r
 | [],_,p,hp=>by cases hp
 | (k,b)::x,h,p,hp=>by
   replace hp:p∈(if k=u then(k,b ||| (1<<<v))::x else(k,b)::r0 x u v):=hp
   split at hp
   ·rcases OG.mp hp with rfl |hp
    ·exact R6 (h _ (.head _)) (by rw[R7];exact TD (by decide) hv)
    ·exact h p (.tail _ hp)
   ·rcases OG.mp hp with rfl |hp
    ·exact h _ (.head _)
    ·exact xY hv x (λp hp=>h p (.tail _ hp)) p hp
theorem Cj {r:Nat}{u:Int}{x:List (Int×Nat)}(h:∀p∈x,p.2<2^r):∀p∈ig x u,p.2<2^r:=λp hp=>by
 unfold ig at hp;split at hp
 ·exact h p hp
 ·rcases Rd.mp hp with hp |hp
  ·exact h p hp
  ·refine ab (OJ.mp hp) ?_;exact Tw r
theorem zl {m c r:Nat}:∀(as:List Nat) (i:Nat) (x:List (Int×Nat)),i+as.length<=r->(∀p∈x,p.2<2^r)->∀p∈mR m c as i x,p.2<2^r
 | [],_,_,_,h=>h
 |a::as,i,x,hi,h=>by
  simp only[Qf]at hi;refine zl as (i+1) _ (Op (O2 (aaF i as.length)) hi) ?_;split
  ·exact xY (OL (aaG (Rg _)) hi) _ (Cj h)
  ·exact h
def EU:ai->Option Bool:=dT (dB (λa b=>Ox Xb (fw a b)) (dV 3) (dU (aR 2 0) (dV 6)))
def FJ:ED:=dU aP (dB bW (dU (aR 2 0) (dV 6)) (dV 1))
theorem pL {P q4 c4 x8 x9 x10 x11 x12:Option V}{c:Nat}(hm:m<64):∀(as:List Nat) (i:Nat) (x:List (Int×Nat)) (x5 x6 x7:Option V),(∀a∈as,a<64)->i+as.length<=6->x.length<=i->
 ∃y5 y6 y7,dR (eH 5 6) (fA 0 EU FJ 4 7 5) (dz i (as.map dm)) x [P,W8 (.set (az m)),q4,W8 (.int c),W8 (.adr 0),x5,x6,x7,x8,x9,x10,x11,x12]=W8 (mR m c as i x,[P,W8 (.set (az m)),q4,W8 (.int c),W8 (.adr 0),y5,y6,y7,x8,x9,x10,x11,x12])
 | [],i,x,x5,x6,x7,_,_,_=>⟨x5,x6,x7,rfl⟩
 |a::as,i,x,x5,x6,x7,ha,hi,hx=>by
  simp only[Qf]at hi;have ZL:=ha a (.head _);have e1:EU [P,W8 (.set (az m)),q4,W8 (.int c),W8 (.adr 0),W8 (.int (i:Nat)),W8 (dm a),x7,x8,x9,x10,x11,x12]=W8 (f9 a c):=by show(((fw (.int c) (.set (az a))).map Xb).bind cZ)=_;refine ab (s5 ZL) ?_;rfl
  have e2:FJ [P,W8 (.set (az m)),q4,W8 (.int c),W8 (.adr 0),W8 (.int (i:Nat)),W8 (dm a),x7,x8,x9,x10,x11,x12]=W8 (.int (pc (a&&&m):Nat)):=sg ZL hm;cases h:f9 a c with
  |false=>rw[h]at e1;obtain⟨y5,y6,y7,e⟩:=pL (P:=P) (q4:=q4) (c4:=c4) (x8:=x8) (x9:=x9) (x10:=x10) (x11:=x11) (x12:=x12) (c:=c) hm as (i+1) x (W8 (.int (i:Nat))) (W8 (dm a)) x7 (λb hb=>ha b (.tail _ hb)) (Op (O2 (aaF i as.length)) hi) (aaS hx);refine⟨y5,y6,y7,?_⟩;show(((EU [P,W8 (.set (az m)),q4,W8 (.int c),W8 (.adr 0),W8 (.int (i:Nat)),W8 (dm a),x7,x8,x9,x10,x11,x12]).bind λb=>if b then _ else W8 (x,_)).bind λr=>dR (eH 5 6) _ _ r.1 r.2)=_;refine ab e1 (ab (show mR m c (a::as) i x=mR m c as (i+1) x from congrArg (mR m c as (i+1)) (if_neg λe=>OD (h.symm.trans e))) ?_);exact e
  |true=>
   rw[h]at e1;have hl:(r0 (ig x (pc (a&&&m):Nat)) (pc (a&&&m):Nat) i).length<=i+1:=by rw[ua];exact Op (z6 x (pc (a&&&m):Nat)) (Q6 hx)
   obtain⟨y5,y6,y7,e⟩:=pL (P:=P) (q4:=q4) (c4:=c4) (x8:=x8) (x9:=x9) (x10:=x10) (x11:=x11) (x12:=x12) (c:=c) hm as (i+1) (r0 (ig x (pc (a&&&m):Nat)) (pc (a&&&m):Nat) i) (W8 (.int (i:Nat))) (W8 (dm a)) (W8 (.int (pc (a&&&m):Nat))) (λb hb=>ha b (.tail _ hb)) (Op (O2 (aaF i as.length)) hi) hl;refine⟨y5,y6,y7,?_⟩;show(((EU [P,W8 (.set (az m)),q4,W8 (.int c),W8 (.adr 0),W8 (.int (i:Nat)),W8 (dm a),x7,x8,x9,x10,x11,x12]).bind λb=>if b then(FJ [P,W8 (.set (az m)),q4,W8 (.int c),W8 (.adr 0),W8 (.int (i:Nat)),W8 (dm a),x7,x8,x9,x10,x11,x12]).bind _ else W8 (x,_)).bind λr=>dR (eH 5 6) _ _ r.1 r.2)=_;refine ab e1 (ab e2 ?_);show((if 0<=((i:Nat):Int)/\ ((i:Nat):Int)<6/\ x.length<4000 then W8 (r0 (ig x (pc (a&&&m):Nat)) (pc (a&&&m):Nat) ((i:Nat):Int).toNat,_)else W9).bind λr=>dR (eH 5 6) _ _ r.1 r.2)=_;have hi6:i<6:=OL (aaG (Rg _)) hi;rw[if_pos ⟨PT _,PS.mpr hi6,OW hx (QX hi6 (by decide))⟩,Rm,show mR m c (a::as) i x=mR m c as (i+1) (r0 (ig x (pc (a&&&m):Nat)) (pc (a&&&m):Nat) i)from congrArg (mR m c as (i+1)) (if_pos h)];exact e
def CS (x:List (Int×Nat))(u:Nat):Nat:=(x.lookup (u:Int)).getD 0
theorem rt:∀(x:List (Int×Nat)) (u:Int),Au (x.map (·.1)) (x.map λp=>Xg (az p.2)) u=(x.lookup u).map λb=>Xg (az b)
 | [],_=>rfl
 | (k,b)::x,u=>by
   show(match u==k with |true=>W8 (Xg (az b)) |false=>Au (x.map (·.1)) (x.map λp=>Xg (az p.2)) u)=(match u==k with |true=>W8 b |false=>x.lookup u).map _;cases u==k with
   |true=>rfl
   |false=>exact rt x u
theorem yV (x:List (Int×Nat))(u:Nat):wV (bQ x) (.int (u:Nat)) (.set (az 0))=W8 (.set (az (CS x u))):=by show W8 ((Au (x.map (·.1)) (x.map λp=>Xg (az p.2)) (u:Nat)).getD (.set (az 0)))=_;rw[rt];unfold CS;cases x.lookup (u:Int)<;>rfl
theorem yy {r:Nat}{x:List (Int×Nat)}(h:∀p∈x,p.2<2^r)(u:Nat):CS x u<2^r:=by
 unfold CS;cases e:x.lookup (u:Int)with
 |none=>exact Tw r
 |some b=>
  have:∀x:List (Int×Nat),x.lookup (u:Int)=W8 b->((u:Int),b)∈x:=λx=>by
   induction x with
   |nil=>intro h;cases h
   |cons p x ih=>
    intro h;obtain⟨k',b'⟩:=p;rw[Qe]at h;cases hk:((u:Int)==k')with
    |true=>rw[hk]at h;cases h;refine ab (beq_iff_eq.mp hk) ?_;exact .head _
    |false=>rw[hk]at h;exact .tail _ (ih h)
  exact h _ (this x e)
def gg (x:List (Int×Nat)):Nat->Nat
 |0=>0
 |e+1=>gg x e |||CS x e
theorem yU {r:Nat}{x:List (Int×Nat)}(h:∀p∈x,p.2<2^r):∀e,gg x e<2^r
 |0=>Tw r
 |e+1=>R6 (yU h e) (yy h e)
def EV (x:List (Int×Nat))(n k e:Nat):Bool:=decide (n*(e+1)<=k*pc (gg x (e+1)))
def L4:ED:=dB (cA eW) (dB (cA dA) (aM aao (ah (dV 2) au) au) (dV 10)) λσ=>(pP LO (pO (dV 9)) (aj (bg 12) (λx=>W8 true) (aF (IL 12))) σ).bind cW
def Ka:ED:=λσ=>(dV 4 σ).bind λx=>(dB iw (dV 10) (dK (Xc 1)) σ).bind λy=>(dK (Xg (az 0)) σ).bind λz=>wV x y z
def aab:SD:=aa (BS 9 Ka) (tS 11 L4 λσ=>if((dV 9 σ).isSome&&((dV 3 σ).isSome&&((dV 10 σ).isSome&&true)))=true then W8 Xh else W9)
noncomputable abbrev j9 (P q:Option V)(m c:Nat)(x4 x5 x6 x7 x8 x9 x10 x11:Option V):ai:= [P,W8 (.set (az m)),q,W8 (.int c),x4,x5,x6,x7,x8,x9,x10,x11,W9]
theorem uJ (F:Pf as m n k N)(Q:QF n k q){c:Nat}{x:List (Int×Nat)}(hx:∀p∈x,p.2<2^as.length){x5 x6 x7 x8:Option V}:∀(l e:Nat) (x10 x11:Option V),e+l=k->
 if(TK e l).any (EV x n k)then ∃σ',aQ (cH 10) aab ((TK e l).map λj:Nat=>Xc ((j+1:Nat):Int)) (j9 (W8 (prf as N nm)) (W8 q) m c (W8 (bQ x)) x5 x6 x7 x8 (W8 (.set (az (gg x e)))) x10 x11)=W8 (.ret (iN false),σ')
 else ∃y9 y10,aQ (cH 10) aab ((TK e l).map λj:Nat=>Xc ((j+1:Nat):Int)) (j9 (W8 (prf as N nm)) (W8 q) m c (W8 (bQ x)) x5 x6 x7 x8 (W8 (.set (az (gg x e)))) x10 x11)=W8 (.next,j9 (W8 (prf as N nm)) (W8 q) m c (W8 (bQ x)) x5 x6 x7 x8 y9 y10 x11)
 |0,e,x10,x11,_=>⟨_,_,rfl⟩
 |l+1,e,x10,x11,he=>by
  have h6:=F.l6;have g64:∀e,gg x e<64:=λe=>OL (yU hx e) (PO (n:=2) (by decide) h6);have l64:CS x e<64:=OL (yy hx e) (PO (n:=2) (by decide) h6);have e9:Ka (j9 (W8 (prf as N nm)) (W8 q) m c (W8 (bQ x)) x5 x6 x7 x8 (W8 (.set (az (gg x e)))) (W8 (.int ((e+1:Nat):Int))) x11)=W8 (.set (az (CS x e))):=by show wV (bQ x) (.int (((e+1:Nat):Int) - 1)) (.set (az 0))=_;refine ab (show((e+1:Nat):Int) - 1=(e:Nat)from aa2 (e:Int) 1) ?_;exact yV x e
  have e10:BS 9 Ka (j9 (W8 (prf as N nm)) (W8 q) m c (W8 (bQ x)) x5 x6 x7 x8 (W8 (.set (az (gg x e)))) (W8 (.int ((e+1:Nat):Int))) x11)=W8 (.next,j9 (W8 (prf as N nm)) (W8 q) m c (W8 (bQ x)) x5 x6 x7 x8 (W8 (.set (az (gg x (e+1))))) (W8 (.int ((e+1:Nat):Int))) x11):=by unfold BS;refine ab e9 ?_;show W8 (Fl.next,j9 (W8 (prf as N nm)) (W8 q) m c (W8 (bQ x)) x5 x6 x7 x8 (W8 (.set (az (cB (az (gg x e)) |||cB (az (CS x e)))))) (W8 (.int ((e+1:Nat):Int))) x11)=_;refine ab (bT (g64 e)) (ab (bT l64) ?_);rfl
  have hT:L4 (j9 (W8 (prf as N nm)) (W8 q) m c (W8 (bQ x)) x5 x6 x7 x8 (W8 (.set (az (gg x (e+1))))) (W8 (.int ((e+1:Nat):Int))) x11)=W8 (.bool (EV x n k e)):=by have h1:=yS (σ:=j9 (W8 (prf as N nm)) (W8 q) m c (W8 (bQ x)) x5 x6 x7 x8 (W8 (.set (az (gg x (e+1))))) (W8 (.int ((e+1:Nat):Int))) x11) (j:=12) rfl rfl (by show 12<13;decide) (by decide) h6 (bs (gg x (e+1))) (λi hi=>Df (yU hx (e+1)) hi);have h2:=Q.mul (e+1) (pc (gg x (e+1))) (OW (he▸Op (Q6 (Rt e l)) (O2 (T8 e l 1))) F.k3.2) (aaR (nK (g64 (e+1))));show((((aao [q]).bind λx=>cA dA x (.int ((e+1:Nat):Int)))).bind λy=>((collect _ ((az (gg x (e+1))).map Xc)).bind cW).bind λz=>cA eW y z)=_;rw[ui];refine Qj (congrArg (Oy _) (funext λy=> ?_)) h2;refine ab (CE (g64 (e+1))) ?_;exact(congrArg (λz=>Oy z λz=>cA eW y z) h1)
  have hb:aab (j9 (W8 (prf as N nm)) (W8 q) m c (W8 (bQ x)) x5 x6 x7 x8 (W8 (.set (az (gg x e)))) (W8 (.int ((e+1:Nat):Int))) x11)=if EV x n k e then W8 (.ret (iN false),j9 (W8 (prf as N nm)) (W8 q) m c (W8 (bQ x)) x5 x6 x7 x8 (W8 (.set (az (gg x (e+1))))) (W8 (.int ((e+1:Nat):Int))) (W8 .any))else W8 (.next,j9 (W8 (prf as N nm)) (W8 q) m c (W8 (bQ x)) x5 x6 x7 x8 (W8 (.set (az (gg x (e+1))))) (W8 (.int ((e+1:Nat):Int))) x11):=by unfold aab;refine ab (ax e10) ?_;exact eh (i:=11) (dd:=λσ=>if((dV 9 σ).isSome&&((dV 3 σ).isSome&&((dV 10 σ).isSome&&true)))=true then W8 Xh else W9) hT rfl (by show 11<13;decide)
  have es:aQ (cH 10) aab ((TK e (l+1)).map λj:Nat=>Xc ((j+1:Nat):Int)) (j9 (W8 (prf as N nm)) (W8 q) m c (W8 (bQ x)) x5 x6 x7 x8 (W8 (.set (az (gg x e)))) x10 x11)=(aab (j9 (W8 (prf as N nm)) (W8 q) m c (W8 (bQ x)) x5 x6 x7 x8 (W8 (.set (az (gg x e)))) (W8 (.int ((e+1:Nat):Int))) x11)).bind λr=>match r.1 with
   | .ret _=>W8 r
   |_=>aQ (cH 10) aab ((TK (e+1) l).map λj:Nat=>Xc ((j+1:Nat):Int)) r.2:=rfl
  refine ab es (ab hb (ab List.range'_succ (ab T2 ?_)));cases h:EV x n k e with
  |true=>exact⟨_,rfl⟩
  |false=>rw[Qm];exact uJ F Q hx l (e+1) (W8 (.int ((e+1:Nat):Int))) x11 ((aaF e l).trans he)
def BM:SD:=aa (aE (dT (dB (λa b=>Ox Xb (fw a b)) (dV 3) (dV 1))) (aa iq af) af)
 (aa (Ke 4 (EZ 4 7 5 (dO 1 2 (dV 0)) (eH 5 6) EU FJ))
   (aa
     (ak 8 λσ=>
       ((aM eV (ah (λσ=>((dV 0 σ).bind (aS 1)).bind λy=>oo [y]) (ah (dV 2) au))
          au σ).bind
          (aS 0)).bind
         λy=>d6 [y])
     (aa (ak 9 (dK (Xg (az 0))))
       (aa
         (bR (aX (dK (Xc 1)) (dB bJ (dV 8) (dK (Xc 1)))) (cH 10) aab)
         af))))
def Hq (as:List Nat)(m n k c:Nat):Bool:= !f9 m c&&(Oo k).any (EV (mR m c as 0 []) n k)
theorem BN (F:Pf as m n k N)(Q:QF n k q):FP [prf as N nm,.set (az m),q]=W8 (iN (!(Oo N).any (Hq as m n k))):=by
 injections k m N as n nm q _ F Q;have h6:=F.l6;have key:=ie (i:=3) (j:=11) (f:=λc:Nat=>Xc (c:Int)) (P:=Hq as m n k) (ff:=λσ=> ∃x:Nat->Option V,σ= [W8 (prf as N nm),W8 (.set (az m)),W8 q,x 3,x 4,x 5,x 6,x 7,x 8,x 9,x 10,x 11,W9])
  (Xp:=BM) (xs:=Oo N) (by rintro σ ⟨x,rfl⟩;show 11<13;decide) ⟨λ_=>W9,rfl⟩ (λc _ σ hI=>by
    obtain⟨x,rfl⟩:=hI;have e0:(dT (dB (λa b=>Ox Xb (fw a b)) (dV 3) (dV 1))) (j9 (W8 (prf as N nm)) (W8 q) m c (x 4) (x 5) (x 6) (x 7) (x 8) (x 9) (x 10) (x 11))=W8 (f9 m c):=by show(((fw (.int c) (.set (az m))).map Xb).bind cZ)=_;refine ab (s5 F.m64) ?_;rfl
    show if Hq as m n k c=true then ∃σ',BM (j9 (W8 (prf as N nm)) (W8 q) m c (x 4) (x 5) (x 6) (x 7) (x 8) (x 9) (x 10) (x 11))=W8 (Fl.ret (iN false),σ')else ∃(fl:Fl) (σ':ai),(∀t,fl≠Fl.ret t)/\ BM (j9 (W8 (prf as N nm)) (W8 q) m c (x 4) (x 5) (x 6) (x 7) (x 8) (x 9) (x 10) (x 11))=W8 (fl,σ')/\ _
    unfold Hq BM;cases hc:f9 m c with
    |true=>rw[hc]at e0;exact⟨.cont,_,by rintro t ⟨⟩,lj ((aG e0).trans rfl),iE rfl⟩
    |false=>
     rw[hc]at e0;refine ab (ax ((aG e0).trans rfl)) ?_;obtain⟨y5,y6,y7,e1⟩:=pL (P:=W8 (prf as N nm)) (q4:=W8 q) (c4:=W9) (x8:=x 8) (x9:=x 9) (x10:=x 10) (x11:=x 11) (x12:=W9) (c:=c) F.m64 as 0 [] (x 5) (x 6) (x 7) F.a64 (Op (O2 (O1 _)) F.l6) (QJ _);have e2:Ke 4 (EZ 4 7 5 (dO 1 2 (dV 0)) (eH 5 6) EU FJ) (j9 (W8 (prf as N nm)) (W8 q) m c (x 4) (x 5) (x 6) (x 7) (x 8) (x 9) (x 10) (x 11))=W8 (.next,j9 (W8 (prf as N nm)) (W8 q) m c (W8 (bQ (mR m c as 0 []))) y5 y6 y7 (x 8) (x 9) (x 10) (x 11)):=by show((dR (eH 5 6) (fA 0 EU FJ 4 7 5) (dz 0 (as.map dm)) [] [W8 (prf as N nm),W8 (.set (az m)),W8 q,W8 (.int c),W8 (.adr 0),(x 5),(x 6),(x 7),(x 8),(x 9),(x 10),(x 11),W9]).bind _)=_;refine ab e1 ?_;rfl
     refine ab (ax e2) ?_;have e3:=qx (nm:=nm) F Q (σ:=j9 (W8 (prf as N nm)) (W8 q) m c (W8 (bQ (mR m c as 0 []))) y5 y6 y7 (x 8) (x 9) (x 10) (x 11)) rfl rfl;refine ab (ax (aB e3)) ?_;show if _ then ∃σ',aa (ak 9 (dK (Xg (az 0)))) _ (j9 (W8 (prf as N nm)) (W8 q) m c (W8 (bQ (mR m c as 0 []))) y5 y6 y7 (W8 (.int k)) (x 9) (x 10) (x 11))=W8 (Fl.ret (iN false),σ')else ∃(fl:Fl) (σ':ai),(∀t,fl≠Fl.ret t)/\ aa (ak 9 (dK (Xg (az 0)))) _ (j9 (W8 (prf as N nm)) (W8 q) m c (W8 (bQ (mR m c as 0 []))) y5 y6 y7 (W8 (.int k)) (x 9) (x 10) (x 11))=W8 (fl,σ')/\ _
     refine ab (ax (aB (i:=9) (e:=dK (Xg (az 0))) (t:= .set (az 0)) rfl)) ?_;have lp:=uJ (nm:=nm) F Q (c:=c) (x:=mR m c as 0 []) (zl as 0 [] (O2 (O1 _)) (λp hp=>by cases hp)) (x5:=y5) (x6:=y6) (x7:=y7) (x8:=W8 (.int k)) k 0 (x 10) (x 11) (O1 _);rw[<-List.range_eq_range']at lp;have hr:aX (dK (Xc 1)) (dB bJ (dV 8) (dK (Xc 1))) (j9 (W8 (prf as N nm)) (W8 q) m c (W8 (bQ (mR m c as 0 []))) y5 y6 y7 (W8 (.int k)) (W8 (.set (az 0))) (x 10) (x 11))=W8 ((Oo k).map λj:Nat=>Xc ((j+1:Nat):Int)):=by have:=F.k3;rw[<-s4];exact fP (x:=1) (y:=(k:Int)+1) rfl rfl (by decide) (KZ (QX F.k3.2 (by decide))) (Nz _)
     have hb:∀R:SD,aa (bR (aX (dK (Xc 1)) (dB bJ (dV 8) (dK (Xc 1)))) (cH 10) aab) R (j9 (W8 (prf as N nm)) (W8 q) m c (W8 (bQ (mR m c as 0 []))) y5 y6 y7 (W8 (.int k)) (W8 (.set (az 0))) (x 10) (x 11))=aa (λσ=>aQ (cH 10) aab ((Oo k).map λj:Nat=>Xc ((j+1:Nat):Int)) σ) R (j9 (W8 (prf as N nm)) (W8 q) m c (W8 (bQ (mR m c as 0 []))) y5 y6 y7 (W8 (.int k)) (W8 (.set (az 0))) (x 10) (x 11)):=λR=>by unfold aa bR;refine ab hr ?_;rfl
     show if _ then ∃σ',aa (bR _ (cH 10) aab) af (j9 (W8 (prf as N nm)) (W8 q) m c (W8 (bQ (mR m c as 0 []))) y5 y6 y7 (W8 (.int k)) (W8 (.set (az 0))) (x 10) (x 11))=W8 (Fl.ret (iN false),σ')else ∃(fl:Fl) (σ':ai),(∀t,fl≠Fl.ret t)/\ aa (bR _ (cH 10) aab) af (j9 (W8 (prf as N nm)) (W8 q) m c (W8 (bQ (mR m c as 0 []))) y5 y6 y7 (W8 (.int k)) (W8 (.set (az 0))) (x 10) (x 11))=W8 (fl,σ')/\ _
     rw[hb];show if(Oo k).any (EV (mR m c as 0 []) n k)=true then _ else _
     cases hz:(Oo k).any (EV (mR m c as 0 []) n k)with
     |true=>rw[hz]at lp;obtain⟨σ',e⟩:=lp;exact⟨_,bq e⟩
     |false=>rw[hz]at lp;obtain⟨y9,y10,e⟩:=lp;exact⟨.next,_,by rintro t ⟨⟩,ax e,iE rfl⟩)
 rw[<-pE]at key;exact key
end
section
variable{n:Nat}{nm:List V}{q:V}
def nV (j:Nat):V:=Xc (j:Int)
def cz (l:List Nat)(g:Nat):Prop:=gz [.list (l.map nV),.int (g:Nat)]=W8 (.list ((gB l g).map b8))
theorem NL (g:Nat)(h:g<7):cz [] g:=by rcases g with _ |_ |_ |_ |_ |_ |_ |g<;>first |exact absurd (Op (Qc 8 _) h) (by decide) | (unfold cz;kernel_rfl)
theorem NK (a g:Nat)(h:g<7):cz [a] g:=by rcases g with _ |_ |_ |_ |_ |_ |_ |g<;>first |exact absurd (Op (Qc 8 _) h) (by decide) | (unfold cz;kernel_rfl)
theorem NJ (a b g:Nat)(h:g<7):cz [a,b] g:=by rcases g with _ |_ |_ |_ |_ |_ |_ |g<;>first |exact absurd (Op (Qc 8 _) h) (by decide) | (unfold cz;kernel_rfl)
theorem NI (a b c g:Nat)(h:g<7):cz [a,b,c] g:=by rcases g with _ |_ |_ |_ |_ |_ |_ |g<;>first |exact absurd (Op (Qc 8 _) h) (by decide) | (unfold cz;kernel_rfl)
theorem NH (a b c d g:Nat)(h:g<7):cz [a,b,c,d] g:=by rcases g with _ |_ |_ |_ |_ |_ |_ |g<;>first |exact absurd (Op (Qc 8 _) h) (by decide) | (unfold cz;kernel_rfl)
theorem NG (a b c d e g:Nat)(h:g<7):cz [a,b,c,d,e] g:=by rcases g with _ |_ |_ |_ |_ |_ |_ |g<;>first |exact absurd (Op (Qc 8 _) h) (by decide) | (unfold cz;kernel_rfl)
theorem NF (a b c d e f g:Nat)(h:g<7):cz [a,b,c,d,e,f] g:=by rcases g with _ |_ |_ |_ |_ |_ |_ |g<;>first |exact absurd (Op (Qc 8 _) h) (by decide) | (unfold cz;kernel_rfl)
theorem BY:∀(l:List Nat),l.length<=6->∀g,g<7->gz [.list (l.map nV),.int (g:Nat)]=W8 (.list ((gB l g).map b8))
 | [],_,g,h=>NL g h
 | [a],_,g,h=>NK a g h
 | [a,b],_,g,h=>NJ a b g h
 | [a,b,c],_,g,h=>NI a b c g h
 | [a,b,c,d],_,g,h=>NH a b c d g h
 | [a,b,c,d,e],_,g,h=>NG a b c d e g h
 | [a,b,c,d,e,f],_,g,h=>NF a b c d e f g h
 |_::_::_::_::_::_::_::_,h,_,_=>absurd (Op (Qc 7 _) h) (by decide)
theorem j1:∀(l:List Nat) (r:Nat) (T:List Nat),T∈gB l r->∀c∈T,c∈l
 |l,0,T,h,c,hc=>by
  have:T= []:=by cases l with |nil=>exact OJ.mp h |cons=>exact OJ.mp h
  subst this;cases hc
 | [],r+1,T,h,c,hc=>by cases h
 |x::l,r+1,T,h,c,hc=>by
  rcases Rd.mp h with h |h
  ·obtain⟨S,hS,rfl⟩:=OM.mp h
   rcases OG.mp hc with rfl |hc
   ·exact .head _
   ·exact .tail _ (j1 l r S hS c hc)
  ·exact .tail _ (j1 l (r+1) T h c hc)
theorem Dh {i:Nat}(hi:i<as.length)(h6:as.length<=6):(gO [prf as N nm,.int (i:Nat)]).bind (aR 2 0)=W8 (.set (az (as.getD i 0))):=by
 have h1:(0:Int)<=(i:Int):=PT _;have h2:(i:Int)<(lim:Nat):=PS.mpr (OL hi (Op h6 (by decide)));have h3:Z4 (as.map dm) (i:Int)=W8 (dm as[i]):=by unfold Z4;rw[if_pos h1,if_pos h2,Rm,Qw,OP hi];rfl
 show((((Z4 (as.map dm) (i:Int))).map _ |>.bind _ |>.bind _).bind _)=_;rw[h3,Pg,OP hi];rfl
noncomputable abbrev EE (P q ub ell VL W aaz x8 x9 x10 x11 x12:Option V)(m:Nat)(tl:ai):ai:=P::W8 (.set (az m))::q::ub::ell::VL::W::aaz::x8::x9::x10::x11::x12::tl
def mT:SD:=aa
 (aE
   (dT (dB (bf λa b=>decide (a<b)) (dU aP (dB bW (dU (aR 2 0) (dV 9)) (dV 1))) (dV 4)))
   (aa (pR 5 (dV 8)) (aa (tm 6 (dU (aR 2 1) (dV 9))) af)) af)
 af
def bt (m e a:Nat):Bool:=decide (pc (a&&&m)<e+1)
theorem oJ {P q ub aaz x10 x11 x12:Option V}{tl:ai}{e:Nat}(hm:m<64):∀(as:List Nat) (i w:Nat) (l:List V) (x8 x9:Option V),(∀a∈as,a<64)->i+as.length<=6->l.length<=i->
 ∃y8 y9,aQ (eH 8 9) mT (dz i (as.map dm)) (EE P q ub (W8 (.int ((e+1:Nat):Int))) (W8 (.list l)) (W8 (.int w)) aaz x8 x9 x10 x11 x12 m tl)=W8 (.next,EE P q ub (W8 (.int ((e+1:Nat):Int))) (W8 (.list (l++(fh (bt m e) i as).map nV))) (W8 (.int ((w+cnt (bt m e) as:Nat):Int))) aaz y8 y9 x10 x11 x12 m tl)
 | [],i,w,l,x8,x9,_,_,_=>⟨x8,x9,by show W8 _=_;rw[show fh (bt m e) i []= []from rfl,List.map_nil,QQ,show cnt (bt m e) []=0 from rfl];rfl⟩
 |a::as,i,w,l,x8,x9,ha,hi,hl=>by
  simp only[Qf]at hi;have ZL:=ha a (.head _);have e1:(dT (dB (bf λa b=>decide (a<b)) (dU aP (dB bW (dU (aR 2 0) (dV 9)) (dV 1))) (dV 4))) (EE P q ub (W8 (.int ((e+1:Nat):Int))) (W8 (.list l)) (W8 (.int w)) aaz (W8 (.int (i:Nat))) (W8 (dm a)) x10 x11 x12 m tl)=W8 (bt m e a):=by show((((bW (.set (az a)) (.set (az m))).bind aP).bind λx=>bf (λa b=>decide (a<b)) x (.int ((e+1:Nat):Int)))).bind cZ=_;refine ab (sg ZL hm) ?_;show W8 (decide (((pc (a&&&m):Nat):Int)<((e+1:Nat):Int)))=_;unfold bt;exact congrArg W8 (decide_eq_decide.mpr PS)
  have es:∀σ:ai,aQ (eH 8 9) mT (dz i ((a::as).map dm)) σ=(mT (aw (aw σ 8 (W8 (.int (i:Nat)))) 9 (W8 (dm a)))).bind λr=>match r.1 with
   | .ret _=>W8 r
   |_=>aQ (eH 8 9) mT (dz (i+1) (as.map dm)) r.2:=λσ=>rfl
  rw[es];cases h:bt m e a with
  |false=>rw[h]at e1;have hb:mT (EE P q ub (W8 (.int ((e+1:Nat):Int))) (W8 (.list l)) (W8 (.int w)) aaz (W8 (.int (i:Nat))) (W8 (dm a)) x10 x11 x12 m tl)=W8 (.next,EE P q ub (W8 (.int ((e+1:Nat):Int))) (W8 (.list l)) (W8 (.int w)) aaz (W8 (.int (i:Nat))) (W8 (dm a)) x10 x11 x12 m tl):=ax ((aG e1).trans rfl);obtain⟨y8,y9,e2⟩:=oJ (P:=P) (q:=q) (ub:=ub) (aaz:=aaz) (x10:=x10) (x11:=x11) (x12:=x12) (tl:=tl) (e:=e) hm as (i+1) w l (W8 (.int (i:Nat))) (W8 (dm a)) (λb hb=>ha b (.tail _ hb)) (Op (O2 (aaF i as.length)) hi) (aaS hl);refine⟨y8,y9,?_⟩;show((mT (EE P q ub (W8 (.int ((e+1:Nat):Int))) (W8 (.list l)) (W8 (.int w)) aaz (W8 (.int (i:Nat))) (W8 (dm a)) x10 x11 x12 m tl)).bind _)=_;refine ab hb (ab (show fh (bt m e) i (a::as)=fh (bt m e) (i+1) as from if_neg λe=>OD (h.symm.trans e)) (ab (show cnt (bt m e) (a::as)=cnt (bt m e) as from(congrArg (· +cnt (bt m e) as) (if_neg λe=>OD (h.symm.trans e))).trans (O1 _)) ?_));exact e2
  |true=>
   rw[h]at e1;have hb:mT (EE P q ub (W8 (.int ((e+1:Nat):Int))) (W8 (.list l)) (W8 (.int w)) aaz (W8 (.int (i:Nat))) (W8 (dm a)) x10 x11 x12 m tl)=W8 (.next,EE P q ub (W8 (.int ((e+1:Nat):Int))) (W8 (.list (l++ [nV i]))) (W8 (.int ((w+1:Nat):Int))) aaz (W8 (.int (i:Nat))) (W8 (dm a)) x10 x11 x12 m tl):=by
    refine(ax (σ':=EE P q ub (W8 (.int ((e+1:Nat):Int))) (W8 (.list (l++ [nV i]))) (W8 (.int ((w+1:Nat):Int))) aaz (W8 (.int (i:Nat))) (W8 (dm a)) x10 x11 x12 m tl) ((aG e1).trans ?_)).trans rfl;refine(ax (σ':=EE P q ub (W8 (.int ((e+1:Nat):Int))) (W8 (.list (l++ [nV i]))) (W8 (.int w)) aaz (W8 (.int (i:Nat))) (W8 (dm a)) x10 x11 x12 m tl) ?_).trans ?_
    ·show((if l.length<lim then W8 (l++ [nV i])else W9).map _)=_
     refine ab (if_pos (OW hl (OL (aaG (Rg _)) (Op hi (by decide))))) ?_;rfl
    ·rfl
   obtain⟨y8,y9,e2⟩:=oJ (P:=P) (q:=q) (ub:=ub) (aaz:=aaz) (x10:=x10) (x11:=x11) (x12:=x12) (tl:=tl) (e:=e) hm as (i+1) (w+1) (l++ [nV i]) (W8 (.int (i:Nat))) (W8 (dm a)) (λb hb=>ha b (.tail _ hb)) (Op (O2 (aaF i as.length)) hi) (ab Pd (Q6 hl));refine⟨y8,y9,?_⟩;show((mT (EE P q ub (W8 (.int ((e+1:Nat):Int))) (W8 (.list l)) (W8 (.int w)) aaz (W8 (.int (i:Nat))) (W8 (dm a)) x10 x11 x12 m tl)).bind _)=_;refine ab hb (ab (show fh (bt m e) i (a::as)=i::fh (bt m e) (i+1) as from if_pos h) (ab (show cnt (bt m e) (a::as)=1+cnt (bt m e) as from congrArg (· +cnt (bt m e) as) (if_pos h)) ?_));show aQ (eH 8 9) mT (dz (i+1) (as.map dm)) (EE P q ub (W8 (.int ((e+1:Nat):Int))) (W8 (.list (l++ [nV i]))) (W8 (.int ((w+1:Nat):Int))) aaz (W8 (.int (i:Nat))) (W8 (dm a)) x10 x11 x12 m tl)=_;rw[e2,Sw,QR,T8];rfl
def wJ:ED:=dU (aR 2 0) λσ=>((dV 0 σ).bind (aS 1)).bind λx=>(dV 12 σ).bind λy=>gO [x,y]
def eY (as:List Nat)(b:Nat)(G:List Nat):Nat:=G.foldl (λb i=>b&&&as.getD i 0) b
theorem tr (as:List Nat):∀(G:List Nat) (b:Nat),b<64->eY as b G<64
 | [],_,h=>h
 |i::G,b,h=>tr as G _ (u0 h)
theorem aap (h:∀a∈as,a<64)(i:Nat):as.getD i 0<64:=by
 rw[Pg];cases e:as[i]? with
 |none=>decide
 |some a=>exact h a (Qs e)
theorem rP (F:Pf as m n k N){ub ell VL W aaz x8 x9 x10:Option V}{tl:ai}:∀(G:List Nat) (b:Nat) (x12:Option V),b<64->(∀i∈G,i<as.length)->
 ∃YA,aQ (cH 12) (aa (ak 11 (dB bW (dV 11) wJ)) af) (G.map nV) (EE (W8 (prf as N nm)) (W8 q) ub ell VL W aaz x8 x9 x10 (W8 (.set (az b))) x12 m tl)=W8 (.next,EE (W8 (prf as N nm)) (W8 q) ub ell VL W aaz x8 x9 x10 (W8 (.set (az (eY as b G)))) YA m tl)
 | [],b,x12,_,_=>⟨x12,rfl⟩
 |i::G,b,x12,hb,hG=>by
  have e1:dB bW (dV 11) wJ (EE (W8 (prf as N nm)) (W8 q) ub ell VL W aaz x8 x9 x10 (W8 (.set (az b))) (W8 (nV i)) m tl)=W8 (.set (az (b&&&as.getD i 0))):=by show(((gO [prf as N nm,.int (i:Nat)]).bind (aR 2 0)).bind λy=>bW (.set (az b)) y)=_;refine ab (Dh (hG i (.head _)) F.l6) ?_;exact k6 hb (aap F.a64 i)
  obtain⟨YA,e2⟩:=rP F (ub:=ub) (ell:=ell) (VL:=VL) (W:=W) (aaz:=aaz) (x8:=x8) (x9:=x9) (x10:=x10) (tl:=tl) G (b&&&as.getD i 0) (W8 (nV i)) (u0 hb) λj hj=>hG j (.tail _ hj);refine⟨YA,?_⟩;show((aa (ak 11 (dB bW (dV 11) wJ)) af (EE (W8 (prf as N nm)) (W8 q) ub ell VL W aaz x8 x9 x10 (W8 (.set (az b))) (W8 (nV i)) m tl)).bind _)=_;refine ab (ax (aB e1)) ?_;exact e2
theorem zF (F:Pf as m n k N)(Xz:aK σ 0=W8 (prf as N nm)):aan (cO (dU (aR 1 0) (dV 0))) σ=W8 (.set (az (am (Oo N)))):=by show(((((aK σ 0).bind (aR 1 0)).bind fR).bind λxs=>(cI xs).map λns=>Xg (az (am ns))))=_;refine ab Xz ?_;show((cI (cy 0 N)).map _)=_;rw[pE,fF _ λc hc=>OL (OF.mp hc) (aaJ F.N6)];rfl
def aaz (n k e:Nat):Nat:=(n*(e+1)+(k - 1))/k
theorem G3 (hn:0<n/\ n<7)(hk:0<k/\ k<4){e:Nat}(he:e<k):aaz n k e<7:=by unfold aaz;refine Nat.div_lt_of_lt_mul ?_;have h1:n*(e+1)<=n*k:=TV n he;have h2:n*k<=6*k:=Su k (aaJ hn.2);have h3:k*7=6*k+k:=Nat.mul_comm k 7 |>.trans (Nat.succ_mul 6 k);exact h3▸Nat.add_lt_add_of_le_of_lt (Op h1 h2) (Nat.sub_lt hk.1 Nat.one_pos)
end
section
variable{n:Nat}{nm:List V}{q:V}
def th:SD:=aa (ak 11 (aan (cO (dU (aR 1 0) (dV 0))))) (aa (bR (cO (dV 10)) (cH 12) (aa (ak 11 (dB bW (dV 11) wJ)) af)) (tS 13 (dB (bf λa b=>decide (b<=a)) (dU aP (dV 11)) (dV 4)) λσ=>if((dV 5 σ).isSome&&((dV 4 σ).isSome&&((dV 11 σ).isSome&&true)))=true then W8 Xh else W9))
def sQ:SD:=aa (ak 11 (aan (cO (dU (aR 1 0) (dV 0))))) (aa (bR (cO (dV 10)) (cH 12) (aa (ak 11 (dB bW (dV 11) wJ)) af)) (aa (aE (dT (dB (bf λa b=>decide (b<=a)) (dU aP (dV 11)) (dV 4))) (aa (ak 13 (dK (Xg (az 0)))) (aa (bR (cO (dV 10)) (cH 12) (aa (ak 13 (dB eF (dV 13) wJ)) af)) (tS 14 (dB (bf λa b=>decide (a<b)) (dU aP (dB bW (dV 13) (dV 1))) (dV 4)) λσ=>if((dV 5 σ).isSome&&((dV 4 σ).isSome&&((dV 11 σ).isSome&&true)))=true then W8 Xh else W9))) af) af))
def Ax (inner:SD):SD:=aa (ak 5 (b9 au)) (aa (ak 6 (dK (Xc 0))) (aa (ak 7 λσ=>((dB (cA dA) (aM aao (ah (dV 2) au) au) (dV 4) σ).bind (aS 0)).bind λy=>ky [y]) (aa (bR (dO 1 2 (dV 0)) (eH 8 9) mT) (aa (aE (dT (dB (bf λa b=>decide (a<b)) (dV 6) (dV 7))) (aa iq af) af) (aa (bR (cO (aM gz (ah (dV 5) (ah (dV 7) au)) au)) (cH 10) inner) af)))))
def Av (as:List Nat)(m n k e:Nat)(c:List Nat->Bool):Bool:= !decide (cnt (bt m e) as<aaz n k e)&&(gB (fh (bt m e) 0 as) (aaz n k e)).any c
theorem y3 (F:Pf as m n k N)(Q:QF n k q){inner:SD}{c:List Nat->Bool}{e:Nat}(he:e<k){tl₀:ai->Prop}
 (YS:∀G,(∀i∈G,i<as.length)->∀(VL W x8 x9 x10 x11 x12:Option V) (tl:ai),VL.isSome=true->tl₀ tl->if c G then ∃σ',inner (EE (W8 (prf as N nm)) (W8 q) (W8 (.int k)) (W8 (.int ((e+1:Nat):Int))) VL W (W8 (.int (aaz n k e:Nat))) x8 x9 (W8 (b8 G)) x11 x12 m tl)=W8 (.ret (iN false),σ')else ∃y11 YA Zy,tl₀ Zy/\ inner (EE (W8 (prf as N nm)) (W8 q) (W8 (.int k)) (W8 (.int ((e+1:Nat):Int))) VL W (W8 (.int (aaz n k e:Nat))) x8 x9 (W8 (b8 G)) x11 x12 m tl)=W8 (.next,EE (W8 (prf as N nm)) (W8 q) (W8 (.int k)) (W8 (.int ((e+1:Nat):Int))) VL W (W8 (.int (aaz n k e:Nat))) x8 x9 (W8 (b8 G)) y11 YA m Zy))
 (ZO:tl₀ tl):
   if Av as m n k e c then ∃σ',Ax inner (EE (W8 (prf as N nm)) (W8 q) (W8 (.int k)) (W8 (.int ((e+1:Nat):Int))) x5 x6 x7 x8 x9 x10 x11 x12 m tl)=W8 (.ret (iN false),σ')
   else ∃(fl:Fl) (y:Nat->Option V) (Zy:ai),(∀t,fl≠ .ret t)/\ tl₀ Zy/\ Ax inner (EE (W8 (prf as N nm)) (W8 q) (W8 (.int k)) (W8 (.int ((e+1:Nat):Int))) x5 x6 x7 x8 x9 x10 x11 x12 m tl)=W8 (fl,EE (W8 (prf as N nm)) (W8 q) (W8 (.int k)) (W8 (.int ((e+1:Nat):Int))) (y 5) (y 6) (y 7) (y 8) (y 9) (y 10) (y 11) (y 12) m Zy):=by
  injections k m N as x8 x9 x6 x7 x10 x5 x11 x12 tl n nm q inner c e tl₀ _ F Q he YS ZO;have h6:=F.l6;have e7:(λσ=>((dB (cA dA) (aM aao (ah (dV 2) au) au) (dV 4) σ).bind (aS 0)).bind λy=>ky [y]) (EE (W8 (prf as N nm)) (W8 q) (W8 (.int k)) (W8 (.int ((e+1:Nat):Int))) (W8 (.list [])) (W8 (.int 0)) x7 x8 x9 x10 x11 x12 m tl)=W8 (.int (aaz n k e:Nat)):=Q.ceil (e+1) (OW he F.k3.2);obtain⟨y8,y9,e9⟩:=oJ (P:=W8 (prf as N nm)) (q:=W8 q) (ub:=W8 (.int k)) (aaz:=W8 (.int (aaz n k e:Nat))) (x10:=x10) (x11:=x11) (x12:=x12) (tl:=tl) (e:=e) F.m64 as 0 0 [] x8 x9 F.a64 (Op (O2 (O1 _)) h6) (O5 _);rw[List.nil_append,O1]at e9;have hlen:=jc (bt m e) as 0;have Y8:=j2 (bt m e) as;have e10:(dT (dB (bf λa b=>decide (a<b)) (dV 6) (dV 7))) (EE (W8 (prf as N nm)) (W8 q) (W8 (.int k)) (W8 (.int ((e+1:Nat):Int))) (W8 (.list ((fh (bt m e) 0 as).map nV))) (W8 (.int ((cnt (bt m e) as:Nat):Int))) (W8 (.int (aaz n k e:Nat))) y8 y9 x10 x11 x12 m tl)=W8 (decide (cnt (bt m e) as<aaz n k e)):=by show W8 (decide (((cnt (bt m e) as:Nat):Int)<((aaz n k e:Nat):Int)))=_;exact congrArg W8 (decide_eq_decide.mpr PS)
  have hs:Ax inner (EE (W8 (prf as N nm)) (W8 q) (W8 (.int k)) (W8 (.int ((e+1:Nat):Int))) x5 x6 x7 x8 x9 x10 x11 x12 m tl)=aa (aE (dT (dB (bf λa b=>decide (a<b)) (dV 6) (dV 7))) (aa iq af) af)
   (aa (bR (cO (aM gz (ah (dV 5) (ah (dV 7) au)) au)) (cH 10) inner) af) (EE (W8 (prf as N nm)) (W8 q) (W8 (.int k)) (W8 (.int ((e+1:Nat):Int))) (W8 (.list ((fh (bt m e) 0 as).map nV))) (W8 (.int ((cnt (bt m e) as:Nat):Int))) (W8 (.int (aaz n k e:Nat))) y8 y9 x10 x11 x12 m tl):=by
   unfold Ax;refine ab (ax (aB (i:=5) (e:=b9 au) (t:= .list []) rfl)) ?_;refine ab (ax (aB (i:=6) (e:=dK (Xc 0)) (t:= .int 0) rfl)) ?_;show aa (ak 7 _) _ (EE (W8 (prf as N nm)) (W8 q) (W8 (.int k)) (W8 (.int ((e+1:Nat):Int))) (W8 (.list [])) (W8 (.int 0)) x7 x8 x9 x10 x11 x12 m tl)=_;refine ab (ax (aB e7)) ?_;exact ax e9
  refine ab hs ?_;unfold Av;cases hd:decide (cnt (bt m e) as<aaz n k e)with
  |true=>rw[hd]at e10;exact⟨.cont,aK (EE (W8 (prf as N nm)) (W8 q) (W8 (.int k)) (W8 (.int ((e+1:Nat):Int))) (W8 (.list ((fh (bt m e) 0 as).map nV))) (W8 (.int ((cnt (bt m e) as:Nat):Int))) (W8 (.int (aaz n k e:Nat))) y8 y9 x10 x11 x12 m tl),_,by rintro t ⟨⟩,ZO,lj ((aG e10).trans rfl)⟩
  |false=>
   rw[hd]at e10;refine ab (ax ((aG e10).trans rfl)) ?_;have hc:=BY (fh (bt m e) 0 as) (hlen▸Op Y8 h6) (aaz n k e) (G3 F.n6 F.k3 he);have YG:=j1 (fh (bt m e) 0 as) (aaz n k e);have lp:=i4 (i:=10) (Xp:=inner) (f:=b8) (P:=c) (r:=iN false) (ff:=λσ=> ∃x10 x11 x12 tl,tl₀ tl/\ σ=EE (W8 (prf as N nm)) (W8 q) (W8 (.int k)) (W8 (.int ((e+1:Nat):Int))) (W8 (.list ((fh (bt m e) 0 as).map nV))) (W8 (.int ((cnt (bt m e) as:Nat):Int))) (W8 (.int (aaz n k e:Nat))) y8 y9 x10 x11 x12 m tl)
    (gB (fh (bt m e) 0 as) (aaz n k e)) (λG hG σ hI=>by
      obtain⟨x10,x11,x12,tl,ZO,rfl⟩:=hI;have h:=YS G (λi hi=>OL (jY _ as 0 i (YG G hG i hi)).2 (O2 (O1 _))) (W8 (.list ((fh (bt m e) 0 as).map nV))) (W8 (.int ((cnt (bt m e) as:Nat):Int))) y8 y9 x10 x11 x12 tl rfl ZO;cases hcG:c G with
      |true=>rw[hcG]at h;exact h
      |false=>rw[hcG]at h;obtain⟨y11,YA,Zy,h1,h2⟩:=h;exact⟨.next,_,by rintro t ⟨⟩,h2,_,_,_,_,h1,rfl⟩) _ ⟨x10,x11,x12,tl,ZO,rfl⟩
   have hr:cO (aM gz (ah (dV 5) (ah (dV 7) au)) au) (EE (W8 (prf as N nm)) (W8 q) (W8 (.int k)) (W8 (.int ((e+1:Nat):Int))) (W8 (.list ((fh (bt m e) 0 as).map nV))) (W8 (.int ((cnt (bt m e) as:Nat):Int))) (W8 (.int (aaz n k e:Nat))) y8 y9 x10 x11 x12 m tl)=W8 ((gB (fh (bt m e) 0 as) (aaz n k e)).map b8):=by show((gz [.list ((fh (bt m e) 0 as).map nV),.int (aaz n k e:Nat)]).bind fR)=_;refine ab hc ?_;rfl
   have hb:aa (bR (cO (aM gz (ah (dV 5) (ah (dV 7) au)) au)) (cH 10) inner) af (EE (W8 (prf as N nm)) (W8 q) (W8 (.int k)) (W8 (.int ((e+1:Nat):Int))) (W8 (.list ((fh (bt m e) 0 as).map nV))) (W8 (.int ((cnt (bt m e) as:Nat):Int))) (W8 (.int (aaz n k e:Nat))) y8 y9 x10 x11 x12 m tl)=aa (λσ=>aQ (cH 10) inner ((gB (fh (bt m e) 0 as) (aaz n k e)).map b8) σ) af (EE (W8 (prf as N nm)) (W8 q) (W8 (.int k)) (W8 (.int ((e+1:Nat):Int))) (W8 (.list ((fh (bt m e) 0 as).map nV))) (W8 (.int ((cnt (bt m e) as:Nat):Int))) (W8 (.int (aaz n k e:Nat))) y8 y9 x10 x11 x12 m tl):=by unfold aa bR;refine ab hr ?_;rfl
   refine ab hb ?_;show if(gB (fh (bt m e) 0 as) (aaz n k e)).any c=true then _ else _
   cases hz:(gB (fh (bt m e) 0 as) (aaz n k e)).any c with
   |true=>rw[hz]at lp;obtain⟨σ',e⟩:=lp;exact⟨_,bq e⟩
   |false=>rw[hz]at lp;obtain⟨σ',e',y10,y11,YA,Zy,h1,rfl⟩:=lp;exact⟨.next,aK (EE (W8 (prf as N nm)) (W8 q) (W8 (.int k)) (W8 (.int ((e+1:Nat):Int))) (W8 (.list ((fh (bt m e) 0 as).map nV))) (W8 (.int ((cnt (bt m e) as:Nat):Int))) (W8 (.int (aaz n k e:Nat))) y8 y9 y10 y11 YA m Zy),Zy,by rintro t ⟨⟩,h1,ax e'⟩
def wh (as:List Nat)(N e:Nat)(G:List Nat):Bool:=decide (e+1<=pc (eY as (am (Oo N)) G))
theorem pH (F:Pf as m n k N):am (Oo N)<64:=gj (r:=6) λi hi=>OL (OF.mp hi) (aaJ F.N6)
theorem zA (F:Pf as m n k N){G:List Nat}(hG:∀i∈G,i<as.length){W:Option V}(R:SD):∃YA,aa (ak 11 (aan (cO (dU (aR 1 0) (dV 0))))) (aa (bR (cO (dV 10)) (cH 12) (aa (ak 11 (dB bW (dV 11) wJ)) af)) R) (EE (W8 (prf as N nm)) (W8 q) ub ell VL W mgv x8 x9 (W8 (b8 G)) x11 x12 m tl)=
 R (EE (W8 (prf as N nm)) (W8 q) ub ell VL W mgv x8 x9 (W8 (b8 G)) (W8 (.set (az (eY as (am (Oo N)) G)))) YA m tl):=by
 obtain⟨YA,e⟩:=rP (nm:=nm) (q:=q) F (ub:=ub) (ell:=ell) (VL:=VL) (W:=W) (aaz:=mgv) (x8:=x8) (x9:=x9) (x10:=W8 (b8 G)) (tl:=tl) G (am (Oo N)) x12 (pH F) hG;refine⟨YA,?_⟩;refine ab (ax (aB (zF F rfl))) ?_;exact ax e
theorem BQ (F:Pf as m n k N){e:Nat}(G:List Nat)(hG:∀i∈G,i<as.length)(VL W x8 x9 x10 x11 x12:Option V)(tl:ai)(hV:VL.isSome=true)(ZO:∃x13,tl= [x13]):
 if wh as N e G then ∃σ',th (EE (W8 (prf as N nm)) (W8 q) (W8 (.int k)) (W8 (.int ((e+1:Nat):Int))) VL W (W8 (.int (aaz n k e:Nat))) x8 x9 (W8 (b8 G)) x11 x12 m tl)=W8 (.ret (iN false),σ')else ∃y11 YA Zy,(∃x13,Zy= [x13])/\ th (EE (W8 (prf as N nm)) (W8 q) (W8 (.int k)) (W8 (.int ((e+1:Nat):Int))) VL W (W8 (.int (aaz n k e:Nat))) x8 x9 (W8 (b8 G)) x11 x12 m tl)=W8 (.next,EE (W8 (prf as N nm)) (W8 q) (W8 (.int k)) (W8 (.int ((e+1:Nat):Int))) VL W (W8 (.int (aaz n k e:Nat))) x8 x9 (W8 (b8 G)) y11 YA m Zy):=by
 injections k m N as n nm q e G VL W x8 x9 x10 x11 x12 tl _ F hG hV ZO;obtain⟨x13,rfl⟩:=ZO;obtain⟨v,rfl⟩:=P0.mp hV;unfold th;obtain⟨YA,h⟩:=zA (nm:=nm) (q:=q) F hG (ub:=W8 (.int k)) (ell:=W8 (.int ((e+1:Nat):Int))) (VL:=W8 v) (W:=W) (mgv:=W8 (.int (aaz n k e:Nat))) (x8:=x8) (x9:=x9) (x11:=x11) (x12:=x12) (tl:= [x13]) (tS 13 (dB (bf λa b=>decide (b<=a)) (dU aP (dV 11)) (dV 4)) λσ=>if((dV 5 σ).isSome&&((dV 4 σ).isSome&&((dV 11 σ).isSome&&true)))=true then W8 Xh else W9);refine ab h ?_;have hT:(dB (bf λa b=>decide (b<=a)) (dU aP (dV 11)) (dV 4)) (EE (W8 (prf as N nm)) (W8 q) (W8 (.int k)) (W8 (.int ((e+1:Nat):Int))) (W8 v) W (W8 (.int (aaz n k e:Nat))) x8 x9 (W8 (b8 G)) (W8 (.set (az (eY as (am (Oo N)) G)))) YA m [x13])=W8 (.bool (wh as N e G)):=by show((aP (.set (az (eY as (am (Oo N)) G)))).bind λx=>bf (λa b=>decide (b<=a)) x (.int ((e+1:Nat):Int)))=_;refine ab (dY (tr as G _ (pH F))) ?_;show W8 (Xb (decide (((e+1:Nat):Int)<=((pc (eY as (am (Oo N)) G):Nat):Int))))=_;unfold wh;exact congrArg (λb=>W8 (Xb b)) (decide_eq_decide.mpr PS)
 have ht:=eh (i:=13) (dd:=λσ=>if((dV 5 σ).isSome&&((dV 4 σ).isSome&&((dV 11 σ).isSome&&true)))=true then W8 Xh else W9) hT rfl (by show 13<14;decide);refine ab (show tS 13 _ _ _=_ from ht) ?_;cases wh as N e G with
 |true=>exact⟨_,rfl⟩
 |false=>exact⟨_,_,_,⟨x13,rfl⟩,rfl⟩
def wZ (as:List Nat)(b:Nat)(G:List Nat):Nat:=G.foldl (λb i=>b |||as.getD i 0) b
theorem wY (h:∀a∈as,a<64):∀(G:List Nat) (b:Nat),b<64->wZ as b G<64
 | [],_,hb=>hb
 |i::G,b,hb=>wY h G _ (i0 hb (aap h i))
theorem qw (F:Pf as m n k N){ub ell VL W mgv x8 x9 x10 x11 x14:Option V}:∀(G:List Nat) (b:Nat) (x12:Option V),b<64->(∀i∈G,i<as.length)->
 ∃YA,aQ (cH 12) (aa (ak 13 (dB eF (dV 13) wJ)) af) (G.map nV) (EE (W8 (prf as N nm)) (W8 q) ub ell VL W mgv x8 x9 x10 x11 x12 m [W8 (.set (az b)),x14])=W8 (.next,EE (W8 (prf as N nm)) (W8 q) ub ell VL W mgv x8 x9 x10 x11 YA m [W8 (.set (az (wZ as b G))),x14])
 | [],b,x12,_,_=>⟨x12,rfl⟩
 |i::G,b,x12,hb,hG=>by
  have e1:dB eF (dV 13) wJ (EE (W8 (prf as N nm)) (W8 q) ub ell VL W mgv x8 x9 x10 x11 (W8 (nV i)) m [W8 (.set (az b)),x14])=W8 (.set (az (b |||as.getD i 0))):=by show(((gO [prf as N nm,.int (i:Nat)]).bind (aR 2 0)).bind λy=>eF (.set (az b)) y)=_;refine ab (Dh (hG i (.head _)) F.l6) ?_;exact DZ hb (aap F.a64 i)
  obtain⟨YA,e2⟩:=qw F (ub:=ub) (ell:=ell) (VL:=VL) (W:=W) (mgv:=mgv) (x8:=x8) (x9:=x9) (x10:=x10) (x11:=x11) (x14:=x14) G (b |||as.getD i 0) (W8 (nV i)) (i0 hb (aap F.a64 i)) λj hj=>hG j (.tail _ hj);refine⟨YA,?_⟩;show((aa (ak 13 (dB eF (dV 13) wJ)) af (EE (W8 (prf as N nm)) (W8 q) ub ell VL W mgv x8 x9 x10 x11 (W8 (nV i)) m [W8 (.set (az b)),x14])).bind _)=_;refine ab (ax (aB e1)) ?_;exact e2
def DT (as:List Nat)(m N e:Nat)(G:List Nat):Bool:=wh as N e G&&decide (pc (wZ as 0 G&&&m)<e+1)
theorem Bf (F:Pf as m n k N){e:Nat}(G:List Nat)(hG:∀i∈G,i<as.length)(VL W x8 x9 x10 x11 x12:Option V)(tl:ai)(hV:VL.isSome=true)(ZO:∃x13 x14,tl= [x13,x14]):
 if DT as m N e G then ∃σ',sQ (EE (W8 (prf as N nm)) (W8 q) (W8 (.int k)) (W8 (.int ((e+1:Nat):Int))) VL W (W8 (.int (aaz n k e:Nat))) x8 x9 (W8 (b8 G)) x11 x12 m tl)=W8 (.ret (iN false),σ')else ∃y11 YA Zy,(∃x13 x14,Zy= [x13,x14])/\ sQ (EE (W8 (prf as N nm)) (W8 q) (W8 (.int k)) (W8 (.int ((e+1:Nat):Int))) VL W (W8 (.int (aaz n k e:Nat))) x8 x9 (W8 (b8 G)) x11 x12 m tl)=W8 (.next,EE (W8 (prf as N nm)) (W8 q) (W8 (.int k)) (W8 (.int ((e+1:Nat):Int))) VL W (W8 (.int (aaz n k e:Nat))) x8 x9 (W8 (b8 G)) y11 YA m Zy):=by
 injections k m N as n nm q e G VL W x8 x9 x10 x11 x12 tl _ F hG hV ZO;obtain⟨x13,x14,rfl⟩:=ZO;obtain⟨v,rfl⟩:=P0.mp hV;unfold sQ;obtain⟨YA,h⟩:=zA (nm:=nm) (q:=q) F hG (ub:=W8 (.int k)) (ell:=W8 (.int ((e+1:Nat):Int))) (VL:=W8 v) (W:=W) (mgv:=W8 (.int (aaz n k e:Nat))) (x8:=x8) (x9:=x9) (x11:=x11) (x12:=x12) (tl:= [x13,x14])
  (aa (aE (dT (dB (bf λa b=>decide (b<=a)) (dU aP (dV 11)) (dV 4)))
  (aa (ak 13 (dK (Xg (az 0)))) (aa (bR (cO (dV 10)) (cH 12) (aa (ak 13 (dB eF (dV 13) wJ)) af)) (tS 14 (dB (bf λa b=>decide (a<b)) (dU aP (dB bW (dV 13) (dV 1))) (dV 4)) λσ=>if((dV 5 σ).isSome&&((dV 4 σ).isSome&&((dV 11 σ).isSome&&true)))=true then W8 Xh else W9))) af) af)
 refine ab h ?_;have c64:=tr as G _ (pH F);have hT:(dT (dB (bf λa b=>decide (b<=a)) (dU aP (dV 11)) (dV 4))) (EE (W8 (prf as N nm)) (W8 q) (W8 (.int k)) (W8 (.int ((e+1:Nat):Int))) (W8 v) W (W8 (.int (aaz n k e:Nat))) x8 x9 (W8 (b8 G)) (W8 (.set (az (eY as (am (Oo N)) G)))) YA m [x13,x14])=W8 (wh as N e G):=by show(((aP (.set (az (eY as (am (Oo N)) G)))).bind λx=>bf (λa b=>decide (b<=a)) x (.int ((e+1:Nat):Int)))).bind cZ=_;refine ab (dY c64) ?_;show W8 (decide (((e+1:Nat):Int)<=((pc (eY as (am (Oo N)) G):Nat):Int)))=_;unfold wh;exact congrArg W8 (decide_eq_decide.mpr Rh)
 unfold DT;cases hc:wh as N e G with
 |false=>rw[hc]at hT;exact⟨_,_,_,⟨x13,x14,rfl⟩,(ax ((aG hT).trans rfl)).trans rfl⟩
 |true=>
  rw[hc]at hT;obtain⟨z12,e3⟩:=qw (nm:=nm) (q:=q) F (ub:=W8 (.int k)) (ell:=W8 (.int ((e+1:Nat):Int))) (VL:=W8 v) (W:=W) (mgv:=W8 (.int (aaz n k e:Nat))) (x8:=x8) (x9:=x9) (x10:=W8 (b8 G)) (x11:=W8 (.set (az (eY as (am (Oo N)) G)))) (x14:=x14) G 0 YA (by decide) hG;have u64:=wY F.a64 G 0 (by decide);have hT2:(dB (bf λa b=>decide (a<b)) (dU aP (dB bW (dV 13) (dV 1))) (dV 4)) (EE (W8 (prf as N nm)) (W8 q) (W8 (.int k)) (W8 (.int ((e+1:Nat):Int))) (W8 v) W (W8 (.int (aaz n k e:Nat))) x8 x9 (W8 (b8 G)) (W8 (.set (az (eY as (am (Oo N)) G)))) z12 m [W8 (.set (az (wZ as 0 G))),x14])=W8 (.bool (decide (pc (wZ as 0 G&&&m)<e+1))):=by show(((bW (.set (az (wZ as 0 G))) (.set (az m))).bind aP).bind λx=>bf (λa b=>decide (a<b)) x (.int ((e+1:Nat):Int)))=_;refine ab (sg u64 F.m64) ?_;show W8 (Xb (decide (((pc (wZ as 0 G&&&m):Nat):Int)<((e+1:Nat):Int))))=_;exact congrArg (λb=>W8 (Xb b)) (decide_eq_decide.mpr PS)
  have ht:=eh (i:=14) (dd:=λσ=>if((dV 5 σ).isSome&&((dV 4 σ).isSome&&((dV 11 σ).isSome&&true)))=true then W8 Xh else W9) hT2 rfl (by show 14<15;decide);have YS:(aa (ak 13 (dK (Xg (az 0)))) (aa (bR (cO (dV 10)) (cH 12) (aa (ak 13 (dB eF (dV 13) wJ)) af))
   (tS 14 (dB (bf λa b=>decide (a<b)) (dU aP (dB bW (dV 13) (dV 1))) (dV 4)) λσ=>if((dV 5 σ).isSome&&((dV 4 σ).isSome&&((dV 11 σ).isSome&&true)))=true then W8 Xh else W9))) (EE (W8 (prf as N nm)) (W8 q) (W8 (.int k)) (W8 (.int ((e+1:Nat):Int))) (W8 v) W (W8 (.int (aaz n k e:Nat))) x8 x9 (W8 (b8 G)) (W8 (.set (az (eY as (am (Oo N)) G)))) YA m [x13,x14])=(if decide (pc (wZ as 0 G&&&m)<e+1)=true then W8 (Fl.ret (iN false),aw (EE (W8 (prf as N nm)) (W8 q) (W8 (.int k)) (W8 (.int ((e+1:Nat):Int))) (W8 v) W (W8 (.int (aaz n k e:Nat))) x8 x9 (W8 (b8 G)) (W8 (.set (az (eY as (am (Oo N)) G)))) z12 m [W8 (.set (az (wZ as 0 G))),x14]) 14 (W8 .any))else W8 (Fl.next,(EE (W8 (prf as N nm)) (W8 q) (W8 (.int k)) (W8 (.int ((e+1:Nat):Int))) (W8 v) W (W8 (.int (aaz n k e:Nat))) x8 x9 (W8 (b8 G)) (W8 (.set (az (eY as (am (Oo N)) G)))) z12 m [W8 (.set (az (wZ as 0 G))),x14]))):=by
   refine ab (ax (aB (i:=13) (e:=dK (Xg (az 0))) (t:= .set (az 0)) rfl)) ?_;exact(ax e3).trans ht
  rw[T4];cases hu:decide (pc (wZ as 0 G&&&m)<e+1)with
  |true=>rw[hu]at YS;exact⟨_,bq ((aG hT).trans ((if_pos rfl).trans (YS.trans (if_pos rfl))))⟩
  |false=>rw[hu]at YS;exact⟨_,_,_,⟨_,_,rfl⟩,(ax ((aG hT).trans ((if_pos rfl).trans (YS.trans (if_neg (by decide)))))).trans rfl⟩
theorem Cz (F:Pf as m n k N)(h3:aK σ 3=W8 (.int k)):aX (dK (Xc 1)) (dB bJ (dV 3) (dK (Xc 1))) σ=W8 ((Oo k).map λj:Nat=>Xc ((j+1:Nat):Int)):=by have:=F.k3;rw[<-s4];refine fP (x:=1) (y:=(k:Int)+1) rfl ?_ (by decide) (KZ (QX F.k3.2 (by decide))) (Nz _);show(((aK σ 3).bind λx=>bJ x (.int 1)))=_;refine ab h3 ?_;rfl
theorem EW (F:Pf as m n k N)(Q:QF n k q):FR [prf as N nm,.set (az m),q]=W8 (iN (!(Oo k).any λe=>Av as m n k e (wh as N e))):=by
 have key:=ie (i:=4) (j:=13) (f:=λj:Nat=>Xc ((j+1:Nat):Int)) (P:=λe=>Av as m n k e (wh as N e)) (ff:=λσ=> ∃x:Nat->Option V,σ=EE (W8 (prf as N nm)) (W8 q) (W8 (.int k)) (x 4) (x 5) (x 6) (x 7) (x 8) (x 9) (x 10) (x 11) (x 12) m [x 13])
  (Xp:=Ax th) (xs:=Oo k) (by rintro σ ⟨x,rfl⟩;show 13<14;decide) ⟨λ_=>W9,rfl⟩ (λe he σ hI=>by
    obtain⟨x,rfl⟩:=hI;have h:=y3 (nm:=nm) F Q (inner:=th) (c:=wh as N e) (OF.mp he) (tl₀:=λtl=> ∃x13,tl= [x13]) (λG hG VL W x8 x9 x10 x11 x12 tl hV ZO=>BQ F G hG VL W x8 x9 x10 x11 x12 tl hV ZO) (x5:=x 5) (x6:=x 6) (x7:=x 7) (x8:=x 8) (x9:=x 9) (x10:=x 10) (x11:=x 11) (x12:=x 12) (tl:= [x 13]) ⟨x 13,rfl⟩;cases hz:Av as m n k e (wh as N e)with
    |true=>rw[hz]at h;exact h
    |false=>rw[hz]at h;obtain⟨fl,y,Zy,h1,⟨z,rfl⟩,h3⟩:=h;exact⟨fl,_,h1,h3,iE rfl⟩)
 have e1:=qx (nm:=nm) F Q (σ:= [W8 (prf as N nm),W8 (.set (az m)),W8 q,W9,W9,W9,W9,W9,W9,W9,W9,W9,W9,W9]) rfl rfl;refine Qj ?_ key;show((aa (ak 3 _) (aa (bR _ (cH 4) (Ax th)) _) [W8 (prf as N nm),W8 (.set (az m)),W8 q,W9,W9,W9,W9,W9,W9,W9,W9,W9,W9,W9]).bind _)=_;refine ab (ax (aB e1)) ?_;show(((((aX _ _ (EE (W8 (prf as N nm)) (W8 q) (W8 (.int k)) W9 W9 W9 W9 W9 W9 W9 W9 W9 m [W9])).bind λxs=>aQ (cH 4) (Ax th) xs _).bind _)).bind _)=_;refine ab (Cz F rfl) ?_;rfl
theorem DS (F:Pf as m n k N)(Q:QF n k q):FQ [prf as N nm,.set (az m),q]=W8 (iN (!(Oo k).any λe=>Av as m n k e (DT as m N e))):=by
 have key:=ie (i:=4) (j:=14) (f:=λj:Nat=>Xc ((j+1:Nat):Int)) (P:=λe=>Av as m n k e (DT as m N e)) (ff:=λσ=> ∃x:Nat->Option V,σ=EE (W8 (prf as N nm)) (W8 q) (W8 (.int k)) (x 4) (x 5) (x 6) (x 7) (x 8) (x 9) (x 10) (x 11) (x 12) m [x 13,x 14])
  (Xp:=Ax sQ) (xs:=Oo k) (by rintro σ ⟨x,rfl⟩;show 14<15;decide) ⟨λ_=>W9,rfl⟩ (λe he σ hI=>by
    obtain⟨x,rfl⟩:=hI;have h:=y3 (nm:=nm) F Q (inner:=sQ) (c:=DT as m N e) (OF.mp he) (tl₀:=λtl=> ∃x13 x14,tl= [x13,x14]) (λG hG VL W x8 x9 x10 x11 x12 tl hV ZO=>Bf F G hG VL W x8 x9 x10 x11 x12 tl hV ZO) (x5:=x 5) (x6:=x 6) (x7:=x 7) (x8:=x 8) (x9:=x 9) (x10:=x 10) (x11:=x 11) (x12:=x 12) (tl:= [x 13,x 14]) ⟨x 13,x 14,rfl⟩;cases hz:Av as m n k e (DT as m N e)with
    |true=>rw[hz]at h;exact h
    |false=>rw[hz]at h;obtain⟨fl,y,Zy,h1,⟨z,z',rfl⟩,h3⟩:=h;exact⟨fl,_,h1,h3,iE rfl⟩)
 have e1:=qx (nm:=nm) F Q (σ:= [W8 (prf as N nm),W8 (.set (az m)),W8 q,W9,W9,W9,W9,W9,W9,W9,W9,W9,W9,W9,W9]) rfl rfl;refine Qj ?_ key;show((aa (ak 3 _) (aa (bR _ (cH 4) (Ax sQ)) _) [W8 (prf as N nm),W8 (.set (az m)),W8 q,W9,W9,W9,W9,W9,W9,W9,W9,W9,W9,W9,W9]).bind _)=_;refine ab (ax (aB e1)) ?_;show(((((aX _ _ (EE (W8 (prf as N nm)) (W8 q) (W8 (.int k)) W9 W9 W9 W9 W9 W9 W9 W9 W9 m [W9,W9])).bind λxs=>aQ (cH 4) (Ax sQ) xs _).bind _)).bind _)=_;refine ab (Cz F rfl) ?_;rfl
end
section
variable{n:Nat}{nm:List V}{q:V}
def Go (N m:Nat):Bool:=match fO [.set (az m),.int N]with
 |some (.set xs)=>xs==az m
 |_=>false
theorem vI:((Oo 7).all λN=>(Oo (2^N)).all λm=>Go N m)=true:=by decide+kernel
theorem vH {o:Option V}(h:(match o with |some (.set xs)=>xs==az m |_=>false)=true):o=W8 (.set (az m)):=by
 cases o with
 |none=>exact absurd h OD
 |some x=>
  cases x with
  |set xs=>exact ab (beq_iff_eq.mp h) rfl
  |_=>exact absurd h OD
theorem DE (hN:N<7)(hm:m<2^N):fO [.set (az m),.int N]=W8 (.set (az m)):=by have h:=Ou.mp (Ou.mp vI N (OF.mpr hN)) m (OF.mpr hm);exact vH h
theorem Bp (hN:N<7):wj [prf as N nm]=W8 (.int N):=by
 have hl:(cy 0 N).length=N:=by unfold cy;rw[OA,Ql]
 have:=uj (cy 0 N) nm (.list (as.map dm)) (ab hl (Op (Qp hN) (by decide)));rw[hl]at this;exact this
theorem ot (F:Pf as m n k N)(hk:pc m=k)(hq:Bc n k=W8 q)(Xz:aK σ 0=W8 (prf as N nm))(h1:aK σ 1=W8 (.set (az m))):dQ σ=W8 q:=by show(((((aK σ 0).bind (aS 1)).bind λy=>oo [y]).bind λx=>((((aK σ 1).bind aP).bind λx=>W8 [x]).map λxs=>x::xs)).bind λxs=>eV (xs++ []))=_;refine ab Xz (ab h1 ?_);show(((oo [prf as N nm]).bind λx=>((((aP (.set (az m)))).bind λx=>W8 [x]).map λxs=>x::xs)).bind λxs=>eV (xs++ []))=_;refine ab w4 (ab (dY F.m64) (ab F.len (ab hk ?_)));exact hq
theorem ou (F:Pf as m n k N)(hm:m<2^N)(Xz:aK σ 0=W8 (prf as N nm))(h1:aK σ 1=W8 (.set (az m))):dM σ=W8 (.set (az m)):=by show((((aK σ 1).bind λx=>W8 [x])).bind λxs=>((((((aK σ 0).bind (aS 1)).bind λy=>(wj [y]).bind λt=>match t with | .any=>W9 |t=>W8 t)).bind λx=>W8 [x])).bind λys=>fO (xs++ys))=_;refine ab Xz (ab h1 ?_);show(((((wj [prf as N nm]).bind λt=>match t with | .any=>W9 |t=>W8 t)).bind λx=>W8 [x]).bind λys=>fO ([Xg (az m)]++ys))=_;refine ab (Bp F.N6) ?_;exact DE F.N6 hm
theorem fW {e:ED}(h:e σ=W8 t):aa (bz e) af σ=W8 (.ret t,σ):=by unfold aa bz;refine ab h ?_;rfl
theorem jy {e:ED}{i:Nat}{b:Bool}(h:e σ=W8 (iN b)):bE e (eH i j) σ=W8 (.next,aw (aw σ i (W8 (.bool b))) j (W8 .any)):=by unfold bE;refine ab h ?_;rfl
theorem wA (F:Pf as m n k N)(hk:pc m=k)(hm:m<2^N)(hq:Bc n k=W8 q){b:Bool}{e:ED}(h:e [W8 (prf as N nm),W8 (.set (az m)),W8 q,W8 (.bool true),W9,W9]=W8 (iN b)):dWA (wrA e) [prf as N nm,.set (az m),.none]=W8 (.bool b):=by
 have e1:(aa (ak 3 (dK (Xb true))) (aa (ak 2 dQ) af)) [W8 (prf as N nm),W8 (.set (az m)),W8 .none,W9,W9,W9]=W8 (.next,[W8 (prf as N nm),W8 (.set (az m)),W8 q,W8 (.bool true),W9,W9]):=by refine ab (ax (aB (i:=3) (e:=dK (Xb true)) (t:= .bool true) rfl)) ?_;exact ax (aB (ot F hk hq rfl rfl))
 have e2:ak 1 dM [W8 (prf as N nm),W8 (.set (az m)),W8 q,W8 (.bool true),W9,W9]=W8 (.next,[W8 (prf as N nm),W8 (.set (az m)),W8 q,W8 (.bool true),W9,W9]):=aB (ou F hm rfl rfl);show(aa (aE _ (aa (ak 3 (dK (Xb true))) (aa (ak 2 dQ) af)) _) (aa (ak 1 dM) _) [W8 (prf as N nm),W8 (.set (az m)),W8 .none,W9,W9,W9]).bind _=_;refine ab (ax ((aG (c:=true) rfl).trans ((if_pos rfl).trans e1))) (ab (ax e2) (ab (ax (jy (b:=b) h)) ?_));rfl
theorem wB (F:Pf as m n k N)(hk:pc m=k)(hm:m<2^N)(hq:Bc n k=W8 q){b:Bool}(h:D [prf as N nm,.set (az m),q]=W8 (iN b)):dWB (wrB D) [prf as N nm,.set (az m),.none,aT "brute-force"]=W8 (.bool b):=by
 have e1:(aa (ak 4 (dK (Xb true))) (aa (ak 2 dQ) af)) [W8 (prf as N nm),W8 (.set (az m)),W8 .none,W8 (aT "brute-force"),W9,W9,W9]=W8 (.next,[W8 (prf as N nm),W8 (.set (az m)),W8 q,W8 (aT "brute-force"),W8 (.bool true),W9,W9]):=by refine ab (ax (aB (i:=4) (e:=dK (Xb true)) (t:= .bool true) rfl)) ?_;exact ax (aB (ot F hk hq rfl rfl))
 have e2:ak 1 dM [W8 (prf as N nm),W8 (.set (az m)),W8 q,W8 (aT "brute-force"),W8 (.bool true),W9,W9]=W8 (.next,[W8 (prf as N nm),W8 (.set (az m)),W8 q,W8 (aT "brute-force"),W8 (.bool true),W9,W9]):=aB (ou F hm rfl rfl);have e3:(aa (bE (aM D (ah (dV 0) (ah (dV 1) (ah (dV 2) au))) au) (eH 5 6)) af) [W8 (prf as N nm),W8 (.set (az m)),W8 q,W8 (aT "brute-force"),W8 (.bool true),W9,W9]=W8 (.next,aw (aw [W8 (prf as N nm),W8 (.set (az m)),W8 q,W8 (aT "brute-force"),W8 (.bool true),W9,W9] 5 (W8 (.bool b))) 6 (W8 .any)):=(ax (jy (b:=b) h)).trans rfl;show(aa (aE _ (aa (ak 4 (dK (Xb true))) (aa (ak 2 dQ) af)) _) (aa (ak 1 dM) (aa (aE _ _ af) (aa (aE _ (aa (bE _ (eH 5 6)) af) _) _))) [W8 (prf as N nm),W8 (.set (az m)),W8 .none,W8 (aT "brute-force"),W9,W9,W9]).bind _=_;refine ab (ax ((aG (c:=true) rfl).trans ((if_pos rfl).trans e1))) (ab (ax e2) (ab (ax ((aG (c:=false) rfl).trans rfl)) (ab (ax ((aG (c:=true) rfl).trans ((if_pos rfl).trans e3))) ?_)));rfl
theorem kT {s:String}{e:ED}{r:SD}(h:aaf 0 s σ=W8 true)(h2:e σ=W8 t):aae s e r σ=W8 (.ret t,σ):=bq ((aG h).trans (fW h2))
theorem kF {s:String}{e:ED}{r:SD}(h:aaf 0 s σ=W8 false)(h2:r σ=W8 (.ret t,σ')):aae s e r σ=W8 (.ret t,σ'):=bq ((aG h).trans h2)
noncomputable abbrev aaj (s:String)(as:List Nat)(N:Nat)(nm:List V)(m:Nat):ai:= [W8 (aT s),W8 (prf as N nm),W8 (.set (az m)),W8 .none,W8 (aT "brute-force")]
theorem kE {s:String}{r:SD}(Xz:dT (dB (λa b=>Ox (λc=>Xb !c) (fw a b)) (dV 0) (dK (Xe (Wp Xd fK)))) (aaj s as N nm m)=W8 false)(h1:aaf 0 "pareto" (aaj s as N nm m)=W8 false)(h:r (aaj s as N nm m)=W8 (.ret t,σ')):(aal r (aaj s as N nm m)).bind (λr=>match r.1 with | .ret t=>W8 t | .next=>W8 .none | .cont=>W9)=W8 t:=
 congrArg (λz:Option (Fl×ai)=>z.bind λr=>match r.1 with | .ret t=>W8 t | .next=>W8 .none | .cont=>W9) ((ax ((aG Xz).trans rfl)).trans (bq ((aG h1).trans h)))
theorem kAt {s:String}{d:List V->Option V}(h:d [prf as N nm,.set (az m),.none]=W8 t):kA d (aaj s as N nm m)=W8 t:=h
theorem kBt {s:String}{d:List V->Option V}(h:d [prf as N nm,.set (az m),.none,aT "brute-force"]=W8 t):kB d (aaj s as N nm m)=W8 t:=h
theorem HN (h:Hx [prf as N nm,.set (az m),.none]=W8 t):wL [aT "jr",prf as N nm,.set (az m),aT "brute-force"]=W8 t:=kE (s:= "jr") (r:=kCh) rfl rfl (kT rfl (kAt h))
theorem HO (h:Hy [prf as N nm,.set (az m),.none,aT "brute-force"]=W8 t):wL [aT "pjr",prf as N nm,.set (az m),aT "brute-force"]=W8 t:=kE (s:= "pjr") (r:=kCh) rfl rfl (kF rfl (kT rfl (kBt h)))
theorem HQ (h:Hz [prf as N nm,.set (az m),.none,aT "brute-force"]=W8 t):wL [aT "ejr",prf as N nm,.set (az m),aT "brute-force"]=W8 t:=kE (s:= "ejr") (r:=kCh) rfl rfl (kF rfl (kF rfl (kT rfl (kBt h))))
theorem HM (h:Hw [prf as N nm,.set (az m),.none]=W8 t):wL [aT "ejr+",prf as N nm,.set (az m),aT "brute-force"]=W8 t:=kE (s:= "ejr+") (r:=kCh) rfl rfl (kF rfl (kF rfl (kF rfl (kT rfl (kAt h)))))
theorem HL (h:Hv [prf as N nm,.set (az m),.none,aT "brute-force"]=W8 t):wL [aT "fjr",prf as N nm,.set (az m),aT "brute-force"]=W8 t:=kE (s:= "fjr") (r:=kCh) rfl rfl (kF rfl (kF rfl (kF rfl (kF rfl (kT rfl (kBt h))))))
theorem aav (h:Hu [prf as N nm,.set (az m),.none,aT "brute-force"]=W8 t):wL [aT "core",prf as N nm,.set (az m),aT "brute-force"]=W8 t:=kE (s:= "core") (r:=kCh) rfl rfl (kF rfl (kF rfl (kF rfl (kF rfl (kF rfl (kT rfl (kBt h)))))))
end
def aad (i:Nat)(as:List Nat)(m n k N:Nat):Bool:=match i with
 |0=> !(Oo k).any λe=>Av as m n k e (DT as m N e)
 |1=> !(Oo k).any λe=>Av as m n k e (wh as N e)
 |2=> !(Oo N).any (Hq as m n k)
 |3=> !(pw N k).any λT=>(Oo (pc (am T))).any (ER as m n k (am T))
 |4=> !(pw N k).any λT=>uO as m n k (am T)
 |_=> !(Oo N).any (FD as m n k)
def k5:List Nat->Nat->List Nat
 | [],_=> []
 |l::ls,o=>((2^l - 1)<<<o)::k5 ls (o+l)
def va (YZ bl:List Nat):List Nat:=(Oo 3).flatMap λp=>((YZ.zip bl).filter λx=>decide (p<x.1)).map (·.2)
def mA (i:Nat)(YZ Zz bl:List Nat)(m n k:Nat):Bool:=((YZ.zip Zz).zip bl).all λx=> !decide (pc (x.2&&&m)<min (x.1.1*k/n) (if i=5 then 1 else x.1.2))
def aW (l:List Nat):Nat:=l.foldl (· + ·) 0
def Cs (YZ Zz:List Nat)(k:Nat):Bool:=
 let N:=aW Zz;let n:=aW YZ;let bl:=k5 Zz 0;let as:=va YZ bl
 (Oo (2^N)).all λm=>pc m !=k || (Oo 6).all λi=>(i==3&&decide (4<n)&&decide (2<k)) ||aad i as m n k N==mA i YZ Zz bl m n k
theorem Er:IP.1=lA:=rfl
section
def SZ:List (List Nat):=([1,2,3].flatMap λa=> [1,2,3].map λb=> [a,b])++([1,2].flatMap λa=> [1,2].flatMap λb=> [1,2].map λc=> [a,b,c])
def KS:List Nat:= [1,2,3]
def MD:List Nat->Nat
 | [a,b]=>3*(a - 1)+(b - 1)
 | [a,b,c]=>9+(4*(a - 1)+(2*(b - 1)+(c - 1)))
 |_=>0
def NM:Nat:=27484514772817174039429147156362135469027739269389669554514476639665034602961606771815056840481883678502958386775726449258160635263014209091226223201374685549418095469752253409412990563702627799641587678112892000994323125404188936360341366946556403438584577530665092732670126142514198577760538577051588158693882597533225809120406323214276031860986989076614390654649647915636059921457184856308497910711614813611219549574745822353491247145866860485461249670506834797525053027322495303714404367724924359861838506595318222464030239911025436094134337563279813544144650602635703612735160133402473973942576463088616564593414444671454800268816585587799412190490980021783222981258613519416541801093433265994855465771168715560773639276062774944065
def eg (mi:Nat)(s:List Nat)(k:Nat):List Nat:=
 let x:=Se NM (6*((mi*17+MD s)*3+(k - 1)))
 [UP x 3,UP (Se x 2) 3,UP (Se x 4) 3].take s.length
def nL (l:List Nat):V:= .list (l.map nV)
def fL (i:Nat):V:= [aT "pjr",aT "ejr",aT "ejr+",aT "fjr",aT "core",aT "jr"].getD i .none
def iC (i:Nat):V:= [aT "dhondt",aT "largest_remainder",aT "quota",aT "saintelague",aT "modified_saintelague",aT "huntington",aT "adams",aT "dean"].getD i .none
def C1:List (Nat×List Nat×Nat):=(Oo 8).flatMap λm=>SZ.flatMap λs=>KS.map λk=>(m,s,k)
theorem El {s:List Nat}(hm:m<8)(hs:s∈SZ)(hk:k∈KS):(m,s,k)∈C1:=
 OV.mpr ⟨m,OF.mpr hm,OV.mpr ⟨s,hs,OM.mpr ⟨k,hk,rfl⟩⟩⟩
def Xi (Xl Xm x2 x3 x4 x5 x6 x7 x8 x9 x10 x11 x12 x13 x14 x15 x16 x17 x18 x19 x20 x21 x22 x23 x24:Option V):ai:= [Xl,Xm,x2,x3,x4,x5,x6,x7,x8,x9,x10,x11,x12,x13,x14,x15,x16,x17,x18,x19,x20,x21,x22,x23,x24,W9,W9,W9,W9,W9,W9,W9,W9]
section
variable{Xl Xm:Option V}
theorem a9:(C1.map λc=>l9 (Xi Xl Xm x2 x3 (W8 (nV c.2.2)) (W8 (nL c.2.1)) x6 (W8 (iC c.1)) x8 x9 x10 x11 x12 x13 x14 x15 x16 x17 x18 x19 x20 x21 x22 x23 x24))=C1.map λc=>W8 (.next,Xi Xl Xm x2 x3 (W8 (nV c.2.2)) (W8 (nL c.2.1)) x6 (W8 (iC c.1)) (W8 (nL (eg c.1 c.2.1 c.2.2))) x9 x10 x11 x12 x13 x14 x15 x16 x17 x18 x19 x20 x21 x22 x23 x24):=by kernel_rfl
end
end
section
theorem CQ (n:Nat):min 10 n+(10 - n)=10:=(VK 10 n).elim (λh=>by rw[Tx h,Nat.sub_eq_zero_of_le h]) λh=>by rw[Tf h];exact TW h
theorem H9 (n:Int):(if n<0 then -n else n)=(n.natAbs:Int):=by
 split
 ·exact(Int.ofNat_natAbs_of_nonpos (aa1 (by assumption))).symm
 ·exact(Int.natAbs_of_nonneg (aa3.mp (by assumption))).symm
theorem Ei (a b:Nat):(a:Int).fmod (b:Int)=((a % b:Nat):Int):=by refine ab (Int.fmod_eq_emod_of_nonneg _ (PT b)) ?_;rfl
theorem Hr (a b:Nat):(a:Int).fdiv (b:Int)=((a/b:Nat):Int):=by refine ab (Int.fdiv_eq_ediv_of_nonneg _ (PT b)) ?_;rfl
theorem G6 {l:List Int}(h:l.length=10):∃n:Nat->Int,l= [n 0,n 1,n 2,n 3,n 4,n 5,n 6,n 7,n 8,n 9]:=
 ⟨λi=>l.getD i 0,(eO l 0).symm.trans (by refine ab h ?_;rfl)⟩
section
variable{Xl Xm:Option V}{xs:List Int}{Xn Xo:Int}
theorem He (hx:xs.length<=63):∃n:Nat->Int,XA (c0 32 [.list (xs.map Xc)])=W8 (.next,Xi (W8 (.list (xs.map Xc))) (W8 (.list [.int (n 0),.int (n 1),.int (n 2),.int (n 3),.int (n 4),.int (n 5),.int (n 6),.int (n 7),.int (n 8),.int (n 9)])) W9 W9 W9 W9 W9 W9 W9 W9 W9 W9 W9 W9 W9 W9 W9 W9 W9 W9 W9 W9 W9 W9 W9):=by
 injections xs _ hx;have hl:(lim:Nat)=4096:=rfl;have h1:gG (dV 0) W9 (W8 (dI 10)) (c0 32 [.list (xs.map Xc)])=W8 (.list ((xs.take 10).map Xc)):=by show((wF (xs.map Xc) W9 (W8 10)).map Xe)=_;unfold wF;refine ab (if_pos ⟨by decide,by show(0:Int)<=10;decide,by rw[OA];omega⟩) (ab List.map_take ?_);rfl
 have h2:gG pN (W8 (dU aP (dV 0))) W9 (c0 32 [.list (xs.map Xc)])=W8 (.list ((([1,0,1,1,2,0,3,1,4,2]:List Int).drop xs.length).map Xc)):=by show(((aP (.list (xs.map Xc))).bind λ | .int i=>W8 (W8 i) |_=>W9).bind λl=>(W8 W9:Option (Option Int)).bind λh=>(wF [Xc 1,Xc 0,Xc 1,Xc 1,Xc 2,Xc 0,Xc 3,Xc 1,Xc 4,Xc 2] l h).map Xe)=_;refine ab (show aP (.list (xs.map Xc))=W8 (.int xs.length)by show(if(xs.map Xc).length<=lim then W8 (Xc (xs.map Xc).length)else W9)=_;rw[OA,if_pos (by omega)]) ?_;show(wF [Xc 1,Xc 0,Xc 1,Xc 1,Xc 2,Xc 0,Xc 3,Xc 1,Xc 4,Xc 2] (W8 (xs.length:Int)) W9).map Xe=_;unfold wF;refine ab (if_pos ⟨PT _,by decide,by decide⟩) (ab List.map_drop ?_);rw[R1 (by refine ab Sl ?_;exact O5 _)];rfl
 obtain⟨n,e⟩:=G6 (l:=xs.take 10++([1,0,1,1,2,0,3,1,4,2]:List Int).drop xs.length) (by refine ab Pd (ab WV (ab Sl ?_));show min 10 _+(10 - _)=10;exact CQ _);refine⟨n,?_⟩;have h3:(dB bJ (gG (dV 0) W9 (W8 (dI 10))) (gG pN (W8 (dU aP (dV 0))) W9)) (c0 32 [.list (xs.map Xc)])=W8 (.list [.int (n 0),.int (n 1),.int (n 2),.int (n 3),.int (n 4),.int (n 5),.int (n 6),.int (n 7),.int (n 8),.int (n 9)]):=by show(gG (dV 0) W9 (W8 (dI 10)) _).bind (λx=>(gG pN _ W9 _).bind λy=>bJ x y)=_;refine ab h1 (ab h2 ?_);show(if _ then _ else _)=_;refine ab (if_pos (by simp only[OA,WV,Sl];show min 10 _+(10 - _)<=_;rw[CQ];decide)) (bV PJ (ab e ?_));rfl
 exact(aB h3).trans rfl
theorem b2 {f:V->V->Option V}{a b:ED}(ha:a σ=W8 x)(hb:b σ=W8 y):dB f a b σ=f x y:=by unfold dB;refine ab ha (ab hb ?_);rfl
theorem Xw {f:V->Option V}{a:ED}(ha:a σ=W8 x):dU f a σ=f x:=by unfold dU;refine ab ha ?_;rfl
theorem mM {j:Int}{n:Int}(h:(dB aZ (dV 1) (dI j)) σ=W8 (.int n)):jn j σ=W8 (nV n.natAbs):=by exact(Xw h).trans (congrArg (λz=>W8 (Xc z)) (H9 n))
theorem rh {a b:Nat}(h:d σ=W8 (nV a))(hb:b≠0)(hz:z=(b:Int):=by rfl):(dB fU d (dI z)) σ=W8 (nV (a % b)):=by subst hz;refine(b2 h rfl).trans ?_;show(if(b:Int)=0 then W9 else W8 (Xc _))=_;rw[if_neg (λe:(b:Int)=0=>hb (Rr e)),Ei];rfl
theorem zm {a b:Nat}(h:d σ=W8 (nV a))(hb:b≠0)(ZE:b<2^60)(hz:z=(b:Int):=by rfl):(dB d2 d (dI z)) σ=W8 (nV (a/b)):=by subst hz;refine(b2 h rfl).trans ?_;show(if(b:Int)=0 \/¬(b:Int).natAbs<2^60 then W9 else W8 (Xc _))=_;rw[if_neg (λe=>e.elim (λe=>hb (Rr e)) λe=>e ZE),Hr];rfl
theorem Nr:ID []=W8 (.list [aT "pjr",aT "ejr",aT "ejr+",aT "fjr",aT "core",aT "jr"]):=by kernel_rfl
theorem Nq:IC []=W8 (.list [aT "dhondt",aT "largest_remainder",aT "quota",aT "saintelague",aT "modified_saintelague",aT "huntington",aT "adams",aT "dean"]):=by kernel_rfl
theorem Hc:l2 (Xi Xl (W8 (.list [.int n0,.int Xn,.int Xo,.int n3,.int n4,.int n5,.int n6,.int n7,.int n8,.int n9])) x2 x3 x4 x5 x6 x7 x8 x9 x10 x11 x12 x13 x14 x15 x16 x17 x18 x19 x20 x21 x22 x23 x24)=W8 (.next,Xi Xl (W8 (.list [.int n0,.int Xn,.int Xo,.int n3,.int n4,.int n5,.int n6,.int n7,.int n8,.int n9])) (W8 (fL (n0.natAbs % 6))) x3 x4 x5 x6 x7 x8 x9 x10 x11 x12 x13 x14 x15 x16 x17 x18 x19 x20 x21 x22 x23 x24):=by refine(aB (t:=fL (n0.natAbs % 6)) ?_).trans rfl;refine(b2 Nr (rh (b:=6) (mM (n:=n0) rfl) (by decide))).trans ?_;exact cq (l:=Oo 6) (f:=λr=>aZ (.list [aT "pjr",aT "ejr",aT "ejr+",aT "fjr",aT "core",aT "jr"]) (nV r)) (g:=λr=>W8 (fL r)) (by kernel_rfl) (OF.mpr (QE _ (by decide)))
theorem G8:l8 (Xi Xl (W8 (.list [.int n0,.int Xn,.int Xo,.int n3,.int n4,.int n5,.int n6,.int n7,.int n8,.int n9])) x2 x3 x4 x5 x6 x7 x8 x9 x10 x11 x12 x13 x14 x15 x16 x17 x18 x19 x20 x21 x22 x23 x24)=W8 (.next,Xi Xl (W8 (.list [.int n0,.int Xn,.int Xo,.int n3,.int n4,.int n5,.int n6,.int n7,.int n8,.int n9])) x2 x3 x4 x5 x6 (W8 (iC (n0.natAbs/6 % 8))) x8 x9 x10 x11 x12 x13 x14 x15 x16 x17 x18 x19 x20 x21 x22 x23 x24):=by refine(aB (t:=iC (n0.natAbs/6 % 8)) ?_).trans rfl;refine(b2 Nq (rh (b:=8) (zm (b:=6) (mM (n:=n0) rfl) (by decide) (by decide)) (by decide))).trans ?_;exact cq (l:=Oo 8) (f:=λr=>aZ (.list [aT "dhondt",aT "largest_remainder",aT "quota",aT "saintelague",aT "modified_saintelague",aT "huntington",aT "adams",aT "dean"]) (nV r)) (g:=λr=>W8 (iC r)) (by kernel_rfl) (OF.mpr (QE _ (by decide)))
theorem Hb:l3 (Xi Xl (W8 (.list [.int n0,.int Xn,.int Xo,.int n3,.int n4,.int n5,.int n6,.int n7,.int n8,.int n9])) x2 x3 x4 x5 x6 x7 x8 x9 x10 x11 x12 x13 x14 x15 x16 x17 x18 x19 x20 x21 x22 x23 x24)=W8 (.next,Xi Xl (W8 (.list [.int n0,.int Xn,.int Xo,.int n3,.int n4,.int n5,.int n6,.int n7,.int n8,.int n9])) x2 (W8 (nV (2+Xn.natAbs % 2))) x4 x5 x6 x7 x8 x9 x10 x11 x12 x13 x14 x15 x16 x17 x18 x19 x20 x21 x22 x23 x24):=by refine(aB (t:=nV (2+Xn.natAbs % 2)) ?_).trans rfl;exact(b2 rfl (rh (b:=2) (mM (n:=Xn) rfl) (by decide))).trans rfl
theorem Ha:l4 (Xi Xl (W8 (.list [.int n0,.int Xn,.int Xo,.int n3,.int n4,.int n5,.int n6,.int n7,.int n8,.int n9])) x2 x3 x4 x5 x6 x7 x8 x9 x10 x11 x12 x13 x14 x15 x16 x17 x18 x19 x20 x21 x22 x23 x24)=W8 (.next,Xi Xl (W8 (.list [.int n0,.int Xn,.int Xo,.int n3,.int n4,.int n5,.int n6,.int n7,.int n8,.int n9])) x2 x3 (W8 (nV (1+Xo.natAbs % 3))) x5 x6 x7 x8 x9 x10 x11 x12 x13 x14 x15 x16 x17 x18 x19 x20 x21 x22 x23 x24):=by refine(aB (t:=nV (1+Xo.natAbs % 3)) ?_).trans rfl;exact(b2 rfl (rh (b:=3) (mM (n:=Xo) rfl) (by decide))).trans rfl
theorem yG:Iu (Xi Xl (W8 (.list [.int n0,.int Xn,.int Xo,.int n3,.int n4,.int n5,.int n6,.int n7,.int n8,.int n9])) x2 x3 x4 x5 x6 x7 x8 x9 x10 x11 x12 x13 x14 x15 x16 x17 x18 x19 x20 x21 x22 x23 x24)=W8 (.next,Xi Xl (W8 (.list [.int n0,.int Xn,.int Xo,.int n3,.int n4,.int n5,.int n6,.int n7,.int n8,.int n9])) x2 x3 x4 x5 x6 x7 x8 (W8 (.bool (n6.natAbs % 2==0))) x10 x11 x12 x13 x14 x15 x16 x17 x18 x19 x20 x21 x22 x23 x24):=by refine(aB (t:= .bool (n6.natAbs % 2==0)) ?_).trans rfl;refine(b2 (rh (b:=2) (mM (n:=n6) rfl) (by decide)) rfl).trans ?_;cases n6.natAbs % 2<;>rfl
theorem Gw {n:Int}{b:Nat}(hb:b≠0):fU (.int (if n<0 then -n else n)) (.int b)=W8 (nV (n.natAbs % b)):=by rw[H9];show(if(b:Int)=0 then W9 else W8 (Xc _))=_;rw[if_neg (λe:(b:Int)=0=>hb (Rr e)),Ei];rfl
end
end
section
theorem cc {f:V->Option (List V)}{a b:List V}(h:f x=W8 a)(h':collect f xs=W8 b):collect f (x::xs)=W8 (a++b):=by show(f x).bind _=_;refine ab h ?_;show(collect f xs).bind _=_;refine ab h' ?_;rfl
theorem gh {f:ai->V->Option (List V)}(hg:dx ci σ=true)(hd:di σ=W8 xs)(hc:collect (f σ) xs=W8 ys)(hl:ys.length<=lim):ba ci di f σ=W8 (.list ys):=by unfold ba dX;refine ab (if_pos hg) (ab hd ?_);show(collect (f σ) xs).bind _=_;refine ab hc ?_;exact if_pos hl
theorem zr {a:ED}{v:V}(h:a σ=W8 v):dT a σ=cZ v:=by unfold dT;refine ab h ?_;rfl
theorem Db {inner:ai->Option (List V)}{c:Bool}(hs:st x σ=W8 XK)(hc:cond XK=W8 c):aj st cond inner σ x=if c then inner XK else W8 []:=by unfold aj;refine ab hs ?_;show(cond XK).bind _=_;refine ab hc ?_;rfl
theorem um {e:ED}(h:e σ=W8 t):aF e σ=W8 [t]:=by unfold aF;refine ab h ?_;rfl
theorem E1 {a:ai->Option Bool}{b c:ED}{t:Bool}(h:a σ=W8 t):wl a b c σ=if t then b σ else c σ:=by unfold wl;refine ab h ?_;rfl
theorem B1 {f:V->Option (List V)}:collect f []=W8 []:=rfl
section
variable{Xl Xm:Option V}{Xn Xo:Int}
theorem io {n:Int}{b:Nat}{z:V}(h25:aK σ 25=W9)(hl:25<σ.length)(h3:aK σ 3=W8 z)(hb:b≠0)(hz:iw (.int 5) z=W8 (nV b)):
 aj (bg 25) m0 (aF (dB bJ (dI 1) (dB fU (dU qr (dV 25)) (dB iw (dI 5) (dV 3))))) σ (.int n)=W8 [nV (1+n.natAbs % b)]:=by
 have e1:bg 25 (.int n) σ=W8 (aw σ 25 (W8 (.int n))):=by unfold bg nb;refine ab h25 ?_;rfl
 have e2:aF (dB bJ (dI 1) (dB fU (dU qr (dV 25)) (dB iw (dI 5) (dV 3)))) (aw σ 25 (W8 (.int n)))=W8 [nV (1+n.natAbs % b)]:=by have g3:dV 3 (aw σ 25 (W8 (.int n)))=W8 z:=(aU (by decide)).trans h3;have g25:dV 25 (aw σ 25 (W8 (.int n)))=W8 (.int n):=bZ hl;have h1:dU qr (dV 25) (aw σ 25 (W8 (.int n)))=W8 (.int (if n<0 then -n else n)):=Xw g25;have h2:dB iw (dI 5) (dV 3) (aw σ 25 (W8 (.int n)))=W8 (nV b):=(b2 (x:= .int 5) rfl g3).trans hz;have h3':=(b2 (f:=fU) h1 h2).trans (Gw hb);have h4:dB bJ (dI 1) (dB fU (dU qr (dV 25)) (dB iw (dI 5) (dV 3))) (aw σ 25 (W8 (.int n)))=W8 (nV (1+n.natAbs % b)):=(b2 (x:= .int 1) rfl h3').trans rfl;exact congrArg (Ox λt=> [t]) h4
 unfold aj;refine ab e1 ?_;exact e2
theorem MM:q0 3 (Xi Xl (W8 (.list [.int n0,.int Xn,.int Xo,.int n3,.int n4,.int n5,.int n6,.int n7,.int n8,.int n9])) x2 (W8 (nV 2)) x4 x5 x6 x7 x8 x9 x10 x11 x12 x13 x14 x15 x16 x17 x18 x19 x20 x21 x22 x23 x24)=W8 (nL [1+n3.natAbs % 3,1+n4.natAbs % 3]):=
 gh (xs:= [.int n3,.int n4]) rfl (by kernel_rfl) (cc (io (b:=3) rfl (by show 25<33;decide) rfl (by decide) rfl) (cc (io (b:=3) rfl (by show 25<33;decide) rfl (by decide) rfl) B1)) (by show 2<=4096;decide)
theorem ML:q0 3 (Xi Xl (W8 (.list [.int n0,.int Xn,.int Xo,.int n3,.int n4,.int n5,.int n6,.int n7,.int n8,.int n9])) x2 (W8 (nV 3)) x4 x5 x6 x7 x8 x9 x10 x11 x12 x13 x14 x15 x16 x17 x18 x19 x20 x21 x22 x23 x24)=W8 (nL [1+n3.natAbs % 2,1+n4.natAbs % 2,1+n5.natAbs % 2]):=
 gh (xs:= [.int n3,.int n4,.int n5]) rfl (by kernel_rfl) (cc (io (b:=2) rfl (by show 25<33;decide) rfl (by decide) rfl) (cc (io (b:=2) rfl (by show 25<33;decide) rfl (by decide) rfl) (cc (io (b:=2) rfl (by show 25<33;decide) rfl (by decide) rfl) B1))) (by show 3<=4096;decide)
theorem MK:q0 7 (Xi Xl (W8 (.list [.int n0,.int Xn,.int Xo,.int n3,.int n4,.int n5,.int n6,.int n7,.int n8,.int n9])) x2 (W8 (nV 2)) x4 x5 x6 x7 x8 x9 x10 x11 x12 x13 x14 x15 x16 x17 x18 x19 x20 x21 x22 x23 x24)=W8 (nL [1+n7.natAbs % 3,1+n8.natAbs % 3]):=
 gh (xs:= [.int n7,.int n8]) rfl (by kernel_rfl) (cc (io (b:=3) rfl (by show 25<33;decide) rfl (by decide) rfl) (cc (io (b:=3) rfl (by show 25<33;decide) rfl (by decide) rfl) B1)) (by show 2<=4096;decide)
theorem MJ:q0 7 (Xi Xl (W8 (.list [.int n0,.int Xn,.int Xo,.int n3,.int n4,.int n5,.int n6,.int n7,.int n8,.int n9])) x2 (W8 (nV 3)) x4 x5 x6 x7 x8 x9 x10 x11 x12 x13 x14 x15 x16 x17 x18 x19 x20 x21 x22 x23 x24)=W8 (nL [1+n7.natAbs % 2,1+n8.natAbs % 2,1+n9.natAbs % 2]):=
 gh (xs:= [.int n7,.int n8,.int n9]) rfl (by kernel_rfl) (cc (io (b:=2) rfl (by show 25<33;decide) rfl (by decide) rfl) (cc (io (b:=2) rfl (by show 25<33;decide) rfl (by decide) rfl) (cc (io (b:=2) rfl (by show 25<33;decide) rfl (by decide) rfl) B1))) (by show 3<=4096;decide)
theorem NE (a b:Nat): [1+a % 3,1+b % 3]∈SZ:=(by decide:∀x<3,∀y<3,[1+x,1+y]∈SZ) _ (QE a (by decide)) _ (QE b (by decide))
theorem ND (a b c:Nat): [1+a % 2,1+b % 2,1+c % 2]∈SZ:=by rcases QC a with h |h<;>rcases QC b with h' |h'<;>rcases QC c with YU |YU<;>refine ab h (ab h' (ab YU ?_))<;>decide
theorem G9:∃s,s∈SZ/\ s.length=2+Xn.natAbs % 2/\ l5 (Xi Xl (W8 (.list [.int n0,.int Xn,.int Xo,.int n3,.int n4,.int n5,.int n6,.int n7,.int n8,.int n9])) x2 (W8 (nV (2+Xn.natAbs % 2))) x4 x5 x6 x7 x8 x9 x10 x11 x12 x13 x14 x15 x16 x17 x18 x19 x20 x21 x22 x23 x24)=W8 (.next,Xi Xl (W8 (.list [.int n0,.int Xn,.int Xo,.int n3,.int n4,.int n5,.int n6,.int n7,.int n8,.int n9])) x2 (W8 (nV (2+Xn.natAbs % 2))) x4 (W8 (nL s)) x6 x7 x8 x9 x10 x11 x12 x13 x14 x15 x16 x17 x18 x19 x20 x21 x22 x23 x24):=by
 rcases QC Xn.natAbs with h |h<;>refine ab h ?_
 ·exact⟨_,NE _ _,rfl,(aB MM).trans rfl⟩
 ·exact⟨_,ND _ _ _,rfl,(aB ML).trans rfl⟩
def kk (i:Nat)(s:List Nat)(k:Nat):Nat:=if i==3&&Nat.blt 4 (aW s)then Nat.min k 2 else k
def Di (l:List Nat)(k:Nat):List Nat:=if Nat.blt (aW l) k then(match l with |a::r=>(a+(k - aW l))::r | []=> [])else l
def bD:List Nat->Nat->List (List Nat)
 | [],_=> []
 |l::ls,o=>((Oo l).map (o+ ·))::bD ls (o+l)
def pt (ch:List Nat):List Nat:=((bD (ch.map (· +1)) 0).zip ch).flatMap λx=>x.1.take x.2
def C2:List (Nat×List Nat×Nat):=(Oo 6).flatMap λm=>SZ.flatMap λs=>KS.map λk=>(m,s,k)
theorem Ek {s:List Nat}(hm:m<6)(hs:s∈SZ)(hk:k∈KS):(m,s,k)∈C2:=
 OV.mpr ⟨m,OF.mpr hm,OV.mpr ⟨s,hs,OM.mpr ⟨k,hk,rfl⟩⟩⟩
def C3:List (List Nat×Nat):=SZ.flatMap λs=>KS.map λk=>(s,k)
theorem yu {s:List Nat}(hs:s∈SZ)(hk:k∈KS):(s,k)∈C3:=OV.mpr ⟨s,hs,OM.mpr ⟨k,hk,rfl⟩⟩
def pZ:List (List Nat):=([1,2,3,4].flatMap λa=> [1,2,3,4].map λb=> [a,b]).filter λl=>Rv (aW l) 6
def pY:List (List Nat):=([1,2,3,4].flatMap λa=> [1,2,3,4].flatMap λb=> [1,2,3,4].map λc=> [a,b,c]).filter λl=>Rv (aW l) 6
def Ak:List (List Nat):=([0,1,2,3].flatMap λa=> [0,1,2,3].map λb=> [a,b]).filter λl=>Rv 1 (aW l)&&Rv (aW l) 3
def Aj:List (List Nat):=([0,1,2,3].flatMap λa=> [0,1,2,3].flatMap λb=> [0,1,2,3].map λc=> [a,b,c]).filter λl=>Rv 1 (aW l)&&Rv (aW l) 3
theorem a6:(SZ.map λs=>l6 (Xi Xl Xm x2 x3 x4 (W8 (nL s)) x6 x7 x8 x9 x10 x11 x12 x13 x14 x15 x16 x17 x18 x19 x20 x21 x22 x23 x24))=SZ.map λs=>W8 (.next,Xi Xl Xm x2 x3 x4 (W8 (nL s)) (W8 (nV (aW s))) x7 x8 x9 x10 x11 x12 x13 x14 x15 x16 x17 x18 x19 x20 x21 x22 x23 x24):=by kernel_rfl
theorem a7:(C2.map λc=>l7 (Xi Xl Xm (W8 (fL c.1)) x3 (W8 (nV c.2.2)) x5 (W8 (nV (aW c.2.1))) x7 x8 x9 x10 x11 x12 x13 x14 x15 x16 x17 x18 x19 x20 x21 x22 x23 x24))=C2.map λc=>W8 (.next,Xi Xl Xm (W8 (fL c.1)) x3 (W8 (nV (kk c.1 c.2.1 c.2.2))) x5 (W8 (nV (aW c.2.1))) x7 x8 x9 x10 x11 x12 x13 x14 x15 x16 x17 x18 x19 x20 x21 x22 x23 x24):=by kernel_rfl
theorem KR:((Ak++Aj).map λc=>Ew (Xi Xl Xm x2 x3 x4 x5 x6 x7 (W8 (nL c)) x9 x10 x11 x12 x13 x14 x15 x16 x17 x18 x19 x20 x21 x22 x23 x24))=(Ak++Aj).map λc=>W8 (.next,Xi Xl Xm x2 x3 x4 x5 x6 x7 (W8 (nL c)) x9 (W8 (nL (c.map (· +1)))) x11 x12 x13 x14 x15 x16 x17 x18 x19 x20 x21 x22 x23 x24):=by kernel_rfl
theorem KQ:(C3.map λc=>(aa (bB (dT (zx (dU dn (dV 10)) (dV 4))) (aa (tj 10 (dI 0) (dB bJ (dB aZ (dV 10) (dI 0)) (dI 1))) af) 8) af) (Xi Xl Xm x2 x3 (W8 (nV c.2)) x5 x6 x7 x8 x9 (W8 (nL c.1)) x11 x12 x13 x14 x15 x16 x17 x18 x19 x20 x21 x22 x23 x24))=C3.map λc=>W8 (.next,Xi Xl Xm x2 x3 (W8 (nV c.2)) x5 x6 x7 x8 x9 (W8 (nL (Di c.1 c.2))) x11 x12 x13 x14 x15 x16 x17 x18 x19 x20 x21 x22 x23 x24):=by kernel_rfl
theorem KO:(pZ.map λl=>Et (Xi Xl Xm x2 (W8 (nV 2)) x4 x5 x6 x7 x8 x9 (W8 (nL l)) (W8 (.list [])) x12 x13 x14 x15 x16 x17 x18 x19 x20 x21 x22 x23 x24))=pZ.map λl=>W8 (.next,Xi Xl Xm x2 (W8 (nV 2)) x4 x5 x6 x7 x8 x9 (W8 (nL l)) (W8 (.list ((bD l 0).map nL))) (W8 (nV 1)) x13 x14 x15 x16 x17 x18 x19 x20 x21 x22 x23 x24):=by kernel_rfl
theorem KN:(pY.map λl=>Et (Xi Xl Xm x2 (W8 (nV 3)) x4 x5 x6 x7 x8 x9 (W8 (nL l)) (W8 (.list [])) x12 x13 x14 x15 x16 x17 x18 x19 x20 x21 x22 x23 x24))=pY.map λl=>W8 (.next,Xi Xl Xm x2 (W8 (nV 3)) x4 x5 x6 x7 x8 x9 (W8 (nL l)) (W8 (.list ((bD l 0).map nL))) (W8 (nV 2)) x13 x14 x15 x16 x17 x18 x19 x20 x21 x22 x23 x24):=by kernel_rfl
theorem KL:(Ak.map λl=>yF (Xi Xl Xm x2 (W8 (nV 2)) x4 x5 x6 x7 (W8 (nL l)) x9 x10 (W8 (.list ((bD (l.map (· +1)) 0).map nL))) x12 x13 x14 x15 x16 x17 x18 x19 x20 x21 x22 x23 x24))=Ak.map λl=>W8 (.next,Xi Xl Xm x2 (W8 (nV 2)) x4 x5 x6 x7 (W8 (nL l)) x9 x10 (W8 (.list ((bD (l.map (· +1)) 0).map nL))) (W8 (nV 1)) (W8 (nL (pt l))) x14 x15 x16 x17 x18 x19 x20 x21 x22 x23 x24):=by kernel_rfl
theorem KJ:(Aj.map λl=>yF (Xi Xl Xm x2 (W8 (nV 3)) x4 x5 x6 x7 (W8 (nL l)) x9 x10 (W8 (.list ((bD (l.map (· +1)) 0).map nL))) x12 x13 x14 x15 x16 x17 x18 x19 x20 x21 x22 x23 x24))=Aj.map λl=>W8 (.next,Xi Xl Xm x2 (W8 (nV 3)) x4 x5 x6 x7 (W8 (nL l)) x9 x10 (W8 (.list ((bD (l.map (· +1)) 0).map nL))) (W8 (nV 2)) (W8 (nL (pt l))) x14 x15 x16 x17 x18 x19 x20 x21 x22 x23 x24):=by kernel_rfl
def Ho:ED:=ba JH (cO (dV 11)) (aj (bg 28) m0 (ku (cO (dV 28)) (aj (bg 29) m0 (aF (dV 29)))))
theorem KI:(SZ.map λl=>Ho (Xi Xl Xm x2 x3 x4 x5 x6 x7 x8 x9 x10 (W8 (.list ((bD l 0).map nL))) x12 x13 x14 x15 x16 x17 x18 x19 x20 x21 x22 x23 x24))=SZ.map λl=>W8 (nL (Oo (aW l))):=by kernel_rfl
end
end
section
theorem pz (h:l.length<=lim):aP (nL l)=W8 (nV l.length):=by show(if(l.map nV).length<=lim then W8 (Xc (l.map nV).length)else W9)=_;rw[OA,if_pos h];rfl
theorem Jr {c:ai->Option Bool}{b:SD}{n:Nat}(h:c σ=W8 true)(h':b σ=W8 (.next,σ')):bB c b (n+1) σ=bB c b n σ':=by show(c σ).bind _=_;refine ab h ?_;show(b σ).bind _=_;refine ab h' ?_;rfl
theorem Js {c:ai->Option Bool}{b:SD}{n:Nat}(h:c σ=W8 false):bB c b (n+1) σ=W8 (.next,σ):=by show(c σ).bind _=_;refine ab h ?_;rfl
theorem i6 {b:SD}(h:st x σ=W8 XK)(h':b XK=W8 (.next,σ')):aQ st b (x::xs) σ=aQ st b xs σ':=by show(st x σ).bind _=_;refine ab h ?_;show(b XK).bind _=_;refine ab h' ?_;rfl
theorem EG {i:Nat}(h:i<l.length)(hl:l.length<=4096):aZ (nL l) (nV i)=W8 (nV l[i]):=by refine ab (show aZ (nL l) (nV i)=Z4 (l.map nV) (i:Int)from rfl) ?_;unfold Z4;have ZB:(lim:Nat)=4096:=rfl;rw[if_pos (PT i),if_pos (show(i:Int)<((lim:Nat):Int)from PS.mpr (OL h hl)),Rm,Qw,OP h];rfl
theorem Eh {a b:Nat}(hb:b≠0):fU (nV a) (nV b)=W8 (nV (a % b)):=by show(if(b:Int)=0 then W9 else W8 (Xc _))=_;rw[if_neg (λe:(b:Int)=0=>hb (Rr e)),Ei];rfl
theorem zq {a b:Nat}(hb:b≠0)(ZE:b<2^60):d2 (nV a) (nV b)=W8 (nV (a/b)):=by show(if(b:Int)=0 \/¬(b:Int).natAbs<2^60 then W9 else W8 (Xc _))=_;rw[if_neg (λe=>e.elim (λe=>hb (Rr e)) λe=>e ZE),Hr];rfl
theorem pK {f:V->Option (List V)}{p:Nat->Bool}:∀(l:List Nat),(∀j∈l,f (nV j)=W8 (if p j then[nV j]else[]))->collect f (l.map nV)=W8 ((l.filter p).map nV)
 | [],_=>rfl
 |j::l,h=>by refine(cc (h j (.head _)) (pK l λi hi=>h i (.tail _ hi))).trans ?_;refine ab WX ?_;cases p j<;>rfl
theorem ze {a:Nat}(h:l.Nodup)(ha:a∈l):(l.filter λj=> !(j==a)).length+1=l.length:=by have e:(l.filter λj=> !(j==a))=l.erase a:=(List.Nodup.erase_eq_filter h a).symm;refine ab e (ab (List.length_erase_of_mem ha) ?_);exact Nat.sub_add_cancel (List.length_pos_of_mem ha)
section
variable{Xl Xm:Option V}{Xn Xo:Int}
theorem t5 (h4:aK σ 4=W8 (nV k))(h13:aK σ 13=W8 (nL ms))(hl:ms.length<=lim):dT (zx (dU aP (dV 13)) (dV 4)) σ=W8 (decide (ms.length<k)):=by
 have e:zx (dU aP (dV 13)) (dV 4) σ=W8 (.bool (decide ((ms.length:Int)<(k:Int)))):=by show dB (bf λa b=>decide (a<b)) (dU aP (dV 13)) (dV 4) σ=_;exact b2 ((Xw (a:=dV 13) h13).trans (pz hl)) (show dV 4 σ=_ from h4)
 unfold dT;refine ab e ?_;show W8 (decide _)=_;exact congrArg W8 (decide_eq_decide.mpr PS)
theorem Be {q:Nat}{fr:List Nat}(Xz:fr.length≠0)(h6:fr.length<=6)(hm:ms.length<6):
 ∃a,a∈fr/\ DR (Xi Xl Xm x2 x3 (W8 (nV k)) x5 x6 x7 x8 x9 x10 x11 x12 (W8 (nL ms)) (W8 (nL fr)) (W8 (nV q)) x16 x17 x18 x19 x20 x21 x22 x23 x24)=W8 (.next,Xi Xl Xm x2 x3 (W8 (nV k)) x5 x6 x7 x8 x9 x10 x11 x12 (W8 (nL (ms++ [a]))) (W8 (nL (fr.filter λj=> !(j==a)))) (W8 (nV (q/fr.length))) (W8 (nV a)) x17 x18 x19 x20 x21 x22 x23 x24):=by
 injections k ms x8 x9 x6 x7 x10 x5 x11 x12 x16 x2 x3 x17 x18 x19 x20 x21 x22 x23 x24 Xl Xm q fr _ Xz h6 hm;have hi:q % fr.length<fr.length:=QE _ (Wy Xz);refine⟨fr[q % fr.length],Uz hi,?_⟩;have hl:fr.length<=lim:=Op h6 (by decide);generalize hσ:Xi Xl Xm x2 x3 (W8 (nV k)) x5 x6 x7 x8 x9 x10 x11 x12 (W8 (nL ms)) (W8 (nL fr)) (W8 (nV q)) x16 x17 x18 x19 x20 x21 x22 x23 x24=σ;have g13:aK σ 13=W8 (nL ms):=by subst hσ;rfl
 have g14:aK σ 14=W8 (nL fr):=by subst hσ;rfl
 have g15:aK σ 15=W8 (nV q):=by subst hσ;rfl
 have e1:(dB aZ (dV 14) (dB fU (dV 15) (dU aP (dV 14)))) σ=W8 (nV fr[q % fr.length]):=(b2 g14 ((b2 g15 ((Xw g14).trans (pz hl))).trans (Eh Xz))).trans (EG hi hl);refine(ax (aB e1)).trans ?_;generalize fr[q % fr.length]=a;subst hσ;have e2:(dB d2 (dV 15) (dU aP (dV 14))) (Xi Xl Xm x2 x3 (W8 (nV k)) x5 x6 x7 x8 x9 x10 x11 x12 (W8 (nL ms)) (W8 (nL fr)) (W8 (nV q)) (W8 (nV a)) x17 x18 x19 x20 x21 x22 x23 x24)=W8 (nV (q/fr.length)):=(b2 rfl ((Xw rfl).trans (pz hl))).trans (zq Xz (OW h6 (by decide)));refine(ax (aB e2)).trans ?_;have e3:pR 13 (dV 16) (Xi Xl Xm x2 x3 (W8 (nV k)) x5 x6 x7 x8 x9 x10 x11 x12 (W8 (nL ms)) (W8 (nL fr)) (W8 (nV (q/fr.length))) (W8 (nV a)) x17 x18 x19 x20 x21 x22 x23 x24)=W8 (.next,Xi Xl Xm x2 x3 (W8 (nV k)) x5 x6 x7 x8 x9 x10 x11 x12 (W8 (nL (ms++ [a]))) (W8 (nL fr)) (W8 (nV (q/fr.length))) (W8 (nV a)) x17 x18 x19 x20 x21 x22 x23 x24):=by show((if(ms.map nV).length<lim then W8 (ms.map nV++ [nV a])else W9).map _)=_;refine ab (if_pos (by rw[OA];show _<4096;exact QX hm (by decide))) (bV (List.map_singleton (f:=nV)) (bV PJ ?_));rfl
 refine(ax e3).trans ?_;have e4:(ba EI (cO (dV 14)) (aj (bg 29) (dT (zw fC (dV 29) (dV 16))) (aF (dV 29)))) (Xi Xl Xm x2 x3 (W8 (nV k)) x5 x6 x7 x8 x9 x10 x11 x12 (W8 (nL (ms++ [a]))) (W8 (nL fr)) (W8 (nV (q/fr.length))) (W8 (nV a)) x17 x18 x19 x20 x21 x22 x23 x24)=W8 (nL (fr.filter λj=> !(j==a))):=
  gh (xs:=fr.map nV) rfl rfl (pK (p:=λj=> !(j==a)) fr λj _=>by
   show((W8 (!((j:Int)==(a:Int)))).bind λb=>if b then W8 [nV j]else W8 [])=_;have:((j:Int)==(a:Int))=(j==a):=by rw[QS,beq_iff_eq,beq_iff_eq];exact Int.ofNat_inj
   refine ab this ?_;cases(j==a)<;>rfl) (by rw[OA];exact Op (Sh _ _) hl)
 exact(ax (aB e4)).trans rfl
theorem o9 {P:Prop}{k N:Nat}(hN:N<=6)(hk:k<=N):∀(fuel:Nat) (ms fr:List Nat) (q:Nat) (x16:Option V),k - ms.length<fuel->ms.length<=k->fr.Nodup->(∀j∈fr,j<N/\ j∉ms)->ms.Nodup->(∀j∈ms,j<N)->fr.length+ms.length=N->
 (∀(ms':List Nat) (y14 y15 y16:Option V),ms'.length=k->ms'.Nodup->(∀j∈ms',j<N)->bB (dT (zx (dU aP (dV 13)) (dV 4))) DR fuel (Xi Xl Xm x2 x3 (W8 (nV k)) x5 x6 x7 x8 x9 x10 x11 x12 (W8 (nL ms)) (W8 (nL fr)) (W8 (nV q)) x16 x17 x18 x19 x20 x21 x22 x23 x24)=W8 (.next,Xi Xl Xm x2 x3 (W8 (nV k)) x5 x6 x7 x8 x9 x10 x11 x12 (W8 (nL ms')) y14 y15 y16 x17 x18 x19 x20 x21 x22 x23 x24)->P)->P
 |0,_,_,_,_,hf,_,_,_,_,_,_,_=>absurd hf (Nat.not_lt_zero _)
 |fuel+1,ms,fr,q,x16,hf,hm,h1,h2,h3,h4,h5,c=>by
  by_cases h:ms.length<k
  ·obtain⟨a,ha,e⟩:=Be (Xl:=Xl) (Xm:=Xm) (x2:=x2) (x3:=x3) (x5:=x5) (x6:=x6) (x7:=x7) (x8:=x8) (x9:=x9) (x10:=x10) (x11:=x11) (x12:=x12) (x17:=x17) (x18:=x18) (x19:=x19) (x20:=x20) (x21:=x21) (x22:=x22) (x23:=x23) (x24:=x24) (k:=k) (q:=q) (ms:=ms) (fr:=fr) (x16:=x16) (λe=>T7 N (OL ((O1 _).symm.trans (e▸h5)▸h) hk)) (Op (h5▸Rt _ _) hN) (OL h (Op hk hN))
   have hl:=ze h1 ha;refine o9 hN hk fuel _ _ _ _ (by refine ab Pd (ab P1 ?_);exact OL (Nat.sub_lt_sub_left h (PZ _)) (aaJ hf)) (by refine ab Pd (ab P1 ?_);exact h) (h1.filter _) (λj hj=> ?_) ?_ (λj hj=> ?_) (by refine ab Pd (ab P1 ?_);exact(aaF _ _).symm.trans ((congrArg (· +ms.length) hl).trans h5)) (λms' y14 y15 y16 z1 z2 z3 z=>c ms' y14 y15 y16 z1 z2 z3 ((Jr ((t5 rfl rfl (Op hm (Op hk (Op hN (by decide))))).trans (congrArg W8 (decide_eq_true h))) e).trans z))
   ·obtain⟨q1,q2⟩:=SA.mp hj
    refine⟨(h2 j q1).1,λhh=> ?_⟩;rcases Rd.mp hh with hh |hh
    ·exact(h2 j q1).2 hh
    ·rw[OJ.mp hh]at q2;simp at q2
   ·exact Uj.mpr ⟨h3,(by simp),λx hx y hy e=>(h2 a ha).2 (by refine bV (OJ.mp hy) (bV e ?_);exact hx)⟩
   ·rcases Rd.mp hj with hh |hh
    ·exact h4 j hh
    ·refine ab (OJ.mp hh) ?_;exact(h2 a ha).1
  ·exact c ms _ _ _ (aaO hm (R8.mp h)) h3 h4 (Js ((t5 rfl rfl (Op hm (Op hk (Op hN (by decide))))).trans (congrArg W8 (decide_eq_false h))))
end
end
section
theorem Bx (l:List Nat):dN (l.map nV)=W8 (l.map λn:Nat=>(n:Int)):=by
 have:l.map nV=(l.map λn:Nat=>(n:Int)).map Xc:=by refine ab Sg ?_;rfl
 rw[this,ma]
theorem Hl (l:List Nat)(j:Nat):fw (nV j) (nL l)=W8 (l.contains j):=by
 show(dN (l.map nV)).map (λns=>ns.any (· ==(j:Int)))=_;rw[Bx];refine congrArg W8 (show(l.map λn:Nat=>(n:Int)).any (· ==(j:Int))=l.contains j from ?_);induction l with
 |nil=>rfl
 |cons a l ih=>refine ab Sw (ab T2 (ab ih (ab Ws ?_)));refine congrArg (· ||l.contains j) ?_;rw[QS,beq_iff_eq,beq_iff_eq];exact Int.ofNat_inj.trans eq_comm
def jo (ms b:List Nat):Nat:=(b.filter λj=>ms.contains j).length
theorem yP:∀b<64,∀n<6,∀j<6,f9 (b ||| (1<<<n)) j=(f9 b j ||n==j):=by decide+kernel
theorem oe {j:Nat}(hj:j<6):∀(l:List Nat) (b:Nat),b<64->(∀i∈l,i<6)->f9 (l.foldl (λb n=>b ||| (1<<<n)) b) j=(f9 b j ||l.contains j)
 | [],b,_,_=>by simp
 |i::l,b,hb,h=>by have hi:=h i (.head _);rw[UR,oe hj l _ (i0 hb ((by decide:∀n<6,1<<<n<64) i hi)) λx hx=>h x (.tail _ hx),yP b hb i hi j hj,Ws,Bool.or_assoc];refine congrArg (λz=>f9 b j || (z ||l.contains j)) ?_;rw[QS,beq_iff_eq,beq_iff_eq];exact eq_comm
theorem yQ (hj:j<6)(h:∀i∈l,i<6):f9 (am l) j=l.contains j:=by unfold am;refine ab (oe hj l 0 (by decide) h) ?_;have:f9 0 j=false:=(by decide:∀j<6,f9 0 j=false) j hj;rw[this,Qm]
theorem GJ:∀b<64,∀n<6,f9 b n=false->pc (b ||| (1<<<n))=pc b+1:=by decide+kernel
theorem q8:∀(l:List Nat) (b:Nat),b<64->(∀i∈l,i<6)->l.Nodup->(∀i∈l,f9 b i=false)->pc (l.foldl (λb n=>b ||| (1<<<n)) b)=pc b+l.length
 | [],b,_,_,_,_=>rfl
 |i::l,b,hb,h,hn,hd=>by have hi:=h i (.head _);obtain⟨Xn,Xo⟩:=PI.mp hn;refine ab UR (ab (q8 l _ (i0 hb ((by decide:∀n<6,1<<<n<64) i hi)) (λx hx=>h x (.tail _ hx)) Xo λx hx=>by rw[yP b hb i hi x (h x (.tail _ hx)),hd x (.tail _ hx),Qm];exact beq_eq_false_iff_ne.mpr λe=>Xn (e▸hx)) (ab (GJ b hb i hi (hd i (.head _))) (ab Qf ?_)));exact aaF _ _
theorem kN (h:∀i∈l,i<6)(hn:l.Nodup):pc (am l)=l.length:=by unfold am;refine ab (q8 l 0 (by decide) h hn λi hi=>(by decide:∀j<6,f9 0 j=false) i (h i hi)) ?_;exact O1 _
section
variable{Xl Xm:Option V}{Xn Xo:Int}
theorem uw {bls:List (List Nat)}(h11:aK σ 11=W8 (.list (bls.map nL)))(h13:aK σ 13=W8 (nL ms))(h28:aK σ 28=W9)(h29:aK σ 29=W9)(hl:29<σ.length)(hb:bls.length<=9)(hbs:∀b∈bls,b.length<=9):
 ba IA (cO (dV 11)) (aj (bg 28) m0 (aF (dU aP (ba vW (cO (dV 28)) (aj (bg 29) (dT (dB (λa b=>Ox Xb (fw a b)) (dV 29) (dV 13))) (aF (dV 29))))))) σ=W8 (nL (bls.map (jo ms))):=by
 have key:∀b∈bls,aj (bg 28) m0 (aF (dU aP (ba vW (cO (dV 28)) (aj (bg 29) (dT (dB (λa b=>Ox Xb (fw a b)) (dV 29) (dV 13))) (aF (dV 29)))))) σ (nL b)=W8 [nV (jo ms b)]:=λb ZE=>by
  have s28:bg 28 (nL b) σ=W8 (aw σ 28 (W8 (nL b))):=by unfold bg nb;refine ab h28 ?_;rfl
  have g28:aK (aw σ 28 (W8 (nL b))) 28=W8 (nL b):=bZ (by omega);have g29:aK (aw σ 28 (W8 (nL b))) 29=W9:=(aU (by decide)).trans h29;have g13:aK (aw σ 28 (W8 (nL b))) 13=W8 (nL ms):=(aU (by decide)).trans h13;have FC:29<(aw σ 28 (W8 (nL b))).length:=by refine ab (show(aw σ 28 (W8 (nL b))).length=σ.length from List.length_set ..) ?_;exact hl
  have inner:ba vW (cO (dV 28)) (aj (bg 29) (dT (dB (λa b=>Ox Xb (fw a b)) (dV 29) (dV 13))) (aF (dV 29))) (aw σ 28 (W8 (nL b)))=W8 (nL (b.filter λj=>ms.contains j)):=by
   generalize aw σ 28 (W8 (nL b))=τ at g28 g29 g13 FC;refine gh (xs:=b.map nV) (by unfold dx vW;refine ab RM (ab RM (ab Uq (ab g29 ?_)));rfl) (by show((aK τ 28).bind fR)=_;refine ab g28 ?_;rfl) (pK b λj _=> ?_) (by rw[OA];exact Op (Sh _ _) (Op (hbs b ZE) (by decide)));have s29:bg 29 (nV j) τ=W8 (aw τ 29 (W8 (nV j))):=by unfold bg nb;refine ab g29 ?_;rfl
   have q29:aK (aw τ 29 (W8 (nV j))) 29=W8 (nV j):=bZ FC;have q13:aK (aw τ 29 (W8 (nV j))) 13=W8 (nL ms):=(aU (by decide)).trans g13;have Ks:dT (dB (λa b=>Ox Xb (fw a b)) (dV 29) (dV 13)) (aw τ 29 (W8 (nV j)))=W8 (ms.contains j):=by refine(zr ((b2 (a:=dV 29) (b:=dV 13) q29 q13).trans (congrArg (Ox Xb) (Hl ms j)))).trans rfl
   refine ab (Db s29 Ks) (ab (um (e:=dV 29) q29) ?_);cases ms.contains j<;>rfl
  refine ab (Db (c:=true) s28 rfl) (ab (if_pos rfl) ?_);exact um ((Xw inner).trans (pz (Op (Sh _ _) (Op (hbs b ZE) (by decide)))))
 refine gh (xs:=bls.map nL) (ys:=(bls.map (jo ms)).map nV) (by unfold dx IA;refine ab RM (ab RM (ab Uq (ab h28 ?_)));rfl) (by show((aK σ 11).bind fR)=_;refine ab h11 ?_;rfl) ?_ (by rw[OA,OA];exact Op hb (by decide));refine(gQ (f:=aj (bg 28) m0 _ σ) (g:=nL) (h:=λb=>nV (jo ms b)) bls key).trans ?_;refine ab Sg ?_;rfl
theorem mz {i n p s h l:Nat}{ss ls hs:List Nat}{d:Bool}(hi:i<6)(hk:k<4)(hn:0<n/\ n<7)(X2:s<9)(h5:aZ (nL ss) (nV p)=W8 (nV s))(h17:aZ (nL hs) (nV p)=W8 (nV h))(h10:aZ (nL ls) (nV p)=W8 (nV l)):
 jl (Xi Xl Xm (W8 (fL i)) x3 (W8 (nV k)) (W8 (nL ss)) (W8 (nV n)) x7 x8 x9 (W8 (nL ls)) x11 (W8 (nV p)) x13 x14 x15 x16 (W8 (nL hs)) (W8 (.bool d)) x19 x20 x21 x22 x23 x24)=W8 (.next,Xi Xl Xm (W8 (fL i)) x3 (W8 (nV k)) (W8 (nL ss)) (W8 (nV n)) x7 x8 x9 (W8 (nL ls)) x11 (W8 (nV p)) x13 x14 x15 x16 (W8 (nL hs)) (W8 (.bool (d&& !decide (h<min (s*k/n) (if i=5 then 1 else l))))) (W8 (nV (s*k/n))) x20 x21 x22 x23 x24):=by
 injections k x8 x9 x7 x11 x14 x16 x3 x13 x15 x19 x20 x21 x22 x23 x24 Xl Xm i n p s h l ss ls hs d _ hi hk hn X2 h5 h17 h10;have e1:(dB d2 (dB c8 (dB aZ (dV 5) (dV 12)) (dV 4)) (dV 6)) (Xi Xl Xm (W8 (fL i)) x3 (W8 (nV k)) (W8 (nL ss)) (W8 (nV n)) x7 x8 x9 (W8 (nL ls)) x11 (W8 (nV p)) x13 x14 x15 x16 (W8 (nL hs)) (W8 (.bool d)) x19 x20 x21 x22 x23 x24)=W8 (nV (s*k/n)):=by refine(b2 (x:=nV (s*k)) (y:=nV n) ((b2 ((b2 rfl rfl).trans h5) rfl).trans ?_) rfl).trans (zq (Qh hn.1) (QX hn.2 (by decide)));show(if(s:Int).natAbs<2^60 then W8 (Xc _)else W9)=_;refine ab (if_pos (QX X2 (by decide:9<2^60))) ?_;rfl
 refine(ax (aB e1)).trans ?_;have e2:(wl (dT (dE (dV 2) (dK (aT "jr")))) (dI 1) (dB aZ (dV 10) (dV 12))) (Xi Xl Xm (W8 (fL i)) x3 (W8 (nV k)) (W8 (nL ss)) (W8 (nV n)) x7 x8 x9 (W8 (nL ls)) x11 (W8 (nV p)) x13 x14 x15 x16 (W8 (nL hs)) (W8 (.bool d)) (W8 (nV (s*k/n))) x20 x21 x22 x23 x24)=W8 (nV (if i=5 then 1 else l)):=by
  have t:dT (dE (dV 2) (dK (aT "jr"))) (Xi Xl Xm (W8 (fL i)) x3 (W8 (nV k)) (W8 (nL ss)) (W8 (nV n)) x7 x8 x9 (W8 (nL ls)) x11 (W8 (nV p)) x13 x14 x15 x16 (W8 (nL hs)) (W8 (.bool d)) (W8 (nV (s*k/n))) x20 x21 x22 x23 x24)=W8 (i==5):=by show((Ox Xb (fC (fL i) (aT "jr"))).bind cZ)=_;exact cq (l:=Oo 6) (f:=λi=>(Ox Xb (fC (fL i) (aT "jr"))).bind cZ) (g:=λi=>W8 (i==5)) (by kernel_rfl) (OF.mpr hi)
  refine(E1 t).trans ?_;by_cases h:i=5
  ·rw[if_pos (by refine ab h ?_;rfl),if_pos h];rfl
  ·refine ab (if_neg (by simpa using h)) (ab (if_neg h) ?_);exact(b2 rfl rfl).trans h10
 have e3:dT (zx (dB aZ (dV 17) (dV 12)) (dB sf (dV 19) (wl (dT (dE (dV 2) (dK (aT "jr")))) (dI 1) (dB aZ (dV 10) (dV 12))))) (Xi Xl Xm (W8 (fL i)) x3 (W8 (nV k)) (W8 (nL ss)) (W8 (nV n)) x7 x8 x9 (W8 (nL ls)) x11 (W8 (nV p)) x13 x14 x15 x16 (W8 (nL hs)) (W8 (.bool d)) (W8 (nV (s*k/n))) x20 x21 x22 x23 x24)=W8 (decide (h<min (s*k/n) (if i=5 then 1 else l))):=by
  have m:(dB sf (dV 19) (wl (dT (dE (dV 2) (dK (aT "jr")))) (dI 1) (dB aZ (dV 10) (dV 12)))) (Xi Xl Xm (W8 (fL i)) x3 (W8 (nV k)) (W8 (nL ss)) (W8 (nV n)) x7 x8 x9 (W8 (nL ls)) x11 (W8 (nV p)) x13 x14 x15 x16 (W8 (nL hs)) (W8 (.bool d)) (W8 (nV (s*k/n))) x20 x21 x22 x23 x24)=W8 (nV (min (s*k/n) (if i=5 then 1 else l))):=by
   refine(b2 rfl e2).trans ?_;generalize s*k/n=a;generalize (if i=5 then 1 else l)=b;refine congrArg (λz=>W8 (Xc z)) (show(if(b:Int)<(a:Int)then(b:Int)else(a:Int))=((min a b:Nat):Int)from ?_);split
   ·exact congrArg SH (Tf (Qp (PS.mp (by assumption)))).symm
   ·exact congrArg SH (Tx (Rh.mp (aa3.mp (by assumption)))).symm
  have r:(zx (dB aZ (dV 17) (dV 12)) (dB sf (dV 19) (wl (dT (dE (dV 2) (dK (aT "jr")))) (dI 1) (dB aZ (dV 10) (dV 12))))) (Xi Xl Xm (W8 (fL i)) x3 (W8 (nV k)) (W8 (nL ss)) (W8 (nV n)) x7 x8 x9 (W8 (nL ls)) x11 (W8 (nV p)) x13 x14 x15 x16 (W8 (nL hs)) (W8 (.bool d)) (W8 (nV (s*k/n))) x20 x21 x22 x23 x24)=W8 (.bool (decide ((h:Int)<((min (s*k/n) (if i=5 then 1 else l):Nat):Int)))):=by show dB (bf λa b=>decide (a<b)) _ _ _=_;exact b2 ((b2 rfl rfl).trans h17) m
  exact(zr r).trans (congrArg W8 (decide_eq_decide.mpr PS))
 generalize decide (h<min (s*k/n) (if i=5 then 1 else l))=t at e3;refine(ax (a:=Bu _ _) (σ':=Xi Xl Xm (W8 (fL i)) x3 (W8 (nV k)) (W8 (nL ss)) (W8 (nV n)) x7 x8 x9 (W8 (nL ls)) x11 (W8 (nV p)) x13 x14 x15 x16 (W8 (nL hs)) (W8 (.bool (d&& !t))) (W8 (nV (s*k/n))) x20 x21 x22 x23 x24) ?_).trans rfl;refine(aG e3).trans ?_;cases t
 ·cases d<;>rfl
 ·cases d<;>rfl
end
end
section
def wi (i:Nat)(ss ls hs:List Nat)(k n:Nat):Bool:=((ss.zip ls).zip hs).all λx=> !decide (x.2<min (x.1.1*k/n) (if i=5 then 1 else x.1.2))
def aaa (s:List Nat)(k:Nat)(ch:List Nat):List V:=(s.zip ch).map λx=> .bool (Rv (x.1*k/aW s) x.2&&Rv x.2 ((x.1*k+(aW s - 1))/aW s))
def Bs (l:List Nat):Nat:=l.foldl Nat.max 0
def iP (s:List Nat)(bl:List (List Nat)):List (List Nat):=(Oo 3).flatMap λp=>((s.zip bl).filter λx=>decide (p<x.1)).map (·.2)
def qk:List (List Nat):= [1,2,3].flatMap λa=> [1,2,3].map λb=> [a,b]
def qj:List (List Nat):= [1,2].flatMap λa=> [1,2].flatMap λb=> [1,2].map λc=> [a,b,c]
def Co:List (Nat×List Nat×Nat):=(Oo 8).flatMap λm=>qk.flatMap λs=>KS.map λk=>(m,s,k)
def Cn:List (Nat×List Nat×Nat):=(Oo 8).flatMap λm=>qj.flatMap λs=>KS.map λk=>(m,s,k)
def P2:List (List Nat×List Nat):=qk.flatMap λs=>pZ.map λl=>(s,l)
def P3:List (List Nat×List Nat):=qj.flatMap λs=>pY.map λl=>(s,l)
def tX (q:Nat)(s:List Nat)(k:Nat):Option V:=match Jv (Xi W9 W9 W9 (W8 (nV q)) (W8 (nV k)) (W8 (nL s)) W9 W9 W9 W9 W9 W9 W9 W9 W9 W9 W9 W9 W9 W9 W9 W9 W9 W9 W9)with
 |some (_,σ)=>aK σ 24
 |none=>W9
section
variable{Xl Xm:Option V}{Xn Xo:Int}
theorem Hh {i n Xx Xy Xz s1 XA:Nat}(hi:i<6)(hk:k<4)(hn:0<n/\ n<7)(g0:Xx<9)(g1:s1<9):Hi (Xi Xl Xm (W8 (fL i)) (W8 (nV 2)) (W8 (nV k)) (W8 (nL [Xx,s1])) (W8 (nV n)) x7 x8 x9 (W8 (nL [Xy,XA])) x11 x12 x13 x14 x15 x16 (W8 (nL [Xz,h1])) (W8 (.bool true)) x19 x20 x21 x22 x23 x24)=W8 (.next,Xi Xl Xm (W8 (fL i)) (W8 (nV 2)) (W8 (nV k)) (W8 (nL [Xx,s1])) (W8 (nV n)) x7 x8 x9 (W8 (nL [Xy,XA])) x11 (W8 (nV 1)) x13 x14 x15 x16 (W8 (nL [Xz,h1])) (W8 (.bool (wi i [Xx,s1] [Xy,XA] [Xz,h1] k n))) (W8 (nV (s1*k/n))) x20 x21 x22 x23 x24):=by show aQ (cH 12) jl [nV 0,nV 1] _=_;rw[i6 (b:=jl) rfl (mz (i:=i) (k:=k) (n:=n) (p:=0) (s:=Xx) (h:=Xz) (l:=Xy) (ss:= [Xx,s1]) (ls:= [Xy,XA]) (hs:= [Xz,h1]) hi hk hn g0 rfl rfl rfl)];rw[i6 (b:=jl) rfl (mz (i:=i) (k:=k) (n:=n) (p:=1) (s:=s1) (h:=h1) (l:=XA) (ss:= [Xx,s1]) (ls:= [Xy,XA]) (hs:= [Xz,h1]) hi hk hn g1 rfl rfl rfl)];refine congrArg (λb=>W8 (Fl.next,Xi Xl Xm _ _ _ _ _ x7 x8 x9 _ x11 _ x13 x14 x15 x16 _ (W8 (.bool b)) _ x20 x21 x22 x23 x24)) ?_;unfold wi;simp only[T1,Wo,RM,Uq,T4,Bool.and_true,Bool.and_assoc]
theorem Hg {i n Xx Xy Xz s1 XA s2 l2 h2:Nat}(hi:i<6)(hk:k<4)(hn:0<n/\ n<7)(g0:Xx<9)(g1:s1<9)(g2:s2<9):Hi (Xi Xl Xm (W8 (fL i)) (W8 (nV 3)) (W8 (nV k)) (W8 (nL [Xx,s1,s2])) (W8 (nV n)) x7 x8 x9 (W8 (nL [Xy,XA,l2])) x11 x12 x13 x14 x15 x16 (W8 (nL [Xz,h1,h2])) (W8 (.bool true)) x19 x20 x21 x22 x23 x24)=W8 (.next,Xi Xl Xm (W8 (fL i)) (W8 (nV 3)) (W8 (nV k)) (W8 (nL [Xx,s1,s2])) (W8 (nV n)) x7 x8 x9 (W8 (nL [Xy,XA,l2])) x11 (W8 (nV 2)) x13 x14 x15 x16 (W8 (nL [Xz,h1,h2])) (W8 (.bool (wi i [Xx,s1,s2] [Xy,XA,l2] [Xz,h1,h2] k n))) (W8 (nV (s2*k/n))) x20 x21 x22 x23 x24):=by show aQ (cH 12) jl [nV 0,nV 1,nV 2] _=_;rw[i6 (b:=jl) rfl (mz (i:=i) (k:=k) (n:=n) (p:=0) (s:=Xx) (h:=Xz) (l:=Xy) (ss:= [Xx,s1,s2]) (ls:= [Xy,XA,l2]) (hs:= [Xz,h1,h2]) hi hk hn g0 rfl rfl rfl)];rw[i6 (b:=jl) rfl (mz (i:=i) (k:=k) (n:=n) (p:=1) (s:=s1) (h:=h1) (l:=XA) (ss:= [Xx,s1,s2]) (ls:= [Xy,XA,l2]) (hs:= [Xz,h1,h2]) hi hk hn g1 rfl rfl rfl)];rw[i6 (b:=jl) rfl (mz (i:=i) (k:=k) (n:=n) (p:=2) (s:=s2) (h:=h2) (l:=l2) (ss:= [Xx,s1,s2]) (ls:= [Xy,XA,l2]) (hs:= [Xz,h1,h2]) hi hk hn g2 rfl rfl rfl)];refine congrArg (λb=>W8 (Fl.next,Xi Xl Xm _ _ _ _ _ x7 x8 x9 _ x11 _ x13 x14 x15 x16 _ (W8 (.bool b)) _ x20 x21 x22 x23 x24)) ?_;unfold wi;simp only[T1,Wo,RM,Uq,T4,Bool.and_true,Bool.and_assoc]
theorem KH:(Co.map λc=>Hf (Xi Xl Xm x2 (W8 (nV 2)) (W8 (nV c.2.2)) (W8 (nL c.2.1)) (W8 (nV (aW c.2.1))) x7 (W8 (nL (eg c.1 c.2.1 c.2.2))) x9 x10 x11 x12 x13 x14 x15 x16 x17 x18 x19 x20 x21 x22 x23 x24))=Co.map λc=>W8 (.next,Xi Xl Xm x2 (W8 (nV 2)) (W8 (nV c.2.2)) (W8 (nL c.2.1)) (W8 (nV (aW c.2.1))) x7 (W8 (nL (eg c.1 c.2.1 c.2.2))) x9 x10 x11 x12 x13 x14 x15 x16 x17 x18 x19 (W8 (.list (aaa c.2.1 c.2.2 (eg c.1 c.2.1 c.2.2)))) x21 x22 x23 x24):=by kernel_rfl
theorem KG:(Cn.map λc=>Hf (Xi Xl Xm x2 (W8 (nV 3)) (W8 (nV c.2.2)) (W8 (nL c.2.1)) (W8 (nV (aW c.2.1))) x7 (W8 (nL (eg c.1 c.2.1 c.2.2))) x9 x10 x11 x12 x13 x14 x15 x16 x17 x18 x19 x20 x21 x22 x23 x24))=Cn.map λc=>W8 (.next,Xi Xl Xm x2 (W8 (nV 3)) (W8 (nV c.2.2)) (W8 (nL c.2.1)) (W8 (nV (aW c.2.1))) x7 (W8 (nL (eg c.1 c.2.1 c.2.2))) x9 x10 x11 x12 x13 x14 x15 x16 x17 x18 x19 (W8 (.list (aaa c.2.1 c.2.2 (eg c.1 c.2.1 c.2.2)))) x21 x22 x23 x24):=by kernel_rfl
theorem KE:(P2.map λc=>Hd (Xi Xl Xm x2 (W8 (nV 2)) x4 (W8 (nL c.1)) x6 x7 x8 x9 x10 (W8 (.list ((bD c.2 0).map nL))) x12 x13 x14 x15 x16 x17 x18 x19 x20 (W8 (.list [])) x22 x23 x24))=P2.map λc=>W8 (.next,Xi Xl Xm x2 (W8 (nV 2)) x4 (W8 (nL c.1)) x6 x7 x8 x9 x10 (W8 (.list ((bD c.2 0).map nL))) (W8 (nV 1)) x13 x14 x15 x16 x17 x18 x19 x20 (W8 (.list ((iP c.1 (bD c.2 0)).map nL))) (W8 (nV (Bs c.1 - 1))) x23 x24):=by kernel_rfl
theorem KD:(P3.map λc=>Hd (Xi Xl Xm x2 (W8 (nV 3)) x4 (W8 (nL c.1)) x6 x7 x8 x9 x10 (W8 (.list ((bD c.2 0).map nL))) x12 x13 x14 x15 x16 x17 x18 x19 x20 (W8 (.list [])) x22 x23 x24))=P3.map λc=>W8 (.next,Xi Xl Xm x2 (W8 (nV 3)) x4 (W8 (nL c.1)) x6 x7 x8 x9 x10 (W8 (.list ((bD c.2 0).map nL))) (W8 (nV 2)) x13 x14 x15 x16 x17 x18 x19 x20 (W8 (.list ((iP c.1 (bD c.2 0)).map nL))) (W8 (nV (Bs c.1 - 1))) x23 x24):=by kernel_rfl
def FA:SD:=aa LH (aa LG (aa LD (aa Jv LC)))
theorem Ob:(Co.map λc=>FA (Xi Xl Xm x2 (W8 (nV 2)) (W8 (nV c.2.2)) (W8 (nL c.2.1)) x6 (W8 (iC c.1)) (W8 (nL (eg c.1 c.2.1 c.2.2))) x9 x10 x11 x12 x13 x14 x15 x16 x17 x18 x19 (W8 (.list (aaa c.2.1 c.2.2 (eg c.1 c.2.1 c.2.2)))) x21 x22 x23 x24))=Co.map λc=>W8 (.next,Xi Xl Xm x2 (W8 (nV 2)) (W8 (nV c.2.2)) (W8 (nL c.2.1)) x6 (W8 (iC c.1)) (W8 (nL (eg c.1 c.2.1 c.2.2))) x9 x10 x11 x12 x13 x14 x15 x16 x17 x18 x19 (W8 (.list (aaa c.2.1 c.2.2 (eg c.1 c.2.1 c.2.2)))) x21 x22 x23 (tX 2 c.2.1 c.2.2)):=by kernel_rfl
theorem Oa:(Cn.map λc=>FA (Xi Xl Xm x2 (W8 (nV 3)) (W8 (nV c.2.2)) (W8 (nL c.2.1)) x6 (W8 (iC c.1)) (W8 (nL (eg c.1 c.2.1 c.2.2))) x9 x10 x11 x12 x13 x14 x15 x16 x17 x18 x19 (W8 (.list (aaa c.2.1 c.2.2 (eg c.1 c.2.1 c.2.2)))) x21 x22 x23 x24))=Cn.map λc=>W8 (.next,Xi Xl Xm x2 (W8 (nV 3)) (W8 (nV c.2.2)) (W8 (nL c.2.1)) x6 (W8 (iC c.1)) (W8 (nL (eg c.1 c.2.1 c.2.2))) x9 x10 x11 x12 x13 x14 x15 x16 x17 x18 x19 (W8 (.list (aaa c.2.1 c.2.2 (eg c.1 c.2.1 c.2.2)))) x21 x22 x23 (tX 3 c.2.1 c.2.2)):=by kernel_rfl
end
end
theorem Dw:(qk.all λs=>qk.all λl=>KS.all λk=>Cs s l k)=true:=by decide+kernel
theorem Dv:(qj.all λs=>qj.all λl=>KS.all λk=>Cs s l k)=true:=by decide+kernel
def C5 (s ch:List Nat):Bool:=
 let l:=ch.map (· +1);let k:=aW ch;let N:=aW l;let n:=aW s;let bl:=k5 l 0;let as:=va s bl;let m:=am (pt ch)
 (Oo 6).all λi=>(i==3&&decide (4<n)&&decide (2<k)) ||aad i as m n k N==mA i s l bl m n k
theorem ET:(qk.all λs=>Ak.all λc=>C5 s c)=true:=by decide+kernel
theorem ES:(qj.all λs=>Aj.all λc=>C5 s c)=true:=by decide+kernel
def B5 (c:Nat×List Nat×Nat):Bool:=
 let ch:=eg c.1 c.2.1 c.2.2
 aW ch==c.2.2&&(Rv 3 c.1 || (Oo 6).all λi=>mA i c.2.1 (ch.map (· +1)) (k5 (ch.map (· +1)) 0) (am (pt ch)) (aW c.2.1) c.2.2)
theorem B7:(Co.all λc=>Ak.contains (eg c.1 c.2.1 c.2.2)&&B5 c)=true:=by decide+kernel
theorem B6:(Cn.all λc=>Aj.contains (eg c.1 c.2.1 c.2.2)&&B5 c)=true:=by decide+kernel
def Ej (c:List Nat):Bool:=decide ((pt c).length=aW c)&&(pt c).all (λj=>decide (j<aW (c.map (· +1))))&&decide (pt c).Nodup
theorem yq:((Ak++Aj).all Ej)=true:=by decide+kernel
def GI (p:List Nat×List Nat):Bool:=
 let as:=va p.1 (k5 p.2 0)
 (iP p.1 (bD p.2 0)).map am==as&&decide (as.length=aW p.1)&&as.all (λa=>decide (a<64))&&decide (Fu as 0=2^aW p.2 - 1)&&decide (0<aW p.1/\ aW p.1<7)&&decide (2<=aW p.2/\ aW p.2<7)
theorem DU:((P2++P3).all GI)=true:=by decide+kernel
def HR (b:List Nat):Bool:=(Oo 64).all λm=>(b.filter (f9 m)).length==pc (UP (am b) m)
def H4 (l:List Nat):Bool:=(bD l 0).all (λb=>HR b&&b.all (λj=>decide (j<6)))&&(bD l 0).map am==k5 l 0
theorem Fe:((pZ++pY).all H4)=true:=by decide+kernel
def LB:List (List Nat×Nat):=(pZ++pY).flatMap λl=>(bD l 0).map λb=>(b,aW l)
theorem E0:(LB.map λp=>dy [nL p.1,nV p.2])=LB.map λp=>W8 (dm (am p.1)):=by kernel_rfl
theorem Dq:((pZ++pY).map λl=>dn (nL l))=(pZ++pY).map λl=>W8 (nV (aW l)):=by kernel_rfl
section
theorem uG {n:Nat}:∀(vs:List (List Nat)) (x:List V),x.length+vs.length<=6->(∀b∈vs,dy [nL b,nV n]=W8 (dm (am b)))->mr n (vs.map nL) x=W8 (x++vs.map λb=>dm (am b))
 | [],x,_,_=>by show W8 x=_;rw[List.map_nil,QQ]
 |b::vs,x,hl,h=>by show(dy [nL b,nV n]).bind _=_;refine ab (h b (.head _)) ?_;simp only[Qf]at hl;show(if x.length<lim then mr n (vs.map nL) (x++ [dm (am b)])else W9)=_;rw[if_pos (OW (Op (Rt _ _) hl) (by decide)),uG vs _ (by refine ab Pd (ab P1 ?_);exact Op (O2 (aaF _ _)) hl) λc hc=>h c (.tail _ hc),QR];rfl
structure Dk (s l:List Nat):Prop where
 as:(iP s (bD l 0)).map am=va s (k5 l 0)
 len:(va s (k5 l 0)).length=aW s
 a64:∀a∈va s (k5 l 0),a<64
 un:Fu (va s (k5 l 0)) 0=2^aW l - 1
 n6:0<aW s/\ aW s<7
 N6:2<=aW l/\ aW l<7
theorem Ip {p:List Nat×List Nat}(h:p∈P2++P3):Dk p.1 p.2:=by injections p _ h;have:=Ou.mp DU p h;unfold GI at this;simp only[Qg,beq_iff_eq,decide_eq_true_eq,Ou]at this;obtain⟨⟨⟨⟨⟨h1,h2⟩,h3⟩,h4⟩,h5⟩,h6⟩:=this;exact⟨h1,h2,h3,h4,h5,h6⟩
theorem Dk.pf {s:List Nat}(P:Dk s l)(hk:0<k/\ k<4)(hm:m<2^aW l):Pf (va s (k5 l 0)) m (aW s) k (aW l):=
 ⟨P.len,P.n6,hk,P.N6.2,P.a64,OL hm (PO (n:=2) (by decide) (aaJ P.N6.2)),P.un⟩
theorem KA {P:Nat->Prop}(Xz:P 0)(h1:P 1)(h2:P 2)(h3:P 3)(h4:P 4)(h5:P 5)(i:Nat)(hi:i<6):P i:=
 ((by decide:∀i<6,i=0 \/i=1 \/i=2 \/i=3 \/i=4 \/i=5) i hi).elim (λe=>e▸Xz) λe=>e.elim (λe=>e▸h1) λe=>e.elim (λe=>e▸h2) λe=>e.elim (λe=>e▸h3) λe=>e.elim (λe=>e▸h4) λe=>e▸h5
theorem B4 {n:Nat}{nm:List V}(F:Pf as m n k N)(hk:pc m=k)(hm:m<2^N):∀i<6,wL [fL i,prf as N nm,.set (az m),aT "brute-force"]=W8 (.bool (aad i as m n k N)):=by obtain⟨q,hq,Q⟩:=qf F.n6 F.k3;exact KA (HO (wB (D:=FQ) F hk hm hq (DS F Q))) (HQ (wB (D:=FR) F hk hm hq (EW F Q))) (HM (wA (e:=aM FP (ah (dV 0) (ah (dV 1) (ah (dV 2) au))) au) F hk hm hq (BN F Q))) (HL (wB (D:=FO) F hk hm hq (EO F Q))) (aav (wB (D:=FN) F hk hm hq (BX F Q))) (HN (wA (e:=aM FS (ah (dV 0) (ah (dV 1) au)) (ah (dV 2) au)) F hk hm hq (Hk Q F.m64 F.a64 F.l6)))
structure Mm (l:List Nat):Prop where
 cnt:∀b∈bD l 0,∀m<64,(b.filter (f9 m)).length=pc (am b&&&m)
 lt:∀b∈bD l 0,∀j∈b,j<6
 bl:(bD l 0).map am=k5 l 0
theorem Ml (h:l∈pZ++pY):Mm l:=by injections l _ h;have:=Ou.mp Fe l h;unfold H4 HR at this;simp only[Qg,beq_iff_eq,decide_eq_true_eq,Ou,OF]at this;exact⟨λb hb m hm=>(this.1 b hb).1 m hm,λb hb=>(this.1 b hb).2,this.2⟩
theorem oa (B:Mm l)(h6:∀j∈ms,j<6):(bD l 0).map (jo ms)=(k5 l 0).map λb=>pc (b&&&am ms):=by refine bV B.bl (ab Sg ?_);refine QY λb hb=> ?_;show(b.filter λj=>ms.contains j).length=pc (am b&&&am ms);refine bV (B.cnt b hb _ (gj (r:=6) h6)) ?_;congr 1;exact List.filter_congr λj hj=>(yQ (B.lt b hb j hj) h6).symm
theorem zn (i m n k:Nat)(s l bl:List Nat):wi i s l (bl.map λb=>pc (b&&&m)) k n=mA i s l bl m n k:=by unfold wi mA;refine ab List.zip_map_right (ab List.all_map ?_);rfl
theorem wO (h:l∈pZ++pY):∀b∈bD l 0,dy [nL b,nV (aW l)]=W8 (dm (am b)):=λb hb=>cq E0 (a:=(b,aW l)) (OV.mpr ⟨l,h,OM.mpr ⟨b,hb,rfl⟩⟩)
section
variable{Xl Xm:Option V}{Xn Xo:Int}
theorem yE {s:List Nat}(hl:l∈pZ++pY)(P:Dk s l)(hv:∀b∈iP s (bD l 0),b∈bD l 0):LK (Xi Xl Xm x2 x3 x4 x5 x6 x7 x8 x9 (W8 (nL l)) x11 x12 x13 x14 x15 x16 x17 x18 x19 x20 (W8 (.list ((iP s (bD l 0)).map nL))) x22 x23 x24)=W8 (.next,Xi Xl Xm x2 x3 x4 x5 x6 x7 x8 x9 (W8 (nL l)) x11 x12 x13 x14 x15 x16 x17 x18 x19 x20 (W8 (.list ((iP s (bD l 0)).map nL))) x22 (W8 (prf (va s (k5 l 0)) (aW l) (OS (aW l) .any))) x24):=by
 injections l x8 x9 x6 x7 x5 x11 x12 x4 x14 x16 x2 x3 x13 x15 x17 x18 x19 x20 x22 x23 x24 Xl Xm s _ hl P hv;have e0:(dU dn (dV 10)) (Xi Xl Xm x2 x3 x4 x5 x6 x7 x8 x9 (W8 (nL l)) x11 x12 x13 x14 x15 x16 x17 x18 x19 x20 (W8 (.list ((iP s (bD l 0)).map nL))) x22 x23 x24)=W8 (nV (aW l)):=(Xw rfl).trans (cq Dq hl);have e2:mr (aW l) ((iP s (bD l 0)).map nL) []=W8 ((va s (k5 l 0)).map dm):=by refine ab (uG _ [] (by have:=P.len;rw[<-P.as,OA]at this;exact Op (O2 ((O1 _).trans this)) (aaJ P.n6.2)) λb hb=>wO hl b (hv b hb)) (bV P.as (ab Sg ?_));rfl
 have key:FK (dU dn (dV 10)) 23 21 (Xi Xl Xm x2 x3 x4 x5 x6 x7 x8 x9 (W8 (nL l)) x11 x12 x13 x14 x15 x16 x17 x18 x19 x20 (W8 (.list ((iP s (bD l 0)).map nL))) x22 x23 x24)=W8 (cy 0 (aW l),OS (aW l) .any,(va s (k5 l 0)).map dm,Xi Xl Xm x2 x3 x4 x5 x6 x7 x8 x9 (W8 (nL l)) x11 x12 x13 x14 x15 x16 x17 x18 x19 x20 (W8 (.list ((iP s (bD l 0)).map nL))) x22 x23 x24):=by
  unfold FK;refine ab e0 ?_;have hm:((aW l:Nat):Int)∈([1,2,3,4,5,6]:List Int):=by have h:=P.N6;generalize aW l=N at*;exact(by decide:∀N,N<7->2<=N->((N:Nat):Int)∈([1,2,3,4,5,6]:List Int)) N h.2 h.1
  refine(if_pos (show((aW l:Nat):Int)∈([1,2,3,4,5,6]:List Int)/\ 23<33 from⟨hm,by decide⟩)).trans ?_;exact congrArg (Ox _) e2
 show(FK _ _ _ _).bind _=_;refine ab key ?_;rfl
theorem yD {n i:Nat}{nm:List V}(F:Pf as (am ms) n k N)(hk:pc (am ms)=k)(hm:am ms<2^N)(hi:i<6)(h6:∀j∈ms,j<6):LJ (Xi Xl Xm (W8 (fL i)) x3 x4 x5 x6 x7 x8 x9 x10 x11 x12 (W8 (nL ms)) x14 x15 x16 x17 (W8 (.bool (aad i as (am ms) n k N))) x19 x20 x21 x22 (W8 (prf as N nm)) x24)=W8 (.next,Xi Xl Xm (W8 (fL i)) x3 x4 x5 x6 x7 x8 x9 x10 x11 x12 (W8 (nL ms)) x14 x15 x16 x17 (W8 (.bool (aad i as (am ms) n k N))) x19 x20 x21 x22 (W8 (prf as N nm)) x24):=by
 have e1:aan (cO (dV 13)) (Xi Xl Xm (W8 (fL i)) x3 x4 x5 x6 x7 x8 x9 x10 x11 x12 (W8 (nL ms)) x14 x15 x16 x17 (W8 (.bool (aad i as (am ms) n k N))) x19 x20 x21 x22 (W8 (prf as N nm)) x24)=W8 (.set (az (am ms))):=by show(cI (ms.map nV)).map _=_;refine ab (show cI (ms.map nV)=W8 ms from fF ms h6) ?_;rfl
 have e2:(aM wL (ah (dV 2) (ah (dV 23) (ah (aan (cO (dV 13))) au))) (ah (dK (aT "brute-force")) au)) (Xi Xl Xm (W8 (fL i)) x3 x4 x5 x6 x7 x8 x9 x10 x11 x12 (W8 (nL ms)) x14 x15 x16 x17 (W8 (.bool (aad i as (am ms) n k N))) x19 x20 x21 x22 (W8 (prf as N nm)) x24)=W8 (.bool (aad i as (am ms) n k N)):=by refine Qj ?_ (B4 (nm:=nm) F hk hm i hi);show((((aan (cO (dV 13)) _).bind λx=>W8 [x]).map λxs=>prf as N nm::xs).map λxs=>fL i::xs).bind (λxs=>wL (xs++ [aT "brute-force"]))=_;refine ab e1 ?_;rfl
 refine(aG (c:=false) ?_).trans rfl;refine(zr (v:= .bool false) ?_).trans rfl;refine(b2 e2 rfl).trans ?_;show W8 (Xb (!(aad i as (am ms) n k N==aad i as (am ms) n k N)))=_;rw[beq_self_eq_true];rfl
end
end
section
theorem g4 (a b c:SD):aa (aa a b) c=aa a (aa b c):=by
 funext σ;unfold aa;cases a σ with
 |none=>rfl
 |some r=>obtain⟨f,σ'⟩:=r;cases f<;>rfl
theorem fg {a b:SD}{τ:ai}{x:Fl}(h:a σ=W8 (.next,τ))(hr:∃σ',b τ=W8 (x,σ')):∃σ',aa a b σ=W8 (x,σ'):=hr.imp λ_ h'=>(ax h).trans h'
theorem CU:lT=aa FA (aa FC af):=by unfold lT FA;rw[g4,g4,g4,g4]
theorem zN:∀l∈pZ++pY,(bD l 0).length<=9/\ ∀b∈bD l 0,b.length<=9:=by decide+kernel
theorem MA (s:List Nat)(h:s∈qk):∃a b,s= [a,b]/\ a<9/\ b<9:=⟨_,_,(by decide:∀s∈qk,s= [s.getD 0 0,s.getD 1 0]/\ s.getD 0 0<9/\ s.getD 1 0<9) s h⟩
theorem Mz (s:List Nat)(h:s∈qj):∃a b c,s= [a,b,c]/\ a<9/\ b<9/\ c<9:=⟨_,_,_,(by decide:∀s∈qj,s= [s.getD 0 0,s.getD 1 0,s.getD 2 0]/\ s.getD 0 0<9/\ s.getD 1 0<9/\ s.getD 2 0<9) s h⟩
theorem Nv (s:List Nat)(h:s∈pZ):∃a b,s= [a,b]:=⟨_,_,(by decide:∀s∈pZ,s= [s.getD 0 0,s.getD 1 0]) s h⟩
theorem Nu (s:List Nat)(h:s∈pY):∃a b c,s= [a,b,c]:=⟨_,_,_,(by decide:∀s∈pY,s= [s.getD 0 0,s.getD 1 0,s.getD 2 0]) s h⟩
theorem tN (s l:List Nat):∀b∈iP s (bD l 0),b∈bD l 0:=λb hb=>by obtain⟨p,_,hb⟩:=OV.mp hb;obtain⟨x,hx,rfl⟩:=OM.mp hb;exact(List.of_mem_zip (SA.mp hx).1).2
section
variable{Xl Xm:Option V}{Xn Xo:Int}
theorem Jh {s:List Nat}(h:(mt,s,k)∈Co):Hf (Xi Xl Xm x2 (W8 (nV 2)) (W8 (nV k)) (W8 (nL s)) (W8 (nV (aW s))) x7 (W8 (nL (eg mt s k))) x9 x10 x11 x12 x13 x14 x15 x16 x17 x18 x19 x20 x21 x22 x23 x24)=W8 (.next,Xi Xl Xm x2 (W8 (nV 2)) (W8 (nV k)) (W8 (nL s)) (W8 (nV (aW s))) x7 (W8 (nL (eg mt s k))) x9 x10 x11 x12 x13 x14 x15 x16 x17 x18 x19 (W8 (.list (aaa s k (eg mt s k)))) x21 x22 x23 x24):=by
 have:=cq (KH (Xl:=Xl) (Xm:=Xm) (x2:=x2) (x7:=x7) (x9:=x9) (x10:=x10) (x11:=x11) (x12:=x12) (x13:=x13) (x14:=x14) (x15:=x15) (x16:=x16) (x17:=x17) (x18:=x18) (x19:=x19) (x20:=x20) (x21:=x21) (x22:=x22) (x23:=x23) (x24:=x24)) h
 try dsimp only at this
 exact this
theorem Jf {s:List Nat}(h:(s,l)∈P2):Hd (Xi Xl Xm x2 (W8 (nV 2)) x4 (W8 (nL s)) x6 x7 x8 x9 x10 (W8 (.list ((bD l 0).map nL))) x12 x13 x14 x15 x16 x17 x18 x19 x20 (W8 (.list [])) x22 x23 x24)=W8 (.next,Xi Xl Xm x2 (W8 (nV 2)) x4 (W8 (nL s)) x6 x7 x8 x9 x10 (W8 (.list ((bD l 0).map nL))) (W8 (nV 1)) x13 x14 x15 x16 x17 x18 x19 x20 (W8 (.list ((iP s (bD l 0)).map nL))) (W8 (nV (Bs s - 1))) x23 x24):=by
 have:=cq (KE (Xl:=Xl) (Xm:=Xm) (x2:=x2) (x4:=x4) (x6:=x6) (x7:=x7) (x8:=x8) (x9:=x9) (x10:=x10) (x12:=x12) (x13:=x13) (x14:=x14) (x15:=x15) (x16:=x16) (x17:=x17) (x18:=x18) (x19:=x19) (x20:=x20) (x22:=x22) (x23:=x23) (x24:=x24)) h
 try dsimp only at this
 exact this
theorem MV {s:List Nat}(h:(mt,s,k)∈Co):FA (Xi Xl Xm x2 (W8 (nV 2)) (W8 (nV k)) (W8 (nL s)) x6 (W8 (iC mt)) (W8 (nL (eg mt s k))) x9 x10 x11 x12 x13 x14 x15 x16 x17 x18 x19 (W8 (.list (aaa s k (eg mt s k)))) x21 x22 x23 x24)=W8 (.next,Xi Xl Xm x2 (W8 (nV 2)) (W8 (nV k)) (W8 (nL s)) x6 (W8 (iC mt)) (W8 (nL (eg mt s k))) x9 x10 x11 x12 x13 x14 x15 x16 x17 x18 x19 (W8 (.list (aaa s k (eg mt s k)))) x21 x22 x23 (tX 2 s k)):=by
 have:=cq (Ob (Xl:=Xl) (Xm:=Xm) (x2:=x2) (x6:=x6) (x9:=x9) (x10:=x10) (x11:=x11) (x12:=x12) (x13:=x13) (x14:=x14) (x15:=x15) (x16:=x16) (x17:=x17) (x18:=x18) (x19:=x19) (x21:=x21) (x22:=x22) (x23:=x23) (x24:=x24)) h
 try dsimp only at this
 exact this
theorem Jg {s:List Nat}(h:(mt,s,k)∈Cn):Hf (Xi Xl Xm x2 (W8 (nV 3)) (W8 (nV k)) (W8 (nL s)) (W8 (nV (aW s))) x7 (W8 (nL (eg mt s k))) x9 x10 x11 x12 x13 x14 x15 x16 x17 x18 x19 x20 x21 x22 x23 x24)=W8 (.next,Xi Xl Xm x2 (W8 (nV 3)) (W8 (nV k)) (W8 (nL s)) (W8 (nV (aW s))) x7 (W8 (nL (eg mt s k))) x9 x10 x11 x12 x13 x14 x15 x16 x17 x18 x19 (W8 (.list (aaa s k (eg mt s k)))) x21 x22 x23 x24):=by
 have:=cq (KG (Xl:=Xl) (Xm:=Xm) (x2:=x2) (x7:=x7) (x9:=x9) (x10:=x10) (x11:=x11) (x12:=x12) (x13:=x13) (x14:=x14) (x15:=x15) (x16:=x16) (x17:=x17) (x18:=x18) (x19:=x19) (x20:=x20) (x21:=x21) (x22:=x22) (x23:=x23) (x24:=x24)) h
 try dsimp only at this
 exact this
theorem Je {s:List Nat}(h:(s,l)∈P3):Hd (Xi Xl Xm x2 (W8 (nV 3)) x4 (W8 (nL s)) x6 x7 x8 x9 x10 (W8 (.list ((bD l 0).map nL))) x12 x13 x14 x15 x16 x17 x18 x19 x20 (W8 (.list [])) x22 x23 x24)=W8 (.next,Xi Xl Xm x2 (W8 (nV 3)) x4 (W8 (nL s)) x6 x7 x8 x9 x10 (W8 (.list ((bD l 0).map nL))) (W8 (nV 2)) x13 x14 x15 x16 x17 x18 x19 x20 (W8 (.list ((iP s (bD l 0)).map nL))) (W8 (nV (Bs s - 1))) x23 x24):=by
 have:=cq (KD (Xl:=Xl) (Xm:=Xm) (x2:=x2) (x4:=x4) (x6:=x6) (x7:=x7) (x8:=x8) (x9:=x9) (x10:=x10) (x12:=x12) (x13:=x13) (x14:=x14) (x15:=x15) (x16:=x16) (x17:=x17) (x18:=x18) (x19:=x19) (x20:=x20) (x22:=x22) (x23:=x23) (x24:=x24)) h
 try dsimp only at this
 exact this
theorem MU {s:List Nat}(h:(mt,s,k)∈Cn):FA (Xi Xl Xm x2 (W8 (nV 3)) (W8 (nV k)) (W8 (nL s)) x6 (W8 (iC mt)) (W8 (nL (eg mt s k))) x9 x10 x11 x12 x13 x14 x15 x16 x17 x18 x19 (W8 (.list (aaa s k (eg mt s k)))) x21 x22 x23 x24)=W8 (.next,Xi Xl Xm x2 (W8 (nV 3)) (W8 (nV k)) (W8 (nL s)) x6 (W8 (iC mt)) (W8 (nL (eg mt s k))) x9 x10 x11 x12 x13 x14 x15 x16 x17 x18 x19 (W8 (.list (aaa s k (eg mt s k)))) x21 x22 x23 (tX 3 s k)):=by
 have:=cq (Oa (Xl:=Xl) (Xm:=Xm) (x2:=x2) (x6:=x6) (x9:=x9) (x10:=x10) (x11:=x11) (x12:=x12) (x13:=x13) (x14:=x14) (x15:=x15) (x16:=x16) (x17:=x17) (x18:=x18) (x19:=x19) (x21:=x21) (x22:=x22) (x23:=x23) (x24:=x24)) h
 try dsimp only at this
 exact this
theorem yC {due:Bool}(Y7:mt<8)(hd:due=true \/fl=false \/3<=mt):∃σ,(aa FC af) (Xi Xl Xm x2 x3 x4 x5 x6 (W8 (iC mt)) x8 (W8 (.bool fl)) x10 x11 x12 x13 x14 x15 x16 x17 (W8 (.bool due)) x19 x20 x21 x22 x23 x24)=W8 (.ret (.bool true),σ):=by
 injections mt fl x8 x6 x10 x5 x11 x12 x4 x14 x16 x2 x3 x13 x15 x17 x19 x20 x21 x22 x23 x24 Xl Xm due _ Y7 hd;have n:(zw fw (dV 7) (dK (.list [aT "dhondt",aT "largest_remainder",aT "quota"]))) (Xi Xl Xm x2 x3 x4 x5 x6 (W8 (iC mt)) x8 (W8 (.bool fl)) x10 x11 x12 x13 x14 x15 x16 x17 (W8 (.bool due)) x19 x20 x21 x22 x23 x24)=W8 (.bool (Rv 3 mt)):=
  cq (l:=Oo 8) (f:=λmt=>(fw (iC mt) (.list [aT "dhondt",aT "largest_remainder",aT "quota"])).map λc=>Xb !c) (g:=λmt=>W8 (.bool (Rv 3 mt))) (by kernel_rfl) (OF.mpr Y7)
 have e:(FL (dV 18) (FL (BR (dV 9)) (zw fw (dV 7) (dK (.list [aT "dhondt",aT "largest_remainder",aT "quota"]))))) (Xi Xl Xm x2 x3 x4 x5 x6 (W8 (iC mt)) x8 (W8 (.bool fl)) x10 x11 x12 x13 x14 x15 x16 x17 (W8 (.bool due)) x19 x20 x21 x22 x23 x24)=W8 (.bool true):=by
  cases due with
  |true=>rfl
  |false=>
   cases fl with
   |false=>rfl
   |true=>refine Qj (b:=(zw fw (dV 7) (dK (.list [aT "dhondt",aT "largest_remainder",aT "quota"]))) _) rfl (n.trans ?_);exact ab (Nat.ble_eq_true_of_le (by rcases hd with h |h |h;cases h;cases h;exact h)) rfl
 exact⟨_,fW e⟩
theorem B2 {i:Nat}{s:List Nat}(hi:i<6)(Y7:mt<8)(hk:k∈KS)(hs:s∈qk)(hl:l∈pZ)(hm1:ms.length=k)(hm2:ms.Nodup)(hm3:∀j∈ms,j<aW l)
 (hc:aad i (va s (k5 l 0)) (am ms) (aW s) k (aW l)=mA i s l (k5 l 0) (am ms) (aW s) k) (hd:mA i s l (k5 l 0) (am ms) (aW s) k=true \/fl=false \/3<=mt):∃σ,lB (Xi Xl Xm (W8 (fL i)) (W8 (nV 2)) (W8 (nV k)) (W8 (nL s)) (W8 (nV (aW s))) (W8 (iC mt)) (W8 (nL (eg mt s k))) (W8 (.bool fl)) (W8 (nL l)) (W8 (.list ((bD l 0).map nL))) x12 (W8 (nL ms)) x14 x15 x16 x17 x18 x19 x20 x21 x22 x23 x24)=W8 (.ret (.bool true),σ):=by
 injections k mt fl l ms x12 x14 x16 x15 x17 x18 x19 x20 x21 x22 x23 x24 Xl Xm i s _ hi Y7 hk hs hl hm1 hm2 hm3 hc hd;have k4:0<k/\ k<4:=(by decide:∀k∈KS,0<k/\ k<4) k hk;have P:Dk s l:=Ip (p:=(s,l)) (QO _ (OV.mpr ⟨s,hs,OM.mpr ⟨l,hl,rfl⟩⟩));have hLL:l∈pZ++pY:=QO _ hl;have h6:∀j∈ms,j<6:=λj hj=>OL (hm3 j hj) (aaJ P.N6.2);have hm:am ms<2^aW l:=gj hm3;have hpc:pc (am ms)=k:=(kN h6 hm2).trans hm1;have hC:(mt,s,k)∈Co:=OV.mpr ⟨mt,OF.mpr Y7,OV.mpr ⟨s,hs,OM.mpr ⟨k,hk,rfl⟩⟩⟩;obtain⟨b1,b2⟩:=zN l hLL;refine fg (aB (uw (bls:=bD l 0) (ms:=ms) rfl rfl rfl rfl (by show 29<33;decide) b1 b2)) ?_;refine fg (aB (t:= .bool true) rfl) ?_;have hdue:∃YA y19,Hi (Xi Xl Xm (W8 (fL i)) (W8 (nV 2)) (W8 (nV k)) (W8 (nL s)) (W8 (nV (aW s))) (W8 (iC mt)) (W8 (nL (eg mt s k))) (W8 (.bool fl)) (W8 (nL l)) (W8 (.list ((bD l 0).map nL))) x12 (W8 (nL ms)) x14 x15 x16 (W8 (nL ((bD l 0).map (jo ms)))) (W8 (.bool true)) x19 x20 x21 x22 x23 x24)=W8 (.next,Xi Xl Xm (W8 (fL i)) (W8 (nV 2)) (W8 (nV k)) (W8 (nL s)) (W8 (nV (aW s))) (W8 (iC mt)) (W8 (nL (eg mt s k))) (W8 (.bool fl)) (W8 (nL l)) (W8 (.list ((bD l 0).map nL))) YA (W8 (nL ms)) x14 x15 x16 (W8 (nL ((bD l 0).map (jo ms)))) (W8 (.bool (mA i s l (k5 l 0) (am ms) (aW s) k))) y19 x20 x21 x22 x23 x24):=by rw[<-zn,<-oa (Ml hLL) h6];obtain⟨Xx,s1,rfl,g0,g1⟩:=MA s hs;obtain⟨Xy,XA,rfl⟩:=Nv l hl;exact⟨_,_,Hh hi k4.2 P.n6 g0 g1⟩
 obtain⟨YA,y19,e17⟩:=hdue;refine fg e17 (fg (Jh hC) (fg (aB (t:= .list []) rfl) (fg (Jf (OV.mpr ⟨s,hs,OM.mpr ⟨l,hl,rfl⟩⟩)) (fg (yE hLL P (tN s l)) ?_))));rw[<-hc]at hd⊢;refine fg (yD (nm:=OS (aW l) .any) (P.pf k4 hm) hpc hm hi h6) ?_;refine ab CU ?_;exact fg (MV hC) (yC Y7 hd)
theorem B3 {i:Nat}{s:List Nat}(hi:i<6)(Y7:mt<8)(hk:k∈KS)(hs:s∈qj)(hl:l∈pY)(hm1:ms.length=k)(hm2:ms.Nodup)(hm3:∀j∈ms,j<aW l)
 (hc:aad i (va s (k5 l 0)) (am ms) (aW s) k (aW l)=mA i s l (k5 l 0) (am ms) (aW s) k) (hd:mA i s l (k5 l 0) (am ms) (aW s) k=true \/fl=false \/3<=mt):∃σ,lB (Xi Xl Xm (W8 (fL i)) (W8 (nV 3)) (W8 (nV k)) (W8 (nL s)) (W8 (nV (aW s))) (W8 (iC mt)) (W8 (nL (eg mt s k))) (W8 (.bool fl)) (W8 (nL l)) (W8 (.list ((bD l 0).map nL))) x12 (W8 (nL ms)) x14 x15 x16 x17 x18 x19 x20 x21 x22 x23 x24)=W8 (.ret (.bool true),σ):=by
 injections k mt fl l ms x12 x14 x16 x15 x17 x18 x19 x20 x21 x22 x23 x24 Xl Xm i s _ hi Y7 hk hs hl hm1 hm2 hm3 hc hd;have k4:0<k/\ k<4:=(by decide:∀k∈KS,0<k/\ k<4) k hk;have P:Dk s l:=Ip (p:=(s,l)) (Qn _ (OV.mpr ⟨s,hs,OM.mpr ⟨l,hl,rfl⟩⟩));have hLL:l∈pZ++pY:=Qn _ hl;have h6:∀j∈ms,j<6:=λj hj=>OL (hm3 j hj) (aaJ P.N6.2);have hm:am ms<2^aW l:=gj hm3;have hpc:pc (am ms)=k:=(kN h6 hm2).trans hm1;have hC:(mt,s,k)∈Cn:=OV.mpr ⟨mt,OF.mpr Y7,OV.mpr ⟨s,hs,OM.mpr ⟨k,hk,rfl⟩⟩⟩;obtain⟨b1,b2⟩:=zN l hLL;refine fg (aB (uw (bls:=bD l 0) (ms:=ms) rfl rfl rfl rfl (by show 29<33;decide) b1 b2)) ?_;refine fg (aB (t:= .bool true) rfl) ?_;have hdue:∃YA y19,Hi (Xi Xl Xm (W8 (fL i)) (W8 (nV 3)) (W8 (nV k)) (W8 (nL s)) (W8 (nV (aW s))) (W8 (iC mt)) (W8 (nL (eg mt s k))) (W8 (.bool fl)) (W8 (nL l)) (W8 (.list ((bD l 0).map nL))) x12 (W8 (nL ms)) x14 x15 x16 (W8 (nL ((bD l 0).map (jo ms)))) (W8 (.bool true)) x19 x20 x21 x22 x23 x24)=W8 (.next,Xi Xl Xm (W8 (fL i)) (W8 (nV 3)) (W8 (nV k)) (W8 (nL s)) (W8 (nV (aW s))) (W8 (iC mt)) (W8 (nL (eg mt s k))) (W8 (.bool fl)) (W8 (nL l)) (W8 (.list ((bD l 0).map nL))) YA (W8 (nL ms)) x14 x15 x16 (W8 (nL ((bD l 0).map (jo ms)))) (W8 (.bool (mA i s l (k5 l 0) (am ms) (aW s) k))) y19 x20 x21 x22 x23 x24):=by rw[<-zn,<-oa (Ml hLL) h6];obtain⟨Xx,s1,s2,rfl,g0,g1,g2⟩:=Mz s hs;obtain⟨Xy,XA,l2,rfl⟩:=Nu l hl;exact⟨_,_,Hg hi k4.2 P.n6 g0 g1 g2⟩
 obtain⟨YA,y19,e17⟩:=hdue;refine fg e17 (fg (Jg hC) (fg (aB (t:= .list []) rfl) (fg (Je (OV.mpr ⟨s,hs,OM.mpr ⟨l,hl,rfl⟩⟩)) (fg (yE hLL P (tN s l)) ?_))));rw[<-hc]at hd⊢;refine fg (yD (nm:=OS (aW l) .any) (P.pf k4 hm) hpc hm hi h6) ?_;refine ab CU ?_;exact fg (MU hC) (yC Y7 hd)
end
end
section
theorem Gk:∀s∈qk,s∈SZ:=by decide
theorem Gj:∀s∈qj,s∈SZ:=by decide
theorem Cv (s:List Nat)(h:s∈SZ):(s.length=2->s∈qk)/\ (s.length=3->s∈qj):=(by decide:∀s∈SZ,(s.length=2->s∈qk)/\ (s.length=3->s∈qj)) s h
theorem MC:∀s∈qk,s∈pZ:=by decide+kernel
theorem MB:∀s∈qj,s∈pY:=by decide+kernel
theorem N9:∀s∈qk,∀k∈KS,Di s k∈qk/\ k<=aW (Di s k):=by decide+kernel
theorem N8:∀s∈qj,∀k∈KS,Di s k∈qj/\ k<=aW (Di s k):=by decide+kernel
theorem E8:∀c∈Ak,c.map (· +1)∈pZ:=by decide+kernel
theorem E7:∀c∈Aj,c.map (· +1)∈pY:=by decide+kernel
theorem Ey:∀i<6,∀s∈SZ,∀k∈KS,kk i s k∈KS/\ (i==3&&decide (4<aW s)&&decide (2<kk i s k))=false:=by decide+kernel
theorem JA (a b:Nat): [1+a % 3,1+b % 3]∈qk:=(by decide:∀x<3,∀y<3,[1+x,1+y]∈qk) _ (QE a (by decide)) _ (QE b (by decide))
theorem Jz (a b c:Nat): [1+a % 2,1+b % 2,1+c % 2]∈qj:=(by decide:∀x<2,∀y<2,∀z<2,[1+x,1+y,1+z]∈qj) _ (QE a (by decide)) _ (QE b (by decide)) _ (QE c (by decide))
section
variable{Xl Xm:Option V}{Xn Xo:Int}
theorem IU:∃s,s∈qk/\ q0 7 (Xi Xl (W8 (.list [.int n0,.int Xn,.int Xo,.int n3,.int n4,.int n5,.int n6,.int n7,.int n8,.int n9])) x2 (W8 (nV 2)) x4 x5 x6 x7 x8 x9 x10 x11 x12 x13 x14 x15 x16 x17 x18 x19 x20 x21 x22 x23 x24)=W8 (nL s):=⟨_,JA _ _,MK⟩
theorem IT:∃s,s∈qj/\ q0 7 (Xi Xl (W8 (.list [.int n0,.int Xn,.int Xo,.int n3,.int n4,.int n5,.int n6,.int n7,.int n8,.int n9])) x2 (W8 (nV 3)) x4 x5 x6 x7 x8 x9 x10 x11 x12 x13 x14 x15 x16 x17 x18 x19 x20 x21 x22 x23 x24)=W8 (nL s):=⟨_,Jz _ _ _,MJ⟩
theorem CY (h:l∈SZ):Ho (Xi Xl Xm x2 x3 x4 x5 x6 x7 x8 x9 x10 (W8 (.list ((bD l 0).map nL))) x12 x13 x14 x15 x16 x17 x18 x19 x20 x21 x22 x23 x24)=W8 (nL (Oo (aW l))):=by have:=cq (KI (Xl:=Xl) (Xm:=Xm) (x2:=x2) (x3:=x3) (x4:=x4) (x5:=x5) (x6:=x6) (x7:=x7) (x8:=x8) (x9:=x9) (x10:=x10) (x12:=x12) (x13:=x13) (x14:=x14) (x15:=x15) (x16:=x16) (x17:=x17) (x18:=x18) (x19:=x19) (x20:=x20) (x21:=x21) (x22:=x22) (x23:=x23) (x24:=x24)) h;exact this
theorem v6 {s:List Nat}(h:s∈SZ):l6 (Xi Xl Xm x2 x3 x4 (W8 (nL s)) x6 x7 x8 x9 x10 x11 x12 x13 x14 x15 x16 x17 x18 x19 x20 x21 x22 x23 x24)=W8 (.next,Xi Xl Xm x2 x3 x4 (W8 (nL s)) (W8 (nV (aW s))) x7 x8 x9 x10 x11 x12 x13 x14 x15 x16 x17 x18 x19 x20 x21 x22 x23 x24):=by
 have:=cq (a6 (Xl:=Xl) (Xm:=Xm) (x2:=x2) (x3:=x3) (x4:=x4) (x6:=x6) (x7:=x7) (x8:=x8) (x9:=x9) (x10:=x10) (x11:=x11) (x12:=x12) (x13:=x13) (x14:=x14) (x15:=x15) (x16:=x16) (x17:=x17) (x18:=x18) (x19:=x19) (x20:=x20) (x21:=x21) (x22:=x22) (x23:=x23) (x24:=x24)) h
 try dsimp only at this
 exact this
theorem v7 {i:Nat}{s:List Nat}(h:(i,s,k)∈C2):l7 (Xi Xl Xm (W8 (fL i)) x3 (W8 (nV k)) x5 (W8 (nV (aW s))) x7 x8 x9 x10 x11 x12 x13 x14 x15 x16 x17 x18 x19 x20 x21 x22 x23 x24)=W8 (.next,Xi Xl Xm (W8 (fL i)) x3 (W8 (nV (kk i s k))) x5 (W8 (nV (aW s))) x7 x8 x9 x10 x11 x12 x13 x14 x15 x16 x17 x18 x19 x20 x21 x22 x23 x24):=by
 have:=cq (a7 (Xl:=Xl) (Xm:=Xm) (x3:=x3) (x5:=x5) (x7:=x7) (x8:=x8) (x9:=x9) (x10:=x10) (x11:=x11) (x12:=x12) (x13:=x13) (x14:=x14) (x15:=x15) (x16:=x16) (x17:=x17) (x18:=x18) (x19:=x19) (x20:=x20) (x21:=x21) (x22:=x22) (x23:=x23) (x24:=x24)) h
 try dsimp only at this
 exact this
theorem v9 {s:List Nat}(h:(mt,s,k)∈C1):l9 (Xi Xl Xm x2 x3 (W8 (nV k)) (W8 (nL s)) x6 (W8 (iC mt)) x8 x9 x10 x11 x12 x13 x14 x15 x16 x17 x18 x19 x20 x21 x22 x23 x24)=W8 (.next,Xi Xl Xm x2 x3 (W8 (nV k)) (W8 (nL s)) x6 (W8 (iC mt)) (W8 (nL (eg mt s k))) x9 x10 x11 x12 x13 x14 x15 x16 x17 x18 x19 x20 x21 x22 x23 x24):=by
 have:=cq (a9 (Xl:=Xl) (Xm:=Xm) (x2:=x2) (x3:=x3) (x6:=x6) (x8:=x8) (x9:=x9) (x10:=x10) (x11:=x11) (x12:=x12) (x13:=x13) (x14:=x14) (x15:=x15) (x16:=x16) (x17:=x17) (x18:=x18) (x19:=x19) (x20:=x20) (x21:=x21) (x22:=x22) (x23:=x23) (x24:=x24)) h
 try dsimp only at this
 exact this
theorem F6 {c:List Nat}(h:c∈Ak++Aj):Ew (Xi Xl Xm x2 x3 x4 x5 x6 x7 (W8 (nL c)) x9 x10 x11 x12 x13 x14 x15 x16 x17 x18 x19 x20 x21 x22 x23 x24)=W8 (.next,Xi Xl Xm x2 x3 x4 x5 x6 x7 (W8 (nL c)) x9 (W8 (nL (c.map (· +1)))) x11 x12 x13 x14 x15 x16 x17 x18 x19 x20 x21 x22 x23 x24):=by
 have:=cq (KR (Xl:=Xl) (Xm:=Xm) (x2:=x2) (x3:=x3) (x4:=x4) (x5:=x5) (x6:=x6) (x7:=x7) (x9:=x9) (x10:=x10) (x11:=x11) (x12:=x12) (x13:=x13) (x14:=x14) (x15:=x15) (x16:=x16) (x17:=x17) (x18:=x18) (x19:=x19) (x20:=x20) (x21:=x21) (x22:=x22) (x23:=x23) (x24:=x24)) h
 try dsimp only at this
 exact this
theorem F5 {s:List Nat}(h:(s,k)∈C3):(aa (bB (dT (zx (dU dn (dV 10)) (dV 4))) (aa (tj 10 (dI 0) (dB bJ (dB aZ (dV 10) (dI 0)) (dI 1))) af) 8) af) (Xi Xl Xm x2 x3 (W8 (nV k)) x5 x6 x7 x8 x9 (W8 (nL s)) x11 x12 x13 x14 x15 x16 x17 x18 x19 x20 x21 x22 x23 x24)=W8 (.next,Xi Xl Xm x2 x3 (W8 (nV k)) x5 x6 x7 x8 x9 (W8 (nL (Di s k))) x11 x12 x13 x14 x15 x16 x17 x18 x19 x20 x21 x22 x23 x24):=by
 have:=cq (KQ (Xl:=Xl) (Xm:=Xm) (x2:=x2) (x3:=x3) (x5:=x5) (x6:=x6) (x7:=x7) (x8:=x8) (x9:=x9) (x11:=x11) (x12:=x12) (x13:=x13) (x14:=x14) (x15:=x15) (x16:=x16) (x17:=x17) (x18:=x18) (x19:=x19) (x20:=x20) (x21:=x21) (x22:=x22) (x23:=x23) (x24:=x24)) h
 try dsimp only at this
 exact this
theorem F4 (h:l∈pZ):Et (Xi Xl Xm x2 (W8 (nV 2)) x4 x5 x6 x7 x8 x9 (W8 (nL l)) (W8 (.list [])) x12 x13 x14 x15 x16 x17 x18 x19 x20 x21 x22 x23 x24)=W8 (.next,Xi Xl Xm x2 (W8 (nV 2)) x4 x5 x6 x7 x8 x9 (W8 (nL l)) (W8 (.list ((bD l 0).map nL))) (W8 (nV 1)) x13 x14 x15 x16 x17 x18 x19 x20 x21 x22 x23 x24):=by
 have:=cq (KO (Xl:=Xl) (Xm:=Xm) (x2:=x2) (x4:=x4) (x5:=x5) (x6:=x6) (x7:=x7) (x8:=x8) (x9:=x9) (x12:=x12) (x13:=x13) (x14:=x14) (x15:=x15) (x16:=x16) (x17:=x17) (x18:=x18) (x19:=x19) (x20:=x20) (x21:=x21) (x22:=x22) (x23:=x23) (x24:=x24)) h
 try dsimp only at this
 exact this
theorem IN (h:l∈Ak):yF (Xi Xl Xm x2 (W8 (nV 2)) x4 x5 x6 x7 (W8 (nL l)) x9 x10 (W8 (.list ((bD (l.map (· +1)) 0).map nL))) x12 x13 x14 x15 x16 x17 x18 x19 x20 x21 x22 x23 x24)=W8 (.next,Xi Xl Xm x2 (W8 (nV 2)) x4 x5 x6 x7 (W8 (nL l)) x9 x10 (W8 (.list ((bD (l.map (· +1)) 0).map nL))) (W8 (nV 1)) (W8 (nL (pt l))) x14 x15 x16 x17 x18 x19 x20 x21 x22 x23 x24):=by
 have:=cq (KL (Xl:=Xl) (Xm:=Xm) (x2:=x2) (x4:=x4) (x5:=x5) (x6:=x6) (x7:=x7) (x9:=x9) (x10:=x10) (x12:=x12) (x13:=x13) (x14:=x14) (x15:=x15) (x16:=x16) (x17:=x17) (x18:=x18) (x19:=x19) (x20:=x20) (x21:=x21) (x22:=x22) (x23:=x23) (x24:=x24)) h
 try dsimp only at this
 exact this
theorem F3 (h:l∈pY):Et (Xi Xl Xm x2 (W8 (nV 3)) x4 x5 x6 x7 x8 x9 (W8 (nL l)) (W8 (.list [])) x12 x13 x14 x15 x16 x17 x18 x19 x20 x21 x22 x23 x24)=W8 (.next,Xi Xl Xm x2 (W8 (nV 3)) x4 x5 x6 x7 x8 x9 (W8 (nL l)) (W8 (.list ((bD l 0).map nL))) (W8 (nV 2)) x13 x14 x15 x16 x17 x18 x19 x20 x21 x22 x23 x24):=by
 have:=cq (KN (Xl:=Xl) (Xm:=Xm) (x2:=x2) (x4:=x4) (x5:=x5) (x6:=x6) (x7:=x7) (x8:=x8) (x9:=x9) (x12:=x12) (x13:=x13) (x14:=x14) (x15:=x15) (x16:=x16) (x17:=x17) (x18:=x18) (x19:=x19) (x20:=x20) (x21:=x21) (x22:=x22) (x23:=x23) (x24:=x24)) h
 try dsimp only at this
 exact this
theorem IM (h:l∈Aj):yF (Xi Xl Xm x2 (W8 (nV 3)) x4 x5 x6 x7 (W8 (nL l)) x9 x10 (W8 (.list ((bD (l.map (· +1)) 0).map nL))) x12 x13 x14 x15 x16 x17 x18 x19 x20 x21 x22 x23 x24)=W8 (.next,Xi Xl Xm x2 (W8 (nV 3)) x4 x5 x6 x7 (W8 (nL l)) x9 x10 (W8 (.list ((bD (l.map (· +1)) 0).map nL))) (W8 (nV 2)) (W8 (nL (pt l))) x14 x15 x16 x17 x18 x19 x20 x21 x22 x23 x24):=by
 have:=cq (KJ (Xl:=Xl) (Xm:=Xm) (x2:=x2) (x4:=x4) (x5:=x5) (x6:=x6) (x7:=x7) (x9:=x9) (x10:=x10) (x12:=x12) (x13:=x13) (x14:=x14) (x15:=x15) (x16:=x16) (x17:=x17) (x18:=x18) (x19:=x19) (x20:=x20) (x21:=x21) (x22:=x22) (x23:=x23) (x24:=x24)) h
 try dsimp only at this
 exact this
theorem BL {i:Nat}{s:List Nat}(hi:i<6)(Y7:mt<8)(hk:k∈KS)(hs:s∈qk)(hg:(i==3&&decide (4<aW s)&&decide (2<k))=false):∃σ,(aa Iu (aa Ex (aa Eu (aa Et (aa Es lB))))) (Xi Xl (W8 (.list [.int n0,.int Xn,.int Xo,.int n3,.int n4,.int n5,.int n6,.int n7,.int n8,.int n9])) (W8 (fL i)) (W8 (nV 2)) (W8 (nV k)) (W8 (nL s)) (W8 (nV (aW s))) (W8 (iC mt)) (W8 (nL (eg mt s k))) x9 x10 x11 x12 x13 x14 x15 x16 x17 x18 x19 x20 x21 x22 x23 x24)=W8 (.ret (.bool true),σ):=by
 have hC:(mt,s,k)∈Co:=OV.mpr ⟨mt,OF.mpr Y7,OV.mpr ⟨s,hs,OM.mpr ⟨k,hk,rfl⟩⟩⟩;have hch:=Ou.mp B7 _ hC;unfold B5 at hch;simp only[Qg,beq_iff_eq,Tq]at hch;obtain⟨YD,hch2,hch3⟩:=hch;have YD:eg mt s k∈Ak:=Re.mp YD;refine fg yG ?_;cases hf:(n6.natAbs % 2==0)with
 |true=>
  refine fg (a:=Ex) (Qj (aG (c:=true) rfl) ((if_pos rfl).trans (F6 (c:=eg mt s k) (QO _ YD)))) ?_;refine fg (a:=Eu) (aB (t:= .list []) rfl) ?_;have hl:=E8 _ YD;refine fg (F4 hl) ?_;refine fg (a:=Es) (Qj (aG (c:=true) rfl) ((if_pos rfl).trans (IN YD))) ?_;have hm:=Ou.mp yq _ (QO _ YD);unfold Ej at hm;simp only[Qg,decide_eq_true_eq,Ou]at hm;obtain⟨⟨m1,m2⟩,m3⟩:=hm;have ZJ:=Ou.mp (Ou.mp ET s hs) _ YD;have ZJ:=Ou.mp ZJ i (OF.mpr hi);rw[hch2]at ZJ m1;rw[hg,Qm]at ZJ;refine B2 hi Y7 hk hs hl m1 m3 m2 (beq_iff_eq.mp ZJ) ?_;rcases hch3 with h |h
  ·exact .inr (.inr (P5 h))
  ·exact .inl (Ou.mp h i (OF.mpr hi))
 |false=>obtain⟨s',X2,e7⟩:=IU (Xl:=Xl);have Z8:=N9 s' X2 k hk;refine fg (a:=Ex) (Qj (aG (c:=false) rfl) (Qj (if_neg (by decide)) ((ax (aB e7)).trans (F5 (yu (Gk s' X2) hk))))) ?_;refine fg (a:=Eu) (aB (t:= .list []) rfl) ?_;generalize hl:Di s' k=l at Z8;obtain⟨Z8,hkN⟩:=Z8;have hL:=MC l Z8;refine fg (F4 hL) ?_;have P:Dk s l:=Ip (p:=(s,l)) (QO _ (OV.mpr ⟨s,hs,OM.mpr ⟨l,hL,rfl⟩⟩));have e15:(dB d2 (jn 6) (dI 2)) (Xi Xl (W8 (.list [.int n0,.int Xn,.int Xo,.int n3,.int n4,.int n5,.int n6,.int n7,.int n8,.int n9])) (W8 (fL i)) (W8 (nV 2)) (W8 (nV k)) (W8 (nL s)) (W8 (nV (aW s))) (W8 (iC mt)) (W8 (nL (eg mt s k))) (W8 (.bool false)) (W8 (nL l)) (W8 (.list ((bD l 0).map nL))) (W8 (nV 1)) (W8 (.list [])) (W8 (nL (Oo (aW l)))) x15 x16 x17 x18 x19 x20 x21 x22 x23 x24)=W8 (nV (n6.natAbs/2)):=zm (b:=2) (mM (n:=n6) rfl) (by decide) (by decide);refine o9 (Xl:=Xl) (Xm:=(W8 (.list [.int n0,.int Xn,.int Xo,.int n3,.int n4,.int n5,.int n6,.int n7,.int n8,.int n9]))) (x2:=W8 (fL i)) (x3:=W8 (nV 2)) (x5:=W8 (nL s)) (x6:=W8 (nV (aW s))) (x7:=W8 (iC mt)) (x8:=W8 (nL (eg mt s k))) (x9:=W8 (.bool false)) (x10:=W8 (nL l)) (x11:=W8 (.list ((bD l 0).map nL))) (x12:=W8 (nV 1)) (x17:=x17) (x18:=x18) (x19:=x19) (x20:=x20) (x21:=x21) (x22:=x22) (x23:=x23) (x24:=x24) (k:=k) (N:=aW l) (by have:=P.N6;omega) hkN 8 [] (Oo (aW l)) (n6.natAbs/2) x16 (by have:=(by decide:∀k∈KS,k<8) k hk;exact this) (QJ _) Uw (λj hj=>⟨OF.mp hj,by simp⟩) Sa (λj hj=>by cases hj) (by refine ab Ql ?_;rfl) λms y14 y15 y16 m1 m3 m2 eL=> ?_;refine fg (a:=Es) (Qj (aG (c:=false) rfl) (Qj (if_neg (by decide)) ((ax (aB (CY (Gk l Z8)))).trans ((ax (aB (t:= .list []) rfl)).trans ((ax (aB e15)).trans (ax eL)))))) ?_;have hu:=Ou.mp (Ou.mp (Ou.mp Dw s hs) l Z8) k hk;have hu:=Ou.mp hu (am ms) (OF.mpr (gj m2));have h6:∀j∈ms,j<6:=λj hj=>OL (m2 j hj) (aaJ P.N6.2);rw[kN h6 m3,m1,bne_self_eq_false,Qm]at hu;have hu:=Ou.mp hu i (OF.mpr hi);rw[hg,Qm]at hu;exact B2 hi Y7 hk hs hL m1 m3 m2 (beq_iff_eq.mp hu) (.inr (.inl rfl))
theorem J9 {i:Nat}{s:List Nat}(hi:i<6)(Y7:mt<8)(hk:k∈KS)(hs:s∈qj)(hg:(i==3&&decide (4<aW s)&&decide (2<k))=false):∃σ,(aa Iu (aa Ex (aa Eu (aa Et (aa Es lB))))) (Xi Xl (W8 (.list [.int n0,.int Xn,.int Xo,.int n3,.int n4,.int n5,.int n6,.int n7,.int n8,.int n9])) (W8 (fL i)) (W8 (nV 3)) (W8 (nV k)) (W8 (nL s)) (W8 (nV (aW s))) (W8 (iC mt)) (W8 (nL (eg mt s k))) x9 x10 x11 x12 x13 x14 x15 x16 x17 x18 x19 x20 x21 x22 x23 x24)=W8 (.ret (.bool true),σ):=by
 have hC:(mt,s,k)∈Cn:=OV.mpr ⟨mt,OF.mpr Y7,OV.mpr ⟨s,hs,OM.mpr ⟨k,hk,rfl⟩⟩⟩;have hch:=Ou.mp B6 _ hC;unfold B5 at hch;simp only[Qg,beq_iff_eq,Tq]at hch;obtain⟨YD,hch2,hch3⟩:=hch;have YD:eg mt s k∈Aj:=Re.mp YD;refine fg yG ?_;cases hf:(n6.natAbs % 2==0)with
 |true=>
  refine fg (a:=Ex) (Qj (aG (c:=true) rfl) ((if_pos rfl).trans (F6 (c:=eg mt s k) (Qn _ YD)))) ?_;refine fg (a:=Eu) (aB (t:= .list []) rfl) ?_;have hl:=E7 _ YD;refine fg (F3 hl) ?_;refine fg (a:=Es) (Qj (aG (c:=true) rfl) ((if_pos rfl).trans (IM YD))) ?_;have hm:=Ou.mp yq _ (Qn _ YD);unfold Ej at hm;simp only[Qg,decide_eq_true_eq,Ou]at hm;obtain⟨⟨m1,m2⟩,m3⟩:=hm;have ZJ:=Ou.mp (Ou.mp ES s hs) _ YD;have ZJ:=Ou.mp ZJ i (OF.mpr hi);rw[hch2]at ZJ m1;rw[hg,Qm]at ZJ;refine B3 hi Y7 hk hs hl m1 m3 m2 (beq_iff_eq.mp ZJ) ?_;rcases hch3 with h |h
  ·exact .inr (.inr (P5 h))
  ·exact .inl (Ou.mp h i (OF.mpr hi))
 |false=>obtain⟨s',X2,e7⟩:=IT (Xl:=Xl);have Z8:=N8 s' X2 k hk;refine fg (a:=Ex) (Qj (aG (c:=false) rfl) (Qj (if_neg (by decide)) ((ax (aB e7)).trans (F5 (yu (Gj s' X2) hk))))) ?_;refine fg (a:=Eu) (aB (t:= .list []) rfl) ?_;generalize hl:Di s' k=l at Z8;obtain⟨Z8,hkN⟩:=Z8;have hL:=MB l Z8;refine fg (F3 hL) ?_;have P:Dk s l:=Ip (p:=(s,l)) (Qn _ (OV.mpr ⟨s,hs,OM.mpr ⟨l,hL,rfl⟩⟩));have e15:(dB d2 (jn 6) (dI 2)) (Xi Xl (W8 (.list [.int n0,.int Xn,.int Xo,.int n3,.int n4,.int n5,.int n6,.int n7,.int n8,.int n9])) (W8 (fL i)) (W8 (nV 3)) (W8 (nV k)) (W8 (nL s)) (W8 (nV (aW s))) (W8 (iC mt)) (W8 (nL (eg mt s k))) (W8 (.bool false)) (W8 (nL l)) (W8 (.list ((bD l 0).map nL))) (W8 (nV 2)) (W8 (.list [])) (W8 (nL (Oo (aW l)))) x15 x16 x17 x18 x19 x20 x21 x22 x23 x24)=W8 (nV (n6.natAbs/2)):=zm (b:=2) (mM (n:=n6) rfl) (by decide) (by decide);refine o9 (Xl:=Xl) (Xm:=(W8 (.list [.int n0,.int Xn,.int Xo,.int n3,.int n4,.int n5,.int n6,.int n7,.int n8,.int n9]))) (x2:=W8 (fL i)) (x3:=W8 (nV 3)) (x5:=W8 (nL s)) (x6:=W8 (nV (aW s))) (x7:=W8 (iC mt)) (x8:=W8 (nL (eg mt s k))) (x9:=W8 (.bool false)) (x10:=W8 (nL l)) (x11:=W8 (.list ((bD l 0).map nL))) (x12:=W8 (nV 2)) (x17:=x17) (x18:=x18) (x19:=x19) (x20:=x20) (x21:=x21) (x22:=x22) (x23:=x23) (x24:=x24) (k:=k) (N:=aW l) (by have:=P.N6;omega) hkN 8 [] (Oo (aW l)) (n6.natAbs/2) x16 (by have:=(by decide:∀k∈KS,k<8) k hk;exact this) (QJ _) Uw (λj hj=>⟨OF.mp hj,by simp⟩) Sa (λj hj=>by cases hj) (by refine ab Ql ?_;rfl) λms y14 y15 y16 m1 m3 m2 eL=> ?_;refine fg (a:=Es) (Qj (aG (c:=false) rfl) (Qj (if_neg (by decide)) ((ax (aB (CY (Gj l Z8)))).trans ((ax (aB (t:= .list []) rfl)).trans ((ax (aB e15)).trans (ax eL)))))) ?_;have hu:=Ou.mp (Ou.mp (Ou.mp Dv s hs) l Z8) k hk;have hu:=Ou.mp hu (am ms) (OF.mpr (gj m2));have h6:∀j∈ms,j<6:=λj hj=>OL (m2 j hj) (aaJ P.N6.2);rw[kN h6 m3,m1,bne_self_eq_false,Qm]at hu;have hu:=Ou.mp hu i (OF.mpr hi);rw[hg,Qm]at hu;exact B3 hi Y7 hk hs hL m1 m3 m2 (beq_iff_eq.mp hu) (.inr (.inl rfl))
end
theorem yB (xs:List Int)(hx:xs.length<=63):cr 32 IP.1 [.list (xs.map Xc)]=W8 (.bool true):=by
 injections xs _ hx;have key:∃σ,lA (c0 32 [.list (xs.map Xc)])=W8 (.ret (.bool true),σ):=by
  obtain⟨n,e1⟩:=He hx;refine fg e1 (fg Hc (fg Hb (fg Ha ?_)));obtain⟨s,hs,hl,e5⟩:=G9 (Xl:=W8 (.list (xs.map Xc))) (x2:=W8 (fL ((n 0).natAbs % 6))) (x4:=W8 (nV (1+(n 2).natAbs % 3))) (x5:=W9) (x6:=W9) (x7:=W9) (x8:=W9) (x9:=W9) (x10:=W9) (x11:=W9) (x12:=W9) (x13:=W9) (x14:=W9) (x15:=W9) (x16:=W9) (x17:=W9) (x18:=W9) (x19:=W9) (x20:=W9) (x21:=W9) (x22:=W9) (x23:=W9) (x24:=W9) (n0:=n 0) (Xn:=n 1) (Xo:=n 2) (n3:=n 3) (n4:=n 4) (n5:=n 5) (n6:=n 6) (n7:=n 7) (n8:=n 8) (n9:=n 9);have hk:1+(n 2).natAbs % 3∈KS:=(by decide:∀x<3,1+x∈KS) _ (QE _ (by decide));have hi:(n 0).natAbs % 6<6:=QE _ (by decide);have Y7:(n 0).natAbs/6 % 8<8:=QE _ (by decide);obtain⟨hk',hg⟩:=Ey _ hi s hs _ hk;refine fg e5 (fg (v6 hs) (fg (v7 (Ek hi hs hk)) (fg G8 (fg (v9 (El Y7 hs hk')) ?_))));rcases QC (n 1).natAbs with h |h<;>rw[h]at hl⊢
  ·exact BL hi Y7 hk' ((Cv s hs).1 hl) hg
  ·exact J9 hi Y7 hk' ((Cv s hs).2 hl) hg
 obtain⟨σ,e⟩:=key;unfold cr;refine ab Er (ab e ?_);rfl
end
section
theorem A9 (h:Gr x v=true)(K:br)(g:a0):bj K g x v:=by
 cases x with
 |none=>
  cases v with
  |none=>exact(rfl:PA= .none)
  |_=>exact absurd h OD
 |bool b=>
  cases v with
  |bool c=>exact congrArg Tm (beq_iff_eq.mp h).symm
  |_=>exact absurd h OD
 |int i=>
  cases v with
  |int j t=>exact Exists.intro t (by exact ab (beq_iff_eq.mp h) rfl)
  |_=>exact absurd h OD
 |str x=>
  cases v with
  |str y t=>exact Exists.intro t (by exact ab (of_decide_eq_true h) rfl)
  |_=>exact absurd h OD
 |any=>exact True.intro
 |_=>exact absurd h OD
theorem lw:∀ {xs:List V} {vs:List Oq},tZ xs vs=true->∀(K:br) (g:a0),aq K g xs vs
 | [],[],_,K,g=>aq.nil
 |x::xs,v::vs,h,K,g=>by obtain⟨h1,h2⟩:=OR.mp h;exact aq.cons (A9 h1 K g) (lw h2 K g)
 | [],_::_,h,_,_=>by cases h
 |_::_,[],h,_,_=>by cases h
section
variable{C:Cf ag w}
theorem vY {o:Option Obj}(h:y4 o=W8 fd):∃c d s,o=W8 ⟨c,d,.func fd,s⟩:=by
 cases o with
 |none=>cases h
 |some o=>
  obtain⟨c,d,x,s⟩:=o;cases x with
  |func g=>exact⟨c,d,s,by exact ab (Oh (show W8 g=W8 fd from h)) rfl⟩
  |_=>exact absurd h Xu
theorem rK {o:Option Obj}{vs:Array Oq}(h:uH o=W8 vs):∃c d s,o=W8 ⟨c,d,.fields vs,s⟩:=by
 cases o with
 |none=>cases h
 |some o=>
  obtain⟨c,d,x,s⟩:=o;cases x with
  |fields g=>exact⟨c,d,s,by exact ab (Oh (show W8 g=W8 vs from h)) rfl⟩
  |_=>exact absurd h Xu
theorem xG {o:Option Obj}{vs:Array Oq}(h:Gp o=W8 vs):∃c d n s,o=W8 ⟨c,d,.seq vs n,s⟩:=by
 cases o with
 |none=>cases h
 |some o=>
  obtain⟨c,d,x,s⟩:=o;cases x with
  |seq g n=>exact⟨c,d,n,s,by exact ab (Oh (show W8 g=W8 vs from h)) rfl⟩
  |_=>exact absurd h Xu
theorem xQ (h:Gu v=W8 a):v= .ref a:=by
 cases v with
 |ref=>exact congrArg PL (Oh h)
 |_=>exact absurd h Xu
theorem xe {o:Option Oq}{q:Str}(h:Gl o=W8 q):∃t,o=W8 (.str q t):=by
 cases o with
 |none=>cases h
 |some v=>
  cases v with
  |str x t=>exact⟨t,by exact ab (Oh (show W8 x=W8 q from h)) rfl⟩
  |_=>exact absurd h Xu
theorem yo (hT:C.T=b3.map (·.2))(h:(!(b3.any (·.2==a)))=true):a∉C.T:=λha=>by rw[hT]at ha;obtain⟨p,hp,rfl⟩:=OM.mp ha;have:b3.any (·.2==p.2)=true:=Q4.mpr ⟨p,hp,beq_self_eq_true _⟩;rw[this]at h;cases h
theorem fM (X:C.K.In C.hb)(hT:C.tabs=b3){g:Bool}{P:P9×List RV×Sj}(e:CZ C.K f dfl g=true)
 (hP:((jw C.K f).body,(jw C.K f).scope,(jw C.K f).params)=(Wu P.2.1,P.2.2,P.1)):dC C f (jw C.K f) P dfl g:=by
 have hT':C.T=b3.map (·.2):=by unfold Cf.T;exact ab hT rfl
 obtain⟨p1,hP⟩:=Pa hP;obtain⟨Xq,p3⟩:=Pa hP;unfold CZ at e;obtain⟨e0,e⟩:=OR.mp e;obtain⟨fd,hf0,e⟩:=T0 e;obtain⟨q1,q2,q3,hf⟩:=vY hf0;have hfd:jw C.K f=fd:=by unfold jw;refine ab hf0 ?_;rfl
 rw[hfd]at p1 Xq p3⊢;obtain⟨e,e5⟩:=OR.mp e;obtain⟨e,e4⟩:=OR.mp e;obtain⟨e,e3⟩:=OR.mp e;obtain⟨e,e2⟩:=OR.mp e;obtain⟨c,hc0,e⟩:=T0 e;have hc:=xQ hc0;obtain⟨e,e8⟩:=OR.mp e;obtain⟨e6,e7⟩:=OR.mp e;have cT:=yo hT' e6;refine⟨⟨_,X _ _ hf,rfl⟩,yo hT' e0,?_,λc' h=>by rw[hc]at h;cases h;exact cT,λhg=> ?_,Uy.mp e2,beq_iff_eq.mp e3,beq_iff_eq.mp e4,p1,Xq,p3,?_⟩
 ·obtain⟨vs,hco,e8⟩:=T0 e8
  obtain⟨_,_,_,hco⟩:=rK hco;obtain⟨q,hv,e8⟩:=T0 e8;obtain⟨t,hv⟩:=xe hv;exact⟨c,_,vs,t,hc,X _ _ hco,rfl,by exact ab hv (ab (of_decide_eq_true e8) rfl)⟩
 ·rw[hg]at e7
  obtain⟨p,hp,h⟩:=Q4.mp e7;exact⟨p,hT▸hp,by exact ab hc (ab (beq_iff_eq.mp h) rfl)⟩
 ·generalize hdv:fd.defaults=dv at e5
  cases dfl with
  |nil=>
   cases dv with
   |none=>rfl
   |_=>exact absurd e5 OD
  |cons d ds=>
   cases dv with
   |ref T=>obtain⟨e9,e10⟩:=OR.mp e5;obtain⟨vs,hTo,e10⟩:=T0 e10;obtain⟨_,_,n,_,hTo⟩:=xG hTo;exact⟨T,_,vs,n,rfl,yo hT' e9,X _ _ hTo,rfl,λg=>lw e10 _ g⟩
   |_=>exact absurd e5 OD
end
end
section
theorem wq {a b:Option (Option Oq)}(h:zI a b=true):∃fo ro,a=W8 fo/\ b=W8 ro/\ ((fo.isSome&& !UC fo) || (ro.isSome&& !UC ro))=true:=by
 cases a with
 |none=>cases h
 |some fo=>
  cases b with
  |none=>cases h
  |some ro=>exact⟨fo,ro,rfl,rfl,h⟩
section
variable{K:Frag}{h:O0}{aaz:Str->Option Oq}
theorem bO (X:K.In h)(G:h.Ns PF aaz)(k:Kx K){t:Str×OO×Nat×List V×Bool}(n:Nat)(ht:FT[n]?=W8 t:=by rfl):iM (rg K h aaz mb:Cf ag w) t.1 (ar t.2.2.1) t.2.2.2.1 t.2.2.2.2:=by have:=Rl.mp k.fns t (Qs ht);obtain⟨h1,this⟩:=Pa this;obtain⟨h2,h3⟩:=Pa this;exact⟨_,_,mg_of X G h1,fM (C:=rg K h aaz mb) X rfl h2 h3⟩
theorem rf (X:K.In h)(k:Kx K){t:Nat×Str×OO×Nat×Nat×List V×Bool}(n:Nat)(ht:MT[n]?=W8 t):Q0 K (.ref (tI t.1)) t.2.1=W8 (W8 (.ref t.2.2.1))/\ typeIn K (.ref t.2.2.1)=W8 (.type "function")/\ fnIn K t.2.2.1=true/\
 dC (rg K h aaz mb:Cf ag w) t.2.2.1 (jw K t.2.2.1) (aJ t.2.2.2.1 t.2.2.2.2.1) t.2.2.2.2.2.1 t.2.2.2.2.2.2:=by
 injections mb K h aaz t n _ X k ht;have:=Rl.mp k.mts t (Qs ht);obtain⟨h1,this⟩:=Pa this;obtain⟨h2,this⟩:=Pa this;obtain⟨h3,this⟩:=Pa this;obtain⟨h4,h5⟩:=Pa this;exact⟨h1,h2,h3,fM (C:=rg K h aaz mb) X rfl h4 h5⟩
theorem gK (X:K.In h)(k:Kx K){t:Nat×Str×OO×Nat×Nat×List V×Bool}(n:Nat)(ht:MT[n]?=W8 t:=by rfl) (hf:t.2.1∉fY t.1:=by decide):Ad (rg K h aaz mb:Cf ag w) t.1 t.2.1 (aJ t.2.2.2.1 t.2.2.2.2.1) t.2.2.2.2.2.1 t.2.2.2.2.2.2:=
 have q:=rf (aaz:=aaz) (mb:=mb) X k n ht
 ⟨_,_,⟨q.1,q.2.1,hf⟩,q.2.2.1,q.2.2.2⟩
theorem s6 (X:K.In h)(k:Kx K){t:Nat×Str×OO×Nat×Nat×List V×Bool}(n:Nat)(ht:MT[n]?=W8 t:=by rfl) (hi:t.2.1= "__init__":=by rfl) (hg:t.2.2.2.2.2.2=false:=by rfl) (hk:keepIn K (.ref (tI t.1))=true):FW (rg K h aaz mb:Cf ag w) t.1 (aJ t.2.2.2.1 t.2.2.2.2.1) t.2.2.2.2.2.1:=
 have q:=rf (aaz:=aaz) (mb:=mb) X k n ht
 ⟨_,_,hi▸q.1,q.2.1,hk,hg▸q.2.2.2⟩
theorem mG (k:Kx K)(c:Nat)(hc:c<3):bH (rg K h aaz mb:Cf ag w) c:=
 let F:=k.cl c hc
 {dict:=F.dict,ga:=F.ga,gk:=F.gk,nd:=F.nd,own:=λx hx=>Rl.mp F.own x hx,over:=F.over,set:=F.set,makes:=F.makes,cls:=F.cls,clsG:=k.clsG,clsT:=k.clsT,obj:=F.obj,nInt:=F.nInt,nList:=F.nList,isInt:=F.isInt,first:=F.first,sub:=F.sub}
theorem GZ (X:K.In h)(G:h.Ns PF aaz)(G':h.Ns O7 mb)(k:Kx K)(lim:h.NoLimit)(bi:∀x:Str,x≠ "__name__"->mb x=OZ x)(ht:∀p∈ [25,292,307,320,441],h.get? p=W8 (tabObj #[])):(rg K h aaz mb:Cf ag w).Ok where
 kin:=X
 kT:=λa o e hT=>by obtain⟨p,hp,rfl⟩:=OM.mp hT;have:=Ou.mp k.kT _ (mem_of_lookupK e);have h2:(b3.any λx=>x.2==p.2)=true:=Q4.mpr ⟨p,hp,beq_self_eq_true _⟩;rw[h2]at this;cases this
 g:=G
 b:=G'
 lim:=lim
 nT:=(by decide:PF∉b3.map (·.2)/\ O7∉b3.map (·.2)/\ cStatics∉b3.map (·.2))
 bi:=bi
 tab:=λp hp=>by refine⟨(by decide:∀p∈b3,p.1∉b3.map (·.2)) p hp,#[],?_⟩;have h1:=codeHd_of_K X (Ou.mp k.tb p hp);exact h1.tab (ht _ ((by decide:∀p∈b3,p.2∈ [25,292,307,320,441]) p hp))
 miss:=λx hx=>mg_none_of X G (Rl.mp k.miss x hx)
 led:=rfl
theorem FZ (X:K.In h)(G:h.Ns PF aaz)(k:Kx K)(bm:∃bm ob,aaz "__builtins__"=W8 (.ref bm)/\ bm≠O7/\ h.get? bm=W8 ob/\ ob.cls= .type "module"/\ ob.dict=W8 O7/\ ob.data= .plain)(sys:∃o,h.get? Sp=W8 o):Wd (rg K h aaz mb:Cf ag w) where
 B:= {
  bm:=by obtain⟨bm,ob,h1,h2,h3,h4⟩:=bm;have h5:=mg_of X G (show nsIn K PF "__builtins__"=W8 (W8 (.ref 4))from(O8 (O8 (O8 (O8 k.glb).2).2).2).1);rw[h1]at h5;cases h5;exact⟨4,ob,h1,h2,(by decide:(4:OO)∉b3.map (·.2)),h3,h4⟩
  tabs:=(by decide:∀p∈b3,∀q∈b3,p.2=q.2->p=q)
  sys:=⟨(by decide:Sp∉b3.map (·.2)),sys⟩}
 KF:=mG k 0 (by decide)
 KP:=mG k 1 (by decide)
 KV:=mG k 2 (by decide)
 nF:=rfl
 nP:=rfl
 nV:=rfl
 gF:=mg_of X G (O8 k.glb).1
 gP:=mg_of X G (O8 (O8 k.glb).2).1
 gV:=mg_of X G (O8 (O8 (O8 k.glb).2).2).1
 f2:=bO X G k 0
 f4:=bO X G k 1
 f6:=bO X G k 2
 f8:=bO X G k 3
 f11:=bO X G k 4
 f13:=bO X G k 5
 f14:=bO X G k 6
 f15:=bO X G k 7
 f16:=bO X G k 8
 f18:=bO X G k 9
 f19:=bO X G k 10
 f20:=bO X G k 11
 f21:=bO X G k 12
 f22:=bO X G k 13
 f23:=bO X G k 14
 f24:=bO X G k 15
 f25:=bO X G k 16
 f28:=bO X G k 17
 f29:=bO X G k 18
 f30:=bO X G k 19
 f31:=bO X G k 20
 f32:=bO X G k 21
 f33:=bO X G k 22
 f34:=bO X G k 23
 f39:=bO X G k 24
 f40:=bO X G k 25
 f41:=bO X G k 26
 m72:=gK X k 0
 m73:=gK X k 1
 m362:=gK X k 2
 m364:=gK X k 3
 m365:=gK X k 4
 m366:=gK X k 5
 m367:=gK X k 6
 m3612:=gK X k 7
 i7:=s6 X k 8 (hk:=(O8 k.keep).1)
 i36:=s6 X k 9 (hk:=(O8 (O8 k.keep).2).1)
 i37:=s6 X k 10 (hk:=(O8 (O8 (O8 k.keep).2).2).1)
 pr:=by
  have h1:=k.pr2;obtain⟨h2,h3⟩:=Pa k.prf;cases hr:recIn K 404 "property" with
  |none=>rw[hr]at h1;cases h1
  |some l=>
   rw[hr]at h1
   match l,h1 with
   |_::rest,h1=>cases h1;exact⟨404,403,_,⟨λes n _=>k.pr1 _,⟨rest,hr⟩,(by decide:("num_cand":Str)∉fY 1)⟩,fM (C:=rg K h aaz mb) X rfl h2 h3⟩
 it:=by obtain⟨h1,this⟩:=Pa k.it1;obtain⟨h2,this⟩:=Pa this;obtain⟨h3,h4⟩:=Pa this;have R:=fM (C:=(rg K h aaz mb:Cf ag w)) (P:=aJ 36 11) X rfl h3 h4;have hs:(jw K 474).scope=(aJ 36 11).2.2:=R.scope;exact⟨474,jw K 474,"self","voter","_voters",_,_,_,_,_,_,_,{m:=⟨h1,h2,(by decide:("__iter__":Str)∉fY 1)⟩,obj:=R.obj,notT:=R.notT,code:=R.code,codeT:=R.codeT,clo:=R.clo,gl:=R.gl,bi:=R.bi,body:=R.body.trans (congrArg Wu (show(aJ 36 11).2.1= [RV.For (.Name "voter" _) (.Attribute (.Name "self" _) "_voters" _) [.Expr (.Yield (W8 (.Name "voter" _)) _) _] [] _]from rfl)),co:=(by refine ab hs ?_;rfl),gen:=(by refine ab hs ?_;rfl),kind:=(by refine ab hs ?_;rfl),nocell:=(by refine ab hs ?_;decide),ls:=(by refine ab hs ?_;rfl),lv:=(by refine ab hs ?_;rfl),ds:=(by decide),dv:=(by decide),bind:=k.it2,nm:=rfl,ev:=(by intro _;with_unfolding_all rfl)}⟩
 oM:=by obtain⟨h1,this⟩:=Pa k.om;obtain⟨h2,this⟩:=Pa this;obtain⟨h3,this⟩:=Pa this;obtain⟨h4,this⟩:=Pa this;obtain⟨h6,h7⟩:=Pa this;exact⟨143,_,⟨h1,h2,⟨_,h3⟩,wq h4⟩,fM (C:=rg K h aaz mb) X rfl h6 h7⟩
 oL:=by obtain⟨h1,this⟩:=Pa k.ol;obtain⟨h2,this⟩:=Pa this;obtain⟨h6,h7⟩:=Pa this;exact⟨185,_,h1,h2,fM (C:=rg K h aaz mb) X rfl h6 h7⟩
 pn:=by obtain⟨h1,h2⟩:=Pa k.pn;exact⟨214,_,mg_of X G (O8 (O8 (O8 (O8 (O8 k.glb).2).2).2).2).1,⟨_,X _ _ h1⟩,(by decide:(214:OO)∉b3.map (·.2)),lw h2⟩
end
end
section
theorem MY:cj (ar 42) [] 1 [] id:=pat0 (λ_ _ _ _ _ _ _ _ _ _ _ _ _ _=>rfl) rfl
section
variable{K:Frag}{aaz:Str->Option Oq}
theorem EB (k:Kx K)(X:K.In s.heap)(ok:(rg K s.heap aaz mb:Cf ag w).Ok)(ht:∀p∈ [25,292,307,320,441],s.heap.get? p=W8 (tabObj #[]))(hg:s.gens= #[]):ff (rg K s.heap aaz mb:Cf ag w) s where
 ok:=ok
 base:=λb o _ e=>e
 old:= .of_keep λb o e=>e
 tab:=λp hp=>by have h1:=codeHd_of_K X (Ou.mp k.tb p hp);have h2:=ht _ ((by decide:∀p∈b3,p.2∈ [25,292,307,320,441]) p hp);exact⟨#[],h1.code h2 trivial,h1.tab h2⟩
 bare:=RR.of_eq hg
theorem Bw {w':Params}{h:O0}{xs:List Int}(H:WellAll w' h vs (xs.map TR))(C:br)(g:a0):aq C g (xs.map Xc) vs:=by
 induction xs generalizing vs with
 |nil=>cases H;exact aq.nil
 |cons x xs ih=>
  cases H with
  |cons h1 h2=>cases h1;exact aq.cons (Exists.intro _ rfl) (ih h2)
def DY:Ow:=λa=>if a∈b3.map (·.2)then W8 (a,.obj)else W9
theorem DW {c:OO}{q:Slot}(h:DY a=W8 (c,q))(k:a∈b3.map (·.2)->c=a->P):P:=by
 unfold DY at h;split at h
 ·rename_i ha;exact k ha (congrArg Ta (Oh h)).symm
 ·cases h
theorem DX (h:a∈b3.map (·.2)):DY a≠W9:=by unfold DY;rw[if_pos h];exact PY _
theorem Bt:Af wK:=λs hh k X G G' lim bi ht bm sys hg fa a vs xs hmg ha haT hv hx=>by
 have eC:(rg wK.K s.heap wK.mg wK.mb:Cf ag w)=C:=by unfold C;rw[hh]
 have ew:wK.w=w:=by unfold w;rfl
 rw[ew]at hv⊢;have W:Wd C:=by rw[<-eC];exact FZ X G k bm sys
 have I:ff C s:=by rw[<-eC];exact EB k X (GZ X G G' k lim bi ht) ht hg
 have F0:iM C "law" (ar 42) [] false:=by rw[<-eC];exact bO X G k 27
 obtain⟨v,hv1,F⟩:=F0.c 32 (cx:=cL) (IP.2 W) (by decide+kernel) MY;rw[<-eC]at hv1;rw[show v= .ref fa from Oh ((show wK.mg "law"=W8 v from hv1).symm.trans hmg)]at F;have eT:C.T=b3.map (·.2):=by rw[<-eC];rfl
 have okA:aY C DY s:=⟨I,λa c q h=>DW h λha hc=>⟨⟨_,ht a ((by decide:∀a∈b3.map (·.2),a∈ [25,292,307,320,441]) a ha)⟩,hc▸⟨_,ht a ((by decide:∀a∈b3.map (·.2),a∈ [25,292,307,320,441]) a ha)⟩⟩,λa h=>DX (eT▸h)⟩;have r:aq C.cls (view DY s.heap) [.list (xs.map Xc)] ([.ref a]++ []):=aq.cons (Exists.intro a ⟨vs,rfl,⟨0,ao.mpr ⟨if_neg haT,ha⟩⟩,Bw hv _ _⟩) aq.nil;refine Ot (F.call callerA DY s [.ref a] [] _ _ ⟨rfl,by decide,by decide⟩ okA rfl rfl r (yB xs hx)) (λv s' h=> ?_) λ_ _ f=>f;obtain⟨g,rv⟩:=h;have I':=g.inv I;have o':=I'.old;rw[<-eC]at o';exact⟨rv,o',g.os,I'.bare⟩
end
theorem G7 {w:We}{K:Frag}{aaz:Str->Option Oq}(k:Kx K)(X:K.In s.heap)(G:s.heap.Ns PF aaz)(G':s.heap.Ns O7 mb)(lim:s.heap.NoLimit)(bi:∀x:Str,x≠ "__name__"->mb x=OZ x)(ht:∀p∈ [25,292,307,320,441],s.heap.get? p=W8 (tabObj #[]))
 (bm:∃bm ob,aaz "__builtins__"=W8 (.ref bm)/\ bm≠O7/\ s.heap.get? bm=W8 ob/\ ob.cls= .type "module"/\ ob.dict=W8 O7/\ ob.data= .plain) (sys:∃o,s.heap.get? Sp=W8 o) (hg:s.gens= #[])
 {fa:OO} {xs:List Int} (hmg:aaz "law"=W8 (.ref fa)) (ha:s.heap.get? a=W8 {cls:= .type "list",data:= .seq vs.toArray}) (haT:a∉b3.map (·.2)) (hv:WellAll w.params s.heap vs (xs.map TR)) (hx:xs.length<=63):
 Oz (Ov QN w) callerA (call (.ref fa) [.ref a]) (λv s'=>v= .bool true/\ OldK s.heap s'.heap/\ s'.os=s.os/\ RR s'.gens) (λ_ _=>False) s:=
 tH Bt ⟨w,K,s.heap,aaz,mb⟩ s rfl k X G G' lim bi ht bm sys hg fa a vs xs hmg ha haT hv hx
end
theorem lK:∀xs:List Int,ofPys (xs.map Tj)=xs.map TR
 | []=>rfl
 |x::xs=>by show ofPy (Tj x)::ofPys (xs.map Tj)=_;refine ab (lK xs) ?_;rfl
theorem K0 {P:Params}{h:O0}{vals:List Oq}{xs:List Int}(hw:WellAll P h vals [ofPy (Vt.list (xs.map Tj))]):∃a vs,vals= [.ref a]/\ h.get? a=W8 {cls:= .type "list",data:= .seq vs.toArray}/\ WellAll P h vs (xs.map TR):=by
 have e:ofPy (Vt.list (xs.map Tj))=WData.list (xs.map TR):=by show WData.list (ofPys (xs.map Tj))=_;rw[lK]
 rw[e]at hw;cases hw with
 |cons h1 h2=>
  cases h2;cases h1 with
  |list h3 h4=>exact⟨_,_,rfl,h3,h4⟩
set_option tactic.hygienic true
theorem aaw:HK:=by
 intro K as0 e0 d kwd kx hdn;intro w XO XB aaz mb G Y fa o pm cd doc dV kV ho hd hcd hD hmg0 hg args vals as hpre hlay hrd hwl hlo;have hmg:aaz "law"=W8 (.ref fa):=hdn▸hmg0;have X:=km_in_of Y;have ht:=km_tabs_of Y;have T:=G.T;have hsh:=(pre_splitW hpre).1;have hcond:=(pre_splitW hpre).2
 wrow_hasAll hsh hlay
 rename_i xs _ _ _ _ _
 w_cond hcond
 rename_i hx _;obtain⟨a,vs,rfl,ha,hv⟩:=K0 hwl;have haT:a∉b3.map (·.2):=λh=>by have:=ht a ((by decide:∀a∈b3.map (·.2),a∈ [25,292,307,320,441]) a h);rw[ha]at this;cases this
 have sys:∃o,XB.heap.get? Sp=W8 o:=let ⟨_,⟨o,_,_,ho,_⟩,_⟩:=(T.seer (by kernel_rfl)).mods;⟨o,ho⟩
 refine Ot (G7 (kx w.params) X T.g T.b T.nolimit T.builtins ht T.bmain sys hg hmg ha haT hv (by omega)) (λv s' h=> ?_) λ_ _ f=>f.elim;obtain⟨rfl,h1,h2,h3⟩:=h;exact⟨.inl ⟨_,.bool true,[],rfl,λ_=>rfl,.bool true,by wrow_post,λ_=>⟨Sa,λ_ h=>by cases h⟩⟩,h1,h2,h3⟩
end Mine
theorem PySem.Challenge.cw_jp0011_01_holds : PySem.Challenge.rw_jp0011_01.Holds :=
 Mine.aax Mine.aaw
