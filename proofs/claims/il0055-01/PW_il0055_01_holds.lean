import PyProof.Rows.All
import Wide.All
import OpenK.AllK
import Wide.FinOn
import Lean
import PySem.Challenge.RW_il0055_01
set_option maxRecDepth 100000
set_option maxHeartbeats 0
set_option linter.all false
set_option Elab.async false
set_option compiler.extract_closed false
set_option bootstrap.genMatcherCode false
set_option genCtorIdx false
set_option genInjectivity false
set_option genSizeOf false
open PySem renaming wpAny_bind->AB,Around->AL,wpAny_pure->AP,checkBuiltinCall->AU,execs->Ac,Shared->Af,wpAny_mono->Av,codeAny_of_tree->BL,wpAny->BN,eval->Bf,assign->Bo,sizeLine_eq->Br,entryFor_of_tree->B2,wpAny_field->B9,rawInt->CL,entryFor->C1,wpAny_listPart->DF,wpAny_seqItems->DG,plainId_quiet->DH,wpAny_newObj_type->DS,wpAny_onRaise->DT,wpAny_standAt->DU,callSpecial?->ED,codeAny_call_builtin->EJ,theTreesLotGoes->EQ,wpAny_rule->Eo,codeAny_call_builtin_code->Ew,codeAny_builtin->Ez,noteFrame->E0,pyNext->FK,wpAny_setField->FU,table->FZ,codeAny_mono->Fm,letOwnedTupleGo->Fw,loadName->Fx,wpAny_execs_nil->Fy,seqIndex?->F4,wpAny_of_eq->GR,compareOp->Gf,wpAny_execs_cons->Gg,callSpecialIfBound?->Gs,Comprehension->Gz,wpAny_updateSeq->G9,ks_wpAt_execs_cons->HO,slot_listiter_next->HP,wpAny_listSubscript_int->HZ,listSliceParts_eq->H3,plainId->H4,wpAny_Try_finally->H5,wpAny_typeOf->H6,«wpAt»->Ia,builtinsNs->Ib,preSum->Ic,sliceIndices_raw->Ie,wpAny_isInstance->Ig,sliceBounds->I3,wpAny_tryStmt_except->I4,wpCode_mono->I5,wpAny_specialOf->I_,TriplesOk->JV,«compTurn»->J3,isInstance->J4,slice_no_index->J5,typeOf->J6,Builtin->KV,codeAny->Kd,slicePick_size_le->Ke,standAt->Kg,wpAny_Return_some->Kh,wpAny_holding->Kw,Args->LO,callWith->LX,getMethod->LY,seqItems?->LZ,whileTurn->Lz,wpAny_callSpecial?_slot->L0,wpAny_eqBool_int->L5,ks_wpAt_mono->Mh,pyIter->Mi,codeAny_call_function->M4,nsFind->N0,richCompare->N1,clausesOf->OH,strValues->OI,Flow->OV,wpAt_of_wpAny->OY,entry_listiter_next->OZ,ks_wpAt_Return_some->Oa,field->O0,ref_ne_byPass->O1,wpAny_attempt->O2,wpAny_handled->O3,IsPart->PY,args_listiter_next->Pd,execs_cons->Pe,tryCompare->Pf,Reads->Qd,arm_exec_Try->Qe,exec->Qf,model->Qg,raiseNew->Qi,wpAny_truthy_bool->Qj,InLong->RH,slicePick->RI,readyFrames->Ry,slicePicked->Rz,wpAny_letGo->R0,wpAny_mkStr->R1,wpAny_throw->R2,allTrue->SY,newList->Sa,call->UR,QuietGenTD->US,genEnv->UT,typeIs_int->UV,typeIs_str->UW
open List renaming length_map->AD,append_assoc->AG,getElem?_eq_getElem->AJ,getElem?_map->AQ,length_append->AX,map_append->AZ,getD_eq_getElem?_getD->Ad,range->Ah,append_nil->Aj,nil_append->Al,length_cons->Ap,mem_append_left->Ar,map_cons->Aw,mem_append_right->Ax,cons_append->A5,length_drop->A6,perm_append_comm->A9,perm_middle->BH,drop_eq_getElem_cons->BR,perm_append_singleton->Bm,map->B0,mem_of_getElem?->B4,getElem?_eq_none->B7,not_mem_nil->B_,map_congr_left->CA,mem_map_of_mem->CB,length_singleton->CF,mem_cons->CG,map_map->CK,take_append_drop->CQ,drop->Cd,perm_append_comm_assoc->Ce,getElem_mem->Cn,mem_singleton->Cv,foldl_cons->C0,length_take->C5,length->C7,replicate->DE,map_drop->Dk,drop_zero->Du,length_range->Dv,map_nil->EC,mem_of_mem_drop->EI,forIn_cons->EP,drop_eq_nil_of_le->EW,take_of_length_le->EX,sum_cons->Ea,getElem?_append_right->El,getElem?_append_left->Ev,filter_congr->FE,take_add_one->FF,map_take->F3,take_length->Gc,filter_sublist->Gr,length_nil->G5,nodup_cons->G6,sum_append->G7,getElem_range->HI,eraseIdx_append_of_length_le->Hd,drop_drop->Hy,ext_getElem?->Hz,getElem_cons_drop->H0,take_left->H1,getLast?_eq_some_getLast->I1,length_zip->I8,flatMap_append->JC,take_succ_cons->JD,dropWhile_cons_of_neg->Jv,dropWhile_cons_of_pos->Jw,drop_left->Jx,getElem?_drop->Jy,getElem?_zip_eq_some->J8,getLastD_eq_getLast?->J9,flatMap_cons->Ka,nodup_append->Kb,range'->Kc,eq_of_mem_replicate->Kt,getElem?_cons_succ->LR,getElem_zip->LS,pairwise_singleton->LU,take->LV,drop_of_length_le->MZ,extract->Ma,pairwise_lt_range->Mb,length_filter_le->M0,length_replicate->M1,lookup_cons_self->M2,drop_take->Nt,forIn_nil->Nu,mem_cons_of_mem->Nv,mem_range->Nw,length_reverse->OW,replicate_succ->OX,filter_append->PZ,length_mapIdx->Pa,zip_cons_cons->Pb,count_append->QW,flatten_cons->QX,foldl_append->QY,getLast?_map->QZ,sum_nil->Qa
open Nat renaming le_trans->AK,le_refl->Am,zero_le->By,le_of_lt->Cw,lt_irrefl->Dl,lt_of_lt_of_le->D8,le_succ->Eb,le_of_not_lt->Ec,lt_of_le_of_lt->Em,le_of_lt_succ->FG,zero_add->FH,le_add_left->Fv,le_add_right->Gd,le_of_eq->Ge,add_right_comm->HJ,lt_of_le_of_ne->HK,lt_succ_self->IZ,lt_of_not_le->LW,max->Mc,le_succ_of_le->Qb,sub_self->Qc
open List.Perm renaming swap->Ae,append_right->A8,cons->BY,append_left->CP,refl->EH
open Inhabited renaming default->Au
open PySem.Fin renaming done->Az,again->G8
open PySem.Builtin.List renaming listItems->A7,listSubscript?->Bb,listUpdate->Df,listFitsIndex->GP,listTooLong->Gy,listExtendWith->JM,listSameRef->Kr
open PySem.Txt renaming join->BB
open Bool renaming «false_ne_true»->BP,and_eq_true->FS,or_eq_false_iff->Iz,not_eq_true'->KU,«and_self»->Kq,and_eq_false_iff->Mz,false->UO
open PySem.Around renaming under_plainId->BX,frames_deeper->Nr
open PySem.Value renaming int->Be,ref->CC,none->CU,str->Co,«bool»->HM,type->HN
open PySem.Heap.SameBut renaming update->B1
open PySem.Flow renaming ret->B6,next->Dg,brk->LQ
open PySem.Heap renaming get?_update_self->CO,lt_size->Cf,get?_push_of_some->Cu,get?_push_size->FN,SameBut->QV
open PyProof.Rows renaming listItems_at->CR,AllBare->Hu,oneType'->Qh
open PySem.Builtin.Range renaming rangeSize->CS,small->Dw,rangeFitsLong->F7
open PySem.Unicode renaming «isSpace»->Cg
open PySem.Builtin.Getset_descriptor renaming descrCheckInstance->Cm
open Except renaming ok->Cs
open PySem.PyData renaming canLayAll0->DQ,depthAll->D2,canLay0->En,depth->Fl,str->HL,eqv->Mf,list->Nx
open PySem.MeetsSeq3 renaming plain_eq_loop->DR,entry_eq_loop->I2
open ForInStep renaming yield->DY
open Option.some renaming inj->DZ,injEq->EL
open OfNat renaming ofNat->Dh
open Int renaming toNat_natCast->Dt,natCast_nonneg->HH,lt_of_lt_of_le->PX,negSucc->Rx
open PySem.Builtin.Str renaming «strKind»->ES,occurrences->FT,«strSliceIndices»->JN,«glued»->KW,«strOf»->KY,partsBetween->Ks,«tooLong»->OU
open PySem.Sre renaming «Seen»->ET
open PySem.Calls renaming «spliced_cons»->Ek,«Name_function_global»->GQ,«callWith_builtin»->Hw,«spliced_nil»->Hx,«evalArgs_plain»->I0,«loadGlobal_global»->LP
open Array renaming all_eq_true_iff_forall_mem->FC,toList_extract->GO,size_append->Hv,getD->MY,getElem?_toList->My
open PySem.Code renaming builtin->FD,quiet_builtin->Ju,call->OG
open PySem.F renaming args_str_split_2->G1,entry_str_split->HX,slot_str_split->H2,args_str_getitem_2->J2,«entry_str_getitem»->J_,«slot_str_getitem»->Ku
open List.cons renaming injEq->G4,inj->Oy
open PySem.Sem renaming wp_call->HY,wp_runValue->I9,wp_bind'->Mg,wp_mono->Nz,wp_loadIfAlive->Pc
open PySem.AutoIntG6 renaming int___mod___int_int_1->IA
open ForIn renaming forIn->ID
open Function renaming comp->Il
open Prod.mk renaming injEq->Im
open PySem.Builtin renaming «divisionGoesByPylong»->I7,len->Mq,«sorted»->PW
open PySem.Str renaming ofString->JO
open PySem.Expr renaming Name->JU,Constant->Ox
open PySem.W renaming look_both->JW,kas_item->UU
open PySem.NameKind renaming «local»->Jz
open PySem.Obj renaming data_mapFields->J0,mapSeq->Me,isFreed_of_fields->M3,mapFields->Oz
open Option renaming isNone_none->J1
open PySem.StrLaws renaming «sliceIdx_none_hi»->Kv
open PySem.SeqAt renaming eqv_refl->Ny
open PySem.W.X renaming tableObj->N2
open PUnit renaming unit->UP
open Prod renaming fst->UQ
open PySem PySem.W PySem.W.X PyProof.Rows
namespace Mine
theorem ADt{p:Prop}(h:p:=by simp):p:=h
theorem ADp{p:Prop}(h:p:=by lia):p:=h
theorem ADq{p:Prop}(h:p:=by kernel_rfl):p:=h
theorem ADr{p:Prop}(h:p:=by decide+kernel):p:=h
theorem ADs{p:Prop}(h:p:=by decide):p:=h
abbrev Aa:=List (Nat×Nat)
abbrev BC:=List (Str×Value)
abbrev Db:=List (Str×Nat)
abbrev Ed:=List (Str×Str)
abbrev Ak:=List Value
abbrev Ay:=List Nat
abbrev Bs:=Array Value
abbrev DJ:=List DictEntry
abbrev Dx:=List Stmt
abbrev DP:=Option Value
noncomputable section
theorem La{a b:Nat}(h:a<=b):(a:Int)<=b:=Int.ofNat_le.mpr h
theorem Lb{a m n:Nat}{i:OfNat Nat n}(h:a<=@Dh Nat n i)(k:@Dh Nat n i<=m):a<=m:=AK h k
theorem Lc{a m n:Nat}{i:OfNat Nat n}(h:a<@Dh Nat n i)(k:@Dh Nat n i<=m+1):a<=m:=FG (D8 h k)
theorem Ld{a b c:Nat}(h:c=b)(k:a<=b):a<=c:=h▸k
theorem Le{a b c:Nat}(h:b=c)(k:a<=b):a<=c:=h▸k
theorem Lf{a b c:Nat}(h:a=b)(k:b<=c):a<=c:=h▸k
theorem Lg{a b n m:Nat}{i:OfNat Nat n}(h:a=b)(k:b<=@Dh Nat n i)(l:@Dh Nat n i<=m):a<=m:=h▸AK k l
theorem Lh{a b c:Nat}(h:a+(b+1)=c):a<c:=h▸Nat.lt_add_of_pos_right (Nat.succ_pos b)
theorem Li{a b c:Nat}(h:a+(b+1)=c):a+1+b=c:=(HJ a 1 b).trans h
theorem Lj{a b c:Nat}(h:c=b)(k:a<b):a<=c:=h▸Cw k
theorem Lk{a b c d:Nat}(h:a=b)(k:b=c)(l:c<=d):a<=d:=h▸k▸l
theorem Ll{a b c:Nat}(h:a+(b+1)<=c):a+1+b<=c:=AK (Ge (HJ a 1 b)) h
theorem Lm{a b:Nat}(h:¬a<b):¬(a:Int)<(b:Int):=λk=>h (Int.ofNat_lt.mp k)
theorem Ln{a n:Nat}(h:n<=a)(k:n≠0):a≠0:=λe=>k (Nat.le_zero.mp (e▸h))
theorem Lo{a b c:Nat}(h:b=c)(k:a<b):a<=c:=h▸Cw k
theorem Lp{a b c d:Nat}(h:a<b)(k:c<=a+(d+1)):c<=b+d:=by lia
theorem Lq{a b:Nat}(h:a<b):a+(b-a)=b:=Nat.add_sub_cancel' (Cw h)
theorem Lr{a b:Nat}(h:a≠b):(a:Int)≠(b:Int):=λe=>h (Int.ofNat.inj e)
theorem Ls{a b:Nat}:a+(b+1)=a+1+b:=(HJ a 1 b).symm
theorem Lt{a:Nat}:((a+1:Nat):Int)-1=a:=by lia
theorem Lu{a b n m:Nat}{i:OfNat Nat n}(h:a+(b+1)<=@Dh Nat n i)(k:@Dh Nat n i<=m+1):a<=m:=Nat.le_of_succ_le_succ (AK (AK (Nat.succ_le_succ (Gd a b)) h) k)
theorem Lv{a b c:Nat}(h:a+b<c):a<c:=Em (Gd a b) h
theorem Lw{a b n m k:Nat}{i:OfNat Nat n}{j:OfNat Nat m}(h:a<=@Dh Nat n i)(l:b<=@Dh Nat m j)(q:@Dh Nat n i+@Dh Nat m j<=k):a+b<=k:=AK (Nat.add_le_add h l) q
theorem Lx{a b c n m:Nat}{i:OfNat Nat n}(h:c<=a)(k:a<b)(l:b<=@Dh Nat n i)(q:@Dh Nat n i<=m+1):c<=m:=FG (Em h (D8 k (AK l q)))
theorem Ly{p:Prop}(h:p):p:=h
local macro_rules |`(tactic|lia)=>do
 let mut s <- `(tactic|contradiction)
 for n in "Nat.le_add_right Nat.le_of_lt_succ Nat.le_trans Nat.le_of_not_le Nat.add_comm Ls Lp Nat.lt_succ_of_le Lq Lo Lt Lx Lf Lr Lv Ll Lu Lw Ln Lk Lm Nat.le_of_not_lt Nat.le_refl Lc La Nat.le_succ_of_le Nat.lt_of_le_of_lt Nat.add_right_comm Lj Li Lh Nat.add_sub_cancel' Lg Le Ld Nat.le_of_lt Lb Nat.le_add_left Ly".splitOn do s <- `(tactic|first|(apply $(Lean.mkIdent n.toName)<;>first|assumption|decide)|$s:tactic)
 return s
theorem iN{M:Model}{A:AL}{α:Type}{Q:α->Af->Prop}{E:Value->Af->Prop}{s:Af}{c:Prop} [Decidable c]{t e:Sem α}(h: ¬c)(k:BN M A e Q E s):BN M A (if c then t else e) Q E s:=by rw[if_neg h];exact k
theorem iT{M:Model}{A:AL}{α:Type}{Q:α->Af->Prop}{E:Value->Af->Prop}{s:Af}{c:Prop} [Decidable c]{t e:Sem α}(h:c)(k:BN M A t Q E s):BN M A (if c then t else e) Q E s:=by rw[if_pos h];exact k
theorem iNb{M:Model}{A:AL}{α β:Type}{Q:β->Af->Prop}{E:Value->Af->Prop}{s:Af}{c:Prop} [Decidable c]{t e:Sem α}{f:α->Sem β}(h: ¬c)(k:BN M A (e>>=f) Q E s):BN M A ((if c then t else e)>>=f) Q E s:=by rw[if_neg h];exact k
theorem iTb{M:Model}{A:AL}{α β:Type}{Q:β->Af->Prop}{E:Value->Af->Prop}{s:Af}{c:Prop} [Decidable c]{t e:Sem α}{f:α->Sem β}(h:c)(k:BN M A (t>>=f) Q E s):BN M A ((if c then t else e)>>=f) Q E s:=by rw[if_pos h];exact k
structure G where
 hs:Nat->Int
 ks:Nat->Nat
 ep:Nat
 sl:Array DP
noncomputable def G0:G:=⟨λYa=>0,λYa=>0,0,⟨[]⟩⟩
inductive AO where
 |ex (o:Obj)
 |ns (cls:Value) (al:BC)
 |ls (cls:Value) (dict:Option Addr) (items:Ak)
noncomputable def Ot(g:G):Nat->BC->DJ
 |_,[]=>[]
 |i,(n,v)::r=>⟨g.hs i,.str n (g.ks i),v⟩::Ot g (i+1) r
def AO.obj(g:G):AO->Obj
 |.ex o=>o
 |.ns c al=>⟨c,none,.dict ⟨Ot g 0 al⟩ g.ep,g.sl⟩
 |.ls c d xs=>⟨c,d,.seq ⟨xs⟩ g.ep,⟨[]⟩⟩
def AO.is(ao:AO)(o:Obj):Prop:= ∃g,o=ao.obj g
noncomputable def K5:DJ->Option BC
 |[]=>some []
 |e::r=>match e.key with
  |.str n _=>(match K5 r with|some al=>some ((n,e.val)::al)|none=>none)
  |_=>none
def af(o:Obj):AO:=match o.data with
 |.seq xs _=>(match o.slots.toList with|[]=>.ls o.cls o.dict xs.toList|_=>.ex o)
 |.dict es _=>(match o.dict with|none=>(match K5 es.toList with|some al=>.ns o.cls al|none=>.ex o)|_=>.ex o)
 |_=>.ex o
theorem Rh: ∀{es:DJ} {al:BC},K5 es=some al-> ∃hs:Nat->Int,∃ks:Nat->Nat,∀i (g:G),(∀j,g.hs (i+j)=hs j)->(∀j,g.ks (i+j)=ks j)->es=Ot g i al
 |[],al,h=>by
  simp only[K5,EL] at h;subst h;exact⟨λYa=>0,λYa=>0,λYa Ya Ya Ya=>rfl⟩
 |e::r,al,h=>by
  obtain⟨hh,k,v⟩:=e;simp only[K5] at h
  split at h
  ·rename_i n t
   split at h
   ·rename_i qL he
    simp only[EL] at h;subst h;obtain⟨hs,ks,H⟩:=Rh he;refine⟨λj=>match j with|0=>hh|j+1=>hs j,λj=>match j with|0=>t|j+1=>ks j,λi g h1 h2=>?_⟩
    have a1:=h1 0;have a2:=h2 0;simp only[Nat.add_zero] at a1 a2;simp only[Ot,a1,a2,G4,true_and];refine H (i+1) g (λj=>?_) (λj=>?_)
    ·have:=h1 (j+1);rw[show i+(j+1)=i+1+j from by lia] at this;exact this
    ·have:=h2 (j+1);rw[show i+(j+1)=i+1+j from by lia] at this;exact this
   ·cases h
  ·cases h
theorem fM(o:Obj):(af o).is o:=by
 obtain⟨c,d,dt,⟨sl⟩⟩:=o;cases dt with
 |seq xs n=>
  cases sl with
  |nil=>exact⟨⟨λYa=>0,λYa=>0,n,⟨[]⟩⟩,rfl⟩
  |cons _ _=>exact⟨G0,rfl⟩
 |dict es n=>
  cases d with
  |some _=>exact⟨G0,rfl⟩
  |none=>
   unfold af
   dsimp only
   cases he:K5 es.toList with
   |none=>exact⟨G0,rfl⟩
   |some al=>
    obtain⟨hs,ks,H⟩:=Rh he;exact⟨⟨hs,ks,n,⟨sl⟩⟩,congrArg (λl=>(⟨c,none,.dict ⟨l⟩ n,⟨sl⟩⟩:Obj)) (H 0 ⟨hs,ks,n,⟨sl⟩⟩ (λj=>by simp) (λj=>by simp))⟩
 |_=>exact⟨G0,rfl⟩
def bN(o:Obj):Option AO:=match o.data with
 |.freed=>none
 |_=>some (af o)
theorem n5{α:Type}{a:α}{P:Prop}(h:none=some a):P:=nomatch h
theorem SQ{o:Obj}{ao:AO}(h:bN o=some ao):ao.is o/\o.isFreed=false:=by
 obtain⟨c,d,dt,sl⟩:=o;cases dt with
 |freed=>exact n5 h
 |_=>exact⟨DZ h▸fM _,rfl⟩
abbrev F6:=List (Addr×AO)
inductive Bi where
 |one (a:Addr) (ao:AO)
 |many (l:F6)
noncomputable def Bi.flat:Bi->F6
 |.one a ao=>[(a,ao)]
 |.many l=>l
abbrev AN:=List Bi
noncomputable def Ao:AN->F6
 |[]=>[]
 |e::r=>e.flat++Ao r
theorem An(L L':AN):Ao (L++L')=Ao L++Ao L':=by
 induction L with
 |nil=>rfl
 |cons e r ih=>simp only[A5,Ao,ih,AG]
theorem cz{L L':AN}(p:L.Perm L'):(Ao L).Perm (Ao L'):=by
 induction p with
 |nil=>exact .refl _
 |cons x _ ih=>exact ih.append_left _
 |swap x y l=>
  simp only[Ao,<-AG];exact List.perm_append_comm.append_right _
 |trans _ _ h1 h2=>exact h1.trans h2
def T5:List Addr:=[162,169,206,274,319]
structure Cx where
 w:World
 prog:Program
 s₁:Af
 top:Addr->Option Obj
 Hid:F6->Prop
 mu:List Addr
 Gn:Af->Prop
structure Cx.Ok(C:Cx):Prop where
 top: ∀a o,C.top a=some o->C.s₁.heap.get? a=some o/\a∉C.mu
 size:323<=C.s₁.heap.objs.size
 last: ∃a o,C.s₁.heap.get? a=some o/\a∉C.mu/\C.s₁.heap.objs.size<=a+1
abbrev Cx.M(C:Cx):Model:=Qg C.prog C.w
structure fL(C:Cx)(h:Heap)(L:F6):Prop where
 at_: ∀p∈L,∃o,h.get? p.1=some o/\p.2.is o
 nodup:(L.map (·.1)).Nodup
 new: ∀p∈L,p.1∈C.mu∨C.s₁.heap.get? p.1=none
structure St(C:Cx)(L:AN)(s:Af):Prop where
 old: ∀b o,C.s₁.heap.get? b=some o->b∉C.mu->s.heap.get? b=some o
 led: ∃H,C.Hid H/\fL C s.heap (Ao L++H)
 gens: ∀h t,s.toks<=t->C.Gn {s with heap:=h,toks:=t}
 os:s.os=C.s₁.os
 size:C.s₁.heap.objs.size<=s.heap.objs.size
theorem fL.perm{C:Cx}{h:Heap}{L L':F6}(XP:fL C h L)(p:L.Perm L'):fL C h L':=
 ⟨λx hx=>XP.at_ x (p.mem_iff.mpr hx),(p.map _).nodup_iff.mp XP.nodup,λx hx=>XP.new x (p.mem_iff.mpr hx)⟩
theorem St.BV{C:Cx}{s:Af}{L L':AN}(S:St C L s)(p:(Ao L).Perm (Ao L')):St C L' s:=
 let⟨H,hH,XP⟩:=S.led
 ⟨S.old,⟨H,hH,XP.perm (p.append_right H)⟩,S.gens,S.os,S.size⟩
theorem St.perm{C:Cx}{s:Af}{L L':AN}(S:St C L s)(p:L.Perm L'):St C L' s:=S.BV (cz p)
theorem St.drop{C:Cx}{s:Af}{L L':AN}(S:St C (L++L') s):St C L s:=by
 obtain⟨H,hH,XP⟩:=S.led;rw[An] at XP;refine⟨S.old,⟨H,hH,⟨λp hp=>XP.at_ p ?_,?_,λp hp=>XP.new p ?_⟩⟩,S.gens,S.os,S.size⟩
 ·rcases List.mem_append.mp hp with h|h
  ·exact Ar _ (Ar _ h)
  ·exact Ax _ h
 ·refine List.Sublist.nodup (List.Sublist.map _ ?_) XP.nodup
  exact List.Sublist.append (List.sublist_append_left (Ao L) (Ao L')) (List.Sublist.refl H)
 ·rcases List.mem_append.mp hp with h|h
  ·exact Ar _ (Ar _ h)
  ·exact Ax _ h
noncomputable def LD:AN->Nat->Option (Addr×AO)
 |[],_=>none
 |x::_,0=>(match x with|.one a ao=>some (a,ao)|.many _=>none)
 |_::r,i+1=>LD r i
noncomputable def Nb:AN->Nat->AO->AN
 |[],_,_=>[]
 |x::r,0,y=>(match x with|.one a _=>.one a y|.many l=>.many l)::r
 |x::r,i+1,y=>x::Nb r i y
noncomputable def QN:AN->Nat->Option (Bi×AN)
 |[],_=>none
 |x::r,0=>some (x,r)
 |x::r,i+1=>match QN r i with|some (y,r')=>some (y,x::r')|none=>none
noncomputable def Fq:Ay->AN->Option (AN×AN)
 |[],L=>some ([],L)
 |i::is,L=>match QN L i with
  |some (x,L')=>(match Fq is L' with|some (F,r)=>some (x::F,r)|none=>none)
  |none=>none
theorem Xv{L:AN}: ∀{i:Nat} {x:Bi} {r:AN},QN L i=some (x,r)->(x::r).Perm L:=by
 induction L with
 |nil=>intro i x r h;cases h
 |cons y L ih=>
  intro i x r h;cases i with
  |zero=>simp only[QN,EL,Im] at h;obtain⟨rfl,rfl⟩:=h;exact .refl _
  |succ i=>
   simp only[QN] at h
   split at h
   ·rename_i z r' he
    simp only[EL,Im] at h;obtain⟨rfl,rfl⟩:=h
    exact(Ae y z r').trans ((ih he).cons y)
   ·cases h
theorem PQ{ix:Ay}: ∀{L F r:AN},Fq ix L=some (F,r)->(F++r).Perm L:=by
 induction ix with
 |nil=>intro L F r h;simp only[Fq,EL,Im] at h;obtain⟨rfl,rfl⟩:=h;exact .refl _
 |cons i is ih=>
  intro L F r h;simp only[Fq] at h
  split at h
  ·rename_i x L' he
   split at h
   ·rename_i F' r' hp
    simp only[EL,Im] at h;obtain⟨rfl,rfl⟩:=h
    exact((ih hp).cons x).trans (Xv he)
   ·cases h
  ·cases h
theorem Tt{L:AN}{b:Addr}{ao:AO}: ∀{i:Nat},LD L i=some (b,ao)-> ∃pre post,L=pre++.one b ao::post/\ ∀y,Nb L i y=pre++.one b y::post:=by
 induction L with
 |nil=>intro i h;cases h
 |cons x r ih=>
  intro i h;cases i with
  |zero=>
   cases x with
   |one a ao'=>
    simp only[LD,EL,Im] at h;obtain⟨rfl,rfl⟩:=h;exact⟨[],r,rfl,λy=>rfl⟩
   |many l=>cases h
  |succ i=>
   obtain⟨pre,post,e,f⟩:=ih (i:=i) h;exact⟨x::pre,post,by rw[e];rfl,λy=>by show x::Nb r i y=_;rw[f];rfl⟩
section
variable{C:Cx}{s:Af}{L R:AN}
theorem fL.ne{h:Heap}{L:F6}(XP:fL C h L){p:Addr×AO}(hp:p∈L){b:Addr}{o:Obj}(hb:C.s₁.heap.get? b=some o)(hT:b∉C.mu):p.1≠b:=λe=>by
 rcases XP.new p hp with h|h
 ·exact hT (e▸h)
 ·rw[e,hb] at h;cases h
theorem St.Dj{b:Addr}{ao:AO}{L:AN}(S:St C (.one b ao::L) s): ∃g,s.heap.get? b=some (ao.obj g):=by
 obtain⟨H,_,XP⟩:=S.led;obtain⟨o,ho,g,rfl⟩:=XP.at_ (b,ao) (.head _);exact⟨g,ho⟩
theorem St.get(S:St C (L++R) s){i:Nat}{b:Addr}{ao:AO}(h:LD L i=some (b,ao)): ∃g,s.heap.get? b=some (ao.obj g):=by
 obtain⟨pre,post,e,_⟩:=Tt h;subst e
 refine(S.perm (L':=.one b ao::(pre++post++R)) ?_).Dj
 rw[AG,A5,AG];exact BH
theorem St.Np{b:Addr}{ao ao':AO}{h':Heap}{o':Obj}{t:Nat}(S:St C (.one b ao::L) s)(hs:QV b s.heap h')(ho:h'.get? b=some o')(ha:ao'.is o')(ht:s.toks<=t:=by exact Am _):
 St C (.one b ao'::L) {s with heap:=h',toks:=t}:=by
 obtain⟨H,hH,XP⟩:=S.led;have CD: ∀p∈Ao L++H,p.1≠b:=λp hp e=>by
  have:=XP.nodup
  rw[show Ao (Bi.one b ao::L)++H=(b,ao)::(Ao L++H) from rfl,Aw,G6] at this;exact this.1 (by show b∈_;rw[<-e];exact CB (f:=λx:Addr×AO=>x.1) hp)
 refine⟨λc oc hc hT=>?_,⟨H,hH,λp hp=>?_,XP.nodup,λp hp=>?_⟩,λh u hu=>S.gens h u (AK ht hu),S.os,?_⟩
 ·exact(hs.2 c (XP.ne (p:=(b,ao)) (.head _) hc hT).symm).trans (S.old c oc hc hT)
 ·rcases List.mem_cons.mp (show p∈(b,ao')::(Ao L++H) from hp) with rfl|hp
  ·exact⟨o',ho,ha⟩
  ·obtain⟨op,Td,hi⟩:=XP.at_ p (.tail _ hp)
   exact⟨op,(hs.2 _ (CD p hp)).trans Td,hi⟩
 ·rcases List.mem_cons.mp (show p∈(b,ao')::(Ao L++H) from hp) with rfl|hp
  ·exact XP.new (b,ao) (.head _)
  ·exact XP.new p (.tail _ hp)
 ·show C.s₁.heap.objs.size<=h'.objs.size
  rw[hs.1];exact S.size
theorem St.upd(S:St C (L++R) s){i:Nat}{b:Addr}{ao ao':AO}(h:LD L i=some (b,ao)){f:Obj->Obj}{o:Obj}(ho:s.heap.get? b=some o)(hf:(f o).isFreed=false)(ha:ao'.is (f o)):
 St C (Nb L i ao'++R) {s with heap:=s.heap.update b f}:=by
 obtain⟨pre,post,e,hp⟩:=Tt h;rw[hp ao'];subst e;have p1: ∀y,((pre++Bi.one b y::post)++R).Perm (Bi.one b y::(pre++post++R)):=λy=>by
  rw[AG,A5,AG];exact BH
 exact((S.perm (p1 ao)).Np (t:=s.toks) (B1 ..) (CO _ ho hf) ha).perm (p1 ao').symm
theorem St.alloc(S:St C L s){o:Obj}{ao:AO}(hf:o.isFreed=false)(ha:ao.is o):St C (.one s.heap.objs.size ao::L) {s with heap:=s.heap.push o}:=by
 obtain⟨H,hH,XP⟩:=S.led;refine⟨λc oc hc hT=>Cu _ (S.old c oc hc hT),⟨H,hH,?_⟩,S.gens,S.os,?_⟩
 ·refine⟨λp hp=>?_,?_,λp hp=>?_⟩
  ·rcases List.mem_cons.mp (show p∈(s.heap.objs.size,ao)::(Ao L++H) from hp) with rfl|hp
   ·exact⟨o,FN _ hf,ha⟩
   ·obtain⟨op,Td,hi⟩:=XP.at_ p hp
    exact⟨op,Cu _ Td,hi⟩
  ·show((s.heap.objs.size::(Ao L++H).map (·.1))).Nodup
   refine List.nodup_cons.mpr ⟨λhm=>?_,XP.nodup⟩;obtain⟨p,hp,e⟩:=List.mem_map.mp hm;obtain⟨op,Td,_⟩:=XP.at_ p hp;exact Dl _ (e▸Cf Td)
  ·rcases List.mem_cons.mp (show p∈(s.heap.objs.size,ao)::(Ao L++H) from hp) with rfl|hp
   ·right
    cases e:C.s₁.heap.get? s.heap.objs.size with
    |none=>rfl
    |some o'=>exact absurd (D8 (Cf e) S.size) (Dl _)
   ·exact XP.new p hp
 ·show C.s₁.heap.objs.size<=(s.heap.objs.push o).size
  rw[Array.size_push];exact Qb S.size
theorem St.toks(S:St C L s)(t:Nat)(ht:s.toks<=t):St C L {s with toks:=t}:=⟨S.old,S.led,λh u hu=>S.gens h u (AK ht hu),S.os,S.size⟩
end
theorem St.ext{C:Cx}(O:C.Ok){s s':Af}{L:AN}(S:St C L s)(hk: ∀b o,s.heap.get? b=some o->s'.heap.get? b=some o)(hg: ∀h t,s'.toks<=t->C.Gn {s' with heap:=h,toks:=t})(ho:s'.os=s.os):St C L s':=by
 obtain⟨H,hH,XP⟩:=S.led;have Rm: ∀b o,C.s₁.heap.get? b=some o->b∉C.mu->s'.heap.get? b=some o:=λb o h m=>hk b o (S.old b o h m);obtain⟨a,o,hl,hm,hz⟩:=O.last;exact⟨Rm,⟨H,hH,⟨λp hp=>let⟨o,h,i⟩:=XP.at_ p hp;⟨o,hk _ o h,i⟩,XP.nodup,XP.new⟩⟩,hg,ho.trans S.os,AK hz (Cf (Rm a o hl hm))⟩
theorem St.u6{C:Cx}(O:C.Ok){s s':Af}{L:AN}(S:St C L s){P:Addr}{o':Obj}(hP:P∈C.mu)(hk: ∀b o,b≠P->s.heap.get? b=some o->s'.heap.get? b=some o)
 (hn:s'.heap.get? P=some o') (hL: ∀H,C.Hid H->P∉H.map (·.1)->False)
 (hU: ∀H,C.Hid H->C.Hid (H.map λp=>if p.1=P then(P,.ex o') else p)) (hg: ∀h t,s'.toks<=t->C.Gn {s' with heap:=h,toks:=t}) (ho:s'.os=s.os):St C L s':=by
 obtain⟨H,hH,XP⟩:=S.led;have Rm: ∀b o,C.s₁.heap.get? b=some o->b∉C.mu->s'.heap.get? b=some o:=λb o h m=>hk b o (λe=>m (e▸hP)) (S.old b o h m);obtain⟨a,o,hl,hm,hz⟩:=O.last;have uU:P∈H.map (·.1):=Classical.byContradiction λh=>hL H hH h;have uT: ∀p∈Ao L,p.1≠P:=λp hp e=>by
  have:=XP.nodup
  rw[AZ,Kb] at this;exact this.2.2 p.1 (CB (f:=λx:Addr×AO=>x.1) hp) P uU e
 have e1:(H.map λp=>if p.1=P then(P,AO.ex o') else p).map (·.1)=H.map (·.1):=by
  rw[CK];refine CA λp _=>?_;simp only[Il]
  split
  ·rename_i h;exact h.symm
  ·rfl
 refine⟨Rm,⟨_,hU H hH,⟨λp hp=>?_,?_,λp hp=>?_⟩⟩,hg,ho.trans S.os,AK hz (Cf (Rm a o hl hm))⟩
 ·rcases List.mem_append.mp hp with h|h
  ·obtain⟨o,e,i⟩:=XP.at_ p (Ar _ h)
   exact⟨o,hk _ o (uT p h) e,i⟩
  ·obtain⟨q,hq,rfl⟩:=List.mem_map.mp h
   split
   ·exact⟨o',hn,G0,rfl⟩
   ·rename_i CD
    obtain⟨o,e,i⟩:=XP.at_ q (Ax _ hq);exact⟨o,hk _ o CD e,i⟩
 ·rw[AZ,e1,<-AZ];exact XP.nodup
 ·rcases List.mem_append.mp hp with h|h
  ·exact XP.new p (Ar _ h)
  ·obtain⟨q,hq,rfl⟩:=List.mem_map.mp h
   split
   ·exact .inl hP
   ·exact XP.new q (Ax _ hq)
theorem St.picked{C:Cx}{s:Af}{L R F r:AN}(S:St C (L++R) s){ix:Ay}(e:Fq ix L=some (F,r)):St C (F++R) s:=by
 have p:(L++R).Perm ((F++R)++r):=by
  refine((PQ e).symm.append_right R).trans ?_
  rw[AG,AG]
  exact(A9).append_left F
 exact(S.perm p).drop
theorem pk{C:Cx}{L F r:AN}(ix:Ay)(e:Fq ix L=some (F,r)): ∀R s,St C (L++R) s->St C (F++R) s:=λYa Ya S=>S.picked e
theorem IM{L:AN}{x:Addr×AO}: ∀(i:Nat),L[i]? =some (.one x.1 x.2)->x∈Ao L:=by
 induction L with
 |nil=>intro i h;cases h
 |cons y L ih=>
  intro i h;cases i with
  |zero=>cases h;exact .head _
  |succ i=>exact Ax _ (ih i h)
def AC(C:Cx)(A:AL){α:Type}(t:Sem α)(L:AN){X:Type}(res:X->α)(led:X->AN):Prop:=
 ∀R s,St C (L++R) s->BN C.M A t (λa s'=> ∃x,a=res x/\St C (led x++R) s') (λYa Ya=>False) s
theorem AC.wp{C:Cx}{A:AL}{α:Type}{t:Sem α}{L R:AN}{X:Type}{res:X->α}{led:X->AN}{Q:α->Af->Prop}{E:Value->Af->Prop}{s:Af}(h:AC C A t L res led)(S:St C (L++R) s)(g: ∀x s',St C (led x++R) s'->Q (res x) s'):BN C.M A t Q E s:=Av (h R s S) (λYa s' ⟨x,e,S'⟩=>e▸g x s' S') λYa Ya q=>q.elim
noncomputable def Qm(c:Code):Sem Result:=.call c none false [] .pure
def Bv(C:Cx)(A:AL)(c:Code)(F:AN){X:Type}(res:X->Result)(led:X->AN):Prop:=AC C A (Qm c) F res led
theorem Bu{C:Cx}{A:AL}{c:Code}{F:AN}{X:Type}{res:X->Result}{led:X->AN}
 (h: ∀R s,St C (F++R) s->Kd C.M A c (λr s'=> ∃x,r=res x/\St C (led x++R) s') s):Bv C A c F res led:=λR s S=>by
 refine y_start _ _ _ _ _ _ _ _ _ _ _ _ ?_ ?_
 ·intro q;cases q
 ·exact Fm (h R s S) λr s' hx=>x_pure hx
theorem G2{C:Cx}{A:AL}{f:Value}{pos:Ak}{kw:BC}{F:AN}{X:Type}{val:X->Value}{led:X->AN}
 (h:AC C A (call f pos kw) F val led):Bv C A (.call f ⟨pos,kw⟩) F (λx=>.ok (.ret (val x))) led:=λR s S Γ p hΓ=>by
 have q:=h R s S Γ p hΓ;unfold UR at q;rw[I9] at q;show Sem.wp _ Γ (.call _ none false [] .pure) _ _ p s;rw[HY];refine I5 (λr s' hr=>?_) q
 show∃x,r=_/\_
 cases r with
 |error e=>exact hr.elim
 |ok f=>cases f with
  |ret v=>exact hr.elim λx h=>⟨x,congrArg (λv=>Cs (B6 v)) h.1,h.2⟩
  |_=>exact hr.elim
structure Ag(C:Cx)(A:AL) where
 c:Code
 F:AN
 X:Type
 res:X->Result
 led:X->AN
 ok:Bv C A c F res led
inductive D5(C:Cx)(A:AL)(X:Type):Type 1 where
 |fi (x:X) (ix:Ay)
 |go (n:Nat) (r:D5 C A X)
 |up (i:Nat) (r:D5 C A X)
 |al (r:Addr->D5 C A X)
 |fr (r:Nat->D5 C A X)
 |sk (r:D5 C A X)
 |cc (K:Ag C A) (ix:Ay) (r:K.X->D5 C A X)
abbrev xu(C:Cx)(A:AL)(X:Type):=D5 C A X->AN->(Nat->G)->Prop
def Hj(C:Cx)(A:AL)(Ir:DP){α X:Type}(Q:α->AN->Prop)(E:Value->AN->Prop)(t:Sem α):xu C A X:=
 @Sem.rec α (λYa=>xu C A X)
  (λa sc L _=>match sc with
   |.fi _ ix=>(match Fq ix L with|some (F,_)=>Q a F|none=>False)
   |_=>False)
  (λe sc L _=>match sc with
   |.fi _ ix=>(match Fq ix L with|some (F,_)=>E e F|none=>False)
   |_=>False)
  (λYa Ya Ya Ya=>False)
  (λYa Ya Ya Ya=>False)
  (λYa Ya ih=>ih ())
  (λYa Ya ih=>ih ())
  (λa _ _ ih sc L g=>match sc with
   |.go n r=>(match n with
    |0=>(match C.top a with|some o=>ih o r L g|none=>False)
    |i+1=>(match LD L i with|some (b,ao)=>a=b/\ih (ao.obj (g 0)) r L (λm=>g (m+1))|none=>False))
   |_=>False)
  (λa _ f _ ih sc L g=>match sc with
   |.up i r=>(match LD L i with
    |some (b,ao)=>(match bN (f (ao.obj (g 0))) with
     |some ao'=>a=b/\ih () r (Nb L i ao') (λm=>g (m+1))
     |none=>False)
    |none=>False)
   |_=>False)
  (λo _ ih sc L g=>match sc with
   |.al r=>(match bN o with|some ao=> ∀a:Nat,ih (a+323) (r a) (.one (a+323) ao::L) g|none=>False)
   |_=>False)
  (λa _ ih sc L g=>match sc with
   |.go n r=>(match n with
    |0=>(match C.top a with|some o=>ih (some o) r L g|none=>False)
    |i+1=>(match LD L i with|some (b,ao)=>a=b/\ih (some (ao.obj (g 0))) r L (λm=>g (m+1))|none=>False))
   |_=>False)
  (λYa Ya ih=>ih ())
  (λYa Ya Ya Ya Ya Ya=>False)
  (λYa ih sc L g=>match sc with
   |.fr r=> ∀t:Nat,ih t (r t) L g
   |_=>False)
  (λYa ih=>ih ⟨C.prog,C.w.params⟩)
  (λYa Ya Ya Ya Ya Ya Ya=>False)
  (λYa Ya Ya Ya Ya Ya Ya=>False)
  (λc hd _ _ _ ih sc L g=>match sc with
   |.cc K ix r=>(match hd with
    |none=>(match Fq ix L with
     |some (F,rest)=>c=K.c/\F=K.F/\ ∀x,ih (K.res x) (r x) (K.led x++rest) g
     |none=>False)
    |some _=>False)
   |_=>False)
  (λown _ ih=>match own with|false=>ih Ir|true=>λYa Ya Ya=>False)
  (λYa Ya Ya Ya Ya Ya=>False)
  (λYa Ya Ya Ya Ya Ya=>False)
  (λYa Ya Ya Ya Ya Ya Ya Ya=>False)
  (λYa Ya Ya Ya Ya Ya Ya Ya=>False)
  (λk ih sc L g=>match sc with
   |.sk r=>(∀st,Lies A st->k st=k [])/\ih [] r L g
   |_=>False)
  (λYa Ya Ya Ya Ya Ya=>False)
  (λYa Ya Ya Ya Ya=>False)
  (λYa Ya Ya Ya Ya Ya Ya Ya Ya=>False)
  t
theorem Around.mark_none(A:AL):A.mark none=A:=rfl
abbrev Po(C:Cx)(R:AN){α:Type}(Q:α->AN->Prop)(a:α)(s':Af):Prop:= ∃L',Q a L'/\St C (L'++R) s'
theorem P0{C:Cx}(O:C.Ok){A:AL}{Ir:DP}(U:A.handled=Ir){α X:Type}{Q:α->AN->Prop}{E:Value->AN->Prop}(t:Sem α):
 ∀(sc:D5 C A X) L R s,(∀g,Hj C A Ir Q E t sc L g)->St C (L++R) s->
  BN C.M A t (Po C R Q) (Po C R E) s:=by
 induction t with
 |pure a=>
  intro sc L R s h S;cases sc with
  |fi _ ix=>
   have h':(match Fq ix L with|some (F,_)=>Q a F|none=>False):=h λYa=>G0
   cases e:Fq ix L with
   |none=>rw[e] at h';exact h'.elim
   |some x=>
    obtain⟨F,r⟩:=x;rw[e] at h';exact x_pure ⟨F,h',S.picked e⟩
  |_=>exact(h λYa=>G0).elim
 |raise a=>
  intro sc L R s h S;cases sc with
  |fi _ ix=>
   have h':(match Fq ix L with|some (F,_)=>E a F|none=>False):=h λYa=>G0
   cases e:Fq ix L with
   |none=>rw[e] at h';exact h'.elim
   |some x=>
    obtain⟨F,r⟩:=x;rw[e] at h';exact x_raise ⟨F,h',S.picked e⟩
  |_=>exact(h λYa=>G0).elim
 |unsupported=>exact λsc L R s h S=>(h λYa=>G0).elim
 |finish=>exact λsc L R s h S=>(h λYa=>G0).elim
 |rule _ k ih=>exact λsc L R s h S=>x_rule (ih () sc L R s h S)
 |«at» _ k ih=>exact λsc L R s h S=>x_at (ih () sc L R s h S)
 |point _ k ih=>exact λsc L R s h S=>x_point (ih () sc L R s h S)
 |ask k ih=>exact λsc L R s h S=>x_ask (ih _ sc L R s h S)
 |load a p k ih=>
  intro sc L R s h S;cases sc with
  |go n r=>
   cases n with
   |zero=>
    have h': ∀g:Nat->G,(match C.top a with|some o=>Hj C A Ir Q E (k o) r L g|none=>False):=h
    cases e:C.top a with
    |none=>have:=h' λYa=>G0;rw[e] at this;exact this.elim
    |some o=>
     simp only[e] at h';have ho:=(O.top a o e);exact AB (m:=loadPart a p) (f:=k) (wpAny_loadPart (S.old a o ho.1 ho.2) (ih o r L R s h' S))
   |succ i=>
    have h': ∀g:Nat->G,(match LD L i with|some (b,ao)=>a=b/\Hj C A Ir Q E (k (ao.obj (g 0))) r L (λm=>g (m+1))|none=>False):=h
    cases e:LD L i with
    |none=>have:=h' λYa=>G0;rw[e] at this;exact this.elim
    |some x=>
     obtain⟨b,ao⟩:=x;simp only[e] at h';obtain⟨g₀,hg⟩:=S.get e;have U5:=(h' λYa=>G0).1;subst U5;refine AB (m:=loadPart a p) (f:=k) (wpAny_loadPart hg (ih _ r L R s (λg=>?_) S))
     exact(h' λm=>match m with|0=>g₀|m+1=>g m).2
  |_=>exact(h λYa=>G0).elim
 |update a p f k ih=>
  intro sc L R s h S;cases sc with
  |up i r=>
   have h': ∀g:Nat->G,(match LD L i with
    |some (b,ao)=>(match bN (f (ao.obj (g 0))) with
     |some ao'=>a=b/\Hj C A Ir Q E (k ()) r (Nb L i ao') (λm=>g (m+1))
     |none=>False)
    |none=>False):=h
   cases e:LD L i with
   |none=>have:=h' λYa=>G0;rw[e] at this;exact this.elim
   |some x=>
    obtain⟨b,ao⟩:=x;simp only[e] at h';obtain⟨g₀,hg⟩:=S.get e;have key: ∀g:Nat->G,∃ao',bN (f (ao.obj g₀))=some ao'/\a=b/\Hj C A Ir Q E (k ()) r (Nb L i ao') g:=λg=>by
     have:=h' λm=>match m with|0=>g₀|m+1=>g m
     split at this
     ·rename_i ao' he;exact⟨ao',he,this⟩
     ·exact this.elim
    obtain⟨ao',hc,U5,_⟩:=key λYa=>G0;subst U5;have hk: ∀g,Hj C A Ir Q E (k ()) r (Nb L i ao') g:=λg=>by
     obtain⟨AAt,mD,_,hd⟩:=key g;rw[hc] at mD;cases mD;exact hd
    exact AB (m:=updatePart a p f) (f:=k) (wpAny_updatePart hg (ih () r _ R _ hk (S.upd e hg (SQ hc).2 (SQ hc).1)))
  |_=>exact(h λYa=>G0).elim
 |alloc o k ih=>
  intro sc L R s h S;cases sc with
  |al r=>
   have h': ∀g:Nat->G,(match bN o with|some ao=> ∀a:Nat,Hj C A Ir Q E (k (a+323)) (r a) (.one (a+323) ao::L) g|none=>False):=h
   cases e:bN o with
   |none=>have:=h' λYa=>G0;rw[e] at this;exact this.elim
   |some ao=>
    simp only[e] at h';have hz:s.heap.objs.size=(s.heap.objs.size-323)+323:=by have:=S.size;have:=O.size;lia
    refine AB (m:=alloc o) (f:=k) (wpAny_alloc ?_);have S':=S.alloc (SQ e).2 (SQ e).1;rw[hz] at S'⊢;exact ih _ _ _ R _ (λg=>h' g _) S'
  |_=>exact(h λYa=>G0).elim
 |loadIfAlive a k ih=>
  intro sc L R s h S;cases sc with
  |go n r=>
   cases n with
   |zero=>
    have h': ∀g:Nat->G,(match C.top a with|some o=>Hj C A Ir Q E (k (some o)) r L g|none=>False):=h
    cases e:C.top a with
    |none=>have:=h' λYa=>G0;rw[e] at this;exact this.elim
    |some o=>
     simp only[e] at h';have ho:=(O.top a o e);refine λΓ p hΓ=>?_;rw[Pc,S.old a o ho.1 ho.2];exact ih (some o) r L R s h' S Γ p hΓ
   |succ i=>
    have h': ∀g:Nat->G,(match LD L i with|some (b,ao)=>a=b/\Hj C A Ir Q E (k (some (ao.obj (g 0)))) r L (λm=>g (m+1))|none=>False):=h
    cases e:LD L i with
    |none=>have:=h' λYa=>G0;rw[e] at this;exact this.elim
    |some x=>
     obtain⟨b,ao⟩:=x;simp only[e] at h';obtain⟨g₀,hg⟩:=S.get e;have U5:=(h' λYa=>G0).1;subst U5;refine λΓ p hΓ=>?_;rw[Pc,hg];exact ih _ r L R s (λg=>(h' λm=>match m with|0=>g₀|m+1=>g m).2) S Γ p hΓ
  |_=>exact(h λYa=>G0).elim
 |register=>exact λsc L R s h S=>(h λYa=>G0).elim
 |fresh k ih=>
  intro sc L R s h S;cases sc with
  |fr r=>
   refine AB (m:=fresh) (f:=k) (wpAny_fresh ?_);exact ih _ _ L R _ (λg=>(h g: ∀t:Nat,Hj C A Ir Q E (k t) (r t) L g) s.toks) ⟨S.old,S.led,λh u hu=>S.gens h u (Nat.le_of_succ_le hu),S.os,S.size⟩
  |_=>exact(h λYa=>G0).elim
 |choose=>exact λsc L R s h S=>(h λYa=>G0).elim
 |os=>exact λsc L R s h S=>(h λYa=>G0).elim
 |call c hd gd l k ih=>
  intro sc L R s h S;cases sc with
  |cc K ix r=>
   cases hd with
   |some=>exact(h λYa=>G0).elim
   |none=>
    have h': ∀g:Nat->G,(match Fq ix L with
     |some (F,rest)=>c=K.c/\F=K.F/\ ∀x,Hj C A Ir Q E (k (K.res x)) (r x) (K.led x++rest) g
     |none=>False):=h
    cases e:Fq ix L with
    |none=>have:=h' λYa=>G0;rw[e] at this;exact this.elim
    |some x=>
     obtain⟨F,rest⟩:=x;simp only[e] at h';have S':St C (F++(rest++R)) s:=by
      rw[<-AG];exact S.perm ((PQ e).symm.append_right R)
     obtain⟨rfl,rfl,_⟩:=h' λYa=>G0;intro Γ p hΓ;have q:=K.ok (rest++R) s S' Γ p hΓ;unfold Qm at q;rw[HY] at q⊢;refine I5 (λr' s' hx=>?_) q;obtain⟨x,rfl,Sx⟩:=hx;rw[<-AG] at Sx;exact ih _ _ _ R s' (λg=>(h' g).2.2 x) Sx Γ p hΓ
  |_=>exact(h λYa=>G0).elim
 |handled own k ih=>
  intro sc L R s h S;cases own with
  |true=>exact(h λYa=>G0).elim
  |false=>
   refine AB (m:=handled) (f:=k) (O3 ?_);rw[U];exact ih Ir sc L R s h S
 |newGen=>exact λsc L R s h S=>(h λYa=>G0).elim
 |genState=>exact λsc L R s h S=>(h λYa=>G0).elim
 |resume=>exact λsc L R s h S=>(h λYa=>G0).elim
 |yield=>exact λsc L R s h S=>(h λYa=>G0).elim
 |stack k ih=>
  intro sc L R s h S;cases sc with
  |sk r=>
   have h': ∀g,(∀st,Lies A st->k st=k [])/\Hj C A Ir Q E (k []) r L g:=h;intro Γ p hΓ;rw[Sem.wp_stack,(h' λYa=>G0).1 _ (lies_of hΓ)];exact ih [] r L R s (λg=>(h' g).2) S Γ p hΓ
  |_=>exact(h λYa=>G0).elim
 |fork=>exact λsc L R s h S=>(h λYa=>G0).elim
 |thread=>exact λsc L R s h S=>(h λYa=>G0).elim
 |await=>exact λsc L R s h S=>(h λYa=>G0).elim
def Ty(C:Cx)(A:AL){α X:Type}(res:X->α)(led:X->AN)(sc:D5 C A X):AN->Prop:=
 @D5.rec C A X (λYa=>AN->Prop)
  (λx _ _=> ∃y,res x=res y/\led x=led y)
  (λn _ ih L=>match n with|0=>ih L|i+1=>(match LD L i with|some (b,_)=>b=b/\ih L|none=>True))
  (λi _ ih L=>match LD L i with|some (b,_)=>b=b/\ih L|none=>True)
  (λYa ih L=> ∀a:Nat,ih a (.one (a+323) (.ns .none [])::L))
  (λYa ih L=> ∀t:Nat,ih t L)
  (λYa Ya Ya=>True)
  (λK ix _ ih L=>match Fq ix L with|some (_,rest)=>K.c=K.c/\K.F=K.F/\ ∀x,ih x (K.led x++rest)|none=>True)
  sc
theorem j9{C:Cx}{A:AL}{α X:Type}(res:X->α)(led:X->AN)(sc:D5 C A X): ∀L,Ty C A res led sc L:=by
 induction sc with
 |fi x ix=>exact λYa=>⟨x,rfl,rfl⟩
 |go n r ih=>
  intro L;cases n with
  |zero=>exact ih L
  |succ i=>
   show(match LD L i with|some (b,_)=>b=b/\Ty C A res led r L|none=>True)
   cases LD L i with
   |none=>trivial
   |some q=>exact⟨rfl,ih L⟩
 |up i r ih=>
  intro L
  show(match LD L i with|some (b,_)=>b=b/\Ty C A res led r L|none=>True)
  cases LD L i with
  |none=>trivial
  |some q=>exact⟨rfl,ih L⟩
 |al r ih=>exact λL a=>ih a _
 |fr r ih=>exact λL t=>ih t L
 |sk r ih=>exact λYa=>trivial
 |cc K ix r ih=>
  intro L
  show(match Fq ix L with|some (_,rest)=>K.c=K.c/\K.F=K.F/\ ∀x,Ty C A res led (r x) (K.led x++rest)|none=>True)
  cases Fq ix L with
  |none=>trivial
  |some q=>exact⟨rfl,rfl,λx=>ih x _⟩
noncomputable def D5.gf{C:Cx}{A:AL}{X:Type}(f:Nat):Nat->D5 C A X->D5 C A X:=
 Nat.rec (λYa r=>r) (λYa ih n r=>cond (Nat.beq n 1) r (cond (Nat.ble 32 (Nat.mod n 64)) (.up (Nat.sub (Nat.mod n 64) 32) (ih (Nat.div n 64) r)) (.go (Nat.mod n 64) (ih (Nat.div n 64) r)))) f
def D5.g{C:Cx}{A:AL}{X:Type}(n:Nat)(r:D5 C A X):D5 C A X:=D5.gf 1000 n r
def QQ{α X:Type}(res:X->α)(led:X->AN)(a:α)(F:AN):Prop:= ∃x,a=res x/\F=led x
def NQ{α:Type}(_:α)(_:AN):Prop:=False
def eE(p:(Nat->G)->Prop):Prop:= ∀g,p g
def sw(p:Prop):Prop:= ∀_:Nat->G,p
abbrev H8(C:Cx)(A:AL)(Ir:DP){α X:Type}(res:X->α)(led:X->AN)(t:Sem α)(sc:D5 C A X)(L:AN):Prop:=eE (Hj C A Ir (QQ res led) NQ t sc L)=sw (Ty C A res led sc L)
abbrev VK(C:Cx)(A:AL)(Ir:DP){α X:Type}(exc:X->Value)(led:X->AN)(t:Sem α)(sc:D5 C A X)(L:AN):Prop:=eE (Hj C A Ir NQ (QQ exc led) t sc L)=sw (Ty C A exc led sc L)
theorem Ga{C:Cx}(O:C.Ok){A:AL}{Ir:DP}(U:A.handled=Ir){α:Type}{t:Sem α}{L:AN}{X:Type}{res:X->α}{led:X->AN}(sc:D5 C A X)(h:H8 C A Ir res led t sc L):AC C A t L res led:=λR s S=>
 Av (P0 O U (Q:=QQ res led) (E:=NQ) t sc L R s ((show eE _ from h▸λYa=>j9 res led sc L)) S) (λa s' ⟨_,⟨x,ha,hF⟩,S'⟩=>⟨x,ha,hF▸S'⟩) λYa Ya ⟨_,hf,_⟩=>hf
noncomputable def HV(p:Program)(i:Nat):Stmt:=p.main.body.getD i (.Pass Au)
noncomputable def uS:Stmt->List Expr×List Dx×Pos×Scope×List Str×Arguments×List ExceptHandler
 |.ClassDef _ _ _ b _ _ s _ _ t p=>([],[b],p,s,t,Au,[])
 |.FunctionDef n a b _ _ _ s _ _ p=>([],[b],p,s,[n],a,[])
 |.Assign _ v p=>([v],[],p,Au,[],Au,[])
 |.Return v p=>(v.toList,[],p,Au,[],Au,[])
 |.Expr v p=>([v],[],p,Au,[],Au,[])
 |.While t b o p=>([t],[b,o],p,Au,[],Au,[])
 |.If t b o p=>([t],[b,o],p,Au,[],Au,[])
 |.For t v b o p=>([v,t],[b,o],p,Au,[],Au,[])
 |.Try b h _ o p=>([],[b,o],p,Au,[],Au,h)
 |_=>([],[],Au,Au,[],Au,[])
noncomputable def uE:Expr->List Expr×Pos×Scope×Arguments
 |.Subscript v _ p=>([v],p,Au,Au)
 |.UnaryOp _ v p=>([v],p,Au,Au)
 |.ListComp v g s p=>(v::g.flatMap λx=>x.target::x.iter::x.ifs,p,s,Au)
 |.Tuple l _ p=>(l,p,Au,Au)
 |.BoolOp _ l p=>(l,p,Au,Au)
 |.Call _ l k p=>(l++k.map (·.value),p,Au,Au)
 |.Compare l _ r p=>(l::r,p,Au,Au)
 |.Lambda a e s p=>([e],p,s,a)
 |_=>([],Au,Au,Au)
noncomputable def O6(s:Stmt):Dx:=(uS s).2.1.headD []
noncomputable def Go(p:Program)(i j:Nat):Stmt:=(O6 (HV p i)).getD j (.Pass Au)
noncomputable def vv(s:Stmt):Str:=(uS s).2.2.2.2.1.headD ""
noncomputable def t_(s:Stmt):Arguments:=(uS s).2.2.2.2.2.1
noncomputable def ey(s:Stmt):Scope:=(uS s).2.2.2.1
def oJ(s:Stmt):Pos:=(uS s).2.2.1
noncomputable def K1(st:Stmt)(qual:Str)(gl:Addr)(cl:List (Str×Addr))(dV kV doc pm:Value)(an:Option Addr)(cd clT:Value)(bu:Addr):FuncData:=
 {name:=vv st,qualname:=qual,params:=t_ st,body:=.stmts (O6 st),scope:=ey st,globals:=gl,closure:=cl,defaults:=dV,kwdefaults:=kV,
  doc:=doc,pyModule:=pm,annotations:=an,code:=cd,closureTuple:=clT,builtins:=bu}
noncomputable abbrev p:Program:=PySem.Challenge.pw_il0055_01
noncomputable def vE(s:Stmt):Expr:=(uS s).1.headD Au
noncomputable def tE(s:Stmt):Expr:=(uS s).1.getD 1 Au
noncomputable abbrev nB:Stmt->Dx:=O6
noncomputable def nO(s:Stmt):Dx:=(uS s).2.1.getD 1 []
noncomputable def nH(s:Stmt):List ExceptHandler:=(uS s).2.2.2.2.2.2
noncomputable def hS(l:Dx)(k:Nat):Stmt:=l.getD k (.Pass Au)
noncomputable def sN(i k:Nat):Stmt:=hS (O6 (HV p i)) k
noncomputable def mN(i j k:Nat):Stmt:=hS (O6 (Go p i j)) k
noncomputable def el(e:Expr)(k:Nat):Expr:=(uE e).1.getD k Au
noncomputable abbrev o4(e:Expr):Expr:=el e 0
def U3(e:Expr):Pos:=(uE e).2.1
def Gh(e:Expr):Scope:=(uE e).2.2.1
noncomputable def co(n q:Str)(t l a p k f r s:Nat)(v w x y:Value)(c:Nat):Obj:=⟨.type "code",none,.fields ⟨[.str n t,.str q (t+1),.str "/claim/cut.py" (t+2),.int l 0,.int a 0,.int p 0,.int k 0,.int f 0,.ref r,.bool true,.int 276 0,.ref s,v,w,x,y,.int c 0,.int l 0,.str "/claim/cut.py" (c+1)]⟩,⟨[]⟩⟩
noncomputable def fo(st:Stmt)(q:Str)(c:Nat):Obj:=⟨.type "function",none,.func (K1 st q 3 [] .none .none .none (.str "law_il0055_01" 581) none (.ref c) .none 0),⟨[]⟩⟩
noncomputable def lf(a n:Nat)(o:Obj):Option Obj:=cond (Nat.beq a n) (some o) none
noncomputable def nd(a n:Nat)(x y:Option Obj):Option Obj:=cond (Nat.blt a n) x y
noncomputable def kE(P:Params)(n:Str)(k:Nat)(v:Value):DictEntry:=⟨PyData.keyHash P n,.str n k,v⟩
def bl0(P:Params)(r:DJ):DJ:=kE P "__name__" 1 (.str "builtins" 160)::kE P "__doc__" 2 (.builtin "builtins.__doc__:str#opaque")::kE P "__package__" 3 (.builtin "builtins.__package__:str#opaque")::kE P "__loader__" 4 (.builtin "builtins.__loader__:shared#opaque")::kE P "__spec__" 5 (.builtin "builtins.__spec__#opaque")::r
def bl1(P:Params)(r:DJ):DJ:=kE P "__build_class__" 6 (.builtin "__build_class__")::kE P "__import__" 7 (.builtin "__import__")::kE P "abs" 8 (.builtin "abs")::kE P "all" 9 (.builtin "all")::kE P "any" 10 (.builtin "any")::r
def bl2(P:Params)(r:DJ):DJ:=kE P "ascii" 11 (.builtin "ascii")::kE P "bin" 12 (.builtin "bin")::kE P "breakpoint" 13 (.builtin "breakpoint")::kE P "callable" 14 (.builtin "callable")::kE P "chr" 15 (.builtin "chr")::r
def bl3(P:Params)(r:DJ):DJ:=kE P "compile" 16 (.builtin "compile")::kE P "delattr" 17 (.builtin "delattr")::kE P "dir" 18 (.builtin "dir")::kE P "divmod" 19 (.builtin "divmod")::kE P "eval" 20 (.builtin "eval")::r
def bl4(P:Params)(r:DJ):DJ:=kE P "exec" 21 (.builtin "exec")::kE P "format" 22 (.builtin "format")::kE P "getattr" 23 (.builtin "getattr")::kE P "globals" 24 (.builtin "globals")::kE P "hasattr" 25 (.builtin "hasattr")::r
def bl5(P:Params)(r:DJ):DJ:=kE P "hash" 26 (.builtin "hash")::kE P "hex" 27 (.builtin "hex")::kE P "id" 28 (.builtin "id")::kE P "input" 29 (.builtin "input")::kE P "isinstance" 30 (.builtin "isinstance")::r
def bl6(P:Params)(r:DJ):DJ:=kE P "issubclass" 31 (.builtin "issubclass")::kE P "iter" 32 (.builtin "iter")::kE P "aiter" 33 (.builtin "aiter")::kE P "len" 34 (.builtin "len")::kE P "locals" 35 (.builtin "locals")::r
def bl7(P:Params)(r:DJ):DJ:=kE P "max" 36 (.builtin "max")::kE P "min" 37 (.builtin "min")::kE P "next" 38 (.builtin "next")::kE P "anext" 39 (.builtin "anext")::kE P "oct" 40 (.builtin "oct")::r
def bl8(P:Params)(r:DJ):DJ:=kE P "ord" 41 (.builtin "ord")::kE P "pow" 42 (.builtin "pow")::kE P "print" 43 (.builtin "print")::kE P "repr" 44 (.builtin "repr")::kE P "round" 45 (.builtin "round")::r
def bl9(P:Params)(r:DJ):DJ:=kE P "setattr" 46 (.builtin "setattr")::kE P "sorted" 47 (.builtin "sorted")::kE P "sum" 48 (.builtin "sum")::kE P "vars" 49 (.builtin "vars")::kE P "None" 50 .none::r
def yE(P:Params)(r:DJ):DJ:=kE P "Ellipsis" 51 .ellipsis::kE P "NotImplemented" 52 .notImplemented::kE P "False" 53 (.bool false)::kE P "True" 54 (.bool true)::kE P "bool" 55 (.type "bool")::r
def yF(P:Params)(r:DJ):DJ:=kE P "memoryview" 56 (.type "memoryview")::kE P "bytearray" 57 (.type "bytearray")::kE P "bytes" 58 (.type "bytes")::kE P "classmethod" 59 (.type "classmethod")::kE P "complex" 60 (.type "complex")::r
def yG(P:Params)(r:DJ):DJ:=kE P "dict" 61 (.type "dict")::kE P "enumerate" 62 (.type "enumerate")::kE P "filter" 63 (.type "filter")::kE P "float" 64 (.type "float")::kE P "frozenset" 65 (.type "frozenset")::r
def yH(P:Params)(r:DJ):DJ:=kE P "property" 66 (.type "property")::kE P "int" 67 (.type "int")::kE P "list" 68 (.type "list")::kE P "map" 69 (.type "map")::kE P "object" 70 (.type "object")::r
def yI(P:Params)(r:DJ):DJ:=kE P "range" 71 (.type "range")::kE P "reversed" 72 (.type "reversed")::kE P "set" 73 (.type "set")::kE P "slice" 74 (.type "slice")::kE P "staticmethod" 75 (.type "staticmethod")::r
def yJ(P:Params)(r:DJ):DJ:=kE P "str" 76 (.type "str")::kE P "super" 77 (.type "super")::kE P "tuple" 78 (.type "tuple")::kE P "type" 79 (.type "type")::kE P "zip" 80 (.type "zip")::r
def yK(P:Params)(r:DJ):DJ:=kE P "__debug__" 81 (.bool true)::kE P "BaseException" 82 (.type "BaseException")::kE P "BaseExceptionGroup" 83 (.type "BaseExceptionGroup")::kE P "Exception" 84 (.type "Exception")::kE P "GeneratorExit" 85 (.type "GeneratorExit")::r
def yL(P:Params)(r:DJ):DJ:=kE P "KeyboardInterrupt" 86 (.type "KeyboardInterrupt")::kE P "SystemExit" 87 (.type "SystemExit")::kE P "ArithmeticError" 88 (.type "ArithmeticError")::kE P "AssertionError" 89 (.type "AssertionError")::kE P "AttributeError" 90 (.type "AttributeError")::r
def yM(P:Params)(r:DJ):DJ:=kE P "BufferError" 91 (.type "BufferError")::kE P "EOFError" 92 (.type "EOFError")::kE P "ImportError" 93 (.type "ImportError")::kE P "LookupError" 94 (.type "LookupError")::kE P "MemoryError" 95 (.type "MemoryError")::r
def yN(P:Params)(r:DJ):DJ:=kE P "NameError" 96 (.type "NameError")::kE P "OSError" 97 (.type "OSError")::kE P "ReferenceError" 98 (.type "ReferenceError")::kE P "RuntimeError" 99 (.type "RuntimeError")::kE P "StopAsyncIteration" 100 (.type "StopAsyncIteration")::r
def yO(P:Params)(r:DJ):DJ:=kE P "StopIteration" 101 (.type "StopIteration")::kE P "SyntaxError" 102 (.type "SyntaxError")::kE P "SystemError" 103 (.type "SystemError")::kE P "TypeError" 104 (.type "TypeError")::kE P "ValueError" 105 (.type "ValueError")::r
def yP(P:Params)(r:DJ):DJ:=kE P "Warning" 106 (.type "Warning")::kE P "FloatingPointError" 107 (.type "FloatingPointError")::kE P "OverflowError" 108 (.type "OverflowError")::kE P "ZeroDivisionError" 109 (.type "ZeroDivisionError")::kE P "BytesWarning" 110 (.type "BytesWarning")::r
def yQ(P:Params)(r:DJ):DJ:=kE P "DeprecationWarning" 111 (.type "DeprecationWarning")::kE P "EncodingWarning" 112 (.type "EncodingWarning")::kE P "FutureWarning" 113 (.type "FutureWarning")::kE P "ImportWarning" 114 (.type "ImportWarning")::kE P "PendingDeprecationWarning" 115 (.type "PendingDeprecationWarning")::r
def yR(P:Params)(r:DJ):DJ:=kE P "ResourceWarning" 116 (.type "ResourceWarning")::kE P "RuntimeWarning" 117 (.type "RuntimeWarning")::kE P "SyntaxWarning" 118 (.type "SyntaxWarning")::kE P "UnicodeWarning" 119 (.type "UnicodeWarning")::kE P "UserWarning" 120 (.type "UserWarning")::r
def yS(P:Params)(r:DJ):DJ:=kE P "BlockingIOError" 121 (.type "BlockingIOError")::kE P "ChildProcessError" 122 (.type "ChildProcessError")::kE P "ConnectionError" 123 (.type "ConnectionError")::kE P "FileExistsError" 124 (.type "FileExistsError")::kE P "FileNotFoundError" 125 (.type "FileNotFoundError")::r
def yT(P:Params)(r:DJ):DJ:=kE P "InterruptedError" 126 (.type "InterruptedError")::kE P "IsADirectoryError" 127 (.type "IsADirectoryError")::kE P "NotADirectoryError" 128 (.type "NotADirectoryError")::kE P "PermissionError" 129 (.type "PermissionError")::kE P "ProcessLookupError" 130 (.type "ProcessLookupError")::r
def yU(P:Params)(r:DJ):DJ:=kE P "TimeoutError" 131 (.type "TimeoutError")::kE P "IndentationError" 132 (.type "IndentationError")::kE P "_IncompleteInputError" 133 (.type "_IncompleteInputError")::kE P "IndexError" 134 (.type "IndexError")::kE P "KeyError" 135 (.type "KeyError")::r
def yV(P:Params)(r:DJ):DJ:=kE P "ModuleNotFoundError" 136 (.type "ModuleNotFoundError")::kE P "NotImplementedError" 137 (.type "NotImplementedError")::kE P "PythonFinalizationError" 138 (.type "PythonFinalizationError")::kE P "RecursionError" 139 (.type "RecursionError")::kE P "UnboundLocalError" 140 (.type "UnboundLocalError")::r
def yW(P:Params)(r:DJ):DJ:=kE P "UnicodeError" 141 (.type "UnicodeError")::kE P "BrokenPipeError" 142 (.type "BrokenPipeError")::kE P "ConnectionAbortedError" 143 (.type "ConnectionAbortedError")::kE P "ConnectionRefusedError" 144 (.type "ConnectionRefusedError")::kE P "ConnectionResetError" 145 (.type "ConnectionResetError")::r
def yX(P:Params)(r:DJ):DJ:=kE P "TabError" 146 (.type "TabError")::kE P "UnicodeDecodeError" 147 (.type "UnicodeDecodeError")::kE P "UnicodeEncodeError" 148 (.type "UnicodeEncodeError")::kE P "UnicodeTranslateError" 149 (.type "UnicodeTranslateError")::kE P "ExceptionGroup" 150 (.type "ExceptionGroup")::r
def yY(P:Params)(r:DJ):DJ:=kE P "EnvironmentError" 151 (.type "OSError")::kE P "IOError" 152 (.type "OSError")::kE P "open" 153 (.builtin "open")::kE P "quit" 154 (.builtin "builtins.quit#opaque")::kE P "exit" 155 (.builtin "builtins.exit#opaque")::r
def yZ(P:Params)(r:DJ):DJ:=kE P "copyright" 156 (.builtin "builtins.copyright#opaque")::kE P "credits" 157 (.builtin "builtins.credits#opaque")::kE P "license" 158 (.builtin "builtins.license#opaque")::kE P "help" 159 (.builtin "builtins.help#opaque")::r
def z3(P:Params):Obj:=⟨.type "dict",none,.dict ⟨bl0 P<|bl1 P<|bl2 P<|bl3 P<|bl4 P<|bl5 P<|bl6 P<|bl7 P<|bl8 P<|bl9 P<|yE P<|yF P<|yG P<|yH P<|yI P<|yJ P<|yK P<|yL P<|yM P<|yN P<|yO P<|yP P<|yQ P<|yR P<|yS P<|yT P<|yU P<|yV P<|yW P<|yX P<|yY P<|yZ P []⟩ 159,⟨[]⟩⟩
def z4(P:Params):Obj:=⟨.none,none,.dict ⟨[kE P "\x69mport.loaded._sre" 183 (.bool true),kE P "class._frozen_importlib.BuiltinImporter" 185 (.ref 14),kE P "watched.\x69mport" 206 (.ref 18),kE P "class._frozen_importlib.ModuleSpec" 216 (.ref 22),kE P "sys.modules.booked-epoch" 245 (.int 3 0),kE P "\x69mport.later-laid._sre" 270 (.bool true),kE P "watched.library" 272 (.ref 27),kE P "watched.library-objects" 0 (.str "\x0c" 0),kE P "watched.library-deep._sre" 273 (.str "\x04\x00\x00\x0b\x04\x00\x00\x0b\x04\x00\x00\x03\x04\x00\x00\x0b\x08\x04dict\x02" 0)]⟩ 9,⟨[]⟩⟩
def r4(P:Params):Obj:=⟨.type "dict",none,.dict ⟨[kE P "__name__" 165 (.str "law_il0055_01" 581),kE P "__doc__" 166 .none,kE P "__package__" 167 .none,kE P "__loader__" 168 (.builtin "__main__.__loader__#opaque"),kE P "__spec__" 169 .none,kE P "__annotations__" 170 (.ref 6),kE P "__builtins__" 171 (.ref 4),kE P "__file__" 173 (.str "/claim/cut.py" 172),kE P "__cached__" 174 .none,kE P "_sre" 275 (.ref 12),kE P "_wall" 288 (.ref 38),kE P "_twin_re_1" 318 (.ref 43),kE P "NL" 320 (.str "\n" 319),kE P "EMPTYSTRING" 322 (.str "" 321),kE P "_ValueFormatter" 436 (.ref 116),kE P "_Accumulator" 532 (.ref 200),kE P "cmp_to_key" 543 (.ref 211),kE P "_initial_missing" 544 (.ref 212),kE P "reduce" 556 (.ref 220),kE P "sorted_list_difference" 572 (.ref 227),kE P "three_way_cmp" 580 (.ref 234),kE P "_law_plain" 589 (.ref 241),kE P "_law_chunks" 595 (.ref 246),kE P "_law_text" 601 (.ref 251),kE P "_law_fed" 611 (.ref 258),kE P "_law_lay" 619 (.ref 265),kE P "_law_laid" 628 (.ref 272),kE P "_law_begins" 636 (.ref 279),kE P "_law_next" 646 (.ref 286),kE P "_law_way" 655 (.ref 293),kE P "_law_lacks" 661 (.ref 298),kE P "_law_kept" 669 (.ref 305),kE P "_law_pairs" 675 (.ref 310),kE P "_law_beside" 685 (.ref 317),kE P "law" 691 (.ref 322)]⟩ 35,⟨[]⟩⟩
noncomputable def z5(P:Params):Obj:=⟨.type "module",some 0,.plain,⟨[]⟩⟩
noncomputable def z6(P:Params):Obj:=⟨.type "tuple",none,.seq ⟨[.int 14 0,.int 4 0,.int 0 0,.int 1 0,.int 4294967295 0,.int 17 0,.int 0 0,.int 24 0,.int 11 0,.int 1 0,.int 4294967295 0,.int 13 0,.int 6 0,.int 16 0,.int 32 0,.int 16 0,.int 9 0,.int 0 0,.int 1 0,.int 17 0,.int 1 0,.int 1 0]⟩ 0,⟨[]⟩⟩
noncomputable def z7(P:Params):Obj:=⟨.type "re.Pattern",none,.fields ⟨[.str "([ \t]+)" 292,.int 32 317,.int 1 0,.none,.none,.ref 42,.int 0 0]⟩,⟨[]⟩⟩
def z8(P:Params):Obj:=co "__init__" "_ValueFormatter.__init__" 335 11 5 0 0 3 51 52 .none (.ref 53) (.ref 54) (.ref 55) 343
def z9(P:Params):Obj:=⟨.type "function",none,.func (K1 (Go p 6 0) "_ValueFormatter.__init__" 3 [] (.none) (.none) (.none) (.str "cpy313.email.header" 289) none (.ref 56) (.none) 0),⟨[]⟩⟩
def z_(P:Params):Obj:=co "_str" "_ValueFormatter._str" 346 19 2 0 0 3 58 59 .none (.ref 60) (.ref 61) (.ref 62) 351
def AAA(P:Params):Obj:=⟨.type "function",none,.func (K1 (Go p 6 1) "_ValueFormatter._str" 3 [] (.none) (.none) (.none) (.str "cpy313.email.header" 289) none (.ref 63) (.none) 0),⟨[]⟩⟩
def AAB(P:Params):Obj:=co "newline" "_ValueFormatter.newline" 361 26 1 0 0 3 72 73 .none (.ref 74) (.ref 75) (.ref 76) 366
def AAC(P:Params):Obj:=⟨.type "function",none,.func (K1 (Go p 6 3) "_ValueFormatter.newline" 3 [] (.none) (.none) (.none) (.str "cpy313.email.header" 289) none (.ref 77) (.none) 0),⟨[]⟩⟩
def AAD(P:Params):Obj:=co "feed" "_ValueFormatter.feed" 376 40 4 0 0 3 86 87 .none (.ref 88) (.ref 89) (.ref 90) 387
def AAE(P:Params):Obj:=⟨.type "function",none,.func (K1 (Go p 6 5) "_ValueFormatter.feed" 3 [] (.none) (.none) (.none) (.str "cpy313.email.header" 289) none (.ref 91) (.none) 0),⟨[]⟩⟩
def v9(P:Params):Obj:=co "_ascii_split" "_ValueFormatter._ascii_split" 397 65 4 0 0 3 100 101 .none (.ref 102) (.ref 103) (.ref 104) 406
def v_(P:Params):Obj:=⟨.type "function",none,.func (K1 (Go p 6 7) "_ValueFormatter._ascii_split" 3 [] (.none) (.none) (.none) (.str "cpy313.email.header" 289) none (.ref 105) (.none) 0),⟨[]⟩⟩
def wA(P:Params):Obj:=co "_append_chunk" "_ValueFormatter._append_chunk" 409 74 3 0 0 3 107 108 .none (.ref 109) (.ref 110) (.ref 111) 420
def wB(P:Params):Obj:=⟨.type "function",none,.func (K1 (Go p 6 8) "_ValueFormatter._append_chunk" 3 [] (.none) (.none) (.none) (.str "cpy313.email.header" 289) none (.ref 112) (.none) 0),⟨[]⟩⟩
def wC(P:Params):Obj:=⟨.type "dict",none,.dict ⟨[kE P "__module__" 330 (.str "cpy313.email.header" 289),kE P "__firstlineno__" 334 (.int 9 333),kE P "__init__" 345 (.ref 57),kE P "_str" 353 (.ref 64),kE P "__str__" 360 (.ref 71),kE P "newline" 368 (.ref 78),kE P "add_transition" 375 (.ref 85),kE P "feed" 389 (.ref 92),kE P "_maxlengths" 396 (.ref 99),kE P "_ascii_split" 408 (.ref 106),kE P "_append_chunk" 422 (.ref 113),kE P "__static_attributes__" 429 (.ref 114),kE P "__dict__" 431 (.ref 117),kE P "__weakref__" 433 (.ref 118),kE P "__doc__" 434 .none]⟩ 4,⟨[]⟩⟩
noncomputable def wD(P:Params):Obj:=⟨.type "type",none,.cls {name:="_ValueFormatter",bases:=[.type "object"],mro:=[.ref 116,.type "object"],ns:=115,qualname:="_ValueFormatter",hasDict:=true,slotNames:=[],subclasses:=[],abstract:=false,collection:=none,hasDel:=false},⟨[none,none,some (.str "_ValueFormatter" 323),some (.str "_ValueFormatter" 331),some (.builtin "object.__new__"),some (.bool true)]⟩⟩
noncomputable def wE(P:Params):Obj:=⟨.type "cell",none,.cell (some (.ref 200)),⟨[]⟩⟩
noncomputable def wF(P:Params):Obj:=⟨.type "tuple",none,.seq ⟨[.int 0 449]⟩ 0,⟨[]⟩⟩
def n9(P:Params):Obj:=co "__init__" "_Accumulator.__init__" 450 102 2 0 0 3 131 132 .none (.ref 133) (.ref 134) (.ref 135) 456
def wG(P:Params):Obj:=⟨.type "function",none,.func (K1 (Go p 7 0) "_Accumulator.__init__" 3 [("__class__",124)] (.ref 129) (.none) (.none) (.str "cpy313.email.header" 289) none (.ref 136) (.ref 130) 0),⟨[]⟩⟩
def wH(P:Params):Obj:=co "push" "_Accumulator.push" 459 106 3 0 0 3 138 139 .none (.ref 140) (.ref 141) (.ref 142) 465
def wI(P:Params):Obj:=⟨.type "function",none,.func (K1 (Go p 7 1) "_Accumulator.push" 3 [] (.none) (.none) (.none) (.str "cpy313.email.header" 289) none (.ref 143) (.none) 0),⟨[]⟩⟩
noncomputable def wJ(P:Params):Obj:=⟨.type "tuple",none,.seq ⟨[.int 0 468]⟩ 0,⟨[]⟩⟩
def wK(P:Params):Obj:=co "pop_from" "_Accumulator.pop_from" 469 109 2 0 0 3 146 147 .none (.ref 148) (.ref 149) (.ref 150) 475
def wL(P:Params):Obj:=⟨.type "function",none,.func (K1 (Go p 7 2) "_Accumulator.pop_from" 3 [] (.ref 145) (.none) (.none) (.str "cpy313.email.header" 289) none (.ref 151) (.none) 0),⟨[]⟩⟩
def n_(P:Params):Obj:=co "pop" "_Accumulator.pop" 478 114 1 0 0 3 154 155 .none (.ref 156) (.ref 157) (.ref 158) 483
def wM(P:Params):Obj:=⟨.type "function",none,.func (K1 (Go p 7 3) "_Accumulator.pop" 3 [("__class__",124)] (.none) (.none) (.none) (.str "cpy313.email.header" 289) none (.ref 159) (.ref 153) 0),⟨[]⟩⟩
def Tu(P:Params):Obj:=co "__len__" "_Accumulator.__len__" 486 119 1 0 0 3 161 162 .none (.ref 163) (.ref 164) (.ref 165) 490
def wN(P:Params):Obj:=⟨.type "function",none,.func (K1 (Go p 7 4) "_Accumulator.__len__" 3 [] (.none) (.none) (.none) (.str "cpy313.email.header" 289) none (.ref 166) (.none) 0),⟨[]⟩⟩
def Tv(P:Params):Obj:=co "__str__" "_Accumulator.__str__" 493 122 1 0 0 3 168 169 .none (.ref 170) (.ref 171) (.ref 172) 497
def wO(P:Params):Obj:=⟨.type "function",none,.func (K1 (Go p 7 5) "_Accumulator.__str__" 3 [] (.none) (.none) (.none) (.str "cpy313.email.header" 289) none (.ref 173) (.none) 0),⟨[]⟩⟩
noncomputable def wP(P:Params):Obj:=⟨.type "tuple",none,.seq ⟨[.none]⟩ 0,⟨[]⟩⟩
def wQ(P:Params):Obj:=co "reset" "_Accumulator.reset" 500 125 2 0 0 3 176 177 .none (.ref 178) (.ref 179) (.ref 180) 505
def wR(P:Params):Obj:=⟨.type "function",none,.func (K1 (Go p 7 6) "_Accumulator.reset" 3 [] (.ref 175) (.none) (.none) (.str "cpy313.email.header" 289) none (.ref 181) (.none) 0),⟨[]⟩⟩
def wS(P:Params):Obj:=co "is_onlyws" "_Accumulator.is_onlyws" 508 131 1 0 0 3 183 184 .none (.ref 185) (.ref 186) (.ref 187) 512
def wT(P:Params):Obj:=⟨.type "function",none,.func (K1 (Go p 7 7) "_Accumulator.is_onlyws" 3 [] (.none) (.none) (.none) (.str "cpy313.email.header" 289) none (.ref 188) (.none) 0),⟨[]⟩⟩
def oA(P:Params):Obj:=co "part_count" "_Accumulator.part_count" 515 134 1 0 0 3 191 192 .none (.ref 193) (.ref 194) (.ref 195) 520
def wU(P:Params):Obj:=⟨.type "function",none,.func (K1 (Go p 7 8) "_Accumulator.part_count" 3 [("__class__",124)] (.none) (.none) (.none) (.str "cpy313.email.header" 289) none (.ref 196) (.ref 190) 0),⟨[]⟩⟩
def wV(P:Params):Obj:=⟨.type "dict",none,.dict ⟨[kE P "__module__" 444 (.str "cpy313.email.header" 289),kE P "__firstlineno__" 448 (.int 100 447),kE P "__init__" 458 (.ref 137),kE P "push" 467 (.ref 144),kE P "pop_from" 477 (.ref 152),kE P "pop" 485 (.ref 160),kE P "__len__" 492 (.ref 167),kE P "__str__" 499 (.ref 174),kE P "reset" 507 (.ref 182),kE P "is_onlyws" 514 (.ref 189),kE P "part_count" 522 (.ref 197),kE P "__static_attributes__" 524 (.ref 198),kE P "__dict__" 527 (.ref 201),kE P "__weakref__" 529 (.ref 202),kE P "__doc__" 530 .none]⟩ 5,⟨[]⟩⟩
noncomputable def wW(P:Params):Obj:=⟨.type "type",none,.cls {name:="_Accumulator",bases:=[.type "list"],mro:=[.ref 200,.type "list",.type "object"],ns:=199,qualname:="_Accumulator",hasDict:=true,slotNames:=[],subclasses:=[],abstract:=false,collection:=none,hasDel:=false},⟨[some (.ref 121),none,some (.str "_Accumulator" 437),some (.str "_Accumulator" 445),some (.builtin "list.__new__"),some (.bool true)]⟩⟩
def dj(P:Params):Obj:=co "cmp_to_key" "cmp_to_key" 535 137 1 0 0 3 205 206 .none (.ref 207) (.ref 208) (.ref 209) 541
def wX(P:Params):Obj:=⟨.type "function",none,.func (K1 (HV p 9) "cmp_to_key" 3 [] (.none) (.none) (.none) (.str "cpy313.functools" 533) none (.ref 210) (.none) 0),⟨[]⟩⟩
noncomputable def wY(P:Params):Obj:=⟨.type "object",none,.plain,⟨[]⟩⟩
noncomputable def wZ(P:Params):Obj:=⟨.type "tuple",none,.seq ⟨[.ref 212]⟩ 0,⟨[]⟩⟩
def wb(P:Params):Obj:=co "reduce" "reduce" 545 163 3 0 0 3 214 215 .none (.ref 216) (.ref 217) (.ref 218) 554
def wc(P:Params):Obj:=⟨.type "function",none,.func (K1 (HV p 11) "reduce" 3 [] (.ref 213) (.none) (.none) (.str "cpy313.functools" 533) none (.ref 219) (.none) 0),⟨[]⟩⟩
def we(P:Params):Obj:=co "sorted_list_difference" "sorted_list_difference" 559 176 2 0 0 3 221 222 .none (.ref 223) (.ref 224) (.ref 225) 570
def wg(P:Params):Obj:=⟨.type "function",none,.func (K1 (HV p 13) "sorted_list_difference" 3 [] (.none) (.none) (.none) (.str "cpy313.unittest.util" 557) none (.ref 226) (.none) 0),⟨[]⟩⟩
def wh(P:Params):Obj:=co "three_way_cmp" "three_way_cmp" 573 208 2 0 0 3 228 229 .none (.ref 230) (.ref 231) (.ref 232) 578
def wj(P:Params):Obj:=⟨.type "function",none,.func (K1 (HV p 14) "three_way_cmp" 3 [] (.none) (.none) (.none) (.str "cpy313.unittest.util" 557) none (.ref 233) (.none) 0),⟨[]⟩⟩
def wk(P:Params):Obj:=co "_law_plain" "_law_plain" 583 211 0 0 0 3 235 236 .none (.ref 237) (.ref 238) (.ref 239) 587
def wl(P:Params):Obj:=fo (HV p 16) "_law_plain" 240
def wm(P:Params):Obj:=co "_law_chunks" "_law_chunks" 590 215 1 0 0 3 242 243 .none .none .none (.ref 244) 593
def wn(P:Params):Obj:=fo (HV p 17) "_law_chunks" 245
def wo(P:Params):Obj:=co "_law_text" "_law_text" 596 217 1 0 0 3 247 248 .none .none .none (.ref 249) 599
def wq(P:Params):Obj:=fo (HV p 18) "_law_text" 250
def wu(P:Params):Obj:=co "_law_fed" "_law_fed" 602 219 2 0 0 3 252 253 .none (.ref 254) (.ref 255) (.ref 256) 609
def ww(P:Params):Obj:=fo (HV p 19) "_law_fed" 257
def wx(P:Params):Obj:=co "_law_lay" "_law_lay" 612 224 2 0 0 3 259 260 .none (.ref 261) (.ref 262) (.ref 263) 617
def wy(P:Params):Obj:=fo (HV p 20) "_law_lay" 264
def wz(P:Params):Obj:=co "_law_laid" "_law_laid" 620 227 3 0 0 3 266 267 .none (.ref 268) (.ref 269) (.ref 270) 626
def w3(P:Params):Obj:=fo (HV p 21) "_law_laid" 271
def dk(P:Params):Obj:=co "_law_begins" "_law_begins" 629 229 2 0 0 3 273 274 .none (.ref 275) (.ref 276) (.ref 277) 634
def w4(P:Params):Obj:=fo (HV p 22) "_law_begins" 278
def w5(P:Params):Obj:=co "_law_next" "_law_next" 637 231 3 0 0 3 280 281 .none (.ref 282) (.ref 283) (.ref 284) 644
def w6(P:Params):Obj:=fo (HV p 23) "_law_next" 285
def w7(P:Params):Obj:=co "_law_way" "_law_way" 647 236 2 0 0 3 287 288 .none (.ref 289) (.ref 290) (.ref 291) 653
def w8(P:Params):Obj:=fo (HV p 24) "_law_way" 292
def w_(P:Params):Obj:=co "_law_lacks" "_law_lacks" 656 241 2 0 0 3 294 295 .none .none .none (.ref 296) 659
def xA(P:Params):Obj:=fo (HV p 25) "_law_lacks" 297
def xB(P:Params):Obj:=co "_law_kept" "_law_kept" 662 243 2 0 0 3 299 300 .none (.ref 301) (.ref 302) (.ref 303) 667
def xC(P:Params):Obj:=fo (HV p 26) "_law_kept" 304
def xD(P:Params):Obj:=co "_law_pairs" "_law_pairs" 670 245 1 0 0 3 306 307 .none .none .none (.ref 308) 673
def xE(P:Params):Obj:=fo (HV p 27) "_law_pairs" 309
def xF(P:Params):Obj:=co "_law_beside" "_law_beside" 676 253 2 0 0 3 311 312 .none (.ref 313) (.ref 314) (.ref 315) 683
def xG(P:Params):Obj:=fo (HV p 28) "_law_beside" 316
def dm(P:Params):Obj:=co "law" "law" 686 259 1 0 0 3 318 319 .none .none .none (.ref 320) 689
def xH(P:Params):Obj:=fo (HV p 29) "law" 321
def KQ(P:Params)(a:Addr):Option Obj:=nd a 197 (nd a 124 (nd a 77 (nd a 43 (nd a 3 (nd a 2 (lf a 0 (z3 P)) (lf a 2 (z4 P))) (nd a 4 (lf a 3 (r4 P)) (nd a 42 (lf a 4 (z5 P)) (lf a 42 (z6 P))))) (nd a 57 (nd a 56 (lf a 43 (z7 P)) (lf a 56 (z8 P))) (nd a 63 (lf a 57 (z9 P)) (nd a 64 (lf a 63 (z_ P)) (lf a 64 (AAA P)))))) (nd a 106 (nd a 91 (nd a 78 (lf a 77 (AAB P)) (lf a 78 (AAC P))) (nd a 92 (lf a 91 (AAD P)) (nd a 105 (lf a 92 (AAE P)) (lf a 105 (v9 P))))) (nd a 113 (nd a 112 (lf a 106 (v_ P)) (lf a 112 (wA P))) (nd a 115 (lf a 113 (wB P)) (nd a 116 (lf a 115 (wC P)) (lf a 116 (wD P))))))) (nd a 160 (nd a 144 (nd a 136 (nd a 129 (lf a 124 (wE P)) (lf a 129 (wF P))) (nd a 137 (lf a 136 (n9 P)) (nd a 143 (lf a 137 (wG P)) (lf a 143 (wH P))))) (nd a 151 (nd a 145 (lf a 144 (wI P)) (lf a 145 (wJ P))) (nd a 152 (lf a 151 (wK P)) (nd a 159 (lf a 152 (wL P)) (lf a 159 (n_ P)))))) (nd a 175 (nd a 167 (nd a 166 (lf a 160 (wM P)) (lf a 166 (Tu P))) (nd a 173 (lf a 167 (wN P)) (nd a 174 (lf a 173 (Tv P)) (lf a 174 (wO P))))) (nd a 188 (nd a 181 (lf a 175 (wP P)) (nd a 182 (lf a 181 (wQ P)) (lf a 182 (wR P)))) (nd a 189 (lf a 188 (wS P)) (nd a 196 (lf a 189 (wT P)) (lf a 196 (oA P)))))))) (nd a 258 (nd a 227 (nd a 212 (nd a 200 (nd a 199 (lf a 197 (wU P)) (lf a 199 (wV P))) (nd a 210 (lf a 200 (wW P)) (nd a 211 (lf a 210 (dj P)) (lf a 211 (wX P))))) (nd a 219 (nd a 213 (lf a 212 (wY P)) (lf a 213 (wZ P))) (nd a 220 (lf a 219 (wb P)) (nd a 226 (lf a 220 (wc P)) (lf a 226 (we P)))))) (nd a 245 (nd a 234 (nd a 233 (lf a 227 (wg P)) (lf a 233 (wh P))) (nd a 240 (lf a 234 (wj P)) (nd a 241 (lf a 240 (wk P)) (lf a 241 (wl P))))) (nd a 250 (nd a 246 (lf a 245 (wm P)) (lf a 246 (wn P))) (nd a 251 (lf a 250 (wo P)) (nd a 257 (lf a 251 (wq P)) (lf a 257 (wu P))))))) (nd a 293 (nd a 278 (nd a 265 (nd a 264 (lf a 258 (ww P)) (lf a 264 (wx P))) (nd a 271 (lf a 265 (wy P)) (nd a 272 (lf a 271 (wz P)) (lf a 272 (w3 P))))) (nd a 285 (nd a 279 (lf a 278 (dk P)) (lf a 279 (w4 P))) (nd a 286 (lf a 285 (w5 P)) (nd a 292 (lf a 286 (w6 P)) (lf a 292 (w7 P)))))) (nd a 309 (nd a 298 (nd a 297 (lf a 293 (w8 P)) (lf a 297 (w_ P))) (nd a 304 (lf a 298 (xA P)) (nd a 305 (lf a 304 (xB P)) (lf a 305 (xC P))))) (nd a 317 (nd a 310 (lf a 309 (xD P)) (nd a 316 (lf a 310 (xE P)) (lf a 316 (xF P)))) (nd a 321 (lf a 317 (xG P)) (nd a 322 (lf a 321 (dm P)) (lf a 322 (xH P))))))))
noncomputable def QO:List Addr:=[0,2,3,4,42,43,56,57,63,64,77,78,91,92,105,106,112,113,115,116,124,129,136,137,143,144,145,151,152,159,160,166,167,173,174,175,181,182,188,189,196,197,199,200,210,211,212,213,219,220,226,227,233,234,240,241,245,246,250,251,257,258,264,265,271,272,278,279,285,286,292,293,297,298,304,305,309,310,316,317,321,322]
abbrev GL:=KQ
abbrev pF:Program:=p
theorem pX:KQ=GL:=rfl
theorem xJ:p=pF:=rfl
abbrev P2:=PySem.W.Fast.tw12563942051412417395
theorem MG: @Ac=P2:=PySem.W.Fast.te12563942051412417395
abbrev PF:=PySem.W.Fast.tw14044960220447912780
theorem JR: @Bf=PF:=PySem.W.Fast.te14044960220447912780
abbrev ZL:=PySem.W.Fast.tw11892475500146522536
theorem ZM: @denote=ZL:=PySem.W.Fast.te11892475500146522536
abbrev Pq:= @PySem.W.Fast.tw10254737850608025244
theorem O8: @AU= @Pq:=PySem.W.Fast.te10254737850608025244
abbrev mo:= @PySem.W.Fast.tw15418851999007992765
theorem tV: @PySem.isTrue= @mo:=PySem.W.Fast.te15418851999007992765
abbrev Z1:= @PySem.W.Fast.tw8711993805878244202
theorem Z2: @Mi= @Z1:=PySem.W.Fast.te8711993805878244202
abbrev Z3:= @PySem.W.Fast.tw9404975358583537561
theorem Z4: @FK= @Z3:=PySem.W.Fast.te9404975358583537561
abbrev X9:= @PySem.W.Fast.tw17772580674575903948
theorem X_: @Bo= @X9:=PySem.W.Fast.te17772580674575903948
abbrev FP:= @PySem.W.Fast.tw11113344188204177931
theorem NX: @newFunctionEnv= @FP:=PySem.W.Fast.te11113344188204177931
abbrev Dc:= @PySem.W.Fast.tw9782568553167038054
theorem Kj: @bindArgs= @Dc:=PySem.W.Fast.te9782568553167038054
abbrev Sk:= @PySem.W.Fast.tw8289420714989923916
theorem Ul: @LX= @Sk:=PySem.W.Fast.te8289420714989923916
abbrev pd:= @PySem.W.Fast.tw14364793385576792824
theorem jp: @treeTable= @pd:=PySem.W.Fast.te14364793385576792824
def qq:Data->Option FuncData|.func f=>some f|_=>none
noncomputable def s4(o:Option Obj):FuncData:=(o.bind λo=>qq o.data).getD Au
def D4(P:Params)(a:Addr):FuncData:=s4 (GL P a)
def A4(P:Params)(a:Addr):Dx:=match(D4 P a).body with|.stmts b=>b|_=>[]
def AR(P:Params)(a:Addr)(cells:List (Str×Addr))(L:Addr):Env:=
 {scope:=(D4 P a).scope,locals:=L,globals:=(D4 P a).globals,cells:=cells,qual:=(D4 P a).qualname++".<locals>.",func:=some a,code:=(D4 P a).code,frame:=some L,builtins:=(D4 P a).builtins}
abbrev Tq:= @PySem.W.Fast.tw8468629109055619292
theorem U9: @PySem.loadName= @Tq:=PySem.W.Fast.te8468629109055619292
abbrev Sg:= @PySem.W.Fast.tw2036766266224100846
theorem Uc: @PySem.binaryOp= @Sg:=PySem.W.Fast.te2036766266224100846
abbrev Rd:= @PySem.W.Fast.tw6042679816869820781
theorem TV: @PySem.getMethod= @Rd:=PySem.W.Fast.te6042679816869820781
noncomputable abbrev Bl(l:Ay):Str:=⟨⟨l⟩⟩
noncomputable abbrev nM(s:Str)(l c e:Nat):Expr:=.Name s ⟨l,c,l,e⟩
noncomputable abbrev pS(l c e:Nat):Pos:=⟨l,c,l,e⟩
def xp:Str:=Bl [115,117,109]
def z__:Str:=Bl [32]
def AM:Str:=Bl [115,101,108,102]
def JL:Str:=Bl [104,101,97,100,101,114,108,101,110]
def OD:Str:=Bl [109,97,120,108,101,110]
def Fk:Str:=Bl [99,111,110,116,105,110,117,97,116,105,111,110,95,119,115]
def Ba:Str:=Bl [115,112,108,105,116,99,104,97,114,115]
def HG:Str:=Bl [108,105,110,101,115,101,112]
def B5:Str:=Bl [101,110,100,95,111,102,95,108,105,110,101]
def Bp:Str:=Bl [102,119,115]
def A0:Str:=Bl [115,116,114,105,110,103]
def MX:Str:=Bl [99,104,97,114,115,101,116]
def Ei:Str:=Bl [112,97,114,116,115]
def OE:Str:=Bl [112,97,114,116]
def KR:Str:=Bl [99,104]
def VI:Str:=Bl [105]
def CV:Str:=Bl [105,110,105,116,105,97,108,95,115,105,122,101]
def KS:Str:=Bl [115,116,97,114,116,118,97,108]
def CE:Str:=Bl [109,121,99,109,112]
def EV:Str:=Bl [111,98,106]
def DM:Str:=Bl [111,116,104,101,114]
def Bg:Str:=Bl [102,117,110,99,116,105,111,110]
def Bh:Str:=Bl [115,101,113,117,101,110,99,101]
def Bz:Str:=Bl [105,110,105,116,105,97,108]
def Hq:Str:=Bl [105,116]
def Ds:Str:=Bl [118,97,108,117,101]
def EN:Str:=Bl [101,108,101,109,101,110,116]
def HW:Str:=Bl [101,120,112,101,99,116,101,100]
def JT:Str:=Bl [97,99,116,117,97,108]
def xm:Str:=Bl [106]
def PV:Str:=Bl [109,105,115,115,105,110,103]
def Kp:Str:=Bl [117,110,101,120,112,101,99,116,101,100]
def v_e:Str:=Bl [101]
def v_a:Str:=Bl [97]
def LN:Str:=Bl [120]
def Mx:Str:=Bl [121]
def CZ:Str:=Bl [110,117,109,98,101,114,115]
def BA:Str:=Bl [97,116]
def DK:Str:=Bl [99,104,117,110,107,115]
def DC:Str:=Bl [97,104,101,97,100]
def Es:Str:=Bl [119,111,114,100]
def ER:Str:=Bl [119,105,100,116,104]
def Js:Str:=Bl [109,97,107,101,114]
def aQ:Str:=Bl [99,104,117,110,107]
def Er:Str:=Bl [114,111,119,115]
def Cr:Str:=Bl [115,116,97,114,116]
def E_:Str:=Bl [116,111,108,100]
def Xz:Str:=Bl [114,111,119]
def Ej:Str:=Bl [115,105,122,101,115]
def G3:Str:=Bl [114,111,111,109]
def FQ:Str:=Bl [115,116,101,112,115]
def Hr:Str:=Bl [119,97,121]
def Ca:Str:=Bl [111,110,101]
def Dr:Str:=Bl [116,119,111]
def OF:Str:=Bl [112,108,97,99,101,115]
def CJ:Str:=Bl [119,97,121,115]
def QT:Str:=Bl [110,97,109,101,100]
def DX:Str:=Bl [109,101,101,116]
def BD:Str:=Bl [112,108,97,99,101]
def Cb:Str:=Bl [115,99,114,105,112,116]
def QS:Str:=Bl [104,101,97,100]
def Gb:Str:=Bl [115,116,97,114,116,115]
def pp:Str:=Bl [100,117,101]
def RC:Str:=Bl [98,101,115,105,100,101]
def fF:Str:=Bl [98,97,114,101]
def UJ:Str:=Bl [116,101,120,116,115]
def WO:Str:=Bl [111,116,104,101,114,115]
def Cc:Str:=Bl [116,117,114,110,101,100]
def Eu:Str:=Bl [107,101,121]
def Xx:Str:=Bl [107,101,112,116]
def D6:Str:=Bl [95,109,97,120,108,101,110]
def CM:Str:=Bl [95,99,111,110,116,105,110,117,97,116,105,111,110,95,119,115]
def CI:Str:=Bl [95,99,111,110,116,105,110,117,97,116,105,111,110,95,119,115,95,108,101,110]
def EB:Str:=Bl [95,115,112,108,105,116,99,104,97,114,115]
def Jg:Str:=Bl [95,108,105,110,101,115]
def Fp:Str:=Bl [95,99,117,114,114,101,110,116,95,108,105,110,101]
def EM:Str:=Bl [95,105,110,105,116,105,97,108,95,115,105,122,101]
def HC:Str:=Bl [104,101,97,100,101,114,95,101,110,99,111,100,105,110,103]
noncomputable def wf(w:World)(b1 b2:Bool):World:=
 {w with params:={w.params with followText:=λs=>if s="special-get-raises" then b1 else if s="comprehension-iter-twice" then b2 else w.params.followText s}}
theorem qE(w:World):wf w (w.params.followText "special-get-raises") (w.params.followText "comprehension-iter-twice")=w:=
 congrArg (λg=>({w with params:={w.params with followText:=g}}:World)) (funext λs=>by
  by_cases h:s="special-get-raises"
  ·rw[if_pos h,h]
  ·rw[if_neg h]
   by_cases h:s="comprehension-iter-twice"
   ·rw[if_pos h,h]
   ·rw[if_neg h]:(λs=>if s="special-get-raises" then w.params.followText "special-get-raises" else if s="comprehension-iter-twice" then w.params.followText "comprehension-iter-twice" else w.params.followText s)=w.params.followText)
structure Bx where
 w:World
 b1:Bool
 b2:Bool
 s₁:Af
 SH:F6->Prop
 mu:List Addr
 gn:Af->Prop
def Bx.C(B:Bx):Cx:=⟨wf B.w B.b1 B.b2,pF,B.s₁,GL (wf B.w B.b1 B.b2).params,B.SH,B.mu,B.gn⟩
abbrev Bx.P(B:Bx):Params:=(wf B.w B.b1 B.b2).params
def AA(n:Nat)(A:AL):Prop:=A.handled=none/\A.depth+n<recursionLimit/\A.units+12*n<cLine
def Bj(n:Nat)(A:AL):Prop:=A.depth+n<recursionLimit/\A.units+12*n<cLine
theorem AA.h{n:Nat}{A:AL}(h:AA n A):Bj n A:=h.2
theorem Bj.le{n m:Nat}{A:AL}(h:Bj n A)(q:m<=n):Bj m A:=⟨by have:=h.1;lia,by have:=h.2;lia⟩
theorem Bj.in1{n:Nat}{A:AL}(h:Bj (n+1) A):Bj n A.in1:=⟨by have:=h.1;simp only[Around.in1_depth];lia,by have:=h.2;simp only[Around.in1_units];lia⟩
def kq:Lean.Syntax:=Lean.Unhygienic.run `(Lean.Parser.Tactic.tacticSeq|kernel_rfl)
def kb:Lean.Syntax:=Lean.Unhygienic.run `(Lean.Parser.Tactic.tacticSeq|obtain⟨_,_|_⟩:= ‹Bx› <;>kernel_rfl)
def kl:Lean.Syntax:=Lean.Unhygienic.run `(Lean.Parser.Tactic.tacticSeq|first|decide|lia)
def kw:Lean.Syntax:=Lean.Unhygienic.run `(Lean.Parser.Tactic.tacticSeq|first|exact By 1|exact Am 1|exact By 12|exact(ADs:3<=12))
theorem Bj.l{n m:Nat}{A:AL}(h:Bj n A)(q:autoParam (m<=n) kl):Bj m A:=h.le q
theorem AA.lh{n m:Nat}{A:AL}(h:AA n A)(q:autoParam (m<=n) kl):Bj m A:=h.h.le q
theorem AA.le{n m:Nat}{A:AL}(h:AA n A)(q:m<=n):AA m A:=⟨h.1,by have:=h.2.1;lia,by have:=h.2.2;lia⟩
theorem AA.l{n m:Nat}{A:AL}(h:AA n A)(q:autoParam (m<=n) kl):AA m A:=h.le q
abbrev BW(n:Nat):Ay:=DE n 0
noncomputable abbrev J(x:Nat):Value:=.ref (x+323)
abbrev AS(B:Bx)(A:AL){α:Type}(t:Sem α)(F:AN)(v:α)(XP:AN):Prop:=AC B.C A t F (λYa:Unit=>v) (λYa=>XP)
theorem rn{C:Cx}(O:C.Ok){A:AL}{n:Nat}(U:AA n A){α:Type}{t:Sem α}{L:AN}{X:Type}{res:X->α}{led:X->AN}(sc:D5 C A X)(h:autoParam (H8 C A none res led t sc L) kq):AC C A t L res led:=Ga O U.1 sc h
theorem rb{B:Bx}(O:B.C.Ok){A:AL}{n:Nat}(U:AA n A){α:Type}{t:Sem α}{L:AN}{X:Type}{res:X->α}{led:X->AN}(sc:D5 B.C A X)(h:autoParam (H8 B.C A none res led t sc L) kb):AC B.C A t L res led:=rn O U sc h
theorem Mu{C:Cx}(O:C.Ok){A:AL}{α:Type}{t:Sem α}{L:AN}{X:Type}{res:X->α}{led:X->AN}(sc:D5 C A X)(h:autoParam (H8 C A A.handled res led t sc L) kq):AC C A t L res led:=Ga O rfl sc h
theorem D7{C:Cx}(O:C.Ok){A:AL}{n:Nat}(U:AA n A){x y}{L:AN}{X:Type}{res:X->_}{led:X->AN}(sc:D5 C A X)(h:autoParam (H8 C A none res led (P2 x y) sc L) kq):AC C A (Ac x y) L res led:=by rw[MG];exact rn O U sc h
theorem H_{C:Cx}(O:C.Ok){A:AL}{n:Nat}(U:AA n A){x y}{L:AN}{X:Type}{res:X->_}{led:X->AN}(sc:D5 C A X)(h:autoParam (H8 C A none res led (PF x y) sc L) kq):AC C A (Bf x y) L res led:=by rw[JR];exact rn O U sc h
theorem Ef{C:Cx}(O:C.Ok){A:AL}{n:Nat}(U:AA n A){x y z}{L:AN}{X:Type}{res:X->_}{led:X->AN}(sc:D5 C A X)(h:autoParam (H8 C A none res led (X9 x y z) sc L) kq):AC C A (Bo x y z) L res led:=by rw[X_];exact rn O U sc h
theorem Hc{C:Cx}(O:C.Ok){A:AL}{n:Nat}(U:AA n A){x y}{L:AN}{X:Type}{res:X->_}{led:X->AN}(sc:D5 C A X)(h:autoParam (H8 C A none res led (Pq x y) sc L) kq):AC C A (AU x y) L res led:=by rw[O8];exact rn O U sc h
theorem Q7{C:Cx}(O:C.Ok){A:AL}{n:Nat}(U:AA n A){x y}{L:AN}{X:Type}{res:X->_}{led:X->AN}(sc:D5 C A X)(h:autoParam (H8 C A none res led (isTrue x y (PF x y)) sc L) kq):AC C A (isTrue x y (Bf x y)) L res led:=by rw[JR];exact rn O U sc h
theorem xX{C:Cx}(O:C.Ok){A:AL}{n:Nat}(U:AA n A){x}{L:AN}{X:Type}{res:X->_}{led:X->AN}(sc:D5 C A X)(h:autoParam (H8 C A none res led (Z1 x) sc L) kq):AC C A (Mi x) L res led:=by rw[Z2];exact rn O U sc h
theorem xW{C:Cx}(O:C.Ok){A:AL}{n:Nat}(U:AA n A){x y z}{L:AN}{X:Type}{res:X->_}{led:X->AN}(sc:D5 C A X)(h:autoParam (H8 C A none res led (Rd x y z) sc L) kq):AC C A (LY x y z) L res led:=by rw[TV];exact rn O U sc h
theorem xV{C:Cx}(O:C.Ok){A:AL}{n:Nat}(U:AA n A){x y z u v}{L:AN}{X:Type}{res:X->_}{led:X->AN}(sc:D5 C A X)(h:autoParam (H8 C A none res led (Sk x y z u v) sc L) kq):AC C A (LX x y z u v) L res led:=by rw[Ul];exact rn O U sc h
theorem Ix{B:Bx}(O:B.C.Ok){A:AL}{n:Nat}(U:AA n A){x y}{L:AN}{X:Type}{res:X->_}{led:X->AN}(sc:D5 B.C A X)(h:autoParam (H8 B.C A none res led (P2 x y) sc L) kb):AC B.C A (Ac x y) L res led:=by rw[MG];exact rn O U sc h
theorem Jk{B:Bx}(O:B.C.Ok){A:AL}{n:Nat}(U:AA n A){x y}{L:AN}{X:Type}{res:X->_}{led:X->AN}(sc:D5 B.C A X)(h:autoParam (H8 B.C A none res led (PF x y) sc L) kb):AC B.C A (Bf x y) L res led:=by rw[JR];exact rn O U sc h
theorem Xl{B:Bx}(O:B.C.Ok){A:AL}{n:Nat}(U:AA n A){x y}{L:AN}{X:Type}{res:X->_}{led:X->AN}(sc:D5 B.C A X)(h:autoParam (H8 B.C A none res led (isTrue x y (PF x y)) sc L) kb):AC B.C A (isTrue x y (Bf x y)) L res led:=by rw[JR];exact rn O U sc h
theorem dw{B:Bx}(O:B.C.Ok){A:AL}{n:Nat}(U:AA n A){x}{L:AN}{X:Type}{res:X->_}{led:X->AN}(sc:D5 B.C A X)(h:autoParam (H8 B.C A none res led (Z3 x) sc L) kb):AC B.C A (FK x) L res led:=by rw[Z4];exact rn O U sc h
theorem oY{B:Bx}(O:B.C.Ok){A:AL}{n:Nat}(U:AA n A){x y}{L:AN}{X:Type}{res:X->_}{led:X->AN}(sc:D5 B.C A X)(h:autoParam (H8 B.C A none res led (Pq x y) sc L) kb):AC B.C A (AU x y) L res led:=by rw[O8];exact rn O U sc h
theorem rbb{B:Bx}(O:B.C.Ok){A:AL}{n:Nat}(U:AA n A){x y z}{L:AN}{X:Type}{res:X->_}{led:X->AN}(sc:D5 B.C A X)(h:autoParam (H8 B.C A none res led (Sg x y z) sc L) kb):AC B.C A (binaryOp x y z) L res led:=by rw[Uc];exact rn O U sc h
theorem Z8{C:Cx}(O:C.Ok){A:AL}{x y}{L:AN}{X:Type}{res:X->_}{led:X->AN}(sc:D5 C A X)(h:autoParam (H8 C A A.handled res led (Pq x y) sc L) kq):AC C A (AU x y) L res led:=by rw[O8];exact Mu O sc h
theorem AAO{C:Cx}(O:C.Ok){A:AL}{x y}{L:AN}{X:Type}{res:X->_}{led:X->AN}(sc:D5 C A X)(h:autoParam (H8 C A A.handled res led (P2 x y) sc L) kq):AC C A (Ac x y) L res led:=by rw[MG];exact Mu O sc h
theorem Xn{C:Cx}(O:C.Ok){A:AL}{n:Nat}(U:AA n A){x y}{L:AN}{X:Type}{res:X->_}{led:X->AN}(sc:D5 C A X)(h:autoParam (H8 C A none res led (Tq x y) sc L) kq):AC C A (Fx x y) L res led:=by rw[U9];exact rn O U sc h
theorem AA.in1{n:Nat}{A:AL}(h:AA (n+1) A):AA n A.in1:=⟨h.1,by have:=h.2.1;simp only[Around.in1_depth];lia,by have:=h.2.2;simp only[Around.in1_units];lia⟩
theorem AA.deeper{n:Nat}{A:AL}{env:Env}(h:AA (n+1) A):AA n (A.deeper env):=
 ⟨h.1,by have:=h.2.1;show A.depth+1+n<_;lia,by have:=h.2.2;show A.units+3+_<_;lia⟩
section
variable{C:Cx}{A:AL}{F L:AN}{X:Type}
theorem AC.weaken{α:Type}{t:Sem α}{res:X->α}{led:X->AN}(h:AC C A t F res led){Y:Type}{D0:Y->α}{Cy:Y->AN}
 (f: ∀x,∃y,res x=D0 y/\ ∀R s,St C (led x++R) s->St C (Cy y++R) s):AC C A t F D0 Cy:=λR s S=>
 Av (h R s S) (λa s' ⟨x,e,S'⟩=>let⟨y,e',g⟩:=f x;⟨y,e.trans e',g R s' S'⟩) λYa Ya h=>h
theorem AC.bind{α β:Type}{t:Sem α}{k:α->Sem β}{res:X->α}{led:X->AN}{Y:Type}{D0:Y->β}{Cy:Y->AN}(h:AC C A t F res led)
 (g: ∀x,AC C A (k (res x)) (led x) D0 Cy):AC C A (t>>=k) F D0 Cy:=λR s S=>
 AB (Av (h R s S) (λYa s' ⟨x,e,S'⟩=>by subst e;exact g x R s' S') λYa Ya h=>h)
theorem BF{id:String}{b:KV}{args:LO}{val:X->Value}{led:X->AN}(hp:H4 id=true)(hb:C1 FZ id=some b)
 (hc:AC C A.in1 (AU id args) F (λYa:Unit=>()) (λYa=>F))
 (h:AC C A.in1 (b args) F (λx=>.done (.ret (val x))) led):Bv C A (.call (.builtin id) args) F (λx=>.ok (.ret (val x))) led:=
 Bu λR s S=>EJ hp hb (Av (hc R s S) (λYa s₁ ⟨_,_,S₁⟩=>AC.wp h S₁ λx s₂ S₂=>⟨x,rfl,S₂⟩) λYa Ya q=>q.elim)
end
def dz:OV->Value
 |.ret v=>v
 |_=>.none
section
variable{C:Cx}{A:AL}{F L:AN}{X:Type}
theorem BK{body:Dx}{env:Env}{fl:X->OV}{led:X->AN}(h:AC C (A.deeper env) (Ac body env) L fl led)(R:AN)(s:Af)(S:St C (L++R) s):
 Kd C.M A (.func body env) (λr s'=> ∃x,r=.ok (.ret (dz (fl x)))/\St C (led x++R) s') s:=by
 refine codeAny_func (Av (h R s S) (λf s' hx=>?_) λYa Ya q=>q.elim);obtain⟨x,rfl,S'⟩:=hx;exact⟨x,rfl,S'⟩
theorem St.top{B:Bx}{L:AN}{s:Af}(O:B.C.Ok)(S:St B.C L s){a:Addr}{o:Obj}(h:GL B.P a=some o):s.heap.get? a=some o:=
 let q:=O.top a o h;S.old a o q.1 q.2
def eb:Value->Bool
 |.str .. =>true
 |_=>false
noncomputable def LM:DJ->Bool
 |[]=>true
 |e::r=>eb e.key&&LM r
theorem rP{v:Value}(h:eb v=true): ∃n t,v=.str n t:=by
 cases v with
 |str n t=>exact⟨n,t,rfl⟩
 |_=>exact(BP h).elim
theorem MU{l:DJ}(h:LM l=true): ∀e∈l,∃n t,e.key=.str n t:=by
 induction l with
 |nil=>exact λe he=>nomatch he
 |cons a r ih=>
  have h:=Bool.and_eq_true_iff.mp h;exact λe he=>(List.mem_cons.mp he).elim (λq=>q▸rP h.1) (ih h.2 e)
theorem St.noLimit{B:Bx}{L:AN}{s:Af}(O:B.C.Ok)(S:St B.C L s):s.heap.NoLimit:=by
 obtain⟨es,n,ho,hk,hf⟩: ∃es n,GL B.P 2=some ⟨.none,none,.dict ⟨es⟩ n,⟨[]⟩⟩/\LM es=true/\(es.find? λe=>e.key.isStr "sys.recursionlimit")=none:=
  ⟨_,_,(show KQ B.P 2=some (z4 B.P) from rfl).trans rfl,by kernel_rfl,by kernel_rfl⟩
 refine⟨λx=>N0 ⟨es⟩ x,⟨_,⟨es⟩,n,S.top O ho,rfl,λe he=>MU hk e (by simpa using he),λYa=>rfl⟩,?_⟩
 show findBy _ _ _=none;unfold findBy;rw[List.find?_toArray,hf];rfl
end
def yl:Data->Option Bs|.fields v=>some v|_=>none
def rfV:Value->Option Addr|.ref a=>some a|_=>none
def stV:Value->Option Str|.str q _=>some q|_=>none
def stB:FuncBody->Bool|.stmts _=>true|_=>false
def Vh(P:Params)(f:Addr):Bool:=((GL P f).bind λo=>(qq o.data).bind λfd=>(rfV fd.code).bind λc=>(GL P c).bind λoc=>(yl oc.data).bind λvs=>(vs[1]?).bind λv=>(stV v).map λq=>
 PySem.W.Fast.sEq q fd.qualname&& !fd.scope.isCoroutine&& !fd.scope.isGenerator&&stB fd.body).getD false
theorem c7{x:Option Bool}(h:x.getD false=true):x=some true:=by cases x with|none=>cases h|some b=>exact congrArg some h
theorem qr{d:Data}{f:FuncData}(h:qq d=some f):d=.func f:=by cases d with|func g=>exact congrArg Data.func (DZ h)|_=>exact n5 h
theorem qt{d:Data}{f:Bs}(h:yl d=some f):d=.fields f:=by cases d with|fields g=>exact congrArg Data.fields (DZ h)|_=>exact n5 h
theorem sF{d:Value}{f:Addr}(h:rfV d=some f):d=.ref f:=by cases d with|ref g=>exact congrArg CC (DZ h)|_=>exact n5 h
theorem sO{d:Value}{f:Str}(h:stV d=some f): ∃t,d=.str f t:=by cases d with|str g t=>exact⟨t,congrArg (Co · t) (DZ h)⟩|_=>exact n5 h
theorem l5{P:Params}{f:Addr}{Q:Prop}(h:Vh P f=true)(k: ∀o fd c oc vs q t,GL P f=some o->o.data=.func fd->fd.code=.ref c->GL P c=some oc->oc.data=.fields vs->vs[1]? =some (.str q t)->q=fd.qualname->fd.scope.isCoroutine=false->fd.scope.isGenerator=false->stB fd.body=true->Q):Q:=by
 obtain⟨o,ho,h⟩:=Option.bind_eq_some_iff.mp (c7 h);obtain⟨fd,uv,h⟩:=Option.bind_eq_some_iff.mp h;obtain⟨c,hc,h⟩:=Option.bind_eq_some_iff.mp h;obtain⟨oc,mc,h⟩:=Option.bind_eq_some_iff.mp h;obtain⟨vs,dP,h⟩:=Option.bind_eq_some_iff.mp h;obtain⟨v,hv,h⟩:=Option.bind_eq_some_iff.mp h;obtain⟨q,hq,hb⟩:=Option.map_eq_some_iff.mp h;obtain⟨t,rfl⟩:=sO hq;obtain⟨h6,h4⟩:=Bool.and_eq_true_iff.mp hb;obtain⟨h5,h3⟩:=Bool.and_eq_true_iff.mp h6;obtain⟨h1,h2⟩:=Bool.and_eq_true_iff.mp h5;exact k o fd c oc vs q t ho (qr uv) (sF hc) mc (qt dP) hv (PySem.W.Fast.sEq_iff.mp h1) (KU _|>.mp h2) (KU _|>.mp h3) h4
theorem Vi{B:Bx}(O:B.C.Ok){f:Addr}(h:Vh B.P f=true): ∃o,(∀L s,St B.C L s->s.heap.get? f=some o)/\o.data=.func (D4 B.P f)/\(∀L s,St B.C L s->s.heap.CodeRec (D4 B.P f).code (D4 B.P f).qualname)/\
 (D4 B.P f).scope.isCoroutine=false/\(D4 B.P f).scope.isGenerator=false/\(D4 B.P f).body=.stmts (A4 B.P f):=l5 h λo fd c oc vs q t ho hd hc mc dP hv hq h2 h3 h4=>by
 have hf:D4 B.P f=fd:=by unfold D4 s4;rw[ho];show(qq o.data).getD Au=fd;rw[hd];rfl
 unfold A4;rw[hf];refine⟨o,λL s S=>S.top O ho,hd,λL s S=>⟨c,oc,vs,t,hc,S.top O mc,dP,hq▸hv⟩,h2,h3,?_⟩;cases hb:fd.body with
 |stmts b=>rfl
 |expr e=>rw[hb] at h4;exact(BP h4).elim
def AT(C:Cx)(A:AL)(c:Code)(F:AN){X:Type}(res:X->Result)(led:X->AN):Prop:= ∀R s,St C (F++R) s->Kd C.M A c (λr s'=> ∃x,r=res x/\St C (led x++R) s') s
theorem AT.call{C:Cx}{A:AL}{c:Code}{F:AN}{X:Type}{res:X->Result}{led:X->AN}(h:AT C A c F res led):Bv C A c F res led:=Bu h
theorem Pr{B:Bx}(O:B.C.Ok){A:AL}{n:Nat}(U:AA (n+1) A){f:Addr}(hf:Vh B.P f=true){args:LO}{F:AN}{binds:BC}
 (h1:AC B.C A.in1 (Dc (D4 B.P f) args) F (λYa:Unit=>binds) (λYa=>F)) {Y:Type} {env:Y->Env} {NU:Y->AN}
 (h2:AC B.C A.in1 (FP (D4 B.P f).scope (D4 B.P f).globals (D4 B.P f).closure binds ((D4 B.P f).qualname++".<locals>.") (some f) (D4 B.P f).code none (D4 B.P f).builtins) F env NU)
 {X:Type} {val:X->Value} {led:X->AN}
 (hb: ∀y R s,St B.C (NU y++R) s->Kd B.C.M A (.func (A4 B.P f) (env y)) (λr s'=> ∃x,r=.ok (.ret (val x))/\St B.C (led x++R) s') s):
 AT B.C A (.call (.ref f) args) F (λx=>.ok (.ret (val x))) led:=λR s S=>by
 obtain⟨o,ho,hd,iI,XR,Zi,TX⟩:=Vi O hf;refine M4 (fd:=D4 B.P f) (body:=A4 B.P f) (by have:=U.2.1;lia) (ho _ _ S) hd XR Zi TX (iI _ _ S) ?_
 rw[Kj,NX];refine AC.wp h1 S λYa s₁ S₁=>?_;refine AC.wp h2 S₁ λy s₂ S₂=>?_;exact⟨S₂.noLimit O,hb y R s₂ S₂⟩
theorem Dm{B:Bx}(O:B.C.Ok){A:AL}{n:Nat}(U:AA (n+1) A){f:Addr}(hf:Vh B.P f=true){args:LO}{F:AN}{binds:BC}
 (h1:AC B.C A.in1 (Dc (D4 B.P f) args) F (λYa:Unit=>binds) (λYa=>F)) {Y:Type} {env:Y->Env} {NU:Y->AN}
 (h2:AC B.C A.in1 (FP (D4 B.P f).scope (D4 B.P f).globals (D4 B.P f).closure binds ((D4 B.P f).qualname++".<locals>.") (some f) (D4 B.P f).code none (D4 B.P f).builtins) F env NU)
 {X:Type} {val:X->Value} {led:X->AN}
 (hb: ∀y R s,St B.C (NU y++R) s->Kd B.C.M A (.func (A4 B.P f) (env y)) (λr s'=> ∃x,r=.ok (.ret (val x))/\St B.C (led x++R) s') s):
 Bv B.C A (.call (.ref f) args) F (λx=>.ok (.ret (val x))) led:=(Pr O U hf h1 h2 hb).call
def BM(c:Code):Sem PySem.Fin:=ZL pd c
theorem E4(C:Cx)(c:Code):C.M.den c=BM c:=by
 show denote FZ c=_;rw[table_eq_tree,ZM,jp];rfl
section
variable{C:Cx}{A:AL}{F:AN}{X:Type}
theorem AT.Td{c c':Code}{res:X->Result}{led:X->AN}(h1:AC C (A.under c) (BM c) F (λYa:Unit=>G8 c') (λYa=>F))(hq:c'.quiet=true)(h2:AT C A c' F res led):AT C A c F res led:=λR s S=>by
 refine BL ?_;rw[E4 C];refine AC.wp h1 S λYa s₁ S₁=>?_;exact⟨hq,h2 R s₁ S₁⟩
theorem AT.NN{c:Code}{Y:Type}{c':Y->Code}{ledY:Y->AN}{res:X->Result}{led:X->AN}(h1:AC C (A.under c) (BM c) F (λy:Y=>G8 (c' y)) ledY)(hq: ∀y,(c' y).quiet=true)
 (h2: ∀y,AT C A (c' y) (ledY y) res led):AT C A c F res led:=λR s S=>by
 refine BL ?_;rw[E4 C];refine AC.wp h1 S λy s₁ S₁=>?_;exact⟨hq y,h2 y R s₁ S₁⟩
theorem HA{id:String}{args:LO}{val:X->Value}{led:X->AN}(hp:H4 id=true)
 (hc:AC C A.in1 (AU id args) F (λYa:Unit=>()) (λYa=>F))
 (h:AC C A.in1 (BM (.builtin id args)) F (λx=>.done (.ret (val x))) led):Bv C A (.call (.builtin id) args) F (λx=>.ok (.ret (val x))) led:=
 Bu λR s S=>Ew (DH hp args) (by
  refine AC.wp hc S λYa s₁ S₁=>?_;refine BL ?_;rw[BX hp args,E4 C];exact AC.wp h S₁ λx s₂ S₂=>⟨x,rfl,S₂⟩)
theorem F9{id:String}{args:LO}{val:X->Value}{led:X->AN}(hp:H4 id=true)
 (h:AC C A.in1 (BM (.builtin id args)) F (λx=>.done (.ret (val x))) led):Bv C A (.builtin id args) F (λx=>.ok (.ret (val x))) led:=
 Bu λR s S=>by
  refine BL ?_;rw[BX hp args,E4 C];exact AC.wp h S λx s₂ S₂=>⟨x,rfl,S₂⟩
end
abbrev Pl(B:Bx)(f:Addr)(as:Ak):Sem BC:=Dc (D4 B.P f) ⟨as,[]⟩
abbrev OP(B:Bx)(f:Addr)(b:BC):Sem Env:=FP (D4 B.P f).scope (D4 B.P f).globals (D4 B.P f).closure b ((D4 B.P f).qualname++".<locals>.") (some f) (D4 B.P f).code none (D4 B.P f).builtins
def frs{C:Cx}{A:AL}{X:Type}(k:Nat)(r:D5 C A X):D5 C A X:=Nat.rec r (λYa ih=>.fr λYa=>.g 6145 ih) k
theorem AC.frame{C:Cx}{A:AL}{α:Type}{t:Sem α}{F:AN}{X:Type}{res:X->α}{led:X->AN}(h:AC C A t F res led)(G:AN):AC C A t (F++G) res (λx=>led x++G):=λR s S=>by
 have:=h (G++R) s (by rw[<-AG];exact S)
 exact Av this (λa s' ⟨x,e,S'⟩=>⟨x,e,by rw[AG];exact S'⟩) λYa Ya q=>q
theorem EU{B:Bx}(O:B.C.Ok){A:AL}{n:Nat}(U:AA (n+1) A){f:Addr}{as:Ak}{F:AN}(al:BC){X:Type}{val:X->Value}{led:X->AN}
 (hb: ∀(L:Nat) R s,St B.C (([.one (L+323) (.ns (.type "frame") al)]++F)++R) s->Kd B.C.M A (.func (A4 B.P f) (AR B.P f [] (L+323))) (λr s'=> ∃x,r=.ok (.ret (val x))/\St B.C (led x++R) s') s) (sb:D5 B.C A.in1 Unit:=.fi () [])
 (hf:autoParam (Vh B.P f=true) kq) (h1:autoParam (H8 B.C A.in1 none (λYa:Unit=>al) (λYa=>[]) (Pl B f as) sb []) kq)
 (h2:autoParam (H8 B.C A.in1 none (λa:Nat=>AR B.P f [] (a+323)) (λa=>[.one (a+323) (.ns (.type "frame") al)]) (OP B f al) (.al λa=>frs al.length (.fi a [0])) []) kq):
 Bv B.C A (.call (.ref f) ⟨as,[]⟩) F (λx=>.ok (.ret (val x))) led:=
 Dm O U hf ((rn O U.in1 sb h1).frame F) (λR s S=>(rn O U.in1 _ h2).frame F R s S) hb
noncomputable def DN{B:Bx}{A:AL}(O:B.C.Ok){n:Nat}(U:AA (n+1) A)(id:String)(as:Ak)(F:AN){X:Type}(val:X->Value)(led:X->AN)(s1:AA n A.in1->D5 B.C A.in1 Unit)(s2:AA n A.in1->D5 B.C A.in1 X)
 (hp:H4 id=true:=by decide+kernel) (h1:autoParam (H8 B.C A.in1 none (λYa:Unit=>()) (λYa=>F) (Pq id ⟨as,[]⟩) (s1 U.in1) F) kq)
 (h2:autoParam (H8 B.C A.in1 none (λx=>Az (.ret (val x))) led (BM (.builtin id ⟨as,[]⟩)) (s2 U.in1) F) kq):Ag B.C A:=
 ⟨.call (.builtin id) ⟨as,[]⟩,F,X,λx=>.ok (.ret (val x)),led,HA hp (Hc O U.in1 _ h1) (rn O U.in1 _ h2)⟩
section
variable{B:Bx}{A:AL}(O:B.C.Ok)
theorem RZ:C1 FZ "list.append"=some Builtin.«list.append»:=B2 ADq
noncomputable abbrev AY(x dx:Nat)(xs:Ak):Bi:=.one (x+323) (.ls (.ref 200) (some (dx+323)) xs)
noncomputable abbrev AV(a:Nat)(xs:Ak):Bi:=.one (a+323) (.ls (.type "tuple") none xs)
abbrev A3(dx:Nat)(n:Value):Bi:=.one (dx+323) (.ns (.type "dict") [(EM,n)])
noncomputable abbrev AI(a:Nat)(l:BC):Bi:=.one (a+323) (.ns (.type "frame") l)
section
variable{C:Cx}{A:AL}
theorem Pn{l:Addr}{c:Value}{d:Option Addr}{xs:Ak}{v:Value}(hx:xs.length<=1000):
 AC C A (Builtin.«list.append» ⟨[.ref l,v],[]⟩) [.one l (.ls c d xs)] (λYa:Unit=>.done (.ret .none)) (λYa=>[.one l (.ls c d (xs++[v]))]):=by
 intro R s S;obtain⟨g,ho⟩:=S.Dj;show BN _ _ (updateSeq l (·.push v)>>=λYa=>ret .none) _ _ s;refine AB (G9 ho rfl (AP ⟨(),rfl,?_⟩) ?_)
 ·have S':=S.Np (t:=s.toks) (B1 ..) (CO (Me (·.push v)) ho ?_) (ao':=.ls c d (xs++[v])) ?_
  ·exact S'
  ·rfl
  ·refine⟨⟨g.hs,g.ks,g.ep+1,g.sl⟩,?_⟩
   simp[Me,AO.obj]
 ·exact AK (show xs.length<=1000 from hx) ADs
end
include O
theorem Wk(U:AA 1 A)(x dx:Nat)(v:Value)(xs:Ak):
 AS B A (AU "list.append" ⟨[J x,v],[]⟩) [AY x dx xs] () [AY x dx xs]:=
 by apply Hc O U (.g 4097<|.fi () [0])
def Wq(U:AA 2 A)(x dx:Nat)(v:Value)(xs:Ak)(hx:xs.length<=1000):Ag B.C A where
 c:=.call (.builtin "list.append") ⟨[J x,v],[]⟩
 F:=[AY x dx xs]
 X:=Unit
 res:=λYa=>.ok (.ret .none)
 led:=λYa=>[AY x dx (xs++[v])]
 ok:=BF ADr RZ (Wk O U.in1 x dx v xs) (Pn hx)
theorem au(U:AA 1 A)(x dx:Nat)(IN st:Str)(t1 t2:Nat)(xs:Ak)(n:Value):
 AS B A (Pl B 144 [J x,.str IN t1,.str st t2]) [AY x dx xs,A3 dx n] (([(AM,J x),(Bp,.str IN t1),(A0,.str st t2)]:BC)) [AY x dx xs,A3 dx n]:=
 rn O U (.fi () [0,0])
theorem ZW(U:AA 1 A)(x dx:Nat)(IN st:Str)(t1 t2:Nat)(xs:Ak)(n:Value):
 AC B.C A (OP B 144 [(AM,J x),(Bp,.str IN t1),(A0,.str st t2)]) [AY x dx xs,A3 dx n]
  (λa0:Nat=>AR B.P 144 [] (a0+323))
  (λa0=>[AI a0 [(AM,J x),(Bp,.str IN t1),(A0,.str st t2)],AY x dx xs,A3 dx n]):=
 rn O U (.al λa0=>.fr λk1=>.g 6145<|.fr λk2=>.g 6145<|.fr λk3=>.g 6145<|.fi (a0) [0,0,0])
theorem bK(U:AA 3 A)(L x dx:Nat)(IN st:Str)(t1 t2:Nat)(xs:Ak)(n:Value)(hx:xs.length<=1000):
 AC B.C A (Ac (A4 B.P 144) (AR B.P 144 [] (L+323))) [AI L [(AM,J x),(Bp,.str IN t1),(A0,.str st t2)],AY x dx xs,A3 dx n]
  (λa:Nat=>.next)
  (λa=>[AY x dx (xs++[J a]),A3 dx n,AV a [.str IN t1,.str st t2]]):=
 D7 O U (.g 5151127136368754662169395593345<|.al λa0=>.cc (Wq O U.l x dx (J a0) xs hx) [2] λYa=>.fi (a0) [0,2,0])
omit O
theorem Ss{B:Bx}{A:AL}(O:B.C.Ok)(U:AA 5 A)(x dx:Nat)(IN st:Str)(t1 t2:Nat)(xs:Ak)(n:Value)(hx:xs.length<=1000):
 AT B.C A (.call (.ref 144) ⟨[J x,.str IN t1,.str st t2],[]⟩) [AY x dx xs,A3 dx n] (λa:Nat=>.ok (.ret .none)) (λa=>[AY x dx (xs++[J a]),A3 dx n,AV a [.str IN t1,.str st t2]]):=
 Pr O (n:=4) U ADq (au O U.l.in1 x dx IN st t1 t2 xs n) (ZW O U.l.in1 x dx IN st t1 t2 xs n)
  (λa=>BK (bK O U.l.deeper a x dx IN st t1 t2 xs n hx))
include O
def Qr(U:AA 5 A)(x dx:Nat)(IN st:Str)(t1 t2:Nat)(xs:Ak)(n:Value)(hx:xs.length<=1000):Ag B.C A where
 c:=.call (.ref 144) ⟨[J x,.str IN t1,.str st t2],[]⟩
 F:=[AY x dx xs,A3 dx n]
 X:=Nat
 res:=λa=>.ok (.ret .none)
 led:=λa=>[AY x dx (xs++[J a]),A3 dx n,AV a [.str IN t1,.str st t2]]
 ok:=(Ss O U x dx IN st t1 t2 xs n hx).call
noncomputable def Ag.re{C:Cx}{A:AL}(K:Ag C A){X':Type}(D0:X'->Result)(Cy:X'->AN)(f:K.X->X')(h: ∀x,K.res x=D0 (f x))(hl: ∀x,K.led x=Cy (f x)):Ag C A where
 c:=K.c
 F:=K.F
 X:=X'
 res:=D0
 led:=Cy
 ok:=AC.weaken K.ok λx=>⟨f x,h x,λR s S=>by rw[<-hl x];exact S⟩
def Ky(U:AA 3 A)(i j:Int)(t u:Nat):Ag B.C A:=
 DN O U "int.__eq__" [.int i t,.int j u] [] (λYa:Unit=>.bool (i==j)) (λYa=>[]) (λU=>.fi () []) λU=>.fi () []
def Yp(U:AA 3 A)(i j:Int)(t u:Nat):Ag B.C A:=
 DN O U "int.__gt__" [.int i t,.int j u] [] (λYa:Unit=>.bool (decide (i>j))) (λYa=>[]) (λU=>.fi () []) λU=>.fi () []
def Yr(U:AA 3 A)(i j:Int)(t u:Nat):Ag B.C A:=
 DN O U "int.__lt__" [.int i t,.int j u] [] (λYa:Unit=>.bool (decide (i<j))) (λYa=>[]) (λU=>.fi () []) λU=>.fi () []
def Yq(U:AA 3 A)(i j:Int)(t u:Nat):Ag B.C A:=
 DN O U "int.__le__" [.int i t,.int j u] [] (λYa:Unit=>.bool (decide (i<=j))) (λYa=>[]) (λU=>.fi () []) λU=>.fi () []
def Qq(U:AA 3 A)(i j:Int)(t u:Nat):Ag B.C A:=
 DN O U "int.__sub__" [.int i t,.int j u] [] (λk:Nat=>.int (i-j) k) (λk=>[]) (λU=>.fi () []) λU=>.fr λk0=>.fi (k0) []
def VW(U:AA 3 A)(i j:Int)(t u:Nat):Ag B.C A:=
 DN O U "int.__add__" [.int i t,.int j u] [] (λk:Nat=>.int (i+j) k) (λk=>[]) (λU=>.fi () []) λU=>.fr λk0=>.fi (k0) []
def Ux(U:AA 3 A)(i:Str)(t:Nat):Ag B.C A:=
 DN O U "str.isspace" [.str i t] [] (λYa:Unit=>.bool (decide (i.length>0)&&i.cps.all Cg)) (λYa=>[]) (λU=>.fi () []) λU=>.fi () []
def gr(U:AA 3 A)(i:Str)(t:Nat):Ag B.C A:=
 DN O U "str.__len__" [.str i t] [] (λk:Nat=>.int (i.length:Int) k) (λk=>[]) (λU=>.fi () []) λU=>.fr λk0=>.fi (k0) []
omit O
section
variable(B:Bx)(A:AL)(O:B.C.Ok)(U:AA 3 A)
def gN(i j:Int)(t u:Nat)(h:i=j):Ag B.C A:=(Ky O U i j t u).re (λYa:Unit=>.ok (.ret (.bool true))) (λYa=>[]) (λYa=>()) (λYa=>by subst h;show(Cs (B6 (.bool (i==i))):Result)=_;simp) (λYa=>rfl)
def gM(i j:Int)(t u:Nat)(h:i≠j):Ag B.C A:=(Ky O U i j t u).re (λYa:Unit=>.ok (.ret (.bool false))) (λYa=>[]) (λYa=>()) (λYa=>by show(Cs (B6 (.bool (i==j))):Result)=_;rw[beq_eq_false_iff_ne.mpr h]) (λYa=>rfl)
def Kz(i j:Int)(t u:Nat)(h:i>j):Ag B.C A:=(Yp O U i j t u).re (λYa:Unit=>.ok (.ret (.bool true))) (λYa=>[]) (λYa=>()) (λYa=>by show(Cs (B6 (.bool (decide (i>j)))):Result)=_;rw[decide_eq_true h]) (λYa=>rfl)
def Qp(i j:Int)(t u:Nat)(h: ¬i>j):Ag B.C A:=(Yp O U i j t u).re (λYa:Unit=>.ok (.ret (.bool false))) (λYa=>[]) (λYa=>()) (λYa=>by show(Cs (B6 (.bool (decide (i>j)))):Result)=_;rw[decide_eq_false h]) (λYa=>rfl)
def IJ(i j:Int)(t u:Nat)(h:i<j):Ag B.C A:=(Yr O U i j t u).re (λYa:Unit=>.ok (.ret (.bool true))) (λYa=>[]) (λYa=>()) (λYa=>by show(Cs (B6 (.bool (decide (i<j)))):Result)=_;rw[decide_eq_true h]) (λYa=>rfl)
def II(i j:Int)(t u:Nat)(h: ¬i<j):Ag B.C A:=(Yr O U i j t u).re (λYa:Unit=>.ok (.ret (.bool false))) (λYa=>[]) (λYa=>()) (λYa=>by show(Cs (B6 (.bool (decide (i<j)))):Result)=_;rw[decide_eq_false h]) (λYa=>rfl)
def gP(i j:Int)(t u:Nat)(h:i<=j):Ag B.C A:=(Yq O U i j t u).re (λYa:Unit=>.ok (.ret (.bool true))) (λYa=>[]) (λYa=>()) (λYa=>by show(Cs (B6 (.bool (decide (i<=j)))):Result)=_;rw[decide_eq_true h]) (λYa=>rfl)
def gO(i j:Int)(t u:Nat)(h: ¬i<=j):Ag B.C A:=(Yq O U i j t u).re (λYa:Unit=>.ok (.ret (.bool false))) (λYa=>[]) (λYa=>()) (λYa=>by show(Cs (B6 (.bool (decide (i<=j)))):Result)=_;rw[decide_eq_false h]) (λYa=>rfl)
def gt(i:Str)(t:Nat)(h:(decide (i.length>0)&&i.cps.all Cg)=false):Ag B.C A:=(Ux O U i t).re (λYa:Unit=>.ok (.ret (.bool false))) (λYa=>[]) (λYa=>()) (λYa=>by show(Cs (B6 (.bool (decide (i.length>0)&&i.cps.all Cg))):Result)=_;rw[h]) (λYa=>rfl)
def GA(a b t u:Nat):Ag B.C A:=(VW O U (a:Int) (b:Int) t u).re (λk:Nat=>.ok (.ret (.int ((a+b:Nat):Int) k))) (λYa=>[]) (λk=>k) (λk=>by show(Cs (B6 (.int ((a:Int)+(b:Int)) k)):Result)=_;rw[Int.natCast_add]) (λYa=>rfl)
def F_(a t u:Nat):Ag B.C A:=(VW O U (a:Int) 1 t u).re (λk:Nat=>.ok (.ret (.int ((a+1:Nat):Int) k))) (λYa=>[]) (λk=>k) (λk=>rfl) (λYa=>rfl)
def bi(a t u:Nat):Ag B.C A:=(Qq O U ((a+1:Nat):Int) 1 t u).re (λk:Nat=>.ok (.ret (.int (a:Int) k))) (λYa=>[]) (λk=>k) (λk=>by show(Cs (B6 (.int (((a+1:Nat):Int)-1) k)):Result)=_;rw[show((a+1:Nat):Int)-1=(a:Int) by lia]) (λYa=>rfl)
end
noncomputable abbrev AE(x:Nat)(xs:Ak):Bi:=.one (x+323) (.ls (.type "list") none xs)
noncomputable abbrev F8(a:Nat)(u v:Value):Bi:=.one (a+323) (.ex ⟨.type "slice",none,.fields ⟨[u,v,.none]⟩,⟨[]⟩⟩)
section
variable{C:Cx}{A:AL}
theorem DV{s:Af}{L:AN}{a:Addr}{o:Obj}(S:St C (.one a (.ex o)::L) s):s.heap.get? a=some o:=by
 obtain⟨g,h⟩:=S.Dj;exact h
theorem St.swap{s:Af}{L:AN}{e f:Bi}(S:St C (e::f::L) s):St C (f::e::L) s:=S.perm (Ae f e L)
theorem St.size_eq(O:C.Ok){s:Af}{L:AN}(S:St C L s):s.heap.objs.size=(s.heap.objs.size-323)+323:=by
 have:=S.size;have:=O.size;lia
theorem Kk{l:Addr}{c:Value}{d:Option Addr}{xs:Ak}{k:Int}{t:Nat}{v:Value}(h0:0<=k)(hk:k<2^63)(hx:xs[k.toNat]? =some v):
 AC C A (Builtin.«list.__getitem__» ⟨[.ref l,.int k t],[]⟩) [.one l (.ls c d xs)] (λYa:Unit=>.done (.ret v)) (λYa=>[.one l (.ls c d xs)]):=by
 intro R s S;obtain⟨g,ho⟩:=S.Dj;have Q0:(⟨xs⟩:Bs)[k.toNat]? =some v:=by simpa using hx
 show BN _ _ (Bb (.int k t)>>=_) _ _ s;refine AB (HZ (fitsIndex_of h0 hk) ?_)
 clear hk
 obtain⟨j,rfl⟩:=Int.eq_ofNat_of_zero_le h0;have Q0:(⟨xs⟩:Bs)[j]? =some v:=by simpa using hx
 show BN _ _ ((seqItemAt l j>>=λr=>pure (r.map (j, ·)))>>=_) _ _ s;refine AB (AB (wpAny_seqItemAt ho rfl (AP ?_)));rw[Q0]
 first
  |exact AB (AP (AP ⟨(),rfl,S⟩))
  |exact AP ⟨(),rfl,S⟩
theorem Ja(O:C.Ok){l sl:Addr}{c:Value}{d:Option Addr}{xs:Ak}{vl vu:Value}{lo hi:Option Int}(pl:PY vl lo)(pu:PY vu hi)(hx:xs.length<=1000){ys:Ak}
 (hy:(RI ⟨xs⟩ lo hi none).toList=ys):
 AC C A (Builtin.«list.__getitem__» ⟨[.ref l,.ref sl],[]⟩) [.one l (.ls c d xs),.one sl (.ex ⟨.type "slice",none,.fields ⟨[vl,vu,.none]⟩,⟨[]⟩⟩)]
  (λa:Nat=>.done (.ret (.ref (a+323)))) (λa=>[.one (a+323) (.ls (.type "list") none ys),.one l (.ls c d xs),.one sl (.ex ⟨.type "slice",none,.fields ⟨[vl,vu,.none]⟩,⟨[]⟩⟩)]):=by
 subst hy;intro R s S;obtain⟨g,ho⟩:=S.Dj;have MK:=DV S.swap;have TW:s.TypeIs (.ref sl) "slice":=⟨_,MK,rfl⟩;have Is:(⟨xs⟩:Bs).size<=sizeLine:=AK (show xs.length<=1000 from hx) ADs
 show BN _ _ (Bb (.ref sl)>>=_) _ _ s;refine AB ?_;unfold Bb;refine AB (I_ TW J5 ?_);simp only[J1,if_true];refine AP ?_;show BN _ _ (J6 (.ref sl)>>=_) _ _ s;refine AB (H6 TW ?_);refine iN ADs ?_
 rw[H3];refine AB (AB (B9 MK rfl (x:=.none) rfl (AB (DF .none ?_))));refine iN ADs ?_
 refine AB (B9 MK rfl (x:=vl) rfl (AB (DF pl ?_)));refine AB (B9 MK rfl (x:=vu) rfl (AB (DF pu (AP ?_))));refine AB (m:=A7 (.ref l)) ?_;unfold A7;refine AB (DG ho rfl (AP ?_));refine AB (GR (Ie lo hi none xs.length ADt) ?_)
 refine AB (DS (AP ?_) (AK (Ke _ lo hi none) Is));refine⟨s.heap.objs.size-323,?_,?_⟩
 ·rw[<-S.size_eq O]
 ·rw[<-S.size_eq O]
  exact S.alloc rfl ⟨G0,rfl⟩
theorem MP{c:Value}{d:Option Addr}{xs ys:Ak}{n:Nat}{f:Bs->Bs}(h:f ⟨xs⟩=⟨ys⟩):(AO.ls c d ys).is (Me f ⟨c,d,.seq ⟨xs⟩ n,⟨[]⟩⟩):=by
 refine⟨⟨λYa=>0,λYa=>0,if(f ⟨xs⟩).size==(⟨xs⟩:Bs).size then n else n+1,⟨[]⟩⟩,?_⟩
 show(⟨c,d,.seq (f ⟨xs⟩) (if(f ⟨xs⟩).size==(⟨xs⟩:Bs).size then n else n+1),⟨[]⟩⟩:Obj)=⟨c,d,.seq ⟨ys⟩ _,⟨[]⟩⟩
 generalize (if(f ⟨xs⟩).size==(⟨xs⟩:Bs).size then n else n+1)=m
 rw[h]
theorem St.ne{s:Af}{L:AN}{a b:Addr}{x y:AO}(S:St C (.one a x::.one b y::L) s):a≠b:=by
 obtain⟨H,_,XP⟩:=S.led
 have:=XP.nodup
 rw[show Ao (Bi.one a x::Bi.one b y::L)++H=(a,x)::(b,y)::(Ao L++H) from rfl] at this;simp only[Aw,G6,CG,not_or] at this;exact this.1.1
theorem VE(i n:Nat)(h:i<=n):I3 (some (i:Int)) none none n=((i:Int),(n:Int),1):=by
 simp only[I3,Option.getD_none];have h1: ¬((i:Int)<0):=by lia
 simp only[h1,if_false,show(1:Int)>0 by decide,if_true]
 congr 1
 lia
theorem Xr(n:Nat):I3 none none none n=(0,(n:Int),1):=by simp[I3]
theorem M9{l sl b:Addr}{c:Value}{d:Option Addr}{xs ys:Ak}{vl vu:Value}{lo hi:Option Int}(pl:PY vl lo)(pu:PY vu hi)(hx:xs.length<=1000)(hy:ys.length<=1000)
 {i:Nat} (Tb:I3 lo hi none xs.length=((i:Int),(xs.length:Int),1)):
 AC C A (Builtin.«list.__setitem__» ⟨[.ref l,.ref sl,.ref b],[]⟩) [.one l (.ls c d xs),.one sl (.ex ⟨.type "slice",none,.fields ⟨[vl,vu,.none]⟩,⟨[]⟩⟩),.one b (.ls (.type "list") none ys)]
  (λYa:Unit=>.done (.ret .none)) (λYa=>[.one l (.ls c d (xs.take i++ys)),.one sl (.ex ⟨.type "slice",none,.fields ⟨[vl,vu,.none]⟩,⟨[]⟩⟩),.one b (.ls (.type "list") none ys)]):=by
 intro R s S;obtain⟨g,ho⟩:=S.Dj;have MK:=DV S.swap;have hlb:l≠b:=(St.perm S (L':=.one l (.ls c d xs)::.one b (.ls (.type "list") none ys)::.one sl (.ex ⟨.type "slice",none,.fields ⟨[vl,vu,.none]⟩,⟨[]⟩⟩)::R) (by
  simp only[A5,Al];exact(Ae _ _ _).cons _)).ne
 obtain⟨gb,hb⟩:=(St.perm S (L':=.one b (.ls (.type "list") none ys)::.one l (.ls c d xs)::.one sl (.ex ⟨.type "slice",none,.fields ⟨[vl,vu,.none]⟩,⟨[]⟩⟩)::R) (by
  simp only[A5,Al];exact((Ae _ _ _).cons _).trans (Ae _ _ _))).Dj
 have TW:s.TypeIs (.ref sl) "slice":=⟨_,MK,rfl⟩;have uW:s.TypeIs (.ref b) "list":=⟨_,hb,rfl⟩;have Is:(⟨xs⟩:Bs).size<=sizeLine:=AK (show xs.length<=1000 from hx) ADs
 show BN _ _ (Bb (.ref sl)>>=_) _ _ s;refine AB ?_;unfold Bb;refine AB (I_ TW J5 ?_);refine iT rfl ?_;refine AP ?_;show BN _ _ (J6 (.ref sl)>>=_) _ _ s;refine AB (H6 TW ?_);refine iN ADs ?_
 rw[H3];refine AB (AB (B9 MK rfl (x:=.none) rfl (AB (DF .none ?_))));refine iN ADs ?_
 refine AB (B9 MK rfl (x:=vl) rfl (AB (DF pl ?_)));refine AB (B9 MK rfl (x:=vu) rfl (AB (DF pu (AP ?_))));have vG:(Kr (.ref l) (.ref b))=false:=by
  show(l==b)=false
  exact beq_eq_false_iff_ne.mpr hlb
 rw[vG];refine iN BP ?_;have Qz: ∀{a:Addr} {o:Obj} {ys:Ak} {n:Nat} {Q:Bs->Af->Prop} {E:Value->Af->Prop},s.heap.get? a=some o->o.data=.seq ⟨ys⟩ n->Q ⟨ys⟩ s->BN C.M A (A7 (.ref a)) Q E s:=λho hd h=>by
  unfold A7;exact AB (DG ho hd (AP h))
 refine AB ?_;unfold Builtin.List.listAllItems;refine AB (H6 uW ?_);refine iT ADs ?_
 first
  |refine Qz hb rfl ?_
  |refine AB (m:=A7 _) (Qz hb rfl (AP ?_))
 refine AB (m:=A7 _) (Qz ho rfl ?_);refine AB (GR (Ie lo hi none xs.length ADt) ?_)
 rw[Tb]
 dsimp only
 refine iT (show((1:Int)==1)=true from rfl) ?_;refine AB (Eo ?_);refine iN (by simp only[Gy,decide_eq_true_eq];show¬(xs.length+ys.length>sizeLine);rw[Br];lia) ?_
 have hI:i<=xs.length:=by
  have:=congrArg UQ Tb
  simp only[I3,Option.getD_none,show(1:Int)>0 by decide,if_true] at this
  split at this<;>lia
 have Zk:((⟨xs⟩:Bs).extract 0 (i:Int).toNat++⟨ys⟩++(⟨xs⟩:Bs).extract (max (i:Int) (xs.length:Int)).toNat (⟨xs⟩:Bs).size)=⟨xs.take i++ys⟩:=by
  apply Array.toList_inj.mp
  have:(max (i:Int) (xs.length:Int)).toNat=xs.length:=by lia
  simp[this]
 refine AB (m:=Df _ _) (G9 ho rfl (AB (R0 (AP ⟨(),rfl,?_⟩))) Is ?_)
 ·refine(St.Np S (t:=s.toks) (B1 ..) (CO _ ho ?_) ?_)
  ·rfl
  ·exact MP Zk
 ·rw[Zk]
  show(xs.take i++ys).length<=_
  rw[Br,AX,C5];lia
end
theorem Dq:C1 FZ "list.__getitem__"=some Builtin.«list.__getitem__»:=B2 ADq
theorem P1:C1 FZ "list.__setitem__"=some Builtin.«list.__setitem__»:=B2 ADq
include O
theorem Wl(U:AA 1 A)(x:Nat)(v:Value)(xs:Ak):
 AS B A (AU "list.append" ⟨[J x,v],[]⟩) [AE x xs] () [AE x xs]:=
 by apply Hc O U (.g 65<|.fi () [0])
def Do(U:AA 2 A)(x:Nat)(v:Value)(xs:Ak)(hx:xs.length<=1000):Ag B.C A where
 c:=.call (.builtin "list.append") ⟨[J x,v],[]⟩
 F:=[AE x xs]
 X:=Unit
 res:=λYa=>.ok (.ret .none)
 led:=λYa=>[AE x (xs++[v])]
 ok:=BF ADr RZ (Wl O U.in1 x v xs) (Pn hx)
theorem Um(U:AA 1 A)(x dx:Nat)(v:Value)(xs:Ak):
 AS B A (AU "list.__getitem__" ⟨[J x,v],[]⟩) [AY x dx xs] () [AY x dx xs]:=
 by apply Hc O U (.g 4097<|.fi () [0])
theorem Sm(U:AA 1 A)(x dx sl:Nat)(u v:Value)(xs:Ak):
 AS B A (AU "list.__getitem__" ⟨[J x,J sl],[]⟩) [AY x dx xs,F8 sl u v] () [AY x dx xs,F8 sl u v]:=
 by apply Hc O U (.g 4097<|.fi () [0,0])
theorem NB(U:AA 1 A)(x dx sl b:Nat)(u v:Value)(xs ys:Ak):
 AS B A (AU "list.__setitem__" ⟨[J x,J sl,J b],[]⟩) [AY x dx xs,F8 sl u v,AE b ys] () [AY x dx xs,F8 sl u v,AE b ys]:=
 by apply Hc O U (.g 4097<|.fi () [0,0,0])
def Sy(U:AA 2 A)(x dx sl:Nat)(i t:Nat)(xs:Ak)(hi:i<=xs.length)(hx:xs.length<=1000):Ag B.C A where
 c:=.call (.builtin "list.__getitem__") ⟨[J x,J sl],[]⟩
 F:=[AY x dx xs,F8 sl (.int (i:Int) t) .none]
 X:=Nat
 res:=λa=>.ok (.ret (J a))
 led:=λa=>[AE a (xs.drop i),AY x dx xs,F8 sl (.int (i:Int) t) .none]
 ok:=BF ADr Dq (Sm O U.in1 x dx sl _ _ xs)
  (Ja O (.int (i:Int) t) .none hx (by rw[slicePick_from _ _ hi]))
def Sw(U:AA 2 A)(x dx sl b:Nat)(i t:Nat)(xs:Ak)(hi:i<=xs.length)(hx:xs.length<=1000):Ag B.C A where
 c:=.call (.builtin "list.__setitem__") ⟨[J x,J sl,J b],[]⟩
 F:=[AY x dx xs,F8 sl (.int (i:Int) t) .none,AE b []]
 X:=Unit
 res:=λYa=>.ok (.ret .none)
 led:=λYa=>[AY x dx (xs.take i),F8 sl (.int (i:Int) t) .none,AE b []]
 ok:=BF ADr P1 (NB O U.in1 x dx sl b _ _ xs [])
  (by have:=M9 (C:=B.C) (A:=A.in1) (l:=x+323) (sl:=sl+323) (b:=b+323) (c:=.ref 200) (d:=some (dx+323)) (xs:=xs) (ys:=[]) (.int (i:Int) t) .none hx ADt (VE i xs.length hi)
      simpa using this)
def Py(U:AA 2 A)(x dx sl b:Nat)(xs ys:Ak)(hx:xs.length<=1000)(hy:ys.length<=1000):Ag B.C A where
 c:=.call (.builtin "list.__setitem__") ⟨[J x,J sl,J b],[]⟩
 F:=[AY x dx xs,F8 sl .none .none,AE b ys]
 X:=Unit
 res:=λYa=>.ok (.ret .none)
 led:=λYa=>[AY x dx ys,F8 sl .none .none,AE b ys]
 ok:=BF ADr P1 (NB O U.in1 x dx sl b _ _ xs ys)
  (by have:=M9 (C:=B.C) (A:=A.in1) (l:=x+323) (sl:=sl+323) (b:=b+323) (c:=.ref 200) (d:=some (dx+323)) (xs:=xs) (ys:=ys) (i:=0) .none .none hx hy (Xr xs.length)
      simpa using this)
def Px(U:AA 3 A)(x dx:Nat)(xs:Ak)(n v:Value)(t:Nat):Ag B.C A:=
 DN O U "object.__setattr__" [J x,.str EM t,v] [AY x dx xs,A3 dx n] (λYa:Unit=>.none) (λYa=>[AY x dx xs,A3 dx v]) (λU=>.g 4097<|.fi () [0,0]) λU=>.g 281543696191489<|.fr λk0=>.g 272450<|.fi () [0,0]
def Uw(U:AA 3 A)(x dx:Nat)(xs:Ak)(v:Value)(t:Nat):Ag B.C A:=
 DN O U "object.__setattr__" [J x,.str EM t,v] [AY x dx xs,.one (dx+323) (.ns (.type "dict") [])] (λYa:Unit=>.none) (λYa=>[AY x dx xs,A3 dx v]) (λU=>.g 4097<|.fi () [0,0]) λU=>.g 281543696191489<|.fr λk0=>.g 272450<|.fi () [0,0]
def JG(U:AA 3 A)(x dx:Nat)(xs:Ak)(n:Value)(t:Nat):Ag B.C A:=
 DN O U "list.__getattribute__" [J x,.str EM t] [AY x dx xs,A3 dx n] (λYa:Unit=>n) (λYa=>[AY x dx xs,A3 dx n]) (λU=>.g 4097<|.fi () [0,0]) λU=>.g 290272160251905<|.fi () [0,0]
theorem Ug(U:AA 3 A)(L x dx:Nat)(i t:Nat)(xs:Ak)(n:Value)(hi:i<=xs.length)(hx:xs.length<=1000):
 AC B.C A (Ac (A4 B.P 152) (AR B.P 152 [] (L+323))) [AI L [(AM,J x),(VI,.int (i:Int) t)],AY x dx xs,A3 dx n]
  (λa:Nat=>.ret (J a))
  (λa=>[AY x dx (xs.take i),A3 dx n,AE a (xs.drop i)]):=
 D7 O U (.g 4161<|.al λa0=>.g 1152921710815608835<|.cc (Sy O U.l x dx a0 i t xs hi hx) [2,0] λy1=>.fr λk2=>.g 6340<|.al λa3=>.g 4421<|.al λa4=>.g 68719493124<|.cc (Sw O U.l x dx a4 a3 i t xs hi hx) [3,0,0] λYa=>.g 70<|.fi (y1) [0,5,2])
def W3(U:AA 5 A)(x dx:Nat)(i t:Nat)(xs:Ak)(n:Value)(hi:i<=xs.length)(hx:xs.length<=1000):Ag B.C A where
 c:=.call (.ref 152) ⟨[J x,.int (i:Int) t],[]⟩
 F:=[AY x dx xs,A3 dx n]
 X:=Nat
 res:=λa=>.ok (.ret (J a))
 led:=λa=>[AY x dx (xs.take i),A3 dx n,AE a (xs.drop i)]
 ok:=EU O U [(AM,J x),(VI,.int (i:Int) t)] (sb:=.g 64<|.fi () [])
  (λa=>BK (Ug O U.l.deeper a x dx i t xs n hi hx))
theorem YO(U:AA 3 A)(L x dx b:Nat)(xs ys:Ak)(n:Value)(hx:xs.length<=1000)(hy:ys.length<=1000):
 AC B.C A (Ac (A4 B.P 182) (AR B.P 182 [] (L+323))) [AI L [(AM,J x),(KS,J b)],AY x dx xs,A3 dx n,AE b ys]
  (λt:Nat=>.next)
  (λt=>[AY x dx ys,A3 dx (.int 0 t),AE b ys]):=
 D7 O U (.g 266305<|.al λa0=>.g 68719489027<|.cc (Py O U.l x dx a0 b xs ys hx hy) [2,0,2] λYa=>.fr λk2=>.g 68<|.fr λk3=>.g 16777217<|.cc (Px O U.l x dx ys n (.int 0 k2) k3) [0,3] λYa=>.fi (k2) [0,0,1])
omit O
theorem qP(B:Bx):A4 B.P 167=[.Return (some (vE (mN 7 4 0))) (pS 120 8 84)]:=by kernel_rfl
theorem qQ(B:Bx):A4 B.P 174=[.Return (some (vE (mN 7 5 0))) (pS 123 8 86)]:=by kernel_rfl
def aX(h:Heap)(l:Addr)(items:Bs):Prop:= ∃o n,h.get? l=some o/\o.data=.seq items n
theorem aX.at'{h h':Heap}{l items}(x:aX h l items)(hk: ∀o,h.get? l=some o->h'.get? l=some o):aX h' l items:=
 let⟨o,n,ho,hd⟩:=x;⟨o,n,hk o ho,hd⟩
section
variable{prog:Program}{w:World}{A:AL}{E:Value->Af->Prop}{s:Af}
theorem di{it l:Addr}{i:Nat}{items:Bs}{x:Value}{Q:DP->Af->Prop}(hit:s.heap.IsListIter it l i)(hl:aX s.heap l items)(hx:items[i]? =some x)
 (hQ: ∀h',h'.get? it=some (Oz (λvs=>vs.setIfInBounds 1 (CL ((i:Int)+1))) ((s.heap.get? it).getD Au))∨True->h'.IsListIter it l (i+1)->QV it s.heap h'->Q (some x) {s with heap:=h'}):BN (Qg prog w) A (FK (.ref it)) Q E s:=by
 obtain⟨o,ho,hc,hd⟩:=id hit;obtain⟨ol,nl,dL,dF⟩:=hl;unfold FK;refine AB (O2 (L0 (name:=JO "__next__") hit.typeIs HP
  (wpAny_call_entry HP hit.typeIs OZ ?_ (Pd _))))
 show BN _ _ (O0 (.ref it) 0>>=_) _ _ s;refine AB (B9 ho hd (x:=.ref l) rfl ?_);show BN _ _ (if(CC l==CU)=true then _ else _) _ _ s
 refine iN (show¬((CC l==CU)=true) from BP) ?_;show BN _ _ (O0 (.ref it) 1>>=_) _ _ s;refine AB (B9 ho hd (x:=.int i 0) rfl ?_);show BN _ _ (LZ (.ref l)>>=_) _ _ s;refine AB (DG dL dF ?_);simp only[Dt,hx];refine AB (FU ho hd ADt (AP ⟨x,rfl,AP (hQ _ (.inr trivial) ?_ (B1 ..))⟩))
 exact⟨_,CO _ ho (M3 (J0 hd _)),(Obj.cls_mapFields ..).trans hc,by
  rw[J0 hd];simp[CL]⟩
theorem i4{it l:Addr}{i:Nat}{items:Bs}{Q:DP->Af->Prop}(hh:A.handled=none)(hit:s.heap.IsListIter it l i)(hl:aX s.heap l items)(hx:items[i]? =none)
 (hQ: ∀h',Heap.ExtBut it s.heap h'->s.heap.objs.size<=h'.objs.size->(∃o,h'.get? it=some o)->Q none {s with heap:=h'}):BN (Qg prog w) A (FK (.ref it)) Q E s:=by
 obtain⟨o,ho,hc,hd⟩:=id hit;obtain⟨ol,nl,dL,dF⟩:=hl;unfold FK;refine AB (O2 (L0 (name:=JO "__next__") hit.typeIs HP
  (wpAny_call_entry HP hit.typeIs OZ ?_ (Pd _))))
 show BN _ _ (O0 (.ref it) 0>>=_) _ _ s;refine AB (B9 ho hd (x:=.ref l) rfl ?_);show BN _ _ (if(CC l==CU)=true then _ else _) _ _ s
 refine iN (show¬((CC l==CU)=true) from BP) ?_;show BN _ _ (O0 (.ref it) 1>>=_) _ _ s;refine AB (B9 ho hd (x:=.int i 0) rfl ?_);show BN _ _ (LZ (.ref l)>>=_) _ _ s;refine AB (DG dL dF ?_);simp only[Dt,hx];refine AB (Eo (AB (FU ho hd ADt ?_)))
 show BN _ _ (newExc (.type "StopIteration") []>>=_) _ _ _;refine AB ?_;simp only[newExc,newTuple];refine AB (DS ?_ (by size_fits))
 refine AB (m:=firstArgMember _ _) (GR (a:=CU) (by first|rfl|(simp only[firstArgMember];rfl)) ?_)
 refine DS ?_ (by size_fits)
 simp only[Qi];refine AB (O3 ?_);rw[show A.in1.handled=none from hh];refine AB (AP (R2 ?_));refine AB (Ig (T:="StopIteration") (b:=true) ⟨_,FN _ rfl,rfl⟩ isSubtype_stop ?_);refine AP (hQ _ (((B1 ..).extBut.push _).push _) ?_ ⟨_,Cu _ (Cu _ (CO _ ho (M3 (J0 hd _))))⟩);simp only[Heap.size_push]
 have:=(B1 (h:=s.heap) (a:=it) (f:=Oz λvs=>vs.setIfInBounds 0 CU)).1
 first
  |lia
  |(simp only[QV] at this;lia)
  |exact AK (Ge (B1 ..).1.symm) ADp
theorem j0(hh:A.handled=none)(I ax:Addr)(CD:ax≠I)(items:Bs)(Ts:Nat->Addr)(vals:Nat->Bs)
 (hit: ∀j,j<items.size->items[j]? =some (.ref (Ts j))) (yu: ∀j,j<items.size->Ts j≠I):
 WalksU prog w A I (I::ax::(Ah items.size).map Ts) [I] items.size (λj v=>v=vals j/\j<items.size)
  (λj h=>h.IsListIter I ax j/\aX h ax items/\ ∀k,k<items.size->h.IsTuple (Ts k) (vals k))
  (λj T h=>(j<items.size/\T=Ts j)/\h.IsListIter I ax (j+1)/\aX h ax items/\ ∀k,k<items.size->h.IsTuple (Ts k) (vals k)) where
 sub:=λb hb=>by simp at hb;simp[hb]
 frame:=λYa Ya Ya st hk=>⟨st.1.at λo e=>hk I ADt o e,st.2.1.at' λo e=>hk ax ADt o e,
  λk Tc=>(st.2.2 k Tc).at λo e=>hk (Ts k) (Nv _ (Nv _ (List.mem_map.mpr ⟨k,List.mem_range.mpr Tc,rfl⟩))) o e⟩
 item:=λi s Q E hi st hQ=>by
  refine di st.1 st.2.1 (x:=.ref (Ts i)) (hit i hi) λh' _ zJ P6=>?_;have tup: ∀k,k<items.size->h'.IsTuple (Ts k) (vals k):=λk Tc=>(st.2.2 k Tc).extBut P6.extBut (yu k Tc);exact hQ (Ts i) (vals i) h' s.toks ⟨rfl,hi⟩ (tup i hi) ⟨⟨hi,rfl⟩,zJ,st.2.1.at' λo e=>P6.extBut _ o CD e,tup⟩ λb o hb e=>P6.extBut b o (λh=>hb (by simp[h])) e
 go:=λYa Ya Ya Ya Ya s Q _ hm hQ=>wpAny_letOwnedTupleGo_listiter hm.2.1 (hQ s.heap hm.2 λYa Ya Ya e=>e)
 apart:=λj T _ hm zO=>by
  rcases List.mem_cons.mp zO with e|e
  ·exact yu j hm.1.1 (hm.1.2▸e)
  ·cases e
 done:=λs Q E st hQ=>i4 hh st.1 st.2.1 ADt λh' rJ _ _=>hQ h' s.toks λb o hb e=>rJ b o (λh=>hb (by simp[h])) e
 self:=λYa Ya Ya Ya st hQ=>wpAny_pyIter_listiter st.1 hQ
end
abbrev U2(a:Nat)(ao:AO)(g:G):Bi:=.one (a+323) (.ex (ao.obj g))
abbrev uL(l:BC):AO:=.ns (.type "frame") l
noncomputable abbrev X6(dx:Nat)(xs:Ak):AO:=.ls (.ref 200) (some (dx+323)) xs
abbrev kA(n:Value):AO:=.ns (.type "dict") [(EM,n)]
include O
def Us(U:AA 3 A)(x dx:Nat)(xs:Ak)(n:Int)(tn:Nat)(t:Nat)(g1 g2:G):Ag B.C A:=
 DN O U "list.__getattribute__" [J x,.str EM t] [U2 x (X6 dx xs) g1,U2 dx (kA (.int n tn)) g2] (λYa:Unit=>.int n tn) (λYa=>[U2 x (X6 dx xs) g1,U2 dx (kA (.int n tn)) g2]) (λU=>.g 4097<|.fi () [0,0]) λU=>.g 290272160251905<|.fi () [0,0]
theorem im(U:AA 3 A)(L x dx:Nat)(xs:Ak)(n:Int)(tn:Nat)(g0 g1 g2:G):
 AS B A (Bf ((nM AM 120 65 69).Attribute EM (pS 120 65 83)) (AR B.P 167 [] (L+323))) [U2 L (uL [(AM,J x)]) g0,U2 x (X6 dx xs) g1,U2 dx (kA (.int n tn)) g2] (Be n tn) [U2 L (uL [(AM,J x)]) g0,U2 x (X6 dx xs) g1,U2 dx (kA (.int n tn)) g2]:=
 H_ O U (.g 65<|.fr λk0=>.g 4398046511106<|.cc (Us O U.l x dx xs n tn k0 g1 g2) [1,1] λYa=>.fi () [2,0,0])
theorem nJ(U:AA 1 A)(L:Nat)(l:BC):
 AS B A (Bf (nM xp 120 15 18) (AR B.P 167 [] (L+323))) [AI L l] (Value.builtin "sum") [AI L l]:=
 H_ O U (.g 4096<|.fi () [0])
theorem io(U:AA 1 A)(L:Nat)(v:Value):
 AS B A (Bf (nM AM 120 58 62) (AR B.P 167 [] (L+323))) [AI L [(AM,v)]] v [AI L [(AM,v)]]:=
 H_ O U (.g 65<|.fi () [0])
theorem jf(U:AA 1 A)(L:Nat)(v:Value):
 AS B A (Bf (nM AM 123 80 84) (AR B.P 174 [] (L+323))) [AI L [(AM,v)]] v [AI L [(AM,v)]]:=
 H_ O U (.g 65<|.fi () [0])
def bn(U:AA 3 A)(x dx:Nat)(xs:Ak):Ag B.C A:=
 DN O U "list.__iter__" [J x] [AY x dx xs] (λa:Nat=>J a) (λa=>[.one (a+323) (.ex ⟨.type "list_iterator",none,.fields ⟨[J x,.int 0 0]⟩,⟨[]⟩⟩),AY x dx xs]) (λU=>.g 4097<|.fi () [0]) λU=>.al λa0=>.fi (a0) [0,0]
theorem Vx(U:AA 3 A)(x dx:Nat)(xs:Ak):
 AC B.C A (Mi (J x)) [AY x dx xs]
  (λa:Nat=>J a)
  (λa=>[.one (a+323) (.ex ⟨.type "list_iterator",none,.fields ⟨[J x,.int 0 0]⟩,⟨[]⟩⟩),AY x dx xs]):=by
 obtain⟨_,_|_⟩:=B<;>exact xX O U (.g 281474993487873<|.cc (bn O U.l x dx xs) [0] λy0=>.g 65<|.fi (y0) [0,0])
omit O
section
variable{prog:Program}{w:World}{A:AL}{E:Value->Af->Prop}{s:Af}
theorem ag(a b:Value):argsOk "sum" ⟨[a,b],[]⟩:=by unfold argsOk;kernel_rfl
theorem MR(i0:Int)(val:Nat->Int): ∀j,Ic (λi=>match i with|0=>i0|i+1=>val i) (j+1)=i0+Ic val j
 |0=>by simp[Ic]
 |j+1=>by
  have:=MR i0 val j
  simp only[Ic] at this⊢
  lia
theorem aR{I:Addr}{fp wr:List Addr}{G:Array GenState->Array GenState->Prop}{n:Nat}{P:Nat->Value->Prop}{St:Nat->Af->Prop}(W:WalksS prog w A I fp wr G n P St):
 WalksS prog w A I fp wr G (n+1) (λi v=> ∃j,i=j+1/\P j v) (λi s=> ∃j,i=j+1/\St j s) where
 sub:=W.sub
 grefl:=W.grefl
 gtrans:=W.gtrans
 frame:=λi s h' tk ⟨j,e,st⟩ ht hk=>⟨j,e,W.frame j s h' tk st ht hk⟩
 item:=λi s Q E hi ⟨j,e,st⟩ hQ=>W.item j s Q E ADp st λv s' hP VF hm=>hQ v s' ⟨j,e,hP⟩ ⟨j+1,by lia,VF⟩ hm
 done:=λs Q E ⟨j,e,st⟩ hQ=>W.done s Q E (by have:n=j:=ADp;rw[this];exact st) hQ
 self:=λi s Q E ⟨j,e,st⟩ hQ=>W.self j s Q E st hQ
theorem R8{x:Value}{i0:Int}{t0:Tok}{Q:Value->Af->Prop}(h0:RH i0)
 (h:BN (Qg prog w) A.in1 (Mi x) (λit s₂=> ∃I fp wr G n P St val,it=.ref I/\WalksS prog w A.in1 I fp wr G n P St/\St 0 s₂/\(∀b∈fp,b<s₂.heap.objs.size)/\
  (∀i v,P i v-> ∃t,v=.int (val i) t)/\(∀j,j<n->RH (val j)/\RH (i0+Ic val (j+1)))/\
  ∀s' t',Moved wr G s₂ s'->Q (.int (i0+Ic val n) t') s') E s):
 BN (Qg prog w) A (call (.builtin "sum") [x,.int i0 t0]) Q E s:=by
 refine call_function_tree F.kind_sum F.plain_sum F.entry_sum (ag _ _) ?_;unfold Builtin.«sum»;simp only[Ap,G5];refine iN ADs ?_
 refine AB (GR (show Builtin.Builtins.bindParams "sum" ["start"] 0 ⟨[.int i0 t0],[]⟩=pure [some (.int i0 t0)] from rfl) ?_);refine AB (Av h (λit s₂ h₂=>?_) λYa Ya e=>e);obtain⟨I,fp,wr,G,n,P,St,val,rfl,W,Ms,mQ,zc,FV,hQ⟩:=h₂
 dsimp only
 rw[if_pos (by
  show(decide (-(2^63)<=i0)&&decide (i0<2^63))=true
  rw[FS,decide_eq_true_eq,decide_eq_true_eq];exact h0)]
 refine AB (Eo ?_);refine AB (wpAny_mkInt ?_);refine AB (AP ?_);simp only[EP,Nu];refine AB (AB (AB (Ig (T:="int") (b:=false) (UV _ _ _) PySem.sub_int_str ?_)));refine iN BP ?_;refine AP (AB (AB (Ig (T:="int") (b:=false) (UV _ _ _) PySem.sub_int_bytes ?_)));refine iN BP ?_;refine AP (AB (AB (Ig (T:="int") (b:=false) (UV _ _ _) PySem.sub_int_bytearray ?_)));refine iN BP ?_;refine AP (AP ?_);refine AB (DS ?_);have hSf:s₂.heap.objs.size∉fp:=λhm=>Dl _ (mQ _ hm);refine AP ⟨DH F.plain_sum_loop _,codeAny_sum_loopS (aR W) (λi=>match i with|0=>i0|i+1=>val i) (λi v ⟨j,e,hP⟩=>by subst e;exact zc j v hP) (λj hj=>?_) s₂.heap.objs.size hSf (n+1-1) 1 _ s₂.toks 0 rfl ADp
  ⟨0,rfl,W.frame 0 s₂ _ _ Ms (by first|exact Am _|exact Eb _|lia) λb _ o e=>Cu _ e⟩ ?_ λs' t' hm=>?_⟩
 ·cases j with
  |zero=>exact⟨h0,by simpa [Ic] using h0⟩
  |succ j=>
   have:=FV j ADp
   rw[MR];exact this
 ·rw[show Ic (λi=>match i with|0=>i0|i+1=>val i) 1=i0 from by simp[Ic]]
  exact FN _ rfl
 ·rw[MR]
  exact hQ s' t' (hm.drop_new (by first|exact Am _|exact Eb _|lia))
end
structure It where
 a:Nat
 f:Str
 tf:Nat
 p:Str
 tp:Nat
 deriving Inhabited
def It.v(i:It):Value:=J i.a
noncomputable def It.e(i:It):Addr×AO:=(i.a+323,.ls (.type "tuple") none [.str i.f i.tf,.str i.p i.tp])
noncomputable def It.len(i:It):Nat:=i.f.length+i.p.length
def CN(AH:List It):Nat:=(AH.map It.len).sum
abbrev BS(x dx:Nat)(AH:List It):Bi:=AY x dx (AH.map It.v)
abbrev Ai(AH:List It):Bi:=.many (AH.map It.e)
def CY(AH:List It):Prop:=AH.length<=500/\ ∀i∈AH,i.f.length<=500/\i.p.length<=500
theorem CY.sum{AH:List It}(h:CY AH):CN AH<=500000:=by
 have: ∀l:List It,(∀i∈l,i.f.length<=500/\i.p.length<=500)->CN l<=1000*l.length:=by
  intro l
  induction l with
  |nil=>intro _;simp[CN]
  |cons i r ih=>
   intro h;have h1:=h i (.head _);have h2:=ih λj hj=>h j (.tail _ hj);simp only[CN,Aw,Ea,Ap,It.len] at h2⊢
   lia
 have:=this AH h.2
 have:=h.1
 lia
theorem rQ{C:Cx}{AH:List It}{L:AN}{s:Af}(S:St C (Ai AH::L) s){i:It}(hi:i∈AH):s.heap.IsTuple (i.a+323) #[.str i.f i.tf,.str i.p i.tp]:=by
 obtain⟨H,_,XP⟩:=S.led;obtain⟨o,ho,g,rfl⟩:=XP.at_ i.e (Ar _ (Ar _ (CB hi)));exact⟨_,ho,rfl,_,rfl⟩
theorem rR{C:Cx}{AH:List It}{L:AN}{s:Af}{b:Addr}{ao:AO}(S:St C (Ai AH::.one b ao::L) s){i:It}(hi:i∈AH):i.a+323≠b:=by
 obtain⟨H,_,XP⟩:=S.led
 have:=XP.nodup
 rw[show Ao (Ai AH::.one b ao::L)++H=AH.map It.e++((b,ao)::(Ao L++H)) from by simp[Ao,Bi.flat],AZ,Kb] at this
 exact this.2.2 _ (CB (f:=λx:Addr×AO=>x.1) (CB hi)) _ ADt
def aY(o:Obj):Prop:= ∃ps,o=⟨.none,none,.fields ps,⟨[]⟩⟩/\JV ps.toList
def Pg(H:F6):Prop:=H.map (·.1)=[162,169]/\ ∀p∈H,∃o,p.2=.ex o/\aY o
structure Bx.Std(B:Bx):Prop where
 SH:B.SH=Pg
 mu: ∀a∈T5,a∈B.mu
 gn:B.gn=λs=>Hu s.gens
theorem St.bare{B:Bx}(hS:B.Std){L:AN}{s:Af}(S:St B.C L s):Hu s.gens:=by
 have:=S.gens s.heap s.toks (Am _)
 rw[show B.C.Gn=λs=>Hu s.gens from hS.gn] at this;exact this
theorem WW{B:Bx}(hS:B.Std){s:Af}(h:Hu s.gens): ∀hp t,s.toks<=t->B.C.Gn {s with heap:=hp,toks:=t}:=λhp t _=>by
 rw[show B.C.Gn=λs=>Hu s.gens from hS.gn];exact h
section
variable{B:Bx}{s:Af}{L:AN}
theorem sU(hS:B.Std)(S:St B.C L s){P:Addr}(hP:P=162∨P=169): ∃ps,s.heap.get? P=some ⟨.none,none,.fields ps,⟨[]⟩⟩/\JV ps.toList:=by
 obtain⟨H,hH,XP⟩:=S.led;have hH:Pg H:=by rw[<-hS.SH];exact hH
 have:P∈H.map (·.1):=by rw[hH.1];rcases hP with rfl|rfl<;>simp
 obtain⟨p,hp,rfl⟩:=List.mem_map.mp this;obtain⟨o,ho,g,rfl⟩:=XP.at_ p (Ax _ hp);obtain⟨o',e,ps,rfl,ht⟩:=hH.2 p hp;exact⟨ps,by rw[ho,e];rfl,ht⟩
theorem fC(O:B.C.Ok)(hS:B.Std){I:Addr}{ao:AO}(S:St B.C (.one I ao::L) s){s':Af}{P:Addr}(hP:P=162∨P=169)(hk: ∀b o,b≠I->b≠P->s.heap.get? b=some o->s'.heap.get? b=some o)
 {o':Obj} (hn:s'.heap.get? P=some o') (ht:aY o') (hg:Hu s'.gens) (ho:s'.os=s.os):St B.C L s':=by
 obtain⟨H,hH,XP⟩:=S.led;have uQ:Pg H:=by rw[<-hS.SH];exact hH
 have iH:P∈B.C.mu:=hS.mu P (by rcases hP with rfl|rfl<;>decide)
 have hI: ∀p∈Ao L++H,p.1≠I:=λp hp e=>by
  have:=XP.nodup
  rw[show Ao (Bi.one I ao::L)++H=(I,ao)::(Ao L++H) from rfl,Aw,G6] at this;exact this.1 (by show I∈_;rw[<-e];exact CB (f:=λx:Addr×AO=>x.1) hp)
 have Rm: ∀b o,B.C.s₁.heap.get? b=some o->b∉B.C.mu->s'.heap.get? b=some o:=λb o h m=>hk b o (λe=>XP.ne (p:=(I,ao)) (.head _) h m e.symm) (λe=>m (e▸iH)) (S.old b o h m);obtain⟨a,o,hl,hm,hz⟩:=O.last;have uU:P∈H.map (·.1):=by rw[uQ.1];rcases hP with rfl|rfl<;>simp
 have nd:((Ao L++H).map (·.1)).Nodup:=by
  have:=XP.nodup
  rw[show Ao (Bi.one I ao::L)++H=(I,ao)::(Ao L++H) from rfl,Aw,G6] at this;exact this.2
 have uT: ∀p∈Ao L,p.1≠P:=λp hp e=>by
  have:=nd
  rw[AZ,Kb] at this;exact this.2.2 p.1 (CB (f:=λx:Addr×AO=>x.1) hp) P uU e
 have e1:(H.map λp=>if p.1=P then(P,AO.ex o') else p).map (·.1)=H.map (·.1):=by
  rw[CK];refine CA λp _=>?_;simp only[Il]
  split
  ·rename_i h;exact h.symm
  ·rfl
 refine⟨Rm,⟨H.map λp=>if p.1=P then(P,AO.ex o') else p,?_,⟨λp hp=>?_,?_,λp hp=>?_⟩⟩,WW hS hg,ho.trans S.os,AK hz (Cf (Rm a o hl hm))⟩
 ·rw[show B.C.Hid=Pg from hS.SH]
  refine⟨e1.trans uQ.1,λp hp=>?_⟩;obtain⟨q,hq,rfl⟩:=List.mem_map.mp hp
  split
  ·exact⟨o',rfl,ht⟩
  ·exact uQ.2 q hq
 ·rcases List.mem_append.mp hp with h|h
  ·obtain⟨o,e,i⟩:=XP.at_ p (.tail _ (Ar _ h))
   exact⟨o,hk _ o (hI p (Ar _ h)) (uT p h) e,i⟩
  ·obtain⟨q,hq,rfl⟩:=List.mem_map.mp h
   split
   ·exact⟨o',hn,G0,rfl⟩
   ·rename_i CD
    obtain⟨o,e,i⟩:=XP.at_ q (.tail _ (Ax _ hq));exact⟨o,hk _ o (hI q (Ax _ hq)) CD e,i⟩
 ·rw[AZ,e1,<-AZ];exact nd
 ·rcases List.mem_append.mp hp with h|h
  ·exact XP.new p (.tail _ (Ar _ h))
  ·obtain⟨q,hq,rfl⟩:=List.mem_map.mp h
   split
   ·exact .inl iH
   ·exact XP.new q (.tail _ (Ax _ hq))
theorem r3(O:B.C.Ok)(S:St B.C L s): ∃m,s.heap.Ns 3 m/\m ⟨⟨[108,101,110]⟩⟩=none/\m ⟨⟨[115,117,109]⟩⟩=none/\m ⟨⟨[69,77,80,84,89,83,84,82,73,78,71]⟩⟩=some (.str ⟨⟨[]⟩⟩ 321)/\m "__builtins__"=some (.ref 4):=by
 obtain⟨es,n,ho,hk,h1,h2,h3,h4⟩: ∃es n,GL B.P 3=some ⟨.type "dict",none,.dict ⟨es⟩ n,⟨[]⟩⟩/\LM es=true/\N0 ⟨es⟩ ⟨⟨[108,101,110]⟩⟩=none/\N0 ⟨es⟩ ⟨⟨[115,117,109]⟩⟩=none/\
  N0 ⟨es⟩ ⟨⟨[69,77,80,84,89,83,84,82,73,78,71]⟩⟩=some (.str ⟨⟨[]⟩⟩ 321)/\N0 ⟨es⟩ "__builtins__"=some (.ref 4):=
  ⟨_,_,(show KQ B.P 3=some (r4 B.P) from rfl).trans rfl,by kernel_rfl,by kernel_rfl,by kernel_rfl,by kernel_rfl,by kernel_rfl⟩
 exact⟨λx=>N0 ⟨es⟩ x,⟨_,⟨es⟩,n,S.top O ho,rfl,λe he=>MU hk e (by simpa using he),λYa=>rfl⟩,h1,h2,h3,h4⟩
theorem ns0(O:B.C.Ok)(S:St B.C L s): ∃m,s.heap.Ns 0 m/\m ⟨⟨[108,101,110]⟩⟩=some (.builtin "len"):=by
 obtain⟨es,n,ho,hk,h1⟩: ∃es n,GL B.P 0=some ⟨.type "dict",none,.dict ⟨es⟩ n,⟨[]⟩⟩/\LM es=true/\N0 ⟨es⟩ ⟨⟨[108,101,110]⟩⟩=some (.builtin "len"):=
  ⟨_,_,(show KQ B.P 0=some (z3 B.P) from rfl).trans rfl,by kernel_rfl,by kernel_rfl⟩
 exact⟨λx=>N0 ⟨es⟩ x,⟨_,⟨es⟩,n,S.top O ho,rfl,λe he=>MU hk e (by simpa using he),λYa=>rfl⟩,h1⟩
theorem ya(O:B.C.Ok)(S:St B.C L s): ∃o,s.heap.get? 4=some o/\o.cls=.type "module"/\o.dict=some Ib/\o.data=.plain:=
 ⟨_,S.top O ((show KQ B.P 4=some (z5 B.P) from rfl).trans rfl),rfl,rfl,rfl⟩
end
theorem Xi(n:Nat):passing (λYa=>true) n 0=Ah n:=by simp[passing]
noncomputable abbrev NV(i:Nat)(l:Addr)(n:Nat):Bi:=.one (i+323) (.ex ⟨.type "list_iterator",none,.fields ⟨[.ref l,.int (n:Int) 0]⟩,⟨[]⟩⟩)
def KI(AH:List It)(j:Nat):Bs:=#[.str (AH.getD j Au).f (AH.getD j Au).tf,.str (AH.getD j Au).p (AH.getD j Au).tp]
theorem iB{M:Model}{A:AL}{E:Value->Af->Prop}{s:Af}{env:Env}{c P:Addr}{ps:Bs}{pos:Pos}{qualname:Str}{scope:Scope}{Q:Value->Af->Prop}(hc:env.code=.ref c)
 (IQ:s.heap.IsCode c P ps) (tS:s.heap.TableAt c P ps)
 (hQ: ∀code h' tk oV,Heap.ExtBut P s.heap h'->h'.get? P=some ⟨.none,none,.fields oV,⟨[]⟩⟩->JV oV.toList->Q code {s with heap:=h',toks:=tk}):
 BN M A (genexprCode env pos qualname scope) Q E s:=by
 have tr: ∀{h:Heap} {ps},h.IsCode c P ps->JV ps.toList:=λq=>by
  obtain⟨_,_,_,_,_,_,_,_,_,_,q⟩:=q;exact q.2.2.2.2.2.2.2.2.2.1
 cases hf:codeAmong pos ps.toList with
 |none=>exact wpAny_genexprCodeX hc IQ tS hf λc' h' tk hx _ _ zT _ ht' _=>hQ _ h' tk _ hx ht'.2 (tr zT)
 |some cv=>exact wpAny_genexprCode_hit hc IQ hf (hQ cv s.heap s.toks ps (Heap.ExtBut.refl _ _) tS.2 (tr IQ))
section
variable{B:Bx}{s:Af}{A:AL}{E:Value->Af->Prop}
theorem Zd(O:B.C.Ok)(hS:B.Std)(U:AA 2 A){env:Env}{c P:Addr}(hP:P=162∨P=169)(ue:env.code=.ref c)
 (y_: ∀L s,St B.C L s-> ∀ps,s.heap.get? P=some ⟨.none,none,.fields ps,⟨[]⟩⟩->JV ps.toList->s.heap.IsCode c P ps/\s.heap.TableAt c P ps) (mR:env.globals=3)
 {elt iter:Expr} {xa xb:Str} {pa pb pt:Pos} {kt:Nat} {scope:Scope} {pos:Pos} {Q:Value->Af->Prop}
 (XR:scope.isCoroutine=false) (ud:closureFor scope env=pure []) (uc: ∀y∈scope.names,y.2≠.cell) (h0:scope.names.lookup (".0":Str)=some Jz)
 (dQ:scope.names.lookup xa=some .local) (mj:scope.names.lookup xb=some .local) (U5:xa≠xb) (MJ:scope.kind=.function) (ux: ∀x,genFold iter env x=pure x)
 {x dx:Nat} {AH:List It} {R:AN} {F:Nat->Value->Prop}
 (hit:BN B.C.M A (Bf iter env) (λxv s₁=>BN B.C.M A (Mi xv) (λit s₂=> ∃I:Nat,it=J I/\St B.C (NV I (x+323) 0::BS x dx AH::Ai AH::R) s₂) E s₁) E s)
 (hq: ∀(s₄:Af) (I C:Nat) (code:Value) (L:AN) (KH:Heap),St B.C L s₄->(∀b o,s₄.heap.get? b=some o->KH.get? b=some o)->
  US B.C.prog B.C.w (UT scope [] C code Ib env) xa xb [] elt (Ah s₄.heap.objs.size) [I+323] (λj v=>v=KI AH j/\j<AH.length) (λYa=>true) F KH (A.depth+1) (A.units+8))
 (hQ: ∀(s₂ s₅:Af) (I:Nat) (a:Addr) (fp wr:List Addr) (g:Nat) (Gen:Nat->Af->Prop),St B.C (NV I (x+323) 0::BS x dx AH::Ai AH::R) s₂->(∀b o,b≠P->s₂.heap.get? b=some o->s₅.heap.get? b=some o)->
  (∃o,s₅.heap.get? P=some o/\aY o)->Hu s₅.gens->s₅.os=s₂.os->(∀b∈fp,b<s₅.heap.objs.size)->a∈fp->(∀b∈wr,b=I+323∨s₂.heap.get? b=none)->P∉wr->s₅.heap.objs.size=a+1->(∀b o,s₂.heap.get? b=some o->b≠P->b<a)->
  WalksS B.C.prog B.C.w A.in4 a fp wr (GenOnlyQ g) AH.length F Gen->Gen 0 s₅->(∀i s,Gen i s->s.TypeIs (.ref a) "generator")->Q (.ref a) s₅):
 BN B.C.M A (Bf (.GeneratorExp elt [⟨.Tuple [.Name xa pa,.Name xb pb] kt pt,iter,[],0⟩] scope pos) env) Q E s:=by
 refine wpAny_GeneratorExp_walksQTD U.1 XR ud uc h0 dQ mj U5 MJ (by have:=U.2.1;lia) (Av hit (λxv s₁ h₁=>Av h₁ (λit s₂ h₂=>?_) λYa Ya e=>e) λYa Ya e=>e) ux
 obtain⟨I,rfl,S₂⟩:=h₂;refine⟨S₂.noLimit O,?_⟩;obtain⟨ps,zR,zb⟩:=sU hS S₂ hP;refine iB ue (y_ _ _ S₂ ps zR zb).1 (y_ _ _ S₂ ps zR zb).2 λcode h' tk oV hk tQ tT=>?_;have iH:P∈B.C.mu:=hS.mu P (by rcases hP with rfl|rfl<;>decide)
 have S₃:St B.C (NV I (x+323) 0::BS x dx AH::Ai AH::R) {s₂ with heap:=h',toks:=tk}:=by
  refine St.u6 O S₂ iH (λb o hb e=>hk b o hb e) tQ (λH hH hn=>?_) (λH hH=>?_) (WW hS (S₂.bare hS)) rfl
  ·have hH:Pg H:=by rw[<-hS.SH];exact hH
   rw[hH.1] at hn
   rcases hP with rfl|rfl<;>simp at hn
  ·have hH:Pg H:=by rw[<-hS.SH];exact hH
   rw[show B.C.Hid=Pg from hS.SH];refine⟨?_,λp hp=>?_⟩
   ·rw[CK,<-hH.1]
    refine CA λp _=>?_;simp only[Il]
    split
    ·rename_i h;exact h.symm
    ·rfl
   ·obtain⟨q,md,rfl⟩:=List.mem_map.mp hp
    split
    ·exact⟨_,rfl,oV,rfl,tT⟩
    ·exact hH.2 q md
 obtain⟨m3,dJ,_,_,_,hbi⟩:=r3 O S₃;obtain⟨ob,hob,hcb,hdb,hdd⟩:=ya O S₃;rw[mR];refine wpAny_builtinsFor dJ hbi ADs hob hcb hdb hdd ?_
 obtain⟨gA,iL⟩:=(S₃.perm (L':=BS x dx AH::NV I (x+323) 0::Ai AH::R) (Ae _ _ _)).Dj;have zG:=DV S₃;have CD:x+323≠I+323:=λe=>by
  have:=S₃.ne;exact this e.symm
 have j8:St B.C (Ai AH::NV I (x+323) 0::BS x dx AH::R) {s₂ with heap:=h',toks:=tk}:=S₃.perm (by
  refine .trans ?_ (Ae _ _ _)
  exact(Ae _ _ _).cons _)
 have mS: ∀j,j<AH.length->AH.getD j Au∈AH:=λj hj=>by
  rw[Ad,AJ hj];exact Cn hj
 have tB: ∀j,j<AH.length->h'.IsTuple ((AH.getD j Au).a+323) (KI AH j):=λj hj=>rQ j8 (mS j hj);have Is:(AH.map It.v).toArray.size=AH.length:=by simp
 have IP: ∀b o,h'.get? b=some o->b<h'.objs.size:=λb o e=>Cf e;refine⟨I+323,(I+323)::(x+323)::(Ah (AH.map It.v).toArray.size).map (λj=>(AH.getD j Au).a+323),[I+323],(AH.map It.v).toArray.size,λj v=>v=KI AH j/\j<(AH.map It.v).toArray.size,_,_,λYa=>true,F,rfl,
  λA' B8=>j0 B8 (I+323) (x+323) CD (AH.map It.v).toArray (λj=>(AH.getD j Au).a+323) (KI AH) (λj hj=>?_) (λj hj=>?_),λi vals ⟨e,_⟩=>⟨_,_,e⟩,⟨⟨_,zG,rfl,rfl⟩,⟨_,_,iL,rfl⟩,λk Tc=>tB k (by simpa using Tc)⟩,?_,S₃.noLimit O,?_,?_,?_⟩
 ·rw[Is] at hj
  simp[It.v,hj]
 ·rw[Is] at hj
  exact rR j8 (mS j hj)
 ·intro b hb
  simp only[CG,List.mem_map,Nw] at hb
  rcases hb with rfl|rfl|⟨j,hj,rfl⟩
  ·exact IP _ _ zG
  ·exact IP _ _ iL
  ·obtain⟨o,ho,_⟩:=tB j (by rw[Is] at hj;exact hj)
   exact IP _ _ ho
 ·intro h
  simp only[Cv] at h;have h:(2:Nat)=I+323:=h
  lia
 ·intro KH Tc
  rw[Is];exact hq _ I _ code _ KH S₃ Tc
 ·intro a h₅ tk' gs hgs ha Vp Qx W hG
  rw[Is] at W hG;have uV:P<323:=by rcases hP with rfl|rfl<;>decide
  have W'':WalksS B.C.prog B.C.w A.in4 a (a::h'.objs.size::Ah h'.objs.size) (h'.objs.size::[I+323]) (GenOnlyQ s₂.gens.size) AH.length F
   (GenAt B.C.prog B.C.w A.in4 a s₂.gens.size h'.objs.size (Ah h'.objs.size) [I+323] (λYa=>true) AH.length F):=by
   have W':=W;rw[Xi] at W';rw[Dv] at W';refine⟨W'.sub,W'.grefl,W'.gtrans,W'.frame,λi s Q E hi st hQ'=>W'.item i s Q E hi st λv s' ⟨j,hj,hF⟩ VF hm=>hQ' v s' ?_ VF hm,W'.done,W'.self⟩;rw[List.getElem?_eq_some_iff] at hj;obtain⟨_,e⟩:=hj;simp only[HI] at e;subst e;exact hF
  refine hQ s₂ _ I a _ _ _ _ S₂ (λb o hb e=>Qx b o (hk b o hb e)) ⟨_,Qx _ _ tQ,oV,rfl,tT⟩ ((S₂.bare hS).push hgs) rfl ?_ (.head _) ?_ ?_ Vp (λb o e hb=>Nat.lt_trans (IP b o (hk b o hb e)) ha) W'' hG ?_
  ·intro b hb
   simp only[CG,Nw] at hb;show b<h₅.objs.size;rw[Vp];have ha':(h'.objs.size:Nat)<a:=ha;have ABt:(h₅.objs.size:Nat)=a+1:=Vp
   rcases hb with rfl|rfl|hb
   ·show(b:Nat)<_
    exact IZ _
   ·show(h'.objs.size:Nat)<_;exact Qb ha'
   ·have hb:(b:Nat)<h'.objs.size:=hb
    exact D8 hb ADp
  ·intro b hb
   simp only[CG,Cv,B_,or_false] at hb
   rcases hb with rfl|rfl
   ·right
    cases e:s₂.heap.get? h'.objs.size with
    |none=>rfl
    |some o=>
     have hz:323<=h'.objs.size:=AK O.size S₃.size;exact absurd (IP _ _ (hk _ o (Nat.ne_of_gt (D8 uV hz)) e)) (Dl _)
   ·exact .inl rfl
  ·intro hm
   simp only[CG,Cv,B_,or_false] at hm;have hz:323<=h'.objs.size:=AK O.size S₃.size
   rcases hm with e|e
   ·exact absurd (e▸uV:(h'.objs.size:Nat)<323) (Nat.not_lt.mpr hz)
   ·exact absurd (e▸uV:(I+323:Nat)<323) ADp
  ·intro i s hs
   exact hs.1.typeIs
end
section
variable{B:Bx}
theorem kh(O:B.C.Ok): ∀L s,St B.C L s-> ∀ps,s.heap.get? 162=some ⟨.none,none,.fields ps,⟨[]⟩⟩->JV ps.toList->s.heap.IsCode 166 162 ps/\s.heap.TableAt 166 162 ps:=λL s S ps ho ht=>
 have h:=S.top O ((show KQ B.P 166=some (Tu B.P) from rfl))
 ⟨⟨Tu B.P,_,_,_,_,_,_,_,_,_,h,rfl,rfl,rfl,rfl,rfl,rfl,ho,rfl,ht,by decide⟩,⟨_,_,h,rfl,rfl,rfl⟩,ho⟩
theorem N3{M:Model}{A:AL}{E:Value->Af->Prop}{s:Af}{scope:Scope}{C:Addr}{code:Value}{env:Env}{x:Str}{pos:Pos}{m}{v:Value}{Q:Value->Af->Prop}(hk:scope.kind=.function)
 (hx:scope.names.lookup x=some .local) (hn:s.heap.Ns C m) (hv:m x=some v) (h:Q v s) (hd:(x==("__debug__":Str))=false):BN M A (Bf (.Name x pos) (UT scope [] C code Ib env)) Q E s:=
 wpAny_Name (wpAny_loadName_local (env:=UT scope [] C code Ib env) hk hx hn hv h) hd
theorem dq(O:B.C.Ok){AH:List It}(hI:CY AH){env:Env}(mR:env.globals=3){scope:Scope}(MJ:scope.kind=.function){xa xb:Str}(dQ:scope.names.lookup xa=some .local)(mj:scope.names.lookup xb=some .local)
 (hlen:scope.names.lookup ⟨⟨[108,101,110]⟩⟩=some .globalImplicit) (ha:(xa==("__debug__":Str))=false) (hb:(xb==("__debug__":Str))=false) {p1 p2 p3 p4 p5 p6 p7:Pos} {D Xt:Nat}
 (s₄:Af) (I C:Nat) (code:Value) (L:AN) (KH:Heap) (S₄:St B.C L s₄) (hk: ∀b o,s₄.heap.get? b=some o->KH.get? b=some o):
 US B.C.prog B.C.w (UT scope [] C code Ib env) xa xb []
  ((Expr.Call (JU ⟨⟨[108,101,110]⟩⟩ p1) [JU xa p2] [] p3).BinOp Operator.Add (Expr.Call (JU ⟨⟨[108,101,110]⟩⟩ p4) [JU xb p5] [] p6) p7)
  (Ah s₄.heap.objs.size) [I+323] (λj v=>v=KI AH j/\j<AH.length) (λYa=>true) (λj y=> ∃t,y=.int ((AH.getD j Au).len:Nat) t) KH D Xt where
 tests:=λA' E' i va vb s₂ m₂ hh hd hu hP hn h1 h2 mX=>by
  simp only[Nu];exact AP ⟨rfl,⟨_,_,rfl,λYa Ya e=>e⟩⟩
 elt:=λA' E' i va vb s₂ m₂ hh hd hu ⟨hP,hi⟩ _ hn h1 h2 mX=>by
  obtain⟨m3,dJ,zL,_⟩:=r3 O S₄;obtain⟨m0,XU,Qy⟩:=ns0 O S₄;have lt: ∀{b:Addr} {o:Obj},s₄.heap.get? b=some o->b<323-> ∀o,s₄.heap.get? b=some o->s₂.heap.get? b=some o:=λ{b o} e hb o' e'=>
   mX b (List.mem_range.mpr (Cf e)) (λhm=>by
    simp only[Cv] at hm;subst hm;exact absurd (show(I+323:Nat)<323 from hb) ADp) o' (hk b o' e')
  have n3:s₂.heap.Ns 3 m3:=by
   obtain⟨o,es,ep,ho,r⟩:=dJ;exact⟨o,es,ep,lt ho ADs o ho,r⟩
  have n0:s₂.heap.Ns 0 m0:=by
   obtain⟨o,es,ep,ho,r⟩:=XU;exact⟨o,es,ep,lt ho ADs o ho,r⟩
  have dI:(AH.getD i Au).f.length<=500/\(AH.getD i Au).p.length<=500:=hI.2 _ (by
   rw[Ad,AJ hi];exact Cn hi)
  have hv:va=.str (AH.getD i Au).f (AH.getD i Au).tf/\vb=.str (AH.getD i Au).p (AH.getD i Au).tp:=by
   unfold KI at hP
   have:=congrArg Array.toList hP
   simp only[G4,and_true] at this;exact this
  obtain⟨rfl,rfl⟩:=hv;have nm: ∀{s₃:Af} {Q:Value->Af->Prop} {E p},s₃.heap.Ns 3 m3->s₃.heap.Ns 0 m0->Q (.builtin "len") s₃->BN (Qg B.C.prog B.C.w) A' (Bf (.Name ⟨⟨[108,101,110]⟩⟩ p) (UT scope [] C code Ib env)) Q E s₃:=λa b q=>
   GQ MJ hlen (Calls.loadGlobal_builtin (mg:=m3) (mb:=m0) (by show Heap.Ns _ env.globals _;rw[mR];exact a) zL b Qy q) ADq
  refine wpAny_BinOp (Call_name1 rfl (nm n3 n0 (callWith_builtin1 (N3 MJ dQ hn h1 (P.len_str (by have:=dI.1;lia) ?_) ha))))
  refine Call_name1 rfl (nm n3 n0 (callWith_builtin1 (N3 MJ mj hn h2 (P.len_str (by have:=dI.2;lia) ?_) hb)))
  refine P.add_int (prog:=B.C.prog) (w:=B.C.w) ?_;have e:(((AH.getD i Au).len:Nat):Int)=((AH.getD i Au).f.length:Int)+((AH.getD i Au).p.length:Int):=by simp[It.len]
  rw[e];exact⟨⟨_,rfl⟩,⟨_,_,rfl,λYa Ya e=>e⟩⟩
end
section
variable{B:Bx}
theorem GX{β:Type} [Inhabited β](f:β->Nat): ∀(l:List β) (j:Nat),j<=l.length->Ic (λi=>((f (l.getD i Au):Nat):Int)) j=(((l.take j).map f).sum:Nat)
 |l,0,_=>by simp[Ic]
 |l,j+1,h=>by
  have hj:j<l.length:=by lia
  rw[Ic,GX f l j ADp,List.take_succ,AJ hj,Ad,AJ hj]
  simp only[Option.toList,Option.getD_some,AZ,G7,Aw,EC,Ea,Qa]
  lia
theorem MV{β:Type}(f:β->Nat): ∀(l:List β) (j:Nat),((l.take j).map f).sum<=(l.map f).sum
 |[],j=>by simp
 |a::r,0=>by simp
 |a::r,j+1=>by
  have:=MV f r j
  simp only[JD,Aw,Ea]
  lia
noncomputable abbrev Bx.now(B:Bx)(s:Af)(M:List Addr):Bx:=⟨B.w,B.b1,B.b2,s,λH=>H=[],M,λt=>t.gens=s.gens/\t.drawn=s.drawn/\s.toks<=t.toks⟩
theorem ry(O:B.C.Ok){s₂ s₅:Af}{L:AN}(S₂:St B.C L s₂){P a:Addr}{M:List Addr}(hP:P∈B.C.mu)(hk: ∀b o,b≠P->s₂.heap.get? b=some o->s₅.heap.get? b=some o)(hM: ∀m∈M,∃p∈Ao L,p.1=m)
 (Is:s₅.heap.objs.size=a+1) (ha: ∃o,s₅.heap.get? a=some o) (haM:a∉M):(B.now s₅ M).C.Ok:=by
 obtain⟨H,_,XP⟩:=S₂.led;refine⟨λb o h=>?_,?_,?_⟩
 ·obtain⟨h1,h2⟩:=O.top b o h
  refine⟨hk b o (λe=>h2 (e▸hP)) (S₂.old b o h1 h2),λhm=>?_⟩;obtain⟨p,hp,e⟩:=hM b hm;exact XP.ne (Ar _ hp) h1 h2 e
 ·obtain⟨b,o,hl,hm,hz⟩:=O.last
  exact AK O.size (AK hz (Cf (hk b o (λe=>hm (e▸hP)) (S₂.old b o hl hm))))
 ·obtain⟨o,ho⟩:=ha
  exact⟨a,o,ho,haM,Ge Is⟩
theorem rz{s:Af}{M:List Addr}{L:AN}(uX: ∀p∈Ao L,∃o,s.heap.get? p.1=some o/\p.2.is o)(hnd:((Ao L).map (·.1)).Nodup)(hM: ∀p∈Ao L,p.1∈M):St (B.now s M).C (L++[]) s:=
 ⟨λb o h _=>h,⟨[],rfl,by rw[Aj,Aj];exact⟨uX,hnd,λp hp=>.inl (hM p hp)⟩⟩,λYa Ya ht=>⟨rfl,rfl,ht⟩,rfl,Am _⟩
theorem ff(O:B.C.Ok)(hS:B.Std){A:AL}(U:AA 6 A)(L x dx n t:Nat)(AH:List It)(hI:CY AH)(hn:n<=1000000):
 AC B.C A (Ac (A4 B.P 167) (AR B.P 167 [] (L+323))) [AI L [(AM,J x)],BS x dx AH,A3 dx (.int (n:Int) t),Ai AH]
  (λk:Nat=>.ret (.int ((n+CN AH:Nat):Int) k)) (λYa=>[BS x dx AH,A3 dx (.int (n:Int) t),Ai AH]):=by
 intro R s S;rw[qP];refine Gg (Kh (wpAny_Call_NameR ?_));have h1:=nJ O (A:=A) U.l L [(AM,J x)];refine AC.wp h1 S λYa s₁ S₁=>?_;refine Hw rfl (I0 (Ek ?_));have h2:=io O (A:=A) U.l L (J x);have h3:=Vx O (A:=A) U.l x dx (AH.map It.v);refine Zd O hS U.l (P:=162) (c:=166) (.inl rfl) ADq (kh O) ADq (AH:=AH) (x:=x) (dx:=dx) (R:=AI L [(AM,J x)]::A3 dx (.int (n:Int) t)::R)
  (F:=λj y=> ∃t,y=.int ((AH.getD j Au).len:Nat) t)
  rfl ADq ADs ADq ADq ADq ADs rfl (λYa=>rfl) ?_ ?_ ?_
 ·refine AC.wp h2 S₁ λYa s₂ S₂=>?_
  have O4:St B.C ([BS x dx AH]++(Ai AH::AI L [(AM,J x)]::A3 dx (.int (n:Int) t)::R)) s₂:=S₂.perm (by
   simp only[A5,Al];refine .trans (Ae _ _ _) (.cons _ ?_);refine .trans ((Ae _ _ _).cons _) ?_;exact Ae _ _ _)
  refine AC.wp h3 O4 λI s₃ S₃=>?_;exact⟨I,rfl,S₃⟩
 ·exact λs₄ I C code Lx KH S₄ hk=>dq O hI ADq rfl ADq ADq ADq ADs ADs s₄ I C code Lx KH S₄ hk
 ·intro s₂ s₅ I a fp wr g Gen S₂ Qx l_ uy vC mQ tC vL mA Vp eW W hG hT
  refine Ek ?_;have iH:(162:Addr)∈B.C.mu:=hS.mu 162 ADs
  have SA:St B.C (BS x dx AH::AI L [(AM,J x)]::A3 dx (.int (n:Int) t)::NV I (x+323) 0::Ai AH::R) s₂:=S₂.perm (by
   refine .trans (Ae _ _ _) (.cons _ ?_);refine .trans ?_ (BH (l₁:=[AI L [(AM,J x)],A3 dx (.int (n:Int) t)]) (a:=NV I (x+323) 0)).symm
   exact(BH (l₁:=[AI L [(AM,J x)],A3 dx (.int (n:Int) t)]) (a:=Ai AH)).symm.cons _)
  obtain⟨gA,iL⟩:=SA.Dj;obtain⟨gF,u3⟩:=(SA.perm (Ae _ _ _)).Dj;obtain⟨gD,uz⟩:=(SA.perm (.trans (.cons _ (Ae _ _ _)) (Ae _ _ _))).Dj;have R5: ∀{b:Nat},b+323≠162:=λe=>by lia
  have CD:(L+323)≠(x+323)/\(L+323)≠(dx+323)/\(x+323)≠(dx+323):=⟨(SA.perm (Ae _ _ _)).ne,(SA.perm (L':=AI L [(AM,J x)]::A3 dx (.int (n:Int) t)::BS x dx AH::NV I (x+323) 0::Ai AH::R) (.trans (Ae _ _ _) (.cons _ (Ae _ _ _)))).ne,
   (SA.perm (L':=BS x dx AH::A3 dx (.int (n:Int) t)::AI L [(AM,J x)]::NV I (x+323) 0::Ai AH::R) (.cons _ (Ae _ _ _))).ne⟩
  obtain⟨og,hog,_⟩:=hT 0 s₅ hG;have hC':(B.now s₅ [L+323,x+323,dx+323]).C.Ok:=ry O S₂ iH Qx (λm hm=>by
   simp only[CG,B_,or_false] at hm
   rcases hm with rfl|rfl|rfl
   ·exact⟨(L+323,uL [(AM,J x)]),IM 3 rfl,rfl⟩
   ·exact⟨(x+323,X6 dx (AH.map It.v)),IM 1 rfl,rfl⟩
   ·exact⟨(dx+323,kA (.int (n:Int) t)),IM 4 rfl,rfl⟩) Vp ⟨og,hog⟩ (λhm=>by
   simp only[CG,B_,or_false] at hm
   rcases hm with e|e|e
   ·exact Dl _ (e▸eW _ _ u3 R5)
   ·exact Dl _ (e▸eW _ _ iL R5)
   ·exact Dl _ (e▸eW _ _ uz R5))
  have h4:=im hC' (A:=A) U.l L x dx (AH.map It.v) (n:Int) t gF gA gD;refine Av (h4 [] s₅ (rz (λp hp=>?_) ?_ ?_)) (λf s₆ ⟨_,e,S₆⟩=>?_) λYa Ya q=>q.elim
  ·simp only[Ao,Bi.flat,A5,Al,CG,B_,or_false] at hp
   rcases hp with rfl|rfl|rfl
   ·exact⟨_,Qx _ _ R5 u3,G0,rfl⟩
   ·exact⟨_,Qx _ _ R5 iL,G0,rfl⟩
   ·exact⟨_,Qx _ _ R5 uz,G0,rfl⟩
  ·simp only[Ao,Bi.flat,A5,Al,Aw,EC,G6,CG,B_,or_false,not_or,not_false_eq_true,List.nodup_nil,and_true]
   exact⟨⟨CD.1,CD.2.1⟩,CD.2.2⟩
  ·intro p hp
   simp only[Ao,Bi.flat,A5,Al,CG,B_,or_false] at hp
   rcases hp with rfl|rfl|rfl<;>simp
  subst e;have k6: ∀b o,s₅.heap.get? b=some o->s₆.heap.get? b=some o:=λb o e=>by
   by_cases hm:b∈[L+323,x+323,dx+323]
   ·simp only[CG,B_,or_false] at hm
    rcases hm with rfl|rfl|rfl
    ·rw[Qx _ _ R5 u3] at e;cases e;exact DV S₆
    ·rw[Qx _ _ R5 iL] at e;cases e;exact DV (S₆.perm (Ae _ _ _))
    ·rw[Qx _ _ R5 uz] at e;cases e;exact DV (S₆.perm (.trans (.cons _ (Ae _ _ _)) (Ae _ _ _)))
   ·exact S₆.old b o e hm
  have g6:=S₆.gens s₆.heap s₆.toks (Am _);have e6:s₆={s₅ with heap:=s₆.heap,toks:=s₆.toks}:=by
   obtain⟨h6,gn6,d6,t6,o6⟩:=s₆;have g6:gn6=s₅.gens/\d6=s₅.drawn/\s₅.toks<=t6:=g6
   have:=S₆.os
   have o6:o6=s₅.os:=this;rw[g6.1,g6.2.1,o6]
  have yp:Gen 0 s₆:=by
   rw[e6];exact W.frame 0 s₅ _ _ hG g6.2.2 λb _ o e=>k6 b o e
  refine Hx ?_;refine R8 (by constructor<;>lia) ?_
  have W1:=W.of_in1.of_in1.of_in1;refine W1.self 0 s₆ _ _ yp ?_;refine⟨a,fp,wr,_,AH.length,_,Gen,λj=>((AH.getD j Au).len:Nat),rfl,W1,yp,λb hb=>?_,λi v hv=>hv,λj hj=>?_,λs' t' hm=>?_⟩
  ·exact D8 (mQ b hb) S₆.size
  ·have h1:=MV It.len AH (j+1)
   have h2:=hI.sum;rw[GX It.len AH (j+1) ADp]
   unfold CN at h2;have h3:=GX It.len AH (j+1) ADp
   have h4:=GX It.len AH j ADp
   rw[Ic,h4] at h3;show RH (((AH.getD j Au).len:Nat):Int)/\RH _
   constructor<;>constructor<;>lia
  ·refine⟨t',?_,?_⟩
   ·rw[GX It.len AH AH.length (Am _),Gc]
    simp[dz,CN]
   ·have O4:St B.C (NV I (x+323) 0::([BS x dx AH,A3 dx (.int (n:Int) t),Ai AH]++R)) s₂:=by
     refine St.drop (L':=[AI L [(AM,J x)]]) (S₂.perm (.cons _ (.cons _ ?_)));refine .trans (.cons _ (Ae _ _ _)) (.trans (Ae _ _ _) (.cons _ (.cons _ ?_)))
     exact(Bm _ _).symm
    refine fC O hS O4 (.inl rfl) (λb o uY uZ e=>hm.heap b o (λhw=>?_) (k6 b o (Qx b o uZ e))) ?_ l_.choose_spec.2 ?_ ?_
    ·rcases vL b hw with h|h
     ·exact uY h
     ·rw[h] at e;cases e
    ·exact hm.heap _ _ mA (k6 _ _ l_.choose_spec.1)
    ·refine AllBare.moved ?_ hm.gens
     show Hu s₆.gens;rw[show s₆.gens=s₅.gens from g6.1];exact uy
    ·exact hm.os.trans ((S₆.os).trans vC)
end
noncomputable abbrev eS:Str:=⟨⟨[]⟩⟩
def It.text(i:It):Str:=BB eS [i.f,i.p]
def Bq(AH:List It):Str:=BB eS (AH.map It.text)
section
variable{B:Bx}
theorem ki(O:B.C.Ok): ∀L s,St B.C L s-> ∀ps,s.heap.get? 169=some ⟨.none,none,.fields ps,⟨[]⟩⟩->JV ps.toList->s.heap.IsCode 173 169 ps/\s.heap.TableAt 173 169 ps:=λL s S ps ho ht=>
 have h:=S.top O ((show KQ B.P 173=some (Tv B.P) from rfl))
 ⟨⟨Tv B.P,_,_,_,_,_,_,_,_,_,h,rfl,rfl,rfl,rfl,rfl,rfl,ho,rfl,ht,by decide⟩,⟨_,_,h,rfl,rfl,rfl⟩,ho⟩
theorem dr(O:B.C.Ok){AH:List It}(hI:CY AH){env:Env}(mR:env.globals=3){scope:Scope}(MJ:scope.kind=.function){xa xb:Str}(dQ:scope.names.lookup xa=some .local)(mj:scope.names.lookup xb=some .local)
 (hlen:scope.names.lookup ⟨⟨[69,77,80,84,89,83,84,82,73,78,71]⟩⟩=some .globalImplicit) (ha:(xa==("__debug__":Str))=false) (hb:(xb==("__debug__":Str))=false) {p1 p2 p3 p4 p5 p6:Pos} {k:Nat} (vA:(p2.endLine==p6.line)=true) {D Xt:Nat}
 (s₄:Af) (I C:Nat) (code:Value) (L:AN) (KH:Heap) (S₄:St B.C L s₄) (hk: ∀b o,s₄.heap.get? b=some o->KH.get? b=some o):
 US B.C.prog B.C.w (UT scope [] C code Ib env) xa xb []
  (Expr.Call (Expr.Attribute (JU ⟨⟨[69,77,80,84,89,83,84,82,73,78,71]⟩⟩ p1) ⟨⟨[106,111,105,110]⟩⟩ p2) [Expr.Tuple [JU xa p3,JU xb p4] k p5] [] p6)
  (Ah s₄.heap.objs.size) [I+323] (λj v=>v=KI AH j/\j<AH.length) (λYa=>true) (λj y=> ∃t,y=.str (AH.getD j Au).text t) KH D Xt where
 tests:=λA' E' i va vb s₂ m₂ hh hd hu hP hn h1 h2 mX=>by
  simp only[Nu];exact AP ⟨rfl,⟨_,_,rfl,λYa Ya e=>e⟩⟩
 elt:=λA' E' i va vb s₂ m₂ hh hd hu ⟨hP,hi⟩ _ hn h1 h2 mX=>by
  obtain⟨m3,dJ,_,_,ut,_⟩:=r3 O S₄;have lt: ∀{b:Addr} {o:Obj},s₄.heap.get? b=some o->b<323-> ∀o,s₄.heap.get? b=some o->s₂.heap.get? b=some o:=λ{b o} e hb o' e'=>
   mX b (List.mem_range.mpr (Cf e)) (λhm=>by
    simp only[Cv] at hm;subst hm;exact absurd (show(I+323:Nat)<323 from hb) ADp) o' (hk b o' e')
  have n3:s₂.heap.Ns 3 m3:=by
   obtain⟨o,es,ep,ho,r⟩:=dJ;exact⟨o,es,ep,lt ho ADs o ho,r⟩
  have dI:(AH.getD i Au).f.length<=500/\(AH.getD i Au).p.length<=500:=hI.2 _ (by
   rw[Ad,AJ hi];exact Cn hi)
  have hv:va=.str (AH.getD i Au).f (AH.getD i Au).tf/\vb=.str (AH.getD i Au).p (AH.getD i Au).tp:=by
   unfold KI at hP
   have:=congrArg Array.toList hP
   simp only[G4,and_true] at this;exact this
  obtain⟨rfl,rfl⟩:=hv;refine Call_method1 rfl rfl vA (GQ MJ hlen (LP (mg:=m3) (by show Heap.Ns _ env.globals _;rw[mR];exact n3) ut ?_) ADq)
  refine⟨"str","str.join",F.plainAttrs_str,F.slot_str_join,F.type_str_join,UW _ _ _,(λYa e=>nomatch e),?_⟩;refine Hw rfl (I0 (Ek (wpAny_Tuple ?_)));refine Ek (N3 MJ dQ hn h1 (Ek (N3 MJ mj hn h2 (Hx ⟨(by show 2<=sizeLine;decide),?_⟩) hb)) ha)
  refine Hx ?_;refine join_tupleW (ys:=[(AH.getD i Au).f,(AH.getD i Au).p]) ⟨_,FN _ rfl,rfl,_,rfl⟩ (.cons _ _ (.cons _ _ .nil)) ADs (by simp only[Aw,EC,Ea,Qa,Ap,G5];lia) λt' k=>?_
  exact⟨⟨_,rfl⟩,⟨_,_,rfl,λb o e=>Cu _ e⟩⟩
theorem pP{AH:List It}: ∀{l:List (Str×Tok)},ItemsOf (λj y=> ∃t,y=Co (AH.getD j Au).text t) (OI l).toArray AH.length->l.map (·.1)=AH.map It.text:=by
 intro l h;obtain⟨hz,hv⟩:=h;refine Hz λj=>?_;have vM:l.length=AH.length:=by
  have:(OI l).length=AH.length:=by simpa using hz
  rw[<-this];unfold OI;simp
 rw[AQ,AQ]
 by_cases hj:j<AH.length
 ·have h1:(OI l).toArray[j]? =some (Co l[j].1 l[j].2):=by
   rw[List.getElem?_toArray];unfold OI;rw[AQ,AJ ADp];rfl
  obtain⟨t,e⟩:=hv j _ h1;rw[AJ ADp,AJ hj]
  rw[Ad,AJ hj] at e;have e1:=(Value.str.inj e).1;simp only[Option.map_some,Option.getD_some] at e1⊢;rw[e1]
 ·rw[B7 ADp,B7 ADp];rfl
theorem It.text_len(i:It):i.text.length=i.len:=by
 show(KW eS [i.f,i.p]).cps.size=i.f.cps.size+i.p.cps.size
 simp[KW,eS]
theorem UH: ∀AH:List It,((AH.map It.text).map (·.length)).sum=CN AH
 |[]=>rfl
 |i::r=>by
  simp only[Aw,Ea,CN,It.text_len];rw[UH r,CN]
theorem fn(O:B.C.Ok)(hS:B.Std){A:AL}(U:AA 6 A)(L x dx n t:Nat)(AH:List It)(hI:CY AH):
 AC B.C A (Ac (A4 B.P 174) (AR B.P 174 [] (L+323))) [AI L [(AM,J x)],BS x dx AH,A3 dx (.int (n:Int) t),Ai AH]
  (λk:Nat=>.ret (.str (Bq AH) k)) (λYa=>[BS x dx AH,A3 dx (.int (n:Int) t),Ai AH]):=by
 intro R s S;rw[qQ];obtain⟨m3,dJ,_,_,ut,_⟩:=r3 O S;refine Gg (Kh (Call_method1 rfl rfl rfl (GQ ADq ADq (LP (mg:=m3) (by rw[show(AR B.P 174 [] (L+323)).globals=3 from by kernel_rfl];exact dJ) ut ?_) ADq)))
 refine⟨"str","str.join",F.plainAttrs_str,F.slot_str_join,F.type_str_join,UW _ _ _,(λYa e=>nomatch e),?_⟩;refine Hw rfl (I0 (Ek ?_));refine Zd O hS U.l (P:=169) (c:=173) (.inr rfl) ADq (ki O) ADq (AH:=AH) (x:=x) (dx:=dx) (R:=AI L [(AM,J x)]::A3 dx (.int (n:Int) t)::R)
  (F:=λj y=> ∃t,y=.str (AH.getD j Au).text t)
  rfl ADq ADs ADq ADq ADq ADs rfl (λYa=>rfl) ?_ ?_ ?_
 ·refine AC.wp (jf O (A:=A) U.l L (J x)) S λYa s₂ S₂=>?_
  have O4:St B.C ([BS x dx AH]++(Ai AH::AI L [(AM,J x)]::A3 dx (.int (n:Int) t)::R)) s₂:=S₂.perm (by
   simp only[A5,Al];refine .trans (Ae _ _ _) (.cons _ ?_);refine .trans ((Ae _ _ _).cons _) ?_;exact Ae _ _ _)
  refine AC.wp (Vx O (A:=A) U.l x dx (AH.map It.v)) O4 λI s₃ S₃=>?_;exact⟨I,rfl,S₃⟩
 ·exact λs₄ I C code Lx KH S₄ hk=>dr O hI ADq rfl ADq ADq ADq ADs ADs rfl s₄ I C code Lx KH S₄ hk
 ·intro s₂ s₅ I a fp wr g Gen S₂ Qx l_ uy vC mQ tC vL mA Vp eW W hG hT
  refine Hx ?_;refine SC.joinGen W.of_in1.of_in1 hT hG mQ tC (λi v ⟨t,e⟩=>⟨_,t,e⟩) (λs' l hm hl=>?_) (AK hI.1 ADs)
  have Zj:=pP hl;rw[Zj];have hw:((AH.map It.text).map (·.length)).sum+(AH.map It.text).length<=1048576:=by
   rw[UH,AD]
   have:=hI.sum
   have:=hI.1
   lia
  refine⟨joinOk_of_weight hw ADs,λt' k=>⟨t',rfl,?_⟩⟩
  have O4:St B.C (NV I (x+323) 0::([BS x dx AH,A3 dx (.int (n:Int) t),Ai AH]++R)) s₂:=by
   refine St.drop (L':=[AI L [(AM,J x)]]) (S₂.perm (.cons _ (.cons _ ?_)));refine .trans (.cons _ (Ae _ _ _)) (.trans (Ae _ _ _) (.cons _ (.cons _ ?_)))
   exact(Bm _ _).symm
  refine fC O hS O4 (.inr rfl) (λb o uY uZ e=>hm.heap b o (λhw=>?_) (Qx b o uZ e)) ?_ l_.choose_spec.2 ?_ ?_
  ·rcases vL b hw with h|h
   ·exact uY h
   ·rw[h] at e;cases e
  ·exact hm.heap _ _ mA l_.choose_spec.1
  ·exact AllBare.moved uy hm.gens
  ·exact hm.os.trans vC
end
include O
def lD(hS:B.Std)(U:AA 8 A)(x dx n t:Nat)(AH:List It)(hI:CY AH)(hn:n<=1000000):Ag B.C A where
 c:=.call (.ref 167) ⟨[J x],[]⟩
 F:=[BS x dx AH,A3 dx (.int (n:Int) t),Ai AH]
 X:=Nat
 res:=λk=>.ok (.ret (.int ((n+CN AH:Nat):Int) k))
 led:=λk=>[BS x dx AH,A3 dx (.int (n:Int) t),Ai AH]
 ok:=EU O U [(AM,J x)]
  (λa=>BK (ff O hS (AA.deeper U.l) a x dx n t AH hI hn))
def lP(hS:B.Std)(U:AA 8 A)(x dx n t:Nat)(AH:List It)(hI:CY AH):Ag B.C A where
 c:=.call (.ref 174) ⟨[J x],[]⟩
 F:=[BS x dx AH,A3 dx (.int (n:Int) t),Ai AH]
 X:=Nat
 res:=λk=>.ok (.ret (.str (Bq AH) k))
 led:=λk=>[BS x dx AH,A3 dx (.int (n:Int) t),Ai AH]
 ok:=EU O U [(AM,J x)]
  (λa=>BK (fn O hS (AA.deeper U.l) a x dx n t AH hI))
theorem ZD(U:AA 12 A)(x dx n t:Nat)(AH:List It)(hS:B.Std)(hI:CY AH)(hn:n<=1000000):
 AC B.C A (ED (J x) "__len__") [BS x dx AH,A3 dx (.int (n:Int) t),Ai AH]
  (λk:Nat=>some (Be ((n+CN AH:Nat):Int) k))
  (λk=>[BS x dx AH,A3 dx (.int (n:Int) t),Ai AH]):=
 rn O U (.g 1073741825<|.cc (lD O hS U.l x dx n t AH hI hn) [0,0,0] λy0=>.fi (y0) [0,0,0])
theorem lV(U:AA 12 A)(x dx n t:Nat)(AH:List It)(hS:B.Std)(hI:CY AH):
 AC B.C A (ED (J x) "__str__") [BS x dx AH,A3 dx (.int (n:Int) t),Ai AH]
  (λk:Nat=>some (Co (Bq AH) k))
  (λk=>[BS x dx AH,A3 dx (.int (n:Int) t),Ai AH]):=
 rn O U (.g 1073741825<|.cc (lP O hS U.l x dx n t AH hI) [0,0,0] λy0=>.fi (y0) [0,0,0])
theorem fy(U:AA 1 A)(x dx n t:Nat)(AH:List It):
 AS B A (AU "len" ⟨[J x],[]⟩) [BS x dx AH,A3 dx (.int (n:Int) t),Ai AH] () [BS x dx AH,A3 dx (.int (n:Int) t),Ai AH]:=
 by apply Hc O U (.fi () [0,0,0])
omit O
section
variable{C:Cx}{A:AL}{F:AN}
theorem AA.units{n:Nat}{A:AL}(h:AA n A):A.units<cLine:=by have:=h.2.2;lia
theorem d5{a:Addr}{x:Str}{led:Nat->AN}(hu:A.units<cLine)(h:AC C A (ED (.ref a) "__str__") F (λk:Nat=>some (.str x k)) led):
 AC C A (KY (.ref a)) F (λk:Nat=>Co x k) led:=by
 intro R s S;unfold KY;refine iN (show¬(Builtin.Str.isExactStr (.ref a)=true) from BP) ?_;refine AB (m:=cRoomFor _ _) (wpAny_cRoomFor hu ?_);refine AB (m:=ED _ (JO "__str__")) (AC.wp h S λk s₁ S₁=>?_);exact AP ⟨k,rfl,S₁⟩
theorem Q4{prog:Program}{w:World}{v:Value}:MeetsIn prog w (Builtin.«str.__new__» ⟨[.type "str",v],[]⟩)
 (λA R s=>BN (Qg prog w) A.in1 (KY v) (λr s'=>R (.ok (.ret r)) s') (λe s'=>R (.error e) s') s):=.of_wp λA R s h=>by
 rw[str_new_tree v];refine AB (AP ?_);refine AB (GR isSubtype_str_str ?_);exact AB (Av h (λr s' h'=>AP ⟨_,rfl,h'⟩) λYa Ya e=>e)
theorem YS{a:Addr}{x:Str}{led:Nat->AN}(U:AA 2 A)(h:AC C A.in1.in1 (ED (.ref a) "__str__") F (λk:Nat=>some (.str x k)) led):
 Bv C A (.call (.type "str") ⟨[.ref a],[]⟩) F (λk:Nat=>.ok (.ret (.str x k))) led:=G2 λR s S=>by
 refine callType_newIn PySem.F.called_str ADs (PySem.F.typeCall_str_1 _) (PySem.F.newCall_str_1 _) (λobj=>PySem.F.args_object_init_2 obj _) PySem.F.entry_str_new Q4 ?_
 refine AC.wp (d5 (AA.units (U.le (ADs:1+1<=2)).in1.in1) h) S λk s₁ S₁=>?_
 exact⟨UW _ _ _,k,rfl,S₁⟩
theorem IG{v:Value}{m:Nat}{led:Nat->AN}(hm:m<2^62)(h:AC C A (ED v "__len__") F (λk:Nat=>some (.int (m:Int) k)) led):
 AC C A (Mq ⟨[v],[]⟩) F (λp:Nat×Nat=>Az (.ret (.int (m:Int) p.2))) (λp=>led p.1):=by
 intro R s S;unfold Mq;refine AB (m:=oneArg "len" _) (AP ?_);refine AB (m:=ED _ (JO "__len__")) (AC.wp h S λk s₁ S₁=>?_);show BN _ _ _ _ _ s₁;refine AB (Kw (AP ?_));refine AB (R0 ?_);show BN _ _ (if((m:Nat):Int)<0 then _ else _) _ _ _
 refine iN ADp ?_
 show BN _ _ (if((m:Nat):Int)≥2^63 then _ else _) _ _ _
 refine iN ADp ?_
 exact AB (wpAny_mkInt (AP ⟨(k,s₁.toks),rfl,S₁.toks _ (Eb _)⟩))
end
theorem L8{C:Cx}{A:AL}{F:AN}{X:Type}{id:String}{b:KV}{args:LO}{val:X->Value}{led:X->AN}(hp:H4 id=true)(hb:C1 FZ id=some b)
 (h:AC C A.in1 (b args) F (λx=>.done (.ret (val x))) led):Bv C A (.builtin id args) F (λx=>.ok (.ret (val x))) led:=Bu λR s S=>by
 refine Ez hb ?_;rw[BX hp args];exact AC.wp h S λx s₂ S₂=>⟨x,rfl,S₂⟩
theorem K0:C1 FZ "len"=some Mq:=B2 ADq
include O
def gY(hS:B.Std)(U:AA 14 A)(x dx n t:Nat)(AH:List It)(hI:CY AH)(hn:n<=1000000):Ag B.C A where
 c:=.call (.builtin "len") ⟨[J x],[]⟩
 F:=[BS x dx AH,A3 dx (.int (n:Int) t),Ai AH]
 X:=Nat×Nat
 res:=λp=>.ok (.ret (.int ((n+CN AH:Nat):Int) p.2))
 led:=λp=>[BS x dx AH,A3 dx (.int (n:Int) t),Ai AH]
 ok:=BF ADr K0 (fy O U.l.in1 x dx n t AH) (IG (by have:=hI.sum;lia) (ZD O (A:=A.in1) U.l.in1 x dx n t AH hS hI hn))
def N7(hS:B.Std)(U:AA 15 A)(x dx n t:Nat)(AH:List It)(hI:CY AH):Ag B.C A where
 c:=.call (.type "str") ⟨[J x],[]⟩
 F:=[BS x dx AH,A3 dx (.int (n:Int) t),Ai AH]
 X:=Nat
 res:=λk=>.ok (.ret (.str (Bq AH) k))
 led:=λk=>[BS x dx AH,A3 dx (.int (n:Int) t),Ai AH]
 ok:=YS U.l (lV O (A:=A.in1.in1) (AA.in1 (AA.in1 U.l)) x dx n t AH hS hI)
theorem ZE(U:AA 4 A)(i:Str)(t:Nat):
 AC B.C A (ED (.str i t) "__len__") []
  (λk:Nat=>some (Be (i.length:Int) k))
  (λk=>[]):=
 rn O U (.cc (gr O U.l i t) [] λy0=>.fi (y0) [])
theorem f7(U:AA 1 A)(i:Str)(t:Nat):
 AS B A (AU "len" ⟨[.str i t],[]⟩) [] () []:=
 by apply Hc O U (.fi () [])
noncomputable def JQ(U:AA 6 A)(i:Str)(t:Nat)(hi:i.length<=1000000):Ag B.C A where
 c:=.call (.builtin "len") ⟨[.str i t],[]⟩
 F:=[]
 X:=Nat×Nat
 res:=λp=>.ok (.ret (.int (i.length:Int) p.2))
 led:=λp=>[]
 ok:=BF ADr K0 (f7 O U.l.in1 i t) (IG (Em hi ADs) (ZE O (A:=A.in1) U.l.in1 i t))
def bx(U:AA 3 A)(x:Nat)(xs:Ak):Ag B.C A:=
 DN O U "list.__len__" [J x] [AE x xs] (λk:Nat=>.int (xs.length:Int) k) (λk=>[AE x xs]) (λU=>.g 65<|.fi () [0]) λU=>.g 65<|.fr λk0=>.fi (k0) [0]
theorem lU(U:AA 4 A)(x:Nat)(xs:Ak):
 AC B.C A (ED (J x) "__len__") [AE x xs]
  (λk:Nat=>some (Be (xs.length:Int) k))
  (λk=>[AE x xs]):=
 rn O U (.g 65<|.cc (bx O U.l x xs) [0] λy0=>.fi (y0) [0])
theorem fz(U:AA 1 A)(x:Nat)(xs:Ak):
 AS B A (AU "len" ⟨[J x],[]⟩) [AE x xs] () [AE x xs]:=
 by apply Hc O U (.fi () [0])
def IL(U:AA 6 A)(x:Nat)(xs:Ak)(hx:xs.length<=1000):Ag B.C A where
 c:=.call (.builtin "len") ⟨[J x],[]⟩
 F:=[AE x xs]
 X:=Nat×Nat
 res:=λp=>.ok (.ret (.int (xs.length:Int) p.2))
 led:=λp=>[AE x xs]
 ok:=BF ADr K0 (fz O U.l.in1 x xs) (IG (Em hx ADs) (lU O (A:=A.in1) U.l.in1 x xs))
def ME(hS:B.Std)(U:AA 14 A)(x dx n t z:Nat)(AH:List It)(hI:CY AH)(hn:n<=1000000)(hz:n+CN AH=z):Ag B.C A:=
 (gY O hS U x dx n t AH hI hn).re (λk:Nat×Nat=>.ok (.ret (.int (z:Int) k.2))) (λk=>[BS x dx AH,A3 dx (.int (n:Int) t),Ai AH]) (λk=>k) (λk=>by subst hz;rfl) (λYa=>rfl)
def br(hS:B.Std)(U:AA 14 A)(x dx n t z:Nat)(AH:List It)(hI:CY AH)(hn:n<=1000000)(hz:n+CN AH=z):Ag B.C A where
 c:=.builtin "len" ⟨[J x],[]⟩
 F:=[BS x dx AH,A3 dx (.int (n:Int) t),Ai AH]
 X:=Nat×Nat
 res:=λp=>.ok (.ret (.int (z:Int) p.2))
 led:=λp=>[BS x dx AH,A3 dx (.int (n:Int) t),Ai AH]
 ok:=by subst hz;exact L8 ADr K0 (IG (by have:=hI.sum;lia) (ZD O (A:=A.in1) U.l.in1 x dx n t AH hS hI hn))
theorem Wc(U:AA 18 A)(L x dx n t:Nat)(AH:List It)(hS:B.Std)(hI:CY AH):
 AS B A (Ac (A4 B.P 189) (AR B.P 189 [] (L+323))) [AI L [(AM,J x)],BS x dx AH,A3 dx (.int ((n+1:Nat):Int) t),Ai AH] (.ret (.bool false)) [BS x dx AH,A3 dx (.int ((n+1:Nat):Int) t),Ai AH]:=by
 obtain⟨_,_|_⟩:=B<;>exact D7 O U (.g 65<|.fr λk0=>.g 4398046511106<|.cc (JG O U.l x dx (B0 It.v AH) (.int (↑(n+1)) t) k0) [1,1] λYa=>.fr λk2=>.cc (Ky O U.l (↑(n+1)) 0 t k2) [] λYa=>.fi () [0,0,1])
theorem We(U:AA 18 A)(L x dx t m:Nat)(AH:List It)(hS:B.Std)(hI:CY AH)(hz:0+CN AH=m+1)(hw:(decide ((Bq AH).length>0)&&(Bq AH).cps.all Cg)=false):
 AS B A (Ac (A4 B.P 189) (AR B.P 189 [] (L+323))) [AI L [(AM,J x)],BS x dx AH,A3 dx (.int ((0:Nat):Int) t),Ai AH] (.ret (.bool false)) [BS x dx AH,A3 dx (.int ((0:Nat):Int) t),Ai AH]:=by
 obtain⟨_,_|_⟩:=B<;>exact D7 O U (.g 65<|.fr λk0=>.g 4398046511106<|.cc (JG O U.l x dx (B0 It.v AH) (.int (↑0) t) k0) [1,1] λYa=>.fr λk2=>.cc (Ky O U.l ↑0 0 t k2) [] λYa=>.g 18014399583223875<|.cc (br O hS U.l x dx 0 t (m+1) AH hI (by first|lia|assumption) hz) [0,0,1] λYa=>.g 278528<|.cc (N7 O hS U.l x dx 0 t AH hI) [0,0,0] λy5=>.cc (gt _ _ O U.l (Bq AH) y5 hw) [] λYa=>.fi () [0,0,0])
def bl(hS:B.Std)(U:AA 20 A)(x dx n t:Nat)(AH:List It)(hI:CY AH):Ag B.C A where
 c:=.call (.ref 189) ⟨[J x],[]⟩
 F:=[BS x dx AH,A3 dx (.int ((n+1:Nat):Int) t),Ai AH]
 X:=Unit
 res:=λYa=>.ok (.ret (.bool false))
 led:=λYa=>[BS x dx AH,A3 dx (.int ((n+1:Nat):Int) t),Ai AH]
 ok:=EU O U [(AM,J x)]
  (λa=>BK (Wc O (AA.deeper U.l) a x dx n t AH hS hI))
def bm(hS:B.Std)(U:AA 20 A)(x dx t m:Nat)(AH:List It)(hI:CY AH)(hz:0+CN AH=m+1)(hw:(decide ((Bq AH).length>0)&&(Bq AH).cps.all Cg)=false):Ag B.C A where
 c:=.call (.ref 189) ⟨[J x],[]⟩
 F:=[BS x dx AH,A3 dx (.int ((0:Nat):Int) t),Ai AH]
 X:=Unit
 res:=λYa=>.ok (.ret (.bool false))
 led:=λYa=>[BS x dx AH,A3 dx (.int ((0:Nat):Int) t),Ai AH]
 ok:=EU O U [(AM,J x)]
  (λa=>BK (We O (AA.deeper U.l) a x dx t m AH hS hI hz hw))
omit O
theorem AA.under{n:Nat}{A:AL}{c:Code}(h:AA (n+1) A)(hw:c.weight<=1)(hu:c.cUnits<=12):AA n (A.under c):=by
 refine⟨h.1,?_,?_⟩
 ·have:=h.2.1
  show A.depth+c.weight+n<_
  lia
 ·have:=h.2.2
  show A.units+c.cUnits+_<_
  lia
section
variable{C:Cx}{A:AL}{F:AN}{X:Type}
theorem Dn{f:Value}{args:LO}{id:String}{Di:LO}{val:X->Value}{led:X->AN}
 (h1:AC C (A.under (.call f args)) (BM (.call f args)) F (λYa:Unit=>.again (.builtin id Di)) (λYa=>F)) (hq:(FD id Di).quiet=true)
 (h2:AC C (A.under (.builtin id Di)) (BM (.builtin id Di)) F (λx=>Az (.ret (val x))) led):Bv C A (.call f args) F (λx=>.ok (.ret (val x))) led:=
 Bu λR s S=>by
  refine BL ?_;rw[E4 C];refine AC.wp h1 S λYa s₁ S₁=>?_;refine⟨hq,BL ?_⟩;rw[E4 C];exact AC.wp h2 S₁ λx s₂ S₂=>⟨x,rfl,S₂⟩
end
noncomputable abbrev EZ(a:Nat)(u v w:Value):Bi:=.one (a+323) (.ex ⟨.type "super",none,.fields ⟨[u,v,w]⟩,⟨[]⟩⟩)
include O
theorem iE(U:AA 1 A)(x dx:Nat)(xs:Ak):
 AS B A (BM (.call (.type "super") ⟨[.ref 200,J x],[]⟩)) [AY x dx xs] (.again (.builtin "type.__call__" ⟨[.type "super",.ref 200,J x],[]⟩)) [AY x dx xs]:=
 rn O U (.fi () [0])
def Uy(U:AA 3 A)(x dx:Nat)(xs:Ak):Ag B.C A:=
 DN O U "super.__new__" [.type "super",.ref 200,J x] [AY x dx xs] (λa:Nat=>J a) (λa=>[EZ a .none .none .none,AY x dx xs]) (λU=>.fi () [0]) λU=>.al λa0=>.fi (a0) [0,0]
def TL(U:AA 3 A)(x dx a:Nat)(xs:Ak):Ag B.C A:=
 DN O U "super.__init__" [J a,.ref 200,J x] [EZ a .none .none .none,AY x dx xs] (λYa:Unit=>.none) (λYa=>[EZ a (.ref 200) (J x) (.ref 200),AY x dx xs]) (λU=>.g 65<|.fi () [0,0]) λU=>.g 1729804572471337088<|.fi () [0,0]
theorem jw(U:AA 4 A)(x dx:Nat)(xs:Ak):
 AC B.C A (BM (.builtin "type.__call__" ⟨[.type "super",.ref 200,J x],[]⟩)) [AY x dx xs]
  (λa:Nat=>.done (.ret (J a)))
  (λa=>[EZ a (.ref 200) (J x) (.ref 200),AY x dx xs]):=
 rn O U (.g 64<|.cc (Uy O U.l x dx xs) [0] λy0=>.g 4161<|.cc (TL O U.l x dx y0 xs) [0,0] λYa=>.fi (y0) [0,0])
omit O
theorem aT(args:Ak):(FD "type.__call__" ⟨args,[]⟩).weight<=1/\(FD "type.__call__" ⟨args,[]⟩).cUnits=1:=by
 refine⟨?_,rfl⟩;unfold Code.weight;have h1:(FD "type.__call__" ⟨args,[]⟩).frames=0:=rfl;have h2:(FD "type.__call__" ⟨args,[]⟩).isGuard=false:=by rfl
 have h3:(FD "type.__call__" ⟨args,[]⟩).isCaller=false:=by rfl
 rw[h1,h2,h3]
 split<;>simp
theorem aS(f:Value)(args:Ak):(OG f ⟨args,[]⟩).weight=0/\(OG f ⟨args,[]⟩).cUnits=1:=⟨rfl,rfl⟩
theorem AA.ty{n:Nat}{A:AL}(h:AA (n+1) A)(args:Ak):AA n (A.under (.builtin "type.__call__" ⟨args,[]⟩)):=h.under (aT args).1 (by rw[(aT args).2];lia)
theorem AA.ca{n:Nat}{A:AL}(h:AA (n+1) A)(f:Value)(args:Ak):AA n (A.under (.call f ⟨args,[]⟩)):=h.under (by rw[(aS f args).1];lia) (by rw[(aS f args).2];lia)
theorem F0(args:LO):(FD "type.__call__" args).quiet=true:=Ju _ ADr
include O
def cK(U:AA 5 A)(x dx:Nat)(xs:Ak):Ag B.C A where
 c:=.call (.type "super") ⟨[.ref 200,J x],[]⟩
 F:=[AY x dx xs]
 X:=Nat
 res:=λa=>.ok (.ret (J a))
 led:=λa=>[EZ a (.ref 200) (J x) (.ref 200),AY x dx xs]
 ok:=Dn (iE O (A:=A.under (.call (.type "super") ⟨[.ref 200,J x],[]⟩)) (U.l.ca _ _) x dx xs) (F0 _) (jw O (A:=A.under (.builtin "type.__call__" ⟨[.type "super",.ref 200,J x],[]⟩)) (U.ty _) x dx xs)
omit O
theorem qR(B:Bx):A4 B.P 197=[.Return (some (vE (mN 7 8 0))) (pS 135 8 32)]:=by kernel_rfl
theorem eL(B:Bx):A4 B.P 160=[.If (vE (mN 7 3 0)) (nB (mN 7 3 0)) [] ⟨115,8,116,27⟩,.Return (some (vE (mN 7 3 1))) (pS 117 8 28)]:=by kernel_rfl
theorem eK(B:Bx):A4 B.P 137=[mN 7 0 0,.Expr (vE (mN 7 0 1)) (pS 104 8 26)]:=by kernel_rfl
noncomputable abbrev J7(a:Nat)(f:String)(x:Addr):Bi:=.one (a+323) (.ex ⟨.type "method-wrapper",none,.fields ⟨[.builtin f,.ref x]⟩,⟨[]⟩⟩)
noncomputable abbrev WY(a:Nat)(f:String)(x:Addr):Bi:=.one (a+323) (.ex ⟨.type "builtin_function_or_method",none,.fields ⟨[.builtin f,.ref x]⟩,⟨[]⟩⟩)
include O
def Ww(U:AA 3 A)(x dx:Nat)(xs:Ak):Ag B.C A:=
 DN O U "wrapper_descriptor.__get__" [.builtin "list.__len__",J x,.ref 200] [AY x dx xs] (λa:Nat=>J a) (λa=>[J7 a "list.__len__" (x+323),AY x dx xs]) (λU=>.fi () [0]) λU=>.g 4097<|.al λa0=>.fi (a0) [0,0]
def Wx(U:AA 3 A)(x dx:Nat)(xs:Ak):Ag B.C A:=
 DN O U "method_descriptor.__get__" [.builtin "list.pop",J x,.ref 200] [AY x dx xs] (λa:Nat=>J a) (λa=>[WY a "list.pop" (x+323),AY x dx xs]) (λU=>.fi () [0]) λU=>.g 4097<|.al λa0=>.fi (a0) [0,0]
def Ut(U:AA 3 A)(x dx:Nat)(xs:Ak):Ag B.C A:=
 DN O U "wrapper_descriptor.__get__" [.builtin "list.__init__",J x,.ref 200] [AY x dx xs] (λa:Nat=>J a) (λa=>[J7 a "list.__init__" (x+323),AY x dx xs]) (λU=>.fi () [0]) λU=>.g 4097<|.al λa0=>.fi (a0) [0,0]
def Yn(U:AA 5 A)(x dx so t:Nat)(xs:Ak):Ag B.C A:=
 DN O U "super.__getattribute__" [J so,.str ⟨⟨[95,95,108,101,110,95,95]⟩⟩ t] [EZ so (.ref 200) (J x) (.ref 200),AY x dx xs] (λa:Nat=>J a) (λa=>[J7 a "list.__len__" (x+323),AY x dx xs]) (λU=>.g 65<|.fi () [0,0]) λU=>.g 1073745985<|.cc (Ww O U.l x dx xs) [1] λ(y0:Nat)=>.fi (y0) [0,0]
theorem qu(U:AA 6 A)(x dx so:Nat)(xs:Ak)(pl:Sem Bool):
 AC B.C A (LY (J so) ⟨⟨[95,95,108,101,110,95,95]⟩⟩ pl) [EZ so (.ref 200) (J x) (.ref 200),AY x dx xs]
  (λa:Nat=>(J a,([]:Ak)))
  (λa=>[J7 a "list.__len__" (x+323),AY x dx xs]):=
 xW O U (.g 65<|.fr λk0=>.g 65<|.cc (Yn O U.l x dx so k0 xs) [0,0] λy1=>.fi (y1) [0,0])
def Yo(U:AA 5 A)(x dx so t:Nat)(xs:Ak):Ag B.C A:=
 DN O U "super.__getattribute__" [J so,.str ⟨⟨[112,111,112]⟩⟩ t] [EZ so (.ref 200) (J x) (.ref 200),AY x dx xs] (λa:Nat=>J a) (λa=>[WY a "list.pop" (x+323),AY x dx xs]) (λU=>.g 65<|.fi () [0,0]) λU=>.g 1073745985<|.cc (Wx O U.l x dx xs) [1] λ(y0:Nat)=>.fi (y0) [0,0]
theorem qv(U:AA 6 A)(x dx so:Nat)(xs:Ak)(pl:Sem Bool):
 AC B.C A (LY (J so) ⟨⟨[112,111,112]⟩⟩ pl) [EZ so (.ref 200) (J x) (.ref 200),AY x dx xs]
  (λa:Nat=>(J a,([]:Ak)))
  (λa=>[WY a "list.pop" (x+323),AY x dx xs]):=
 xW O U (.g 65<|.fr λk0=>.g 65<|.cc (Yo O U.l x dx so k0 xs) [0,0] λy1=>.fi (y1) [0,0])
def Wv(U:AA 5 A)(x dx so t:Nat)(xs:Ak):Ag B.C A:=
 DN O U "super.__getattribute__" [J so,.str ⟨⟨[95,95,105,110,105,116,95,95]⟩⟩ t] [EZ so (.ref 200) (J x) (.ref 200),AY x dx xs] (λa:Nat=>J a) (λa=>[J7 a "list.__init__" (x+323),AY x dx xs]) (λU=>.g 65<|.fi () [0,0]) λU=>.g 1073745985<|.cc (Ut O U.l x dx xs) [1] λ(y0:Nat)=>.fi (y0) [0,0]
theorem l6(U:AA 6 A)(x dx so:Nat)(xs:Ak)(pl:Sem Bool):
 AC B.C A (LY (J so) ⟨⟨[95,95,105,110,105,116,95,95]⟩⟩ pl) [EZ so (.ref 200) (J x) (.ref 200),AY x dx xs]
  (λa:Nat=>(J a,([]:Ak)))
  (λa=>[J7 a "list.__init__" (x+323),AY x dx xs]):=
 xW O U (.g 65<|.fr λk0=>.g 65<|.cc (Wv O U.l x dx so k0 xs) [0,0] λy1=>.fi (y1) [0,0])
omit O
section
variable{C:Cx}{A:AL}{F:AN}{X:Type}
theorem Uj{f:Value}{args:LO}{id:String}{b:KV}{Di:LO}{val:X->Value}{led:X->AN}
 (h1:AC C (A.under (.call f args)) (BM (.call f args)) F (λYa:Unit=>.again (.builtin id Di)) (λYa=>F)) (hp:H4 id=true) (hb:C1 FZ id=some b)
 (h2:AC C A.in1 (b Di) F (λx=>Az (.ret (val x))) led):Bv C A (.call f args) F (λx=>.ok (.ret (val x))) led:=
 Bu λR s S=>by
  refine BL ?_;rw[E4 C];refine AC.wp h1 S λYa s₁ S₁=>?_;refine⟨DH hp _,Ez hb ?_⟩;rw[BX hp Di];exact AC.wp h2 S₁ λx s₂ S₂=>⟨x,rfl,S₂⟩
theorem Uf{l m:Addr}{c:Value}{d:Option Addr}{xs:Ak}{v:Value}{ao:AO}(hx:xs.length<1000):
 AC C A (Builtin.«list.pop» ⟨[.ref l],[]⟩) [.one m ao,.one l (.ls c d (xs++[v]))] (λYa:Unit=>Az (.ret v)) (λYa=>[.one m ao,.one l (.ls c d xs)]):=by
 intro R s S;have S':St C (.one l (.ls c d (xs++[v]))::.one m ao::R) s:=S.perm (Ae _ _ _);obtain⟨g,ho⟩:=S'.Dj;unfold Builtin.«list.pop»;refine AB (m:=selfAndSome "list.pop" "pop" 0 1 _) (AP ?_)
 dsimp only
 refine AB (m:=pure (-1)) (AP ?_);refine iN (show¬((!GP (-1))=true) by decide) ?_
 refine AB (m:=A7 _) ?_;unfold A7;refine AB (DG ho rfl (AP ?_));refine iN ADt ?_
 have hk:((F4 (-1) ((⟨xs++[v]⟩:Bs).size)).bind λk=>((⟨xs++[v]⟩:Bs)[k]?).map (k, ·))=some (xs.length,v):=by
  have h1:F4 (-1) ((⟨xs++[v]⟩:Bs).size)=some xs.length:=by
   show F4 (-1) (xs++[v]).length=_;rw[AX];unfold F4;simp
   lia
  rw[h1];simp
 rw[hk];refine AB (m:=Df _ _) (G9 ho rfl (AP ⟨(),rfl,?_⟩) ?_ ?_)
 ·refine(St.Np S' (t:=s.toks) (B1 ..) (CO _ ho ?_) (ao':=.ls c d xs) ?_).perm (Ae _ _ _)
  ·rfl
  ·refine MP ?_
   apply Array.toList_inj.mp;simp[Hd]
 ·show(xs++[v]).length<=_
  rw[Br,AX,CF];lia
 ·show((⟨xs++[v]⟩:Bs).eraseIdxIfInBounds xs.length).size<=_
  rw[show((⟨xs++[v]⟩:Bs).eraseIdxIfInBounds xs.length)=⟨xs⟩ from by
   apply Array.toList_inj.mp;simp[Hd]]
  show xs.length<=_;rw[Br];lia
end
include O
theorem qy(U:AA 1 A)(x dx a:Nat)(xs:Ak):
 AS B A (BM (.call (J a) ⟨[],[]⟩)) [J7 a "list.__len__" (x+323),AY x dx xs] (.again (.builtin "list.__len__" ⟨[J x],[]⟩)) [J7 a "list.__len__" (x+323),AY x dx xs]:=
 rn O U (.g 65<|.fi () [0,0])
theorem g7(U:AA 1 A)(x dx a:Nat)(xs:Ak):
 AC B.C A (BM (.builtin "list.__len__" ⟨[J x],[]⟩)) [J7 a "list.__len__" (x+323),AY x dx xs]
  (λk:Nat=>.done (.ret (.int (xs.length:Int) k)))
  (λk=>[J7 a "list.__len__" (x+323),AY x dx xs]):=
 rn O U (.g 66<|.fr λk0=>.fi (k0) [0,0])
theorem qz(U:AA 1 A)(x dx a:Nat)(xs:Ak):
 AS B A (BM (.call (J a) ⟨[],[]⟩)) [WY a "list.pop" (x+323),AY x dx xs] (.again (.builtin "list.pop" ⟨[J x],[]⟩)) [WY a "list.pop" (x+323),AY x dx xs]:=
 rn O U (.g 4398080589953<|.fi () [0,0])
theorem l8(U:AA 1 A)(x dx a:Nat):
 AS B A (BM (.call (J a) ⟨[],[]⟩)) [J7 a "list.__init__" (x+323),AY x dx []] (.again (.builtin "list.__init__" ⟨[J x],[]⟩)) [J7 a "list.__init__" (x+323),AY x dx []]:=
 rn O U (.g 65<|.fi () [0,0])
theorem cf(U:AA 1 A)(x dx a:Nat):
 AS B A (BM (.builtin "list.__init__" ⟨[J x],[]⟩)) [J7 a "list.__init__" (x+323),AY x dx []] (Az (B6 .none)) [J7 a "list.__init__" (x+323),AY x dx []]:=
 rn O U (.g 17436802<|.fi () [0,0])
omit O
theorem ZO:C1 FZ "list.pop"=some Builtin.«list.pop»:=B2 ADq
include O
def Wr(U:AA 3 A)(x dx a:Nat)(xs:Ak):Ag B.C A where
 c:=.call (J a) ⟨[],[]⟩
 F:=[J7 a "list.__len__" (x+323),AY x dx xs]
 X:=Nat
 res:=λk=>.ok (.ret (.int (xs.length:Int) k))
 led:=λk=>[J7 a "list.__len__" (x+323),AY x dx xs]
 ok:=Dn (qy O (A:=A.under (.call (J a) ⟨[],[]⟩)) (U.l.ca _ _) x dx a xs) (Ju _ ADr) (by
  rw[BX ADr]
  exact g7 O (A:=A.in1) U.l.in1 x dx a xs)
def Ws(U:AA 3 A)(x dx a:Nat)(xs:Ak)(v:Value)(hx:xs.length<1000):Ag B.C A where
 c:=.call (J a) ⟨[],[]⟩
 F:=[WY a "list.pop" (x+323),AY x dx (xs++[v])]
 X:=Unit
 res:=λYa=>.ok (.ret v)
 led:=λYa=>[WY a "list.pop" (x+323),AY x dx xs]
 ok:=Uj (qz O (A:=A.under (.call (J a) ⟨[],[]⟩)) (U.l.ca _ _) x dx a (xs++[v])) ADr ZO (Uf hx)
def Un(U:AA 3 A)(x dx a:Nat):Ag B.C A where
 c:=.call (J a) ⟨[],[]⟩
 F:=[J7 a "list.__init__" (x+323),AY x dx []]
 X:=Unit
 res:=λYa=>.ok (.ret .none)
 led:=λYa=>[J7 a "list.__init__" (x+323),AY x dx []]
 ok:=Dn (l8 O (A:=A.under (.call (J a) ⟨[],[]⟩)) (U.l.ca _ _) x dx a) (Ju _ ADr) (by
  rw[BX ADr]
  exact cf O (A:=A.in1) U.l.in1 x dx a)
theorem qi(U:AA 6 A)(x dx a:Nat)(xs:Ak)(pos:Pos):
 AC B.C A (LX pos (J a) [] [] []) [J7 a "list.__len__" (x+323),AY x dx xs]
  (λk:Nat=>Be (xs.length:Int) k)
  (λk=>[AY x dx xs]):=
 xV O U (.g 65<|.cc (Wr O U.l x dx a xs) [0,0] λy0=>.fi (y0) [1])
theorem qj(U:AA 6 A)(x dx a:Nat)(xs:Ak)(v:Addr)(pos:Pos)(hx:xs.length<1000):
 AS B A (LX pos (J a) [] [] []) [WY a "list.pop" (x+323),AY x dx (xs++[CC v])] (CC v) [AY x dx xs]:=
 xV O U (.g 65<|.cc (Ws O U.l x dx a xs (.ref v) hx) [0,0] λYa=>.fi () [1])
theorem lW(U:AA 6 A)(x dx a:Nat)(pos:Pos):
 AS B A (LX pos (J a) [] [] []) [J7 a "list.__init__" (x+323),AY x dx []] (CU) [AY x dx []]:=
 xV O U (.g 65<|.cc (Un O U.l x dx a) [0,0] λYa=>.fi () [1])
def CW:Str:=Bl [95,95,99,108,97,115,115,95,95]
theorem nV(U:AA 1 A)(L x:Nat)(v:Value):
 AS B A (Fx (AR B.P 197 [(CW,124)] (L+323)) "super") [AI L [(AM,J x)]] (HN "super") [AI L [(AM,J x)]]:=
 Xn O U (.g 4096<|.fi () [0])
theorem nS(U:AA 1 A)(L x:Nat)(v:Value):
 AS B A (Fx (AR B.P 197 [(CW,124)] (L+323)) "__class__") [AI L [(AM,J x)]] (CC 200) [AI L [(AM,J x)]]:=
 Xn O U (.g 64<|.fi () [0])
theorem nY(U:AA 1 A)(L x:Nat)(v:Value):
 AS B A (Fx (AR B.P 197 [(CW,124)] (L+323)) AM) [AI L [(AM,J x)]] (J x) [AI L [(AM,J x)]]:=
 Xn O U (.g 65<|.fi () [0])
theorem nU(U:AA 1 A)(L x:Nat)(v:Value):
 AS B A (Fx (AR B.P 160 [(CW,124)] (L+323)) "super") [AI L [(AM,J x)]] (HN "super") [AI L [(AM,J x)]]:=
 Xn O U (.g 4096<|.fi () [0])
theorem nR(U:AA 1 A)(L x:Nat)(v:Value):
 AS B A (Fx (AR B.P 160 [(CW,124)] (L+323)) "__class__") [AI L [(AM,J x)]] (CC 200) [AI L [(AM,J x)]]:=
 Xn O U (.g 64<|.fi () [0])
theorem nX(U:AA 1 A)(L x:Nat)(v:Value):
 AS B A (Fx (AR B.P 160 [(CW,124)] (L+323)) AM) [AI L [(AM,J x)]] (J x) [AI L [(AM,J x)]]:=
 Xn O U (.g 65<|.fi () [0])
theorem nT(U:AA 1 A)(L x:Nat)(v:Value):
 AS B A (Fx (AR B.P 137 [(CW,124)] (L+323)) "super") [AI L [(AM,J x),(CV,v)]] (HN "super") [AI L [(AM,J x),(CV,v)]]:=
 Xn O U (.g 4096<|.fi () [0])
theorem nQ(U:AA 1 A)(L x:Nat)(v:Value):
 AS B A (Fx (AR B.P 137 [(CW,124)] (L+323)) "__class__") [AI L [(AM,J x),(CV,v)]] (CC 200) [AI L [(AM,J x),(CV,v)]]:=
 Xn O U (.g 64<|.fi () [0])
theorem nW(U:AA 1 A)(L x:Nat)(v:Value):
 AS B A (Fx (AR B.P 137 [(CW,124)] (L+323)) AM) [AI L [(AM,J x),(CV,v)]] (J x) [AI L [(AM,J x),(CV,v)]]:=
 Xn O U (.g 65<|.fi () [0])
theorem zh(U:AA 1 A):
 AS B A (isType (.ref 200)) [] true []:=
 rn O U (.g 64<|.fi () [])
omit O
section
variable{B:Bx}
theorem L_{C:Cx}{A:AL}{L:AN}{X:Type}{body:Dx}{env:Env}{fl:X->OV}{led:X->AN}
 (h: ∀R s,St C (L++R) s->Ia C.M (A.deeper env) (.func body env) (Ac body env) (λf s'=> ∃x,f=fl x/\St C (led x++R) s') (λYa Ya=>False) s) (R:AN) (s:Af) (S:St C (L++R) s):
 Kd C.M A (.func body env) (λr s'=> ∃x,r=.ok (.ret (dz (fl x)))/\St C (led x++R) s') s:=by
 refine ks_codeAny_funcAt (Mh (h R s S) (λf s' hx=>?_) λYa Ya q=>q.elim);obtain⟨x,rfl,S'⟩:=hx;exact⟨x,rfl,S'⟩
theorem LI{C:Cx}{A:AL}{f:Value}{pos:Ak}{kw:BC}{F:AN}{X:Type}{val:X->Value}{led:X->AN}
 (h:Bv C A (.call f ⟨pos,kw⟩) F (λx=>.ok (.ret (val x))) led):AC C A (call f pos kw) F val led:=λR s S Γ p hΓ=>by
 have q:=h R s S Γ p hΓ;unfold Qm at q;rw[HY] at q;unfold UR;rw[I9];refine I5 (λr s' hr=>?_) q;obtain⟨x,e,S'⟩: ∃x,r=_/\_:=hr;subst e;exact⟨x,rfl,S'⟩
theorem Nl(O:B.C.Ok){A:AL}(U:AA 8 A){f cc:Addr}{x dx L so:Nat}{xs:Ak}{l:BC}{body:Dx}{env:Env}{name:Str}{p0 p1 apos pos:Pos}{X:Type}{res:X->Value}{led:X->AN}{E:Nat->Bi}
 (hf:Vh B.P f=true) (hp:(((D4 B.P f).params.posonlyargs++(D4 B.P f).params.args).head?.map (·.arg))=some AM)
 (u9:env.kindOf "super"=some .globalImplicit) (hkc:env.kindOf "__class__"=some .free) (uX:(name==("__class__":Str))=false) (hfu:env.func=some f) (XR:env.code=.ref cc)
 (hcc: ∃oc vs tf,GL B.P cc=some oc/\oc.data=.fields vs/\vs[2]? =some (.str "/claim/cut.py" tf))
 (h1:AC B.C A (Fx env "super") [AI L l] (λYa:Unit=>.type "super") (λYa=>[AI L l])) (h2:AC B.C A (Fx env "__class__") [AI L l] (λYa:Unit=>.ref 200) (λYa=>[AI L l]))
 (h3:AC B.C A (Fx env AM) [AI L l] (λYa:Unit=>J x) (λYa=>[AI L l]))
 (hm: ∀so pl,AC B.C A (LY (J so) name pl) [EZ so (.ref 200) (J x) (.ref 200),AY x dx xs] (λa:Nat=>(J a,([]:Ak))) (λa=>[E a,AY x dx xs]))
 (hcw: ∀a,AC B.C A (LX pos (J a) [] [] []) [E a,AY x dx xs] res led)
 {pl:Sem Bool} (he:Bf (.Call (.Attribute (.Call (.Name "super" p0) [] [] p1) name apos) [] [] pos) env=(do
  let ov<-attributeBase (.Call (.Name "super" p0) [] [] p1) name env (Bf (.Call (.Name "super" p0) [] [] p1) env)
  Kg apos.atName
  let(f,first)<-holding [ov] (LY ov name pl)
  LX pos f first (backTo pos (starEach [] env)) []))
 (R:AN) (s:Af) (S:St B.C ([AI L l,AY x dx xs]++R) s):
 Ia B.C.M A (.func body env) (Bf (.Call (.Attribute (.Call (.Name "super" p0) [] [] p1) name apos) [] [] pos) env) (λv s'=> ∃x,v=res x/\St B.C (led x++AI L l::R) s') (λYa Ya=>False) s:=by
 obtain⟨of,hof,uv,_⟩:=Vi O hf;obtain⟨oc,vs,tf,mc,zS,dP⟩:=hcc;obtain⟨ar,P5,yw⟩: ∃ar,((D4 B.P f).params.posonlyargs++(D4 B.P f).params.args).head?=some ar/\ar.arg=AM:=by
  cases hh:((D4 B.P f).params.posonlyargs++(D4 B.P f).params.args).head? with
  |none=>rw[hh] at hp;cases hp
  |some ar=>rw[hh] at hp;exact⟨ar,rfl,DZ hp⟩
 refine ks_wpAt_MethodCall (pl:=pl) (he:=he) (ks_wpAt_super_base (prog:=B.C.prog) (w:=B.C.w) u9 hkc uX hfu (hof _ _ S) uv P5 XR (S.top O mc) zS dP ADq ADq ?_)
 refine Av (h1 _ s S) (λg s₁ ⟨_,e,S₁⟩=>⟨e,?_⟩) λYa Ya q=>q.elim;refine AC.wp h2 S₁ λYa s₂ S₂=>?_;rw[yw];refine AC.wp h3 S₂ λYa s₃ S₃=>?_;refine Av (zh O (A:=A) U.l (AI L l::AY x dx xs::R) s₃ (by rw[Al];exact S₃)) (λb s₄ ⟨_,e,S₄⟩=>⟨e,?_⟩) λYa Ya q=>q.elim
 rw[Al] at S₄;have tv:St B.C ([AY x dx xs]++(AI L l::R)) s₄:=S₄.perm (Ae _ _ _);refine AC.wp (LI (cK O U.l x dx xs).ok) tv λso' s₅ S₅=>?_;refine AC.wp (hm so' pl) S₅ λa s₆ S₆=>?_;exact hcw a _ s₆ S₆
end
section
variable{M:Model}{A:AL}{E:Value->Af->Prop}{s:Af}{env:Env}
theorem fO{st:Stmt}{rest:Dx}{Q:OV->Af->Prop}(h:BN M A (Ac [st] env) (λf s'=>match f with|.next=>BN M A (Ac rest env) Q E s'|f=>Q f s') E s):
 BN M A (Ac (st::rest) env) Q E s:=by
 refine Gg λΓ p hΓ=>?_
 have:=h Γ p hΓ
 rw[Pe,Mg] at this;refine Nz M Γ _ (λf p' s' h'=>?_) (λYa Ya Ya h'=>h') _ _ this;cases f<;>exact h'
theorem YA{c:Code}{st:Stmt}{rest:Dx}{Q:OV->Af->Prop}(h:BN M A (Ac [st] env) (λf s'=>match f with|.next=>Ia M A c (Ac rest env) Q E s'|f=>Q f s') E s):
 Ia M A c (Ac (st::rest) env) Q E s:=by
 refine HO λΓ p hc hΓ=>?_
 have:=h Γ p hΓ
 rw[Pe,Mg] at this;refine Nz M Γ _ (λf p' s' h'=>?_) (λYa Ya Ya h'=>h') _ _ this;cases f<;>exact h'
end
theorem AC.step{C:Cx}{A:AL}{L:AN}{st:Stmt}{rest:Dx}{env:Env}{X Y:Type}{led1:X->AN}{fl:Y->OV}{led2:Y->AN}
 (h1:AC C A (Ac [st] env) L (λYa:X=>.next) led1) (h2: ∀x,AC C A (Ac rest env) (led1 x) fl led2):AC C A (Ac (st::rest) env) L fl led2:=λR s S=>
 fO (Av (h1 R s S) (λf s₁ ⟨x,e,S₁⟩=>by subst e;exact h2 x R s₁ S₁) λYa Ya q=>q)
include O
theorem R6(U:AA 1 A)(x dx:Nat)(xs:Ak):
 AS B A (Pl B 197 [J x]) [AY x dx xs] (([(AM,J x)]:BC)) [AY x dx xs]:=
 rn O U (.fi () [0])
theorem Qu(U:AA 1 A)(x dx:Nat)(xs:Ak):
 AC B.C A (OP B 197 [(AM,J x)]) [AY x dx xs]
  (λa0:Nat=>AR B.P 197 [(CW,124)] (a0+323))
  (λa0=>[AI a0 [(AM,J x)],AY x dx xs]):=
 rn O U (.al λa0=>.fr λk1=>.g 6145<|.fi (a0) [0,0])
def Jc(U:AA 12 A)(x dx:Nat)(xs:Ak):Ag B.C A where
 c:=.call (.ref 197) ⟨[J x],[]⟩
 F:=[AY x dx xs]
 X:=Nat
 res:=λk=>.ok (.ret (.int (xs.length:Int) k))
 led:=λk=>[AY x dx xs]
 ok:=Dm O (n:=11) U ADq (R6 O U.l.in1 x dx xs) (Qu O U.l.in1 x dx xs)
  (λa=>L_ (fl:=λk:Nat=>.ret (.int (xs.length:Int) k)) (λR s S=>by
   rw[qR];have B8:AA 10 (A.deeper (AR B.P 197 [(CW,124)] (a+323))):=AA.deeper U.l;refine HO (Oa (Mh (Nl O (B8.le ADp) (f:=197) (cc:=196) (x:=x) (dx:=dx) (L:=a) (so:=0) (E:=λq=>J7 q "list.__len__" (x+323)) (res:=λk:Nat=>Be (xs.length:Int) k) (led:=λYa=>[AY x dx xs]) ADq ADq ADq ADq ADq ADq ADq
    ⟨oA B.P,_,_,rfl,rfl,rfl⟩ (nV O (A:=A.deeper (AR B.P 197 [(CW,124)] (a+323))) (B8.le ADp) a x (.none)) (nS O (A:=A.deeper (AR B.P 197 [(CW,124)] (a+323))) (B8.le ADp) a x (.none)) (nY O (A:=A.deeper (AR B.P 197 [(CW,124)] (a+323))) (B8.le ADp) a x (.none)) (λso pl=>qu O (B8.le ADp) x dx so xs pl) (λq=>qi O (B8.le ADp) x dx q xs _) rfl R s S) (λv s' ⟨k,e,S'⟩=>⟨k,by rw[e],?_⟩) λYa Ya q=>q))
   exact St.drop (L':=[AI a [(AM,J x)]]) (S'.perm (.cons _ (Bm _ _).symm))))
def Mm(U:AA 12 A)(x dx:Nat)(xs:Ak)(v:Addr):Ag B.C A:=
 (Jc O U x dx (xs++[CC v])).re (λk:Nat=>.ok (.ret (.int ((xs.length+1:Nat):Int) k))) (λk=>[AY x dx (xs++[CC v])]) (λk=>k) (λk=>by
  show(Cs (B6 (.int ((xs++[CC v]).length:Int) k)):Result)=_
  rw[AX];rfl) (λYa=>rfl)
def R_(U:AA 12 A)(x dx:Nat):Ag B.C A:=
 (Jc O U x dx []).re (λk:Nat=>.ok (.ret (.int ((0:Nat):Int) k))) (λk=>[AY x dx []]) (λk=>k) (λk=>rfl) (λYa=>rfl)
theorem VP(U:AA 1 A)(x dx:Nat)(xs:Ak)(n:Value):
 AS B A (Pl B 160 [J x]) [AY x dx xs,A3 dx n] (([(AM,J x)]:BC)) [AY x dx xs,A3 dx n]:=
 rn O U (.fi () [0,0])
theorem TP(U:AA 1 A)(x dx:Nat)(xs:Ak)(n:Value):
 AC B.C A (OP B 160 [(AM,J x)]) [AY x dx xs,A3 dx n]
  (λa0:Nat=>AR B.P 160 [(CW,124)] (a0+323))
  (λa0=>[AI a0 [(AM,J x)],AY x dx xs,A3 dx n]):=
 rn O U (.al λa0=>.fr λk1=>.g 6145<|.fi (a0) [0,0,0])
theorem YN(U:AA 16 A)(L x dx:Nat)(n:Value):
 AC B.C A (Ac (A4 B.P 160) (AR B.P 160 [(CW,124)] (L+323))) [AI L [(AM,J x)],AY x dx [],A3 dx n]
  (λp:Nat×Nat×Nat=>.ret (J p.1))
  (λp=>[AV p.1 [.str eS p.2.1,.str eS p.2.2],AY x dx [],A3 dx n]):=by
 obtain⟨_,_|_⟩:=B<;>exact D7 O U (.g 5074354906657037443744267239553<|.cc (R_ O U.l x dx) [1] λy0=>.fr λk1=>.cc (Ky O U.l ↑0 0 y0 k1) [] λYa=>.fr λk3=>.fr λk4=>.al λa5=>.fi (a5,k3,k4) [0,0,1])
def gj(U:AA 18 A)(x dx:Nat)(n:Value):Ag B.C A where
 c:=.call (.ref 160) ⟨[J x],[]⟩
 F:=[AY x dx [],A3 dx n]
 X:=Nat×Nat×Nat
 res:=λp=>.ok (.ret (J p.1))
 led:=λp=>[AV p.1 [.str eS p.2.1,.str eS p.2.2],AY x dx [],A3 dx n]
 ok:=Dm O (n:=17) U ADq (VP O U.l.in1 x dx [] n) (TP O U.l.in1 x dx [] n)
  (λa=>BK (YN O (AA.deeper U.l) a x dx n))
theorem YM(U:AA 16 A)(L x dx:Nat)(xs:Ak)(v:Addr)(n:Value):
 AS B A (Ac ((A4 B.P 160).take 1) (AR B.P 160 [(CW,124)] (L+323))) [AI L [(AM,J x)],AY x dx (xs++[CC v]),A3 dx n] .next [AI L [(AM,J x)],AY x dx (xs++[CC v]),A3 dx n]:=by
 obtain⟨_,_|_⟩:=B<;>exact D7 O U (.g 5074354906657037443744267239553<|.cc (Mm O U.l x dx xs v) [1] λy0=>.fr λk1=>.cc (Ky O U.l (↑(xs.length+1)) 0 y0 k1) [] λYa=>.fi () [1,0,0])
def Vb(U:AA 18 A)(x dx:Nat)(xs:Ak)(v:Addr)(n:Value)(hx:xs.length<1000):Ag B.C A where
 c:=.call (.ref 160) ⟨[J x],[]⟩
 F:=[AY x dx (xs++[CC v]),A3 dx n]
 X:=Unit
 res:=λYa=>.ok (.ret (.ref v))
 led:=λYa=>[AY x dx xs,A3 dx n]
 ok:=Dm O (n:=17) U ADq (VP O U.l.in1 x dx (xs++[CC v]) n) (TP O U.l.in1 x dx (xs++[CC v]) n)
  (λa=>L_ (fl:=λYa:Unit=>.ret (.ref v)) (λR s S=>by
   have B8:AA 16 (A.deeper (AR B.P 160 [(CW,124)] (a+323))):=AA.deeper U.l;have e0:=YM O (A:=A.deeper (AR B.P 160 [(CW,124)] (a+323))) B8 a x dx xs v n;rw[eL] at e0;rw[eL];refine YA (AC.wp e0 S λYa s₁ S₁=>?_);refine HO (Oa (Mh (Nl O (B8.le ADp) (f:=160) (cc:=159) (x:=x) (dx:=dx) (L:=a) (so:=0) (xs:=xs++[CC v]) (l:=[(AM,J x)]) (E:=λq=>WY q "list.pop" (x+323)) (res:=λYa:Unit=>CC v) (led:=λYa=>[AY x dx xs]) ADq ADq ADq ADq ADq ADq ADq
    ⟨n_ B.P,_,_,rfl,rfl,rfl⟩ (nU O (A:=A.deeper (AR B.P 160 [(CW,124)] (a+323))) (B8.le ADp) a x (.none)) (nR O (A:=A.deeper (AR B.P 160 [(CW,124)] (a+323))) (B8.le ADp) a x (.none)) (nX O (A:=A.deeper (AR B.P 160 [(CW,124)] (a+323))) (B8.le ADp) a x (.none)) (λso pl=>qv O (B8.le ADp) x dx so (xs++[CC v]) pl) (λq=>qj O (B8.le ADp) x dx q xs v _ hx) rfl (A3 dx n::R) s₁ S₁) (λv s' ⟨k,e,S'⟩=>⟨(),by rw[e],?_⟩) λYa Ya q=>q))
   exact St.drop (L':=[AI a [(AM,J x)]]) (S'.perm (.cons _ (.trans (Ae _ _ _) (.cons _ (Bm _ _).symm))))))
theorem YC(U:AA 1 A)(x dx:Nat)(n:Nat)(t:Nat):
 AS B A (Pl B 137 [J x,.int (n:Int) t]) [AY x dx [],.one (dx+323) (.ns (.type "dict") [])] (([(AM,J x),(CV,.int (n:Int) t)]:BC)) [AY x dx [],.one (dx+323) (.ns (.type "dict") [])]:=
 rn O U (.g 64<|.fi () [0,0])
theorem XH(U:AA 1 A)(x dx:Nat)(n:Nat)(t:Nat):
 AC B.C A (OP B 137 [(AM,J x),(CV,.int (n:Int) t)]) [AY x dx [],.one (dx+323) (.ns (.type "dict") [])]
  (λa0:Nat=>AR B.P 137 [(CW,124)] (a0+323))
  (λa0=>[AI a0 [(AM,J x),(CV,.int (n:Int) t)],AY x dx [],.one (dx+323) (.ns (.type "dict") [])]):=
 rn O U (.al λa0=>.fr λk1=>.g 6145<|.fr λk2=>.g 6145<|.fi (a0) [0,0,0])
theorem Ud(U:AA 16 A)(L x dx:Nat)(n t:Nat):
 AS B A (Ac ((A4 B.P 137).take 1) (AR B.P 137 [(CW,124)] (L+323))) [AI L [(AM,J x),(CV,.int (n:Int) t)],AY x dx [],.one (dx+323) (.ns (.type "dict") [])] .next [AI L [(AM,J x),(CV,.int (n:Int) t)],AY x dx [],A3 dx (.int (n:Int) t)]:=
 D7 O U (.g 4161<|.fr λk0=>.g 16777218<|.cc (Uw O U.l x dx [] (.int (↑n) t) k0) [1,1] λYa=>.fi () [2,0,0])
def bX(U:AA 18 A)(x dx n t:Nat):Ag B.C A where
 c:=.call (.ref 137) ⟨[J x,.int (n:Int) t],[]⟩
 F:=[AY x dx [],.one (dx+323) (.ns (.type "dict") [])]
 X:=Unit
 res:=λYa=>.ok (.ret .none)
 led:=λYa=>[AY x dx [],A3 dx (.int (n:Int) t)]
 ok:=Dm O (n:=17) U ADq (YC O U.l.in1 x dx n t) (XH O U.l.in1 x dx n t)
  (λa=>L_ (fl:=λYa:Unit=>.next) (λR s S=>by
   have B8:AA 16 (A.deeper (AR B.P 137 [(CW,124)] (a+323))):=AA.deeper U.l;have e0:=Ud O (A:=A.deeper (AR B.P 137 [(CW,124)] (a+323))) B8 a x dx n t;rw[eK] at e0;rw[eK];refine YA (AC.wp e0 S λYa s₁ S₁=>?_);refine HO (ks_wpAt_Expr_any (Mh (Nl O (B8.le ADp) (f:=137) (cc:=136) (x:=x) (dx:=dx) (L:=a) (so:=0) (xs:=[]) (l:=[(AM,J x),(CV,.int (n:Int) t)]) (E:=λq=>J7 q "list.__init__" (x+323)) (res:=λYa:Unit=>CU) (led:=λYa=>[AY x dx []]) ADq ADq ADq ADq ADq ADq ADq
    ⟨n9 B.P,_,_,rfl,rfl,rfl⟩ (nT O (A:=A.deeper (AR B.P 137 [(CW,124)] (a+323))) (B8.le ADp) a x (.int (n:Int) t)) (nQ O (A:=A.deeper (AR B.P 137 [(CW,124)] (a+323))) (B8.le ADp) a x (.int (n:Int) t)) (nW O (A:=A.deeper (AR B.P 137 [(CW,124)] (a+323))) (B8.le ADp) a x (.int (n:Int) t)) (λso pl=>l6 O (B8.le ADp) x dx so [] pl) (λq=>lW O (B8.le ADp) x dx q _) rfl (A3 dx (.int (n:Int) t)::R) s₁ S₁) (λv s' ⟨k,e,S'⟩=>?_) λYa Ya q=>q))
   show Ia _ _ _ (Ac [] _) _ _ _;exact wpAt_of_wpAny (AP ⟨(),rfl,St.drop (L':=[AI a [(AM,J x),(CV,.int (n:Int) t)]]) (S'.perm (.cons _ (.trans (Ae _ _ _) (.cons _ (Bm _ _).symm))))⟩)))
noncomputable def SX{α:Type}:Sem α->List (Code×Pos)->Sem α
 |.stack k=>k
 |t=>λYa=>t
omit O
theorem X0{M:Model}{A:AL}{c:Code}{α:Type}{t:Sem α}{Q:α->Af->Prop}{E:Value->Af->Prop}{s:Af}(h: ∀p below,BN M A (SX t ((c,p)::below)) Q E s):Ia M A c t Q E s:=by
 cases t with
 |stack k=>
  show Ia M A c (PySem.stack>>=k) Q E s;exact PySem.wpAt_bind (PySem.wpAt_stack λp below=>OY (h p below))
 |_=>exact OY (h Au [])
section
variable{C:Cx}{A:AL}{F:AN}{X:Type}
theorem Pp{id:String}{args:LO}{val:X->Value}{led:X->AN}(hp:H4 id=true)
 (hc:AC C A.in1 (AU id args) F (λYa:Unit=>()) (λYa=>F))
 (h: ∀p below,AC C A.in1 (SX (BM (.builtin id args)) ((.builtin id args,p)::below)) F (λx=>Az (.ret (val x))) led):Bv C A (.call (.builtin id) args) F (λx=>.ok (.ret (val x))) led:=
 Bu λR s S=>Ew (DH hp args) (by
  refine AC.wp hc S λYa s₁ S₁=>?_;refine PySem.codeAny_of_treeAt ?_;rw[BX hp args,E4 C];refine X0 λp below=>?_;exact AC.wp (h p below) S₁ λx s₂ S₂=>⟨x,rfl,S₂⟩)
end
theorem Oe{C:Cx}{A:AL}{F:AN}{X:Type}{f:Value}{args Di:LO}{id:String}{val:X->Value}{led:X->AN}
 (h1:AC C (A.under (.call f args)) (BM (.call f args)) F (λYa:Unit=>.again (.call (.builtin id) Di)) (λYa=>F))
 (iG:AC C (A.under (.call (.builtin id) Di)) (BM (.call (.builtin id) Di)) F (λYa:Unit=>.again (.builtin id Di)) (λYa=>F)) (md:(OG (.builtin id) Di).quiet=true) (hq:(FD id Di).quiet=true)
 (h2:AC C (A.under (.builtin id Di)) (BM (.builtin id Di)) F (λx=>Az (.ret (val x))) led):Bv C A (.call f args) F (λx=>.ok (.ret (val x))) led:=
 Bu λR s S=>by
  refine BL ?_;rw[E4 C];refine AC.wp h1 S λYa s₁ S₁=>?_;refine⟨md,BL ?_⟩;rw[E4 C];refine AC.wp iG S₁ λYa s₁ S₁=>?_;refine⟨hq,BL ?_⟩;rw[E4 C];exact AC.wp h2 S₁ λx s₂ S₂=>⟨x,rfl,S₂⟩
theorem Nc(f:Value)(args:LO):(OG f args).quiet=true:=rfl
include O
theorem Wm(U:AA 1 A)(n t:Nat):
 AS B A (AU "list.__new__" ⟨[.ref 200,.int (n:Int) t],[]⟩) [] () []:=
 by apply Hc O U (.g 4398046511104<|.fi () [])
theorem XC(U:AA 1 A)(n t:Nat)(p:Pos)(below:List (Code×Pos)):
 AC B.C A (SX (BM (.builtin "list.__new__" ⟨[.ref 200,.int (n:Int) t],[]⟩)) ((.builtin "list.__new__" ⟨[.ref 200,.int (n:Int) t],[]⟩,p)::below)) []
  (λa:Nat×Nat=>.done (.ret (J a.1)))
  (λa=>[AY a.1 a.2 [],.one (a.2+323) (.ns (.type "dict") [])]):=
 rn O U (.g 4096<|.al λa0=>.al λa1=>.g 64<|.fi (a1,a0) [0,0])
def Wz(U:AA 3 A)(n t:Nat):Ag B.C A where
 c:=.call (.builtin "list.__new__") ⟨[.ref 200,.int (n:Int) t],[]⟩
 F:=[]
 X:=Nat×Nat
 res:=λa=>.ok (.ret (J a.1))
 led:=λa=>[AY a.1 a.2 [],.one (a.2+323) (.ns (.type "dict") [])]
 ok:=Pp ADr (Wm O U.l.in1 n t) (λp below=>XC O U.l.in1 n t p below)
theorem qw(U:AA 1 A)(n t:Nat):
 AS B A (BM (.call (.ref 200) ⟨[.int (n:Int) t],[]⟩)) [] (.again (.call (.builtin "type.__call__") ⟨[.ref 200,.int (n:Int) t],[]⟩)) []:=
 rn O U (.g 4096<|.fi () [])
theorem l7(U:AA 1 A)(n t:Nat):
 AS B A (BM (.call (.builtin "type.__call__") ⟨[.ref 200,.int (n:Int) t],[]⟩)) [] (.again (.builtin "type.__call__" ⟨[.ref 200,.int (n:Int) t],[]⟩)) []:=
 rn O U (.g 64<|.fi () [])
theorem sZ(U:AA 20 A)(n t:Nat):
 AC B.C A (BM (.builtin "type.__call__" ⟨[.ref 200,.int (n:Int) t],[]⟩)) []
  (λa:Nat×Nat=>.done (.ret (J a.1)))
  (λa=>[AY a.1 a.2 [],A3 a.2 (.int (n:Int) t)]):=
 rn O U (.g 262144<|.cc (Wz O U.l n t) [] λ(y0:Nat×Nat)=>.g 4398046515201<|.cc (bX O U.l y0.fst y0.snd n t) [0,0] λYa=>.fi (y0) [0,0])
def Yu(U:AA 22 A)(n t:Nat):Ag B.C A where
 c:=.call (.ref 200) ⟨[.int (n:Int) t],[]⟩
 F:=[]
 X:=Nat×Nat
 res:=λa=>.ok (.ret (J a.1))
 led:=λa=>[AY a.1 a.2 [],A3 a.2 (.int (n:Int) t)]
 ok:=Oe (qw O (A:=A.under (.call (.ref 200) ⟨[.int (n:Int) t],[]⟩)) (U.l.ca _ _) n t)
  (l7 O (A:=A.under (.call (.builtin "type.__call__") ⟨[.ref 200,.int (n:Int) t],[]⟩)) (U.l.ca _ _) n t) (Nc _ _) (F0 _)
  (sZ O (A:=A.under (.builtin "type.__call__" ⟨[.ref 200,.int (n:Int) t],[]⟩)) (U.l.ty _) n t)
noncomputable abbrev BO(x dx:Nat):Bi:=.one (x+323) (.ex ⟨.ref 116,some (dx+323),.plain,⟨[]⟩⟩)
def cQ(U:AA 3 A)(x dx m u t:Nat):Ag B.C A:=
 DN O U "object.__setattr__" [J x,.str D6 t,.int (m:Int) u] [BO x dx,.one (dx+323) (.ns (.type "dict") [])] (λYa:Unit=>.none) (λYa=>[BO x dx,.one (dx+323) (.ns (.type "dict") [(D6,.int (m:Int) u)])]) (λU=>.g 4097<|.fi () [0,0]) λU=>.g 281543696191489<|.fr λk0=>.g 272450<|.fi () [0,0]
def cR(U:AA 3 A)(x dx m u t3 t:Nat):Ag B.C A:=
 DN O U "object.__setattr__" [J x,.str CM t,.str ⟨⟨[45,45]⟩⟩ t3] [BO x dx,.one (dx+323) (.ns (.type "dict") [(D6,.int (m:Int) u)])] (λYa:Unit=>.none) (λYa=>[BO x dx,.one (dx+323) (.ns (.type "dict") [(D6,.int (m:Int) u),(CM,.str ⟨⟨[45,45]⟩⟩ t3)])]) (λU=>.g 4097<|.fi () [0,0]) λU=>.g 281543696191489<|.fr λk0=>.g 272450<|.fi () [0,0]
def cS(U:AA 3 A)(x dx m u t3 t5 t:Nat):Ag B.C A:=
 DN O U "object.__setattr__" [J x,.str CI t,.int 2 t5] [BO x dx,.one (dx+323) (.ns (.type "dict") [(D6,.int (m:Int) u),(CM,.str ⟨⟨[45,45]⟩⟩ t3)])] (λYa:Unit=>.none) (λYa=>[BO x dx,.one (dx+323) (.ns (.type "dict") [(D6,.int (m:Int) u),(CM,.str ⟨⟨[45,45]⟩⟩ t3),(CI,.int 2 t5)])]) (λU=>.g 4097<|.fi () [0,0]) λU=>.g 281543696191489<|.fr λk0=>.g 272450<|.fi () [0,0]
def cT(U:AA 3 A)(x dx m u t3 t5 t4 t:Nat):Ag B.C A:=
 DN O U "object.__setattr__" [J x,.str EB t,.str ⟨⟨[32]⟩⟩ t4] [BO x dx,.one (dx+323) (.ns (.type "dict") [(D6,.int (m:Int) u),(CM,.str ⟨⟨[45,45]⟩⟩ t3),(CI,.int 2 t5)])] (λYa:Unit=>.none) (λYa=>[BO x dx,.one (dx+323) (.ns (.type "dict") [(D6,.int (m:Int) u),(CM,.str ⟨⟨[45,45]⟩⟩ t3),(CI,.int 2 t5),(EB,.str ⟨⟨[32]⟩⟩ t4)])]) (λU=>.g 4097<|.fi () [0,0]) λU=>.g 281543696191489<|.fr λk0=>.g 272450<|.fi () [0,0]
def cU(U:AA 3 A)(x dx m u t3 t5 t4 l t:Nat):Ag B.C A:=
 DN O U "object.__setattr__" [J x,.str Jg t,J l] [BO x dx,.one (dx+323) (.ns (.type "dict") [(D6,.int (m:Int) u),(CM,.str ⟨⟨[45,45]⟩⟩ t3),(CI,.int 2 t5),(EB,.str ⟨⟨[32]⟩⟩ t4)])] (λYa:Unit=>.none) (λYa=>[BO x dx,.one (dx+323) (.ns (.type "dict") [(D6,.int (m:Int) u),(CM,.str ⟨⟨[45,45]⟩⟩ t3),(CI,.int 2 t5),(EB,.str ⟨⟨[32]⟩⟩ t4),(Jg,J l)])]) (λU=>.g 4097<|.fi () [0,0]) λU=>.g 281543696191489<|.fr λk0=>.g 272450<|.fi () [0,0]
def cV(U:AA 3 A)(x dx m u t3 t5 t4 l y t:Nat):Ag B.C A:=
 DN O U "object.__setattr__" [J x,.str Fp t,J y] [BO x dx,.one (dx+323) (.ns (.type "dict") [(D6,.int (m:Int) u),(CM,.str ⟨⟨[45,45]⟩⟩ t3),(CI,.int 2 t5),(EB,.str ⟨⟨[32]⟩⟩ t4),(Jg,J l)])] (λYa:Unit=>.none) (λYa=>[BO x dx,.one (dx+323) (.ns (.type "dict") [(D6,.int (m:Int) u),(CM,.str ⟨⟨[45,45]⟩⟩ t3),(CI,.int 2 t5),(EB,.str ⟨⟨[32]⟩⟩ t4),(Jg,J l),(Fp,J y)])]) (λU=>.g 4097<|.fi () [0,0]) λU=>.g 281543696191489<|.fr λk0=>.g 272450<|.fi () [0,0]
abbrev Bc(dx m u t3 t5 t4 l y:Nat):Bi:=.one (dx+323) (.ns (.type "dict") [(D6,.int (m:Int) u),(CM,.str ⟨⟨[45,45]⟩⟩ t3),(CI,.int 2 t5),(EB,.str ⟨⟨[32]⟩⟩ t4),(Jg,J l),(Fp,J y)])
theorem YG(U:AA 1 A)(x dx n t m u t3 t4:Nat):
 AS B A (Dc (D4 B.P 57) ⟨[J x,.int (n:Int) t,.int (m:Int) u,.str ⟨⟨[45,45]⟩⟩ t3,.str ⟨⟨[32]⟩⟩ t4],[]⟩) [BO x dx,.one (dx+323) (.ns (.type "dict") [])] (([(AM,J x),(JL,.int (n:Int) t),(OD,.int (m:Int) u),(Fk,.str ⟨⟨[45,45]⟩⟩ t3),(Ba,.str ⟨⟨[32]⟩⟩ t4)]:BC)) [BO x dx,.one (dx+323) (.ns (.type "dict") [])]:=
 rn O U (.fi () [0,0])
theorem XM(U:AA 1 A)(x dx n t m u t3 t4:Nat):
 AC B.C A (OP B 57 [(AM,J x),(JL,.int (n:Int) t),(OD,.int (m:Int) u),(Fk,.str ⟨⟨[45,45]⟩⟩ t3),(Ba,.str ⟨⟨[32]⟩⟩ t4)]) [BO x dx,.one (dx+323) (.ns (.type "dict") [])]
  (λa0:Nat=>AR B.P 57 [] (a0+323))
  (λa0=>[AI a0 [(AM,J x),(JL,.int (n:Int) t),(OD,.int (m:Int) u),(Fk,.str ⟨⟨[45,45]⟩⟩ t3),(Ba,.str ⟨⟨[32]⟩⟩ t4)],BO x dx,.one (dx+323) (.ns (.type "dict") [])]):=
 rn O U (.al λa0=>.fr λk1=>.g 6145<|.fr λk2=>.g 6145<|.fr λk3=>.g 6145<|.fr λk4=>.g 6145<|.fr λk5=>.g 6145<|.fi (a0) [0,0,0])
theorem YQ(U:AA 30 A)(L x dx n t m u t3 t4:Nat):
 AC B.C A (Ac (A4 B.P 57) (AR B.P 57 [] (L+323))) [AI L [(AM,J x),(JL,.int (n:Int) t),(OD,.int (m:Int) u),(Fk,.str ⟨⟨[45,45]⟩⟩ t3),(Ba,.str ⟨⟨[32]⟩⟩ t4)],BO x dx,.one (dx+323) (.ns (.type "dict") [])]
  (λp:Nat×Nat×Nat×Nat=>.next)
  (λp=>[BO x dx,Bc dx m u t3 p.1 t4 p.2.1 p.2.2.1,AY p.2.2.1 p.2.2.2 [],A3 p.2.2.2 (.int (n:Int) t),AE p.2.1 []]):=
 D7 O U (.g 4161<|.fr λk0=>.g 16777218<|.cc (cQ O U.l x dx m u k0) [1,1] λYa=>.g 4291<|.fr λk2=>.g 16777217<|.cc (cR O U.l x dx m u t3 k2) [0,0] λYa=>.g 274432<|.cc (JQ O U.l ⟨⟨[45,45]⟩⟩ t3 (by first|assumption|lia|decide)) [] λ(y4:Nat×Nat)=>.g 67<|.fr λk5=>.g 16777217<|.cc (cS O U.l x dx m u t3 y4.snd k5) [0,0] λYa=>.g 4291<|.fr λk7=>.g 16777217<|.cc (cT O U.l x dx m u t3 y4.snd t4 k7) [0,0] λYa=>.al λa9=>.g 68<|.fr λH9=>.g 16777218<|.cc (cU O U.l x dx m u t3 y4.snd t4 a9 H9) [1,1] λYa=>.g 16777472<|.cc (Yu O U.l n t) [] λ(OS:Nat×Nat)=>.g 70<|.fr λzi=>.g 16777219<|.cc (cV O U.l x dx m u t3 y4.snd t4 a9 OS.fst zi) [2,2] λYa=>.fi (y4.snd,a9,OS.fst,OS.snd) (BW 5))
def cP(U:AA 32 A)(x dx n t m u t3 t4:Nat):Ag B.C A where
 c:=.call (.ref 57) ⟨[J x,.int (n:Int) t,.int (m:Int) u,.str ⟨⟨[45,45]⟩⟩ t3,.str ⟨⟨[32]⟩⟩ t4],[]⟩
 F:=[BO x dx,.one (dx+323) (.ns (.type "dict") [])]
 X:=Nat×Nat×Nat×Nat
 res:=λYa=>.ok (.ret .none)
 led:=λp=>[BO x dx,Bc dx m u t3 p.1 t4 p.2.1 p.2.2.1,AY p.2.2.1 p.2.2.2 [],A3 p.2.2.2 (.int (n:Int) t),AE p.2.1 []]
 ok:=Dm O (n:=31) U ADq (YG O U.l.in1 x dx n t m u t3 t4) (XM O U.l.in1 x dx n t m u t3 t4)
  (λa=>BK (YQ O (AA.deeper U.l) a x dx n t m u t3 t4))
def cO(U:AA 3 A)(n t m u t3 t4:Nat):Ag B.C A:=
 DN O U "object.__new__" [.ref 116,.int (n:Int) t,.int (m:Int) u,.str ⟨⟨[45,45]⟩⟩ t3,.str ⟨⟨[32]⟩⟩ t4] [] (λa:Nat×Nat=>J a.1) (λa=>[BO a.1 a.2,.one (a.2+323) (.ns (.type "dict") [])]) (λU=>.g 4398046511104<|.fi () []) λU=>.g 4722366482869645213696<|.al λa0=>.al λa1=>.g 64<|.fi (a1,a0) [0,0]
theorem uN(U:AA 1 A)(n t m u t3 t4:Nat):
 AS B A (BM (.call (.ref 116) ⟨[.int (n:Int) t,.int (m:Int) u,.str ⟨⟨[45,45]⟩⟩ t3,.str ⟨⟨[32]⟩⟩ t4],[]⟩)) [] (.again (.call (.builtin "type.__call__") ⟨[.ref 116,.int (n:Int) t,.int (m:Int) u,.str ⟨⟨[45,45]⟩⟩ t3,.str ⟨⟨[32]⟩⟩ t4],[]⟩)) []:=
 rn O U (.g 4096<|.fi () [])
theorem q0(U:AA 1 A)(n t m u t3 t4:Nat):
 AS B A (BM (.call (.builtin "type.__call__") ⟨[.ref 116,.int (n:Int) t,.int (m:Int) u,.str ⟨⟨[45,45]⟩⟩ t3,.str ⟨⟨[32]⟩⟩ t4],[]⟩)) [] (.again (.builtin "type.__call__" ⟨[.ref 116,.int (n:Int) t,.int (m:Int) u,.str ⟨⟨[45,45]⟩⟩ t3,.str ⟨⟨[32]⟩⟩ t4],[]⟩)) []:=
 rn O U (.g 64<|.fi () [])
theorem xl(U:AA 34 A)(n t m u t3 t4:Nat):
 AC B.C A (BM (.builtin "type.__call__" ⟨[.ref 116,.int (n:Int) t,.int (m:Int) u,.str ⟨⟨[45,45]⟩⟩ t3,.str ⟨⟨[32]⟩⟩ t4],[]⟩)) []
  (λp:(Nat×Nat)×Nat×Nat×Nat×Nat=>.done (.ret (J p.1.1)))
  (λp=>[BO p.1.1 p.1.2,Bc p.1.2 m u t3 p.2.1 t4 p.2.2.1 p.2.2.2.1,AY p.2.2.2.1 p.2.2.2.2 [],A3 p.2.2.2.2 (.int (n:Int) t),AE p.2.2.1 []]):=
 rn O U (.g 262144<|.cc (cO O U.l n t m u t3 t4) [] λ(y0:Nat×Nat)=>.g 4398046515201<|.cc (cP O U.l y0.fst y0.snd n t m u t3 t4) [0,0] λy1=>.fi (y0,y1) (BW 5))
def TD(U:AA 36 A)(n t m u t3 t4:Nat):Ag B.C A where
 c:=.call (.ref 116) ⟨[.int (n:Int) t,.int (m:Int) u,.str ⟨⟨[45,45]⟩⟩ t3,.str ⟨⟨[32]⟩⟩ t4],[]⟩
 F:=[]
 X:=(Nat×Nat)×Nat×Nat×Nat×Nat
 res:=λp=>.ok (.ret (J p.1.1))
 led:=λp=>[BO p.1.1 p.1.2,Bc p.1.2 m u t3 p.2.1 t4 p.2.2.1 p.2.2.2.1,AY p.2.2.2.1 p.2.2.2.2 [],A3 p.2.2.2.2 (.int (n:Int) t),AE p.2.2.1 []]
 ok:=Oe (uN O (A:=A.under (.call (.ref 116) ⟨[.int (n:Int) t,.int (m:Int) u,.str ⟨⟨[45,45]⟩⟩ t3,.str ⟨⟨[32]⟩⟩ t4],[]⟩)) (U.l.ca _ _) n t m u t3 t4)
  (q0 O (A:=A.under (.call (.builtin "type.__call__") ⟨[.ref 116,.int (n:Int) t,.int (m:Int) u,.str ⟨⟨[45,45]⟩⟩ t3,.str ⟨⟨[32]⟩⟩ t4],[]⟩)) (U.l.ca _ _) n t m u t3 t4) (Nc _ _) (F0 _)
  (xl O (A:=A.under (.builtin "type.__call__" ⟨[.ref 116,.int (n:Int) t,.int (m:Int) u,.str ⟨⟨[45,45]⟩⟩ t3,.str ⟨⟨[32]⟩⟩ t4],[]⟩)) (U.l.ty _) n t m u t3 t4)
def cC(U:AA 5 A)(x dx b:Nat)(xs ys:Ak)(n:Value)(hx:xs.length<=1000)(hy:ys.length<=1000):Ag B.C A where
 c:=.call (.ref 182) ⟨[J x,J b],[]⟩
 F:=[AY x dx xs,A3 dx n,AE b ys]
 X:=Nat
 res:=λYa=>.ok (.ret .none)
 led:=λt=>[AY x dx ys,A3 dx (.int 0 t),AE b ys]
 ok:=EU O U [(AM,J x),(KS,J b)] (sb:=.g 64<|.fi () [])
  (λa=>BK (YO O U.l.deeper a x dx b xs ys n hx hy))
theorem Wi(U:AA 3 A)(L x dx:Nat)(xs:Ak)(n:Value)(hx:xs.length<=1000):
 AC B.C A (Ac (A4 B.P 182) (AR B.P 182 [] (L+323))) [AI L [(AM,J x),(KS,.none)],AY x dx xs,A3 dx n]
  (λt:Nat=>.next)
  (λt=>[AY x dx [],A3 dx (.int ((0:Nat):Int) t)]):=
 D7 O U (.g 65<|.al λa0=>.fr λk1=>.g 17311810<|.al λa2=>.g 68719493124<|.cc (Py O U.l x dx a2 a0 xs [] hx (by first|assumption|simp)) [3,0,0] λYa=>.fr λk4=>.g 68<|.fr λk5=>.g 16777217<|.cc (Px O U.l x dx [] n (.int 0 k4) k5) [0,3] λYa=>.fi (k4) [0,0])
def RS(U:AA 5 A)(x dx:Nat)(xs:Ak)(n:Value)(hx:xs.length<=1000):Ag B.C A where
 c:=.call (.ref 182) ⟨[J x],[]⟩
 F:=[AY x dx xs,A3 dx n]
 X:=Nat
 res:=λYa=>.ok (.ret .none)
 led:=λt=>[AY x dx [],A3 dx (.int ((0:Nat):Int) t)]
 ok:=EU O U [(AM,J x),(KS,.none)] (sb:=.g 64<|.fi () [])
  (λa=>BK (Wi O U.l.deeper a x dx xs n hx))
omit O
theorem hR:C1 FZ "list.__iadd__"=some Builtin.«list.__iadd__»:=B2 ADq
theorem ZN:C1 FZ "list.extend"=some Builtin.«list.extend»:=B2 ADq
section
variable{C:Cx}{A:AL}
theorem Mo{S it:Addr}{res:Value}{T:String}{d:Option Addr}{xs ys:Ak}(hT:T="list"∨T="tuple")(hx:xs.length<=1000)(hy:ys.length<=1000):
 AC C A (JM (.ref S) (.ref it) res) [.one S (.ls (.type "list") none xs),.one it (.ls (.type T) d ys)]
  (λYa:Unit=>.done (.ret res)) (λYa=>[.one S (.ls (.type "list") none (xs++ys)),.one it (.ls (.type T) d ys)]):=by
 intro R s St;obtain⟨g,ho⟩:=St.Dj;obtain⟨gb,hb⟩:=St.swap.Dj;have uW:s.TypeIs (.ref it) T:=⟨_,hb,rfl⟩;have Qz: ∀{a:Addr} {o:Obj} {ys:Ak} {n:Nat} {Q:Bs->Af->Prop} {E:Value->Af->Prop},s.heap.get? a=some o->o.data=.seq ⟨ys⟩ n->Q ⟨ys⟩ s->BN C.M A (A7 (.ref a)) Q E s:=λho hd h=>by
  unfold A7;exact AB (DG ho hd (AP h))
 unfold JM;refine AB (H6 uW ?_);have h1:(Kr (.ref S) (.ref it)||HN T==HN "list"||HN T==HN "tuple")=true:=by
  rcases hT with rfl|rfl<;>simp
 refine iT h1 ?_;refine AB (m:=A7 _) (Qz hb rfl ?_);refine AB (m:=A7 _) (Qz ho rfl ?_);have hnt:(!(⟨xs⟩:Bs).isEmpty&&Gy ((⟨xs⟩:Bs).size+(⟨ys⟩:Bs).size))=false:=by
  rw[Mz];right;simp only[Gy,decide_eq_false_iff_not];show¬(xs.length+ys.length>sizeLine);rw[Br];lia
 simp only[hnt,Bool.false_eq_true,if_false];have Zk:(⟨xs⟩:Bs)++⟨ys⟩=⟨xs++ys⟩:=by apply Array.toList_inj.mp;simp
 refine AB (m:=Df _ _) (G9 ho rfl (AP ⟨(),rfl,?_⟩) (AK (show xs.length<=1000 from hx) ADs) ?_)
 ·refine(St.Np (t:=s.toks) (B1 ..) (CO _ ho ?_) ?_)
  ·rfl
  ·exact MP Zk
 ·rw[Zk]
  show(xs++ys).length<=_
  rw[Br,AX];lia
theorem bT(U:AA 2 A){S it:Addr}{T:String}{d:Option Addr}{xs ys:Ak}(hT:T="list"∨T="tuple")(hx:xs.length<=1000)(hy:ys.length<=1000):
 AT C A (.builtin "list.__iadd__" ⟨[.ref S,.ref it],[]⟩) [.one S (.ls (.type "list") none xs),.one it (.ls (.type T) d ys)]
  (λYa:Unit=>.ok (.ret (.ref S))) (λYa=>[.one S (.ls (.type "list") none (xs++ys)),.one it (.ls (.type T) d ys)]):=λR s St=>by
 refine Ez hR ?_;rw[BX ADr]
 exact AC.wp (Mo (A:=A.in1) hT hx hy) St λx s₂ S₂=>⟨x,rfl,S₂⟩
theorem Oh(O:C.Ok)(U:AA 3 A){v:Nat}{T:String}{d:Option Addr}{ys:Ak}(hT:T="list"∨T="tuple")(hy:ys.length<=1000):
 AT C A (.builtin "proto.collect" ⟨[J v],[]⟩) [.one (v+323) (.ls (.type T) d ys)] (λa:Nat=>.ok (.ret (J a))) (λa=>[.one (a+323) (.ls (.type "list") none ys),.one (v+323) (.ls (.type T) d ys)]):=by
 intro R s S;refine Ez PySem.F.entry_proto_collect ?_;rw[BX PySem.F.plain_proto_collect _];show BN _ A.in1 (Sa []>>=λl=>again (.builtin "list.__iadd__" ⟨[l,J v],[]⟩)) _ _ s;refine AB (DS (AP ⟨DH PySem.F.plain_list_iadd _,?_⟩));have S₁:=S.alloc (o:={cls:=.type "list",data:=.seq ([]:Ak).toArray}) (ao:=.ls (.type "list") none []) rfl ⟨G0,rfl⟩;rw[St.size_eq O S] at S₁⊢
 have:=bT (C:=C) (A:=A) U.l (S:=s.heap.objs.size-323+323) (it:=v+323) (xs:=[]) hT ADt hy R _ S₁
 rw[Al] at this;exact Fm this λr s' ⟨_,e,S'⟩=>⟨_,e,S'⟩
end
include O
def Uo(U:AA 3 A)(v:Nat)(ys:Ak)(hy:ys.length<=1000):Ag B.C A where
 c:=.builtin "proto.collect" ⟨[J v],[]⟩
 F:=[AV v ys]
 X:=Nat
 res:=λa=>.ok (.ret (J a))
 led:=λa=>[AE a ys,AV v ys]
 ok:=(Oh O U (.inr rfl) hy).call
def Km(U:AA 3 A)(v:Nat)(ys:Ak)(hy:ys.length<=1000):Ag B.C A where
 c:=.builtin "proto.collect" ⟨[J v],[]⟩
 F:=[AE v ys]
 X:=Nat
 res:=λa=>.ok (.ret (J a))
 led:=λa=>[AE a ys,AE v ys]
 ok:=(Oh O U (.inl rfl) hy).call
omit O
section
variable{C:Cx}{A:AL}{L:AN}
theorem AC.pre{α:Type}{t:Sem α}{F F':AN}{X:Type}{res:X->α}{led:X->AN}(h:AC C A t F res led)(p: ∀R s,St C (F'++R) s->St C (F++R) s):AC C A t F' res led:=λR s S=>h R s (p R s S)
theorem AC.post{α:Type}{t:Sem α}{F:AN}{X:Type}{res:X->α}{led Cy:X->AN}(h:AC C A t F res led)(p: ∀x R s,St C (led x++R) s->St C (Cy x++R) s):AC C A t F res Cy:=h.weaken λx=>⟨x,rfl,p x⟩
theorem AC.ix{α:Type}{t:Sem α}{F F' r:AN}{X:Type}{res:X->α}{led:X->AN}(ix:Ay)(h:AC C A t F res led)(e:Fq ix F'=some (F,r)):AC C A t F' res led:=h.pre λR s S=>S.picked e
theorem AC.ox{α:Type}{t:Sem α}{F:AN}{X:Type}{res:X->α}{led Cy r:X->AN}(ix:Ay)(h:AC C A t F res led)(e: ∀x,Fq ix (led x)=some (Cy x,r x)):AC C A t F res Cy:=h.post λx=>pk ix (e x)
theorem AC.one{st:Stmt}{env:Env}{X:Type}{fl:X->OV}{led:X->AN}(h:AC C A (Qf st env) L fl led):AC C A (Ac [st] env) L fl led:=λR s S=>by
 refine Gg (AC.wp h S λx s' S'=>?_);cases hf:fl x with
 |next=>exact Fy ⟨x,hf.symm,S'⟩
 |_=>exact⟨x,hf.symm,S'⟩
theorem AC.MM{test:Expr}{body orelse:Dx}{pos:Pos}{env:Env}{X Y:Type}{b:Bool}{led1:X->AN}{fl:Y->OV}{led:Y->AN}
 (h1:AC C A (isTrue test env (Bf test env)) L (λYa:X=>b) led1) (h2: ∀x,AC C A (Ac (if b then body else orelse) env) (led1 x) fl led):AC C A (Qf (.If test body orelse pos) env) L fl led:=λR s S=>by
 refine wpAny_If (Av (h1 R s S) (λf s' ⟨x,e,S'⟩=>?_) λYa Ya q=>q);subst e
 have:=h2 x R s' S'
 cases f<;>exact this
theorem AC.Fh{l r:Expr}{op:CmpOp}{pos:Pos}{env:Env}{whole:Sem Value}{X Y:Type}{b:Bool}{va:X->Value}{vb:X->Y->Value}{led1:X->AN}{led2:X->Y->AN}
 (h1:AC C A (Bf l env) L va led1) (h2: ∀x,AC C A (Bf r env) (led1 x) (vb x) (led2 x)) (h3: ∀x y,AC C A (Gf op (va x) (vb x y)) (led2 x y) (λYa:Unit=>.bool b) (λYa=>led2 x y))
 (hm:behindInMarks op r=false):AC C A (isTrue (.Compare l [op] [r] pos) env whole) L (λYa:X×Y=>b) (λp=>led2 p.1 p.2):=λR s S=>by
 refine wpAny_isTrue_Compare1 (Av (h1 R s S) (λf s₁ ⟨x,e,S₁⟩=>?_) λYa Ya q=>q) hm;subst e;refine AC.wp (h2 x) S₁ λy s₂ S₂=>?_;refine AC.wp (h3 x y) S₂ λYa s₃ S₃=>?_;exact Qj ⟨(x,y),rfl,S₃⟩
theorem AC.TQ{l r:Expr}{op:CmpOp}{pos:Pos}{env:Env}{X Y:Type}{v:Value}{va:X->Value}{vb:X->Y->Value}{led1:X->AN}{led2:X->Y->AN}
 (h1:AC C A (Bf l env) L va led1) (h2: ∀x,AC C A (Bf r env) (led1 x) (vb x) (led2 x)) (h3: ∀x y,AC C A (Gf op (va x) (vb x y)) (led2 x y) (λYa:Unit=>v) (λYa=>led2 x y))
 (hm:behindInMarks op r=false):AC C A (Bf (.Compare l [op] [r] pos) env) L (λYa:X×Y=>v) (λp=>led2 p.1 p.2):=λR s S=>by
 refine wpAny_Compare1 (Av (h1 R s S) (λf s₁ ⟨x,e,S₁⟩=>?_) λYa Ya q=>q) hm;subst e;refine AC.wp (h2 x) S₁ λy s₂ S₂=>?_;refine AC.wp (h3 x y) S₂ λYa s₃ S₃=>?_;exact⟨(x,y),rfl,S₃⟩
theorem AC.retS{e:Expr}{pos:Pos}{env:Env}{X:Type}{v:X->Value}{led:X->AN}(h:AC C A (Bf e env) L v led):AC C A (Qf (.Return (some e) pos) env) L (λx=>.ret (v x)) led:=λR s S=>
 Kh (Av (h R s S) (λYa s' ⟨x,e,S'⟩=>⟨x,by rw[e],S'⟩) λYa Ya q=>q)
theorem on{B:Bx}{a b:Value}{da db:PyData}{L:AN}{bo:Bool}(hu:A.units+64<cLine)(ha:da.canLay0=true)(hb:db.canLay0=true)(hd:da.depth<=64)
 (h: ∀R s,St B.C (L++R) s->(∃as,Qd s.heap a da as)/\ ∃bs,Qd s.heap b db bs) (he:Mf da db=bo):AC B.C A (Gf .Eq a b) L (λYa:Unit=>.bool bo) (λYa=>L):=λR s S=>by
 obtain⟨⟨as,ra⟩,bs,rb⟩:=h R s S;exact SeqAt.compareEq_reads ra rb ha hb (by have:=Nat.min_le_left da.depth db.depth;lia) ⟨(),by rw[he],S⟩
theorem T8{B:Bx}{a b:Value}{da db:PyData}{L:AN}{bo:Bool}(hu:A.units+64<cLine)(ha:da.canLay0=true)(hb:db.canLay0=true)(hd:da.depth<=64)
 (h: ∀R s,St B.C (L++R) s->(∃as,Qd s.heap a da as)/\ ∃bs,Qd s.heap b db bs) (he:(!Mf da db)=bo):AC B.C A (Gf .NotEq a b) L (λYa:Unit=>.bool bo) (λYa=>L):=λR s S=>by
 obtain⟨⟨as,ra⟩,bs,rb⟩:=h R s S;exact SeqAt.compareNe_reads ra rb ha hb (by have:=Nat.min_le_left da.depth db.depth;lia) ⟨(),by rw[he],S⟩
theorem AA.Ow{n:Nat}{A:AL}(h:AA (n+6) A):A.units+64<cLine:=by have:=h.2.2;lia
theorem St.c8{C:Cx}{L:AN}{s:Af}{e:Bi}(S:St C L s)(he:e∈L){p:Addr×AO}(hp:p∈e.flat): ∃g,s.heap.get? p.1=some (p.2.obj g):=by
 obtain⟨H,_,XP⟩:=S.led
 have: ∀L:AN,e∈L->p∈Ao L:=λL he=>by
  induction L with
  |nil=>cases he
  |cons x r ih=>
   rcases List.mem_cons.mp he with rfl|he
   ·exact Ar _ hp
   ·exact Ax _ (ih he)
 obtain⟨o,ho,g,rfl⟩:=XP.at_ p (Ar _ (this L he));exact⟨g,ho⟩
inductive RK:Ak->List PyData->Prop
 |nil:RK [] []
 |str {x t vs ds}:RK vs ds->RK (.str x t::vs) (.str x::ds)
 |int {i t vs ds}:RK vs ds->RK (.int i t::vs) (.int i::ds)
theorem RK.reads{h:Heap}{vs:Ak}{ds:List PyData}(q:RK vs ds): ∃as,ReadsAll h vs ds as:=by
 induction q with
 |nil=>exact⟨_,.nil⟩
 |str _ ih=>obtain⟨as,r⟩:=ih;exact⟨_,.cons (.str _ _) r⟩
 |int _ ih=>obtain⟨as,r⟩:=ih;exact⟨_,.cons (.int _ _) r⟩
theorem St.fD{C:Cx}{L:AN}{s:Af}(S:St C L s){a:Nat}{vs:Ak}{ds:List PyData}(he:AV a vs∈L)(q:RK vs ds): ∃as,Qd s.heap (J a) (.tuple ds) as:=by
 obtain⟨g,hg⟩:=S.c8 he (p:=(a+323,_)) (.head _);obtain⟨as,r⟩:=q.reads (h:=s.heap);exact⟨as,.tuple hg rfl rfl r⟩
end
theorem Fz{AH:List It}(hI:CY AH):(AH.map It.v).length<=1000:=by have:=hI.1;rw[AD];lia
theorem WV(B:Bx):A4 B.P 78=[mN 6 3 0,.If (.Compare (el (vE (mN 6 3 1)) 0) [.NotEq] [el (vE (mN 6 3 1)) 1] (pS 28 11 35)) (nB (mN 6 3 1)) [] ⟨28,8,29,49⟩,.If (vE (mN 6 3 2)) (nB (mN 6 3 2)) [] ⟨30,8,34,59⟩,mN 6 3 3]:=by kernel_rfl
include O
theorem TM(U:AA 5 A)(x dx m u t3 t5 t4 l y t:Nat):
 AS B A (BM (.builtin "proto.getattr_hooked" ⟨[J x,.str D6 t],[]⟩)) [BO x dx,Bc dx m u t3 t5 t4 l y] (.done (.ret (.int (m:Int) u))) [BO x dx,Bc dx m u t3 t5 t4 l y]:=
 rn O U (.g 290272160251905<|.fi () [0,0])
def NC(U:AA 6 A)(x dx m u t3 t5 t4 l y t:Nat):Ag B.C A where
 c:=.builtin "proto.getattr_hooked" ⟨[J x,.str D6 t],[]⟩
 F:=[BO x dx,Bc dx m u t3 t5 t4 l y]
 X:=Unit
 res:=λYa=>.ok (.ret (.int (m:Int) u))
 led:=λYa=>[BO x dx,Bc dx m u t3 t5 t4 l y]
 ok:=F9 ADr (TM O U.in1 x dx m u t3 t5 t4 l y t)
theorem SD(U:AA 5 A)(x dx m u t3 t5 t4 l y t:Nat):
 AS B A (BM (.builtin "proto.getattr_hooked" ⟨[J x,.str Fp t],[]⟩)) [BO x dx,Bc dx m u t3 t5 t4 l y] (.done (.ret (J y))) [BO x dx,Bc dx m u t3 t5 t4 l y]:=
 rn O U (.g 290272160251905<|.fi () [0,0])
def BE(U:AA 6 A)(x dx m u t3 t5 t4 l y t:Nat):Ag B.C A where
 c:=.builtin "proto.getattr_hooked" ⟨[J x,.str Fp t],[]⟩
 F:=[BO x dx,Bc dx m u t3 t5 t4 l y]
 X:=Unit
 res:=λYa=>.ok (.ret (J y))
 led:=λYa=>[BO x dx,Bc dx m u t3 t5 t4 l y]
 ok:=F9 ADr (SD O U.in1 x dx m u t3 t5 t4 l y t)
theorem Uz(U:AA 5 A)(x dx m u t3 t5 t4 l y t:Nat):
 AS B A (BM (.builtin "proto.getattr_hooked" ⟨[J x,.str Jg t],[]⟩)) [BO x dx,Bc dx m u t3 t5 t4 l y] (.done (.ret (J l))) [BO x dx,Bc dx m u t3 t5 t4 l y]:=
 rn O U (.g 290272160251905<|.fi () [0,0])
def Ih(U:AA 6 A)(x dx m u t3 t5 t4 l y t:Nat):Ag B.C A where
 c:=.builtin "proto.getattr_hooked" ⟨[J x,.str Jg t],[]⟩
 F:=[BO x dx,Bc dx m u t3 t5 t4 l y]
 X:=Unit
 res:=λYa=>.ok (.ret (J l))
 led:=λYa=>[BO x dx,Bc dx m u t3 t5 t4 l y]
 ok:=F9 ADr (Uz O U.in1 x dx m u t3 t5 t4 l y t)
theorem PE(U:AA 5 A)(x dx m u t3 t5 t4 l y t:Nat):
 AS B A (BM (.builtin "proto.getattr_hooked" ⟨[J x,.str EB t],[]⟩)) [BO x dx,Bc dx m u t3 t5 t4 l y] (.done (.ret (.str ⟨⟨[32]⟩⟩ t4))) [BO x dx,Bc dx m u t3 t5 t4 l y]:=
 rn O U (.g 290272160251905<|.fi () [0,0])
def Fd(U:AA 6 A)(x dx m u t3 t5 t4 l y t:Nat):Ag B.C A where
 c:=.builtin "proto.getattr_hooked" ⟨[J x,.str EB t],[]⟩
 F:=[BO x dx,Bc dx m u t3 t5 t4 l y]
 X:=Unit
 res:=λYa=>.ok (.ret (.str ⟨⟨[32]⟩⟩ t4))
 led:=λYa=>[BO x dx,Bc dx m u t3 t5 t4 l y]
 ok:=F9 ADr (PE O U.in1 x dx m u t3 t5 t4 l y t)
noncomputable abbrev iu(a:Nat)(f x:Addr):Bi:=.one (a+323) (.ex ⟨.type "method",none,.fields ⟨[.ref f,.ref x]⟩,⟨[]⟩⟩)
def gL(U:AA 3 A)(x dx:Nat)(xs:Ak):Ag B.C A:=
 DN O U "function.__get__" [.ref 144,J x,.ref 200] [AY x dx xs] (λa:Nat=>J a) (λa=>[iu a 144 (x+323),AY x dx xs]) (λU=>.g 64<|.fi () [0]) λU=>.al λa0=>.fi (a0) [0,0]
def bY(U:AA 5 A)(x dx:Nat)(xs:Ak)(n:Value)(t:Nat):Ag B.C A:=
 DN O U "list.__getattribute__" [J x,.str ⟨⟨[112,117,115,104]⟩⟩ t] [AY x dx xs,A3 dx n] (λa:Nat=>J a) (λa=>[iu a 144 (x+323),AY x dx xs,A3 dx n]) (λU=>.g 4097<|.fi () [0,0]) λU=>.g 76093105177075122177<|.cc (gL O U.l x dx xs) [0] λ(y0:Nat)=>.fi (y0) [0,0,0]
theorem iC(U:AA 1 A)(x dx a:Nat)(IN st:Str)(t1 t2:Nat)(xs:Ak)(n:Value):
 AS B A (BM (.call (J a) ⟨[.str IN t1,.str st t2],[]⟩)) [iu a 144 (x+323),AY x dx xs,A3 dx n] (.again (.call (.ref 144) ⟨[J x,.str IN t1,.str st t2],[]⟩)) [iu a 144 (x+323),AY x dx xs,A3 dx n]:=
 rn O U (.g 65<|.fi () [0,0,0])
def b4(U:AA 6 A)(x dx a:Nat)(IN st:Str)(t1 t2:Nat)(xs:Ak)(n:Value)(hx:xs.length<=1000):Ag B.C A where
 c:=.call (J a) ⟨[.str IN t1,.str st t2],[]⟩
 F:=[iu a 144 (x+323),AY x dx xs,A3 dx n]
 X:=Nat
 res:=λa=>.ok (.ret .none)
 led:=λa=>[AY x dx (xs++[J a]),A3 dx n,AV a [.str IN t1,.str st t2]]
 ok:=(AT.Td (iC O (A:=A.under (.call (J a) ⟨[.str IN t1,.str st t2],[]⟩)) (U.l.ca _ _) x dx a IN st t1 t2 xs n) (Nc _ _)
  (λR s S=>Fm (Ss O U.l x dx IN st t1 t2 xs n hx (.one (a+323) (.ex ⟨.type "method",none,.fields ⟨[.ref 144,J x]⟩,⟨[]⟩⟩)::R) s (S.perm ((Ae _ _ _).trans ((Ae _ _ _).cons _)))) (λr s' ⟨q,e,S'⟩=>⟨q,e,by
   refine St.drop (L':=[iu a 144 (x+323)]) (S'.perm ?_)
   exact(((Bm _ _).symm.cons _).cons _).cons _⟩))).call
theorem vx(U:AA 20 A)(L:Nat)(x dx m u t3 t5 t4 l y dy n t:Nat)(xs:Ak)(v:Addr)(hx:xs.length<1000):
 AS B A (Ac ((A4 B.P 78).take 1) (AR B.P 78 [] (L+323))) [AI L [(AM,J x)],BO x dx,Bc dx m u t3 t5 t4 l y,AY y dy (xs++[CC v]),A3 dy (.int (n:Int) t)] .next [AI L [(AM,J x),(B5,.ref v)],BO x dx,Bc dx m u t3 t5 t4 l y,AY y dy xs,A3 dy (.int (n:Int) t)]:=
 D7 O U (.g 65<|.fr λk0=>.g 16777218<|.cc (BE O U.l x dx m u t3 t5 t4 l y k0) [1,1] λYa=>.g 79326085505654248456669102084<|.cc (Vb O U.l y dy xs v (.int (↑n) t) hx) [3,3] λYa=>.fr λk3=>.g 6405<|.fi () [4,2,2,0,0])
theorem vw(U:AA 20 A)(L:Nat)(x dx m u t3 t5 t4 l y dy n t:Nat):
 AC B.C A (Ac ((A4 B.P 78).take 1) (AR B.P 78 [] (L+323))) [AI L [(AM,J x)],BO x dx,Bc dx m u t3 t5 t4 l y,AY y dy [],A3 dy (.int (n:Int) t)]
  (λp:Nat×Nat×Nat=>.next)
  (λp=>[AI L [(AM,J x),(B5,J p.1)],BO x dx,Bc dx m u t3 t5 t4 l y,AY y dy [],A3 dy (.int (n:Int) t),AV p.1 [.str eS p.2.1,.str eS p.2.2]]):=
 D7 O U (.g 65<|.fr λk0=>.g 16777218<|.cc (BE O U.l x dx m u t3 t5 t4 l y k0) [1,1] λYa=>.g 79326085505654248456669102084<|.cc (gj O U.l y dy (.int (↑n) t)) [3,3] λy2=>.fr λk3=>.g 6470<|.fi (y2) [5,3,3,1,1,0])
theorem nx(U:AA 1 A)(L x:Nat)(v:Addr):
 AS B A (Bf (nM B5 28 11 22) (AR B.P 78 [] (L+323))) [AI L [(AM,J x),(B5,.ref v)]] (CC v) [AI L [(AM,J x),(B5,.ref v)]]:=
 H_ O U (.g 65<|.fi () [0])
theorem ny(U:AA 1 A)(L:Nat)(q:BC):
 AC B.C A (Bf (Expr.Tuple [Ox (Const.str z__) 0 (pS 28 27 30),Ox (Const.str ⟨⟨[]⟩⟩) 0 (pS 28 32 34)] 0 (pS 28 26 35)) (AR B.P 78 [] (L+323))) [AI L q]
  (λp:Nat×Nat×Nat=>J p.1)
  (λp=>[AV p.1 [.str ⟨⟨[32]⟩⟩ p.2.1,.str eS p.2.2],AI L q]):=
 H_ O U (.fr λk0=>.fr λk1=>.al λa2=>.fi (a2,k0,k1) [0,0])
theorem nz(U:AA 20 A)(L:Nat)(x dx m u t3 t5 t4 l y dy n t:Nat)(xs:Ak)(v tf tp:Nat)(f p:Str)(hx:xs.length<=1000):
 AC B.C A (Ac (nB (mN 6 3 1)) (AR B.P 78 [] (L+323))) [AI L [(AM,J x),(B5,J v)],BO x dx,Bc dx m u t3 t5 t4 l y,AY y dy xs,A3 dy (.int (n:Int) t),AV v [.str f tf,.str p tp]]
  (λa:Nat=>.next)
  (λa=>[AI L [(AM,J x),(B5,J v)],BO x dx,Bc dx m u t3 t5 t4 l y,AY y dy (xs++[J a]),A3 dy (.int (n:Int) t),AV a [.str f tf,.str p tp]]):=
 D7 O U (.g 65<|.fr λk0=>.g 16777218<|.cc (BE O U.l x dx m u t3 t5 t4 l y k0) [1,1] λYa=>.fr λk2=>.g 4398046511108<|.cc (bY O U.l y dy xs (.int (↑n) t) k2) [3,3] λ(y3:Nat)=>.g 4550<|.cc (Uo O U.l v [.str f tf,.str p tp] (by first|assumption|simp)) [6] λYa=>.g 262337<|.cc (b4 O U.l y dy y3 f p tf tp xs (.int (↑n) t) hx) [2,2,2] λy5=>.fi (y5) [7,5,5,0,0,0])
theorem td(U:AA 26 A)(L:Nat)(x dx m u t3 t5 t4 l y dy n t:Nat)(AH:List It)(v z:Nat)(rows:Ak)(hS:B.Std)(hI:CY AH)(hn:n+1<=1000000)(hz:(n+1)+CN AH=z+1)(hr:rows.length<=900):
 AC B.C A (Ac ((A4 B.P 78).drop 2) (AR B.P 78 [] (L+323))) [AI L [(AM,J x),(B5,J v)],BO x dx,Bc dx m u t3 t5 t4 l y,BS y dy AH,A3 dy (.int ((n+1:Nat):Int) t),Ai AH,AE l rows]
  (λp:Nat×Nat=>.next)
  (λp=>[BO x dx,Bc dx m u t3 t5 t4 l y,AY y dy [],A3 dy (.int ((0:Nat):Int) p.1),AE l (rows++[Co (Bq AH) p.2])]):=by
 obtain⟨_,_|_⟩:=B<;>exact D7 O U (.g 266240<|.fr λk0=>.g 16777218<|.cc (BE O U.l x dx m u t3 t5 t4 l y k0) [1,1] λYa=>.cc (ME O hS U.l y dy (n+1) t (z+1) AH hI hn hz) [3,3,3] λ(y2:Nat×Nat)=>.fr λk3=>.cc (Kz _ _ O U.l (↑(z+1)) 0 y2.snd k3 (by first|assumption|lia|exact Fz hI)) [] λYa=>.g 70<|.fr λk5=>.g 16777220<|.cc (BE O U.l x dx m u t3 t5 t4 l y k5) [3,3] λYa=>.g 79306440461085229257586638851<|.cc (bl O hS U.l y dy n t AH hI) [2,2,2] λYa=>.g 70<|.fr λk8=>.g 16777220<|.cc (Ih O U.l x dx m u t3 t5 t4 l y k8) [3,3] λYa=>.g 4810365235655<|.fr λH9=>.g 16777217<|.cc (BE O U.l x dx m u t3 t5 t4 l y H9) [0,0] λYa=>.cc (N7 O hS U.l y dy (n+1) t AH hI) [2,2,2] λ(OS:Nat)=>.cc (Do O U.l l (.str (Bq AH) OS) rows (by first|assumption|lia|exact Fz hI)) [6] λYa=>.g 71<|.fr λXY=>.g 16777221<|.cc (BE O U.l x dx m u t3 t5 t4 l y XY) [4,4] λYa=>.g 79326085505654248456669102084<|.cc (RS O U.l y dy (B0 It.v AH) (.int (↑(n+1)) t) (by first|assumption|lia|exact Fz hI)) [3,3] λSN=>.fi (SN,OS) [2,2,0,0,0])
theorem vy(U:AA 26 A)(L:Nat)(x dx m u t3 t5 t4 l y dy t:Nat)(AH:List It)(v z:Nat)(rows:Ak)(hS:B.Std)(hI:CY AH)(hz:0+CN AH=z+1)(hr:rows.length<=900)(hw:(decide ((Bq AH).length>0)&&(Bq AH).cps.all Cg)=false):
 AC B.C A (Ac ((A4 B.P 78).drop 2) (AR B.P 78 [] (L+323))) [AI L [(AM,J x),(B5,J v)],BO x dx,Bc dx m u t3 t5 t4 l y,BS y dy AH,A3 dy (.int ((0:Nat):Int) t),Ai AH,AE l rows]
  (λp:Nat×Nat=>.next)
  (λp=>[BO x dx,Bc dx m u t3 t5 t4 l y,AY y dy [],A3 dy (.int ((0:Nat):Int) p.1),AE l (rows++[Co (Bq AH) p.2])]):=by
 obtain⟨_,_|_⟩:=B<;>exact D7 O U (.g 266240<|.fr λk0=>.g 16777218<|.cc (BE O U.l x dx m u t3 t5 t4 l y k0) [1,1] λYa=>.cc (ME O hS U.l y dy 0 t (z+1) AH hI (by first|assumption|lia|exact Fz hI) hz) [3,3,3] λ(y2:Nat×Nat)=>.fr λk3=>.cc (Kz _ _ O U.l (↑(z+1)) 0 y2.snd k3 (by first|assumption|lia|exact Fz hI)) [] λYa=>.g 70<|.fr λk5=>.g 16777220<|.cc (BE O U.l x dx m u t3 t5 t4 l y k5) [3,3] λYa=>.g 79306440461085229257586638851<|.cc (bm O hS U.l y dy t z AH hI hz hw) [2,2,2] λYa=>.g 70<|.fr λk8=>.g 16777220<|.cc (Ih O U.l x dx m u t3 t5 t4 l y k8) [3,3] λYa=>.g 4810365235655<|.fr λH9=>.g 16777217<|.cc (BE O U.l x dx m u t3 t5 t4 l y H9) [0,0] λYa=>.cc (N7 O hS U.l y dy 0 t AH hI) [2,2,2] λ(OS:Nat)=>.cc (Do O U.l l (.str (Bq AH) OS) rows (by first|assumption|lia|exact Fz hI)) [6] λYa=>.g 71<|.fr λXY=>.g 16777221<|.cc (BE O U.l x dx m u t3 t5 t4 l y XY) [4,4] λYa=>.g 79326085505654248456669102084<|.cc (RS O U.l y dy (B0 It.v AH) (.int (↑0) t) (by first|assumption|lia|exact Fz hI)) [3,3] λSN=>.fi (SN,OS) [2,2,0,0,0])
omit O
section
variable{C:Cx}{A:AL}{s:Af}{L:AN}
theorem St.tl{e:Bi}(S:St C (e::L) s):St C L s:=St.drop (L':=[e]) (S.perm (Bm _ _).symm)
theorem St.Zn{AH:List It}{i:It}(S:St C (Ai (AH++[i])::L) s):St C (AV i.a [.str i.f i.tf,.str i.p i.tp]::Ai AH::L) s:=S.BV (by
 show(((AH++[i]).map It.e)++Ao L).Perm (i.e::(AH.map It.e++Ao L))
 rw[AZ,AG];exact BH)
theorem St.ec{AH:List It}{a:Nat}{f p:Str}{tf tp:Nat}(S:St C (AV a [.str f tf,.str p tp]::Ai AH::L) s):St C (Ai (AH++[It.mk a f tf p tp])::L) s:=S.BV (by
 show(It.e ⟨a,f,tf,p,tp⟩::(AH.map It.e++Ao L)).Perm (((AH++[It.mk a f tf p tp]).map It.e)++Ao L)
 rw[AZ,AG];exact List.perm_middle.symm)
end
def It.ok(i:It):Prop:=i.f.cps.all (· <0x110000)=true/\i.p.cps.all (· <0x110000)=true
theorem rq{f p:Str}(h:p.cps.toList≠[]):(!Mf (.tuple [.str f,.str p]) (.tuple [.str ⟨⟨[32]⟩⟩,.str eS]))=true:=by
 simp only[Mf,PyData.eqvAll,Bool.and_true,KU,Mz]
 right
 rw[beq_eq_false_iff_ne];intro e;exact h (by rw[e])
section
variable{B:Bx}
theorem fk(O:B.C.Ok){A:AL}(U:AA 26 A)(L x dx m u t3 t5 t4 l y dy n t:Nat)(xs:Ak)(v:Nat)(f p:Str)(tf tp:Nat)(hx:xs.length<1000)(hp:p.cps.toList≠[])
 (IQ:f.cps.all (· <0x110000)=true/\p.cps.all (· <0x110000)=true) {Y:Type} {led:Y->AN} {rest:Dx} (hr:(A4 B.P 78).drop 2=rest)
 {G:AN} (h3: ∀a:Nat,AC B.C A (Ac rest (AR B.P 78 [] (L+323))) ([AI L [(AM,J x),(B5,J v)],BO x dx,Bc dx m u t3 t5 t4 l y,AY y dy (xs++[J a]),A3 dy (.int (n:Int) t),AV a [.str f tf,.str p tp]]++G) (λYa:Y=>.next) led):
 AC B.C A (Ac (A4 B.P 78) (AR B.P 78 [] (L+323))) ([AI L [(AM,J x)],BO x dx,Bc dx m u t3 t5 t4 l y,AY y dy (xs++[J v]),A3 dy (.int (n:Int) t),AV v [.str f tf,.str p tp]]++G) (λYa:Y=>.next) led:=by
 have e1:=vx O U.l L x dx m u t3 t5 t4 l y dy n t xs (v+323) hx;rw[WV] at e1 hr;rw[WV];subst hr;refine AC.step (led1:=λYa:Unit=>[AI L [(AM,J x),(B5,J v)],BO x dx,Bc dx m u t3 t5 t4 l y,AY y dy xs,A3 dy (.int (n:Int) t),AV v [.str f tf,.str p tp]]++G) (e1.frame (AV v [.str f tf,.str p tp]::G)) λYa=>?_;refine AC.step (X:=Nat) (led1:=λa=>[AI L [(AM,J x),(B5,J v)],BO x dx,Bc dx m u t3 t5 t4 l y,AY y dy (xs++[J a]),A3 dy (.int (n:Int) t),AV a [.str f tf,.str p tp]]++G) (AC.one (AC.MM (b:=true)
  (AC.Fh ((nx O U.l L x (v+323)).frame ([BO x dx,Bc dx m u t3 t5 t4 l y,AY y dy xs,A3 dy (.int (n:Int) t),AV v [.str f tf,.str p tp]]++G))
   (λYa=>(ny O U.l L [(AM,J x),(B5,J v)]).frame ([BO x dx,Bc dx m u t3 t5 t4 l y,AY y dy xs,A3 dy (.int (n:Int) t),AV v [.str f tf,.str p tp]]++G))
   (λYa q=>T8 (da:=.tuple [.str f,.str p]) (db:=.tuple [.str ⟨⟨[32]⟩⟩,.str eS]) (AA.Ow (n:=20) U) ?_ ADr (by simp[Fl,D2]) (λR s S=>?_) (rq hp)) rfl)
  (λq=>((nz O U.l L x dx m u t3 t5 t4 l y dy n t xs v tf tp f p ADp).frame G).pre λR s S=>?_))) λa=>h3 a
 ·simp only[En,DQ,Bool.and_true]
  exact Bool.and_eq_true_iff.mpr IQ
 ·exact⟨S.fD (a:=v) (Ar _ (Ax _ (Ar _ (.tail _ (.tail _ (.tail _ (.tail _ (.head _)))))))) (.str (.str .nil)),S.fD (a:=q.1) (Ar _ (.head _)) (.str (.str .nil))⟩
 ·exact St.tl S
theorem Ki{AH:List It}{a a' tf tf' tp tp':Nat}{f p:Str}:Bq (AH++[It.mk a f tf p tp])=Bq (AH++[It.mk a' f tf' p tp']):=by
 simp only[Bq,AZ,Aw,EC,It.text]
theorem WS{AH:List It}{a a' tf tf' tp tp':Nat}{f p:Str}:CN (AH++[It.mk a f tf p tp])=CN (AH++[It.mk a' f tf' p tp']):=by
 simp only[CN,AZ,Aw,EC,It.len]
theorem CY.same{AH:List It}{a a' tf tf' tp tp':Nat}{f p:Str}(h:CY (AH++[It.mk a f tf p tp])):CY (AH++[It.mk a' f tf' p tp']):=by
 refine⟨by have:=h.1;simpa using this,λi hi=>?_⟩
 rcases List.mem_append.mp hi with hi|hi
 ·exact h.2 i (Ar _ hi)
 ·rw[List.mem_singleton.mp hi]
  exact h.2 (It.mk a f tf p tp) (Ax _ (.head _))
theorem fj(O:B.C.Ok)(hS:B.Std){A:AL}(U:AA 26 A)(L x dx m u t3 t5 t4 l y dy n t:Nat)(AH:List It)(i:It)(rows:Ak)(hI:CY (AH++[i]))(hn:n<=1000)(hp:i.p.cps.toList≠[])
 (IQ:i.ok) (hz:0<CN (AH++[i])) (hr:rows.length<=900) (hw:(Bq (AH++[i])).cps.all Cg=false):
 AC B.C A (Ac (A4 B.P 78) (AR B.P 78 [] (L+323))) [AI L [(AM,J x)],BO x dx,Bc dx m u t3 t5 t4 l y,BS y dy (AH++[i]),A3 dy (.int (n:Int) t),Ai (AH++[i]),AE l rows]
  (λYa:Nat×Nat=>.next) (λp=>[BO x dx,Bc dx m u t3 t5 t4 l y,AY y dy [],A3 dy (.int ((0:Nat):Int) p.1),AE l (rows++[Co (Bq (AH++[i])) p.2])]):=by
 obtain⟨a0,f,tf,p,tp⟩:=i
 refine(fk O U L x dx m u t3 t5 t4 l y dy n t (AH.map It.v) a0 f p tf tp (by have:=hI.1;rw[AX] at this;rw[AD];simp at this;lia) hp IQ (G:=[Ai AH,AE l rows]) rfl λa=>?_).pre λR s S=>?_
 ·have yq:=hI.same (a':=a) (tf':=tf) (tp':=tp)
  have vM:0<CN (AH++[It.mk a f tf p tp]):=by rw[WS (a':=a0) (tf':=tf) (tp':=tp)];exact hz
  have hl: ∀R s,St B.C ([AI L [(AM,J x),(B5,J a0)],BO x dx,Bc dx m u t3 t5 t4 l y,AY y dy (AH.map It.v++[J a]),A3 dy (.int (n:Int) t),AV a [.str f tf,.str p tp]]++[Ai AH,AE l rows]++R) s->
   St B.C ([AI L [(AM,J x),(B5,J a0)],BO x dx,Bc dx m u t3 t5 t4 l y,BS y dy (AH++[It.mk a f tf p tp]),A3 dy (.int (n:Int) t),Ai (AH++[It.mk a f tf p tp]),AE l rows]++R) s:=λR s S=>by
   have S1:=S.picked (ix:=(5::5::BW 6)) rfl;have S2:=S1.ec;have S3:=St.picked (L:=[_,_,_,_,_,_,_]) (ix:=[1,1,1,1,1,0,0]) S2 rfl;rw[show AH.map It.v++[J a]=(AH++[It.mk a f tf p tp]).map It.v from by rw[AZ];rfl] at S3
   exact S3
  cases n with
  |zero=>
   have e:=vy O U L x dx m u t3 t5 t4 l y dy t (AH++[It.mk a f tf p tp]) a0 (CN (AH++[It.mk a f tf p tp])-1) rows hS yq ADp hr (by rw[Ki (a':=a0) (tf':=tf) (tp':=tp),hw,Bool.and_false])
   exact(e.pre hl).post λq R s S=>by rw[Ki (a':=a0) (tf':=tf) (tp':=tp)] at S;exact S
  |succ n=>
   exact((td O U L x dx m u t3 t5 t4 l y dy n t (AH++[It.mk a f tf p tp]) a0 (n+CN (AH++[It.mk a f tf p tp])) rows hS yq ADp ADp hr).pre hl).post λq R s S=>by rw[Ki (a':=a0) (tf':=tf) (tp':=tp)] at S;exact S
 ·have S1:=St.picked (L:=[_,_,_,_,_,_,_]) (ix:=(5::BW 6)) S rfl
  have S2:=S1.Zn;have S3:=St.picked (L:=[_,_,_,_,_,_,_,_]) (ix:=[2,2,2,2,2,0,0,0]) S2 rfl;rw[show BS y dy (AH++[It.mk a0 f tf p tp])=AY y dy (AH.map It.v++[J a0]) from by unfold BS;rw[AZ];rfl] at S3
  exact S3
end
include O
def lL(hS:B.Std)(U:AA 28 A)(x dx m u t3 t5 t4 l y dy n t:Nat)(AH:List It)(i:It)(rows:Ak)(hI:CY (AH++[i]))(hn:n<=1000)(hp:i.p.cps.toList≠[])
 (IQ:i.ok) (hz:0<CN (AH++[i])) (hr:rows.length<=900) (hw:(Bq (AH++[i])).cps.all Cg=false):Ag B.C A where
 c:=.call (.ref 78) ⟨[J x],[]⟩
 F:=[BO x dx,Bc dx m u t3 t5 t4 l y,BS y dy (AH++[i]),A3 dy (.int (n:Int) t),Ai (AH++[i]),AE l rows]
 X:=Nat×Nat
 res:=λYa=>.ok (.ret .none)
 led:=λp=>[BO x dx,Bc dx m u t3 t5 t4 l y,AY y dy [],A3 dy (.int ((0:Nat):Int) p.1),AE l (rows++[Co (Bq (AH++[i])) p.2])]
 ok:=EU O U [(AM,J x)]
  (λa=>BK (fj O hS (AA.deeper U.l) a x dx m u t3 t5 t4 l y dy n t AH i rows hI hn hp IQ hz hr hw))
omit O
theorem nv:(!Mf (.tuple [.str eS,.str eS]) (.tuple [.str ⟨⟨[32]⟩⟩,.str eS]))=true:=by decide+kernel
section
variable{B:Bx}
theorem fh(O:B.C.Ok)(hS:B.Std){A:AL}(U:AA 26 A)(L x dx m u t3 t5 t4 l y dy n t:Nat)(rows:Ak)(hn:n+1<=1000)(hr:rows.length<=900):
 AC B.C A (Ac (A4 B.P 78) (AR B.P 78 [] (L+323))) [AI L [(AM,J x)],BO x dx,Bc dx m u t3 t5 t4 l y,AY y dy [],A3 dy (.int ((n+1:Nat):Int) t),AE l rows]
  (λYa:Nat×Nat=>.next) (λp=>[BO x dx,Bc dx m u t3 t5 t4 l y,AY y dy [],A3 dy (.int ((0:Nat):Int) p.1),AE l (rows++[Co eS p.2])]):=by
 have e1:=vw O U.l L x dx m u t3 t5 t4 l y dy (n+1) t;have e2a:=λv=>nx O U.l L x (v+323);have e2b:=λv=>ny O U.l L [(AM,J x),(B5,J v)];have e2c:=λv tf tp=>nz O U.l L x dx m u t3 t5 t4 l y dy (n+1) t [] v tf tp eS eS ADt
 have e3:=λa tf tp v=>td O U L x dx m u t3 t5 t4 l y dy n t [It.mk a eS tf eS tp] v n rows hS ⟨by simp,λi hi=>by rw[List.mem_singleton.mp hi];exact⟨By _,By _⟩⟩ ADp rfl hr
 rw[WV] at e1 e3;rw[WV];refine AC.step (led1:=λq:Nat×Nat×Nat=>[AI L [(AM,J x),(B5,J q.1)],BO x dx,Bc dx m u t3 t5 t4 l y,AY y dy [],A3 dy (.int ((n+1:Nat):Int) t),AV q.1 [.str eS q.2.1,.str eS q.2.2],AE l rows]) (e1.frame [AE l rows]) λv=>?_;refine AC.step (X:=Nat) (led1:=λa=>[AI L [(AM,J x),(B5,J v.1)],BO x dx,Bc dx m u t3 t5 t4 l y,AY y dy ([]++[J a]),A3 dy (.int ((n+1:Nat):Int) t),AV a [.str eS v.2.1,.str eS v.2.2],AE l rows]) (AC.one (AC.MM (b:=true)
  (AC.Fh ((e2a v.1).frame [BO x dx,Bc dx m u t3 t5 t4 l y,AY y dy [],A3 dy (.int ((n+1:Nat):Int) t),AV v.1 [.str eS v.2.1,.str eS v.2.2],AE l rows])
   (λYa=>(e2b v.1).frame [BO x dx,Bc dx m u t3 t5 t4 l y,AY y dy [],A3 dy (.int ((n+1:Nat):Int) t),AV v.1 [.str eS v.2.1,.str eS v.2.2],AE l rows])
   (λYa q=>T8 (da:=.tuple [.str eS,.str eS]) (db:=.tuple [.str ⟨⟨[32]⟩⟩,.str eS]) (AA.Ow (n:=20) U) ADr ADr ADr (λR s S=>?_) nv) rfl)
  (λq=>((e2c v.1 v.2.1 v.2.2).frame [AE l rows]).pre λR s S=>?_))) λa=>((e3 a v.2.1 v.2.2 v.1).pre λR s S=>?_)
 ·exact⟨S.fD (a:=v.1) (Ar _ (Ax _ (.tail _ (.tail _ (.tail _ (.tail _ (.head _))))))) (.str (.str .nil)),S.fD (a:=q.1) (Ar _ (.head _)) (.str (.str .nil))⟩
 ·exact St.tl S
 ·exact S.BV (EH _)
end
include O
def lK(hS:B.Std)(U:AA 28 A)(x dx m u t3 t5 t4 l y dy n t:Nat)(rows:Ak)(hn:n+1<=1000)(hr:rows.length<=900):Ag B.C A where
 c:=.call (.ref 78) ⟨[J x],[]⟩
 F:=[BO x dx,Bc dx m u t3 t5 t4 l y,AY y dy [],A3 dy (.int ((n+1:Nat):Int) t),AE l rows]
 X:=Nat×Nat
 res:=λYa=>.ok (.ret .none)
 led:=λp=>[BO x dx,Bc dx m u t3 t5 t4 l y,AY y dy [],A3 dy (.int ((0:Nat):Int) p.1),AE l (rows++[Co eS p.2])]
 ok:=EU O U [(AM,J x)]
  (λa=>BK (fh O hS (AA.deeper U.l) a x dx m u t3 t5 t4 l y dy n t rows hn hr))
def BG(C:Cx)(A:AL){α:Type}(t:Sem α)(L:AN){X:Type}(exc:X->Value)(led:X->AN):Prop:=
 ∀R s,St C (L++R) s->BN C.M A t (λYa Ya=>False) (λe s'=> ∃x,e=exc x/\St C (led x++R) s') s
omit O
theorem BG.wp{C:Cx}{A:AL}{α:Type}{t:Sem α}{L R:AN}{X:Type}{exc:X->Value}{led:X->AN}{Q:α->Af->Prop}{E:Value->Af->Prop}{s:Af}(h:BG C A t L exc led)(S:St C (L++R) s)(g: ∀x s',St C (led x++R) s'->E (exc x) s'):BN C.M A t Q E s:=Av (h R s S) (λYa Ya q=>q.elim) λYa s' ⟨x,e,S'⟩=>e▸g x s' S'
theorem Z9{C:Cx}(O:C.Ok){A:AL}{Ir:DP}(U:A.handled=Ir){α:Type}{t:Sem α}{L:AN}{X:Type}{exc:X->Value}{led:X->AN}(sc:D5 C A X)(h:VK C A Ir exc led t sc L):BG C A t L exc led:=λR s S=>
 Av (P0 O U (Q:=NQ) (E:=QQ exc led) t sc L R s ((show eE _ from h▸λYa=>j9 exc led sc L)) S) (λa s' ⟨_,hf,_⟩=>hf) λe s' ⟨_,⟨x,ha,hF⟩,S'⟩=>⟨x,ha,hF▸S'⟩
theorem d0{C:Cx}(O:C.Ok){A:AL}{n:Nat}(U:AA n A){α:Type}{t:Sem α}{L:AN}{X:Type}{exc:X->Value}{led:X->AN}(sc:D5 C A X)(h:autoParam (VK C A none exc led t sc L) kq):BG C A t L exc led:=Z9 O U.1 sc h
theorem AAN{C:Cx}(O:C.Ok){A:AL}{α:Type}{t:Sem α}{L:AN}{X:Type}{exc:X->Value}{led:X->AN}(sc:D5 C A X)(h:autoParam (VK C A A.handled exc led t sc L) kq):BG C A t L exc led:=Z9 O rfl sc h
theorem eo{C:Cx}(O:C.Ok){A:AL}{n:Nat}(U:AA n A){x y}{L:AN}{X:Type}{exc:X->_}{led:X->AN}(sc:D5 C A X)(h:autoParam (VK C A none exc led (isTrue x y (PF x y)) sc L) kq):BG C A (isTrue x y (Bf x y)) L exc led:=by rw[JR];exact d0 O U sc h
theorem eu{C:Cx}(O:C.Ok){A:AL}{n:Nat}(U:AA n A){x y}{L:AN}{X:Type}{exc:X->_}{led:X->AN}(sc:D5 C A X)(h:autoParam (VK C A none exc led (P2 x y) sc L) kq):BG C A (Ac x y) L exc led:=by rw[MG];exact d0 O U sc h
theorem xU{C:Cx}(O:C.Ok){A:AL}{x y}{L:AN}{X:Type}{exc:X->_}{led:X->AN}(sc:D5 C A X)(h:autoParam (VK C A A.handled exc led (isTrue x y (PF x y)) sc L) kq):BG C A (isTrue x y (Bf x y)) L exc led:=by rw[JR];exact AAN O sc h
section
variable{C:Cx}{A:AL}{F:AN}{X:Type}
theorem KC{id:String}{args:LO}{exc:X->Value}{led:X->AN}(hp:H4 id=true)
 (hc:AC C A.in1 (AU id args) F (λYa:Unit=>()) (λYa=>F))
 (h:BG C A.in1 (BM (.builtin id args)) F exc led):Bv C A (.call (.builtin id) args) F (λx=>.error (exc x)) led:=
 Bu λR s S=>Ew (DH hp args) (by
  refine AC.wp hc S λYa s₁ S₁=>?_;refine BL ?_;rw[BX hp args,E4 C];exact Av (h R s₁ S₁) (λYa s₂ q=>q.elim) λe s₂ ⟨x,ex,S₂⟩=>⟨x,by rw[ex],S₂⟩)
theorem AT.ends{c:Code}{X:Type}{fl:X->OV}{led:X->AN}(h:AC C (A.under c) (BM c) F (λx=>Az (fl x)) led):AT C A c F (λx=>.ok (fl x)) led:=λR s S=>by
 refine BL ?_;rw[E4 C];exact AC.wp h S λx s₁ S₁=>⟨x,rfl,S₁⟩
theorem AT.pre{c:Code}{F':AN}{res:X->Result}{led:X->AN}(h:AT C A c F res led)(p: ∀R s,St C (F'++R) s->St C (F++R) s):AT C A c F' res led:=λR s S=>h R s (p R s S)
theorem AT.weaken{c:Code}{res:X->Result}{led:X->AN}(h:AT C A c F res led){Y:Type}{D0:Y->Result}{Cy:Y->AN}(f: ∀x,∃y,res x=D0 y/\ ∀R s,St C (led x++R) s->St C (Cy y++R) s):AT C A c F D0 Cy:=λR s S=>
 Fm (h R s S) λr s' ⟨x,e,S'⟩=>let⟨y,e',g⟩:=f x;⟨y,e.trans e',g R s' S'⟩
theorem AT.frame{c:Code}{res:X->Result}{led:X->AN}(h:AT C A c F res led)(G:AN):AT C A c (F++G) res (λx=>led x++G):=λR s S=>by
 have:=h (G++R) s (by rw[<-AG];exact S)
 exact Fm this λr s' ⟨x,e,S'⟩=>⟨x,e,by rw[AG];exact S'⟩
end
theorem AA.loop{n:Nat}{A:AL}{c:Code}(h:AA (n+1) A)(hw:autoParam (c.weight<=1) kw)(hu:autoParam (c.cUnits<=12) kw):AA n (A.under c):=h.under hw hu
theorem TN:C1 FZ "list_iterator.__next__"=some Builtin.«list_iterator.__next__»:=B2 ADq
noncomputable abbrev BQ(a x:Nat)(i:Nat):Bi:=.one (a+323) (.ex ⟨.type "list_iterator",none,.fields ⟨[.ref (x+323),.int (i:Int) 0]⟩,⟨[]⟩⟩)
noncomputable abbrev Ng(a:Nat)(u v w:Value):Bi:=.one (a+323) (.ex ⟨.type "range",none,.fields ⟨[u,v,w]⟩,⟨[]⟩⟩)
noncomputable abbrev Fj(a:Nat)(x left step:Int):Bi:=.one (a+323) (.ex ⟨.type "range_iterator",none,.fields ⟨[.int x 0,.int left 0,.int step 0]⟩,⟨[]⟩⟩)
noncomputable abbrev NJ(T:String)(t:Nat):AO:=.ex ⟨.type T,none,.fields ⟨[.ref (t+323),.none,.none,.none,.bool false,.none]⟩,⟨[]⟩⟩
include O
theorem sQ(U:AA 1 A):
 BG B.C A ((Builtin.SmallTypes.stopIteration:Sem PySem.Fin)) []
  (λp:Nat×Nat=>CC (p.1+323))
  (λp=>[.one (p.1+323) (NJ "StopIteration" p.2)]):=
 d0 O U (.al λa0=>.al λa1=>.fi (a1,a0) [0])
omit O
section
variable{C:Cx}{A:AL}
theorem IH{F:AN}{X:Type}{id:String}{b:KV}{args:LO}{exc:X->Value}{led:X->AN}(hp:H4 id=true)(hb:C1 FZ id=some b)
 (hc:AC C A.in1 (AU id args) F (λYa:Unit=>()) (λYa=>F))
 (h:BG C A.in1 (b args) F exc led):Bv C A (.call (.builtin id) args) F (λx=>.error (exc x)) led:=
 Bu λR s S=>EJ hp hb (Av (hc R s S) (λYa s₁ ⟨_,_,S₁⟩=>Av (h R s₁ S₁) (λYa s₂ q=>q.elim) λe s₂ ⟨x,ex,S₂⟩=>⟨x,by rw[ex],S₂⟩) λYa Ya q=>q.elim)
theorem St.UI{s:Af}{L:AN}{a:Addr}{c:Value}{d:Option Addr}{vs ws:Ak}(S:St C (.one a (.ex ⟨c,d,.fields ⟨vs⟩,⟨[]⟩⟩)::L) s){f:Bs->Bs}(hf:f ⟨vs⟩=⟨ws⟩):
 St C (.one a (.ex ⟨c,d,.fields ⟨ws⟩,⟨[]⟩⟩)::L) {s with heap:=s.heap.update a (Oz f)}:=
 St.Np (t:=s.toks) S (B1 ..) (CO _ (DV S) rfl) ⟨G0,by show(⟨c,d,.fields (f ⟨vs⟩),⟨[]⟩⟩:Obj)=_;rw[hf];rfl⟩
theorem YJ{a x:Nat}{i:Nat}{c:Value}{d:Option Addr}{xs:Ak}{v:Value}(hx:xs[i]? =some v):
 AC C A (Builtin.«list_iterator.__next__» ⟨[.ref (a+323)],[]⟩) [BQ a x i,.one (x+323) (.ls c d xs)] (λYa:Unit=>.done (.ret v)) (λYa=>[BQ a x (i+1),.one (x+323) (.ls c d xs)]):=by
 intro R s S;have ho:=DV S;obtain⟨g,hl⟩:=S.swap.Dj;show BN _ _ (O0 (.ref (a+323)) 0>>=_) _ _ s;refine AB (B9 ho rfl (x:=.ref (x+323)) rfl ?_);refine iN (show¬((CC (x+323)==CU)=true) from BP) ?_;show BN _ _ (O0 (.ref (a+323)) 1>>=_) _ _ s;refine AB (B9 ho rfl (x:=.int i 0) rfl ?_);show BN _ _ (LZ (.ref (x+323))>>=_) _ _ s;refine AB (DG hl rfl ?_);have Q0:(⟨xs⟩:Bs)[i]? =some v:=by simpa using hx
 simp only[Dt,Q0];refine AB (FU ho rfl ADt (AP ⟨(),rfl,?_⟩))
 exact S.UI rfl
theorem Wf{B:Bx}(O:B.C.Ok)(U:AA 1 A){a x:Nat}{i:Nat}{c:Value}{d:Option Addr}{xs:Ak}(hx:xs.length<=i):
 BG B.C A (Builtin.«list_iterator.__next__» ⟨[.ref (a+323)],[]⟩) [BQ a x i,.one (x+323) (.ls c d xs)] (λp:Nat×Nat=>.ref (p.1+323))
  (λp=>[.one (p.1+323) (NJ "StopIteration" p.2),.one (x+323) (.ls c d xs)]):=by
 intro R s S;have ho:=DV S;obtain⟨g,hl⟩:=S.swap.Dj;show BN _ _ (O0 (.ref (a+323)) 0>>=_) _ _ s;refine AB (B9 ho rfl (x:=.ref (x+323)) rfl ?_);refine iN (show¬((CC (x+323)==CU)=true) from BP) ?_;show BN _ _ (O0 (.ref (a+323)) 1>>=_) _ _ s;refine AB (B9 ho rfl (x:=.int i 0) rfl ?_);show BN _ _ (LZ (.ref (x+323))>>=_) _ _ s;refine AB (DG hl rfl ?_);have Q0:(⟨xs⟩:Bs)[i]? =none:=by simpa using hx
 simp only[Dt,Q0];refine AB (Eo (AB (FU ho rfl ADt ?_)))
 have S2:=St.tl (S.UI (ws:=[.none,.int (i:Int) 0]) (f:=λvs=>vs.setIfInBounds 0 CU) rfl);refine Av (sQ O (A:=A) U _ _ S2) (λYa Ya q=>q) λe s' ⟨p,e',S'⟩=>⟨p,e',S'⟩
theorem D9{F:AN}{X:Type}{T:String}{name:Str}{id:String}{Bn:KV}{self:Value}{rest:Ak}{Sp:PySem.Spec}{res:X->Result}{led:X->AN}(slot:Slot T name id)
 (entry:C1 FZ id=some Bn) (args:argsOk id ⟨self::rest,[]⟩) (g:Meets (Bn ⟨self::rest,[]⟩) Sp)
 (h: ∀R s,St C (F++R) s->s.TypeIs self T/\Sp A (λr s'=> ∃x,r=res x/\St C (led x++R) s') s):Bv C A (.call (.builtin id) ⟨self::rest,[]⟩) F res led:=
 Bu λR s S=>EJ slot.plain entry (slot.check _ _ _ _ _ _ _ _ (h R s S).1 args (g C.prog C.w A _ s (h R s S).2))
end
include O
theorem Sn(U:AA 1 A)(a x i:Nat)(xs:Ak):
 AS B A (AU "list_iterator.__next__" ⟨[.ref (a+323)],[]⟩) [BQ a x i,AE x xs] () [BQ a x i,AE x xs]:=
 by apply Hc O U (.g 65<|.fi () [0,0])
def Fe(U:AA 3 A)(a x i:Nat)(xs:Ak)(v:Value)(hx:xs[i]? =some v):Ag B.C A where
 c:=.call (.builtin "list_iterator.__next__") ⟨[.ref (a+323)],[]⟩
 F:=[BQ a x i,AE x xs]
 X:=Unit
 res:=λYa=>.ok (.ret v)
 led:=λYa=>[BQ a x (i+1),AE x xs]
 ok:=BF ADr TN (Sn O U.l.in1 a x i xs) (YJ hx)
def RQ(U:AA 3 A)(a x i:Nat)(xs:Ak)(hx:xs.length<=i):Ag B.C A where
 c:=.call (.builtin "list_iterator.__next__") ⟨[.ref (a+323)],[]⟩
 F:=[BQ a x i,AE x xs]
 X:=Nat×Nat
 res:=λp=>.error (.ref (p.1+323))
 led:=λp=>[.one (p.1+323) (NJ "StopIteration" p.2),AE x xs]
 ok:=IH ADr TN (Sn O U.l.in1 a x i xs) (Wf O U.l.in1 hx)
def Bt(U:AA 3 A)(x:Nat)(xs:Ak):Ag B.C A:=
 DN O U "list.__iter__" [.ref (x+323)] [AE x xs] (λa:Nat=>.ref (a+323)) (λa=>[BQ a x 0,AE x xs]) (λU=>.g 65<|.fi () [0]) λU=>.al λa0=>.fi (a0) [0,0]
def NF(U:AA 3 A)(a x i:Nat):Ag B.C A:=
 DN O U "list_iterator.__iter__" [.ref (a+323)] [BQ a x i] (λYa:Unit=>.ref (a+323)) (λYa=>[BQ a x i]) (λU=>.g 65<|.fi () [0]) λU=>.fi () [0]
def Y2(U:AA 3 A)(a:Nat)(v left step:Int):Ag B.C A:=
 DN O U "range_iterator.__iter__" [.ref (a+323)] [Fj a v left step] (λYa:Unit=>.ref (a+323)) (λYa=>[Fj a v left step]) (λU=>.g 65<|.fi () [0]) λU=>.fi () [0]
theorem ce(U:AA 2 A):
 AS B A (BM (.builtin "proto.let_go" ⟨[],[]⟩)) [] (.done (.ret (.none))) []:=
 rn O U (.fi () [])
noncomputable def Dp(U:AA 3 A):Ag B.C A where
 c:=.builtin "proto.let_go" ⟨[],[]⟩
 F:=[]
 X:=Unit
 res:=λYa=>.ok (.ret (.none))
 led:=λYa=>[]
 ok:=F9 ADr (ce O U.in1)
def RV(U:AA 3 A)(a:Nat)(v:Int)(left:Nat)(step:Int):Ag B.C A:=
 DN O U "range_iterator.__next__" [.ref (a+323)] [Fj a v ((left+1:Nat):Int) step] (λk:Nat=>.int v k) (λk=>[Fj a (v+step) (((left+1:Nat):Int)-1) step]) (λU=>.g 65<|.fi () [0]) λU=>.g 6598680645697<|.fr λk0=>.fi (k0) [0]
def Y3(U:AA 3 A)(a v left:Nat):Ag B.C A:=
 (RV O U a ((v+1:Nat):Int) left (-1)).re (λk:Nat=>.ok (.ret (.int ((v+1:Nat):Int) k))) (λYa=>[Fj a (v:Int) (left:Int) (-1)]) (λk=>k) (λk=>rfl) (λk=>by
  show [Fj a (((v+1:Nat):Int)+(-1)) (((left+1:Nat):Int)-1) (-1)]=_;rw[show((v+1:Nat):Int)+(-1)=(v:Int) by lia,show((left+1:Nat):Int)-1=(left:Int) by lia])
def Y4(U:AA 3 A)(a v left:Nat):Ag B.C A:=
 (RV O U a (v:Int) left 1).re (λk:Nat=>.ok (.ret (.int (v:Int) k))) (λYa=>[Fj a ((v+1:Nat):Int) (left:Int) 1]) (λk=>k) (λk=>rfl) (λk=>by
  show [Fj a ((v:Int)+1) (((left+1:Nat):Int)-1) 1]=_;rw[show((left+1:Nat):Int)-1=(left:Int) by lia];rfl)
theorem YT(U:AA 2 A)(a:Nat)(v:Int)(step:Int):
 AS B A (AU "range_iterator.__next__" ⟨[.ref (a+323)],[]⟩) [Fj a v ((0:Nat):Int) step] () [Fj a v ((0:Nat):Int) step]:=
 by apply Hc O U (.g 65<|.fi () [0])
theorem ZF(U:AA 2 A)(a:Nat)(v:Int)(step:Int):
 BG B.C A (BM (.builtin "range_iterator.__next__" ⟨[.ref (a+323)],[]⟩)) [Fj a v ((0:Nat):Int) step]
  (λp:Nat×Nat=>CC (p.1+323))
  (λp=>[.one (p.1+323) (NJ "StopIteration" p.2)]):=
 d0 O U (.g 266305<|.al λa0=>.al λa1=>.fi (a1,a0) [0])
def RU(U:AA 3 A)(a:Nat)(v:Int)(step:Int):Ag B.C A where
 c:=.call (.builtin "range_iterator.__next__") ⟨[.ref (a+323)],[]⟩
 F:=[Fj a v ((0:Nat):Int) step]
 X:=Nat×Nat
 res:=λp=>.error (CC (p.1+323))
 led:=λp=>[.one (p.1+323) (NJ "StopIteration" p.2)]
 ok:=KC ADr (YT O U.in1 a v step) (ZF O U.in1 a v step)
def Y0(U:AA 3 A)(n:Nat)(t:Nat):Ag B.C A:=
 DN O U "range.__new__" [.type "range",.int (n:Int) t] [] (λp:Nat×Nat×Nat=>.ref (p.1+323)) (λp=>[Ng p.1 (.int 0 p.2.1) (.int (n:Int) t) (.int 1 p.2.2)]) (λU=>.fi () []) λU=>.fr λk0=>.fr λk1=>.al λa2=>.fi (a2,k0,k1) [0]
def Y1(U:AA 3 A)(n:Nat)(t u v:Nat):Ag B.C A:=
 DN O U "range.__new__" [.type "range",.int (n:Int) t,.int 0 u,.int (-1) v] [] (λa:Nat=>.ref (a+323)) (λa=>[Ng a (.int (n:Int) t) (.int 0 u) (.int (-1) v)]) (λU=>.fi () []) λU=>.al λa0=>.fi (a0) [0]
omit O
theorem Rr(n:Nat)(h:n<=1000):Dw (n:Int) 0 (-1)=true/\CS (n:Int) 0 (-1)=(n:Int):=by
 have e:CS (n:Int) 0 (-1)=(n:Int):=by
  unfold CS;rw[if_neg ADs]
  split
  ·rw[show(-(-1):Int)=1 from rfl,Int.ediv_one];lia
  ·lia
 refine⟨?_,e⟩;unfold Dw;rw[e];simp only[F7,FS,Bool.or_eq_true,decide_eq_true_eq,if_neg (show¬((-1:Int)>0) by decide)]
 have h63:((2:Int)^63)=9223372036854775808:=by decide
 rw[h63]
 lia
theorem WG(n:Nat)(h:n<=1000):Dw 0 (n:Int) 1=true/\CS 0 (n:Int) 1=(n:Int):=by
 have e:CS 0 (n:Int) 1=(n:Int):=by rw[rangeSize_one];split<;>lia
 exact⟨small_one ADs ADs ADp ADp,e⟩
theorem Nd{B:Bx}{A:AL}(O:B.C.Ok)(a:Nat)(lo hi st k:Int)(t u v:Nat)(hs:Dw lo hi st=true)(hk:CS lo hi st=k):
 Bv B.C A (.call (.builtin "range.__iter__") ⟨[.ref (a+323)],[]⟩) [Ng a (.int lo t) (.int hi u) (.int st v)] (λb:Nat=>.ok (.ret (.ref (b+323)))) (λb=>[Fj b lo k st,Ng a (.int lo t) (.int hi u) (.int st v)]):=
 D9 PySem.F.slot_range_iter PySem.F.entry_range_iter (PySem.F.args_range_iter_1 _) (AutoRange.range___iter___range_1 (a+323) lo hi st t u v (by unfold Dw at hs;simp[hs])) λR s S=>by
  have ho:=DV S;refine⟨⟨_,ho,rfl⟩,ho,s.heap.objs.size-323,?_,?_⟩
  ·rw[<-S.size_eq O]
  ·unfold Dw at hs
   simp only[hs,if_true];show St B.C (.one (s.heap.objs.size-323+323) _::_) _;rw[<-S.size_eq O,hk];exact S.alloc rfl ⟨G0,rfl⟩
include O
def RT(U:AA 3 A)(a n t u v:Nat)(hn:n<=1000):Ag B.C A where
 c:=.call (.builtin "range.__iter__") ⟨[.ref (a+323)],[]⟩
 F:=[Ng a (.int (n:Int) t) (.int 0 u) (.int (-1) v)]
 X:=Nat
 res:=λb=>.ok (.ret (.ref (b+323)))
 led:=λb=>[Fj b (n:Int) (n:Int) (-1),Ng a (.int (n:Int) t) (.int 0 u) (.int (-1) v)]
 ok:=Nd O a _ _ _ _ t u v (Rr n hn).1 (Rr n hn).2
def NH(U:AA 3 A)(a n t u v:Nat)(hn:n<=1000):Ag B.C A where
 c:=.call (.builtin "range.__iter__") ⟨[.ref (a+323)],[]⟩
 F:=[Ng a (.int 0 t) (.int (n:Int) u) (.int 1 v)]
 X:=Nat
 res:=λb=>.ok (.ret (.ref (b+323)))
 led:=λb=>[Fj b ((0:Nat):Int) (n:Int) 1,Ng a (.int 0 t) (.int (n:Int) u) (.int 1 v)]
 ok:=Nd O a _ _ _ _ t u v (WG n hn).1 (WG n hn).2
def W6(U:AA 3 A)(a n t:Nat)(x y z:Value):Ag B.C A:=
 DN O U "object.__init__" [.ref (a+323),.int (n:Int) t] [Ng a x y z] (λYa:Unit=>.none) (λYa=>[Ng a x y z]) (λU=>.g 65<|.fi () [0]) λU=>.g 65<|.fi () [0]
def W7(U:AA 3 A)(a n t u v:Nat)(x y z:Value):Ag B.C A:=
 DN O U "object.__init__" [.ref (a+323),.int (n:Int) t,.int 0 u,.int (-1) v] [Ng a x y z] (λYa:Unit=>.none) (λYa=>[Ng a x y z]) (λU=>.g 65<|.fi () [0]) λU=>.g 65<|.fi () [0]
theorem c_(U:AA 1 A)(n t:Nat):
 AS B A (BM (.call (.type "range") ⟨[.int (n:Int) t],[]⟩)) [] (.again (.builtin "type.__call__" ⟨[.type "range",.int (n:Int) t],[]⟩)) []:=
 rn O U (.fi () [])
theorem d8(U:AA 5 A)(n t:Nat):
 AC B.C A (BM (.builtin "type.__call__" ⟨[.type "range",.int (n:Int) t],[]⟩)) []
  (λp:Nat×Nat×Nat=>.done (.ret (.ref (p.1+323))))
  (λp=>[Ng p.1 (.int 0 p.2.1) (.int (n:Int) t) (.int 1 p.2.2)]):=
 rn O U (.cc (Y0 O U.l n t) [] λ(y0:Nat×Nat×Nat)=>.g 4161<|.cc (W6 O U.l y0.fst n t (.int 0 y0.snd.fst) (.int (↑n) t) (.int 1 y0.snd.snd)) [0] λYa=>.fi (y0) [0])
theorem dA(U:AA 1 A)(n t u v:Nat):
 AS B A (BM (.call (.type "range") ⟨[.int (n:Int) t,.int 0 u,.int (-1) v],[]⟩)) [] (.again (.builtin "type.__call__" ⟨[.type "range",.int (n:Int) t,.int 0 u,.int (-1) v],[]⟩)) []:=
 rn O U (.fi () [])
theorem d9(U:AA 5 A)(n t u v:Nat):
 AC B.C A (BM (.builtin "type.__call__" ⟨[.type "range",.int (n:Int) t,.int 0 u,.int (-1) v],[]⟩)) []
  (λa:Nat=>.done (.ret (.ref (a+323))))
  (λa=>[Ng a (.int (n:Int) t) (.int 0 u) (.int (-1) v)]):=
 rn O U (.cc (Y1 O U.l n t u v) [] λy0=>.g 4161<|.cc (W7 O U.l y0 n t u v (.int (↑n) t) (.int 0 u) (.int (-1) v)) [0] λYa=>.fi (y0) [0])
def KE(U:AA 6 A)(n t:Nat):Ag B.C A where
 c:=.call (.type "range") ⟨[.int (n:Int) t],[]⟩
 F:=[]
 X:=Nat×Nat×Nat
 res:=λp=>.ok (.ret (.ref (p.1+323)))
 led:=λp=>[Ng p.1 (.int 0 p.2.1) (.int (n:Int) t) (.int 1 p.2.2)]
 ok:=Dn (c_ O (A:=A.under (.call (.type "range") ⟨[.int (n:Int) t],[]⟩)) (U.l.ca _ _) n t) (F0 _) (d8 O (A:=A.under (.builtin "type.__call__" ⟨[.type "range",.int (n:Int) t],[]⟩)) (U.ty _) n t)
def RR(U:AA 6 A)(n t u v:Nat):Ag B.C A where
 c:=.call (.type "range") ⟨[.int (n:Int) t,.int 0 u,.int (-1) v],[]⟩
 F:=[]
 X:=Nat
 res:=λp=>.ok (.ret (.ref (p+323)))
 led:=λp=>[Ng p (.int (n:Int) t) (.int 0 u) (.int (-1) v)]
 ok:=Dn (dA O (A:=A.under (.call (.type "range") ⟨[.int (n:Int) t,.int 0 u,.int (-1) v],[]⟩)) (U.l.ca _ _) n t u v) (F0 _) (d9 O (A:=A.under (.builtin "type.__call__" ⟨[.type "range",.int (n:Int) t,.int 0 u,.int (-1) v],[]⟩)) (U.ty _) n t u v)
noncomputable abbrev Xw(a x:Nat)(i:Int):Bi:=.one (a+323) (.ex ⟨.type "tuple_iterator",none,.fields ⟨[.ref (x+323),.int i 0]⟩,⟨[]⟩⟩)
def Ff(U:AA 3 A)(x:Nat)(xs:Ak):Ag B.C A:=
 DN O U "tuple.__iter__" [.ref (x+323)] [AV x xs] (λa:Nat=>.ref (a+323)) (λa=>[Xw a x 0,AV x xs]) (λU=>.g 65<|.fi () [0]) λU=>.al λa0=>.fi (a0) [0,0]
def E1(U:AA 3 A)(a x:Nat)(v w:Value):Ag B.C A:=
 DN O U "tuple_iterator.__next__" [.ref (a+323)] [Xw a x 0,AV x [v,w]] (λYa:Unit=>v) (λYa=>[Xw a x 1,AV x [v,w]]) (λU=>.g 65<|.fi () [0,0]) λU=>.g 1610883137<|.fi () [0,0]
def E2(U:AA 3 A)(a x:Nat)(v w:Value):Ag B.C A:=
 DN O U "tuple_iterator.__next__" [.ref (a+323)] [Xw a x 1,AV x [v,w]] (λYa:Unit=>w) (λYa=>[Xw a x 2,AV x [v,w]]) (λU=>.g 65<|.fi () [0,0]) λU=>.g 1610883137<|.fi () [0,0]
theorem YW(U:AA 2 A)(a x:Nat)(v w:Value):
 AS B A (AU "tuple_iterator.__next__" ⟨[.ref (a+323)],[]⟩) [Xw a x 2,AV x [v,w]] () [Xw a x 2,AV x [v,w]]:=
 by apply Hc O U (.g 65<|.fi () [0,0])
theorem ZH(U:AA 2 A)(a x:Nat)(v w:Value):
 BG B.C A (BM (.builtin "tuple_iterator.__next__" ⟨[.ref (a+323)],[]⟩)) [Xw a x 2,AV x [v,w]]
  (λp:Nat×Nat=>CC (p.1+323))
  (λp=>[.one (p.1+323) (NJ "StopIteration" p.2),AV x [v,w]]):=
 d0 O U (.g 1610883137<|.al λa0=>.al λa1=>.fi (a1,a0) [0,2])
def E3(U:AA 3 A)(a x:Nat)(v w:Value):Ag B.C A where
 c:=.call (.builtin "tuple_iterator.__next__") ⟨[.ref (a+323)],[]⟩
 F:=[Xw a x 2,AV x [v,w]]
 X:=Nat×Nat
 res:=λp=>.error (CC (p.1+323))
 led:=λp=>[.one (p.1+323) (NJ "StopIteration" p.2),AV x [v,w]]
 ok:=KC ADr (YW O U.in1 a x v w) (ZH O U.in1 a x v w)
def PC(U:AA 3 A)(x t:Nat)(v w:Value):Ag B.C A:=
 DN O U "tuple.__getitem__" [.ref (x+323),.int 0 t] [AV x [v,w]] (λYa:Unit=>v) (λYa=>[AV x [v,w]]) (λU=>.g 65<|.fi () [0]) λU=>.g 65<|.fi () [0]
def PD(U:AA 3 A)(x t:Nat)(v w:Value):Ag B.C A:=
 DN O U "tuple.__getitem__" [.ref (x+323),.int 1 t] [AV x [v,w]] (λYa:Unit=>w) (λYa=>[AV x [v,w]]) (λU=>.g 65<|.fi () [0]) λU=>.g 65<|.fi () [0]
theorem Of(U:AA 1 A)(x:Nat)(v:Value)(xs:Ak):
 AS B A (AU "list.__getitem__" ⟨[.ref (x+323),v],[]⟩) [AE x xs] () [AE x xs]:=
 by apply Hc O U (.g 65<|.fi () [0])
omit O
theorem nZ{xs:Ak}{i:Nat}{v:Value}(hx:xs[i]? =some v)(hs:xs.length<=1000):(i:Int)<2^63:=by
 have:=(List.getElem?_eq_some_iff.mp hx).1
 exact PX (show(i:Int)<1001 by lia) ADs
include O
def Uu(U:AA 3 A)(x dx i t:Nat)(xs:Ak)(v:Value)(hx:xs[i]? =some v)(hs:xs.length<=1000):Ag B.C A where
 c:=.call (.builtin "list.__getitem__") ⟨[.ref (x+323),.int (i:Int) t],[]⟩
 F:=[AY x dx xs]
 X:=Unit
 res:=λYa=>.ok (.ret v)
 led:=λYa=>[AY x dx xs]
 ok:=BF ADr Dq (Um O U.l.in1 x dx _ xs)
  (@Kk B.C A.in1 (x+323) (.ref 200) (some (dx+323)) xs (i:Int) t v (HH i) (nZ hx hs) (by rw[Dt];exact hx))
def BZ(U:AA 3 A)(x i t:Nat)(xs:Ak)(v:Value)(hx:xs[i]? =some v)(hs:xs.length<=1000):Ag B.C A where
 c:=.call (.builtin "list.__getitem__") ⟨[.ref (x+323),.int (i:Int) t],[]⟩
 F:=[AE x xs]
 X:=Unit
 res:=λYa=>.ok (.ret v)
 led:=λYa=>[AE x xs]
 ok:=BF ADr Dq (Of O U.l.in1 x _ xs)
  (@Kk B.C A.in1 (x+323) (.type "list") none xs (i:Int) t v (HH i) (nZ hx hs) (by rw[Dt];exact hx))
omit O
section
variable{C:Cx}{A:AL}
theorem M_{T:String}{name:Str}{id:String}{Bn:KV}{self:Value}{rest:Ak}{y:Str}(slot:Slot T name id)
 (entry:C1 FZ id=some Bn) (args:argsOk id ⟨self::rest,[]⟩) (g:Gives (Bn ⟨self::rest,[]⟩) (.str y)) (hT: ∀s:Af,s.TypeIs self T) (hy:y.length<=sizeLine):
 Bv C A (.call (.builtin id) ⟨self::rest,[]⟩) [] (λk:Nat=>.ok (.ret (.str y k))) (λYa=>[]):=
 D9 slot entry args g.meets λR s S=>⟨hT s,hy,s.toks,rfl,S.toks _ (Eb _)⟩
theorem Hg{T:String}{name:Str}{id:String}{Bn:KV}{self:Value}{rest:Ak}{i:Int}(slot:Slot T name id)
 (entry:C1 FZ id=some Bn) (args:argsOk id ⟨self::rest,[]⟩) (g:Gives (Bn ⟨self::rest,[]⟩) (.int i)) (hT: ∀s:Af,s.TypeIs self T):
 Bv C A (.call (.builtin id) ⟨self::rest,[]⟩) [] (λk:Nat=>.ok (.ret (.int i k))) (λYa=>[]):=
 D9 slot entry args g.meets λR s S=>⟨hT s,s.toks,rfl,S.toks _ (Eb _)⟩
end
theorem sM(c:Nat):(⟨⟨[c]⟩⟩:Str).length<=sizeLine:=by show 1<=sizeLine;rw[Br];lia
noncomputable def TG{B:Bx}{A:AL}(O:B.C.Ok)(U:AA 3 A)(x:Str)(t u c:Nat)(i:Int)(h0:0<=i)(h1:i<1000)(hi:x.cps.toList[i.toNat]? =some c):Ag B.C A where
 c:=.call (.builtin "str.__getitem__") ⟨[.str x t,.int i u],[]⟩
 F:=[]
 X:=Nat
 res:=λk=>.ok (.ret (.str ⟨⟨[c]⟩⟩ k))
 led:=λYa=>[]
 ok:=M_ Ku J_ (J2 _ _)
  (gives_str_getitem x i t u c (by simp only[Iz,decide_eq_false_iff_not,show((2:Int)^63)=9223372036854775808 by decide];lia) (by
   obtain⟨hl,hv⟩:=List.getElem?_eq_some_iff.mp hi;have Zj:i.toNat<x.length:=hl;have e:F4 i x.length=some i.toNat:=by
    have hn: ¬i<0:=by lia
    have hp:(decide (0<=i)&&decide (i<(x.length:Int)))=true:=by rw[FS,decide_eq_true_eq,decide_eq_true_eq];lia
    simp only[F4,if_neg hn,if_pos hp]
   rw[e];show x.cps[i.toNat]? =some c;rw[<-My];exact hi)) (λs=>rfl) (sM c)
include O
def cE(U:AA 3 A)(fr:Ay)(t u:Nat):Ag B.C A:=
 (TG O U ⟨⟨32::fr⟩⟩ t u 32 0 ADp ADp rfl).re (λk:Nat=>.ok (.ret (.str ⟨⟨[32]⟩⟩ k))) (λYa=>[]) (λk=>k) (λYa=>rfl) (λYa=>rfl)
noncomputable def TC(U:AA 6 A)(i:Str)(t:Nat)(hi:i.length<=1000000):Ag B.C A where
 c:=.builtin "len" ⟨[.str i t],[]⟩
 F:=[]
 X:=Nat×Nat
 res:=λp=>.ok (.ret (.int (i.length:Int) p.2))
 led:=λp=>[]
 ok:=L8 ADr K0 (IG ADp (ZE O (A:=A.in1) U.l.in1 i t))
def TB(U:AA 6 A)(c:Nat)(fr:Ay)(t:Nat)(hi:fr.length<=900000):Ag B.C A:=
 (TC O U ⟨⟨c::fr⟩⟩ t (by show fr.length+1<=1000000;lia)).re (λp:Nat×Nat=>.ok (.ret (.int ((fr.length+1:Nat):Int) p.2))) (λYa=>[]) (λp=>p) (λYa=>rfl) (λYa=>rfl)
omit O
theorem WU(B:Bx):A4 B.P 113=[mN 6 8 0,.If (vE (mN 6 8 1)) (nB (mN 6 8 1)) [] ⟨76,8,99,47⟩]:=by kernel_rfl
noncomputable abbrev Mv(a t:Nat)(i:Int):Bi:=.one (a+323) (.ex ⟨.type "str_ascii_iterator",none,.fields ⟨[.str ⟨⟨[32]⟩⟩ t,.int i 0]⟩,⟨[]⟩⟩)
include O
def PB(U:AA 3 A)(t:Nat):Ag B.C A:=
 DN O U "str.__iter__" [.str ⟨⟨[32]⟩⟩ t] [] (λa:Nat=>J a) (λa=>[Mv a t 0]) (λU=>.fi () []) λU=>.al λa0=>.fi (a0) [0]
def RW(U:AA 3 A)(t a:Nat):Ag B.C A:=
 DN O U "str_ascii_iterator.__next__" [J a] [Mv a t 0] (λk:Nat=>.str ⟨⟨[32]⟩⟩ k) (λk=>[Mv a t 1]) (λU=>.g 65<|.fi () [0]) λU=>.g 25169985<|.fr λk0=>.fi (k0) [0]
theorem YU(U:AA 2 A)(t a:Nat):
 AS B A (AU "str_ascii_iterator.__next__" ⟨[J a],[]⟩) [Mv a t 1] () [Mv a t 1]:=
 by apply Hc O U (.g 65<|.fi () [0])
theorem ZG(U:AA 2 A)(t a:Nat):
 BG B.C A (BM (.builtin "str_ascii_iterator.__next__" ⟨[J a],[]⟩)) [Mv a t 1]
  (λp:Nat×Nat=>J p.1)
  (λp=>[.one (p.1+323) (NJ "StopIteration" p.2)]):=
 d0 O U (.g 25169985<|.al λa0=>.al λa1=>.fi (a1,a0) [0])
def Y7(U:AA 3 A)(t a:Nat):Ag B.C A where
 c:=.call (.builtin "str_ascii_iterator.__next__") ⟨[J a],[]⟩
 F:=[Mv a t 1]
 X:=Nat×Nat
 res:=λp=>.error (J p.1)
 led:=λp=>[.one (p.1+323) (NJ "StopIteration" p.2)]
 ok:=KC ADr (YU O U.in1 t a) (ZG O U.in1 t a)
def gm(U:AA 3 A)(x y:Nat):Ag B.C A:=
 DN O U "str.__eq__" [.str ⟨⟨[32]⟩⟩ x,.str ⟨⟨[32]⟩⟩ y] [] (λYa:Unit=>.bool true) (λYa=>[]) (λU=>.fi () []) λU=>.fi () []
def cF(U:AA 3 A)(x:Nat):Ag B.C A:=
 DN O U "str.isspace" [.str ⟨⟨[32]⟩⟩ x] [] (λYa:Unit=>.bool true) (λYa=>[]) (λU=>.fi () []) λU=>.fi () []
def HB(U:AA 3 A)(x:Nat):Ag B.C A:=
 DN O U "int.__neg__" [.int 1 x] [] (λk:Nat=>.int (-1) k) (λk=>[]) (λU=>.fi () []) λU=>.fr λk0=>.fi (k0) []
def R4:Dx:=nB (hS (nB (mN 6 8 1)) 0)
def HQ:Dx:=nO (hS (nB (mN 6 8 1)) 0)
def Mk:Expr:=nM KR 77 16 18
def fP:Dx:=nB (hS (nB (hS (nB (mN 6 8 1)) 0)) 0)
def Oc:Dx:=[Stmt.Continue (pS 87 20 28)]
def VL:Expr:=nM VI 78 20 21
theorem x9(U:AA 30 A)(L:Nat)(x dx m u t3 t5 t4 l y dy n t:Nat)(AH:List It)(fr:Ay)(p:Str)(tf tp:Nat)(hS:B.Std)(hI:CY AH)(hn:n<=1000):
 AC B.C A (Ac ((A4 B.P 113).take 1) (AR B.P 113 [] (L+323))) [AI L [(AM,J x),(Bp,.str ⟨⟨32::fr⟩⟩ tf),(A0,.str p tp)],BO x dx,Bc dx m u t3 t5 t4 l y,BS y dy AH,A3 dy (.int (n:Int) t)]
  (λa:Nat=>.next)
  (λa=>[AI L [(AM,J x),(Bp,.str ⟨⟨32::fr⟩⟩ tf),(A0,.str p tp)],BO x dx,Bc dx m u t3 t5 t4 l y,AY y dy (AH.map It.v++[J a]),A3 dy (.int (n:Int) t),AV a [.str ⟨⟨32::fr⟩⟩ tf,.str p tp]]):=
 D7 O U (.g 65<|.fr λk0=>.g 16777218<|.cc (BE O U.l x dx m u t3 t5 t4 l y k0) [1,1] λYa=>.g 324760049889078765847624474951684<|.cc (Qr O U.l y dy {cps:={toList:=32::fr}} p tf tp (B0 It.v AH) (.int (↑n) t) (by first|assumption|exact Fz hI)) [3,3] λy2=>.fi (y2) [5,3,3,0,0,0])
theorem t8(U:AA 30 A)(L:Nat)(x dx m u t3 t5 t4 l y dy n t z:Nat)(AH:List It)(q:BC)(hS:B.Std)(hI:CY AH)(hn:n<=1000000)(hz:n+CN AH=z)(hm: ¬(z:Int)>(m:Int)):
 AS B A (Ac ((A4 B.P 113).drop 1) (AR B.P 113 [] (L+323))) [AI L ((AM,J x)::q),BO x dx,Bc dx m u t3 t5 t4 l y,BS y dy AH,A3 dy (.int (n:Int) t),Ai AH] .next [BO x dx,Bc dx m u t3 t5 t4 l y,BS y dy AH,A3 dy (.int (n:Int) t),Ai AH]:=by
 obtain⟨_,_|_⟩:=B<;>exact D7 O U (.g 266240<|.fr λk0=>.g 16777218<|.cc (BE O U.l x dx m u t3 t5 t4 l y k0) [1,1] λYa=>.cc (ME O hS U.l y dy n t z AH hI hn hz) [3,3,3] λ(y2:Nat×Nat)=>.g 70<|.fr λk3=>.g 16777220<|.cc (NC O U.l x dx m u t3 t5 t4 l y k3) [3,3] λYa=>.cc (Qp _ _ O U.l ↑z ↑m y2.snd u hm) [] λYa=>.fi () (BW 5))
theorem zg(U:AA 30 A)(L:Nat)(x dx m u t3 t5 t4 l y dy b tc:Nat)(xs:Ak)(a tf tp tg th:Nat)(fr:Ay)(p:Str)(k:Nat)(hk:(xs++[J a])[k+1]? =some (J a))(hs:(xs++[J a]).length<=1000)(hf:fr.length<=900000):
 AC B.C A (BM (.forLoop VL (J b) fP Oc (AR B.P 113 [] (L+323)))) [AI L [(AM,J x),(Bp,.str ⟨⟨32::fr⟩⟩ tf),(A0,.str p tp),(KR,.str ⟨⟨[32]⟩⟩ tc)],BO x dx,Bc dx m u t3 t5 t4 l y,AY y dy (xs++[J a]),AV a [.str ⟨⟨32::fr⟩⟩ tg,.str p th],Fj b ((k+1:Nat):Int) ((k+1:Nat):Int) (-1)]
  (λj:Nat=>Az Dg)
  (λj=>[AI L [(AM,J x),(Bp,.str ⟨⟨32::fr⟩⟩ tg),(A0,.str p tp),(KR,.str ⟨⟨[32]⟩⟩ tc),(VI,.int ((k+1:Nat):Int) j)],BO x dx,Bc dx m u t3 t5 t4 l y,AY y dy (xs++[J a]),AV a [.str ⟨⟨32::fr⟩⟩ tg,.str p th]]):=by
 obtain⟨_,_|_⟩:=B<;>exact rn O U (.g 70<|.cc (Y3 O U.l b k k) [5] λy0=>.fr λk1=>.g 272450<|.cc (cF O U.l tc) [] λYa=>.g 66<|.fr λk3=>.g 16777219<|.cc (BE O U.l x dx m u t3 t5 t4 l y k3) [2,2] λYa=>.g 73786998290439471428<|.cc (Uu O U.l y dy (k+1) y0 (xs++[J a]) (J a) hk hs) [4] λYa=>.cc (Dp O U.l) [] λYa=>.fr λk7=>.g 287110<|.cc (PC O U.l a k7 (.str {cps:={toList:=32::fr}} tg) (.str p th)) [5] λYa=>.cc (Dp O U.l) [] λYa=>.fr λH9=>.g 289094<|.cc (TB O U.l 32 fr tg hf) [] λYa=>.g 70<|.fr λiW=>.cc (cE O U.l fr tg iW) [] λUN=>.g 70<|.cc (gm O U.l UN tc) [] λYa=>.fi (y0) [5,2,2,1,0])
def Ym(U:AA 31 A)(L x dx m u t3 t5 t4 l y dy b tc:Nat)(xs:Ak)(a tf tp tg th:Nat)(fr:Ay)(p:Str)(n:Nat)(hn:xs.length=n)(h0:0<n)(hs:xs.length<1000)(hf:fr.length<=900000):Ag B.C A where
 c:=.forLoop VL (J b) fP Oc (AR B.P 113 [] (L+323))
 F:=[Fj b (n:Int) (n:Int) (-1),AI L [(AM,J x),(Bp,.str ⟨⟨32::fr⟩⟩ tf),(A0,.str p tp),(KR,.str ⟨⟨[32]⟩⟩ tc)],BO x dx,Bc dx m u t3 t5 t4 l y,AY y dy (xs++[J a]),AV a [.str ⟨⟨32::fr⟩⟩ tg,.str p th]]
 X:=Nat
 res:=λYa=>.ok .next
 led:=λj=>[AI L [(AM,J x),(Bp,.str ⟨⟨32::fr⟩⟩ tg),(A0,.str p tp),(KR,.str ⟨⟨[32]⟩⟩ tc),(VI,.int (n:Int) j)],BO x dx,Bc dx m u t3 t5 t4 l y,AY y dy (xs++[J a]),AV a [.str ⟨⟨32::fr⟩⟩ tg,.str p th]]
 ok:=by
  obtain⟨k,rfl⟩: ∃k,n=k+1:=⟨n-1,by lia⟩
  exact((AT.ends (zg O (A:=A.under (.forLoop VL (J b) fP Oc (AR B.P 113 [] (L+323)))) U.loop L x dx m u t3 t5 t4 l y dy b tc xs a tf tp tg th fr p k (by rw[<-hn];simp) (by rw[AX];simp;lia) hf)).pre λR s S=>S.picked (L:=[_,_,_,_,_,_]) (ix:=[1,1,1,1,1,0]) rfl).call
theorem xI(U:AA 34 A)(n:Value)(L:Nat)(x dx m u t3 t5 t4 l y dy b:Nat)(xs:Ak)(a tf tp tg th:Nat)(fr:Ay)(p:Str)(h0:0<xs.length)(hs:xs.length<1000)(P6:xs.length<=1000)(hf:fr.length<=900000):
 AC B.C A (BM (.forLoop Mk (J b) R4 HQ (AR B.P 113 [] (L+323)))) [AI L [(AM,J x),(Bp,.str ⟨⟨32::fr⟩⟩ tf),(A0,.str p tp)],BO x dx,Bc dx m u t3 t5 t4 l y,AY y dy (xs++[J a]),A3 dy n,AV a [.str ⟨⟨32::fr⟩⟩ tg,.str p th],Mv b t4 0]
  (λj:Nat×Nat=>Az Dg)
  (λj=>[AI L [(AM,J x),(Bp,.str ⟨⟨32::fr⟩⟩ tg),(A0,.str p tp),(KR,.str ⟨⟨[32]⟩⟩ j.1),(VI,.int (xs.length:Int) j.2)],BO x dx,Bc dx m u t3 t5 t4 l y,AY y dy (xs++[J a]),A3 dy n,AV a [.str ⟨⟨32::fr⟩⟩ tg,.str p th]]):=by
 obtain⟨_,_|_⟩:=B<;>exact rn O U (.g 71<|.cc (RW O U.l t4 b) [6] λ(y0:Nat)=>.fr λk1=>.g 1107298370<|.fr λk2=>.g 16777219<|.cc (BE O U.l x dx m u t3 t5 t4 l y k2) [2,2] λYa=>.g 79345730550223267655751565317<|.cc (Mm O U.l y dy xs (a+323)) [4] λ(y4:Nat)=>.fr λk5=>.cc (bi _ _ O U.l xs.length y4 k5) [] λ(y6:Nat)=>.fr λk7=>.fr λk8=>.cc (HB O U.l k8) [] λ(y9:Nat)=>.cc (RR O U.l xs.length y6 k7 y9) [] λ(RG:Nat)=>.g 4161<|.cc (RT O U.l RG xs.length y6 k7 y9 P6) [0] λ(Nq:Nat)=>.g 65<|.cc (Ym O U.l L x dx m u t3 t5 t4 l y dy Nq y0 xs a tf tp tg th fr p xs.length (by first|assumption|rfl|lia) h0 hs hf) [0,5,2,2,1,3] λOS=>.fi (y0,OS) [0,0,0,0,3,0])
def Wu(U:AA 35 A)(n:Value)(L x dx m u t3 t5 t4 l y dy b:Nat)(xs:Ak)(a tf tp tg th:Nat)(fr:Ay)(p:Str)(h0:0<xs.length)(hs:xs.length<1000)(hf:fr.length<=900000):Ag B.C A where
 c:=.forLoop Mk (J b) R4 HQ (AR B.P 113 [] (L+323))
 F:=[Mv b t4 0,AI L [(AM,J x),(Bp,.str ⟨⟨32::fr⟩⟩ tf),(A0,.str p tp)],BO x dx,Bc dx m u t3 t5 t4 l y,AY y dy (xs++[J a]),A3 dy n,AV a [.str ⟨⟨32::fr⟩⟩ tg,.str p th]]
 X:=Nat×Nat
 res:=λYa=>.ok .next
 led:=λj=>[AI L [(AM,J x),(Bp,.str ⟨⟨32::fr⟩⟩ tg),(A0,.str p tp),(KR,.str ⟨⟨[32]⟩⟩ j.1),(VI,.int (xs.length:Int) j.2)],BO x dx,Bc dx m u t3 t5 t4 l y,AY y dy (xs++[J a]),A3 dy n,AV a [.str ⟨⟨32::fr⟩⟩ tg,.str p th]]
 ok:=((AT.ends (xI O (A:=A.under (.forLoop Mk (J b) R4 HQ (AR B.P 113 [] (L+323)))) U.loop n L x dx m u t3 t5 t4 l y dy b xs a tf tp tg th fr p h0 hs ADp hf)).pre λR s S=>S.picked (L:=[_,_,_,_,_,_,_]) (ix:=[1,1,1,1,1,1,0]) rfl).call
def Uv(U:AA 5 A)(x dx:Nat)(t:Nat)(xs:Ak)(v n:Value)(hx:xs.length<1000):Ag B.C A:=
 (W3 O U x dx xs.length t (xs++[v]) n ADt (by simp;lia)).re (λa:Nat=>.ok (.ret (J a))) (λa=>[AY x dx xs,A3 dx n,AE a [v]]) (λa=>a) (λYa=>rfl) (λa=>by
  show [AY x dx ((xs++[v]).take xs.length),A3 dx n,AE a ((xs++[v]).drop xs.length)]=_;rw[H1,Jx])
theorem x_(U:AA 30 A)(L:Nat)(x dx m u t3 t5 t4 l y dy n t z:Nat)(AH:List It)(q:BC)(hS:B.Std)(hI:CY AH)(hn:n<=1000000)(hz:n+CN AH=z)(hm:(z:Int)>(m:Int)):
 AS B A (isTrue (vE (mN 6 8 1)) (AR B.P 113 [] (L+323)) (Bf (vE (mN 6 8 1)) (AR B.P 113 [] (L+323)))) [AI L ((AM,J x)::q),BO x dx,Bc dx m u t3 t5 t4 l y,BS y dy AH,A3 dy (.int (n:Int) t),Ai AH] true [AI L ((AM,J x)::q),BO x dx,Bc dx m u t3 t5 t4 l y,BS y dy AH,A3 dy (.int (n:Int) t),Ai AH]:=by
 obtain⟨_,_|_⟩:=B<;>exact Q7 O U (.g 266240<|.fr λk0=>.g 16777218<|.cc (BE O U.l x dx m u t3 t5 t4 l y k0) [1,1] λYa=>.cc (ME O hS U.l y dy n t z AH hI hn hz) [3,3,3] λ(y2:Nat×Nat)=>.g 70<|.fr λk3=>.g 16777220<|.cc (NC O U.l x dx m u t3 t5 t4 l y k3) [3,3] λYa=>.cc (Kz _ _ O U.l ↑z ↑m y2.snd u hm) [] λYa=>.fi () (5::BW 5))
theorem t9(U:AA 40 A)(n L:Nat)(x dx m u t t3 t5 t4 l y dy:Nat)(AH:List It)(a tf tp tg th:Nat)(fr:Ay)(p:Str)(rows:Ak)(hS:B.Std)(hI:CY AH)(h0:0<(AH.map It.v).length)(hs:(AH.map It.v).length<1000)(hf:fr.length<=900000)(hr:rows.length<=1000):
 AC B.C A (Ac (nB (mN 6 8 1)) (AR B.P 113 [] (L+323))) [AI L [(AM,J x),(Bp,.str ⟨⟨32::fr⟩⟩ tf),(A0,.str p tp)],BO x dx,Bc dx m u t3 t5 t4 l y,AY y dy (AH.map It.v++[J a]),A3 dy (.int (n:Int) t),AV a [.str ⟨⟨32::fr⟩⟩ tg,.str p th],Ai AH,AE l rows]
  (λq:Nat×Nat=>.next)
  (λq=>[BO x dx,Bc dx m u t3 t5 t4 l y,AY y dy [J a],A3 dy (.int ((0:Nat):Int) q.1),AV a [.str ⟨⟨32::fr⟩⟩ tg,.str p th],AE l (rows++[Co (Bq AH) q.2])]):=by
 obtain⟨_,_|_⟩:=B<;>exact D7 O U (.g 65<|.fr λk0=>.g 16777218<|.cc (Fd O U.l x dx m u t3 t5 t4 l y k0) [1,1] λYa=>.cc (PB O U.l t4) [] λ(y2:Nat)=>.g 65<|.cc (Wu O U.l (.int (↑n) t) L x dx m u t3 t5 t4 l y dy y2 (B0 It.v AH) a tf tp tg th fr p h0 hs hf) (0::2::BW 5) λ(y3:Nat×Nat)=>.g 65<|.fr λk4=>.g 16777218<|.cc (BE O U.l x dx m u t3 t5 t4 l y k4) [1,1] λYa=>.g 5074414144022163657674635345924<|.cc (Uv O U.l y dy y3.snd (B0 It.v AH) (J a) (.int (↑n) t) hs) [3,3] λ(y6:Nat)=>.fr λk7=>.g 289094<|.fr λk8=>.g 16777220<|.cc (Ih O U.l x dx m u t3 t5 t4 l y k8) [3,3] λYa=>.g 4810365768265<|.fr λH9=>.g 16777217<|.cc (BE O U.l x dx m u t3 t5 t4 l y H9) [0,0] λYa=>.cc (N7 O hS U.l y dy n t AH hI) [2,2,5] λ(OS:Nat)=>.cc (Do O U.l l (.str (Bq AH) OS) rows hr) [8] λYa=>.g 72<|.fr λXY=>.g 16777221<|.cc (BE O U.l x dx m u t3 t5 t4 l y XY) [4,4] λYa=>.g 5080603844218590559049130967044<|.cc (cC O U.l y dy y6 (B0 It.v AH) [J a] (.int (↑n) t) (by first|assumption|exact Fz hI|simp) (by first|assumption|exact Fz hI|simp)) [3,3,4] λSN=>.fi (SN,OS) [3,3,0,0,4,1])
def bk(U:AA 3 A)(n m t u:Nat)(h:n=m+1):Ag B.C A:=
 (Qq O U (n:Int) 1 t u).re (λk:Nat=>.ok (.ret (.int (m:Int) k))) (λYa=>[]) (λk=>k) (λk=>by show(Cs (B6 (.int ((n:Int)-1) k)):Result)=_;rw[show(n:Int)-1=(m:Int) by lia]) (λYa=>rfl)
def Va(U:AA 18 A)(x dx:Nat)(v:Addr)(n:Value):Ag B.C A:=
 (Vb O U x dx [] v n ADt).re (λYa:Unit=>.ok (.ret (.ref v))) (λYa=>[AY x dx [],A3 dx n]) (λYa=>()) (λYa=>rfl) (λYa=>rfl)
theorem zf(U:AA 30 A)(L:Nat)(b:Nat)(q:BC):
 AS B A (BM (.forLoop VL (J b) fP Oc (AR B.P 113 [] (L+323)))) [AI L q,Fj b ((0:Nat):Int) ((0:Nat):Int) (-1)] (.again (.block Oc (AR B.P 113 [] (L+323)))) [AI L q]:=
 rn O U (.g 66<|.cc (RU O U.l b ↑0 (-1)) [1] λYa=>.g 65<|.fi () [1])
theorem vP(U:AA 1 A)(L:Nat):
 AS B A (BM (.block Oc (AR B.P 113 [] (L+323)))) [] (Az Flow.cont) []:=
 rn O U (.fi () [])
def Yl(U:AA 31 A)(L b z:Nat)(q:BC)(hz:z=0):Ag B.C A where
 c:=.forLoop VL (J b) fP Oc (AR B.P 113 [] (L+323))
 F:=[Fj b (z:Int) (z:Int) (-1),AI L q]
 X:=Unit
 res:=λYa=>.ok .cont
 led:=λYa=>[AI L q]
 ok:=by subst hz;exact((AT.NN (Y:=Unit) (c':=λYa=>.block Oc (AR B.P 113 [] (L+323))) (ledY:=λYa=>[AI L q]) (zf O (A:=A.under (.forLoop VL (J b) fP Oc (AR B.P 113 [] (L+323)))) U.loop L b q) (λYa=>rfl)
  (λYa=>(AT.ends (vP O (A:=A.under (.block Oc (AR B.P 113 [] (L+323)))) U.l.loop L)).frame [AI L q])).pre λR s S=>S.picked (L:=[_,_]) (ix:=[1,0]) rfl).call
theorem r5(U:AA 34 A)(n:Value)(L:Nat)(x dx m u t3 t5 t4 l y dy b a tf tp:Nat)(fr:Ay)(p:Str)(z:Nat)(h1:[J a].length=z+1)(hz:z=0)(vM:z<=1000):
 AC B.C A (BM (.forLoop Mk (J b) R4 HQ (AR B.P 113 [] (L+323)))) [AI L [(AM,J x),(Bp,.str ⟨⟨32::fr⟩⟩ tf),(A0,.str p tp)],BO x dx,Bc dx m u t3 t5 t4 l y,AY y dy [J a],A3 dy n,Mv b t4 0]
  (λj:Nat=>.again (.forLoop Mk (J b) R4 HQ (AR B.P 113 [] (L+323))))
  (λj=>[AI L [(AM,J x),(Bp,.str ⟨⟨32::fr⟩⟩ tf),(A0,.str p tp),(KR,.str ⟨⟨[32]⟩⟩ j)],BO x dx,Bc dx m u t3 t5 t4 l y,AY y dy [J a],A3 dy n,Mv b t4 1]):=by
 obtain⟨_,_|_⟩:=B<;>exact rn O U (.g 70<|.cc (RW O U.l t4 b) [5] λy0=>.fr λk1=>.g 1107298370<|.fr λk2=>.g 16777219<|.cc (BE O U.l x dx m u t3 t5 t4 l y k2) [2,2] λYa=>.g 79345730550223267655751565317<|.cc (Jc O U.l y dy [J a]) [4] λy4=>.fr λk5=>.cc (bk O U.l [J a].length z y4 k5 h1) [] λy6=>.fr λk7=>.fr λk8=>.cc (HB O U.l k8) [] λy9=>.cc (RR O U.l z y6 k7 y9) [] λRG=>.g 4161<|.cc (RT O U.l RG z y6 k7 y9 vM) [0] λNq=>.g 65<|.cc (Yl O U.l L Nq z [(⟨⟨[115,101,108,102]⟩⟩,J x),(⟨⟨[102,119,115]⟩⟩,.str {cps:={toList:=32::fr}} tf),(⟨⟨[115,116,114,105,110,103]⟩⟩,.str p tp),(⟨⟨[99,104]⟩⟩,.str ⟨⟨[32]⟩⟩ y0)] hz) [0,5] λYa=>.fi (y0) [0,2,2,1,2,1])
theorem r6(U:AA 34 A)(n:Value)(L:Nat)(x dx m u t3 t5 t4 l y dy b:Nat)(q:BC):
 AS B A (BM (.forLoop Mk (J b) R4 HQ (AR B.P 113 [] (L+323)))) [AI L q,Mv b t4 1] (.again (.block HQ (AR B.P 113 [] (L+323)))) [AI L q]:=
 rn O U (.g 66<|.cc (Y7 O U.l t4 b) [1] λYa=>.g 65<|.fi () [1])
theorem oG(U:AA 34 A)(L:Nat)(x dx m u t t3 t5 t4 l y dy v:Nat)(tf tp tc tg th:Nat)(fr:Ay)(p:Str)(hf:fr.length<=900000):
 AC B.C A (BM (.block HQ (AR B.P 113 [] (L+323)))) [AI L [(AM,J x),(Bp,.str ⟨⟨32::fr⟩⟩ tf),(A0,.str p tp),(KR,.str ⟨⟨[32]⟩⟩ tc)],BO x dx,Bc dx m u t3 t5 t4 l y,AY y dy [J v],A3 dy (.int ((0:Nat):Int) t),AV v [.str ⟨⟨32::fr⟩⟩ tg,.str p th]]
  (λj:Nat=>Az (B6 .none))
  (λj=>[BO x dx,Bc dx m u t3 t5 t4 l y,AY y dy [J j],A3 dy (.int ((0:Nat):Int) t),AV j [.str ⟨⟨32::fr⟩⟩ tg,.str p th]]):=by
 obtain⟨_,_|_⟩:=B<;>exact rn O U (.g 65<|.fr λk0=>.g 16777218<|.cc (BE O U.l x dx m u t3 t5 t4 l y k0) [1,1] λYa=>.g 79326085505654248456669102084<|.cc (Va O U.l y dy (v+323) (.int (↑0) t)) [3,3] λYa=>.g 287110<|.cc (Ff O U.l v [.str {cps:={toList:=32::fr}} tg,.str p th]) [5] λ(y3:Nat)=>.g 4161<|.cc (E1 O U.l y3 v (.str {cps:={toList:=32::fr}} tg) (.str p th)) [0,0] λYa=>.g 65<|.cc (E2 O U.l y3 v (.str {cps:={toList:=32::fr}} tg) (.str p th)) [0,0] λYa=>.g 65<|.cc (E3 O U.l y3 v (.str {cps:={toList:=32::fr}} tg) (.str p th)) [0,0] λYa=>.g 65<|.fr λk7=>.g 6535<|.fr λk8=>.g 293255<|.fr λk9=>.g 16777221<|.cc (BE O U.l x dx m u t3 t5 t4 l y k9) [4,4] λYa=>.fr λQC=>.g 4398046511109<|.cc (JG O U.l y dy [] (.int (↑0) t) QC) [4,4] λYa=>.cc (Dp O U.l) [] λYa=>.fr λXY=>.cc (Qp _ _ O U.l ↑0 0 t XY (by first|assumption|rfl|lia|simp)) [] λYa=>.g 71<|.fr λTj=>.g 16777219<|.cc (BE O U.l x dx m u t3 t5 t4 l y Tj) [2,2] λYa=>.g 325081894654248395699899164786691<|.cc (Qr O U.l y dy {cps:={toList:=32::fr}} p tg th [] (.int (↑0) t) (by first|assumption|rfl|lia|simp)) [2,2] λy18=>.fi (y18) [3,3,0,0,0])
theorem oH(U:AA 54 A)(n L:Nat)(x dx m u t t3 t5 t4 l y dy v:Nat)(tf tp tc tg th:Nat)(fr:Ay)(p:Str)(rows:Ak)(hf:fr.length<=900000)(hS:B.Std)(hr:rows.length<=900)(hn:n+1<=1000)(hp:Int.ofNat (n+1)>0):
 AC B.C A (BM (.block HQ (AR B.P 113 [] (L+323)))) [AI L [(AM,J x),(Bp,.str ⟨⟨32::fr⟩⟩ tf),(A0,.str p tp),(KR,.str ⟨⟨[32]⟩⟩ tc)],BO x dx,Bc dx m u t3 t5 t4 l y,AY y dy [J v],A3 dy (.int ((n+1:Nat):Int) t),AV v [.str ⟨⟨32::fr⟩⟩ tg,.str p th],AE l rows]
  (λj:Nat×Nat×Nat=>Az (B6 .none))
  (λj=>[BO x dx,Bc dx m u t3 t5 t4 l y,AY y dy [J j.1],A3 dy (.int ((0:Nat):Int) j.2.1),AV j.1 [.str ⟨⟨32::fr⟩⟩ tg,.str p th],AE l (rows++[Co eS j.2.2])]):=by
 obtain⟨_,_|_⟩:=B<;>exact rn O U (.g 65<|.fr λk0=>.g 16777218<|.cc (BE O U.l x dx m u t3 t5 t4 l y k0) [1,1] λYa=>.g 79326085505654248456669102084<|.cc (Va O U.l y dy (v+323) (.int (↑(n+1)) t)) [3,3] λYa=>.g 287110<|.cc (Ff O U.l v [.str {cps:={toList:=32::fr}} tg,.str p th]) [5] λ(y3:Nat)=>.g 4161<|.cc (E1 O U.l y3 v (.str {cps:={toList:=32::fr}} tg) (.str p th)) [0,0] λYa=>.g 65<|.cc (E2 O U.l y3 v (.str {cps:={toList:=32::fr}} tg) (.str p th)) [0,0] λYa=>.g 65<|.cc (E3 O U.l y3 v (.str {cps:={toList:=32::fr}} tg) (.str p th)) [0,0] λYa=>.g 65<|.fr λk7=>.g 6535<|.fr λk8=>.g 293255<|.fr λk9=>.g 16777221<|.cc (BE O U.l x dx m u t3 t5 t4 l y k9) [4,4] λYa=>.fr λQC=>.g 4398046511109<|.cc (JG O U.l y dy [] (.int (↑(n+1)) t) QC) [4,4] λYa=>.cc (Dp O U.l) [] λYa=>.fr λXY=>.cc (Kz _ _ O U.l (↑(n+1)) 0 t XY (by first|assumption|rfl|lia|simp)) [] λYa=>.g 5075612189509454672485544886471<|.cc (lK O hS U.l x dx m u t3 t5 t4 l y dy n t rows hn hr) [2,2,0,0,3] λ(SN:Nat×Nat)=>.g 72<|.cc (TB O U.l 32 fr tg hf) [] λYa=>.g 72<|.fr λm4=>.g 16777217<|.cc (BE O U.l x dx m u t3 t5 t4 l y m4) [0,0] λYa=>.g 325162360756801945417767607861251<|.cc (Qr O U.l y dy {cps:={toList:=32::fr}} p tg th [] (.int (↑0) SN.fst) (by first|assumption|rfl|lia|simp)) [2,2] λy20=>.fi (y20,SN) (3::3::BW 4))
theorem Oi(U:AA 55 A)(n:Value)(L x dx m u t3 t5 t4 l y dy b a tf tp:Nat)(fr:Ay)(p:Str){G:AN}{X:Type}{led:X->AN}
 (h: ∀tc,AC B.C (A.under (.block HQ (AR B.P 113 [] (L+323)))) (BM (.block HQ (AR B.P 113 [] (L+323)))) ([AI L [(AM,J x),(Bp,.str ⟨⟨32::fr⟩⟩ tf),(A0,.str p tp),(KR,.str ⟨⟨[32]⟩⟩ tc)],BO x dx,Bc dx m u t3 t5 t4 l y,AY y dy [J a],A3 dy n]++G) (λYa=>Az (B6 .none)) led):
 AT B.C A (.forLoop Mk (J b) R4 HQ (AR B.P 113 [] (L+323))) ([Mv b t4 0,AI L [(AM,J x),(Bp,.str ⟨⟨32::fr⟩⟩ tf),(A0,.str p tp)],BO x dx,Bc dx m u t3 t5 t4 l y,AY y dy [J a],A3 dy n]++G) (λYa:X=>.ok (.ret .none)) led:=by
 refine AT.pre (F:=[AI L [(AM,J x),(Bp,.str ⟨⟨32::fr⟩⟩ tf),(A0,.str p tp)],BO x dx,Bc dx m u t3 t5 t4 l y,AY y dy [J a],A3 dy n,Mv b t4 0]++G) ?_ λR s S=>by
  have:=St.picked (L:=[_,_,_,_,_,_]) (R:=G++R) (ix:=[1,1,1,1,1,0]) (by rw[AG] at S;exact S) rfl
  rw[AG];exact this
 refine AT.NN (Y:=Nat) (c':=λYa=>.forLoop Mk (J b) R4 HQ (AR B.P 113 [] (L+323))) (ledY:=λj=>[AI L [(AM,J x),(Bp,.str ⟨⟨32::fr⟩⟩ tf),(A0,.str p tp),(KR,.str ⟨⟨[32]⟩⟩ j)],BO x dx,Bc dx m u t3 t5 t4 l y,AY y dy [J a],A3 dy n,Mv b t4 1]++G) ((r5 O (A:=A.under (.forLoop Mk (J b) R4 HQ (AR B.P 113 [] (L+323)))) U.l.loop n L x dx m u t3 t5 t4 l y dy b a tf tp fr p 0 rfl rfl ADp).frame G) (λYa=>rfl) λj=>?_
 refine AT.pre (F:=[AI L [(AM,J x),(Bp,.str ⟨⟨32::fr⟩⟩ tf),(A0,.str p tp),(KR,.str ⟨⟨[32]⟩⟩ j)],Mv b t4 1]++([BO x dx,Bc dx m u t3 t5 t4 l y,AY y dy [J a],A3 dy n]++G)) ?_ λR s S=>by
  have:=St.picked (L:=[_,_,_,_,_,_]) (R:=G++R) (ix:=(0::4::BW 4)) (by rw[AG] at S;exact S) rfl
  rw[AG,AG];exact this
 exact AT.NN (Y:=Unit) (c':=λYa=>.block HQ (AR B.P 113 [] (L+323))) ((r6 O (A:=A.under (.forLoop Mk (J b) R4 HQ (AR B.P 113 [] (L+323)))) U.l.loop n L x dx m u t3 t5 t4 l y dy b [(AM,J x),(Bp,.str ⟨⟨32::fr⟩⟩ tf),(A0,.str p tp),(KR,.str ⟨⟨[32]⟩⟩ j)]).frame _) (λYa=>rfl) λYa=>AT.ends (h j)
def Uq(U:AA 55 A)(L x dx m u t t3 t5 t4 l y dy b a tf tp tg th:Nat)(fr:Ay)(p:Str)(hf:fr.length<=900000):Ag B.C A where
 c:=.forLoop Mk (J b) R4 HQ (AR B.P 113 [] (L+323))
 F:=[Mv b t4 0,AI L [(AM,J x),(Bp,.str ⟨⟨32::fr⟩⟩ tf),(A0,.str p tp)],BO x dx,Bc dx m u t3 t5 t4 l y,AY y dy [J a],A3 dy (.int ((0:Nat):Int) t),AV a [.str ⟨⟨32::fr⟩⟩ tg,.str p th]]
 X:=Nat
 res:=λYa=>.ok (.ret .none)
 led:=λj=>[BO x dx,Bc dx m u t3 t5 t4 l y,AY y dy [J j],A3 dy (.int ((0:Nat):Int) t),AV j [.str ⟨⟨32::fr⟩⟩ tg,.str p th]]
 ok:=(Oi O U (.int ((0:Nat):Int) t) L x dx m u t3 t5 t4 l y dy b a tf tp fr p (G:=[AV a [.str ⟨⟨32::fr⟩⟩ tg,.str p th]])
  (λtc=>oG O (A:=A.under (.block HQ (AR B.P 113 [] (L+323)))) U.l.loop L x dx m u t t3 t5 t4 l y dy a tf tp tc tg th fr p hf)).call
def Ur(hS:B.Std)(U:AA 55 A)(n L x dx m u t t3 t5 t4 l y dy b a tf tp tg th:Nat)(fr:Ay)(p:Str)(rows:Ak)(hf:fr.length<=900000)(hr:rows.length<=900)(hn:n+1<=1000):Ag B.C A where
 c:=.forLoop Mk (J b) R4 HQ (AR B.P 113 [] (L+323))
 F:=[Mv b t4 0,AI L [(AM,J x),(Bp,.str ⟨⟨32::fr⟩⟩ tf),(A0,.str p tp)],BO x dx,Bc dx m u t3 t5 t4 l y,AY y dy [J a],A3 dy (.int ((n+1:Nat):Int) t),AV a [.str ⟨⟨32::fr⟩⟩ tg,.str p th],AE l rows]
 X:=Nat×Nat×Nat
 res:=λYa=>.ok (.ret .none)
 led:=λj=>[BO x dx,Bc dx m u t3 t5 t4 l y,AY y dy [J j.1],A3 dy (.int ((0:Nat):Int) j.2.1),AV j.1 [.str ⟨⟨32::fr⟩⟩ tg,.str p th],AE l (rows++[Co eS j.2.2])]
 ok:=(Oi O U (.int ((n+1:Nat):Int) t) L x dx m u t3 t5 t4 l y dy b a tf tp fr p (G:=[AV a [.str ⟨⟨32::fr⟩⟩ tg,.str p th],AE l rows])
  (λtc=>oH O (A:=A.under (.block HQ (AR B.P 113 [] (L+323)))) U.loop n L x dx m u t t3 t5 t4 l y dy a tf tp tc tg th fr p rows hf hS hr hn (by show(0:Int)<Int.ofNat (n+1);exact Int.natCast_pos.mpr (Nat.succ_pos n)))).call
theorem qN(U:AA 56 A)(L:Nat)(x dx m u t t3 t5 t4 l y dy:Nat)(a tf tp tg th:Nat)(fr:Ay)(p:Str)(hf:fr.length<=900000):
 AC B.C A (Ac (nB (mN 6 8 1)) (AR B.P 113 [] (L+323))) [AI L [(AM,J x),(Bp,.str ⟨⟨32::fr⟩⟩ tf),(A0,.str p tp)],BO x dx,Bc dx m u t3 t5 t4 l y,AY y dy [J a],A3 dy (.int ((0:Nat):Int) t),AV a [.str ⟨⟨32::fr⟩⟩ tg,.str p th]]
  (λj:Nat=>.ret .none)
  (λj=>[BO x dx,Bc dx m u t3 t5 t4 l y,AY y dy [J j],A3 dy (.int ((0:Nat):Int) t),AV j [.str ⟨⟨32::fr⟩⟩ tg,.str p th]]):=by
 obtain⟨_,_|_⟩:=B<;>exact D7 O U (.g 65<|.fr λk0=>.g 16777218<|.cc (Fd O U.l x dx m u t3 t5 t4 l y k0) [1,1] λYa=>.cc (PB O U.l t4) [] λy2=>.g 65<|.cc (Uq O U.l L x dx m u t t3 t5 t4 l y dy y2 a tf tp tg th fr p hf) (0::2::BW 5) λy3=>.fi (y3) (BW 5))
theorem qO(U:AA 56 A)(n L:Nat)(x dx m u t t3 t5 t4 l y dy:Nat)(a tf tp tg th:Nat)(fr:Ay)(p:Str)(rows:Ak)(hf:fr.length<=900000)(hS:B.Std)(hr:rows.length<=900)(hn:n+1<=1000):
 AC B.C A (Ac (nB (mN 6 8 1)) (AR B.P 113 [] (L+323))) [AI L [(AM,J x),(Bp,.str ⟨⟨32::fr⟩⟩ tf),(A0,.str p tp)],BO x dx,Bc dx m u t3 t5 t4 l y,AY y dy [J a],A3 dy (.int ((n+1:Nat):Int) t),AV a [.str ⟨⟨32::fr⟩⟩ tg,.str p th],AE l rows]
  (λj:Nat×Nat×Nat=>.ret .none)
  (λj=>[BO x dx,Bc dx m u t3 t5 t4 l y,AY y dy [J j.1],A3 dy (.int ((0:Nat):Int) j.2.1),AV j.1 [.str ⟨⟨32::fr⟩⟩ tg,.str p th],AE l (rows++[Co eS j.2.2])]):=by
 obtain⟨_,_|_⟩:=B<;>exact D7 O U (.g 65<|.fr λk0=>.g 16777218<|.cc (Fd O U.l x dx m u t3 t5 t4 l y k0) [1,1] λYa=>.cc (PB O U.l t4) [] λy2=>.g 65<|.cc (Ur O hS U.l n L x dx m u t t3 t5 t4 l y dy y2 a tf tp tg th fr p rows hf hr hn) (0::2::BW 6) λy3=>.fi (y3) (BW 6))
noncomputable def rv(p:Str×Nat):Value:=.str p.1 p.2
noncomputable def It.ab(i:It):Str×Str:=(i.f,i.p)
structure Ab where
 rows:List Str
 cur:Ed
 n:Nat
def M6(cur:Ed):Nat:=(cur.map λc=>c.1.length+c.2.length).sum
def Fa(cur:Ed):Str:=BB eS (cur.map λc=>BB eS [c.1,c.2])
omit O
theorem ae(AH:List It):M6 (AH.map It.ab)=CN AH:=by
 simp only[M6,CN,CK];rfl
theorem M7(AH:List It):Fa (AH.map It.ab)=Bq AH:=by
 simp only[Fa,Bq,CK];rfl
def Ab.step(m:Nat)(s:Ab)(c:Str×Str):Ab:=
 if s.n+M6 (s.cur++[c])<=m then⟨s.rows,s.cur++[c],s.n⟩
 else match s.cur with
  |[]=>⟨if s.n=0 then s.rows else s.rows++[eS],[c],0⟩
  |_::_=>⟨s.rows++[Fa s.cur],[c],0⟩
structure FX where
 AH:List It
 n:Nat
 t:Nat
 rs:Db
def FX.ab(g:FX):Ab:=⟨g.rs.map (·.1),g.AH.map It.ab,g.n⟩
abbrev Iq(x dx m u t3 t5 t4 l y dy:Nat)(g:FX):AN:=[BO x dx,Bc dx m u t3 t5 t4 l y,BS y dy g.AH,A3 dy (.int (g.n:Int) g.t),Ai g.AH,AE l (g.rs.map rv)]
structure X1(m:Nat)(a:Ab)(c:Str×Str) where
 g:FX
 ok:g.ab=a.step m c
include O
theorem kN(U:AA 1 A)(x dx m u t3 t5 t4 l y dy n t:Nat)(AH:List It)(rows:Ak)(f p:Str)(tf tp:Nat):
 AS B A (Pl B 113 [J x,.str f tf,.str p tp]) [BO x dx,Bc dx m u t3 t5 t4 l y,BS y dy AH,A3 dy (.int (n:Int) t),Ai AH,AE l rows] (([(AM,J x),(Bp,.str f tf),(A0,.str p tp)]:BC)) [BO x dx,Bc dx m u t3 t5 t4 l y,BS y dy AH,A3 dy (.int (n:Int) t),Ai AH,AE l rows]:=
 rn O U (.fi () (BW 6))
theorem h9(U:AA 1 A)(x dx m u t3 t5 t4 l y dy n t:Nat)(AH:List It)(rows:Ak)(f p:Str)(tf tp:Nat):
 AC B.C A (OP B 113 [(AM,J x),(Bp,.str f tf),(A0,.str p tp)]) [BO x dx,Bc dx m u t3 t5 t4 l y,BS y dy AH,A3 dy (.int (n:Int) t),Ai AH,AE l rows]
  (λa0:Nat=>AR B.P 113 [] (a0+323))
  (λa0=>[AI a0 [(AM,J x),(Bp,.str f tf),(A0,.str p tp)],BO x dx,Bc dx m u t3 t5 t4 l y,BS y dy AH,A3 dy (.int (n:Int) t),Ai AH,AE l rows]):=
 rn O U (.al λa0=>.fr λk1=>.g 6145<|.fr λk2=>.g 6145<|.fr λk3=>.g 6145<|.fi (a0) (BW 7))
omit O
section
variable{B:Bx}
theorem kO(O:B.C.Ok)(hS:B.Std){A:AL}(U:AA 56 A)(L x dx m u t3 t5 t4 l y dy:Nat)(g:FX)(fr:Ay)(p:Str)(tf tp:Nat)(hI:CY (g.AH++[It.mk 0 ⟨⟨32::fr⟩⟩ tf p tp]))(hn:g.n<=1000)(hr:g.rs.length<=900):
 AC B.C A (Ac (A4 B.P 113) (AR B.P 113 [] (L+323))) (AI L [(AM,J x),(Bp,.str ⟨⟨32::fr⟩⟩ tf),(A0,.str p tp)]::Iq x dx m u t3 t5 t4 l y dy g)
  (λh:{h:FX×Bool//h.1.ab=g.ab.step m (⟨⟨32::fr⟩⟩,p)}=>if h.1.2 then Dg else B6 .none) (λh=>Iq x dx m u t3 t5 t4 l y dy h.1.1):=by
 obtain⟨AH,n,t,rs⟩:=g
 dsimp only at hI hn hr
 have uR:CY AH:=⟨by have:=hI.1;rw[AX] at this;lia,λi hi=>hI.2 i (Ar _ hi)⟩
 have yr: ∀a,CY (AH++[It.mk a ⟨⟨32::fr⟩⟩ tf p tp]):=λa=>hI.same;have hf:fr.length<=900000:=by
  have:=(hI.2 _ (Ax _ (.head _))).1
  have:fr.length+1<=500:=this
  lia
 have hlen:(AH.map It.v).length<1000:=by have:=uR.1;rw[AD];lia
 have JA:(rs.map rv).length<=900:=by rw[AD];exact hr
 have e1:=x9 O U.l L x dx m u t3 t5 t4 l y dy n t AH fr p tf tp hS uR hn;rw[WU] at e1;rw[WU];have hj: ∀(a:Nat) R s,St B.C ([AI L [(AM,J x),(Bp,.str ⟨⟨32::fr⟩⟩ tf),(A0,.str p tp)],BO x dx,Bc dx m u t3 t5 t4 l y,AY y dy (AH.map It.v++[J a]),A3 dy (.int (n:Int) t),AV a [.str ⟨⟨32::fr⟩⟩ tf,.str p tp]]++[Ai AH,AE l (rs.map rv)]++R) s->
  St B.C ([AI L [(AM,J x),(Bp,.str ⟨⟨32::fr⟩⟩ tf),(A0,.str p tp)],BO x dx,Bc dx m u t3 t5 t4 l y,BS y dy (AH++[It.mk a ⟨⟨32::fr⟩⟩ tf p tp]),A3 dy (.int (n:Int) t),Ai (AH++[It.mk a ⟨⟨32::fr⟩⟩ tf p tp]),AE l (rs.map rv)]++R) s:=λa R s S=>by
  have S1:=S.picked (ix:=(5::5::BW 6)) rfl;have S2:=S1.ec;have S3:=St.picked (L:=[_,_,_,_,_,_,_]) (ix:=[1,1,1,1,1,0,0]) S2 rfl;rw[show AH.map It.v++[J a]=(AH++[It.mk a ⟨⟨32::fr⟩⟩ tf p tp]).map It.v from by rw[AZ];rfl] at S3
  exact S3
 have hs: ∀(a:Nat) R s,St B.C ([AI L [(AM,J x),(Bp,.str ⟨⟨32::fr⟩⟩ tf),(A0,.str p tp)],BO x dx,Bc dx m u t3 t5 t4 l y,BS y dy (AH++[It.mk a ⟨⟨32::fr⟩⟩ tf p tp]),A3 dy (.int (n:Int) t),Ai (AH++[It.mk a ⟨⟨32::fr⟩⟩ tf p tp]),AE l (rs.map rv)]++R) s->
  St B.C ([AI L [(AM,J x),(Bp,.str ⟨⟨32::fr⟩⟩ tf),(A0,.str p tp)],BO x dx,Bc dx m u t3 t5 t4 l y,AY y dy (AH.map It.v++[J a]),A3 dy (.int (n:Int) t),AV a [.str ⟨⟨32::fr⟩⟩ tf,.str p tp],Ai AH,AE l (rs.map rv)]++R) s:=λa R s S=>by
  have S2:=(St.picked (L:=[_,_,_,_,_,_,_]) (ix:=(5::BW 6)) S rfl).Zn;have S3:=St.picked (L:=[_,_,_,_,_,_,_,_]) (ix:=[2,2,2,2,2,0,0,0]) S2 rfl;rw[show BS y dy (AH++[It.mk a ⟨⟨32::fr⟩⟩ tf p tp])=AY y dy (AH.map It.v++[J a]) from by unfold BS;rw[AZ];rfl] at S3
  exact S3
 refine AC.step (led1:=λa:Nat=>[AI L [(AM,J x),(Bp,.str ⟨⟨32::fr⟩⟩ tf),(A0,.str p tp)],BO x dx,Bc dx m u t3 t5 t4 l y,BS y dy (AH++[It.mk a ⟨⟨32::fr⟩⟩ tf p tp]),A3 dy (.int (n:Int) t),Ai (AH++[It.mk a ⟨⟨32::fr⟩⟩ tf p tp]),AE l (rs.map rv)]) ((e1.frame [Ai AH,AE l (rs.map rv)]).post λa R s S=>hj a R s S) λa=>?_;have U5: ∀a,(AH++[It.mk a ⟨⟨32::fr⟩⟩ tf p tp]).map It.ab=AH.map It.ab++[((⟨⟨32::fr⟩⟩:Str),p)]:=λa=>by rw[AZ];rfl
 have Zg:n+M6 (AH.map It.ab++[((⟨⟨32::fr⟩⟩:Str),p)])=n+CN (AH++[It.mk a ⟨⟨32::fr⟩⟩ tf p tp]):=by rw[<-U5 a,ae]
 by_cases hm:n+CN (AH++[It.mk a ⟨⟨32::fr⟩⟩ tf p tp])<=m
 ·have e2:=t8 O U.l L x dx m u t3 t5 t4 l y dy n t _ (AH++[It.mk a ⟨⟨32::fr⟩⟩ tf p tp]) [(Bp,.str ⟨⟨32::fr⟩⟩ tf),(A0,.str p tp)] hS (yr a) (by have:n<=1000:=hn;lia) rfl ADp
  rw[WU] at e2
  refine(e2.frame [AE l (rs.map rv)]).weaken λYa=>⟨⟨(FX.mk (AH++[It.mk a ⟨⟨32::fr⟩⟩ tf p tp]) n t rs,true),?_⟩,rfl,λR s S=>S⟩
  simp only[FX.ab,Ab.step,Zg,if_pos hm,U5]
 ·have et:=x_ O U.l L x dx m u t3 t5 t4 l y dy n t _ (AH++[It.mk a ⟨⟨32::fr⟩⟩ tf p tp]) [(Bp,.str ⟨⟨32::fr⟩⟩ tf),(A0,.str p tp)] hS (yr a) (by have:n<=1000:=hn;lia) rfl ADp
  refine AC.one (AC.MM (b:=true) (et.frame [AE l (rs.map rv)]) λYa=>?_);cases hits:AH with
  |cons i0 ir=>
   rw[<-hits];have e3:=t9 O U.l n L x dx m u t t3 t5 t4 l y dy AH a tf tp tf tp fr p (rs.map rv) hS uR (by rw[hits];simp) hlen hf ADp
   refine(e3.pre (hs a)).weaken λq=>⟨⟨(FX.mk [It.mk a ⟨⟨32::fr⟩⟩ tf p tp] 0 q.1 (rs++[(Bq AH,q.2)]),true),?_⟩,rfl,λR s S=>?_⟩
   ·simp only[FX.ab,Ab.step,Zg,if_neg hm]
    rw[<-M7,hits];simp[It.ab]
   ·show St B.C ([BO x dx,Bc dx m u t3 t5 t4 l y,AY y dy [J a],A3 dy (.int ((0:Nat):Int) q.1),Ai [It.mk a ⟨⟨32::fr⟩⟩ tf p tp],AE l ((rs++[(Bq AH,q.2)]).map rv)]++R) s
    rw[show(rs++[(Bq AH,q.2)]).map rv=rs.map rv++[Co (Bq AH) q.2] from by rw[AZ];rfl]
    exact S.BV (EH _)
  |nil=>
   subst hits;cases n with
   |zero=>
    have e3:=qN O U L x dx m u t t3 t5 t4 l y dy a tf tp tf tp fr p hf;refine AC.pre (AC.weaken (e3.frame [AE l (rs.map rv)]) λq=>⟨⟨(FX.mk [It.mk q ⟨⟨32::fr⟩⟩ tf p tp] 0 t rs,false),?_⟩,rfl,λR s S=>S.BV (EH _)⟩) λR s S=>S.BV (EH _);simp only[FX.ab,Ab.step,Zg,if_neg hm];simp[It.ab]
   |succ n=>
    refine AC.pre (AC.weaken (qO O U n L x dx m u t t3 t5 t4 l y dy a tf tp tf tp fr p (rs.map rv) hf hS JA hn) λq=>⟨⟨(FX.mk [It.mk q.1 ⟨⟨32::fr⟩⟩ tf p tp] 0 q.2.1 (rs++[(eS,q.2.2)]),false),?_⟩,rfl,λR s S=>?_⟩) λR s S=>S.BV (EH _)
    ·simp only[FX.ab,Ab.step,Zg,if_neg hm]
     simp[It.ab]
    ·show St B.C ([BO x dx,Bc dx m u t3 t5 t4 l y,AY y dy [J q.1],A3 dy (.int ((0:Nat):Int) q.2.1),Ai [It.mk q.1 ⟨⟨32::fr⟩⟩ tf p tp],AE l ((rs++[(eS,q.2.2)]).map rv)]++R) s
     rw[show(rs++[(eS,q.2.2)]).map rv=rs.map rv++[Co eS q.2.2] from by rw[AZ];rfl]
     exact S.BV (EH _)
end
include O
def eT(hS:B.Std)(U:AA 58 A)(x dx m u t3 t5 t4 l y dy:Nat)(g:FX)(fr:Ay)(p:Str)(tf tp:Nat)(hI:CY (g.AH++[It.mk 0 ⟨⟨32::fr⟩⟩ tf p tp]))(hn:g.n<=1000)(hr:g.rs.length<=900):Ag B.C A where
 c:=.call (.ref 113) ⟨[J x,.str ⟨⟨32::fr⟩⟩ tf,.str p tp],[]⟩
 F:=Iq x dx m u t3 t5 t4 l y dy g
 X:=X1 m g.ab (⟨⟨32::fr⟩⟩,p)
 res:=λYa=>.ok (.ret .none)
 led:=λh=>Iq x dx m u t3 t5 t4 l y dy h.g
 ok:=(AT.weaken (Pr O (n:=57) U ADq (kN O U.l.in1 x dx m u t3 t5 t4 l y dy g.n g.t g.AH (g.rs.map rv) ⟨⟨32::fr⟩⟩ p tf tp) (h9 O U.l.in1 x dx m u t3 t5 t4 l y dy g.n g.t g.AH (g.rs.map rv) ⟨⟨32::fr⟩⟩ p tf tp)
  (λa=>BK (kO O hS (AA.deeper U.l) a x dx m u t3 t5 t4 l y dy g fr p tf tp hI hn hr)))
  λh=>⟨⟨h.1.1,h.2⟩,by obtain⟨⟨h,b⟩,q⟩:=h;cases b<;>rfl,λR s S=>S⟩).call
omit O
theorem Zc(k:Nat): ∀(l:List Str) (n:Nat),l.foldl (λn s=>n+s.length+k) n=n+(l.map (·.length)).sum+l.length*k
 |[],n=>by simp
 |a::r,n=>by
  rw[C0,Zc k r];simp only[Aw,Ea,Ap,Nat.add_mul,Nat.one_mul]
  lia
theorem Ru: ∀(l:Ay) (b:Nat),(∀x∈l,x<=b)->l.sum<=l.length*b
 |[],b,_=>by simp
 |a::r,b,h=>by
  rw[Ea,Ap,Nat.add_mul,Nat.one_mul]
  have:=Ru r b λx hx=>h x (.tail _ hx)
  have:=h a (.head _)
  lia
def JE(l:List Str):Prop:=l.length<=1000/\ ∀x∈l,x.length<=5000
theorem JE.fits{l:List Str}(h:JE l){sep:Str}(hs:sep.length<=10):OU (l.toArray.foldl (· + ·.length+sep.length) 0)=false/\(BB sep l).length<=sizeLine:=by
 have h1:(l.map (·.length)).sum<=l.length*5000:=by
  have:=Ru (l.map (·.length)) 5000 λx hx=>by
   obtain⟨y,hy,rfl⟩:=List.mem_map.mp hx;exact h.2 y hy
  rwa [AD] at this
 have h2:l.length*5000<=1000*5000:=Nat.mul_le_mul_right _ h.1;have h3:l.length*sep.length<=1000*10:=Nat.mul_le_mul h.1 hs
 constructor
 ·unfold OU
  rw[decide_eq_false_iff_not];have e:=Zc sep.length l 0;rw[Br]
  have:l.toArray.foldl (λn s=>n+s.length+sep.length) 0=l.foldl (λn s=>n+s.length+sep.length) 0:=by simp
  lia
 ·show(KW sep l).length<=_
  rw[size_glued,Br];have h4:(l.length-1)*sep.length<=1000*10:=Nat.mul_le_mul (by have:=h.1;lia) hs
  lia
def N6{B:Bx}{A:AL}(O:B.C.Ok)(U:AA 3 A)(l:Nat)(sep:Str)(t:Nat)(rs:Db)(hf:JE (rs.map (·.1)))(hs:sep.length<=10):Ag B.C A where
 c:=.call (.builtin "str.join") ⟨[.str sep t,J l],[]⟩
 F:=[AE l (rs.map rv)]
 X:=Nat
 res:=λk=>.ok (.ret (.str (BB sep (rs.map (·.1))) k))
 led:=λYa=>[AE l (rs.map rv)]
 ok:=D9 PySem.F.slot_str_join PySem.F.entry_str_join (PySem.F.args_str_join_2 _ _) (meets_str_join_list sep t (l+323) rs (hf.fits hs).1) λR s S=>by
  obtain⟨g,hg⟩:=S.Dj;refine⟨rfl,⟨_,hg,rfl,_,rfl⟩,?_⟩;have R5:(BB sep (rs.map (·.1))).length<=sizeLine/\ ∃x,(Cs (B6 (.str (BB sep (rs.map (·.1))) s.toks)):Result)=.ok (.ret (.str (BB sep (rs.map (·.1))) x))/\St B.C ([AE l (rs.map rv)]++R) {s with toks:=s.toks+1}:=⟨(hf.fits hs).2,s.toks,rfl,S.toks _ (Eb _)⟩
  cases rs with
  |nil=>exact R5
  |cons p r=>cases r with
   |nil=>exact⟨p.2,rfl,S⟩
   |cons q r=>exact R5
include O
theorem av(U:AA 1 A)(x dx m u t3 t5 t4 l y dy n t:Nat)(AH:List It)(rows:Ak)(t6:Nat):
 AS B A (Dc (D4 B.P 64) ⟨[J x,.str ⟨⟨[10]⟩⟩ t6],[]⟩) [BO x dx,Bc dx m u t3 t5 t4 l y,BS y dy AH,A3 dy (.int (n:Int) t),Ai AH,AE l rows] (([(AM,J x),(HG,.str ⟨⟨[10]⟩⟩ t6)]:BC)) [BO x dx,Bc dx m u t3 t5 t4 l y,BS y dy AH,A3 dy (.int (n:Int) t),Ai AH,AE l rows]:=
 rn O U (.fi () (BW 6))
theorem ZX(U:AA 1 A)(x dx m u t3 t5 t4 l y dy n t:Nat)(AH:List It)(rows:Ak)(t6:Nat):
 AC B.C A (OP B 64 [(AM,J x),(HG,.str ⟨⟨[10]⟩⟩ t6)]) [BO x dx,Bc dx m u t3 t5 t4 l y,BS y dy AH,A3 dy (.int (n:Int) t),Ai AH,AE l rows]
  (λa0:Nat=>AR B.P 64 [] (a0+323))
  (λa0=>[AI a0 [(AM,J x),(HG,.str ⟨⟨[10]⟩⟩ t6)],BO x dx,Bc dx m u t3 t5 t4 l y,BS y dy AH,A3 dy (.int (n:Int) t),Ai AH,AE l rows]):=
 rn O U (.al λa0=>.fr λk1=>.g 6145<|.fr λk2=>.g 6145<|.fi (a0) (BW 7))
omit O
theorem kF(B:Bx):A4 B.P 64=[.Expr (vE (mN 6 1 0)) (pS 20 8 22),.Return (some (vE (mN 6 1 1))) (pS 21 8 40)]:=by kernel_rfl
include O
theorem sR(U:AA 30 A)(L x dx m u t3 t5 t4 l y dy n t:Nat)(AH:List It)(i:It)(rs:Db)(t6:Nat)(hS:B.Std)(hI:CY (AH++[i]))(hn:n<=1000)(hp:i.p.cps.toList≠[])(IQ:i.ok)(hz:0<CN (AH++[i]))(hr:(rs.map rv).length<=900)(hw:(Bq (AH++[i])).cps.all Cg=false):
 AC B.C A (Ac ((A4 B.P 64).take 1) (AR B.P 64 [] (L+323))) [AI L [(AM,J x),(HG,.str ⟨⟨[10]⟩⟩ t6)],BO x dx,Bc dx m u t3 t5 t4 l y,BS y dy (AH++[i]),A3 dy (.int (n:Int) t),Ai (AH++[i]),AE l (rs.map rv)]
  (λq:Nat×Nat=>.next)
  (λq=>[AI L [(AM,J x),(HG,.str ⟨⟨[10]⟩⟩ t6)],BO x dx,Bc dx m u t3 t5 t4 l y,AE l (rs.map rv++[Co (Bq (AH++[i])) q.2])]):=
 D7 O U (.g 5074354906657037443744267239553<|.cc (lL O hS U.l x dx m u t3 t5 t4 l y dy n t AH i (B0 rv rs) hI hn hp IQ hz hr hw) [1,1,1,1,1,1] λy0=>.fi (y0) [5,0,0,2])
theorem sS(U:AA 30 A)(L x dx m u t3 t5 t4 l y dy:Nat)(rs:Db)(t6:Nat)(hf:JE (rs.map (·.1))):
 AC B.C A (Ac ((A4 B.P 64).drop 1) (AR B.P 64 [] (L+323))) [AI L [(AM,J x),(HG,.str ⟨⟨[10]⟩⟩ t6)],BO x dx,Bc dx m u t3 t5 t4 l y,AE l (rs.map rv)]
  (λk:Nat=>.ret (.str (BB ⟨⟨[10]⟩⟩ (rs.map (·.1))) k))
  (λk=>[]):=Ix O U (.g 4161<|.fr λk0=>.g 16777218<|.cc (Ih O U.l x dx m u t3 t5 t4 l y k0) [1,1] λYa=>.cc (N6 O U.l l ⟨⟨[10]⟩⟩ t6 rs hf (by first|assumption|exact(ADs:(1:Nat)<=10))) [3] λy2=>.fi (y2) [])
def gv(hS:B.Std)(U:AA 32 A)(x dx m u t3 t5 t4 l y dy n t:Nat)(AH:List It)(i:It)(rs:Db)(t6:Nat)(hI:CY (AH++[i]))(hn:n<=1000)(hp:i.p.cps.toList≠[])(IQ:i.ok)(hz:0<CN (AH++[i]))(hr:rs.length<=900)
 (hw:(Bq (AH++[i])).cps.all Cg=false) (hf:JE (rs.map (·.1)++[Bq (AH++[i])])):Ag B.C A where
 c:=.call (.ref 64) ⟨[J x,.str ⟨⟨[10]⟩⟩ t6],[]⟩
 F:=[BO x dx,Bc dx m u t3 t5 t4 l y,BS y dy (AH++[i]),A3 dy (.int (n:Int) t),Ai (AH++[i]),AE l (rs.map rv)]
 X:=Nat
 res:=λk=>.ok (.ret (.str (BB ⟨⟨[10]⟩⟩ (rs.map (·.1)++[Bq (AH++[i])])) k))
 led:=λYa=>[]
 ok:=Dm O (n:=31) U ADq (av O U.l.in1 x dx m u t3 t5 t4 l y dy n t (AH++[i]) (rs.map rv) t6) (ZX O U.l.in1 x dx m u t3 t5 t4 l y dy n t (AH++[i]) (rs.map rv) t6)
  (λa=>BK (fl:=λk=>.ret (.str (BB ⟨⟨[10]⟩⟩ (rs.map (·.1)++[Bq (AH++[i])])) k)) (by
   have B8:AA 30 (A.deeper (AR B.P 64 [] (a+323))):=AA.deeper U.l;have e1:=sR O B8 a x dx m u t3 t5 t4 l y dy n t AH i rs t6 hS hI hn hp IQ hz (by rw[AD];exact hr) hw
   have e2:=λk=>sS O B8 a x dx m u t3 t5 t4 l y dy (rs++[(Bq (AH++[i]),k)]) t6 (by rw[AZ];exact hf)
   rw[kF] at e1 e2;rw[kF];refine AC.step (led1:=λq:Nat×Nat=>[AI a [(AM,J x),(HG,.str ⟨⟨[10]⟩⟩ t6)],BO x dx,Bc dx m u t3 t5 t4 l y,AE l ((rs++[(Bq (AH++[i]),q.2)]).map rv)]) (e1.post λq R s S=>by rw[AZ];exact S) λq=>?_
   refine(e2 q.2).weaken λk=>⟨k,by rw[AZ];rfl,λR s S=>S⟩))
omit O
theorem eJ(B:Bx):A4 B.P 106=[mN 6 7 0,mN 6 7 1,.For (tE (mN 6 7 2)) (vE (mN 6 7 2)) (nB (mN 6 7 2)) [] ⟨71,8,72,41⟩]:=by kernel_rfl
abbrev T0(a b:Nat):Bi:=.one (a+323) (.ex ⟨.type "LookupError",none,.fields ⟨[J b,.none,.none,.none,.bool false,.none]⟩,⟨[]⟩⟩)
abbrev Xk(a b d:Nat):Bi:=.one (a+323) (.ex ⟨.type "LookupError",some (d+323),.fields ⟨[J b,.none,.none,.none,.bool false,.none]⟩,⟨[]⟩⟩)
abbrev Xj(d:Nat):Bi:=.one (d+323) (.ns (.type "dict") [(HC,.none)])
include O
theorem bS(U:AA 1 A)(t:Nat):
 AS B A (AU "LookupError.__new__" ⟨[.type "LookupError",.str ⟨⟨[112,108,97,105,110]⟩⟩ t],[]⟩) [] () []:=
 by apply Hc O U (.fi () [])
theorem cg(U:AA 1 A)(t:Nat)(p:Pos)(below:List (Code×Pos)):
 AC B.C A (SX (BM (.builtin "LookupError.__new__" ⟨[.type "LookupError",.str ⟨⟨[112,108,97,105,110]⟩⟩ t],[]⟩)) ((.builtin "LookupError.__new__" ⟨[.type "LookupError",.str ⟨⟨[112,108,97,105,110]⟩⟩ t],[]⟩,p)::below)) []
  (λa:Nat×Nat=>.done (.ret (J a.1)))
  (λa=>[T0 a.1 a.2,AV a.2 [.str ⟨⟨[112,108,97,105,110]⟩⟩ t]]):=
 rn O U (.al λa0=>.al λa1=>.fi (a1,a0) [0,0])
def b9(U:AA 3 A)(t:Nat):Ag B.C A where
 c:=.call (.builtin "LookupError.__new__") ⟨[.type "LookupError",.str ⟨⟨[112,108,97,105,110]⟩⟩ t],[]⟩
 F:=[]
 X:=Nat×Nat
 res:=λa=>.ok (.ret (J a.1))
 led:=λa=>[T0 a.1 a.2,AV a.2 [.str ⟨⟨[112,108,97,105,110]⟩⟩ t]]
 ok:=Pp ADr (bS O U.l.in1 t) (λp below=>cg O U.l.in1 t p below)
def Yx(U:AA 3 A)(a b t:Nat):Ag B.C A:=
 DN O U "LookupError.__init__" [J a,.str ⟨⟨[112,108,97,105,110]⟩⟩ t] [T0 a b,AV b [.str ⟨⟨[112,108,97,105,110]⟩⟩ t]] (λc:Nat=>.none) (λc=>[T0 a c]) (λU=>.g 4161<|.fi () [0,0]) λU=>.al λa0=>.g 397442<|.fi (a0) [1]
def b_(U:AA 3 A)(a b t:Nat):Ag B.C A:=
 DN O U "object.__setattr__" [J a,.str HC t,.none] [T0 a b] (λd:Nat=>.none) (λd=>[Xk a b d,Xj d]) (λU=>.g 65<|.fi () [0]) λU=>.g 266305<|.al λa0=>.g 97<|.fr λk1=>.g 268289<|.fi (a0) [1,0]
theorem iD(U:AA 1 A)(t:Nat):
 AS B A (BM (.call (.type "LookupError") ⟨[.str ⟨⟨[112,108,97,105,110]⟩⟩ t],[]⟩)) [] (.again (.builtin "type.__call__" ⟨[.type "LookupError",.str ⟨⟨[112,108,97,105,110]⟩⟩ t],[]⟩)) []:=
 rn O U (.fi () [])
theorem jv(U:AA 5 A)(t:Nat):
 AC B.C A (BM (.builtin "type.__call__" ⟨[.type "LookupError",.str ⟨⟨[112,108,97,105,110]⟩⟩ t],[]⟩)) []
  (λp:Nat×Nat=>.done (.ret (J p.1)))
  (λp=>[T0 p.1 p.2]):=
 rn O U (.cc (b9 O U.l t) [] λ(y0:Nat×Nat)=>.g 4161<|.cc (Yx O U.l y0.fst y0.snd t) [0,0] λy1=>.fi (y0.1,y1) [0])
def Yw(U:AA 6 A)(t:Nat):Ag B.C A where
 c:=.call (.type "LookupError") ⟨[.str ⟨⟨[112,108,97,105,110]⟩⟩ t],[]⟩
 F:=[]
 X:=Nat×Nat
 res:=λp=>.ok (.ret (J p.1))
 led:=λp=>[T0 p.1 p.2]
 ok:=Dn (iD O (A:=A.under (.call (.type "LookupError") ⟨[.str ⟨⟨[112,108,97,105,110]⟩⟩ t],[]⟩)) (U.l.ca _ _) t) (F0 _) (jv O (A:=A.under (.builtin "type.__call__" ⟨[.type "LookupError",.str ⟨⟨[112,108,97,105,110]⟩⟩ t],[]⟩)) (U.ty _) t)
theorem YL(U:AA 10 A)(L:Nat):
 AC B.C A (Ac (A4 B.P 241) (AR B.P 241 [] (L+323))) [AI L []]
  (λp:Nat×Nat×Nat=>.ret (J p.1))
  (λp=>[Xk p.1 p.2.1 p.2.2,Xj p.2.2]):=
 D7 O U (.g 4096<|.fr λk0=>.cc (Yw O U.l k0) [] λ(y1:Nat×Nat)=>.fr λk2=>.g 272450<|.fr λk3=>.g 65<|.cc (b_ O U.l y1.fst y1.snd k3) [0] λy4=>.g 67<|.fi (y1.1,y1.2,y4) [0,0])
def b7(U:AA 12 A):Ag B.C A where
 c:=.call (.ref 241) ⟨[],[]⟩
 F:=[]
 X:=Nat×Nat×Nat
 res:=λp=>.ok (.ret (J p.1))
 led:=λp=>[Xk p.1 p.2.1 p.2.2,Xj p.2.2]
 ok:=EU O U []
  (λa=>BK (YL O (AA.deeper U.l) a))
def b8(U:AA 3 A)(a b d t:Nat):Ag B.C A:=
 DN O U "BaseException.__getattribute__" [J a,.str HC t] [Xk a b d,Xj d] (λYa:Unit=>.none) (λYa=>[Xk a b d,Xj d]) (λU=>.g 65<|.fi () [0,0]) λU=>.g 17305665<|.fi () [0,0]
section
open PySem.Sre
noncomputable def QJ:Array Nat:=#[14,4,0,1,4294967295,17,0,24,11,1,4294967295,13,6,16,32,16,9,0,1,17,1,1]
def ws(c:Nat):Bool:=c==32||c==9
omit O
theorem oh(c:Nat)(seen:ET): ∃MS,accepts QJ 11 c seen=.ok (ws c,MS):=by
 show∃MS,inSet QJ c 22 13 true seen=.ok (ws c,MS)
 by_cases h1:c=32
 ·subst h1;exact⟨_,rfl⟩
 ·by_cases h2:c=9
  ·subst h2;exact⟨_,rfl⟩
  ·have b1:(c==32)=false:=by simpa using h1
   have b2:(c==9)=false:=by simpa using h2
   have e:ws c=false:=by simp[ws,b1,b2]
   rw[e];refine⟨((seen.add 16).add 16).add 0,?_⟩
   show(if(c==32)=true then _ else(if(c==9)=true then _ else(Cs (!true,((seen.add 16).add 16).add 0):Except String (Bool×ET))))=_
   rw[b1,b2]
   rfl
theorem Xm(text:Array Nat): ∀(k N p found:Nat) (seen:ET),k<=N->(∀j,j<k->ws (text.getD (p+j) 0)=true)->(k<N->ws (text.getD (p+k) 0)=false)->
 ∃MS,Sre.run QJ text 11 N p found seen=.ok (found+k,MS)
 |0,0,p,found,seen,_,_,_=>⟨seen,rfl⟩
 |0,N+1,p,found,seen,_,_,h2=>by
  obtain⟨s',e⟩:=oh (text.getD p 0) seen;rw[show ws (text.getD p 0)=false from h2 ADp] at e
  refine⟨s',?_⟩
  show(accepts QJ 11 (text.getD p 0) seen>>=λx=>_)=_
  rw[e];rfl
 |k+1,0,p,found,seen,h,_,_=>absurd h ADp
 |k+1,N+1,p,found,seen,h,h1,h2=>by
  obtain⟨s',e⟩:=oh (text.getD p 0) seen;rw[show ws (text.getD p 0)=true from h1 0 ADp] at e
  obtain⟨s2,e2⟩:=Xm text k N (p+1) (found+1) s' ADp (λj hj=>by rw[show p+1+j=p+(j+1) from by lia];exact h1 (j+1) ADp) (λhk=>by rw[show p+1+k=p+(k+1) from by lia];exact h2 ADp)
  refine⟨s2,?_⟩
  show(accepts QJ 11 (text.getD p 0) seen>>=λx=>_)=_
  rw[e];show Sre.run QJ text 11 N (p+1) (found+1) s'=_;rw[e2,show found+1+k=found+(k+1) from by lia]
theorem JJ(m:M)(h:m.outcome.isSome=true): ∀n,m.runFor n=m
 |0=>rfl
 |n+1=>by
  show(if m.outcome.isSome then m else _)=m
  rw[if_pos h]
theorem C6(a b:Nat): ∀m:M,m.runFor (a+b)=(m.runFor a).runFor b:=by
 induction a with
 |zero=>intro m;rw[FH];rfl
 |succ a ih=>
  intro m;rw[show a+1+b=(a+b)+1 from by lia]
  show(if m.outcome.isSome then m else m.step.runFor (a+b))=(if m.outcome.isSome then m else m.step.runFor a).runFor b
  split
  ·rename_i h;exact(JJ m h b).symm
  ·exact ih m.step
def K8(text:Array Nat)(lim Bl s:Nat)(z2 ou:Bool)(marks:Array (Option Nat))(seen:ET):M:=
 {code:=QJ,text,lim,start:=s,lastStart:=lim,mustAdvance:=z2,pc:=5,pos:=s,handed:=s,outermost:=ou,marks,seen,
  frames:=[{wait:=.nextStart,pc:=5,pos:=s,outermost:=ou}],weight:=1}
theorem Xe(text:Array Nat)(lim Bl s:Nat)(ou:Bool)(a b:Option Nat)(seen:ET):(K8 text lim Bl s false ou #[a,b] seen).runFor 1=
 {K8 text lim Bl s false ou #[some s,b] (seen.add 17) with pc:=7,lastmark:=0}:=rfl
theorem n6(lim s:Nat)(h:s<lim)(h2:lim<=4000000000):min 4294967295 ((lim:Int)-(s:Int)).toNat=lim-s:=by lia
theorem en(text:Array Nat)(lim Bl s:Nat)(ou:Bool)(a b:Option Nat)(seen:ET)(h:s<lim)(h2:lim<=4000000000)(hw:ws (text.getD s 0)=false):
 ∃MS,M.runFor 1 {K8 text lim Bl s false ou #[some s,b] seen with pc:=7,lastmark:=0}={K8 text lim Bl s false ou #[some s,b] MS with pc:=7,lastmark:=0,answer:=some false}:=by
 obtain⟨s',e⟩:=Xm text 0 (lim-s) s 0 ((seen.add 24).add 13) ADp (λj hj=>absurd hj ADp) (λYa=>hw)
 refine⟨s',?_⟩
 show(if((1:Nat):Int)>(lim:Int)-(s:Int) then _ else(match Sre.run QJ text 11 (min 4294967295 ((lim:Int)-(s:Int)).toNat) s 0 ((seen.add 24).add 13) with|.error why=>_|.ok (n,seen)=>_))=_
 rw[if_neg ADp,n6 lim s h h2,e]
 rfl
theorem oi(text:Array Nat)(lim Bl:Nat)(ou:Bool)(a b:Option Nat)(seen:ET):
 M.runFor 1 {K8 text lim Bl lim false ou #[some lim,b] seen with pc:=7,lastmark:=0}={K8 text lim Bl lim false ou #[some lim,b] (seen.add 24) with pc:=7,lastmark:=0,answer:=some false}:=by
 show(if((1:Nat):Int)>(lim:Int)-(lim:Int) then _ else _)=_
 rw[if_pos ADp]
 rfl
theorem oj(text:Array Nat)(lim Bl s k:Nat)(ou:Bool)(a b:Option Nat)(seen:ET)(h:s+k<=lim)(h2:lim<=4000000000)(hk:0<k)(hw: ∀j,j<k->ws (text.getD (s+j) 0)=true)(he:s+k<lim->ws (text.getD (s+k) 0)=false):
 ∃MS,M.runFor 1 {K8 text lim Bl s false ou #[some s,b] seen with pc:=7,lastmark:=0}=
  {K8 text lim Bl s false ou #[some s,b] MS with pc:=19,pos:=s+k,handed:=s+k,lastmark:=0,weight:=2,frames:=[{wait:=.giveBack,pc:=7,pos:=s+k,outermost:=ou,count:=(k:Int),kept:={lastmark:=0,lastindex:= -1,whole:=false,marks:=#[]}},{wait:=.nextStart,pc:=5,pos:=s,outermost:=ou}]}:=by
 obtain⟨s',e⟩:=Xm text k (lim-s) s 0 ((seen.add 24).add 13) ADp hw (λq=>he ADp)
 refine⟨s',?_⟩
 show(if((1:Nat):Int)>(lim:Int)-(s:Int) then _ else(match Sre.run QJ text 11 (min 4294967295 ((lim:Int)-(s:Int)).toNat) s 0 ((seen.add 24).add 13) with|.error why=>_|.ok (n,seen)=>_))=_
 rw[if_neg ADp,n6 lim s ADp h2,e]
 show(if 0+k<1 then _ else _)=_
 rw[if_neg ADp,FH]
 rfl
theorem Vz(text:Array Nat)(lim Bl s:Nat)(ou:Bool)(b:Option Nat)(seen:ET)(h:s<lim):
 M.runFor 1 {K8 text lim Bl s false ou #[some s,b] seen with pc:=7,lastmark:=0,answer:=some false}=K8 text lim Bl (s+1) false false #[some s,b] seen:=by
 show(if s<lim then _ else _)=_
 rw[if_pos h]
 rfl
theorem ii(text:Array Nat)(lim Bl:Nat)(ou:Bool)(b:Option Nat)(seen:ET):
 ∃m:M,M.runFor 2 {K8 text lim Bl lim false ou #[some lim,b] seen with pc:=7,lastmark:=0,answer:=some false}=m/\(∃x,m.outcome=some x/\x=.failed):=by
 refine⟨_,rfl,.failed,?_,rfl⟩
 show(M.runFor 1 (if lim<lim then _ else _)).outcome=_
 rw[if_neg (Dl _)]
 rfl
structure j3(m:M)(s e:Nat):Prop where
 out: ∃x,m.outcome=some x/\x=.matched
 start:m.start=s
 handed:m.handed=e
 m0:m.marks.getD 0 none=some s
 m1:m.marks.getD 1 none=some e
 last:m.lastmark=1
theorem jg(text:Array Nat)(lim Bl s k:Nat)(ou:Bool)(b:Option Nat)(seen:ET):
 M.runFor 1 {K8 text lim Bl s false ou #[some s,b] seen with pc:=19,pos:=s+k,handed:=s+k,lastmark:=0,weight:=2,frames:=[{wait:=.giveBack,pc:=7,pos:=s+k,outermost:=ou,count:=(k:Int),kept:={lastmark:=0,lastindex:= -1,whole:=false,marks:=#[]}},{wait:=.nextStart,pc:=5,pos:=s,outermost:=ou}]}=
 {K8 text lim Bl s false ou #[some s,some (s+k)] (seen.add 17) with pc:=21,pos:=s+k,handed:=s+k,lastmark:=1,lastindex:=1,weight:=2,frames:=[{wait:=.giveBack,pc:=7,pos:=s+k,outermost:=ou,count:=(k:Int),kept:={lastmark:=0,lastindex:= -1,whole:=false,marks:=#[]}},{wait:=.nextStart,pc:=5,pos:=s,outermost:=ou}]}:=by kernel_rfl
theorem jh(text:Array Nat)(lim Bl s k:Nat)(ou:Bool)(seen:ET):
 M.runFor 1 {K8 text lim Bl s false ou #[some s,some (s+k)] seen with pc:=21,pos:=s+k,handed:=s+k,lastmark:=1,lastindex:=1,weight:=2,frames:=[{wait:=.giveBack,pc:=7,pos:=s+k,outermost:=ou,count:=(k:Int),kept:={lastmark:=0,lastindex:= -1,whole:=false,marks:=#[]}},{wait:=.nextStart,pc:=5,pos:=s,outermost:=ou}]}=
 {K8 text lim Bl s false ou #[some s,some (s+k)] (seen.add 1) with pc:=21,pos:=s+k,handed:=s+k,lastmark:=1,lastindex:=1,weight:=2,answer:=some true,frames:=[{wait:=.giveBack,pc:=7,pos:=s+k,outermost:=ou,count:=(k:Int),kept:={lastmark:=0,lastindex:= -1,whole:=false,marks:=#[]}},{wait:=.nextStart,pc:=5,pos:=s,outermost:=ou}]}:=by
 cases ou<;>rfl
theorem ji(text:Array Nat)(lim Bl s k:Nat)(ou:Bool)(seen:ET):
 j3 (M.runFor 3 {K8 text lim Bl s false ou #[some s,some (s+k)] seen with pc:=21,pos:=s+k,handed:=s+k,lastmark:=1,lastindex:=1,weight:=2,answer:=some true,frames:=[{wait:=.giveBack,pc:=7,pos:=s+k,outermost:=ou,count:=(k:Int),kept:={lastmark:=0,lastindex:= -1,whole:=false,marks:=#[]}},{wait:=.nextStart,pc:=5,pos:=s,outermost:=ou}]}) s (s+k):=
 ⟨⟨.matched,rfl,rfl⟩,rfl,rfl,rfl,rfl,rfl⟩
theorem pQ(text:Array Nat)(lim Bl s k:Nat)(ou:Bool)(b:Option Nat)(seen:ET):
 j3 (M.runFor 5 {K8 text lim Bl s false ou #[some s,b] seen with pc:=19,pos:=s+k,handed:=s+k,lastmark:=0,weight:=2,frames:=[{wait:=.giveBack,pc:=7,pos:=s+k,outermost:=ou,count:=(k:Int),kept:={lastmark:=0,lastindex:= -1,whole:=false,marks:=#[]}},{wait:=.nextStart,pc:=5,pos:=s,outermost:=ou}]}) s (s+k):=by
 rw[show 5=1+(1+3) from rfl,C6,jg,C6,jh];exact ji ..
theorem Ou(text:Array Nat)(lim Bl k:Nat)(h2:lim<=4000000000)(hk:0<k): ∀(d s:Nat) (ou:Bool) (a b:Option Nat) (seen:ET),s+d+k<=lim->(∀j,j<d->ws (text.getD (s+j) 0)=false)->
 (∀j,j<k->ws (text.getD (s+d+j) 0)=true)->(s+d+k<lim->ws (text.getD (s+d+k) 0)=false)->j3 (M.runFor (3*d+7) (K8 text lim Bl s false ou #[a,b] seen)) (s+d) (s+d+k)
 |0,s,ou,a,b,seen,h,_,hw,he=>by
  rw[show 3*0+7=1+(1+5) from rfl,C6,Xe,C6];obtain⟨s',e⟩:=oj text lim Bl s k ou a b (seen.add 17) ADp h2 hk hw he
  rw[e];exact pQ text lim Bl s k ou b s'
 |d+1,s,ou,a,b,seen,h,hn,hw,he=>by
  rw[show 3*(d+1)+7=1+(1+(1+(3*d+7))) from by lia,C6,Xe,C6]
  obtain⟨s',e⟩:=en text lim Bl s ou a b (seen.add 17) ADp h2 (hn 0 ADp)
  rw[e,C6,Vz _ _ _ _ _ _ _ ADp]
  have:=Ou text lim Bl k h2 hk d (s+1) false (some s) b s' ADp (λj hj=>by rw[show s+1+j=s+(j+1) from by lia];exact hn (j+1) ADp)
   (λj hj=>by rw[show s+1+d+j=s+(d+1)+j from by lia];exact hw j hj) (λq=>by rw[show s+1+d+k=s+(d+1)+k from by lia];exact he ADp)
  rw[show s+1+d=s+(d+1) from by lia] at this
  exact this
def j6(m:M):Prop:= ∃x,m.outcome=some x/\x=.failed
theorem QL(text:Array Nat)(lim Bl:Nat)(h2:lim<=4000000000): ∀(d s:Nat) (ou:Bool) (a b:Option Nat) (seen:ET),s+d=lim->(∀j,j<d->ws (text.getD (s+j) 0)=false)->
 j6 (M.runFor (3*d+4) (K8 text lim Bl s false ou #[a,b] seen))
 |0,s,ou,a,b,seen,h,_=>by
  obtain rfl:s=lim:=by lia
  rw[show 3*0+4=1+(1+2) from rfl,C6,Xe,C6,oi _ _ _ _ a];obtain⟨m,rfl,x,hx⟩:=ii text s Bl ou b ((seen.add 17).add 24);exact⟨x,hx⟩
 |d+1,s,ou,a,b,seen,h,hn=>by
  rw[show 3*(d+1)+4=1+(1+(1+(3*d+4))) from by lia,C6,Xe,C6]
  obtain⟨s',e⟩:=en text lim Bl s ou a b (seen.add 17) ADp h2 (hn 0 ADp)
  rw[e,C6,Vz _ _ _ _ _ _ _ ADp]
  exact QL text lim Bl h2 d (s+1) false (some s) b s' ADp (λj hj=>by rw[show s+1+j=s+(j+1) from by lia];exact hn (j+1) ADp)
theorem Rc(text:Array Nat)(lim s:Nat)(h:s<lim):forSearch QJ text 1 s lim false=K8 text lim s s false true #[none,none] (({}:ET).add 14):=by
 show(if(decide (s>lim)||decide (lim-s<1))=true then _ else _)=_
 rw[if_neg (by simp;lia)]
 rfl
theorem SF(text:Array Nat)(lim:Nat):j6 (M.runFor 1 (forSearch QJ text 1 lim lim false)):=by
 have e:forSearch QJ text 1 lim lim false=(if(decide (lim>lim)||decide (lim-lim<1))=true then M.say _ false else _):=rfl
 rw[e,if_pos ADt]
 exact⟨_,rfl,rfl⟩
section
open Builtin.Re
variable{Md:Model}{A:AL}{E:Value->Af->Prop}{s:Af}
theorem Qt{Q:M->Af->Prop}: ∀(turns N:Nat) (m:M),N<=4*turns->(m.runFor N).outcome.isSome=true->Q (m.runFor N) s->0<turns->BN Md A (reDrive turns m) Q E s
 |0,_,_,_,_,_,h=>absurd h ADp
 |turns+1,N,m,hN,ho,hQ,_=>by
  show BN Md A (if(m.runFor 4).outcome.isSome=true then pure (m.runFor 4) else(do rule "sre.turn";reDrive turns (m.runFor 4))) Q E s
  by_cases h4:(m.runFor 4).outcome.isSome=true
  ·rw[if_pos h4]
   refine AP ?_
   have:m.runFor 4=m.runFor N:=by
    by_cases hle:4<=N
    ·obtain⟨k,rfl⟩: ∃k,N=4+k:=⟨N-4,by lia⟩
     rw[C6,JJ _ h4]
    ·obtain⟨k,hk⟩: ∃k,4=N+k:=⟨4-N,by lia⟩
     rw[hk,C6,JJ _ ho]
   rw[this];exact hQ
  ·rw[if_neg h4]
   have hle:4<=N:=by
    refine Nat.not_lt.mp λIP=>h4 ?_;obtain⟨k,hk⟩: ∃k,4=N+k:=⟨4-N,by lia⟩
    rw[hk,C6,JJ _ ho];exact ho
   obtain⟨k,rfl⟩: ∃k,N=4+k:=⟨N-4,by lia⟩
   rw[C6] at ho hQ;refine AB (Eo ?_)
   by_cases ht:0<turns
   ·exact Qt turns k (m.runFor 4) ADp ho hQ ht
   ·obtain rfl:turns=0:=by lia
    obtain rfl:k=0:=by lia
    exact absurd ho h4
theorem MI(p:Nat->Bool)(f:Nat->String){Q:PUnit->Af->Prop}: ∀(l:Ay),Q ⟨⟩ s->BN Md A (ID l UP λi _=>if p i=true then(rule (f i)>>=λYa=>pure (DY UP)) else pure (DY UP)) Q E s
 |[],h=>AP h
 |i::r,h=>by
  rw[EP];have ih:=MI p f (Q:=Q) r h
  split
  ·exact AB (AB (Eo (AP ih)))
  ·exact AB (AP ih)
theorem oq{m:M}{N a b:Nat}(h:j3 (m.runFor N) a b)(hN:N<=4*2^64){Q:Option M->Af->Prop}(hQ: ∀m',j3 m' a b->Q (some m') s):BN Md A (reRunToEnd m) Q E s:=by
 obtain⟨x,hx,rfl⟩:=h.out;unfold reRunToEnd;refine AB (Qt (2^64) N m hN (by rw[hx];rfl) ?_ ADs)
 refine AB (m:=ID _ _ _) ?_;refine MI (λi=>(m.runFor N).seen.has i) (λi=>Sre.names.getD i "") _ ?_;rw[hx];exact AP (hQ _ h)
theorem V8{m:M}{N:Nat}(h:j6 (m.runFor N))(hN:N<=4*2^64){Q:Option M->Af->Prop}(hQ:Q none s):BN Md A (reRunToEnd m) Q E s:=by
 obtain⟨x,hx,rfl⟩:=h;unfold reRunToEnd;refine AB (Qt (2^64) N m hN (by rw[hx];rfl) ?_ ADs)
 refine AB (m:=ID _ _ _) ?_;refine MI (λi=>(m.runFor N).seen.has i) (λi=>Sre.names.getD i "") _ ?_;rw[hx];exact AP hQ
end
end
section
open PySem.Sre
open PySem.Builtin.Re
abbrev Wd:=Ay×Ay
def Wd.ok(w:Wd):Prop:=w.1≠[]/\(∀c∈w.1,ws c=true)/\w.2≠[]/\(∀c∈w.2,ws c=false)
def Et(l:List Wd):Ay:=l.flatMap λw=>w.1++w.2
noncomputable def Ij:Ay->List Wd->List Str
 |p,[]=>[⟨⟨p⟩⟩]
 |p,w::r=>⟨⟨p⟩⟩::⟨⟨w.1⟩⟩::Ij w.2 r
omit O
theorem PH{text:Array Nat}{s:Nat}{l:Ay}(h:text.toList.drop s=l)(j:Nat):text.getD (s+j) 0=l.getD j 0:=by
 subst h;rw[Ad,Jy,<-Ad];simp[MY,List.getD]
 split<;>simp_all
theorem Ol{text:Array Nat}{s n:Nat}{l:Ay}(h:text.toList.drop s=l):(⟨text.extract s (s+n)⟩:Str)=⟨⟨l.take n⟩⟩:=by
 subst h
 congr 1
 apply Array.toList_inj.mp;simp
section
variable{C:Cx}{A:AL}{E:Value->Af->Prop}
noncomputable def IX(t:ReTarget)(most:Int)(Ph:Bs×Nat×Nat×Bool×Int×Bool):Sem (ForInStep (Bs×Nat×Nat×Bool×Int×Bool)):=
 if(!Ph.2.2.2.2.2)=true then do
  let JY<-if(most != 0&&decide (Ph.2.2.2.2.1≥most))=true then pure none else reNextFound t Ph.2.1 Ph.2.2.2.1
  match JY with
   |none=>pure (DY (Ph.1,Ph.2.1,Ph.2.2.1,Ph.2.2.2.1,Ph.2.2.2.2.1,true))
   |some m=>do
    let JY<-reSlice t.text t.kind Ph.2.2.1 m.start
    let out<-ID (Ah t.groups) (Ph.1.push JY) λg out=>do
     let JY<-reMachineGroup t m (g+1) (pure CU)
     pure (DY (out.push JY))
    pure (DY (out,m.handed,m.handed,m.handed==m.start,Ph.2.2.2.2.1+1,Ph.2.2.2.2.2))
 else pure (DY Ph)
theorem aM(p v:Value):Builtin.«re.Pattern.split» ⟨[p,v],[]⟩=(do
 let t<-reWholeTarget p v
 let s<-ID (Ah (reMostMatches t)) ((#[]:Bs),0,0,false,(0:Int),false) λYa s=>IX t 0 s
 if(!s.2.2.2.2.2)=true then do
  unsupported "internal:re:more-matches-than-can-be"
  let x<-reSlice t.text t.kind s.2.2.1 t.lim
  ret (<-Sa (s.1.push x).toList)
 else do
  let x<-reSlice t.text t.kind s.2.2.1 t.lim
  ret (<-Sa (s.1.push x).toList)):=rfl
def Dy(p v:Value)(text:Array Nat):ReTarget:={pattern:=p,string:=v,code:=QJ,text,kind:=0,groups:=1,pos:=0,lim:=text.size}
theorem RA{n:Nat}(h:n<=4000000):n<=4*2^64:=AK h ADs
theorem Ra(w:Wd)(r:List Wd):Et (w::r)=w.1++w.2++Et r:=by simp[Et]
theorem Tz{M:Model}{t:ReTarget}{s:Af}{Q:(Bs×Nat×Nat×Bool×Int×Bool)->Af->Prop}{st:Bs×Nat×Nat×Bool×Int×Bool}(ho:st.2.2.2.2.2=true)(hQ:Q st s):
 ∀l:Ay,BN M A (ID l st λYa s=>IX t 0 s) Q E s
 |[]=>AP hQ
 |i::l=>by
  rw[EP];refine AB ?_;unfold IX;refine iN (by rw[ho];decide) ?_
  exact AP (Tz ho hQ l)
theorem Rt{M:Model}{pv v:Value}{text:Array Nat}(Is:text.size<=1000000): ∀(l:Ay) (r:List Wd) (p:Ay) (s:Nat) (out:Db) (n:Int) (st:Af) (Q:(Bs×Nat×Nat×Bool×Int×Bool)->Af->Prop),
 r.length+1<=l.length->s<=text.size->text.toList.drop s=p++Et r->(∀c∈p,ws c=false)->(∀w∈r,Wd.ok w)->
 (∀(NY:Db) (s':Nat) (m':Bool) (n':Int) (k:Nat),st.toks<=k->s'<=text.size->NY.map (·.1)++[⟨⟨text.toList.drop s'⟩⟩]=out.map (·.1)++Ij p r->Q (⟨NY.map rv⟩,s',s',m',n',true) {st with toks:=k})->
 BN M A (ID l ((⟨out.map rv⟩:Bs),s,s,false,n,false) λYa s=>IX (Dy pv v text) 0 s) Q E st
 |[],r,p,s,out,n,st,Q,hl,_,_,_,_,_=>absurd hl ADt
 |i::l,r,p,s,out,n,st,Q,hl,hs,hd,hp,hr,hQ=>by
  rw[EP];have hlen:text.toList.length=text.size:=by simp
  have Vo:(p++Et r).length=text.size-s:=by rw[<-hd,A6,hlen]
  have zW: ∀j,j<p.length->ws (text.getD (s+j) 0)=false:=λj hj=>by
   rw[PH hd,Ad,Ev hj,AJ hj];exact hp _ (Cn hj)
  refine AB ?_;unfold IX;refine iT (show(!false)=true from rfl) ?_;refine AB (m:=if((0:Int) != 0&&decide (n≥0))=true then pure none else reNextFound (Dy pv v text) s false) ?_
  refine iN ADt ?_
  show BN M A (reRunToEnd (forSearch QJ text 1 s text.size false)) _ _ _;cases r with
  |nil=>
   have iQ:s+p.length=text.size:=by simp[Et] at Vo;lia
   have s6:BN M A (pure (DY ((⟨out.map rv⟩:Bs),s,s,false,n,true))) (λa s'=>BN M A (match a with|ForInStep.done b=>pure b|DY b=>ID l b λYa s=>IX (Dy pv v text) 0 s) Q E s') E st:=by
    refine AP (Tz rfl ?_ l);refine hQ out s false n st.toks (Am _) hs ?_;rw[hd];simp[Et,Ij]
   by_cases IP:s<text.size
   ·rw[Rc text text.size s IP]
    exact V8 (N:=3*p.length+4) (QL text text.size s ADp p.length s true none none _ iQ zW) (RA ADp) s6
   ·obtain rfl:s=text.size:=by lia
    exact V8 (N:=1) (SF text text.size) (RA ADp) s6
  |cons w r=>
   obtain⟨h1,h2,h3,h4⟩:=hr w (.head _);rw[Ra] at hd Vo;have hk:0<w.1.length:=List.length_pos_iff.mpr h1;have hq:0<w.2.length:=List.length_pos_iff.mpr h3;simp only[AX] at Vo;have hww: ∀j,j<w.1.length->ws (text.getD (s+p.length+j) 0)=true:=λj hj=>by
    rw[show s+p.length+j=s+(p.length+j) from by lia,PH hd,Ad,El ADp,show p.length+j-p.length=j from by lia,AG,Ev hj,AJ hj]
    exact h2 _ (Cn hj)
   have hwn:ws (text.getD (s+p.length+w.1.length) 0)=false:=by
    rw[show s+p.length+w.1.length=s+(p.length+w.1.length) from by lia,PH hd,Ad,El ADp,show p.length+w.1.length-p.length=w.1.length from by lia,AG,
     El ADp,Qc,Ev hq,AJ hq]
    exact h4 _ (Cn hq)
   rw[Rc text text.size s ADp]
   refine oq (N:=3*p.length+7) (a:=s+p.length) (b:=s+p.length+w.1.length) (Ou text text.size s w.1.length ADp hk p.length s true none none _ ADp zW hww λYa=>hwn) (RA ADp) λm hm=>?_
   have x1:=Ol (n:=p.length) hd;have hd2:text.toList.drop (s+p.length)=w.1++w.2++Et r:=by rw[<-Hy,hd,Jx]
   have x2:=Ol (n:=w.1.length) hd2;have hd3:text.toList.drop (s+p.length+w.1.length)=w.2++Et r:=by rw[<-Hy,hd2,AG,Jx]
   rw[H1] at x1;rw[AG,H1] at x2;refine AB (m:=reSlice text 0 s m.start) ?_;rw[hm.start];show BN M A (mkStr ⟨text.extract s (s+p.length)⟩) _ _ _;rw[x1];refine R1 ?_ (by show p.length<=_;rw[Br];lia)
   refine AB (m:=ID (Ah 1) _ _) ?_;rw[show Ah 1=[0] from rfl,EP];refine AB (AB (m:=reMachineGroup (Dy pv v text) m (0+1) (pure CU)) ?_);unfold reMachineGroup;refine iN (by rw[hm.last];decide) ?_
   rw[show m.marks.getD (2*(0+1-1)) none=some (s+p.length) from hm.m0,show m.marks.getD (2*(0+1-1)+1) none=some (s+p.length+w.1.length) from hm.m1];show BN M A (if s+p.length+w.1.length<s+p.length then _ else reSlice text 0 (s+p.length) (s+p.length+w.1.length)) _ _ _
   refine iN ADp ?_
   show BN M A (mkStr ⟨text.extract (s+p.length) (s+p.length+w.1.length)⟩) _ _ _;rw[x2];refine R1 ?_ (by show w.1.length<=_;rw[Br];lia)
   refine AP (AP (AP ?_));rw[hm.handed,show(s+p.length+w.1.length==s+p.length)=false from by rw[beq_eq_false_iff_ne];lia]
   have dM:((⟨out.map rv⟩:Bs).push (.str ⟨⟨p⟩⟩ st.toks)).push (.str ⟨⟨w.1⟩⟩ (st.toks+1))=⟨(out++[((⟨⟨p⟩⟩:Str),st.toks),((⟨⟨w.1⟩⟩:Str),st.toks+1)]).map rv⟩:=by
    apply Array.toList_inj.mp;simp[rv]
   show BN M A (ID l (((⟨out.map rv⟩:Bs).push (.str ⟨⟨p⟩⟩ st.toks)).push (.str ⟨⟨w.1⟩⟩ (st.toks+1)),s+p.length+w.1.length,s+p.length+w.1.length,false,n+1,false) _) _ _ _;rw[dM];refine Rt Is l r w.2 (s+p.length+w.1.length) _ (n+1) _ Q (by simp at hl⊢;lia) ADp hd3 h4 (λx hx=>hr x (.tail _ hx)) λNY s' m' n' k Tc P6 he=>?_
   refine hQ NY s' m' n' k (AK (Gd _ 2) Tc) P6 (he.trans ?_);simp[Ij]
end
include O
theorem eD(U:AA 1 A)(x:Str)(t:Nat):
 AS B A ((reWholeTarget (.ref 43) (.str x t):Sem ReTarget)) [] (Dy (.ref 43) (.str x t) x.cps) []:=
 rn O U (.g 4096<|.fi () [])
theorem Wn(U:AA 1 A)(x:Str)(t:Nat):
 AS B A (AU "re.Pattern.split" ⟨[.ref 43,.str x t],[]⟩) [] () []:=
 by apply Hc O U (.g 64<|.fi () [])
omit O
theorem XG:C1 FZ "re.Pattern.split"=some Builtin.«re.Pattern.split»:=B2 ADq
theorem NZ: ∀(r:List Wd) (p:Ay),(Ij p r).length=2*r.length+1
 |[],p=>rfl
 |w::r,p=>by simp only[Ij,Ap,NZ r];lia
theorem Om: ∀(r:List Wd),(∀w∈r,Wd.ok w)->2*r.length<=(Et r).length
 |[],_=>by simp
 |w::r,h=>by
  have:=Om r λx hx=>h x (.tail _ hx)
  obtain⟨h1,_,h3,_⟩:=h w (.head _)
  have:=List.length_pos_iff.mpr h1
  have:=List.length_pos_iff.mpr h3
  rw[Ra];simp only[AX,Ap]
  lia
include O
theorem Ui(U:AA 1 A)(x:Str)(t:Nat)(words:List Wd)(h:x.cps.toList=Et words)(hw: ∀w∈words,Wd.ok w)(Is:x.length<=100000):
 AC B.C A (Builtin.«re.Pattern.split» ⟨[.ref 43,.str x t],[]⟩) [] (λp:{p:Nat×Db//p.2.map (·.1)=Ij [] words}=>Az (.ret (J p.1.1))) (λp=>[AE p.1.1 (p.1.2.map rv)]):=by
 intro R s S;have hx:x.cps.size<=100000:=Is;have uw:=Om words hw;have zF:(Et words).length=x.cps.size:=by rw[<-h];simp
 rw[aM];refine AB (AC.wp (eD O U x t) S λYa s₁ S₁=>?_);refine AB (m:=ID _ _ _) ?_;refine Rt ADp _ words [] 0 [] 0 s₁ _ (by rw[Dv];show _<=2*x.cps.size+3;lia) (By _) (by rw[Du,h];rfl) (λc hc=>nomatch hc) hw λNY s' m' n' k hk P6 he=>?_
 have hl:(NY.length+1)=2*words.length+1:=by
  have:=congrArg C7 he
  simp only[AX,AD,G5,NZ,Ap] at this
  lia
 show BN _ _ (if(!true)=true then _ else _) _ _ _
 refine iN ADs ?_
 refine AB (m:=reSlice x.cps 0 s' x.cps.size) ?_;show BN _ _ (mkStr ⟨x.cps.extract s' x.cps.size⟩) _ _ _;have e2:(⟨x.cps.extract s' x.cps.size⟩:Str)=⟨⟨x.cps.toList.drop s'⟩⟩:=by
  congr 1
  apply Array.toList_inj.mp;simp only[GO,Ma];exact EX (by rw[A6];simp)
 rw[e2];refine R1 ?_ (by show(x.cps.toList.drop s').length<=_;rw[Br,A6];simp;lia)
 have dM:((⟨NY.map rv⟩:Bs).push (.str ⟨⟨x.cps.toList.drop s'⟩⟩ k)).toList=(NY++[((⟨⟨x.cps.toList.drop s'⟩⟩:Str),k)]).map rv:=by simp[rv]
 show BN _ _ (Sa ((⟨NY.map rv⟩:Bs).push (.str ⟨⟨x.cps.toList.drop s'⟩⟩ k)).toList>>=λv=>ret v) _ _ _;rw[dM];have S₂:St B.C R {s₁ with toks:=k+1}:=St.toks (S₁) (k+1) (AK hk (Eb _))
 refine AB (DS (AP ?_) (by show((NY++[_]).map rv).length<=_;rw[Br,AD,AX];simp;lia))
 refine⟨⟨(s₁.heap.objs.size-323,NY++[((⟨⟨x.cps.toList.drop s'⟩⟩:Str),k)]),by rw[AZ];exact he⟩,?_,?_⟩
 ·show _=Az (.ret (.ref (s₁.heap.objs.size-323+323)))
  rw[<-St.size_eq O S₁]
 ·show St B.C (.one (s₁.heap.objs.size-323+323) _::_) _
  rw[<-St.size_eq O S₁];exact S₂.alloc rfl ⟨G0,rfl⟩
structure tu(words:List Wd) where
 a:Nat
 rs:Db
 ok:rs.map (·.1)=Ij [] words
def W5(U:AA 3 A)(x:Str)(t:Nat)(words:List Wd)(h:x.cps.toList=Et words)(hw: ∀w∈words,Wd.ok w)(Is:x.length<=100000):Ag B.C A where
 c:=.call (.builtin "re.Pattern.split") ⟨[.ref 43,.str x t],[]⟩
 F:=[]
 X:=tu words
 res:=λp=>.ok (.ret (J p.a))
 led:=λp=>[AE p.a (p.rs.map rv)]
 ok:=BF ADr XG (Wn O U.l.in1 x t) ((Ui O U.l.in1 x t words h hw Is).weaken λp=>⟨⟨p.1.1,p.1.2,p.2⟩,rfl,λR s S=>S⟩)
end
abbrev FA(z:Nat)(f:Value)(b:Bool)(i k:Nat):Bi:=.one (z+323) (.ex ⟨.type "zip",none,.fields ⟨[f,.bool b,.bool false,J i,J k]⟩,⟨[]⟩⟩)
def Yt(U:AA 3 A)(x t:Nat)(xs:Ak):Ag B.C A:=
 DN O U "int.__rmul__" [.int 2 t,J x] [AE x xs] (λYa:Unit=>.notImplemented) (λYa=>[AE x xs]) (λU=>.fi () [0]) λU=>.g 65<|.fi () [0]
def bz(U:AA 3 A)(x t:Nat)(v:Value):Ag B.C A:=
 DN O U "list.__mul__" [J x,.int 2 t] [AE x [v]] (λa:Nat=>J a) (λa=>[AE a [v,v],AE x [v]]) (λU=>.g 65<|.fi () [0]) λU=>.g 65<|.al λa0=>.fi (a0) [0,0]
theorem bP(U:AA 6 A)(x:Nat)(xs:Ak):
 AS B A (AU "iter" ⟨[J x],[]⟩) [AE x xs] () [AE x xs]:=by apply oY O U (.fi () [0])
theorem cb(U:AA 6 A)(x:Nat)(xs:Ak):
 AC B.C A (BM (.builtin "iter" ⟨[J x],[]⟩)) [AE x xs]
  (λa:Nat=>.done (.ret (J a)))
  (λa=>[BQ a x 0,AE x xs]):=by
 obtain⟨_,_|_⟩:=B<;>exact rn O U (.g 4161<|.cc (Bt O U.l x xs) [0] λy0=>.g 65<|.fi (y0) [0,0])
def O_(U:AA 7 A)(x:Nat)(xs:Ak):Ag B.C A where
 c:=.call (.builtin "iter") ⟨[J x],[]⟩
 F:=[AE x xs]
 X:=Nat
 res:=λa=>.ok (.ret (J a))
 led:=λa=>[BQ a x 0,AE x xs]
 ok:=HA ADr (bP O U.in1 x xs) (cb O U.in1 x xs)
theorem YX(U:AA 6 A)(x a i:Nat):
 AS B A (AU "zip.__new__" ⟨[.type "zip",J a,J a],[]⟩) [BQ a x i] () [BQ a x i]:=by apply oY O U (.fi () [0])
theorem ZI(U:AA 6 A)(x a i:Nat):
 AC B.C A (BM (.builtin "zip.__new__" ⟨[.type "zip",J a,J a],[]⟩)) [BQ a x i]
  (λp:Nat×Nat×Nat=>.done (.ret (J p.1)))
  (λp=>[FA p.1 .none false p.2.1 p.2.2,AV p.2.1 [J a,J a],AV p.2.2 [.none,.none],BQ a x i]):=by
 obtain⟨_,_|_⟩:=B<;>exact rn O U (.g 4161<|.cc (NF O U.l a x i) [0] λYa=>.g 266305<|.cc (NF O U.l a x i) [0] λYa=>.g 65<|.al λa2=>.al λa3=>.al λa4=>.fi (a4,a2,a3) [0,1,0,0])
def ZA(U:AA 7 A)(x a i:Nat):Ag B.C A where
 c:=.call (.builtin "zip.__new__") ⟨[.type "zip",J a,J a],[]⟩
 F:=[BQ a x i]
 X:=Nat×Nat×Nat
 res:=λp=>.ok (.ret (J p.1))
 led:=λp=>[FA p.1 .none false p.2.1 p.2.2,AV p.2.1 [J a,J a],AV p.2.2 [.none,.none],BQ a x i]
 ok:=HA ADr (YX O U.in1 x a i) (ZI O U.in1 x a i)
def XA(U:AA 3 A)(z a i k:Nat):Ag B.C A:=
 DN O U "object.__init__" [J z,J a,J a] [FA z .none false i k] (λYa:Unit=>.none) (λYa=>[FA z .none false i k]) (λU=>.g 65<|.fi () [0]) λU=>.g 65<|.fi () [0]
theorem zgo(U:AA 1 A)(x a i:Nat):
 AS B A (BM (.call (.type "zip") ⟨[J a,J a],[]⟩)) [BQ a x i] (.again (.builtin "type.__call__" ⟨[.type "zip",J a,J a],[]⟩)) [BQ a x i]:=
 rn O U (.fi () [0])
theorem zty(U:AA 10 A)(x a i:Nat):
 AC B.C A (BM (.builtin "type.__call__" ⟨[.type "zip",J a,J a],[]⟩)) [BQ a x i]
  (λp:Nat×Nat×Nat=>.done (.ret (J p.1)))
  (λp=>[FA p.1 .none false p.2.1 p.2.2,AV p.2.1 [J a,J a],AV p.2.2 [.none,.none],BQ a x i]):=
 rn O U (.cc (ZA O U.l x a i) [0] λ(y0:Nat×Nat×Nat)=>.g 4161<|.cc (XA O U.l y0.fst a y0.snd.fst y0.snd.snd) [0] λYa=>.fi (y0) (BW 4))
def cW(U:AA 3 A)(z i k:Nat)(f:Value)(b:Bool):Ag B.C A:=
 DN O U "zip.__iter__" [J z] [FA z f b i k] (λYa:Unit=>J z) (λYa=>[FA z f b i k]) (λU=>.g 65<|.fi () [0]) λU=>.fi () [0]
theorem YY(U:AA 6 A)(z j k a x i:Nat)(xs:Ak)(v w:Value)(h1:xs[i]? =some v)(h2:xs[i+1]? =some w):
 AS B A (AU "zip.__next__" ⟨[J z],[]⟩) [FA z .none false j k,AV j [J a,J a],AV k [.none,.none],BQ a x i,AE x xs] () [FA z .none false j k,AV j [J a,J a],AV k [.none,.none],BQ a x i,AE x xs]:=by apply oY O U (.g 65<|.fi () (BW 5))
theorem ZJ(U:AA 6 A)(z j k a x i:Nat)(xs:Ak)(v w:Value)(h1:xs[i]? =some v)(h2:xs[i+1]? =some w):
 AC B.C A (BM (.builtin "zip.__next__" ⟨[J z],[]⟩)) [FA z .none false j k,AV j [J a,J a],AV k [.none,.none],BQ a x i,AE x xs]
  (λp:Nat=>.done (.ret (J p)))
  (λp=>[FA z (.int ((p+323:Nat):Int) 0) false j k,AV j [J a,J a],AV k [v,w],BQ a x (i+2),AE x xs,AV p [v,w]]):=rb O U (.g 301267276800065<|.cc (Fe O U.l a x i xs v h1) [3,3] λYa=>.g 1091977541<|.cc (Fe O U.l a x (i+1) xs w h2) [0,0] λYa=>.g 1159086405<|.al λa2=>.g 25970884<|.fi (a2) [3,3,3,1,1,0])
def ZB(U:AA 7 A)(z j k a x i:Nat)(xs:Ak)(v w:Value)(h1:xs[i]? =some v)(h2:xs[i+1]? =some w):Ag B.C A where
 c:=.call (.builtin "zip.__next__") ⟨[J z],[]⟩
 F:=[FA z .none false j k,AV j [J a,J a],AV k [.none,.none],BQ a x i,AE x xs]
 X:=Nat
 res:=λp=>.ok (.ret (J p))
 led:=λp=>[FA z (.int ((p+323:Nat):Int) 0) false j k,AV j [J a,J a],AV k [v,w],BQ a x (i+2),AE x xs,AV p [v,w]]
 ok:=HA ADr (YY O U.in1 z j k a x i xs v w h1 h2) (ZJ O U.in1 z j k a x i xs v w h1 h2)
theorem YZ(U:AA 6 A)(z j k a x i tp tq:Nat)(xs:Ak)(v w:Value)(f e:Str)(h1:xs[i]? =some v)(h2:xs[i+1]? =some w):
 AS B A (AU "zip.__next__" ⟨[J z],[]⟩) [FA z .none false j k,AV j [J a,J a],AV k [.str f tp,.str e tq],BQ a x i,AE x xs] () [FA z .none false j k,AV j [J a,J a],AV k [.str f tp,.str e tq],BQ a x i,AE x xs]:=by apply oY O U (.g 65<|.fi () (BW 5))
theorem ZK(U:AA 6 A)(z j k a x i tp tq:Nat)(xs:Ak)(v w:Value)(f e:Str)(h1:xs[i]? =some v)(h2:xs[i+1]? =some w):
 AC B.C A (BM (.builtin "zip.__next__" ⟨[J z],[]⟩)) [FA z .none false j k,AV j [J a,J a],AV k [.str f tp,.str e tq],BQ a x i,AE x xs]
  (λp:Nat=>.done (.ret (J p)))
  (λp=>[FA z (.int ((p+323:Nat):Int) 0) false j k,AV j [J a,J a],AV k [v,w],BQ a x (i+2),AE x xs,AV p [v,w]]):=rb O U (.g 301267276800065<|.cc (Fe O U.l a x i xs v h1) [3,3] λYa=>.g 1091977541<|.cc (Fe O U.l a x (i+1) xs w h2) [0,0] λYa=>.g 1159086405<|.al λa2=>.g 25970884<|.fi (a2) [3,3,3,1,1,0])
def ZC(U:AA 7 A)(z j k a x i tp tq:Nat)(xs:Ak)(v w:Value)(f e:Str)(h1:xs[i]? =some v)(h2:xs[i+1]? =some w):Ag B.C A where
 c:=.call (.builtin "zip.__next__") ⟨[J z],[]⟩
 F:=[FA z .none false j k,AV j [J a,J a],AV k [.str f tp,.str e tq],BQ a x i,AE x xs]
 X:=Nat
 res:=λp=>.ok (.ret (J p))
 led:=λp=>[FA z (.int ((p+323:Nat):Int) 0) false j k,AV j [J a,J a],AV k [v,w],BQ a x (i+2),AE x xs,AV p [v,w]]
 ok:=HA ADr (YZ O U.in1 z j k a x i tp tq xs v w f e h1 h2) (ZK O U.in1 z j k a x i tp tq xs v w f e h1 h2)
theorem Wo(U:AA 6 A)(z j k a x i tp tq:Nat)(xs:Ak)(f e:Str)(h1:xs.length<=i):
 AS B A (AU "zip.__next__" ⟨[J z],[]⟩) [FA z .none false j k,AV j [J a,J a],AV k [.str f tp,.str e tq],BQ a x i,AE x xs] () [FA z .none false j k,AV j [J a,J a],AV k [.str f tp,.str e tq],BQ a x i,AE x xs]:=by apply oY O U (.g 65<|.fi () (BW 5))
theorem XF(U:AA 6 A)(z j k a x i tp tq:Nat)(xs:Ak)(f e:Str)(h1:xs.length<=i):
 BG B.C A (BM (.builtin "zip.__next__" ⟨[J z],[]⟩)) [FA z .none false j k,AV j [J a,J a],AV k [.str f tp,.str e tq],BQ a x i,AE x xs]
  (λp:Nat×Nat=>J p.1)
  (λp=>[.one (p.1+323) (NJ "StopIteration" p.2)]):=by
 obtain⟨_,_|_⟩:=B<;>exact d0 O U (.g 301267276800065<|.cc (RQ O U.l a x i xs h1) [3,3] λy0=>.g 6275<|.fi (y0) [0])
def XB(U:AA 7 A)(z j k a x i tp tq:Nat)(xs:Ak)(f e:Str)(h1:xs.length<=i):Ag B.C A where
 c:=.call (.builtin "zip.__next__") ⟨[J z],[]⟩
 F:=[FA z .none false j k,AV j [J a,J a],AV k [.str f tp,.str e tq],BQ a x i,AE x xs]
 X:=Nat×Nat
 res:=λp=>.error (J p.1)
 led:=λp=>[.one (p.1+323) (NJ "StopIteration" p.2)]
 ok:=KC ADr (Wo O U.in1 z j k a x i tp tq xs f e h1) (XF O U.in1 z j k a x i tp tq xs f e h1)
def lT(U:AA 12 A)(x a i:Nat):Ag B.C A where
 c:=.call (.type "zip") ⟨[J a,J a],[]⟩
 F:=[BQ a x i]
 X:=Nat×Nat×Nat
 res:=λp=>.ok (.ret (J p.1))
 led:=λp=>[FA p.1 .none false p.2.1 p.2.2,AV p.2.1 [J a,J a],AV p.2.2 [.none,.none],BQ a x i]
 ok:=Dn (zgo O (A:=A.under (.call (.type "zip") ⟨[J a,J a],[]⟩)) (U.l.ca _ _) x a i) (F0 _) (zty O (A:=A.under (.builtin "type.__call__" ⟨[.type "zip",J a,J a],[]⟩)) (U.l.ty _) x a i)
omit O
section
variable{C:Cx}{A:AL}
theorem Si{l:Addr}{c:Value}{d:Option Addr}{xs:Ak}{v:Value}{t:Nat}(hx:xs.length<1000):
 AC C A (Builtin.«list.pop» ⟨[.ref l,.int 0 t],[]⟩) [.one l (.ls c d (v::xs))] (λYa:Unit=>Az (.ret v)) (λYa=>[.one l (.ls c d xs)]):=by
 intro R s S;obtain⟨g,ho⟩:=S.Dj;unfold Builtin.«list.pop»;refine AB (m:=selfAndSome "list.pop" "pop" 0 1 _) (AP ?_)
 dsimp only
 refine AB (m:=asIndex (.int 0 t)) (AP ?_);refine iN (show¬((!GP 0)=true) by decide) ?_
 refine AB (m:=A7 _) ?_;unfold A7;refine AB (DG ho rfl (AP ?_));refine iN ADt ?_
 have hk:((F4 0 ((⟨v::xs⟩:Bs).size)).bind λk=>((⟨v::xs⟩:Bs)[k]?).map (k, ·))=some (0,v):=by
  have h1:F4 0 ((⟨v::xs⟩:Bs).size)=some 0:=by
   show F4 0 (v::xs).length=_;unfold F4;simp
  rw[h1];simp
 rw[hk];have he:((⟨v::xs⟩:Bs).eraseIdxIfInBounds 0)=⟨xs⟩:=by
  apply Array.toList_inj.mp;simp
 refine AB (m:=Df _ _) (G9 ho rfl (AP ⟨(),rfl,?_⟩) ?_ ?_)
 ·refine(St.Np S (t:=s.toks) (B1 ..) (CO _ ho ?_) (ao':=.ls c d xs) ?_)
  ·rfl
  ·exact MP he
 ·show(v::xs).length<=_
  rw[Br,Ap];lia
 ·rw[he]
  show xs.length<=_;rw[Br];lia
end
include O
theorem bQ(U:AA 1 A)(x t:Nat)(xs:Ak):
 AS B A (AU "list.pop" ⟨[J x,.int 0 t],[]⟩) [AE x xs] () [AE x xs]:=
 by apply Hc O U (.g 65<|.fi () [0])
def b0(U:AA 3 A)(x t:Nat)(v:Value)(xs:Ak)(hx:xs.length<1000):Ag B.C A where
 c:=.call (.builtin "list.pop") ⟨[J x,.int 0 t],[]⟩
 F:=[AE x (v::xs)]
 X:=Unit
 res:=λYa=>.ok (.ret v)
 led:=λYa=>[AE x xs]
 ok:=BF ADr ZO (bQ O U.l.in1 x t (v::xs)) (Si hx)
noncomputable def PA{B:Bx}{A:AL}(O:B.C.Ok)(U:AA 3 A)(x y:Str)(t u:Nat)(hx:x.length≠0)(hy:y.length≠0)(hs:x.length+y.length<=1000000):Ag B.C A where
 c:=.call (.builtin "str.__add__") ⟨[.str x t,.str y u],[]⟩
 F:=[]
 X:=Nat
 res:=λk=>.ok (.ret (.str (x++y) k))
 led:=λYa=>[]
 ok:=M_ PySem.F.slot_str_add PySem.F.entry_str_add (PySem.F.args_str_add_2 _ _)
  (by
   have:=gives_str_add x y t u
   rw[if_neg (by simpa using hx),if_neg (by simpa using hy)] at this
   exact this) (λs=>rfl) (by
   show(x.cps++y.cps).size<=_
   rw[Hv,Br];have e1:x.length=x.cps.size:=rfl;have e2:y.length=y.cps.size:=rfl
   lia)
def OM:Expr:=tE (mN 6 7 2)
def Pk:Dx:=nB (mN 6 7 2)
omit O
section
variable{B:Bx}{A:AL}{F:AN}
theorem AT.P4{Dy:Expr}{it:Value}{body orelse:Dx}{env:Env}{X Y Z:Type}{v:X->Value}{L1 L2 L3:X->AN}{fl:OV}(uw:fl=.next∨fl=.cont){L4:X->Y->AN}{res:Z->Result}{led:Z->AN}
 (h1:AC B.C (A.under (.forLoop Dy it body orelse env)) (FK it) F (λx=>some (v x)) L1)
 (h2: ∀x,AC B.C (A.under (.forLoop Dy it body orelse env)) (Fw Dy it (v x)) (L1 x) (λYa:Unit=>()) (λYa=>L2 x))
 (h3: ∀x,AC B.C (A.under (.forLoop Dy it body orelse env)) (Bo Dy env (v x)) (L2 x) (λYa:Unit=>()) (λYa=>L3 x))
 (h4: ∀x,AC B.C (A.under (.forLoop Dy it body orelse env)) (Ac body env) (L3 x) (λYa:Y=>fl) (L4 x))
 (h5: ∀x y,AT B.C A (.forLoop Dy it body orelse env) (L4 x y) res led):AT B.C A (.forLoop Dy it body orelse env) F res led:=λR s S=>by
 refine BL ?_;show BN _ _ ((forTurn Dy it body orelse env).onRaise (λx=>do E0 x env;EQ x)) _ _ s;refine DT (Av ?_ (λYa Ya q=>q) (λYa Ya (q:False)=>q.elim));simp only[forTurn];refine AB (DU (AB (DT (AC.wp h1 S λx s₁ S₁=>?_))));refine AB (AC.wp (h2 x) S₁ λYa s₂ S₂=>?_);refine AB (AC.wp (h3 x) S₂ λYa s₃ S₃=>?_);refine AB (AC.wp (h4 x) S₃ λy s₄ S₄=>?_)
 rcases uw with rfl|rfl<;>exact AP ⟨rfl,h5 x y R s₄ S₄⟩
theorem AT.SR{Dy:Expr}{it:Value}{body orelse:Dx}{env:Env}{X Z:Type}{L1:X->AN}{res:Z->Result}{led:Z->AN}
 (h1:AC B.C (A.under (.forLoop Dy it body orelse env)) (FK it) F (λx:X=>none) L1)
 (h2: ∀x,AT B.C A (.block orelse env) (L1 x) res led):AT B.C A (.forLoop Dy it body orelse env) F res led:=λR s S=>by
 refine BL ?_;show BN _ _ ((forTurn Dy it body orelse env).onRaise (λx=>do E0 x env;EQ x)) _ _ s;refine DT (Av ?_ (λYa Ya q=>q) (λYa Ya (q:False)=>q.elim));simp only[forTurn];refine AB (DU (AB (DT (AC.wp h1 S λx s₁ S₁=>?_))));exact AP ⟨rfl,h2 x R s₁ S₁⟩
theorem AT.SO(env:Env):AT B.C A (.block [] env) F (λYa:Unit=>.ok .next) (λYa=>F):=λR s S=>by
 refine BL ?_;show BN _ _ (((Ac [] env).onRaise (λx=>do E0 x env;EQ x))>>=λf=>pure (Az f)) _ _ s;refine AB (DT (Fy ?_));exact AP ⟨(),rfl,S⟩
end
include O
theorem fR(U:AA 12 A)(z j k a x i:Nat)(xs:Ak)(f p:Str)(tf tp:Nat)(h1:xs[i]? =some (.str f tf))(h2:xs[i+1]? =some (.str p tp)):
 AC B.C A (FK (J z)) [FA z .none false j k,AV j [J a,J a],AV k [.none,.none],BQ a x i,AE x xs]
  (λo:Nat=>some (J o))
  (λo=>[FA z (.int ((o+323:Nat):Int) 0) false j k,AV j [J a,J a],AV k [.str f tf,.str p tp],BQ a x (i+2),AE x xs,AV o [.str f tf,.str p tp]]):=dw O U (.g 65<|.cc (ZB O U.l z j k a x i xs (.str f tf) (.str p tp) h1 h2) (BW 5) λy0=>.fi (y0) (BW 6))
theorem fT(U:AA 12 A)(z j k a x i:Nat)(xs:Ak)(f p f' p':Str)(tf tp tf' tp':Nat)(h1:xs[i]? =some (.str f tf))(h2:xs[i+1]? =some (.str p tp)):
 AC B.C A (FK (J z)) [FA z .none false j k,AV j [J a,J a],AV k [.str f' tf',.str p' tp'],BQ a x i,AE x xs]
  (λo:Nat=>some (J o))
  (λo=>[FA z (.int ((o+323:Nat):Int) 0) false j k,AV j [J a,J a],AV k [.str f tf,.str p tp],BQ a x (i+2),AE x xs,AV o [.str f tf,.str p tp]]):=dw O U (.g 65<|.cc (ZC O U.l z j k a x i tf' tp' xs (.str f tf) (.str p tp) f' p' h1 h2) (BW 5) λy0=>.fi (y0) (BW 6))
theorem fS(U:AA 12 A)(z j k a x i:Nat)(xs:Ak)(f' p':Str)(tf' tp':Nat)(h1:xs.length<=i):
 AS B A (FK (J z)) [FA z .none false j k,AV j [J a,J a],AV k [.str f' tf',.str p' tp'],BQ a x i,AE x xs] ((none:DP)) []:=dw O U (.g 65<|.cc (XB O U.l z j k a x i tf' tp' xs f' p' h1) (BW 5) λYa=>.g 65<|.fi () [])
theorem kB(U:AA 12 A)(L o x sv pa:Nat)(f p f0 s0 c0:Str)(tf tp t0 t1 t2:Nat):
 AS B A (Bo OM (AR B.P 106 [] (L+323)) (J o)) [AI L [(AM,J x),(Bp,.str f0 t0),(A0,.str s0 t1),(Ba,.str c0 t2),(Ei,J pa)],AV o [.str f tf,.str p tp]] () [AI L [(AM,J x),(Bp,.str f tf),(A0,.str s0 t1),(Ba,.str c0 t2),(Ei,J pa),(OE,.str p tp)]]:=by
 obtain⟨_,_|_⟩:=B<;>exact Ef O U (.g 270466<|.cc (Ff O U.l o [.str f tf,.str p tp]) [1] λy0=>.g 4161<|.cc (E1 O U.l y0 o (.str f tf) (.str p tp)) [0,0] λYa=>.g 65<|.cc (E2 O U.l y0 o (.str f tf) (.str p tp)) [0,0] λYa=>.g 65<|.cc (E3 O U.l y0 o (.str f tf) (.str p tp)) [0,0] λYa=>.g 65<|.fr λk4=>.g 6275<|.fr λk5=>.g 6275<|.fi () [2])
theorem kC(U:AA 12 A)(L o x sv pa:Nat)(f p f0 s0 c0 p0:Str)(tf tp t0 t1 t2 t3:Nat):
 AS B A (Bo OM (AR B.P 106 [] (L+323)) (J o)) [AI L [(AM,J x),(Bp,.str f0 t0),(A0,.str s0 t1),(Ba,.str c0 t2),(Ei,J pa),(OE,.str p0 t3)],AV o [.str f tf,.str p tp]] () [AI L [(AM,J x),(Bp,.str f tf),(A0,.str s0 t1),(Ba,.str c0 t2),(Ei,J pa),(OE,.str p tp)]]:=by
 obtain⟨_,_|_⟩:=B<;>exact Ef O U (.g 270466<|.cc (Ff O U.l o [.str f tf,.str p tp]) [1] λy0=>.g 4161<|.cc (E1 O U.l y0 o (.str f tf) (.str p tp)) [0,0] λYa=>.g 65<|.cc (E2 O U.l y0 o (.str f tf) (.str p tp)) [0,0] λYa=>.g 65<|.cc (E3 O U.l y0 o (.str f tf) (.str p tp)) [0,0] λYa=>.g 65<|.fr λk4=>.g 6275<|.fr λk5=>.g 6275<|.fi () [2])
theorem kD(U:AA 62 A)(L pa x dx m u t3 t5 t4 l y dy:Nat)(h:FX)(fr:Ay)(p s0 c0:Str)(tf tp t1 t2:Nat)(hS:B.Std)(hI:CY (h.AH++[It.mk 0 ⟨⟨32::fr⟩⟩ tf p tp]))(hn:h.n<=1000)(hr:h.rs.length<=900):
 AC B.C A (Ac Pk (AR B.P 106 [] (L+323))) [AI L [(AM,J x),(Bp,.str ⟨⟨32::fr⟩⟩ tf),(A0,.str s0 t1),(Ba,.str c0 t2),(Ei,J pa),(OE,.str p tp)],BO x dx,Bc dx m u t3 t5 t4 l y,BS y dy h.AH,A3 dy (.int (h.n:Int) h.t),Ai h.AH,AE l (h.rs.map rv)]
  (λq:X1 m h.ab (⟨⟨32::fr⟩⟩,p)=>.next)
  (λq=>[AI L [(AM,J x),(Bp,.str ⟨⟨32::fr⟩⟩ tf),(A0,.str s0 t1),(Ba,.str c0 t2),(Ei,J pa),(OE,.str p tp)],BO x dx,Bc dx m u t3 t5 t4 l y,BS y dy q.g.AH,A3 dy (.int (q.g.n:Int) q.g.t),Ai q.g.AH,AE l (q.g.rs.map rv)]):=
 D7 O U (.g 20774341017208481815903323128070273<|.cc (eT O hS U.l x dx m u t3 t5 t4 l y dy h fr p tf tp hI hn hr) [1,1,1,1,1,1] λy0=>.fi (y0) (6::BW 6))
structure Bd(k:Nat)(a:Ab):Prop where
 n:a.n<=1000
 rows:a.rows.length<=k
 cur:a.cur.length<=k
 parts: ∀c∈a.cur,c.1.length<=500/\c.2.length<=500
omit O
theorem Bd.step{k m:Nat}{a:Ab}(h:Bd k a){c:Str×Str}(hc:c.1.length<=500/\c.2.length<=500):Bd (k+1) (a.step m c):=by
 obtain⟨rows,cur,n⟩:=a;obtain⟨h1,h2,h3,h4⟩:=h
 dsimp only at h1 h2 h3 h4
 have one: ∀d∈[c],d.1.length<=500/\d.2.length<=500:=λd hd=>by rw[List.mem_singleton.mp hd];exact hc
 unfold Ab.step
 dsimp only
 split
 ·refine⟨h1,by dsimp only;lia,by simp;lia,λd hd=>?_⟩
  rcases List.mem_append.mp hd with hd|hd
  ·exact h4 d hd
  ·exact one d hd
 ·split
  ·refine⟨By _,?_,by simp,one⟩
   dsimp only
   split
   ·lia
   ·simp;lia
  ·exact⟨By _,by simp;lia,by simp,one⟩
theorem Bd.small{k:Nat}{h:FX}(b:Bd k h.ab)(hk:k<=400){f p:Str}{tf tp:Nat}(hc:f.length<=500/\p.length<=500):CY (h.AH++[It.mk 0 f tf p tp])/\h.n<=1000/\h.rs.length<=900:=by
 have h3:h.AH.length<=k:=by have:=b.cur;rwa [show h.ab.cur=h.AH.map It.ab from rfl,AD] at this
 have h2:h.rs.length<=k:=by have:=b.rows;rwa [show h.ab.rows=h.rs.map (·.1) from rfl,AD] at this
 refine⟨⟨by rw[AX,CF];lia,λi hi=>?_⟩,b.n,by lia⟩
 rcases List.mem_append.mp hi with hi|hi
 ·exact b.parts (It.ab i) (CB hi)
 ·rw[List.mem_singleton.mp hi];exact hc
def Nn(cs:Ed):List Str:=cs.flatMap λc=>[c.1,c.2]
def Ck(c:Str×Str):Prop:=(∃fr,c.1=⟨⟨32::fr⟩⟩)/\c.1.length<=500/\c.2.length<=500
section
variable{B:Bx}
theorem oz{rs:Db}{i:Nat}{f p:Str}{r:List Str}(h:(rs.map (·.1)).drop i=f::p::r): ∃tf tp,(rs.map rv)[i]? =some (.str f tf)/\(rs.map rv)[i+1]? =some (.str p tp)/\(rs.map (·.1)).drop (i+2)=r:=by
 have h0:(rs.map (·.1))[i]? =some f:=by have:=congrArg (·[0]?) h;simpa using this
 have h1:(rs.map (·.1))[i+1]? =some p:=by have:=congrArg (·[1]?) h;simpa using this
 rw[AQ] at h0 h1;cases e0:rs[i]? with
 |none=>rw[e0] at h0;cases h0
 |some a=>
  cases e1:rs[i+1]? with
  |none=>rw[e1] at h1;cases h1
  |some b=>
   rw[e0] at h0;rw[e1] at h1;cases h0;cases h1;refine⟨a.2,b.2,by rw[AQ,e0];rfl,by rw[AQ,e1];rfl,?_⟩
   rw[<-Hy,h];rfl
abbrev X7(x pa:Nat)(f s0 c0 p:Str)(t0 t1 t2 t3:Nat):BC:=[(AM,J x),(Bp,.str f t0),(A0,.str s0 t1),(Ba,.str c0 t2),(Ei,J pa),(OE,.str p t3)]
theorem d3{C:Cx}{A:AL}{elts:List Expr}{x1:Nat}{pos:Pos}{z j k o:Nat}:AC C A (Fw (.Tuple elts x1 pos) (J z) (J o)) [FA z (.int ((o+323:Nat):Int) 0) false j k] (λYa:Unit=>()) (λYa=>[FA z .none false j k]):=λR s S=>by
 refine wpAny_letOwnedTupleGo_zip (TI:=j+323) (TO:=k+323) (DV S) λh' hz hs=>⟨(),rfl,?_⟩;exact St.Np (t:=s.toks) S hs hz ⟨G0,rfl⟩
theorem X8(O:B.C.Ok)(hS:B.Std){A:AL}(U:AA 70 A){L z j k a pa x dx m u t3 t5 t4 l y dy i:Nat}{rs:Db}{h:FX}{fr:Ay}{p s0 c0:Str}{tf tp t1 t2:Nat}{q:BC}
 (hq: ∀o,AC B.C (A.under (.forLoop OM (J z) Pk [] (AR B.P 106 [] (L+323)))) (Bo OM (AR B.P 106 [] (L+323)) (J o)) [AI L q,AV o [.str ⟨⟨32::fr⟩⟩ tf,.str p tp]] (λYa:Unit=>()) (λYa=>[AI L (X7 x pa ⟨⟨32::fr⟩⟩ s0 c0 p tf t1 t2 tp)]))
 (hI:CY (h.AH++[It.mk 0 ⟨⟨32::fr⟩⟩ tf p tp])) (hn:h.n<=1000) (hr:h.rs.length<=900) {ks:Ak}
 (h1:AC B.C (A.under (.forLoop OM (J z) Pk [] (AR B.P 106 [] (L+323)))) (FK (J z)) [FA z .none false j k,AV j [J a,J a],AV k ks,BQ a pa i,AE pa (rs.map rv)]
  (λo:Nat=>some (J o)) (λo=>[FA z (.int ((o+323:Nat):Int) 0) false j k,AV j [J a,J a],AV k [.str ⟨⟨32::fr⟩⟩ tf,.str p tp],BQ a pa (i+2),AE pa (rs.map rv),AV o [.str ⟨⟨32::fr⟩⟩ tf,.str p tp]]))
 {X:Type} {res:X->Result} {led:X->AN}
 (NM: ∀r:X1 m h.ab (⟨⟨32::fr⟩⟩,p),AT B.C A (.forLoop OM (J z) Pk [] (AR B.P 106 [] (L+323)))
  ([FA z .none false j k,AV j [J a,J a],AV k [.str ⟨⟨32::fr⟩⟩ tf,.str p tp],BQ a pa (i+2),AE pa (rs.map rv),AI L (X7 x pa ⟨⟨32::fr⟩⟩ s0 c0 p tf t1 t2 tp)]++Iq x dx m u t3 t5 t4 l y dy r.g) res led):
 AT B.C A (.forLoop OM (J z) Pk [] (AR B.P 106 [] (L+323)))
  ([FA z .none false j k,AV j [J a,J a],AV k ks,BQ a pa i,AE pa (rs.map rv),AI L q]++Iq x dx m u t3 t5 t4 l y dy h) res led:=by
 have B8:AA 62 (A.under (.forLoop OM (J z) Pk [] (AR B.P 106 [] (L+323)))):=(U.le (ADs:62+1<=70)).loop
 refine AT.P4 (fl:=.next) (.inl rfl) (v:=λo:Nat=>J o) (L1:=λo=>[FA z (.int ((o+323:Nat):Int) 0) false j k,AV j [J a,J a],AV k [.str ⟨⟨32::fr⟩⟩ tf,.str p tp],BQ a pa (i+2),AE pa (rs.map rv),AV o [.str ⟨⟨32::fr⟩⟩ tf,.str p tp]]++(AI L q::Iq x dx m u t3 t5 t4 l y dy h))
  (L2:=λo=>[FA z .none false j k]++([AV j [J a,J a],AV k [.str ⟨⟨32::fr⟩⟩ tf,.str p tp],BQ a pa (i+2),AE pa (rs.map rv),AV o [.str ⟨⟨32::fr⟩⟩ tf,.str p tp],AI L q]++Iq x dx m u t3 t5 t4 l y dy h))
  (L3:=λo=>[AI L (X7 x pa ⟨⟨32::fr⟩⟩ s0 c0 p tf t1 t2 tp)]++([FA z .none false j k,AV j [J a,J a],AV k [.str ⟨⟨32::fr⟩⟩ tf,.str p tp],BQ a pa (i+2),AE pa (rs.map rv)]++Iq x dx m u t3 t5 t4 l y dy h))
  (L4:=λYa (r:X1 m h.ab (⟨⟨32::fr⟩⟩,p))=>[FA z .none false j k,AV j [J a,J a],AV k [.str ⟨⟨32::fr⟩⟩ tf,.str p tp],BQ a pa (i+2),AE pa (rs.map rv),AI L (X7 x pa ⟨⟨32::fr⟩⟩ s0 c0 p tf t1 t2 tp)]++Iq x dx m u t3 t5 t4 l y dy r.g)
  ?_ (λo=>?_) (λo=>?_) (λo=>?_) (λo r=>NM r)
 ·exact h1.frame (AI L q::Iq x dx m u t3 t5 t4 l y dy h)
 ·exact d3.frame _
 ·refine((hq o).frame ([FA z .none false j k,AV j [J a,J a],AV k [.str ⟨⟨32::fr⟩⟩ tf,.str p tp],BQ a pa (i+2),AE pa (rs.map rv)]++Iq x dx m u t3 t5 t4 l y dy h)).ix (6::5::BW 11) rfl
 ·refine(((kD O B8 L pa x dx m u t3 t5 t4 l y dy h fr p s0 c0 tf tp t1 t2 hS hI hn hr).frame [FA z .none false j k,AV j [J a,J a],AV k [.str ⟨⟨32::fr⟩⟩ tf,.str p tp],BQ a pa (i+2),AE pa (rs.map rv)]).ix [0,5,5,5,5,5,5,0,0,0,0,0] rfl).post λr R s S=>?_
  exact St.picked (L:=[_,_,_,_,_,_,_,_,_,_,_,_]) (ix:=[7,7,7,7,7,0,0,0,0,0,0,0]) S rfl
theorem VM(O:B.C.Ok)(hS:B.Std){A:AL}(U:AA 70 A){L z j k a pa x dx m u t3 t5 t4 l y dy:Nat}{rs:Db}{s0 c0:Str}{t1 t2:Nat}(kb:Nat):
 ∀(cs:Ed) (i:Nat) (h:FX) (f p:Str) (tf tp tg th:Nat),(rs.map (·.1)).drop i=Nn cs->(∀c∈cs,Ck c)->Bd kb h.ab->kb+cs.length<=400->
 AT B.C A (.forLoop OM (J z) Pk [] (AR B.P 106 [] (L+323)))
  ([FA z .none false j k,AV j [J a,J a],AV k [.str f tf,.str p tp],BQ a pa i,AE pa (rs.map rv),AI L (X7 x pa f s0 c0 p tf t1 t2 tp)]++Iq x dx m u t3 t5 t4 l y dy h)
  (λYa:{q:FX//q.ab=cs.foldl (Ab.step m) h.ab}=>.ok .next) (λq=>Iq x dx m u t3 t5 t4 l y dy q.1)
 |[],i,h,f,p,tf,tp,tg,th,hd,hc,hb,hk=>by
  have hle:(rs.map rv).length<=i:=by
   rw[AD]
   have:(rs.map (·.1)).length<=i:=List.drop_eq_nil_iff.mp hd
   rwa [AD] at this
  have e:=fS O (A:=A.under (.forLoop OM (J z) Pk [] (AR B.P 106 [] (L+323)))) U.l.loop z j k a pa i (rs.map rv) f p tf tp hle;refine AT.SR (X:=Unit) (L1:=λYa=>Iq x dx m u t3 t5 t4 l y dy h) ((e.frame (AI L _::Iq x dx m u t3 t5 t4 l y dy h)).post λYa R s S=>St.tl S) λYa=>?_
  exact(AT.SO _).weaken λYa=>⟨⟨h,rfl⟩,rfl,λR s S=>S⟩
 |(c1,c2)::cs,i,h,f,p,tf,tp,tg,th,hd,hc,hb,hk=>by
  obtain⟨⟨fr,Hl⟩,dB,dC⟩:=hc _ (.head _)
  dsimp only at Hl dB dC
  subst Hl;obtain⟨tf',tp',e1,e2,e3⟩:=oz (r:=Nn cs) (i:=i) hd;have g:=λo=>kC O (A:=A.under (.forLoop OM (J z) Pk [] (AR B.P 106 [] (L+323)))) U.l.loop L o x 0 pa ⟨⟨32::fr⟩⟩ c2 f s0 c0 p tf' tp' tf t1 t2 tp;obtain⟨b1,b2,b3⟩:=hb.small (f:=⟨⟨32::fr⟩⟩) (p:=c2) (tf:=tf') (tp:=tp') ADp ⟨dB,dC⟩
  refine X8 O hS U g b1 b2 b3 (fT O (A:=A.under (.forLoop OM (J z) Pk [] (AR B.P 106 [] (L+323)))) U.l.loop z j k a pa i (rs.map rv) ⟨⟨32::fr⟩⟩ c2 f p tf' tp' tf tp e1 e2) λr=>?_
  exact(VM O hS U (L:=L) (z:=z) (j:=j) (k:=k) (a:=a) (pa:=pa) (x:=x) (dx:=dx) (m:=m) (u:=u) (t3:=t3) (t5:=t5) (t4:=t4) (l:=l) (y:=y) (dy:=dy) (rs:=rs) (s0:=s0) (c0:=c0) (t1:=t1) (t2:=t2) (kb+1) cs (i+2) r.g ⟨⟨32::fr⟩⟩ c2 tf' tp' 0 0 e3 (λc hx=>hc c (.tail _ hx)) (by rw[r.ok];exact hb.step ⟨dB,dC⟩) (by simp only[Ap] at hk;lia)).weaken λq=>⟨⟨q.1,by rw[q.2,r.ok];rfl⟩,rfl,λR s S=>S⟩
end
structure OJ(m:Nat)(a:Ab)(cs:Ed) where
 g:FX
 ok:g.ab=cs.foldl (Ab.step m) a
section
variable{B:Bx}
theorem fQ(O:B.C.Ok)(hS:B.Std){A:AL}(U:AA 70 A){L z j k a pa x dx m u t3 t5 t4 l y dy:Nat}{rs:Db}{f0 s0 c0:Str}{t0 t1 t2:Nat}(kb:Nat)
 (c:Str×Str) (cs:Ed) (h:FX) (hd:rs.map (·.1)=Nn (c::cs)) (hc: ∀d∈c::cs,Ck d) (hb:Bd kb h.ab) (hk:kb+(c::cs).length<=400):
 AT B.C A (.forLoop OM (J z) Pk [] (AR B.P 106 [] (L+323)))
  ([FA z .none false j k,AV j [J a,J a],AV k [.none,.none],BQ a pa 0,AE pa (rs.map rv),AI L [(AM,J x),(Bp,.str f0 t0),(A0,.str s0 t1),(Ba,.str c0 t2),(Ei,J pa)]]++Iq x dx m u t3 t5 t4 l y dy h)
  (λYa:OJ m h.ab (c::cs)=>.ok .next) (λq=>Iq x dx m u t3 t5 t4 l y dy q.g):=by
 obtain⟨c1,c2⟩:=c;obtain⟨⟨fr,Hl⟩,dB,dC⟩:=hc _ (.head _)
 dsimp only at Hl dB dC
 subst Hl;obtain⟨tf',tp',e1,e2,e3⟩:=oz (r:=Nn cs) (i:=0) (rs:=rs) (by rw[Du];exact hd)
 have g:=λo=>kB O (A:=A.under (.forLoop OM (J z) Pk [] (AR B.P 106 [] (L+323)))) U.l.loop L o x 0 pa ⟨⟨32::fr⟩⟩ c2 f0 s0 c0 tf' tp' t0 t1 t2;obtain⟨b1,b2,b3⟩:=hb.small (f:=⟨⟨32::fr⟩⟩) (p:=c2) (tf:=tf') (tp:=tp') ADp ⟨dB,dC⟩
 refine X8 O hS U g b1 b2 b3 (fR O (A:=A.under (.forLoop OM (J z) Pk [] (AR B.P 106 [] (L+323)))) U.l.loop z j k a pa 0 (rs.map rv) ⟨⟨32::fr⟩⟩ c2 tf' tp' e1 e2) λr=>?_
 exact(VM O hS U (L:=L) (z:=z) (j:=j) (k:=k) (a:=a) (pa:=pa) (x:=x) (dx:=dx) (m:=m) (u:=u) (t3:=t3) (t5:=t5) (t4:=t4) (l:=l) (y:=y) (dy:=dy) (rs:=rs) (s0:=s0) (c0:=c0) (t1:=t1) (t2:=t2) (kb+1) cs 2 r.g ⟨⟨32::fr⟩⟩ c2 tf' tp' 0 0 e3 (λc hx=>hc c (.tail _ hx)) (by rw[r.ok];exact hb.step ⟨dB,dC⟩) (by simp only[Ap] at hk;lia)).weaken λq=>⟨⟨q.1,by rw[q.2,r.ok];rfl⟩,rfl,λR s S=>S⟩
end
include O
def Yh(hS:B.Std)(U:AA 70 A)(L z j k a pa x dx m u t3 t5 t4 l y dy:Nat)(rs:Db)(f0 s0 c0:Str)(t0 t1 t2 kb:Nat)(c:Str×Str)(cs:Ed)(h:FX)(hd:rs.map (·.1)=Nn (c::cs))(hc: ∀d∈c::cs,Ck d)(hb:Bd kb h.ab)(hk:kb+(c::cs).length<=400):Ag B.C A where
 c:=.forLoop OM (J z) Pk [] (AR B.P 106 [] (L+323))
 F:=[FA z .none false j k,AV j [J a,J a],AV k [.none,.none],BQ a pa 0,AE pa (rs.map rv),AI L [(AM,J x),(Bp,.str f0 t0),(A0,.str s0 t1),(Ba,.str c0 t2),(Ei,J pa)],BO x dx,Bc dx m u t3 t5 t4 l y,BS y dy h.AH,A3 dy (.int (h.n:Int) h.t),Ai h.AH,AE l (h.rs.map rv)]
 X:=OJ m h.ab (c::cs)
 res:=λYa=>.ok .next
 led:=λq=>[BO x dx,Bc dx m u t3 t5 t4 l y,BS y dy q.g.AH,A3 dy (.int (q.g.n:Int) q.g.t),Ai q.g.AH,AE l (q.g.rs.map rv)]
 ok:=(fQ O hS U kb c cs h hd hc hb hk).call
theorem yA(U:AA 30 A)(L x:Nat)(f s c0:Str)(t0 t1 t2:Nat)(words:List Wd)(hf:f.length≠0)(hs:s.length≠0)(hz:f.length+s.length<=1000000)(SI:(f++s).length<=100000)(hw:(f++s).cps.toList=Et words)(IQ: ∀w∈words,Wd.ok w):
 AC B.C A (Ac ((A4 B.P 106).take 1) (AR B.P 106 [] (L+323))) [AI L [(AM,J x),(Bp,.str f t0),(A0,.str s t1),(Ba,.str c0 t2)]]
  (λq:tu words=>.next)
  (λq=>[AI L [(AM,J x),(Bp,.str f t0),(A0,.str s t1),(Ba,.str c0 t2),(Ei,J q.a)],AE q.a (q.rs.map rv)]):=
 D7 O U (.g 4467839729664<|.cc (PA O U.l f s t0 t1 hf hs hz) [] λ(y0:Nat)=>.cc (W5 O U.l {cps:=f.cps++s.cps} y0 words hw IQ (by first|lia|assumption)) [] λy1=>.fr λk2=>.g 6210<|.fi (y1) [1,0])
theorem yB(U:AA 30 A)(L x pa te:Nat)(f s c0:Str)(t0 t1 t2:Nat)(rs:Db)(h0:((.str eS te)::rs.map rv)[0]? =some (.str eS te))(hl:((.str eS te)::rs.map rv).length<=1000)(Mr:(rs.map rv).length<1000):
 AS B A (Ac (((A4 B.P 106).drop 1).take 1) (AR B.P 106 [] (L+323))) [AI L [(AM,J x),(Bp,.str f t0),(A0,.str s t1),(Ba,.str c0 t2),(Ei,J pa)],AE pa ((.str eS te)::rs.map rv)] .next [AI L [(AM,J x),(Bp,.str f t0),(A0,.str s t1),(Ba,.str c0 t2),(Ei,J pa)],AE pa (rs.map rv)]:=
 D7 O U (.g 65<|.fr λk0=>.g 270466<|.cc (BZ O U.l pa 0 k0 (.str ⟨⟨[]⟩⟩ te::B0 rv rs) (.str eS te) h0 hl) [1] λYa=>.cc (TC O U.l ⟨⟨[]⟩⟩ te (by first|assumption|exact(ADs:(0:Nat)<=1000000))) [] λYa=>.g 1090785346<|.fr λk3=>.cc (b0 O U.l pa k3 (.str ⟨⟨[]⟩⟩ te) (B0 rv rs) Mr) [0] λYa=>.fi () [1,0])
theorem yC(U:AA 80 A)(L x pa dx m u t3 t5 t4 l y dy kb:Nat)(f s c0:Str)(t0 t1 t2:Nat)(rs:Db)(c:Str×Str)(cs:Ed)(h:FX)(hS:B.Std)(hd:rs.map (·.1)=Nn (c::cs))(hc: ∀d∈c::cs,Ck d)(hb:Bd kb h.ab)(hk:kb+(c::cs).length<=400):
 AC B.C A (Ac ((A4 B.P 106).drop 2) (AR B.P 106 [] (L+323))) [AI L [(AM,J x),(Bp,.str f t0),(A0,.str s t1),(Ba,.str c0 t2),(Ei,J pa)],AE pa (rs.map rv),BO x dx,Bc dx m u t3 t5 t4 l y,BS y dy h.AH,A3 dy (.int (h.n:Int) h.t),Ai h.AH,AE l (h.rs.map rv)]
  (λq:OJ m h.ab (c::cs)=>.next)
  (λq=>[BO x dx,Bc dx m u t3 t5 t4 l y,BS y dy q.g.AH,A3 dy (.int (q.g.n:Int) q.g.t),Ai q.g.AH,AE l (q.g.rs.map rv)]):=by
 obtain⟨_,_|_⟩:=B<;>exact D7 O U (.g 1090519040<|.cc (O_ O U.l pa (rs.map rv)) [1] λ(y0:Nat)=>.al λa1=>.fr λk2=>.g 65<|.cc (Yt O U.l a1 k2 [J y0]) [0] λYa=>.g 65<|.cc (bz O U.l a1 k2 (J y0)) [0] λ(y4:Nat)=>.g 65<|.cc (Km O U.l y4 [J y0,J y0] (by first|assumption|simp)) [0] λYa=>.g 65<|.cc (lT O U.l pa y0 0) [3] λ(y6:Nat×Nat×Nat)=>.g 4161<|.cc (cW O U.l y6.fst y6.snd.fst y6.snd.snd .none UO) [0] λYa=>.g 65<|.cc (Yh O hS U.l L y6.fst y6.snd.fst y6.snd.snd y0 pa x dx m u t3 t5 t4 l y dy rs f s c0 t0 t1 t2 kb c cs h hd hc hb hk) [0,0,0,0,3,3,3,3,3,3,3,3] λy8=>.fi (y8) (BW 6))
theorem fV(U:AA 1 A)(x:Nat)(f s c0:Str)(t0 t1 t2:Nat):
 AS B A (Pl B 106 [J x,.str f t0,.str s t1,.str c0 t2]) [] (([(AM,J x),(Bp,.str f t0),(A0,.str s t1),(Ba,.str c0 t2)]:BC)) []:=
 rn O U (.fi () [])
theorem cp(U:AA 1 A)(x:Nat)(f s c0:Str)(t0 t1 t2:Nat):
 AC B.C A (OP B 106 [(AM,J x),(Bp,.str f t0),(A0,.str s t1),(Ba,.str c0 t2)]) []
  (λa0:Nat=>AR B.P 106 [] (a0+323))
  (λa0=>[AI a0 [(AM,J x),(Bp,.str f t0),(A0,.str s t1),(Ba,.str c0 t2)]]):=
 rn O U (.al λa0=>.fr λk1=>.g 6145<|.fr λk2=>.g 6145<|.fr λk3=>.g 6145<|.fr λk4=>.g 6145<|.fi (a0) [0])
def Gi(w:Wd):Str×Str:=(⟨⟨w.1⟩⟩,⟨⟨w.2⟩⟩)
omit O
theorem Rn: ∀(r:List Wd) (p:Ay),Ij p r=(⟨⟨p⟩⟩:Str)::Nn (r.map Gi)
 |[],p=>rfl
 |w::r,p=>by
  rw[Ij,Rn r w.2];simp[Nn,Gi]
theorem Rv: ∀cs:Ed,(Nn cs).length=2*cs.length
 |[]=>rfl
 |c::cs=>by
  have:Nn (c::cs)=c.1::c.2::Nn cs:=by simp[Nn]
  rw[this,Ap,Ap,Rv cs,Ap];lia
theorem fZ{B:Bx}(O:B.C.Ok)(hS:B.Std){A:AL}(U:AA 80 A)(L x dx m u t3 t5 t4 l y dy kb:Nat)(f s c0:Str)(t0 t1 t2:Nat)(h:FX)(words:List Wd)(hf:f.length≠0)(hs:s.length≠0)(SI:(f++s).length<=100000)(hw:(f++s).cps.toList=Et words)(IQ: ∀w∈words,Wd.ok w)
 (CD:words≠[]) (hc: ∀d∈words.map Gi,Ck d) (hb:Bd kb h.ab) (hk:kb+words.length<=400):
 AC B.C A (Ac (A4 B.P 106) (AR B.P 106 [] (L+323))) (AI L [(AM,J x),(Bp,.str f t0),(A0,.str s t1),(Ba,.str c0 t2)]::Iq x dx m u t3 t5 t4 l y dy h)
  (λYa:OJ m h.ab (words.map Gi)=>.next) (λq=>Iq x dx m u t3 t5 t4 l y dy q.g):=by
 have hlen:(f++s).length=f.length+s.length:=by show(f.cps++s.cps).size=_;rw[Hv];rfl
 have e1:=yA O U.l L x f s c0 t0 t1 t2 words hf hs ADp SI hw IQ
 obtain⟨w0,wr,rfl⟩: ∃a b,words=a::b:=by cases words with|nil=>exact absurd rfl CD|cons a b=>exact⟨a,b,rfl⟩
 have e3:=λpa rs hd=>yC O U L x pa dx m u t3 t5 t4 l y dy kb f s c0 t0 t1 t2 rs (Gi w0) (wr.map Gi) h hS hd hc hb (by simpa using hk)
 have e2:=λpa te rs hx hy hz=>yB O U.l L x pa te f s c0 t0 t1 t2 rs hx hy hz;rw[eJ] at e1 e2 e3;rw[eJ];refine AC.step (led1:=λq:tu (w0::wr)=>[AI L [(AM,J x),(Bp,.str f t0),(A0,.str s t1),(Ba,.str c0 t2),(Ei,J q.a)],AE q.a (q.rs.map rv)]++Iq x dx m u t3 t5 t4 l y dy h) (e1.frame _) λq=>?_;obtain⟨pa,rs,hq⟩:=q
 dsimp only
 have rM:=hq;rw[Rn] at rM
 clear hq
 cases rs with
 |nil=>cases rM
 |cons r0 rs=>
  obtain⟨r0s,te⟩:=r0;simp only[Aw,G4] at rM;obtain⟨rfl,zX⟩:=rM;have hlr:rs.length<=800:=by
   have h1:(rs.map (·.1)).length=(Nn (Gi w0::wr.map Gi)).length:=congrArg C7 zX;rw[Rv,AD] at h1;simp only[Ap,AD] at h1 hk
   lia
  refine AC.step (led1:=λYa:Unit=>[AI L [(AM,J x),(Bp,.str f t0),(A0,.str s t1),(Ba,.str c0 t2),(Ei,J pa)],AE pa (rs.map rv)]++Iq x dx m u t3 t5 t4 l y dy h) ((e2 pa te rs rfl (by simp;lia) (by simp;lia)).frame _) λYa=>?_
  exact e3 pa rs zX
include O
def kj(hS:B.Std)(U:AA 82 A)(x dx m u t3 t5 t4 l y dy kb:Nat)(f s c0:Str)(t0 t1 t2:Nat)(h:FX)(words:List Wd)(hf:f.length≠0)(hs:s.length≠0)(SI:(f++s).length<=100000)(hw:(f++s).cps.toList=Et words)(IQ: ∀w∈words,Wd.ok w)
 (CD:words≠[]) (hc: ∀d∈words.map Gi,Ck d) (hb:Bd kb h.ab) (hk:kb+words.length<=400):Ag B.C A where
 c:=.call (.ref 106) ⟨[J x,.str f t0,.str s t1,.str c0 t2],[]⟩
 F:=[BO x dx,Bc dx m u t3 t5 t4 l y,BS y dy h.AH,A3 dy (.int (h.n:Int) h.t),Ai h.AH,AE l (h.rs.map rv)]
 X:=OJ m h.ab (words.map Gi)
 res:=λYa=>.ok (.ret .none)
 led:=λq=>[BO x dx,Bc dx m u t3 t5 t4 l y,BS y dy q.g.AH,A3 dy (.int (q.g.n:Int) q.g.t),Ai q.g.AH,AE l (q.g.rs.map rv)]
 ok:=Dm O (n:=81) U ADq ((fV O U.l.in1 x f s c0 t0 t1 t2).frame _) (λR s' S=>by
  exact(cp O U.l.in1 x f s c0 t0 t1 t2).frame (Iq x dx m u t3 t5 t4 l y dy h) R s' S)
  (λa=>BK (fZ O hS (AA.deeper U.l) a x dx m u t3 t5 t4 l y dy kb f s c0 t0 t1 t2 h words hf hs SI hw IQ CD hc hb hk))
theorem aj(U:AA 1 A)(x a:Nat)(f s:Str)(t0 t1:Nat):
 AS B A (Pl B 92 [J x,.str f t0,.str s t1,J a]) [] (([(AM,J x),(Bp,.str f t0),(A0,.str s t1),(MX,J a)]:BC)) []:=
 rn O U (.fi () [])
theorem ZR(U:AA 1 A)(x a:Nat)(f s:Str)(t0 t1:Nat):
 AC B.C A (OP B 92 [(AM,J x),(Bp,.str f t0),(A0,.str s t1),(MX,J a)]) []
  (λa0:Nat=>AR B.P 92 [] (a0+323))
  (λa0=>[AI a0 [(AM,J x),(Bp,.str f t0),(A0,.str s t1),(MX,J a)]]):=
 rn O U (.al λa0=>.fr λk1=>.g 6145<|.fr λk2=>.g 6145<|.fr λk3=>.g 6145<|.fr λk4=>.g 6145<|.fi (a0) [0])
theorem bB(U:AA 86 A)(L a b d x dx m u t3 t5 t4 l y dy kb:Nat)(f s:Str)(t0 t1:Nat)(h:FX)(words:List Wd)(hS:B.Std)(hf:f.length≠0)(hs:s.length≠0)(SI:(f++s).length<=100000)(hw:(f++s).cps.toList=Et words)(IQ: ∀w∈words,Wd.ok w)(CD:words≠[])(hc: ∀d∈words.map Gi,Ck d)(hb:Bd kb h.ab)(hk:kb+words.length<=400):
 AC B.C A (Ac (A4 B.P 92) (AR B.P 92 [] (L+323))) [AI L [(AM,J x),(Bp,.str f t0),(A0,.str s t1),(MX,J a)],Xk a b d,Xj d,BO x dx,Bc dx m u t3 t5 t4 l y,BS y dy h.AH,A3 dy (.int (h.n:Int) h.t),Ai h.AH,AE l (h.rs.map rv)]
  (λq:OJ m h.ab (words.map Gi)=>.ret .none)
  (λq=>[BO x dx,Bc dx m u t3 t5 t4 l y,BS y dy q.g.AH,A3 dy (.int (q.g.n:Int) q.g.t),Ai q.g.AH,AE l (q.g.rs.map rv)]):=Ix O U (.g 65<|.fr λk0=>.g 66<|.cc (b8 O U.l a b d k0) [1,1] λYa=>.g 21758198853876321194597434458636547<|.fr λk2=>.g 16777220<|.cc (Fd O U.l x dx m u t3 t5 t4 l y k2) [3,3] λYa=>.g 64<|.cc (kj O hS U.l x dx m u t3 t5 t4 l y dy kb f s ⟨⟨[32]⟩⟩ t0 t1 t4 h words hf hs SI hw IQ CD hc hb hk) [0,0,3,3,3,3] λy4=>.fi (y4) (BW 6))
def gK(hS:B.Std)(U:AA 88 A)(a b d x dx m u t3 t5 t4 l y dy kb:Nat)(f s:Str)(t0 t1:Nat)(h:FX)(words:List Wd)(hf:f.length≠0)(hs:s.length≠0)(SI:(f++s).length<=100000)(hw:(f++s).cps.toList=Et words)(IQ: ∀w∈words,Wd.ok w)
 (CD:words≠[]) (hc: ∀d∈words.map Gi,Ck d) (hb:Bd kb h.ab) (hk:kb+words.length<=400):Ag B.C A where
 c:=.call (.ref 92) ⟨[J x,.str f t0,.str s t1,J a],[]⟩
 F:=[Xk a b d,Xj d,BO x dx,Bc dx m u t3 t5 t4 l y,BS y dy h.AH,A3 dy (.int (h.n:Int) h.t),Ai h.AH,AE l (h.rs.map rv)]
 X:=OJ m h.ab (words.map Gi)
 res:=λYa=>.ok (.ret .none)
 led:=λq=>[BO x dx,Bc dx m u t3 t5 t4 l y,BS y dy q.g.AH,A3 dy (.int (q.g.n:Int) q.g.t),Ai q.g.AH,AE l (q.g.rs.map rv)]
 ok:=Dm O (n:=87) U ADq ((aj O U.l.in1 x a f s t0 t1).frame _) (λR s' S=>by
  exact(ZR O U.l.in1 x a f s t0 t1).frame (Xk a b d::Xj d::Iq x dx m u t3 t5 t4 l y dy h) R s' S)
  (λL=>BK (fl:=λYa=>.ret .none) (bB O (AA.deeper U.l) L a b d x dx m u t3 t5 t4 l y dy kb f s t0 t1 h words hS hf hs SI hw IQ CD hc hb hk))
noncomputable def FM(sc:Scope)(q:Str)(code:Nat)(cells:List (Str×Addr))(L D:Nat):Env:=
 {scope:=sc,locals:=D+323,globals:=3,cells:=cells,qual:=q,code:=.ref code,frame:=some (L+323),builtins:=0}
noncomputable abbrev As(D:Nat)(l:BC):Bi:=.one (D+323) (.ns (.type "dict") l)
theorem QI(U:AA 5 A)(a x i:Nat)(xs:Ak)(v:Value)(hx:xs[i]? =some v):
 AS B A (FK (J a)) [BQ a x i,AE x xs] (some v) [BQ a x (i+1),AE x xs]:=dw O U (.g 65<|.cc (Fe O U.l a x i xs v hx) [0,0] λYa=>.fi () [0,0])
theorem OA(U:AA 5 A)(a x i:Nat)(xs:Ak)(hx:xs.length<=i):
 AS B A (FK (J a)) [BQ a x i,AE x xs] ((none:DP)) [AE x xs]:=dw O U (.g 65<|.cc (RQ O U.l a x i xs hx) [0,0] λYa=>.g 65<|.fi () [1])
theorem NP(U:AA 5 A)(a x i:Nat):
 AS B A (Mi (J a)) [BQ a x i] ((J a)) [BQ a x i]:=by
 obtain⟨_,_|_⟩:=B<;>exact xX O U (.g 4161<|.cc (NF O U.l a x i) [0] λYa=>.g 65<|.fi () [0])
theorem Z6(U:AA 5 A)(a:Nat)(v left step:Int):
 AS B A (Mi (J a)) [Fj a v left step] ((J a)) [Fj a v left step]:=by
 obtain⟨_,_|_⟩:=B<;>exact xX O U (.g 4161<|.cc (Y2 O U.l a v left step) [0] λYa=>.g 65<|.fi () [0])
theorem UA(U:AA 5 A)(a v left:Nat):
 AC B.C A (FK (J a)) [Fj a (v:Int) ((left+1:Nat):Int) 1]
  (λk:Nat=>some (Be (v:Int) k))
  (λk=>[Fj a ((v+1:Nat):Int) (left:Int) 1]):=dw O U (.g 65<|.cc (Y4 O U.l a v left) [0] λy0=>.fi (y0) [0])
theorem Xo(U:AA 5 A)(a:Nat)(v step:Int):
 AS B A (FK (J a)) [Fj a v ((0:Nat):Int) step] ((none:DP)) []:=dw O U (.g 65<|.cc (RU O U.l a v step) [0] λYa=>.g 65<|.fi () [])
omit O
section
variable{B:Bx}{A:AL}{F:AN}
theorem AT.compStart{elt:Expr}{g:Gz}{gs:List Gz}{sc:Scope}{pos:Pos}{d:Nat}{it acc:Value}{env:Env}{g0:Gz}{X:Type}{res:X->Result}{led:X->AN}
 (hg:(g::gs)[d]? =some g0) (ha:g0.is_async=0) (hi:AC B.C (A.under (.compStart (.ListComp elt (g::gs) sc pos) d it acc env)) (Mi it) F (λYa:Unit=>it) (λYa=>F))
 (h:AT B.C A (.compLoop (.ListComp elt (g::gs) sc pos) d it acc env) F res led):AT B.C A (.compStart (.ListComp elt (g::gs) sc pos) d it acc env) F res led:=λR s S=>by
 refine BL ?_;show BN _ _ ((PySem.compStart (.ListComp elt (g::gs) sc pos) d it acc env).onRaise (λx=>do E0 x env;Kg theWindowsPlace)) _ _ s;refine DT (Av ?_ (λYa Ya q=>q) (λYa Ya (q:False)=>q.elim));unfold PySem.compStart;rw[show(OH (.ListComp elt (g::gs) sc pos))=g::gs from rfl,hg];show BN _ _ (if(g0.is_async != 0)=true then _ else _) _ _ _
 refine iN (by rw[ha];decide) ?_
 refine AB (m:=ask) (x_ask (AP ?_))
 split
 ·exact AP ⟨rfl,h R s S⟩
 ·refine AB (Eo ?_)
  refine AB (m:=Kg _) (DU ?_);refine AB (AC.wp hi S λYa s₁ S₁=>?_);exact AP ⟨rfl,h R s₁ S₁⟩
theorem AT.Su{elt:Expr}{g:Gz}{gs:List Gz}{sc:Scope}{pos:Pos}{d:Nat}{it acc:Value}{env:Env}{g0:Gz}{X:Type}{led:X->AN}
 (hg:(g::gs)[d]? =some g0) (ha:g0.is_async=0) (hi:AC B.C (A.under (.compLoop (.ListComp elt (g::gs) sc pos) d it acc env)) (FK it) F (λYa:X=>none) led):
 AT B.C A (.compLoop (.ListComp elt (g::gs) sc pos) d it acc env) F (λYa:X=>.ok .next) led:=λR s S=>by
 refine BL ?_;show BN _ _ ((J3 (.ListComp elt (g::gs) sc pos) d it acc env).onRaise (λx=>do E0 x env;EQ x)) _ _ s;refine DT (Av ?_ (λYa Ya q=>q) (λYa Ya (q:False)=>q.elim));unfold J3
 dsimp only
 rw[hg]
 dsimp only
 refine AB (m:=Kg _) (DU ?_);refine iN (by rw[ha];decide) ?_
 refine AB (AC.wp hi S λx s₁ S₁=>?_);exact AP ⟨x,rfl,S₁⟩
end
def QR:Expr:=el (vE (sN 18 0)) 0
noncomputable def SM:Scope:={kind:=ScopeKind.function,names:=[(⟨⟨[46,48]⟩⟩,Jz),(⟨⟨[97,104,101,97,100]⟩⟩,Jz),(⟨⟨[119,111,114,100]⟩⟩,Jz)],isGenerator:=UO,isCoroutine:=UO}
def SK:Str:=Bl [95,108,97,119,95,116,101,120,116,46,60,108,111,99,97,108,115,62,46]
include O
theorem jt(U:AA 10 A)(L D c a acc i o:Nat)(xs vs:Ak)(f p:Str)(tf tp:Nat)(hx:xs[i]? =some (J o))(hf:f.length≠0)(hp:p.length≠0)(hs:f.length+p.length<=1000000)(hv:vs.length<=1000):
 AC B.C A (BM (.compLoop QR 0 (J a) (J acc) (FM SM SK 250 [] L D))) [As D [],BQ a c i,AE c xs,AV o [.str f tf,.str p tp],AE acc vs]
  (λk:Nat=>.again (.compLoop QR 0 (J a) (J acc) (FM SM SK 250 [] L D)))
  (λk=>[As D [(DC,.str f tf),(Es,.str p tp)],BQ a c (i+1),AE c xs,AV o [.str f tf,.str p tp],AE acc (vs++[Co (f++p) k])]):=by
 obtain⟨_,_|_⟩:=B<;>exact rn O U (.g 66<|.cc (Fe O U.l a c i xs (J o) hx) [1,1] λYa=>.g 17842433<|.cc (Ff O U.l o [.str f tf,.str p tp]) [3] λy1=>.g 4161<|.cc (E1 O U.l y1 o (.str f tf) (.str p tp)) [0,0] λYa=>.g 65<|.cc (E2 O U.l y1 o (.str f tf) (.str p tp)) [0,0] λYa=>.g 65<|.cc (E3 O U.l y1 o (.str f tf) (.str p tp)) [0,0] λYa=>.g 65<|.fr λk5=>.g 6405<|.fr λk6=>.g 18110725<|.cc (PA O U.l f p tf tp hf hp hs) [] λy7=>.cc (Do O U.l acc (.str {cps:=f.cps++p.cps} y7) vs hv) [5] λYa=>.fi (y7) [5,3,3,2,0])
theorem ju(U:AA 10 A)(L D c a acc i o:Nat)(xs vs:Ak)(f p f' p':Str)(tf tp tf' tp':Nat)(hx:xs[i]? =some (J o))(hf:f.length≠0)(hp:p.length≠0)(hs:f.length+p.length<=1000000)(hv:vs.length<=1000):
 AC B.C A (BM (.compLoop QR 0 (J a) (J acc) (FM SM SK 250 [] L D))) [As D [(DC,.str f' tf'),(Es,.str p' tp')],BQ a c i,AE c xs,AV o [.str f tf,.str p tp],AE acc vs]
  (λk:Nat=>.again (.compLoop QR 0 (J a) (J acc) (FM SM SK 250 [] L D)))
  (λk=>[As D [(DC,.str f tf),(Es,.str p tp)],BQ a c (i+1),AE c xs,AV o [.str f tf,.str p tp],AE acc (vs++[Co (f++p) k])]):=by
 obtain⟨_,_|_⟩:=B<;>exact rn O U (.g 66<|.cc (Fe O U.l a c i xs (J o) hx) [1,1] λYa=>.g 17842433<|.cc (Ff O U.l o [.str f tf,.str p tp]) [3] λy1=>.g 4161<|.cc (E1 O U.l y1 o (.str f tf) (.str p tp)) [0,0] λYa=>.g 65<|.cc (E2 O U.l y1 o (.str f tf) (.str p tp)) [0,0] λYa=>.g 65<|.cc (E3 O U.l y1 o (.str f tf) (.str p tp)) [0,0] λYa=>.g 65<|.fr λk5=>.g 6405<|.fr λk6=>.g 18110725<|.cc (PA O U.l f p tf tp hf hp hs) [] λy7=>.cc (Do O U.l acc (.str {cps:=f.cps++p.cps} y7) vs hv) [5] λYa=>.fi (y7) [5,3,3,2,0])
omit O
section
variable{C:Cx}{s:Af}{L:AN}
theorem Zo(l1 l2:List It)(i:It)(F:F6):(((l1++i::l2).map It.e)++F).Perm (i.e::((l1++l2).map It.e++F)):=by
 rw[AZ,Aw,AZ,<-A5];exact List.perm_middle.append_right _
theorem St.Q2{l1 l2:List It}{i:It}(S:St C (Ai (l1++i::l2)::L) s):St C (AV i.a [.str i.f i.tf,.str i.p i.tp]::Ai (l1++l2)::L) s:=S.BV (Zo l1 l2 i (Ao L))
theorem St.Vs{l1 l2:List It}{i:It}(S:St C (AV i.a [.str i.f i.tf,.str i.p i.tp]::Ai (l1++l2)::L) s):St C (Ai (l1++i::l2)::L) s:=S.BV (Zo l1 l2 i (Ao L)).symm
end
def It.MH(i:It):Prop:=i.f.length≠0/\i.p.length≠0/\i.f.length<=500/\i.p.length<=500
structure X5(ts:List Str) where
 f:Str
 p:Str
 tf:Nat
 tp:Nat
 ks:Db
 ok:ks.map (·.1)=ts
def It.cat(i:It):Str:=i.f++i.p
theorem o0(ks:Db)(x:Str)(k:Nat):ks.map rv++[Co x k]=(ks++[(x,k)]).map rv:=by rw[AZ];rfl
theorem WL{B:Bx}(O:B.C.Ok){A:AL}(U:AA 12 A){L D c a acc:Nat}: ∀(l1 l2:List It) (ks:Db) (f' p':Str) (tf' tp':Nat),(∀i∈l2,It.MH i)->ks.length+l2.length<=900->
 AT B.C A (.compLoop QR 0 (J a) (J acc) (FM SM SK 250 [] L D))
  [As D [(DC,.str f' tf'),(Es,.str p' tp')],BQ a c l1.length,AE c ((l1++l2).map It.v),Ai (l1++l2),AE acc (ks.map rv)]
  (λYa:X5 (ks.map (·.1)++l2.map It.cat)=>.ok .next) (λq=>[As D [(DC,.str q.f q.tf),(Es,.str q.p q.tp)],AE c ((l1++l2).map It.v),Ai (l1++l2),AE acc (q.ks.map rv)])
 |l1,[],ks,f',p',tf',tp',FV,hlen=>by
  have e:=OA O (A:=A.under (.compLoop QR 0 (J a) (J acc) (FM SM SK 250 [] L D))) U.l.loop a c l1.length ((l1++[]).map It.v) ADt
  refine(AT.Su (X:=Unit) (led:=λYa=>[As D [(DC,.str f' tf'),(Es,.str p' tp')],AE c ((l1++[]).map It.v),Ai (l1++[]),AE acc (ks.map rv)]) (g0:=(OH QR).head?.getD ⟨Au,Au,[],0⟩) rfl rfl ?_).weaken λYa=>⟨⟨f',p',tf',tp',ks,by simp⟩,rfl,λR s S=>S⟩
  exact((e.frame [As D [(DC,.str f' tf'),(Es,.str p' tp')],Ai (l1++[]),AE acc (ks.map rv)]).ix [1,1,0,0,0] rfl).ox [1,0,0,0] λYa=>rfl
 |l1,i::l2,ks,f',p',tf',tp',FV,hlen=>by
  obtain⟨h1,h2,h3,h4⟩:=FV i (.head _);simp only[Ap] at hlen;have ih:=λk=>WL O U (L:=L) (D:=D) (c:=c) (a:=a) (acc:=acc) (l1++[i]) l2 (ks++[(i.cat,k)]) i.f i.p i.tf i.tp (λj hj=>FV j (.tail _ hj)) (by simp;lia)
  refine AT.pre (F:=[As D [(DC,.str f' tf'),(Es,.str p' tp')],BQ a c l1.length,AE c ((l1++i::l2).map It.v),AV i.a [.str i.f i.tf,.str i.p i.tp],AE acc (ks.map rv)]++[Ai (l1++l2)]) (AT.NN (Y:=Nat) (c':=λYa=>.compLoop QR 0 (J a) (J acc) (FM SM SK 250 [] L D)) ((ju O (A:=A.under (.compLoop QR 0 (J a) (J acc) (FM SM SK 250 [] L D))) U.l.loop L D c a acc l1.length i.a ((l1++i::l2).map It.v) (ks.map rv) i.f i.p f' p' i.tf i.tp tf' tp' (by simp[It.v]) h1 h2 ADp (by rw[AD];lia)).frame [Ai (l1++l2)]) (λYa=>rfl) λk=>?_) λR s S=>?_
  ·refine((ih k).pre λR s S=>?_).weaken λq=>⟨⟨q.f,q.p,q.tf,q.tp,q.ks,by rw[q.ok];simp⟩,rfl,λR s S=>?_⟩
   ·have S1:=St.picked (L:=[_,_,_,_,_,_]) (ix:=(3::4::BW 4)) S rfl
    have S2:=S1.Vs;have S3:=St.picked (L:=[_,_,_,_,_]) (ix:=[1,1,1,0,0]) S2 rfl;rw[show l1++i::l2=l1++[i]++l2 from by simp,o0] at S3
    rw[show(l1++[i]).length=l1.length+1 from by simp]
    exact S3
   ·rw[show l1++i::l2=l1++[i]++l2 from by simp];exact S
  ·have S1:=St.picked (L:=[_,_,_,_,_]) (ix:=(3::BW 4)) S rfl
   have S2:=S1.Q2;exact St.picked (L:=[_,_,_,_,_,_]) (ix:=[2,2,2,0,1,0]) S2 rfl
include O
def W9(U:AA 13 A)(L D c a acc:Nat)(cks:List It)(CD:cks≠[])(FV: ∀i∈cks,It.MH i)(hlen:cks.length<=900):Ag B.C A where
 c:=.compStart QR 0 (J a) (J acc) (FM SM SK 250 [] L D)
 F:=[As D [],BQ a c 0,AE c (cks.map It.v),Ai cks,AE acc []]
 X:=X5 (cks.map It.cat)
 res:=λYa=>.ok .next
 led:=λq=>[As D [(DC,.str q.f q.tf),(Es,.str q.p q.tp)],AE c (cks.map It.v),Ai cks,AE acc (q.ks.map rv)]
 ok:=by
  obtain⟨i,l2,rfl⟩: ∃i l,cks=i::l:=by cases cks with|nil=>exact absurd rfl CD|cons i l=>exact⟨i,l,rfl⟩
  obtain⟨h1,h2,h3,h4⟩:=FV i (.head _);simp only[Ap] at hlen;have ih:=λk=>WL O U.l (L:=L) (D:=D) (c:=c) (a:=a) (acc:=acc) [i] l2 [(i.cat,k)] i.f i.p i.tf i.tp (λj hj=>FV j (.tail _ hj)) (by simp;lia)
  refine AT.call (AT.compStart (g0:=(OH QR).head?.getD ⟨Au,Au,[],0⟩) rfl rfl ((((NP O (A:=A.under (.compStart QR 0 (J a) (J acc) (FM SM SK 250 [] L D))) U.l.loop a c 0).frame [As D [],AE c ((i::l2).map It.v),Ai (i::l2),AE acc []]).ix (1::BW 4) rfl).ox (1::BW 4) λYa=>rfl) ?_);refine AT.pre (F:=[As D [],BQ a c 0,AE c ((i::l2).map It.v),AV i.a [.str i.f i.tf,.str i.p i.tp],AE acc []]++[Ai l2]) (AT.NN (Y:=Nat) (c':=λYa=>.compLoop QR 0 (J a) (J acc) (FM SM SK 250 [] L D)) ((jt O (A:=A.under (.compLoop QR 0 (J a) (J acc) (FM SM SK 250 [] L D))) U.l.loop L D c a acc 0 i.a ((i::l2).map It.v) [] i.f i.p i.tf i.tp rfl h1 h2 ADp ADt).frame [Ai l2]) (λYa=>rfl) λk=>?_) λR s S=>?_
  ·refine((ih k).pre λR s S=>?_).weaken λq=>⟨⟨q.f,q.p,q.tf,q.tp,q.ks,by rw[q.ok];simp⟩,rfl,λR s S=>S⟩
   have S1:=St.picked (L:=[_,_,_,_,_,_]) (ix:=(3::4::BW 4)) S rfl;have S2:=St.Vs (l1:=[]) S1;exact St.picked (L:=[_,_,_,_,_]) (ix:=[1,1,1,0,0]) S2 rfl
  ·have S1:=St.picked (L:=[_,_,_,_,_]) (ix:=(3::BW 4)) S rfl
   exact St.picked (L:=[_,_,_,_,_,_]) (ix:=[2,2,2,0,1,0]) (St.Q2 (l1:=[]) S1) rfl
theorem aw(U:AA 1 A)(c:Nat):
 AS B A (Pl B 251 [J c]) [] (([(DK,J c)]:BC)) []:=
 rn O U (.fi () [])
theorem ZY(U:AA 1 A)(c:Nat):
 AC B.C A (OP B 251 [(DK,J c)]) []
  (λa0:Nat=>AR B.P 251 [] (a0+323))
  (λa0=>[AI a0 [(DK,J c)]]):=
 rn O U (.al λa0=>.fr λk1=>.g 6145<|.fi (a0) [0])
theorem bL(U:AA 20 A)(L c:Nat)(cks:List It)(CD:cks≠[])(FV: ∀i∈cks,It.MH i)(hlen:cks.length<=900)(Oo:JE (cks.map It.cat)):
 AC B.C A (Ac (A4 B.P 251) (AR B.P 251 [] (L+323))) [AI L [(DK,J c)],AE c (cks.map It.v),Ai cks]
  (λq:X5 (cks.map It.cat)×Nat=>.ret (.str (BB eS (q.1.ks.map (·.1))) q.2))
  (λq=>[AE c (cks.map It.v),Ai cks]):=by
 obtain⟨_,_|_⟩:=B<;>exact D7 O U (.fr λk0=>.g 270465<|.cc (Bt O U.l c (cks.map It.v)) [1] λ(y1:Nat)=>.g 65<|.al λa2=>.al λa3=>.cc (W9 O U.l L a3 c y1 a2 cks CD FV hlen) [0,1,1,2,0] λ(y4:X5 (cks.map It.cat))=>.g 103096385601<|.cc (N6 O U.l a2 ⟨⟨[]⟩⟩ k0 y4.ks (by first|assumption|(rw[X5.ok];assumption)|exact(ADs:(0:Nat)<=10)) (by first|assumption|(rw[X5.ok];assumption)|exact(ADs:(0:Nat)<=10))) [3] λy5=>.fi (y4,y5) [2,2])
def Vg(U:AA 22 A)(c:Nat)(cks:List It)(CD:cks≠[])(FV: ∀i∈cks,It.MH i)(hlen:cks.length<=900)(Oo:JE (cks.map It.cat)):Ag B.C A where
 c:=.call (.ref 251) ⟨[J c],[]⟩
 F:=[AE c (cks.map It.v),Ai cks]
 X:=Nat
 res:=λk=>.ok (.ret (.str (BB eS (cks.map It.cat)) k))
 led:=λYa=>[AE c (cks.map It.v),Ai cks]
 ok:=(AT.weaken (Pr O (n:=21) U ADq ((aw O U.l.in1 c).frame _) (λR s S=>(ZY O U.l.in1 c).frame [AE c (cks.map It.v),Ai cks] R s S)
  (λa=>BK (fl:=λq:X5 (cks.map It.cat)×Nat=>.ret (.str (BB eS (q.1.ks.map (·.1))) q.2)) (bL O (AA.deeper U.l) a c cks CD FV hlen Oo)))
  λq:X5 (cks.map It.cat)×Nat=>⟨q.2,by show(Cs (B6 (.str (BB eS (q.1.ks.map (·.1))) q.2)):Result)=_;rw[q.1.ok],λR s S=>S⟩).call
section
open PySem.StrLaws PySem.Builtin.Str
noncomputable def Gp(c:Nat):Ay->Nat->Ay
 |[],_=>[]
 |a::r,i=>if a=c then i::Gp c r (i+1) else Gp c r (i+1)
omit O
theorem Ko(c:Nat): ∀(l:Ay) (i:Nat),(Gp c l i).length=l.count c
 |[],_=>rfl
 |a::r,i=>by
  unfold Gp
  by_cases h:a=c
  ·rw[if_pos h,Ap,Ko c r,h,List.count_cons_self]
  ·rw[if_neg h,Ko c r,List.count_cons_of_ne h]
theorem AAU{x:Str}{c i a:Nat}{r:Ay}(h:x.cps.toList.drop i=a::r):subAt x ⟨⟨[c]⟩⟩ i=(a==c):=by
 unfold subAt;have e:x.cps.extract i (i+1)=#[a]:=by
  apply Array.toList_inj.mp;simp only[GO,Ma,h];simp
 show(x.cps.extract i (i+1)==#[c])=_
 rw[e];simp
theorem Q6(x:Str)(c:Nat): ∀(l:Ay) (i:Nat) (found:Array Nat) (free:Nat),x.cps.toList.drop i=l->i<=x.length->found.size<=i->free<=i->
 (ID (Kc i (l.length+1)) (found,free) (occBody x ⟨⟨[c]⟩⟩ x.length (x.length+1))).run.fst.toList=found.toList++Gp c l i
 |[],i,found,free,hd,hi,hs,hf=>by
  have hlen:x.cps.toList.length=x.length:=rfl;have hle:x.length<=i:=by rw[<-hlen];exact List.drop_eq_nil_iff.mp hd
  show(ID (Kc i 1) (found,free) (occBody x ⟨⟨[c]⟩⟩ x.length (x.length+1))).run.fst.toList=_
  rw[show Kc i 1=[i] from rfl,EP];unfold occBody;rw[if_neg (by show¬((_/\i+1<=x.length)/\_);lia)]
  show found.toList=_;simp[Gp]
 |a::r,i,found,free,hd,hi,hs,hf=>by
  have hlen:x.cps.toList.length=x.length:=rfl;have hr:i+(r.length+1)=x.length:=by
   have:=congrArg C7 hd
   rw[A6,hlen,Ap] at this
   lia
  have mE:x.cps.toList.drop (i+1)=r:=by rw[<-Hy,hd];rfl
  rw[Ap,List.range'_succ,EP];unfold occBody;rw[AAU hd]
  by_cases h:a=c
  ·rw[if_pos ⟨⟨⟨by show found.size<_;lia,hf⟩,by show i+1<=_;lia⟩,by simp[h]⟩]
   show(ID (Kc (i+1) (r.length+1)) (found.push i,i+1) (occBody x ⟨⟨[c]⟩⟩ x.length (x.length+1))).run.fst.toList=_
   rw[Q6 x c r (i+1) (found.push i) (i+1) mE ADp (by simp;lia) (Am _)]
   simp[Gp,h]
  ·rw[if_neg (by simp[h])]
   show(ID (Kc (i+1) (r.length+1)) (found,free) (occBody x ⟨⟨[c]⟩⟩ x.length (x.length+1))).run.fst.toList=_
   rw[Q6 x c r (i+1) found free mE ADp ADp ADp]
   simp[Gp,h]
theorem oB(x:Str)(c:Nat):occurrences x ⟨⟨[c]⟩⟩ 0 x.length (x.length+1)=Gp c x.cps.toList 0:=by
 rw[occ_eq]
 have:=Q6 x c x.cps.toList 0 #[] 0 (Du) (By _) (Am _) (Am _)
 rw[show x.length+1-0=x.cps.toList.length+1 from rfl,this]
 rfl
noncomputable def C2(c:Nat):Ay->List Ay
 |[]=>[[]]
 |a::r=>if a=c then []::C2 c r else(match C2 c r with|p::q=>(a::p)::q|[]=>[[a]])
theorem Jp(c:Nat): ∀l,C2 c l≠[]
 |[]=>by simp[C2]
 |a::r=>by
  unfold C2
  split
  ·simp
  ·split<;>simp
theorem Na(x:Str)(c:Nat): ∀(l:Ay) (i s:Nat) (p:Ay),x.cps.toList.drop i=l->s<=i->(x.cps.toList.drop s).take (i-s)=p->i<=x.length->
 (((s::(Gp c l i).map (· +1)).zip (Gp c l i++[x.length])).map λ(a,b)=>strSub x a b)=(match C2 c l with|q::r=>(p++q)::r|[]=>[]).map λy=>(⟨⟨y⟩⟩:Str)
 |[],i,s,p,hd,hs,hp,hi=>by
  have hlen:x.cps.toList.length=x.length:=rfl;have hle:x.length<=i:=by rw[<-hlen];exact List.drop_eq_nil_iff.mp hd
  have:i=x.length:=by lia
  subst this;simp only[Gp,EC,Al,Pb,List.zip_nil_right,Aw,C2,Aj]
  congr 1
  unfold strSub
  congr 1
  apply Array.toList_inj.mp;simp only[GO,Ma];exact hp
 |a::r,i,s,p,hd,hs,hp,hi=>by
  have hlen:x.cps.toList.length=x.length:=rfl;have hr:i+(r.length+1)=x.length:=by
   have:=congrArg C7 hd
   rw[A6,hlen,Ap] at this
   lia
  have mE:x.cps.toList.drop (i+1)=r:=by rw[<-Hy,hd];rfl
  by_cases h:a=c
  ·have ih:=Na x c r (i+1) (i+1) [] mE (Am _) ADt ADp
   simp only[Gp,if_pos h,Aw,A5,Pb,C2,Aj];rw[ih]
   congr 1
   ·unfold strSub
    congr 1
    apply Array.toList_inj.mp;simp only[GO,Ma];exact hp
   ·cases P7:C2 c r with
    |nil=>exact absurd P7 (Jp c r)
    |cons q t=>rfl
  ·have iQ:(x.cps.toList.drop s).take (i+1-s)=p++[a]:=by
    rw[show i+1-s=(i-s)+1 from by lia,FF,hp,Jy,show s+(i-s)=i from by lia]
    have:x.cps.toList[i]? =some a:=by
     have:=congrArg (·[0]?) hd
     simpa using this
    rw[this];rfl
   have ih:=Na x c r (i+1) s (p++[a]) mE ADp iQ ADp
   simp only[Gp,if_neg h,C2];rw[ih];cases P7:C2 c r with
   |nil=>exact absurd P7 (Jp c r)
   |cons q t=>simp
theorem r8(x:Str)(c:Nat):partsBetween x (occurrences x ⟨⟨[c]⟩⟩ 0 x.length (x.length+1)) 1=(C2 c x.cps.toList).map λy=>(⟨⟨y⟩⟩:Str):=by
 rw[oB]
 have:=Na x c x.cps.toList 0 0 [] Du (Am _) ADt (By _)
 unfold partsBetween;rw[this];cases P7:C2 c x.cps.toList with
 |nil=>exact absurd P7 (Jp c _)
 |cons q t=>rfl
noncomputable def IR(c:Nat):List Ay->Ay
 |[]=>[]
 |[a]=>a
 |a::b::r=>a++c::IR c (b::r)
theorem MT(c:Nat): ∀(p l:Ay),c∉p->C2 c (p++l)=(match C2 c l with|q::r=>(p++q)::r|[]=>[])
 |[],l,_=>by
  cases P7:C2 c l with
  |nil=>exact absurd P7 (Jp c l)
  |cons q t=>simp[P7]
 |a::p,l,h=>by
  have h1: ¬a=c:=λe=>h (by rw[e];exact .head _)
  have ih:=MT c p l λhm=>h (.tail _ hm)
  show(if a=c then _ else(match C2 c (p++l) with|p::q=>(a::p)::q|[]=>[[a]]))=_
  rw[if_neg h1];rw[ih];cases P7:C2 c l with
  |nil=>exact absurd P7 (Jp c l)
  |cons q t=>rfl
theorem Rs(c:Nat): ∀rows:List Ay,rows≠[]->(∀r∈rows,c∉r)->C2 c (IR c rows)=rows
 |[],h,_=>absurd rfl h
 |[a],_,h=>by
  have:=MT c a [] (h a (.head _))
  rw[Aj] at this;show C2 c a=[a];rw[this];simp[C2]
 |a::b::r,_,h=>by
  have ih:=Rs c (b::r) ADt λx hx=>h x (.tail _ hx)
  show C2 c (a++c::IR c (b::r))=_;rw[MT c a _ (h a (.head _))]
  have:C2 c (c::IR c (b::r))=[]::C2 c (IR c (b::r)):=by
   show(if c=c then _ else _)=_
   rw[if_pos rfl]
  rw[this,ih];simp
theorem NK(sep:Str): ∀(r:List Str) (acc:Array Nat),(r.foldl (λacc p=>acc++sep.cps++p.cps) acc).toList=acc.toList++r.flatMap λp=>sep.cps.toList++p.cps.toList
 |[],acc=>by simp
 |a::r,acc=>by rw[C0,NK sep r];simp
theorem Vt(c:Nat): ∀rows:List Str,rows≠[]->(BB ⟨⟨[c]⟩⟩ rows).cps.toList=IR c (rows.map λr=>r.cps.toList)
 |[],h=>absurd rfl h
 |a::r,_=>by
  show(r.foldl (λacc p=>acc++(⟨[c]⟩:Array Nat)++p.cps) a.cps).toList=_
  rw[NK ⟨⟨[c]⟩⟩ r a.cps]
  induction r generalizing a with
  |nil=>simp[IR]
  |cons b r ih=>
   have:=ih b ADt
   simp only[Aw,IR] at this⊢;rw[<-this];simp
theorem MN: ∀rows:List Str,(BB eS rows).cps.toList=(rows.map λr=>r.cps.toList).flatten
 |[]=>rfl
 |a::r=>by
  show(r.foldl (λacc p=>acc++(⟨[]⟩:Array Nat)++p.cps) a.cps).toList=_
  rw[NK eS r a.cps];simp[List.flatMap]
end
section
open PySem.StrLaws
noncomputable def Y5{B:Bx}{A:AL}(O:B.C.Ok)(U:AA 3 A)(x:Str)(t u:Nat):Ag B.C A where
 c:=.call (.builtin "str.count") ⟨[.str x t,.str ⟨⟨[32]⟩⟩ u],[]⟩
 F:=[]
 X:=Nat
 res:=λk=>.ok (.ret (.int ((x.cps.toList.count 32:Nat):Int) k))
 led:=λYa=>[]
 ok:=Hg PySem.F.slot_str_count PySem.F.entry_str_count (PySem.F.args_str_count_2 _ _) (by
  have:=gives_str_count x ⟨⟨[32]⟩⟩ t u
  rw[oB,Ko] at this;exact this) (λs=>rfl)
structure R3(rows:List Str) where
 a:Nat
 ks:Db
 ok:ks.map (·.1)=rows
omit O
theorem QM: ∀(l:List Str) (k:Nat),∃ks:Db,strsFrom k l=ks.map rv/\ks.map (·.1)=l
 |[],k=>⟨[],rfl,rfl⟩
 |a::r,k=>by
  obtain⟨ks,e,h⟩:=QM r (k+1);exact⟨(a,k)::ks,by rw[Aw,<-e];rfl,by rw[Aw,h]⟩
theorem T1(c:Nat): ∀(l:Ay) (i:Nat),Gp c l i=[]->c∉l
 |[],_,_=>by simp
 |a::r,i,h=>by
  unfold Gp at h
  by_cases e:a=c
  ·rw[if_pos e] at h;cases h
  ·rw[if_neg e] at h
   intro hm
   rcases List.mem_cons.mp hm with q|q
   ·exact e q.symm
   ·exact T1 c r (i+1) h q
theorem M8{B:Bx}(O:B.C.Ok){R:AN}{s:Af}(S:St B.C R s)(ks:Db){t:Nat}(ht:s.toks<=t):
 St B.C (AE (s.heap.objs.size-323) (ks.map rv)::R) {s with heap:=s.heap.push {cls:=.type "list",data:=.seq (ks.map rv).toArray},toks:=t}:=by
 show St B.C (.one (s.heap.objs.size-323+323) _::_) _;rw[<-St.size_eq O S];exact St.alloc (S.toks t ht) rfl ⟨G0,rfl⟩
theorem je{B:Bx}{A:AL}(O:B.C.Ok)(x:Str)(t u:Nat)(hx:x.length<=1000000):
 Bv B.C A (.call (.builtin "str.split") ⟨[.str x t,.str ⟨⟨[10]⟩⟩ u],[]⟩) [] (λq:R3 ((C2 10 x.cps.toList).map λy=>(⟨⟨y⟩⟩:Str))=>.ok (.ret (J q.a))) (λq=>[AE q.a (q.ks.map rv)]):=by
 have hk:decide (ES x<ES ⟨⟨[10]⟩⟩)=false:=by
  rw[decide_eq_false_iff_not];have h1:ES ⟨⟨[10]⟩⟩=1:=by decide+kernel
  rw[h1];unfold ES
  split
  ·decide
  ·split<;>decide
 by_cases h0:x.length<1
 ·have rO:x=⟨⟨[]⟩⟩:=by
   obtain⟨⟨l⟩⟩:=x
   have:l.length<1:=h0
   cases l with
   |nil=>rfl
   |cons a r=>simp at this
  subst rO;refine D9 H2 HX (G1 _ _) (meets_str_split_cannot_occur _ _ t u ADs) λR s S=>⟨rfl,⟨s.heap.objs.size-323,[(⟨⟨[]⟩⟩,t)],rfl⟩,?_,?_⟩
  ·show _=(.ok (.ret (.ref (s.heap.objs.size-323+323))):Result)
   rw[<-S.size_eq O]
  ·exact M8 O S [((⟨⟨[]⟩⟩:Str),t)] (Am _)
 ·have h1:(decide (x.length<(⟨⟨[10]⟩⟩:Str).length)||decide (ES x<ES ⟨⟨[10]⟩⟩))=false:=by
   rw[hk,Bool.or_false,decide_eq_false_iff_not];exact h0
  by_cases hf:(FT x ⟨⟨[10]⟩⟩ 0 x.length (x.length+1)).isEmpty=true
  ·have dK:10∉x.cps.toList:=by
    rw[oB] at hf;exact T1 10 _ 0 (List.isEmpty_iff.mp hf)
   have P7:C2 10 x.cps.toList=[x.cps.toList]:=by
    have:=MT 10 x.cps.toList [] dK
    rw[Aj] at this;rw[this];simp[C2]
   refine D9 H2 HX (G1 _ _) (meets_str_split_not_found x _ t u h1 ADs hf) λR s S=>⟨rfl,⟨s.heap.objs.size-323,[(x,t)],by rw[P7];rfl⟩,?_,?_⟩
   ·show _=(.ok (.ret (.ref (s.heap.objs.size-323+323))):Result)
    rw[<-S.size_eq O]
   ·exact M8 O S [(x,t)] (Am _)
  ·have rK:(FT x ⟨⟨[10]⟩⟩ 0 x.length (x.length+1)).isEmpty=false:=by simpa using hf
   have hlen:(Ks x (FT x ⟨⟨[10]⟩⟩ 0 x.length (x.length+1)) (⟨⟨[10]⟩⟩:Str).length).length<=sizeLine:=by
    rw[length_partsBetween]
    have:=occ_length_le x ⟨⟨[10]⟩⟩ 0 x.length (x.length+1)
    rw[Br];lia
   refine D9 H2 HX (G1 _ _) (meets_str_split_sep x _ t u h1 ADs rK (by rw[Br];lia) hlen) λR s S=>?_
   have hp:Ks x (FT x ⟨⟨[10]⟩⟩ 0 x.length (x.length+1)) (⟨⟨[10]⟩⟩:Str).length=(C2 10 x.cps.toList).map λy=>(⟨⟨y⟩⟩:Str):=r8 x 10;rw[hp];obtain⟨ks,e,h⟩:=QM ((C2 10 x.cps.toList).map λy=>(⟨⟨y⟩⟩:Str)) s.toks;rw[e];refine⟨rfl,⟨s.heap.objs.size-323,ks,h⟩,?_,?_⟩
   ·show _=(.ok (.ret (.ref (s.heap.objs.size-323+323))):Result)
    rw[<-S.size_eq O]
   ·exact M8 O S ks (Gd _ _)
theorem aL{rows:List Str}(CD:rows≠[])(dK: ∀r∈rows,10∉r.cps.toList):((C2 10 (BB ⟨⟨[10]⟩⟩ rows).cps.toList).map λy=>(⟨⟨y⟩⟩:Str))=rows:=by
 rw[Vt 10 rows CD,Rs 10 _ (by simpa using CD) (λr hr=>by
  obtain⟨x,hx,rfl⟩:=List.mem_map.mp hr;exact dK x hx),CK]
 conv=>rhs;rw[<-List.map_id rows]
 rfl
include O
def RX(U:AA 3 A)(rows:List Str)(t u:Nat)(CD:rows≠[])(dK: ∀r∈rows,10∉r.cps.toList)(hx:(BB ⟨⟨[10]⟩⟩ rows).length<=1000000):Ag B.C A where
 c:=.call (.builtin "str.split") ⟨[.str (BB ⟨⟨[10]⟩⟩ rows) t,.str ⟨⟨[10]⟩⟩ u],[]⟩
 F:=[]
 X:=R3 rows
 res:=λq=>.ok (.ret (J q.a))
 led:=λq=>[AE q.a (q.ks.map rv)]
 ok:=AC.weaken (je O (BB ⟨⟨[10]⟩⟩ rows) t u hx) λq=>⟨⟨q.a,q.ks,by rw[q.ok];exact aL CD dK⟩,rfl,λR s S=>S⟩
end
def DI(cs:Ed):Ay:=cs.flatMap λc=>c.1.cps.toList++c.2.cps.toList
omit O
theorem KA(cur:Ed):(Fa cur).cps.toList=DI cur:=by
 unfold Fa;rw[MN,CK];unfold DI;rw[List.flatMap_def]
 congr 1
 refine CA λc _=>?_
 show(BB eS [c.1,c.2]).cps.toList=_
 rw[MN];simp
def Ab.out(a:Ab):List Str:=a.rows++[Fa a.cur]
def Ab.all(a:Ab):Ay:=(a.out.map λr=>r.cps.toList).flatten
theorem Pj(a:Ab):a.all=(a.rows.map λr=>r.cps.toList).flatten++DI a.cur:=by
 simp[Ab.all,Ab.out,KA]
theorem L9(a b:Ed):DI (a++b)=DI a++DI b:=by simp[DI]
theorem fN(m:Nat)(a:Ab)(c:Str×Str):(a.step m c).all=a.all++DI [c]:=by
 rw[Pj,Pj];unfold Ab.step
 split
 ·dsimp only;rw[L9,AG]
 ·split
  ·rename_i h
   dsimp only
   rw[h]
   split<;>simp[DI]
  ·rename_i h
   dsimp only
   simp[KA]
theorem N4(m:Nat): ∀(cs:Ed) (a:Ab),(cs.foldl (Ab.step m) a).all=a.all++DI cs
 |[],a=>by simp[DI]
 |c::r,a=>by
  rw[C0,N4 m r,fN,AG,<-L9];rfl
structure FL(c:Str×Str):Prop where
 fr: ∃fr,c.1=⟨⟨32::fr⟩⟩
 ws: ∀x∈c.1.cps.toList,x=32∨x=9
 ne:c.2.cps.toList≠[]
 az: ∀x∈c.2.cps.toList,97<=x/\x<=122
 s1:c.1.length<=100
 s2:c.2.length<=100
structure OK(k:Nat)(a:Ab):Prop where
 n:a.n<=1000
 rows:a.rows.length<=k
 cur:a.cur.length<=k
 parts: ∀c∈a.cur,FL c
theorem OK.bd{k:Nat}{a:Ab}(h:OK k a):Bd k a:=⟨h.n,h.rows,h.cur,λc hc=>⟨AK (h.parts c hc).s1 ADs,AK (h.parts c hc).s2 ADs⟩⟩
theorem OK.step{k m:Nat}{a:Ab}(h:OK k a){c:Str×Str}(hc:FL c):OK (k+1) (a.step m c):=by
 have one: ∀d∈[c],FL d:=λd hd=>by rw[List.mem_singleton.mp hd];exact hc
 have b:=h.bd.step (m:=m) (c:=c) ⟨AK hc.s1 ADs,AK hc.s2 ADs⟩
 refine⟨b.n,b.rows,b.cur,?_⟩;unfold Ab.step
 split
 ·intro d hd
  rcases List.mem_append.mp hd with hd|hd
  ·exact h.parts d hd
  ·exact one d hd
 ·split
  ·exact one
  ·exact one
theorem OK.fold{m:Nat}: ∀(cs:Ed) {k:Nat} {a:Ab},OK k a->(∀c∈cs,FL c)->OK (k+cs.length) (cs.foldl (Ab.step m) a)
 |[],k,a,h,_=>h
 |c::r,k,a,h,hc=>by
  have:=OK.fold (m:=m) r (h.step (m:=m) (hc c (.head _))) λd hd=>hc d (.tail _ hd)
  rw[C0,Ap,show k+(r.length+1)=k+1+r.length from by lia]
  exact this
theorem pN(m:Nat)(a:Ab)(c:Str×Str):(a.step m c).cur≠[]:=by
 unfold Ab.step
 split
 ·simp
 ·split<;>simp
theorem TR(m:Nat): ∀(cs:Ed) (a:Ab),cs≠[]->(cs.foldl (Ab.step m) a).cur≠[]
 |[],_,h=>absurd rfl h
 |[c],a,_=>pN m a c
 |c::d::r,a,_=>by rw[C0];exact TR m (d::r) _ ADt
theorem fU: ∀c,97<=c->c<=122->Cg c=false:=by
 have: ∀k:Fin 123,97<=k.val->Cg k.val=false:=by decide+kernel
 intro c h1 h2;exact this ⟨c,by lia⟩ h1
theorem iw{cs:Ed}{x:Nat}(h:x∈DI cs): ∃c∈cs,x∈c.1.cps.toList∨x∈c.2.cps.toList:=by
 obtain⟨c,hc,hx⟩:=List.mem_flatMap.mp h;exact⟨c,hc,List.mem_append.mp hx⟩
theorem sG{rows:List Str}{r:Str}(h:r∈rows):r.length<=((rows.map λr=>r.cps.toList).flatten).length:=by
 induction rows with
 |nil=>cases h
 |cons a t ih=>
  rw[Aw,QX,AX]
  rcases List.mem_cons.mp h with rfl|h
  ·exact Gd _ _
  ·exact AK (ih h) (Fv _ _)
theorem VQ{cs:Ed}(h: ∀c∈cs,FL c):(DI cs).length<=cs.length*200:=by
 induction cs with
 |nil=>simp[DI]
 |cons c r ih=>
  have h1:=(h c (.head _)).s1;have h2:=(h c (.head _)).s2
  have:=ih λd hd=>h d (.tail _ hd)
  have e:DI (c::r)=c.1.cps.toList++c.2.cps.toList++DI r:=by simp[DI]
  rw[e,AX,AX,Ap];have e1:c.1.cps.toList.length=c.1.length:=rfl;have e2:c.2.cps.toList.length=c.2.length:=rfl
  lia
theorem FL.ok{f p:Str}(h:FL (f,p)):f.cps.all (· <0x110000)=true/\p.cps.all (· <0x110000)=true:=by
 constructor
 ·rw[FC]
  intro x hx
  have:=h.ws x (by simpa using hx)
  rw[decide_eq_true_eq];lia
 ·rw[FC]
  intro x hx
  have:=h.az x (by simpa using hx)
  rw[decide_eq_true_eq];lia
include O
def TK(hS:B.Std)(U:AA 32 A)(x dx m u t3 t5 t4 l y dy t6 k:Nat)(h:FX)(hI:OK k h.ab)(hk:k<=300)(CD:h.ab.cur≠[])(Fo:h.ab.all.length<=5000):Ag B.C A where
 c:=.call (.ref 64) ⟨[J x,.str ⟨⟨[10]⟩⟩ t6],[]⟩
 F:=[BO x dx,Bc dx m u t3 t5 t4 l y,BS y dy h.AH,A3 dy (.int (h.n:Int) h.t),Ai h.AH,AE l (h.rs.map rv)]
 X:=Nat
 res:=λk=>.ok (.ret (.str (BB ⟨⟨[10]⟩⟩ h.ab.out) k))
 led:=λYa=>[]
 ok:=by
  obtain⟨AH,n,t,rs⟩:=h;have tP:AH≠[]:=λe=>CD (by simp[FX.ab,e])
  obtain⟨l1,i,rfl⟩: ∃l i,AH=l++[i]:=⟨AH.dropLast,AH.getLast tP,(List.dropLast_concat_getLast tP).symm⟩;have zB:(FX.mk (l1++[i]) n t rs).ab.cur=l1.map It.ab++[It.ab i]:=by simp[FX.ab]
  have hw:FL (i.f,i.p):=hI.parts (It.ab i) (by rw[zB];simp)
  have hrl:rs.length<=300:=by have:=hI.rows;rw[show(FX.mk (l1++[i]) n t rs).ab.rows=rs.map (·.1) from rfl,AD] at this;lia
  have iP:(l1++[i]).length<=300:=by have:=hI.cur;rw[show(FX.mk (l1++[i]) n t rs).ab.cur=(l1++[i]).map It.ab from rfl,AD] at this;lia
  have eX: ∀j∈l1++[i],FL (j.f,j.p):=λj hj=>hI.parts (It.ab j) (CB hj);have mf:CY (l1++[i]):=⟨by lia,λj hj=>⟨AK (eX j hj).s1 ADs,AK (eX j hj).s2 ADs⟩⟩
  have yz:(Bq (l1++[i])).cps.toList=DI (l1.map It.ab)++(i.f.cps.toList++i.p.cps.toList):=by
   rw[<-M7,KA,AZ,L9];simp[DI,It.ab]
  obtain⟨a,r,vD⟩: ∃a r,i.p.cps.toList=a::r:=by
   cases e:i.p.cps.toList with
   |nil=>exact absurd e hw.ne
   |cons a r=>exact⟨a,r,rfl⟩
  have hz:0<CN (l1++[i]):=by
   have e:i.p.length=i.p.cps.toList.length:=rfl;simp only[CN,AZ,Aw,EC,G7,Ea,Qa,It.len];rw[e,vD,Ap];lia
  have P7:(Bq (l1++[i])).cps.all Cg=false:=by
   have ha:=hw.az a (by show a∈i.p.cps.toList;rw[vD];exact .head _)
   rw[<-Bool.not_eq_true,FC];intro Fo
   have:=Fo a (by rw[<-Array.mem_toList_iff,yz,vD];simp)
   rw[fU a ha.1 ha.2] at this;cases this
  have Mn:(FX.mk (l1++[i]) n t rs).ab.out=rs.map (·.1)++[Bq (l1++[i])]:=by
   show rs.map (·.1)++[Fa ((l1++[i]).map It.ab)]=_;rw[M7]
  have Oo:JE (rs.map (·.1)++[Bq (l1++[i])]):=by
   rw[<-Mn];refine⟨by rw[Mn];simp;lia,λr hr=>AK (sG hr) Fo⟩
  rw[Mn]
  exact(gv O hS U x dx m u t3 t5 t4 l y dy n t l1 i rs t6 mf hI.n hw.ne hw.ok hz ADp P7 Oo).ok
def H7(n:Nat):Ab:=⟨[],[],n⟩
def bZ(hS:B.Std)(U:AA 88 A)(a b d x dx m u t3 t5 t4 l y dy t:Nat)(f s:Str)(t0 t1:Nat)(words:List Wd)(hf:f.length≠0)(hs:s.length≠0)(SI:(f++s).length<=100000)(hw:(f++s).cps.toList=Et words)(IQ: ∀w∈words,Wd.ok w)
 (CD:words≠[]) (hc: ∀d∈words.map Gi,Ck d) (hk:words.length<=300):Ag B.C A where
 c:=.call (.ref 92) ⟨[J x,.str f t0,.str s t1,J a],[]⟩
 F:=[Xk a b d,Xj d,BO x dx,Bc dx m u t3 t5 t4 l y,AY y dy [],A3 dy (.int 0 t),AE l []]
 X:=OJ m (H7 0) (words.map Gi)
 res:=λYa=>.ok (.ret .none)
 led:=λq=>[BO x dx,Bc dx m u t3 t5 t4 l y,BS y dy q.g.AH,A3 dy (.int (q.g.n:Int) q.g.t),Ai q.g.AH,AE l (q.g.rs.map rv)]
 ok:=AC.pre (gK O hS U a b d x dx m u t3 t5 t4 l y dy 0 f s t0 t1 ⟨[],0,t,[]⟩ words hf hs SI hw IQ CD hc ⟨By _,Am _,Am _,λYa h=>nomatch h⟩ ADp).ok λR s S=>S.BV (EH _)
omit O
theorem aI(x:Str)(t n u:Nat)(h0:0<n)(hn:n<=x.length):sliceMade x t (some ((n:Int),u)) none none=.str ⟨⟨x.cps.toList.drop n⟩⟩:=by
 have e:Rz x (some ((n:Int),u)) none none=(Ah (x.length-n)).map (λk=>n+k):=by
  unfold Rz;show JN (some (n:Int)) none 1 x.length=_;rw[Kv,StrLaws.strSliceIndices_plain hn (Am _)]
 unfold sliceMade;rw[if_neg (by rw[e];simp;lia)]
 congr 2
 have:=StrLaws.sliced_plain x hn (Am _)
 unfold Rz
 show((JN (some (n:Int)) none 1 x.length).filterMap (x.cps[·]?)).toArray=_
 rw[Kv,this,EX (by rw[A6];exact Am _)]
def cD{B:Bx}{A:AL}(O:B.C.Ok)(U:AA 3 A)(x:Str)(t n u sl:Nat)(h0:0<n)(hn:n<=x.length)(hx:x.length<=1000000):Ag B.C A where
 c:=.call (.builtin "str.__getitem__") ⟨[.str x t,J sl],[]⟩
 F:=[F8 sl (.int (n:Int) u) .none]
 X:=Nat
 res:=λk=>.ok (.ret (.str ⟨⟨x.cps.toList.drop n⟩⟩ k))
 led:=λYa=>[F8 sl (.int (n:Int) u) .none]
 ok:=D9 Ku J_ (J2 _ _) (meets_str_getitem_slice x t (sl+323) (some ((n:Int),u)) none none rfl) λR s S=>by
  refine⟨rfl,⟨_,DV S,rfl,rfl⟩,?_⟩;rw[aI x t n u h0 hn];exact⟨by show(x.cps.toList.drop n).length<=_;rw[Br,A6];have:x.cps.toList.length=x.length:=rfl;lia,s.toks,rfl,S.toks _ (Eb _)⟩
theorem eO(B:Bx):A4 B.P 258=[sN 19 0,sN 19 1,.Expr (vE (sN 19 2)) (pS 222 4 67),.Return (some (vE (sN 19 3))) (pS 223 4 39)]:=by kernel_rfl
include O
def cL(U:AA 22 A)(c:Nat)(cks:List It)(tx:Str)(vI:BB eS (cks.map It.cat)=tx)(CD:cks≠[])(FV: ∀i∈cks,It.MH i)(hlen:cks.length<=900)(Oo:JE (cks.map It.cat)):Ag B.C A:=
 (Vg O U c cks CD FV hlen Oo).re (λk:Nat=>.ok (.ret (.str tx k))) (λYa=>[AE c (cks.map It.v),Ai cks]) (λk=>k) (λk=>by subst vI;rfl) (λYa=>rfl)
def Y6(U:AA 3 A)(x r:Str)(t n u sl:Nat)(hr:(⟨⟨x.cps.toList.drop n⟩⟩:Str)=r)(h0:0<n)(hn:n<=x.length)(hx:x.length<=1000000):Ag B.C A:=
 (cD O U x t n u sl h0 hn hx).re (λk:Nat=>.ok (.ret (.str r k))) (λYa=>[F8 sl (.int (n:Int) u) .none]) (λk=>k) (λk=>by subst hr;rfl) (λYa=>rfl)
theorem uI(U:AA 120 A)(L m u c o:Nat)(xs:Ak)(f p:Str)(tf tp:Nat)(hx:xs[0]? =some (J o))(hl:xs.length<=1000):
 AC B.C A (Ac ((A4 B.P 258).take 2) (AR B.P 258 [] (L+323))) [AI L [(DK,J c),(ER,.int (m:Int) u)],AE c xs,AV o [.str f tf,.str p tp]]
  (λq:((Nat×Nat)×Nat×Nat×Nat×Nat)×Nat×Nat×Nat=>Dg)
  (λq=>[AI L [(DK,J c),(ER,.int (m:Int) u),(Js,J q.1.1.1),(DC,.str f tf)],AE c xs,AV o [.str f tf,.str p tp],BO q.1.1.1 q.1.1.2,Bc q.1.1.2 m u q.2.2.1 q.1.2.1 q.2.2.2 q.1.2.2.1 q.1.2.2.2.1,AY q.1.2.2.2.1 q.1.2.2.2.2 [],A3 q.1.2.2.2.2 (.int 0 q.2.1),AE q.1.2.2.1 []]):=
 D7 O U (.g 64<|.fr λk0=>.g 65<|.fr λk1=>.fr λk2=>.g 4096<|.cc (TD O U.l 0 k0 m u k1 k2) [] λy3=>.fr λk4=>.g 289094<|.fr λk5=>.g 291271<|.cc (BZ O U.l c 0 k5 xs (J o) hx hl) [6] λYa=>.fr λk7=>.g 295432<|.cc (PC O U.l o k7 (.str f tf) (.str p tp)) [7] λYa=>.cc (Dp O U.l) [] λYa=>.fr λH9=>.g 6600<|.fi (y3,k0,k1,k2) (7::1::BW 6))
theorem yi(U:AA 120 A)(L m u c x dx t3 t5 t4 l y dy t:Nat)(cks:List It)(f tx rx:Str)(tf:Nat)(words:List Wd)(hS:B.Std)(vI:BB eS (cks.map It.cat)=tx)(hrx:(⟨⟨tx.cps.toList.drop f.length⟩⟩:Str)=rx)(CD:cks≠[])(FV: ∀i∈cks,It.MH i)(hlen:cks.length<=900)(Oo:JE (cks.map It.cat))(h0:0<f.length)(hn:f.length<=tx.length)(hx:tx.length<=1000000)(dG:f.length<=1000000)(hf:f.length≠0)(hs:rx.length≠0)(SI:(f++rx).length<=100000)(hw:(f++rx).cps.toList=Et words)(IQ: ∀w∈words,Wd.ok w)(hnw:words≠[])(hc: ∀d∈words.map Gi,Ck d)(hk:words.length<=300):
 AC B.C A (Ac (((A4 B.P 258).drop 2).take 1) (AR B.P 258 [] (L+323))) [AI L [(DK,J c),(ER,.int (m:Int) u),(Js,J x),(DC,.str f tf)],AE c (cks.map It.v),Ai cks,BO x dx,Bc dx m u t3 t5 t4 l y,AY y dy [],A3 dy (.int 0 t),AE l []]
  (λq:OJ m (H7 0) (words.map Gi)=>.next)
  (λq=>[AI L [(DK,J c),(ER,.int (m:Int) u),(Js,J x),(DC,.str f tf)],BO x dx,Bc dx m u t3 t5 t4 l y,BS y dy q.g.AH,A3 dy (.int (q.g.n:Int) q.g.t),Ai q.g.AH,AE l (q.g.rs.map rv),AE c (cks.map It.v),Ai cks]):=Ix O U (.g 1329552599833808262849223049854583041<|.cc (cL O U.l c cks tx vI CD FV hlen Oo) [1,1] λy0=>.g 274432<|.cc (JQ O U.l f tf dG) [] λ(y1:Nat×Nat)=>.al λa2=>.cc (Y6 O U.l tx rx y0 f.length y1.snd a2 hrx h0 hn hx) [0] λy3=>.g 4096<|.cc (b7 O U.l) [] λ(y4:Nat×Nat×Nat)=>.g 64<|.cc (bZ O hS U.l y4.fst y4.snd.fst y4.snd.snd x dx m u t3 t5 t4 l y dy t f rx tf y3 words hf hs SI hw IQ hnw hc hk) [0,0,4,4,4,4,4] λy5=>.fi (y5) [9,0,0,0,0,0,0,1,1])
theorem yj(U:AA 120 A)(L m u c x dx t3 t5 t4 l y dy tf k:Nat)(h:FX)(f:Str)(hS:B.Std)(hI:OK k h.ab)(hk:k<=300)(CD:h.ab.cur≠[])(Fo:h.ab.all.length<=5000)(hn1:h.ab.out≠[])(dK: ∀r∈h.ab.out,10∉r.cps.toList)(hx:(BB ⟨⟨[10]⟩⟩ h.ab.out).length<=1000000):
 AC B.C A (Ac ((A4 B.P 258).drop 3) (AR B.P 258 [] (L+323))) [AI L [(DK,J c),(ER,.int (m:Int) u),(Js,J x),(DC,.str f tf)],BO x dx,Bc dx m u t3 t5 t4 l y,BS y dy h.AH,A3 dy (.int (h.n:Int) h.t),Ai h.AH,AE l (h.rs.map rv)]
  (λq:R3 h.ab.out=>.ret (J q.a))
  (λq=>[AE q.a (q.ks.map rv)]):=Ix O U (.g 82980668258384175350998368385<|.fr λk0=>.g 64<|.cc (TK O hS U.l x dx m u t3 t5 t4 l y dy k0 k h hI hk CD Fo) [1,1,1,1,1,1] λy1=>.fr λk2=>.cc (RX O U.l h.ab.out y1 k2 hn1 dK hx) [] λy3=>.fi (y3) [0])
def UL(i:It):Wd:=(i.f.cps.toList,i.p.cps.toList)
omit O
theorem Sq(cks:List It):(cks.map UL).map Gi=cks.map It.ab:=by
 rw[CK];rfl
def Hk(m:Nat)(cs:Ed):List Str:=(cs.foldl (Ab.step m) (H7 0)).out
theorem FL.wd{i:It}(h:FL (i.f,i.p)):Wd.ok (UL i):=by
 obtain⟨fr,Hl⟩:=h.fr;refine⟨by show i.f.cps.toList≠[];rw[show i.f=⟨⟨32::fr⟩⟩ from Hl];simp,λc hc=>?_,h.ne,λc hc=>?_⟩
 ·rcases h.ws c hc with rfl|rfl<;>rfl
 ·have:=h.az c hc
  simp only[Mine.ws,Iz,beq_eq_false_iff_ne]
  lia
theorem FL.MH{i:It}(h:FL (i.f,i.p)):It.MH i:=by
 obtain⟨fr,Hl⟩:=h.fr;refine⟨by rw[show i.f=⟨⟨32::fr⟩⟩ from Hl];exact Nat.succ_ne_zero _,λe=>h.ne ?_,AK h.s1 ADs,AK h.s2 ADs⟩
 have:i.p.cps.toList.length=0:=e
 exact List.length_eq_zero_iff.mp this
theorem FL.ck{c:Str×Str}(h:FL c):Ck c:=⟨h.fr,AK h.s1 ADs,AK h.s2 ADs⟩
theorem Sl(cks:List It):(BB eS (cks.map It.cat)).cps.toList=DI (cks.map It.ab):=by
 rw[MN,CK,DI,List.flatMap_def,CK]
 congr 1
 refine CA λi _=>?_
 show(i.f.cps++i.p.cps).toList=_
 simp[It.ab]
theorem cy(cks:List It):Et (cks.map UL)=DI (cks.map It.ab):=by
 simp only[Et,DI,List.flatMap_map];rfl
theorem j4(n:Nat)(h:n<=1000):OK 0 (H7 n):=⟨h,Am _,Am _,λYa h=>nomatch h⟩
theorem Tx{k:Nat}{cs:Ed}{a:Ab}(h:a.all=DI cs)(hc: ∀c∈cs,FL c): ∀r∈a.out,10∉r.cps.toList:=by
 intro r hr hx
 have:10∈a.all:=List.mem_flatten.mpr ⟨r.cps.toList,CB hr,hx⟩
 rw[h] at this;obtain⟨c,zA,hx⟩:=iw this
 rcases hx with hx|hx
 ·have:=(hc c zA).ws 10 hx;lia
 ·have:=(hc c zA).az 10 hx;lia
theorem Ti(c:Nat): ∀rows:List Ay,(IR c rows).length<=rows.flatten.length+rows.length
 |[]=>by simp[IR]
 |[a]=>by simp[IR]
 |a::b::r=>by
  have:=Ti c (b::r)
  simp only[IR,AX,Ap,QX] at this⊢
  lia
theorem QB{rows:List Str}(h:rows≠[]){n k:Nat}(h1:((rows.map λr=>r.cps.toList).flatten).length<=n)(h2:rows.length<=k):(BB ⟨⟨[10]⟩⟩ rows).length<=n+k:=by
 have e:=Vt 10 rows h
 have:(BB ⟨⟨[10]⟩⟩ rows).length=(IR 10 (rows.map λr=>r.cps.toList)).length:=by rw[<-e];rfl
 rw[this]
 have:=Ti 10 (rows.map λr=>r.cps.toList)
 rw[AD] at this
 lia
theorem SW(a:Ab):a.out≠[]:=by simp[Ab.out]
theorem fJ{M:Model}{Γ:Ctx}{env:Env}{l2:Dx}{Q:OV->Pos->Af->Prop}{E:Value->Pos->Af->Prop}: ∀(l1:Dx) {p:Pos} {s:Af},
 Sem.wp M Γ (Ac l1 env) (λf p' s'=>match f with|.next=>Sem.wp M Γ (Ac l2 env) Q E p' s'|f=>Q f p' s') E p s->Sem.wp M Γ (Ac (l1++l2) env) Q E p s
 |[],p,s,h=>h
 |st::r,p,s,h=>by
  rw[Pe,Mg] at h;rw[A5,Pe,Mg];refine Nz M Γ _ (λf p' s' h'=>?_) (λYa Ya Ya h'=>h') _ _ h;cases f with
  |next=>exact fJ r h'
  |_=>exact h'
theorem Sf{M:Model}{A:AL}{E:Value->Af->Prop}{env:Env}{l2:Dx}{Q:OV->Af->Prop}(l1:Dx){s:Af}
 (h:BN M A (Ac l1 env) (λf s'=>match f with|.next=>BN M A (Ac l2 env) Q E s'|f=>Q f s') E s):BN M A (Ac (l1++l2) env) Q E s:=λΓ p hΓ=>by
 refine fJ l1 (Nz M Γ _ (λf p' s' h'=>?_) (λYa Ya Ya h'=>h') _ _ (h Γ p hΓ));cases f with
 |next=>exact h' Γ p' hΓ
 |_=>exact h'
theorem AC.seq{C:Cx}{A:AL}{L:AN}{l1 l2:Dx}{env:Env}{X Y:Type}{led1:X->AN}{fl:Y->OV}{led2:Y->AN}
 (h1:AC C A (Ac l1 env) L (λYa:X=>.next) led1) (h2: ∀x,AC C A (Ac l2 env) (led1 x) fl led2):AC C A (Ac (l1++l2) env) L fl led2:=λR s S=>
 Sf l1 (Av (h1 R s S) (λf s₁ ⟨x,e,S₁⟩=>by subst e;exact h2 x R s₁ S₁) λYa Ya q=>q)
theorem fb{B:Bx}(O:B.C.Ok)(hS:B.Std){A:AL}(U:AA 120 A)(L c m u:Nat)(cks:List It)(CD:cks≠[])(hW: ∀i∈cks,FL (i.f,i.p))(hlen:cks.length<=20):
 AC B.C A (Ac (A4 B.P 258) (AR B.P 258 [] (L+323))) [AI L [(DK,J c),(ER,.int (m:Int) u)],AE c (cks.map It.v),Ai cks]
  (λq:R3 (Hk m (cks.map It.ab))=>B6 (J q.a)) (λq=>[AE q.a (q.ks.map rv),AE c (cks.map It.v),Ai cks]):=by
 obtain⟨i0,ir,rfl⟩: ∃i l,cks=i::l:=by cases cks with|nil=>exact absurd rfl CD|cons i l=>exact⟨i,l,rfl⟩
 have hW0:=hW i0 (.head _);have Rf: ∀d∈(i0::ir).map It.ab,FL d:=λd hd=>by obtain⟨i,hi,rfl⟩:=List.mem_map.mp hd;exact hW i hi
 have hcl:(DI ((i0::ir).map It.ab)).length<=4000:=by
  have:=VQ Rf
  rw[AD] at this
  lia
 have FV: ∀i∈i0::ir,It.MH i:=λi hi=>(hW i hi).MH;obtain⟨f1,f2,f3,f4⟩:=FV i0 (.head _);have vH:(BB eS ((i0::ir).map It.cat)).cps.toList=DI ((i0::ir).map It.ab):=Sl _;have dD:DI ((i0::ir).map It.ab)=i0.f.cps.toList++(i0.p.cps.toList++DI (ir.map It.ab)):=by simp[DI,It.ab]
 have mO:(BB eS ((i0::ir).map It.cat)).cps.toList.drop i0.f.length=i0.p.cps.toList++DI (ir.map It.ab):=by
  rw[vH,dD];exact Jx
 have Oo:JE ((i0::ir).map It.cat):=by
  refine⟨by rw[AD];lia,λx hx=>?_⟩
  obtain⟨i,hi,rfl⟩:=List.mem_map.mp hx;have h1:=(hW i hi).s1;have h2:=(hW i hi).s2
  show(i.f.cps++i.p.cps).size<=5000
  rw[Hv];have e1:i.f.length=i.f.cps.size:=rfl;have e2:i.p.length=i.p.cps.size:=rfl
  dsimp only at h1 h2
  lia
 have e1:=uI O U L m u c i0.a ((i0::ir).map It.v) i0.f i0.p i0.tf i0.tp rfl (by rw[AD];lia)
 have hp0:i0.p.cps.toList.length=i0.p.length:=rfl;have hf0:i0.f.cps.toList.length=i0.f.length:=rfl;have ABh:(BB eS ((i0::ir).map It.cat)).length=(DI ((i0::ir).map It.ab)).length:=by rw[<-vH];rfl
 have ACY:(DI ((i0::ir).map It.ab)).length=i0.f.length+(i0.p.length+(DI (ir.map It.ab)).length):=by
  rw[dD,AX,AX];rfl
 have zZ:((⟨⟨(BB eS ((i0::ir).map It.cat)).cps.toList.drop i0.f.length⟩⟩:Str)).length=i0.p.length+(DI (ir.map It.ab)).length:=by
  show((BB eS ((i0::ir).map It.cat)).cps.toList.drop i0.f.length).length=_
  rw[mO,AX];rfl
 have tD:(i0.f++(⟨⟨(BB eS ((i0::ir).map It.cat)).cps.toList.drop i0.f.length⟩⟩:Str)).cps.toList=DI ((i0::ir).map It.ab):=by
  show(i0.f.cps++(⟨(BB eS ((i0::ir).map It.cat)).cps.toList.drop i0.f.length⟩:Array Nat)).toList=_
  rw[Array.toList_append,mO,dD]
 have ABM:(i0.f++(⟨⟨(BB eS ((i0::ir).map It.cat)).cps.toList.drop i0.f.length⟩⟩:Str)).length=(DI ((i0::ir).map It.ab)).length:=by rw[<-tD];rfl
 have e3:=λ(x dx t3 t5 t4 l y dy t:Nat)=>yi O U L m u c x dx t3 t5 t4 l y dy t (i0::ir) i0.f _ _ i0.tf ((i0::ir).map UL) hS rfl rfl CD FV ADp Oo ADp ADp ADp ADp f1 (by rw[zZ];lia) ADp (by rw[tD,cy])
  (λw hw=>by obtain⟨i,hi,rfl⟩:=List.mem_map.mp hw;exact(hW i hi).wd) ADt (λd hd=>by rw[Sq] at hd;exact(Rf d hd).ck) (by rw[AD];lia)
 have hinv:=λq:OJ m (H7 0) (((i0::ir).map UL).map Gi)=>(j4 0 (By _)).fold (m:=m) _ Rf;have e4:=λ(q:OJ m (H7 0) (((i0::ir).map UL).map Gi)) (x dx t3 t5 t4 l y dy:Nat)=>by
  have hq:q.g.ab=((i0::ir).map It.ab).foldl (Ab.step m) (H7 0):=by rw[q.ok,Sq]
  have hi:=hinv q;rw[<-hq] at hi;have Fo:q.g.ab.all=DI ((i0::ir).map It.ab):=by rw[hq,N4];simp[H7,Pj,DI]
  have dL:q.g.ab.out.length<=100:=by
   have:=hi.rows
   rw[AD] at this;unfold Ab.out;rw[AX,CF];lia
  exact yj O U L m u c x dx t3 t5 t4 l y dy i0.tf _ q.g i0.f hS hi (by rw[AD];lia) (by rw[hq];exact TR m _ _ ADt) (by rw[Fo];lia) (SW _) (Tx (k:=0) Fo Rf)
   (AK (QB (SW q.g.ab) (n:=5000) (k:=100) (by show q.g.ab.all.length<=_;rw[Fo];lia) dL) ADs)
 rw[eO] at e1 e3 e4;rw[eO];refine AC.pre (F:=[AI L [(DK,J c),(ER,.int (m:Int) u)],AE c ((i0::ir).map It.v),AV i0.a [.str i0.f i0.tf,.str i0.p i0.tp]]++[Ai ir]) ?_ λR s S=>?_
 ·refine AC.seq (l1:=[_,_]) (e1.frame [Ai ir]) λq=>?_
  refine AC.step (led1:=λr:OJ m (H7 0) (((i0::ir).map UL).map Gi)=>[AI L [(DK,J c),(ER,.int (m:Int) u),(Js,J q.1.1.1),(DC,.str i0.f i0.tf)],BO q.1.1.1 q.1.1.2,Bc q.1.1.2 m u q.2.2.1 q.1.2.1 q.2.2.2 q.1.2.2.1 q.1.2.2.2.1,BS q.1.2.2.2.1 q.1.2.2.2.2 r.g.AH,A3 q.1.2.2.2.2 (.int (r.g.n:Int) r.g.t),Ai r.g.AH,AE q.1.2.2.1 (r.g.rs.map rv),AE c ((i0::ir).map It.v),Ai (i0::ir)])
   (AC.pre (e3 q.1.1.1 q.1.1.2 q.2.2.1 q.1.2.1 q.2.2.2 q.1.2.2.1 q.1.2.2.2.1 q.1.2.2.2.2 q.2.1) λR s S=>?_) λr=>?_
  ·have S1:=St.picked (L:=[_,_,_,_,_,_,_,_,_]) (ix:=(2::7::BW 7)) S rfl
   have S2:=St.Vs (l1:=[]) S1;exact St.picked (L:=[_,_,_,_,_,_,_,_]) (ix:=(1::1::BW 6)) S2 rfl
  ·refine((e4 r q.1.1.1 q.1.1.2 q.2.2.1 q.1.2.1 q.2.2.2 q.1.2.2.1 q.1.2.2.2.1 q.1.2.2.2.2).frame [AE c ((i0::ir).map It.v),Ai (i0::ir)]).weaken λz=>⟨⟨z.a,z.ks,?_⟩,rfl,λR s S=>S⟩
   rw[z.ok,r.ok,Sq];rfl
 ·have S1:=St.picked (L:=[_,_,_]) (ix:=[2,0,0]) S rfl
  exact St.picked (L:=[_,_,_,_]) (ix:=[2,2,0,0]) (St.Q2 (l1:=[]) S1) rfl
include O
def kr(hS:B.Std)(U:AA 122 A)(c m u:Nat)(cks:List It)(CD:cks≠[])(hW: ∀i∈cks,FL (i.f,i.p))(hlen:cks.length<=20):Ag B.C A where
 c:=.call (.ref 258) ⟨[J c,.int (m:Int) u],[]⟩
 F:=[AE c (cks.map It.v),Ai cks]
 X:=R3 (Hk m (cks.map It.ab))
 res:=λq=>.ok (.ret (J q.a))
 led:=λq=>[AE q.a (q.ks.map rv),AE c (cks.map It.v),Ai cks]
 ok:=EU O U [(DK,J c),(ER,.int (m:Int) u)]
  (λL=>BK (fl:=λq:R3 (Hk m (cks.map It.ab))=>.ret (J q.a)) (fb O hS (AA.deeper U.l) L c m u cks CD hW hlen))
omit O
theorem eN(B:Bx):A4 B.P 220=[sN 11 0,.If (vE (sN 11 1)) (nB (sN 11 1)) (nO (sN 11 1)) ⟨165,4,171,23⟩,.For (tE (sN 11 2)) (vE (sN 11 2)) (nB (sN 11 2)) [] ⟨172,4,173,40⟩,.Return (some (vE (sN 11 3))) (pS 174 4 16)]:=by kernel_rfl
def LH:Expr:=nM EN 172 8 15
def LG:Dx:=nB (sN 11 2)
include O
theorem xS(U:AA 20 A)(L x k i d:Nat)(xs:Ak):
 AC B.C A (Ac ((A4 B.P 220).take 2) (AR B.P 220 [] (L+323))) [AI L [(Bg,.ref k),(Bh,J x),(Bz,J i)],AE x xs,BO i d]
  (λa:Nat=>.next)
  (λa=>[AI L [(Bg,.ref k),(Bh,J x),(Bz,J i),(Hq,J a),(Ds,J i)],BQ a x 0,AE x xs,BO i d]):=Ix O U (.g 266240<|.cc (O_ O U.l x xs) [1] λy0=>.fr λk1=>.g 4604272064643<|.fr λk2=>.g 6275<|.fi (y0) [2,0,0,0])
theorem oZ(U:AA 20 A)(L x k i:Nat)(xs ys:Ak):
 AC B.C A (Ac ((A4 B.P 220).take 2) (AR B.P 220 [] (L+323))) [AI L [(Bg,.ref k),(Bh,J x),(Bz,J i)],AE x xs,AE i ys]
  (λa:Nat=>.next)
  (λa=>[AI L [(Bg,.ref k),(Bh,J x),(Bz,J i),(Hq,J a),(Ds,J i)],BQ a x 0,AE x xs,AE i ys]):=Ix O U (.g 266240<|.cc (O_ O U.l x xs) [1] λy0=>.fr λk1=>.g 4604272064643<|.fr λk2=>.g 6275<|.fi (y0) [2,0,0,0])
theorem jO(U:AA 20 A)(L:Nat)(fv sv iv it v:Value)(e:Addr):
 AS B A (Bo LH (AR B.P 220 [] (L+323)) (.ref e)) [AI L [(Bg,fv),(Bh,sv),(Bz,iv),(Hq,it),(Ds,v)]] () [AI L [(Bg,fv),(Bh,sv),(Bz,iv),(Hq,it),(Ds,v),(EN,.ref e)]]:=
 Ef O U (.fr λk0=>.g 6145<|.fi () [0])
theorem jQ(U:AA 20 A)(L:Nat)(fv sv iv it v e':Value)(e:Addr):
 AS B A (Bo LH (AR B.P 220 [] (L+323)) (.ref e)) [AI L [(Bg,fv),(Bh,sv),(Bz,iv),(Hq,it),(Ds,v),(EN,e')]] () [AI L [(Bg,fv),(Bh,sv),(Bz,iv),(Hq,it),(Ds,v),(EN,.ref e)]]:=
 Ef O U (.fr λk0=>.g 6145<|.fi () [0])
theorem jP(U:AA 20 A)(L:Nat)(fv sv iv it v:Value)(e:Str)(te:Nat):
 AS B A (Bo LH (AR B.P 220 [] (L+323)) (.str e te)) [AI L [(Bg,fv),(Bh,sv),(Bz,iv),(Hq,it),(Ds,v)]] () [AI L [(Bg,fv),(Bh,sv),(Bz,iv),(Hq,it),(Ds,v),(EN,.str e te)]]:=
 Ef O U (.fr λk0=>.g 6145<|.fi () [0])
theorem jR(U:AA 20 A)(L:Nat)(fv sv iv it v e':Value)(e:Str)(te:Nat):
 AS B A (Bo LH (AR B.P 220 [] (L+323)) (.str e te)) [AI L [(Bg,fv),(Bh,sv),(Bz,iv),(Hq,it),(Ds,v),(EN,e')]] () [AI L [(Bg,fv),(Bh,sv),(Bz,iv),(Hq,it),(Ds,v),(EN,.str e te)]]:=
 Ef O U (.fr λk0=>.g 6145<|.fi () [0])
theorem sE(U:AA 20 A)(L:Nat)(fv sv iv it v e:Value):
 AS B A (Ac ((A4 B.P 220).drop 3) (AR B.P 220 [] (L+323))) [AI L [(Bg,fv),(Bh,sv),(Bz,iv),(Hq,it),(Ds,v),(EN,e)]] (.ret v) []:=
 D7 O U (.g 65<|.fi () [])
theorem oe(U:AA 20 A)(L a x i:Nat)(fv sv iv v:Value):
 AS B A (Bf (vE (sN 11 2)) (AR B.P 220 [] (L+323))) [AI L [(Bg,fv),(Bh,sv),(Bz,iv),(Hq,J a),(Ds,v)]] (J a) [AI L [(Bg,fv),(Bh,sv),(Bz,iv),(Hq,J a),(Ds,v)]]:=Jk O U (.g 65<|.fi () [0])
omit O
section
variable{C:Cx}{A:AL}{F:AN}
theorem AC.runOwn{c:Code}{env:Env}{X:Type}{fl:X->OV}{led:X->AN}(h:Bv C A c F (λx=>.ok (fl x)) led):AC C A (PySem.runOwn c env) F fl led:=λR s S=>by
 refine DT (Av ?_ (λYa Ya q=>q) (λYa Ya (q:False)=>q.elim));intro Γ p hΓ;have q:=h R s S Γ p hΓ;unfold Qm at q;rw[HY] at q;unfold PySem.run;rw[HY];refine I5 (λr s' hr=>?_) q;obtain⟨x,e,S'⟩: ∃x,r=_/\_:=hr;subst e;exact⟨x,rfl,S'⟩
theorem AC.yk{Dy iter:Expr}{body orelse:Dx}{pos:Pos}{env:Env}{X Y Z:Type}{v:X->Value}{it:X->Y->Value}{L1:X->AN}{L2:X->Y->AN}{fl:Z->OV}{led:Z->AN}
 (hs: ∀x,foldedSetIterable iter env x=pure x) (h1:AC C A (Bf iter env) F v L1) (h2: ∀x,AC C A (Mi (v x)) (L1 x) (it x) (L2 x)) (h3: ∀x y,Bv C A (.forLoop Dy (it x y) body orelse env) (L2 x y) (λz=>.ok (fl z)) led):
 AC C A (Qf (.For Dy iter body orelse pos) env) F fl led:=λR s S=>by
 rw[exec_For];refine AB (m:=Kg _) (DU ?_);refine AB (AC.wp h1 S λx s₁ S₁=>?_);rw[hs];refine AB (AP ?_);refine AB (m:=Kg _) (DU ?_);refine AB (Kw (AC.wp (h2 x) S₁ λy s₂ S₂=>?_));exact AC.runOwn (h3 x y) R s₂ S₂
end
theorem St.pk{C:Cx}{s:Af}{P Q G R r:AN}(S:St C ((P++G)++R) s){ix:Ay}(e:Fq ix P=some (Q,r)):St C ((Q++G)++R) s:=by
 rw[AG] at S⊢;exact S.picked e
theorem AC.pk{C:Cx}{A:AL}{α:Type}{t:Sem α}{P Q G r:AN}{X:Type}{res:X->α}{led:X->AN}(h:AC C A t (Q++G) res led)(ix:Ay)(e:Fq ix P=some (Q,r)):AC C A t (P++G) res led:=h.pre λR s S=>S.pk e
abbrev Gw(k x i a:Nat)(v e:Value):BC:=[(Bg,.ref k),(Bh,J x),(Bz,J i),(Hq,J a),(Ds,v),(EN,e)]
abbrev Nf(k x i a:Nat)(v:Value):BC:=[(Bg,.ref k),(Bh,J x),(Bz,J i),(Hq,J a),(Ds,v)]
section
variable{B:Bx}
def L6(v:Value):Prop:=(∃a,v=.ref a)∨ ∃x t,v=.str x t
theorem oa(O:B.C.Ok){A:AL}(U:AA 20 A)(L:Nat)(fv sv iv it v e:Value)(he:L6 e):AC B.C A (Bo LH (AR B.P 220 [] (L+323)) e) [AI L [(Bg,fv),(Bh,sv),(Bz,iv),(Hq,it),(Ds,v)]] (λYa:Unit=>())
 (λYa=>[AI L [(Bg,fv),(Bh,sv),(Bz,iv),(Hq,it),(Ds,v),(EN,e)]]):=by
 rcases he with⟨a,rfl⟩|⟨x,t,rfl⟩
 ·exact jO O U L fv sv iv it v a
 ·exact jP O U L fv sv iv it v x t
theorem od(O:B.C.Ok){A:AL}(U:AA 20 A)(L:Nat)(fv sv iv it v e' e:Value)(he:L6 e):AC B.C A (Bo LH (AR B.P 220 [] (L+323)) e) [AI L [(Bg,fv),(Bh,sv),(Bz,iv),(Hq,it),(Ds,v),(EN,e')]] (λYa:Unit=>())
 (λYa=>[AI L [(Bg,fv),(Bh,sv),(Bz,iv),(Hq,it),(Ds,v),(EN,e)]]):=by
 rcases he with⟨a,rfl⟩|⟨x,t,rfl⟩
 ·exact jQ O U L fv sv iv it v e' a
 ·exact jR O U L fv sv iv it v e' x t
theorem IV{C:Cx}{A:AL}{id:Str}{p:Pos}{it v:Value}{L:AN}:AC C A (Fw (.Name id p) it v) L (λYa:Unit=>()) (λYa=>L):=λR s S=>AP ⟨(),rfl,S⟩
variable{L k x i a:Nat}{xs:Ak}{S:Nat->Type}{val: ∀j,S j->Value}{G: ∀j,S j->AN}
theorem Z5(O:B.C.Ok){A:AL}(U:AA 22 A){j:Nat}{e:Value}(hx:xs[j]? =some e)(he:L6 e){q q':BC}{X:Type}{G0:AN}{led:X->AN}{Z:Type}{res:Z->Result}{tY:Z->AN}
 (Gj:AC B.C (A.under (.forLoop LH (J a) LG [] (AR B.P 220 [] (L+323)))) (Bo LH (AR B.P 220 [] (L+323)) e) [AI L q] (λYa:Unit=>()) (λYa=>[AI L q']))
 (hb:AC B.C (A.under (.forLoop LH (J a) LG [] (AR B.P 220 [] (L+323)))) (Ac LG (AR B.P 220 [] (L+323))) ([AI L q']++G0) (λYa:X=>.next) led)
 (hn: ∀y,AT B.C A (.forLoop LH (J a) LG [] (AR B.P 220 [] (L+323))) (led y++[BQ a x (j+1),AE x xs]) res tY):
 AT B.C A (.forLoop LH (J a) LG [] (AR B.P 220 [] (L+323))) ([AI L q,BQ a x j,AE x xs]++G0) res tY:=by
 refine AT.P4 (fl:=.next) (.inl rfl) (X:=Unit) (v:=λYa=>e) (L1:=λYa=>[BQ a x (j+1),AE x xs,AI L q]++G0) (L2:=λYa=>[BQ a x (j+1),AE x xs,AI L q]++G0) (L3:=λYa=>[AI L q',BQ a x (j+1),AE x xs]++G0) (L4:=λYa y=>led y++[BQ a x (j+1),AE x xs]) ?_ (λYa=>IV) (λYa=>?_) (λYa=>?_) (λYa y=>hn y)
 ·exact((QI O (A:=A.under (.forLoop LH (J a) LG [] (AR B.P 220 [] (L+323)))) U.l.loop a x j xs e hx).frame ([AI L q]++G0)).pk (P:=[AI L q,BQ a x j,AE x xs]) (Q:=[BQ a x j,AE x xs,AI L q]) [1,1,0] rfl
 ·exact(Gj.frame ([BQ a x (j+1),AE x xs]++G0)).pk (P:=[BQ a x (j+1),AE x xs,AI L q]) (Q:=[AI L q,BQ a x (j+1),AE x xs]) [2,0,0] rfl
 ·refine(hb.frame [BQ a x (j+1),AE x xs]).pre λR s S=>S.perm ?_
  refine A8 R ?_
  show(AI L q'::([BQ a x (j+1),AE x xs]++G0)).Perm (AI L q'::(G0++[BQ a x (j+1),AE x xs]))
  exact BY _ A9
theorem V5(O:B.C.Ok){A:AL}(U:AA 22 A)(dR: ∀e∈xs,L6 e)
 (PJ: ∀j e,xs[j]? =some e-> ∀σ:S j,AC B.C (A.under (.forLoop LH (J a) LG [] (AR B.P 220 [] (L+323)))) (Ac LG (AR B.P 220 [] (L+323))) ([AI L (Gw k x i a (val j σ) e)]++G j σ) (λYa:S (j+1)=>.next) (λy=>[AI L (Gw k x i a (val (j+1) y) e)]++G (j+1) y)):
 ∀(r j:Nat) (σ:S j) (e':Value),j+r=xs.length->AT B.C A (.forLoop LH (J a) LG [] (AR B.P 220 [] (L+323))) ([AI L (Gw k x i a (val j σ) e'),BQ a x j,AE x xs]++G j σ)
  (λYa:S xs.length×Value=>.ok .next) (λy=>[AI L (Gw k x i a (val _ y.1) y.2),AE x xs]++G _ y.1)
 |0,j,σ,e',h=>by
  obtain rfl:j=xs.length:=by lia
  refine AT.SR (X:=Unit) (L1:=λYa=>[AE x xs,AI L (Gw k x i a (val _ σ) e')]++G _ σ) ?_ λYa=>(AT.SO _).weaken λYa=>⟨(σ,e'),rfl,λR s S=>S.pk (P:=[_,_]) (ix:=[1,0]) rfl⟩
  exact((OA O (A:=A.under (.forLoop LH (J a) LG [] (AR B.P 220 [] (L+323)))) U.l.loop a x xs.length xs (Am _)).frame ([AI L (Gw k x i a (val _ σ) e')]++G _ σ)).pk (P:=[AI L (Gw k x i a (val _ σ) e'),BQ a x xs.length,AE x xs]) (Q:=[BQ a x xs.length,AE x xs,AI L (Gw k x i a (val _ σ) e')]) [1,1,0] rfl
 |r+1,j,σ,e',h=>by
  have hj:j<xs.length:=by lia
  have hx:xs[j]? =some xs[j]:=AJ hj;have he:=dR _ (Cn hj);have B8:AA 20 (A.under (.forLoop LH (J a) LG [] (AR B.P 220 [] (L+323)))):=(U.le (ADs:20+1<=22)).loop
  refine Z5 O U hx he (od O B8 L _ _ _ _ (val j σ) e' _ he) (PJ j _ hx σ) λy=>?_
  refine(V5 O U dR PJ r (j+1) y xs[j] ADp).pre λR s S=>S.perm (A8 R ?_)
  show(AI L _::(G _ y++[BQ a x (j+1),AE x xs])).Perm (AI L _::([BQ a x (j+1),AE x xs]++G _ y))
  exact BY _ A9
theorem jS(O:B.C.Ok){A:AL}(U:AA 22 A)(dR: ∀e∈xs,L6 e)
 (PJ: ∀j e,xs[j]? =some e-> ∀σ:S j,AC B.C (A.under (.forLoop LH (J a) LG [] (AR B.P 220 [] (L+323)))) (Ac LG (AR B.P 220 [] (L+323))) ([AI L (Gw k x i a (val j σ) e)]++G j σ) (λYa:S (j+1)=>.next) (λy=>[AI L (Gw k x i a (val (j+1) y) e)]++G (j+1) y))
 (σ:S 0) (CD:xs≠[]):AT B.C A (.forLoop LH (J a) LG [] (AR B.P 220 [] (L+323))) ([AI L (Nf k x i a (val 0 σ)),BQ a x 0,AE x xs]++G 0 σ)
  (λYa:S xs.length×Value=>.ok .next) (λy=>[AI L (Gw k x i a (val _ y.1) y.2),AE x xs]++G _ y.1):=by
 have hj:0<xs.length:=List.length_pos_iff.mpr CD;have hx:xs[0]? =some xs[0]:=AJ hj;have he:=dR _ (Cn hj);have B8:AA 20 (A.under (.forLoop LH (J a) LG [] (AR B.P 220 [] (L+323)))):=(U.le (ADs:20+1<=22)).loop
 refine Z5 O U hx he (oa O B8 L _ _ _ _ (val 0 σ) _ he) (PJ 0 _ hx σ) λy=>?_
 refine(V5 O U dR PJ (xs.length-1) 1 y xs[0] ADp).pre λR s S=>S.perm (A8 R ?_)
 show(AI L _::(G _ y++[BQ a x 1,AE x xs])).Perm (AI L _::([BQ a x 1,AE x xs]++G _ y))
 exact BY _ A9
theorem L7(O:B.C.Ok){A:AL}{N:Nat}(U:AA (N+24) A)(dR: ∀e∈xs,L6 e){ei:Bi}{vi:Value}
 (h1:AC B.C A (Ac ((A4 B.P 220).take 2) (AR B.P 220 [] (L+323))) [AI L [(Bg,.ref k),(Bh,J x),(Bz,J i)],AE x xs,ei] (λYa:Nat=>.next) (λa=>[AI L (Nf k x i a (J i)),BQ a x 0,AE x xs,ei]))
 {P:AL->Prop} (hP: ∀a,P (A.under (.forLoop LH (J a) LG [] (AR B.P 220 [] (L+323)))))
 (PJ: ∀a A',AA (N+22) A'->P A'-> ∀j e,xs[j]? =some e-> ∀σ:S j,AC B.C A' (Ac LG (AR B.P 220 [] (L+323))) ([AI L (Gw k x i a (val j σ) e)]++G j σ) (λYa:S (j+1)=>.next) (λy=>[AI L (Gw k x i a (val (j+1) y) e)]++G (j+1) y))
 (σ:S 0) (hv:val 0 σ=J i) {G':AN} (hG:G 0 σ=ei::G') (CD:xs≠[]):
 AC B.C A (Ac (A4 B.P 220) (AR B.P 220 [] (L+323))) ([AI L [(Bg,.ref k),(Bh,J x),(Bz,J i)],AE x xs,ei]++G')
  (λy:S xs.length=>.ret (val _ y)) (λy=>[AE x xs]++G _ y):=by
 have B8:AA 22 A:=U.le ADp
 have tR:=λfv sv iv it v e=>sE O (U.le (ADp:20<=N+24)) L fv sv iv it v e
 have hit:=λa fv sv iv v=>oe O (U.le (ADp:20<=N+24)) L a 0 0 fv sv iv v
 have iG:=h1;rw[eN] at tR iG;rw[eN];refine AC.seq (l1:=[_,_]) (led1:=λa=>[AI L (Nf k x i a (J i)),BQ a x 0,AE x xs,ei]++G') (iG.frame G') λa=>?_;refine AC.step (led1:=λy:S xs.length×Value=>[AI L (Gw k x i a (val _ y.1) y.2),AE x xs]++G _ y.1) (AC.one (AC.yk (X:=Unit) (Y:=Unit) (v:=λYa=>J a) (it:=λYa Ya=>J a)
  (L1:=λYa=>[AI L (Nf k x i a (J i)),BQ a x 0,AE x xs,ei]++G') (L2:=λYa Ya=>[AI L (Nf k x i a (val 0 σ)),BQ a x 0,AE x xs]++G 0 σ) (fl:=λYa=>.next) (λYa=>rfl) ((hit a _ _ _ _).frame ([BQ a x 0,AE x xs,ei]++G')) (λYa=>?_) λYa Ya=>?_)) λy=>?_
 ·have e0:=NP O (A:=A) (U.le (ADp:5<=N+24)) a x 0
  refine((e0.frame ([AI L (Nf k x i a (J i)),AE x xs,ei]++G')).pk (P:=[AI L (Nf k x i a (J i)),BQ a x 0,AE x xs,ei]) (Q:=[BQ a x 0,AI L (Nf k x i a (J i)),AE x xs,ei]) [1,0,0,0] rfl).post λYa R s S=>?_
  rw[hv,hG];exact S.perm (A8 R (Ae _ _ _))
 ·exact(jS O B8 dR (λj e hx σ=>PJ a _ ((U.le (ADp:N+22+1<=N+24)).loop) (hP a) j e hx σ) σ CD).call
 ·exact((tR (.ref k) (J x) (J i) (J a) (val _ y.1) y.2).frame ([AE x xs]++G _ y.1)).weaken λYa=>⟨y.1,rfl,λR s S=>S⟩
end
include O
theorem fe(U:AA 62 A)(L x dx m u t3 t5 t4 l y dy o:Nat)(h:FX)(fr:Ay)(p:Str)(tf tp:Nat)(hS:B.Std)(hI:CY (h.AH++[It.mk 0 ⟨⟨32::fr⟩⟩ tf p tp]))(hn:h.n<=1000)(hr:h.rs.length<=900):
 AC B.C A (Ac (A4 B.P 265) (AR B.P 265 [] (L+323))) [AI L [(Js,J x),(aQ,J o)],AV o [.str ⟨⟨32::fr⟩⟩ tf,.str p tp],BO x dx,Bc dx m u t3 t5 t4 l y,BS y dy h.AH,A3 dy (.int (h.n:Int) h.t),Ai h.AH,AE l (h.rs.map rv)]
  (λq:X1 m h.ab (⟨⟨32::fr⟩⟩,p)=>.ret (J x))
  (λq=>[AV o [.str ⟨⟨32::fr⟩⟩ tf,.str p tp],BO x dx,Bc dx m u t3 t5 t4 l y,BS y dy q.g.AH,A3 dy (.int (q.g.n:Int) q.g.t),Ai q.g.AH,AE l (q.g.rs.map rv)]):=
 D7 O U (.g 5154840352023719010079088836801<|.fr λk0=>.g 270466<|.cc (PC O U.l o k0 (.str {cps:={toList:=32::fr}} tf) (.str p tp)) [1] λYa=>.g 66<|.fr λk2=>.g 266305<|.cc (PD O U.l o k2 (.str {cps:={toList:=32::fr}} tf) (.str p tp)) [0] λYa=>.g 64<|.cc (eT O hS U.l x dx m u t3 t5 t4 l y dy h fr p tf tp hI hn hr) [2,2,2,2,2,2] λy4=>.g 72<|.fi (y4) (6::BW 6))
def lC(hS:B.Std)(U:AA 64 A)(x dx m u t3 t5 t4 l y dy o:Nat)(h:FX)(fr:Ay)(p:Str)(tf tp:Nat)(hI:CY (h.AH++[It.mk 0 ⟨⟨32::fr⟩⟩ tf p tp]))(hn:h.n<=1000)(hr:h.rs.length<=900):Ag B.C A where
 c:=.call (.ref 265) ⟨[J x,J o],[]⟩
 F:=[AV o [.str ⟨⟨32::fr⟩⟩ tf,.str p tp],BO x dx,Bc dx m u t3 t5 t4 l y,BS y dy h.AH,A3 dy (.int (h.n:Int) h.t),Ai h.AH,AE l (h.rs.map rv)]
 X:=X1 m h.ab (⟨⟨32::fr⟩⟩,p)
 res:=λYa=>.ok (.ret (J x))
 led:=λq=>[AV o [.str ⟨⟨32::fr⟩⟩ tf,.str p tp],BO x dx,Bc dx m u t3 t5 t4 l y,BS y dy q.g.AH,A3 dy (.int (q.g.n:Int) q.g.t),Ai q.g.AH,AE l (q.g.rs.map rv)]
 ok:=EU O U [(Js,J x),(aQ,J o)]
  (λL=>BK (fl:=λYa:X1 m h.ab (⟨⟨32::fr⟩⟩,p)=>.ret (J x)) (fe O (AA.deeper U.l) L x dx m u t3 t5 t4 l y dy o h fr p tf tp hS hI hn hr))
theorem jT(U:AA 66 A)(L c i a x dx m u t3 t5 t4 l y dy o:Nat)(h:FX)(fr:Ay)(p:Str)(tf tp:Nat)(hS:B.Std)(hI:CY (h.AH++[It.mk 0 ⟨⟨32::fr⟩⟩ tf p tp]))(hn:h.n<=1000)(hr:h.rs.length<=900):
 AC B.C A (Ac LG (AR B.P 220 [] (L+323))) [AI L (Gw 265 c i a (J x) (J o)),AV o [.str ⟨⟨32::fr⟩⟩ tf,.str p tp],BO x dx,Bc dx m u t3 t5 t4 l y,BS y dy h.AH,A3 dy (.int (h.n:Int) h.t),Ai h.AH,AE l (h.rs.map rv)]
  (λq:X1 m h.ab (⟨⟨32::fr⟩⟩,p)=>.next)
  (λq=>[AI L (Gw 265 c i a (J x) (J o)),AV o [.str ⟨⟨32::fr⟩⟩ tf,.str p tp],BO x dx,Bc dx m u t3 t5 t4 l y,BS y dy q.g.AH,A3 dy (.int (q.g.n:Int) q.g.t),Ai q.g.AH,AE l (q.g.rs.map rv)]):=
 D7 O U (.g 16781377<|.cc (lC O hS U.l x dx m u t3 t5 t4 l y dy o h fr p tf tp hI hn hr) [1,1,1,1,1,1,1] λy0=>.fr λk1=>.g 6600<|.fi (y0) (7::BW 7))
def XO(m:Nat)(a:Ab)(cs:Ed):Ab:=cs.foldl (Ab.step m) a
def xx(m n:Nat)(cks:List It)(j:Nat):Type:={h:FX//h.ab=XO m (H7 n) ((cks.take j).map It.ab)}
omit O
theorem jy(cks:List It): ∀e∈cks.map It.v,L6 e:=λe he=>by
 obtain⟨i,_,rfl⟩:=List.mem_map.mp he;exact .inl ⟨_,rfl⟩
theorem Za{m n:Nat}(hn:n<=1000){cs:Ed}(h: ∀c∈cs,FL c):OK cs.length (XO m (H7 n) cs):=by
 have:=(j4 n hn).fold (m:=m) cs h
 rwa [FH] at this
theorem Wh{B:Bx}(O:B.C.Ok)(hS:B.Std){A:AL}(U:AA 70 A)(L c x dx m u t3 t5 t4 l y dy n t:Nat)(cks:List It)(CD:cks≠[])(hW: ∀i∈cks,FL (i.f,i.p))(hlen:cks.length<=20)(hn:n<=1000):
 AC B.C A (Ac (A4 B.P 220) (AR B.P 220 [] (L+323))) ([AI L [(Bg,.ref 265),(Bh,J c),(Bz,J x)],AE c (cks.map It.v),BO x dx]++[Bc dx m u t3 t5 t4 l y,BS y dy [],A3 dy (.int (n:Int) t),Ai [],AE l [],Ai cks])
  (λq:xx m n cks (cks.map It.v).length=>.ret (J x)) (λq=>[AE c (cks.map It.v)]++(Iq x dx m u t3 t5 t4 l y dy q.1++[Ai cks])):=by
 refine L7 O (N:=46) U (k:=265) (x:=c) (i:=x) (xs:=cks.map It.v) (S:=xx m n cks) (val:=λYa Ya=>J x) (G:=λYa σ=>Iq x dx m u t3 t5 t4 l y dy σ.1++[Ai cks]) (jy cks) (ei:=BO x dx) (vi:=.none) ?_ (P:=λYa=>True) (λYa=>trivial) (λa A' B8 _ j e hx σ=>?_) ⟨⟨[],n,t,[]⟩,rfl⟩ rfl rfl (by simpa using CD)
 ·have e:=xS O U.l L c 265 x dx (cks.map It.v)
  exact e
 ·rw[AQ] at hx
  cases hi:cks[j]? with
  |none=>rw[hi] at hx;cases hx
  |some i=>
   rw[hi] at hx;cases hx;obtain⟨hjl,hji⟩:=List.getElem?_eq_some_iff.mp hi;obtain⟨l1,l2,rfl,rfl⟩: ∃l1 l2,cks=l1++i::l2/\j=l1.length:=⟨cks.take j,cks.drop (j+1),by rw[<-hji,H0,CQ],by rw[C5];lia⟩
   obtain⟨h,hh⟩:=σ;have u4:=hh;rw[H1] at u4;have hWl: ∀d∈l1.map It.ab,FL d:=λd hd=>by obtain⟨q,hq,rfl⟩:=List.mem_map.mp hd;exact hW q (Ar _ hq)
   have vJ:=hW i (Ax _ (.head _));have hinv:=Za (m:=m) hn hWl;rw[<-u4] at hinv;obtain⟨fr,Hl⟩:=vJ.fr
   dsimp only at Hl
   obtain⟨b1,b2,b3⟩:=hinv.bd.small (f:=i.f) (p:=i.p) (tf:=i.tf) (tp:=i.tp) (by rw[AD];simp at hlen;lia) ⟨AK vJ.s1 ADs,AK vJ.s2 ADs⟩
   obtain⟨ia,f,dT,p,dU⟩:=i
   dsimp only at Hl b1
   subst Hl;refine AC.pre (F:=[AI L (Gw 265 c x a (J x) (J ia)),AV ia [.str ⟨⟨32::fr⟩⟩ dT,.str p dU],BO x dx,Bc dx m u t3 t5 t4 l y,BS y dy h.AH,A3 dy (.int (h.n:Int) h.t),Ai h.AH,AE l (h.rs.map rv)]++[Ai (l1++l2)]) (AC.weaken ((jT O (B8.le (ADp:66<=46+22)) L c x a x dx m u t3 t5 t4 l y dy ia h fr p dT dU hS b1 b2 b3).frame [Ai (l1++l2)]) λq=>⟨⟨q.g,?_⟩,rfl,λR s S=>?_⟩) λR s S=>?_
   ·rw[q.ok,u4]
    rw[show l1++It.mk ia ⟨⟨32::fr⟩⟩ dT p dU::l2=(l1++[It.mk ia ⟨⟨32::fr⟩⟩ dT p dU])++l2 from by simp,show l1.length+1=(l1++[It.mk ia ⟨⟨32::fr⟩⟩ dT p dU]).length from by simp,H1,AZ]
    unfold XO;rw[QY]
    rfl
   ·have S1:=St.picked (L:=[_,_,_,_,_,_,_,_,_]) (ix:=(1::7::BW 7)) S rfl
    have S2:=St.Vs (i:=It.mk ia ⟨⟨32::fr⟩⟩ dT p dU) (l1:=l1) (l2:=l2) S1;exact St.picked (L:=[_,_,_,_,_,_,_,_]) (ix:=[1,1,1,1,1,1,1,0]) S2 rfl
   ·have S1:=St.picked (L:=[_,_,_,_,_,_,_,_]) (ix:=(7::BW 7)) S rfl
    exact St.picked (L:=[_,_,_,_,_,_,_,_,_]) (ix:=[2,0,1,1,1,1,1,1,0]) (St.Q2 (i:=It.mk ia ⟨⟨32::fr⟩⟩ dT p dU) (l1:=l1) (l2:=l2) S1) rfl
include O
def Yz(hS:B.Std)(U:AA 74 A)(c x dx m u t3 t5 t4 l y dy n t:Nat)(cks:List It)(CD:cks≠[])(hW: ∀i∈cks,FL (i.f,i.p))(hlen:cks.length<=20)(hn:n<=1000):Ag B.C A where
 c:=.call (.ref 220) ⟨[.ref 265,J c,J x],[]⟩
 F:=[AE c (cks.map It.v),BO x dx,Bc dx m u t3 t5 t4 l y,AY y dy [],A3 dy (.int (n:Int) t),AE l [],Ai cks]
 X:=OJ m (H7 n) (cks.map It.ab)
 res:=λYa=>.ok (.ret (J x))
 led:=λq=>[AE c (cks.map It.v),BO x dx,Bc dx m u t3 t5 t4 l y,BS y dy q.g.AH,A3 dy (.int (q.g.n:Int) q.g.t),Ai q.g.AH,AE l (q.g.rs.map rv),Ai cks]
 ok:=EU O U [(Bg,.ref 265),(Bh,J c),(Bz,J x)] (sb:=.g 64<|.fi () [])
  (λL=>BK (fl:=λYa:OJ m (H7 n) (cks.map It.ab)=>.ret (J x)) (AC.pre (AC.weaken (Wh O hS (AA.deeper U.l) L c x dx m u t3 t5 t4 l y dy n t cks CD hW hlen hn) λq=>⟨⟨q.1,by
   have h2:=q.2;simp only[AD,Gc] at h2;exact h2⟩,rfl,λR s S=>S⟩) λR s S=>by
    exact S.BV (EH _)))
def cJ(hS:B.Std)(U:AA 32 A)(x dx m u t3 t5 t4 l y dy t6:Nat)(h:FX)(hI:OK 20 h.ab)(CD:h.ab.cur≠[])(Fo:h.ab.all.length<=5000):Ag B.C A:=TK O hS U x dx m u t3 t5 t4 l y dy t6 20 h hI ADs CD Fo
def C4(m n:Nat)(cs:Ed):List Str:=(cs.foldl (Ab.step m) (H7 n)).out
theorem bF(U:AA 120 A)(L c m u n t:Nat)(cks:List It)(hS:B.Std)(CD:cks≠[])(hW: ∀i∈cks,FL (i.f,i.p))(hlen:cks.length<=20)(hn:n<=1000)(hq: ∀q:OJ m (H7 n) (cks.map It.ab),OK 20 q.g.ab/\q.g.ab.cur≠[]/\q.g.ab.all.length<=5000/\q.g.ab.out≠[]/\(∀r∈q.g.ab.out,10∉r.cps.toList)/\(BB ⟨⟨[10]⟩⟩ q.g.ab.out).length<=1000000):
 AC B.C A (Ac (A4 B.P 272) (AR B.P 272 [] (L+323))) [AI L [(DK,J c),(ER,.int (m:Int) u),(QS,.int (n:Int) t)],AE c (cks.map It.v),Ai cks]
  (λq:R3 (C4 m n (cks.map It.ab))=>B6 (J q.a))
  (λq=>[AE q.a (q.ks.map rv),AE c (cks.map It.v),Ai cks]):=Ix O U (.g 69809999872<|.fr λk0=>.fr λk1=>.g 4096<|.cc (TD O U.l n t m u k0 k1) [] λ(y2:(Nat×Nat)×Nat×Nat×Nat×Nat)=>.g 64<|.cc (Yz O hS U.l c y2.fst.fst y2.fst.snd m u k0 y2.snd.fst k1 y2.snd.snd.fst y2.snd.snd.snd.fst y2.snd.snd.snd.snd n t cks CD hW hlen hn) [6,0,0,0,0,0,1] λ(y3:OJ m (H7 n) (cks.map It.ab))=>.g 1296572941537252739859349506<|.fr λk4=>.g 64<|.cc (cJ O hS U.l y2.fst.fst y2.fst.snd m u k0 y2.snd.fst k1 y2.snd.snd.fst y2.snd.snd.snd.fst y2.snd.snd.snd.snd k4 y3.g (by first|assumption|lia|exact(hq _).1|exact(hq _).2.1|exact(hq _).2.2.1|exact(hq _).2.2.2.1|exact(hq _).2.2.2.2.1|exact(hq _).2.2.2.2.2) (by first|assumption|lia|exact(hq _).1|exact(hq _).2.1|exact(hq _).2.2.1|exact(hq _).2.2.2.1|exact(hq _).2.2.2.2.1|exact(hq _).2.2.2.2.2) (by first|assumption|lia|exact(hq _).1|exact(hq _).2.1|exact(hq _).2.2.1|exact(hq _).2.2.2.1|exact(hq _).2.2.2.2.1|exact(hq _).2.2.2.2.2)) [1,1,1,1,1,1] λ(y5:Nat)=>.fr λk6=>.cc (RX O U.l y3.g.ab.out y5 k6 (by first|assumption|lia|exact(hq _).1|exact(hq _).2.1|exact(hq _).2.2.1|exact(hq _).2.2.2.1|exact(hq _).2.2.2.2.1|exact(hq _).2.2.2.2.2) (by first|assumption|lia|exact(hq _).1|exact(hq _).2.1|exact(hq _).2.2.1|exact(hq _).2.2.2.1|exact(hq _).2.2.2.2.1|exact(hq _).2.2.2.2.2) (by first|assumption|lia|exact(hq _).1|exact(hq _).2.1|exact(hq _).2.2.1|exact(hq _).2.2.2.1|exact(hq _).2.2.2.2.1|exact(hq _).2.2.2.2.2)) [] λ(y7:R3 y3.g.ab.out)=>.fi (⟨y7.a,y7.ks,y7.ok.trans (congrArg Ab.out y3.ok)⟩) [0,0,0])
omit O
theorem Rb{m n:Nat}(hn:n<=1000){cks:List It}(CD:cks≠[])(hW: ∀i∈cks,FL (i.f,i.p))(hlen:cks.length<=20){a:Ab}(ha:a=(cks.map It.ab).foldl (Ab.step m) (H7 n)):
 OK 20 a/\a.cur≠[]/\a.all.length<=5000/\a.out≠[]/\(∀r∈a.out,10∉r.cps.toList)/\(BB ⟨⟨[10]⟩⟩ a.out).length<=1000000:=by
 have Rf: ∀d∈cks.map It.ab,FL d:=λd hd=>by obtain⟨i,hi,rfl⟩:=List.mem_map.mp hd;exact hW i hi
 have hi:=(j4 n hn).fold (m:=m) _ Rf;rw[<-ha,AD,FH] at hi;have hcl:(DI (cks.map It.ab)).length<=4000:=by
  have:=VQ Rf
  rw[AD] at this
  lia
 have Fo:a.all=DI (cks.map It.ab):=by rw[ha,N4];simp[H7,Pj,DI]
 have dL:a.out.length<=100:=by
  have:=hi.rows
  unfold Ab.out;rw[AX,CF];lia
 exact⟨⟨hi.n,AK hi.rows hlen,AK hi.cur hlen,hi.parts⟩,by rw[ha];exact TR m _ _ (by simpa using CD),by rw[Fo];lia,SW _,Tx (k:=0) Fo Rf,
  AK (QB (SW a) (n:=5000) (k:=100) (by show a.all.length<=_;rw[Fo];lia) dL) ADs⟩
include O
def gT(hS:B.Std)(U:AA 122 A)(c m u n t:Nat)(cks:List It)(CD:cks≠[])(hW: ∀i∈cks,FL (i.f,i.p))(hlen:cks.length<=20)(hn:n<=1000):Ag B.C A where
 c:=.call (.ref 272) ⟨[J c,.int (m:Int) u,.int (n:Int) t],[]⟩
 F:=[AE c (cks.map It.v),Ai cks]
 X:=R3 (C4 m n (cks.map It.ab))
 res:=λq=>.ok (.ret (J q.a))
 led:=λq=>[AE q.a (q.ks.map rv),AE c (cks.map It.v),Ai cks]
 ok:=EU O U [(DK,J c),(ER,.int (m:Int) u),(QS,.int (n:Int) t)]
  (λL=>BK (fl:=λq:R3 (C4 m n (cks.map It.ab))=>.ret (J q.a)) (bF O (AA.deeper U.l) L c m u n t cks hS CD hW hlen hn λq=>Rb hn CD hW hlen q.ok))
noncomputable abbrev iv(q:Nat×Nat):Value:=.int (q.1:Int) q.2
abbrev AF(x:Nat)(xs:Aa):Bi:=AE x (xs.map iv)
noncomputable abbrev ns(xs:Aa):Ay:=xs.map (·.1)
omit O
theorem Tf{C:Cx}{s:Af}{L:AN}{x:Nat}{xs:Ak}(S:St C (AE x xs::L) s):s.heap.IsList (x+323) ⟨xs⟩:=by
 obtain⟨g,h⟩:=S.Dj;exact⟨_,h,rfl,_,rfl⟩
theorem St.grow{C:Cx}(O:C.Ok){s:Af}{L:AN}(S:St C L s){h':Heap}{tk:Nat}(hk: ∀b o,s.heap.get? b=some o->h'.get? b=some o)(ht:s.toks<=tk):St C L {s with heap:=h',toks:=tk}:=
 S.ext O hk (λh t q=>S.gens h t (AK ht q)) rfl
section
variable(B:Bx)(A:AL)(O:B.C.Ok)
noncomputable def lG(U:AA 3 A)(a b t u:Nat):Ag B.C A where
 c:=.call (.builtin "max") ⟨[.int (a:Int) t,.int (b:Int) u],[]⟩
 F:=[]
 X:=Nat
 res:=λk=>.ok (.ret (.int ((Mc a b:Nat):Int) k))
 led:=λYa=>[]
 ok:=G2 λR s S=>wpAny_with_toks (Am _) (max_two_ints U.1 λh' tk hk ht=>by
  by_cases c:(b:Int)>(a:Int)
  ·exact⟨u,by rw[if_pos c,show Mc a b=b from Nat.max_eq_right ADp],S.grow O hk ht⟩
  ·exact⟨t,by rw[if_neg c,show Mc a b=a from Nat.max_eq_left ADp],S.grow O hk ht⟩)
def Vf(U:AA 3 A)(x:Nat)(xs:Aa)(hx:xs.length<=1000)(hs:(ns xs).sum<=1000000):Ag B.C A where
 c:=.call (.builtin "sum") ⟨[.ref (x+323)],[]⟩
 F:=[AF x xs]
 X:=Nat
 res:=λk=>.ok (.ret (.int (((ns xs).sum:Nat):Int) k))
 led:=λYa=>[AF x xs]
 ok:=G2 λR s S=>wpAny_with_toks (Am _) (call_sum_walk (wpAny_pyIter_list (Tf S) (by
  have hl:=Tf S;have IP:x+323<s.heap.objs.size:=by obtain⟨o,ho,_⟩:=hl;exact Cf ho
  have Is:(s.heap.push {cls:=.type "list_iterator",data:=.fields #[.ref (x+323),.int 0 0]}).objs.size=s.heap.objs.size+1:=Heap.size_push ..;have hp:=λj hj=>GX (UQ (α:=Nat) (β:=Nat)) xs j hj;refine⟨s.heap.objs.size,_,_,_,_,_,λj=>(((xs.getD j Au).1:Nat):Int),rfl,Walks.list (A:=A.in1) U.1 _ (x+323) (Nat.ne_of_lt IP) ⟨xs.map iv⟩,?_,?_,?_,?_,?_⟩
  ·refine⟨⟨_,FN _ rfl,rfl,rfl⟩,?_⟩
   obtain⟨o,ho,r⟩:=hl;exact⟨o,Cu _ ho,r⟩
  ·intro b hb
   rw[Is];simp only[CG,B_,or_false] at hb
   rcases hb with rfl|rfl
   ·exact IZ _
   ·exact Nat.lt_succ_of_lt IP
  ·intro i v hv
   have mi:(xs.map iv)[i]? =some v:=by simpa using hv
   rw[AQ] at mi;cases h:xs[i]? with
   |none=>rw[h] at mi;cases mi
   |some q=>rw[h] at mi;cases mi;exact⟨q.2,by show iv q=.int (((xs.getD i Au).1:Nat):Int) q.2;rw[Ad,h];rfl⟩
  ·intro j hj
   have u8:j<xs.length:=by simpa using hj
   have h1:=(MV (UQ (α:=Nat) (β:=Nat)) xs) (j+1);have h3:=hp (j+1) ADp
   have h4:=hp j ADp
   rw[h3];have h5:=h3;rw[Ic,h4] at h5;unfold ns at hs;have P6:(B0 UQ xs).sum<=1000000:=hs;show RH (((xs.getD j Au).1:Nat):Int)/\RH _
   constructor<;>constructor<;>lia
  ·intro h' tk t' hk ht
   refine⟨t',?_,S.grow O (λb o e=>hk b o (λhb=>?_) (Cu _ e)) ht⟩
   ·have e:(⟨xs.map iv⟩:Bs).size=xs.length:=by simp
    rw[e,hp _ (Am _),Gc]
   ·rw[List.mem_singleton.mp hb] at e
    exact Dl _ (Cf e))))
noncomputable def vO(k:Nat):Value->Bool:=λv=>match v with|.int i _=>i==(k:Int)|_=>false
theorem qM(xs:Aa)(k:Nat):((xs.map iv).toArray.any (vO k))=decide (k∈ns xs):=by
 rw[Bool.eq_iff_iff];simp only[List.any_toArray,List.any_map,List.any_eq_true,Il,vO,beq_iff_eq,decide_eq_true_eq,List.mem_map]
 constructor
 ·rintro⟨q,hq,e⟩;exact⟨q,hq,by lia⟩
 ·rintro⟨q,hq,e⟩;exact⟨q,hq,by lia⟩
def Ys(U:AA 3 A)(x k t:Nat)(xs:Aa):Ag B.C A where
 c:=.call (.builtin "list.__contains__") ⟨[.ref (x+323),.int (k:Int) t],[]⟩
 F:=[AF x xs]
 X:=Unit
 res:=λYa=>.ok (.ret (.bool (decide (k∈ns xs))))
 led:=λYa=>[AF x xs]
 ok:=Bu λR s S=>by
  obtain⟨g,h⟩:=S.Dj;refine EJ PySem.F.slot_list_contains.plain PySem.F.entry_list_contains (PySem.F.slot_list_contains.check _ _ _ _ _ _ _ _ ⟨_,h,rfl⟩ (PySem.F.args_list_contains_2 _ _) (MeetsSeq.list_contains (x+323) ⟨xs.map iv⟩ _ (.int (k:Int) t) (vO k) ?_ B.C.prog B.C.w A _ s ⟨h,(),?_,S⟩))
  ·intro y hy
   have ml:y∈xs.map iv:=by simpa using hy
   obtain⟨q,hq,rfl⟩:=List.mem_map.mp ml;exact MeetsSeq.EqGives.int _ _ _ _
  ·rw[<-qM]
def Pt(U:AA 3 A)(x k t:Nat)(xs:Aa)(h:k∈ns xs):Ag B.C A:=
 (Ys B A U x k t xs).re (λYa:Unit=>.ok (.ret (.bool true))) (λYa=>[AF x xs]) (λYa=>()) (λYa=>by show(Cs (B6 (.bool (decide (k∈ns xs)))):Result)=_;rw[decide_eq_true h]) (λYa=>rfl)
def NE(U:AA 3 A)(x k t:Nat)(xs:Aa)(h:k∉ns xs):Ag B.C A:=
 (Ys B A U x k t xs).re (λYa:Unit=>.ok (.ret (.bool false))) (λYa=>[AF x xs]) (λYa=>()) (λYa=>by show(Cs (B6 (.bool (decide (k∈ns xs)))):Result)=_;rw[decide_eq_false h]) (λYa=>rfl)
end
include O
theorem kd(U:AA 1 A)(x sl:Nat)(xs:Ak)(u v:Value):
 AS B A (AU "list.__getitem__" ⟨[.ref (x+323),.ref (sl+323)],[]⟩) [AE x xs,F8 sl u v] () [AE x xs,F8 sl u v]:=
 by apply Hc O U (.g 65<|.fi () [0,0])
omit O
section
variable(B:Bx)(A:AL)(O:B.C.Ok)
def Kx(U:AA 3 A)(x y:Nat)(xs ys:Ak)(hx:xs.length<=1000)(hy:ys.length<=1000):Ag B.C A where
 c:=.call (.builtin "list.__add__") ⟨[.ref (x+323),.ref (y+323)],[]⟩
 F:=[AE x xs,AE y ys]
 X:=Nat
 res:=λa=>.ok (.ret (.ref (a+323)))
 led:=λa=>[AE a (xs++ys),AE x xs,AE y ys]
 ok:=Bu λR s S=>by
  obtain⟨g,h⟩:=S.Dj;obtain⟨g2,h2⟩:=S.swap.Dj;have he:=S.size_eq O;have hz:(⟨xs⟩:Bs).size+(⟨ys⟩:Bs).size<=sizeLine:=by rw[Br];simp;lia
  refine EJ PySem.F.slot_list_add.plain PySem.F.entry_list_add (PySem.F.slot_list_add.check _ _ _ _ _ _ _ _ ⟨_,h,rfl⟩ (PySem.F.args_list_add_2 _ _) ((list_addW (x+323) (y+323) ⟨xs⟩ ⟨ys⟩ g.ep g2.ep none none ⟨[]⟩ ⟨[]⟩ hz) B.C.prog B.C.w A (λr s'=> ∃a:Nat,r=.ok (.ret (.ref (a+323)))/\St B.C ([AE a (xs++ys),AE x xs,AE y ys]++R) s') s (And.intro h (And.intro h2 ?_))));refine⟨s.heap.objs.size-323,?_,?_⟩
  ·rw[<-he]
  ·have S1:=S.alloc (o:={cls:=.type "list",data:=.seq ((⟨xs⟩:Bs)++⟨ys⟩)}) (ao:=.ls (.type "list") none (xs++ys)) rfl ⟨G0,by simp[AO.obj,G0]⟩
   rw[he] at S1;exact S1
theorem XQ(B:Bx)(A:AL)(O:B.C.Ok){x sl:Nat}{xs ys:Ak}{vl vu:Value}{lo hi:Option Int}(U:AA 3 A)(pl:PY vl lo)(pu:PY vu hi)(hx:xs.length<=1000)(hy:(RI ⟨xs⟩ lo hi none).toList=ys):
 Bv B.C A (.call (.builtin "list.__getitem__") ⟨[.ref (x+323),.ref (sl+323)],[]⟩) [AE x xs,F8 sl vl vu] (λa:Nat=>.ok (.ret (.ref (a+323)))) (λa=>[AE a ys,AE x xs,F8 sl vl vu]):=
 BF ADr Dq (kd O U.l.in1 x sl xs vl vu) (Ja O pl pu hx hy)
def bb(U:AA 3 A)(x sl u t u':Nat)(v:Nat)(xs:Ak)(hx:xs.length<=1000):Ag B.C A where
 c:=.call (.builtin "list.__getitem__") ⟨[.ref (x+323),.ref (sl+323)],[]⟩
 F:=[AE x xs,F8 sl (.int (u:Int) t) (.int (v:Int) u')]
 X:=Nat
 res:=λa=>.ok (.ret (.ref (a+323)))
 led:=λa=>[AE a ((xs.take v).drop u),AE x xs,F8 sl (.int (u:Int) t) (.int (v:Int) u')]
 ok:=XQ B A O U (.int _ _) (.int _ _) hx (by
  rw[slicePick_plain];simp only[Option.elim_some,clipAt_nat];rw[Nt];show LV (min v xs.length-min u xs.length) (Cd (min u xs.length) xs)=_
  by_cases hu:u<=xs.length
  ·rw[Nat.min_eq_left hu]
   by_cases hv:v<=xs.length
   ·rw[Nat.min_eq_left hv]
   ·rw[Nat.min_eq_right (show xs.length<=v by lia),EX (by rw[A6];lia),EX (by rw[A6];lia)]
  ·rw[Nat.min_eq_right (show xs.length<=u by lia),MZ (Am _),MZ (ADp:xs.length<=u),List.take_nil,List.take_nil])
def VV(U:AA 3 A)(x sl:Nat)(u' v:Nat)(xs:Ak)(hx:xs.length<=1000):Ag B.C A where
 c:=.call (.builtin "list.__getitem__") ⟨[.ref (x+323),.ref (sl+323)],[]⟩
 F:=[AE x xs,F8 sl .none (.int (v:Int) u')]
 X:=Nat
 res:=λa=>.ok (.ret (.ref (a+323)))
 led:=λa=>[AE a (xs.take v),AE x xs,F8 sl .none (.int (v:Int) u')]
 ok:=XQ B A O U .none (.int _ _) hx (by rw[slicePick_upto'])
def ND(U:AA 3 A)(x sl:Nat)(u t:Nat)(xs:Ak)(hx:xs.length<=1000):Ag B.C A where
 c:=.call (.builtin "list.__getitem__") ⟨[.ref (x+323),.ref (sl+323)],[]⟩
 F:=[AE x xs,F8 sl (.int (u:Int) t) .none]
 X:=Nat
 res:=λa=>.ok (.ret (.ref (a+323)))
 led:=λa=>[AE a (xs.drop u),AE x xs,F8 sl (.int (u:Int) t) .none]
 ok:=XQ B A O U (.int _ _) .none hx (by rw[slicePick_from'])
theorem Ue{C:Cx}{A:AL}{l:Addr}{c:Value}{d:Option Addr}{xs:Ak}{t:Nat}{v:Value}(hx:xs.getLast?=some v)(hs:xs.length<=1000):
 AC C A (Builtin.«list.__getitem__» ⟨[.ref l,.int (-1) t],[]⟩) [.one l (.ls c d xs)] (λYa:Unit=>.done (.ret v)) (λYa=>[.one l (.ls c d xs)]):=by
 intro R s S;obtain⟨g,ho⟩:=S.Dj;have CD:xs≠[]:=λe=>by subst e;cases hx
 have hl:0<xs.length:=List.length_pos_iff.mpr CD;have zI:=seqIndex_neg (k:=Rx 0) (n:=(⟨xs⟩:Bs).size) ADs (by show-((xs.length:Nat):Int)<= -1;lia)
 have hi:(Rx 0+((⟨xs⟩:Bs).size:Int)).toNat=xs.length-1:=by
  show((-1:Int)+(xs.length:Int)).toNat=_
  lia
 have hv:(⟨xs⟩:Bs)[xs.length-1]? =some v:=by
  rw[List.getLast?_eq_getElem?] at hx;simpa using hx
 show BN _ _ (Bb (.int (-1) t)>>=_) _ _ s;refine AB (HZ (fitsIndex_neg ADs ADs) ?_)
 show BN _ _ ((A7 (.ref l)>>=λxs=>pure ((F4 (Rx 0) xs.size).bind λi=>xs[i]?.map (i, ·)))>>=_) _ _ s;refine AB (AB ?_);show BN _ _ (LZ (.ref l)>>=_) _ _ s;refine AB (DG ho rfl (AP (AP ?_)));rw[zI,hi];simp only[Option.bind_some,hv,Option.map_some]
 first
  |exact AB (AP (AP ⟨(),rfl,S⟩))
  |exact AP ⟨(),rfl,S⟩
def JH(U:AA 3 A)(x t:Nat)(xs:Ak)(v:Value)(hx:xs.getLast?=some v)(hs:xs.length<=1000):Ag B.C A where
 c:=.call (.builtin "list.__getitem__") ⟨[.ref (x+323),.int (-1) t],[]⟩
 F:=[AE x xs]
 X:=Unit
 res:=λYa=>.ok (.ret v)
 led:=λYa=>[AE x xs]
 ok:=BF ADr Dq (Of O U.l.in1 x _ xs) (Ue hx hs)
end
section
variable(B:Bx)(A:AL)(O:B.C.Ok)
theorem rS(xs:Aa)(u v:Nat):((xs.map iv).take v).drop u=((xs.take v).drop u).map iv:=by rw[Dk,F3]
def RO(U:AA 3 A)(x sl u t u':Nat)(v:Nat)(xs:Aa)(hx:xs.length<=1000):Ag B.C A:=
 (bb B A O U x sl u t u' v (xs.map iv) (by rw[AD];exact hx)).re (λa:Nat=>.ok (.ret (J a))) (λa=>[AF a ((xs.take v).drop u),AF x xs,F8 sl (.int (u:Int) t) (.int (v:Int) u')]) (λa=>a) (λYa=>rfl) (λa=>by show [AE a (((xs.map iv).take v).drop u),_,_]=_;rw[rS])
def JP(U:AA 6 A)(x:Nat)(xs:Aa)(hx:xs.length<=1000):Ag B.C A:=
 (IL O U x (xs.map iv) (by rw[AD];exact hx)).re (λa:Nat=>.ok (.ret (.int (xs.length:Int) a))) (λa=>[AF x xs]) (λa=>a.2) (λYa=>by show(Cs (B6 (.int ((xs.map iv).length:Int) _)):Result)=_;rw[AD]) (λa=>rfl)
end
def VB:Expr:=vE (sN 23 1)
def VA:Dx:=nB (sN 23 1)
def aV:Expr:=vE (sN 24 1)
def aU:Dx:=nB (sN 24 1)
include O
theorem v7(U:AA 20 A)(L x u a k ka st:Nat)(rm:Int)(xs:Aa)(h1:a<xs.length)(hl:xs.length<=1000)(h3:((xs.take (a+1)).drop st).length<=1000)(h4:(ns ((xs.take (a+1)).drop st)).sum<=1000000)(h2:(((ns ((xs.take (a+1)).drop st)).sum:Nat):Int)<=rm):
 AC B.C A (BM (.whileLoop VB VA [] (AR B.P 286 [] (L+323)))) [AI L [(Ej,J x),(Cr,.int (st:Int) k),(G3,.int rm u),(BA,.int (a:Int) ka)],AF x xs]
  (λq:Nat=>.again (.whileLoop VB VA [] (AR B.P 286 [] (L+323))))
  (λq=>[AI L [(Ej,J x),(Cr,.int (st:Int) k),(G3,.int rm u),(BA,.int ((a+1:Nat):Int) q)],AF x xs]):=by
 obtain⟨_,_|_⟩:=B<;>exact rn O U (.g 17039361<|.cc (JP _ _ O U.l x xs hl) [1] λ(y0:Nat)=>.cc (IJ _ _ O U.l ↑a ↑xs.length ka y0 (by first|lia|assumption)) [] λYa=>.g 1107828736<|.fr λk2=>.cc (F_ _ _ O U.l a ka k2) [] λy3=>.al λa4=>.g 270466<|.cc (RO _ _ O U.l x a4 st k y3 (a+1) xs hl) [1,0] λy5=>.cc (Vf _ _ O U.l y5 (Cd st (LV (a+1) xs)) h3 h4) [0] λy6=>.g 68<|.cc (gP _ _ O U.l (↑(ns (Cd st (LV (a+1) xs))).sum) rm y6 u h2) [] λYa=>.g 68<|.fr λk8=>.cc (F_ _ _ O U.l a ka k8) [] λy9=>.fr λH9=>.g 6340<|.fi (y9) [3,1])
theorem n7(U:AA 20 A)(L x u a k ka st:Nat)(rm:Int)(xs:Aa)(h1:a<xs.length)(hl:xs.length<=1000)(h3:((xs.take (a+1)).drop st).length<=1000)(h4:(ns ((xs.take (a+1)).drop st)).sum<=1000000)(h2: ¬(((ns ((xs.take (a+1)).drop st)).sum:Nat):Int)<=rm):
 AS B A (BM (.whileLoop VB VA [] (AR B.P 286 [] (L+323)))) [AI L [(Ej,J x),(Cr,.int (st:Int) k),(G3,.int rm u),(BA,.int (a:Int) ka)],AF x xs] (Az Dg) [AI L [(Ej,J x),(Cr,.int (st:Int) k),(G3,.int rm u),(BA,.int (a:Int) ka)],AF x xs]:=by
 obtain⟨_,_|_⟩:=B<;>exact rn O U (.g 17039361<|.cc (JP _ _ O U.l x xs hl) [1] λ(y0:Nat)=>.cc (IJ _ _ O U.l ↑a ↑xs.length ka y0 (by first|lia|assumption)) [] λYa=>.g 1107828736<|.fr λk2=>.cc (F_ _ _ O U.l a ka k2) [] λy3=>.al λa4=>.g 270466<|.cc (RO _ _ O U.l x a4 st k y3 (a+1) xs hl) [1,0] λy5=>.cc (Vf _ _ O U.l y5 (Cd st (LV (a+1) xs)) h3 h4) [0] λy6=>.g 68<|.cc (gO _ _ O U.l (↑(ns (Cd st (LV (a+1) xs))).sum) rm y6 u h2) [] λYa=>.fi () [3,1])
theorem n8(U:AA 20 A)(L x u a k ka st:Nat)(rm:Int)(xs:Aa)(h1: ¬(a:Int)<xs.length)(hl:xs.length<=1000):
 AS B A (BM (.whileLoop VB VA [] (AR B.P 286 [] (L+323)))) [AI L [(Ej,J x),(Cr,.int (st:Int) k),(G3,.int rm u),(BA,.int (a:Int) ka)],AF x xs] (Az Dg) [AI L [(Ej,J x),(Cr,.int (st:Int) k),(G3,.int rm u),(BA,.int (a:Int) ka)],AF x xs]:=by
 obtain⟨_,_|_⟩:=B<;>exact rn O U (.g 17039361<|.cc (JP _ _ O U.l x xs hl) [1] λy0=>.cc (II _ _ O U.l ↑a ↑xs.length ka y0 h1) [] λYa=>.fi () [1,0])
theorem xn(U:AA 20 A)(L x y k st a q b bt:Nat)(xs:Aa)(ys:Aa)(hl:xs.length<=1000)(Mr:(xs.map iv).length<=1000)(mY:(ys.map iv).length<=1000)(hy:(ys.map iv).getLast?=some (.int (a:Int) k))(h1:(a:Int)<xs.length)(hx:(xs.map iv)[a]? =some (.int (b:Int) bt)):
 AS B A (BM (.whileLoop aV aU [] (AR B.P 293 [] (L+323)))) [AI L [(FQ,J x),(Cr,.int (st:Int) q),(Hr,J y)],AF x xs,AF y ys] (.again (.whileLoop aV aU [] (AR B.P 293 [] (L+323)))) [AI L [(FQ,J x),(Cr,.int (st:Int) q),(Hr,J y)],AF x xs,AE y (ys.map iv++[.int (b:Int) bt])]:=by
 obtain⟨_,_|_⟩:=B<;>exact rn O U (.g 65<|.fr λk0=>.cc (HB O U.l k0) [] λy1=>.g 274627<|.cc (JH _ _ O U.l y y1 (B0 iv ys) (.int (↑a) k) hy mY) [2] λYa=>.g 270336<|.cc (JP _ _ O U.l x xs hl) [2] λy3=>.cc (IJ _ _ O U.l ↑a ↑xs.length k y3 h1) [] λYa=>.g 4607460253827<|.fr λk5=>.cc (HB O U.l k5) [] λy6=>.g 270466<|.cc (JH _ _ O U.l y y6 (B0 iv ys) (.int (↑a) k) hy mY) [1] λYa=>.g 270466<|.cc (BZ O U.l x a k (B0 iv xs) (.int (↑b) bt) hx Mr) [1] λYa=>.cc (Do O U.l y (.int (↑b) bt) (B0 iv ys) mY) [1] λYa=>.fi () [2,1,0])
theorem sr(U:AA 20 A)(L x y k st a q:Nat)(xs:Aa)(ys:Aa)(hl:xs.length<=1000)(mY:(ys.map iv).length<=1000)(hy:(ys.map iv).getLast?=some (.int (a:Int) k))(h1: ¬(a:Int)<xs.length):
 AS B A (BM (.whileLoop aV aU [] (AR B.P 293 [] (L+323)))) [AI L [(FQ,J x),(Cr,.int (st:Int) q),(Hr,J y)],AF x xs,AF y ys] (Az Dg) [AI L [(FQ,J x),(Cr,.int (st:Int) q),(Hr,J y)],AF x xs,AF y ys]:=by
 obtain⟨_,_|_⟩:=B<;>exact rn O U (.g 65<|.fr λk0=>.cc (HB O U.l k0) [] λy1=>.g 274627<|.cc (JH _ _ O U.l y y1 (B0 iv ys) (.int (↑a) k) hy mY) [2] λYa=>.g 270336<|.cc (JP _ _ O U.l x xs hl) [2] λy3=>.cc (II _ _ O U.l ↑a ↑xs.length k y3 h1) [] λYa=>.fi () [2,0,0])
noncomputable def HT(sz:Ay)(st:Nat)(rm:Int):Nat->Nat->Nat
 |0,a=>a
 |r+1,a=>if((((sz.take (a+1)).drop st).sum:Nat):Int)<=rm then HT sz st rm r (a+1) else a
def Cq(sz:Ay)(st:Nat)(rm:Int):Nat:=HT sz st rm (sz.length-st) st
omit O
theorem Xg(xs:Aa)(u v:Nat):ns ((xs.take v).drop u)=((ns xs).take v).drop u:=by unfold ns;rw[Dk,F3]
theorem pR(l:Ay)(u v:Nat):((l.take v).drop u).sum<=l.sum:=by
 have h1:(l.take v).sum<=l.sum:=by
  have:=congrArg List.sum (CQ v l)
  rw[G7] at this;lia
 have h2:((l.take v).drop u).sum<=(l.take v).sum:=by
  have:=congrArg List.sum (CQ u (l.take v))
  rw[G7] at this;lia
 lia
theorem Zz{B:Bx}(O:B.C.Ok){A:AL}(U:AA 21 A){L x u k st:Nat}{rm:Int}{xs:Aa}(hl:xs.length<=1000)(hs:(ns xs).sum<=1000000): ∀(r a ka:Nat),a+r=xs.length->
 AT B.C A (.whileLoop VB VA [] (AR B.P 286 [] (L+323))) [AI L [(Ej,J x),(Cr,.int (st:Int) k),(G3,.int rm u),(BA,.int (a:Int) ka)],AF x xs]
  (λYa:Nat=>.ok .next) (λq=>[AI L [(Ej,J x),(Cr,.int (st:Int) k),(G3,.int rm u),(BA,.int ((HT (ns xs) st rm r a:Nat):Int) q)],AF x xs])
 |0,a,ka,h=>(AT.ends (n8 O (A:=A.under (.whileLoop VB VA [] (AR B.P 286 [] (L+323)))) U.l.loop L x u a k ka st rm xs ADp hl)).weaken λYa=>⟨ka,rfl,λR s S=>S⟩
 |r+1,a,ka,h=>by
  have h3:((xs.take (a+1)).drop st).length<=1000:=by rw[A6,C5];lia
  have h4:(ns ((xs.take (a+1)).drop st)).sum<=1000000:=by rw[Xg];exact AK (pR _ _ _) hs
  by_cases c:(((ns ((xs.take (a+1)).drop st)).sum:Nat):Int)<=rm
  ·have e:HT (ns xs) st rm (r+1) a=HT (ns xs) st rm r (a+1):=by rw[HT,<-Xg,if_pos c]
   rw[e];exact AT.NN (c':=λYa=>.whileLoop VB VA [] (AR B.P 286 [] (L+323))) (v7 O (A:=A.under (.whileLoop VB VA [] (AR B.P 286 [] (L+323)))) U.l.loop L x u a k ka st rm xs ADp hl h3 h4 c) (λYa=>rfl) λq=>Zz O U hl hs r (a+1) q ADp
  ·have e:HT (ns xs) st rm (r+1) a=a:=by rw[HT,<-Xg,if_neg c]
   rw[e]
   exact(AT.ends (n7 O (A:=A.under (.whileLoop VB VA [] (AR B.P 286 [] (L+323)))) U.l.loop L x u a k ka st rm xs ADp hl h3 h4 c)).weaken λYa=>⟨ka,rfl,λR s S=>S⟩
include O
def Yv(U:AA 21 A)(L x u k st:Nat)(rm:Int)(xs:Aa)(hl:xs.length<=1000)(hs:(ns xs).sum<=1000000)(Ms:st<=xs.length):Ag B.C A where
 c:=.whileLoop VB VA [] (AR B.P 286 [] (L+323))
 F:=[AI L [(Ej,J x),(Cr,.int (st:Int) k),(G3,.int rm u),(BA,.int (st:Int) k)],AF x xs]
 X:=Nat
 res:=λYa=>.ok .next
 led:=λq=>[AI L [(Ej,J x),(Cr,.int (st:Int) k),(G3,.int rm u),(BA,.int ((Cq (ns xs) st rm:Nat):Int) q)],AF x xs]
 ok:=by
  have:=Zz O U (L:=L) (x:=x) (u:=u) (k:=k) (st:=st) (rm:=rm) hl hs (xs.length-st) st k ADp
  unfold Cq;rw[show(ns xs).length=xs.length from AD _];exact this.call
structure UX(l:Ay) where
 ys:Aa
 ok:ns ys=l
noncomputable def GN(s:Ay):Nat->Nat->Ay
 |0,_=>[]
 |r+1,a=>if a<s.length then s.getD a 0::GN s r (s.getD a 0) else []
def BI(s:Ay)(a:Nat):Ay:=a::GN s (s.length-a) a
theorem qF(U:AA 21 A){L x y st q:Nat}{xs:Aa}(hl:xs.length<=500)(dO: ∀i,i<xs.length->i<(ns xs).getD i 0): ∀(r a k:Nat) (ys:Aa),xs.length<=a+r->ys.length+r<=900->(ys.map iv).getLast?=some (.int (a:Int) k)->
 AT B.C A (.whileLoop aV aU [] (AR B.P 293 [] (L+323))) [AI L [(FQ,J x),(Cr,.int (st:Int) q),(Hr,J y)],AF x xs,AF y ys]
  (λYa:UX (ns ys++GN (ns xs) r a)=>.ok .next) (λz=>[AI L [(FQ,J x),(Cr,.int (st:Int) q),(Hr,J y)],AF x xs,AF y z.ys]):=by
 intro r
 induction r using Nat.strongRecOn with
 |ind r ih=>
  intro a k ys h hy zM
  by_cases c:a<xs.length
  ·obtain⟨r,rfl⟩: ∃m,r=m+1:=⟨r-1,by lia⟩
   have hg:(ns xs).getD a 0=xs[a].1:=by unfold ns;rw[Ad,AQ,AJ c];rfl
   have hu:=dO a c;have e:GN (ns xs) (r+1) a=xs[a].1::GN (ns xs) r xs[a].1:=by
    rw[GN,if_pos (by unfold ns;rw[AD];exact c),hg]
   have hx:(xs.map iv)[a]? =some (.int (xs[a].1:Int) xs[a].2):=by rw[AQ,AJ c];rfl
   refine AT.NN (Y:=Unit) (c':=λYa=>.whileLoop aV aU [] (AR B.P 293 [] (L+323))) (xn O (A:=A.under (.whileLoop aV aU [] (AR B.P 293 [] (L+323)))) U.l.loop L x y k st a q xs[a].1 xs[a].2 xs ys ADp (by rw[AD];lia) (by rw[AD];lia) zM ADp hx) (λYa=>rfl) λYa=>?_
   have hp:ys.map iv++[Be (xs[a].1:Int) xs[a].2]=(ys++[xs[a]]).map iv:=by rw[AZ];rfl
   rw[hp]
   refine(ih r (IZ r) xs[a].1 xs[a].2 (ys++[xs[a]]) ADp (by rw[AX,CF];lia) (by rw[AZ,List.getLast?_append];rfl)).weaken λz=>⟨⟨z.ys,?_⟩,rfl,λR s S=>S⟩
   rw[z.ok,e];simp[ns]
  ·have e:GN (ns xs) r a=[]:=by
    cases r with
    |zero=>rfl
    |succ r=>rw[GN,if_neg (by unfold ns;rw[AD];exact c)]
   exact(AT.ends (sr O (A:=A.under (.whileLoop aV aU [] (AR B.P 293 [] (L+323)))) U.l.loop L x y k st a q xs ys ADp (by rw[AD];lia) zM ADp)).weaken λYa=>⟨⟨ys,by rw[e,Aj]⟩,rfl,λR s S=>S⟩
def Y_(U:AA 21 A)(L x y st q:Nat)(xs:Aa)(hl:xs.length<=500)(dO: ∀i,i<xs.length->i<(ns xs).getD i 0):Ag B.C A where
 c:=.whileLoop aV aU [] (AR B.P 293 [] (L+323))
 F:=[AI L [(FQ,J x),(Cr,.int (st:Int) q),(Hr,J y)],AF x xs,AE y [.int (st:Int) q]]
 X:=UX (BI (ns xs) st)
 res:=λYa=>.ok .next
 led:=λz=>[AI L [(FQ,J x),(Cr,.int (st:Int) q),(Hr,J y)],AF x xs,AF y z.ys]
 ok:=((qF O U (L:=L) (x:=x) (y:=y) (st:=st) (q:=q) hl dO (xs.length-st) st q [(st,q)] ADp (by simp;lia) rfl).weaken λz=>⟨⟨z.ys,by rw[z.ok];unfold BI;rw[show(ns xs).length=xs.length from AD _];rfl⟩,rfl,λR s S=>S⟩).call
theorem bJ(U:AA 24 A)(L x st k u:Nat)(rm:Int)(xs:Aa)(hl:xs.length<=1000)(hs:(ns xs).sum<=1000000)(Ms:st<=xs.length):
 AC B.C A (Ac (A4 B.P 286) (AR B.P 286 [] (L+323))) [AI L [(Ej,J x),(Cr,.int (st:Int) k),(G3,.int rm u)],AF x xs]
  (λq:Nat=>.ret (.int ((Cq (ns xs) st rm:Nat):Int) q))
  (λq=>[AF x xs]):=Ix O U (.g 65<|.fr λk0=>.g 6145<|.cc (Yv O U.l L x u k st rm xs hl hs Ms) [0,0] λy1=>.g 65<|.fi (y1) [1])
def VZ(U:AA 26 A)(x st k u:Nat)(rm:Int)(xs:Aa)(hl:xs.length<=1000)(hs:(ns xs).sum<=1000000)(Ms:st<=xs.length):Ag B.C A where
 c:=.call (.ref 286) ⟨[J x,.int (st:Int) k,.int rm u],[]⟩
 F:=[AF x xs]
 X:=Nat
 res:=λq=>.ok (.ret (.int ((Cq (ns xs) st rm:Nat):Int) q))
 led:=λq=>[AF x xs]
 ok:=EU O U [(Ej,J x),(Cr,.int (st:Int) k),(G3,.int rm u)]
  (λL=>BK (fl:=λq:Nat=>.ret (.int ((Cq (ns xs) st rm:Nat):Int) q)) (bJ O (AA.deeper U.l) L x st k u rm xs hl hs Ms))
structure Gk(l:Ay) where
 a:Nat
 ys:Aa
 ok:ns ys=l
theorem fu(U:AA 24 A)(L x st k:Nat)(xs:Aa)(hl:xs.length<=500)(dO: ∀i,i<xs.length->i<(ns xs).getD i 0):
 AC B.C A (Ac (A4 B.P 293) (AR B.P 293 [] (L+323))) [AI L [(FQ,J x),(Cr,.int (st:Int) k)],AF x xs]
  (λq:Gk (BI (ns xs) st)=>B6 (J q.a))
  (λq=>[AF q.a q.ys,AF x xs]):=Ix O U (.g 65<|.al λa0=>.fr λk1=>.g 6210<|.cc (Y_ O U.l L x a0 st k xs hl dO) [1,1,0] λ(y2:UX (BI (ns xs) st))=>.g 65<|.fi (⟨a0,y2.ys,y2.ok⟩) [2,1])
def Y9(U:AA 26 A)(x st k:Nat)(xs:Aa)(hl:xs.length<=500)(dO: ∀i,i<xs.length->i<(ns xs).getD i 0):Ag B.C A where
 c:=.call (.ref 293) ⟨[J x,.int (st:Int) k],[]⟩
 F:=[AF x xs]
 X:=Gk (BI (ns xs) st)
 res:=λq=>.ok (.ret (J q.a))
 led:=λq=>[AF q.a q.ys,AF x xs]
 ok:=EU O U [(FQ,J x),(Cr,.int (st:Int) k)]
  (λL=>BK (fl:=λq:Gk (BI (ns xs) st)=>.ret (J q.a)) (fu O (AA.deeper U.l) L x st k xs hl dO))
noncomputable abbrev Hh(ifs:List Expr)(env:Env):Sem Bool:=
 ID ifs true λc r=>if r=true then do let ok<-isTrue c env (Bf c env);pure (DY ok) else pure (DY r)
omit O
section
variable{C:Cx}{A:AL}{F:AN}{env:Env}
theorem cX:AC C A (Hh [] env) F (λYa:Unit=>true) (λYa=>F):=λR s S=>AP ⟨(),rfl,S⟩
theorem Jd{c:Expr}{b:Bool}(h:AC C A (isTrue c env (Bf c env)) F (λYa:Unit=>b) (λYa=>F)):AC C A (Hh [c] env) F (λYa:Unit=>b) (λYa=>F):=λR s S=>by
 unfold Hh;rw[EP];refine AB ?_;refine iT rfl ?_;refine AB (AC.wp h S λYa s₁ S₁=>?_);exact AP (AP ⟨(),rfl,S₁⟩)
end
def Ep(C:Cx)(A:AL)(ifs:List Expr)(elt:Expr)(env:Env)(F:AN){Y:Type}(w:Y->DP)(led:Y->AN):Prop:=
 (AC C A (Hh ifs env) F (λYa:Unit=>true) (λYa=>F)/\ ∃u:Y->Value,(∀y,w y=some (u y))/\AC C A (Bf elt env) F u led)∨
 (AC C A (Hh ifs env) F (λYa:Unit=>false) (λYa=>F)/\ ∃y,w y=none/\led y=F)
section
variable{C:Cx}{A:AL}{env:Env}{ifs:List Expr}{elt:Expr}
theorem Ep.to{F F':AN}{Y:Type}{w:Y->DP}{led Cy:Y->AN}(h:Ep C A ifs elt env F w led)(G:AN)(p:(F++G).Perm F')(q: ∀y,(led y++G).Perm (Cy y))(hn: ∀y,led y=F->Cy y=F'):Ep C A ifs elt env F' w Cy:=by
 have cv: ∀b,AC C A (Hh ifs env) F (λYa:Unit=>b) (λYa=>F)->AC C A (Hh ifs env) F' (λYa:Unit=>b) (λYa=>F'):=λb hc=>
  ((hc.frame G).pre λR s S=>S.perm (p.symm.append_right R)).post λYa R s S=>S.perm (p.append_right R)
 rcases h with⟨hc,u,hu,he⟩|⟨hc,y,hw,hl⟩
 ·exact .inl ⟨cv _ hc,u,hu,((he.frame G).pre λR s S=>S.perm (p.symm.append_right R)).post λy R s S=>S.perm ((q y).append_right R)⟩
 ·exact .inr ⟨cv _ hc,y,hw,hn y hl⟩
theorem Ep.mid{d:Bi}{I G:AN}{Y:Type}{w:Y->DP}{led:Y->AN}(h:Ep C A ifs elt env ([d]++G) w (λy=>[d]++led y)):Ep C A ifs elt env ([d]++(I++G)) w (λy=>[d]++(I++led y)):=
 h.to I (by show(d::(G++I)).Perm (d::(I++G));exact .cons _ A9) (λy=>by show(d::(led y++I)).Perm (d::(I++led y));exact .cons _ A9) λy e=>by
  have e':led y=G:=(Oy e).2;rw[e']
theorem Ep.tZ{d e:Bi}{i:Bi}{I G:AN}{Y:Type}{w:Y->DP}{led:Y->AN}(h:Ep C A ifs elt env ([d,e]++G) w (λy=>[d,e]++led y))(hI:I=[i]:=by rfl):Ep C A ifs elt env ([d]++([i,e]++G)) w (λy=>[d]++([i,e]++led y)):=
 h.to [i] (by show(d::e::(G++[i])).Perm (d::i::e::G);exact .cons _ ((BY _ A9).trans (.swap _ _ _)))
  (λy=>by show(d::e::(led y++[i])).Perm (d::i::e::led y);exact .cons _ ((BY _ A9).trans (.swap _ _ _))) λy q=>by
  have e':led y=G:=(Oy (Oy q).2).2;rw[e']
end
section
variable{B:Bx}{A:AL}{elt Dy iter:Expr}{ifs:List Expr}{sc:Scope}{pos:Pos}{it:Value}{env:Env}{acc:Nat}{dv:BC->Bi}{n:Nat}{V:Nat->Type}{v: ∀j,V j->Value}{It:Nat->AN}{Src:AN}{nm:Str}{S:Nat->Type}{G: ∀j,S j->AN}{out: ∀j,S j->Ak}
abbrev EF(elt Dy iter:Expr)(ifs:List Expr)(sc:Scope)(pos:Pos)(it:Value)(acc:Nat)(env:Env):Code:=.compLoop (.ListComp elt [⟨Dy,iter,ifs,0⟩] sc pos) 0 it (J acc) env
def tt(nm:Str)(V:Nat->Type)(v: ∀j,V j->Value)(l:BC):Prop:=l=[]∨ ∃i,∃y:V i,l=[(nm,v i y)]
theorem bW(O:B.C.Ok)(U:AA 3 A){j:Nat}{σ:S j}{l:BC}{Y:V j->Type}{nxt: ∀x,Y x->S (j+1)}{w: ∀x,Y x->DP}{Z:Type}{res:Z->Result}{led:Z->AN}
 (NM:AC B.C (A.under (EF elt Dy iter ifs sc pos it acc env)) (FK it) (It j) (λx:V j=>some (v j x)) (λYa=>It (j+1)))
 (iM: ∀x:V j,AC B.C (A.under (EF elt Dy iter ifs sc pos it acc env)) (Fw Dy it (v j x)) [] (λYa:Unit=>()) (λYa=>[]))
 (Gj: ∀x:V j,AC B.C (A.under (EF elt Dy iter ifs sc pos it acc env)) (Bo Dy env (v j x)) [dv l] (λYa:Unit=>()) (λYa=>[dv [(nm,v j x)]]))
 (FO: ∀x:V j,Ep B.C (A.under (EF elt Dy iter ifs sc pos it acc env)) ifs elt env ([dv [(nm,v j x)]]++(It (j+1)++G j σ)) (λy:Y x=>w x y) (λy=>[dv [(nm,v j x)]]++(It (j+1)++G (j+1) (nxt x y))))
 (hlen:(out j σ).length<=1000)
 (vF: ∀(x:V j) (y:Y x),AT B.C A (EF elt Dy iter ifs sc pos it acc env) ([dv [(nm,v j x)],AE acc (out j σ++(w x y).toList)]++(It (j+1)++G (j+1) (nxt x y))) res led):
 AT B.C A (EF elt Dy iter ifs sc pos it acc env) ([dv l,AE acc (out j σ)]++(It j++G j σ)) res led:=λR s S0=>by
 refine BL ?_;show BN _ _ ((J3 (.ListComp elt [⟨Dy,iter,ifs,0⟩] sc pos) 0 it (J acc) env).onRaise (λx=>do E0 x env;EQ x)) _ _ s;refine DT (Av ?_ (λYa Ya q=>q) (λYa Ya (q:False)=>q.elim));unfold J3
 dsimp only[List.getElem?_cons_zero]
 refine AB (m:=Kg _) (DU ?_);refine iN ADs ?_
 have S1:St B.C (It j++([dv l,AE acc (out j σ)]++G j σ++R)) s:=S0.perm (by
  show(dv l::AE acc (out j σ)::((It j++G j σ)++R)).Perm (It j++(dv l::AE acc (out j σ)::(G j σ++R)))
  refine .symm (List.perm_middle.trans (.cons _ (List.perm_middle.trans (.cons _ ?_))));rw[AG])
 refine AB (AC.wp NM S1 λx s₁ S₁=>?_)
 dsimp only
 refine AB (AC.wp (iM x) S₁ λYa s₂ S₂=>?_);have S2:St B.C ([dv l]++(AE acc (out j σ)::(It (j+1)++G j σ++R))) s₂:=S₂.perm (by
  show(It (j+1)++(dv l::AE acc (out j σ)::(G j σ++R))).Perm (dv l::AE acc (out j σ)::(It (j+1)++G j σ++R))
  refine List.perm_middle.trans (.cons _ (List.perm_middle.trans (.cons _ ?_)));rw[AG])
 refine AB (AC.wp (Gj x) S2 λYa s₃ S₃=>?_);have S3:St B.C (([dv [(nm,v j x)]]++(It (j+1)++G j σ))++(AE acc (out j σ)::R)) s₃:=S₃.perm (by
  show(dv [(nm,v j x)]::AE acc (out j σ)::((It (j+1)++G j σ)++R)).Perm (dv [(nm,v j x)]::((It (j+1)++G j σ)++(AE acc (out j σ)::R)))
  exact .cons _ List.perm_middle.symm)
 have s8: ∀(y:Y x) s',St B.C (([dv [(nm,v j x)]]++(It (j+1)++G (j+1) (nxt x y)))++(AE acc (out j σ++(w x y).toList)::R)) s'->BN B.C.M (A.under (EF elt Dy iter ifs sc pos it acc env)) (again (EF elt Dy iter ifs sc pos it acc env))
  (λr s'=>match r with|.done f=> ∃x,Cs f=res x/\St B.C (led x++R) s'|.again c'=>c'.quiet=true/\Kd B.C.M A c' (λr s'=> ∃x,r=res x/\St B.C (led x++R) s') s') (λYa Ya=>False) s':=λy s' S'=>by
  refine AP ⟨rfl,vF x y R s' (S'.perm ?_)⟩
  show(dv [(nm,v j x)]::((It (j+1)++G (j+1) (nxt x y))++(AE acc _::R))).Perm (dv [(nm,v j x)]::AE acc _::((It (j+1)++G (j+1) (nxt x y))++R))
  exact .cons _ BH
 rcases FO x with⟨hc,u,hu,he⟩|⟨hc,y,hw,hl⟩
 ·refine AB (AC.wp hc S3 λYa s₄ S₄=>?_)
  refine iT rfl ?_;refine AB (AB (AC.wp he S₄ λy s₅ S₅=>?_));have S5:St B.C ([AE acc (out j σ)]++(([dv [(nm,v j x)]]++(It (j+1)++G (j+1) (nxt x y)))++R)) s₅:=S₅.perm BH;refine AB (AC.wp (LI (Do O U.l.loop acc (u y) (out j σ) hlen).ok) S5 λYa s₆ S₆=>?_);refine AP ?_;refine s8 y s₆ ?_;rw[show w x y=some (u y) from hu y];exact St.perm S₆ (show(AE acc (out j σ++[u y])::(([dv [(nm,v j x)]]++(It (j+1)++G (j+1) (nxt x y)))++R)).Perm _ from List.perm_middle.symm)
 ·refine AB (AC.wp hc S3 λYa s₄ S₄=>?_)
  rw[if_neg BP];refine AB (m:=pure _) (AP ?_);refine s8 y s₄ ?_;rw[show w x y=none from hw,show [dv [(nm,v j x)]]++(It (j+1)++G (j+1) (nxt x y))=_ from hl];show St B.C (_++(AE acc (out j σ++[])::_)) _;rw[Aj];exact S₄
theorem Sv(O:B.C.Ok)(U:AA 3 A){Y: ∀j,V j->S j->Type}{nxt: ∀j x σ,Y j x σ->S (j+1)}{w: ∀j x σ,Y j x σ->DP}
 (NM: ∀j,j<n->AC B.C (A.under (EF elt Dy iter ifs sc pos it acc env)) (FK it) (It j) (λx:V j=>some (v j x)) (λYa=>It (j+1)))
 (Vm:AC B.C (A.under (EF elt Dy iter ifs sc pos it acc env)) (FK it) (It n) (λYa:Unit=>none) (λYa=>Src))
 (iM: ∀j (x:V j),AC B.C (A.under (EF elt Dy iter ifs sc pos it acc env)) (Fw Dy it (v j x)) [] (λYa:Unit=>()) (λYa=>[]))
 (Gj: ∀j (x:V j) l,tt nm V v l->AC B.C (A.under (EF elt Dy iter ifs sc pos it acc env)) (Bo Dy env (v j x)) [dv l] (λYa:Unit=>()) (λYa=>[dv [(nm,v j x)]]))
 (FO: ∀j,j<n-> ∀(x:V j) (σ:S j),Ep B.C (A.under (EF elt Dy iter ifs sc pos it acc env)) ifs elt env ([dv [(nm,v j x)]]++(It (j+1)++G j σ)) (λy:Y j x σ=>w j x σ y) (λy=>[dv [(nm,v j x)]]++(It (j+1)++G (j+1) (nxt j x σ y))))
 (Mn: ∀j x σ y,out (j+1) (nxt j x σ y)=out j σ++(w j x σ y).toList) (hlen: ∀j σ,(out j σ).length<=1000):
 ∀(r j:Nat) (σ:S j) (l:BC),j+r=n->tt nm V v l->(r=0-> ∃i,∃y:V i,l=[(nm,v i y)])->
 AT B.C A (EF elt Dy iter ifs sc pos it acc env) ([dv l,AE acc (out j σ)]++(It j++G j σ)) (λYa:S n×(Σ i,V i)=>.ok .next) (λy=>[dv [(nm,v y.2.1 y.2.2)],AE acc (out n y.1)]++(Src++G n y.1))
 |0,j,σ,l,h,hl,hz=>by
  obtain rfl:j=n:=by lia
  obtain⟨i,y,rfl⟩:=hz rfl
  refine(AT.Su (X:=Unit) (led:=λYa=>Src++(G j σ++[dv [(nm,v i y)],AE acc (out j σ)])) (g0:=⟨Dy,iter,ifs,0⟩) rfl rfl ?_).weaken λYa=>⟨(σ,⟨i,y⟩),rfl,λR s S=>?_⟩
  ·refine(Vm.frame (G j σ++[dv [(nm,v i y)],AE acc (out j σ)])).pre λR s S=>S.perm (A8 R ?_)
   refine List.perm_append_comm.trans ?_;rw[AG]
  ·refine S.perm ?_
   show((Src++(G j σ++[dv [(nm,v i y)],AE acc (out j σ)]))++R).Perm (([dv [(nm,v i y)],AE acc (out j σ)]++(Src++G j σ))++R)
   rw[<-AG];exact A8 R A9
 |r+1,j,σ,l,h,hl,_=>by
  refine bW O U (Y:=λx=>Y j x σ) (nxt:=λx=>nxt j x σ) (w:=λx=>w j x σ) (NM j ADp) (iM j) (λx=>Gj j x l hl) (λx=>FO j ADp x σ) (hlen j σ) λx y=>?_
  have:=Sv O U NM Vm iM Gj FO Mn hlen r (j+1) (nxt j x σ y) [(nm,v j x)] ADp (.inr ⟨j,x,rfl⟩) λYa=>⟨j,x,rfl⟩
  rw[Mn] at this;exact this
theorem KD(O:B.C.Ok)(U:AA 3 A){Y: ∀j,V j->S j->Type}{nxt: ∀j x σ,Y j x σ->S (j+1)}{w: ∀j x σ,Y j x σ->DP}
 (u7:AC B.C (A.under (.compStart (.ListComp elt [⟨Dy,iter,ifs,0⟩] sc pos) 0 it (J acc) env)) (Mi it) (It 0) (λYa:Unit=>it) (λYa=>It 0))
 (NM: ∀j,j<n->AC B.C (A.under (EF elt Dy iter ifs sc pos it acc env)) (FK it) (It j) (λx:V j=>some (v j x)) (λYa=>It (j+1)))
 (Vm:AC B.C (A.under (EF elt Dy iter ifs sc pos it acc env)) (FK it) (It n) (λYa:Unit=>none) (λYa=>Src))
 (iM: ∀j (x:V j),AC B.C (A.under (EF elt Dy iter ifs sc pos it acc env)) (Fw Dy it (v j x)) [] (λYa:Unit=>()) (λYa=>[]))
 (Gj: ∀j (x:V j) l,tt nm V v l->AC B.C (A.under (EF elt Dy iter ifs sc pos it acc env)) (Bo Dy env (v j x)) [dv l] (λYa:Unit=>()) (λYa=>[dv [(nm,v j x)]]))
 (FO: ∀j,j<n-> ∀(x:V j) (σ:S j),Ep B.C (A.under (EF elt Dy iter ifs sc pos it acc env)) ifs elt env ([dv [(nm,v j x)]]++(It (j+1)++G j σ)) (λy:Y j x σ=>w j x σ y) (λy=>[dv [(nm,v j x)]]++(It (j+1)++G (j+1) (nxt j x σ y))))
 (Mn: ∀j x σ y,out (j+1) (nxt j x σ y)=out j σ++(w j x σ y).toList) (hlen: ∀j σ,(out j σ).length<=1000) (σ:S 0) (h0:out 0 σ=[]) (XU:n≠0):
 Bv B.C A (.compStart (.ListComp elt [⟨Dy,iter,ifs,0⟩] sc pos) 0 it (J acc) env) ([dv [],AE acc []]++(It 0++G 0 σ)) (λYa:S n×(Σ i,V i)=>.ok .next) (λy=>[dv [(nm,v y.2.1 y.2.2)],AE acc (out n y.1)]++(Src++G n y.1)):=by
 refine AT.call (AT.compStart (g0:=⟨Dy,iter,ifs,0⟩) rfl rfl ?_ ?_)
 ·refine((u7.frame ([dv [],AE acc []]++G 0 σ)).pre λR s S=>S.perm (A8 R ?_)).post λYa R s S=>S.perm (A8 R ?_)
  ·rw[<-AG,<-AG]
   exact A8 _ A9
  ·rw[<-AG,<-AG]
   exact A8 _ A9
 ·have:=Sv O U NM Vm iM Gj FO Mn hlen n 0 σ [] ADp (.inl rfl) (λh=>absurd h XU)
  rw[h0] at this;exact this
end
section
variable{B:Bx}{A:AL}{elt iter:Expr}{x0:Str}{p0:Pos}{ifs:List Expr}{sc:Scope}{pos:Pos}{env:Env}{D acc a c:Nat}{S:Nat->Type}{G: ∀j,S j->AN}{out: ∀j,S j->Ak}
theorem Yg(O:B.C.Ok)(U:AA 7 A){n:Nat}{Y: ∀j,Nat->S j->Type}{nxt: ∀j x σ,Y j x σ->S (j+1)}{w: ∀j x σ,Y j x σ->DP}
 (Gj: ∀A',AA 6 A'-> ∀(j k:Nat) l,(l=[]∨ ∃i m:Nat,l=[(x0,Be (i:Int) m)])->AC B.C A' (Bo (.Name x0 p0) env (.int (j:Int) k)) [As D l] (λYa:Unit=>()) (λYa=>[As D [(x0,.int (j:Int) k)]]))
 (FO: ∀A',AA 6 A'-> ∀j,j<n-> ∀(x:Nat) (σ:S j),Ep B.C A' ifs elt env ([As D [(x0,.int (j:Int) x)]]++G j σ) (λy:Y j x σ=>w j x σ y) (λy=>[As D [(x0,.int (j:Int) x)]]++G (j+1) (nxt j x σ y)))
 (Mn: ∀j x σ y,out (j+1) (nxt j x σ y)=out j σ++(w j x σ y).toList) (hlen: ∀j σ,(out j σ).length<=1000) (σ:S 0) (h0:out 0 σ=[]) (XU:n≠0):
 Bv B.C A (.compStart (.ListComp elt [⟨.Name x0 p0,iter,ifs,0⟩] sc pos) 0 (J a) (J acc) env) ([As D [],AE acc [],Fj a ((0:Nat):Int) (n:Int) 1]++G 0 σ) (λYa:S n×Nat×Nat=>.ok .next) (λy=>[As D [(x0,.int (y.2.1:Int) y.2.2)],AE acc (out n y.1)]++G n y.1):=by
 have hL:AA 6 (A.under (EF elt (.Name x0 p0) iter ifs sc pos (J a) acc env)):=U.loop;refine AC.weaken (KD (n:=n) (V:=λYa=>Nat) (v:=λj k=>.int (j:Int) k) (It:=λj=>[Fj a (j:Int) ((n-j:Nat):Int) 1]) (Src:=[]) (nm:=x0) (dv:=As D) (S:=S) (G:=G) (out:=out) O U.l (Y:=Y) (nxt:=nxt) (w:=w)
  (by have e:=Z6 O (A:=A.under (.compStart (.ListComp elt [⟨.Name x0 p0,iter,ifs,0⟩] sc pos) 0 (J a) (J acc) env)) U.l.loop a ((0:Nat):Int) ((n-0:Nat):Int) 1
      exact e)
  (λj hj=>by
   have e:=UA O hL.l a j (n-j-1);rw[show n-j-1+1=n-j from by lia,show n-j-1=n-(j+1) from by lia] at e;exact e)
  (by have e:=Xo O hL.l a n 1
      rw[show(n-n:Nat)=0 from Qc n];exact e)
  (λj x=>IV)
  (λj x l hl=>Gj _ hL j x l (hl.imp id λ⟨i,y,e⟩=>⟨i,y,e⟩))
  (λj hj x σ=>(FO _ hL j hj x σ).mid) Mn hlen σ h0 XU) λy=>⟨(y.1,y.2.1,y.2.2),rfl,λR s S=>S⟩
theorem bU(O:B.C.Ok)(U:AA 7 A){xs:Ak}{K:Value->Prop}(hK: ∀v∈xs,K v){Y: ∀j,Unit->S j->Type}{nxt: ∀j x σ,Y j x σ->S (j+1)}{w: ∀j x σ,Y j x σ->DP}
 (Gj: ∀A',AA 6 A'-> ∀v,K v-> ∀l,(l=[]∨ ∃u,K u/\l=[(x0,u)])->AC B.C A' (Bo (.Name x0 p0) env v) [As D l] (λYa:Unit=>()) (λYa=>[As D [(x0,v)]]))
 (FO: ∀A',AA 6 A'-> ∀j v,xs[j]? =some v-> ∀(σ:S j),Ep B.C A' ifs elt env ([As D [(x0,v)],AE c xs]++G j σ) (λy:Y j () σ=>w j () σ y) (λy=>[As D [(x0,v)],AE c xs]++G (j+1) (nxt j () σ y)))
 (Mn: ∀j x σ y,out (j+1) (nxt j x σ y)=out j σ++(w j x σ y).toList) (hlen: ∀j σ,(out j σ).length<=1000) (σ:S 0) (h0:out 0 σ=[]) (hx:xs≠[]):
 Bv B.C A (.compStart (.ListComp elt [⟨.Name x0 p0,iter,ifs,0⟩] sc pos) 0 (J a) (J acc) env) ([As D [],AE acc [],BQ a c 0,AE c xs]++G 0 σ) (λYa:S xs.length×{u:Value//K u}=>.ok .next) (λy=>[As D [(x0,y.2.1)],AE acc (out xs.length y.1),AE c xs]++G xs.length y.1):=by
 have hL:AA 6 (A.under (EF elt (.Name x0 p0) iter ifs sc pos (J a) acc env)):=U.loop;obtain⟨x,r,rfl⟩: ∃x r,xs=x::r:=by cases xs with|nil=>exact absurd rfl hx|cons x r=>exact⟨x,r,rfl⟩
 have hg: ∀j,j<(x::r).length->(x::r)[j]? =some ((x::r).getD j x):=λj hj=>by rw[Ad,AJ hj];rfl
 have dH: ∀j,K ((x::r).getD j x):=λj=>by
  by_cases hj:j<(x::r).length
  ·exact hK _ (B4 (hg j hj))
  ·rw[Ad,B7 ADp];exact hK _ (.head _)
 refine AC.pre (F:=[As D [],AE acc []]++([BQ a c 0,AE c (x::r)]++G 0 σ)) (AC.weaken (res:=λYa:S (x::r).length×(Σ _:Nat,Unit)=>.ok .next) (led:=λy=>[As D [(x0,(x::r).getD y.2.1 x)],AE acc (out (x::r).length y.1)]++([AE c (x::r)]++G (x::r).length y.1)) ?_ λy=>⟨(y.1,⟨_,dH y.2.1⟩),rfl,λR s S=>S⟩) λR s S=>S
 have:=KD (n:=(x::r).length) (V:=λYa=>Unit) (v:=λj _=>(x::r).getD j x) (It:=λj=>[BQ a c j,AE c (x::r)]) (Src:=[AE c (x::r)]) (nm:=x0) (dv:=As D) (S:=S) (G:=G) (out:=out) (elt:=elt) (Dy:=.Name x0 p0) (iter:=iter) (ifs:=ifs) (sc:=sc) (pos:=pos) (it:=J a) (env:=env) (acc:=acc) O U.l (Y:=Y) (nxt:=nxt) (w:=w)
  (by have e:=NP O (A:=A.under (.compStart (.ListComp elt [⟨.Name x0 p0,iter,ifs,0⟩] sc pos) 0 (J a) (J acc) env)) U.l.loop a c 0
      exact e.frame [AE c (x::r)])
  (λj hj=>by
   have e:=QI O hL.l a c j (x::r) _ (hg j hj);exact e)
  (by have e:=OA O hL.l a c (x::r).length (x::r) (Am _)
      exact e)
  (λj x=>IV)
  (λj x l hl=>Gj _ hL _ (dH j) l (hl.imp id λ⟨i,y,e⟩=>⟨_,dH i,e⟩))
  (λj hj x σ=>(FO _ hL j _ (hg j hj) σ).tZ (I:=[BQ a c (j+1)])) Mn hlen σ h0 ADt
 exact this
end
noncomputable def Hp{α:Type}(f:Nat->List α)(j:Nat):List α:=(Ah j).flatMap f
theorem FJ{α:Type}(f:Nat->List α)(j:Nat):Hp f (j+1)=Hp f j++f j:=by
 unfold Hp;rw[List.range_succ,JC];simp
theorem WN{α:Type}{f:Nat->List α}{n:Nat}(h1: ∀j,(f j).length<=1)(h2: ∀j,n<=j->f j=[]): ∀j,(Hp f j).length<=n:=by
 have: ∀j,(Hp f j).length<=min j n:=by
  intro j
  induction j with
  |zero=>simp[Hp]
  |succ j ih=>
   rw[FJ,AX]
   by_cases hj:n<=j
   ·rw[h2 j hj];simp;lia
   ·have:=h1 j;lia
 intro j;exact AK (this j) (Nat.min_le_right _ _)
def Se(C:Cx)(A:AL)(ifs:List Expr)(elt:Expr)(env:Env)(F:AN)(l:Ay):Prop:=
 (∃v:Nat,l=[v]/\AC C A (Hh ifs env) F (λYa:Unit=>true) (λYa=>F)/\AC C A (Bf elt env) F (λk:Nat=>Be (v:Int) k) (λYa=>F))∨
 (l=[]/\AC C A (Hh ifs env) F (λYa:Unit=>false) (λYa=>F))
section
variable{B:Bx}{A:AL}{elt iter:Expr}{x0:Str}{p0:Pos}{ifs:List Expr}{sc:Scope}{pos:Pos}{env:Env}{D acc a c:Nat}{G:AN}
theorem eh{a b:Aa}{l m:Ay}(h:ns a=l)(h2:ns b=m):ns (a++b)=l++m:=by rw[<-h,<-h2];unfold ns;rw[AZ]
theorem ln{A':AL}{F:AN}{l:Ay}(h:Se B.C A' ifs elt env F l):Ep B.C A' ifs elt env F (λy:UX l=>(y.ys.map iv).head?) (λYa=>F):=by
 rcases h with⟨v,rfl,hc,he⟩|⟨rfl,hc⟩
 ·refine .inl ⟨hc,λy=>((y.ys.map iv).head?).getD .none,λy=>?_,he.weaken λk=>⟨⟨[(v,k)],rfl⟩,rfl,λR s S=>S⟩⟩
  obtain⟨q,hq⟩:=y;cases q with
  |nil=>cases hq
  |cons a r=>rfl
 ·exact .inr ⟨hc,⟨[],rfl⟩,rfl,rfl⟩
theorem eY{l:Ay}(y:UX l){n:Nat}(h:l.length<=n):y.ys.length<=n:=by rw[<-y.ok] at h;unfold ns at h;rwa [AD] at h
theorem mP{l:Ay}(h1:l.length<=1)(y:UX l):y.ys.map iv=((y.ys.map iv).head?).toList:=by
 obtain⟨q,hq⟩:=y;have hl:q.length<=1:=by rw[<-hq] at h1;unfold ns at h1;rwa [AD] at h1
 match q,hl with
 |[],_=>rfl
 |[a],_=>rfl
structure Qk(l:Ay) where
 ys:Aa
 ok:ns ys=l
 k:Nat
 t:Nat
theorem Wp(O:B.C.Ok)(U:AA 7 A){n:Nat}{f:Nat->Ay}(dG: ∀j,(f j).length<=1)(uu: ∀j,n<=j->f j=[])(hn:n<=1000)(XU:n≠0)
 (Gj: ∀A',AA 6 A'-> ∀(j k:Nat) l,(l=[]∨ ∃i m:Nat,l=[(x0,Be (i:Int) m)])->AC B.C A' (Bo (.Name x0 p0) env (.int (j:Int) k)) [As D l] (λYa:Unit=>()) (λYa=>[As D [(x0,.int (j:Int) k)]]))
 (FO: ∀A',AA 6 A'-> ∀j,j<n-> ∀(x:Nat),Se B.C A' ifs elt env ([As D [(x0,.int (j:Int) x)]]++G) (f j)):
 Bv B.C A (.compStart (.ListComp elt [⟨.Name x0 p0,iter,ifs,0⟩] sc pos) 0 (J a) (J acc) env) ([As D [],AE acc [],Fj a ((0:Nat):Int) (n:Int) 1]++G) (λYa:Qk (Hp f n)=>.ok .next) (λy=>[As D [(x0,.int (y.k:Int) y.t)],AF acc y.ys]++G):=by
 refine AC.weaken (Yg (S:=λj=>UX (Hp f j)) (G:=λYa Ya=>G) (out:=λYa σ=>σ.ys.map iv) (Y:=λj _ _=>UX (f j)) (nxt:=λj _ σ y=>⟨σ.ys++y.ys,?_⟩) (w:=λj _ _ y=>(y.ys.map iv).head?) O U Gj (λA' h j hj x σ=>ln (FO A' h j hj x)) (λj x σ y=>?_) (λj σ=>?_) ⟨[],rfl⟩ rfl XU) λy=>⟨⟨y.1.ys,y.1.ok,y.2.1,y.2.2⟩,rfl,λR s S=>S⟩
 ·rw[FJ];exact eh σ.ok y.ok
 ·show(σ.ys++y.ys).map iv=_
  rw[AZ];exact congrArg (σ.ys.map iv++ ·) (mP (dG j) y)
 ·rw[AD]
  exact AK (eY σ (WN dG uu j)) hn
theorem Io(O:B.C.Ok)(U:AA 7 A){xs:Aa}{f:Nat->Ay}(dG: ∀j,(f j).length<=1)(uu: ∀j,xs.length<=j->f j=[])(hn:xs.length<=1000)(hx:xs≠[])
 (Gj: ∀A',AA 6 A'-> ∀(j k:Nat) l,(l=[]∨ ∃i m:Nat,l=[(x0,Be (i:Int) m)])->AC B.C A' (Bo (.Name x0 p0) env (.int (j:Int) k)) [As D l] (λYa:Unit=>()) (λYa=>[As D [(x0,.int (j:Int) k)]]))
 (FO: ∀A',AA 6 A'-> ∀(j v k:Nat),xs[j]? =some (v,k)->Se B.C A' ifs elt env ([As D [(x0,.int (v:Int) k)],AF c xs]++G) (f j)):
 Bv B.C A (.compStart (.ListComp elt [⟨.Name x0 p0,iter,ifs,0⟩] sc pos) 0 (J a) (J acc) env) ([As D [],AE acc [],BQ a c 0,AF c xs]++G) (λYa:Qk (Hp f xs.length)=>.ok .next) (λy=>[As D [(x0,.int (y.k:Int) y.t)],AF acc y.ys,AF c xs]++G):=by
 have:=bU (elt:=elt) (iter:=iter) (x0:=x0) (p0:=p0) (ifs:=ifs) (sc:=sc) (pos:=pos) (env:=env) (D:=D) (acc:=acc) (a:=a) (c:=c) (xs:=xs.map iv) (K:=λv=> ∃i k:Nat,v=.int (i:Int) k) (S:=λj=>UX (Hp f j)) (G:=λYa Ya=>G) (out:=λYa σ=>σ.ys.map iv) (Y:=λj _ _=>UX (f j)) (nxt:=λj _ σ y=>⟨σ.ys++y.ys,by rw[FJ];exact eh σ.ok y.ok⟩) (w:=λj _ _ y=>(y.ys.map iv).head?) O U
  (λv hv=>by obtain⟨q,_,rfl⟩:=List.mem_map.mp hv;exact⟨_,_,rfl⟩)
  (λA' h v ⟨i,k,e⟩ l hl=>by subst e;exact Gj A' h i k l (hl.imp id λ⟨u,⟨i,k,e⟩,e'⟩=>⟨i,k,by subst e;exact e'⟩))
  (λA' h j v hv σ=>by
   rw[AQ] at hv;cases hj:xs[j]? with
   |none=>rw[hj] at hv;cases hv
   |some q=>rw[hj] at hv;cases hv;exact ln (FO A' h j q.1 q.2 hj))
  (λj x σ y=>by
   show(σ.ys++y.ys).map iv=_
   rw[AZ];exact congrArg (σ.ys.map iv++ ·) (mP (dG j) y))
  (λj σ=>by
   rw[AD];exact AK (eY σ (WN dG uu j)) hn) ⟨[],rfl⟩ rfl (by simpa using hx)
 rw[AD] at this;refine AC.weaken this λy=>?_;obtain⟨y1,u,i,k,e⟩:=y;subst e;exact⟨⟨y1.ys,y1.ok,i,k⟩,rfl,λR s S=>S⟩
end
noncomputable abbrev AW(a:Nat)(v:Value):Bi:=.one (a+323) (.ex ⟨.type "cell",none,.cell (some v),⟨[]⟩⟩)
abbrev DL:Expr->Expr:=o4
noncomputable abbrev C9(e:Expr):Expr:=el e 3
noncomputable abbrev Cp(e:Expr):Expr:=el e 1
noncomputable abbrev Hf(e:Expr):Expr:=el e 2
noncomputable def qb(e:Expr):Scope:={Gh e with names:=(Gh e).names.map λn=>(n.1,match n.2 with|.free=>.cell|k=>k)}
section
variable(B:Bx)(A:AL)(O:B.C.Ok)
theorem vR(xs:Aa)(v:Nat):(xs.map iv).take v=(xs.take v).map iv:=by rw[F3]
theorem Zp(xs:Aa)(v:Nat):(xs.map iv).drop v=(xs.drop v).map iv:=by rw[Dk]
def Sz(U:AA 3 A)(x sl u' v:Nat)(xs:Aa)(hx:xs.length<=1000):Ag B.C A:=
 (VV B A O U x sl u' v (xs.map iv) (by rw[AD];exact hx)).re (λa:Nat=>.ok (.ret (J a))) (λa=>[AF a (xs.take v),AF x xs,F8 sl .none (.int (v:Int) u')]) (λa=>a) (λYa=>rfl) (λa=>by show [AE a ((xs.map iv).take v),_,_]=_;rw[vR])
def JI(U:AA 3 A)(x sl u t:Nat)(xs:Aa)(hx:xs.length<=1000):Ag B.C A:=
 (ND B A O U x sl u t (xs.map iv) (by rw[AD];exact hx)).re (λa:Nat=>.ok (.ret (J a))) (λa=>[AF a (xs.drop u),AF x xs,F8 sl (.int (u:Int) t) .none]) (λa=>a) (λYa=>rfl) (λa=>by show [AE a ((xs.map iv).drop u),_,_]=_;rw[Zp])
def Ci(U:AA 3 A)(x i t v k:Nat)(xs:Aa)(hx:xs[i]? =some (v,k))(hs:xs.length<=1000):Ag B.C A:=
 (BZ O U x i t (xs.map iv) (.int (v:Int) k) (by rw[AQ,hx];rfl) (by rw[AD];exact hs)).re (λYa:Unit=>.ok (.ret (.int (v:Int) k))) (λYa=>[AF x xs]) (λa=>a) (λYa=>rfl) (λYa=>rfl)
def gQ(U:AA 3 A)(x k t j:Nat)(xs:Aa)(h:k∈ns (xs.take j)):Ag B.C A:=Pt B A U x k t (xs.take j) h
end
def MO:Expr:=vE (sN 25 0)
def lkQ:Str:=Bl [95,108,97,119,95,108,97,99,107,115,46,60,108,111,99,97,108,115,62,46]
abbrev I6(c1 c2 L D:Nat):Env:=FM (qb MO) lkQ 297 [(Dr,c2+323),(Ca,c1+323)] L D
include O
theorem nK(U:AA 6 A)(c1 c2 L D j k:Nat):
 AS B A (Bo (Cp MO) (I6 c1 c2 L D) (.int (j:Int) k)) [As D []] () [As D [(BA,.int (j:Int) k)]]:=
 Ef O U (.fr λk0=>.g 6145<|.fi () [0])
theorem nL(U:AA 6 A)(c1 c2 L D j k i m:Nat):
 AS B A (Bo (Cp MO) (I6 c1 c2 L D) (.int (j:Int) k)) [As D [(BA,.int (i:Int) m)]] () [As D [(BA,.int (j:Int) k)]]:=
 Ef O U (.fr λk0=>.g 6145<|.fi () [0])
theorem rg(U:AA 6 A)(c1 c2 L D x y j k v t:Nat)(xs ys:Aa)(hx:xs[j]? =some (v,t))(hl:xs.length<=1000):
 AS B A (Bf (DL MO) (I6 c1 c2 L D)) [As D [(BA,.int (j:Int) k)],AW c1 (J x),AW c2 (J y),AF x xs,AF y ys] (Be (v:Int) t) [As D [(BA,.int (j:Int) k)],AW c1 (J x),AW c2 (J y),AF x xs,AF y ys]:=Jk O U (.g 1141915714<|.cc (Ci _ _ O U.l x j k v t xs hx hl) [3] λYa=>.fi () [1,1,1,0,0])
theorem vc(U:AA 6 A)(c1 c2 L D x y j k v t:Nat)(xs ys:Aa)(hx:xs[j]? =some (v,t))(hl:xs.length<=1000)(h1:v∈ns ys):
 AS B A (isTrue (C9 MO) (I6 c1 c2 L D) (Bf (C9 MO) (I6 c1 c2 L D))) [As D [(BA,.int (j:Int) k)],AW c1 (J x),AW c2 (J y),AF x xs,AF y ys] false [As D [(BA,.int (j:Int) k)],AW c1 (J x),AW c2 (J y),AF x xs,AF y ys]:=Xl O U (.g 1141915714<|.cc (Ci _ _ O U.l x j k v t xs hx hl) [3] λYa=>.g 282948<|.cc (Pt _ _ U.l y v t ys h1) [4] λYa=>.fi () [2,2,2,1,0])
theorem vd(U:AA 6 A)(c1 c2 L D x y j k v t:Nat)(xs ys:Aa)(hx:xs[j]? =some (v,t))(hl:xs.length<=1000)(h1:v∉ns ys)(h2:v∈ns (xs.take j)):
 AS B A (isTrue (C9 MO) (I6 c1 c2 L D) (Bf (C9 MO) (I6 c1 c2 L D))) [As D [(BA,.int (j:Int) k)],AW c1 (J x),AW c2 (J y),AF x xs,AF y ys] false [As D [(BA,.int (j:Int) k)],AW c1 (J x),AW c2 (J y),AF x xs,AF y ys]:=Xl O U (.g 1141915714<|.cc (Ci _ _ O U.l x j k v t xs hx hl) [3] λYa=>.g 282948<|.cc (NE _ _ U.l y v t ys h1) [4] λYa=>.g 1107828932<|.cc (Ci _ _ O U.l x j k v t xs hx hl) [1] λYa=>.g 4292<|.al λa3=>.g 270466<|.cc (Sz _ _ O U.l x a3 k j xs hl) [1,0] λy4=>.g 4161<|.cc (gQ _ _ U.l y4 v t j xs h2) [0] λYa=>.fi () [4,4,4,1,2])
theorem zu(U:AA 6 A)(c1 c2 L D x y j k v t:Nat)(xs ys:Aa)(hx:xs[j]? =some (v,t))(hl:xs.length<=1000)(h1:v∉ns ys)(h2:v∉ns (xs.take j)):
 AS B A (isTrue (C9 MO) (I6 c1 c2 L D) (Bf (C9 MO) (I6 c1 c2 L D))) [As D [(BA,.int (j:Int) k)],AW c1 (J x),AW c2 (J y),AF x xs,AF y ys] true [As D [(BA,.int (j:Int) k)],AW c1 (J x),AW c2 (J y),AF x xs,AF y ys]:=Xl O U (.g 1141915714<|.cc (Ci _ _ O U.l x j k v t xs hx hl) [3] λYa=>.g 282948<|.cc (NE _ _ U.l y v t ys h1) [4] λYa=>.g 1107828932<|.cc (Ci _ _ O U.l x j k v t xs hx hl) [1] λYa=>.g 4292<|.al λa3=>.g 270466<|.cc (Sz _ _ O U.l x a3 k j xs hl) [1,0] λy4=>.g 4161<|.cc (NE _ _ U.l y4 v t (LV j xs) h2) [0] λYa=>.fi () [4,4,4,1,2])
noncomputable def JB(one Nn:Ay)(j:Nat):Ay:=match one[j]? with
 |none=>[]
 |some v=>if v∈Nn∨v∈one.take j then [] else [v]
def D3(one Nn:Ay):Ay:=Hp (JB one Nn) one.length
theorem nN(U:AA 6 A){c1 c2 L D x y j k:Nat}{xs ys:Aa}(hl:xs.length<=1000)(hj:j<xs.length):
 Se B.C A [C9 MO] (DL MO) (I6 c1 c2 L D) ([As D [(BA,.int (j:Int) k)]]++[AW c1 (J x),AW c2 (J y),AF x xs,AF y ys]) (JB (ns xs) (ns ys) j):=by
 have hx:xs[j]? =some (xs[j].1,xs[j].2):=AJ hj;have e:JB (ns xs) (ns ys) j=if xs[j].1∈ns ys∨xs[j].1∈(ns xs).take j then [] else [xs[j].1]:=by
  unfold JB;rw[show(ns xs)[j]? =some xs[j].1 from by unfold ns;rw[AQ,hx];rfl]
 have et:(ns xs).take j=ns (xs.take j):=by unfold ns;rw[F3]
 rw[et] at e
 by_cases h1:xs[j].1∈ns ys
 ·have h:=vc O U c1 c2 L D x y j k _ _ xs ys hx hl h1
  exact .inr ⟨by rw[e,if_pos (.inl h1)],Jd h⟩
 ·by_cases h2:xs[j].1∈ns (xs.take j)
  ·have h:=vd O U c1 c2 L D x y j k _ _ xs ys hx hl h1 h2
   exact .inr ⟨by rw[e,if_pos (.inr h2)],Jd h⟩
  ·have h:=zu O U c1 c2 L D x y j k _ _ xs ys hx hl h1 h2
   exact .inl ⟨xs[j].1,by rw[e,if_neg (by rintro(h|h);exact h1 h;exact h2 h)],Jd h,(rg O U c1 c2 L D x y j k _ _ xs ys hx hl).weaken λk=>⟨xs[j].2,rfl,λR s S=>S⟩⟩
def W0(U:AA 7 A)(L D c1 c2 a acc x y:Nat)(xs ys:Aa)(hl:xs.length<=1000)(Qy:xs.length≠0):Ag B.C A where
 c:=.compStart MO 0 (J a) (J acc) (I6 c1 c2 L D)
 F:=[As D [],AE acc [],Fj a ((0:Nat):Int) (xs.length:Int) 1,AW c1 (J x),AW c2 (J y),AF x xs,AF y ys]
 X:=Qk (D3 (ns xs) (ns ys))
 res:=λYa=>.ok .next
 led:=λq=>[As D [(BA,.int (q.k:Int) q.t)],AF acc q.ys,AW c1 (J x),AW c2 (J y),AF x xs,AF y ys]
 ok:=by
  have hlen:(ns xs).length=xs.length:=AD _;have h:=Wp (B:=B) (A:=A) (elt:=DL MO) (ifs:=[C9 MO]) (iter:=Hf MO) (x0:=BA) (p0:=(Cp MO).pos) (sc:=Gh MO) (pos:=MO.pos) (env:=I6 c1 c2 L D) (D:=D) (acc:=acc) (a:=a) (G:=[AW c1 (J x),AW c2 (J y),AF x xs,AF y ys]) (n:=xs.length) (f:=JB (ns xs) (ns ys)) O U
   (λj=>by unfold JB;split<;>(try split)<;>simp) (λj hj=>by unfold JB;rw[B7 (AK (Ge hlen) hj)]) hl Qy
   (λA' h j k l hl=>by
    rcases hl with rfl|⟨i,m,rfl⟩
    ·exact nK O h c1 c2 L D j k
    ·exact nL O h c1 c2 L D j k i m)
   (λA' h j hj x=>nN O h hl hj)
  unfold D3;rw[hlen];exact h
theorem YD(U:AA 1 A)(x y:Nat):
 AS B A (Pl B 298 [J x,J y]) [] (([(Ca,J x),(Dr,J y)]:BC)) []:=
 rn O U (.fi () [])
theorem XI(U:AA 1 A)(x y:Nat):
 AC B.C A (OP B 298 [(Ca,J x),(Dr,J y)]) []
  (λq:Nat×Nat×Nat=>AR B.P 298 [(Dr,q.2.2+323),(Ca,q.2.1+323)] (q.1+323))
  (λq=>[AI q.1 [],AW (q.2.1) (J x),AW (q.2.2) (J y)]):=
 rn O U (.al λa0=>.al λa1=>.al λa2=>.g 25172034<|.fi (a0,a1,a2) [2,1,0])
theorem YH(U:AA 20 A)(L c1 c2 x y:Nat)(xs ys:Aa)(hl:xs.length<=1000)(Qy:xs.length≠0):
 AC B.C A (Ac (A4 B.P 298) (AR B.P 298 [(Dr,c2+323),(Ca,c1+323)] (L+323))) [AI L [],AW c1 (J x),AW c2 (J y),AF x xs,AF y ys]
  (λq:Gk (D3 (ns xs) (ns ys))=>B6 (J q.a))
  (λq=>[AF q.a q.ys,AF x xs,AF y ys]):=by
 obtain⟨_,_|_⟩:=B<;>exact D7 O U (.g 1107296256<|.cc (JP _ _ O U.l x xs hl) [3] λy0=>.cc (KE O U.l xs.length y0) [] λ(y1:Nat×Nat×Nat)=>.g 4161<|.cc (NH O U.l y1.fst xs.length y1.snd.fst y0 y1.snd.snd hl) [0] λy2=>.g 65<|.al λa3=>.al λa4=>.cc (W0 O U.l L a4 c1 c2 y2 a3 x y xs ys hl Qy) [0,0,0,3,3,1,2] λ(y5:Qk (D3 (ns xs) (ns ys)))=>.g 393281<|.fi (⟨a3,y5.ys,y5.ok⟩) [1,3,3])
def S_(U:AA 22 A)(x y:Nat)(xs ys:Aa)(hl:xs.length<=1000)(Qy:xs.length≠0):Ag B.C A where
 c:=.call (.ref 298) ⟨[J x,J y],[]⟩
 F:=[AF x xs,AF y ys]
 X:=Gk (D3 (ns xs) (ns ys))
 res:=λq=>.ok (.ret (J q.a))
 led:=λq=>[AF q.a q.ys,AF x xs,AF y ys]
 ok:=Dm O (n:=21) U ADq ((YD O U.l.in1 x y).frame _) (λR s S=>(XI O U.l.in1 x y).frame [AF x xs,AF y ys] R s S)
  (λq=>BK (fl:=λq:Gk (D3 (ns xs) (ns ys))=>.ret (J q.a)) (YH O (AA.deeper U.l) q.1 q.2.1 q.2.2 x y xs ys hl Qy))
structure Sd where
 a:Value
 b:Value
 c:Value
 d:Value
 e:Value
 f:Value
abbrev DD(e t:Nat)(tb cx:Value):Bi:=.one (e+323) (.ex ⟨.type "IndexError",none,.fields ⟨[J t,tb,cx,.none,.bool false,.none]⟩,⟨[]⟩⟩)
abbrev MW(b L:Nat)(fl:Value)(p:Sd):Bi:=.one (b+323) (.ex ⟨.type "traceback",none,.fields ⟨[.none,J L,.none,fl,.none,p.a,p.b,p.c,p.d,p.e,p.f]⟩,⟨[]⟩⟩)
def Sb(F:AN)(es:List Env):Prop:= ∀e∈es,e.scope.kind≠.module/\ ∃f cls al,e.frame=some f/\Bi.one f (.ns cls al)∈F
omit O
theorem Zw(g:G)(x:Array DP): ∀(i:Nat) (al:BC),Ot {g with sl:=x} i al=Ot g i al
 |_,[]=>rfl
 |i,(n,v)::r=>by rw[Ot,Ot,Zw g x (i+1) r]
theorem St.slots{C:Cx}{L:AN}{s:Af}(S:St C L s){f:Addr}{cls:Value}{al:BC}(hm:Bi.one f (.ns cls al)∈L)(fo:Obj->Obj)(zE: ∀o,fo o={o with slots:=(fo o).slots}):
 St C L {s with heap:=s.heap.update f fo}:=by
 obtain⟨pre,post,rfl⟩:=List.append_of_mem hm;have S1:St C (.one f (.ns cls al)::(pre++post)) s:=S.perm BH;obtain⟨g,hg⟩:=S1.Dj;have hf:(fo ((AO.ns cls al).obj g)).isFreed=false:=by rw[zE];rfl
 exact(St.Np (ao':=.ns cls al) (t:=s.toks) S1 (B1 s.heap f fo) (CO _ hg hf) ⟨{g with sl:=(fo ((AO.ns cls al).obj g)).slots},(zE _).trans (by simp only[AO.obj,Zw])⟩).perm List.perm_middle.symm
theorem V6{C:Cx}{A:AL}{F:AN}{R:AN}: ∀(es:List Env),Sb F es-> ∀s,St C (F++R) s->BN C.M A (Ry es) (λYa s'=>St C (F++R) s') (λYa Ya=>False) s
 |[],_,s,S=>AP S
 |e::outer,h,s,S=>by
  obtain⟨hk,f,cls,al,hf,hm⟩:=h e (.head _);obtain⟨g,hg⟩:=S.c8 (Ar R hm) (p:=(f,.ns cls al)) (.head _);simp only[Ry,hf];refine AB (wpAny_load hg ?_)
  by_cases hr:(((AO.ns cls al).obj g).slots.getD 3 none).isSome=true
  ·rw[if_pos hr];exact AP S
  ·refine iN hr ?_
   refine AB (GR (a:=false) (by simp[behindIsImport,hk]) ?_)
   refine AB (wpAny_keptBack_false λv=>?_);refine AB (wpAny_update hg ?_);exact V6 outer (λe he=>h e (.tail _ he)) _ (S.slots (Ar R hm) _ λo=>rfl)
theorem d4{C:Cx}{A:AL}{F:AN}(es:List Env)(h:Sb F es):AC C A (Ry es) F (λYa:Unit=>()) (λYa=>F):=λR s S=>
 Av (V6 es h s S) (λYa Ya q=>⟨(),rfl,q⟩) λYa Ya q=>q
theorem r9{pl:Ak}(h:IsPlace pl): ∃p:Sd,(if pl.isEmpty then DE 6 CU else pl)=[p.a,p.b,p.c,p.d,p.e,p.f]:=by
 rcases h with rfl|⟨a,b,c,d,c9,b10,_,rfl⟩
 ·exact⟨⟨.none,.none,.none,.none,.none,.none⟩,rfl⟩
 ·exact⟨⟨_,_,_,_,_,_⟩,rfl⟩
theorem GY{C:Cx}(O:C.Ok){A:AL}{env:Env}{outer:List Env}{F:AN}{L e t:Nat}{cx:Value}(Hl:A.frames=some (env::outer))(hf:env.frame=some (L+323))(hF:Sb F (env::outer)):
 AC C A (E0 (J e) env) (DD e t .none cx::F) (λYa:Nat×Sd=>()) (λq=>DD e t (J q.1) cx::MW q.1 L (CL (L+323:Nat)) q.2::F):=λR s S=>by
 refine Av (Q:=λYa s'=> ∃q:Nat×Sd,St C ((DD e t (J q.1) cx::MW q.1 L (CL (L+323:Nat)) q.2::F)++R) s') (E:=λYa Ya=>False) ?_ (λYa Ya ⟨q,S⟩=>⟨q,rfl,S⟩) λYa Ya q=>q;unfold E0;simp only[hf];refine AB (B9 (DV S) rfl (x:=.none) rfl ?_);refine iN ADs ?_
 unfold PySem.frameOf;refine AB (AB (wpAny_frameEnvs Hl ?_));rw[show((env::outer).dropWhile λx=>x.frame != env.frame)=env::outer from by simp[List.dropWhile]]
 unfold frameObject;have S0:St C (F++(DD e t .none cx::R)) s:=S.perm (show(DD e t .none cx::(F++R)).Perm _ from List.perm_middle.symm);refine AB (AB (AC.wp (d4 (env::outer) hF) S0 λYa s₁ S₁=>?_));refine AP ?_;rw[hf];refine AP ?_;refine AB (wpAny_entryPlaceOf λpl zU=>?_);obtain⟨p,hp⟩:=r9 zU;have S2:St C (DD e t .none cx::(F++R)) s₁:=S₁.perm BH;unfold EntryCells.newEntry newFields;refine AB (DS ?_ (zU.sizeOk5 _ _ _ _ _));have he:=S2.size_eq O;have S4:=(S2.alloc (o:={cls:=.type "traceback",dict:=none,data:=.fields ([CU,J L,.none,CL (L+323:Nat),.none]++(if pl.isEmpty then DE 6 CU else pl)).toArray}) (ao:=.ex ⟨.type "traceback",none,.fields ⟨[.none,J L,.none,CL (L+323:Nat),.none,p.a,p.b,p.c,p.d,p.e,p.f]⟩,⟨[]⟩⟩) rfl ⟨G0,by rw[hp];rfl⟩).swap
 refine FU (DV S4) rfl (by show 1<6;decide) ?_
 refine⟨(s₁.heap.objs.size-323,p),?_⟩;show St C (DD e t (.ref (s₁.heap.objs.size-323+323)) cx::.one (s₁.heap.objs.size-323+323) _::(F++R)) _;rw[<-he];exact S4.UI (f:=λvs=>vs.setIfInBounds 1 (.ref s₁.heap.objs.size)) (ws:=[J t,.ref s₁.heap.objs.size,cx,.none,.bool false,.none]) rfl
theorem GZ{C:Cx}{A:AL}{env:Env}{L e t b:Nat}{cx:Value}{p:Sd}(hf:env.frame=some (L+323)):
 AC C A (E0 (J e) env) [DD e t (J b) cx,MW b L (CL (L+323:Nat)) p] (λYa:Unit=>()) (λYa=>[DD e t (J b) cx,MW b L (CL (L+323:Nat)) p]):=λR s S=>
 wpAny_noteFrame_inFlight hf (DV S) rfl rfl (DV S.swap) rfl rfl ⟨(),rfl,S⟩
theorem GH{C:Cx}{A:AL}{L e t b:Nat}{cx fl:Value}{p:Sd}(fr:Option Addr):
 AC C A (setFlight (J e) fr) [DD e t (J b) cx,MW b L fl p] (λYa:Unit=>()) (λYa=>[DD e t (J b) cx,MW b L (fr.elim .none λf=>CL f) p]):=λR s S=>by
 unfold setFlight;refine AB (B9 (DV S) rfl (x:=J b) rfl ?_);refine iT (show(J b != CU)=true from by simp) ?_
 refine FU (DV S.swap) rfl (by show 3<11;decide) ⟨(),rfl,?_⟩
 exact(S.swap.UI (f:=λvs=>vs.setIfInBounds 3 (fr.elim .none λf=>CL f)) (ws:=[.none,J L,.none,fr.elim .none λf=>CL f,.none,p.a,p.b,p.c,p.d,p.e,p.f]) rfl).swap
theorem Bj.under{n:Nat}{A:AL}{c:Code}(h:Bj (n+1) A)(hw:autoParam (c.weight<=1) kw)(hu:autoParam (c.cUnits<=12) kw):Bj n (A.under c):=by
 refine⟨?_,?_⟩
 ·have:=h.1
  show A.depth+c.weight+n<_
  lia
 ·have:=h.2
  show A.units+c.cUnits+_<_
  lia
theorem Bj.mark{n:Nat}{A:AL}(h:Bj n A)(x:DP):Bj n (A.mark x):=h
include O
theorem Kl(U:Bj 1 A)(x:Nat)(v:Value)(xs:Ak):
 AS B A (AU "list.__getitem__" ⟨[J x,v],[]⟩) [AE x xs] () [AE x xs]:=
 by apply Z8 O (.g 65<|.fi () [0])
theorem kY(U:Bj 1 A)(x sl:Nat)(xs:Ak)(u v:Value):
 AS B A (AU "list.__getitem__" ⟨[J x,J sl],[]⟩) [AE x xs,F8 sl u v] () [AE x xs,F8 sl u v]:=
 by apply Z8 O (.g 65<|.fi () [0,0])
theorem Wj(U:Bj 1 A)(x y:Nat)(xs ys:Ak):
 AS B A (AU "list.extend" ⟨[J x,J y],[]⟩) [AE x xs,AE y ys] () [AE x xs,AE y ys]:=
 by apply Z8 O (.g 65<|.fi () [0,0])
theorem fx(U:Bj 1 A)(i j:Int)(t u:Nat):
 AS B A (AU "int.__eq__" ⟨[.int i t,.int j u],[]⟩) [] () []:=
 by apply Z8 O (.fi () [])
theorem gz(U:Bj 1 A)(i j:Int)(t u:Nat):
 AS B A (BM (.builtin "int.__eq__" ⟨[.int i t,.int j u],[]⟩)) [] (.done (.ret (.bool (i==j)))) []:=
 Mu O (.fi () [])
noncomputable def VX(U:Bj 2 A)(i j:Int)(t u:Nat):Ag B.C A where
 c:=.call (.builtin "int.__eq__") ⟨[.int i t,.int j u],[]⟩
 F:=[]
 X:=Unit
 res:=λYa=>.ok (.ret (.bool (i==j)))
 led:=λYa=>[]
 ok:=HA ADr (fx O U.in1 i j t u) (gz O U.in1 i j t u)
theorem bO(U:Bj 1 A)(i j:Int)(t u:Nat):
 AS B A (AU "int.__add__" ⟨[.int i t,.int j u],[]⟩) [] () []:=
 by apply Z8 O (.fi () [])
theorem cZ(U:Bj 1 A)(i j:Int)(t u:Nat):
 AC B.C A (BM (.builtin "int.__add__" ⟨[.int i t,.int j u],[]⟩)) []
  (λk:Nat=>.done (.ret (.int (i+j) k)))
  (λk=>[]):=
 Mu O (.fr λk0=>.fi (k0) [])
noncomputable def bh(U:Bj 2 A)(i j:Int)(t u:Nat):Ag B.C A where
 c:=.call (.builtin "int.__add__") ⟨[.int i t,.int j u],[]⟩
 F:=[]
 X:=Nat
 res:=λk=>.ok (.ret (.int (i+j) k))
 led:=λk=>[]
 ok:=HA ADr (bO O U.in1 i j t u) (cZ O U.in1 i j t u)
omit O
section
variable(B:Bx)(A:AL)(O:B.C.Ok)
def GB(U:Bj 3 A)(x i t v k:Nat)(xs:Aa)(hx:xs[i]? =some (v,k))(hs:xs.length<=1000):Ag B.C A where
 c:=.call (.builtin "list.__getitem__") ⟨[J x,.int (i:Int) t],[]⟩
 F:=[AF x xs]
 X:=Unit
 res:=λYa=>.ok (.ret (.int (v:Int) k))
 led:=λYa=>[AF x xs]
 ok:=BF ADr Dq (Kl O U.l.in1 x _ _)
  (@Kk B.C A.in1 (x+323) (.type "list") none (xs.map iv) (i:Int) t _ (HH i) (nZ (xs:=xs.map iv) (v:=.int (v:Int) k) (by rw[AQ,hx];rfl) (by rw[AD];exact hs)) (by rw[Dt,AQ,hx];rfl))
def MC(U:Bj 2 A)(i j:Int)(t u:Nat)(h:i=j):Ag B.C A:=(VX O U i j t u).re (λYa:Unit=>.ok (.ret (.bool true))) (λYa=>[]) (λYa=>()) (λYa=>by subst h;show(Cs (B6 (.bool (i==i))):Result)=_;simp) (λYa=>rfl)
def MB(U:Bj 2 A)(i j:Int)(t u:Nat)(h:i≠j):Ag B.C A:=(VX O U i j t u).re (λYa:Unit=>.ok (.ret (.bool false))) (λYa=>[]) (λYa=>()) (λYa=>by show(Cs (B6 (.bool (i==j))):Result)=_;rw[beq_eq_false_iff_ne.mpr h]) (λYa=>rfl)
def Ip(U:Bj 2 A)(a t u:Nat):Ag B.C A:=(bh O U (a:Int) 1 t u).re (λk:Nat=>.ok (.ret (.int ((a+1:Nat):Int) k))) (λYa=>[]) (λk=>k) (λk=>rfl) (λYa=>rfl)
def GU(U:Bj 3 A)(x sl u t:Nat)(xs:Aa)(hx:xs.length<=1000):Ag B.C A where
 c:=.call (.builtin "list.__getitem__") ⟨[J x,J sl],[]⟩
 F:=[AF x xs,F8 sl (.int (u:Int) t) .none]
 X:=Nat
 res:=λa=>.ok (.ret (J a))
 led:=λa=>[AF a (xs.drop u),AF x xs,F8 sl (.int (u:Int) t) .none]
 ok:=by
  have:=BF (C:=B.C) ADr Dq (kY O U.l.in1 x sl (xs.map iv) (.int (u:Int) t) .none) (Ja O (.int _ _) .none (xs:=xs.map iv) (ys:=(xs.drop u).map iv) (by rw[AD];exact hx) (by rw[slicePick_from',<-Zp]))
  exact this
def GS(U:Bj 3 A)(x y:Nat)(xs ys:Aa)(hx:xs.length<=1000)(hy:ys.length<=1000):Ag B.C A where
 c:=.call (.builtin "list.extend") ⟨[J x,J y],[]⟩
 F:=[AF x xs,AF y ys]
 X:=Unit
 res:=λYa=>.ok (.ret .none)
 led:=λYa=>[AF x (xs++ys),AF y ys]
 ok:=by
  have:=BF (C:=B.C) ADr ZN (Wj O U.l.in1 x y (xs.map iv) (ys.map iv)) (Mo (C:=B.C) (A:=A.in1) (res:=.none) (.inl rfl) (xs:=xs.map iv) (ys:=ys.map iv) (by rw[AD];exact hx) (by rw[AD];exact hy))
  rw[show(xs.map iv++ys.map iv)=(xs++ys).map iv from(AZ ..).symm] at this;exact this
end
include O
theorem nw(U:Bj 1 A)(m:Str)(t:Nat):
 AC B.C A (newExc (.type "IndexError") [.str m t]) []
  (λp:Nat×Nat=>J p.1)
  (λp=>[DD p.1 p.2 .none .none]):=
 Mu O (.al λa0=>.al λa1=>.fi (a1,a0) [0])
theorem XE(U:Bj 1 A)(a h th:Nat)(tb:Value):
 AS B A (BM (.builtin "proto.unchain" ⟨[J a,J h,J h,.bool false],[]⟩)) [DD h th tb .none] (.done (.ret (.none))) [DD h th tb .none]:=
 Mu O (.g 65<|.fi () [0])
def W_(U:Bj 2 A)(a h th:Nat)(tb:Value):Ag B.C A where
 c:=.builtin "proto.unchain" ⟨[J a,J h,J h,.bool false],[]⟩
 F:=[DD h th tb .none]
 X:=Unit
 res:=λYa=>.ok (.ret (.none))
 led:=λYa=>[DD h th tb .none]
 ok:=F9 ADr (XE O U.in1 a h th tb)
omit O
section
variable{C:Cx}{A:AL}{F:AN}
theorem oy{c:Code}{X:Type}{val:X->Value}{led:X->AN}(h:Bv C A c F (λx=>.ok (.ret (val x))) led):AC C A (runValue c) F val led:=λR s S Γ p hΓ=>by
 have q:=h R s S Γ p hΓ;unfold Qm at q;rw[HY] at q;rw[I9];refine I5 (λr s' hr=>?_) q;obtain⟨x,e,S'⟩: ∃x,r=_/\_:=hr;subst e;exact⟨x,rfl,S'⟩
theorem BG.pre{α:Type}{t:Sem α}{F':AN}{X:Type}{exc:X->Value}{led:X->AN}(h:BG C A t F exc led)(p: ∀R s,St C (F'++R) s->St C (F++R) s):BG C A t F' exc led:=λR s S=>h R s (p R s S)
theorem BG.weaken{α:Type}{t:Sem α}{X:Type}{exc:X->Value}{led:X->AN}(h:BG C A t F exc led){Y:Type}{sx:Y->Value}{Cy:Y->AN}(f: ∀x,∃y,exc x=sx y/\ ∀R s,St C (led x++R) s->St C (Cy y++R) s):BG C A t F sx Cy:=λR s S=>
 Av (h R s S) (λYa Ya q=>q.elim) λe s' ⟨x,ex,S'⟩=>let⟨y,e',g⟩:=f x;⟨y,ex.trans e',g R s' S'⟩
theorem BG.frame{α:Type}{t:Sem α}{X:Type}{exc:X->Value}{led:X->AN}(h:BG C A t F exc led)(G:AN):BG C A t (F++G) exc (λx=>led x++G):=λR s S=>by
 have:=h (G++R) s (by rw[<-AG];exact S)
 exact Av this (λYa Ya q=>q) λe s' ⟨x,ex,S'⟩=>⟨x,ex,by rw[AG];exact S'⟩
theorem BG.seq{l1 l2:Dx}{env:Env}{X Y:Type}{led1:X->AN}{exc:Y->Value}{led:Y->AN}(h1:AC C A (Ac l1 env) F (λYa:X=>.next) led1)(h2: ∀x,BG C A (Ac l2 env) (led1 x) exc led):BG C A (Ac (l1++l2) env) F exc led:=λR s S=>
 Sf l1 (Av (h1 R s S) (λf s₁ ⟨x,e,S₁⟩=>by subst e;exact h2 x R s₁ S₁) λYa Ya q=>q.elim)
theorem BG.one{st:Stmt}{r:Dx}{env:Env}{X:Type}{exc:X->Value}{led:X->AN}(h:BG C A (Qf st env) F exc led):BG C A (Ac (st::r) env) F exc led:=λR s S=>
 Gg (Av (h R s S) (λYa Ya q=>q.elim) λYa Ya q=>q)
theorem BG.MM{test:Expr}{body orelse:Dx}{pos:Pos}{env:Env}{X Y:Type}{b:Bool}{led1:X->AN}{exc:Y->Value}{led:Y->AN}
 (h1:AC C A (isTrue test env (Bf test env)) F (λYa:X=>b) led1) (h2: ∀x,BG C A (Ac (if b then body else orelse) env) (led1 x) exc led):BG C A (Qf (.If test body orelse pos) env) F exc led:=λR s S=>by
 refine wpAny_If (Av (h1 R s S) (λf s' ⟨x,e,S'⟩=>?_) λYa Ya q=>q.elim);subst e
 have:=h2 x R s' S'
 cases f<;>exact this
theorem sD{α:Type}(hh:A.handled=none)(a t:Nat):BG C A (Qi (J a):Sem α) [DD a t .none .none] (λYa:Unit=>J a) (λYa=>[DD a t .none .none]):=λR s S=>
 wpAny_raiseNew_none hh ⟨(),rfl,S⟩
end
section
variable{B:Bx}{A:AL}
theorem oW{α:Type}(O:B.C.Ok)(U:Bj 3 A)(a t h th:Nat)(tb:Value)(hh:A.handled=some (J h)):BG B.C A (Qi (J a):Sem α) [DD a t .none .none,DD h th tb .none] (λYa:Unit=>J a) (λYa=>[DD a t .none (J h),DD h th tb .none]):=λR s S=>by
 have CD:a+323≠h+323:=S.ne;unfold Qi;refine AB (O3 ?_);rw[hh]
 dsimp only
 refine iT (show(J h != J a)=true from by simpa using λq:h=a=>CD (by rw[q])) ?_
 refine AB (Kw (AC.wp (oy (W_ O U.l a h th tb).ok) S.swap λYa s₁ S₁=>?_));refine AB ?_;refine FU (DV (St.swap S₁)) rfl (by show 2<6;decide) ?_
 exact R2 ⟨(),rfl,(St.swap S₁).UI rfl⟩
theorem lz(i:Nat)(h:i<=1000):GP (i:Int)=true:=fitsIndex_of (HH i) (PX (show(i:Int)<1001 by lia) ADs)
theorem RL{l:Addr}{k:Int}{i t:Nat}{xs:Ak}(mW:k=(i:Int))(hx:xs.length<=i)(hs:i<=1000){F:AN}{X:Type}{exc:X->Value}{led:X->AN}
 (hr: ∀(α:Type) m t',BG B.C A (newExc (.type "IndexError") [.str m t']>>=λe=>(Qi e:Sem α)) F exc led):
 BG B.C A (Builtin.«list.__getitem__» ⟨[.ref l,.int k t],[]⟩) ([.one l (.ls (.type "list") none xs)]++F) exc (λp=>led p++[.one l (.ls (.type "list") none xs)]):=by
 intro R s S;obtain⟨g,ho⟩:=S.Dj;have Q0:(⟨xs⟩:Bs)[i]? =none:=by simpa using hx
 have hE: ∀(α:Type) (m:String) (Q:α->Af->Prop),BN B.C.M A (raiseErrorWords "IndexError" m:Sem α) Q (λe s'=> ∃p,e=exc p/\St B.C ((led p++[.one l (.ls (.type "list") none xs)])++R) s') s:=λα m Q=>by
  unfold raiseErrorWords;refine AB (wpAny_mkText ?_);have S1:St B.C (F++(.one l (.ls (.type "list") none xs)::R)) {s with toks:=s.toks+1}:=(S.toks _ (Eb _)).perm (show(Bi.one l (.ls (.type "list") none xs)::(F++R)).Perm _ from List.perm_middle.symm)
  refine Av (hr α m s.toks _ _ S1) (λYa Ya q=>q.elim) λe s' ⟨p,ep,S'⟩=>⟨p,ep,?_⟩;rw[AG];exact S'
 show BN _ _ (Bb (.int k t)>>=_) _ _ s;refine AB (HZ (by rw[mW];exact lz i hs) ?_)
 subst mW;show BN _ _ ((seqItemAt l i>>=λr=>pure (r.map (i, ·)))>>=_) _ _ s;refine AB (AB (wpAny_seqItemAt ho rfl (AP ?_)));rw[Q0]
 first
  |exact AB (Eo (hE _ _ _))
  |exact AB (Eo (AB (hE _ _ _)))
  |exact AB (AB (Eo (hE _ _ _)))
  |exact Eo (hE _ _ _)
end
section
variable(B:Bx)(A:AL)(O:B.C.Ok)
def HR(U:AA 3 A)(x i t:Nat)(xs:Aa)(hx:xs.length<=i)(hs:i<=1000):Ag B.C A where
 c:=.call (.builtin "list.__getitem__") ⟨[J x,.int (i:Int) t],[]⟩
 F:=[AF x xs]
 X:=Nat×Nat
 res:=λp=>.error (J p.1)
 led:=λp=>[DD p.1 p.2 .none .none,AF x xs]
 ok:=IH ADr Dq (Kl O (U.h.le (ADp:1+1<=3)).in1 x _ _)
  (@RL B A.in1 (x+323) (i:Int) i t (xs.map iv) rfl (by rw[AD];exact hx) hs [] (Nat×Nat) (λp=>J p.1) (λp=>[DD p.1 p.2 .none .none]) λα m t' R s S=>AB (Av (nw O (U.h.le (ADp:1+1<=3)).in1 m t' R s S) (λYa s₁ ⟨p,e,S₁⟩=>by
   subst e;exact Av (sD (A:=A.in1) U.1 p.1 p.2 R s₁ S₁) (λYa Ya q=>q.elim) λe s₂ ⟨_,ee,S₂⟩=>⟨p,ee,S₂⟩) λYa Ya q=>q.elim))
def b5(U:Bj 5 A)(x i t h th:Nat)(tb:Value)(xs:Aa)(hh:A.handled=some (J h))(hx:xs.length<=i)(hs:i<=1000):Ag B.C A where
 c:=.call (.builtin "list.__getitem__") ⟨[J x,.int (i:Int) t],[]⟩
 F:=[AF x xs,DD h th tb .none]
 X:=Nat×Nat
 res:=λp=>.error (J p.1)
 led:=λp=>[DD p.1 p.2 .none (J h),DD h th tb .none,AF x xs]
 ok:=IH ADr Dq ((Kl O U.l.in1 x _ _).frame [DD h th tb .none])
  (@RL B A.in1 (x+323) (i:Int) i t (xs.map iv) rfl (by rw[AD];exact hx) hs [DD h th tb .none] (Nat×Nat) (λp=>J p.1) (λp=>[DD p.1 p.2 .none (J h),DD h th tb .none]) λα m t' R s S=>AB (Av (nw O U.l.in1 m t' (DD h th tb .none::R) s S) (λYa s₁ ⟨p,e,S₁⟩=>by
   subst e;exact Av (oW O (A:=A.in1) U.l.in1 p.1 p.2 h th tb hh R s₁ S₁) (λYa Ya q=>q.elim) λe s₂ ⟨_,ee,S₂⟩=>⟨p,ee,S₂⟩) λYa Ya q=>q.elim))
end
def Eh:Dx:=nB (hS (nB (sN 13 3)) 0)
def Rq:List ExceptHandler:=nH (hS (nB (sN 13 3)) 0)
def jb:Expr:=Ox (Const.bool Bool.true) 0 (pS 180 10 14)
def aG:Pos:=⟨181,8,206,17⟩
abbrev EO:Stmt->Expr:=vE
abbrev FR:Stmt->Dx:=nB
abbrev U6(l:Dx):Dx:=nB (hS l 0)
abbrev PL(l:Dx):Dx:=nO (hS l 0)
abbrev P8(l:Dx):Expr:=vE (hS l 0)
def Eg:Dx:=Eh.drop 2
def GI:Stmt:=((U6 Eg).drop 2).headD Au
def GJ:Stmt:=((U6 (PL Eg)).drop 2).headD Au
def Jn:Dx:=PL (PL Eg)
def Mp:Dx:=nO (hS Jn 1)
def FY:Stmt:=hS (nB (hS Jn 1)) 0
def D1:Stmt:=(Mp.drop 1).headD Au
abbrev Aq(B:Bx)(L:Nat):Env:=AR B.P 227 [] (L+323)
abbrev Nj(x y m u i ti j tj:Nat):BC:=[(HW,J x),(JT,J y),(VI,.int (i:Int) ti),(xm,.int (j:Int) tj),(PV,J m),(Kp,J u)]
abbrev WA(x y m u i ti j tj e te:Nat):BC:=[(HW,J x),(JT,J y),(VI,.int (i:Int) ti),(xm,.int (j:Int) tj),(PV,J m),(Kp,J u),(v_e,.int (e:Int) te)]
abbrev A_(x y m u i ti j tj e te a ta:Nat):BC:=[(HW,J x),(JT,J y),(VI,.int (i:Int) ti),(xm,.int (j:Int) tj),(PV,J m),(Kp,J u),(v_e,.int (e:Int) te),(v_a,.int (a:Int) ta)]
include O
theorem pq(U:Bj 8 A)(L x y m u i ti j tj e te a ta k:Nat)(xs:Aa)(hx:xs[i]? =some (e,k))(hl:xs.length<=1000)(he:(e:Int)=(e:Int)):
 AC B.C A (BM (.whileLoop (EO GI) (FR GI) [] (Aq B L))) [AI L (A_ x y m u i ti j tj e te a ta),AF x xs]
  (λq:Nat=>.again (.whileLoop (EO GI) (FR GI) [] (Aq B L)))
  (λq=>[AI L (A_ x y m u (i+1) q j tj e te a ta),AF x xs]):=by
 obtain⟨_,_|_⟩:=B<;>exact Mu O (.g 1107828801<|.cc (GB _ _ O U.l x i ti e k xs hx hl) [1] λYa=>.g 66<|.cc (MC _ _ O U.l ↑e ↑e k te he) [] λYa=>.g 66<|.fr λk2=>.cc (Ip _ _ O U.l i ti k2) [] λy3=>.fr λk4=>.g 6210<|.fi (y3) [1,0])
theorem pr(U:Bj 8 A)(L x y m u i ti j tj e te a ta v k:Nat)(xs:Aa)(hx:xs[i]? =some (v,k))(hl:xs.length<=1000)(he:(v:Int)≠(e:Int)):
 AS B A (BM (.whileLoop (EO GI) (FR GI) [] (Aq B L))) [AI L (A_ x y m u i ti j tj e te a ta),AF x xs] (Az Dg) [AI L (A_ x y m u i ti j tj e te a ta),AF x xs]:=by
 obtain⟨_,_|_⟩:=B<;>exact Mu O (.g 1107828801<|.cc (GB _ _ O U.l x i ti v k xs hx hl) [1] λYa=>.g 66<|.cc (MB _ _ O U.l ↑v ↑e k te he) [] λYa=>.fi () [1,0])
theorem se(U:AA 8 A)(L x y m u i ti j tj e te a ta:Nat)(xs:Aa)(hx:xs.length<=i)(hl:i<=1000):
 BG B.C A (isTrue (EO GI) (Aq B L) (Bf (EO GI) (Aq B L))) [AI L (A_ x y m u i ti j tj e te a ta),AF x xs]
  (λp:Nat×Nat=>J p.1)
  (λp=>[DD p.1 p.2 .none .none,AI L (A_ x y m u i ti j tj e te a ta),AF x xs]):=by
 obtain⟨_,_|_⟩:=B<;>exact eo O U (.g 1107828801<|.cc (HR _ _ O U.l x i ti xs hx hl) [1] λy0=>.fi (y0) [0,1,0])
theorem pw(U:Bj 8 A)(L x y m u i ti j tj e te a ta k:Nat)(xs:Aa)(hx:xs[j]? =some (a,k))(hl:xs.length<=1000)(he:(a:Int)=(a:Int)):
 AC B.C A (BM (.whileLoop (EO GJ) (FR GJ) [] (Aq B L))) [AI L (A_ x y m u i ti j tj e te a ta),AF y xs]
  (λq:Nat=>.again (.whileLoop (EO GJ) (FR GJ) [] (Aq B L)))
  (λq=>[AI L (A_ x y m u i ti (j+1) q e te a ta),AF y xs]):=by
 obtain⟨_,_|_⟩:=B<;>exact Mu O (.g 1107828801<|.cc (GB _ _ O U.l y j tj a k xs hx hl) [1] λYa=>.g 66<|.cc (MC _ _ O U.l ↑a ↑a k ta he) [] λYa=>.g 66<|.fr λk2=>.cc (Ip _ _ O U.l j tj k2) [] λy3=>.fr λk4=>.g 6210<|.fi (y3) [1,0])
theorem px(U:Bj 8 A)(L x y m u i ti j tj e te a ta v k:Nat)(xs:Aa)(hx:xs[j]? =some (v,k))(hl:xs.length<=1000)(he:(v:Int)≠(a:Int)):
 AS B A (BM (.whileLoop (EO GJ) (FR GJ) [] (Aq B L))) [AI L (A_ x y m u i ti j tj e te a ta),AF y xs] (Az Dg) [AI L (A_ x y m u i ti j tj e te a ta),AF y xs]:=by
 obtain⟨_,_|_⟩:=B<;>exact Mu O (.g 1107828801<|.cc (GB _ _ O U.l y j tj v k xs hx hl) [1] λYa=>.g 66<|.cc (MB _ _ O U.l ↑v ↑a k ta he) [] λYa=>.fi () [1,0])
theorem si(U:AA 8 A)(L x y m u i ti j tj e te a ta:Nat)(xs:Aa)(hx:xs.length<=j)(hl:j<=1000):
 BG B.C A (isTrue (EO GJ) (Aq B L) (Bf (EO GJ) (Aq B L))) [AI L (A_ x y m u i ti j tj e te a ta),AF y xs]
  (λp:Nat×Nat=>J p.1)
  (λp=>[DD p.1 p.2 .none .none,AI L (A_ x y m u i ti j tj e te a ta),AF y xs]):=by
 obtain⟨_,_|_⟩:=B<;>exact eo O U (.g 1107828801<|.cc (HR _ _ O U.l y j tj xs hx hl) [1] λy0=>.fi (y0) [0,1,0])
theorem py(U:Bj 8 A)(L x y m u i ti j tj e te a ta k:Nat)(xs:Aa)(hx:xs[i]? =some (e,k))(hl:xs.length<=1000)(he:(e:Int)=(e:Int)):
 AC B.C A (BM (.whileLoop (EO FY) (FR FY) [] (Aq B L))) [AI L (A_ x y m u i ti j tj e te a ta),AF x xs]
  (λq:Nat=>.again (.whileLoop (EO FY) (FR FY) [] (Aq B L)))
  (λq=>[AI L (A_ x y m u (i+1) q j tj e te a ta),AF x xs]):=by
 obtain⟨_,_|_⟩:=B<;>exact Mu O (.g 1107828801<|.cc (GB _ _ O U.l x i ti e k xs hx hl) [1] λYa=>.g 66<|.cc (MC _ _ O U.l ↑e ↑e k te he) [] λYa=>.g 66<|.fr λk2=>.cc (Ip _ _ O U.l i ti k2) [] λy3=>.fr λk4=>.g 6210<|.fi (y3) [1,0])
theorem pz(U:Bj 8 A)(L x y m u i ti j tj e te a ta v k:Nat)(xs:Aa)(hx:xs[i]? =some (v,k))(hl:xs.length<=1000)(he:(v:Int)≠(e:Int)):
 AS B A (BM (.whileLoop (EO FY) (FR FY) [] (Aq B L))) [AI L (A_ x y m u i ti j tj e te a ta),AF x xs] (Az Dg) [AI L (A_ x y m u i ti j tj e te a ta),AF x xs]:=by
 obtain⟨_,_|_⟩:=B<;>exact Mu O (.g 1107828801<|.cc (GB _ _ O U.l x i ti v k xs hx hl) [1] λYa=>.g 66<|.cc (MB _ _ O U.l ↑v ↑e k te he) [] λYa=>.fi () [1,0])
theorem sm(U:AA 8 A)(L x y m u i ti j tj e te a ta:Nat)(xs:Aa)(hx:xs.length<=i)(hl:i<=1000):
 BG B.C A (isTrue (EO FY) (Aq B L) (Bf (EO FY) (Aq B L))) [AI L (A_ x y m u i ti j tj e te a ta),AF x xs]
  (λp:Nat×Nat=>J p.1)
  (λp=>[DD p.1 p.2 .none .none,AI L (A_ x y m u i ti j tj e te a ta),AF x xs]):=by
 obtain⟨_,_|_⟩:=B<;>exact eo O U (.g 1107828801<|.cc (HR _ _ O U.l x i ti xs hx hl) [1] λy0=>.fi (y0) [0,1,0])
theorem d_(U:Bj 8 A)(L x y m u i ti j tj e te a ta k:Nat)(xs:Aa)(hx:xs[j]? =some (a,k))(hl:xs.length<=1000)(he:(a:Int)=(a:Int)):
 AC B.C A (BM (.whileLoop (EO D1) (FR D1) [] (Aq B L))) [AI L (A_ x y m u i ti j tj e te a ta),AF y xs]
  (λq:Nat=>.again (.whileLoop (EO D1) (FR D1) [] (Aq B L)))
  (λq=>[AI L (A_ x y m u i ti (j+1) q e te a ta),AF y xs]):=by
 obtain⟨_,_|_⟩:=B<;>exact Mu O (.g 1107828801<|.cc (GB _ _ O U.l y j tj a k xs hx hl) [1] λYa=>.g 66<|.cc (MC _ _ O U.l ↑a ↑a k ta he) [] λYa=>.g 66<|.fr λk2=>.cc (Ip _ _ O U.l j tj k2) [] λy3=>.fr λk4=>.g 6210<|.fi (y3) [1,0])
theorem p_(U:Bj 8 A)(L x y m u i ti j tj e te a ta v k:Nat)(xs:Aa)(hx:xs[j]? =some (v,k))(hl:xs.length<=1000)(he:(v:Int)≠(a:Int)):
 AS B A (BM (.whileLoop (EO D1) (FR D1) [] (Aq B L))) [AI L (A_ x y m u i ti j tj e te a ta),AF y xs] (Az Dg) [AI L (A_ x y m u i ti j tj e te a ta),AF y xs]:=by
 obtain⟨_,_|_⟩:=B<;>exact Mu O (.g 1107828801<|.cc (GB _ _ O U.l y j tj v k xs hx hl) [1] λYa=>.g 66<|.cc (MB _ _ O U.l ↑v ↑a k ta he) [] λYa=>.fi () [1,0])
theorem sp(U:AA 8 A)(L x y m u i ti j tj e te a ta:Nat)(xs:Aa)(hx:xs.length<=j)(hl:j<=1000):
 BG B.C A (isTrue (EO D1) (Aq B L) (Bf (EO D1) (Aq B L))) [AI L (A_ x y m u i ti j tj e te a ta),AF y xs]
  (λp:Nat×Nat=>J p.1)
  (λp=>[DD p.1 p.2 .none .none,AI L (A_ x y m u i ti j tj e te a ta),AF y xs]):=by
 obtain⟨_,_|_⟩:=B<;>exact eo O U (.g 1107828801<|.cc (HR _ _ O U.l y j tj xs hx hl) [1] λy0=>.fi (y0) [0,1,0])
theorem p9(U:Bj 8 A)(L x y m u i ti j tj e te a ta h th:Nat)(tb:Value)(xs:Aa)(hh:A.handled=some (J h))(hx:xs.length<=j)(hl:j<=1000):
 BG B.C A (isTrue (EO D1) (Aq B L) (Bf (EO D1) (Aq B L))) [AI L (A_ x y m u i ti j tj e te a ta),AF y xs,DD h th tb .none]
  (λp:Nat×Nat=>J p.1)
  (λp=>[DD p.1 p.2 .none (J h),AI L (A_ x y m u i ti j tj e te a ta),AF y xs,DD h th tb .none]):=by
 obtain⟨_,_|_⟩:=B<;>exact xU O (.g 1107828801<|.cc (b5 _ _ O U.l y j tj h th tb xs hh hx hl) [1,1] λy0=>.fi (y0) [0,2,1,0])
theorem sK(U:AA 8 A)(L x y m u i ti j tj v k w q:Nat)(xs ys:Aa)(hx:xs[i]? =some (v,k))(hl:xs.length<=1000)(hy:ys[j]? =some (w,q))(hm:ys.length<=1000):
 AS B A (Ac (Eh.take 2) (Aq B L)) [AI L (Nj x y m u i ti j tj),AF x xs,AF y ys] .next [AI L (A_ x y m u i ti j tj v k w q),AF x xs,AF y ys]:=Ix O U (.g 1107828801<|.cc (Ci _ _ O U.l x i ti v k xs hx hl) [1] λYa=>.fr λk1=>.g 4607477033026<|.cc (Ci _ _ O U.l y j tj w q ys hy hm) [2] λYa=>.fr λk3=>.g 6275<|.fi () [2,1,0])
theorem xd(U:AA 8 A)(L x y m u i ti j tj:Nat)(xs ys:Aa)(hx:xs.length<=i)(hl:i<=1000):
 BG B.C A (Ac (Eh.take 2) (Aq B L)) [AI L (Nj x y m u i ti j tj),AF x xs,AF y ys]
  (λp:Nat×Nat=>J p.1)
  (λp=>[DD p.1 p.2 .none .none,AI L (Nj x y m u i ti j tj),AF x xs,AF y ys]):=by
 obtain⟨_,_|_⟩:=B<;>exact eu O U (.g 1107828801<|.cc (HR _ _ O U.l x i ti xs hx hl) [1] λy0=>.fi (y0) [0,1,0,0])
theorem xf(U:AA 8 A)(L x y m u i ti j tj v k:Nat)(xs ys:Aa)(hx:xs[i]? =some (v,k))(hl:xs.length<=1000)(hy:ys.length<=j)(hm:j<=1000):
 BG B.C A (Ac (Eh.take 2) (Aq B L)) [AI L (Nj x y m u i ti j tj),AF x xs,AF y ys]
  (λp:Nat×Nat=>J p.1)
  (λp=>[DD p.1 p.2 .none .none,AI L (WA x y m u i ti j tj v k),AF x xs,AF y ys]):=by
 obtain⟨_,_|_⟩:=B<;>exact eu O U (.g 1107828801<|.cc (Ci _ _ O U.l x i ti v k xs hx hl) [1] λYa=>.fr λk1=>.g 4607477033026<|.cc (HR _ _ O U.l y j tj ys hy hm) [2] λy2=>.fi (y2) [0,2,1,0])
theorem sL(U:AA 8 A)(L x y m u i ti j tj e te a ta v k w q:Nat)(xs ys:Aa)(hx:xs[i]? =some (v,k))(hl:xs.length<=1000)(hy:ys[j]? =some (w,q))(hm:ys.length<=1000):
 AS B A (Ac (Eh.take 2) (Aq B L)) [AI L (A_ x y m u i ti j tj e te a ta),AF x xs,AF y ys] .next [AI L (A_ x y m u i ti j tj v k w q),AF x xs,AF y ys]:=Ix O U (.g 1107828801<|.cc (Ci _ _ O U.l x i ti v k xs hx hl) [1] λYa=>.fr λk1=>.g 4607477033026<|.cc (Ci _ _ O U.l y j tj w q ys hy hm) [2] λYa=>.fr λk3=>.g 6275<|.fi () [2,1,0])
theorem xe(U:AA 8 A)(L x y m u i ti j tj e te a ta:Nat)(xs ys:Aa)(hx:xs.length<=i)(hl:i<=1000):
 BG B.C A (Ac (Eh.take 2) (Aq B L)) [AI L (A_ x y m u i ti j tj e te a ta),AF x xs,AF y ys]
  (λp:Nat×Nat=>J p.1)
  (λp=>[DD p.1 p.2 .none .none,AI L (A_ x y m u i ti j tj e te a ta),AF x xs,AF y ys]):=by
 obtain⟨_,_|_⟩:=B<;>exact eu O U (.g 1107828801<|.cc (HR _ _ O U.l x i ti xs hx hl) [1] λy0=>.fi (y0) [0,1,0,0])
theorem xg(U:AA 8 A)(L x y m u i ti j tj e te a ta v k:Nat)(xs ys:Aa)(hx:xs[i]? =some (v,k))(hl:xs.length<=1000)(hy:ys.length<=j)(hm:j<=1000):
 BG B.C A (Ac (Eh.take 2) (Aq B L)) [AI L (A_ x y m u i ti j tj e te a ta),AF x xs,AF y ys]
  (λp:Nat×Nat=>J p.1)
  (λp=>[DD p.1 p.2 .none .none,AI L (A_ x y m u i ti j tj v k a ta),AF x xs,AF y ys]):=by
 obtain⟨_,_|_⟩:=B<;>exact eu O U (.g 1107828801<|.cc (Ci _ _ O U.l x i ti v k xs hx hl) [1] λYa=>.fr λk1=>.g 4607477033026<|.cc (HR _ _ O U.l y j tj ys hy hm) [2] λy2=>.fi (y2) [0,2,1,0])
theorem pB(U:AA 8 A)(L x y m u i ti j tj e te a ta:Nat)(h:(e:Int)<(a:Int)):
 AS B A (isTrue (P8 Eg) (Aq B L) (Bf (P8 Eg) (Aq B L))) [AI L (A_ x y m u i ti j tj e te a ta)] true [AI L (A_ x y m u i ti j tj e te a ta)]:=by
 obtain⟨_,_|_⟩:=B<;>exact Q7 O U (.g 4161<|.cc (IJ _ _ O U.l ↑e ↑a te ta h) [] λYa=>.fi () [0])
theorem e8(U:AA 8 A)(L x y m u i ti j tj e te a ta:Nat)(h: ¬(e:Int)<(a:Int)):
 AS B A (isTrue (P8 Eg) (Aq B L) (Bf (P8 Eg) (Aq B L))) [AI L (A_ x y m u i ti j tj e te a ta)] false [AI L (A_ x y m u i ti j tj e te a ta)]:=by
 obtain⟨_,_|_⟩:=B<;>exact Q7 O U (.g 4161<|.cc (II _ _ O U.l ↑e ↑a te ta h) [] λYa=>.fi () [0])
theorem o_(U:AA 8 A)(L x y m u i ti j tj e te a ta:Nat)(h:(e:Int)>(a:Int)):
 AS B A (isTrue (P8 (PL Eg)) (Aq B L) (Bf (P8 (PL Eg)) (Aq B L))) [AI L (A_ x y m u i ti j tj e te a ta)] true [AI L (A_ x y m u i ti j tj e te a ta)]:=by
 obtain⟨_,_|_⟩:=B<;>exact Q7 O U (.g 4161<|.cc (Kz _ _ O U.l ↑e ↑a te ta h) [] λYa=>.fi () [0])
theorem e7(U:AA 8 A)(L x y m u i ti j tj e te a ta:Nat)(h: ¬(e:Int)>(a:Int)):
 AS B A (isTrue (P8 (PL Eg)) (Aq B L) (Bf (P8 (PL Eg)) (Aq B L))) [AI L (A_ x y m u i ti j tj e te a ta)] false [AI L (A_ x y m u i ti j tj e te a ta)]:=by
 obtain⟨_,_|_⟩:=B<;>exact Q7 O U (.g 4161<|.cc (Qp _ _ O U.l ↑e ↑a te ta h) [] λYa=>.fi () [0])
theorem o5(U:AA 8 A)(L x y m u i ti j tj e te a ta:Nat)(zs:Ak)(hz:zs.length<=1000):
 AC B.C A (Ac ((U6 Eg).take 2) (Aq B L)) [AI L (A_ x y m u i ti j tj e te a ta),AE m zs]
  (λq:Nat=>.next)
  (λq=>[AI L (A_ x y m u (i+1) q j tj e te a ta),AE m (zs++[.int (e:Int) te])]):=Ix O U (.g 69827305601<|.cc (Do O U.l m (.int (↑e) te) zs hz) [1] λYa=>.g 66<|.fr λk1=>.cc (F_ _ _ O U.l i ti k1) [] λy2=>.fr λk3=>.g 6210<|.fi (y2) [1,0])
theorem o7(U:AA 8 A)(L x y m u i ti j tj e te a ta:Nat)(zs:Ak)(hz:zs.length<=1000):
 AC B.C A (Ac ((U6 (PL Eg)).take 2) (Aq B L)) [AI L (A_ x y m u i ti j tj e te a ta),AE u zs]
  (λq:Nat=>.next)
  (λq=>[AI L (A_ x y m u i ti (j+1) q e te a ta),AE u (zs++[.int (a:Int) ta])]):=Ix O U (.g 69827305601<|.cc (Do O U.l u (.int (↑a) ta) zs hz) [1] λYa=>.g 66<|.fr λk1=>.cc (F_ _ _ O U.l j tj k1) [] λy2=>.fr λk3=>.g 6210<|.fi (y2) [1,0])
theorem o8(U:AA 8 A)(L x y m u i ti j tj e te a ta:Nat):
 AC B.C A (Ac (Jn.take 1) (Aq B L)) [AI L (A_ x y m u i ti j tj e te a ta)]
  (λq:Nat=>.next)
  (λq=>[AI L (A_ x y m u (i+1) q j tj e te a ta)]):=Ix O U (.g 65<|.fr λk0=>.cc (F_ _ _ O U.l i ti k0) [] λy1=>.fr λk2=>.g 6145<|.fi (y1) [0])
theorem d7(U:Bj 8 A)(L x y m u i ti j tj e te a ta:Nat):
 AC B.C A (Ac (Mp.take 1) (Aq B L)) [AI L (A_ x y m u i ti j tj e te a ta)]
  (λq:Nat=>.next)
  (λq=>[AI L (A_ x y m u i ti (j+1) q e te a ta)]):=by
 obtain⟨_,_|_⟩:=B<;>exact AAO O (.g 65<|.fr λk0=>.cc (Ip _ _ O U.l j tj k0) [] λy1=>.fr λk2=>.g 6145<|.fi (y1) [0])
noncomputable def Gq(l:Ay)(v:Nat):Nat->Nat->Nat
 |0,i=>i
 |r+1,i=>if l[i]? =some v then Gq l v r (i+1) else i
def BJ(l:Ay)(v i:Nat):Nat:=Gq l v (l.length-i) i
omit O
theorem V_{l:Ay}{v:Nat}: ∀{r i:Nat},i+r<=l.length->Gq l v r i<=l.length
 |0,i,h=>by rw[Gq];lia
 |r+1,i,h=>by
  rw[Gq]
  split
  ·exact V_ ADp
  ·lia
section
variable{B:Bx}{A:AL}{c:Code}{l:Ay}{v:Nat}{Fr:Nat->Nat->AN}
theorem Ni(hq:c.quiet=true)(go: ∀i t,l[i]? =some v->AC B.C (A.under c) (BM c) (Fr i t) (λYa:Nat=>G8 c) (λq=>Fr (i+1) q))
 (stop: ∀i t w,l[i]? =some w->w≠v->AC B.C (A.under c) (BM c) (Fr i t) (λYa:Unit=>Az .next) (λYa=>Fr i t)):
 ∀(r i t:Nat),i+r=l.length->Gq l v r i<l.length->AT B.C A c (Fr i t) (λYa:Nat=>.ok .next) (λq=>Fr (Gq l v r i) q)
 |0,i,t,h,hk=>by rw[Gq] at hk;lia
 |r+1,i,t,h,hk=>by
  rw[Gq] at hk⊢
  by_cases e:l[i]? =some v
  ·rw[if_pos e] at hk⊢
   exact AT.NN (c':=λYa=>c) (go i t e) (λYa=>hq) λq=>Ni hq go stop r (i+1) q ADp hk
  ·rw[if_neg e] at hk⊢
   have hw:l[i]? =some l[i]:=AJ ADp
   exact(AT.ends (stop i t _ hw (λq=>e (by rw[hw,q])))).weaken λYa=>⟨t,rfl,λR s S=>S⟩
theorem JS(hq:c.quiet=true)(go: ∀i t,l[i]? =some v->AC B.C (A.under c) (BM c) (Fr i t) (λYa:Nat=>G8 c) (λq=>Fr (i+1) q)){Z:Type}{exc:Z->Value}{led:Z->AN}
 (out: ∀t,AT B.C A c (Fr l.length t) (λz:Z=>.error (exc z)) led):
 ∀(r i t:Nat),i+r=l.length->Gq l v r i=l.length->AT B.C A c (Fr i t) (λz:Z=>.error (exc z)) led
 |0,i,t,h,hk=>by
  obtain rfl:i=l.length:=by lia
  exact out t
 |r+1,i,t,h,hk=>by
  rw[Gq] at hk
  by_cases e:l[i]? =some v
  ·rw[if_pos e] at hk
   exact AT.NN (c':=λYa=>c) (go i t e) (λYa=>hq) λq=>JS hq go out r (i+1) q ADp hk
  ·rw[if_neg e] at hk;lia
end
section
variable{B:Bx}{A:AL}{F:AN}{test:Expr}{body orelse:Dx}{pos:Pos}{env:Env}
theorem AT.QU{X Y:Type}{ex:X->Nat}{led:X->AN}{led2:X->Y->AN}(h:BG B.C (A.under (.whileLoop test body orelse env)) (isTrue test env (Bf test env)) F (λx=>.ref (ex x+323)) led)
 (hn: ∀x,AC B.C (A.under (.whileLoop test body orelse env)) (E0 (.ref (ex x+323)) env) (led x) (λYa:Y=>()) (led2 x)):
 AT B.C A (.whileLoop test body orelse env) F (λq:X×Y=>.error (.ref (ex q.1+323))) (λq=>led2 q.1 q.2):=λR s S=>by
 refine BL ?_;show BN _ _ ((Lz test body orelse env).onRaise (λx=>do E0 x env;EQ x)) _ _ s;refine DT ?_;unfold Lz;refine AB (BG.wp h S λx s₁ S₁=>?_);refine AB (Av (hn x R s₁ S₁) (λYa s₂ ⟨y,_,S₂⟩=>wpAny_theTreesLotGoes ⟨(x,y),rfl,S₂⟩) λYa Ya q=>q.elim)
theorem AC.Ht{X:Type}{fl:X->OV}{led:X->AN}(h:Bv B.C A (.whileLoop test body orelse env) F (λx=>.ok (fl x)) led):AC B.C A (Qf (.While test body orelse pos) env) F fl led:=λR s S=>by
 rw[exec_While];exact AB (m:=Kg _) (DU (AC.runOwn h R s S))
structure XD where
 e:Nat
 t:Nat
 b:Nat
 p:Sd
 k:Nat
abbrev Fu(L:Nat)(fl cx:Value)(d:XD):AN:=[DD d.e d.t (J d.b) cx,MW d.b L fl d.p]
theorem BG.Ht{L:Nat}{fl cx:Value}{led:XD->AN}(hf:env.frame=some (L+323))(h:AT B.C A (.whileLoop test body orelse env) F (λd:XD=>.error (J d.e)) (λd=>Fu L fl cx d++led d)):
 BG B.C A (Qf (.While test body orelse pos) env) F (λd:XD=>J d.e) (λd=>Fu L (CL (L+323:Nat)) cx d++led d):=λR s S=>by
 rw[exec_While];refine AB (m:=Kg _) (DU (wpAny_runOwn ?_));rw[Around.mark_none];refine Fm (h R s S) λr s₁ ⟨d,e,S₁⟩=>?_;subst e;show BN _ _ _ _ _ _;have S2:St B.C (Fu L fl cx d++(led d++R)) s₁:=by rw[<-AG];exact S₁
 refine AB (B9 (DV S2) rfl (x:=J d.b) rfl ?_);refine iN (show¬((J d.b==CU)=true) from by simp) ?_
 rw[hf]
 first
  |exact AB (AP (Av (GH (C:=B.C) (A:=A) (L:=L) (e:=d.e) (t:=d.t) (b:=d.b) (cx:=cx) (fl:=fl) (p:=d.p) (some (L+323)) _ s₁ S2) (λYa s₂ ⟨_,_,S₂⟩=>⟨d,rfl,by rw[AG];exact S₂⟩) λYa Ya q=>q.elim))
  |exact Av (GH (C:=B.C) (A:=A) (L:=L) (e:=d.e) (t:=d.t) (b:=d.b) (cx:=cx) (fl:=fl) (p:=d.p) (some (L+323)) _ s₁ S2) (λYa s₂ ⟨_,_,S₂⟩=>⟨d,rfl,by rw[AG];exact S₂⟩) λYa Ya q=>q.elim
end
theorem GV{xs:Aa}{i v:Nat}(h:(ns xs)[i]? =some v): ∃k,xs[i]? =some (v,k):=by
 unfold ns at h;rw[AQ] at h;cases e:xs[i]? with
 |none=>rw[e] at h;cases h
 |some q=>rw[e] at h;cases h;exact⟨q.2,rfl⟩
theorem B3(xs:Aa):(ns xs).length=xs.length:=AD _
structure Fs(B:Bx)(A:AL)(L:Nat)(G:AN):Prop where
 fr: ∃outer,A.frames=some (Aq B L::outer)/\Sb G outer
theorem Fs.all{B:Bx}{A:AL}{L:Nat}{G:AN}(h:Fs B A L G)(al:BC)(F:AN)(hF: ∀e∈G,e∈F)(h0:AI L al∈F): ∃outer,A.frames=some (Aq B L::outer)/\Sb F (Aq B L::outer):=by
 obtain⟨outer,h1,h2⟩:=h.fr;refine⟨outer,h1,λe he=>?_⟩
 rcases List.mem_cons.mp he with rfl|he
 ·exact⟨by show(D4 B.P 227).scope.kind≠.module;exact(by kernel_rfl:(D4 B.P 227).scope.kind=.function)▸ADs,L+323,.type "frame",al,rfl,h0⟩
 ·obtain⟨k,f,c,a,e1,e2⟩:=h2 e he;exact⟨k,f,c,a,e1,hF _ e2⟩
include O
theorem sf(U:Bj 9 A){L x y m u i ti j tj e te a ta:Nat}{xs:Aa}(hl:xs.length<=1000)(hi:i<=xs.length)(hk:BJ (ns xs) e i<xs.length):
 AC B.C A (Ac [GI] (Aq B L)) [AI L (A_ x y m u i ti j tj e te a ta),AF x xs] (λYa:Nat=>.next) (λq=>[AI L (A_ x y m u (BJ (ns xs) e i) q j tj e te a ta),AF x xs]):=by
 have h:=Ni (B:=B) (A:=A) (c:=(.whileLoop (EO GI) (FR GI) [] (Aq B L))) (l:=ns xs) (v:=e) (Fr:=λn t=>[AI L (A_ x y m u n t j tj e te a ta),AF x xs]) rfl
  (λn t h=>by obtain⟨k,hk⟩:=GV h;exact pq O U.under L x y m u n t j tj e te a ta k xs hk hl rfl)
  (λn t w h hw=>by obtain⟨k,hk⟩:=GV h;exact pr O U.under L x y m u n t j tj e te a ta w k xs hk hl ADp)
  ((ns xs).length-i) i ti (by rw[B3];lia) (by rw[B3];rw[BJ,B3] at hk;exact hk)
 exact AC.one (AC.Ht h.call)
theorem sd(U:AA 9 A){L x y m u i ti j tj e te a ta:Nat}{xs:Aa}{G:AN}(hF:Fs B A L G)(hl:xs.length<=1000)(hi:i<=xs.length)(hk:BJ (ns xs) e i=xs.length):
 BG B.C A (Ac [GI] (Aq B L)) ([AI L (A_ x y m u i ti j tj e te a ta),AF x xs]++G) (λd:XD=>J d.e) (λd=>Fu L (CL (L+323:Nat)) .none d++([AI L (A_ x y m u xs.length d.k j tj e te a ta),AF x xs]++G)):=by
 have B8:Bj 9 A:=U.h;have out: ∀t,AT B.C A (.whileLoop (EO GI) (FR GI) [] (Aq B L)) ([AI L (A_ x y m u xs.length t j tj e te a ta),AF x xs]++G) (λd:XD=>.error (J d.e)) (λd=>Fu L (CL (L+323:Nat)) .none d++([AI L (A_ x y m u xs.length d.k j tj e te a ta),AF x xs]++G)):=λt=>by
  obtain⟨outer,Hl,Qw⟩:=hF.all (A_ x y m u xs.length t j tj e te a ta) ([AI L (A_ x y m u xs.length t j tj e te a ta),AF x xs]++G) (λe he=>Ax _ he) (.head _)
  exact(AT.QU (ex:=λp:Nat×Nat=>p.1) ((se O (A:=A.under (.whileLoop (EO GI) (FR GI) [] (Aq B L))) U.loop L x y m u xs.length t j tj e te a ta xs (Am _) ADp).frame G) λp=>GY O (A:=A.under (.whileLoop (EO GI) (FR GI) [] (Aq B L))) Hl rfl Qw).weaken λq=>⟨⟨q.1.1,q.1.2,q.2.1,q.2.2,t⟩,rfl,λR s S=>S⟩
 have h:=JS (B:=B) (A:=A) (c:=(.whileLoop (EO GI) (FR GI) [] (Aq B L))) (l:=ns xs) (v:=e) (Fr:=λn t=>[AI L (A_ x y m u n t j tj e te a ta),AF x xs]++G) rfl
  (λn t hq=>by obtain⟨k,hk⟩:=GV hq;exact(pq O (A:=A.under (.whileLoop (EO GI) (FR GI) [] (Aq B L))) B8.under L x y m u n t j tj e te a ta k xs hk hl rfl).frame ([]++G)) (by rw[B3];exact out)
  ((ns xs).length-i) i ti (by rw[B3];lia) (by rw[BJ] at hk;rw[hk,B3])
 exact BG.one (BG.Ht (env:=Aq B L) rfl h)
theorem sj(U:Bj 9 A){L x y m u i ti j tj e te a ta:Nat}{xs:Aa}(hl:xs.length<=1000)(hi:j<=xs.length)(hk:BJ (ns xs) a j<xs.length):
 AC B.C A (Ac [GJ] (Aq B L)) [AI L (A_ x y m u i ti j tj e te a ta),AF y xs] (λYa:Nat=>.next) (λq=>[AI L (A_ x y m u i ti (BJ (ns xs) a j) q e te a ta),AF y xs]):=by
 have h:=Ni (B:=B) (A:=A) (c:=(.whileLoop (EO GJ) (FR GJ) [] (Aq B L))) (l:=ns xs) (v:=a) (Fr:=λn t=>[AI L (A_ x y m u i ti n t e te a ta),AF y xs]) rfl
  (λn t h=>by obtain⟨k,hk⟩:=GV h;exact pw O U.under L x y m u i ti n t e te a ta k xs hk hl rfl)
  (λn t w h hw=>by obtain⟨k,hk⟩:=GV h;exact px O U.under L x y m u i ti n t e te a ta w k xs hk hl ADp)
  ((ns xs).length-j) j tj (by rw[B3];lia) (by rw[B3];rw[BJ,B3] at hk;exact hk)
 exact AC.one (AC.Ht h.call)
theorem sg(U:AA 9 A){L x y m u i ti j tj e te a ta:Nat}{xs:Aa}{G:AN}(hF:Fs B A L G)(hl:xs.length<=1000)(hi:j<=xs.length)(hk:BJ (ns xs) a j=xs.length):
 BG B.C A (Ac [GJ] (Aq B L)) ([AI L (A_ x y m u i ti j tj e te a ta),AF y xs]++G) (λd:XD=>J d.e) (λd=>Fu L (CL (L+323:Nat)) .none d++([AI L (A_ x y m u i ti xs.length d.k e te a ta),AF y xs]++G)):=by
 have B8:Bj 9 A:=U.h;have out: ∀t,AT B.C A (.whileLoop (EO GJ) (FR GJ) [] (Aq B L)) ([AI L (A_ x y m u i ti xs.length t e te a ta),AF y xs]++G) (λd:XD=>.error (J d.e)) (λd=>Fu L (CL (L+323:Nat)) .none d++([AI L (A_ x y m u i ti xs.length d.k e te a ta),AF y xs]++G)):=λt=>by
  obtain⟨outer,Hl,Qw⟩:=hF.all (A_ x y m u i ti xs.length t e te a ta) ([AI L (A_ x y m u i ti xs.length t e te a ta),AF y xs]++G) (λe he=>Ax _ he) (.head _)
  exact(AT.QU (ex:=λp:Nat×Nat=>p.1) ((si O (A:=A.under (.whileLoop (EO GJ) (FR GJ) [] (Aq B L))) U.loop L x y m u i ti xs.length t e te a ta xs (Am _) ADp).frame G) λp=>GY O (A:=A.under (.whileLoop (EO GJ) (FR GJ) [] (Aq B L))) Hl rfl Qw).weaken λq=>⟨⟨q.1.1,q.1.2,q.2.1,q.2.2,t⟩,rfl,λR s S=>S⟩
 have h:=JS (B:=B) (A:=A) (c:=(.whileLoop (EO GJ) (FR GJ) [] (Aq B L))) (l:=ns xs) (v:=a) (Fr:=λn t=>[AI L (A_ x y m u i ti n t e te a ta),AF y xs]++G) rfl
  (λn t hq=>by obtain⟨k,hk⟩:=GV hq;exact(pw O (A:=A.under (.whileLoop (EO GJ) (FR GJ) [] (Aq B L))) B8.under L x y m u i ti n t e te a ta k xs hk hl rfl).frame ([]++G)) (by rw[B3];exact out)
  ((ns xs).length-j) j tj (by rw[B3];lia) (by rw[BJ] at hk;rw[hk,B3])
 exact BG.one (BG.Ht (env:=Aq B L) rfl h)
theorem fH(U:Bj 9 A){L x y m u i ti j tj e te a ta:Nat}{xs:Aa}(hl:xs.length<=1000)(hi:i<=xs.length)(hk:BJ (ns xs) e i<xs.length):
 AC B.C A (Ac [FY] (Aq B L)) [AI L (A_ x y m u i ti j tj e te a ta),AF x xs] (λYa:Nat=>.next) (λq=>[AI L (A_ x y m u (BJ (ns xs) e i) q j tj e te a ta),AF x xs]):=by
 have h:=Ni (B:=B) (A:=A) (c:=(.whileLoop (EO FY) (FR FY) [] (Aq B L))) (l:=ns xs) (v:=e) (Fr:=λn t=>[AI L (A_ x y m u n t j tj e te a ta),AF x xs]) rfl
  (λn t h=>by obtain⟨k,hk⟩:=GV h;exact py O U.under L x y m u n t j tj e te a ta k xs hk hl rfl)
  (λn t w h hw=>by obtain⟨k,hk⟩:=GV h;exact pz O U.under L x y m u n t j tj e te a ta w k xs hk hl ADp)
  ((ns xs).length-i) i ti (by rw[B3];lia) (by rw[B3];rw[BJ,B3] at hk;exact hk)
 exact AC.one (AC.Ht h.call)
theorem fG(U:AA 9 A){L x y m u i ti j tj e te a ta:Nat}{xs:Aa}{G:AN}(hF:Fs B A L G)(hl:xs.length<=1000)(hi:i<=xs.length)(hk:BJ (ns xs) e i=xs.length):
 BG B.C A (Ac [FY] (Aq B L)) ([AI L (A_ x y m u i ti j tj e te a ta),AF x xs]++G) (λd:XD=>J d.e) (λd=>Fu L (CL (L+323:Nat)) .none d++([AI L (A_ x y m u xs.length d.k j tj e te a ta),AF x xs]++G)):=by
 have B8:Bj 9 A:=U.h;have out: ∀t,AT B.C A (.whileLoop (EO FY) (FR FY) [] (Aq B L)) ([AI L (A_ x y m u xs.length t j tj e te a ta),AF x xs]++G) (λd:XD=>.error (J d.e)) (λd=>Fu L (CL (L+323:Nat)) .none d++([AI L (A_ x y m u xs.length d.k j tj e te a ta),AF x xs]++G)):=λt=>by
  obtain⟨outer,Hl,Qw⟩:=hF.all (A_ x y m u xs.length t j tj e te a ta) ([AI L (A_ x y m u xs.length t j tj e te a ta),AF x xs]++G) (λe he=>Ax _ he) (.head _)
  exact(AT.QU (ex:=λp:Nat×Nat=>p.1) ((sm O (A:=A.under (.whileLoop (EO FY) (FR FY) [] (Aq B L))) U.loop L x y m u xs.length t j tj e te a ta xs (Am _) ADp).frame G) λp=>GY O (A:=A.under (.whileLoop (EO FY) (FR FY) [] (Aq B L))) Hl rfl Qw).weaken λq=>⟨⟨q.1.1,q.1.2,q.2.1,q.2.2,t⟩,rfl,λR s S=>S⟩
 have h:=JS (B:=B) (A:=A) (c:=(.whileLoop (EO FY) (FR FY) [] (Aq B L))) (l:=ns xs) (v:=e) (Fr:=λn t=>[AI L (A_ x y m u n t j tj e te a ta),AF x xs]++G) rfl
  (λn t hq=>by obtain⟨k,hk⟩:=GV hq;exact(py O (A:=A.under (.whileLoop (EO FY) (FR FY) [] (Aq B L))) B8.under L x y m u n t j tj e te a ta k xs hk hl rfl).frame ([]++G)) (by rw[B3];exact out)
  ((ns xs).length-i) i ti (by rw[B3];lia) (by rw[BJ] at hk;rw[hk,B3])
 exact BG.one (BG.Ht (env:=Aq B L) rfl h)
theorem sq(U:Bj 9 A){L x y m u i ti j tj e te a ta:Nat}{xs:Aa}(hl:xs.length<=1000)(hi:j<=xs.length)(hk:BJ (ns xs) a j<xs.length):
 AC B.C A (Ac [D1] (Aq B L)) [AI L (A_ x y m u i ti j tj e te a ta),AF y xs] (λYa:Nat=>.next) (λq=>[AI L (A_ x y m u i ti (BJ (ns xs) a j) q e te a ta),AF y xs]):=by
 have h:=Ni (B:=B) (A:=A) (c:=(.whileLoop (EO D1) (FR D1) [] (Aq B L))) (l:=ns xs) (v:=a) (Fr:=λn t=>[AI L (A_ x y m u i ti n t e te a ta),AF y xs]) rfl
  (λn t h=>by obtain⟨k,hk⟩:=GV h;exact d_ O U.under L x y m u i ti n t e te a ta k xs hk hl rfl)
  (λn t w h hw=>by obtain⟨k,hk⟩:=GV h;exact p_ O U.under L x y m u i ti n t e te a ta w k xs hk hl ADp)
  ((ns xs).length-j) j tj (by rw[B3];lia) (by rw[B3];rw[BJ,B3] at hk;exact hk)
 exact AC.one (AC.Ht h.call)
theorem sn(U:AA 9 A){L x y m u i ti j tj e te a ta:Nat}{xs:Aa}{G:AN}(hF:Fs B A L G)(hl:xs.length<=1000)(hi:j<=xs.length)(hk:BJ (ns xs) a j=xs.length):
 BG B.C A (Ac [D1] (Aq B L)) ([AI L (A_ x y m u i ti j tj e te a ta),AF y xs]++G) (λd:XD=>J d.e) (λd=>Fu L (CL (L+323:Nat)) .none d++([AI L (A_ x y m u i ti xs.length d.k e te a ta),AF y xs]++G)):=by
 have B8:Bj 9 A:=U.h;have out: ∀t,AT B.C A (.whileLoop (EO D1) (FR D1) [] (Aq B L)) ([AI L (A_ x y m u i ti xs.length t e te a ta),AF y xs]++G) (λd:XD=>.error (J d.e)) (λd=>Fu L (CL (L+323:Nat)) .none d++([AI L (A_ x y m u i ti xs.length d.k e te a ta),AF y xs]++G)):=λt=>by
  obtain⟨outer,Hl,Qw⟩:=hF.all (A_ x y m u i ti xs.length t e te a ta) ([AI L (A_ x y m u i ti xs.length t e te a ta),AF y xs]++G) (λe he=>Ax _ he) (.head _)
  exact(AT.QU (ex:=λp:Nat×Nat=>p.1) ((sp O (A:=A.under (.whileLoop (EO D1) (FR D1) [] (Aq B L))) U.loop L x y m u i ti xs.length t e te a ta xs (Am _) ADp).frame G) λp=>GY O (A:=A.under (.whileLoop (EO D1) (FR D1) [] (Aq B L))) Hl rfl Qw).weaken λq=>⟨⟨q.1.1,q.1.2,q.2.1,q.2.2,t⟩,rfl,λR s S=>S⟩
 have h:=JS (B:=B) (A:=A) (c:=(.whileLoop (EO D1) (FR D1) [] (Aq B L))) (l:=ns xs) (v:=a) (Fr:=λn t=>[AI L (A_ x y m u i ti n t e te a ta),AF y xs]++G) rfl
  (λn t hq=>by obtain⟨k,hk⟩:=GV hq;exact(d_ O (A:=A.under (.whileLoop (EO D1) (FR D1) [] (Aq B L))) B8.under L x y m u i ti n t e te a ta k xs hk hl rfl).frame ([]++G)) (by rw[B3];exact out)
  ((ns xs).length-j) j tj (by rw[B3];lia) (by rw[BJ] at hk;rw[hk,B3])
 exact BG.one (BG.Ht (env:=Aq B L) rfl h)
theorem p8(U:Bj 9 A){L x y m u i ti j tj e te a ta:Nat}{xs:Aa}{h th:Nat}{tb:Value}{G:AN}(hh:A.handled=some (J h))(hF:Fs B A L G)(hl:xs.length<=1000)(hi:j<=xs.length)(hk:BJ (ns xs) a j=xs.length):
 BG B.C A (Ac [D1] (Aq B L)) ([AI L (A_ x y m u i ti j tj e te a ta),AF y xs,DD h th tb .none]++G) (λd:XD=>J d.e) (λd=>Fu L (CL (L+323:Nat)) (J h) d++([AI L (A_ x y m u i ti xs.length d.k e te a ta),AF y xs,DD h th tb .none]++G)):=by
 have B8:Bj 9 A:=U;have out: ∀t,AT B.C A (.whileLoop (EO D1) (FR D1) [] (Aq B L)) ([AI L (A_ x y m u i ti xs.length t e te a ta),AF y xs,DD h th tb .none]++G) (λd:XD=>.error (J d.e)) (λd=>Fu L (CL (L+323:Nat)) (J h) d++([AI L (A_ x y m u i ti xs.length d.k e te a ta),AF y xs,DD h th tb .none]++G)):=λt=>by
  obtain⟨outer,Hl,Qw⟩:=hF.all (A_ x y m u i ti xs.length t e te a ta) ([AI L (A_ x y m u i ti xs.length t e te a ta),AF y xs,DD h th tb .none]++G) (λe he=>Ax _ he) (.head _)
  exact(AT.QU (ex:=λp:Nat×Nat=>p.1) ((p9 O (A:=A.under (.whileLoop (EO D1) (FR D1) [] (Aq B L))) U.under L x y m u i ti xs.length t e te a ta h th tb xs hh (Am _) ADp).frame G) λp=>GY O (A:=A.under (.whileLoop (EO D1) (FR D1) [] (Aq B L))) Hl rfl Qw).weaken λq=>⟨⟨q.1.1,q.1.2,q.2.1,q.2.2,t⟩,rfl,λR s S=>S⟩
 have h:=JS (B:=B) (A:=A) (c:=(.whileLoop (EO D1) (FR D1) [] (Aq B L))) (l:=ns xs) (v:=a) (Fr:=λn t=>[AI L (A_ x y m u i ti n t e te a ta),AF y xs,DD h th tb .none]++G) rfl
  (λn t hq=>by obtain⟨k,hk⟩:=GV hq;exact(d_ O (A:=A.under (.whileLoop (EO D1) (FR D1) [] (Aq B L))) B8.under L x y m u i ti n t e te a ta k xs hk hl rfl).frame ([DD h th tb .none]++G)) (by rw[B3];exact out)
  ((ns xs).length-j) j tj (by rw[B3];lia) (by rw[BJ] at hk;rw[hk,B3])
 exact BG.one (BG.Ht (env:=Aq B L) rfl h)
omit O
section
variable{B:Bx}{A:AL}
theorem aC{α:Type}{AAX:String}{L:Nat}{fl cx:Value}{env:Env}{d:XD}(hf:env.frame=some (L+323)):BG B.C A (PySem.passOn AAX (J d.e) env:Sem α) (Fu L fl cx d) (λYa:Unit=>J d.e) (λYa=>Fu L (CL (L+323:Nat)) cx d):=λR s S=>by
 unfold PySem.passOn;refine AB (B9 (DV S) rfl (x:=J d.b) rfl ?_);rw[if_neg (show¬((J d.b==CU)=true) from by simp),hf]
 have k:=Av (GH (C:=B.C) (A:=A) (L:=L) (e:=d.e) (t:=d.t) (b:=d.b) (cx:=cx) (fl:=fl) (p:=d.p) (some (L+323)) R s S) (Q':=λYa s₂=>BN B.C.M A (throw (J d.e):Sem α) (λYa Ya=>False) (λe s'=> ∃_:Unit,e=J d.e/\St B.C (Fu L (CL (L+323:Nat)) cx d++R) s') s₂) (E':=λe s'=> ∃_:Unit,e=J d.e/\St B.C (Fu L (CL (L+323:Nat)) cx d++R) s') (λYa s₂ ⟨_,_,S₂⟩=>R2 ⟨(),rfl,S₂⟩) λYa Ya q=>q.elim
 first
  |exact AB (AP (AB k))
  |exact AB k
theorem Rl{A1 A2:AL}{L:Nat}{cx:Value}{env:Env}{d:XD}{R:AN}{s:Af}{E:Value->Af->Prop}(hf:env.frame=some (L+323))(S:St B.C (Fu L (CL (L+323:Nat)) cx d++R) s)
 (h: ∀s',St B.C (Fu L (CL (L+323:Nat)) cx d++R) s'->E (J d.e) s'):notedBy B.C.M A1 env (cameBackBy B.C.M A2 env E) (J d.e) s:=by
 unfold notedBy;refine AC.wp (GZ hf) S λYa s₁ S₁=>?_;unfold cameBackBy;refine AB (B9 (DV S₁) rfl (x:=J d.b) rfl ?_);rw[if_neg (show¬((J d.b==CU)=true) from by simp),hf]
 have k:=Av (GH (C:=B.C) (A:=A2) (L:=L) (e:=d.e) (t:=d.t) (b:=d.b) (cx:=cx) (fl:=CL (L+323:Nat)) (p:=d.p) (some (L+323)) R s₁ S₁) (Q':=λYa xY=>E (J d.e) xY) (E':=E) (λYa s₂ ⟨_,_,S₂⟩=>h _ S₂) λYa Ya q=>q.elim
 first
  |exact AB (AP k)
  |exact k
end
abbrev OQ(L x y m u i ti j tj e te a ta:Nat)(xs ys:Aa):AN:=[AI L (A_ x y m u i ti j tj e te a ta),AF x xs,AF y ys]
section
variable{B:Bx}{A:AL}{L x y m u i ti j tj e te a ta:Nat}{xs ys:Aa}{G:AN}
theorem eU(O:B.C.Ok)(U:Bj 9 A)(hm:ys.length<=1000)(hj:j<ys.length)(hk:BJ (ns ys) a (j+1)<ys.length):
 AC B.C A (Ac Mp (Aq B L)) [AI L (A_ x y m u i ti j tj e te a ta),AF y ys] (λYa:Nat=>.next) (λq=>[AI L (A_ x y m u i ti (BJ (ns ys) a (j+1)) q e te a ta),AF y ys]):=by
 exact AC.seq (l1:=Mp.take 1) (l2:=[D1]) ((d7 O U.l L x y m u i ti j tj e te a ta).frame [AF y ys]) λq=>sq O U hm (hj) hk
theorem ly(O:B.C.Ok)(U:AA 9 A)(hF:Fs B A L G)(hm:ys.length<=1000)(hj:j<ys.length)(hk:BJ (ns ys) a (j+1)=ys.length):
 BG B.C A (Ac Mp (Aq B L)) ([AI L (A_ x y m u i ti j tj e te a ta),AF y ys]++G) (λd:XD=>J d.e) (λd=>Fu L (CL (L+323:Nat)) .none d++([AI L (A_ x y m u i ti ys.length d.k e te a ta),AF y ys]++G)):=by
 exact BG.seq (l1:=Mp.take 1) (l2:=[D1]) ((d7 O (U.h.le (Fv _ _:8<=9)) L x y m u i ti j tj e te a ta).frame ([AF y ys]++G)) λq=>sn O U hF hm (hj) hk
theorem h_(O:B.C.Ok)(U:Bj 9 A){h th:Nat}{tb:Value}(hh:A.handled=some (J h))(hF:Fs B A L G)(hm:ys.length<=1000)(hj:j<ys.length)(hk:BJ (ns ys) a (j+1)=ys.length):
 BG B.C A (Ac Mp (Aq B L)) ([AI L (A_ x y m u i ti j tj e te a ta),AF y ys,DD h th tb .none]++G) (λd:XD=>J d.e) (λd=>Fu L (CL (L+323:Nat)) (J h) d++([AI L (A_ x y m u i ti ys.length d.k e te a ta),AF y ys,DD h th tb .none]++G)):=by
 exact BG.seq (l1:=Mp.take 1) (l2:=[D1]) ((d7 O U.l L x y m u i ti j tj e te a ta).frame ([AF y ys,DD h th tb .none]++G)) λq=>p8 O U hh hF hm (hj) hk
theorem E5:(Aq B L).frame=some (L+323):=rfl
theorem sV(O:B.C.Ok)(U:AA 10 A)(hl:xs.length<=1000)(hm:ys.length<=1000)(hi:i<=xs.length)(hj:j<ys.length)(h3:BJ (ns xs) e i<xs.length)(h4:BJ (ns ys) a (j+1)<ys.length):
 AC B.C A (Ac (Jn.drop 1) (Aq B L)) (OQ L x y m u i ti j tj e te a ta xs ys) (λYa:Nat×Nat=>.next) (λq=>OQ L x y m u (BJ (ns xs) e i) q.1 (BJ (ns ys) a (j+1)) q.2 e te a ta xs ys):=by
 refine AC.one (st:=.Try [FY] [] [] Mp _) λR s S=>?_;refine H5 (AC.wp (fH O U.lh hl hi h3) S λq s₁ S₁=>?_);refine Fy ?_;refine AC.wp (eU O U.lh hm hj h4) (St.picked (L:=[_,_,_]) (ix:=[0,1,0]) S₁ (F:=[AI L (A_ x y m u (BJ (ns xs) e i) q j tj e te a ta),AF y ys,AF x xs]) rfl) λq2 s₂ S₂=>?_;exact⟨(q,q2),rfl,St.picked (L:=[_,_,_]) (ix:=[0,1,0]) S₂ rfl⟩
theorem xi(O:B.C.Ok)(U:AA 10 A)(hF:Fs B A L G)(hl:xs.length<=1000)(hm:ys.length<=1000)(hi:i<=xs.length)(hj:j<ys.length)(h3:BJ (ns xs) e i=xs.length)(h4:BJ (ns ys) a (j+1)<ys.length):
 BG B.C A (Ac (Jn.drop 1) (Aq B L)) (OQ L x y m u i ti j tj e te a ta xs ys++G) (λd:XD×Nat=>J d.1.e) (λd=>Fu L (CL (L+323:Nat)) .none d.1++(OQ L x y m u xs.length d.1.k (BJ (ns ys) a (j+1)) d.2 e te a ta xs ys++G)):=by
 refine BG.one (st:=.Try [FY] [] [] Mp _) λR s S=>?_;have S0:St B.C (([AI L (A_ x y m u i ti j tj e te a ta),AF x xs]++G)++(AF y ys::R)) s:=S.perm (by
  show(AI L _::AF x xs::AF y ys::(G++R)).Perm (AI L _::AF x xs::(G++(AF y ys::R)))
  exact .cons _ (.cons _ List.perm_middle.symm))
 refine H5 (BG.wp (fG O U.l hF hl hi h3) S0 λd s₁ S₁=>?_);have S1:St B.C (Fu L (CL (L+323:Nat)) .none d++([AI L (A_ x y m u xs.length d.k j tj e te a ta),AF y ys]++(AF x xs::(G++R)))) s₁:=S₁.perm (by
  show(_::_::AI L _::AF x xs::(G++(AF y ys::R))).Perm (_::_::AI L _::AF y ys::AF x xs::(G++R))
  exact .cons _ (.cons _ (.cons _ ((BY _ BH).trans (.swap _ _ _)))))
 refine AC.wp (GZ E5) S1 λYa s₂ S₂=>?_;refine⟨O1 _,?_⟩;refine AC.wp (GZ E5) S₂ λYa s₃ S₃=>?_;refine AC.wp (GH none) S₃ λYa s₄ S₄=>?_;have S4:St B.C ([AI L (A_ x y m u xs.length d.k j tj e te a ta),AF y ys]++(Fu L .none .none d++(AF x xs::(G++R)))) s₄:=S₄.perm (by
  show(_::_::AI L _::AF y ys::_).Perm (AI L _::AF y ys::_::_::_)
  exact(BY _ (.swap _ _ _)).trans ((Ae _ _ _).trans (.cons _ ((BY _ (.swap _ _ _)).trans (.swap _ _ _)))))
 refine AC.wp (eU O (A:=A.mark (some (J d.e))) U.lh hm hj h4) S4 λq2 s₅ S₅=>?_;have S5:St B.C (Fu L .none .none d++([AI L (A_ x y m u xs.length d.k (BJ (ns ys) a (j+1)) q2 e te a ta),AF y ys]++(AF x xs::(G++R)))) s₅:=S₅.perm (by
  show(AI L _::AF y ys::_::_::_).Perm (_::_::AI L _::AF y ys::_)
  exact((BY _ (.swap _ _ _)).trans (.swap _ _ _)).trans (.cons _ ((BY _ (.swap _ _ _)).trans (.swap _ _ _))))
 refine Av (aC E5 _ s₅ S5) (λYa Ya q=>q.elim) λex s₆ ⟨_,e6,S₆⟩=>?_;refine⟨(d,q2),e6,S₆.perm ?_⟩
 show(_::_::AI L _::AF y ys::AF x xs::(G++R)).Perm (_::_::AI L _::AF x xs::AF y ys::(G++R))
 exact .cons _ (.cons _ (.cons _ (.swap _ _ _)))
theorem xj(O:B.C.Ok)(U:AA 10 A)(hF:Fs B A L G)(hl:xs.length<=1000)(hm:ys.length<=1000)(hi:i<=xs.length)(hj:j<ys.length)(h3:BJ (ns xs) e i<xs.length)(h4:BJ (ns ys) a (j+1)=ys.length):
 BG B.C A (Ac (Jn.drop 1) (Aq B L)) (OQ L x y m u i ti j tj e te a ta xs ys++G) (λd:XD×Nat=>J d.1.e) (λd=>Fu L (CL (L+323:Nat)) .none d.1++(OQ L x y m u (BJ (ns xs) e i) d.2 ys.length d.1.k e te a ta xs ys++G)):=by
 refine BG.one (st:=.Try [FY] [] [] Mp _) λR s S=>?_;have S0:St B.C ([AI L (A_ x y m u i ti j tj e te a ta),AF x xs]++(AF y ys::(G++R))) s:=S;refine H5 (AC.wp (fH O U.lh hl hi h3) S0 λq s₁ S₁=>?_);refine Fy ?_;have S1:St B.C (([AI L (A_ x y m u (BJ (ns xs) e i) q j tj e te a ta),AF y ys]++G)++(AF x xs::R)) s₁:=S₁.perm (by
  show(AI L _::AF x xs::AF y ys::(G++R)).Perm (AI L _::AF y ys::(G++(AF x xs::R)))
  exact .cons _ ((Ae _ _ _).trans (.cons _ List.perm_middle.symm)))
 refine BG.wp (ly O U.l hF hm hj h4) S1 λd s₂ S₂=>?_;have S2:St B.C (Fu L (CL (L+323:Nat)) .none d++(([AI L (A_ x y m u (BJ (ns xs) e i) q ys.length d.k e te a ta),AF y ys]++G)++(AF x xs::R))) s₂:=by rw[<-AG];exact S₂
 refine Rl E5 S2 λs' S'=>⟨(d,q),rfl,S'.perm ?_⟩
 show(_::_::AI L _::AF y ys::(G++(AF x xs::R))).Perm (_::_::AI L _::AF x xs::AF y ys::(G++R))
 exact .cons _ (.cons _ (.cons _ ((BY _ BH).trans (.swap _ _ _))))
theorem xk(O:B.C.Ok)(U:AA 10 A)(hF:Fs B A L G)(hl:xs.length<=1000)(hm:ys.length<=1000)(hi:i<=xs.length)(hj:j<ys.length)(h3:BJ (ns xs) e i=xs.length)(h4:BJ (ns ys) a (j+1)=ys.length):
 BG B.C A (Ac (Jn.drop 1) (Aq B L)) (OQ L x y m u i ti j tj e te a ta xs ys++G) (λd:XD×Nat×Value=>J d.1.e) (λd=>Fu L (CL (L+323:Nat)) d.2.2 d.1++(OQ L x y m u xs.length d.2.1 ys.length d.1.k e te a ta xs ys++G)):=by
 refine BG.one (st:=.Try [FY] [] [] Mp _) λR s S=>?_;have S0:St B.C (([AI L (A_ x y m u i ti j tj e te a ta),AF x xs]++G)++(AF y ys::R)) s:=S.perm (by
  show(AI L _::AF x xs::AF y ys::(G++R)).Perm (AI L _::AF x xs::(G++(AF y ys::R)))
  exact .cons _ (.cons _ List.perm_middle.symm))
 refine H5 (BG.wp (fG O U.l hF hl hi h3) S0 λd s₁ S₁=>?_);have S1:St B.C (Fu L (CL (L+323:Nat)) .none d++([AI L (A_ x y m u xs.length d.k j tj e te a ta),AF y ys]++(AF x xs::(G++R)))) s₁:=S₁.perm (by
  show(_::_::AI L _::AF x xs::(G++(AF y ys::R))).Perm (_::_::AI L _::AF y ys::AF x xs::(G++R))
  exact .cons _ (.cons _ (.cons _ ((BY _ BH).trans (.swap _ _ _)))))
 refine AC.wp (GZ E5) S1 λYa s₂ S₂=>?_;refine⟨O1 _,?_⟩;refine AC.wp (GZ E5) S₂ λYa s₃ S₃=>?_;refine AC.wp (GH none) S₃ λYa s₄ S₄=>?_;have S4:St B.C (([AI L (A_ x y m u xs.length d.k j tj e te a ta),AF y ys,DD d.e d.t (J d.b) .none]++G)++(AF x xs::MW d.b L .none d.p::R)) s₄:=S₄.perm (by
  show(DD d.e d.t (J d.b) .none::MW d.b L .none d.p::AI L _::AF y ys::AF x xs::(G++R)).Perm (AI L _::AF y ys::DD d.e d.t (J d.b) .none::(G++(AF x xs::MW d.b L .none d.p::R)))
  refine .trans (.cons _ (.trans (.swap _ _ _) (.cons _ (.swap _ _ _)))) (.trans (.swap _ _ _) (.cons _ (.trans (.swap _ _ _) (.cons _ (.cons _ ?_)))));refine .trans (.swap _ _ _) (.trans (.cons _ List.perm_middle.symm) List.perm_middle.symm))
 have hh:(A.mark (some (J d.e))).handled=some (J d.e):=rfl;refine BG.wp (h_ O (A:=A.mark (some (J d.e))) U.lh hh (G:=G) ⟨hF.fr⟩ hm hj h4) S4 λd2 s₅ S₅=>?_;have S5:St B.C (Fu L (CL (L+323:Nat)) (J d.e) d2++(([AI L (A_ x y m u xs.length d.k ys.length d2.k e te a ta),AF y ys,DD d.e d.t (J d.b) .none]++G)++(AF x xs::MW d.b L .none d.p::R))) s₅:=by rw[<-AG];exact S₅
 refine Rl E5 S5 λs' S'=>⟨(d2,d.k,J d.e),rfl,?_⟩;have S6:St B.C ((Fu L (CL (L+323:Nat)) (J d.e) d2++(OQ L x y m u xs.length d.k ys.length d2.k e te a ta xs ys++G))++(R++[DD d.e d.t (J d.b) .none,MW d.b L .none d.p])) s':=S'.perm (by
  show(_::_::AI L _::AF y ys::DD d.e d.t (J d.b) .none::(G++(AF x xs::MW d.b L .none d.p::R))).Perm (_::_::AI L _::AF x xs::AF y ys::(G++(R++[DD d.e d.t (J d.b) .none,MW d.b L .none d.p])))
  refine .cons _ (.cons _ (.cons _ ?_));refine .trans (.cons _ (.cons _ BH)) ?_;refine .trans (.cons _ (.swap _ _ _)) (.trans (.swap _ _ _) (.cons _ (.cons _ ?_)));refine .trans (.cons _ BH) ?_;rw[<-AG];exact A9 (l₁:=[DD d.e d.t (J d.b) .none,MW d.b L .none d.p]))
 rw[<-AG] at S6;exact S6.drop
end
noncomputable def ug:ExceptHandler->List ExceptHandler|.ExceptHandler t _ _ p=>[.ExceptHandler t none [] p]
noncomputable def mG:ExceptHandler->List ExceptHandler|.ExceptHandler _ n b p=>[.ExceptHandler none n b p]
def PT:ExceptHandler:=Rq.headD Au
include O
theorem iK(U:Bj 8 A)(L e t:Nat)(tb cx:Value):
 AS B A (BM (.handlers (J e) (ug PT) (Aq B L))) [DD e t tb cx] (Az LQ) [DD e t tb cx]:=by
 obtain⟨_,_|_⟩:=B<;>exact Mu O (.g 266240<|.fi () [0])
theorem ui(U:Bj 8 A)(L x y m u i ti j tj e t b:Nat)(fl cx:Value)(p:Sd)(xs ys ms us:Aa)(h1:xs.length<=1000)(h2:ys.length<=1000)(h3:ms.length<=1000)(h4:us.length<=1000)(h5:(xs.drop i).length<=1000)(h6:(ys.drop j).length<=1000):
 AS B A (BM (.handlers (J e) (mG PT) (Aq B L))) [DD e t (J b) cx,MW b L fl p,AI L (Nj x y m u i ti j tj),AF x xs,AF y ys,AF m ms,AF u us] (Az LQ) [AI L (Nj x y m u i ti j tj),AF x xs,AF y ys,AF m (ms++xs.drop i),AF u (us++ys.drop j)]:=by
 obtain⟨_,_|_⟩:=B<;>exact Mu O (.g 1207835932205387905<|.al λa0=>.g 282949<|.cc (GU _ _ O U.l x a0 i ti xs h1) [4,0] λy1=>.cc (GS _ _ O U.l m y1 ms (Cd i xs) h3 h5) [7,0] λYa=>.g 4886752432711<|.al λa3=>.g 299593<|.cc (GU _ _ O U.l y a3 j tj ys h2) [8,0] λy4=>.cc (GS _ _ O U.l u y4 us (Cd j ys) h4 h6) [10,0] λYa=>.fi () [10,6,2,3,0])
theorem pC(U:AA 8 A)(L x y m u i ti j tj:Nat):
 AC B.C A (Ac ((A4 B.P 227).drop 4) (Aq B L)) [AI L (Nj x y m u i ti j tj)]
  (λa:Nat=>.ret (J a))
  (λa=>[AV a [J m,J u]]):=Ix O U (.g 4161<|.al λa0=>.fi (a0) [0])
theorem uj(U:Bj 8 A)(L x y m u i ti j tj v k e t b:Nat)(fl cx:Value)(p:Sd)(xs ys ms us:Aa)(h1:xs.length<=1000)(h2:ys.length<=1000)(h3:ms.length<=1000)(h4:us.length<=1000)(h5:(xs.drop i).length<=1000)(h6:(ys.drop j).length<=1000):
 AS B A (BM (.handlers (J e) (mG PT) (Aq B L))) [DD e t (J b) cx,MW b L fl p,AI L (WA x y m u i ti j tj v k),AF x xs,AF y ys,AF m ms,AF u us] (Az LQ) [AI L (WA x y m u i ti j tj v k),AF x xs,AF y ys,AF m (ms++xs.drop i),AF u (us++ys.drop j)]:=by
 obtain⟨_,_|_⟩:=B<;>exact Mu O (.g 1207835932205387905<|.al λa0=>.g 282949<|.cc (GU _ _ O U.l x a0 i ti xs h1) [4,0] λy1=>.cc (GS _ _ O U.l m y1 ms (Cd i xs) h3 h5) [7,0] λYa=>.g 4886752432711<|.al λa3=>.g 299593<|.cc (GU _ _ O U.l y a3 j tj ys h2) [8,0] λy4=>.cc (GS _ _ O U.l u y4 us (Cd j ys) h4 h6) [10,0] λYa=>.fi () [10,6,2,3,0])
theorem pD(U:AA 8 A)(L x y m u i ti j tj v k:Nat):
 AC B.C A (Ac ((A4 B.P 227).drop 4) (Aq B L)) [AI L (WA x y m u i ti j tj v k)]
  (λa:Nat=>.ret (J a))
  (λa=>[AV a [J m,J u]]):=Ix O U (.g 4161<|.al λa0=>.fi (a0) [0])
theorem uk(U:Bj 8 A)(L x y m u i ti j tj v k w q e t b:Nat)(fl cx:Value)(p:Sd)(xs ys ms us:Aa)(h1:xs.length<=1000)(h2:ys.length<=1000)(h3:ms.length<=1000)(h4:us.length<=1000)(h5:(xs.drop i).length<=1000)(h6:(ys.drop j).length<=1000):
 AS B A (BM (.handlers (J e) (mG PT) (Aq B L))) [DD e t (J b) cx,MW b L fl p,AI L (A_ x y m u i ti j tj v k w q),AF x xs,AF y ys,AF m ms,AF u us] (Az LQ) [AI L (A_ x y m u i ti j tj v k w q),AF x xs,AF y ys,AF m (ms++xs.drop i),AF u (us++ys.drop j)]:=by
 obtain⟨_,_|_⟩:=B<;>exact Mu O (.g 1207835932205387905<|.al λa0=>.g 282949<|.cc (GU _ _ O U.l x a0 i ti xs h1) [4,0] λy1=>.cc (GS _ _ O U.l m y1 ms (Cd i xs) h3 h5) [7,0] λYa=>.g 4886752432711<|.al λa3=>.g 299593<|.cc (GU _ _ O U.l y a3 j tj ys h2) [8,0] λy4=>.cc (GS _ _ O U.l u y4 us (Cd j ys) h4 h6) [10,0] λYa=>.fi () [10,6,2,3,0])
theorem pE(U:AA 8 A)(L x y m u i ti j tj v k w q:Nat):
 AC B.C A (Ac ((A4 B.P 227).drop 4) (Aq B L)) [AI L (A_ x y m u i ti j tj v k w q)]
  (λa:Nat=>.ret (J a))
  (λa=>[AV a [J m,J u]]):=Ix O U (.g 4161<|.al λa0=>.fi (a0) [0])
theorem jd(U:AA 8 A)(L x y:Nat):
 AC B.C A (Ac ((A4 B.P 227).take 3) (Aq B L)) [AI L [(HW,J x),(JT,J y)]]
  (λq:Nat×Nat×Nat=>.next)
  (λq=>[AI L (Nj x y q.2.1 q.2.2 0 q.1 0 q.1),AE q.2.1 [],AE q.2.2 []]):=Ix O U (.fr λk0=>.fr λk1=>.g 6145<|.fr λk2=>.g 6145<|.al λa3=>.fr λk4=>.g 6210<|.al λa5=>.fr λk6=>.g 6275<|.fi (k0,a3,a5) [2,1,0])
structure TE where
 d:XD
 cx:Value
 ti:Nat
 tj:Nat
def tI(X:Ay)(i e a:Nat):Nat:=if e<a then BJ X e (i+1) else if a<e then i else BJ X e (i+1)
def tJ(Y:Ay)(j e a:Nat):Nat:=if e<a then j else BJ Y a (j+1)
noncomputable def tM{α:Type}(ms:List α)(q:α)(e a:Nat):List α:=if e<a then ms++[q] else ms
noncomputable def tU{α:Type}(us:List α)(q:α)(e a:Nat):List α:=if e<a then us else if a<e then us++[q] else us
def xZ:Pos:=match Eg with|[.If _ _ _ p]=>p|_=>Au
def xc:Pos:=match PL Eg with|[.If _ _ _ p]=>p|_=>Au
omit O
theorem aF:Eg=[.If (P8 Eg) (U6 Eg) (PL Eg) xZ]:=by kernel_rfl
theorem aE:PL Eg=[.If (P8 (PL Eg)) (U6 (PL Eg)) Jn xc]:=by kernel_rfl
theorem ez:(U6 Eg).take 2++[GI]=U6 Eg:=by kernel_rfl
theorem e5:(U6 (PL Eg)).take 2++[GJ]=U6 (PL Eg):=by kernel_rfl
theorem IW{l:Ay}{v i:Nat}(h:i<=l.length):BJ l v i<=l.length:=V_ ADp
section
variable{B:Bx}{A:AL}{L x y m u i ti j tj e te a ta:Nat}{xs ys ms us:Aa}{G:AN}
theorem lm(O:B.C.Ok)(U:AA 10 A)(hl:xs.length<=1000)(hm:ys.length<=1000)(hi:i<xs.length)(hj:j<ys.length)(h3:BJ (ns xs) e (i+1)<xs.length)(h4:BJ (ns ys) a (j+1)<ys.length):
 AC B.C A (Ac Jn (Aq B L)) (OQ L x y m u i ti j tj e te a ta xs ys) (λYa:Nat×Nat=>.next) (λq=>OQ L x y m u (BJ (ns xs) e (i+1)) q.1 (BJ (ns ys) a (j+1)) q.2 e te a ta xs ys):=by
 have:=AC.seq (l1:=Jn.take 1) (l2:=Jn.drop 1) ((o8 O U.l L x y m u i ti j tj e te a ta).frame [AF x xs,AF y ys]) λq=>sV O U hl hm ADp hj h3 h4
 rwa [CQ] at this
theorem hO(O:B.C.Ok)(U:AA 10 A)(hF:Fs B A L G)(hl:xs.length<=1000)(hm:ys.length<=1000)(hi:i<xs.length)(hj:j<ys.length)(h:BJ (ns xs) e (i+1)=xs.length∨BJ (ns ys) a (j+1)=ys.length):
 BG B.C A (Ac Jn (Aq B L)) (OQ L x y m u i ti j tj e te a ta xs ys++G) (λq:TE=>J q.d.e) (λq=>Fu L (CL (L+323:Nat)) q.cx q.d++(OQ L x y m u (BJ (ns xs) e (i+1)) q.ti (BJ (ns ys) a (j+1)) q.tj e te a ta xs ys++G)):=by
 have key: ∀q,BG B.C A (Ac (Jn.drop 1) (Aq B L)) (OQ L x y m u (i+1) q j tj e te a ta xs ys++G) (λq:TE=>J q.d.e) (λq=>Fu L (CL (L+323:Nat)) q.cx q.d++(OQ L x y m u (BJ (ns xs) e (i+1)) q.ti (BJ (ns ys) a (j+1)) q.tj e te a ta xs ys++G)):=λq=>by
  have l3:BJ (ns xs) e (i+1)<=xs.length:=by have:=IW (l:=ns xs) (v:=e) (i:=i+1) (by rw[B3];lia);rwa [B3] at this
  have l4:BJ (ns ys) a (j+1)<=ys.length:=by have:=IW (l:=ns ys) (v:=a) (i:=j+1) (by rw[B3];lia);rwa [B3] at this
  have Tb:i+1<=xs.length:=hi
  by_cases h3:BJ (ns xs) e (i+1)=xs.length
  ·by_cases h4:BJ (ns ys) a (j+1)=ys.length
   ·have z:=xk (B:=B) (A:=A) (L:=L) (x:=x) (y:=y) (m:=m) (u:=u) (i:=i+1) (ti:=q) (j:=j) (tj:=tj) (e:=e) (te:=te) (a:=a) (ta:=ta) (xs:=xs) (ys:=ys) (G:=G) O U hF hl hm Tb hj h3 h4
    rw[h3,h4];exact BG.weaken (Y:=TE) z λq=>⟨⟨q.1,q.2.2,q.2.1,q.1.k⟩,rfl,λR s S=>S⟩
   ·have z:=xi (B:=B) (A:=A) (L:=L) (x:=x) (y:=y) (m:=m) (u:=u) (i:=i+1) (ti:=q) (j:=j) (tj:=tj) (e:=e) (te:=te) (a:=a) (ta:=ta) (xs:=xs) (ys:=ys) (G:=G) O U hF hl hm Tb hj h3 (HK l4 h4)
    rw[h3];exact BG.weaken (Y:=TE) z λq=>⟨⟨q.1,.none,q.1.k,q.2⟩,rfl,λR s S=>S⟩
  ·have h4:BJ (ns ys) a (j+1)=ys.length:=h.resolve_left h3
   rw[h4];exact BG.weaken (Y:=TE) (xj (B:=B) (A:=A) (L:=L) (x:=x) (y:=y) (m:=m) (u:=u) (i:=i+1) (ti:=q) (j:=j) (tj:=tj) (e:=e) (te:=te) (a:=a) (ta:=ta) (xs:=xs) (ys:=ys) (G:=G) O U hF hl hm Tb hj (HK l3 h3) h4) λq=>⟨⟨q.1,.none,q.2,q.1.k⟩,rfl,λR s S=>S⟩
 have:=BG.seq (l1:=Jn.take 1) (l2:=Jn.drop 1) ((o8 O U.l L x y m u i ti j tj e te a ta).frame ([AF x xs,AF y ys]++G)) key
 rwa [CQ] at this
abbrev Q8(L x y m u i ti j tj e te a ta:Nat)(xs ys ms us:Aa):AN:=OQ L x y m u i ti j tj e te a ta xs ys++[AF m ms,AF u us]
theorem QA(ms:Aa)(e te:Nat):ms.map iv++[Be (e:Int) te]=(ms++[(e,te)]).map iv:=by rw[AZ];rfl
theorem om(O:B.C.Ok)(U:AA 10 A)(hl:xs.length<=1000)(hm:ys.length<=1000)(mZ:ms.length<=1000)(mh:us.length<=1000)(hi:i<xs.length)(hj:j<ys.length)(hI:tI (ns xs) i e a<xs.length)(hJ:tJ (ns ys) j e a<ys.length):
 AC B.C A (Ac Eg (Aq B L)) (Q8 L x y m u i ti j tj e te a ta xs ys ms us) (λYa:Nat×Nat=>.next) (λq=>Q8 L x y m u (tI (ns xs) i e a) q.1 (tJ (ns ys) j e a) q.2 e te a ta xs ys (tM ms (e,te) e a) (tU us (a,ta) e a)):=by
 rw[aF]
 by_cases c1:e<a
 ·simp only[tI,tJ,tM,tU,if_pos c1] at hI hJ⊢
  have ht:=pB O U.l L x y m u i ti j tj e te a ta ADp
  have hb:=o5 O U.l L x y m u i ti j tj e te a ta (ms.map iv) (by rw[AD];exact mZ)
  rw[QA] at hb;refine AC.one (AC.MM (b:=true) (led1:=λYa:Unit=>Q8 L x y m u i ti j tj e te a ta xs ys ms us) (ht.frame _) λYa=>?_);rw[if_pos rfl,<-ez];refine AC.seq (led1:=λq:Nat=>[AI L (A_ x y m u (i+1) q j tj e te a ta),AF x xs]++[AF y ys,AF m (ms++[(e,te)]),AF u us]) ?_ λq=>?_
  ·refine((hb.frame [AF x xs,AF y ys,AF u us]).ix [0,2,0,0,0] rfl).post λq R s S=>St.picked (L:=[_,_,_,_,_]) (ix:=[0,1,1,0,0]) S rfl
  ·exact((sf O U.lh hl ADp hI).frame [AF y ys,AF m (ms++[(e,te)]),AF u us]).weaken λq=>⟨(q,tj),rfl,λR s S=>S⟩
 ·have ht:=e8 O U.l L x y m u i ti j tj e te a ta ADp
  refine AC.one (AC.MM (b:=false) (led1:=λYa:Unit=>Q8 L x y m u i ti j tj e te a ta xs ys ms us) (ht.frame _) λYa=>?_);rw[if_neg BP,aE]
  by_cases c2:a<e
  ·simp only[tI,tJ,tM,tU,if_neg c1,if_pos c2] at hI hJ⊢
   have hg:=o_ O U.l L x y m u i ti j tj e te a ta ADp
   have hb:=o7 O U.l L x y m u i ti j tj e te a ta (us.map iv) (by rw[AD];exact mh)
   rw[QA] at hb;refine AC.one (AC.MM (b:=true) (led1:=λYa:Unit=>Q8 L x y m u i ti j tj e te a ta xs ys ms us) (hg.frame _) λYa=>?_);rw[if_pos rfl,<-e5];refine AC.seq (led1:=λq:Nat=>[AI L (A_ x y m u i ti (j+1) q e te a ta),AF y ys]++[AF x xs,AF m ms,AF u (us++[(a,ta)])]) ?_ λq=>?_
   ·refine((hb.frame [AF x xs,AF y ys,AF m ms]).ix [0,3,0,0,0] rfl).post λq R s S=>St.picked (L:=[_,_,_,_,_]) (ix:=[0,2,1,1,0]) S rfl
   ·refine((sj O U.lh hm ADp hJ).frame [AF x xs,AF m ms,AF u (us++[(a,ta)])]).weaken λq=>⟨(ti,q),rfl,pk [0,1,0,0,0] rfl⟩
  ·simp only[tI,tJ,tM,tU,if_neg c1,if_neg c2] at hI hJ⊢
   refine AC.one (AC.MM (b:=false) (led1:=λYa:Unit=>Q8 L x y m u i ti j tj e te a ta xs ys ms us) ((e7 O U.l L x y m u i ti j tj e te a ta ADp).frame _) λYa=>?_)
   rw[if_neg BP]
   exact(lm O U hl hm hi hj hI hJ).frame [AF m ms,AF u us]
theorem jU(O:B.C.Ok)(U:AA 10 A)(hF:Fs B A L G)(hl:xs.length<=1000)(hm:ys.length<=1000)(mZ:ms.length<=1000)(mh:us.length<=1000)(hi:i<xs.length)(hj:j<ys.length)(h:tI (ns xs) i e a=xs.length∨tJ (ns ys) j e a=ys.length):
 BG B.C A (Ac Eg (Aq B L)) (Q8 L x y m u i ti j tj e te a ta xs ys ms us++G) (λq:TE=>J q.d.e) (λq=>Fu L (CL (L+323:Nat)) q.cx q.d++(Q8 L x y m u (tI (ns xs) i e a) q.ti (tJ (ns ys) j e a) q.tj e te a ta xs ys (tM ms (e,te) e a) (tU us (a,ta) e a)++G)):=by
 rw[aF]
 by_cases c1:e<a
 ·simp only[tI,tJ,tM,tU,if_pos c1] at h⊢
  have h':BJ (ns xs) e (i+1)=xs.length:=h.resolve_right ADp
  have ht:=pB O U.l L x y m u i ti j tj e te a ta ADp
  have hb:=o5 O U.l L x y m u i ti j tj e te a ta (ms.map iv) (by rw[AD];exact mZ)
  rw[QA] at hb;refine BG.one (BG.MM (b:=true) (led1:=λYa:Unit=>Q8 L x y m u i ti j tj e te a ta xs ys ms us++G) (ht.frame ([AF x xs,AF y ys,AF m ms,AF u us]++G)) λYa=>?_);rw[if_pos rfl,<-ez];refine BG.seq (led1:=λq:Nat=>([AI L (A_ x y m u (i+1) q j tj e te a ta),AF x xs]++G)++[AF y ys,AF m (ms++[(e,te)]),AF u us]) ?_ λq=>?_
  ·refine((hb.frame ([AF x xs,AF y ys,AF u us]++G)).pre λR s S=>St.picked (L:=[_,_,_,_,_]) (R:=G++R) (ix:=[0,2,0,0,0]) S rfl).post λq R s S=>?_
   have S1:St B.C ([AI L (A_ x y m u (i+1) q j tj e te a ta),AF m (ms++[(e,te)]),AF x xs,AF y ys,AF u us]++(G++R)) s:=S;refine S1.perm ?_
   show(AI L _::AF m _::AF x xs::AF y ys::AF u us::(G++R)).Perm (AI L _::AF x xs::((G++[AF y ys,AF m (ms++[(e,te)]),AF u us])++R))
   refine .cons _ ((Ae _ _ _).trans (.cons _ ?_))
   refine(Ae _ _ _).trans ?_
   rw[AG];refine .trans ?_ (Ce _ _ _);exact EH _
  ·refine((sd O U.l hF hl ADp h').frame [AF y ys,AF m (ms++[(e,te)]),AF u us]).weaken λq=>⟨⟨q,.none,q.k,tj⟩,rfl,λR s S=>S.perm ?_⟩
   rw[h']
   show(_::_::AI L _::AF x xs::((G++[AF y ys,AF m (ms++[(e,te)]),AF u us])++R)).Perm (_::_::AI L _::AF x xs::AF y ys::AF m _::AF u us::(G++R))
   refine .cons _ (.cons _ (.cons _ (.cons _ ?_)));rw[AG];exact Ce _ _ _
 ·have ht:=e8 O U.l L x y m u i ti j tj e te a ta ADp
  refine BG.one (BG.MM (b:=false) (led1:=λYa:Unit=>Q8 L x y m u i ti j tj e te a ta xs ys ms us++G) (ht.frame ([AF x xs,AF y ys,AF m ms,AF u us]++G)) λYa=>?_);rw[if_neg BP,aE]
  by_cases c2:a<e
  ·simp only[tI,tJ,tM,tU,if_neg c1,if_pos c2] at h⊢
   have h':BJ (ns ys) a (j+1)=ys.length:=h.resolve_left ADp
   have hg:=o_ O U.l L x y m u i ti j tj e te a ta ADp
   have hb:=o7 O U.l L x y m u i ti j tj e te a ta (us.map iv) (by rw[AD];exact mh)
   rw[QA] at hb;refine BG.one (BG.MM (b:=true) (led1:=λYa:Unit=>Q8 L x y m u i ti j tj e te a ta xs ys ms us++G) (hg.frame ([AF x xs,AF y ys,AF m ms,AF u us]++G)) λYa=>?_);rw[if_pos rfl,<-e5];refine BG.seq (led1:=λq:Nat=>([AI L (A_ x y m u i ti (j+1) q e te a ta),AF y ys]++G)++[AF x xs,AF m ms,AF u (us++[(a,ta)])]) ?_ λq=>?_
   ·refine((hb.frame ([AF x xs,AF y ys,AF m ms]++G)).pre λR s S=>St.picked (L:=[_,_,_,_,_]) (R:=G++R) (ix:=[0,3,0,0,0]) S rfl).post λq R s S=>?_
    have S1:St B.C ([AI L (A_ x y m u i ti (j+1) q e te a ta),AF u (us++[(a,ta)]),AF x xs,AF y ys,AF m ms]++(G++R)) s:=S;refine S1.perm ?_
    show(AI L _::AF u _::AF x xs::AF y ys::AF m ms::(G++R)).Perm (AI L _::AF y ys::((G++[AF x xs,AF m ms,AF u (us++[(a,ta)])])++R))
    rw[AG];refine .cons _ (.trans ?_ (.cons _ (Ce [AF x xs,AF m ms,AF u (us++[(a,ta)])] G R)))
    exact(BY _ (.swap _ _ _)).trans ((Ae _ _ _).trans (.cons _ ((Ae _ _ _).trans (.cons _ (.swap _ _ _)))))
   ·refine((sg O U.l hF hm ADp h').frame [AF x xs,AF m ms,AF u (us++[(a,ta)])]).weaken λq=>⟨⟨q,.none,ti,q.k⟩,rfl,λR s S=>S.perm ?_⟩
    rw[h']
    show(_::_::AI L _::AF y ys::((G++[AF x xs,AF m ms,AF u (us++[(a,ta)])])++R)).Perm (_::_::AI L _::AF x xs::AF y ys::AF m _::AF u _::(G++R))
    refine .cons _ (.cons _ (.cons _ ?_));rw[AG]
    exact(BY _ (Ce G [AF x xs,AF m ms,AF u (us++[(a,ta)])] R)).trans (.swap _ _ _)
  ·simp only[tI,tJ,tM,tU,if_neg c1,if_neg c2] at h⊢
   refine BG.one (BG.MM (b:=false) (led1:=λYa:Unit=>Q8 L x y m u i ti j tj e te a ta xs ys ms us++G) ((e7 O U.l L x y m u i ti j tj e te a ta ADp).frame ([AF x xs,AF y ys,AF m ms,AF u us]++G)) λYa=>?_)
   rw[if_neg BP]
   refine(((hO (L:=L) (x:=x) (y:=y) (m:=m) (u:=u) (ti:=ti) (tj:=tj) (te:=te) (ta:=ta) O U hF hl hm hi hj h).frame [AF m ms,AF u us]).pre λR s S=>S.perm ?_).weaken λq=>⟨q,rfl,λR s S=>S.perm ?_⟩
   ·show(AI L _::AF x xs::AF y ys::AF m ms::AF u us::(G++R)).Perm (AI L _::AF x xs::AF y ys::((G++[AF m ms,AF u us])++R))
    rw[AG];exact .cons _ (.cons _ (.cons _ (Ce [AF m ms,AF u us] G R)))
   ·show(_::_::AI L _::AF x xs::AF y ys::((G++[AF m ms,AF u us])++R)).Perm (_::_::AI L _::AF x xs::AF y ys::AF m ms::AF u us::(G++R))
    rw[AG];exact .cons _ (.cons _ (.cons _ (.cons _ (.cons _ (Ce G [AF m ms,AF u us] R)))))
end
include O
theorem pG(U:AA 8 A)(L:Nat):
 AS B A (isTrue jb (Aq B L) (Bf jb (Aq B L))) [] true []:=
 Q7 O U (.fi () [])
noncomputable def zD:ExceptHandler->Expr|.ExceptHandler (some t) _ _ _=>t|_=>Au
def zC:ExceptHandler->Dx|.ExceptHandler _ _ b _=>b
def uh:ExceptHandler->Pos|.ExceptHandler _ _ _ p=>p
omit O
theorem LJ:Rq=[.ExceptHandler (some (zD PT)) none (zC PT) (uh PT)]:=by kernel_rfl
theorem rC:ug PT=[.ExceptHandler (some (zD PT)) none [] (uh PT)]:=by kernel_rfl
theorem q_:mG PT=[.ExceptHandler none none (zC PT) (uh PT)]:=by kernel_rfl
def Sh(x y m u i j:Nat)(al:BC):Prop:=(∃ti tj,al=Nj x y m u i ti j tj)∨(∃ti tj v k,al=WA x y m u i ti j tj v k)∨ ∃ti tj v k w q,al=A_ x y m u i ti j tj v k w q
abbrev LK(L x y m u:Nat)(al:BC)(xs ys ms us:Aa):AN:=[AI L al,AF x xs,AF y ys,AF m ms,AF u us]
section
variable{B:Bx}{A:AL}{L x y m u i j:Nat}{al:BC}{xs ys ms us:Aa}{G:AN}
theorem o9(O:B.C.Ok)(U:Bj 9 A)(hs:Sh x y m u i j al){e t b:Nat}{fl cx:Value}{p:Sd}(h1:xs.length<=1000)(h2:ys.length<=1000)(h3:ms.length<=1000)(h4:us.length<=1000):
 AT B.C A (.handlers (J e) (mG PT) (Aq B L)) ([DD e t (J b) cx,MW b L fl p]++LK L x y m u al xs ys ms us) (λYa:Unit=>.ok .brk) (λYa=>LK L x y m u al xs ys (ms++xs.drop i) (us++ys.drop j)):=by
 have h5:(xs.drop i).length<=1000:=by rw[A6];lia
 have h6:(ys.drop j).length<=1000:=by rw[A6];lia
 rcases hs with⟨ti,tj,rfl⟩|⟨ti,tj,v,k,rfl⟩|⟨ti,tj,v,k,w,q,rfl⟩
 ·exact AT.ends (ui O U.under L x y m u i ti j tj e t b fl cx p xs ys ms us h1 h2 h3 h4 h5 h6)
 ·exact AT.ends (uj O U.under L x y m u i ti j tj v k e t b fl cx p xs ys ms us h1 h2 h3 h4 h5 h6)
 ·exact AT.ends (uk O U.under L x y m u i ti j tj v k w q e t b fl cx p xs ys ms us h1 h2 h3 h4 h5 h6)
theorem UB(O:B.C.Ok)(U:Bj 9 A)(hs:Sh x y m u i j al)(h1:xs.length<=1000)(h2:ys.length<=1000)(h3:ms.length<=1000)(h4:us.length<=1000){d:XD}{fl cx:Value}{R:AN}{s:Af}(S:St B.C ((Fu L fl cx d++LK L x y m u al xs ys ms us)++R) s):
 BN B.C.M A (handleBy (J d.e) (Aq B L) Rq) (λf s'=>f=.brk/\St B.C (LK L x y m u al xs ys (ms++xs.drop i) (us++ys.drop j)++R) s') (λYa Ya=>False) s:=by
 rw[LJ];refine wpAny_handleBy_cons ?_ (O1 _);have c1:=AT.ends (iK O (A:=(A.mark (some (J d.e))).under (.handlers (J d.e) (ug PT) (Aq B L))) (Bj.under (U.mark _)) L d.e d.t (J d.b) cx);rw[rC] at c1;refine Fm (c1 _ s S) λr s₁ ⟨_,er,S₁⟩=>?_;subst er;have c2:=o9 (B:=B) (A:=A.mark (some (J d.e))) (L:=L) O (U.mark _) hs (e:=d.e) (t:=d.t) (b:=d.b) (fl:=fl) (cx:=cx) (p:=d.p) h1 h2 h3 h4;rw[q_] at c2;exact Fm (c2 R s₁ S₁) λr s₂ ⟨_,er,S₂⟩=>by subst er;exact⟨rfl,S₂⟩
theorem js{F:AN}{X:Type}{led:X->AN}(h:AC B.C A (Ac Eh (Aq B L)) F (λYa:X=>.next) led):AC B.C A (Qf (.Try Eh Rq [] [] aG) (Aq B L)) F (λYa:X=>.next) led:=λR s S=>by
 rw[Qe,LJ];refine AB (DU (I4 (AC.wp h S λx s₁ S₁=>?_)));exact Fy ⟨x,rfl,S₁⟩
theorem jq(O:B.C.Ok)(U:AA 10 A){F:AN}{al:TE->BC}(hs: ∀q,Sh x y m u i j (al q))(h1:xs.length<=1000)(h2:ys.length<=1000)(h3:ms.length<=1000)(h4:us.length<=1000)
 (h:BG B.C A (Ac Eh (Aq B L)) F (λq:TE=>J q.d.e) (λq=>Fu L (CL (L+323:Nat)) q.cx q.d++(LK L x y m u (al q) xs ys ms us++G))):
 AC B.C A (Qf (.Try Eh Rq [] [] aG) (Aq B L)) F (λYa:TE=>LQ) (λq=>LK L x y m u (al q) xs ys (ms++xs.drop i) (us++ys.drop j)++G):=λR s S=>by
 rw[Qe,LJ];refine AB (DU (I4 (BG.wp h S λq s₁ S₁=>?_)));have S1:St B.C (Fu L (CL (L+323:Nat)) q.cx q.d++(LK L x y m u (al q) xs ys ms us++(G++R))) s₁:=S₁;refine AC.wp (GZ E5) S1 λYa s₂ S₂=>?_;refine AC.wp (GH none) S₂ λYa s₃ S₃=>?_;have hh:=UB (B:=B) (A:=A) (L:=L) O U.lh (hs q) h1 h2 h3 h4 (d:=q.d) (fl:=.none) (cx:=q.cx) (R:=G++R) S₃;rw[LJ] at hh;exact Av hh (λf s₄ ⟨e,S₄⟩=>⟨q,e,S₄⟩) λYa Ya q=>q.elim
theorem WK(O:B.C.Ok)(U:AA 10 A)(hF:Fs B A L G){F:AN}(hs:Sh x y m u i j al)(h1:xs.length<=1000)(h2:ys.length<=1000)(h3:ms.length<=1000)(h4:us.length<=1000)
 (h:BG B.C A (Ac Eh (Aq B L)) F (λp:Nat×Nat=>J p.1) (λp=>DD p.1 p.2 .none .none::(LK L x y m u al xs ys ms us++G))):
 AC B.C A (Qf (.Try Eh Rq [] [] aG) (Aq B L)) F (λYa:Unit=>LQ) (λYa=>LK L x y m u al xs ys (ms++xs.drop i) (us++ys.drop j)++G):=λR s S=>by
 rw[Qe,LJ];refine AB (DU (I4 (BG.wp h S λp s₁ S₁=>?_)));obtain⟨outer,Hl,Qw⟩:=hF.all al (LK L x y m u al xs ys ms us++G) (λe he=>Ax _ he) (.head _);refine AC.wp (GY O Hl E5 Qw) S₁ λq s₂ S₂=>?_;have S2:St B.C (Fu L (CL (L+323:Nat)) .none ⟨p.1,p.2,q.1,q.2,0⟩++(LK L x y m u al xs ys ms us++(G++R))) s₂:=S₂;refine AC.wp (GH none) S2 λYa s₃ S₃=>?_;have hh:=UB (B:=B) (A:=A) (L:=L) O U.lh hs h1 h2 h3 h4 (d:=⟨p.1,p.2,q.1,q.2,0⟩) (fl:=.none) (cx:=.none) (R:=G++R) S₃;rw[LJ] at hh;exact Av hh (λf s₄ ⟨e,S₄⟩=>⟨(),e,S₄⟩) λYa Ya q=>q.elim
end
section
variable{B:Bx}{A:AL}{F:AN}{test:Expr}{body orelse:Dx}{env:Env}
theorem AT.eC{Y Z:Type}{L1:Y->AN}{res:Z->Result}{led:Z->AN}(ht:AC B.C (A.under (.whileLoop test body orelse env)) (isTrue test env (Bf test env)) F (λYa:Unit=>true) (λYa=>F))
 (hb:AC B.C (A.under (.whileLoop test body orelse env)) (Ac body env) F (λYa:Y=>.next) L1) (hr: ∀y,AT B.C A (.whileLoop test body orelse env) (L1 y) res led):AT B.C A (.whileLoop test body orelse env) F res led:=λR s S=>by
 refine BL ?_;show BN _ _ ((Lz test body orelse env).onRaise (λx=>do E0 x env;EQ x)) _ _ s;refine DT (Av ?_ (λYa Ya q=>q) (λYa Ya (q:False)=>q.elim));unfold Lz;refine AB (AC.wp ht S λYa s₁ S₁=>?_);refine iT rfl ?_;refine AB (AC.wp hb S₁ λy s₂ S₂=>?_);exact AP ⟨rfl,hr y R s₂ S₂⟩
theorem AT.RF{Y:Type}{L1:Y->AN}(ht:AC B.C (A.under (.whileLoop test body orelse env)) (isTrue test env (Bf test env)) F (λYa:Unit=>true) (λYa=>F))
 (hb:AC B.C (A.under (.whileLoop test body orelse env)) (Ac body env) F (λYa:Y=>LQ) L1):AT B.C A (.whileLoop test body orelse env) F (λYa:Y=>.ok .next) L1:=λR s S=>by
 refine BL ?_;show BN _ _ ((Lz test body orelse env).onRaise (λx=>do E0 x env;EQ x)) _ _ s;refine DT (Av ?_ (λYa Ya q=>q) (λYa Ya (q:False)=>q.elim));unfold Lz;refine AB (AC.wp ht S λYa s₁ S₁=>?_);refine iT rfl ?_;refine AB (AC.wp hb S₁ λy s₂ S₂=>?_);exact AP ⟨y,rfl,S₂⟩
end
noncomputable def Jo(X Y:Ay):Nat->Nat->Nat->Ay->Ay->Ay×Ay
 |0,i,j,m,u=>(m++X.drop i,u++Y.drop j)
 |r+1,i,j,m,u=>if i<X.length/\j<Y.length then
  Jo X Y r (tI X i (X.getD i 0) (Y.getD j 0)) (tJ Y j (X.getD i 0) (Y.getD j 0)) (tM m (X.getD i 0) (X.getD i 0) (Y.getD j 0)) (tU u (Y.getD j 0) (X.getD i 0) (Y.getD j 0))
  else(m++X.drop i,u++Y.drop j)
def E9(X Y:Ay):Ay×Ay:=Jo X Y (X.length+Y.length) 0 0 [] []
theorem Q9{X Y:Ay}{r i j:Nat}{m u:Ay}(h: ¬(i<X.length/\j<Y.length)):Jo X Y r i j m u=(m++X.drop i,u++Y.drop j):=by
 cases r with
 |zero=>rfl
 |succ r=>rw[Jo,if_neg h]
theorem V9{l:Ay}{v:Nat}: ∀{r i:Nat},i<=Gq l v r i
 |0,i=>Am i
 |r+1,i=>by
  rw[Gq]
  split
  ·exact AK (Eb i) V9
  ·exact Am i
theorem PS{l:Ay}{v i:Nat}:i<=BJ l v i:=V9
theorem v5(ms:Aa)(q:Nat×Nat)(e a:Nat):ns (tM ms q e a)=tM (ns ms) q.1 e a:=by
 unfold tM ns;split<;>simp
theorem v6(ms:Aa)(q:Nat×Nat)(e a:Nat):ns (tU ms q e a)=tU (ns ms) q.1 e a:=by
 unfold tU ns;split<;>(try split)<;>simp
theorem Jj(a b:Aa):ns (a++b)=ns a++ns b:=by unfold ns;rw[AZ]
theorem LB(a:Aa)(n:Nat):ns (a.drop n)=(ns a).drop n:=by unfold ns;rw[Dk]
structure xw(x y m u:Nat)(M:Ay×Ay) where
 al:BC
 ms:Aa
 us:Aa
 i6:ns ms=M.1
 Xh:ns us=M.2
 sh: ∃i j,Sh x y m u i j al
def j7(x y m u i j:Nat)(al:BC):Prop:=(∃ti tj,al=Nj x y m u i ti j tj)∨ ∃ti tj v k w q,al=A_ x y m u i ti j tj v k w q
section
variable{B:Bx}{A:AL}{L x y m u i j:Nat}{al:BC}{xs ys ms us:Aa}{G:AN}
theorem BG.left{C:Cx}{F:AN}{l1 l2:Dx}{env:Env}{X:Type}{exc:X->Value}{led:X->AN}(h:BG C A (Ac l1 env) F exc led):BG C A (Ac (l1++l2) env) F exc led:=λR s S=>
 Sf l1 (Av (h R s S) (λYa Ya q=>q.elim) λYa Ya q=>q)
theorem OB:Eh.take 2++Eg=Eh:=CQ 2 Eh
theorem sW(O:B.C.Ok)(U:AA 10 A)(hs:j7 x y m u i j al)(hi:xs.length<=i)(u5:i<=1000):
 BG B.C A (Ac Eh (Aq B L)) (LK L x y m u al xs ys ms us++G) (λp:Nat×Nat=>J p.1) (λp=>DD p.1 p.2 .none .none::(LK L x y m u al xs ys ms us++G)):=by
 rw[<-OB];refine BG.left ?_
 rcases hs with⟨ti,tj,rfl⟩|⟨ti,tj,v,k,w,q,rfl⟩
 ·have h:=xd O U.l L x y m u i ti j tj xs ys hi u5
  exact h.frame ([AF m ms,AF u us]++G)
 ·have h:=xe O U.l L x y m u i ti j tj v k w q xs ys hi u5
  exact h.frame ([AF m ms,AF u us]++G)
theorem sX(O:B.C.Ok)(U:AA 10 A)(hs:j7 x y m u i j al)(hl:xs.length<=1000)(hi:i<xs.length)(hj:ys.length<=j)(mT:j<=1000):
 ∃qL,Sh x y m u i j qL/\BG B.C A (Ac Eh (Aq B L)) (LK L x y m u al xs ys ms us++G) (λp:Nat×Nat=>J p.1) (λp=>DD p.1 p.2 .none .none::(LK L x y m u qL xs ys ms us++G)):=by
 have hx:xs[i]? =some (xs[i].1,xs[i].2):=AJ hi;rw[<-OB]
 rcases hs with⟨ti,tj,rfl⟩|⟨ti,tj,v,k,w,q,rfl⟩
 ·refine⟨WA x y m u i ti j tj xs[i].1 xs[i].2,.inr (.inl ⟨_,_,_,_,rfl⟩),BG.left ?_⟩
  have h:=xf O U.l L x y m u i ti j tj _ _ xs ys hx hl hj mT;exact h.frame ([AF m ms,AF u us]++G)
 ·refine⟨A_ x y m u i ti j tj xs[i].1 xs[i].2 w q,.inr (.inr ⟨_,_,_,_,_,_,rfl⟩),BG.left ?_⟩
  exact(xg O U.l L x y m u i ti j tj v k w q _ _ xs ys hx hl hj mT).frame ([AF m ms,AF u us]++G)
theorem ph(O:B.C.Ok)(U:AA 10 A)(hs:j7 x y m u i j al)(hl:xs.length<=1000)(hm:ys.length<=1000)(hi:i<xs.length)(hj:j<ys.length):
 ∃ti tj,AC B.C A (Ac (Eh.take 2) (Aq B L)) (LK L x y m u al xs ys ms us++G) (λYa:Unit=>.next) (λYa=>Q8 L x y m u i ti j tj xs[i].1 xs[i].2 ys[j].1 ys[j].2 xs ys ms us++G):=by
 have hx:xs[i]? =some (xs[i].1,xs[i].2):=AJ hi;have hy:ys[j]? =some (ys[j].1,ys[j].2):=AJ hj
 rcases hs with⟨ti,tj,rfl⟩|⟨ti,tj,v,k,w,q,rfl⟩
 ·refine⟨ti,tj,?_⟩
  have h:=sK O U.l L x y m u i ti j tj _ _ _ _ xs ys hx hl hy hm;exact h.frame ([AF m ms,AF u us]++G)
 ·refine⟨ti,tj,?_⟩
  exact(sL O U.l L x y m u i ti j tj v k w q _ _ _ _ xs ys hx hl hy hm).frame ([AF m ms,AF u us]++G)
abbrev aH(B:Bx)(L:Nat):Code:=.whileLoop jb [.Try Eh Rq [] [] aG] [] (Aq B L)
theorem Xq(O:B.C.Ok)(U:AA 10 A)(F:AN):AC B.C A (isTrue jb (Aq B L) (Bf jb (Aq B L))) F (λYa:Unit=>true) (λYa=>F):=by
 exact(pG O U.l L).frame F
theorem pA(O:B.C.Ok)(U:AA 11 A)(hF:Fs B A L G)(hl:xs.length<=500)(hm:ys.length<=500): ∀(r i j:Nat) (al:BC) (ms us:Aa),j7 x y m u i j al->i<=xs.length->j<=ys.length->(xs.length-i)+(ys.length-j)<=r->ms.length<=i->us.length<=j->
 AT B.C A (aH B L) (LK L x y m u al xs ys ms us++G) (λYa:xw x y m u (Jo (ns xs) (ns ys) r i j (ns ms) (ns us))=>.ok .next) (λz=>LK L x y m u z.al xs ys z.ms z.us++G):=by
 intro r
 induction r using Nat.strongRecOn with
 |ind r ih=>
  intro i j al ms us hs hi hj hr mZ mh;have B8:AA 10 (A.under (aH B L)):=U.loop;have uP:Fs B (A.under (aH B L)) L G:=⟨hF.fr⟩;have hx:=B3 xs;have hy:=B3 ys;have sh: ∀{al},j7 x y m u i j al->Sh x y m u i j al:=λh=>h.elim .inl λh=>.inr (.inr h)
  by_cases ci:i<xs.length
  ·by_cases cj:j<ys.length
   ·obtain⟨r,rfl⟩: ∃r',r=r'+1:=⟨r-1,by lia⟩
    obtain⟨ti,tj,yn⟩:=ph (B:=B) (A:=A.under (aH B L)) (L:=L) (ms:=ms) (us:=us) (G:=G) O B8 hs (AK hl ADs) (AK hm ADs) ci cj
    have ge:(ns xs).getD i 0=xs[i].1:=by unfold ns;rw[Ad,AQ,AJ ci];rfl
    have ga:(ns ys).getD j 0=ys[j].1:=by unfold ns;rw[Ad,AQ,AJ cj];rfl
    have eG:Jo (ns xs) (ns ys) (r+1) i j (ns ms) (ns us)=Jo (ns xs) (ns ys) r (tI (ns xs) i xs[i].1 ys[j].1) (tJ (ns ys) j xs[i].1 ys[j].1) (ns (tM ms (xs[i].1,xs[i].2) xs[i].1 ys[j].1)) (ns (tU us (ys[j].1,ys[j].2) xs[i].1 ys[j].1)):=by
     rw[Jo,if_pos ⟨by lia,by lia⟩,ge,ga,v5,v6]
    rw[eG];have lI:tI (ns xs) i xs[i].1 ys[j].1<=xs.length:=by
     unfold tI;split
     ·exact hx▸IW ADp
     ·split
      ·exact Cw ci
      ·exact hx▸IW ADp
    have lJ:tJ (ns ys) j xs[i].1 ys[j].1<=ys.length:=by
     unfold tJ;split
     ·exact Cw cj
     ·exact hy▸IW ADp
    have gI:i<=tI (ns xs) i xs[i].1 ys[j].1/\j<=tJ (ns ys) j xs[i].1 ys[j].1/\i+j+1<=tI (ns xs) i xs[i].1 ys[j].1+tJ (ns ys) j xs[i].1 ys[j].1/\(tM ms (xs[i].1,xs[i].2) xs[i].1 ys[j].1).length<=tI (ns xs) i xs[i].1 ys[j].1/\(tU us (ys[j].1,ys[j].2) xs[i].1 ys[j].1).length<=tJ (ns ys) j xs[i].1 ys[j].1:=by
     have s1:=PS (l:=ns xs) (v:=xs[i].1) (i:=i+1);have s2:=PS (l:=ns ys) (v:=ys[j].1) (i:=j+1);unfold tI tJ tM tU
     split
     ·refine⟨Cw s1,Am _,by lia,?_,mh⟩
      rw[AX,CF];lia
     ·split
      ·refine⟨Am _,Cw s2,by lia,mZ,?_⟩
       rw[AX,CF];lia
      ·exact⟨Cw s1,Cw s2,by lia,by lia,by lia⟩
    by_cases ck:tI (ns xs) i xs[i].1 ys[j].1<xs.length/\tJ (ns ys) j xs[i].1 ys[j].1<ys.length
    ·have h2:=om (B:=B) (A:=A.under (aH B L)) (L:=L) (x:=x) (y:=y) (m:=m) (u:=u) (ti:=ti) (tj:=tj) (te:=xs[i].2) (ta:=ys[j].2) (ms:=ms) (us:=us) O B8 (AK hl ADs) (AK hm ADs) ADp ADp ci cj ck.1 ck.2
     have h3:=AC.seq (l1:=Eh.take 2) (l2:=Eg) yn λYa=>h2.frame G;rw[OB] at h3;refine AT.eC (Xq O B8 _) (AC.one (js h3)) λq=>?_;exact ih r (IZ r) _ _ _ _ _ (.inr ⟨_,_,_,_,_,_,rfl⟩) lI lJ ADp gI.2.2.2.1 gI.2.2.2.2
    ·have Vm:tI (ns xs) i xs[i].1 ys[j].1=xs.length∨tJ (ns ys) j xs[i].1 ys[j].1=ys.length:=by
      by_cases c:tI (ns xs) i xs[i].1 ys[j].1=xs.length
      ·exact .inl c
      ·right
       by_cases c2:tJ (ns ys) j xs[i].1 ys[j].1=ys.length
       ·exact c2
       ·exact absurd ⟨HK lI c,HK lJ c2⟩ ck
     have h3:=BG.seq (l1:=Eh.take 2) (l2:=Eg) yn λYa=>(jU (B:=B) (A:=A.under (aH B L)) (L:=L) (x:=x) (y:=y) (m:=m) (u:=u) (ti:=ti) (tj:=tj) (te:=xs[i].2) (ta:=ys[j].2) (ms:=ms) (us:=us) O B8 uP (AK hl ADs) (AK hm ADs) ADp ADp ci cj Vm)
     rw[OB] at h3;rw[Q9 (by rw[hx,hy];exact ck)]
     refine(AT.RF (Xq O B8 _) (AC.one (jq (al:=λq:TE=>A_ x y m u (tI (ns xs) i xs[i].1 ys[j].1) q.ti (tJ (ns ys) j xs[i].1 ys[j].1) q.tj xs[i].1 xs[i].2 ys[j].1 ys[j].2) O B8 (λq=>.inr (.inr ⟨_,_,_,_,_,_,rfl⟩)) (AK hl ADs) (AK hm ADs) ADp ADp h3))).weaken λq=>⟨⟨_,_,_,?_,?_,⟨_,_,.inr (.inr ⟨_,_,_,_,_,_,rfl⟩)⟩⟩,rfl,λR s S=>S⟩
     ·rw[Jj,LB]
     ·rw[Jj,LB]
   ·obtain⟨qL,P6,h3⟩:=sX (B:=B) (A:=A.under (aH B L)) (L:=L) (xs:=xs) (ys:=ys) (ms:=ms) (us:=us) (G:=G) O B8 hs (AK hl ADs) ci (Ec cj) (AK (AK hj hm) ADs)
    rw[Q9 (by rw[hx,hy];exact λc=>cj c.2)]
    refine(AT.RF (Xq O B8 _) (AC.one (WK O B8 uP P6 (AK hl ADs) (AK hm ADs) ADp ADp h3))).weaken λq=>⟨⟨_,_,_,?_,?_,⟨_,_,P6⟩⟩,rfl,λR s S=>S⟩
    ·rw[Jj,LB]
    ·rw[Jj,LB]
  ·have h3:=sW (B:=B) (A:=A.under (aH B L)) (L:=L) (xs:=xs) (ys:=ys) (ms:=ms) (us:=us) (G:=G) O B8 hs (Ec ci) (AK (AK hi hl) ADs)
   rw[Q9 (by rw[hx,hy];exact λc=>ci c.1)]
   refine(AT.RF (Xq O B8 _) (AC.one (WK O B8 uP (sh hs) (AK hl ADs) (AK hm ADs) ADp ADp h3))).weaken λq=>⟨⟨_,_,_,?_,?_,⟨_,_,sh hs⟩⟩,rfl,λR s S=>S⟩
   ·rw[Jj,LB]
   ·rw[Jj,LB]
end
def AAP:Pos:=⟨180,4,206,17⟩
structure Mj(M:Ay×Ay) where
 t:Nat
 m:Nat
 u:Nat
 ms:Aa
 us:Aa
 i6:ns ms=M.1
 Xh:ns us=M.2
section
variable{B:Bx}
theorem jc:(A4 B.P 227).take 3++([.While jb [.Try Eh Rq [] [] aG] [] AAP]++(A4 B.P 227).drop 4)=A4 B.P 227:=by kernel_rfl
theorem fm(O:B.C.Ok){A:AL}(U:AA 12 A){L x y:Nat}{xs ys:Aa}{G:AN}(hF:Fs B A L G)(hl:xs.length<=500)(hm:ys.length<=500):
 AC B.C A (Ac (A4 B.P 227) (Aq B L)) ([AI L [(HW,J x),(JT,J y)]]++([AF x xs,AF y ys]++G)) (λz:Mj (E9 (ns xs) (ns ys))=>B6 (J z.t)) (λz=>[AV z.t [J z.m,J z.u],AF z.m z.ms,AF z.u z.us]++([AF x xs,AF y ys]++G)):=by
 have hx:=B3 xs;have hy:=B3 ys;rw[<-jc];refine AC.seq ((jd O U.l L x y).frame ([AF x xs,AF y ys]++G)) λq=>?_;refine AC.seq (led1:=λz:xw x y q.2.1 q.2.2 (Jo (ns xs) (ns ys) (xs.length+ys.length) 0 0 (ns []) (ns []))=>LK L x y q.2.1 q.2.2 z.al xs ys z.ms z.us++G) (AC.one (AC.Ht (AC.pre (pA (B:=B) (A:=A) (L:=L) (x:=x) (y:=y) (m:=q.2.1) (u:=q.2.2) (xs:=xs) (ys:=ys) O U.l hF hl hm (xs.length+ys.length) 0 0 (Nj x y q.2.1 q.2.2 0 q.1 0 q.1) [] [] (.inl ⟨_,_,rfl⟩) (By _) (By _) ADp (Am _) (Am _)).call λR s S=>?_))) λz=>?_
 ·exact St.picked (L:=[_,_,_,_,_]) (R:=G++R) (ix:=[0,2,2,0,0]) S rfl
 ·obtain⟨al,ms,us,i6,Xh,i,j,sh⟩:=z
  have e:Jo (ns xs) (ns ys) (xs.length+ys.length) 0 0 (ns []) (ns [])=E9 (ns xs) (ns ys):=by unfold E9;rw[hx,hy];rfl
  rw[e] at i6 Xh;have fin: ∀{al:BC},AC B.C A (Ac ((A4 B.P 227).drop 4) (Aq B L)) [AI L al] (λa:Nat=>.ret (J a)) (λa=>[AV a [J q.2.1,J q.2.2]])->
   AC B.C A (Ac ((A4 B.P 227).drop 4) (Aq B L)) (LK L x y q.2.1 q.2.2 al xs ys ms us++G) (λz:Mj (E9 (ns xs) (ns ys))=>B6 (J z.t)) (λz=>[AV z.t [J z.m,J z.u],AF z.m z.ms,AF z.u z.us]++([AF x xs,AF y ys]++G)):=λh=>by
   refine(h.frame ([AF x xs,AF y ys,AF q.2.1 ms,AF q.2.2 us]++G)).weaken λa=>⟨⟨a,q.2.1,q.2.2,ms,us,i6,Xh⟩,rfl,λR s S=>?_⟩
   exact St.picked (L:=[_,_,_,_,_]) (R:=G++R) (ix:=[0,2,2,0,0]) S rfl
  rcases sh with⟨ti,tj,rfl⟩|⟨ti,tj,v,k,rfl⟩|⟨ti,tj,v,k,w,p,rfl⟩
  ·exact fin (pC O U.l L x y q.2.1 q.2.2 i ti j tj)
  ·exact fin (pD O U.l L x y q.2.1 q.2.2 i ti j tj v k)
  ·exact fin (pE O U.l L x y q.2.1 q.2.2 i ti j tj v k w p)
theorem WF(O:B.C.Ok){A:AL}(U:AA 15 A){x y:Nat}{xs ys:Aa}{G:AN}{outer:List Env}(Hl:A.frames=some outer)(Qw:Sb G outer)(hl:xs.length<=500)(hm:ys.length<=500):
 Bv B.C A (.call (.ref 227) ⟨[J x,J y],[]⟩) ([AF x xs,AF y ys]++G) (λz:Mj (E9 (ns xs) (ns ys))=>.ok (.ret (J z.t))) (λz=>[AV z.t [J z.m,J z.u],AF z.m z.ms,AF z.u z.us]++([AF x xs,AF y ys]++G)):=
 EU O U [(HW,J x),(JT,J y)]
  (λL=>BK (fl:=λz:Mj (E9 (ns xs) (ns ys))=>.ret (J z.t)) (fm O (AA.deeper U.l) ⟨⟨outer,by show(A.deeper (Aq B L)).frames=_;exact Nr Hl,Qw⟩⟩ hl hm))
end
def C8(A:AL)(Ls:Ay):Prop:= ∃outer,A.frames=some outer/\outer.map (·.frame)=Ls.map (λl=>some (l+323))/\ ∀e∈outer,e.scope.kind≠.module
theorem C8.all{A:AL}{Ls:Ay}{G:AN}(h:C8 A Ls)(hG: ∀l∈Ls,∃al,AI l al∈G): ∃outer,A.frames=some outer/\Sb G outer:=by
 obtain⟨outer,h1,h2,h3⟩:=h;refine⟨outer,h1,λe he=>⟨h3 e he,?_⟩⟩;have hm:e.frame∈Ls.map (λl=>some (l+323)):=h2▸CB he;obtain⟨l,hl,e1⟩:=List.mem_map.mp hm;obtain⟨al,ha⟩:=hG l hl;exact⟨l+323,_,al,e1.symm,ha⟩
theorem C8.deeper{A:AL}{Ls:Ay}{env:Env}{L:Nat}(h:C8 A Ls)(hf:env.frame=some (L+323))(hk:env.scope.kind≠.module):C8 (A.deeper env) (L::Ls):=by
 obtain⟨outer,h1,h2,h3⟩:=h;refine⟨env::outer,Nr h1,by rw[Aw,Aw,h2,hf],λe he=>?_⟩
 rcases List.mem_cons.mp he with rfl|he
 ·exact hk
 ·exact h3 e he
section
variable(B:Bx)(A:AL)(O:B.C.Ok)
def Vd(U:AA 15 A)(x y L1 L2:Nat)(a1 a2:BC)(xs ys:Aa)(hK:C8 A [L1,L2])(hl:xs.length<=500)(hm:ys.length<=500):Ag B.C A where
 c:=.call (.ref 227) ⟨[J x,J y],[]⟩
 F:=[AF x xs,AF y ys,AI L1 a1,AI L2 a2]
 X:=Mj (E9 (ns xs) (ns ys))
 res:=λz=>.ok (.ret (J z.t))
 led:=λz=>[AV z.t [J z.m,J z.u],AF z.m z.ms,AF z.u z.us,AF x xs,AF y ys,AI L1 a1,AI L2 a2]
 ok:=by
  obtain⟨outer,h1,h2⟩:=hK.all (G:=[AI L1 a1,AI L2 a2]) (List.forall_mem_cons.mpr ⟨⟨_,.head _⟩,List.forall_mem_singleton.mpr ⟨_,.tail _ (.head _)⟩⟩);exact WF O U h1 h2 hl hm
def Ve(U:AA 15 A)(x y L1 L2 L3:Nat)(a1 a2 a3:BC)(xs ys:Aa)(hK:C8 A [L1,L2,L3])(hl:xs.length<=500)(hm:ys.length<=500):Ag B.C A where
 c:=.call (.ref 227) ⟨[J x,J y],[]⟩
 F:=[AF x xs,AF y ys,AI L1 a1,AI L2 a2,AI L3 a3]
 X:=Mj (E9 (ns xs) (ns ys))
 res:=λz=>.ok (.ret (J z.t))
 led:=λz=>[AV z.t [J z.m,J z.u],AF z.m z.ms,AF z.u z.us,AF x xs,AF y ys,AI L1 a1,AI L2 a2,AI L3 a3]
 ok:=by
  obtain⟨outer,h1,h2⟩:=hK.all (G:=[AI L1 a1,AI L2 a2,AI L3 a3]) (List.forall_mem_cons.mpr ⟨⟨_,.head _⟩,List.forall_mem_cons.mpr ⟨⟨_,.tail _ (.head _)⟩,List.forall_mem_singleton.mpr ⟨_,.tail _ (.tail _ (.head _))⟩⟩⟩);exact WF O U h1 h2 hl hm
end
def EG(P W:Ay):Ay:=(E9 (E9 W P).2 P).2
include O
theorem bC(U:AA 20 A)(L p w L2 L3:Nat)(a2 a3:BC)(ps ws:Aa)(hK:C8 A [L,L2,L3])(h1:ps.length<=500)(h2:ws.length<=500)(h3: ∀q:Mj (E9 (ns ws) (ns ps)),q.us.length<=500):
 AC B.C A (Ac (A4 B.P 305) (AR B.P 305 [] (L+323))) [AI L [(OF,J p),(Hr,J w)],AF p ps,AF w ws,AI L2 a2,AI L3 a3]
  (λq:Gk (EG (ns ps) (ns ws))=>B6 (J q.a))
  (λq=>[AF q.a q.ys,AF p ps,AF w ws,AI L2 a2,AI L3 a3]):=
 D7 O U (.g 1074008064<|.cc (Ve _ _ O U.l w p L L2 L3 [(⟨⟨[112,108,97,99,101,115]⟩⟩,J p),(⟨⟨[119,97,121]⟩⟩,J w)] a2 a3 ws ps hK h2 h1) [2,1,0,0,0] λ(y0:Mj (E9 (ns ws) (ns ps)))=>.fr λk1=>.g 266305<|.cc (PD O U.l y0.t k1 (J y0.m) (J y0.u)) [0] λYa=>.cc (Dp O U.l) [] λYa=>.g 4102<|.cc (Ve _ _ O U.l y0.u p L L2 L3 [(⟨⟨[112,108,97,99,101,115]⟩⟩,J p),(⟨⟨[119,97,121]⟩⟩,J w)] a2 a3 y0.us ps hK (by first|assumption|exact h3 _|lia) h1) [2,3,3,3,3] λ(y4:Mj (E9 (ns y0.us) (ns ps)))=>.fr λk5=>.g 266305<|.cc (PD O U.l y4.t k5 (J y4.m) (J y4.u)) [0] λYa=>.cc (Dp O U.l) [] λYa=>.fi (⟨y4.u,y4.us,by rw[y4.Xh,y0.Xh];rfl⟩) [2,3,8,4,4])
omit O
theorem WB{X Y:Ay}: ∀{r i j:Nat} {m u:Ay},j<=Y.length->u.length<=j->(Jo X Y r i j m u).2.length<=Y.length
 |0,i,j,m,u,hj,hu=>by simp only[Jo,AX,A6];lia
 |r+1,i,j,m,u,hj,hu=>by
  rw[Jo]
  split
  ·rename_i h
   refine WB ?_ ?_
   ·unfold tJ;split
    ·exact hj
    ·exact IW ADp
   ·have s2:=PS (l:=Y) (v:=Y.getD j 0) (i:=j+1)
    unfold tU tJ
    split
    ·exact hu
    ·split
     ·rw[AX,CF];lia
     ·lia
  ·simp only[AX,A6];lia
theorem WE{X Y:Ay}:(E9 X Y).2.length<=Y.length:=WB (By _) (Am _)
include O
def gR(U:AA 22 A)(p w L2 L3:Nat)(a2 a3:BC)(ps ws:Aa)(hK:C8 A [L2,L3])(h1:ps.length<=500)(h2:ws.length<=500):Ag B.C A where
 c:=.call (.ref 305) ⟨[J p,J w],[]⟩
 F:=[AF p ps,AF w ws,AI L2 a2,AI L3 a3]
 X:=Gk (EG (ns ps) (ns ws))
 res:=λq=>.ok (.ret (J q.a))
 led:=λq=>[AF q.a q.ys,AF p ps,AF w ws,AI L2 a2,AI L3 a3]
 ok:=EU O U [(OF,J p),(Hr,J w)]
  (λL=>BK (fl:=λq:Gk (EG (ns ps) (ns ws))=>.ret (J q.a)) (by
   refine bC O (AA.deeper U.l) L p w L2 L3 a2 a3 ps ws (hK.deeper rfl ?_) h1 h2 λq=>?_
   ·show(D4 B.P 305).scope.kind≠.module;exact(by kernel_rfl:(D4 B.P 305).scope.kind=.function)▸ADs
   ·have:=WE (X:=ns ws) (Y:=ns ps)
    rw[<-q.Xh] at this;rw[B3,B3] at this
    lia))
theorem Z7(U:AA 24 A)(L c i a p w L3:Nat)(a3:BC)(ps ws:Aa)(hK:C8 A [L,L3])(h1:ps.length<=500)(h2:ws.length<=500):
 AC B.C A (Ac LG (AR B.P 220 [] (L+323))) [AI L (Gw 305 c i a (J p) (J w)),AF p ps,AF w ws,AI L3 a3]
  (λq:Gk (EG (ns ps) (ns ws))=>Dg)
  (λq=>[AI L (Gw 305 c i a (J q.a) (J w)),AF q.a q.ys,AF p ps,AF w ws,AI L3 a3]):=
 D7 O U (.g 16781377<|.cc (gR O U.l p w L L3 [(⟨⟨[102,117,110,99,116,105,111,110]⟩⟩,.ref 305),(⟨⟨[115,101,113,117,101,110,99,101]⟩⟩,J c),(⟨⟨[105,110,105,116,105,97,108]⟩⟩,J i),(⟨⟨[105,116]⟩⟩,J a),(⟨⟨[118,97,108,117,101]⟩⟩,J p),(⟨⟨[101,108,101,109,101,110,116]⟩⟩,J w)] a3 ps ws hK h1 h2) [1,1,0,0] λy0=>.fr λk1=>.g 6340<|.fi (y0) (3::BW 4))
inductive Sc(P W1 W2:Ay):Nat->Type where
 |s0:Sc P W1 W2 0
 |s1 (a:Nat) (ys:Aa) (ok:ns ys=EG P W1):Sc P W1 W2 1
 |s2 (a:Nat) (ys:Aa) (ok:ns ys=EG (EG P W1) W2):Sc P W1 W2 2
def Sc.val{P W1 W2:Ay}(p:Nat): ∀j,Sc P W1 W2 j->Value
 |_,.s0=>J p
 |_,.s1 a _ _=>J a
 |_,.s2 a _ _=>J a
def Sc.new{P W1 W2:Ay}: ∀{j},Sc P W1 W2 j->AN
 |_,.s0=>[]
 |_,.s1 a ys _=>[AF a ys]
 |_,.s2 a ys _=>[AF a ys]
omit O
theorem dZ(P W:Ay):(EG P W).length<=P.length:=WE
include O
theorem Uh(U:AA 28 A)(L c p w1 w2 L3:Nat)(a3:BC)(ps x1 x2:Aa)(hK:C8 A [L,L3])(hp:ps.length<=500)(h1:x1.length<=500)(h2:x2.length<=500):
 AC B.C A (Ac (A4 B.P 220) (AR B.P 220 [] (L+323))) ([AI L [(Bg,.ref 305),(Bh,J c),(Bz,J p)],AE c [J w1,J w2],AF p ps]++[AF w1 x1,AF w2 x2,AI L3 a3])
  (λq:Sc (ns ps) (ns x1) (ns x2) 2=>.ret (Sc.val p 2 q)) (λq=>[AE c [J w1,J w2]]++(q.new++[AF p ps,AF w1 x1,AF w2 x2,AI L3 a3])):=by
 refine L7 O (N:=4) U (k:=305) (x:=c) (i:=p) (xs:=[J w1,J w2]) (S:=Sc (ns ps) (ns x1) (ns x2)) (val:=Sc.val p) (G:=λYa σ=>σ.new++[AF p ps,AF w1 x1,AF w2 x2,AI L3 a3]) (λe he=>?_) (ei:=AF p ps) (vi:=.none) ?_ (P:=λA'=>C8 A' [L,L3]) (λYa=>hK) (λa A' B8 U4 j e hx σ=>?_) .s0 rfl rfl ADt
 ·simp only[CG,B_,or_false] at he
  rcases he with rfl|rfl<;>exact .inl ⟨_,rfl⟩
 ·have e:=oZ O U.l L c 305 p [J w1,J w2] (ps.map iv)
  exact e
 ·cases σ with
  |s0=>
   cases hx;have e:=Z7 O (B8.le (ADp:24<=4+22)) L c p a p w1 L3 a3 ps x1 U4 hp h1
   exact AC.weaken ((e.frame [AF w2 x2]).ix [0,0,0,1,0] rfl) λq=>⟨.s1 q.a q.ys q.ok,rfl,pk [0,0,0,0,1,0] rfl⟩
  |s1 b ys ok=>
   cases hx;have hy:ys.length<=500:=by
    have:=dZ (ns ps) (ns x1)
    rw[<-ok,B3,B3] at this
    lia
   exact AC.weaken (((Z7 O (B8.le (ADp:24<=4+22)) L c p a b w2 L3 a3 ys x2 U4 hy h2).frame [AF p ps,AF w1 x1]).ix [0,0,2,2,0,0] rfl) λq=>⟨.s2 q.a q.ys (by rw[q.ok,ok]),rfl,pk [0,0,3,3,1,1] rfl⟩
  |s2 b ys ok=>cases hx
def W4(U:AA 32 A)(c p w1 w2 L3:Nat)(a3:BC)(ps x1 x2:Aa)(hK:C8 A [L3])(hp:ps.length<=500)(h1:x1.length<=500)(h2:x2.length<=500):Ag B.C A where
 c:=.call (.ref 220) ⟨[.ref 305,J c,J p],[]⟩
 F:=[AE c [J w1,J w2],AF p ps,AF w1 x1,AF w2 x2,AI L3 a3]
 X:=Gk (EG (EG (ns ps) (ns x1)) (ns x2))
 res:=λq=>.ok (.ret (J q.a))
 led:=λq=>[AF q.a q.ys,AE c [J w1,J w2],AF p ps,AF w1 x1,AF w2 x2,AI L3 a3]
 ok:=EU O U [(Bg,.ref 305),(Bh,J c),(Bz,J p)] (sb:=.g 64<|.fi () [])
  (λL=>BK (fl:=λq:Gk (EG (EG (ns ps) (ns x1)) (ns x2))=>.ret (J q.a)) (by
   refine AC.weaken (Uh O (AA.deeper U.l) L c p w1 w2 L3 a3 ps x1 x2 (hK.deeper rfl ?_) hp h1 h2) λq=>?_
   ·show(D4 B.P 220).scope.kind≠.module;exact(by kernel_rfl:(D4 B.P 220).scope.kind=.function)▸ADs
   ·cases q with
    |s2 a ys ok=>exact⟨⟨a,ys,ok⟩,rfl,pk (1::BW 5) rfl⟩))
def dY:Str:=Bl [95,95,112,114,101,112,97,114,101,95,95]
noncomputable abbrev T2(a:Nat):Bi:=.one (a+323) (.ex ⟨.type "builtin_function_or_method",none,.fields ⟨[.builtin "type.__prepare__",.type "type"]⟩,⟨[]⟩⟩)
def lQ(U:AA 6 A):Ag B.C A:=
 DN O U "classmethod_descriptor.__get__" [.builtin "type.__prepare__",.none,.type "type"] [] (λq:Nat=>J q) (λq=>[T2 q]) (λU=>.fi () []) λU=>.al λa0=>.fi (a0) [0]
def cM(U:AA 7 A)(k:Nat):Ag B.C A:=
 DN O U "type.__getattribute__" [.type "type",.str dY k] [] (λq:Nat=>J q) (λq=>[T2 q]) (λU=>.fi () []) λU=>.cc (lQ O U.l) [] λy0=>.fi (y0) [0]
theorem g_(U:AA 6 A)(t k:Nat):
 AC B.C A (BM (.builtin "type.__prepare__" ⟨[.type "type",.str ⟨⟨[75]⟩⟩ k,J t],[]⟩)) [AV t [.type "object"]]
  (λq:Nat=>.done (.ret (J q)))
  (λq=>[.one (q+323) (.ns (.type "dict") []),AV t [.type "object"]]):=
 rn O U (.al λa0=>.fi (a0) [0,0])
abbrev Ql:Stmt->Dx:=O6
noncomputable abbrev SP:Stmt->Scope:=ey
noncomputable def bM(s:Stmt):List Str:=(uS s).2.2.2.2.1
noncomputable abbrev eQ:Stmt->Pos:=oJ
def vK:Str:=Bl [75]
abbrev NR(B:Bx):Stmt:=match A4 B.P 211 with|s::_=>s|_=>Au
abbrev Og(c k:Nat):Bi:=.one (c+323) (.ex ⟨.type "cell",none,.cell (some (J k)),⟨[]⟩⟩)
noncomputable abbrev Yc(l:Ak):Bi:=.one 206 (.ex ⟨.none,none,.fields ⟨l⟩,⟨[]⟩⟩)
noncomputable abbrev Hi(a:Nat)(l:BC):Bi:=.one (a+323) (.ns (.type "dict") l)
abbrev So(B:Bx)(L c:Nat):Env:=AR B.P 211 [(CE,c+323)] (L+323)
def RB:Str:=Bl [47,99,108,97,105,109,47,99,117,116,46,112,121]
def qK:Str:=Bl [99,109,112,95,116,111,95,107,101,121,46,60,108,111,99,97,108,115,62,46,75]
abbrev eR(a:Nat)(n q:Str)(k0 k1 k2 fl:Nat)(ac pc kc:Nat)(ft:Nat)(va:Bool)(tb:Nat)(k6 k7:Nat):Bi:=
 .one (a+323) (.ex ⟨.type "code",none,.fields ⟨[.str n k0,.str q k1,.str RB k2,.int (fl:Int) 0,.int (ac:Int) 0,.int (pc:Int) 0,.int (kc:Int) 0,.int 0 0,J ft,.bool va,.int 276 0,J tb,.none,.none,.none,.none,.int (k6:Int) 0,.int (fl:Int) 0,.str RB k7]⟩,⟨[]⟩⟩)
noncomputable abbrev fB(a:Nat)(l:Ak):Bi:=.one (a+323) (.ex ⟨.none,none,.fields ⟨l⟩,⟨[]⟩⟩)
abbrev Yd(a:Nat):Bi:=Yc [.int 139 0,.int 4 0,J a]
structure CdX where
 k0:Nat
 k1:Nat
 k2:Nat
 k3:Nat
 a4:Nat
 a5:Nat
 k6:Nat
 k7:Nat
 a8:Nat
abbrev yD(a code y:Nat):Bi:=.one (a+323) (.ex ⟨.type "frame",none,.plain,⟨[some (J code),some (.ref 3),some (J y),none,some (.str ⟨⟨[108,97,119,95,105,108,48,48,53,53,95,48,49]⟩⟩ 581),none,some (.ref 0)]⟩⟩)
abbrev tW(B:Bx)(y fr code c:Nat):Env:={scope:=SP (NR B),locals:=y+323,globals:=3,cells:=[(CE,c+323)],qual:=qK++⟨⟨[46]⟩⟩,code:=J code,frame:=some (fr+323),builtins:=0}
noncomputable abbrev K4:Str:=⟨⟨[95,95,109,111,100,117,108,101,95,95]⟩⟩
noncomputable abbrev KJ:Str:=⟨⟨[95,95,113,117,97,108,110,97,109,101,95,95]⟩⟩
noncomputable abbrev GD:Str:=⟨⟨[95,95,102,105,114,115,116,108,105,110,101,110,111,95,95]⟩⟩
noncomputable abbrev Xy:Str:=⟨⟨[108,97,119,95,105,108,48,48,53,53,95,48,49]⟩⟩
def vW(B:Bx)(i:Nat)(cl:List (Str×Addr))(code:Nat)(ct:Value):FuncData:=match(Ql (NR B))[i]? with
 |some (.FunctionDef n args body _ _ _ sc _ _ _)=>{name:=n,qualname:=qK++⟨⟨[46]⟩⟩++n,params:=args,body:=.stmts body,scope:=sc,globals:=3,closure:=cl,defaults:=.none,kwdefaults:=.none,pyModule:=.str Xy 581,code:=J code,closureTuple:=ct}
 |_=>Au
abbrev Gu(B:Bx)(a i:Nat)(cl:List (Str×Addr))(code:Nat)(ct:Value):Bi:=.one (a+323) (.ex ⟨.type "function",none,.func (vW B i cl code ct),⟨[]⟩⟩)
noncomputable abbrev Ii:Str:=⟨⟨[95,95,105,110,105,116,95,95]⟩⟩
noncomputable abbrev KN:Str:=⟨⟨[95,95,108,116,95,95]⟩⟩
noncomputable abbrev ef:Str:=⟨⟨[95,95,103,116,95,95]⟩⟩
noncomputable abbrev no:Str:=⟨⟨[95,95,101,113,95,95]⟩⟩
noncomputable abbrev nq:Str:=⟨⟨[95,95,108,101,95,95]⟩⟩
noncomputable abbrev np:Str:=⟨⟨[95,95,103,101,95,95]⟩⟩
noncomputable abbrev Xf:Str:=⟨⟨[95,95,104,97,115,104,95,95]⟩⟩
noncomputable abbrev Tr:Str:=⟨⟨[95,95,115,108,111,116,115,95,95]⟩⟩
noncomputable abbrev eg:Str:=⟨⟨[95,95,115,116,97,116,105,99,95,97,116,116,114,105,98,117,116,101,115,95,95]⟩⟩
abbrev Kn(y c t0 t1 t2 a3 f1 f2 f3 f4 f5 f6 st:Nat):BC:=[(K4,.str ⟨⟨[99,112,121,51,49,51,46,102,117,110,99,116,111,111,108,115]⟩⟩ t0),(KJ,.str qK t1),(GD,.int 139 t2),(Tr,J a3),(Ii,J f1),(KN,J f2),(ef,J f3),(no,J f4),(nq,J f5),(np,J f6),(Xf,.none),(eg,J st)]
omit O
section
variable{C:Cx}{A:AL}
theorem AC.go{α β:Type}{t:Sem α}{k:α->Sem β}{F:AN}{Y:Type}{D0:Y->β}{Cy:Y->AN}(X:Type)(res:X->α)(led:X->AN)(sc:D5 C A X)(O:C.Ok)(U:A.handled=none)
 (h:H8 C A none res led t sc F) (g: ∀x,AC C A (k (res x)) (led x) D0 Cy):AC C A (t>>=k) F D0 Cy:=
 (Ga O U sc h).bind g
theorem AC.gl{α β:Type}{t:Sem α}{k:α->Sem β}{F:AN}{Y:Type}{D0:Y->β}{Cy:Y->AN}(v:α)(L':AN)(sc:D5 C A Unit)(O:C.Ok){n:Nat}(U:AA n A)(g:AC C A (k v) L' D0 Cy)
 (h:autoParam (H8 C A none (λYa:Unit=>v) (λYa=>L') t sc F) kq):AC C A (t>>=k) F D0 Cy:=(rn O U sc h).bind λYa=>g
theorem AC.gu{α β:Type}{t:Sem α}{k:α->Sem β}{F:AN}{Y:Type}{D0:Y->β}{Cy:Y->AN}(v:α)(sc:D5 C A Unit)(O:C.Ok){n:Nat}(U:AA n A)(g:AC C A (k v) F D0 Cy)
 (h:autoParam (H8 C A none (λYa:Unit=>v) (λYa=>F) t sc F) kq):AC C A (t>>=k) F D0 Cy:=AC.gl v F sc O U g h
theorem AC.hold{α:Type}{t:Sem α}{vs:Ak}{F:AN}{Y:Type}{D0:Y->α}{Cy:Y->AN}(h:AC C A t F D0 Cy):AC C A (holding vs t) F D0 Cy:=λR s S=>Kw (h R s S)
theorem AC.ML{α:Type}{c:Prop} [Decidable c]{t u:Sem α}{F:AN}{Y:Type}{D0:Y->α}{Cy:Y->AN}(h:decide c=false)(g:AC C A u F D0 Cy):AC C A (if c then t else u) F D0 Cy:=by
 rw[if_neg (of_decide_eq_false h)];exact g
theorem AC.ifT{α:Type}{c:Prop} [Decidable c]{t u:Sem α}{F:AN}{Y:Type}{D0:Y->α}{Cy:Y->AN}(h:decide c=true)(g:AC C A t F D0 Cy):AC C A (if c then t else u) F D0 Cy:=by
 rw[if_pos (of_decide_eq_true h)];exact g
theorem AC.ret{α:Type}{F:AN}{X:Type}{res:X->α}{led:X->AN}{v:α}(x:X)(e:v=res x)(e2:F=led x):AC C A (pure v) F res led:=λR s S=>AP ⟨x,e,e2▸S⟩
theorem AC.KO{α β:Type}{t:Sem α}{k:α->Sem β}{F:AN}{v:α}{Y:Type}{D0:Y->β}{Cy:Y->AN}(h:AC C A t F (λYa:Unit=>v) (λYa=>F))(g:AC C A (k v) F D0 Cy):AC C A (t>>=k) F D0 Cy:=h.bind λYa=>g
end
abbrev DW(a n t k1 t1:Nat):Bi:=.one (a+323) (.ex ⟨.type "type",none,.cls {name:=vK,bases:=[.type "object"],mro:=[J a,.type "object"],ns:=n+323,qualname:=qK,hasDict:=false,slotNames:=[EV]},⟨[some (J t),none,some (.str vK k1),some (.str qK t1),some (.builtin "object.__new__"),some (.bool false)]⟩⟩)
section
variable{B:Bx}{A:AL}
theorem Nh(O:B.C.Ok)(U:A.handled=none)(a n t k1 t1:Nat):AC B.C A (isSubtype (J a) (J a)) [DW a n t k1 t1] (λYa:Unit=>true) (λYa=>[DW a n t k1 t1]):=by
 unfold isSubtype;refine AC.go Unit (λYa=>[J a,.type "object"]) (λYa=>[DW a n t k1 t1]) (.g 65<|.fi () [0]) O U ADq λYa=>?_
 refine AC.ML ?_ ?_
 ·rfl
 refine AC.ret () ?_ rfl;simp
theorem T9(O:B.C.Ok)(U:A.handled=none)(s a n t k1 t1:Nat):
 AC B.C A (Builtin.«super.__init__» ⟨[J s,J a,J a],[]⟩) [EZ s .none .none .none,DW a n t k1 t1] (λYa:Unit=>.done (.ret .none)) (λYa=>[EZ s (J a) (J a) (J a),DW a n t k1 t1]):=by
 unfold Builtin.«super.__init__»;refine AC.go (t:=noKeywords _ _) Unit (λYa=>()) (λYa=>[EZ s .none .none .none,DW a n t k1 t1]) (.fi () [0,0]) O U ADq λYa=>?_
 refine AC.go (t:=pure _) Unit (λYa=>(J a,J a)) (λYa=>[EZ s .none .none .none,DW a n t k1 t1]) (.fi () [0,0]) O U ADq λYa=>?_
 refine AC.go (t:=isType _) Unit (λYa=>true) (λYa=>[EZ s .none .none .none,DW a n t k1 t1]) (.g 66<|.fi () [0,0]) O U ADq λYa=>?_
 refine AC.ML ?_ ?_
 ·rfl
 refine AC.ML ?_ ?_
 ·rfl
 refine AC.bind (res:=λYa:Unit=>J a) (led:=λYa=>[EZ s .none .none .none,DW a n t k1 t1]) ?_ λYa=>?_
 ·refine AC.go (t:=isType _) Unit (λYa=>true) (λYa=>[EZ s .none .none .none,DW a n t k1 t1]) (.g 66<|.fi () [0,0]) O U ADq λYa=>?_
  refine AC.ifT ?_ ?_
  ·rfl
  refine AC.KO (t:=isSubtype _ _) (v:=true) (((Nh O U a n t k1 t1).frame [EZ s .none .none .none]).pre (λR s S=>S.perm (Ae _ _ _))|>.post λYa R s S=>S.perm (Ae _ _ _)) ?_;refine AC.ifT ?_ ?_
  ·rfl
  exact AC.ret () rfl rfl
 exact Ga O U (.g 103104387073<|.fi () [0,0]) ADq
end
noncomputable abbrev QG:Str:=⟨⟨[95,95,105,110,105,116,95,115,117,98,99,108,97,115,115,95,95]⟩⟩
noncomputable abbrev Pm(a:Nat)(f self:Value):Bi:=.one (a+323) (.ex ⟨.type "builtin_function_or_method",none,.fields ⟨[f,self]⟩,⟨[]⟩⟩)
include O
def kn(U:AA 6 A)(a n t k1 t1:Nat):Ag B.C A:=
 DN O U "classmethod_descriptor.__get__" [.builtin "object.__init_subclass__",.none,J a] [DW a n t k1 t1] (λq:Nat=>J q) (λq=>[Pm q (.builtin "object.__init_subclass__") (J a),DW a n t k1 t1]) (λU=>.fi () [0]) λU=>.g 4161<|.al λa0=>.fi (a0) [0,0]
theorem qx(U:AA 6 A)(m a n t k1 t1:Nat):
 AS B A (BM (.call (J m) ⟨[],[]⟩)) [Pm m (.builtin "object.__init_subclass__") (J a),DW a n t k1 t1] (.again (.builtin "object.__init_subclass__" ⟨[J a],[]⟩)) [Pm m (.builtin "object.__init_subclass__") (J a),DW a n t k1 t1]:=
 rn O U (.g 1107828865<|.fi () [0,0])
theorem lY(U:AA 6 A)(m a n t k1 t1:Nat):
 AS B A (BM (.builtin "object.__init_subclass__" ⟨[J a],[]⟩)) [Pm m (.builtin "object.__init_subclass__") (J a),DW a n t k1 t1] (Az (B6 .none)) [Pm m (.builtin "object.__init_subclass__") (J a),DW a n t k1 t1]:=
 rn O U (.fi () [0,0])
theorem l9(U:AA 6 A)(a n t k1 t1:Nat):
 AS B A (BM (.call (.type "super") ⟨[J a,J a],[]⟩)) [DW a n t k1 t1] (.again (.builtin "type.__call__" ⟨[.type "super",J a,J a],[]⟩)) [DW a n t k1 t1]:=
 rn O U (.fi () [0])
def cH(U:AA 6 A)(a n t k1 t1:Nat):Ag B.C A:=
 DN O U "super.__new__" [.type "super",J a,J a] [DW a n t k1 t1] (λq:Nat=>J q) (λq=>[EZ q .none .none .none,DW a n t k1 t1]) (λU=>.fi () [0]) λU=>.al λa0=>.fi (a0) [0,0]
theorem gC(U:AA 6 A)(s a n t k1 t1:Nat):
 AS B A (AU "super.__init__" ⟨[J s,J a,J a],[]⟩) [EZ s .none .none .none,DW a n t k1 t1] () [EZ s .none .none .none,DW a n t k1 t1]:=
 by apply Hc O U (.g 65<|.fi () [0,0])
omit O
section
variable{B:Bx}{A:AL}
theorem lr:C1 FZ "super.__init__"=some Builtin.«super.__init__»:=B2 ADq
theorem lq:C1 FZ "super.__getattribute__"=some Builtin.«super.__getattribute__»:=B2 ADq
def gq(B:Bx)(A:AL)(O:B.C.Ok)(U:AA 7 A)(s a n t k1 t1:Nat):Ag B.C A where
 c:=.call (.builtin "super.__init__") ⟨[J s,J a,J a],[]⟩
 F:=[EZ s .none .none .none,DW a n t k1 t1]
 X:=Unit
 res:=λYa=>.ok (.ret .none)
 led:=λYa=>[EZ s (J a) (J a) (J a),DW a n t k1 t1]
 ok:=BF ADr lr (gC O U.in1 s a n t k1 t1) (T9 O U.in1.1 s a n t k1 t1)
end
include O
theorem po(U:AA 9 A)(a n t k1 t1:Nat):
 AC B.C A (BM (.builtin "type.__call__" ⟨[.type "super",J a,J a],[]⟩)) [DW a n t k1 t1]
  (λq:Nat=>.done (.ret (J q)))
  (λq=>[EZ q (J a) (J a) (J a),DW a n t k1 t1]):=
 rn O U (.g 65<|.cc (cH O U.l a n t k1 t1) [0] λy0=>.g 4161<|.cc (gq _ _ O U.l y0 a n t k1 t1) [0,0] λYa=>.fi (y0) [0,0])
theorem gB(U:AA 6 A)(s a n t k1 t1 k:Nat):
 AS B A (AU "super.__getattribute__" ⟨[J s,.str QG k],[]⟩) [EZ s (J a) (J a) (J a),DW a n t k1 t1] () [EZ s (J a) (J a) (J a),DW a n t k1 t1]:=
 by apply Hc O U (.g 65<|.fi () [0,0])
omit O
section
variable{B:Bx}{A:AL}
theorem dh(a:Nat):(([J a,.type "object"]).dropWhile (· != J a)).drop 1=[.type "object"]:=by simp
theorem VD(O:B.C.Ok)(U:AA 7 A)(s a n t k1 t1 k:Nat):
 AC B.C A (Builtin.«super.__getattribute__» ⟨[J s,.str QG k],[]⟩) [EZ s (J a) (J a) (J a),DW a n t k1 t1]
  (λq:Nat=>.done (.ret (J q))) (λq=>[Pm q (.builtin "object.__init_subclass__") (J a),DW a n t k1 t1]):=by
 unfold Builtin.«super.__getattribute__»;refine AC.gl (t:=asStr? _) (some QG) [EZ s (J a) (J a) (J a),DW a n t k1 t1] (.fi () [0,0]) O U ?_;refine AC.ML ?_ ?_
 ·rfl
 refine AC.gu (t:=asStr? _) (some QG) (.fi () [0,0]) O U ?_;refine AC.gu (t:=O0 _ _) (J a) (.g 65<|.fi () [0,0]) O U ?_;refine AC.gu (t:=O0 _ _) (J a) (.g 65<|.fi () [0,0]) O U ?_;refine AC.gu (t:=O0 _ _) (J a) (.g 65<|.fi () [0,0]) O U ?_;refine AC.ML ?_ ?_
 ·kernel_rfl
 refine AC.gu (t:=notOfAnOpaqueClass _ _ _) () (.g 64<|.fi () [0,0]) O U ?_;refine AC.ML ?_ ?_
 ·kernel_rfl
 refine AC.gu (t:=PySem.mroOf _) [J a,.type "object"] (.g 66<|.fi () [0,0]) O U ?_;rw[dh];simp only[beq_self_eq_true,if_true];exact rn O U (.cc (kn O U.l a n t k1 t1) [1] λ(y:Nat)=>.fi y [0,0])
end
include O
def gp(U:AA 8 A)(s a n t k1 t1 k:Nat):Ag B.C A where
 c:=.call (.builtin "super.__getattribute__") ⟨[J s,.str QG k],[]⟩
 F:=[EZ s (J a) (J a) (J a),DW a n t k1 t1]
 X:=Nat
 res:=λq=>.ok (.ret (J q))
 led:=λq=>[Pm q (.builtin "object.__init_subclass__") (J a),DW a n t k1 t1]
 ok:=BF ADr lq (gB O U.l.in1 s a n t k1 t1 k) (VD O U.l.in1 s a n t k1 t1 k)
def gw(U:AA 12 A)(a n t k1 t1:Nat):Ag B.C A where
 c:=.call (.type "super") ⟨[J a,J a],[]⟩
 F:=[DW a n t k1 t1]
 X:=Nat
 res:=λq=>.ok (.ret (J q))
 led:=λq=>[EZ q (J a) (J a) (J a),DW a n t k1 t1]
 ok:=Dn (l9 O (A:=A.under (.call (.type "super") ⟨[J a,J a],[]⟩)) (U.l.ca _ _) a n t k1 t1) (F0 _) (po O (A:=A.under (.builtin "type.__call__" ⟨[.type "super",J a,J a],[]⟩)) (U.l.ty _) a n t k1 t1)
def ku(U:AA 8 A)(m a n t k1 t1:Nat):Ag B.C A where
 c:=.call (J m) ⟨[],[]⟩
 F:=[Pm m (.builtin "object.__init_subclass__") (J a),DW a n t k1 t1]
 X:=Unit
 res:=λYa=>.ok (.ret .none)
 led:=λYa=>[Pm m (.builtin "object.__init_subclass__") (J a),DW a n t k1 t1]
 ok:=Dn (qx O (A:=A.under (.call (J m) ⟨[],[]⟩)) (U.l.ca _ _) m a n t k1 t1) (DH ADr _) (by
  rw[BX ADr _]
  exact lY O U.l.in1 m a n t k1 t1)
abbrev m9(a n:Nat)(mro:Ak)(sl:List DP):Bi:=.one (a+323) (.ex ⟨.type "type",none,.cls {name:=vK,bases:=[.type "object"],mro:=mro,ns:=n+323,qualname:=qK},⟨sl⟩⟩)
abbrev Tk(y c t0 t2 a3 f1 f2 f3 f4 f5 f6 st:Nat):BC:=[(K4,.str ⟨⟨[99,112,121,51,49,51,46,102,117,110,99,116,111,111,108,115]⟩⟩ t0),(GD,.int 139 t2),(Tr,J a3),(Ii,J f1),(KN,J f2),(ef,J f3),(no,J f4),(nq,J f5),(np,J f6),(Xf,.none),(eg,J st)]
noncomputable abbrev ed:Str:=⟨⟨[95,95,100,111,99,95,95]⟩⟩
structure Kf where
 c1:Nat
 c2:Nat
 c3:Nat
 c4:Nat
 c5:Nat
 c6:Nat
 g2:Nat
 g3:Nat
 g4:Nat
 g5:Nat
 g6:Nat
abbrev zl(B:Bx)(g:G)(q:Kf)(y t c t0 t1 t2 a3 k3 f1 f2 f3 f4 f5 f6 st sk:Nat):AN:=[.one (y+323) (.ex (AO.obj g (.ns (.type "dict") (Kn y c t0 t1 t2 a3 f1 f2 f3 f4 f5 f6 st)))),AE a3 [.str EV k3],AV t [.type "object"],Gu B f1 2 [] q.c1 (.none),Gu B f2 3 [(CE,c+323)] q.c2 (J q.g2),Gu B f3 4 [(CE,c+323)] q.c3 (J q.g3),Gu B f4 5 [(CE,c+323)] q.c4 (J q.g4),Gu B f5 6 [(CE,c+323)] q.c5 (J q.g5),Gu B f6 7 [(CE,c+323)] q.c6 (J q.g6),AV st [.str EV sk]]
abbrev dW(B:Bx)(g:G)(q:Kf)(y t c t0 t1 t2 a3 k3 f1 f2 f3 f4 f5 f6 st sk y0:Nat):AN:=[AE y0 [.str EV k3],AE a3 [.str EV k3],.one (y+323) (.ex (AO.obj g (.ns (.type "dict") (Kn y c t0 t1 t2 a3 f1 f2 f3 f4 f5 f6 st)))),AV t [.type "object"],Gu B f1 2 [] q.c1 (.none),Gu B f2 3 [(CE,c+323)] q.c2 (J q.g2),Gu B f3 4 [(CE,c+323)] q.c3 (J q.g3),Gu B f4 5 [(CE,c+323)] q.c4 (J q.g4),Gu B f5 6 [(CE,c+323)] q.c5 (J q.g5),Gu B f6 7 [(CE,c+323)] q.c6 (J q.g6),AV st [.str EV sk]]
abbrev Iv(m a k:Nat):Bi:=.one (m+323) (.ex ⟨.type "member_descriptor",none,.fields ⟨[.str EV k,J a,.builtin "proto.slot",.builtin "proto.slot#set",.int 0 0]⟩,⟨[]⟩⟩)
omit O
theorem Rk(a:Nat):List.filter (λx=>x != J a) [J a,.type "object"]=[.type "object"]:=by simp
structure X2 where
 a:Nat
 n:Nat
 m:Nat
 k:Nat
include O
theorem vX(U:AA 30 A)(g:G)(q:Kf)(y t c t0 t1 t2 a3 k3 f1 f2 f3 f4 f5 f6 st sk k1:Nat):
 AC B.C A (Builtin.«type.__new__» ⟨[.type "type",.str vK k1,J t,J y],[]⟩) (zl B g q y t c t0 t1 t2 a3 k3 f1 f2 f3 f4 f5 f6 st sk)
  (λx:X2=>.done (.ret (J x.a))) (λx=>[DW x.a x.n t k1 t1,Hi x.n (Tk y c t0 t2 a3 f1 f2 f3 f4 f5 f6 st++[(EV,J x.m),(ed,.none)]),Iv x.m x.a x.k,Gu B f1 2 [] q.c1 (.none),Gu B f2 3 [(CE,c+323)] q.c2 (J q.g2)]):=by
 unfold Builtin.«type.__new__»;refine AC.gl (t:=asStr? _) (some vK) (zl B g q y t c t0 t1 t2 a3 k3 f1 f2 f3 f4 f5 f6 st sk) (.fi () (BW 10)) O U ?_;refine AC.gu (t:=J4 _ _) true (.g 67<|.fi () (BW 10)) O U ?_;refine AC.gu (t:=J4 _ _) true (.g 65<|.fi () (BW 10)) O U ?_;refine AC.gu (t:=LZ _) (some #[.type "object"]) (.g 67<|.fi () (BW 10)) O U ?_;refine AC.gu (t:=ID _ _ _) () (.fi () (BW 10)) O U ?_;refine AC.gu (t:=ID _ _ _) (.type "type") (.fi () (BW 10)) O U ?_;refine AC.gu (t:=Builtin.notOverATurnedClass _) () (.fi () (BW 10)) O U ?_;refine AC.gu (t:=Builtin.extendedBase _) (.type "object") (.fi () (BW 10)) O U ?_;refine AC.gu (t:=dictEntries _) ⟨Ot g 0 (Kn y c t0 t1 t2 a3 f1 f2 f3 f4 f5 f6 st)⟩ (.g 65<|.fi () (BW 10)) O U ?_;refine AC.gu (t:=specialOf _ _) (some (.builtin "dict.__iter__")) (.g 65<|.fi () (BW 10)) O U ?_;refine AC.gu (t:=pure _) (⟨Ot g 0 (Kn y c t0 t1 t2 a3 f1 f2 f3 f4 f5 f6 st)⟩,[]) (.fi () (BW 10)) O U ?_;refine AC.go (t:=holding [] _) Nat (λz=>⟨[EV],false,false,[]⟩) (λz=>dW B g q y t c t0 t1 t2 a3 k3 f1 f2 f3 f4 f5 f6 st sk z) (.g 66<|.cc (Km O U.l a3 [.str EV k3] ADt) [1] λy0=>.g 65<|.fi y0 (BW 11)) O U.1 ADq λy0=>?_
 refine AC.go (t:=newObj _ _) Nat (λn=>J n) (λn=>Hi n (Kn y c t0 t1 t2 a3 f1 f2 f3 f4 f5 f6 st)::dW B g q y t c t0 t1 t2 a3 k3 f1 f2 f3 f4 f5 f6 st sk y0) (.al λn=>.fi n (BW 12)) O U.1 ADq λn=>?_
 refine AC.ML ?_ ?_
 ·kernel_rfl
 refine AC.gu (t:=_) () (.fi () (BW 12)) O U ?_;refine AC.ML ?_ ?_
 ·kernel_rfl
 refine AC.gu (t:=nsGet _ _) (some (.str qK t1)) (.g 65<|.fi () (BW 12)) O U ?_;refine AC.gu (t:=nsGet _ _) (some (.str qK t1)) (.g 65<|.fi () (BW 12)) O U ?_;refine AC.gu (t:=asStr? _) (some qK) (.fi () (BW 12)) O U ?_;refine AC.gu (t:=pure _) qK (.fi () (BW 12)) O U ?_;refine AC.gu (t:=nsGet _ _) none (.g 65<|.fi () (BW 12)) O U ?_;refine AC.go (t:=alloc _) Nat (λa=>(a+323)) (λa=>m9 a n [] []::Hi n (Kn y c t0 t1 t2 a3 f1 f2 f3 f4 f5 f6 st)::dW B g q y t c t0 t1 t2 a3 k3 f1 f2 f3 f4 f5 f6 st sk y0) (.al λa=>.fi a (BW 13)) O U.1 ADq λa=>?_
 refine AC.ifT ?_ ?_
 ·kernel_rfl
 refine AC.gl (t:=setSlotAt _ _ _) () (m9 a n [] [some (J t)]::Hi n (Kn y c t0 t1 t2 a3 f1 f2 f3 f4 f5 f6 st)::dW B g q y t c t0 t1 t2 a3 k3 f1 f2 f3 f4 f5 f6 st sk y0) (.g 96<|.fi () (BW 13)) O U ?_;refine AC.gl (t:=setSlotAt _ _ _) () (m9 a n [] [some (J t),none,some (.str vK k1)]::Hi n (Kn y c t0 t1 t2 a3 f1 f2 f3 f4 f5 f6 st)::dW B g q y t c t0 t1 t2 a3 k3 f1 f2 f3 f4 f5 f6 st sk y0) (.g 96<|.fi () (BW 13)) O U ?_;refine AC.gl (t:=setSlotAt _ _ _) () (m9 a n [] [some (J t),none,some (.str vK k1),some (.str qK t1)]::Hi n (Kn y c t0 t1 t2 a3 f1 f2 f3 f4 f5 f6 st)::dW B g q y t c t0 t1 t2 a3 k3 f1 f2 f3 f4 f5 f6 st sk y0) (.g 96<|.fi () (BW 13)) O U ?_;refine AC.gl (t:=nsDel _ _) true (m9 a n [] [some (J t),none,some (.str vK k1),some (.str qK t1)]::Hi n (Tk y c t0 t2 a3 f1 f2 f3 f4 f5 f6 st)::dW B g q y t c t0 t1 t2 a3 k3 f1 f2 f3 f4 f5 f6 st sk y0) (.g 6210<|.fi () (BW 13)) O U ?_;refine AC.gu (t:=nsGet _ _) none (.g 66<|.fi () (BW 13)) O U ?_;refine AC.gu (t:=ID _ _ _) () (.g 4226<|.fi () (BW 13)) O U ?_;refine AC.gu (t:=nsGet _ _) none (.g 66<|.fi () (BW 13)) O U ?_;refine AC.gu (t:=nsGet _ _) none (.g 66<|.fi () (BW 13)) O U ?_;refine AC.gu (t:=Builtin.mroHook? _) none (.fi () (BW 13)) O U ?_;refine AC.gu (t:=Builtin.linearize _ _) [.type "object"] (.fi () (BW 13)) O U ?_;refine AC.gu (t:=pure _) [J a,.type "object"] (.fi () (BW 13)) O U ?_
 dsimp only[Rk]
 rw[Rk];refine AC.gu (t:=List.anyM _ _) false (.fi () (BW 13)) O U ?_;exact rn O U (.g 18586214374316033<|.fr λk3'=>.al λm=>.g 67<|.fr λk5=>.g 4639680637059<|.fr λk6=>.g 1261576381840707729054513283<|.cc (gw O U.l a n t k1 t1) [1] λ(s:Nat)=>.fr λk8=>.g 65<|.cc (gp O U.l s a n t k1 t1 k8) [0,0] λ(b:Nat)=>.cc (ku O U.l b a n t k1 t1) [0,0] λ(_:Unit)=>.fi ⟨a,n,m,k3'⟩ [1,2,1,5,5])
omit O
theorem St.qn{C:Cx}{s:Af}{a:Addr}{cls:Value}{al:BC}{L:AN}(S:St C (.one a (.ns cls al)::L) s): ∃g,St C (.one a (.ex (AO.obj g (.ns cls al)))::L) s:=by
 obtain⟨g,hg⟩:=S.Dj;obtain⟨H,hH,XP⟩:=S.led;refine⟨g,S.old,⟨H,hH,λp hp=>?_,XP.nodup,λp hp=>?_⟩,S.gens,S.os,S.size⟩
 ·rcases List.mem_cons.mp (show p∈(a,AO.ex (AO.obj g (.ns cls al)))::(Ao L++H) from hp) with rfl|hp
  ·exact⟨_,hg,G0,rfl⟩
  ·exact XP.at_ p (.tail _ hp)
 ·rcases List.mem_cons.mp (show p∈(a,AO.ex (AO.obj g (.ns cls al)))::(Ao L++H) from hp) with rfl|hp
  ·exact XP.new (a,AO.ns cls al) (.head _)
  ·exact XP.new p (.tail _ hp)
theorem h8:C1 FZ "type.__new__"=some Builtin.«type.__new__»:=B2 ADq
abbrev dX(B:Bx)(q:Kf)(y t c t0 t1 t2 a3 k3 f1 f2 f3 f4 f5 f6 st sk:Nat):AN:=[Hi y (Kn y c t0 t1 t2 a3 f1 f2 f3 f4 f5 f6 st),AE a3 [.str EV k3],AV t [.type "object"],Gu B f1 2 [] q.c1 (.none),Gu B f2 3 [(CE,c+323)] q.c2 (J q.g2),Gu B f3 4 [(CE,c+323)] q.c3 (J q.g3),Gu B f4 5 [(CE,c+323)] q.c4 (J q.g4),Gu B f5 6 [(CE,c+323)] q.c5 (J q.g5),Gu B f6 7 [(CE,c+323)] q.c6 (J q.g6),AV st [.str EV sk]]
abbrev m7(B:Bx)(q:Kf)(x:X2)(t c t0 t1 t2 a3 f1 f2 f3 f4 f5 f6 st k1:Nat):AN:=[DW x.a x.n t k1 t1,Hi x.n (Tk 0 c t0 t2 a3 f1 f2 f3 f4 f5 f6 st++[(EV,J x.m),(ed,.none)]),Iv x.m x.a x.k,Gu B f1 2 [] q.c1 (.none),Gu B f2 3 [(CE,c+323)] q.c2 (J q.g2)]
include O
theorem f_(U:AA 10 A)(q:Kf)(y t c t0 t1 t2 a3 k3 f1 f2 f3 f4 f5 f6 st sk k1:Nat):
 AS B A (AU "type.__new__" ⟨[.type "type",.str vK k1,J t,J y],[]⟩) (dX B q y t c t0 t1 t2 a3 k3 f1 f2 f3 f4 f5 f6 st sk) () ((dX B q y t c t0 t1 t2 a3 k3 f1 f2 f3 f4 f5 f6 st sk)):=
 by apply Hc O U (.fi () (BW 10))
def gh(U:AA 32 A)(q:Kf)(y t c t0 t1 t2 a3 k3 f1 f2 f3 f4 f5 f6 st sk k1:Nat):Ag B.C A where
 c:=.call (.builtin "type.__new__") ⟨[.type "type",.str vK k1,J t,J y],[]⟩
 F:=dX B q y t c t0 t1 t2 a3 k3 f1 f2 f3 f4 f5 f6 st sk
 X:=X2
 res:=λx=>.ok (.ret (J x.a))
 led:=λx=>m7 B q x t c t0 t1 t2 a3 f1 f2 f3 f4 f5 f6 st k1
 ok:=BF ADr h8 (f_ O U.l.in1 q y t c t0 t1 t2 a3 k3 f1 f2 f3 f4 f5 f6 st sk k1) (λR s S=>by
  obtain⟨g,S'⟩:=S.qn;exact vX O U.l.in1 g q y t c t0 t1 t2 a3 k3 f1 f2 f3 f4 f5 f6 st sk k1 R s S')
def gx(U:AA 11 A)(a n t k1 t1 y:Nat):Ag B.C A:=
 DN O U "type.__init__" [J a,.str vK k1,J t,J y] [DW a n t k1 t1] (λYa:Unit=>.none) (λYa=>[DW a n t k1 t1]) (λU=>.g 65<|.fi () [0]) λU=>.fi () [0]
theorem iF(U:AA 10 A)(q:Kf)(y t c t0 t1 t2 a3 k3 f1 f2 f3 f4 f5 f6 st sk k1:Nat):
 AS B A (BM (.call (.type "type") ⟨[.str vK k1,J t,J y],[]⟩)) (dX B q y t c t0 t1 t2 a3 k3 f1 f2 f3 f4 f5 f6 st sk) (.again (.builtin "type.__call__" ⟨[.type "type",.str vK k1,J t,J y],[]⟩)) ((dX B q y t c t0 t1 t2 a3 k3 f1 f2 f3 f4 f5 f6 st sk)):=
 rn O U (.fi () (BW 10))
theorem jx(U:AA 36 A)(q:Kf)(y t c t0 t1 t2 a3 k3 f1 f2 f3 f4 f5 f6 st sk k1:Nat):
 AC B.C A (BM (.builtin "type.__call__" ⟨[.type "type",.str vK k1,J t,J y],[]⟩)) (dX B q y t c t0 t1 t2 a3 k3 f1 f2 f3 f4 f5 f6 st sk)
  (λx:X2=>.done (.ret (J x.a)))
  (λx=>(m7 B q x t c t0 t1 t2 a3 f1 f2 f3 f4 f5 f6 st k1)):=
 rn O U (.cc (gh O U.l q y t c t0 t1 t2 a3 k3 f1 f2 f3 f4 f5 f6 st sk k1) (BW 10) λ(y0:X2)=>.g 4161<|.cc (gx O U.l y0.a y0.n t k1 t1 y) [0] λYa=>.fi (y0) (BW 5))
def cN(U:AA 40 A)(q:Kf)(y t c t0 t1 t2 a3 k3 f1 f2 f3 f4 f5 f6 st sk k1:Nat):Ag B.C A where
 c:=.call (.type "type") ⟨[.str vK k1,J t,J y],[]⟩
 F:=dX B q y t c t0 t1 t2 a3 k3 f1 f2 f3 f4 f5 f6 st sk
 X:=X2
 res:=λx=>.ok (.ret (J x.a))
 led:=λx=>m7 B q x t c t0 t1 t2 a3 f1 f2 f3 f4 f5 f6 st k1
 ok:=Dn (iF O (A:=A.under (.call (.type "type") ⟨[.str vK k1,J t,J y],[]⟩)) (U.l.ca _ _) q y t c t0 t1 t2 a3 k3 f1 f2 f3 f4 f5 f6 st sk k1) (F0 _)
  (jx O (A:=A.under (.builtin "type.__call__" ⟨[.type "type",.str vK k1,J t,J y],[]⟩)) (U.l.ty _) q y t c t0 t1 t2 a3 k3 f1 f2 f3 f4 f5 f6 st sk k1)
structure Fc where
 k0:Nat
 k1:Nat
 r:Ak
noncomputable abbrev EA(a:Nat)(n q:Str)(x:Fc):Bi:=.one (a+323) (.ex ⟨.type "code",none,.fields ⟨.str n x.k0::.str q x.k1::x.r⟩,⟨[]⟩⟩)
abbrev cw(k2 fl fg ft tb x y z k6 k7:Nat):Ak:=[.str RB k2,.int (fl:Int) 0,.int 2 0,.int 0 0,.int 0 0,.int (fg:Int) 0,J ft,.bool true,.int 276 0,J tb,.none,J x,J y,J z,.int (k6:Int) 0,.int (fl:Int) 0,.str RB k7]
structure qH where
 t0:Nat
 a3:Nat
 k3:Nat
 f1:Nat
 f2:Nat
 f3:Nat
 f4:Nat
 f5:Nat
 f6:Nat
 q:Kf
 x1:Fc
 x2:Fc
abbrev T3:Str:=qK++⟨⟨[46]⟩⟩++Ii
abbrev jN:Str:=qK++⟨⟨[46]⟩⟩++KN
abbrev vV(y c t0 t1 t2 a3 f1 f2 f3 f4 f5 f6:Nat):BC:=[(K4,.str ⟨⟨[99,112,121,51,49,51,46,102,117,110,99,116,111,111,108,115]⟩⟩ t0),(KJ,.str qK t1),(GD,.int 139 t2),(Tr,J a3),(Ii,J f1),(KN,J f2),(ef,J f3),(no,J f4),(nq,J f5),(np,J f6),(Xf,.none)]
abbrev zo(B:Bx)(y c t1 t2:Nat)(z:qH):AN:=[Hi y (vV y c z.t0 t1 t2 z.a3 z.f1 z.f2 z.f3 z.f4 z.f5 z.f6),AE z.a3 [.str EV z.k3],Gu B z.f1 2 [] z.q.c1 (.none),Gu B z.f2 3 [(CE,c+323)] z.q.c2 (J z.q.g2),Gu B z.f3 4 [(CE,c+323)] z.q.c3 (J z.q.g3),Gu B z.f4 5 [(CE,c+323)] z.q.c4 (J z.q.g4),Gu B z.f5 6 [(CE,c+323)] z.q.c5 (J z.q.g5),Gu B z.f6 7 [(CE,c+323)] z.q.c6 (J z.q.g6),EA z.q.c1 Ii T3 z.x1,EA z.q.c2 KN jN z.x2]
theorem rV(U:AA 40 A)(y fr code c k k0 k1 k2 ft tb k6 k7 t1 t2:Nat):
 AC B.C A (Ac (Ql (NR B)) (tW B y fr code c)) [eR code vK qK k0 k1 k2 139 0 0 0 ft true tb k6 k7,fB tb [],Hi y [(K4,.str Xy 581),(KJ,.str qK t1),(GD,.int 139 t2)],Og c k]
  (λz:qH=>.next)
  (λz=>(zo B y c t1 t2 z++[Og c k])):=
 D7 O U (.fr λk0=>.g 67<|.fr λk1=>.g 6275<|.fr λk2=>.al λa3=>.g 68<|.fr λk4=>.g 17574084<|.fr λk5=>.fr λk6=>.fr λk7=>.al λa8=>.al λa9=>.fr λH9=>.fr λQC=>.al λIF=>.al λOL=>.al λUZ=>.fr λvS=>.fr λTj=>.al λj_=>.g 68719516169<|.al λa18=>.g 75<|.fr λvT=>.g 6795<|.al λtz=>.g 4810<|.fr λzj=>.fr λiX=>.fr λiY=>.fr λm5=>.al λt7=>.al λa26=>.fr λk27=>.fr λk28=>.al λa29=>.al λa30=>.al λa31=>.fr λk32=>.fr λk33=>.al λa34=>.g 68719549457<|.al λa35=>.g 83<|.fr λk36=>.g 7315<|.al λa37=>.g 5330<|.fr λk38=>.fr λk39=>.fr λk40=>.fr λk41=>.al λa42=>.al λa43=>.fr λk44=>.fr λk45=>.al λa46=>.al λa47=>.al λa48=>.fr λk49=>.fr λk50=>.al λa51=>.g 68719582745<|.al λa52=>.g 91<|.fr λk53=>.g 7835<|.al λa54=>.g 5850<|.fr λk55=>.fr λk56=>.fr λk57=>.fr λk58=>.al λa59=>.al λa60=>.fr λk61=>.fr λk62=>.al λa63=>.al λa64=>.al λa65=>.fr λk66=>.fr λk67=>.al λa68=>.go 33<|.up 32<|.go 33<|.g 262144<|.al λa69=>.go 35<|.fr λk70=>.go 35<|.up 34<|.al λa71=>.go 34<|.go 35<|.fr λk72=>.fr λk73=>.fr λk74=>.fr λk75=>.al λa76=>.al λa77=>.fr λk78=>.fr λk79=>.al λa80=>.al λa81=>.al λa82=>.fr λk83=>.fr λk84=>.al λa85=>.go 41<|.up 40<|.go 41<|.g 262144<|.al λa86=>.go 43<|.fr λk87=>.go 43<|.up 42<|.al λa88=>.go 42<|.go 43<|.fr λk89=>.fr λk90=>.fr λk91=>.fr λk92=>.al λa93=>.al λa94=>.fr λk95=>.fr λk96=>.al λa97=>.al λa98=>.al λa99=>.fr λACb=>.fr λACc=>.al λx6=>.go 49<|.up 48<|.go 49<|.g 262144<|.al λx7=>.go 51<|.fr λACd=>.go 51<|.up 50<|.go 51<|.fr λACe=>.go 51<|.up 50<|.fi (⟨k0,a3,k2,a18,a35,a52,a69,a86,x7,⟨j_,a34,a51,a68,a85,x6,tz,a37,a54,a71,a88⟩,⟨k5,k6,cw k7 143 19 a8 a9 IF OL UZ vS Tj⟩,⟨zj,iX,cw iY 146 19 t7 a26 a29 a30 a31 k32 k33⟩⟩) [50,47,40,32,24,16,8,0,35,28,41])
def cB(U:AA 8 A)(p t k:Nat):Ag B.C A where
 c:=.call (J p) ⟨[.str ⟨⟨[75]⟩⟩ k,J t],[]⟩
 F:=[T2 p,AV t [.type "object"]]
 X:=Nat
 res:=λq=>.ok (.ret (J q))
 led:=λq=>[.one (q+323) (.ns (.type "dict") []),AV t [.type "object"]]
 ok:=Dn (led:=λq=>[.one (q+323) (.ns (.type "dict") []),AV t [.type "object"]]) (Ga (X:=Unit) (res:=λYa=>Fin.again (.builtin "type.__prepare__" ⟨[.type "type",.str ⟨⟨[75]⟩⟩ k,J t],[]⟩)) (led:=λYa=>[T2 p,AV t [.type "object"]]) O (A:=A.under (.call (J p) ⟨[.str ⟨⟨[75]⟩⟩ k,J t],[]⟩)) (AA.ca (n:=7) U _ _).1 (.g 65<|.fi () [0,0]) ADq) (DH ADr _) (by
  rw[BX ADr _]
  exact(g_ O U.l.in1 t k).ix [1] rfl)
def bp(U:AA 41 A)(y fr code c k k0 k1 k2 ft tb k6 k7 t1 t2:Nat):Ag B.C A where
 c:=.body (Ql (NR B)) (tW B y fr code c)
 F:=[eR code vK qK k0 k1 k2 139 0 0 0 ft true tb k6 k7,fB tb [],Hi y [(K4,.str Xy 581),(KJ,.str qK t1),(GD,.int 139 t2)],Og c k]
 X:=qH
 res:=λYa=>.ok .next
 led:=λz=>zo B y c t1 t2 z++[Og c k]
 ok:=Bu λR s S=>codeAny_body ADq ADq (by
  exact Av (rV O (AA.deeper U) y fr code c k k0 k1 k2 ft tb k6 k7 t1 t2 R s S) (λf s' ⟨x,e,S'⟩=>⟨x,by rw[e],S'⟩) λYa Ya q=>q.elim)
theorem AC.enter{n:Nat}(U:AA n A){β:Type}{k:Unit->Sem β}{F:AN}{Y:Type}{D0:Y->β}{Cy:Y->AN}(g:AC B.C A (k ()) F D0 Cy):AC B.C A (enterFrame>>=k) F D0 Cy:=λR s S=>
 AB (wpAny_enterFrame (S.noLimit O) (by have:=U.2.1;lia) (g R s S))
structure KX where
 x:X2
 c1:Nat
 c2:Nat
 f1:Nat
 f2:Nat
 f3:Nat
 f4:Nat
 f5:Nat
 f6:Nat
 g2:Nat
 t:Nat
 t0:Nat
 t2:Nat
 a3:Nat
 st:Nat
 k1:Nat
 t1:Nat
 x1:Fc
 x2:Fc
 cc:Nat
abbrev QD(B:Bx)(c k:Nat)(z:KX):AN:=[DW z.x.a z.x.n z.t z.k1 z.t1,Hi z.x.n (Tk 0 c z.t0 z.t2 z.a3 z.f1 z.f2 z.f3 z.f4 z.f5 z.f6 z.st++[(EV,J z.x.m),(ed,.none)]),Iv z.x.m z.x.a z.x.k,Gu B z.f1 2 [] z.c1 (.none),Gu B z.f2 3 [(CE,c+323)] z.c2 (J z.g2),EA z.c1 Ii T3 z.x1,EA z.c2 KN jN z.x2,Og c k,Yd z.cc]
abbrev Yb(L c k:Nat):AN:=[AI L [],Og c k,Yc []]
theorem Z_(U:AA 60 A)(L c k:Nat):
 AC B.C A (buildClass ⟨⟨[75]⟩⟩ (qualnameIn (So B L c) ⟨⟨[75]⟩⟩ ⟨⟨[75]⟩⟩) [.type "object"] [] (Ql (NR B)) (SP (NR B)) (bM (NR B)) (firstLineOf [] (eQ (NR B))) (So B L c) (eQ (NR B)) none) (Yb L c k)
  (λz:KX=>J z.x.a) (λz=>QD B c k z++[AI L []]):=by
  unfold buildClass;refine AC.go Nat (λa=>J a) (λa=>[AV a [.type "object"]]++Yb L c k) (.al λa=>.fi a (BW 4)) O U.1 ADq λa0=>?_
  refine AC.gu ([.type "object"],false) (.fi () (BW 4)) O U ?_;refine AC.gu (t:=J6 (.type "object")) (.type "type") (.fi () (BW 4)) O U ?_;refine AC.gu true (.fi () (BW 4)) O U ?_;refine AC.gu (.type "type") (.fi () (BW 4)) O U ?_;refine AC.go Nat (λk=>.str ⟨⟨[75]⟩⟩ k) (λYa=>[AV a0 [.type "object"]]++Yb L c k) (.fr λk=>.fi k (BW 4)) O U.1 ADq λk1=>?_
  refine AC.gu (t:=pure _) (J a0) (.fi () (BW 4)) O U ?_;refine AC.hold ?_;refine AC.go Nat (λy=>some (J y)) (λy=>[T2 y,AV a0 [.type "object"]]++Yb L c k) (.fr λk2=>.cc (cM O U.l k2) [] λy3=>.fi y3 (BW 5)) O U.1 ADq λy3=>?_
  refine AC.go Nat (λy=>J y) (λy=>[.one (y+323) (.ns (.type "dict") []),AV a0 [.type "object"]]++Yb L c k) (.cc (cB O U.l y3 a0 k1) [0,0] λy3=>.fi y3 (BW 5)) O U.1 ADq λy=>?_
  refine AC.gu (t:=notTheModulesDict _ _) () (.fi () (BW 5)) O U ?_;refine AC.gu (t:=specialOf _ _) (some (.builtin "dict.__getitem__")) (.g 65<|.fi () (BW 5)) O U ?_;refine AC.ML ?_ ?_
  ·rfl
  refine AC.hold ?_;refine AC.gu (t:=pure none) none (.fi () (BW 5)) O U ?_;refine AC.gu (t:=pure none) none (.fi () (BW 5)) O U ?_;refine AC.go (t:=classCode _ _ _ _ _ _) CdX (λq=>(J q.a8:Value)) (λq=>[eR q.a8 vK qK q.k0 q.k1 q.k2 139 0 0 0 q.a4 true q.a5 q.k6 q.k7,fB q.a5 [],AV q.a4 [.str CE q.k3],.one (y+323) (.ns (.type "dict") []),AV a0 [.type "object"],AI L [],Og c k,Yd q.a8]) (.g 4416<|.fr λk0=>.fr λk1=>.fr λk2=>.fr λk3=>.al λa4=>.al λa5=>.fr λk6=>.fr λk7=>.al λa8=>.g 297416<|.fi ⟨k0,k1,k2,k3,a4,a5,k6,k7,a8⟩ (BW 8)) O U.1 ADq λq=>?_
  refine AC.gu (t:=builtinsFor _ _) (0:Addr) (.g 4096<|.fi () (BW 8)) O U ?_;refine AC.go (t:=newBodyFrame _ _ _ _) Nat (λf=>f+323) (λf=>[yD f q.a8 y,eR q.a8 vK qK q.k0 q.k1 q.k2 139 0 0 0 q.a4 true q.a5 q.k6 q.k7,fB q.a5 [],AV q.a4 [.str CE q.k3],.one (y+323) (.ns (.type "dict") []),AV a0 [.type "object"],AI L [],Og c k,Yd q.a8]) (.g 64<|.al λf=>.fi f (BW 9)) O U.1 ADq λf=>?_
  refine AC.gu (t:=closureFor _ _) [(CE,c+323)] (.fi () (BW 9)) O U ?_;refine AC.hold ?_;refine AC.enter O U ?_;exact Ga O U.1 (.g 18088261<|.fr λvS=>.g 6405<|.fr λTj=>.g 69<|.fr λk17=>.g 6405<|.fr λm4=>.g 69<|.fr λvT=>.g 6405<|
   .cc (bp O U.l y f q.a8 c k q.k0 q.k1 q.k2 q.a4 q.a5 q.k6 q.k7 Tj m4) [1,1,2,4] λ(z:qH)=>.fr λk20=>.al λst=>.g 66<|.fr λzj=>.g 6210<|
   .cc (cN O U.l z.q y a0 c z.t0 Tj m4 z.a3 z.k3 z.f1 z.f2 z.f3 z.f4 z.f5 z.f6 st k20 k1) [1,1,12,1,1,1,1,1,1,0] λ(x:X2)=>
   .fi ⟨x,z.q.c1,z.q.c2,z.f1,z.f2,z.f3,z.f4,z.f5,z.f6,z.q.g2,a0,z.t0,m4,z.a3,st,k1,Tj,z.x1,z.x2,q.a8⟩ [0,0,0,0,0,0,0,0,3,2]) ADq
omit O
theorem qS(B:Bx):A4 B.P 211=.ClassDef vK [.Name ⟨⟨[111,98,106,101,99,116]⟩⟩ (pS 139 12 18)] [] (Ql (NR B)) [] [] (SP (NR B)) none vK (bM (NR B)) (eQ (NR B))::(A4 B.P 211).drop 1:=by kernel_rfl
include O
theorem qo(U:AA 60 A)(L c k:Nat)(p2:Pos):
 AC B.C A (Qf (.ClassDef ⟨⟨[75]⟩⟩ [.Name ⟨⟨[111,98,106,101,99,116]⟩⟩ p2] [] (Ql (NR B)) [] [] (SP (NR B)) none ⟨⟨[75]⟩⟩ (bM (NR B)) (eQ (NR B))) (So B L c)) (Yb L c k) (λz:KX=>.next) (λz=>QD B c k z++[AI L [(vK,J z.x.a)]]):=by
 rw[arm_exec_ClassDef];refine AC.gl [] (Yb L c k) (.fi () [0,0,0]) O U ?_;refine AC.gu () (.fi () [0,0,0]) O U ?_;refine AC.gu () (.g 64<|.fi () [0,0,0]) O U ?_;refine AC.bind (res:=λz:KX=>J z.x.a) (led:=λz=>QD B c k z++[AI L []]) (AC.hold ?_) λz=>?_
 ·refine AC.gu ⟨[.type "object"],[]⟩ (.g 4096<|.fi () [0,0,0]) O U ?_
  refine AC.gu () (.fi () [0,0,0]) O U ?_;refine AC.hold ?_;exact Z_ O U L c k
 ·exact rn O U (.fr λk1=>.g 6730<|.fi z (BW 10))
theorem qg(U:AA 40 A)(L c:Nat)(v:Value):
 AS B A (Ac ((A4 B.P 211).drop 1) (So B L c)) [AI L [(vK,v)]] (.ret v) []:=
 D7 O U (.g 65<|.fi () [])
abbrev Dd(x a d:Nat)(l:List DP):Bi:=.one (x+323) (.ex ⟨J a,some (d+323),.plain,⟨l⟩⟩)
omit O
section
variable{B:Bx}{A:AL}
theorem V7(O:B.C.Ok)(U:A.handled=none)(a n t k1 t1 m k o d:Nat)(l:List DP):AC B.C A (Cm (J m) (J o)) [Dd o a d l,Iv m a k,DW a n t k1 t1] (λYa:Unit=>()) (λYa=>[Dd o a d l,Iv m a k,DW a n t k1 t1]):=by
 unfold Cm;refine AC.go (t:=Builtin.Getset_descriptor.descrNameAndClass _) Unit (λYa=>(EV,J a)) (λYa=>[Dd o a d l,Iv m a k,DW a n t k1 t1]) (.g 4226<|.fi () [0,0,0]) O U ADq λYa=>?_
 refine AC.KO (t:=J4 _ _) (v:=true) ?_ ?_
 ·unfold J4
  refine AC.go (t:=J6 _) Unit (λYa=>J a) (λYa=>[Dd o a d l,Iv m a k,DW a n t k1 t1]) (.g 65<|.fi () [0,0,0]) O U ADq λYa=>?_
  exact(((Nh O U a n t k1 t1).frame [Dd o a d l,Iv m a k]).ix [2,0,0] rfl).ox [1,1,0] λYa=>rfl
 refine AC.ML ?_ ?_
 ·rfl
 exact AC.ret () rfl rfl
theorem hZ:C1 FZ "member_descriptor.__set__"=some Builtin.«member_descriptor.__set__»:=B2 ADq
theorem hV:C1 FZ "member_descriptor.__get__"=some Builtin.«member_descriptor.__get__»:=B2 ADq
theorem jX(O:B.C.Ok)(U:A.handled=none)(a n t k1 t1 m k o d w:Nat):AC B.C A (Builtin.«member_descriptor.__set__» ⟨[J m,J o,J w],[]⟩) [Dd o a d [],Iv m a k,DW a n t k1 t1] (λYa:Unit=>.again (.builtin "proto.slot#set" ⟨[J o,J w,J m],[]⟩)) (λYa=>[Dd o a d [],Iv m a k,DW a n t k1 t1]):=by
 unfold Builtin.«member_descriptor.__set__» Builtin.Getset_descriptor.descrSet;refine AC.ML ?_ ?_
 ·rfl
 unfold Builtin.Getset_descriptor.descrStoreThrough;refine AC.KO (t:=Cm _ _) (v:=()) (V7 O U a n t k1 t1 m k o d []) ?_;exact Ga O U (.g 4226<|.fi () [0,0,0]) ADq
theorem jW(O:B.C.Ok)(U:A.handled=none)(a n t k1 t1 m k o d:Nat)(v:Value):AC B.C A (Builtin.«member_descriptor.__get__» ⟨[J m,J o,J a],[]⟩) [Dd o a d [some v],Iv m a k,DW a n t k1 t1] (λYa:Unit=>.again (.builtin "proto.slot" ⟨[J o,J m],[]⟩)) (λYa=>[Dd o a d [some v],Iv m a k,DW a n t k1 t1]):=by
 unfold Builtin.«member_descriptor.__get__» Builtin.Getset_descriptor.descrGet;refine AC.go (t:=Builtin.Getset_descriptor.descrGetArgs _) Unit (λYa=>(J m,some (J o),some (J a))) (λYa=>[Dd o a d [some v],Iv m a k,DW a n t k1 t1]) (.fi () [0,0,0]) O U ADq λYa=>?_
 unfold Builtin.Getset_descriptor.descrGetter;refine AC.KO (t:=Cm _ _) (v:=()) (V7 O U a n t k1 t1 m k o d [some v]) ?_;exact Ga O U (.g 4226<|.fi () [0,0,0]) ADq
theorem RM{C:Cx}{A:AL}{id vN:String}{b:KV}{args Di:LO}{F:AN}{X:Type}{val:X->Value}{led:X->AN}(hp:H4 id=true)(hb:C1 FZ id=some b)(iQ:H4 vN=true)
 (hc:AC C A.in1 (AU id args) F (λYa:Unit=>()) (λYa=>F)) (h:AC C A.in1 (b args) F (λYa:Unit=>.again (.builtin vN Di)) (λYa=>F))
 (h2:AC C A.in1 (BM (.builtin vN Di)) F (λx=>Az (.ret (val x))) led):Bv C A (.call (.builtin id) args) F (λx=>.ok (.ret (val x))) led:=
 Bu λR s S=>EJ hp hb (by
  refine AC.wp hc S λYa s₁ S₁=>?_;refine AC.wp h S₁ λYa s₂ S₂=>?_;refine⟨DH iQ _,BL ?_⟩;rw[BX iQ Di,E4 C];exact AC.wp h2 S₂ λx s₂ S₂=>⟨x,rfl,S₂⟩)
end
include O
theorem f9(U:AA 10 A)(a n t k1 t1 m k o d w:Nat):
 AS B A (AU "member_descriptor.__set__" ⟨[J m,J o,J w],[]⟩) [Dd o a d [],Iv m a k,DW a n t k1 t1] () [Dd o a d [],Iv m a k,DW a n t k1 t1]:=
 by apply Hc O U (.g 66<|.fi () [0,0,0])
theorem f8(U:AA 10 A)(a n t k1 t1 m k o d:Nat)(v:Value):
 AS B A (AU "member_descriptor.__get__" ⟨[J m,J o,J a],[]⟩) [Dd o a d [some v],Iv m a k,DW a n t k1 t1] () [Dd o a d [some v],Iv m a k,DW a n t k1 t1]:=
 by apply Hc O U (.g 66<|.fi () [0,0,0])
theorem hB(U:AA 10 A)(a n t k1 t1 m k o d w:Nat):
 AS B A (BM (.builtin "proto.slot#set" ⟨[J o,J w,J m],[]⟩)) [Dd o a d [],Iv m a k,DW a n t k1 t1] (Az (B6 .none)) [Dd o a d [some (J w)],Iv m a k,DW a n t k1 t1]:=
 rn O U (.g 1611403394<|.fi () [0,0,0])
theorem g8(U:AA 10 A)(a n t k1 t1 m k o d:Nat)(v:Value):
 AS B A (BM (.builtin "proto.slot" ⟨[J o,J m],[]⟩)) [Dd o a d [some v],Iv m a k,DW a n t k1 t1] (Az (B6 v)) [Dd o a d [some v],Iv m a k,DW a n t k1 t1]:=
 rn O U (.g 1091309698<|.fi () [0,0,0])
def gg(U:AA 11 A)(a n t k1 t1 m k o d w:Nat):Ag B.C A where
 c:=.call (.builtin "member_descriptor.__set__") ⟨[J m,J o,J w],[]⟩
 F:=[Dd o a d [],Iv m a k,DW a n t k1 t1]
 X:=Unit
 res:=λYa=>.ok (.ret .none)
 led:=λYa=>[Dd o a d [some (J w)],Iv m a k,DW a n t k1 t1]
 ok:=RM ADr hZ ADr (f9 O U.in1 a n t k1 t1 m k o d w) (jX O U.in1.1 a n t k1 t1 m k o d w) (hB O U.in1 a n t k1 t1 m k o d w)
def gc(U:AA 11 A)(a n t k1 t1 m k o d:Nat)(v:Value):Ag B.C A where
 c:=.call (.builtin "member_descriptor.__get__") ⟨[J m,J o,J a],[]⟩
 F:=[Dd o a d [some v],Iv m a k,DW a n t k1 t1]
 X:=Unit
 res:=λYa=>.ok (.ret v)
 led:=λYa=>[Dd o a d [some v],Iv m a k,DW a n t k1 t1]
 ok:=RM ADr hV ADr (f8 O U.in1 a n t k1 t1 m k o d v) (jW O U.in1.1 a n t k1 t1 m k o d v) (g8 O U.in1 a n t k1 t1 m k o d v)
noncomputable def E6(r:Bool):Ay->Ay->Bool
 |a::l,b::m=>if a=b then E6 r l m else(if r then decide (b<a) else decide (a<b))
 |l,m=>if r then decide (m.length<l.length) else decide (l.length<m.length)
def vZ(r:Bool):Int:=if r then 4 else 0
omit O
theorem Vw(r:Bool)(l m:Ay)(h:l=[]∨m=[]):E6 r l m=if r then decide (m.length<l.length) else decide (l.length<m.length):=by
 cases l with
 |nil=>rfl
 |cons a l=>cases m with
  |nil=>rfl
  |cons b m=>rcases h with h|h<;>cases h
theorem VS{C:Cx}{A:AL}(x y:Nat)(xs ys:Aa)(r:Bool): ∀k i,xs.length-i=k->i<=xs.length->i<=ys.length->
 AT C A (.builtin "list.__eq__.loop" ⟨[J x,J y,CL (i:Int),CL (vZ r)],[]⟩) [AF x xs,AF y ys] (λYa:Unit=>.ok (.ret (.bool (E6 r (ns (xs.drop i)) (ns (ys.drop i)))))) (λYa=>[AF x xs,AF y ys]):=by
 intro k
 induction k with
 |zero=>
  intro i hk hi hj R s S;obtain⟨g1,h1⟩:=S.Dj;obtain⟨g2,h2⟩:=S.swap.Dj;refine Ez I2 ?_;rw[BX DR _];have hx:(⟨xs.map iv⟩:Bs)[((i:Nat):Int).toNat]? =none:=by simp;lia
  have hd:xs.drop i=[]:=by simp;lia
  have hl:E6 r (ns (xs.drop i)) (ns (ys.drop i))=if r then decide (ys.length<xs.length) else decide (xs.length<ys.length):=by
   rw[hd,show ns ([]:Aa)=[] from rfl,Vw r _ _ (.inl rfl)];simp only[ns,EC,G5,AD,A6];cases r
   ·simp;lia
   ·simp;lia
  rw[hl];cases r<;>
  ·refine AB (CR h1 rfl ?_)
   refine AB (CR h2 rfl ?_);rw[hx];refine AB (CR h1 rfl ?_);refine AB (CR h2 rfl ?_);refine AP ⟨(),?_,S⟩;simp
   try rfl
 |succ k ih=>
  intro i hk hi hj R s S;obtain⟨g1,h1⟩:=S.Dj;obtain⟨g2,h2⟩:=S.swap.Dj;refine Ez I2 ?_;rw[BX DR _];have IP:i<xs.length:=by lia
  have hx:(⟨xs.map iv⟩:Bs)[((i:Nat):Int).toNat]? =some (iv xs[i]):=by simp[IP]
  by_cases tN:i<ys.length
  ·have hy:(⟨ys.map iv⟩:Bs)[((i:Nat):Int).toNat]? =some (iv ys[i]):=by simp[tN]
   have e1:xs.drop i=xs[i]::xs.drop (i+1):=BR IP;have e2:ys.drop i=ys[i]::ys.drop (i+1):=BR tN;have hl:E6 r (ns (xs.drop i)) (ns (ys.drop i))=if xs[i].1=ys[i].1 then E6 r (ns (xs.drop (i+1))) (ns (ys.drop (i+1))) else(if r then decide (ys[i].1<xs[i].1) else decide (xs[i].1<ys[i].1)):=by
    rw[e1,e2];rfl
   rw[hl];have hc:((i:Int)+1)=((i+1:Nat):Int):=by lia
   by_cases c:xs[i].1=ys[i].1
   ·rw[if_pos c]
    have hb:(((xs[i].1:Nat):Int)==((ys[i].1:Nat):Int))=true:=by rw[c];simp
    cases r<;>
    ·refine AB (CR h1 rfl ?_)
     refine AB (CR h2 rfl ?_);rw[hx,hy];refine AB (L5 ?_);rw[hb];refine AB (AP (AP ⟨DH DR _,?_⟩));rw[hc];exact ih (i+1) ADp ADp ADp R s S
   ·rw[if_neg c]
    have hb:(((xs[i].1:Nat):Int)==((ys[i].1:Nat):Int))=false:=by simp;lia
    cases r
    ·refine AB (CR h1 rfl ?_)
     refine AB (CR h2 rfl ?_);rw[hx,hy];refine AB (L5 ?_);rw[hb];refine AB (CR h1 rfl ?_);refine AB (CR h2 rfl ?_);rw[hx,hy];refine AB ?_;show BN _ _ (Gf .Lt (.int _ _) (.int _ _)) _ _ _;refine lt_int (AP ⟨(),?_,S⟩);simp
    ·refine AB (CR h1 rfl ?_)
     refine AB (CR h2 rfl ?_);rw[hx,hy];refine AB (L5 ?_);rw[hb];refine AB (CR h1 rfl ?_);refine AB (CR h2 rfl ?_);rw[hx,hy];refine AB ?_;show BN _ _ (Gf .Gt (.int _ _) (.int _ _)) _ _ _;refine gt_int (AP ⟨(),?_,S⟩);simp
  ·have hy:(⟨ys.map iv⟩:Bs)[((i:Nat):Int).toNat]? =none:=by simp;lia
   have hd:ys.drop i=[]:=by simp;lia
   have hl:E6 r (ns (xs.drop i)) (ns (ys.drop i))=if r then decide (ys.length<xs.length) else decide (xs.length<ys.length):=by
    rw[hd,show ns ([]:Aa)=[] from rfl,Vw r _ _ (.inr rfl)];simp only[ns,EC,G5,AD,A6];cases r
    ·simp;lia
    ·simp;lia
   rw[hl];cases r<;>
   ·refine AB (CR h1 rfl ?_)
    refine AB (CR h2 rfl ?_);rw[hx,hy];refine AB (CR h1 rfl ?_);refine AB (CR h2 rfl ?_);refine AP ⟨(),?_,S⟩;simp
    try rfl
include O
theorem kf(U:AA 4 A)(x y:Nat)(xs ys:Ak):
 AS B A (AU "list.__gt__" ⟨[J x,J y],[]⟩) [AE x xs,AE y ys] () [AE x xs,AE y ys]:=
 by apply Hc O U (.g 65<|.fi () [0,0])
theorem kg(U:AA 4 A)(x y:Nat)(xs ys:Ak):
 AS B A (AU "list.__lt__" ⟨[J x,J y],[]⟩) [AE x xs,AE y ys] () [AE x xs,AE y ys]:=
 by apply Hc O U (.g 65<|.fi () [0,0])
theorem lZ(U:AA 4 A)(x y:Nat)(xs ys:Ak):
 AS B A (BM (.builtin "list.__gt__" ⟨[J x,J y],[]⟩)) [AE x xs,AE y ys] (.again (.builtin "list.__eq__.loop" ⟨[J x,J y,CL 0,CL 4],[]⟩)) [AE x xs,AE y ys]:=
 rn O U (.g 66<|.fi () [0,0])
theorem lg(U:AA 4 A)(x y:Nat)(xs ys:Ak):
 AS B A (BM (.builtin "list.__lt__" ⟨[J x,J y],[]⟩)) [AE x xs,AE y ys] (.again (.builtin "list.__eq__.loop" ⟨[J x,J y,CL 0,CL 0],[]⟩)) [AE x xs,AE y ys]:=
 rn O U (.g 66<|.fi () [0,0])
omit O
theorem Od{C:Cx}{A:AL}{id:String}{c':Code}{args:LO}{F:AN}{X:Type}{res:X->Result}{led:X->AN}(hp:H4 id=true)(hq:c'.quiet=true)
 (hc:AC C A.in1 (AU id args) F (λYa:Unit=>()) (λYa=>F)) (h:AC C A.in1 (BM (.builtin id args)) F (λYa:Unit=>G8 c') (λYa=>F))
 (h2:AT C A c' F res led):Bv C A (.call (.builtin id) args) F res led:=
 Bu λR s S=>Ew (DH hp args) (by
  refine AC.wp hc S λYa s₁ S₁=>?_;refine BL ?_;rw[BX hp args,E4 C];refine AC.wp h S₁ λYa s₂ S₂=>?_;exact⟨hq,h2 R s₂ S₂⟩)
include O
def lE(U:AA 5 A)(x y:Nat)(xs ys:Aa):Ag B.C A where
 c:=.call (.builtin "list.__gt__") ⟨[J x,J y],[]⟩
 F:=[AF x xs,AF y ys]
 X:=Unit
 res:=λYa=>.ok (.ret (.bool (E6 true (ns xs) (ns ys))))
 led:=λYa=>[AF x xs,AF y ys]
 ok:=Od ADr (DH DR _) (kf O U.in1 x y _ _) (lZ O U.in1 x y _ _) (by
  have:=VS (C:=B.C) (A:=A) x y xs ys true _ 0 rfl (By _) (By _)
  rw[Du,Du] at this;exact this)
def lF(U:AA 5 A)(x y:Nat)(xs ys:Aa):Ag B.C A where
 c:=.call (.builtin "list.__lt__") ⟨[J x,J y],[]⟩
 F:=[AF x xs,AF y ys]
 X:=Unit
 res:=λYa=>.ok (.ret (.bool (E6 false (ns xs) (ns ys))))
 led:=λYa=>[AF x xs,AF y ys]
 ok:=Od ADr (DH DR _) (kg O U.in1 x y _ _) (lg O U.in1 x y _ _) (by
  have:=VS (C:=B.C) (A:=A) x y xs ys false _ 0 rfl (By _) (By _)
  rw[Du,Du] at this;exact this)
omit O
theorem AC.room{C:Cx}{A:AL}(hu:A.units<cLine){β:Type}{w:String}{vs:Ak}{k:Unit->Sem β}{F:AN}{Y:Type}{D0:Y->β}{Cy:Y->AN}(g:AC C A (k ()) F D0 Cy):AC C A (cRoomFor w vs>>=k) F D0 Cy:=λR s S=>
 AB (wpAny_cRoomFor hu (g R s S))
include O
theorem pf(U:AA 6 A)(x y:Nat)(xs ys:Aa):
 AS B A (Pf (J x) ef (J y)) [AF x xs,AF y ys] (some (HM (E6 true (ns xs) (ns ys)))) [AF x xs,AF y ys]:=by
 obtain⟨_,_|_⟩:=B<;>exact rn O U (.g 65<|.cc (lE O U.l x y xs ys) [0,0] λYa=>.fi () [0,0])
theorem pg(U:AA 6 A)(x y:Nat)(xs ys:Aa):
 AS B A (Pf (J x) KN (J y)) [AF x xs,AF y ys] (some (HM (E6 false (ns xs) (ns ys)))) [AF x xs,AF y ys]:=by
 obtain⟨_,_|_⟩:=B<;>exact rn O U (.g 65<|.cc (lF O U.l x y xs ys) [0,0] λYa=>.fi () [0,0])
omit O
section
variable{B:Bx}{A:AL}
theorem or(O:B.C.Ok)(U:AA 6 A)(x y:Nat)(xs ys:Aa):AC B.C A (Gf .Gt (J x) (J y)) [AF x xs,AF y ys] (λYa:Unit=>.bool (E6 true (ns xs) (ns ys))) (λYa=>[AF x xs,AF y ys]):=by
 show AC B.C A (N1 .Gt _ _) _ _ _;unfold N1;refine AC.hold (AC.room (AA.units U) ?_);refine AC.go (t:=J6 _) Unit (λYa=>.type "list") (λYa=>[AF x xs,AF y ys]) (.g 65<|.fi () [0,0]) O U.1 ADq λYa=>?_
 refine AC.go (t:=J6 _) Unit (λYa=>.type "list") (λYa=>[AF x xs,AF y ys]) (.g 66<|.fi () [0,0]) O U.1 ADq λYa=>?_
 refine AC.ML ?_ ?_
 ·kernel_rfl
 refine AC.KO (t:=pure false) (v:=false) (AC.ret () rfl rfl) ?_;refine AC.ML ?_ ?_
 ·kernel_rfl
 refine AC.KO (t:=Pf _ _ _) (v:=some (HM (E6 true (ns xs) (ns ys)))) (pf O U x y xs ys) ?_;exact AC.ret () rfl rfl
theorem ow(O:B.C.Ok)(U:AA 6 A)(x y:Nat)(xs ys:Aa):AC B.C A (Gf .Lt (J x) (J y)) [AF x xs,AF y ys] (λYa:Unit=>.bool (E6 false (ns xs) (ns ys))) (λYa=>[AF x xs,AF y ys]):=by
 show AC B.C A (N1 .Lt _ _) _ _ _;unfold N1;refine AC.hold (AC.room (AA.units U) ?_);refine AC.go (t:=J6 _) Unit (λYa=>.type "list") (λYa=>[AF x xs,AF y ys]) (.g 65<|.fi () [0,0]) O U.1 ADq λYa=>?_
 refine AC.go (t:=J6 _) Unit (λYa=>.type "list") (λYa=>[AF x xs,AF y ys]) (.g 66<|.fi () [0,0]) O U.1 ADq λYa=>?_
 refine AC.ML ?_ ?_
 ·kernel_rfl
 refine AC.KO (t:=pure false) (v:=false) (AC.ret () rfl rfl) ?_;refine AC.ML ?_ ?_
 ·kernel_rfl
 refine AC.KO (t:=Pf _ _ _) (v:=some (HM (E6 false (ns xs) (ns ys)))) (pg O U x y xs ys) ?_;exact AC.ret () rfl rfl
theorem AC.lu{C:Cx}{A:AL}{L:AN}{l r:Expr}{op:Operator}{pos:Pos}{env:Env}{X Y Z:Type}{va:X->Value}{vb:X->Y->Value}{led1:X->AN}{led2:X->Y->AN}{v:Z->Value}{tX:Z->AN}
 (h1:AC C A (Bf l env) L va led1) (h2: ∀x,AC C A (Bf r env) (led1 x) (vb x) (led2 x)) (h3: ∀x y,AC C A (binaryOp op (va x) (vb x y)) (led2 x y) v tX):AC C A (Bf (.BinOp l op r pos) env) L v tX:=λR s S=>by
 refine wpAny_BinOp (AC.wp h1 S λx s₁ S₁=>?_);refine AC.wp (h2 x) S₁ λy s₂ S₂=>?_;exact h3 x y R s₂ S₂
end
theorem qT(B:Bx):A4 B.P 234=[.Return (some (vE (sN 14 0))) (pS 209 4 28)]:=by kernel_rfl
def EY(l m:Ay):Int:=(if E6 true l m=true then 1 else 0)-(if E6 false l m=true then 1 else 0)
include O
def gH(U:AA 6 A)(p q:Bool):Ag B.C A:=
 DN O U "int.__sub__" [.bool p,.bool q] [] (λk:Nat=>.int ((if p=true then 1 else 0)-(if q=true then 1 else 0)) k) (λk=>[]) (λU=>.fi () []) λU=>.fr λk0=>.fi (k0) []
theorem sT(U:AA 10 A)(p q:Bool):
 AC B.C A (binaryOp .Sub (.bool p) (.bool q)) []
  (λk:Nat=>Be ((if p=true then 1 else 0)-(if q=true then 1 else 0)) k)
  (λk=>[]):=rbb O U (.cc (gH O U.l p q) [] λy0=>.fi (y0) [])
theorem t1x(U:AA 10 A)(L:Nat)(x y:Value):
 AS B A (Bf (.Name LN (pS 209 12 13)) (AR B.P 234 [] (L+323))) [AI L [(LN,x),(Mx,y)]] x [AI L [(LN,x),(Mx,y)]]:=
 H_ O U (.g 65<|.fi () [0])
theorem t1y(U:AA 10 A)(L:Nat)(x y:Value):
 AS B A (Bf (.Name Mx (pS 209 16 17)) (AR B.P 234 [] (L+323))) [AI L [(LN,x),(Mx,y)]] y [AI L [(LN,x),(Mx,y)]]:=
 H_ O U (.g 65<|.fi () [0])
theorem t2x(U:AA 10 A)(L:Nat)(x y:Value):
 AS B A (Bf (.Name LN (pS 209 22 23)) (AR B.P 234 [] (L+323))) [AI L [(LN,x),(Mx,y)]] x [AI L [(LN,x),(Mx,y)]]:=
 H_ O U (.g 65<|.fi () [0])
theorem t2y(U:AA 10 A)(L:Nat)(x y:Value):
 AS B A (Bf (.Name Mx (pS 209 26 27)) (AR B.P 234 [] (L+323))) [AI L [(LN,x),(Mx,y)]] y [AI L [(LN,x),(Mx,y)]]:=
 H_ O U (.g 65<|.fi () [0])
theorem fq(U:AA 12 A)(L x y:Nat)(xs ys:Aa):
 AC B.C A (Ac (A4 B.P 234) (AR B.P 234 [] (L+323))) [AI L [(LN,J x),(Mx,J y)],AF x xs,AF y ys] (λk:Nat=>.ret (.int (EY (ns xs) (ns ys)) k)) (λYa=>[AF x xs,AF y ys]):=by
 have hn: ∀c q,(∀v w,AC B.C A (Bf (.Name c q) (AR B.P 234 [] (L+323))) [AI L [(LN,v),(Mx,w)]] (λYa:Unit=>if c=LN then v else w) (λYa=>[AI L [(LN,v),(Mx,w)]]))->
  AC B.C A (Bf (.Name c q) (AR B.P 234 [] (L+323))) [AI L [(LN,J x),(Mx,J y)],AF x xs,AF y ys] (λYa:Unit=>if c=LN then J x else J y) (λYa=>[AI L [(LN,J x),(Mx,J y)],AF x xs,AF y ys]):=λc q h=>by
  have:=h (J x) (J y)
  exact this.frame [AF x xs,AF y ys]
 rw[qT];refine AC.one (AC.retS (v:=λk:Nat=>Be (EY (ns xs) (ns ys)) k) (AC.lu (va:=λYa=>.bool (E6 true (ns xs) (ns ys))) (vb:=λYa Ya=>.bool (E6 false (ns xs) (ns ys))) (AC.TQ (v:=.bool (E6 true (ns xs) (ns ys))) (hn _ _ λv w=>t1x O U.l L v w) (λYa=>hn _ _ λv w=>t1y O U.l L v w) (λYa Ya=>?_) rfl) (λYa=>AC.TQ (v:=.bool (E6 false (ns xs) (ns ys))) (hn _ _ λv w=>t2x O U.l L v w) (λYa=>hn _ _ λv w=>t2y O U.l L v w) (λYa Ya=>?_) rfl) λYa Ya=>?_))
 ·exact((or O U.l x y xs ys).frame [AI L [(LN,J x),(Mx,J y)]]).ix [1,1,0] rfl|>.ox [2,0,0] λYa=>rfl
 ·exact((ow O U.l x y xs ys).frame [AI L [(LN,J x),(Mx,J y)]]).ix [1,1,0] rfl|>.ox [2,0,0] λYa=>rfl
 ·exact((sT O U.l (E6 true (ns xs) (ns ys)) (E6 false (ns xs) (ns ys))).frame [AF x xs,AF y ys]).ix [1,1] rfl
def Y8(U:AA 14 A)(x y:Nat)(xs ys:Aa):Ag B.C A where
 c:=.call (.ref 234) ⟨[J x,J y],[]⟩
 F:=[AF x xs,AF y ys]
 X:=Nat
 res:=λk=>.ok (.ret (.int (EY (ns xs) (ns ys)) k))
 led:=λYa=>[AF x xs,AF y ys]
 ok:=EU O U [(LN,J x),(Mx,J y)]
  (λL=>BK (fl:=λk:Nat=>.ret (.int (EY (ns xs) (ns ys)) k)) (fq O (AA.deeper U.l) L x y xs ys))
def M5(C:Cx)(F:AN)(f:Nat)(fd:FuncData):Prop:= ∀R s,St C (F++R) s-> ∃o,s.heap.get? (f+323)=some o/\o.data=.func fd/\s.heap.CodeRec fd.code fd.qualname
theorem Qn{n:Nat}(U:AA (n+1) A){f:Nat}{fd:FuncData}{body:Dx}(TX:fd.body=.stmts body)(XR:fd.scope.isCoroutine=false)(Zi:fd.scope.isGenerator=false){args:LO}{F:AN}(hf:M5 B.C F f fd){binds:BC}
 (h1:AC B.C A.in1 (Dc fd args) F (λYa:Unit=>binds) (λYa=>F)) {Y:Type} {env:Y->Env} {NU:Y->AN}
 (h2:AC B.C A.in1 (FP fd.scope fd.globals fd.closure binds (fd.qualname++".<locals>.") (some (f+323)) fd.code none fd.builtins) F env NU)
 {X:Type} {val:X->Value} {led:X->AN}
 (hb: ∀y R s,St B.C (NU y++R) s->Kd B.C.M A (.func body (env y)) (λr s'=> ∃x,r=.ok (.ret (val x))/\St B.C (led x++R) s') s):
 AT B.C A (.call (J f) args) F (λx=>.ok (.ret (val x))) led:=λR s S=>by
 obtain⟨o,ho,hd,iI⟩:=hf R s S;refine M4 (fd:=fd) (body:=body) (by have:=U.2.1;lia) ho hd XR Zi TX iI ?_
 rw[Kj,NX];refine AC.wp h1 S λYa s₁ S₁=>?_;refine AC.wp h2 S₁ λy s₂ S₂=>?_;exact⟨S₂.noLimit O,hb y R s₂ S₂⟩
theorem N5{n:Nat}(U:AA (n+1) A){f:Nat}{fd:FuncData}{body:Expr}(TX:fd.body=.expr body)(XR:fd.scope.isCoroutine=false)(Zi:fd.scope.isGenerator=false){args:LO}{F:AN}(hf:M5 B.C F f fd){binds:BC}
 (h1:AC B.C A.in1 (Dc fd args) F (λYa:Unit=>binds) (λYa=>F)) {Y:Type} {env:Y->Env} {NU:Y->AN}
 (h2:AC B.C A.in1 (FP fd.scope fd.globals fd.closure binds (fd.qualname++".<locals>.") (some (f+323)) fd.code none fd.builtins) F env NU)
 {X:Type} {val:X->Value} {led:X->AN}
 (hb: ∀y,AC B.C (A.deeper (env y)) (Bf body (env y)) (NU y) val led):
 AT B.C A (.call (J f) args) F (λx=>.ok (.ret (val x))) led:=λR s S=>by
 obtain⟨o,ho,hd,iI⟩:=hf R s S;refine kla_callFunE (fd:=fd) (body:=body) (by have:=U.2.1;lia) ho hd XR Zi TX iI ?_
 rw[Kj,NX];refine AC.wp h1 S λYa s₁ S₁=>?_;refine AC.wp h2 S₁ λy s₂ S₂=>?_;refine⟨S₂.noLimit O,kla_codeExpr ?_⟩;exact Av (hb y R s₂ S₂) (λv s' ⟨x,e,S'⟩=>⟨x,by rw[e],S'⟩) λYa Ya q=>q.elim
noncomputable def Oj(fd:FuncData)(f:Addr)(cells:List (Str×Addr))(L:Addr):Env:=
 {scope:=fd.scope,locals:=L,globals:=fd.globals,cells:=cells,qual:=fd.qualname++".<locals>.",func:=some f,code:=fd.code,frame:=some L,builtins:=fd.builtins}
def zr(e:Expr):Arguments:=(uE e).2.2.2
abbrev QE:Expr->Expr:=o4
abbrev zt:Expr->Scope:=Gh
abbrev AAZ(e:Expr):Expr:=el e 0
abbrev qc(e:Expr):Expr:=el e 1
def EK(_:Bx):Expr:=el (vE (sN 29 16)) 0
def HS(_:Bx):Expr:=qc (el (vE (sN 29 17)) 1)
def CH:Str:=Bl [60,108,97,109,98,100,97,62]
def Bk:Str:=Bl [108,97,119,46,60,108,111,99,97,108,115,62,46,60,108,97,109,98,100,97,62]
def Cj(l:Expr)(q:Str)(code:Nat):FuncData:={name:=CH,qualname:=q,params:=zr l,body:=.expr (QE l),scope:=zt l,globals:=3,closure:=[],defaults:=.none,kwdefaults:=.none,pyModule:=.str Xy 581,code:=J code}
abbrev Hm(f:Nat)(l:Expr)(q:Str)(code:Nat):Bi:=.one (f+323) (.ex ⟨.type "function",none,.func (Cj l q code),⟨[]⟩⟩)
omit O
theorem M5.of{C:Cx}{F:AN}{f c:Nat}{fd:FuncData}{n q:Str}{x:Fc}{r1 r2:AN}{ix1 ix2:Ay}(h1:Fq ix1 F=some ([.one (f+323) (.ex ⟨.type "function",none,.func fd,⟨[]⟩⟩)],r1))(h2:Fq ix2 F=some ([EA c n q x],r2))(hc:fd.code=J c)(hq:fd.qualname=q):M5 C F f fd:=λR s S=>by
 obtain⟨g1,e1⟩:=(S.picked h1).Dj;obtain⟨g2,e2⟩:=(S.picked h2).Dj;exact⟨_,e1,rfl,c+323,_,_,x.k1,hc,e2,rfl,by rw[hq];rfl⟩
include O
theorem am(U:AA 10 A)(cd v w:Nat):
 AS B A (Dc (Cj (EK B) Bk cd) ⟨[J v,J w],[]⟩) [] (([(Ca,J v),(Dr,J w)]:BC)) []:=
 rn O U (.fi () [])
theorem ZT(U:AA 10 A)(k cd v w:Nat):
 AC B.C A (FP (Cj (EK B) Bk cd).scope (Cj (EK B) Bk cd).globals (Cj (EK B) Bk cd).closure [(Ca,J v),(Dr,J w)] ((Cj (EK B) Bk cd).qualname++".<locals>.") (some (k+323)) (Cj (EK B) Bk cd).code none (Cj (EK B) Bk cd).builtins) []
  (λa:Nat=>Oj (Cj (EK B) Bk cd) (k+323) [] (a+323))
  (λa=>[AI a [(Ca,J v),(Dr,J w)]]):=
 rn O U (.al λa0=>.fr λk1=>.g 6145<|.fr λk2=>.g 6145<|.fi (a0) [0])
theorem bG(U:AA 20 A)(k cd v w L:Nat)(xs ys:Aa)(h1:xs.length<=1000)(h2:ys.length<=1000):
 AC B.C A (Bf (QE (EK B)) (Oj (Cj (EK B) Bk cd) (k+323) [] (L+323))) [AI L [(Ca,J v),(Dr,J w)],AF v xs,AF w ys]
  (λq:Nat=>Be (EY (ns (xs.drop 1)) (ns (ys.drop 1))) q)
  (λq=>[AF v xs,AF w ys]):=Jk O U (.g 4160<|.fr λk0=>.al λa1=>.g 274627<|.cc (JI _ _ O U.l v a1 1 k0 xs h1) [2,0] λy2=>.g 68<|.fr λk3=>.al λa4=>.g 287110<|.cc (JI _ _ O U.l w a4 1 k3 ys h2) [5,0] λy5=>.g 64<|.cc (Y8 O U.l y2 y5 (Cd 1 xs) (Cd 1 ys)) [3,0] λy6=>.fi (y6) [4,2])
def gU(U:AA 22 A)(k cd v w:Nat)(x:Fc)(xs ys:Aa)(h1:xs.length<=1000)(h2:ys.length<=1000):Ag B.C A where
 c:=.call (J k) ⟨[J v,J w],[]⟩
 F:=[Hm k (EK B) Bk cd,EA cd CH Bk x,AF v xs,AF w ys]
 X:=Nat
 res:=λq=>.ok (.ret (.int (EY (ns (xs.drop 1)) (ns (ys.drop 1))) q))
 led:=λYa=>[Hm k (EK B) Bk cd,EA cd CH Bk x,AF v xs,AF w ys]
 ok:=(N5 O (n:=21) U (fd:=Cj (EK B) Bk cd) (body:=QE (EK B)) rfl ADq ADq (M5.of (n:=CH) (x:=x) (ix1:=[0]) (ix2:=[1]) rfl rfl rfl rfl)
  ((am O U.l.in1 cd v w).frame _) (λR s S=>(ZT O U.l.in1 k cd v w).frame [Hm k (EK B) Bk cd,EA cd CH Bk x,AF v xs,AF w ys] R s S)
  (λL=>((bG O (AA.deeper U.l) k cd v w L xs ys h1 h2).frame [Hm k (EK B) Bk cd,EA cd CH Bk x]).ix [0,2,2,0,0] rfl|>.ox [2,2,0,0] λYa=>rfl)).call
abbrev IC(B:Bx)(c c2 g2:Nat):FuncData:=vW B 3 [(CE,c+323)] c2 (J g2)
abbrev Oq(B:Bx)(c1:Nat):FuncData:=vW B 2 [] c1 .none
abbrev mn(B:Bx)(c1 f1 L:Nat):Env:=Oj (Oq B c1) (f1+323) [] (L+323)
abbrev Xd(B:Bx)(c c2 g2 f2 L:Nat):Env:=Oj (IC B c c2 g2) (f2+323) [(CE,c+323)] (L+323)
abbrev eZ(B:Bx):Dx:=match(Oq B 0).body with|.stmts b=>b|_=>[]
abbrev SV(B:Bx):Dx:=match(IC B 0 0 0).body with|.stmts b=>b|_=>[]
abbrev U7(z:KX):Bi:=Hi z.x.n (Tk 0 0 z.t0 z.t2 z.a3 z.f1 z.f2 z.f3 z.f4 z.f5 z.f6 z.st++[(EV,J z.x.m),(ed,.none)])
abbrev XZ(z:KX):Bi:=DW z.x.a z.x.n z.t z.k1 z.t1
abbrev Zq(z:KX):Bi:=Iv z.x.m z.x.a z.x.k
abbrev zk(B:Bx)(z:KX):Bi:=Gu B z.f1 2 [] z.c1 (.none)
abbrev zm(B:Bx)(c:Nat)(z:KX):Bi:=Gu B z.f2 3 [(CE,c+323)] z.c2 (J z.g2)
theorem lX(U:AA 14 A)(o k0 d:Nat)(z:KX)(v:Value):
 AS B A (BM (.builtin "proto.getattr_hooked" ⟨[J o,.str EV k0],[]⟩)) [Dd o z.x.a d [some v],XZ z,U7 z,Zq z] (.done (.ret (v))) [Dd o z.x.a d [some v],XZ z,U7 z,Zq z]:=
 rn O U (.g 18867761334460545<|.cc (gc O U.l z.x.a z.x.n z.t z.k1 z.t1 z.x.m z.x.k o d v) [0,2,0] λYa=>.fi () [0,1,1,0])
def Ps(U:AA 15 A)(o k0 d:Nat)(z:KX)(v:Value):Ag B.C A where
 c:=.builtin "proto.getattr_hooked" ⟨[J o,.str EV k0],[]⟩
 F:=[Dd o z.x.a d [some v],XZ z,U7 z,Zq z]
 X:=Unit
 res:=λYa=>.ok (.ret (v))
 led:=λYa=>[Dd o z.x.a d [some v],XZ z,U7 z,Zq z]
 ok:=F9 ADr (lX O U.in1 o k0 d z v)
def gi(U:AA 15 A)(o k0 d w:Nat)(z:KX):Ag B.C A:=
 DN O U "object.__setattr__" [J o,.str EV k0,J w] [Dd o z.x.a d [],XZ z,U7 z,Zq z] (λYa:Unit=>.none) (λYa=>[Dd o z.x.a d [some (J w)],XZ z,U7 z,Zq z]) (λU=>.g 4225<|.fi () (BW 4)) λU=>.g 299345295970433<|.cc (gg O U.l z.x.a z.x.n z.t z.k1 z.t1 z.x.m z.x.k o d w) [0,2,0] λ(y0:PUnit)=>.fi () [0,1,1,0]
def VY(U:AA 6 A)(i:Int)(k t:Nat):Ag B.C A:=
 DN O U "int.__lt__" [.int i k,.int 0 t] [] (λYa:Unit=>.bool (decide (i<0))) (λYa=>[]) (λU=>.fi () []) λU=>.fi () []
structure KZ where
 z:KX
 c:Nat
 k:Nat
 cd:Nat
 x:Fc
abbrev CX(B:Bx)(q:KZ):AN:=[XZ q.z,U7 q.z,Zq q.z,zk B q.z,zm B q.c q.z,EA q.z.c1 Ii T3 q.z.x1,EA q.z.c2 KN jN q.z.x2,Og q.c q.k,Hm q.k (EK B) Bk q.cd,EA q.cd CH Bk q.x]
theorem fc(U:AA 60 A)(L o p v w d e:Nat)(q:KZ)(xs ys:Aa)(h1:xs.length<=1000)(h2:ys.length<=1000):
 AS B A (Ac (SV B) (Xd B q.c q.z.c2 q.z.g2 q.z.f2 L)) (([AI L [(AM,J o),(DM,J p)],Dd o q.z.x.a d [some (J v)],Dd p q.z.x.a e [some (J w)],AF v xs,AF w ys]++CX B q)) (.ret (.bool (decide (EY (ns (xs.drop 1)) (ns (ys.drop 1))<0)))) ((([Dd o q.z.x.a d [some (J v)],Dd p q.z.x.a e [some (J w)],AF v xs,AF w ys]++CX B q))):=by
 obtain⟨_,_|_⟩:=B<;>exact D7 O U (.g 4173<|.fr λk0=>.g 18637186<|.cc (Ps O U.l o k0 d q.z (J v)) [1,4,4,4] λYa=>.g 69<|.fr λk2=>.g 17571974<|.cc (Ps O U.l p k2 e q.z (J w)) [5,1,1,1] λYa=>.g 78<|.cc (gU O U.l q.k q.cd v w q.x xs ys h1 h2) [13,13,6,6] λy4=>.fr λk5=>.cc (VY O U.l (EY (ns (Cd 1 xs)) (ns (Cd 1 ys))) y4 k5) [] λYa=>.fi () [8,4,2,2,2,2,2,3,3,3,3,3,0,0])
theorem fX(U:AA 10 A)(o p:Nat)(q:KZ):
 AS B A (Dc (IC B q.c q.z.c2 q.z.g2) ⟨[J o,J p],[]⟩) [] (([(AM,J o),(DM,J p)]:BC)) []:=
 rn O U (.fi () [])
theorem cr(U:AA 10 A)(o p:Nat)(q:KZ):
 AC B.C A (FP (IC B q.c q.z.c2 q.z.g2).scope (IC B q.c q.z.c2 q.z.g2).globals (IC B q.c q.z.c2 q.z.g2).closure [(AM,J o),(DM,J p)] ((IC B q.c q.z.c2 q.z.g2).qualname++".<locals>.") (some (q.z.f2+323)) (IC B q.c q.z.c2 q.z.g2).code none (IC B q.c q.z.c2 q.z.g2).builtins) []
  (λa:Nat=>Xd B q.c q.z.c2 q.z.g2 q.z.f2 a)
  (λa=>[AI a [(AM,J o),(DM,J p)]]):=
 rn O U (.al λa0=>.fr λk1=>.g 6145<|.fr λk2=>.g 6145<|.fi (a0) [0])
def lA(U:AA 62 A)(o p v w d e:Nat)(q:KZ)(xs ys:Aa)(h1:xs.length<=1000)(h2:ys.length<=1000):Ag B.C A where
 c:=.call (J q.z.f2) ⟨[J o,J p],[]⟩
 F:=[Dd o q.z.x.a d [some (J v)],Dd p q.z.x.a e [some (J w)],AF v xs,AF w ys]++CX B q
 X:=Unit
 res:=λYa=>.ok (.ret (.bool (decide (EY (ns (xs.drop 1)) (ns (ys.drop 1))<0))))
 led:=λYa=>[Dd o q.z.x.a d [some (J v)],Dd p q.z.x.a e [some (J w)],AF v xs,AF w ys]++CX B q
 ok:=(Qn O (n:=61) U (fd:=IC B q.c q.z.c2 q.z.g2) (body:=SV B) ADq ADq ADq (M5.of (n:=KN) (q:=jN) (x:=q.z.x2) (ix1:=[8]) (ix2:=[10]) rfl rfl rfl ADq)
  ((fX O U.l.in1 o p q).frame _) (λR s S=>(cr O U.l.in1 o p q).frame ([Dd o q.z.x.a d [some (J v)],Dd p q.z.x.a e [some (J w)],AF v xs,AF w ys]++CX B q) R s S)
  (λL=>BK (fl:=λYa:Unit=>.ret (.bool (decide (EY (ns (xs.drop 1)) (ns (ys.drop 1))<0)))) (fc O (AA.deeper U.l) L o p v w d e q xs ys h1 h2))).call
theorem pe(U:AA 64 A)(o p v w d e:Nat)(q:KZ)(xs ys:Aa)(h1:xs.length<=1000)(h2:ys.length<=1000):
 AS B A (Gs (J o) KN [J p]) (([Dd o q.z.x.a d [some (J v)],Dd p q.z.x.a e [some (J w)],AF v xs,AF w ys]++CX B q)) (some (HM (decide (EY (ns (xs.drop 1)) (ns (ys.drop 1))<0)))) ((([Dd o q.z.x.a d [some (J v)],Dd p q.z.x.a e [some (J w)],AF v xs,AF w ys]++CX B q))):=by
 obtain⟨_,_|_⟩:=B<;>exact rn O U (.g 1226330433<|.cc (lA O U.l o p v w d e q xs ys h1 h2) (BW 14) λYa=>.fi () (BW 14))
theorem YE(U:AA 10 A)(cd v:Nat):
 AS B A (Dc (Cj (EK B) Bk cd) ⟨[J v,J v],[]⟩) [] (([(Ca,J v),(Dr,J v)]:BC)) []:=
 rn O U (.fi () [])
theorem XJ(U:AA 10 A)(k cd v:Nat):
 AC B.C A (FP (Cj (EK B) Bk cd).scope (Cj (EK B) Bk cd).globals (Cj (EK B) Bk cd).closure [(Ca,J v),(Dr,J v)] ((Cj (EK B) Bk cd).qualname++".<locals>.") (some (k+323)) (Cj (EK B) Bk cd).code none (Cj (EK B) Bk cd).builtins) []
  (λa:Nat=>Oj (Cj (EK B) Bk cd) (k+323) [] (a+323))
  (λa=>[AI a [(Ca,J v),(Dr,J v)]]):=
 rn O U (.al λa0=>.fr λk1=>.g 6145<|.fr λk2=>.g 6145<|.fi (a0) [0])
theorem YI(U:AA 20 A)(k cd v L:Nat)(xs:Aa)(h1:xs.length<=1000):
 AC B.C A (Bf (QE (EK B)) (Oj (Cj (EK B) Bk cd) (k+323) [] (L+323))) [AI L [(Ca,J v),(Dr,J v)],AF v xs]
  (λq:Nat=>Be (EY (ns (xs.drop 1)) (ns (xs.drop 1))) q)
  (λq=>[AF v xs]):=Jk O U (.g 4160<|.fr λk0=>.al λa1=>.g 274627<|.cc (JI _ _ O U.l v a1 1 k0 xs h1) [2,0] λy2=>.g 68<|.fr λk3=>.al λa4=>.g 274627<|.cc (JI _ _ O U.l v a4 1 k3 xs h1) [2,0] λy5=>.g 64<|.cc (Y8 O U.l y2 y5 (Cd 1 xs) (Cd 1 xs)) [3,0] λy6=>.fi (y6) [2])
def bq(U:AA 22 A)(k cd v:Nat)(x:Fc)(xs:Aa)(h1:xs.length<=1000):Ag B.C A where
 c:=.call (J k) ⟨[J v,J v],[]⟩
 F:=[Hm k (EK B) Bk cd,EA cd CH Bk x,AF v xs]
 X:=Nat
 res:=λq=>.ok (.ret (.int (EY (ns (xs.drop 1)) (ns (xs.drop 1))) q))
 led:=λYa=>[Hm k (EK B) Bk cd,EA cd CH Bk x,AF v xs]
 ok:=(N5 O (n:=21) U (fd:=Cj (EK B) Bk cd) (body:=QE (EK B)) rfl ADq ADq (M5.of (n:=CH) (x:=x) (ix1:=[0]) (ix2:=[1]) rfl rfl rfl rfl)
  ((YE O U.l.in1 cd v).frame _) (λR s S=>(XJ O U.l.in1 k cd v).frame [Hm k (EK B) Bk cd,EA cd CH Bk x,AF v xs] R s S)
  (λL=>((YI O (AA.deeper U.l) k cd v L xs h1).frame [Hm k (EK B) Bk cd,EA cd CH Bk x]).ix [0,2,0,0] rfl|>.ox [1,1,0] λYa=>rfl)).call
theorem bE(U:AA 60 A)(L o v d:Nat)(q:KZ)(xs:Aa)(h1:xs.length<=1000):
 AS B A (Ac (SV B) (Xd B q.c q.z.c2 q.z.g2 q.z.f2 L)) (([AI L [(AM,J o),(DM,J o)],Dd o q.z.x.a d [some (J v)],AF v xs]++CX B q)) (.ret (.bool (decide (EY (ns (xs.drop 1)) (ns (xs.drop 1))<0)))) ((([Dd o q.z.x.a d [some (J v)],AF v xs]++CX B q))):=by
 obtain⟨_,_|_⟩:=B<;>exact D7 O U (.g 4171<|.fr λk0=>.g 18104578<|.cc (Ps O U.l o k0 d q.z (J v)) [1,2,2,2] λYa=>.g 69<|.fr λk2=>.g 17571969<|.cc (Ps O U.l o k2 d q.z (J v)) (BW 4) λYa=>.g 76<|.cc (bq O U.l q.k q.cd v q.x xs h1) [11,11,5] λy4=>.fr λk5=>.cc (VY O U.l (EY (ns (Cd 1 xs)) (ns (Cd 1 xs))) y4 k5) [] λYa=>.fi () [3,2,2,2,2,3,3,3,3,3,0,0])
theorem ak(U:AA 10 A)(o:Nat)(q:KZ):
 AS B A (Dc (IC B q.c q.z.c2 q.z.g2) ⟨[J o,J o],[]⟩) [] (([(AM,J o),(DM,J o)]:BC)) []:=
 rn O U (.fi () [])
theorem ZS(U:AA 10 A)(o:Nat)(q:KZ):
 AC B.C A (FP (IC B q.c q.z.c2 q.z.g2).scope (IC B q.c q.z.c2 q.z.g2).globals (IC B q.c q.z.c2 q.z.g2).closure [(AM,J o),(DM,J o)] ((IC B q.c q.z.c2 q.z.g2).qualname++".<locals>.") (some (q.z.f2+323)) (IC B q.c q.z.c2 q.z.g2).code none (IC B q.c q.z.c2 q.z.g2).builtins) []
  (λa:Nat=>Xd B q.c q.z.c2 q.z.g2 q.z.f2 a)
  (λa=>[AI a [(AM,J o),(DM,J o)]]):=
 rn O U (.al λa0=>.fr λk1=>.g 6145<|.fr λk2=>.g 6145<|.fi (a0) [0])
def gS(U:AA 62 A)(o v d:Nat)(q:KZ)(xs:Aa)(h1:xs.length<=1000):Ag B.C A where
 c:=.call (J q.z.f2) ⟨[J o,J o],[]⟩
 F:=[Dd o q.z.x.a d [some (J v)],AF v xs]++CX B q
 X:=Unit
 res:=λYa=>.ok (.ret (.bool (decide (EY (ns (xs.drop 1)) (ns (xs.drop 1))<0))))
 led:=λYa=>[Dd o q.z.x.a d [some (J v)],AF v xs]++CX B q
 ok:=(Qn O (n:=61) U (fd:=IC B q.c q.z.c2 q.z.g2) (body:=SV B) ADq ADq ADq (M5.of (n:=KN) (q:=jN) (x:=q.z.x2) (ix1:=[6]) (ix2:=[8]) rfl rfl rfl ADq)
  ((ak O U.l.in1 o q).frame _) (λR s S=>(ZS O U.l.in1 o q).frame ([Dd o q.z.x.a d [some (J v)],AF v xs]++CX B q) R s S)
  (λL=>BK (fl:=λYa:Unit=>.ret (.bool (decide (EY (ns (xs.drop 1)) (ns (xs.drop 1))<0)))) (bE O (AA.deeper U.l) L o v d q xs h1))).call
theorem jr(U:AA 64 A)(o v d:Nat)(q:KZ)(xs:Aa)(h1:xs.length<=1000):
 AS B A (Gs (J o) KN [J o]) (([Dd o q.z.x.a d [some (J v)],AF v xs]++CX B q)) (some (HM (decide (EY (ns (xs.drop 1)) (ns (xs.drop 1))<0)))) ((([Dd o q.z.x.a d [some (J v)],AF v xs]++CX B q))):=by
 obtain⟨_,_|_⟩:=B<;>exact rn O U (.g 1192243393<|.cc (gS O U.l o v d q xs h1) (BW 12) λYa=>.fi () (BW 12))
def lM(U:AA 11 A)(w:Nat)(z:KX):Ag B.C A:=
 DN O U "object.__new__" [J z.x.a,J w] [XZ z,U7 z] (λq:Nat×Nat=>J q.1) (λq=>[Dd q.1 z.x.a q.2 [],XZ z,U7 z]) (λU=>.g 4467856773185<|.fi () [0,0]) λU=>.g 4798477602515040079937<|.al λa0=>.al λa1=>.g 67<|.fi (a1,a0) [0,1,1]
theorem bD(U:AA 40 A)(L o w d:Nat)(q:KZ):
 AS B A (Ac (eZ B) (mn B q.z.c1 q.z.f1 L)) (([AI L [(AM,J o),(EV,J w)],Dd o q.z.x.a d []]++CX B q)) .next ((([Dd o q.z.x.a d [some (J w)]]++CX B q))):=
 D7 O U (.g 4161<|.fr λk0=>.g 17838274<|.cc (gi O U.l o k0 d w q.z) [1,1,1,1] λYa=>.fi () [0,0,0,0,1,1,1,1,1,1,1])
theorem fW(U:AA 10 A)(o w:Nat)(q:KZ):
 AS B A (Dc (Oq B q.z.c1) ⟨[J o,J w],[]⟩) [] (([(AM,J o),(EV,J w)]:BC)) []:=
 rn O U (.fi () [])
theorem cq(U:AA 10 A)(o w:Nat)(q:KZ):
 AC B.C A (FP (Oq B q.z.c1).scope (Oq B q.z.c1).globals (Oq B q.z.c1).closure [(AM,J o),(EV,J w)] ((Oq B q.z.c1).qualname++".<locals>.") (some (q.z.f1+323)) (Oq B q.z.c1).code none (Oq B q.z.c1).builtins) []
  (λa:Nat=>mn B q.z.c1 q.z.f1 a)
  (λa=>[AI a [(AM,J o),(EV,J w)]]):=
 rn O U (.al λa0=>.fr λk1=>.g 6145<|.fr λk2=>.g 6145<|.fi (a0) [0])
def k_(U:AA 42 A)(o w d:Nat)(q:KZ):Ag B.C A where
 c:=.call (J q.z.f1) ⟨[J o,J w],[]⟩
 F:=[Dd o q.z.x.a d []]++CX B q
 X:=Unit
 res:=λYa=>.ok (.ret .none)
 led:=λYa=>[Dd o q.z.x.a d [some (J w)]]++CX B q
 ok:=(Qn O (n:=41) U (fd:=Oq B q.z.c1) (body:=eZ B) ADq ADq ADq (M5.of (n:=Ii) (q:=T3) (x:=q.z.x1) (ix1:=[4]) (ix2:=[6]) rfl rfl rfl ADq)
  ((fW O U.l.in1 o w q).frame _) (λR s S=>(cq O U.l.in1 o w q).frame ([Dd o q.z.x.a d []]++CX B q) R s S)
  (λL=>BK (fl:=λYa:Unit=>.next) (bD O (AA.deeper U.l) L o w d q))).call
omit O
theorem AC.second{C:Cx}{A:AL}{α:Type}{t:Sem α}{v:α}{e1 e2:Bi}{T:AN}(h:AC C A t [e1] (λYa:Unit=>v) (λYa=>[e1])):AC C A t (e2::e1::T) (λYa:Unit=>v) (λYa=>e2::e1::T):=
 ((h.frame (e2::T)).pre λR s S=>S.perm (Ae e1 e2 (T++R))).post λYa R s S=>S.perm (Ae e2 e1 (T++R))
abbrev vU(B:Bx)(q:KZ):AN:=[U7 q.z,Zq q.z,zk B q.z,zm B q.c q.z,EA q.z.c1 Ii T3 q.z.x1,EA q.z.c2 KN jN q.z.x2,Og q.c q.k,Hm q.k (EK B) Bk q.cd,EA q.cd CH Bk q.x]
include O
theorem pJ(U:AA 44 A)(o w d:Nat)(q:KZ):
 AS B A (ED (J o) Ii [J w] []) (([Dd o q.z.x.a d []]++CX B q)) (some CU) ((([Dd o q.z.x.a d [some (J w)]]++CX B q))):=rb O U (.g 1158422657<|.cc (k_ O U.l o w d q) (BW 11) λYa=>.fi () (BW 11))
theorem ym(U:AA 44 A)(w:Nat)(q:KZ):
 AS B A (BM (.call (J q.z.x.a) ⟨[J w],[]⟩)) (CX B q) (.again (.call (.builtin "type.__call__") ⟨[J q.z.x.a,J w],[]⟩)) ((CX B q)):=
 rn O U (.g 4161<|.fi () (BW 10))
theorem uM(U:AA 44 A)(w:Nat)(q:KZ):
 AS B A (BM (.call (.builtin "type.__call__") ⟨[J q.z.x.a,J w],[]⟩)) (CX B q) (.again (.builtin "type.__call__" ⟨[J q.z.x.a,J w],[]⟩)) ((CX B q)):=
 rn O U (.g 65<|.fi () (BW 10))
omit O
theorem cn:C1 FZ "type.__call__"=some Builtin.«type.__call__»:=B2 ADq
include O
theorem AAV(U:AA 46 A)(w:Nat)(q:KZ):AC B.C A (Builtin.«type.__call__» ⟨[J q.z.x.a,J w],[]⟩) (CX B q) (λp:Nat×Nat=>Az (.ret (J p.1))) (λp=>[Dd p.1 q.z.x.a p.2 [some (J w)]]++CX B q):=by
 unfold Builtin.«type.__call__»;refine AC.ML ?_ ?_
 ·kernel_rfl
 refine AC.go (t:=PySem.mroOf _) Unit (λYa=>[J q.z.x.a,.type "object"]) (λYa=>CX B q) (.g 65<|.fi () (BW 10)) O U.1 ADq λYa=>?_
 refine AC.ML ?_ ?_
 ·kernel_rfl
 refine AC.go (t:=Bind.madeBy _) Unit (λYa=>some "object.__new__") (λYa=>CX B q) (.g 4161<|.fi () (BW 10)) O U.1 ADq λYa=>?_
 refine AC.KO (t:=pure _) (v:=Value.builtin "object.__new__") (AC.ret () rfl rfl) ?_;refine AC.bind (res:=λp:Nat×Nat=>J p.1) (led:=λp=>[Dd p.1 q.z.x.a p.2 []]++CX B q) (AC.hold ?_) λp=>?_
 ·exact rn O U (.cc (lM O U.l w q.z) [0,0] λ(y:Nat×Nat)=>.fi y (BW 11))
 refine AC.KO (t:=J4 _ _) (v:=true) ?_ ?_
 ·unfold J4
  refine AC.go (t:=J6 _) Unit (λYa=>J q.z.x.a) (λYa=>[Dd p.1 q.z.x.a p.2 []]++CX B q) (.g 65<|.fi () (BW 11)) O U.1 ADq λYa=>?_
  exact AC.second (T:=vU B q) (Nh O U.1 q.z.x.a q.z.x.n q.z.t q.z.k1 q.z.t1)
 refine AC.ML ?_ ?_
 ·rfl
 refine AC.bind (res:=λYa:Unit=>some CU) (led:=λYa=>[Dd p.1 q.z.x.a p.2 [some (J w)]]++CX B q) (AC.hold (pJ O U.l p.1 w p.2 q)) λYa=>?_;refine AC.ML ?_ ?_
 ·kernel_rfl
 exact AC.ret p rfl rfl
omit O
theorem Sj{C:Cx}{A:AL}{F:AN}{X:Type}{f:Value}{args Di:LO}{id:String}{b:KV}{val:X->Value}{led:X->AN}(hb:C1 FZ id=some b)
 (h1:AC C (A.under (.call f args)) (BM (.call f args)) F (λYa:Unit=>.again (.call (.builtin id) Di)) (λYa=>F))
 (iG:AC C (A.under (.call (.builtin id) Di)) (BM (.call (.builtin id) Di)) F (λYa:Unit=>.again (.builtin id Di)) (λYa=>F)) (md:(OG (.builtin id) Di).quiet=true) (hq:(FD id Di).quiet=true)
 (h2:AC C (A.under (.builtin id Di)) (b Di) F (λx=>Az (.ret (val x))) led):Bv C A (.call f args) F (λx=>.ok (.ret (val x))) led:=
 Bu λR s S=>by
  refine BL ?_;rw[E4 C];refine AC.wp h1 S λYa s₁ S₁=>?_;refine⟨md,BL ?_⟩;rw[E4 C];refine AC.wp iG S₁ λYa s₁ S₁=>?_;refine⟨hq,Ez hb ?_⟩;exact AC.wp h2 S₁ λx s₂ S₂=>⟨x,rfl,S₂⟩
include O
def uC(U:AA 50 A)(w:Nat)(q:KZ):Ag B.C A where
 c:=.call (J q.z.x.a) ⟨[J w],[]⟩
 F:=CX B q
 X:=Nat×Nat
 res:=λp=>.ok (.ret (J p.1))
 led:=λp=>[Dd p.1 q.z.x.a p.2 [some (J w)]]++CX B q
 ok:=Sj cn (ym O (A:=A.under (.call (J q.z.x.a) ⟨[J w],[]⟩)) (U.l.ca _ _) w q) (uM O (A:=A.under (.call (.builtin "type.__call__") ⟨[J q.z.x.a,J w],[]⟩)) (U.l.ca _ _) w q) rfl (F0 _)
  (AAV O (A:=A.under (.builtin "type.__call__" ⟨[J q.z.x.a,J w],[]⟩)) (U.l.ty _) w q)
noncomputable def Ri(lt:Nat->Nat->Bool){α:Type}:KasT α->α
 |.ret a=>a
 |.ask i j k=>Ri lt (k (lt i j))
def FI(n:Nat){α:Type}(P:α->Prop):KasT α->Prop
 |.ret a=>P a
 |.ask i j k=>i<n/\j<n/\ ∀b,FI n P (k b)
omit O
theorem FI.bind{n:Nat}{α β:Type}{P:α->Prop}{Q:β->Prop}{f:α->KasT β}: ∀{t:KasT α},FI n P t->(∀a,P a->FI n Q (f a))->FI n Q (t.bind f)
 |.ret a,h,g=>g a h
 |.ask i j k,h,g=>⟨h.1,h.2.1,λb=>FI.bind (h.2.2 b) g⟩
def Ha(n:Nat)(p:Array Nat):Prop:= ∀i,p.getD i 0<n
theorem Ha.ek{n:Nat}{p:Array Nat}(hn:0<n)(h: ∀x∈p.toList,x<n):Ha n p:=λi=>by
 by_cases hi:i<p.size
 ·have e:p.getD i 0=p[i]:=by simp[MY,hi]
  rw[e];exact h _ ADt
 ·have e:p.getD i 0=0:=by simp[MY,hi]
  rw[e];exact hn
theorem Ha.mem{n:Nat}{p:Array Nat}(h:Ha n p): ∀x∈p.toList,x<n:=λx hx=>by
 obtain⟨i,hi,e⟩:=List.mem_iff_getElem.mp hx;have Tb:i<p.size:=by simpa using hi
 have:=h i
 have e2:p.getD i 0=p[i]:=by simp[MY,Tb]
 rw[e2] at this;rw[<-e];simpa using this
theorem Ha.pos{n:Nat}{p:Array Nat}(h:Ha n p):0<n:=Em (By _) (h 0)
theorem Ha.perm{n:Nat}{p q:Array Nat}(h:Ha n p)(e:q.Perm p):Ha n q:=Ha.ek h.pos λx hx=>h.mem x ((Array.perm_iff_toList_perm.mp e).mem_iff.mp hx)
theorem Ha.rev{n i j:Nat}{p:Array Nat}(h:Ha n p):Ha n (kas_rev p i j):=h.perm (mirror_perm _ _ _ _)
theorem Ha.bub{n i j:Nat}{p:Array Nat}(h:Ha n p):Ha n (bubble p i j):=h.perm (bubble_perm _ _ _)
theorem XX{N:Nat}{p:Array Nat}(h:Ha N p): ∀f n,FI N (λYa=>True) (kas_asc p f n)
 |0,n=>trivial
 |f+1,n=>⟨h _,h _,λb=>by
  show FI N _ (if b=true then _ else _)
  split
  ·trivial
  ·exact XX h f (n+1)⟩
theorem P9{N:Nat}: ∀f {p:Array Nat} (_:Ha N p) n q,FI N (λr=>Ha N r.1) (kas_desc f p n q)
 |0,p,h,n,q=>h
 |f+1,p,h,n,q=>⟨h _,h _,λb=>by
  show FI N _ (if b=true then(if q>0 then _ else _) else _)
  split
  ·split
   ·exact P9 f h.rev _ _
   ·exact P9 f h _ _
  ·exact⟨h _,h _,λd=>by
    show FI N _ (if d=true then _ else _)
    split
    ·exact h
    ·exact P9 f h _ _⟩⟩
theorem Vr{N n Zy:Nat}{p:Array Nat}(h:Ha N p):FI N (λr=>Ha N r.2) (kas_tail3 n Zy p):=
 (XX h.rev _ _).bind λYa Ya=>h.rev
theorem P_{N n Zy:Nat}{p:Array Nat}(h:Ha N p):FI N (λr=>Ha N r.2) (kas_descPart n Zy p):=
 (P9 _ h _ _).bind λr hr=>by
  split
  ·exact Vr hr.rev
  ·exact Vr hr
theorem iS{N Zy:Nat}{p:Array Nat}(h:Ha N p):FI N (λr=>Ha N r.2) (kas_count Zy p):=
 (XX h _ _).bind λn _=>by
  split
  ·exact h
  ·split
   ·exact⟨h _,h _,λc=>by
     show FI N _ (if c=true then _ else _)
     split
     ·exact h
     ·exact P_ h.rev⟩
   ·exact P_ h
theorem Q1{N:Nat}{p:Array Nat}(h:Ha N p)(k:Nat): ∀f l r,FI N (λYa=>True) (kas_place p k f l r)
 |0,l,r=>trivial
 |f+1,l,r=>by
  unfold kas_place
  split
  ·trivial
  ·exact⟨h _,h _,λc=>by
    show FI N _ (if c=true then _ else _)
    split
    ·exact Q1 h k f _ _
    ·exact Q1 h k f _ _⟩
theorem ea{N:Nat}: ∀f {p:Array Nat} (_:Ha N p) k,FI N (Ha N) (kas_bin f p k)
 |0,p,h,k=>h
 |f+1,p,h,k=>(Q1 h k _ _ _).bind λl _=>ea f h.bub (k+1)
theorem Zm{n:Nat}(hn:0<n):FI n (Ha n) (kas_sort n):=
 (iS (N:=n) (Ha.ek hn ADt)).bind λr hr=>by
  split
  ·exact ea _ hr _
  ·exact hr
theorem Rj{n:Nat}{df dg:Nat->Nat->Bool}(h: ∀i j,i<n->j<n->df i j=dg i j){α:Type}{P:α->Prop}: ∀{t:KasT α},FI n P t->Ri df t=Ri dg t
 |.ret a,_=>rfl
 |.ask i j k,hk=>by
  show Ri df (k (df i j))=Ri dg (k (dg i j));rw[h i j hk.1 hk.2.1];exact Rj h (hk.2.2 _)
theorem Vu{n:Nat}{lt:Nat->Nat->Bool}{cmp:Nat->Nat->(Bool->Af->Prop)->Af->Prop}{I:Af->Prop}(hc: ∀i j,i<n->j<n-> ∀(C:Bool->Af->Prop) s,I s->(∀s',I s'->C (lt i j) s')->cmp i j C s)
 {α:Type} {P:α->Prop} {Q:α->Af->Prop}: ∀{t:KasT α},FI n P t-> ∀s,I s->(∀s',I s'->Q (Ri lt t) s')->t.kasWp cmp Q s
 |.ret a,_,s,hs,h=>h s hs
 |.ask i j k,hk,s,hs,h=>hc i j hk.1 hk.2.1 _ s hs λs' P6=>Vu hc (hk.2.2 _) s' P6 h
def pI(lt:Nat->Nat->Bool)(n:Nat):Ay:=(Ri lt (kas_sort n)).toList
def De(lt:Nat->Nat->Bool)(vs:Ak):Ak:=(pI lt vs.length).map λi=>vs.getD i .none
theorem Xs{df dg:Nat->Nat->Bool}{vs:Ak}(hn:0<vs.length)(h: ∀i j,i<vs.length->j<vs.length->df i j=dg i j):De df vs=De dg vs:=by
 unfold De pI;rw[Rj h (Zm hn)]
theorem St.lv{C:Cx}{s:Af}{a:Addr}{cls:Value}{xs:Ak}{L:AN}(S:St C (.one a (.ls cls none xs)::L) s): ∃e,St C (.one a (.ex ⟨cls,none,.seq ⟨xs⟩ e,⟨[]⟩⟩)::L) s:=by
 obtain⟨g,hg⟩:=S.Dj;obtain⟨H,hH,XP⟩:=S.led;refine⟨g.ep,S.old,⟨H,hH,λp hp=>?_,XP.nodup,λp hp=>?_⟩,S.gens,S.os,S.size⟩
 ·rcases List.mem_cons.mp (show p∈(a,AO.ex ⟨cls,none,.seq ⟨xs⟩ g.ep,⟨[]⟩⟩)::(Ao L++H) from hp) with rfl|hp
  ·exact⟨_,hg,G0,rfl⟩
  ·exact XP.at_ p (.tail _ hp)
 ·rcases List.mem_cons.mp (show p∈(a,AO.ex ⟨cls,none,.seq ⟨xs⟩ g.ep,⟨[]⟩⟩)::(Ao L++H) from hp) with rfl|hp
  ·exact XP.new (a,AO.ls cls none xs) (.head _)
  ·exact XP.new p (.tail _ hp)
noncomputable abbrev Jh(l:Nat)(xs:Ak)(e:Nat):Bi:=.one (l+323) (.ex ⟨.type "list",none,.seq ⟨xs⟩ e,⟨[]⟩⟩)
section
variable{C:Cx}{A:AL}
theorem AC.yh{α:Type}{t:Sem α}{l:Nat}{xs:Ak}{L:AN}{X:Type}{res:X->α}{led:X->AN}(h: ∀e,AC C A t (Jh l xs e::L) res led):AC C A t (AE l xs::L) res led:=λR s S=>by
 obtain⟨e,S'⟩:=S.lv;exact h e R s S'
theorem aB{xs:Ak}(L:AN)(hx:xs.length<=1000):AC C A (newTuple xs) L (λt:Value=>t) (λYa=>L):=λR s S=>wpAny_newTuple ⟨_,rfl,by
 have S2:=(S.alloc (o:={cls:=.type "tuple",data:=.seq xs.toArray}) (ao:=.ls (.type "tuple") none xs) rfl ⟨G0,rfl⟩).perm (L':=(L++R)++[_]) (A9 (l₁:=[_]));exact S2.drop⟩ (by rw[Br];lia)
theorem T7{l:Nat}{xs ys:Ak}{f:Bs->Bs}(hx:xs.length<=1000)(hy:ys.length<=1000)(hf:f ⟨xs⟩=⟨ys⟩):AC C A (Df (J l) f) [AE l xs] (λYa:Unit=>()) (λYa=>[AE l ys]):=λR s S=>by
 obtain⟨g,h⟩:=S.Dj;refine listUpdate_at h rfl ?_ (by rw[Br];show xs.length<=_;lia) (by rw[hf,Br];show ys.length<=_;lia)
 obtain⟨e,he⟩: ∃e,(s.heap.update (l+323) (Me f)).get? (l+323)=some (seqObj "list" (f ⟨xs⟩) e):=⟨_,get?_update_seq h f⟩;rw[hf] at he;exact⟨(),rfl,S.Np (B1 ..) he ⟨⟨λYa=>0,λYa=>0,e,⟨[]⟩⟩,rfl⟩⟩
theorem jV{l e0:Nat}{xs ys:Ak}{f:Bs->Bs}(hx:xs.length<=1000)(hy:ys.length<=1000)(hf:f ⟨xs⟩=⟨ys⟩):AC C A (Df (J l) f) [Jh l xs e0] (λYa:Unit=>()) (λYa=>[AE l ys]):=λR s S=>by
 obtain⟨g,h⟩:=S.Dj;refine listUpdate_at h rfl ?_ (by rw[Br];show xs.length<=_;lia) (by rw[hf,Br];show ys.length<=_;lia)
 obtain⟨e,he⟩: ∃e,(s.heap.update (l+323) (Me f)).get? (l+323)=some (seqObj "list" (f ⟨xs⟩) e):=⟨_,get?_update_seq h f⟩;rw[hf] at he;exact⟨(),rfl,S.Np (B1 ..) he ⟨⟨λYa=>0,λYa=>0,e,⟨[]⟩⟩,rfl⟩⟩
theorem aA{l:Nat}{xs:Ak}:AC C A (A7 (J l)) [AE l xs] (λYa:Unit=>⟨xs⟩) (λYa=>[AE l xs]):=λR s S=>by
 obtain⟨g,h⟩:=S.Dj;exact CR h rfl ⟨(),rfl,S⟩
end
section
variable{B:Bx}{A:AL}
structure X3(B:Bx)(A:AL)(vs:Ak)(q:Addr)(T:Value)(lt:Nat->Nat->Bool) where
 S:Nat->Type
 G: ∀j,S j->AN
 ks: ∀j,S j->Ak
 len: ∀j σ,(ks j σ).length=j
 call: ∀j v,vs[j]? =some v-> ∀σ:S j,AC B.C A (call (.ref q) [v]) (G j σ) (λp:{y:S (j+1)×Value//ks (j+1) y.1=ks j σ++[y.2]}=>p.1.2) (λp=>G (j+1) p.1.1)
 typ: ∀(σ:S vs.length) v,v∈ks _ σ-> ∀R s,St B.C (G _ σ++R) s->Looks B.C.M s.heap (J6 v) T
 t1:(T != HN "tuple")=true
 t2:(T==T)=true
 lt: ∀(σ:S vs.length) i j u v,(ks _ σ)[i]? =some u->(ks _ σ)[j]? =some v->AC B.C A (keyLt' Qh u v) (G _ σ) (λYa:Unit=>lt i j) (λYa=>G _ σ)
theorem aK{keys vs:Ak}{p:Array Nat}(hk:keys.length=vs.length):(p.map (UU ((⟨keys⟩:Bs).zip ⟨vs⟩))).map (·.2)=⟨p.toList.map λi=>vs.getD i .none⟩:=by
 obtain⟨p⟩:=p;simp only[List.map_toArray,CK,Array.mk.injEq];refine CA λi _=>?_;simp only[Il,UU];have hz:((⟨keys⟩:Bs).zip ⟨vs⟩)=⟨keys.zip vs⟩:=by simp
 rw[hz]
 by_cases h:i<vs.length
 ·have h2:i<(keys.zip vs).length:=by rw[I8];lia
  have e1:(⟨keys.zip vs⟩:Array (Value×Value)).getD i (.none,.none)=(keys.zip vs)[i]:=by
   show(if h:i<(keys.zip vs).length then(keys.zip vs)[i] else _)=_
   rw[dif_pos h2]
  rw[e1,LS,Ad,AJ h]
  rfl
 ·have h2: ¬i<(keys.zip vs).length:=by rw[I8];lia
  have e1:(⟨keys.zip vs⟩:Array (Value×Value)).getD i (.none,.none)=(.none,.none):=by simp only[MY,List.size_toArray,h2,dite_false]
  rw[e1,Ad,B7 ADp]
  rfl
theorem jZ(O:B.C.Ok)(U:A.handled=none){vs:Ak}(h2:2<=vs.length)(NL:vs.length<64){q:Addr}{T:Value}{lt:Nat->Nat->Bool}(Z:X3 B A vs q T lt)(l:Nat)(σ0:Z.S 0):
 AC B.C A (Builtin.«list.sort» ⟨[J l],[(JO "key",.ref q)]⟩) (AE l vs::Z.G 0 σ0) (λYa:Z.S vs.length=>Az (.ret .none)) (λσ=>AE l (De lt vs)::Z.G _ σ):=by
 rw[ksk_t1];unfold ksk_tree;refine AC.KO (v:=⟨vs⟩) (aA.frame (Z.G 0 σ0)) ?_;refine AC.bind ((T7 (ys:=[]) ADp ADt rfl).frame (Z.G 0 σ0)) λYa=>?_
 refine AC.yh (l:=l) (xs:=[]) (L:=Z.G 0 σ0) λe=>?_;refine AC.bind (res:=λYa:Unit=>e) (led:=λYa=>Jh l [] e::Z.G 0 σ0) (λR s S=>?_) λYa=>?_
 ·obtain⟨g,h⟩:=S.Dj
  exact seqEpoch_at h rfl ⟨(),rfl,S⟩
 refine AC.bind (res:=λt:Value=>t) (led:=λYa=>Jh l [] e::Z.G 0 σ0) (aB (xs:=vs) _ ADp) λt=>?_
 refine AC.bind (res:=λk:Nat=>J k) (led:=λk=>AE k []::Jh l [] e::Z.G 0 σ0) ((Ga (L:=[]) (X:=Nat) (res:=λt:Nat=>J t) (led:=λk=>[AE k []]) O U (.al λt=>.fi t [0]) ADq).frame (Jh l [] e::Z.G 0 σ0)) λk=>?_
 refine AC.hold ?_;unfold ksk_rest;refine λR s S=>AB (Eo ?_);rw[<-Array.forIn_toList];refine AB (ksk_fold (λi s'=> ∃σ:Z.S i,St B.C ((AE k (Z.ks i σ)::Jh l [] e::Z.G i σ)++R) s') vs 0 s ⟨σ0,?_⟩ (λj x s' hx hI=>?_) λs' hI=>?_)
 ·have:Z.ks 0 σ0=[]:=List.length_eq_zero_iff.mp (Z.len 0 σ0)
  rw[this];exact S
 ·rw[FH] at hI⊢
  obtain⟨σ,S⟩:=hI;have hj:j<vs.length:=(List.getElem?_eq_some_iff.mp hx).1;have S1:St B.C (Z.G j σ++(AE k (Z.ks j σ)::Jh l [] e::R)) s':=S.perm (by
   show(AE k (Z.ks j σ)::Jh l [] e::(Z.G j σ++R)).Perm _
   exact(BY _ List.perm_middle.symm).trans List.perm_middle.symm)
  refine AB (O2 (Av (Z.call j x hx σ _ s' S1) (λv xY hv=>?_) λYa Ya hF=>hF.elim));obtain⟨⟨⟨σ',u⟩,hu⟩,rfl,S2⟩:=hv
  dsimp only at hu S2⊢
  have S3:St B.C ([AE k (Z.ks j σ)]++(Jh l [] e::Z.G (j+1) σ'++R)) xY:=S2.perm (by
   show(Z.G (j+1) σ'++(AE k (Z.ks j σ)::Jh l [] e::R)).Perm (AE k (Z.ks j σ)::Jh l [] e::(Z.G (j+1) σ'++R))
   exact List.perm_middle.trans (BY _ BH))
  have hlen:=Z.len j σ;refine AB (AC.wp (T7 (ys:=Z.ks j σ++[v]) (f:=(·.push v)) ADp (by rw[AX,CF];lia) ADt) S3 λYa s3 S4=>?_)
  refine AP ⟨rfl,σ',?_⟩;rw[hu];exact S4
 ·rw[FH] at hI
  obtain⟨σ,S⟩:=hI;refine AB (AC.wp aA S λYa s1 S1=>?_);have hlen:=Z.len _ σ;unfold ksk_end
  dsimp only
  rw[if_neg BP,if_neg (show¬(⟨vs⟩:Bs).size<2 by simp;lia),if_neg (show¬(⟨vs⟩:Bs).size<2 by simp;lia),if_neg BP]
  have x4:St B.C (Z.G _ σ++(AE k (Z.ks _ σ)::Jh l [] e::R)) s1:=S1.perm (by
   show(AE k (Z.ks _ σ)::Jh l [] e::(Z.G _ σ++R)).Perm _
   exact(BY _ List.perm_middle.symm).trans List.perm_middle.symm)
  refine AB (kas_kind (vs:=Z.ks _ σ) ADp (λv hv=>Z.typ σ v hv _ s1 x4) Z.t1 Z.t2 ?_)
  have XW:((⟨Z.ks _ σ⟩:Bs).zip ⟨vs⟩).size=vs.length:=by simp;lia
  have Ms:SortSt.mk' Qh ((⟨Z.ks _ σ⟩:Bs).zip ⟨vs⟩) #[] 7 none=kas_st Qh ((⟨Z.ks _ σ⟩:Bs).zip ⟨vs⟩) (List.toArray (Ah vs.length)):=by
   unfold kas_st
   have:=kas_range ((⟨Z.ks _ σ⟩:Bs).zip ⟨vs⟩)
   rw[XW] at this;rw[this]
  rw[Ms];have XU:0<vs.length:=by lia
  have zY:=kas_runs (prog:=B.C.prog) (w:=B.C.w) (A:=A) (E:=λYa Ya=>False) (κ:=Qh) (it:=(⟨Z.ks _ σ⟩:Bs).zip ⟨vs⟩) (n:=vs.length) (s:=s1)
   (Q:=λYa VF s'=>failedOf VF=none/\(arrOf VF).map (·.2)=⟨De lt vs⟩/\(arrOf VF).size=vs.length/\St B.C (Z.G _ σ++(AE k (Z.ks _ σ)::Jh l [] e::R)) s')
   (G:=λp s'=>p=Ri lt (kas_sort vs.length)/\St B.C (Z.G _ σ++(AE k (Z.ks _ σ)::Jh l [] e::R)) s') h2 NL
   (λp' VF s' hp ha hf ⟨hk,hS⟩=>⟨hf,by rw[ha,aK hlen,hk];rfl,by rw[ha,Array.size_map,hp],hS⟩)
   (Vu (n:=vs.length) (lt:=lt) (I:=λs'=>St B.C (Z.G _ σ++(AE k (Z.ks _ σ)::Jh l [] e::R)) s') (λi j hi hj D s3 hS hD=>?_) (Zm XU) s1 x4 (λs' hS=>⟨rfl,hS⟩))
  ·refine AB (Av zY (λr s' hr=>?_) λYa Ya h=>h.elim)
   obtain⟨⟨⟩,VF⟩:=r;obtain⟨hf,hm,Is,hS⟩:=hr
   dsimp only at hf hm Is hS⊢
   unfold ksk_tail
   dsimp only
   have zL:(De lt vs).length=vs.length:=by
    have:((arrOf VF).map (·.2)).size=vs.length:=by rw[Array.size_map,Is]
    rw[hm] at this;exact this
   have S4:St B.C ([AE k (Z.ks _ σ)]++(Jh l [] e::Z.G _ σ++R)) s':=hS.perm (by
    show(Z.G _ σ++(AE k (Z.ks _ σ)::Jh l [] e::R)).Perm (AE k (Z.ks _ σ)::Jh l [] e::(Z.G _ σ++R))
    exact List.perm_middle.trans (BY _ BH))
   refine AB (AC.wp (T7 (ys:=[]) ADp ADt rfl) S4 λYa s5 S5=>?_)
   refine AB (R0 ?_);have S6:St B.C ([Jh l [] e]++(AE k []::Z.G _ σ++R)) s5:=S5.perm (by
    show(AE k []::Jh l [] e::(Z.G _ σ++R)).Perm (Jh l [] e::AE k []::(Z.G _ σ++R))
    exact Ae _ _ _)
   obtain⟨g6,h6⟩:=S6.Dj;refine AB (seqEpoch_at h6 rfl ?_);rw[hm];refine AB (AC.wp (jV (ys:=De lt vs) ADt ADp rfl) S6 λYa s7 S7=>?_)
   rw[hf];refine iN ADt ?_
   refine AP ⟨σ,rfl,?_⟩;have S8:St B.C ((AE l (De lt vs)::Z.G _ σ++R)++[AE k []]) s7:=S7.perm (by
    show(AE l (De lt vs)::AE k []::(Z.G _ σ++R)).Perm (AE l (De lt vs)::((Z.G _ σ++R)++[AE k []]))
    exact BY _ (A9 (l₁:=[AE k []])))
   exact S8.drop
  ·have Tb:i<(Z.ks _ σ).length:=by lia
   have u8:j<(Z.ks _ σ).length:=by lia
   have mW: ∀i (h:i<(Z.ks _ σ).length),(UU ((⟨Z.ks _ σ⟩:Bs).zip ⟨vs⟩) i).1=(Z.ks _ σ)[i]:=λi h=>by
    have hz:((⟨Z.ks _ σ⟩:Bs).zip ⟨vs⟩)=⟨(Z.ks _ σ).zip vs⟩:=by simp
    have h2:i<((Z.ks _ σ).zip vs).length:=by rw[I8];lia
    unfold UU;rw[hz];have e1:(⟨(Z.ks _ σ).zip vs⟩:Array (Value×Value)).getD i (.none,.none)=((Z.ks _ σ).zip vs)[i]:=by
     show(if h:i<((Z.ks _ σ).zip vs).length then((Z.ks _ σ).zip vs)[i] else _)=_
     rw[dif_pos h2]
    rw[e1,LS]
   unfold kas_cmp;rw[mW i Tb,mW j u8];refine AC.wp (Z.lt σ i j _ _ (AJ Tb) (AJ u8)) hS λYa s' hS'=>?_;exact hD s' hS'
end
def OC:Str:=Bl [107,101,121]
include O
theorem ap(U:AA 10 A)(cd w:Nat):
 AS B A (Dc (Cj (HS B) Bk cd) ⟨[J w],[]⟩) [] (([(Hr,J w)]:BC)) []:=
 rn O U (.fi () [])
theorem ZU(U:AA 10 A)(k cd w:Nat):
 AC B.C A (FP (Cj (HS B) Bk cd).scope (Cj (HS B) Bk cd).globals (Cj (HS B) Bk cd).closure [(Hr,J w)] ((Cj (HS B) Bk cd).qualname++".<locals>.") (some (k+323)) (Cj (HS B) Bk cd).code none (Cj (HS B) Bk cd).builtins) []
  (λa:Nat=>Oj (Cj (HS B) Bk cd) (k+323) [] (a+323))
  (λa=>[AI a [(Hr,J w)]]):=
 rn O U (.al λa0=>.fr λk1=>.g 6145<|.fi (a0) [0])
theorem bH(U:AA 20 A)(k cd w L i u:Nat)(xs:Aa)(h1:xs.length<=1000)(hx:xs[1]? =some (i,u)):
 AS B A (Bf (QE (HS B)) (Oj (Cj (HS B) Bk cd) (k+323) [] (L+323))) [AI L [(Hr,J w)],AF w xs] (Be (i:Int) u) [AF w xs]:=Jk O U (.g 65<|.fr λk0=>.g 270466<|.cc (Ci _ _ O U.l w 1 k0 i u xs hx h1) [1] λYa=>.fi () [0])
def gV(U:AA 22 A)(k cd w i u:Nat)(x:Fc)(xs:Aa)(h1:xs.length<=1000)(hx:xs[1]? =some (i,u)):Ag B.C A where
 c:=.call (J k) ⟨[J w],[]⟩
 F:=[Hm k (HS B) Bk cd,EA cd CH Bk x,AF w xs]
 X:=Unit
 res:=λYa=>.ok (.ret (.int (i:Int) u))
 led:=λYa=>[Hm k (HS B) Bk cd,EA cd CH Bk x,AF w xs]
 ok:=(N5 O (n:=21) U (fd:=Cj (HS B) Bk cd) (body:=QE (HS B)) rfl ADq ADq (M5.of (n:=CH) (x:=x) (ix1:=[0]) (ix2:=[1]) rfl rfl rfl rfl)
  ((ap O U.l.in1 cd w).frame _) (λR s S=>(ZU O U.l.in1 k cd w).frame [Hm k (HS B) Bk cd,EA cd CH Bk x,AF w xs] R s S)
  (λL=>((bH O (AA.deeper U.l) k cd w L i u xs h1 hx).frame [Hm k (HS B) Bk cd,EA cd CH Bk x]).ix [0,2,0,0] rfl|>.ox [1,1,0] λYa=>rfl)).call
structure IE where
 a:Nat
 ys:Aa
abbrev IE.v(e:IE):Value:=J e.a
abbrev IE.p(e:IE):Addr×AO:=(e.a+323,.ls (.type "list") none (e.ys.map iv))
abbrev K6(es:List IE):F6:=es.map IE.p
abbrev BU(es:List IE):Bi:=.many (K6 es)
omit O
theorem AC.flat{C:Cx}{A:AL}{α:Type}{t:Sem α}{F F':AN}{v:α}(h:AC C A t F (λYa:Unit=>v) (λYa=>F))(p:(Ao F).Perm (Ao F')):AC C A t F' (λYa:Unit=>v) (λYa=>F'):=λR s S=>
 Av (h R s (S.BV (by rw[An,An];exact p.symm.append_right _))) (λYa s' ⟨x,e,S'⟩=>⟨x,e,S'.BV (by rw[An,An];exact p.append_right _)⟩) λYa Ya q=>q
theorem IU{α:Type}{l:List α}{i:Nat}{a:α}(h:l[i]? =some a):l.Perm (a::(l.take i++l.drop (i+1))):=by
 obtain⟨hi,rfl⟩:=List.getElem?_eq_some_iff.mp h;have e:l=l.take i++l[i]::l.drop (i+1):=by rw[H0,CQ]
 exact(List.Perm.of_eq e).trans BH
theorem iz{α:Type}{l:List α}{i j:Nat}{b:α}(g:l[j]? =some b)(iO:i≠j):b∈l.take i++l.drop (i+1):=by
 refine List.mem_append.mpr ?_
 by_cases c:j<i
 ·exact .inl (B4 (i:=j) (by rw[List.getElem?_take_of_lt c];exact g))
 ·exact .inr (B4 (i:=j-(i+1)) (by rw[Jy,show i+1+(j-(i+1))=j by lia];exact g))
theorem PP{α:Type}{l:List α}{i j:Nat}{a b:α}(h:l[i]? =some a)(g:l[j]? =some b)(iO:i≠j): ∃r,l.Perm (a::b::r):=by
 obtain⟨k,hk⟩:=List.mem_iff_getElem?.mp (iz g iO);exact⟨_,(IU h).trans ((IU hk).cons _)⟩
noncomputable def IE.snd(e:IE):Nat:=(e.ys.getD 1 (0,0)).1
abbrev DO(ws:List IE)(i:Nat):Nat:=match ws[i]? with|some e=>e.snd|none=>0
abbrev Ft(ws:List IE)(i:Nat):Ay:=match ws[i]? with|some e=>ns (e.ys.drop 1)|none=>[]
theorem UG{α β:Type}(f:α->β){l:List α}{j:Nat}{a:α}(h:l[j]? =some a):(l.take (j+1)).map f=(l.take j).map f++[f a]:=by
 rw[FF,h];simp
theorem Vk{α:Type}{l:List α}{n i:Nat}{a:α}(h:(l.take n)[i]? =some a):l[i]? =some a:=by
 rw[List.getElem?_take] at h
 split at h
 ·exact h
 ·cases h
section
variable{B:Bx}{A:AL}
def nD(O:B.C.Ok)(U:AA 30 A)(k cd:Nat)(x:Fc)(ws:List IE)(hw: ∀e∈ws,e.ys.length<=1000/\2<=e.ys.length):
 X3 B A (ws.map IE.v) (k+323) (.type "int") (λi j=>decide (DO ws i<DO ws j)) where
 S j:={_u:Unit//j<=ws.length}
 G _ _:=[Hm k (HS B) Bk cd,EA cd CH Bk x,BU ws]
 ks j _:=(ws.take j).map λe=>iv (e.ys.getD 1 (0,0))
 len j σ:=by rw[AD,C5];have:=σ.2;lia
 call j v hv σ:=by
  rw[AQ] at hv;obtain⟨e,he,rfl⟩:=Option.map_eq_some_iff.mp hv;have hj:j<ws.length:=(List.getElem?_eq_some_iff.mp he).1;obtain⟨h1,h2⟩:=hw e (B4 he);have hx:e.ys[1]? =some ((e.ys.getD 1 (0,0)).1,(e.ys.getD 1 (0,0)).2):=by
   rw[Ad,AJ (ADp:1<e.ys.length)];rfl
  have hr:=(LI (gV O U.l k cd e.a _ _ x e.ys h1 hx).ok).frame [.many ((K6 ws).take j++(K6 ws).drop (j+1))];have dN:=AC.flat (F':=[Hm k (HS B) Bk cd,EA cd CH Bk x,BU ws]) hr (by
   show((k+323,_)::(cd+323,_)::e.p::((K6 ws).take j++(K6 ws).drop (j+1)++[])).Perm ((k+323,_)::(cd+323,_)::(K6 ws++[]))
   rw[Aj,Aj]
   exact((IU (l:=K6 ws) (i:=j) (a:=e.p) (by unfold K6;rw[AQ,he];rfl)).symm.cons _).cons _)
  exact dN.weaken λYa=>⟨⟨(⟨(),by lia⟩,iv (e.ys.getD 1 (0,0))),by show(ws.take (j+1)).map _=_;exact UG _ he⟩,rfl,λR s S=>S⟩
 typ σ v hv R s S:=by
  obtain⟨e,_,rfl⟩:=List.mem_map.mp hv;exact Looks.of_pure rfl
 t1:=by decide+kernel
 t2:=by decide+kernel
 lt σ i j u v hu hv:=by
  rw[AQ] at hu hv;obtain⟨e1,h1,rfl⟩:=Option.map_eq_some_iff.mp hu;obtain⟨e2,h2,rfl⟩:=Option.map_eq_some_iff.mp hv;have g1:ws[i]? =some e1:=Vk h1;have g2:ws[j]? =some e2:=Vk h2;have es:decide (DO ws i<DO ws j)=decide (((e1.snd:Nat):Int)<((e2.snd:Nat):Int)):=by
   unfold DO;rw[g1,g2];simp
  rw[es];intro R s S;rw[keyLt'_oneType];exact oneLt_int ⟨(),rfl,S⟩
abbrev ie(a:Nat)(p:Nat×Nat)(e:IE):Addr×AO:=(p.1+323,.ex ⟨J a,some (p.2+323),.plain,⟨[some e.v]⟩⟩)
abbrev Mt(a:Nat)(is:Aa)(ws:List IE):F6:=(is.zip ws).map λx=>ie a x.1 x.2
theorem ic{a:Nat}{is:Aa}{ws:List IE}{p:Nat×Nat}{e:IE}(h:ws[is.length]? =some e):Mt a (is++[p]) ws=Mt a is ws++[ie a p e]:=by
 obtain⟨hi,rfl⟩:=List.getElem?_eq_some_iff.mp h;have e1:ws=ws.take is.length++ws[is.length]::ws.drop (is.length+1):=by rw[H0,CQ]
 have e2:(is++[p]).zip ws=is.zip ws++[(p,ws[is.length])]:=by
  have l1:is.length=(ws.take is.length).length:=by rw[C5];lia
  have a1:is.zip ws=is.zip (ws.take is.length):=by
   conv=>lhs;rw[e1]
   have:=List.zip_append (l₁:=is) (r₁:=[]) (l₂:=ws.take is.length) (r₂:=ws[is.length]::ws.drop (is.length+1)) l1
   rw[Aj] at this;rw[this];simp
  rw[a1]
  conv=>lhs;rw[e1]
  have:=List.zip_append (l₁:=is) (r₁:=[p]) (l₂:=ws.take is.length) (r₂:=ws[is.length]::ws.drop (is.length+1)) l1
  rw[this];rfl
 unfold Mt;rw[e2,AZ];rfl
theorem T6(O:B.C.Ok)(U:AA 64 A){o p:Nat}{F:AN}{b:Bool}(h:AC B.C A (Gs (J o) KN [J p]) F (λYa:Unit=>some (HM b)) (λYa=>F)):
 AC B.C A (keyLt' Qh (J o) (J p)) F (λYa:Unit=>b) (λYa=>F):=by
 rw[keyLt'_oneType,oneLt'_eq];simp only[if_true];refine AC.room (AA.units U) ?_;refine AC.KO (t:=Gs _ _ _) (v:=some (HM b)) h ?_;exact λR s S=>Qj ⟨(),rfl,S⟩
theorem i8{α:Type}{K m l r1 r2:List α}{a b:α}(h1:m.Perm (a::r1))(h2:l.Perm (b::r2)):(a::b::(K++(r1++r2))).Perm (K++(l++m)):=by
 refine .symm (((h2.append h1).append_left K).trans ?_)
 refine((BH (l₁:=b::r2)).append_left K).trans ?_
 refine List.perm_middle.trans (.cons _ ?_);refine List.perm_middle.trans (.cons _ ?_);exact List.perm_append_comm.append_left K
theorem i9{α:Type}{K m l r1 r2:List α}{a b c d:α}(h1:m.Perm (a::b::r1))(h2:l.Perm (c::d::r2)):(a::b::c::d::(K++(r1++r2))).Perm (K++(l++m)):=by
 refine .symm (((h2.append h1).append_left K).trans ?_)
 refine(((BH (l₁:=c::d::r2)).trans (.cons _ (BH (l₁:=c::d::r2)))).append_left K).trans ?_
 refine List.perm_middle.trans (.cons _ ?_);refine List.perm_middle.trans (.cons _ ?_);refine List.perm_middle.trans (.cons _ ?_);refine List.perm_middle.trans (.cons _ ?_);exact List.perm_append_comm.append_left K
abbrev kkG(B:Bx)(q:KZ)(ws:List IE)(is:Aa):AN:=CX B q++[BU ws,.many (Mt q.z.x.a is ws)]
def vY(O:B.C.Ok)(U:AA 70 A)(q:KZ)(ws:List IE)(hw: ∀e∈ws,e.ys.length<=1000):
 X3 B A (ws.map IE.v) (q.z.x.a+323) (J q.z.x.a) (λi j=>decide (EY (Ft ws i) (Ft ws j)<0)) where
 S j:={is:Aa//is.length=j/\j<=ws.length}
 G _ σ:=kkG B q ws σ.1
 ks _ σ:=σ.1.map λp=>J p.1
 len j σ:=by rw[AD];exact σ.2.1
 call j v hv σ:=by
  rw[AQ] at hv;obtain⟨e,he,rfl⟩:=Option.map_eq_some_iff.mp hv;have hj:j<ws.length:=(List.getElem?_eq_some_iff.mp he).1;have hs:ws[σ.1.length]? =some e:=by rw[σ.2.1];exact he
  refine AC.weaken ((LI (uC O U.l e.a q).ok).frame [BU ws,.many (Mt q.z.x.a σ.1 ws)]) λ(p:Nat×Nat)=>⟨⟨(⟨σ.1++[p],by rw[AX,CF,σ.2.1],by lia⟩,J p.1),by rw[AZ];rfl⟩,rfl,λR s S=>?_⟩
  refine S.BV ?_
  show(Ao ((Dd p.1 q.z.x.a p.2 [some e.v]::CX B q++[BU ws,.many (Mt q.z.x.a σ.1 ws)])++R)).Perm (Ao ((CX B q++[BU ws,.many (Mt q.z.x.a (σ.1++[p]) ws)])++R))
  rw[ic hs]
  generalize CX B q=K
  simp only[An,Ao,Bi.flat,A5,Aj,AG,Al];refine List.perm_middle.symm.trans (CP _ ?_);refine List.perm_middle.symm.trans (CP _ ?_);exact List.perm_middle.symm
 typ σ v hv R s S:=by
  obtain⟨p,hp,rfl⟩:=List.mem_map.mp hv;obtain⟨i,hi,rfl⟩:=List.mem_iff_getElem.mp hp;have hlen:σ.1.length=ws.length:=σ.2.1.trans (AD _);have u5:i<ws.length:=by lia
  have hm:ie q.z.x.a σ.1[i] ws[i]∈Mt q.z.x.a σ.1 ws:=List.mem_map.mpr ⟨(σ.1[i],ws[i]),by
   refine List.mem_iff_getElem.mpr ⟨i,by rw[I8];lia,by rw[LS]⟩,rfl⟩
  obtain⟨g,hg⟩:=S.c8 (e:=.many (Mt q.z.x.a σ.1 ws)) (Ar _ (Ax _ (.tail _ (.head _)))) (p:=ie q.z.x.a σ.1[i] ws[i]) hm;exact looks_typeIn (K:=[(σ.1[i].1+323,_)]) (λa o ho=>by
   by_cases c:a=σ.1[i].1+323
   ·subst c;rw[M2] at ho;cases ho;exact hg
   ·have:(a==σ.1[i].1+323)=false:=by simpa using c
    simp only[List.lookup_cons,this] at ho;cases ho) (by show(List.lookup _ _).map _=_;rw[M2];rfl)
 t1:=rfl
 t2:=by simp
 lt σ i j u v hu hv:=by
  rw[AQ] at hu hv;obtain⟨⟨o,d⟩,h1,rfl⟩:=Option.map_eq_some_iff.mp hu;obtain⟨⟨p,d2⟩,h2,rfl⟩:=Option.map_eq_some_iff.mp hv;have l1:=(List.getElem?_eq_some_iff.mp h1).1;have l2:=(List.getElem?_eq_some_iff.mp h2).1;have hlen:σ.1.length=ws.length:=σ.2.1.trans (AD _);have g1:ws[i]? =some ws[i]:=AJ ADp
  have g2:ws[j]? =some ws[j]:=AJ ADp
  have es:decide (EY (Ft ws i) (Ft ws j)<0)=decide (EY (ns ((ws[i]'ADp).ys.drop 1)) (ns ((ws[j]'ADp).ys.drop 1))<0):=by
   unfold Ft;rw[g1,g2]
  rw[es];have b1:=hw _ (B4 g1);have m1:(Mt q.z.x.a σ.1 ws)[i]? =some (ie q.z.x.a (o,d) ws[i]):=by
   unfold Mt;rw[AQ,(J8 (z:=((o,d),ws[i]))).mpr ⟨h1,g1⟩];rfl
  have m2:(Mt q.z.x.a σ.1 ws)[j]? =some (ie q.z.x.a (p,d2) ws[j]):=by
   unfold Mt;rw[AQ,(J8 (z:=((p,d2),ws[j]))).mpr ⟨h2,g2⟩];rfl
  have n1:(K6 ws)[i]? =some (ws[i]'ADp).p:=by unfold K6;rw[AQ,g1];rfl
  have n2:(K6 ws)[j]? =some (ws[j]'ADp).p:=by unfold K6;rw[AQ,g2];rfl
  by_cases c:i=j
  ·subst c
   rw[h1] at h2;cases h2;have q1:=IU m1;have q2:=IU n1;refine AC.flat (T6 O U.l ((jr O U.l o (ws[i]'ADp).a d q (ws[i]'ADp).ys b1).frame [.many ((Mt q.z.x.a σ.1 ws).take i++(Mt q.z.x.a σ.1 ws).drop (i+1)),.many ((K6 ws).take i++(K6 ws).drop (i+1))])) ?_
   have:=i8 (K:=Ao (CX B q)) q1 q2
   simp only[An,Ao,Bi.flat,A5,Aj,AG,Al] at this⊢;exact this
  ·obtain⟨r1,q1⟩:=PP m1 m2 c
   obtain⟨r2,q2⟩:=PP n1 n2 c;refine AC.flat (T6 O U.l ((pe O U.l o p (ws[i]'ADp).a (ws[j]'ADp).a d d2 q (ws[i]'ADp).ys (ws[j]'ADp).ys b1 (hw _ (B4 g2))).frame [.many r1,.many r2])) ?_
   have:=i9 (K:=Ao (CX B q)) q1 q2
   simp only[An,Ao,Bi.flat,A5,Aj,AG,Al] at this⊢;exact this
end
include O
theorem bR(U:AA 4 A)(l:Nat)(q:Addr)(vs:Ak):
 AS B A (AU "list.sort" ⟨[J l],[(OC,.ref q)]⟩) [AE l vs] () [AE l vs]:=
 by apply Hc O U (.g 65<|.fi () [0])
theorem YV(U:AA 4 A)(t:Nat)(q:Addr)(vs:Ak):
 AS B A (AU "sorted" ⟨[J t],[(OC,.ref q)]⟩) [AE t vs] () [AE t vs]:=
 by apply Hc O U (.fi () [0])
theorem r7(U:AA 8 A)(t:Nat)(vs:Ak)(hy:vs.length<=1000):
 AS B A (collect (J t)) [AE t vs] vs [AE t vs]:=
 rn O U (.cc (Km O U.l t vs hy) [0] λYa=>.g 65<|.fi () [1])
omit O
theorem jY{C:Cx}(O:C.Ok){A:AL}(hz:323<=C.s₁.heap.objs.size)(vs:Ak)(hv:vs.length<=1000):AC C A (Sa vs) [] (λl:Nat=>J l) (λl=>[AE l vs]):=λR s S=>wpAny_newList (by
 have S1:=S.alloc (o:={cls:=.type "list",data:=.seq vs.toArray}) (ao:=.ls (.type "list") none vs) rfl ⟨G0,rfl⟩;have e:s.heap.objs.size=(s.heap.objs.size-323)+323:=by have:=S.size;lia
 rw[e] at S1;exact⟨s.heap.objs.size-323,congrArg CC e,S1⟩) (by rw[Br];lia)
theorem cm:C1 FZ "list.sort"=some Builtin.«list.sort»:=B2 ADq
theorem ZP:C1 FZ "sorted"=some PW:=B2 ADq
section
variable{B:Bx}{A:AL}
theorem Uk(O:B.C.Ok)(U:AA 6 A){vs:Ak}(h2:2<=vs.length)(NL:vs.length<64){q:Addr}{T:Value}{lt:Nat->Nat->Bool}(Z:X3 B A.in1 vs q T lt)(l:Nat)(σ0:Z.S 0):
 Bv B.C A (.call (.builtin "list.sort") ⟨[J l],[(OC,.ref q)]⟩) (AE l vs::Z.G 0 σ0) (λYa:Z.S vs.length=>.ok (.ret .none)) (λσ=>AE l (De lt vs)::Z.G _ σ):=
 BF ADr cm ((bR O U.l.in1 l q vs).frame (Z.G 0 σ0)) (jZ O (U.le (ADs:4+1<=6)).in1.1 h2 NL Z l σ0)
theorem NA(O:B.C.Ok)(U:AA 20 A){vs:Ak}(h2:2<=vs.length)(NL:vs.length<64){q:Addr}{T:Value}{lt:Nat->Nat->Bool}(Z:X3 B A.in1.in1 vs q T lt)(t:Nat)(σ0:Z.S 0):
 Bv B.C A (.call (.builtin "sorted") ⟨[J t],[(OC,.ref q)]⟩) (AE t vs::Z.G 0 σ0) (λx:Nat×Z.S vs.length=>.ok (.ret (J x.1))) (λx=>AE x.1 (De lt vs)::AE t vs::Z.G _ x.2):=by
 refine BF ADr ZP ((YV O U.l.in1 t q vs).frame (Z.G 0 σ0)) ?_
 have yo:=(U.le (ADs:18+1<=20)).in1
 unfold PW;refine AC.KO (t:=checkCount _ _ _ _) (v:=()) (λR s S=>AP ⟨(),rfl,S⟩) ?_;refine AC.KO (t:=collect _) (v:=vs) ((r7 O (yo.le (ADp:8<=18)) t vs ADp).frame (Z.G 0 σ0)) ?_
 refine AC.bind (res:=λl:Nat=>J l) (led:=λl=>AE l vs::AE t vs::Z.G 0 σ0) ((jY O O.size vs ADp).frame (AE t vs::Z.G 0 σ0)) λl=>?_
 refine AC.bind (res:=λYa:Z.S vs.length=>CU) (led:=λσ=>AE l (De lt vs)::AE t vs::Z.G _ σ) (AC.hold ?_) λσ=>AC.ret (l,σ) rfl rfl
 refine((LI (Uk O (yo.le (ADp:6<=18)) h2 NL Z l σ0)).frame [AE t vs]).pre (λR s S=>?_)|>.post λσ R s S=>?_
 ·refine S.perm ?_
  show(AE l vs::AE t vs::(Z.G 0 σ0++R)).Perm (AE l vs::(Z.G 0 σ0++[AE t vs])++R)
  rw[A5,AG]
  exact(BY _ List.perm_middle.symm)
 ·refine S.perm ?_
  show(AE l (De lt vs)::(Z.G _ σ++[AE t vs])++R).Perm (AE l (De lt vs)::AE t vs::(Z.G _ σ++R))
  rw[A5,AG]
  exact(BY _ BH)
end
include O
theorem ai(U:AA 1 A)(k:Nat):
 AS B A (Pl B 211 [J k]) [] (([(CE,J k)]:BC)) []:=
 rn O U (.fi () [])
theorem ZQ(U:AA 1 A)(k:Nat):
 AC B.C A (OP B 211 [(CE,J k)]) []
  (λq:Nat×Nat=>AR B.P 211 [(CE,q.2+323)] (q.1+323))
  (λq=>[AI q.1 [],AW (q.2) (J k)]):=
 rn O U (.al λa0=>.al λa1=>.g 6145<|.fi (a0,a1) [1,0])
theorem bA(U:AA 62 A)(L c k:Nat):AC B.C A (Ac (A4 B.P 211) (So B L c)) (Yb L c k) (λz:KX=>.ret (J z.x.a)) (λz=>QD B c k z):=by
 have hr:=λL c v=>qg O U.l L c v;rw[qS] at hr⊢;refine AC.step (AC.one (qo O U.l L c k _)) λz=>?_;exact AC.weaken (((hr L c (J z.x.a)).frame (QD B c k z)).pre λR s S=>S.perm (by
  show((QD B c k z++[AI L [(vK,J z.x.a)]])++R).Perm (([AI L [(vK,J z.x.a)]]++QD B c k z)++R)
  exact A8 R A9)) λYa=>⟨z,rfl,λR s S=>S⟩
def gJ(U:AA 66 A)(k:Nat):Ag B.C A where
 c:=.call (.ref 211) ⟨[J k],[]⟩
 F:=[Yc []]
 X:=KX×Nat
 res:=λz=>.ok (.ret (J z.1.x.a))
 led:=λz=>QD B z.2 k z.1
 ok:=(Dm O (n:=65) U ADq ((ai O U.l.in1 k).frame _) (λR s S=>(ZQ O U.l.in1 k).frame [Yc []] R s S)
  (val:=λz:KX×Nat=>J z.1.x.a) (led:=λz=>QD B z.2 k z.1)
  (λp=>BK (fl:=λz:KX×Nat=>.ret (J z.1.x.a)) (AC.weaken (bA O (AA.deeper U.l) p.1 p.2 k) λz=>⟨(z,p.2),rfl,λR s S=>S⟩)))
def GF(_:Bx):Expr:=el (vE (sN 22 0)) 0
def Bw:Str:=Bl [95,108,97,119,95,98,101,103,105,110,115,46,60,108,111,99,97,108,115,62,46,60,108,97,109,98,100,97,62]
theorem aq(U:AA 10 A)(cd w tk:Nat)(x:Str):
 AS B A (Dc (Cj (GF B) Bw cd) ⟨[J w,.str x tk],[]⟩) [] (([(E_,J w),(Xz,.str x tk)]:BC)) []:=
 rn O U (.fi () [])
theorem ZV(U:AA 10 A)(k cd w tk:Nat)(x:Str):
 AC B.C A (FP (Cj (GF B) Bw cd).scope (Cj (GF B) Bw cd).globals (Cj (GF B) Bw cd).closure [(E_,J w),(Xz,.str x tk)] ((Cj (GF B) Bw cd).qualname++".<locals>.") (some (k+323)) (Cj (GF B) Bw cd).code none (Cj (GF B) Bw cd).builtins) []
  (λa:Nat=>Oj (Cj (GF B) Bw cd) (k+323) [] (a+323))
  (λa=>[AI a [(E_,J w),(Xz,.str x tk)]]):=
 rn O U (.al λa0=>.fr λk1=>.g 6145<|.fr λk2=>.g 6145<|.fi (a0) [0])
theorem bI(U:AA 20 A)(k cd w tk L i u:Nat)(x:Str)(xs:Aa)(h1:(xs.map iv).length<=1000)(hx:(xs.map iv).getLast?=some (.int (i:Int) u)):
 AC B.C A (Bf (QE (GF B)) (Oj (Cj (GF B) Bw cd) (k+323) [] (L+323))) [AI L [(E_,J w),(Xz,.str x tk)],AF w xs]
  (λq:Nat×Nat=>J q.1)
  (λq=>[AE q.1 (xs.map iv++[.int ((i+x.cps.toList.count 32:Nat):Int) q.2]),AF w xs]):=Jk O U (.g 4161<|.fr λk0=>.cc (HB O U.l k0) [] λ(y1:Nat)=>.g 270466<|.cc (JH _ _ O U.l w y1 (B0 iv xs) (.int (↑i) u) hx h1) [1] λYa=>.g 66<|.fr λk3=>.cc (Y5 O U.l x tk k3) [] λ(y4:Nat)=>.cc (GA _ _ O U.l i (List.count 32 x.cps.toList) u y4) [] λ(y5:Nat)=>.al λa6=>.g 270402<|.cc (Kx _ _ O U.l w a6 (B0 iv xs) [.int (↑(i+List.count 32 x.cps.toList)) y5] h1 (by first|lia|assumption|simp)) [1,0] λy7=>.fi (y7,y5) [0,0])
def gW(U:AA 22 A)(k cd w tk i u:Nat)(y:Fc)(x:Str)(xs:Aa)(h1:(xs.map iv).length<=1000)(hx:(xs.map iv).getLast?=some (.int (i:Int) u)):Ag B.C A where
 c:=.call (J k) ⟨[J w,.str x tk],[]⟩
 F:=[Hm k (GF B) Bw cd,EA cd CH Bw y,AF w xs]
 X:=Nat×Nat
 res:=λq=>.ok (.ret (J q.1))
 led:=λq=>[AE q.1 (xs.map iv++[Be ((i+x.cps.toList.count 32:Nat):Int) q.2]),Hm k (GF B) Bw cd,EA cd CH Bw y]
 ok:=(N5 O (n:=21) U (fd:=Cj (GF B) Bw cd) (body:=QE (GF B)) rfl ADq ADq (M5.of (n:=CH) (x:=y) (ix1:=[0]) (ix2:=[1]) rfl rfl rfl rfl)
  ((aq O U.l.in1 cd w tk x).frame _) (λR s S=>(ZV O U.l.in1 k cd w tk x).frame [Hm k (GF B) Bw cd,EA cd CH Bw y,AF w xs] R s S)
  (λL=>((bI O (AA.deeper U.l) k cd w tk L i u x xs h1 hx).frame [Hm k (GF B) Bw cd,EA cd CH Bw y]).ix [0,2,0,0] rfl|>.ox [0,1,1] λYa=>rfl)).call
theorem oX(U:AA 26 A)(L c i a f cd w tk n u:Nat)(y:Fc)(x:Str)(xs:Aa)(h1:(xs.map iv).length<=1000)(hx:(xs.map iv).getLast?=some (.int (n:Int) u)):
 AC B.C A (Ac LG (AR B.P 220 [] (L+323))) [AI L (Gw (f+323) c i a (J w) (.str x tk)),Hm f (GF B) Bw cd,EA cd CH Bw y,AF w xs]
  (λq:Nat×Nat=>.next)
  (λq=>[AI L (Gw (f+323) c i a (J q.1) (.str x tk)),AE q.1 (xs.map iv++[.int ((n+x.cps.toList.count 32:Nat):Int) q.2]),Hm f (GF B) Bw cd,EA cd CH Bw y]):=
 D7 O U (.g 17305665<|.cc (gW O U.l f cd w tk n u y x xs h1 hx) [1,1,1] λy0=>.fr λk1=>.g 6340<|.fi (y0) [3,0,0,0])
def EE(cs:Ay)(s:Nat):Ay:=cs.foldl (λl c=>l++[l.getLastD 0+c]) [s]
omit O
theorem ah(cs:Ay)(s c:Nat):EE (cs++[c]) s=EE cs s++[(EE cs s).getLastD 0+c]:=by unfold EE;rw[QY];rfl
theorem kM(cs:Ay): ∀l:Ay,(cs.foldl (λl c=>l++[l.getLastD 0+c]) l).length=l.length+cs.length:=by
 induction cs with
 |nil=>intro l;rfl
 |cons c cs ih=>intro l;rw[C0,ih,AX];simp;lia
theorem VN(cs:Ay)(s:Nat):(EE cs s).length=cs.length+1:=by unfold EE;rw[kM];simp;lia
noncomputable abbrev Fn(ks:Db):Ay:=ks.map λq=>q.1.cps.toList.count 32
structure xt(ks:Db)(s j:Nat) where
 a:Nat
 ys:Aa
 ok:ns ys=EE ((Fn ks).take j) s
theorem rd{ys:Aa}(h:ys≠[]): ∃u,(ys.map iv).getLast?=some (.int (((ns ys).getLastD 0:Nat):Int) u):=by
 refine⟨(ys.getLast h).2,?_⟩;rw[QZ,I1 h];show some (Be _ _)=some (Be _ _)
 have:(ns ys).getLastD 0=(ys.getLast h).1:=by
  unfold ns;rw[J9,QZ,I1 h];rfl
 rw[this]
include O
theorem Wg(U:AA 32 A)(L f cd x i s k:Nat)(y:Fc)(ks:Db)(CD:ks≠[])(hl:ks.length<=200):
 AC B.C A (Ac (A4 B.P 220) (AR B.P 220 [] (L+323))) ([AI L [(Bg,J f),(Bh,J x),(Bz,J i)],AE x (ks.map rv),AF i [(s,k)]]++[Hm f (GF B) Bw cd,EA cd CH Bw y])
  (λq:xt ks s (ks.map rv).length=>.ret (J q.a)) (λq=>[AE x (ks.map rv)]++[AF q.a q.ys,Hm f (GF B) Bw cd,EA cd CH Bw y]):=by
 refine L7 O (N:=8) U (k:=f+323) (x:=x) (i:=i) (xs:=ks.map rv) (S:=xt ks s) (val:=λYa σ=>.ref (σ.a+323)) (G:=λYa σ=>[AF σ.a σ.ys,Hm f (GF B) Bw cd,EA cd CH Bw y]) (λe he=>?_) (ei:=AF i [(s,k)]) (vi:=.none) ?_ (P:=λYa=>True) (λYa=>trivial) (λa A' B8 _ j e hx σ=>?_) ⟨i,[(s,k)],rfl⟩ rfl rfl (by simpa using CD)
 ·obtain⟨q,_,rfl⟩:=List.mem_map.mp he
  exact .inr ⟨_,_,rfl⟩
 ·have e:=oZ O U.l L x (f+323) i (ks.map rv) [iv (s,k)]
  exact e
 ·rw[AQ] at hx
  obtain⟨r,hr,rfl⟩:=Option.map_eq_some_iff.mp hx;have hlen:σ.ys.length<=201:=by
   have:=congrArg C7 σ.ok
   rw[VN,B3,C5] at this;have h2:(Fn ks).length=ks.length:=AD _
   lia
  have hnz:σ.ys≠[]:=λe=>by
   have:=congrArg C7 σ.ok
   rw[VN,B3,e] at this;simp at this
  obtain⟨u,hu⟩:=rd hnz;refine AC.weaken ((oX O (B8.le (ADp:26<=8+22)) L x i a f cd σ.a r.2 _ u y r.1 σ.ys (by rw[AD];lia) hu).ix [0,1,1,0] rfl) λq=>⟨⟨q.1,σ.ys++[((ns σ.ys).getLastD 0+r.1.cps.toList.count 32,q.2)],?_⟩,rfl,λR s S=>?_⟩
  ·rw[Jj,σ.ok]
   have:(Fn ks).take (j+1)=(Fn ks).take j++[r.1.cps.toList.count 32]:=by
    rw[FF];unfold Fn;rw[AQ,hr];rfl
   rw[this,ah];rfl
  ·show St B.C ([AI _ _,AE q.1 ((σ.ys++[_]).map iv),_,_]++R) s
   rw[AZ];exact S
def NG(U:AA 36 A)(f cd x i s0 k:Nat)(y:Fc)(ks:Db)(CD:ks≠[])(hl:ks.length<=200):Ag B.C A where
 c:=.call (.ref 220) ⟨[J f,J x,J i],[]⟩
 F:=[Hm f (GF B) Bw cd,EA cd CH Bw y,AE x (ks.map rv),AE i [Be (s0:Int) k]]
 X:=Gk (EE (Fn ks) s0)
 res:=λq=>.ok (.ret (J q.a))
 led:=λq=>[AF q.a q.ys,AE x (ks.map rv),Hm f (GF B) Bw cd,EA cd CH Bw y]
 ok:=EU O U [(Bg,J f),(Bh,J x),(Bz,J i)] (sb:=.g 64<|.fi () [])
  (λL=>BK (fl:=λq:Gk (EE (Fn ks) s0)=>.ret (J q.a)) (AC.weaken ((Wg O (AA.deeper U.l) L f cd x i s0 k y ks CD hl).ix [0,2,2,0,0] rfl) λq=>⟨⟨q.a,q.ys,by
   refine q.ok.trans ?_;rw[EX (by rw[AD,AD];exact Am _)]⟩,rfl,pk [1,0,0,0] rfl⟩))
noncomputable abbrev pT:Bi:=.one 274 (.ex ⟨.none,none,.fields ⟨[]⟩,⟨[]⟩⟩)
abbrev OR(cd:Nat):Bi:=.one 274 (.ex ⟨.none,none,.fields ⟨[.int 230 0,.int 18 0,J cd]⟩,⟨[]⟩⟩)
structure aW(l:Ay) where
 a:Nat
 ys:Aa
 ok:ns ys=l
 cd:Nat
 y:Fc
theorem a_(U:AA 40 A)(L x s k cd:Nat)(y:Fc)(ks:Db)(CD:ks≠[])(hl:ks.length<=200):
 AC B.C A (Ac (A4 B.P 279) (AR B.P 279 [] (L+323))) [AI L [(Er,J x),(Cr,.int (s:Int) k)],AE x (ks.map rv),OR cd,EA cd CH Bw y]
  (λq:Gk (EE (Fn ks) s)=>B6 (J q.a))
  (λq=>[AF q.a q.ys,AE x (ks.map rv),OR cd,EA cd CH Bw y]):=Ix O U (.g 68719489024<|.al λa0=>.g 4226<|.al λa1=>.g 64<|.cc (NG O U.l a0 cd x a1 s k y ks CD hl) [1,4,2,0] λy2=>.fi (y2) [0,0,3,1])
theorem ay(U:AA 40 A)(L x s k:Nat)(ks:Db)(CD:ks≠[])(hl:ks.length<=200):
 AC B.C A (Ac (A4 B.P 279) (AR B.P 279 [] (L+323))) [AI L [(Er,J x),(Cr,.int (s:Int) k)],AE x (ks.map rv),pT]
  (λ(q:aW (EE (Fn ks) s))=>B6 (J q.a)) (λq=>[AF q.a q.ys,AE x (ks.map rv),OR q.cd,EA q.cd CH Bw q.y]):=by
 obtain⟨w9,b1,b2,s9,zH,mu9,gn9⟩:=B;cases b1
 ·exact Ga O U.1 (.g 274432<|.fr λk0=>.fr λk1=>.fr λk2=>.al λa3=>.al λa4=>.fr λk5=>.fr λk6=>.al λa7=>.al λa8=>.al λa9=>.fr λH9=>.fr λQC=>.al λIF=>.g 68719516169<|.al λOL=>.g 4616<|.al λUZ=>.g 64<|
   .cc (NG O U.l OL IF x UZ s k ⟨k0,k1,cw k2 230 19 a3 a4 a7 a8 a9 H9 QC⟩ ks CD hl) [1,1,7,0] λ(y2:Gk (EE (Fn ks) s))=>.fi (⟨y2.a,y2.ys,y2.ok,IF,⟨k0,k1,cw k2 230 19 a3 a4 a7 a8 a9 H9 QC⟩⟩) [0,0,8,1]) ADq
 ·exact Ga O U.1 (.g 274432<|.fr λk0=>.fr λk1=>.fr λk2=>.al λa3=>.al λa4=>.fr λk5=>.fr λk6=>.al λa7=>.al λa8=>.al λa9=>.fr λH9=>.fr λQC=>.al λIF=>.g 68719516169<|.al λOL=>.g 4616<|.al λUZ=>.g 64<|
   .cc (NG O U.l OL IF x UZ s k ⟨k0,k1,cw k2 230 19 a3 a4 a7 a8 a9 H9 QC⟩ ks CD hl) [1,1,7,0] λ(y2:Gk (EE (Fn ks) s))=>.fi (⟨y2.a,y2.ys,y2.ok,IF,⟨k0,k1,cw k2 230 19 a3 a4 a7 a8 a9 H9 QC⟩⟩) [0,0,8,1]) ADq
def VT(U:AA 44 A)(x s k:Nat)(ks:Db)(CD:ks≠[])(hl:ks.length<=200):Ag B.C A where
 c:=.call (.ref 279) ⟨[J x,.int (s:Int) k],[]⟩
 F:=[AE x (ks.map rv),pT]
 X:=aW (EE (Fn ks) s)
 res:=λq=>.ok (.ret (J q.a))
 led:=λq=>[AF q.a q.ys,AE x (ks.map rv),OR q.cd,EA q.cd CH Bw q.y]
 ok:=EU O U [(Er,J x),(Cr,.int (s:Int) k)]
  (λL=>BK (fl:=λq:aW (EE (Fn ks) s)=>.ret (J q.a)) (by
   exact(ay O (A:=A.deeper (AR B.P 279 [] (L+323))) (AA.deeper U.l) L x s k ks CD hl)))
def VU(U:AA 44 A)(x s k cd:Nat)(y:Fc)(ks:Db)(CD:ks≠[])(hl:ks.length<=200):Ag B.C A where
 c:=.call (.ref 279) ⟨[J x,.int (s:Int) k],[]⟩
 F:=[AE x (ks.map rv),OR cd,EA cd CH Bw y]
 X:=Gk (EE (Fn ks) s)
 res:=λq=>.ok (.ret (J q.a))
 led:=λq=>[AF q.a q.ys,AE x (ks.map rv),OR cd,EA cd CH Bw y]
 ok:=EU O U [(Er,J x),(Cr,.int (s:Int) k)]
  (λL=>BK (fl:=λq:Gk (EE (Fn ks) s)=>.ret (J q.a)) (by
   exact(a_ O (A:=A.deeper (AR B.P 279 [] (L+323))) (AA.deeper U.l) L x s k cd y ks CD hl)))
structure He(E:Type)(ok:Nat->E->Prop)(n:Nat) where
 es:List E
 len:es.length=n
 all: ∀j e,es[j]? =some e->ok j e
def He.nil{E:Type}{ok:Nat->E->Prop}:He E ok 0:=⟨[],rfl,λj e h=>by simp at h⟩
noncomputable def He.snoc{E:Type}{ok:Nat->E->Prop}{n:Nat}(t:He E ok n)(e:E)(h:ok n e):He E ok (n+1):=⟨t.es++[e],by rw[AX,t.len];rfl,λj e' h'=>by
 by_cases c:j<t.es.length
 ·rw[Ev c] at h';exact t.all j e' h'
 ·rw[El ADp] at h'
  have hj:j-t.es.length=0:=by
   by_cases c2:j-t.es.length=0
   ·exact c2
   ·rw[B7 (by simp;lia)] at h';cases h'
  rw[hj] at h';cases h'
  have:j=n:=by have:=t.len;lia
  subst this;exact h⟩
omit O
section
variable{B:Bx}{A:AL}{elt iter:Expr}{x0:Str}{p0:Pos}{sc:Scope}{pos:Pos}{env:Env}{acc a c:Nat}{dv:BC->Bi}
theorem lp{A':AL}{F:AN}{E T:Type}{v:E->Value}{fl:E->F6}{GT:T->AN}{P:E->Prop}{M:F6}{t:T}
 (h:AC B.C A' (Bf elt env) (F++GT t) (λy:{e:E//P e}×T=>v y.1.1) (λy=>F++(.many (fl y.1.1)::GT y.2))):
 Ep B.C A' [] elt env (F++(.many M::GT t)) (λy:{e:E//P e}×T=>some (v y.1.1)) (λy=>F++(.many (M++fl y.1.1)::GT y.2)):=by
 refine .inl ⟨cX,λy=>v y.1.1,λYa=>rfl,((h.frame [.many M]).pre λR s S=>S.BV ?_).post λy R s S=>S.BV ?_⟩
 ·simp only[An,Ao,Bi.flat,AG,Al,Aj]
  refine CP _ ?_;rw[<-AG,<-AG];exact A8 _ A9
 ·simp only[An,Ao,Bi.flat,AG,Al,Aj]
  refine CP _ ?_
  have: ∀a b m r:F6,(a++(b++(m++r))).Perm (m++(a++(b++r))):=λa b m r=>by
   rw[<-AG,<-AG (a++b),<-AG a b r,<-AG m (a++b) r];exact A8 _ A9
  exact this _ _ _ _
theorem O9(O:B.C.Ok){N:Nat}(hN:6<=N)(U:AA (N+1) A){E T:Type}(v:E->Value)(fl:E->F6)(ok:Nat->E->Prop)(GT:T->AN){xs:Ak}{K:Value->Prop}(hK: ∀v∈xs,K v)
 (Gj: ∀A',AA 6 A'-> ∀v,K v-> ∀l,(l=[]∨ ∃u,K u/\l=[(x0,u)])->AC B.C A' (Bo (.Name x0 p0) env v) [dv l] (λYa:Unit=>()) (λYa=>[dv [(x0,v)]]))
 (FO: ∀A',A'=A.under (EF elt (.Name x0 p0) iter [] sc pos (J a) acc env)->AA N A'-> ∀j v0,xs[j]? =some v0-> ∀t:T,
  AC B.C A' (Bf elt env) ([dv [(x0,v0)],AE c xs]++GT t) (λy:{e:E//ok j e}×T=>v y.1.1) (λy=>[dv [(x0,v0)],AE c xs]++(.many (fl y.1.1)::GT y.2)))
 (hlen:xs.length<=1000) (t0:T) (hx:xs≠[]):
 Bv B.C A (.compStart (.ListComp elt [⟨.Name x0 p0,iter,[],0⟩] sc pos) 0 (J a) (J acc) env) ([dv [],AE acc [],BQ a c 0,AE c xs]++GT t0)
  (λYa:(He E ok xs.length×T)×{u:Value//K u}=>.ok .next) (λy=>[dv [(x0,y.2.1)],AE acc (y.1.1.es.map v),AE c xs]++(.many (y.1.1.es.flatMap fl)::GT y.1.2)):=by
 have hL:AA N (A.under (EF elt (.Name x0 p0) iter [] sc pos (J a) acc env)):=U.loop;obtain⟨x,r,rfl⟩: ∃x r,xs=x::r:=by cases xs with|nil=>exact absurd rfl hx|cons x r=>exact⟨x,r,rfl⟩
 have hg: ∀j,j<(x::r).length->(x::r)[j]? =some ((x::r).getD j x):=λj hj=>by rw[Ad,AJ hj];rfl
 have dH: ∀j,K ((x::r).getD j x):=λj=>by
  by_cases hj:j<(x::r).length
  ·exact hK _ (B4 (hg j hj))
  ·rw[Ad,B7 ADp];exact hK _ (.head _)
 have:=KD (n:=(x::r).length) (V:=λj=>{_u:Unit//j<(x::r).length}) (v:=λj _=>(x::r).getD j x) (It:=λj=>[BQ a c j,AE c (x::r)]) (Src:=[AE c (x::r)]) (nm:=x0) (dv:=dv)
  (S:=λj=>{q:He E ok j×T//j<=(x::r).length}) (G:=λYa σ=>.many (σ.1.1.es.flatMap fl)::GT σ.1.2) (out:=λYa σ=>σ.1.1.es.map v) (elt:=elt) (Dy:=.Name x0 p0) (iter:=iter) (ifs:=[]) (sc:=sc) (pos:=pos) (it:=J a) (env:=env) (acc:=acc) O (U.le (ADp:3<=N+1))
  (Y:=λj _ _=>{e:E//ok j e}×T) (nxt:=λj x σ y=>⟨(σ.1.1.snoc y.1.1 y.1.2,y.2),x.2⟩) (w:=λj _ _ y=>some (v y.1.1))
  (by have e:=NP O (A:=A.under (.compStart (.ListComp elt [⟨.Name x0 p0,iter,[],0⟩] sc pos) 0 (J a) (J acc) env)) (U.le (ADp:5+1<=N+1)).loop a c 0
      exact e.frame [AE c (x::r)])
  (λj hj=>by
   have e:=QI O (hL.le (ADp:5<=N)) a c j (x::r) _ (hg j hj)
   exact e.weaken λYa=>⟨⟨(),hj⟩,rfl,λR s S=>S⟩)
  (by have e:=OA O (hL.le (ADp:5<=N)) a c (x::r).length (x::r) (Am _)
      exact e)
  (λj x=>IV)
  (λj x l hl=>Gj _ (hL.le ADp) _ (dH j) l (hl.imp id λ⟨i,y,e⟩=>⟨_,dH i,e⟩))
  (λj hj x' σ=>by
   refine Ep.tZ (I:=[BQ a c (j+1)]) ?_;have e: ∀y:{e:E//ok j e}×T,(σ.1.1.snoc y.1.1 y.1.2).es.flatMap fl=σ.1.1.es.flatMap fl++fl y.1.1:=λy=>by
    show(σ.1.1.es++[y.1.1]).flatMap fl=_
    rw[JC];simp
   simp only[e]
   exact(lp (M:=σ.1.1.es.flatMap fl) (FO _ rfl hL j _ (hg j hj) σ.1.2)))
  (λj x σ y=>by
   show(σ.1.1.es++[y.1.1]).map v=_
   rw[AZ];rfl)
  (λj σ=>by rw[AD,σ.1.1.len];exact AK σ.2 hlen) ⟨(He.nil,t0),By _⟩ rfl ADt
 exact AC.pre (F:=[dv [],AE acc []]++([BQ a c 0,AE c (x::r)]++(.many ((He.nil (ok:=ok)).es.flatMap fl)::GT t0))) (AC.weaken this λy=>⟨((y.1.1.1,y.1.1.2),⟨_,dH y.2.1⟩),rfl,λR s S=>S⟩) λR s S=>S.BV (by
  simp only[An,Ao,Bi.flat,He.nil,List.flatMap_nil,Al,Aj,AG];exact .refl _)
theorem bV(O:B.C.Ok){N:Nat}(hN:6<=N)(U:AA (N+1) A){E T:Type}(v:E->Value)(fl:E->F6)(ok:Nat->E->Prop)(GT:T->AN){n:Nat}
 (Gj: ∀A',AA 6 A'-> ∀(j k:Nat) l,(l=[]∨ ∃i m:Nat,l=[(x0,Be (i:Int) m)])->AC B.C A' (Bo (.Name x0 p0) env (.int (j:Int) k)) [dv l] (λYa:Unit=>()) (λYa=>[dv [(x0,.int (j:Int) k)]]))
 (FO: ∀A',A'=A.under (EF elt (.Name x0 p0) iter [] sc pos (J a) acc env)->AA N A'-> ∀j,j<n-> ∀(k:Nat) (t:T),
  AC B.C A' (Bf elt env) ([dv [(x0,.int (j:Int) k)]]++GT t) (λy:{e:E//ok j e}×T=>v y.1.1) (λy=>[dv [(x0,.int (j:Int) k)]]++(.many (fl y.1.1)::GT y.2)))
 (hlen:n<=1000) (t0:T) (hn:n≠0):
 Bv B.C A (.compStart (.ListComp elt [⟨.Name x0 p0,iter,[],0⟩] sc pos) 0 (J a) (J acc) env) ([dv [],AE acc [],Fj a ((0:Nat):Int) (n:Int) 1]++GT t0)
  (λYa:(He E ok n×T)×Nat×Nat=>.ok .next) (λy=>[dv [(x0,.int (y.2.1:Int) y.2.2)],AE acc (y.1.1.es.map v)]++(.many (y.1.1.es.flatMap fl)::GT y.1.2)):=by
 have hL:AA N (A.under (EF elt (.Name x0 p0) iter [] sc pos (J a) acc env)):=U.loop
 have:=KD (n:=n) (V:=λj=>{_k:Nat//j<n}) (v:=λj k=>.int (j:Int) k.1) (It:=λj=>[Fj a (j:Int) ((n-j:Nat):Int) 1]) (Src:=[]) (nm:=x0) (dv:=dv)
  (S:=λj=>{q:He E ok j×T//j<=n}) (G:=λYa σ=>.many (σ.1.1.es.flatMap fl)::GT σ.1.2) (out:=λYa σ=>σ.1.1.es.map v) (elt:=elt) (Dy:=.Name x0 p0) (iter:=iter) (ifs:=[]) (sc:=sc) (pos:=pos) (it:=J a) (env:=env) (acc:=acc) O (U.le (ADp:3<=N+1))
  (Y:=λj _ _=>{e:E//ok j e}×T) (nxt:=λj x σ y=>⟨(σ.1.1.snoc y.1.1 y.1.2,y.2),x.2⟩) (w:=λj _ _ y=>some (v y.1.1))
  (by have e:=Z6 O (A:=A.under (.compStart (.ListComp elt [⟨.Name x0 p0,iter,[],0⟩] sc pos) 0 (J a) (J acc) env)) (U.le (ADp:5+1<=N+1)).loop a ((0:Nat):Int) ((n-0:Nat):Int) 1
      exact e)
  (λj hj=>by
   have e:=UA O (hL.le (ADp:5<=N)) a j (n-j-1)
   rw[show n-j-1+1=n-j from by lia,show n-j-1=n-(j+1) from by lia] at e;exact e.weaken λk=>⟨⟨k,hj⟩,rfl,λR s S=>S⟩)
  (by have e:=Xo O (hL.le (ADp:5<=N)) a n 1
      rw[show(n-n:Nat)=0 from Qc n];exact e)
  (λj x=>IV)
  (λj x l hl=>Gj _ (hL.le ADp) _ _ l (hl.imp id λ⟨i,y,e⟩=>⟨_,_,e⟩))
  (λj hj x' σ=>by
   refine Ep.mid ?_;have e: ∀y:{e:E//ok j e}×T,(σ.1.1.snoc y.1.1 y.1.2).es.flatMap fl=σ.1.1.es.flatMap fl++fl y.1.1:=λy=>by
    show(σ.1.1.es++[y.1.1]).flatMap fl=_
    rw[JC];simp
   simp only[e]
   exact(lp (M:=σ.1.1.es.flatMap fl) (FO _ rfl hL j hj x'.1 σ.1.2)))
  (λj x σ y=>by
   show(σ.1.1.es++[y.1.1]).map v=_
   rw[AZ];rfl)
  (λj σ=>by rw[AD,σ.1.1.len];exact AK σ.2 hlen) ⟨(He.nil,t0),By _⟩ rfl hn
 exact AC.pre (F:=[dv [],AE acc []]++([Fj a ((0:Nat):Int) ((n-0:Nat):Int) 1]++(.many ((He.nil (ok:=ok)).es.flatMap fl)::GT t0))) (AC.weaken this λy=>⟨((y.1.1.1,y.1.1.2),y.2.1,y.2.2.1),rfl,λR s S=>S⟩) λR s S=>S.BV (by
  simp only[An,Ao,Bi.flat,He.nil,List.flatMap_nil,Al,Aj,AG];exact .refl _)
theorem D_(O:B.C.Ok){N:Nat}(hN:6<=N)(U:AA (N+1) A){E T:Type}(v:E->Value)(fl:E->F6)(ok:Nat->E->Prop)(GT:T->AN){ss:Aa}{n:Nat}(hs:ns ss=Ah n)
 (Gj: ∀A',AA 6 A'-> ∀(j k:Nat) l,(l=[]∨ ∃i m:Nat,l=[(x0,Be (i:Int) m)])->AC B.C A' (Bo (.Name x0 p0) env (.int (j:Int) k)) [dv l] (λYa:Unit=>()) (λYa=>[dv [(x0,.int (j:Int) k)]]))
 (FO: ∀A',A'=A.under (EF elt (.Name x0 p0) iter [] sc pos (J a) acc env)->AA N A'-> ∀j,j<n-> ∀(k:Nat) (t:T),
  AC B.C A' (Bf elt env) ([dv [(x0,.int (j:Int) k)]]++GT t) (λy:{e:E//ok j e}×T=>v y.1.1) (λy=>[dv [(x0,.int (j:Int) k)]]++(.many (fl y.1.1)::GT y.2)))
 (hlen:n<=1000) (t0:T) (hn:n≠0):
 Bv B.C A (.compStart (.ListComp elt [⟨.Name x0 p0,iter,[],0⟩] sc pos) 0 (J a) (J acc) env) ([dv [],AE acc [],BQ a c 0,AF c ss]++GT t0)
  (λYa:(He E ok n×T)×Nat×Nat=>.ok .next) (λy=>[dv [(x0,.int (y.2.1:Int) y.2.2)],AE acc (y.1.1.es.map v),AF c ss]++(.many (y.1.1.es.flatMap fl)::GT y.1.2)):=by
 have hl:ss.length=n:=by have:=congrArg C7 hs;unfold ns at this;rw[AD,Dv] at this;exact this
 have Zj:(ss.map iv).length=n:=by rw[AD,hl]
 have:=O9 (elt:=elt) (iter:=iter) (x0:=x0) (p0:=p0) (sc:=sc) (pos:=pos) (env:=env) (dv:=dv) (acc:=acc) (a:=a) (c:=c) O hN U v fl ok GT (xs:=ss.map iv) (K:=λv=> ∃i k:Nat,v=.int (i:Int) k) (λv hv=>by obtain⟨q,_,rfl⟩:=List.mem_map.mp hv;exact⟨_,_,rfl⟩)
  (λA' h v ⟨i,k,e⟩ l hl=>by subst e;exact Gj A' h i k l (hl.imp id λ⟨u,⟨i,k,e⟩,e'⟩=>⟨i,k,by subst e;exact e'⟩))
  (λA' e h j v0 hv t=>by
   rw[AQ] at hv;obtain⟨q,hq,rfl⟩:=Option.map_eq_some_iff.mp hv;have h1:(ns ss)[j]? =some q.1:=by unfold ns;rw[AQ,hq];rfl
   rw[hs] at h1;obtain⟨h2,h3⟩:=List.getElem?_eq_some_iff.mp h1;rw[HI] at h3;rw[Dv] at h2;obtain⟨q1,q2⟩:=q;simp only at h3;subst h3
   refine((FO A' e h j h2 q2 t).frame [AF c ss]).pre (λR s S=>S.BV ?_)|>.post λy R s S=>S.BV ?_
   ·simp only[An,Ao,Bi.flat,AG,Al,Aj,A5]
    refine CP _ ?_
    exact(BH).symm
   ·simp only[An,Ao,Bi.flat,AG,Al,Aj,A5]
    refine CP _ ?_;rw[<-AG,<-AG];exact BH)
  ADp t0 (by intro e;rw[e] at Zj;simp at Zj;lia)
 rw[Zj] at this;refine AC.weaken this λy=>?_;obtain⟨y1,u,i,k,e⟩:=y;subst e;exact⟨((y1.1,y1.2),i,k),rfl,λR s S=>S⟩
end
abbrev zv(q:Int×Nat):Value:=.int q.1 q.2
def zn(zs:List (Int×Nat)):List Int:=zs.map (·.1)
noncomputable def C_(i:Int)(j:Nat):Nat:=(i.fmod ((j+1:Nat):Int)).toNat
theorem Vq(i:Int)(j:Nat):i.fmod ((j+1:Nat):Int)=(C_ i j:Int):=by
 unfold C_
 have:0<=i.fmod ((j+1:Nat):Int):=Int.fmod_nonneg_of_pos i (by omega)
 omega
theorem N9(i:Int)(j:Nat):C_ i j<j+1:=by
 have:=Int.fmod_lt_of_pos i (b:=((j+1:Nat):Int)) (by omega)
 rw[Vq] at this
 omega
section
variable(B:Bx)(A:AL)(O:B.C.Ok)
def IK(U:AA 3 A)(i:Int)(j t u:Nat):Ag B.C A where
 c:=.call (.builtin "int.__mod__") ⟨[.int i t,.int ((j+1:Nat):Int) u],[]⟩
 F:=[]
 X:=Nat
 res:=λk=>.ok (.ret (.int ((C_ i j:Nat):Int) k))
 led:=λYa=>[]
 ok:=by
  have h:=Hg (C:=B.C) (A:=A) F.slot_int_mod F.entry_int_mod (F.args_int_mod_2 (.int i t) (.int ((j+1:Nat):Int) u)) (IA i t ((j+1:Nat):Int) u (by rw[beq_iff_eq];omega)) (λs=>rfl)
  rw[Vq] at h;exact h
theorem ZZ(i:Int){j:Nat}(hj:j<1000): ¬(I7 i ((j+1:Nat):Int))=true:=by
 unfold I7;have h:((j+1:Nat):Int).natAbs.log2<10:=by
  rw[Int.natAbs_natCast]
  exact(Nat.log2_lt ADp).mpr (by omega)
 have:(if(((j+1:Nat):Int)==0)=true then 0 else((j+1:Nat):Int).natAbs.log2/30+1)<=1:=by
  split
  ·omega
  ·lia
 simp only[FS,decide_eq_true_eq]
 omega
noncomputable def Qo(U:AA 3 A)(i:Int)(j t u:Nat)(hj:j<1000):Ag B.C A where
 c:=.call (.builtin "int.__floordiv__") ⟨[.int i t,.int ((j+1:Nat):Int) u],[]⟩
 F:=[]
 X:=Nat
 res:=λk=>.ok (.ret (.int (i.fdiv ((j+1:Nat):Int)) k))
 led:=λYa=>[]
 ok:=Hg (C:=B.C) (A:=A) F.slot_int_floordiv F.entry_int_floordiv (F.args_int_floordiv_2 (.int i t) (.int ((j+1:Nat):Int) u)) (AutoIntG4.int___floordiv___int_int_1 i t ((j+1:Nat):Int) u (by rw[beq_iff_eq];omega) (ZZ i hj)) (λs=>rfl)
noncomputable abbrev PN(c n:Nat):Str:=⟨⟨DE n c⟩⟩
theorem Vj(c:Nat): ∀(n:Nat) (a:Array Nat),(DE n (#[c]:Array Nat)).foldl (· ++ ·) a=a++(⟨DE n c⟩:Array Nat)
 |0,a=>by simp
 |n+1,a=>by
  rw[OX,C0,Vj c n];apply Array.toList_inj.mp;simp[OX]
def cG(U:AA 3 A)(c n t u:Nat)(hn:n+1<1000):Ag B.C A where
 c:=.call (.builtin "str.__mul__") ⟨[.str ⟨⟨[c]⟩⟩ t,.int ((n+1:Nat):Int) u],[]⟩
 F:=[]
 X:=Nat
 res:=λk=>.ok (.ret (.str (PN c (n+1)) k))
 led:=λYa=>[]
 ok:=by
  have hr:(decide (((n+1:Nat):Int)< -(2^63:Int))||decide (((n+1:Nat):Int)≥2^63))=false:=by
   simp only[Iz,decide_eq_false_iff_not,show((2:Int)^63)=9223372036854775808 by decide];omega
  have g:=gives_str_mul ⟨⟨[c]⟩⟩ ((n+1:Nat):Int) t u hr (λYa Ya=>by
   show¬((1:Int)>_)
   have h1:(1:Int)<=(2^63-1)/((n+1:Nat):Int):=by
    rw[Int.le_ediv_iff_mul_le (by omega),show((2:Int)^63)=9223372036854775808 by decide]
    omega
   omega) (λYa Ya=>by
   show decide (1*(((n+1:Nat):Int)).toNat>sizeLine)=false;rw[decide_eq_false_iff_not,Br]
   omega)
  rw[if_neg (by omega)] at g
  refine D9 F.slot_str_mul F.entry_str_mul (F.args_str_mul_2 _ _) g.meets λR s S=>⟨rfl,?_⟩
  by_cases h:n=0
  ·subst h
   exact⟨t,rfl,S⟩
  ·have e:((((n+1:Nat):Int)==1||(⟨⟨[c]⟩⟩:Str).length==0)=true)=False:=by
    have:(((n+1:Nat):Int)==1)=false:=by rw[beq_eq_false_iff_ne];omega
    rw[this];simp[Str.length]
   simp only[e,if_false];have h2:(⟨(DE ((n+1:Nat):Int).toNat (⟨[c]⟩:Array Nat)).foldl (· ++ ·) #[]⟩:Str)=PN c (n+1):=by
    have:=Vj c (n+1) #[]
    rw[Dt]
    show(⟨_⟩:Str)=⟨_⟩
    congr 1
    refine this.trans ?_;simp
   rw[h2];exact⟨by show(DE (n+1) c).length<=sizeLine;rw[M1,Br];omega,s.toks,rfl,S.toks _ (Eb _)⟩
def TH(U:AA 3 A)(c n t u:Nat)(hn:n+1<1000):Ag B.C A where
 c:=.call (.builtin "str.__mul__") ⟨[.str ⟨⟨[c]⟩⟩ t,.int ((1+n:Nat):Int) u],[]⟩
 F:=[]
 X:=Nat
 res:=λk=>.ok (.ret (.str (PN c (n+1)) k))
 led:=λYa=>[]
 ok:=by rw[Nat.add_comm 1 n];exact(cG B A U c n t u hn).ok
def RP(U:AA 3 A)(j t u:Nat)(hj:j<6):Ag B.C A:=
 (TG O U ⟨⟨[97,98,99,100,101,102]⟩⟩ t u (97+j) (j:Int) ADp (by omega) (by
  have:j=0∨j=1∨j=2∨j=3∨j=4∨j=5:=by lia
  rcases this with rfl|rfl|rfl|rfl|rfl|rfl<;>rfl)).re (λk:Nat=>.ok (.ret (.str ⟨⟨[97+j]⟩⟩ k))) (λYa=>[]) (λk=>k) (λYa=>rfl) (λYa=>rfl)
end
include O
def TF(U:AA 3 A)(x:Str)(n:Nat)(t u:Nat):Ag B.C A:=
 DN O U "int.__rmul__" [.int (n:Int) u,.str x t] [] (λYa:Unit=>.notImplemented) (λYa=>[]) (λU=>.fi () []) λU=>.fi () []
def R9:Expr:=vE (sN 17 0)
def chQ:Str:=Bl [95,108,97,119,95,99,104,117,110,107,115,46,60,108,111,99,97,108,115,62,46]
abbrev O7(c1 L D:Nat):Env:=FM (qb R9) chQ 245 [(CZ,c1+323)] L D
theorem kT(U:AA 6 A)(c1 L D j k:Nat):
 AS B A (Bo (Cp R9) (O7 c1 L D) (.int (j:Int) k)) [As D []] () [As D [(BA,.int (j:Int) k)]]:=
 Ef O U (.fr λk0=>.g 6145<|.fi () [0])
theorem kU(U:AA 6 A)(c1 L D j k i m:Nat):
 AS B A (Bo (Cp R9) (O7 c1 L D) (.int (j:Int) k)) [As D [(BA,.int (i:Int) m)]] () [As D [(BA,.int (j:Int) k)]]:=
 Ef O U (.fr λk0=>.g 6145<|.fi () [0])
theorem kX(U:AA 6 A)(c1 L D x j k t:Nat)(v:Int)(zs:List (Int×Nat))(hl:(zs.map zv).length<=1000)(hx:(zs.map zv)[j]? =some (.int v t))(hj:j<6)(h1:((C_ v 1:Nat):Int)=1)(h2:C_ (v.fdiv ((2:Nat):Int)) 3+1<1000):
 AC B.C A (Bf (DL R9) (O7 c1 L D)) [As D [(BA,.int (j:Int) k)],AW c1 (J x),AE x (zs.map zv)]
  (λq:Nat×Nat×Nat=>J q.1)
  (λq=>[As D [(BA,.int (j:Int) k)],AV q.1 [.str ⟨⟨[32,9]⟩⟩ q.2.1,.str (PN (97+j) (C_ (v.fdiv ((2:Nat):Int)) 3+1)) q.2.2],AW c1 (J x),AE x (zs.map zv)]):=by
 obtain⟨_,_|_⟩:=B<;>exact H_ O U (.g 1124872258<|.cc (BZ O U.l x j k (B0 zv zs) (.int v t) hx hl) [2] λYa=>.fr λk1=>.cc (IK _ _ U.l v 1 t k1) [] λ(y2:Nat)=>.fr λk3=>.cc (gN _ _ O U.l (↑(C_ v 1)) 1 y2 k3 h1) [] λYa=>.fr λk5=>.fr λk6=>.g 66<|.cc (RP _ _ O U.l j k6 k hj) [] λ(y7:Nat)=>.fr λk8=>.g 1090785411<|.cc (BZ O U.l x j k (B0 zv zs) (.int v t) hx hl) [0] λYa=>.fr λH9=>.cc (Qo _ _ U.l v 1 t H9 (by first|omega|assumption|decide)) [] λNq=>.fr λiW=>.cc (IK _ _ U.l (v.fdiv ↑(1+1)) 3 Nq iW) [] λUN=>.cc (GA _ _ O U.l 1 (C_ (v.fdiv ↑(1+1)) 3) k8 UN) [] λOT=>.cc (TF O U.l {cps:={toList:=[97+j]}} (1+C_ (v.fdiv ↑(1+1)) 3) y7 OT) [] λYa=>.cc (TH _ _ U.l (97+j) (C_ (v.fdiv ↑(1+1)) 3) y7 OT h2) [] λSN=>.al λj_=>.fi (j_,k5,SN) [2,0,1,0])
theorem kW(U:AA 6 A)(c1 L D x j k t:Nat)(v:Int)(zs:List (Int×Nat))(hl:(zs.map zv).length<=1000)(hx:(zs.map zv)[j]? =some (.int v t))(hj:j<6)(h1:((C_ v 1:Nat):Int)≠1)(h2:C_ (v.fdiv ((2:Nat):Int)) 3+1<1000):
 AC B.C A (Bf (DL R9) (O7 c1 L D)) [As D [(BA,.int (j:Int) k)],AW c1 (J x),AE x (zs.map zv)]
  (λq:Nat×Nat×Nat=>J q.1)
  (λq=>[As D [(BA,.int (j:Int) k)],AV q.1 [.str ⟨⟨[32]⟩⟩ q.2.1,.str (PN (97+j) (C_ (v.fdiv ((2:Nat):Int)) 3+1)) q.2.2],AW c1 (J x),AE x (zs.map zv)]):=by
 obtain⟨_,_|_⟩:=B<;>exact H_ O U (.g 1124872258<|.cc (BZ O U.l x j k (B0 zv zs) (.int v t) hx hl) [2] λYa=>.fr λk1=>.cc (IK _ _ U.l v 1 t k1) [] λ(y2:Nat)=>.fr λk3=>.cc (gM _ _ O U.l (↑(C_ v 1)) 1 y2 k3 h1) [] λYa=>.fr λk5=>.fr λk6=>.g 66<|.cc (RP _ _ O U.l j k6 k hj) [] λ(y7:Nat)=>.fr λk8=>.g 1090785411<|.cc (BZ O U.l x j k (B0 zv zs) (.int v t) hx hl) [0] λYa=>.fr λH9=>.cc (Qo _ _ U.l v 1 t H9 (by first|omega|assumption|decide)) [] λNq=>.fr λiW=>.cc (IK _ _ U.l (v.fdiv ↑(1+1)) 3 Nq iW) [] λUN=>.cc (GA _ _ O U.l 1 (C_ (v.fdiv ↑(1+1)) 3) k8 UN) [] λOT=>.cc (TF O U.l {cps:={toList:=[97+j]}} (1+C_ (v.fdiv ↑(1+1)) 3) y7 OT) [] λYa=>.cc (TH _ _ U.l (97+j) (C_ (v.fdiv ↑(1+1)) 3) y7 OT h2) [] λSN=>.al λj_=>.fi (j_,k5,SN) [2,0,1,0])
def Sr(v:Int)(j:Nat):Str×Str:=(if C_ v 1=1 then⟨⟨[32,9]⟩⟩ else⟨⟨[32]⟩⟩,PN (97+j) (C_ (v.fdiv ((2:Nat):Int)) 3+1))
def Jb(vs:List Int):Ed:=vs.mapIdx λj v=>Sr v j
def VR(vs:List Int)(j:Nat)(i:It):Prop:=vs[j]?.map (λv=>Sr v j)=some i.ab
theorem qe(U:AA 6 A)(c1 L D x j k:Nat)(zs:List (Int×Nat))(hl:zs.length<=6)(hj:j<zs.length):
 AC B.C A (Bf (DL R9) (O7 c1 L D)) ([As D [(BA,.int (j:Int) k)]]++[AW c1 (J x),AE x (zs.map zv)])
  (λy:{i:It//VR (zn zs) j i}×Unit=>y.1.1.v) (λy=>[As D [(BA,.int (j:Int) k)]]++(.many [y.1.1.e]::[AW c1 (J x),AE x (zs.map zv)])):=by
 have hx:zs[j]? =some (zs[j].1,zs[j].2):=AJ hj;have Q0:(zs.map zv)[j]? =some (.int zs[j].1 zs[j].2):=by rw[AQ,hx];rfl
 have hv:(zn zs)[j]? =some zs[j].1:=by unfold zn;rw[AQ,hx];rfl
 have h2:C_ (zs[j].1.fdiv ((2:Nat):Int)) 3+1<1000:=by have:=N9 (zs[j].1.fdiv ((2:Nat):Int)) 3;omega
 by_cases h1:C_ zs[j].1 1=1
 ·have e:=kX O U c1 L D x j k _ _ zs (by rw[AD];omega) Q0 (by omega) (by rw[h1];rfl) h2
  exact AC.weaken e λq=>⟨(⟨⟨q.1,_,q.2.1,_,q.2.2⟩,by unfold VR;rw[hv];show some (Sr _ _)=some _;unfold Sr;rw[if_pos h1];rfl⟩,()),rfl,λR s S=>S.BV (.refl _)⟩
 ·have e:=kW O U c1 L D x j k _ _ zs (by rw[AD];omega) Q0 (by omega) (by intro h;exact h1 ADp) h2
  exact AC.weaken e λq=>⟨(⟨⟨q.1,_,q.2.1,_,q.2.2⟩,by unfold VR;rw[hv];show some (Sr _ _)=some _;unfold Sr;rw[if_neg h1];rfl⟩,()),rfl,λR s S=>S.BV (.refl _)⟩
structure fK(vs:List Int) where
 AH:List It
 ok:AH.map It.ab=Jb vs
 k:Nat
 t:Nat
omit O
theorem pW{vs:List Int}{n:Nat}(h:n=vs.length)(t:He It (VR vs) n):t.es.map It.ab=Jb vs:=by
 apply Hz;intro j;rw[AQ];unfold Jb;rw[List.getElem?_mapIdx];cases he:t.es[j]? with
 |some e=>
  have:=t.all j e he
  unfold VR at this;exact this.symm
 |none=>
  have h1:=List.getElem?_eq_none_iff.mp he;rw[t.len] at h1;rw[B7 (by omega)];rfl
theorem iA(AH:List It):AH.flatMap (λi=>[i.e])=AH.map It.e:=by
 induction AH with
 |nil=>rfl
 |cons i r ih=>rw[Ka,ih];rfl
include O
def Wt(U:AA 7 A)(L D c1 a acc x:Nat)(zs:List (Int×Nat))(hl:zs.length<=6)(Qy:zs.length≠0):Ag B.C A where
 c:=.compStart R9 0 (J a) (J acc) (O7 c1 L D)
 F:=[As D [],AE acc [],Fj a ((0:Nat):Int) ((zs.map zv).length:Int) 1,AW c1 (J x),AE x (zs.map zv)]
 X:=fK (zn zs)
 res:=λYa=>.ok .next
 led:=λq=>[As D [(BA,.int (q.k:Int) q.t)],AE acc (q.AH.map It.v),Ai q.AH,AW c1 (J x),AE x (zs.map zv)]
 ok:=by
  have hlen:(zs.map zv).length=zs.length:=AD _;rw[hlen];have h:=bV (B:=B) (A:=A) (elt:=DL R9) (iter:=Hf R9) (x0:=BA) (p0:=(Cp R9).pos) (sc:=Gh R9) (pos:=R9.pos) (env:=O7 c1 L D) (dv:=As D) (acc:=acc) (a:=a) O (Am 6) U It.v (λi=>[i.e]) (VR (zn zs)) (λYa:Unit=>[AW c1 (J x),AE x (zs.map zv)]) (n:=zs.length)
   (λA' h j k l hl=>by
    rcases hl with rfl|⟨i,m,rfl⟩
    ·exact kT O h c1 L D j k
    ·exact kU O h c1 L D j k i m)
   (λA' _ h j hj k _=>qe O h c1 L D x j k zs hl hj) (by omega) () Qy
  exact AC.weaken h λy=>⟨⟨y.1.1.es,pW (by unfold zn;rw[AD]) y.1.1,y.2.1,y.2.2⟩,rfl,λR s S=>by
   show St B.C ([As D [(BA,.int (y.2.1:Int) y.2.2)],AE acc (y.1.1.es.map It.v),Ai y.1.1.es,_,_]++R) s;rw[show Ai y.1.1.es=.many (y.1.1.es.flatMap λi=>[i.e]) from congrArg Bi.many (iA _).symm];exact S⟩
theorem WX(U:AA 1 A)(x:Nat):
 AS B A (Pl B 246 [J x]) [] (([(CZ,J x)]:BC)) []:=
 rn O U (.fi () [])
theorem U1(U:AA 1 A)(x:Nat):
 AC B.C A (OP B 246 [(CZ,J x)]) []
  (λq:Nat×Nat=>AR B.P 246 [(CZ,q.2+323)] (q.1+323))
  (λq=>[AI q.1 [],AW (q.2) (J x)]):=
 rn O U (.al λa0=>.al λa1=>.g 6145<|.fi (a0,a1) [1,0])
theorem Wa(U:AA 20 A)(L c1 x:Nat)(zs:List (Int×Nat))(hl:zs.length<=6)(Qy:zs.length≠0)(Mr:(zs.map zv).length<=1000):
 AC B.C A (Ac (A4 B.P 246) (AR B.P 246 [(CZ,c1+323)] (L+323))) [AI L [],AW c1 (J x),AE x (zs.map zv)]
  (λq:Nat×fK (zn zs)=>.ret (J q.1))
  (λq=>[AE q.1 (q.2.AH.map It.v),Ai q.2.AH,AE x (zs.map zv)]):=by
 obtain⟨_,_|_⟩:=B<;>exact D7 O U (.g 1107296256<|.cc (IL O U.l x (B0 zv zs) Mr) [2] λ(y0:Nat×Nat)=>.cc (KE O U.l ((B0 zv zs).length) y0.snd) [] λ(y1:Nat×Nat×Nat)=>.g 4161<|.cc (NH O U.l y1.fst ((B0 zv zs).length) y1.snd.fst y0.snd y1.snd.snd Mr) [0] λy2=>.g 65<|.al λa3=>.al λa4=>.cc (Wt O U.l L a4 c1 y2 a3 x zs hl Qy) [0,0,0,3,1] λy5=>.g 393281<|.fi (a3,y5) [1,1,2])
def Yk(U:AA 22 A)(x:Nat)(zs:List (Int×Nat))(hl:zs.length<=6)(Qy:zs.length≠0):Ag B.C A where
 c:=.call (.ref 246) ⟨[J x],[]⟩
 F:=[AE x (zs.map zv)]
 X:=Nat×fK (zn zs)
 res:=λq=>.ok (.ret (J q.1))
 led:=λq=>[AE q.1 (q.2.AH.map It.v),Ai q.2.AH,AE x (zs.map zv)]
 ok:=Dm O (n:=21) U ADq ((WX O U.l.in1 x).frame _) (λR s S=>(U1 O U.l.in1 x).frame [AE x (zs.map zv)] R s S)
  (λq=>BK (fl:=λp:Nat×fK (zn zs)=>.ret (J p.1)) (Wa O (AA.deeper U.l) q.1 q.2 x zs hl Qy (by rw[AD];omega)))
omit O
section
variable{C:Cx}{A:AL}{L:AN}
theorem AC.Tg{e:Expr}{pos:Pos}{env:Env}{whole:Sem Value}{X:Type}{b:Bool}{led:X->AN}(h:AC C A (isTrue e env (Bf e env)) L (λYa:X=>b) led):AC C A (isTrue (.UnaryOp .Not e pos) env whole) L (λYa:X=> !b) led:=λR s S=>
 wpAny_isTrue_Not (Av (h R s S) (λYa s' ⟨x,e,S'⟩=>⟨x,by rw[e],S'⟩) λYa Ya q=>q)
theorem AC.eH{op:BoolOp}{env:Env}:AC C A (SY op [] env) L (λYa:Unit=>op==.And) (λYa=>L):=λR s S=>AP ⟨(),rfl,S⟩
theorem AC.O5{op:BoolOp}{e:Expr}{rest:List Expr}{env:Env}{X Y:Type}{b:Bool}{led1:X->AN}{led:Y->AN}(h1:AC C A (isTrue e env (Bf e env)) L (λYa:X=>op==.And) led1)(h2: ∀x,AC C A (SY op rest env) (led1 x) (λYa:Y=>b) led):
 AC C A (SY op (e::rest) env) L (λYa:Y=>b) led:=λR s S=>by
 show BN _ _ (isTrue e env (Bf e env)>>=_) _ _ s;refine AB (AC.wp h1 S λx s₁ S₁=>?_);cases op<;>exact h2 x R s₁ S₁
theorem AC.WT{op:BoolOp}{e:Expr}{rest:List Expr}{env:Env}{X:Type}{led:X->AN}(h1:AC C A (isTrue e env (Bf e env)) L (λYa:X=>op==.Or) led):
 AC C A (SY op (e::rest) env) L (λYa:X=>op==.Or) led:=λR s S=>by
 show BN _ _ (isTrue e env (Bf e env)>>=_) _ _ s;refine AB (AC.wp h1 S λx s₁ S₁=>?_);cases op<;>exact AP ⟨x,rfl,S₁⟩
theorem AC.Iu{op:BoolOp}{es:List Expr}{pos:Pos}{env:Env}{whole:Sem Value}{X:Type}{b:Bool}{led:X->AN}(h:AC C A (SY op es env) L (λYa:X=>b) led):AC C A (isTrue (.BoolOp op es pos) env whole) L (λYa:X=>b) led:=λR s S=>
 wpAny_isTrue_BoolOp (h R s S)
theorem Jm{B:Bx}{a b:Value}{d:PyData}{L:AN}(hu:A.units+64<cLine)(hl:d.canLay0=true)(hd:d.depth<=64)
 (h: ∀R s,St B.C (L++R) s->(∃as,Qd s.heap a d as)/\ ∃bs,Qd s.heap b d bs):AC B.C A (Gf .NotEq a b) L (λYa:Unit=>.bool false) (λYa=>L):=
 T8 hu hl hl hd h (by rw[Ny d hl];rfl)
theorem oo{B:Bx}{a b:Value}{d:PyData}{L:AN}(hu:A.units+64<cLine)(hl:d.canLay0=true)(hd:d.depth<=64)
 (h: ∀R s,St B.C (L++R) s->(∃as,Qd s.heap a d as)/\ ∃bs,Qd s.heap b d bs):AC B.C A (Gf .Eq a b) L (λYa:Unit=>.bool true) (λYa=>L):=
 on hu hl hl hd h (Ny d hl)
end
inductive Ob{α β:Type}(P:α->β->Prop):List α->List β->Prop
 |nil:Ob P [] []
 |cons {a b as bs}:P a b->Ob P as bs->Ob P (a::as) (b::bs)
abbrev Gl(h:Heap)(v:Value)(d:PyData):Prop:= ∃as,Qd h v d as
theorem QK{h:Heap}{vs:Ak}{ds:List PyData}(q:Ob (Gl h) vs ds): ∃as,ReadsAll h vs ds as:=by
 induction q with
 |nil=>exact⟨_,.nil⟩
 |cons h1 _ ih=>obtain⟨as,r⟩:=ih;obtain⟨bs,r1⟩:=h1;exact⟨_,.cons r1 r⟩
theorem St.s_{C:Cx}{L:AN}{s:Af}(S:St C L s){p:Addr×AO}(hp:p∈Ao L): ∃g,s.heap.get? p.1=some (p.2.obj g):=by
 obtain⟨H,_,XP⟩:=S.led;obtain⟨o,ho,g,rfl⟩:=XP.at_ p (Ar _ hp);exact⟨g,ho⟩
theorem St.list{C:Cx}{L:AN}{s:Af}(S:St C L s){a:Addr}{vs:Ak}{ds:List PyData}(hp:(a,AO.ls (.type "list") none vs)∈Ao L)(q:Ob (Gl s.heap) vs ds):Gl s.heap (.ref a) (.list ds):=by
 obtain⟨g,hg⟩:=S.s_ hp;obtain⟨as,r⟩:=QK q;exact⟨_,.list hg rfl rfl r⟩
theorem St.tuple{C:Cx}{L:AN}{s:Af}(S:St C L s){a:Addr}{vs:Ak}{ds:List PyData}(hp:(a,AO.ls (.type "tuple") none vs)∈Ao L)(q:Ob (Gl s.heap) vs ds):Gl s.heap (.ref a) (.tuple ds):=by
 obtain⟨g,hg⟩:=S.s_ hp;obtain⟨as,r⟩:=QK q;exact⟨_,.tuple hg rfl rfl r⟩
noncomputable def iR(n:Nat):PyData:=.int (n:Int)
def Je(l:Ay):PyData:=.list (l.map iR)
theorem ev(h:Heap): ∀ys:Aa,Ob (Gl h) (ys.map iv) ((ns ys).map iR)
 |[]=>.nil
 |(n,t)::r=>.cons ⟨_,.int _ _⟩ (ev h r)
theorem ew(h:Heap): ∀ks:Db,Ob (Gl h) (ks.map rv) ((ks.map (·.1)).map HL)
 |[]=>.nil
 |(n,t)::r=>.cons ⟨_,.str _ _⟩ (ew h r)
theorem St.il{C:Cx}{L:AN}{s:Af}(S:St C L s){a:Nat}{ys:Aa}(hp:(a+323,AO.ls (.type "list") none (ys.map iv))∈Ao L):Gl s.heap (J a) (Je (ns ys)):=S.list hp (ev _ _)
theorem St.Zl{C:Cx}{L:AN}{s:Af}(S:St C L s){a:Nat}{ys:Aa}{l:Ay}(e:ns ys=l)(hp:(a+323,AO.ls (.type "list") none (ys.map iv))∈Ao L):Gl s.heap (J a) (Je l):=e▸S.il hp
theorem AC.nil{C:Cx}{A:AL}{L:AN}{env:Env}:AC C A (Ac [] env) L (λYa:Unit=>.next) (λYa=>L):=λR s S=>Fy ⟨(),rfl,S⟩
abbrev Jl(es:List IE)(i:Nat):F6:=K6 (es.take i++es.drop (i+1))
theorem Xc{es:List IE}{i:Nat}{e:IE}(h:es[i]? =some e):(K6 es).Perm (e.p::Jl es i):=by
 have:=(IU h).map IE.p
 rwa [Aw] at this
theorem To{P:AN}{es:List IE}{i:Nat}{e:IE}(he:es[i]? =some e):(Ao (P++[BU es])).Perm (Ao (P++[AF e.a e.ys]++[.many (Jl es i)])):=by
 simp only[An,Ao,Bi.flat,Aj,AG]
 exact(Xc he).append_left _
theorem Tp{P:AN}{es fs:List IE}{i j:Nat}{e f:IE}(he:es[i]? =some e)(hf:fs[j]? =some f):
 (Ao (P++[BU es,BU fs])).Perm (Ao (P++[AF e.a e.ys,AF f.a f.ys]++[.many (Jl es i),.many (Jl fs j)])):=by
 simp only[An,Ao,Bi.flat,Aj,AG];refine CP _ ?_
 refine((Xc he).append (Xc hf)).trans ?_
 show(e.p::(Jl es i++(f.p::Jl fs j))).Perm (e.p::(f.p::(Jl es i++Jl fs j)))
 exact .cons _ BH
theorem AC.nj{C:Cx}{A:AL}{α:Type}{t:Sem α}{P:AN}{X:Type}{res:X->α}{Q:X->AN}{es fs:List IE}{i j:Nat}{e f:IE}(he:es[i]? =some e)(hf:fs[j]? =some f)
 (h:AC C A t (P++[AF e.a e.ys,AF f.a f.ys]) res (λx=>Q x++[AF e.a e.ys,AF f.a f.ys])):AC C A t (P++[BU es,BU fs]) res (λx=>Q x++[BU es,BU fs]):=
 ((h.frame [.many (Jl es i),.many (Jl fs j)]).pre λR s S=>S.BV (by rw[An,An _ R];exact(Tp he hf).append_right _)).post λx R s S=>S.BV (by rw[An,An _ R];exact((Tp he hf).append_right _).symm)
theorem AC.z1{C:Cx}{A:AL}{α:Type}{t:Sem α}{P:AN}{X:Type}{res:X->α}{Q:X->AN}{es:List IE}{i:Nat}{e:IE}(he:es[i]? =some e)
 (h:AC C A t (P++[AF e.a e.ys]) res (λx=>Q x++[AF e.a e.ys])):AC C A t (P++[BU es]) res (λx=>Q x++[BU es]):=
 ((h.frame [.many (Jl es i)]).pre λR s S=>S.BV (by rw[An,An _ R];exact(To he).append_right _)).post λx R s S=>S.BV (by rw[An,An _ R];exact((To he).append_right _).symm)
theorem St.ll{C:Cx}{L:AN}{s:Af}(S:St C L s){a:Nat}{es:List IE}(hp:(a+323,AO.ls (.type "list") none (es.map IE.v))∈Ao L)(he: ∀e∈es,e.p∈Ao L):Gl s.heap (J a) (.list (es.map λe=>Je (ns e.ys))):=by
 refine S.list hp ?_
 have: ∀es:List IE,(∀e∈es,e.p∈Ao L)->Ob (Gl s.heap) (es.map IE.v) (es.map λe=>Je (ns e.ys)):=λes=>by
  induction es with
  |nil=>intro _;exact .nil
  |cons e r ih=>intro h;exact .cons (S.il (h e (.head _))) (ih λx hx=>h x (.tail _ hx))
 exact this es he
theorem Q3: ∀l:Ay,DQ (l.map iR)=true/\D2 (l.map iR)=0
 |[]=>⟨rfl,rfl⟩
 |n::r=>by
  obtain⟨h1,h2⟩:=Q3 r;exact⟨by simp only[Aw,DQ,h1,iR,En,Kq],by simp only[Aw,D2,h2,iR,Fl];rfl⟩
theorem SS(l:Ay):(Je l).canLay0=true/\(Je l).depth=1:=⟨by unfold Je;simp only[En];exact(Q3 l).1,by unfold Je;simp only[Fl,(Q3 l).2]⟩
theorem NT: ∀ls:List Ay,DQ (ls.map Je)=true/\D2 (ls.map Je)<=1
 |[]=>⟨rfl,By _⟩
 |l::r=>by
  obtain⟨h1,h2⟩:=NT r;refine⟨by simp only[Aw,DQ,h1,(SS l).1,Kq],?_⟩
  simp only[Aw,D2,(SS l).2];exact Nat.max_le.mpr ⟨Am _,h2⟩
theorem Xb(ls:List Ay):(Nx (ls.map Je)).canLay0=true/\(Nx (ls.map Je)).depth<=64:=⟨by simp only[En];exact(NT ls).1,by simp only[Fl];have:=(NT ls).2;lia⟩
theorem SU(ls:List Ay):(PyData.tuple (ls.map Je)).canLay0=true/\(PyData.tuple (ls.map Je)).depth<=64:=⟨by simp only[En];exact(NT ls).1,by simp only[Fl];have:=(NT ls).2;lia⟩
theorem Vv: ∀ks:List Str,(∀x∈ks,x.cps.all (· <0x110000)=true)->DQ (ks.map HL)=true/\D2 (ks.map HL)=0
 |[],_=>⟨rfl,rfl⟩
 |x::r,h=>by
  obtain⟨h1,h2⟩:=Vv r λy hy=>h y (.tail _ hy);have h0:PyData.strOk x=true:=h x (.head _);exact⟨by simp only[Aw,DQ,En,h1,h0,Kq],by simp only[Aw,D2,h2,Fl];rfl⟩
section
variable{B:Bx}{x0:Str}{p0:Pos}{body:Dx}{env:Env}{a c:Nat}{S:Type}{G:S->AN}
theorem TS(O:B.C.Ok){A:AL}{N:Nat}(hN:5<=N)(U:AA (N+1) A){n:Nat}{H:Nat->Nat->S->AN}
 (PK: ∀A',A'=A.under (.forLoop (.Name x0 p0) (J a) body [] env)->AA N A'-> ∀j,j<n-> ∀(k:Nat) (σ:S),AC B.C A' (Bo (.Name x0 p0) env (.int (j:Int) k)) (G σ) (λYa:Unit=>()) (λYa=>H j k σ)/\
  AC B.C A' (Ac body env) (H j k σ) (λYa:S=>.next) G):
 ∀(r j:Nat) (σ:S),j+r=n->AT B.C A (.forLoop (.Name x0 p0) (J a) body [] env) (Fj a (j:Int) (r:Int) 1::G σ) (λYa:S=>.ok .next) G
 |0,j,σ,h=>by
  have e:=Xo O (A:=A.under (.forLoop (.Name x0 p0) (J a) body [] env)) (U.le (ADp:5+1<=N+1)).loop a j 1
  exact AT.SR (X:=Unit) (L1:=λYa=>G σ) (e.frame (G σ)) λYa=>(AT.SO _).weaken λYa=>⟨σ,rfl,λR s S=>S⟩
 |r+1,j,σ,h=>by
  have B8:AA N (A.under (.forLoop (.Name x0 p0) (J a) body [] env)):=U.loop;have h1:=λk σ=>(PK _ rfl B8 j ADp k σ).1
  have h2:=λk σ=>(PK _ rfl B8 j ADp k σ).2
  refine AT.P4 (fl:=.next) (.inl rfl) (X:=Nat) (v:=λk=>.int (j:Int) k) (L1:=λYa=>Fj a ((j+1:Nat):Int) (r:Int) 1::G σ) (L2:=λYa=>Fj a ((j+1:Nat):Int) (r:Int) 1::G σ) (L3:=λk=>H j k σ++[Fj a ((j+1:Nat):Int) (r:Int) 1]) (L4:=λYa y=>G y++[Fj a ((j+1:Nat):Int) (r:Int) 1])
   ((UA O (B8.le hN) a j r).frame (G σ)) (λYa=>IV) (λk=>?_) (λk=>(h2 k σ).frame _) λk y=>?_
  ·exact((h1 k σ).frame [Fj a ((j+1:Nat):Int) (r:Int) 1]).pre λR s S=>S.perm (A8 R (Bm _ _).symm)
  ·exact(TS O hN U PK r (j+1) y ADp).pre λR s S=>S.perm (A8 R (Bm _ _))
theorem Qv(O:B.C.Ok){A:AL}{N:Nat}(hN:5<=N)(U:AA (N+1) A){xs:Ak}{H:Nat->Value->S->AN}
 (PK: ∀A',A'=A.under (.forLoop (.Name x0 p0) (J a) body [] env)->AA N A'-> ∀j v,xs[j]? =some v-> ∀(σ:S),AC B.C A' (Bo (.Name x0 p0) env v) (G σ) (λYa:Unit=>()) (λYa=>H j v σ)/\
  AC B.C A' (Ac body env) (AE c xs::H j v σ) (λYa:S=>.next) (λσ'=>AE c xs::G σ')):
 ∀(r j:Nat) (σ:S),j+r=xs.length->AT B.C A (.forLoop (.Name x0 p0) (J a) body [] env) (BQ a c j::AE c xs::G σ) (λYa:S=>.ok .next) (λσ'=>AE c xs::G σ')
 |0,j,σ,h=>by
  have e:=OA O (A:=A.under (.forLoop (.Name x0 p0) (J a) body [] env)) (U.le (ADp:5+1<=N+1)).loop a c j xs ADp
  exact AT.SR (X:=Unit) (L1:=λYa=>AE c xs::G σ) (e.frame (G σ)) λYa=>(AT.SO _).weaken λYa=>⟨σ,rfl,λR s S=>S⟩
 |r+1,j,σ,h=>by
  have B8:AA N (A.under (.forLoop (.Name x0 p0) (J a) body [] env)):=U.loop;have hj:j<xs.length:=by lia
  have hx:xs[j]? =some xs[j]:=AJ hj;have h1:=λσ=>(PK _ rfl B8 j _ hx σ).1;have h2:=λσ=>(PK _ rfl B8 j _ hx σ).2;refine AT.P4 (fl:=.next) (.inl rfl) (X:=Unit) (v:=λYa=>xs[j]) (L1:=λYa=>BQ a c (j+1)::AE c xs::G σ) (L2:=λYa=>BQ a c (j+1)::AE c xs::G σ) (L3:=λYa=>AE c xs::H j xs[j] σ++[BQ a c (j+1)]) (L4:=λYa y=>AE c xs::G y++[BQ a c (j+1)])
   ((QI O (B8.le hN) a c j xs _ hx).frame (G σ)) (λYa=>IV) (λYa=>?_) (λk=>(h2 σ).frame _) λk y=>?_
  ·refine((h1 σ).frame [BQ a c (j+1),AE c xs]).pre (λR s S=>S.perm (A8 R ?_))|>.post λYa R s S=>S.perm (A8 R ?_)
   ·exact A9 (l₁:=[BQ a c (j+1),AE c xs])
   ·show(H j xs[j] σ++[BQ a c (j+1),AE c xs]).Perm (AE c xs::(H j xs[j] σ++[BQ a c (j+1)]))
    refine List.perm_append_comm.trans ?_
    show(BQ a c (j+1)::AE c xs::H j xs[j] σ).Perm _
    exact(Ae _ _ _).trans (.cons _ (Bm _ _).symm)
  ·exact(Qv O hN U PK r (j+1) y ADp).pre λR s S=>S.perm (A8 R (Bm _ (AE c xs::G y)).symm.symm)
end
def YR:Dx:=nB (sN 28 0)
def uA:Expr:=nM BA 254 8 10
def kP:Stmt:=(YR.drop 1).headD Au
def yc:Expr:=el (vE kP) 0
def yd:Expr:=el (vE kP) 1
section
variable(B:Bx)(A:AL)(O:B.C.Ok)
noncomputable def S9(U:AA 3 A)(a b t u:Nat)(hb:0<b):Ag B.C A where
 c:=.call (.builtin "int.__mod__") ⟨[.int (a:Int) t,.int (b:Int) u],[]⟩
 F:=[]
 X:=Nat
 res:=λk=>.ok (.ret (.int ((a % b:Nat):Int) k))
 led:=λYa=>[]
 ok:=by
  have h:=Hg (C:=B.C) (A:=A) F.slot_int_mod F.entry_int_mod (F.args_int_mod_2 (.int (a:Int) t) (.int (b:Int) u)) (IA (a:Int) t (b:Int) u (by rw[beq_iff_eq];lia)) (λs=>rfl)
  rw[show(a:Int).fmod (b:Int)=((a % b:Nat):Int) from by rw[Int.fmod_eq_emod_of_nonneg _ ADp];rfl] at h
  exact h
end
abbrev IB(w o:Nat)(t:BC):BC:=(CJ,J w)::(QT,J o)::t
include O
theorem kQ(U:AA 6 A)(L w o j k:Nat):
 AS B A (Bo uA (AR B.P 317 [] (L+323)) (.int (j:Int) k)) [AI L (IB w o [])] () [AI L (IB w o [(BA,.int (j:Int) k)])]:=
 Ef O U (.fr λk0=>.g 6145<|.fi () [0])
theorem kR(U:AA 6 A)(L w o j k i m y:Nat):
 AS B A (Bo uA (AR B.P 317 [] (L+323)) (.int (j:Int) k)) [AI L (IB w o [(BA,.int (i:Int) m),(DM,J y)])] () [AI L (IB w o [(BA,.int (j:Int) k),(DM,J y)])]:=
 Ef O U (.fr λk0=>.g 6145<|.fi () [0])
theorem qZ(U:AA 10 A)(L w o j k y:Nat)(ws:Ak)(hl:ws.length<=1000)(h0:0<ws.length)(hy:ws[(j+1) % ws.length]? =some (J y)):
 AS B A (Ac (YR.take 1) (AR B.P 317 [] (L+323))) [AI L (IB w o [(BA,.int (j:Int) k)]),AE w ws] .next [AI L (IB w o [(BA,.int (j:Int) k),(DM,J y)]),AE w ws]:=Ix O U (.g 4161<|.fr λk0=>.cc (F_ _ _ O U.l j k k0) [] λy1=>.g 266240<|.cc (IL O U.l w ws hl) [1] λ(y2:Nat×Nat)=>.cc (S9 _ _ U.l (j+1) ws.length y1 y2.snd h0) [] λy3=>.g 266305<|.cc (BZ O U.l w ((j+1) % ws.length) y3 ws (J y) hy hl) [0] λYa=>.fr λk5=>.g 6210<|.fi () [1,0])
theorem qa(U:AA 10 A)(L w o j k y y':Nat)(ws:Ak)(hl:ws.length<=1000)(h0:0<ws.length)(hy:ws[(j+1) % ws.length]? =some (J y)):
 AS B A (Ac (YR.take 1) (AR B.P 317 [] (L+323))) [AI L (IB w o [(BA,.int (j:Int) k),(DM,J y')]),AE w ws] .next [AI L (IB w o [(BA,.int (j:Int) k),(DM,J y)]),AE w ws]:=Ix O U (.g 4161<|.fr λk0=>.cc (F_ _ _ O U.l j k k0) [] λy1=>.g 266240<|.cc (IL O U.l w ws hl) [1] λ(y2:Nat×Nat)=>.cc (S9 _ _ U.l (j+1) ws.length y1 y2.snd h0) [] λy3=>.g 266305<|.cc (BZ O U.l w ((j+1) % ws.length) y3 ws (J y) hy hl) [0] λYa=>.fr λk5=>.g 6210<|.fi () [1,0])
theorem yf(U:AA 30 A)(L L2 w o j k x y:Nat)(a2:BC)(os:Ak)(xs ys:Aa)(hK:C8 A [L,L2])(hl:os.length<=1000)(hx:os[j]? =some (J x))(h1:xs.length<=500)(h2:ys.length<=500):
 AC B.C A (Bf yc (AR B.P 317 [] (L+323))) [AI L (IB w o [(BA,.int (j:Int) k),(DM,J y)]),AE o os,AF x xs,AF y ys,AI L2 a2]
  (λz:Mj (E9 (ns xs) (ns ys))=>J z.t)
  (λz=>[AV z.t [J z.m,J z.u],AF z.m z.ms,AF z.u z.us,AI L (IB w o [(BA,.int (j:Int) k),(DM,J y)]),AE o os,AF x xs,AF y ys,AI L2 a2]):=Jk O U (.g 70901043264<|.cc (BZ O U.l o j k os (J x) hx hl) [1] λYa=>.g 4098<|.cc (Vd _ _ O U.l x y L L2 [(⟨⟨[119,97,121,115]⟩⟩,J w),(⟨⟨[110,97,109,101,100]⟩⟩,J o),(⟨⟨[97,116]⟩⟩,.int (↑j) k),(⟨⟨[111,116,104,101,114]⟩⟩,J y)] a2 xs ys hK h1 h2) [2,2,1,1] λy1=>.fi (y1) [0,0,0,2,3,0,0,0])
theorem yg(U:AA 30 A)(L w o j k x y:Nat)(os:Ak)(xs ys:Aa)(hl:os.length<=1000)(hx:os[j]? =some (J x))(h1:xs.length<=1000)(h2:ys.length<=1000)(h3:xs.length≠0)(h4:ys.length≠0):
 AC B.C A (Bf yd (AR B.P 317 [] (L+323))) [AI L (IB w o [(BA,.int (j:Int) k),(DM,J y)]),AE o os,AF x xs,AF y ys]
  (λq:Gk (D3 (ns xs) (ns ys))×Gk (D3 (ns ys) (ns xs))×Nat=>J q.2.2)
  (λq=>[AV q.2.2 [J q.1.a,J q.2.1.a],AF q.1.a q.1.ys,AF q.2.1.a q.2.1.ys,AI L (IB w o [(BA,.int (j:Int) k),(DM,J y)]),AE o os,AF x xs,AF y ys]):=Jk O U (.g 70901043264<|.cc (BZ O U.l o j k os (J x) hx hl) [1] λYa=>.g 4098<|.cc (S_ O U.l x y xs ys h1 h3) [2,2] λy1=>.g 4677287825728<|.cc (BZ O U.l o j k os (J x) hx hl) [3] λYa=>.g 64<|.cc (S_ O U.l y x ys xs h2 h4) [3,2] λy3=>.al λa4=>.fi (y1,y3,a4) [0,4,0,3,2,1,0])
theorem kS(U:AA 36 A){L L2 w o j k x y:Nat}{a2:BC}{ws os:Ak}{xs ys:Aa}{al:BC}(Zg:al=[]∨ ∃y',al=[(DM,J y')])(hK:C8 A [L,L2])(zN:ws.length<=1000)(h0:0<ws.length)(vB:os.length<=1000)
 (hy:ws[(j+1) % ws.length]? =some (J y)) (hx:os[j]? =some (J x)) (h1:xs.length<=500) (h2:ys.length<=500) (h3:xs.length≠0) (h4:ys.length≠0) (hp:E9 (ns xs) (ns ys)=(D3 (ns xs) (ns ys),D3 (ns ys) (ns xs))):
 AC B.C A (Ac YR (AR B.P 317 [] (L+323))) [AI L (IB w o ((BA,.int (j:Int) k)::al)),AE w ws,AE o os,AI L2 a2,AF x xs,AF y ys] (λYa:Unit=>.next)
  (λYa=>[AI L (IB w o [(BA,.int (j:Int) k),(DM,J y)]),AE w ws,AE o os,AI L2 a2,AF x xs,AF y ys]):=by
 have e1:AC B.C A (Ac (YR.take 1) (AR B.P 317 [] (L+323))) [AI L (IB w o ((BA,.int (j:Int) k)::al)),AE w ws] (λYa:Unit=>.next) (λYa=>[AI L (IB w o [(BA,.int (j:Int) k),(DM,J y)]),AE w ws]):=by
  rcases Zg with rfl|⟨y',rfl⟩
  ·exact qZ O U.l L w o j k y ws zN h0 hy
  ·exact qa O U.l L w o j k y y' ws zN h0 hy
 show AC B.C A (Ac (YR.take 1++[kP]) _) _ _ _;refine AC.seq (l1:=YR.take 1) (e1.frame [AE o os,AI L2 a2,AF x xs,AF y ys]) λYa=>?_;refine AC.one ?_;show AC B.C A (Qf (.If (.Compare yc [.NotEq] [yd] _) _ [] _) _) _ _ _;refine AC.MM (b:=false) (AC.Fh ((((yf O U.l L L2 w o j k x y a2 os xs ys hK vB hx h1 h2).frame [AE w ws]).ix [0,1,2,2,1,0] rfl))
  (λz=>(((yg O U.l L w o j k x y os xs ys vB hx (AK h1 ADs) (AK h2 ADs) h3 h4).frame [AV z.t [J z.m,J z.u],AF z.m z.ms,AF z.u z.us,AE w ws,AI L2 a2]).ix [3,3,3,3,0,0,0,1,0] rfl))
  (λz q=>Jm (d:=.tuple ([D3 (ns xs) (ns ys),D3 (ns ys) (ns xs)].map Je)) (AA.Ow (n:=20) U.l) (SU _).1 (SU _).2 λR s S=>⟨?_,?_⟩) rfl) λp=>(AC.nil.ox [3,9,3,8,3,3] λYa=>rfl)
 ·refine S.tuple (a:=z.t+323) (vs:=[J z.m,J z.u]) (IM 7 rfl) (.cons ?_ (.cons ?_ .nil))
  ·exact S.Zl (z.i6.trans (by rw[hp])) (IM 8 rfl)
  ·exact S.Zl (z.Xh.trans (by rw[hp])) (IM 9 rfl)
 ·refine S.tuple (a:=q.2.2+323) (vs:=[J q.1.a,J q.2.1.a]) (IM 0 rfl) (.cons ?_ (.cons ?_ .nil))
  ·exact S.Zl q.1.ok (IM 1 rfl)
  ·exact S.Zl q.2.1.ok (IM 2 rfl)
structure VJ(es fs:List IE):Prop where
 len:fs.length=es.length
 n0:0<es.length
 n1:es.length<=100
 be: ∀e∈es,e.ys.length<=500/\e.ys.length≠0
 bf: ∀e∈fs,e.ys.length<=500/\e.ys.length≠0
 eq: ∀j e f,fs[j]? =some f->es[(j+1) % es.length]? =some e->E9 (ns f.ys) (ns e.ys)=(D3 (ns f.ys) (ns e.ys),D3 (ns e.ys) (ns f.ys))
abbrev qY(L L2 w o:Nat)(a2:BC)(es fs:List IE)(al:BC):AN:=[AI L (IB w o al),AE w (es.map IE.v),AE o (fs.map IE.v),AI L2 a2]++[BU fs,BU es]
abbrev ye:Option (Nat×Nat×Nat)->BC
 |none=>[]
 |some (i,m,y)=>[(BA,.int (i:Int) m),(DM,J y)]
abbrev bsH(j k:Nat):Option (Nat×Nat×Nat)->BC
 |none=>[(BA,.int (j:Int) k)]
 |some (i,m,y)=>[(BA,.int (j:Int) k),(DM,J y)]
def Yj(U:AA 40 A)(L L2 w o a n:Nat)(a2:BC)(es fs:List IE)(hK:C8 A [L,L2])(hn:(es.map IE.v).length=n)(h:VJ es fs):Ag B.C A where
 c:=.forLoop uA (J a) YR [] (AR B.P 317 [] (L+323))
 F:=Fj a ((0:Nat):Int) (n:Int) 1::qY L L2 w o a2 es fs []
 X:=Option (Nat×Nat×Nat)
 res:=λYa=>.ok .next
 led:=λσ=>qY L L2 w o a2 es fs (ye σ)
 ok:=by
  have hl:(es.map IE.v).length=es.length:=AD _;have Mr:(fs.map IE.v).length=fs.length:=AD _
  have:=h.len
  have:=h.n0
  have:=h.n1
  refine AT.call (TS (N:=39) (S:=Option (Nat×Nat×Nat)) (G:=λσ=>qY L L2 w o a2 es fs (ye σ)) (H:=λj k σ=>qY L L2 w o a2 es fs (bsH j k σ)) O (Fv _ _) U (n:=n) (λA' eA B8 j hj k σ=>⟨?_,?_⟩) n 0 none (Nat.add_comm _ _))
  ·rcases σ with _|⟨i,m,y⟩
   ·have e:=kQ O (B8.le (Fv _ _:6<=39)) L w o j k
    exact e.frame [AE w (es.map IE.v),AE o (fs.map IE.v),AI L2 a2,BU fs,BU es]
   ·have e:=kR O (B8.le (Fv _ _:6<=39)) L w o j k i m y
    exact e.frame [AE w (es.map IE.v),AE o (fs.map IE.v),AI L2 a2,BU fs,BU es]
  ·have zK:(j+1) % es.length<es.length:=Nat.mod_lt _ h.n0
   have mT:j<fs.length:=by lia
   have hy:es[(j+1) % es.length]? =some es[(j+1) % es.length]:=AJ zK;have hx:fs[j]? =some fs[j]:=AJ mT;obtain⟨b1,b2⟩:=h.be _ (Cn zK);obtain⟨c1,c2⟩:=h.bf _ (Cn mT);have U4:C8 A' [L,L2]:=by subst eA;exact hK
   have ml:(es.map IE.v)[(j+1) %(es.map IE.v).length]? =some (.ref (es[(j+1) % es.length].a+323)):=by rw[hl,AQ,hy];rfl
   have Q0:(fs.map IE.v)[j]? =some (.ref (fs[j].a+323)):=by rw[AQ,hx];rfl
   have g:=λal Zg=>(kS O (B8.le (Fv _ _:36<=39)) (L:=L) (L2:=L2) (w:=w) (o:=o) (j:=j) (k:=k) (a2:=a2) (al:=al) Zg U4 ADp ADp ADp ml Q0 c1 b1 c2 b2 (h.eq j _ _ hx hy)).nj (P:=[_,_,_,_]) (Q:=λYa=>[_,_,_,_]) hx hy
   rcases σ with _|⟨i,m,y⟩
   ·exact(g [] (.inl rfl)).weaken λYa=>⟨some (j,k,_),rfl,λR s S=>S⟩
   ·exact(g _ (.inr ⟨y,rfl⟩)).weaken λYa=>⟨some (j,k,_),rfl,λR s S=>S⟩
theorem WZ(U:AA 44 A)(L L2 w o:Nat)(a2:BC)(es fs:List IE)(hK:C8 A [L,L2])(h:VJ es fs)(hl:(es.map IE.v).length<=1000):
 AS B A (Ac (A4 B.P 317) (AR B.P 317 [] (L+323))) ((AI L (IB w o [])::AE w (es.map IE.v)::AE o (fs.map IE.v)::AI L2 a2::[BU fs,BU es])) (.ret (.bool true)) (((AE w (es.map IE.v)::AE o (fs.map IE.v)::AI L2 a2::[BU fs,BU es]))):=by
 obtain⟨_,_|_⟩:=B<;>exact D7 O U (.g 1090519040<|.cc (IL O U.l w (B0 IE.v es) hl) [1] λ(y0:Nat×Nat)=>.cc (KE O U.l ((B0 IE.v es).length) y0.snd) [] λ(y1:Nat×Nat×Nat)=>.g 4161<|.cc (NH O U.l y1.fst ((B0 IE.v es).length) y1.snd.fst y0.snd y1.snd.snd hl) [0] λ(y2:Nat)=>.g 65<|.cc (Yj O U.l L L2 w o y2 ((B0 IE.v es).length) a2 es fs hK (by first|rfl|lia|assumption) h) [0,2,1,1,1,1,1] λYa=>.fi () [1,1,1,1,1])
def Yi(U:AA 46 A)(w o L2:Nat)(a2:BC)(es fs:List IE)(hK:C8 A [L2])(h:VJ es fs):Ag B.C A where
 c:=.call (.ref 317) ⟨[J w,J o],[]⟩
 F:=[AE w (es.map IE.v),AE o (fs.map IE.v),AI L2 a2,BU fs,BU es]
 X:=Unit
 res:=λYa=>.ok (.ret (.bool true))
 led:=λYa=>[AE w (es.map IE.v),AE o (fs.map IE.v),AI L2 a2,BU fs,BU es]
 ok:=EU O U [(CJ,J w),(QT,J o)]
  (λL=>BK (fl:=λYa:Unit=>.ret (.bool true)) (by
   refine WZ O (AA.deeper U.l) L L2 w o a2 es fs (hK.deeper rfl ?_) h (by rw[AD];have:=h.n1;exact AK this ADs)
   show(D4 B.P 317).scope.kind≠.module;exact(by kernel_rfl:(D4 B.P 317).scope.kind=.function)▸ADs))
def prB:Dx:=nB (sN 27 0)
def r_:Expr:=nM Ca 246 8 11
def PR:Dx:=nB (hS (nB (sN 27 0)) 0)
def tm:Expr:=nM Dr 247 12 15
def Dz:Expr:=o4 (vE (hS (nB (hS (nB (sN 27 0)) 0)) 0))
def E7:Expr:=el (vE (hS (nB (hS (nB (sN 27 0)) 0)) 1)) 0
def E8:Expr:=el (vE (hS (nB (hS (nB (sN 27 0)) 0)) 1)) 1
def prQ:Str:=Bl [95,108,97,119,95,112,97,105,114,115,46,60,108,111,99,97,108,115,62,46]
abbrev Cz(e:Expr)(cl:List (Str×Addr))(L D:Nat):Env:=FM (qb e) prQ 309 cl L D
theorem V0(U:AA 6 A)(c1 c2 L D j k:Nat):
 AS B A (Bo (Cp Dz) (Cz Dz [(Dr,c1+323)] L D) (.int (j:Int) k)) [As D []] () [As D [(BD,.int (j:Int) k)]]:=
 Ef O U (.fr λk0=>.g 6145<|.fi () [0])
theorem V1(U:AA 6 A)(c1 c2 L D j k i m:Nat):
 AS B A (Bo (Cp Dz) (Cz Dz [(Dr,c1+323)] L D) (.int (j:Int) k)) [As D [(BD,.int (i:Int) m)]] () [As D [(BD,.int (j:Int) k)]]:=
 Ef O U (.fr λk0=>.g 6145<|.fi () [0])
theorem oK(U:AA 6 A)(c1 c2 L D v k:Nat):
 AS B A (Bf (DL Dz) (Cz Dz [(Dr,c1+323)] L D)) [As D [(BD,.int (v:Int) k)]] (Be (v:Int) k) [As D [(BD,.int (v:Int) k)]]:=
 H_ O U (.g 65<|.fi () [0])
theorem i_(U:AA 6 A)(c1 c2 L D j k:Nat):
 AS B A (Bo (Cp E7) (Cz E7 [(DX,c2+323)] L D) (.int (j:Int) k)) [As D []] () [As D [(BD,.int (j:Int) k)]]:=
 Ef O U (.fr λk0=>.g 6145<|.fi () [0])
theorem jA(U:AA 6 A)(c1 c2 L D j k i m:Nat):
 AS B A (Bo (Cp E7) (Cz E7 [(DX,c2+323)] L D) (.int (j:Int) k)) [As D [(BD,.int (i:Int) m)]] () [As D [(BD,.int (j:Int) k)]]:=
 Ef O U (.fr λk0=>.g 6145<|.fi () [0])
theorem oL(U:AA 6 A)(c1 c2 L D v k:Nat):
 AS B A (Bf (DL E7) (Cz E7 [(DX,c2+323)] L D)) [As D [(BD,.int (v:Int) k)]] (Be (v:Int) k) [As D [(BD,.int (v:Int) k)]]:=
 H_ O U (.g 65<|.fi () [0])
theorem jD(U:AA 6 A)(c1 c2 L D j k:Nat):
 AS B A (Bo (Cp E8) (Cz E8 [(DX,c2+323)] L D) (.int (j:Int) k)) [As D []] () [As D [(BD,.int (j:Int) k)]]:=
 Ef O U (.fr λk0=>.g 6145<|.fi () [0])
theorem jE(U:AA 6 A)(c1 c2 L D j k i m:Nat):
 AS B A (Bo (Cp E8) (Cz E8 [(DX,c2+323)] L D) (.int (j:Int) k)) [As D [(BD,.int (i:Int) m)]] () [As D [(BD,.int (j:Int) k)]]:=
 Ef O U (.fr λk0=>.g 6145<|.fi () [0])
theorem oM(U:AA 6 A)(c1 c2 L D v k:Nat):
 AS B A (Bf (DL E8) (Cz E8 [(DX,c2+323)] L D)) [As D [(BD,.int (v:Int) k)]] (Be (v:Int) k) [As D [(BD,.int (v:Int) k)]]:=
 H_ O U (.g 65<|.fi () [0])
theorem xM(U:AA 6 A)(c1 c2 L D m t v k:Nat)(h1: ¬((v:Int)<(m:Int))):
 AS B A (isTrue (C9 E7) (Cz E7 [(DX,c2+323)] L D) (Bf (C9 E7) (Cz E7 [(DX,c2+323)] L D))) [As D [(BD,.int (v:Int) k)],AW c2 (.int (m:Int) t)] false [As D [(BD,.int (v:Int) k)],AW c2 (.int (m:Int) t)]:=by
 obtain⟨_,_|_⟩:=B<;>exact Q7 O U (.g 4225<|.cc (II _ _ O U.l ↑v ↑m k t h1) [] λYa=>.fi () [0,0])
theorem xN(U:AA 6 A)(c1 c2 L D m t v k:Nat)(h1:(v:Int)<(m:Int)):
 AS B A (isTrue (C9 E7) (Cz E7 [(DX,c2+323)] L D) (Bf (C9 E7) (Cz E7 [(DX,c2+323)] L D))) [As D [(BD,.int (v:Int) k)],AW c2 (.int (m:Int) t)] true [As D [(BD,.int (v:Int) k)],AW c2 (.int (m:Int) t)]:=by
 obtain⟨_,_|_⟩:=B<;>exact Q7 O U (.g 4225<|.cc (IJ _ _ O U.l ↑v ↑m k t h1) [] λYa=>.fi () [0,0])
theorem xO(U:AA 6 A)(c1 c2 L D m t v k:Nat)(h1: ¬((v:Int)<(m:Int))):
 AS B A (isTrue (C9 E8) (Cz E8 [(DX,c2+323)] L D) (Bf (C9 E8) (Cz E8 [(DX,c2+323)] L D))) [As D [(BD,.int (v:Int) k)],AW c2 (.int (m:Int) t)] false [As D [(BD,.int (v:Int) k)],AW c2 (.int (m:Int) t)]:=by
 obtain⟨_,_|_⟩:=B<;>exact Q7 O U (.g 4225<|.cc (II _ _ O U.l ↑v ↑m k t h1) [] λYa=>.fi () [0,0])
theorem xP(U:AA 6 A)(c1 c2 L D m t v k:Nat)(h1:(v:Int)<(m:Int)):
 AS B A (isTrue (C9 E8) (Cz E8 [(DX,c2+323)] L D) (Bf (C9 E8) (Cz E8 [(DX,c2+323)] L D))) [As D [(BD,.int (v:Int) k)],AW c2 (.int (m:Int) t)] true [As D [(BD,.int (v:Int) k)],AW c2 (.int (m:Int) t)]:=by
 obtain⟨_,_|_⟩:=B<;>exact Q7 O U (.g 4225<|.cc (IJ _ _ O U.l ↑v ↑m k t h1) [] λYa=>.fi () [0,0])
theorem xK(U:AA 6 A)(c1 c2 L D y v k:Nat)(ys:Aa)(h1:v∉ns ys):
 AS B A (isTrue (C9 Dz) (Cz Dz [(Dr,c1+323)] L D) (Bf (C9 Dz) (Cz Dz [(Dr,c1+323)] L D))) [As D [(BD,.int (v:Int) k)],AW c1 (J y),AF y ys] false [As D [(BD,.int (v:Int) k)],AW c1 (J y),AF y ys]:=Xl O U (.g 17576065<|.cc (NE _ _ U.l y v k ys h1) [2] λYa=>.fi () [1,1,0])
theorem xL(U:AA 6 A)(c1 c2 L D y v k:Nat)(ys:Aa)(h1:v∈ns ys):
 AS B A (isTrue (C9 Dz) (Cz Dz [(Dr,c1+323)] L D) (Bf (C9 Dz) (Cz Dz [(Dr,c1+323)] L D))) [As D [(BD,.int (v:Int) k)],AW c1 (J y),AF y ys] true [As D [(BD,.int (v:Int) k)],AW c1 (J y),AF y ys]:=Xl O U (.g 17576065<|.cc (Pt _ _ U.l y v k ys h1) [2] λYa=>.fi () [1,1,0])
noncomputable def Jf(l:Ay)(p:Nat->Bool)(j:Nat):Ay:=match l[j]? with
 |none=>[]
 |some v=>if p v then [v] else []
omit O
theorem WM(l:Ay)(p:Nat->Bool): ∀j,Hp (Jf l p) j=(l.take j).filter p
 |0=>by simp[Hp]
 |j+1=>by
  rw[FJ,WM l p j,FF,PZ]
  congr 1
  unfold Jf;cases l[j]? with
  |none=>rfl
  |some v=>by_cases h:p v<;>simp[h]
theorem No(l:Ay)(p:Nat->Bool):Hp (Jf l p) l.length=l.filter p:=by rw[WM,Gc]
theorem NO(l:Ay)(p:Nat->Bool)(j:Nat):(Jf l p j).length<=1:=by unfold Jf;split<;>(try split)<;>simp
theorem K3{l:Ay}{p:Nat->Bool}{j:Nat}(h:l.length<=j):Jf l p j=[]:=by unfold Jf;rw[B7 h]
theorem Nm{C:Cx}{A:AL}{cond elt:Expr}{env:Env}{F:AN}{xs:Aa}{p:Nat->Bool}{j v k:Nat}(hx:xs[j]? =some (v,k))(hc:AC C A (isTrue cond env (Bf cond env)) F (λYa:Unit=>p v) (λYa=>F))
 (he:AC C A (Bf elt env) F (λYa:Unit=>Be (v:Int) k) (λYa=>F)):Se C A [cond] elt env F (Jf (ns xs) p j):=by
 have e:Jf (ns xs) p j=if p v then [v] else []:=by
  unfold Jf;rw[show(ns xs)[j]? =some v from by unfold ns;rw[AQ,hx];rfl]
 by_cases h:p v=true
 ·rw[h] at hc
  exact .inl ⟨v,by rw[e,if_pos h],Jd hc,he.weaken λYa=>⟨k,rfl,λR s S=>S⟩⟩
 ·have h':p v=false:=by cases hp:p v with|true=>exact absurd hp h|false=>rfl
  rw[h'] at hc;exact .inr ⟨by rw[e,if_neg h],Jd hc⟩
abbrev GC(xs:Aa):Nat:=(xs.headD (0,0)).1
abbrev Ho(xs:Aa):Nat:=(xs.headD (0,0)).2
structure JX(m:Nat) where
 ys:Aa
 hd:GC ys=m
 n0:ys≠[]
 le:ys.length<=900
 k:Nat
 t:Nat
theorem oI{l:Ay}{m:Nat}(h:l.head?=some m){ys:Aa}(ok:ns ys=l):GC ys=m/\ys≠[]:=by
 subst ok;cases ys with
 |nil=>cases h
 |cons a r=>cases h;exact⟨rfl,by simp⟩
section
variable(B:Bx)(A:AL)(O:B.C.Ok)
def MD(U:AA 3 A)(x t:Nat)(xs:Aa)(h0:xs≠[])(h:xs.length<=900):Ag B.C A:=
 (Ci B A O U x 0 t (GC xs) (Ho xs) xs (by cases xs with|nil=>exact absurd rfl h0|cons a r=>rfl) ADp).re (λYa:Unit=>.ok (.ret (.int ((GC xs:Nat):Int) (Ho xs)))) (λYa=>[AF x xs]) (λa=>a) (λYa=>rfl) (λYa=>rfl)
theorem V2{B:Bx}(O:B.C.Ok){A:AL}(U:AA 6 A)(c1 c2 L D y v k:Nat)(ys:Aa):
 AC B.C A (isTrue (C9 Dz) (Cz Dz [(Dr,c1+323)] L D) (Bf (C9 Dz) (Cz Dz [(Dr,c1+323)] L D))) [As D [(BD,.int (v:Int) k)],AW c1 (J y),AF y ys] (λYa:Unit=>decide (v∈ns ys)) (λYa=>[As D [(BD,.int (v:Int) k)],AW c1 (J y),AF y ys]):=by
 by_cases h:v∈ns ys
 ·rw[decide_eq_true h]
  have e:=xL O U c1 c2 L D y v k ys h;exact e
 ·rw[decide_eq_false h]
  exact xK O U c1 c2 L D y v k ys h
theorem V3{B:Bx}(O:B.C.Ok){A:AL}(U:AA 6 A)(c1 c2 L D v k:Nat)(F:AN):AC B.C A (Bf (DL Dz) (Cz Dz [(Dr,c1+323)] L D)) (As D [(BD,.int (v:Int) k)]::F) (λYa:Unit=>Be (v:Int) k) (λYa=>As D [(BD,.int (v:Int) k)]::F):=by
 exact(oK O U c1 c2 L D v k).frame F
def Yy(U:AA 7 A)(L D c1 a acc x y m:Nat)(xs ys:Aa)(hl:xs.length<=900)(hm:((ns xs).filter λv=>decide (v∈ns ys)).head?=some m):Ag B.C A where
 c:=.compStart Dz 0 (J a) (J acc) (Cz Dz [(Dr,c1+323)] L D)
 F:=[As D [],AE acc [],BQ a x 0,AF x xs,AW c1 (J y),AF y ys]
 X:=JX m
 res:=λYa=>.ok .next
 led:=λq=>[As D [(BD,.int (q.k:Int) q.t)],AF acc q.ys,AF x xs,AW c1 (J y),AF y ys]
 ok:=by
  have hlen:(ns xs).length=xs.length:=AD _;have h0:xs≠[]:=λe=>by subst e;cases hm
  have h:=Io (B:=B) (A:=A) (elt:=DL Dz) (ifs:=[C9 Dz]) (iter:=Hf Dz) (x0:=BD) (p0:=(Cp Dz).pos) (sc:=Gh Dz) (pos:=Dz.pos) (env:=Cz Dz [(Dr,c1+323)] L D) (D:=D) (acc:=acc) (a:=a) (c:=x) (G:=[AW c1 (J y),AF y ys]) (xs:=xs) (f:=Jf (ns xs) λv=>decide (v∈ns ys)) O U
   (NO _ _) (λj hj=>K3 ADp) ADp h0
   (λA' h j k l hl=>by
    rcases hl with rfl|⟨i,m,rfl⟩
    ·exact V0 O h c1 0 L D j k
    ·exact V1 O h c1 0 L D j k i m)
   (λA' h j v k hx=>Nm hx (((V2 O h c1 0 L D y v k ys).frame [AF x xs]).pre (pk [0,1,1,0] rfl)|>.ox [0,2,0,0] λYa=>rfl) (V3 O h c1 0 L D v k _))
  rw[<-hlen,No] at h;refine AC.weaken h λy=>?_;have hy:y.ys.length<=900:=by
   have:=congrArg C7 y.ok
   have h2:=M0 (λv=>decide (v∈ns ys)) (ns xs);unfold ns at this h2 hlen;rw[AD] at this
   lia
  obtain⟨e1,e2⟩:=oI hm y.ok;exact⟨⟨y.ys,e1,e2,hy,y.k,y.t⟩,rfl,λR s S=>S⟩
def Vc(U:AA 7 A)(L D c1 a acc x m:Nat)(xs:Aa)(hl:xs.length<=900)(hm:((ns xs).filter λv=>decide (v∈ns xs)).head?=some m):Ag B.C A where
 c:=.compStart Dz 0 (J a) (J acc) (Cz Dz [(Dr,c1+323)] L D)
 F:=[As D [],AE acc [],BQ a x 0,AF x xs,AW c1 (J x)]
 X:=JX m
 res:=λYa=>.ok .next
 led:=λq=>[As D [(BD,.int (q.k:Int) q.t)],AF acc q.ys,AF x xs,AW c1 (J x)]
 ok:=by
  have hlen:(ns xs).length=xs.length:=AD _;have h0:xs≠[]:=λe=>by subst e;cases hm
  have h:=Io (B:=B) (A:=A) (elt:=DL Dz) (ifs:=[C9 Dz]) (iter:=Hf Dz) (x0:=BD) (p0:=(Cp Dz).pos) (sc:=Gh Dz) (pos:=Dz.pos) (env:=Cz Dz [(Dr,c1+323)] L D) (D:=D) (acc:=acc) (a:=a) (c:=x) (G:=[AW c1 (J x)]) (xs:=xs) (f:=Jf (ns xs) λv=>decide (v∈ns xs)) O U
   (NO _ _) (λj hj=>K3 ADp) ADp h0
   (λA' h j k l hl=>by
    rcases hl with rfl|⟨i,m,rfl⟩
    ·exact V0 O h c1 0 L D j k
    ·exact V1 O h c1 0 L D j k i m)
   (λA' h j v k hx=>Nm hx ((V2 O h c1 0 L D x v k xs).pre (pk [0,1,0] rfl)|>.ox [0,1,0] λYa=>rfl) (V3 O h c1 0 L D v k _))
  rw[<-hlen,No] at h;refine AC.weaken h λy=>?_;have hy:y.ys.length<=900:=by
   have:=congrArg C7 y.ok
   have h2:=M0 (λv=>decide (v∈ns xs)) (ns xs);unfold ns at this h2 hlen;rw[AD] at this
   lia
  obtain⟨e1,e2⟩:=oI hm y.ok;exact⟨⟨y.ys,e1,e2,hy,y.k,y.t⟩,rfl,λR s S=>S⟩
theorem jB{B:Bx}(O:B.C.Ok){A:AL}(U:AA 6 A)(c1 c2 L D m t v k:Nat):
 AC B.C A (isTrue (C9 E7) (Cz E7 [(DX,c2+323)] L D) (Bf (C9 E7) (Cz E7 [(DX,c2+323)] L D))) [As D [(BD,.int (v:Int) k)],AW c2 (.int (m:Int) t)] (λYa:Unit=>decide (v<m)) (λYa=>[As D [(BD,.int (v:Int) k)],AW c2 (.int (m:Int) t)]):=by
 by_cases h:v<m
 ·rw[decide_eq_true h]
  have e:=xN O U c1 c2 L D m t v k ADp
  exact e
 ·rw[decide_eq_false h]
  exact xM O U c1 c2 L D m t v k ADp
theorem jC{B:Bx}(O:B.C.Ok){A:AL}(U:AA 6 A)(c1 c2 L D v k:Nat)(F:AN):AC B.C A (Bf (DL E7) (Cz E7 [(DX,c2+323)] L D)) (As D [(BD,.int (v:Int) k)]::F) (λYa:Unit=>Be (v:Int) k) (λYa=>As D [(BD,.int (v:Int) k)]::F):=by
 exact(oL O U c1 c2 L D v k).frame F
def Pu(U:AA 7 A)(L D c2 a acc x m t:Nat)(xs:Aa)(hl:xs.length<=900)(h0:xs≠[]):Ag B.C A where
 c:=.compStart E7 0 (J a) (J acc) (Cz E7 [(DX,c2+323)] L D)
 F:=[As D [],AE acc [],BQ a x 0,AF x xs,AW c2 (.int (m:Int) t)]
 X:=Qk ((ns xs).filter λv=>decide (v<m))
 res:=λYa=>.ok .next
 led:=λq=>[As D [(BD,.int (q.k:Int) q.t)],AF acc q.ys,AF x xs,AW c2 (.int (m:Int) t)]
 ok:=by
  have hlen:(ns xs).length=xs.length:=AD _;have h:=Io (B:=B) (A:=A) (elt:=DL E7) (ifs:=[C9 E7]) (iter:=Hf E7) (x0:=BD) (p0:=(Cp E7).pos) (sc:=Gh E7) (pos:=E7.pos) (env:=Cz E7 [(DX,c2+323)] L D) (D:=D) (acc:=acc) (a:=a) (c:=x) (G:=[AW c2 (.int (m:Int) t)]) (xs:=xs) (f:=Jf (ns xs) λv=>decide (v<m)) O U
   (NO _ _) (λj hj=>K3 ADp) ADp h0
   (λA' h j k l hl=>by
    rcases hl with rfl|⟨i,m,rfl⟩
    ·exact i_ O h 0 c2 L D j k
    ·exact jA O h 0 c2 L D j k i m)
   (λA' h j v k hx=>Nm hx (((jB O h 0 c2 L D m t v k).frame [AF x xs]).pre (pk [0,1,0] rfl)|>.ox [0,1,0] λYa=>rfl) (jC O h 0 c2 L D v k _))
  rw[<-hlen,No] at h;exact h
theorem jF{B:Bx}(O:B.C.Ok){A:AL}(U:AA 6 A)(c1 c2 L D m t v k:Nat):
 AC B.C A (isTrue (C9 E8) (Cz E8 [(DX,c2+323)] L D) (Bf (C9 E8) (Cz E8 [(DX,c2+323)] L D))) [As D [(BD,.int (v:Int) k)],AW c2 (.int (m:Int) t)] (λYa:Unit=>decide (v<m)) (λYa=>[As D [(BD,.int (v:Int) k)],AW c2 (.int (m:Int) t)]):=by
 by_cases h:v<m
 ·rw[decide_eq_true h]
  have e:=xP O U c1 c2 L D m t v k ADp
  exact e
 ·rw[decide_eq_false h]
  exact xO O U c1 c2 L D m t v k ADp
theorem jG{B:Bx}(O:B.C.Ok){A:AL}(U:AA 6 A)(c1 c2 L D v k:Nat)(F:AN):AC B.C A (Bf (DL E8) (Cz E8 [(DX,c2+323)] L D)) (As D [(BD,.int (v:Int) k)]::F) (λYa:Unit=>Be (v:Int) k) (λYa=>As D [(BD,.int (v:Int) k)]::F):=by
 exact(oM O U c1 c2 L D v k).frame F
def Pw(U:AA 7 A)(L D c2 a acc x m t:Nat)(xs:Aa)(hl:xs.length<=900)(h0:xs≠[]):Ag B.C A where
 c:=.compStart E8 0 (J a) (J acc) (Cz E8 [(DX,c2+323)] L D)
 F:=[As D [],AE acc [],BQ a x 0,AF x xs,AW c2 (.int (m:Int) t)]
 X:=Qk ((ns xs).filter λv=>decide (v<m))
 res:=λYa=>.ok .next
 led:=λq=>[As D [(BD,.int (q.k:Int) q.t)],AF acc q.ys,AF x xs,AW c2 (.int (m:Int) t)]
 ok:=by
  have hlen:(ns xs).length=xs.length:=AD _;have h:=Io (B:=B) (A:=A) (elt:=DL E8) (ifs:=[C9 E8]) (iter:=Hf E8) (x0:=BD) (p0:=(Cp E8).pos) (sc:=Gh E8) (pos:=E8.pos) (env:=Cz E8 [(DX,c2+323)] L D) (D:=D) (acc:=acc) (a:=a) (c:=x) (G:=[AW c2 (.int (m:Int) t)]) (xs:=xs) (f:=Jf (ns xs) λv=>decide (v<m)) O U
   (NO _ _) (λj hj=>K3 ADp) ADp h0
   (λA' h j k l hl=>by
    rcases hl with rfl|⟨i,m,rfl⟩
    ·exact jD O h 0 c2 L D j k
    ·exact jE O h 0 c2 L D j k i m)
   (λA' h j v k hx=>Nm hx (((jF O h 0 c2 L D m t v k).frame [AF x xs]).pre (pk [0,1,0] rfl)|>.ox [0,1,0] λYa=>rfl) (jG O h 0 c2 L D v k _))
  rw[<-hlen,No] at h;exact h
end
noncomputable abbrev C3(a:Nat)(o:DP):Bi:=.one (a+323) (.ex ⟨.type "cell",none,.cell o,⟨[]⟩⟩)
abbrev Hb(c1 c2:Nat):List (Str×Addr):=[(DX,c2+323),(Dr,c1+323)]
structure WR(m:Nat)(l1 l2:Ay) where
 q:JX m
 y1:Qk (l1.filter λv=>decide (v<GC q.ys))
 y2:Qk (l2.filter λv=>decide (v<GC q.ys))
 t:Nat
 a:Nat
 b:Nat
abbrev HE(L c1 c2 w x y:Nat){m:Nat}{l1 l2:Ay}(z:WR m l1 l2):AN:=[AI L [(CJ,J w),(Ca,J x),(E_,J z.t)],AW c1 (J y),AW c2 (.int ((GC z.q.ys:Nat):Int) (Ho z.q.ys)),AV z.t [J z.a,J z.b],AF z.a z.y1.ys,AF z.b z.y2.ys]
def em:Stmt:=(PR.drop 2).headD Au
def Ro:Expr:=el (vE em) 0
def V4:Expr:=el (vE em) 1
def prL:Expr:=el V4 0
def prR:Expr:=el V4 1
include O
theorem sA(U:AA 6 A)(L c1 c2 y:Nat)(o:DP):
 AS B A (Bo tm (AR B.P 310 (Hb c1 c2) (L+323)) (J y)) [C3 c1 o] () [AW c1 (J y)]:=
 Ef O U (.g 6145<|.fi () [0])
theorem xQ(U:AA 20 A)(L c1 c2 w x y m:Nat)(o:DP)(xs ys:Aa)(hl:xs.length<=900)(h0:xs≠[])(Mr:ys.length<=900)(uO:ys≠[])(hm:((ns xs).filter λv=>decide (v∈ns ys)).head?=some m):
 AC B.C A (Ac (PR.take 2) (AR B.P 310 (Hb c1 c2) (L+323))) [AI L [(CJ,J w),(Ca,J x)],AW c1 (J y),C3 c2 o,AF x xs,AF y ys]
  (λz:WR m (ns xs) (ns ys)=>.next)
  (λz=>((HE L c1 c2 w x y z++[AF x xs,AF y ys]))):=by
 obtain⟨_,_|_⟩:=B<;>exact D7 O U (.g 278785<|.cc (Bt O U.l x (xs.map iv)) [3] λ(y0:Nat)=>.g 65<|.al λa1=>.al λa2=>.cc (Yy _ _ O U.l L a2 c1 y0 a1 x y m xs ys hl hm) [0,0,0,0,1,2] λ(y3:JX m)=>.g 393281<|.fr λk4=>.g 270466<|.cc (MD _ _ O U.l a1 k4 y3.ys (by first|lia|assumption|exact JX.le _|exact JX.n0 _) (by first|lia|assumption|exact JX.le _|exact JX.n0 _)) [1] λYa=>.cc (Dp O U.l) [] λYa=>.g 1124886919<|.cc (Bt O U.l x (xs.map iv)) [2] λy7=>.g 65<|.al λa8=>.al λa9=>.cc (Pu _ _ O U.l L a9 c2 y7 a8 x (GC y3.ys) (Ho y3.ys) xs hl h0) [0,0,0,0,5] λRG=>.g 77445595201<|.cc (Bt O U.l y (ys.map iv)) [7] λNq=>.g 65<|.al λIF=>.al λOL=>.cc (Pw _ _ O U.l L OL c2 Nq IF y (GC y3.ys) (Ho y3.ys) ys Mr uO) [0,0,0,0,3] λOT=>.g 393281<|.al λaa=>.fr λTj=>.g 6860<|.fi (⟨y3,RG,OT,aa,a8,IF⟩) [11,10,4,0,4,1,3,1])
theorem xR(U:AA 20 A)(L c1 c2 w x y m t:Nat)(o:DP)(xs ys:Aa)(hl:xs.length<=900)(h0:xs≠[])(Mr:ys.length<=900)(uO:ys≠[])(hm:((ns xs).filter λv=>decide (v∈ns ys)).head?=some m):
 AC B.C A (Ac (PR.take 2) (AR B.P 310 (Hb c1 c2) (L+323))) [AI L [(CJ,J w),(Ca,J x),(E_,J t)],AW c1 (J y),C3 c2 o,AF x xs,AF y ys]
  (λz:WR m (ns xs) (ns ys)=>.next)
  (λz=>((HE L c1 c2 w x y z++[AF x xs,AF y ys]))):=by
 obtain⟨_,_|_⟩:=B<;>exact D7 O U (.g 278785<|.cc (Bt O U.l x (xs.map iv)) [3] λ(y0:Nat)=>.g 65<|.al λa1=>.al λa2=>.cc (Yy _ _ O U.l L a2 c1 y0 a1 x y m xs ys hl hm) [0,0,0,0,1,2] λ(y3:JX m)=>.g 393281<|.fr λk4=>.g 270466<|.cc (MD _ _ O U.l a1 k4 y3.ys (by first|lia|assumption|exact JX.le _|exact JX.n0 _) (by first|lia|assumption|exact JX.le _|exact JX.n0 _)) [1] λYa=>.cc (Dp O U.l) [] λYa=>.g 1124886919<|.cc (Bt O U.l x (xs.map iv)) [2] λy7=>.g 65<|.al λa8=>.al λa9=>.cc (Pu _ _ O U.l L a9 c2 y7 a8 x (GC y3.ys) (Ho y3.ys) xs hl h0) [0,0,0,0,5] λRG=>.g 77445595201<|.cc (Bt O U.l y (ys.map iv)) [7] λNq=>.g 65<|.al λIF=>.al λOL=>.cc (Pw _ _ O U.l L OL c2 Nq IF y (GC y3.ys) (Ho y3.ys) ys Mr uO) [0,0,0,0,3] λOT=>.g 393281<|.al λaa=>.fr λTj=>.g 6860<|.fi (⟨y3,RG,OT,aa,a8,IF⟩) [11,10,4,0,4,1,3,1])
theorem sB(U:AA 20 A)(L c1 c2 w x m:Nat)(o:DP)(xs:Aa)(hl:xs.length<=900)(h0:xs≠[])(hm:((ns xs).filter λv=>decide (v∈ns xs)).head?=some m):
 AC B.C A (Ac (PR.take 2) (AR B.P 310 (Hb c1 c2) (L+323))) [AI L [(CJ,J w),(Ca,J x)],AW c1 (J x),C3 c2 o,AF x xs]
  (λz:WR m (ns xs) (ns xs)=>.next)
  (λz=>((HE L c1 c2 w x x z++[AF x xs]))):=by
 obtain⟨_,_|_⟩:=B<;>exact D7 O U (.g 278785<|.cc (Bt O U.l x (xs.map iv)) [3] λ(y0:Nat)=>.g 65<|.al λa1=>.al λa2=>.cc (Vc _ _ O U.l L a2 c1 y0 a1 x m xs hl hm) [0,0,0,0,1] λ(y3:JX m)=>.g 393281<|.fr λk4=>.g 270466<|.cc (MD _ _ O U.l a1 k4 y3.ys (by first|lia|assumption|exact JX.le _|exact JX.n0 _) (by first|lia|assumption|exact JX.le _|exact JX.n0 _)) [1] λYa=>.cc (Dp O U.l) [] λYa=>.g 1124882758<|.cc (Bt O U.l x (xs.map iv)) [2] λy7=>.g 65<|.al λa8=>.al λa9=>.cc (Pu _ _ O U.l L a9 c2 y7 a8 x (GC y3.ys) (Ho y3.ys) xs hl h0) [0,0,0,0,4] λRG=>.g 71993000001<|.cc (Bt O U.l x (xs.map iv)) [2] λNq=>.g 65<|.al λIF=>.al λOL=>.cc (Pw _ _ O U.l L OL c2 Nq IF x (GC y3.ys) (Ho y3.ys) xs hl h0) [0,0,0,0,2] λOT=>.g 393281<|.al λaa=>.fr λTj=>.g 6795<|.fi (⟨y3,RG,OT,aa,a8,IF⟩) [10,9,4,0,4,1,1])
theorem sC(U:AA 20 A)(L c1 c2 w x m t:Nat)(o:DP)(xs:Aa)(hl:xs.length<=900)(h0:xs≠[])(hm:((ns xs).filter λv=>decide (v∈ns xs)).head?=some m):
 AC B.C A (Ac (PR.take 2) (AR B.P 310 (Hb c1 c2) (L+323))) [AI L [(CJ,J w),(Ca,J x),(E_,J t)],AW c1 (J x),C3 c2 o,AF x xs]
  (λz:WR m (ns xs) (ns xs)=>.next)
  (λz=>((HE L c1 c2 w x x z++[AF x xs]))):=by
 obtain⟨_,_|_⟩:=B<;>exact D7 O U (.g 278785<|.cc (Bt O U.l x (xs.map iv)) [3] λ(y0:Nat)=>.g 65<|.al λa1=>.al λa2=>.cc (Vc _ _ O U.l L a2 c1 y0 a1 x m xs hl hm) [0,0,0,0,1] λ(y3:JX m)=>.g 393281<|.fr λk4=>.g 270466<|.cc (MD _ _ O U.l a1 k4 y3.ys (by first|lia|assumption|exact JX.le _|exact JX.n0 _) (by first|lia|assumption|exact JX.le _|exact JX.n0 _)) [1] λYa=>.cc (Dp O U.l) [] λYa=>.g 1124882758<|.cc (Bt O U.l x (xs.map iv)) [2] λy7=>.g 65<|.al λa8=>.al λa9=>.cc (Pu _ _ O U.l L a9 c2 y7 a8 x (GC y3.ys) (Ho y3.ys) xs hl h0) [0,0,0,0,4] λRG=>.g 71993000001<|.cc (Bt O U.l x (xs.map iv)) [2] λNq=>.g 65<|.al λIF=>.al λOL=>.cc (Pw _ _ O U.l L OL c2 Nq IF x (GC y3.ys) (Ho y3.ys) xs hl h0) [0,0,0,0,2] λOT=>.g 393281<|.al λaa=>.fr λTj=>.g 6795<|.fi (⟨y3,RG,OT,aa,a8,IF⟩) [10,9,4,0,4,1,1])
theorem oQ(U:AA 10 A)(L c1 c2 w x y i j t u:Nat)(al:BC)(xs ys:Aa)(hx:xs[0]? =some (i,t))(hy:ys[0]? =some (j,u))(h1:xs.length<=1000)(h2:ys.length<=1000)(h:(i:Int)<(j:Int)):
 AS B A (isTrue Ro (AR B.P 310 (Hb c1 c2) (L+323)) (Bf Ro (AR B.P 310 (Hb c1 c2) (L+323)))) [AI L ((CJ,J w)::(Ca,J x)::al),AW c1 (J y),AF x xs,AF y ys] true [AI L ((CJ,J w)::(Ca,J x)::al),AW c1 (J y),AF x xs,AF y ys]:=by
 obtain⟨_,_|_⟩:=B<;>exact Q7 O U (.g 65<|.fr λk0=>.g 274627<|.cc (Ci _ _ O U.l x 0 k0 i t xs hx h1) [2] λYa=>.g 67<|.fr λk2=>.g 278788<|.cc (Ci _ _ O U.l y 0 k2 j u ys hy h2) [3] λYa=>.cc (IJ _ _ O U.l ↑i ↑j t u h) [] λYa=>.fi () [2,2,1,0])
theorem oP(U:AA 10 A)(L c1 c2 w x y i j t u:Nat)(al:BC)(xs ys:Aa)(hx:xs[0]? =some (i,t))(hy:ys[0]? =some (j,u))(h1:xs.length<=1000)(h2:ys.length<=1000)(h: ¬((i:Int)<(j:Int))):
 AS B A (isTrue Ro (AR B.P 310 (Hb c1 c2) (L+323)) (Bf Ro (AR B.P 310 (Hb c1 c2) (L+323)))) [AI L ((CJ,J w)::(Ca,J x)::al),AW c1 (J y),AF x xs,AF y ys] false [AI L ((CJ,J w)::(Ca,J x)::al),AW c1 (J y),AF x xs,AF y ys]:=by
 obtain⟨_,_|_⟩:=B<;>exact Q7 O U (.g 65<|.fr λk0=>.g 274627<|.cc (Ci _ _ O U.l x 0 k0 i t xs hx h1) [2] λYa=>.g 67<|.fr λk2=>.g 278788<|.cc (Ci _ _ O U.l y 0 k2 j u ys hy h2) [3] λYa=>.cc (II _ _ O U.l ↑i ↑j t u h) [] λYa=>.fi () [2,2,1,0])
theorem oN(U:AA 10 A)(L c1 c2 w x i t:Nat)(al:BC)(xs:Aa)(hx:xs[0]? =some (i,t))(h1:xs.length<=1000)(h: ¬((i:Int)<(i:Int))):
 AS B A (isTrue Ro (AR B.P 310 (Hb c1 c2) (L+323)) (Bf Ro (AR B.P 310 (Hb c1 c2) (L+323)))) [AI L ((CJ,J w)::(Ca,J x)::al),AW c1 (J x),AF x xs] false [AI L ((CJ,J w)::(Ca,J x)::al),AW c1 (J x),AF x xs]:=by
 obtain⟨_,_|_⟩:=B<;>exact Q7 O U (.g 65<|.fr λk0=>.g 274627<|.cc (Ci _ _ O U.l x 0 k0 i t xs hx h1) [2] λYa=>.g 67<|.fr λk2=>.g 266305<|.cc (Ci _ _ O U.l x 0 k2 i t xs hx h1) [0] λYa=>.cc (II _ _ O U.l ↑i ↑i t t h) [] λYa=>.fi () [1,1,0])
theorem AAK(U:AA 20 A)(L L2 c1 c2 w x y:Nat)(al a2:BC)(xs ys:Aa)(hK:C8 A [L,L2])(h1:xs.length<=500)(h2:ys.length<=500):
 AC B.C A (Bf prL (AR B.P 310 (Hb c1 c2) (L+323))) [AI L ((CJ,J w)::(Ca,J x)::al),AW c1 (J y),AF x xs,AF y ys,AI L2 a2]
  (λz:Mj (E9 (ns xs) (ns ys))=>J z.t)
  (λz=>[AV z.t [J z.m,J z.u],AF z.m z.ms,AF z.u z.us,AI L ((CJ,J w)::(Ca,J x)::al),AW c1 (J y),AF x xs,AF y ys,AI L2 a2]):=Jk O U (.g 16785472<|.cc (Vd _ _ O U.l x y L L2 ((⟨⟨[119,97,121,115]⟩⟩,J w)::(⟨⟨[111,110,101]⟩⟩,J x)::al) a2 xs ys hK h1 h2) [2,2,0,1] λy0=>.fi (y0) [0,0,0,2,3,0,0,0])
theorem AAL(U:AA 10 A)(L c1 c2 w x t:Nat):
 AS B A (Bf prR (AR B.P 310 (Hb c1 c2) (L+323))) [AI L [(CJ,J w),(Ca,J x),(E_,J t)]] (J t) [AI L [(CJ,J w),(Ca,J x),(E_,J t)]]:=
 H_ O U (.g 65<|.fi () [0])
abbrev jH(L c1 c2 L2 w x:Nat)(a2:BC)(al:BC)(u o:DP):AN:=[AI L ((CJ,J w)::(Ca,J x)::al),C3 c1 u,C3 c2 o,AI L2 a2]
abbrev GW:Option Nat->BC
 |none=>[]
 |some t=>[(E_,J t)]
theorem oS(U:AA 30 A){L L2 c1 c2 w x y m i j t u:Nat}{a2:BC}{o:DP}{xs ys:Aa}(tl:Option Nat)(hK:C8 A [L,L2])
 (h1:xs.length<=500) (h2:ys.length<=500) (hx:xs[0]? =some (i,t)) (hy:ys[0]? =some (j,u)) (hm:((ns xs).filter λv=>decide (v∈ns ys)).head?=some m)
 (hp:i<j->E9 (ns xs) (ns ys)=((ns xs).filter λv=>decide (v<m),(ns ys).filter λv=>decide (v<m))):
 AC B.C A (Ac PR (AR B.P 310 (Hb c1 c2) (L+323))) (jH L c1 c2 L2 w x a2 (GW tl) (some (J y)) o++[AF x xs,AF y ys]) (λYa:Nat×Value=>.next)
  (λσ=>jH L c1 c2 L2 w x a2 (GW (some σ.1)) (some (J y)) (some σ.2)++[AF x xs,AF y ys]):=by
 have n1:xs≠[]:=λe=>by subst e;cases hx
 have n2:ys≠[]:=λe=>by subst e;cases hy
 have e1:AC B.C A (Ac (PR.take 2) (AR B.P 310 (Hb c1 c2) (L+323))) [AI L ((CJ,J w)::(Ca,J x)::GW tl),AW c1 (J y),C3 c2 o,AF x xs,AF y ys] (λYa:WR m (ns xs) (ns ys)=>.next) (λz=>HE L c1 c2 w x y z++[AF x xs,AF y ys]):=by
  cases tl with
  |none=>exact xQ O U.l L c1 c2 w x y m o xs ys (AK h1 ADs) n1 (AK h2 ADs) n2 hm
  |some tl=>exact xR O U.l L c1 c2 w x y m tl o xs ys (AK h1 ADs) n1 (AK h2 ADs) n2 hm
 show AC B.C A (Ac (PR.take 2++[em]) _) _ _ _;refine AC.seq (l1:=PR.take 2) (led1:=λz:WR m (ns xs) (ns ys)=>HE L c1 c2 w x y z++[AF x xs,AF y ys,AI L2 a2]) ((e1.frame [AI L2 a2]).ix [0,0,0,1,1,0] rfl) λz=>?_;refine AC.one ?_;show AC B.C A (Qf (.If (.BoolOp .And [Ro,V4] _) _ [] _) _) _ _ _;have fin:AC B.C A (Ac [] (AR B.P 310 (Hb c1 c2) (L+323))) (HE L c1 c2 w x y z++[AF x xs,AF y ys,AI L2 a2]) (λYa:Nat×Value=>.next) (λσ=>jH L c1 c2 L2 w x a2 (GW (some σ.1)) (some (J y)) (some σ.2)++[AF x xs,AF y ys]):=
  AC.nil.weaken λYa=>⟨(z.t,.int ((GC z.q.ys:Nat):Int) (Ho z.q.ys)),rfl,pk [0,0,0,5,3,3] rfl⟩
 by_cases c:i<j
 ·have e2:=oQ O U.l L c1 c2 w x y i j t u [(E_,J z.t)] xs ys hx hy (AK h1 ADs) (AK h2 ADs) (Int.ofNat_le.mpr c)
  have q2:AC B.C A (isTrue V4 (AR B.P 310 (Hb c1 c2) (L+323)) (Bf V4 (AR B.P 310 (Hb c1 c2) (L+323)))) (HE L c1 c2 w x y z++[AF x xs,AF y ys,AI L2 a2]) (λYa:Mj (E9 (ns xs) (ns ys))×Unit=>false) (λYa=>HE L c1 c2 w x y z++[AF x xs,AF y ys,AI L2 a2]):=by
   show AC B.C A (isTrue (.Compare prL [.NotEq] [prR] _) _ _) _ _ _
   refine(AC.Fh (led2:=λzz _=>[AI L [(CJ,J w),(Ca,J x),(E_,J z.t)],AV zz.t [J zz.m,J zz.u],AF zz.m zz.ms,AF zz.u zz.us,AW c1 (J y),AF x xs,AF y ys,AI L2 a2,AW c2 (.int ((GC z.q.ys:Nat):Int) (Ho z.q.ys)),AV z.t [J z.a,J z.b],AF z.a z.y1.ys,AF z.b z.y2.ys])
    (((AAK O U.l L L2 c1 c2 w x y [(E_,J z.t)] a2 xs ys hK h1 h2).frame [AW c2 (.int ((GC z.q.ys:Nat):Int) (Ho z.q.ys)),AV z.t [J z.a,J z.b],AF z.a z.y1.ys,AF z.b z.y2.ys]).ix [0,0,4,4,4,0,0,0,0] rfl)
    (λzz=>(((AAL O U.l L c1 c2 w x z.t).frame [AV zz.t [J zz.m,J zz.u],AF zz.m zz.ms,AF zz.u zz.us,AW c1 (J y),AF x xs,AF y ys,AI L2 a2,AW c2 (.int ((GC z.q.ys:Nat):Int) (Ho z.q.ys)),AV z.t [J z.a,J z.b],AF z.a z.y1.ys,AF z.b z.y2.ys]).ix (3::BW 11) rfl))
    (λzz q=>Jm (d:=.tuple ([(ns xs).filter λv=>decide (v<m),(ns ys).filter λv=>decide (v<m)].map Je)) (AA.Ow (n:=20) U.l) (SU _).1 (SU _).2 λR s S=>⟨?_,?_⟩) rfl).weaken λp=>⟨(p.1,()),rfl,pk [0,3,6,6,6,6,3,3,3] rfl⟩
   ·refine S.tuple (a:=zz.t+323) (vs:=[J zz.m,J zz.u]) (IM 1 rfl) (.cons ?_ (.cons ?_ .nil))
    ·exact S.Zl (zz.i6.trans (by rw[hp c])) (IM 2 rfl)
    ·exact S.Zl (zz.Xh.trans (by rw[hp c])) (IM 3 rfl)
   ·refine S.tuple (a:=z.t+323) (vs:=[J z.a,J z.b]) (IM 9 rfl) (.cons ?_ (.cons ?_ .nil))
    ·exact S.Zl (z.y1.ok.trans (by rw[z.q.hd])) (IM 10 rfl)
    ·exact S.Zl (z.y2.ok.trans (by rw[z.q.hd])) (IM 11 rfl)
  refine AC.MM (b:=false) (AC.Iu (AC.O5 (led1:=λYa:Unit=>HE L c1 c2 w x y z++[AF x xs,AF y ys,AI L2 a2]) ?_ λYa=>AC.WT q2)) λYa=>fin
  exact((e2.frame [AW c2 (.int ((GC z.q.ys:Nat):Int) (Ho z.q.ys)),AV z.t [J z.a,J z.b],AF z.a z.y1.ys,AF z.b z.y2.ys,AI L2 a2]).ix [0,0,4,4,0,0,0,0,0] rfl)|>.ox [0,0,2,2,2,2,0,0,0] λYa=>rfl
 ·have e2:=oP O U.l L c1 c2 w x y i j t u [(E_,J z.t)] xs ys hx hy (AK h1 ADs) (AK h2 ADs) ADp
  refine AC.MM (b:=false) (led1:=λYa:Unit=>HE L c1 c2 w x y z++[AF x xs,AF y ys,AI L2 a2]) (AC.Iu (AC.WT ?_)) λYa=>fin
  exact((e2.frame [AW c2 (.int ((GC z.q.ys:Nat):Int) (Ho z.q.ys)),AV z.t [J z.a,J z.b],AF z.a z.y1.ys,AF z.b z.y2.ys,AI L2 a2]).ix [0,0,4,4,0,0,0,0,0] rfl)|>.ox [0,0,2,2,2,2,0,0,0] λYa=>rfl
theorem jM(U:AA 30 A){L L2 c1 c2 w x m i t:Nat}{a2:BC}{o:DP}{xs:Aa}(tl:Option Nat)
 (h1:xs.length<=500) (hx:xs[0]? =some (i,t)) (hm:((ns xs).filter λv=>decide (v∈ns xs)).head?=some m):
 AC B.C A (Ac PR (AR B.P 310 (Hb c1 c2) (L+323))) (jH L c1 c2 L2 w x a2 (GW tl) (some (J x)) o++[AF x xs]) (λYa:Nat×Value=>.next)
  (λσ=>jH L c1 c2 L2 w x a2 (GW (some σ.1)) (some (J x)) (some σ.2)++[AF x xs]):=by
 have n1:xs≠[]:=λe=>by subst e;cases hx
 have e1:AC B.C A (Ac (PR.take 2) (AR B.P 310 (Hb c1 c2) (L+323))) [AI L ((CJ,J w)::(Ca,J x)::GW tl),AW c1 (J x),C3 c2 o,AF x xs] (λYa:WR m (ns xs) (ns xs)=>.next) (λz=>HE L c1 c2 w x x z++[AF x xs]):=by
  cases tl with
  |none=>exact sB O U.l L c1 c2 w x m o xs (AK h1 ADs) n1 hm
  |some tl=>exact sC O U.l L c1 c2 w x m tl o xs (AK h1 ADs) n1 hm
 show AC B.C A (Ac (PR.take 2++[em]) _) _ _ _;refine AC.seq (l1:=PR.take 2) (led1:=λz:WR m (ns xs) (ns xs)=>HE L c1 c2 w x x z++[AF x xs,AI L2 a2]) ((e1.frame [AI L2 a2]).ix [0,0,0,1,0] rfl) λz=>?_;refine AC.one ?_;show AC B.C A (Qf (.If (.BoolOp .And [Ro,V4] _) _ [] _) _) _ _ _;have fin:AC B.C A (Ac [] (AR B.P 310 (Hb c1 c2) (L+323))) (HE L c1 c2 w x x z++[AF x xs,AI L2 a2]) (λYa:Nat×Value=>.next) (λσ=>jH L c1 c2 L2 w x a2 (GW (some σ.1)) (some (J x)) (some σ.2)++[AF x xs]):=
  AC.nil.weaken λYa=>⟨(z.t,.int ((GC z.q.ys:Nat):Int) (Ho z.q.ys)),rfl,pk [0,0,0,4,3] rfl⟩
 refine AC.MM (b:=false) (led1:=λYa:Unit=>HE L c1 c2 w x x z++[AF x xs,AI L2 a2]) (AC.Iu (AC.WT ?_)) λYa=>fin
 exact(((oN O U.l L c1 c2 w x i t [(E_,J z.t)] xs hx (AK h1 ADs) ADp).frame [AW c2 (.int ((GC z.q.ys:Nat):Int) (Ho z.q.ys)),AV z.t [J z.a,J z.b],AF z.a z.y1.ys,AF z.b z.y2.ys,AI L2 a2]).ix (0::0::4::BW 5) rfl)|>.ox [0,0,1,1,1,1,0,0] λYa=>rfl
omit O
theorem nP{es:List IE}{i j:Nat}{e f:IE}(he:es[i]? =some e)(hf:es[j]? =some f)(iO:i≠j): ∃r:F6,∀P:AN,(Ao (P++[BU es])).Perm (Ao (P++[AF e.a e.ys,AF f.a f.ys]++[.many r])):=by
 obtain⟨r,hr⟩:=PP he hf iO;refine⟨r.map IE.p,λP=>?_⟩;have hp:=hr.map IE.p;rw[Aw,Aw] at hp;simp only[An,Ao,Bi.flat,Aj,AG];exact CP _ hp
theorem AC.nk{C:Cx}{A:AL}{α:Type}{t:Sem α}{P:AN}{X:Type}{res:X->α}{Q:X->AN}{es:List IE}{i j:Nat}{e f:IE}(he:es[i]? =some e)(hf:es[j]? =some f)(iO:i≠j)
 (h:AC C A t (P++[AF e.a e.ys,AF f.a f.ys]) res (λx=>Q x++[AF e.a e.ys,AF f.a f.ys])):AC C A t (P++[BU es]) res (λx=>Q x++[BU es]):=by
 obtain⟨r,key⟩:=nP he hf iO
 exact((h.frame [.many r]).pre λR s S=>S.BV (by rw[An,An _ R];exact(key P).append_right _)).post λx R s S=>S.BV (by rw[An,An _ R];exact((key (Q x)).append_right _).symm)
structure RJ(es:List IE):Prop where
 n0:0<es.length
 n1:es.length<=100
 be: ∀e∈es,e.ys.length<=500/\e.ys.length≠0
 eq: ∀(i j:Nat) (e f:IE),es[i]? =some e->es[j]? =some f-> ∃m,((ns e.ys).filter λv=>decide (v∈ns f.ys)).head?=some m/\E9 (ns e.ys) (ns f.ys)=((ns e.ys).filter λv=>decide (v<m),(ns f.ys).filter λv=>decide (v<m))
abbrev SJ:=Option Nat×DP×DP
abbrev Z0(L c1 c2 L2 w:Nat)(v1:Value)(a2:BC)(es:List IE)(σ:SJ):AN:=[AI L ((CJ,J w)::(Ca,v1)::GW σ.1),C3 c1 σ.2.1,C3 c2 σ.2.2,AI L2 a2]++[BU es]
theorem eV{ys:Aa}(h:ys.length≠0): ∃i t,ys[0]? =some (i,t):=by
 cases ys with
 |nil=>exact absurd rfl h
 |cons a r=>exact⟨a.1,a.2,rfl⟩
include O
def gk(U:AA 34 A)(L L2 c1 c2 w a i:Nat)(a2:BC)(tl:Option Nat)(u o:DP)(es:List IE)(e:IE)(he:es[i]? =some e)(hK:C8 A [L,L2])(h:RJ es):Ag B.C A where
 c:=.forLoop tm (J a) PR [] (AR B.P 310 (Hb c1 c2) (L+323))
 F:=[BQ a w 0,AE w (es.map IE.v),AI L ((CJ,J w)::(Ca,J e.a)::GW tl),C3 c1 u,C3 c2 o,AI L2 a2,BU es]
 X:=SJ
 res:=λYa=>.ok .next
 led:=λσ=>AE w (es.map IE.v)::Z0 L c1 c2 L2 w (J e.a) a2 es σ
 ok:=by
  refine AT.call (Qv (N:=33) (S:=SJ) (G:=λσ=>Z0 L c1 c2 L2 w (J e.a) a2 es σ) (H:=λj v σ=>Z0 L c1 c2 L2 w (J e.a) a2 es (σ.1,some v,σ.2.2)) O ADp U (xs:=es.map IE.v) (λA' eA B8 j v hv σ=>?_) _ 0 (tl,u,o) (by rw[FH]))
  rw[AQ] at hv;obtain⟨f,hf,rfl⟩:=Option.map_eq_some_iff.mp hv;refine⟨?_,?_⟩
  ·have e1:=sA O (B8.le (ADp:6<=33)) L c1 c2 f.a σ.2.1
   exact((e1.frame [AI L ((CJ,J w)::(Ca,J e.a)::GW σ.1),C3 c2 σ.2.2,AI L2 a2,BU es]).ix (1::BW 4) rfl)|>.ox (1::BW 4) λYa=>rfl
  ·have U4:C8 A' [L,L2]:=by subst eA;exact hK
   obtain⟨b1,b2⟩:=h.be _ (B4 he);obtain⟨d1,d2⟩:=h.be _ (B4 hf);obtain⟨x0,t0,rO⟩:=eV b2;obtain⟨y0,u0,hy0⟩:=eV d2;obtain⟨m,hm,hp⟩:=h.eq i j e f he hf;have g:AC B.C A' (Ac PR (AR B.P 310 (Hb c1 c2) (L+323))) (Z0 L c1 c2 L2 w (J e.a) a2 es (σ.1,some (J f.a),σ.2.2)) (λYa:SJ=>.next) (λσ'=>Z0 L c1 c2 L2 w (J e.a) a2 es σ'):=by
    by_cases c:i=j
    ·subst c
     obtain rfl:e=f:=DZ (he.symm.trans hf)
     exact(AC.z1 (P:=[_,_,_,_]) (Q:=λq=>[_,_,_,_]) he (jM O (B8.le (ADp:30<=33)) (L2:=L2) (o:=σ.2.2) σ.1 b1 rO hm)).weaken λq=>⟨(some q.1,some (J e.a),some q.2),rfl,λR s S=>S⟩
    ·exact(AC.nk (P:=[_,_,_,_]) (Q:=λq=>[_,_,_,_]) he hf c (oS O (B8.le (ADp:30<=33)) (o:=σ.2.2) σ.1 U4 b1 d1 rO hy0 hm (λYa=>hp))).weaken λq=>⟨(some q.1,some (J f.a),some q.2),rfl,λR s S=>S⟩
   exact((g.frame [AE w (es.map IE.v)]).ix [1,1,1,1,1,0] rfl)|>.ox (5::BW 5) λYa=>rfl
theorem jI(U:AA 6 A)(L c1 c2 w x:Nat):
 AS B A (Bo r_ (AR B.P 310 (Hb c1 c2) (L+323)) (J x)) [AI L [(CJ,J w)]] () [AI L [(CJ,J w),(Ca,J x)]]:=
 Ef O U (.fr λk0=>.g 6145<|.fi () [0])
theorem jJ(U:AA 6 A)(L c1 c2 w x:Nat)(v:Value):
 AS B A (Bo r_ (AR B.P 310 (Hb c1 c2) (L+323)) (J x)) [AI L [(CJ,J w),(Ca,v)]] () [AI L [(CJ,J w),(Ca,J x)]]:=
 Ef O U (.fr λk0=>.g 6145<|.fi () [0])
theorem jK(U:AA 6 A)(L c1 c2 w x t:Nat)(v:Value):
 AS B A (Bo r_ (AR B.P 310 (Hb c1 c2) (L+323)) (J x)) [AI L [(CJ,J w),(Ca,v),(E_,J t)]] () [AI L [(CJ,J w),(Ca,J x),(E_,J t)]]:=
 Ef O U (.fr λk0=>.g 6145<|.fi () [0])
theorem jL(U:AA 38 A)(L L2 c1 c2 w i:Nat)(a2:BC)(tl:Option Nat)(u o:DP)(es:List IE)(e:IE)(he:es[i]? =some e)(hK:C8 A [L,L2])(h:RJ es):
 AC B.C A (Ac prB (AR B.P 310 (Hb c1 c2) (L+323))) ((AE w (es.map IE.v)::AI L ((CJ,J w)::(Ca,J e.a)::GW tl)::C3 c1 u::C3 c2 o::AI L2 a2::[BU es]))
  (λσ:SJ=>.next)
  (λσ=>((AE w (es.map IE.v)::Z0 L c1 c2 L2 w (J e.a) a2 es σ))):=by
 obtain⟨_,_|_⟩:=B<;>exact D7 O U (.g 266306<|.cc (Bt O U.l w (es.map IE.v)) [0] λy0=>.g 65<|.cc (gk O U.l L L2 c1 c2 w y0 i a2 tl u o es e he hK h) (BW 7) λy1=>.fi (y1) (BW 6))
abbrev v8:Option (Value×SJ)->BC
 |none=>[]
 |some (v,σ)=>(Ca,v)::GW σ.1
noncomputable abbrev oU:Option (Value×SJ)->DP
 |none=>none
 |some (_,σ)=>σ.2.1
noncomputable abbrev oO:Option (Value×SJ)->DP
 |none=>none
 |some (_,σ)=>σ.2.2
abbrev prO(L c1 c2 L2 w:Nat)(a2:BC)(es:List IE)(σ:Option (Value×SJ)):AN:=[AI L ((CJ,J w)::v8 σ),C3 c1 (oU σ),C3 c2 (oO σ),AI L2 a2]++[BU es]
abbrev AAI(L c1 c2 L2 w:Nat)(a2:BC)(es:List IE)(v:Value):Option (Value×SJ)->AN
 |none=>Z0 L c1 c2 L2 w v a2 es (none,none,none)
 |some (_,σ)=>Z0 L c1 c2 L2 w v a2 es σ
def cA(U:AA 44 A)(L L2 c1 c2 w a:Nat)(a2:BC)(es:List IE)(hK:C8 A [L,L2])(h:RJ es):Ag B.C A where
 c:=.forLoop r_ (J a) prB [] (AR B.P 310 (Hb c1 c2) (L+323))
 F:=[BQ a w 0,AE w (es.map IE.v),AI L [(CJ,J w)],C3 c1 none,C3 c2 none,AI L2 a2,BU es]
 X:=Option (Value×SJ)
 res:=λYa=>.ok .next
 led:=λσ=>AE w (es.map IE.v)::prO L c1 c2 L2 w a2 es σ
 ok:=by
  refine AT.call (Qv (N:=43) (S:=Option (Value×SJ)) (G:=λσ=>prO L c1 c2 L2 w a2 es σ) (H:=λj v σ=>AAI L c1 c2 L2 w a2 es v σ) O ADp U (xs:=es.map IE.v) (λA' eA B8 j v hv σ=>?_) _ 0 none (by rw[FH]))
  rw[AQ] at hv;obtain⟨f,hf,rfl⟩:=Option.map_eq_some_iff.mp hv;have U4:C8 A' [L,L2]:=by subst eA;exact hK
  have g:=λtl u o=>jL O (B8.le (ADp:38<=43)) L L2 c1 c2 w j a2 tl u o es f hf U4 h
  refine⟨?_,?_⟩
  ·rcases σ with _|⟨v,σ⟩
   ·have e1:=jI O (B8.le (ADp:6<=43)) L c1 c2 w f.a
    exact e1.frame [C3 c1 none,C3 c2 none,AI L2 a2,BU es]
   ·obtain⟨tl,u,o⟩:=σ
    cases tl with
    |none=>
     have e1:=jJ O (B8.le (ADp:6<=43)) L c1 c2 w f.a v
     exact e1.frame [C3 c1 u,C3 c2 o,AI L2 a2,BU es]
    |some tl=>
     exact(jK O (B8.le (ADp:6<=43)) L c1 c2 w f.a tl v).frame [C3 c1 u,C3 c2 o,AI L2 a2,BU es]
  ·rcases σ with _|⟨v,σ⟩
   ·exact(g none none none).weaken λq=>⟨some (J f.a,q),rfl,λR s S=>S⟩
   ·exact(g σ.1 σ.2.1 σ.2.2).weaken λq=>⟨some (J f.a,q),rfl,λR s S=>S⟩
theorem YF(U:AA 10 A)(w:Nat):
 AS B A (Pl B 310 [J w]) [] (([(CJ,J w)]:BC)) []:=
 rn O U (.fi () [])
theorem XK(U:AA 10 A)(w:Nat):
 AC B.C A (OP B 310 [(CJ,J w)]) []
  (λq:Nat×Nat×Nat=>AR B.P 310 (Hb q.2.1 q.2.2) (q.1+323))
  (λq=>[AI q.1 [(CJ,J w)],C3 q.2.1 none,C3 q.2.2 none]):=
 rn O U (.al λa0=>.al λa1=>.al λa2=>.fr λk3=>.g 6275<|.fi (a0,a1,a2) [2,1,0])
theorem YK(U:AA 48 A)(L L2 c1 c2 w:Nat)(a2:BC)(es:List IE)(hK:C8 A [L,L2])(h:RJ es):
 AS B A (Ac (A4 B.P 310) (AR B.P 310 (Hb c1 c2) (L+323))) ((AI L [(CJ,J w)]::C3 c1 none::C3 c2 none::AE w (es.map IE.v)::AI L2 a2::[BU es])) (.ret (.bool true)) (((AE w (es.map IE.v)::AI L2 a2::[BU es]))):=by
 obtain⟨_,_|_⟩:=B<;>exact D7 O U (.g 278785<|.cc (Bt O U.l w (es.map IE.v)) [3] λy0=>.g 65<|.cc (cA O U.l L L2 c1 c2 w y0 a2 es hK h) (BW 7) λYa=>.fi () [0,3,3])
def b6(U:AA 52 A)(w L2:Nat)(a2:BC)(es:List IE)(hK:C8 A [L2])(h:RJ es):Ag B.C A where
 c:=.call (.ref 310) ⟨[J w],[]⟩
 F:=[AE w (es.map IE.v),AI L2 a2,BU es]
 X:=Unit
 res:=λYa=>.ok (.ret (.bool true))
 led:=λYa=>[AE w (es.map IE.v),AI L2 a2,BU es]
 ok:=Dm O (n:=51) U ADq ((YF O U.l.in1 w).frame _) (λR s S=>(XK O U.l.in1 w).frame [AE w (es.map IE.v),AI L2 a2,BU es] R s S)
  (λq=>BK (fl:=λYa:Unit=>.ret (.bool true)) (by
   refine YK O (AA.deeper U.l) q.1 L2 q.2.1 q.2.2 w a2 es (hK.deeper rfl ?_) h
   show(D4 B.P 310).scope.kind≠.module;exact(by kernel_rfl:(D4 B.P 310).scope.kind=.function)▸ADs))
noncomputable def KP:Nat->Ay->Ay->Ay->Ay->Ay×Ay
 |0,X,Y,m,u=>(m++X,u++Y)
 |r+1,e::X,a::Y,m,u=>if e<a then KP r (X.dropWhile (· ==e)) (a::Y) (m++[e]) u else if a<e then KP r (e::X) (Y.dropWhile (· ==a)) m (u++[a]) else KP r (X.dropWhile (· ==e)) (Y.dropWhile (· ==a)) m u
 |_+1,[],Y,m,u=>(m++[],u++Y)
 |_+1,e::X,[],m,u=>(m++(e::X),u++[])
omit O
theorem RY{l:Ay}{v:Nat}: ∀{r i:Nat},l.length-i<=r->l.drop (Gq l v r i)=(l.drop i).dropWhile (· ==v)
 |0,i,h=>by
  have:l.drop i=[]:=EW ADp
  rw[Gq,this];rfl
 |r+1,i,h=>by
  rw[Gq]
  by_cases hi:i<l.length
  ·rw[AJ hi,BR hi]
   by_cases c:l[i]=v
   ·rw[if_pos (by rw[c]),Jw (by simpa using c)]
    exact RY ADp
   ·rw[if_neg (by simpa using c),Jv (by simpa using c),<-BR hi]
  ·rw[B7 (Ec hi),if_neg ADt]
   have:l.drop i=[]:=EW (Ec hi)
   rw[this];rfl
theorem MF{l:Ay}{v i:Nat}:l.drop (BJ l v i)=(l.drop i).dropWhile (· ==v):=RY (Am _)
theorem e9{X Y:Ay}: ∀{r i j:Nat} {m u:Ay},Jo X Y r i j m u=KP r (X.drop i) (Y.drop j) m u
 |0,i,j,m,u=>rfl
 |r+1,i,j,m,u=>by
  rw[Jo]
  by_cases hi:i<X.length
  ·by_cases hj:j<Y.length
   ·rw[if_pos ⟨hi,hj⟩,e9,BR hi,BR hj]
    have e1:X.getD i 0=X[i]:=by rw[Ad,AJ hi];rfl
    have e2:Y.getD j 0=Y[j]:=by rw[Ad,AJ hj];rfl
    rw[e1,e2,KP];unfold tI tJ tM tU
    by_cases c1:X[i]<Y[j]
    ·simp only[if_pos c1]
     rw[MF,<-BR hj]
    ·by_cases c2:Y[j]<X[i]
     ·simp only[if_neg c1,if_pos c2]
      rw[MF,<-BR hi]
     ·simp only[if_neg c1,if_neg c2]
      rw[MF,MF]
   ·rw[if_neg (λh=>hj h.2)]
    have e2:Y.drop j=[]:=EW (Ec hj);rw[e2,BR hi,KP]
  ·rw[if_neg (λh=>hi h.1)]
   have e1:X.drop i=[]:=EW (Ec hi);rw[e1,KP]
theorem e_(X Y:Ay):E9 X Y=KP (X.length+Y.length) X Y [] []:=by
 unfold E9;rw[e9,Du,Du]
abbrev Up(l:Ay):Prop:=l.Pairwise (· < ·)
theorem N8{e:Nat}{X:Ay}(h:Up (e::X)):X.dropWhile (· ==e)=X:=by
 cases X with
 |nil=>rfl
 |cons x X=>
  have:=(List.pairwise_cons.mp h).1 x (.head _)
  rw[Jv (by simp;exact Nat.ne_of_gt this)]
noncomputable abbrev sub(X Y:Ay):Ay:=X.filter λv=>decide (v∉Y)
theorem JK{e:Nat}{X Y:Ay}(h:e∈Y):sub (e::X) Y=sub X Y:=by
 unfold sub;rw[List.filter_cons_of_neg (by simpa using h)]
theorem Ik{e:Nat}{X Y:Ay}(h:e∉Y):sub (e::X) Y=e::sub X Y:=by
 unfold sub;rw[List.filter_cons_of_pos (by simpa using h)]
theorem GK{a:Nat}{X Y:Ay}(h:a∉X):sub X (a::Y)=sub X Y:=by
 unfold sub;refine FE λv hv=>?_
 have:v≠a:=λe=>h (e▸hv)
 simp[this]
theorem aN(X:Ay):sub X []=X:=by unfold sub;simp
theorem FW{e a:Nat}{Y:Ay}(h:e<a)(hY:Up (a::Y)):e∉a::Y:=λhm=>by
 rcases List.mem_cons.mp hm with rfl|hm
 ·lia
 ·have:=(List.pairwise_cons.mp hY).1 _ hm;lia
theorem LL: ∀(r:Nat) (X Y m u:Ay),X.length+Y.length<=r->Up X->Up Y->KP r X Y m u=(m++sub X Y,u++sub Y X)
 |0,X,Y,m,u,h,hX,hY=>by
  have e1:X=[]:=List.length_eq_zero_iff.mp ADp
  have e2:Y=[]:=List.length_eq_zero_iff.mp ADp
  subst e1;subst e2;rfl
 |r+1,[],Y,m,u,h,hX,hY=>by rw[KP,aN];rfl
 |r+1,e::X,[],m,u,h,hX,hY=>by rw[KP,aN];rfl
 |r+1,e::X,a::Y,m,u,h,hX,hY=>by
  simp only[Ap] at h;have mB:=(List.pairwise_cons.mp hX).2;have mC:=(List.pairwise_cons.mp hY).2;rw[KP,N8 hX,N8 hY]
  by_cases c1:e<a
  ·rw[if_pos c1,LL r X (a::Y) _ _ (by simp;lia) mB hY,Ik (FW c1 hY),GK (FW c1 hY),AG];rfl
  ·rw[if_neg c1]
   by_cases c2:a<e
   ·rw[if_pos c2,LL r (e::X) Y _ _ (by simp;exact FG h) hX mC,Ik (X:=Y) (FW c2 hX),GK (X:=e::X) (FW c2 hX),AG];rfl
   ·rw[if_neg c2]
    obtain rfl:e=a:=by lia
    rw[LL r X Y _ _ ADp mB mC,JK (.head _),JK (.head _)]
    have n1:e∉X:=λhm=>by have:=(List.pairwise_cons.mp hX).1 _ hm;exact absurd this c2
    have n2:e∉Y:=λhm=>by have:=(List.pairwise_cons.mp hY).1 _ hm;exact absurd this c2
    rw[GK n1,GK n2]
theorem Nk{X Y:Ay}(hX:Up X)(hY:Up Y):E9 X Y=(sub X Y,sub Y X):=by
 rw[e_,LL _ _ _ _ _ (Am _) hX hY];rfl
theorem WC: ∀(r:Nat) (a:Nat) (X Y m u:Ay),(a::X).length+Y.length<=r->Up (a::X)->Up Y->(∃y∈Y,a<=y)->KP (r+1) (a::a::X) Y m u=(m++sub (a::X) Y,u++sub Y (a::X))
 |r,a,X,[],m,u,h,hX,hY,⟨y,hy,_⟩=>nomatch hy
 |0,a,X,b::Y,m,u,h,hX,hY,_=>by simp at h
 |r+1,a,X,b::Y,m,u,h,hX,hY,⟨y,hy,yx⟩=>by
  simp only[Ap] at h;have mB:=(List.pairwise_cons.mp hX).2;have mC:=(List.pairwise_cons.mp hY).2;rw[KP,Jw ADt,N8 hX,N8 hY]
  by_cases c1:a<b
  ·rw[if_pos c1,LL _ X (b::Y) _ _ (by simp;lia) mB hY,Ik (FW c1 hY),GK (FW c1 hY),AG];rfl
  ·rw[if_neg c1]
   by_cases c2:b<a
   ·have ml:y∈Y:=by
     rcases List.mem_cons.mp hy with rfl|h
     ·exact absurd yx (Nat.not_le.mpr c2)
     ·exact h
    rw[if_pos c2,WC r a X Y _ _ (by simp;exact FG h) hX mC ⟨y,ml,yx⟩,Ik (X:=Y) (FW c2 hX),GK (X:=a::X) (FW c2 hX),AG];rfl
   ·rw[if_neg c2]
    obtain rfl:a=b:=by lia
    rw[LL _ X Y _ _ ADp mB mC,JK (.head _),JK (.head _)]
    have n1:a∉X:=λhm=>by have:=(List.pairwise_cons.mp hX).1 _ hm;exact absurd this c2
    have n2:a∉Y:=λhm=>by have:=(List.pairwise_cons.mp hY).1 _ hm;exact absurd this c2
    rw[GK n1,GK n2]
theorem WD{a:Nat}{X Y:Ay}(hX:Up (a::X))(hY:Up Y)(h: ∃y∈Y,a<=y):E9 (a::a::X) Y=(sub (a::X) Y,sub Y (a::X)):=by
 have e:(a::a::X).length+Y.length=(a::X).length+Y.length+1:=by simp;exact HJ _ _ _
 rw[e_,e,WC _ _ _ _ _ _ (Am _) hX hY h];rfl
theorem Tn(v:Nat)(X Y:Ay)(j:Nat):JB (v::X) Y (j+1)=match X[j]? with|none=>[]|some w=>if w∈Y∨w∈v::X.take j then [] else [w]:=by
 unfold JB;rw[LR,JD]<;>cases X[j]? <;>rfl
theorem N_{X Y:Ay}(hX:X.Nodup):D3 X Y=sub X Y:=by
 have key: ∀j,j<=X.length->Hp (JB X Y) j=sub (X.take j) Y:=by
  intro j
  induction j with
  |zero=>intro _;simp[Hp,sub]
  |succ j ih=>
   intro hj;rw[FJ,ih (Cw hj)];have hx:X[j]? =some X[j]:=AJ (hj);have zQ:X[j]∉X.take j:=λhm=>by
    obtain⟨i,hi,e⟩:=List.mem_iff_getElem.mp hm;rw[C5] at hi;rw[List.getElem_take] at e
    exact(List.pairwise_iff_getElem.mp hX) i j ADp (hj) ADp e
   rw[FF,hx];unfold JB;rw[hx];unfold sub;rw[PZ]
   by_cases c:X[j]∈Y
   ·simp[c]
   ·simp[c,zQ]
 have:=key X.length (Am _)
 rw[Gc] at this;exact this
theorem dc{a:Nat}{X Y:Ay}:D3 (a::a::X) Y=D3 (a::X) Y:=by
 have key: ∀j,Hp (JB (a::a::X) Y) (j+2)=Hp (JB (a::X) Y) (j+1):=by
  intro j
  induction j with
  |zero=>
   rw[FJ,FJ,FJ];simp[Hp,JB]
  |succ j ih=>
   rw[FJ,ih,FJ (JB (a::X) Y) (j+1)]
   congr 1
   rw[Tn,Tn,LR,JD];cases X[j]? with
   |none=>rfl
   |some w=>simp
 exact key X.length
theorem Xa{X Y Z:Ay}(h: ∀v,v∈Y↔v∈Z):D3 X Y=D3 X Z:=by
 unfold D3
 congr 1
 funext j
 unfold JB;cases X[j]? with
 |none=>rfl
 |some v=>simp only[h]
theorem Up.nodup{l:Ay}(h:Up l):l.Nodup:=h.imp λh=>Nat.ne_of_lt h
theorem Zr{P W:Ay}(hP:Up P)(hW:Up W):EG P W=P.filter (λv=>decide (v∈W)):=by
 unfold EG;rw[Nk hW hP]
 show(E9 (sub P W) P).2=_
 rw[Nk (hP.sublist Gr) hP];show sub P (sub P W)=_;unfold sub;refine FE λv hv=>?_;simp[hv]
theorem iZ{P W:Ay}{a:Nat}(hP:Up P)(hW:Up (a::W))(h: ∃y∈P,a<=y):EG P (a::a::W)=P.filter (λv=>decide (v∈a::W)):=by
 unfold EG;rw[WD hW hP h]
 show(E9 (sub P (a::W)) P).2=_
 rw[Nk (hP.sublist Gr) hP];show sub P (sub P (a::W))=_;unfold sub;refine FE λv hv=>?_;simp[hv]
noncomputable abbrev LF(sz:Ay)(b j:Nat):Nat:=((sz.take j).drop b).sum
theorem dp{sz:Ay}{b j k:Nat}(h:j<=k):LF sz b j<=LF sz b k:=by
 unfold LF
 have:(sz.take j).drop b=((sz.take k).drop b).take (j-b):=by
  rw[Nt,Nt,List.take_take]
  congr 1;lia
 rw[this];have h2:=congrArg List.sum (CQ (j-b) ((sz.take k).drop b));rw[G7] at h2
 lia
theorem MQ(sz:Ay)(st:Nat)(rm:Int): ∀(r a:Nat),a+r=sz.length->a<=HT sz st rm r a/\HT sz st rm r a<=sz.length/\(∀j,a<=j->j<HT sz st rm r a->((LF sz st (j+1):Nat):Int)<=rm)/\(HT sz st rm r a<sz.length-> ¬((LF sz st (HT sz st rm r a+1):Nat):Int)<=rm)
 |0,a,h=>⟨Am _,by rw[HT];lia,λj h1 h2=>by rw[HT] at h2;lia,λh2=>by rw[HT] at h2;lia⟩
 |r+1,a,h=>by
  rw[HT]
  split
  ·rename_i c
   obtain⟨h1,h2,h3,h4⟩:=MQ sz st rm r (a+1) ADp
   refine⟨by lia,h2,λj j1 j2=>?_,h4⟩
   by_cases e:j=a
   ·subst e;exact c
   ·exact h3 j ADp j2
  ·rename_i c
   exact⟨Am _,by lia,λj j1 j2=>by lia,λYa=>c⟩
theorem Zx{sz:Ay}{st:Nat}{rm:Int}(h:st<=sz.length):st<=Cq sz st rm:=(MQ sz st rm (sz.length-st) st ADp).1
theorem QH{sz:Ay}{st:Nat}{rm:Int}(h:st<=sz.length):Cq sz st rm<=sz.length:=(MQ sz st rm (sz.length-st) st ADp).2.1
theorem IT{sz:Ay}{st j:Nat}{rm:Int}(h:st<j)(hj:j<=sz.length):j<=Cq sz st rm↔((LF sz st j:Nat):Int)<=rm:=by
 obtain⟨h1,h2,h3,h4⟩:=MQ sz st rm (sz.length-st) st ADp
 constructor
 ·intro c
  have:=h3 (j-1) ADp (by have:Cq sz st rm=HT sz st rm (sz.length-st) st:=rfl;lia)
  rwa [show j-1+1=j by lia] at this
 ·intro c
  refine Decidable.byContradiction λn=>?_;have e:Cq sz st rm=HT sz st rm (sz.length-st) st:=rfl;rw[e] at n;have h5:=h4 ADp
  have h6:=dp (sz:=sz) (b:=st) (j:=HT sz st rm (sz.length-st) st+1) (k:=j) ADp
  lia
def Ct(sz:Ay)(m:Nat):Ay:=(Ah sz.length).map λat_=>Mc (at_+1) (Cq sz at_ (m:Int))
theorem Jq(sz:Ay)(m:Nat):(Ct sz m).length=sz.length:=by simp[Ct]
theorem PU{sz:Ay}{m a:Nat}(h:a<sz.length):(Ct sz m).getD a 0=Mc (a+1) (Cq sz a (m:Int)):=by
 rw[Ad,AJ (by rw[Jq];exact h)]
 simp[Ct]
theorem QF(a b:Nat):Mc a b=if a<=b then b else a:=by show max a b=_;exact Nat.max_def
theorem WH{sz:Ay}{m a:Nat}(h:a<sz.length):a<(Ct sz m).getD a 0/\(Ct sz m).getD a 0<=sz.length:=by
 rw[PU h,QF]
 have:=QH (sz:=sz) (st:=a) (rm:=(m:Int)) ADp
 split<;>lia
theorem Rw{S:Ay}(hS: ∀i,i<S.length->i<S.getD i 0): ∀(r q a:Nat),S.length<=a+r->S.length<=a+q->GN S r a=GN S q a
 |0,0,a,h1,h2=>rfl
 |0,q+1,a,h1,h2=>by rw[GN,GN,if_neg ADp]
 |r+1,0,a,h1,h2=>by rw[GN,GN,if_neg ADp]
 |r+1,q+1,a,h1,h2=>by
  rw[GN,GN]
  by_cases c:a<S.length
  ·rw[if_pos c,if_pos c]
   have:=hS a c
   rw[Rw hS r q _ ADp ADp]
  ·rw[if_neg c,if_neg c]
theorem IY{S:Ay}(hS: ∀i,i<S.length->i<S.getD i 0){a:Nat}(h:a<S.length):BI S a=a::BI S (S.getD a 0):=by
 unfold BI;obtain⟨r,hr⟩: ∃r,S.length-a=r+1:=⟨S.length-a-1,by lia⟩
 have:=hS a h
 rw[hr,GN,if_pos h,Rw hS r (S.length-S.getD a 0) _ ADp ADp]
theorem Jt{S:Ay}{a:Nat}(h:S.length<=a):BI S a=[a]:=by
 unfold BI;rw[show S.length-a=0 by lia];rfl
theorem fI{S:Ay}(hS: ∀i,i<S.length->i<S.getD i 0/\S.getD i 0<=S.length): ∀(r a:Nat),S.length<=a+r->a<=S.length->Up (BI S a)/\(∀v∈BI S a,a<=v/\v<=S.length)/\S.length∈BI S a
 |0,a,h,h2=>by
  rw[Jt ADp]
  refine⟨LU _ _,λv hv=>?_,?_⟩
  ·rw[List.mem_singleton.mp hv];lia
  ·rw[Cv];lia
 |r+1,a,h,h2=>by
  by_cases c:a<S.length
  ·obtain⟨u1,u2⟩:=hS a c
   obtain⟨i1,i2,i3⟩:=fI hS r (S.getD a 0) ADp u2
   rw[IY (λi hi=>(hS i hi).1) c];refine⟨List.pairwise_cons.mpr ⟨λv hv=>?_,i1⟩,λv hv=>?_,.tail _ i3⟩
   ·have:=i2 v hv;lia
   ·rcases List.mem_cons.mp hv with rfl|hv
    ·lia
    ·have:=i2 v hv;lia
  ·rw[Jt ADp]
   refine⟨LU _ _,λv hv=>?_,?_⟩
   ·rw[List.mem_singleton.mp hv];lia
   ·rw[Cv];lia
noncomputable def Ml:Ay->Nat->Ay
 |[],s=>[s]
 |c::r,s=>s::Ml r (s+c)
abbrev CT(c:Str×Str):Nat:=c.1.length+c.2.length
def Fb(x:Str):Nat:=x.cps.toList.count 32
structure WQ(c:Str×Str):Prop where
 one:(c.1.cps.toList++c.2.cps.toList).count 32=1
theorem JF: ∀{cur:Ed},(∀c∈cur,WQ c)->Fb (Fa cur)=cur.length:=by
 intro cur h;unfold Fb;rw[KA]
 induction cur with
 |nil=>rfl
 |cons c r ih=>
  show((c.1.cps.toList++c.2.cps.toList)++DI r).count 32=_
  rw[QW,(h c (.head _)).one,ih λd hd=>h d (.tail _ hd),Ap];lia
theorem JZ(cs:Ed)(b j:Nat):M6 ((cs.take j).drop b)=LF (cs.map CT) b j:=by
 unfold M6 LF;rw[<-F3,<-Dk]
section
variable{cs:Ed}{m:Nat}
theorem LA{b j:Nat}(hb:b<=j)(hj:j<cs.length):(cs.take j).drop b++[cs[j]]=(cs.take (j+1)).drop b:=by
 rw[FF,AJ hj,List.drop_append_of_le_length (by rw[C5];lia)];rfl
theorem Ji{j:Nat}(hj:j<cs.length):[cs[j]]=(cs.take (j+1)).drop j:=by
 rw[<-LA (Am j) hj,EW (by rw[C5];lia)];rfl
theorem K_{b j:Nat}(hj:j<=cs.length):((cs.take j).drop b).length=j-b:=by rw[A6,C5];lia
theorem KL(h1: ∀c∈cs,WQ c)(b j:Nat): ∀c∈(cs.take j).drop b,WQ c:=λc hc=>h1 c (List.mem_of_mem_take (EI hc))
theorem PG(h1: ∀c∈cs,WQ c): ∀(r b j:Nat) (rows:List Str),j+r=cs.length->b<j->(j=b+1∨LF (cs.map CT) b j<=m)->
 ∃rs,((cs.drop j).foldl (Ab.step m) ⟨rows,(cs.take j).drop b,0⟩).out=rows++rs/\Ml (rs.map Fb) b=BI (Ct (cs.map CT) m) b:=by
 have hN:(cs.map CT).length=cs.length:=AD _;have hL:(Ct (cs.map CT) m).length=cs.length:=by rw[Jq,hN]
 have hS: ∀i,i<(Ct (cs.map CT) m).length->i<(Ct (cs.map CT) m).getD i 0:=λi hi=>(WH (m:=m) ADp).1
 intro r
 induction r with
 |zero=>
  intro b j rows h hb hc;have hj:j=cs.length:=by lia
  subst hj;refine⟨[Fa ((cs.take cs.length).drop b)],?_,?_⟩
  ·rw[List.drop_length];rfl
  ·have Ms:(Ct (cs.map CT) m).getD b 0=cs.length:=by
    rw[PU ADp,QF]
    have:=QH (sz:=cs.map CT) (st:=b) (rm:=(m:Int)) ADp
    rcases hc with hc|hc
    ·split<;>lia
    ·have:=(IT (sz:=cs.map CT) (st:=b) (j:=cs.length) (rm:=(m:Int)) ADp ADp).mpr ADp
     split<;>lia
   rw[IY hS ADp,Ms,Jt ADp]
   simp only[Aw,EC,Ml];rw[JF (KL h1 _ _),K_ (Am _)]
   congr 2;lia
 |succ r ih=>
  intro b j rows h hb hc;have hj:j<cs.length:=by lia
  rw[BR hj,C0]
  by_cases c:LF (cs.map CT) b (j+1)<=m
  ·have e:Ab.step m ⟨rows,(cs.take j).drop b,0⟩ cs[j]=⟨rows,(cs.take (j+1)).drop b,0⟩:=by
    unfold Ab.step
    dsimp only
    rw[LA ADp hj,JZ,if_pos ADp]
   rw[e];exact ih b (j+1) rows ADp ADp (.inr c)
  ·have CD:(cs.take j).drop b≠[]:=λe=>by
    have:=K_ (cs:=cs) (b:=b) (j:=j) ADp
    rw[e] at this;simp at this;lia
   have e:Ab.step m ⟨rows,(cs.take j).drop b,0⟩ cs[j]=⟨rows++[Fa ((cs.take j).drop b)],(cs.take (j+1)).drop j,0⟩:=by
    unfold Ab.step
    dsimp only
    rw[LA ADp hj,JZ,if_neg ADp,<-Ji hj]
    cases hq:(cs.take j).drop b with
    |nil=>exact absurd hq CD
    |cons _ _=>rfl
   rw[e];obtain⟨rs,h2,h3⟩:=ih j (j+1) (rows++[Fa ((cs.take j).drop b)]) ADp ADp (.inl rfl)
   refine⟨Fa ((cs.take j).drop b)::rs,by rw[h2,AG];rfl,?_⟩
   have Ms:(Ct (cs.map CT) m).getD b 0=j:=by
    rw[PU ADp,QF]
    have n1: ¬j+1<=Cq (cs.map CT) b (m:Int):=λq=>by
     have:=(IT (sz:=cs.map CT) (st:=b) (j:=j+1) (rm:=(m:Int)) ADp ADp).mp q
     lia
    rcases hc with hc|hc
    ·split<;>lia
    ·have:=(IT (sz:=cs.map CT) (st:=b) (j:=j) (rm:=(m:Int)) ADp ADp).mpr ADp
     split<;>lia
   rw[IY hS ADp,Ms,<-h3]
   simp only[Aw,Ml];rw[JF (KL h1 _ _),K_ ADp,show b+(j-b)=j by lia]
theorem lw(h1: ∀c∈cs,WQ c){b:Nat}(hb:b<cs.length):Ml ((Hk m (cs.drop b)).map Fb) b=BI (Ct (cs.map CT) m) b:=by
 unfold Hk;rw[BR hb,C0];have e:Ab.step m (H7 0) cs[b]=⟨[],(cs.take (b+1)).drop b,0⟩:=by
  unfold Ab.step H7
  dsimp only
  split
  ·rw[<-Ji hb];rfl
  ·rw[<-Ji hb];rfl
 rw[e];obtain⟨rs,h2,h3⟩:=PG (m:=m) h1 (cs.length-(b+1)) b (b+1) [] ADp ADp (.inl rfl)
 rw[h2];exact h3
theorem Zb(h1: ∀c∈cs,WQ c){h:Nat}: ∀(r b j:Nat),j+r=cs.length->b<j->h+LF (cs.map CT) b j<=m->
 Ml ((((cs.drop j).foldl (Ab.step m) ⟨[],(cs.take j).drop b,h⟩).out).map Fb) b=b::BI (Ct (cs.map CT) m) (Cq (cs.map CT) b ((m:Int)-(h:Int))):=by
 have hN:(cs.map CT).length=cs.length:=AD _;have hL:(Ct (cs.map CT) m).length=cs.length:=by rw[Jq,hN]
 intro r
 induction r with
 |zero=>
  intro b j hr hb hc;have hj:j=cs.length:=by lia
  subst hj;have Ms:Cq (cs.map CT) b ((m:Int)-(h:Int))=cs.length:=by
   have:=QH (sz:=cs.map CT) (st:=b) (rm:=(m:Int)-(h:Int)) ADp
   have:=(IT (sz:=cs.map CT) (st:=b) (j:=cs.length) (rm:=(m:Int)-(h:Int)) ADp ADp).mpr ADp
   lia
  rw[Ms,Jt ADp,List.drop_length]
  show Ml ([Fa ((cs.take cs.length).drop b)].map Fb) b=_;simp only[Aw,EC,Ml];rw[JF (KL h1 _ _),K_ (Am _)]
  congr 2;lia
 |succ r ih=>
  intro b j hr hb hc;have hj:j<cs.length:=by lia
  rw[BR hj,C0]
  by_cases c:h+LF (cs.map CT) b (j+1)<=m
  ·have e:Ab.step m ⟨[],(cs.take j).drop b,h⟩ cs[j]=⟨[],(cs.take (j+1)).drop b,h⟩:=by
    unfold Ab.step
    dsimp only
    rw[LA ADp hj,JZ,if_pos ADp]
   rw[e];exact ih b (j+1) ADp ADp c
  ·have CD:(cs.take j).drop b≠[]:=λe=>by
    have:=K_ (cs:=cs) (b:=b) (j:=j) ADp
    rw[e] at this;simp at this;lia
   have e:Ab.step m ⟨[],(cs.take j).drop b,h⟩ cs[j]=⟨[Fa ((cs.take j).drop b)],(cs.take (j+1)).drop j,0⟩:=by
    unfold Ab.step
    dsimp only
    rw[LA ADp hj,JZ,if_neg ADp,<-Ji hj]
    cases hq:(cs.take j).drop b with
    |nil=>exact absurd hq CD
    |cons _ _=>rfl
   rw[e];obtain⟨rs,h2,h3⟩:=PG (m:=m) h1 r j (j+1) [Fa ((cs.take j).drop b)] ADp ADp (.inl rfl)
   rw[h2];have Ms:Cq (cs.map CT) b ((m:Int)-(h:Int))=j:=by
    have n1: ¬j+1<=Cq (cs.map CT) b ((m:Int)-(h:Int)):=λq=>by
     have:=(IT (sz:=cs.map CT) (st:=b) (j:=j+1) (rm:=(m:Int)-(h:Int)) ADp ADp).mp q
     lia
    have:=(IT (sz:=cs.map CT) (st:=b) (j:=j) (rm:=(m:Int)-(h:Int)) ADp ADp).mpr ADp
    lia
   rw[Ms,<-h3];simp only[A5,Al,Aw,Ml];rw[JF (KL h1 _ _),K_ ADp,show b+(j-b)=j by lia]
theorem ig(h1: ∀c∈cs,WQ c){h b:Nat}(hh:0<h)(hb:b<cs.length):
 Ml ((C4 m h (cs.drop b)).map Fb) b=b::BI (Ct (cs.map CT) m) (Cq (cs.map CT) b ((m:Int)-(h:Int))):=by
 have hN:(cs.map CT).length=cs.length:=AD _;unfold C4;rw[BR hb,C0];have hp:LF (cs.map CT) b (b+1)=M6 [cs[b]]:=by rw[<-JZ,<-Ji hb]
 by_cases c:h+M6 [cs[b]]<=m
 ·have e:Ab.step m (H7 h) cs[b]=⟨[],(cs.take (b+1)).drop b,h⟩:=by
   unfold Ab.step H7
   dsimp only
   rw[Al,if_pos c,<-Ji hb]
  rw[e];exact Zb h1 (cs.length-(b+1)) b (b+1) ADp ADp ADp
 ·have e:Ab.step m (H7 h) cs[b]=⟨[eS],(cs.take (b+1)).drop b,0⟩:=by
   unfold Ab.step H7
   dsimp only
   rw[Al,if_neg c,if_neg ADp,<-Ji hb];rfl
  rw[e];obtain⟨rs,h2,h3⟩:=PG (m:=m) h1 (cs.length-(b+1)) b (b+1) [eS] ADp ADp (.inl rfl)
  rw[h2];have Ms:Cq (cs.map CT) b ((m:Int)-(h:Int))=b:=by
   have n1: ¬b+1<=Cq (cs.map CT) b ((m:Int)-(h:Int)):=λq=>by
    have:=(IT (sz:=cs.map CT) (st:=b) (j:=b+1) (rm:=(m:Int)-(h:Int)) ADp ADp).mp q
    lia
   have:=Zx (sz:=cs.map CT) (st:=b) (rm:=(m:Int)-(h:Int)) ADp
   lia
  rw[Ms,<-h3]
  rfl
end
def G_(S:Ay):Prop:= ∀i,i<S.length->i<S.getD i 0/\S.getD i 0<=S.length
theorem Xu(sz:Ay)(m:Nat):G_ (Ct sz m):=λi hi=>by
 rw[Jq] at hi⊢;exact WH hi
section
variable{S:Ay}
theorem G_.w(h:G_ S){a:Nat}(ha:a<=S.length):Up (BI S a)/\(∀v∈BI S a,a<=v/\v<=S.length)/\S.length∈BI S a:=fI h (S.length-a) a ADp ha
theorem G_.one(h:G_ S): ∀i,i<S.length->i<S.getD i 0:=λi hi=>(h i hi).1
theorem RE(h:G_ S){c:Nat}: ∀(r a:Nat),S.length<=a+r->a<=S.length->c∈BI S a-> ∀v,(v∈BI S a/\c<=v)↔v∈BI S c
 |0,a,hr,ha,hc,v=>by
  have e:a=S.length:=Nat.le_antisymm ha hr;subst e;rw[Jt (Am _)] at hc⊢;rw[Cv] at hc;subst hc;rw[Jt (Am _),Cv]
  constructor
  ·exact λh=>h.1
  ·exact λh=>⟨h,Ge (Eq.symm h)⟩
 |r+1,a,hr,ha,hc,v=>by
  by_cases ub:c=a
  ·subst ub
   exact⟨λh=>h.1,λhv=>⟨hv,((h.w ha).2.1 v hv).1⟩⟩
  ·by_cases IP:a<S.length
   ·rw[IY h.one IP] at hc⊢
    have yy:c∈BI S (S.getD a 0):=by
     rcases List.mem_cons.mp hc with e|e
     ·exact absurd e ub
     ·exact e
    obtain⟨u1,u2⟩:=h a IP;have hac:=((h.w u2).2.1 c yy).1;rw[<-RE h r (S.getD a 0) ADp u2 yy v]
    constructor
    ·rintro⟨hv,uf⟩
     rcases List.mem_cons.mp hv with e|e
     ·lia
     ·exact⟨e,uf⟩
    ·rintro⟨hv,uf⟩
     exact⟨.tail _ hv,uf⟩
   ·have e:a=S.length:=by lia
    subst e;rw[Jt (Am _),Cv] at hc;exact absurd hc ub
theorem sa{l m:Ay}(hl:Up l)(hm:Up m)(h: ∀v,v∈l↔v∈m):l=m:=by
 induction l generalizing m with
 |nil=>
  cases m with
  |nil=>rfl
  |cons b m=>exact absurd ((h b).mpr (.head _)) ADt
 |cons a l ih=>
  cases m with
  |nil=>exact absurd ((h a).mp (.head _)) ADt
  |cons b m=>
   obtain⟨l1,l2⟩:=List.pairwise_cons.mp hl;obtain⟨m1,m2⟩:=List.pairwise_cons.mp hm;have e:a=b:=by
    have ha:=(h a).mp (.head _);have hb:=(h b).mpr (.head _)
    rcases List.mem_cons.mp ha with e|ha
    ·exact e
    ·rcases List.mem_cons.mp hb with e|hb
     ·exact e.symm
     ·have:=m1 a ha;have:=l1 b hb;lia
   subst e;rw[ih l2 m2 λv=>?_]
   constructor
   ·intro hv
    rcases List.mem_cons.mp ((h v).mp (.tail _ hv)) with e|e
    ·subst e;have:=l1 v hv;lia
    ·exact e
   ·intro hv
    rcases List.mem_cons.mp ((h v).mpr (.tail _ hv)) with e|e
    ·subst e;have:=m1 v hv;lia
    ·exact e
def PO(X Y:Ay):Nat:=(X.filter λv=>decide (v∈Y)).headD 0
theorem XN{l:Ay}(hl:Up l)(p:Nat->Bool){x:Nat}(hx:x∈l)(hp:p x=true):(l.filter p).headD 0∈l/\p ((l.filter p).headD 0)=true/\ ∀v∈l,p v=true->(l.filter p).headD 0<=v:=by
 have hu:=hl.sublist (Gr (p:=p));have hm:x∈l.filter p:=List.mem_filter.mpr ⟨hx,hp⟩;cases h:l.filter p with
 |nil=>rw[h] at hm;cases hm
 |cons a r=>
  rw[h] at hu;have ha:a∈l.filter p:=by rw[h];exact .head _
  obtain⟨a1,a2⟩:=List.mem_filter.mp ha;refine⟨a1,a2,λv hv hpv=>?_⟩
  have:v∈l.filter p:=List.mem_filter.mpr ⟨hv,hpv⟩
  rw[h] at this
  rcases List.mem_cons.mp this with rfl|hv
  ·exact Am _
  ·exact Cw ((List.pairwise_cons.mp hu).1 v hv)
theorem dn(h:G_ S){a b:Nat}(ha:a<=S.length)(hb:b<=S.length):
 E9 (BI S a) (BI S b)=((BI S a).filter (λv=>decide (v<PO (BI S a) (BI S b))),(BI S b).filter (λv=>decide (v<PO (BI S a) (BI S b)))):=by
 obtain⟨a1,a2,a3⟩:=h.w ha;obtain⟨b1,b2,b3⟩:=h.w hb;obtain⟨m1,m2,m3⟩:=XN a1 (λv=>decide (v∈BI S b)) a3 (by simpa using b3)
 have m2:PO (BI S a) (BI S b)∈BI S b:=of_decide_eq_true m2;have m1:PO (BI S a) (BI S b)∈BI S a:=m1;have m3: ∀v∈BI S a,v∈BI S b->PO (BI S a) (BI S b)<=v:=λv hv hv2=>m3 v hv (by simpa using hv2)
 have ta:=RE h (S.length-a) a ADp ha m1
 have tb:=RE h (S.length-b) b ADp hb m2
 rw[Nk a1 b1];unfold sub
 congr 1
 ·refine FE λv hv=>?_
  rw[decide_eq_decide]
  constructor
  ·intro hn
   refine LW λhle=>hn ?_
   exact((tb v).mpr ((ta v).mp ⟨hv,hle⟩)).1
  ·intro IP hm
   have:=m3 v hv hm
   exact absurd IP (Nat.not_lt.mpr this)
 ·refine FE λv hv=>?_
  rw[decide_eq_decide]
  constructor
  ·intro hn
   refine LW λhle=>hn ?_
   exact((ta v).mpr ((tb v).mp ⟨hv,hle⟩)).1
  ·intro IP hm
   have:=m3 v hm hv
   exact absurd IP (Nat.not_lt.mpr this)
theorem YB(h:G_ S){a n o:Nat}(ha:a<S.length)(hn:a<=n)(ma:n<=S.length)(ho:o<=S.length):
 E9 (a::BI S n) (BI S o)=(D3 (a::BI S n) (BI S o),D3 (BI S o) (a::BI S n)):=by
 obtain⟨o1,o2,o3⟩:=h.w ho;obtain⟨n1,n2,n3⟩:=h.w ma
 by_cases c:a=n
 ·subst c
  have e:=IY h.one ha;obtain⟨W,hW⟩: ∃W,BI S a=a::W:=⟨_,e⟩;rw[hW] at n1⊢;rw[WD n1 o1 ⟨_,o3,ma⟩,dc,N_ n1.nodup,Xa (Y:=a::a::W) (Z:=a::W) ADt,N_ o1.nodup]
 ·have hu:Up (a::BI S n):=List.pairwise_cons.mpr ⟨λv hv=>by have:=(n2 v hv).1;lia,n1⟩
  rw[Nk hu o1,N_ hu.nodup,N_ o1.nodup]
theorem VC(h:G_ S){a:Nat}(ha:a<=S.length):(Ah (S.length+1)).filter (λv=>decide (v∈BI S a))=BI S a:=by
 obtain⟨a1,a2,a3⟩:=h.w ha;refine sa ((Mb).sublist Gr) a1 λv=>?_;rw[List.mem_filter,Nw,decide_eq_true_iff];exact⟨λq=>q.2,λq=>⟨by have:=a2 v q;lia,q⟩⟩
theorem ib(h:G_ S){a n:Nat}(ha:a<S.length)(hn:a<=n)(ma:n<=S.length):
 EG (EG (Ah (S.length+1)) (BI S a)) (a::BI S n)=(BI S a).filter (λv=>decide (v∈a::BI S n)):=by
 obtain⟨a1,a2,a3⟩:=h.w (Cw ha);obtain⟨n1,n2,n3⟩:=h.w ma;rw[Zr Mb a1,VC h (Cw ha)]
 by_cases c:a=n
 ·subst c
  obtain⟨W,hW⟩: ∃W,BI S a=a::W:=⟨_,IY h.one ha⟩;rw[hW] at a1 a3⊢;rw[iZ a1 a1 ⟨_,a3,ma⟩];refine FE λv hv=>?_;rw[decide_eq_decide];simp
 ·have hu:Up (a::BI S n):=List.pairwise_cons.mpr ⟨λv hv=>by have:=(n2 v hv).1;lia,n1⟩
  rw[Zr a1 hu]
theorem PM: ∀(r:Bool) (l:Ay),E6 r l l=false
 |r,[]=>by cases r<;>rfl
 |r,a::l=>by rw[E6,if_pos rfl];exact PM r l
theorem eB(p q:Nat):decide (EY (BI S p) (BI S q)<0)=decide (p<q):=by
 by_cases c:p=q
 ·subst c
  unfold EY;rw[PM,PM];simp
 ·have e1:E6 true (BI S p) (BI S q)=decide (q<p):=by
   unfold BI;rw[E6,if_neg c];rfl
  have e2:E6 false (BI S p) (BI S q)=decide (p<q):=by
   unfold BI;rw[E6,if_neg c];rfl
  unfold EY;rw[e1,e2,decide_eq_decide]
  by_cases d:p<q
  ·have: ¬q<p:=by lia
   simp[d,this]
  ·have:q<p:=by lia
   simp[d,this]
end
structure LC where
 wi:Nat
 hd:Nat
 ch:Nat
 sz:Nat
 st:Nat
 du:Nat
 be:Nat
 ba:Nat
 na:Nat
 wa:Nat
 ot:Nat
 pl:Nat
abbrev lwC(K:LC):List (Str×Addr):=[(OF,K.pl+323),(WO,K.ot+323),(CJ,K.wa+323),(QT,K.na+323),(fF,K.ba+323),(RC,K.be+323),(pp,K.du+323),(FQ,K.st+323),(Ej,K.sz+323),(DK,K.ch+323),(QS,K.hd+323),(ER,K.wi+323)]
abbrev Fi(B:Bx)(K:LC)(L:Nat):Env:=AR B.P 322 (lwC K) (L+323)
noncomputable abbrev IS(a:Addr)(xs:Ak):Bi:=.one a (.ex ⟨.type "list",none,.seq ⟨xs⟩ 0,⟨[]⟩⟩)
include O
def bw(U:AA 3 A)(a:Addr)(xs:Ak):Ag B.C A:=
 DN O U "list.__len__" [.ref a] [IS a xs] (λk:Nat=>.int (xs.length:Int) k) (λk=>[IS a xs]) (λU=>.g 65<|.fi () [0]) λU=>.g 65<|.fr λk0=>.fi (k0) [0]
theorem gy(U:AA 4 A)(a:Addr)(xs:Ak):
 AC B.C A (ED (.ref a) "__len__") [IS a xs]
  (λk:Nat=>some (Be (xs.length:Int) k))
  (λk=>[IS a xs]):=
 rn O U (.g 65<|.cc (bw O U.l a xs) [0] λy0=>.fi (y0) [0])
theorem kZ(U:AA 1 A)(a:Addr)(sl:Nat)(xs:Ak)(u v:Value):
 AS B A (AU "list.__getitem__" ⟨[.ref a,.ref (sl+323)],[]⟩) [IS a xs,F8 sl u v] () [IS a xs,F8 sl u v]:=
 by apply Hc O U (.g 65<|.fi () [0,0])
omit O
theorem R7{C:Cx}{A:AL}(O:C.Ok){l sl:Addr}{c:Value}{d:Option Addr}{xs:Ak}{n:Nat}{vl vu:Value}{lo hi:Option Int}(pl:PY vl lo)(pu:PY vu hi)(hx:xs.length<=1000){ys:Ak}
 (hy:(RI ⟨xs⟩ lo hi none).toList=ys):
 AC C A (Builtin.«list.__getitem__» ⟨[.ref l,.ref sl],[]⟩) [.one l (.ex ⟨c,d,.seq ⟨xs⟩ n,⟨[]⟩⟩),.one sl (.ex ⟨.type "slice",none,.fields ⟨[vl,vu,.none]⟩,⟨[]⟩⟩)]
  (λa:Nat=>.done (.ret (.ref (a+323)))) (λa=>[.one (a+323) (.ls (.type "list") none ys),.one l (.ex ⟨c,d,.seq ⟨xs⟩ n,⟨[]⟩⟩),.one sl (.ex ⟨.type "slice",none,.fields ⟨[vl,vu,.none]⟩,⟨[]⟩⟩)]):=by
 subst hy;intro R s S;obtain⟨g,ho⟩:=S.Dj;have MK:=DV S.swap;have TW:s.TypeIs (.ref sl) "slice":=⟨_,MK,rfl⟩;have Is:(⟨xs⟩:Bs).size<=sizeLine:=AK (show xs.length<=1000 from hx) ADs
 show BN _ _ (Bb (.ref sl)>>=_) _ _ s;refine AB ?_;unfold Bb;refine AB (I_ TW J5 ?_);simp only[J1,if_true];refine AP ?_;show BN _ _ (J6 (.ref sl)>>=_) _ _ s;refine AB (H6 TW ?_);refine iN ADs ?_
 rw[H3];refine AB (AB (B9 MK rfl (x:=.none) rfl (AB (DF .none ?_))));refine iN ADs ?_
 refine AB (B9 MK rfl (x:=vl) rfl (AB (DF pl ?_)));refine AB (B9 MK rfl (x:=vu) rfl (AB (DF pu (AP ?_))));refine AB (m:=A7 (.ref l)) ?_;unfold A7;refine AB (DG ho rfl (AP ?_));refine AB (GR (Ie lo hi none xs.length ADt) ?_)
 refine AB (DS (AP ?_) (AK (Ke _ lo hi none) Is));refine⟨s.heap.objs.size-323,?_,?_⟩
 ·rw[<-S.size_eq O]
 ·rw[<-S.size_eq O]
  exact S.alloc rfl ⟨G0,rfl⟩
section
variable(B:Bx)(A:AL)(O:B.C.Ok)
def TA(U:AA 6 A)(a:Addr)(xs:Ak)(hx:xs.length<=1000):Ag B.C A where
 c:=.builtin "len" ⟨[.ref a],[]⟩
 F:=[IS a xs]
 X:=Nat×Nat
 res:=λp=>.ok (.ret (.int (xs.length:Int) p.2))
 led:=λp=>[IS a xs]
 ok:=L8 ADr K0 (IG ADp (gy O (A:=A.in1) U.l.in1 a xs))
def gZ(U:AA 6 A)(a:Addr)(v:Value)(vs:Ak)(hx:vs.length<=900):Ag B.C A:=
 (TA B A O U a (v::vs) (by simp;lia)).re (λp:Nat×Nat=>.ok (.ret (.int ((vs.length+1:Nat):Int) p.2))) (λYa=>[IS a (v::vs)]) (λp=>p) (λYa=>rfl) (λYa=>rfl)
def gX(U:AA 6 A)(a:Addr):Ag B.C A:=
 (TA B A O U a [] ADt).re (λp:Nat×Nat=>.ok (.ret (.int 0 p.2))) (λYa=>[IS a []]) (λp=>p) (λYa=>rfl) (λYa=>rfl)
def bg(U:AA 3 A)(a:Addr)(sl:Nat)(u' v:Nat)(xs:Ak)(hx:xs.length<=1000):Ag B.C A where
 c:=.call (.builtin "list.__getitem__") ⟨[.ref a,.ref (sl+323)],[]⟩
 F:=[IS a xs,F8 sl .none (.int (v:Int) u')]
 X:=Nat
 res:=λx=>.ok (.ret (.ref (x+323)))
 led:=λx=>[AE x (xs.take v),IS a xs,F8 sl .none (.int (v:Int) u')]
 ok:=BF ADr Dq (kZ O U.l.in1 a sl xs .none (.int (v:Int) u')) (R7 O .none (.int _ _) hx (by rw[slicePick_upto']))
end
include O
theorem vg(U:AA 20 A)(L:Nat)(K:LC)(ar:Addr)(v:Value)(vs:Ak)(hl:vs.length<=900):
 AC B.C A (Ac ((A4 B.P 322).take 1) (Fi B K L)) [AI L [(Cb,.ref ar)],IS ar (v::vs)]
  (λq:Nat=>.next)
  (λq=>[AI L [(Cb,.ref ar),(CZ,.ref (q+323))],AE q (v::vs.take 3),IS ar (v::vs)]):=Ix O U (.g 270465<|.cc (gZ _ _ O U.l ar v vs hl) [1] λYa=>.fr λk1=>.al λa2=>.g 270466<|.cc (bg _ _ O U.l ar a2 k1 4 (v::vs) (by first|lia|assumption|(simp<;>lia))) [1,0] λy3=>.cc (Dp O U.l) [] λYa=>.fr λk5=>.g 6340<|.fi (y3) [3,0,0])
theorem vf(U:AA 20 A)(L:Nat)(K:LC)(ar:Addr):
 AC B.C A (Ac ((A4 B.P 322).take 1) (Fi B K L)) [AI L [(Cb,.ref ar)],IS ar []]
  (λq:Nat×Nat×Nat×Nat×Nat=>.next)
  (λq=>[AI L [(Cb,.ref ar),(CZ,.ref (q.1+323))],AE q.1 [.int 21 q.2.1,.int 6 q.2.2.1,.int 3 q.2.2.2.1,.int 0 q.2.2.2.2],IS ar []]):=Ix O U (.g 270465<|.cc (gX _ _ O U.l ar) [1] λYa=>.fr λk1=>.fr λk2=>.fr λk3=>.fr λk4=>.al λa5=>.fr λk6=>.al λa7=>.g 270466<|.cc (VV _ _ O U.l a5 a7 k6 4 [.int 21 k1,.int 6 k2,.int 3 k3,.int 0 k4] (by first|lia|assumption|(simp<;>lia)|decide)) [1,0] λy8=>.cc (Dp O U.l) [] λYa=>.fr λH9=>.g 6405<|.fi (y8,k1,k2,k3,k4) [4,0,2])
noncomputable def HD:List Int->List Int
 |[]=>[21,6,3,0]
 |v::vs=>v::vs.take 3
omit O
theorem Q5(l:List Int):1<=(HD l).length/\(HD l).length<=4:=by
 cases l with
 |nil=>exact⟨by decide,by decide⟩
 |cons v vs=>simp only[HD,Ap,C5];lia
structure x3(l:List Int) where
 n:Nat
 zs:List (Int×Nat)
 ok:zn zs=HD l
include O
theorem zx(U:AA 20 A)(L:Nat)(K:LC)(ar:Addr)(ss:List (Int×Nat))(hl:ss.length<=900):
 AC B.C A (Ac ((A4 B.P 322).take 1) (Fi B K L)) [AI L [(Cb,.ref ar)],IS ar (ss.map zv)] (λYa:x3 (zn ss)=>.next) (λq=>[AI L [(Cb,.ref ar),(CZ,.ref (q.n+323))],AE q.n (q.zs.map zv),IS ar (ss.map zv)]):=by
 cases ss with
 |nil=>exact(vf O U L K ar).weaken λq=>⟨⟨q.1,[(21,q.2.1),(6,q.2.2.1),(3,q.2.2.2.1),(0,q.2.2.2.2)],rfl⟩,rfl,λR s S=>S⟩
 |cons v vs=>
  simp only[Ap] at hl
  exact(vg O U L K ar (zv v) (vs.map zv) (by rw[AD];lia)).weaken λq=>⟨⟨q,v::vs.take 3,by simp[zn,HD,F3]⟩,rfl,λR s S=>by
   have e:zv v::(vs.map zv).take 3=(v::vs.take 3).map zv:=by rw[Aw,F3]
   rw[<-e];exact S⟩
omit O
section
variable(B:Bx)(A:AL)(O:B.C.Ok)
def Wy(U:AA 3 A)(x sl u t:Nat)(xs:List (Int×Nat))(hx:xs.length<=1000):Ag B.C A:=
 (ND B A O U x sl u t (xs.map zv) (by rw[AD];exact hx)).re (λa:Nat=>.ok (.ret (.ref (a+323)))) (λa=>[AE a ((xs.drop u).map zv),AE x (xs.map zv),F8 sl (.int (u:Int) t) .none]) (λa=>a) (λYa=>rfl) (λa=>by show [AE a ((xs.map zv).drop u),_,_]=_;rw[Dk])
def gG(U:AA 3 A)(x y a b c:Nat)(xs:List (Int×Nat))(hx:xs.length<=1000):Ag B.C A:=
 (Kx B A O U x y (xs.map zv) [.int 0 a,.int 5 b,.int 2 c] (by rw[AD];exact hx) ADt).re (λr:Nat=>.ok (.ret (.ref (r+323)))) (λr=>[AE r ((xs++[(0,a),(5,b),(2,c)]).map zv),AE x (xs.map zv),AE y [.int 0 a,.int 5 b,.int 2 c]]) (λa=>a) (λYa=>rfl) (λr=>by rw[AZ];rfl)
end
structure xz(zs:List (Int×Nat)) where
 wt:Nat
 ht:Nat
 k1:Nat
 k2:Nat
 k3:Nat
 c:Nat
 ch:fK (zn (zs.drop 1++[(0,k1),(5,k2),(2,k3)]))
include O
theorem zy(U:AA 30 A)(L n t:Nat)(K:LC)(ar:Addr)(v:Int)(zs:List (Int×Nat))(hl:(zs.map zv).length<=1000)(Mr:zs.length<=1000)(h3:(zs.drop 1).length<=3)(hx:(zs.map zv)[0]? =some (.int v t)):
 AC B.C A (Ac (((A4 B.P 322).drop 1).take 2) (Fi B K L)) [AI L [(Cb,.ref ar),(CZ,.ref (n+323))],AE n (zs.map zv),C3 K.wi none,C3 K.hd none,C3 K.ch none]
  (λq:xz zs=>.next)
  (λq=>[AI L [(Cb,.ref ar),(CZ,.ref (n+323))],AW K.wi (.int ((2+C_ v 7:Nat):Int) q.wt),AW K.hd (.int ((1+C_ (v.fdiv ((8:Nat):Int)) 8:Nat):Int) q.ht),AW K.ch (.ref (q.c+323)),AE q.c (q.ch.AH.map It.v),Ai q.ch.AH]):=by
 obtain⟨_,_|_⟩:=B<;>exact D7 O U (.fr λk0=>.g 65<|.fr λk1=>.g 270466<|.cc (BZ O U.l n 0 k1 (B0 zv zs) (.int v t) hx hl) [1] λYa=>.fr λk3=>.cc (IK _ _ U.l v 7 t k3) [] λ(y4:Nat)=>.cc (GA _ _ O U.l 2 (C_ v 7) k0 y4) [] λ(y5:Nat)=>.fr λk6=>.g 66<|.fr λk7=>.g 266305<|.cc (BZ O U.l n 0 k7 (B0 zv zs) (.int v t) hx hl) [0] λYa=>.fr λk9=>.cc (Qo _ _ U.l v 7 t k9 (by first|lia|assumption|decide|(simp at* <;>lia))) [] λ(RG:Nat)=>.fr λQC=>.cc (IK _ _ U.l (v.fdiv ↑(7+1)) 8 RG QC) [] λ(OS:Nat)=>.cc (GA _ _ O U.l 1 (C_ (v.fdiv ↑(7+1)) 8) k6 OS) [] λ(UN:Nat)=>.al λUZ=>.g 266305<|.cc (Ff O U.l UZ [.int (↑(2+C_ v 7)) y5,.int (↑(1+C_ (v.fdiv ↑(7+1)) 8)) UN]) [0] λ(xo:Nat)=>.g 4161<|.cc (E1 O U.l xo UZ (.int (↑(2+C_ v 7)) y5) (.int (↑(1+C_ (v.fdiv ↑(7+1)) 8)) UN)) [0,0] λYa=>.g 65<|.cc (E2 O U.l xo UZ (.int (↑(2+C_ v 7)) y5) (.int (↑(1+C_ (v.fdiv ↑(7+1)) 8)) UN)) [0,0] λYa=>.g 65<|.cc (E3 O U.l xo UZ (.int (↑(2+C_ v 7)) y5) (.int (↑(1+C_ (v.fdiv ↑(7+1)) 8)) UN)) [0,0] λYa=>.g 4673546895681<|.fr λvT=>.al λtz=>.g 278788<|.cc (Wy _ _ O U.l n tz 1 vT zs Mr) [3,0] λ(y21:Nat)=>.fr λiX=>.fr λiY=>.fr λm5=>.al λt7=>.g 270402<|.cc (gG _ _ O U.l y21 t7 iX iY m5 (Cd 1 zs) (by first|lia|assumption|decide|(simp at* <;>lia))) [1,0] λ(y26:Nat)=>.g 64<|.cc (Yk O U.l y26 (Cd 1 zs++[(0,iX),(5,iY),(2,m5)]) (by first|lia|assumption|decide|(simp at* <;>lia)) (by first|lia|assumption|decide|(simp at* <;>lia))) [0] λ(y27:Nat×fK (zn (Cd 1 zs++[(0,iX),(5,iY),(2,m5)])))=>.g 6925<|.fi (⟨y5,UN,iX,iY,m5,y27.1,y27.2⟩) [9,9,9,9,0,0])
def DA(l:List Int):Ed:=Jb ((HD l).drop 1++[0,5,2])
def GG(l:List Int):Nat:=2+C_ ((HD l).headD 0) 7
def K7(l:List Int):Nat:=1+C_ (((HD l).headD 0).fdiv ((8:Nat):Int)) 8
structure xy(l:List Int) where
 n:Nat
 wt:Nat
 ht:Nat
 c:Nat
 AH:List It
 ok:AH.map It.ab=DA l
omit O
theorem su(a b:List (Int×Nat)):zn (a++b)=zn a++zn b:=AZ
theorem qG(a:List (Int×Nat))(k:Nat):zn (a.drop k)=(zn a).drop k:=Dk
include O
theorem ve(U:AA 30 A)(L:Nat)(K:LC)(ar:Addr)(ss:List (Int×Nat))(hl:ss.length<=900):
 AC B.C A (Ac ((A4 B.P 322).take 3) (Fi B K L)) [AI L [(Cb,.ref ar)],IS ar (ss.map zv),C3 K.wi none,C3 K.hd none,C3 K.ch none] (λYa:xy (zn ss)=>.next)
  (λq=>[AI L [(Cb,.ref ar),(CZ,.ref (q.n+323))],AW K.wi (.int (GG (zn ss):Int) q.wt),AW K.hd (.int (K7 (zn ss):Int) q.ht),AW K.ch (.ref (q.c+323)),AE q.c (q.AH.map It.v),Ai q.AH,IS ar (ss.map zv)]):=by
 have e:(A4 B.P 322).take 3=(A4 B.P 322).take 1++((A4 B.P 322).drop 1).take 2:=by
  rw[show(3:Nat)=1+2 from rfl,List.take_add]
 rw[e];refine AC.seq ((zx O U.l L K ar ss hl).frame [C3 K.wi none,C3 K.hd none,C3 K.ch none]) λq=>?_;obtain⟨n,zs,hz⟩:=q;obtain⟨h1,h4⟩:=Q5 (zn ss);rw[<-hz] at h1 h4;unfold zn at h1 h4;rw[AD] at h1 h4;obtain⟨v,r,rfl⟩: ∃v r,zs=v::r:=by cases zs with|nil=>simp at h1|cons v r=>exact⟨v,r,rfl⟩
 have hv:(HD (zn ss)).headD 0=v.1:=by rw[<-hz];rfl
 unfold GG K7;rw[hv];refine AC.weaken (((zy O U.l L n v.2 K ar v.1 (v::r) (by rw[AD];lia) ADp (by rw[A6];lia) rfl).frame [IS ar (ss.map zv)]).ix [0,0,1,1,1,0] rfl) λq=>⟨⟨n,q.wt,q.ht,q.c,q.ch.AH,?_⟩,rfl,λR s S=>S⟩
 rw[q.ch.ok];unfold DA;rw[<-hz,su,qG];rfl
def Iy:Expr:=vE (sN 29 3)
def lwQ:Str:=Bl [108,97,119,46,60,108,111,99,97,108,115,62,46]
abbrev Gm(e:Expr)(cl:List (Str×Addr))(L D:Nat):Env:=FM (qb e) lwQ 321 cl L D
theorem jj(U:AA 10 A)(L D c a acc i o:Nat)(xs vs:Ak)(f p:Str)(tf tp:Nat)(hx:xs[i]? =some (.ref (o+323)))(hf:f.length<=1000000)(hp:p.length<=1000000)(hv:vs.length<=1000):
 AC B.C A (BM (.compLoop Iy 0 (.ref (a+323)) (.ref (acc+323)) (Gm Iy [] L D))) [As D [],BQ a c i,AE c xs,AV o [.str f tf,.str p tp],AE acc vs]
  (λk:Nat=>.again (.compLoop Iy 0 (.ref (a+323)) (.ref (acc+323)) (Gm Iy [] L D)))
  (λk=>[As D [(DC,.str f tf),(Es,.str p tp)],BQ a c (i+1),AE c xs,AV o [.str f tf,.str p tp],AE acc (vs++[Be ((f.length+p.length:Nat):Int) k])]):=by
 obtain⟨_,_|_⟩:=B<;>exact rn O U (.g 66<|.cc (Fe O U.l a c i xs (.ref (o+323)) hx) [1,1] λYa=>.g 17842433<|.cc (Ff O U.l o [.str f tf,.str p tp]) [3] λy1=>.g 4161<|.cc (E1 O U.l y1 o (.str f tf) (.str p tp)) [0,0] λYa=>.g 65<|.cc (E2 O U.l y1 o (.str f tf) (.str p tp)) [0,0] λYa=>.g 65<|.cc (E3 O U.l y1 o (.str f tf) (.str p tp)) [0,0] λYa=>.g 65<|.fr λk5=>.g 6405<|.fr λk6=>.g 1157630213<|.cc (JQ O U.l f tf hf) [] λ(y7:Nat×Nat)=>.g 282624<|.cc (JQ O U.l p tp hp) [] λ(y8:Nat×Nat)=>.cc (GA _ _ O U.l f.length p.length y7.snd y8.snd) [] λy9=>.cc (Do O U.l acc (.int (↑(f.length+p.length)) y9) vs hv) [5] λYa=>.fi (y9) [5,3,3,2,0])
theorem jk(U:AA 10 A)(L D c a acc i o:Nat)(xs vs:Ak)(f p f' p':Str)(tf tp tf' tp':Nat)(hx:xs[i]? =some (.ref (o+323)))(hf:f.length<=1000000)(hp:p.length<=1000000)(hv:vs.length<=1000):
 AC B.C A (BM (.compLoop Iy 0 (.ref (a+323)) (.ref (acc+323)) (Gm Iy [] L D))) [As D [(DC,.str f' tf'),(Es,.str p' tp')],BQ a c i,AE c xs,AV o [.str f tf,.str p tp],AE acc vs]
  (λk:Nat=>.again (.compLoop Iy 0 (.ref (a+323)) (.ref (acc+323)) (Gm Iy [] L D)))
  (λk=>[As D [(DC,.str f tf),(Es,.str p tp)],BQ a c (i+1),AE c xs,AV o [.str f tf,.str p tp],AE acc (vs++[Be ((f.length+p.length:Nat):Int) k])]):=by
 obtain⟨_,_|_⟩:=B<;>exact rn O U (.g 66<|.cc (Fe O U.l a c i xs (.ref (o+323)) hx) [1,1] λYa=>.g 17842433<|.cc (Ff O U.l o [.str f tf,.str p tp]) [3] λy1=>.g 4161<|.cc (E1 O U.l y1 o (.str f tf) (.str p tp)) [0,0] λYa=>.g 65<|.cc (E2 O U.l y1 o (.str f tf) (.str p tp)) [0,0] λYa=>.g 65<|.cc (E3 O U.l y1 o (.str f tf) (.str p tp)) [0,0] λYa=>.g 65<|.fr λk5=>.g 6405<|.fr λk6=>.g 1157630213<|.cc (JQ O U.l f tf hf) [] λ(y7:Nat×Nat)=>.g 282624<|.cc (JQ O U.l p tp hp) [] λ(y8:Nat×Nat)=>.cc (GA _ _ O U.l f.length p.length y7.snd y8.snd) [] λy9=>.cc (Do O U.l acc (.int (↑(f.length+p.length)) y9) vs hv) [5] λYa=>.fi (y9) [5,3,3,2,0])
structure qJ(ts:Ay) where
 f:Str
 p:Str
 tf:Nat
 tp:Nat
 ks:Aa
 ok:ns ks=ts
omit O
theorem mv(ks:Aa)(x k:Nat):ks.map iv++[Be (x:Int) k]=(ks++[(x,k)]).map iv:=by rw[AZ];rfl
def It.small(i:It):Prop:=i.f.length<=1000000/\i.p.length<=1000000
theorem WI{B:Bx}(O:B.C.Ok){A:AL}(U:AA 12 A){L D c a acc:Nat}: ∀(l1 l2:List It) (ks:Aa) (f' p':Str) (tf' tp':Nat),(∀i∈l2,It.small i)->ks.length+l2.length<=900->
 AT B.C A (.compLoop Iy 0 (.ref (a+323)) (.ref (acc+323)) (Gm Iy [] L D))
  [As D [(DC,.str f' tf'),(Es,.str p' tp')],BQ a c l1.length,AE c ((l1++l2).map It.v),Ai (l1++l2),AF acc ks]
  (λYa:qJ (ns ks++l2.map It.len)=>.ok .next) (λq=>[As D [(DC,.str q.f q.tf),(Es,.str q.p q.tp)],AE c ((l1++l2).map It.v),Ai (l1++l2),AF acc q.ks])
 |l1,[],ks,f',p',tf',tp',FV,hlen=>by
  have e:=OA O (A:=A.under (.compLoop Iy 0 (.ref (a+323)) (.ref (acc+323)) (Gm Iy [] L D))) U.l.loop a c l1.length ((l1++[]).map It.v) ADt
  refine(AT.Su (X:=Unit) (led:=λYa=>[As D [(DC,.str f' tf'),(Es,.str p' tp')],AE c ((l1++[]).map It.v),Ai (l1++[]),AF acc ks]) (g0:=(OH Iy).head?.getD ⟨Au,Au,[],0⟩) rfl rfl ?_).weaken λYa=>⟨⟨f',p',tf',tp',ks,by simp⟩,rfl,λR s S=>S⟩
  exact((e.frame [As D [(DC,.str f' tf'),(Es,.str p' tp')],Ai (l1++[]),AF acc ks]).ix [1,1,0,0,0] rfl).ox [1,0,0,0] λYa=>rfl
 |l1,i::l2,ks,f',p',tf',tp',FV,hlen=>by
  obtain⟨h1,h2⟩:=FV i (.head _);simp only[Ap] at hlen;have ih:=λk=>WI O U (L:=L) (D:=D) (c:=c) (a:=a) (acc:=acc) (l1++[i]) l2 (ks++[(i.len,k)]) i.f i.p i.tf i.tp (λj hj=>FV j (.tail _ hj)) (by simp;lia)
  refine AT.pre (F:=[As D [(DC,.str f' tf'),(Es,.str p' tp')],BQ a c l1.length,AE c ((l1++i::l2).map It.v),AV i.a [.str i.f i.tf,.str i.p i.tp],AF acc ks]++[Ai (l1++l2)]) (AT.NN (Y:=Nat) (c':=λYa=>.compLoop Iy 0 (.ref (a+323)) (.ref (acc+323)) (Gm Iy [] L D)) ((jk O (A:=A.under (.compLoop Iy 0 (.ref (a+323)) (.ref (acc+323)) (Gm Iy [] L D))) U.l.loop L D c a acc l1.length i.a ((l1++i::l2).map It.v) (ks.map iv) i.f i.p f' p' i.tf i.tp tf' tp' (by simp[It.v]) h1 h2 (by rw[AD];lia)).frame [Ai (l1++l2)]) (λYa=>rfl) λk=>?_) λR s S=>?_
  ·refine((ih k).pre λR s S=>?_).weaken λq=>⟨⟨q.f,q.p,q.tf,q.tp,q.ks,by rw[q.ok];simp[ns]⟩,rfl,λR s S=>?_⟩
   ·have S1:=St.picked (L:=[_,_,_,_,_,_]) (ix:=(3::4::BW 4)) S rfl
    have S2:=S1.Vs;have S3:=St.picked (L:=[_,_,_,_,_]) (ix:=[1,1,1,0,0]) S2 rfl;rw[show l1++i::l2=l1++[i]++l2 from by simp,mv] at S3
    rw[show(l1++[i]).length=l1.length+1 from by simp]
    exact S3
   ·rw[show l1++i::l2=l1++[i]++l2 from by simp];exact S
  ·have S1:=St.picked (L:=[_,_,_,_,_]) (ix:=(3::BW 4)) S rfl
   have S2:=S1.Q2;exact St.picked (L:=[_,_,_,_,_,_]) (ix:=[2,2,2,0,1,0]) S2 rfl
include O
def W8(U:AA 13 A)(L D c a acc:Nat)(cks:List It)(CD:cks≠[])(FV: ∀i∈cks,It.small i)(hlen:cks.length<=900):Ag B.C A where
 c:=.compStart Iy 0 (.ref (a+323)) (.ref (acc+323)) (Gm Iy [] L D)
 F:=[As D [],BQ a c 0,AE c (cks.map It.v),Ai cks,AE acc []]
 X:=qJ (cks.map It.len)
 res:=λYa=>.ok .next
 led:=λq=>[As D [(DC,.str q.f q.tf),(Es,.str q.p q.tp)],AE c (cks.map It.v),Ai cks,AF acc q.ks]
 ok:=by
  obtain⟨i,l2,rfl⟩: ∃i l,cks=i::l:=by cases cks with|nil=>exact absurd rfl CD|cons i l=>exact⟨i,l,rfl⟩
  obtain⟨h1,h2⟩:=FV i (.head _);simp only[Ap] at hlen;have ih:=λk=>WI O U.l (L:=L) (D:=D) (c:=c) (a:=a) (acc:=acc) [i] l2 [(i.len,k)] i.f i.p i.tf i.tp (λj hj=>FV j (.tail _ hj)) (by simp;lia)
  refine AT.call (AT.compStart (g0:=(OH Iy).head?.getD ⟨Au,Au,[],0⟩) rfl rfl ((((NP O (A:=A.under (.compStart Iy 0 (.ref (a+323)) (.ref (acc+323)) (Gm Iy [] L D))) U.l.loop a c 0).frame [As D [],AE c ((i::l2).map It.v),Ai (i::l2),AE acc []]).ix (1::BW 4) rfl).ox (1::BW 4) λYa=>rfl) ?_);refine AT.pre (F:=[As D [],BQ a c 0,AE c ((i::l2).map It.v),AV i.a [.str i.f i.tf,.str i.p i.tp],AE acc []]++[Ai l2]) (AT.NN (Y:=Nat) (c':=λYa=>.compLoop Iy 0 (.ref (a+323)) (.ref (acc+323)) (Gm Iy [] L D)) ((jj O (A:=A.under (.compLoop Iy 0 (.ref (a+323)) (.ref (acc+323)) (Gm Iy [] L D))) U.l.loop L D c a acc 0 i.a ((i::l2).map It.v) [] i.f i.p i.tf i.tp rfl h1 h2 ADt).frame [Ai l2]) (λYa=>rfl) λk=>?_) λR s S=>?_
  ·refine((ih k).pre λR s S=>?_).weaken λq=>⟨⟨q.f,q.p,q.tf,q.tp,q.ks,by rw[q.ok];simp[ns]⟩,rfl,λR s S=>S⟩
   have S1:=St.picked (L:=[_,_,_,_,_,_]) (ix:=(3::4::BW 4)) S rfl;have S2:=St.Vs (l1:=[]) S1;exact St.picked (L:=[_,_,_,_,_]) (ix:=[1,1,1,0,0]) S2 rfl
  ·have S1:=St.picked (L:=[_,_,_,_,_]) (ix:=(3::BW 4)) S rfl
   exact St.picked (L:=[_,_,_,_,_,_]) (ix:=[2,2,2,0,1,0]) (St.Q2 (l1:=[]) S1) rfl
omit O
theorem St.qp{C:Cx}(O:C.Ok){s s':Af}{L:AN}{o:Obj}{ao:AO}(S:St C L s)(hk: ∀b o,s.heap.get? b=some o->s'.heap.get? b=some o)(hg: ∀h t,s'.toks<=t->C.Gn {s' with heap:=h,toks:=t})(ho:s'.os=s.os)
 (hn:s'.heap.get? s.heap.objs.size=some o) (ha:ao.is o):St C (.one s.heap.objs.size ao::L) s':=by
 obtain⟨H,hH,XP⟩:=S.led;have hz:s.heap.objs.size<=s'.heap.objs.size:=Cw (Cf hn);refine⟨λb o h m=>hk b o (S.old b o h m),⟨H,hH,⟨λp hp=>?_,?_,λp hp=>?_⟩⟩,hg,ho.trans S.os,AK S.size hz⟩
 ·rcases List.mem_cons.mp (show p∈(s.heap.objs.size,ao)::(Ao L++H) from hp) with rfl|hp
  ·exact⟨o,hn,ha⟩
  ·obtain⟨op,Td,hi⟩:=XP.at_ p hp
   exact⟨op,hk _ _ Td,hi⟩
 ·show((s.heap.objs.size::(Ao L++H).map (·.1))).Nodup
  refine List.nodup_cons.mpr ⟨λhm=>?_,XP.nodup⟩;obtain⟨p,hp,e⟩:=List.mem_map.mp hm;obtain⟨op,Td,_⟩:=XP.at_ p hp;exact Dl _ (e▸Cf Td)
 ·rcases List.mem_cons.mp (show p∈(s.heap.objs.size,ao)::(Ao L++H) from hp) with rfl|hp
  ·right
   cases e:C.s₁.heap.get? s.heap.objs.size with
   |none=>rfl
   |some o'=>exact absurd (D8 (Cf e) S.size) (Dl _)
  ·exact XP.new p hp
theorem iV{n:Nat}: ∀{l:Ak} (b:Nat),l.length=n->(∀(j:Nat) v,l[j]? =some v-> ∃t,v=.int ((b+j:Nat):Int) t)-> ∃ys,ys.map iv=l/\ns ys=(Ah n).map (b+ ·):=by
 induction n with
 |zero=>
  intro l b hl _;cases l with
  |nil=>exact⟨[],rfl,rfl⟩
  |cons=>simp at hl
 |succ n ih=>
  intro l b hl h;cases l with
  |nil=>simp at hl
  |cons v l=>
   obtain⟨t,rfl⟩:=h 0 v rfl;obtain⟨ys,e1,e2⟩:=ih (l:=l) (b+1) (by simpa using hl) (λj v hv=>by
    obtain⟨t,e⟩:=h (j+1) v hv;exact⟨t,by rw[e];congr 1;lia⟩)
   refine⟨(b,t)::ys,by rw[Aw,e1];rfl,?_⟩
   show b::ns ys=_;rw[e2,List.range_succ_eq_map,Aw,CK]
   congr 1
   exact CA λj _=>by show b+1+j=b+(j+1);lia
include O
def bv(hS:B.Std)(U:AA 3 A)(r n t u v:Nat)(hn:n<=1000):Ag B.C A where
 c:=.call (.type "list") ⟨[.ref (r+323)],[]⟩
 F:=[Ng r (.int 0 t) (.int (n:Int) u) (.int 1 v)]
 X:=Gk (Ah n)
 res:=λq=>.ok (.ret (.ref (q.a+323)))
 led:=λq=>[AF q.a q.ys]
 ok:=G2 λR s S=>by
  have he:=S.size_eq O;refine call_list_range (a:=0) (b:=(n:Int)) (c:=1) (t:=t) (u:=u) (v:=v) (n:=n) U.1 (DV S) (by
   have MH: ∀x:Int,0<=x->x<=2000->F7 x=true:=λx h0 h1=>by
    unfold F7;simp only[show((2:Int)^63)=9223372036854775808 by decide,FS,decide_eq_true_eq]
    lia
   have hz:CS 0 (n:Int) 1=(n:Int):=by
    unfold CS;rw[if_pos ADs]
    by_cases h:(0:Int)<(n:Int)
    ·rw[if_pos h];lia
    ·rw[if_neg h];lia
   unfold Dw;rw[hz,MH 0 ADs ADs,MH (n:Int) ADp ADp,MH 1 ADs ADs,if_pos ADs,MH ((n:Int)+(1-1)) ADp ADp,Bool.or_true]
   rfl) (by
   unfold CS;rw[if_pos ADs]
   by_cases h:(0:Int)<(n:Int)
   ·rw[if_pos h];lia
   ·rw[if_neg h];lia) ADp λh' tk x8 c' hk hn hi=>?_
  obtain⟨ys,e1,e2⟩:=iV (n:=n) (l:=x8.toList) 0 (by rw[Array.length_toList];exact hi.1) (λj v hv=>by
   obtain⟨t,e⟩:=hi.2 j v (by rw[<-My];exact hv)
   exact⟨t,by rw[e];congr 1;lia⟩)
  refine⟨⟨s.heap.objs.size-323,ys,by rw[e2];simp⟩,by rw[<-he],?_⟩
  have S1:=S.qp O (s':={s with heap:=h',toks:=tk}) (ao:=.ls (.type "list") none (ys.map iv)) hk (WW hS (S.bare hS)) rfl hn ⟨{G0 with ep:=c'},by rw[e1];rfl⟩
  rw[he] at S1;exact St.picked (L:=[_,_]) (ix:=[0]) S1 rfl
def VG:Expr:=vE (sN 29 5)
abbrev pK(K:LC)(L D:Nat):Env:=Gm VG [(ER,K.wi+323),(Ej,K.sz+323)] L D
theorem pL(U:AA 6 A)(K:LC)(L D j k:Nat):
 AS B A (Bo (Cp VG) (pK K L D) (.int (j:Int) k)) [As D []] () [As D [(BA,.int (j:Int) k)]]:=
 Ef O U (.fr λk0=>.g 6145<|.fi () [0])
theorem pM(U:AA 6 A)(K:LC)(L D j k i m:Nat):
 AS B A (Bo (Cp VG) (pK K L D) (.int (j:Int) k)) [As D [(BA,.int (i:Int) m)]] () [As D [(BA,.int (j:Int) k)]]:=
 Ef O U (.fr λk0=>.g 6145<|.fi () [0])
def U0:Expr:=vE (sN 29 6)
abbrev li(K:LC)(L D:Nat):Env:=Gm U0 [(FQ,K.st+323)] L D
theorem lj(U:AA 6 A)(K:LC)(L D j k:Nat):
 AS B A (Bo (Cp U0) (li K L D) (.int (j:Int) k)) [As D []] () [As D [(BA,.int (j:Int) k)]]:=
 Ef O U (.fr λk0=>.g 6145<|.fi () [0])
theorem lk(U:AA 6 A)(K:LC)(L D j k i m:Nat):
 AS B A (Bo (Cp U0) (li K L D) (.int (j:Int) k)) [As D [(BA,.int (i:Int) m)]] () [As D [(BA,.int (j:Int) k)]]:=
 Ef O U (.fr λk0=>.g 6145<|.fi () [0])
def Ub:Expr:=vE (sN 29 7)
abbrev kJ(K:LC)(L D:Nat):Env:=Gm Ub [(ER,K.wi+323),(FQ,K.st+323),(Ej,K.sz+323),(QS,K.hd+323)] L D
theorem kK(U:AA 6 A)(K:LC)(L D j k:Nat):
 AS B A (Bo (Cp Ub) (kJ K L D) (.int (j:Int) k)) [As D []] () [As D [(BA,.int (j:Int) k)]]:=
 Ef O U (.fr λk0=>.g 6145<|.fi () [0])
theorem kL(U:AA 6 A)(K:LC)(L D j k i m:Nat):
 AS B A (Bo (Cp Ub) (kJ K L D) (.int (j:Int) k)) [As D [(BA,.int (i:Int) m)]] () [As D [(BA,.int (j:Int) k)]]:=
 Ef O U (.fr λk0=>.g 6145<|.fi () [0])
def Ua:Expr:=vE (sN 29 8)
abbrev kG(K:LC)(L D:Nat):Env:=Gm Ua [(ER,K.wi+323),(DK,K.ch+323)] L D
theorem kH(U:AA 6 A)(K:LC)(L D j k:Nat):
 AS B A (Bo (Cp Ua) (kG K L D) (.int (j:Int) k)) [As D []] () [As D [(BA,.int (j:Int) k)]]:=
 Ef O U (.fr λk0=>.g 6145<|.fi () [0])
theorem kI(U:AA 6 A)(K:LC)(L D j k i m:Nat):
 AS B A (Bo (Cp Ua) (kG K L D) (.int (j:Int) k)) [As D [(BA,.int (i:Int) m)]] () [As D [(BA,.int (j:Int) k)]]:=
 Ef O U (.fr λk0=>.g 6145<|.fi () [0])
def U_:Expr:=vE (sN 29 9)
abbrev nr(K:LC)(L D:Nat):Env:=Gm U_ [(ER,K.wi+323),(QS,K.hd+323),(DK,K.ch+323)] L D
theorem nt(U:AA 6 A)(K:LC)(L D j k:Nat):
 AS B A (Bo (Cp U_) (nr K L D) (.int (j:Int) k)) [As D []] () [As D [(BA,.int (j:Int) k)]]:=
 Ef O U (.fr λk0=>.g 6145<|.fi () [0])
theorem nu(U:AA 6 A)(K:LC)(L D j k i m:Nat):
 AS B A (Bo (Cp U_) (nr K L D) (.int (j:Int) k)) [As D [(BA,.int (i:Int) m)]] () [As D [(BA,.int (j:Int) k)]]:=
 Ef O U (.fr λk0=>.g 6145<|.fi () [0])
def Ov:Expr:=vE (sN 29 10)
abbrev pi(K:LC)(L D:Nat):Env:=Gm Ov [(DK,K.ch+323)] L D
theorem pj(U:AA 6 A)(K:LC)(L D j k:Nat):
 AS B A (Bo (Cp Ov) (pi K L D) (.int (j:Int) k)) [As D []] () [As D [(BA,.int (j:Int) k)]]:=
 Ef O U (.fr λk0=>.g 6145<|.fi () [0])
theorem pn(U:AA 6 A)(K:LC)(L D j k i m:Nat):
 AS B A (Bo (Cp Ov) (pi K L D) (.int (j:Int) k)) [As D [(BA,.int (i:Int) m)]] () [As D [(BA,.int (j:Int) k)]]:=
 Ef O U (.fr λk0=>.g 6145<|.fi () [0])
def UK:Expr:=vE (sN 29 12)
abbrev jz(K:LC)(L D:Nat):Env:=Gm UK [(fF,K.ba+323)] L D
theorem qC(U:AA 6 A)(K:LC)(L D j k:Nat):
 AS B A (Bo (Cp UK) (jz K L D) (.int (j:Int) k)) [As D []] () [As D [(BA,.int (j:Int) k)]]:=
 Ef O U (.fr λk0=>.g 6145<|.fi () [0])
theorem qD(U:AA 6 A)(K:LC)(L D j k i m:Nat):
 AS B A (Bo (Cp UK) (jz K L D) (.int (j:Int) k)) [As D [(BA,.int (i:Int) m)]] () [As D [(BA,.int (j:Int) k)]]:=
 Ef O U (.fr λk0=>.g 6145<|.fi () [0])
def Tw:Expr:=vE (sN 29 13)
abbrev i7(K:LC)(L D:Nat):Env:=Gm Tw [(QT,K.na+323)] L D
theorem oE(U:AA 6 A)(K:LC)(L D j k:Nat):
 AS B A (Bo (Cp Tw) (i7 K L D) (.int (j:Int) k)) [As D []] () [As D [(BA,.int (j:Int) k)]]:=
 Ef O U (.fr λk0=>.g 6145<|.fi () [0])
theorem oF(U:AA 6 A)(K:LC)(L D j k i m:Nat):
 AS B A (Bo (Cp Tw) (i7 K L D) (.int (j:Int) k)) [As D [(BA,.int (i:Int) m)]] () [As D [(BA,.int (j:Int) k)]]:=
 Ef O U (.fr λk0=>.g 6145<|.fi () [0])
def U8:Expr:=vE (sN 29 19)
abbrev m_(K:LC)(L D:Nat):Env:=Gm U8 [(CJ,K.wa+323),(OF,K.pl+323),(WO,K.ot+323)] L D
theorem nA(U:AA 6 A)(K:LC)(L D j k:Nat):
 AS B A (Bo (Cp U8) (m_ K L D) (.int (j:Int) k)) [As D []] () [As D [(BA,.int (j:Int) k)]]:=
 Ef O U (.fr λk0=>.g 6145<|.fi () [0])
theorem nC(U:AA 6 A)(K:LC)(L D j k i m:Nat):
 AS B A (Bo (Cp U8) (m_ K L D) (.int (j:Int) k)) [As D [(BA,.int (i:Int) m)]] () [As D [(BA,.int (j:Int) k)]]:=
 Ef O U (.fr λk0=>.g 6145<|.fi () [0])
def HU(a b:Nat):Int:=(a:Int)-(b:Int)
omit O
section
variable(B:Bx)(A:AL)(O:B.C.Ok)
def bj(U:AA 3 A)(a b t u:Nat):Ag B.C A:=(Qq O U (a:Int) (b:Int) t u).re (λk:Nat=>.ok (.ret (.int (HU a b) k))) (λYa=>[]) (λk=>k) (λYa=>rfl) (λYa=>rfl)
def MA(U:AA 3 A)(x sl u t:Nat)(AH:List It)(hx:AH.length<=1000):Ag B.C A:=
 (ND B A O U x sl u t (AH.map It.v) (by rw[AD];exact hx)).re (λa:Nat=>.ok (.ret (J a))) (λa=>[AE a ((AH.drop u).map It.v),AE x (AH.map It.v),F8 sl (.int (u:Int) t) .none]) (λa=>a) (λYa=>rfl) (λa=>by show [AE a ((AH.map It.v).drop u),_,_]=_;rw[Dk])
end
include O
theorem sP(U:AA 40 A)(K:LC)(L D j k z w wt:Nat)(zs:Aa)(h1:zs.length<=1000)(h2:(ns zs).sum<=1000000)(h3:j<=zs.length):
 AC B.C A (Bf (DL VG) (pK K L D)) [As D [(BA,.int (j:Int) k)],AW K.sz (J z),AW K.wi (.int (w:Int) wt),AF z zs]
  (λq:Nat=>Be ((Mc (j+1) (Cq (ns zs) j (w:Int)):Nat):Int) q)
  (λq=>[As D [(BA,.int (j:Int) k)],AW K.sz (J z),AW K.wi (.int (w:Int) wt),AF z zs]):=Jk O U (.g 266240<|.fr λk0=>.cc (GA _ _ O U.l j 1 k k0) [] λy1=>.g 1074532480<|.cc (VZ O U.l z j k wt ↑w zs h1 h2 h3) [3] λy2=>.cc (lG _ _ O U.l (j+1) (Cq (ns zs) j ↑w) y1 y2) [] λy3=>.fi (y3) [1,1,1,0])
theorem qk(U:AA 40 A)(K:LC)(L D j k z:Nat)(zs:Aa)(h1:zs.length<=500)(h2: ∀i,i<zs.length->i<(ns zs).getD i 0):
 AC B.C A (Bf (DL U0) (li K L D)) [As D [(BA,.int (j:Int) k)],AW K.st (J z),AF z zs]
  (λq:Gk (BI (ns zs) j)=>J q.a)
  (λq=>[As D [(BA,.int (j:Int) k)],AF q.a q.ys,AW K.st (J z),AF z zs]):=Jk O U (.g 16781440<|.cc (Y9 O U.l z j k zs h1 h2) [2] λy0=>.fi (y0) [2,0,1,0])
theorem qW(U:AA 40 A)(K:LC)(L D j k z y w wt h ht:Nat)(zs ys:Aa)(h1:zs.length<=1000)(h2:(ns zs).sum<=1000000)(h3:j<=zs.length)(h4:ys.length<=500)(h5: ∀i,i<ys.length->i<(ns ys).getD i 0)(h6: ∀q:Gk (BI (ns ys) (Cq (ns zs) j (HU w h))),(q.ys.map iv).length<=1000):
 AC B.C A (Bf (DL Ub) (kJ K L D)) [As D [(BA,.int (j:Int) k)],AW K.st (J y),AW K.sz (J z),AW K.hd (.int (h:Int) ht),AW K.wi (.int (w:Int) wt),AF z zs,AF y ys]
  (λq:Nat×Gk (BI (ns ys) (Cq (ns zs) j (HU w h)))=>J q.1)
  (λq=>[As D [(BA,.int (j:Int) k)],AF q.1 ((j,k)::q.2.ys),AW K.st (J y),AW K.sz (J z),AW K.hd (.int (h:Int) ht),AW K.wi (.int (w:Int) wt),AF z zs,AF y ys]):=Jk O U (.g 65<|.al λa0=>.g 4748120948928<|.cc (bj _ _ O U.l w h wt ht) [] λ(y1:Nat)=>.g 64<|.cc (VZ O U.l z j k y1 (HU w h) zs h1 h2 h3) [6] λ(y2:Nat)=>.g 64<|.cc (Y9 O U.l y (Cq (ns zs) j (HU w h)) y2 ys h4 h5) [7] λ(y3:Gk (BI (ns ys) (Cq (ns zs) j (HU w h))))=>.g 278596<|.cc (Kx _ _ O U.l a0 y3.a [.int (↑j) k] (B0 iv y3.ys) (by first|lia|assumption|exact h6 _|decide|(simp<;>lia)) (by first|lia|assumption|exact h6 _|decide|(simp<;>lia))) [3,0] λy4=>.fi (y4,y3) [5,0,4,4,4,4,3,2])
theorem qU(U:AA 140 A)(K:LC)(L D j k c w wt:Nat)(AH:List It)(hS:B.Std)(h1:AH.length<=1000)(h2:AH.drop j≠[])(h3: ∀i∈AH.drop j,FL (i.f,i.p))(h4:(AH.drop j).length<=20):
 AC B.C A (Bf (DL Ua) (kG K L D)) [As D [(BA,.int (j:Int) k)],AW K.ch (J c),AW K.wi (.int (w:Int) wt),AE c (AH.map It.v),Ai (AH.drop j)]
  (λq:R3 (Hk w ((AH.drop j).map It.ab))=>J q.a)
  (λq=>[As D [(BA,.int (j:Int) k)],AE q.a (q.ks.map rv),AW K.ch (J c),AW K.wi (.int (w:Int) wt),AE c (AH.map It.v),Ai (AH.drop j)]):=Jk O U (.g 266368<|.al λa0=>.g 282949<|.cc (MA _ _ O U.l c a0 j k AH h1) [4,0] λy1=>.g 4102<|.cc (kr O hS U.l y1 w wt (Cd j AH) h2 h3 h4) [0,5] λy2=>.fi (y2) [5,0,4,4,2,1])
theorem ro(U:AA 140 A)(K:LC)(L D j k c w wt h ht:Nat)(AH:List It)(hS:B.Std)(h1:AH.length<=1000)(h2:AH.drop j≠[])(h3: ∀i∈AH.drop j,FL (i.f,i.p))(h4:(AH.drop j).length<=20)(h5:h<=1000):
 AC B.C A (Bf (DL U_) (nr K L D)) [As D [(BA,.int (j:Int) k)],AW K.ch (J c),AW K.hd (.int (h:Int) ht),AW K.wi (.int (w:Int) wt),AE c (AH.map It.v),Ai (AH.drop j)]
  (λq:R3 (C4 w h ((AH.drop j).map It.ab))=>J q.a)
  (λq=>[As D [(BA,.int (j:Int) k)],AE q.a (q.ks.map rv),AW K.ch (J c),AW K.hd (.int (h:Int) ht),AW K.wi (.int (w:Int) wt),AE c (AH.map It.v),Ai (AH.drop j)]):=Jk O U (.g 266368<|.al λa0=>.g 287110<|.cc (MA _ _ O U.l c a0 j k AH h1) [5,0] λy1=>.g 262535<|.cc (gT O hS U.l y1 w wt h ht (Cd j AH) h2 h3 h4 h5) [0,6] λy2=>.fi (y2) [5,0,4,4,4,2,1])
theorem sY(U:AA 140 A)(K:LC)(L D j k c:Nat)(AH:List It)(h1:AH.length<=1000)(h2:AH.drop j≠[])(h3: ∀i∈AH.drop j,It.MH i)(h4:(AH.drop j).length<=900)(h5:JE ((AH.drop j).map It.cat)):
 AC B.C A (Bf (DL Ov) (pi K L D)) [As D [(BA,.int (j:Int) k)],AW K.ch (J c),AE c (AH.map It.v),Ai (AH.drop j)]
  (λq:Nat=>Co (BB eS ((AH.drop j).map It.cat)) q)
  (λq=>[As D [(BA,.int (j:Int) k)],AW K.ch (J c),AE c (AH.map It.v),Ai (AH.drop j)]):=Jk O U (.g 266368<|.al λa0=>.g 278788<|.cc (MA _ _ O U.l c a0 j k AH h1) [3,0] λy1=>.g 64<|.cc (Vg O U.l y1 (Cd j AH) h2 h3 h4 h5) [0,4] λy2=>.fi (y2) [4,4,2,1])
omit O
theorem F2{E α:Type}{g:E->α}{f:Nat->α}{n:Nat}(t:He E (λj e=>g e=f j) n):t.es.map g=(Ah n).map f:=by
 apply Hz;intro j;rw[AQ,AQ];cases he:t.es[j]? with
 |some e=>
  have h1:j<n:=by rw[<-t.len];exact(List.getElem?_eq_some_iff.mp he).1
  rw[AJ (by rw[Dv];exact h1),HI]
  show some (g e)=some (f j);rw[t.all j e he]
 |none=>
  have h1:=List.getElem?_eq_none_iff.mp he;rw[t.len] at h1;rw[B7 (by rw[Dv];exact h1)];rfl
structure SE where
 a:Nat
 ks:Db
abbrev SE.v(e:SE):Value:=J e.a
abbrev SE.p(e:SE):Addr×AO:=(e.a+323,.ls (.type "list") none (e.ks.map rv))
noncomputable abbrev SE.rows(e:SE):List Str:=e.ks.map (·.1)
abbrev aJ(es:List SE):F6:=es.map SE.p
abbrev DB(es:List SE):Bi:=.many (aJ es)
abbrev IE.ns(e:IE):Ay:=Mine.ns e.ys
structure WP(f:Nat->Ay)(n:Nat) where
 es:List IE
 ok:es.map IE.ns=(Ah n).map f
 k:Nat
 t:Nat
structure qI(f:Nat->List Str)(n:Nat) where
 es:List SE
 ok:es.map SE.rows=(Ah n).map f
 k:Nat
 t:Nat
structure x5(f:Nat->Str)(n:Nat) where
 ks:Db
 ok:ks.map (·.1)=(Ah n).map f
 k:Nat
 t:Nat
theorem Ey{α:Type}(f:α->Addr×AO)(es:List α):es.flatMap (λe=>[f e])=es.map f:=by
 induction es with
 |nil=>rfl
 |cons e r ih=>rw[Ka,ih];rfl
theorem Ex{α:Type}(es:List α):es.flatMap (λYa=>([]:F6))=[]:=by
 induction es with
 |nil=>rfl
 |cons e r ih=>rw[Ka,ih];rfl
theorem Th(AH:List It)(j:Nat)(P Q:F6):(P++(AH.map It.e++Q)).Perm (P++((AH.drop j).map It.e++((AH.take j).map It.e++Q))):=by
 refine CP _ ?_;rw[<-AG];refine A8 _ ?_
 have:AH.map It.e=(AH.take j).map It.e++(AH.drop j).map It.e:=by rw[<-AZ,CQ]
 rw[this];exact A9
theorem AC.TU{C:Cx}{A:AL}{α:Type}{t:Sem α}{P:AN}{X:Type}{res:X->α}{Q:X->AN}{AH:List It}(j:Nat)(h:AC C A t (P++[Ai (AH.drop j)]) res (λx=>Q x++[Ai (AH.drop j)])):
 AC C A t (P++[Ai AH]) res (λx=>Q x++[Ai AH]):=
 ((h.frame [Ai (AH.take j)]).pre λR s S=>S.BV (by
  simp only[An,Mine.Ao,Bi.flat,Aj,AG];exact Th AH j _ _)).post λx R s S=>S.BV (by
  simp only[An,Mine.Ao,Bi.flat,Aj,AG];exact(Th AH j _ _).symm)
include O
def lO(U:AA 51 A)(K:LC)(L D c a acc z w wt:Nat)(zs:Aa)(ss:Aa)(m:Nat)(hs:ns ss=Ah m)(hm:m<=1000)(F5:m≠0)(h1:zs.length=m)(h2:(ns zs).sum<=1000000):Ag B.C A where
 c:=.compStart VG 0 (J a) (J acc) (pK K L D)
 F:=[As D [],AE acc [],BQ a c 0,AF c ss,AW K.sz (J z),AW K.wi (.int (w:Int) wt),AF z zs]
 X:=Qk (Ct (ns zs) w)
 res:=λYa=>.ok .next
 led:=λq=>[As D [(BA,.int (q.k:Int) q.t)],AF acc q.ys,AF c ss,AW K.sz (J z),AW K.wi (.int (w:Int) wt),AF z zs]
 ok:=by
  have h:=D_ (B:=B) (A:=A) (elt:=DL VG) (iter:=Hf VG) (x0:=BA) (p0:=(Cp VG).pos) (sc:=Gh VG) (pos:=VG.pos) (env:=pK K L D) (dv:=As D) (acc:=acc) (a:=a) (c:=c) O (ADp:6<=50) U (E:=Nat×Nat) (iv) (λYa=>[]) (λj e=>e.1=Mc (j+1) (Cq (ns zs) j (w:Int))) (λYa:Unit=>[AW K.sz (J z),AW K.wi (.int (w:Int) wt),AF z zs]) (ss:=ss) (n:=m) hs
   (λA' h j k l hl=>by
    rcases hl with rfl|⟨i,m,rfl⟩
    ·exact pL O h K L D j k
    ·exact pM O h K L D j k i m)
   (λA' SG B8 j hj k _=>by
    have e:=sP O (B8.le (ADp:40<=50)) K L D j k z w wt zs ADp h2 ADp
    exact e.weaken λq=>⟨(⟨(_,q),rfl⟩,()),rfl,λR s S=>S.BV (.refl _)⟩) hm () F5
  exact AC.weaken h λy=>⟨⟨y.1.1.es,(F2 (g:=λe:Nat×Nat=>e.1) y.1.1).trans (by unfold Ct ns;rw[AD,h1]),y.2.1,y.2.2⟩,rfl,λR s S=>S.BV (by
   simp only[An,Ao,Bi.flat,Ey,Ex,Aj,Al];exact .refl _)⟩
def ko(U:AA 51 A)(K:LC)(L D c a acc z:Nat)(zs:Aa)(ss:Aa)(m:Nat)(hs:ns ss=Ah m)(hm:m<=1000)(F5:m≠0)(h1:zs.length<=500)(h2: ∀i,i<zs.length->i<(ns zs).getD i 0):Ag B.C A where
 c:=.compStart U0 0 (J a) (J acc) (li K L D)
 F:=[As D [],AE acc [],BQ a c 0,AF c ss,AW K.st (J z),AF z zs]
 X:=WP (λj=>BI (ns zs) j) m
 res:=λYa=>.ok .next
 led:=λq=>[As D [(BA,.int (q.k:Int) q.t)],AE acc (q.es.map IE.v),AF c ss,BU q.es,AW K.st (J z),AF z zs]
 ok:=by
  have h:=D_ (B:=B) (A:=A) (elt:=DL U0) (iter:=Hf U0) (x0:=BA) (p0:=(Cp U0).pos) (sc:=Gh U0) (pos:=U0.pos) (env:=li K L D) (dv:=As D) (acc:=acc) (a:=a) (c:=c) O (ADp:6<=50) U (E:=IE) (IE.v) (λe=>[IE.p e]) (λj e=>IE.ns e=BI (ns zs) j) (λYa:Unit=>[AW K.st (J z),AF z zs]) (ss:=ss) (n:=m) hs
   (λA' h j k l hl=>by
    rcases hl with rfl|⟨i,m,rfl⟩
    ·exact lj O h K L D j k
    ·exact lk O h K L D j k i m)
   (λA' SG B8 j hj k _=>by
    exact(qk O (B8.le (ADp:40<=50)) K L D j k z zs h1 h2).weaken λq=>⟨(⟨⟨q.a,q.ys⟩,q.ok⟩,()),rfl,λR s S=>S.BV (.refl _)⟩) hm () F5
  exact AC.weaken h λy=>⟨⟨y.1.1.es,F2 (g:=IE.ns) y.1.1,y.2.1,y.2.2⟩,rfl,λR s S=>S.BV (by
   simp only[An,Ao,Bi.flat,Ey,Ex,Aj,Al];exact .refl _)⟩
def km(U:AA 51 A)(K:LC)(L D c a acc z y w wt h ht:Nat)(zs ys:Aa)(ss:Aa)(m:Nat)(hs:ns ss=Ah m)(hm:m<=1000)(F5:m≠0)(h1:zs.length=m)(h2:(ns zs).sum<=1000000)(h4:ys.length<=500)(h5: ∀i,i<ys.length->i<(ns ys).getD i 0)(h6: ∀j,j<m->(BI (ns ys) (Cq (ns zs) j (HU w h))).length<=900):Ag B.C A where
 c:=.compStart Ub 0 (J a) (J acc) (kJ K L D)
 F:=[As D [],AE acc [],BQ a c 0,AF c ss,AW K.st (J y),AW K.sz (J z),AW K.hd (.int (h:Int) ht),AW K.wi (.int (w:Int) wt),AF z zs,AF y ys]
 X:=WP (λj=>j::BI (ns ys) (Cq (ns zs) j (HU w h))) m
 res:=λYa=>.ok .next
 led:=λq=>[As D [(BA,.int (q.k:Int) q.t)],AE acc (q.es.map IE.v),AF c ss,BU q.es,AW K.st (J y),AW K.sz (J z),AW K.hd (.int (h:Int) ht),AW K.wi (.int (w:Int) wt),AF z zs,AF y ys]
 ok:=by
  have h:=D_ (B:=B) (A:=A) (elt:=DL Ub) (iter:=Hf Ub) (x0:=BA) (p0:=(Cp Ub).pos) (sc:=Gh Ub) (pos:=Ub.pos) (env:=kJ K L D) (dv:=As D) (acc:=acc) (a:=a) (c:=c) O (ADp:6<=50) U (E:=IE) (IE.v) (λe=>[IE.p e]) (λj e=>IE.ns e=j::BI (ns ys) (Cq (ns zs) j (HU w h))) (λYa:Unit=>[AW K.st (J y),AW K.sz (J z),AW K.hd (.int (h:Int) ht),AW K.wi (.int (w:Int) wt),AF z zs,AF y ys]) (ss:=ss) (n:=m) hs
   (λA' h j k l hl=>by
    rcases hl with rfl|⟨i,m,rfl⟩
    ·exact kK O h K L D j k
    ·exact kL O h K L D j k i m)
   (λA' SG B8 j hj k _=>by
    have e:=qW O (B8.le (ADp:40<=50)) K L D j k z y w wt h ht zs ys ADp h2 ADp h4 h5 (λq=>by
     have:=h6 j hj
     rw[<-q.ok] at this;unfold ns at this;rw[AD] at this⊢
     lia)
    exact e.weaken λq=>⟨(⟨⟨q.1,(j,k)::q.2.ys⟩,congrArg (List.cons j) q.2.ok⟩,()),rfl,λR s S=>S.BV (.refl _)⟩) hm () F5
  exact AC.weaken h λy=>⟨⟨y.1.1.es,F2 (g:=IE.ns) y.1.1,y.2.1,y.2.2⟩,rfl,λR s S=>S.BV (by
   simp only[An,Ao,Bi.flat,Ey,Ex,Aj,Al];exact .refl _)⟩
def kk(hS:B.Std)(U:AA 151 A)(K:LC)(L D c a acc x w wt:Nat)(AH:List It)(ss:Aa)(m:Nat)(hs:ns ss=Ah m)(hm:m<=1000)(F5:m≠0)(hl:AH.length=m)(Vn:m<=20)(hW: ∀i∈AH,FL (i.f,i.p)):Ag B.C A where
 c:=.compStart Ua 0 (J a) (J acc) (kG K L D)
 F:=[As D [],AE acc [],BQ a c 0,AF c ss,AW K.ch (J x),AW K.wi (.int (w:Int) wt),AE x (AH.map It.v),Ai AH]
 X:=qI (λj=>Hk w ((AH.drop j).map It.ab)) m
 res:=λYa=>.ok .next
 led:=λq=>[As D [(BA,.int (q.k:Int) q.t)],AE acc (q.es.map SE.v),AF c ss,DB q.es,AW K.ch (J x),AW K.wi (.int (w:Int) wt),AE x (AH.map It.v),Ai AH]
 ok:=by
  have h:=D_ (B:=B) (A:=A) (elt:=DL Ua) (iter:=Hf Ua) (x0:=BA) (p0:=(Cp Ua).pos) (sc:=Gh Ua) (pos:=Ua.pos) (env:=kG K L D) (dv:=As D) (acc:=acc) (a:=a) (c:=c) O (ADp:6<=150) U (E:=SE) (SE.v) (λe=>[SE.p e]) (λj e=>SE.rows e=Hk w ((AH.drop j).map It.ab)) (λYa:Unit=>[AW K.ch (J x),AW K.wi (.int (w:Int) wt),AE x (AH.map It.v),Ai AH]) (ss:=ss) (n:=m) hs
   (λA' h j k l hl=>by
    rcases hl with rfl|⟨i,m,rfl⟩
    ·exact kH O h K L D j k
    ·exact kI O h K L D j k i m)
   (λA' SG B8 j hj k _=>by
    have hd:AH.drop j≠[]:=λe=>by have:=congrArg C7 e;rw[A6] at this;simp at this;lia
    refine(AC.TU (P:=[_,_,_,_]) (Q:=λq=>[_,_,_,_,_]) j (qU O (B8.le (ADp:140<=150)) K L D j k x w wt AH hS ADp hd (λi hi=>hW i (EI hi)) (by rw[A6];lia))).weaken λq=>⟨(⟨⟨q.a,q.ks⟩,q.ok⟩,()),rfl,λR s S=>S.BV (.refl _)⟩) hm () F5
  exact AC.weaken h λy=>⟨⟨y.1.1.es,F2 (g:=SE.rows) y.1.1,y.2.1,y.2.2⟩,rfl,λR s S=>S.BV (by
   simp only[An,Ao,Bi.flat,Ey,Ex,Aj,Al];exact .refl _)⟩
def lH(hS:B.Std)(U:AA 151 A)(K:LC)(L D c a acc x w wt h ht:Nat)(AH:List It)(ss:Aa)(m:Nat)(hs:ns ss=Ah m)(hm:m<=1000)(F5:m≠0)(hl:AH.length=m)(Vn:m<=20)(hh:h<=1000)(hW: ∀i∈AH,FL (i.f,i.p)):Ag B.C A where
 c:=.compStart U_ 0 (J a) (J acc) (nr K L D)
 F:=[As D [],AE acc [],BQ a c 0,AF c ss,AW K.ch (J x),AW K.hd (.int (h:Int) ht),AW K.wi (.int (w:Int) wt),AE x (AH.map It.v),Ai AH]
 X:=qI (λj=>C4 w h ((AH.drop j).map It.ab)) m
 res:=λYa=>.ok .next
 led:=λq=>[As D [(BA,.int (q.k:Int) q.t)],AE acc (q.es.map SE.v),AF c ss,DB q.es,AW K.ch (J x),AW K.hd (.int (h:Int) ht),AW K.wi (.int (w:Int) wt),AE x (AH.map It.v),Ai AH]
 ok:=by
  have h:=D_ (B:=B) (A:=A) (elt:=DL U_) (iter:=Hf U_) (x0:=BA) (p0:=(Cp U_).pos) (sc:=Gh U_) (pos:=U_.pos) (env:=nr K L D) (dv:=As D) (acc:=acc) (a:=a) (c:=c) O (ADp:6<=150) U (E:=SE) (SE.v) (λe=>[SE.p e]) (λj e=>SE.rows e=C4 w h ((AH.drop j).map It.ab)) (λYa:Unit=>[AW K.ch (J x),AW K.hd (.int (h:Int) ht),AW K.wi (.int (w:Int) wt),AE x (AH.map It.v),Ai AH]) (ss:=ss) (n:=m) hs
   (λA' h j k l hl=>by
    rcases hl with rfl|⟨i,m,rfl⟩
    ·exact nt O h K L D j k
    ·exact nu O h K L D j k i m)
   (λA' SG B8 j hj k _=>by
    have hd:AH.drop j≠[]:=λe=>by have:=congrArg C7 e;rw[A6] at this;simp at this;lia
    refine(AC.TU (P:=[_,_,_,_,_]) (Q:=λq=>[_,_,_,_,_,_]) j (ro O (B8.le (ADp:140<=150)) K L D j k x w wt h ht AH hS ADp hd (λi hi=>hW i (EI hi)) (by rw[A6];lia) hh)).weaken λq=>⟨(⟨⟨q.a,q.ks⟩,q.ok⟩,()),rfl,λR s S=>S.BV (.refl _)⟩) hm () F5
  exact AC.weaken h λy=>⟨⟨y.1.1.es,F2 (g:=SE.rows) y.1.1,y.2.1,y.2.2⟩,rfl,λR s S=>S.BV (by
   simp only[An,Ao,Bi.flat,Ey,Ex,Aj,Al];exact .refl _)⟩
def lR(U:AA 151 A)(K:LC)(L D c a acc x:Nat)(AH:List It)(ss:Aa)(m:Nat)(hs:ns ss=Ah m)(hm:m<=1000)(F5:m≠0)(hl:AH.length=m)(Vn:m<=20)(hF: ∀i∈AH,It.MH i)(hw:JE (AH.map It.cat)):Ag B.C A where
 c:=.compStart Ov 0 (J a) (J acc) (pi K L D)
 F:=[As D [],AE acc [],BQ a c 0,AF c ss,AW K.ch (J x),AE x (AH.map It.v),Ai AH]
 X:=x5 (λj=>BB eS ((AH.drop j).map It.cat)) m
 res:=λYa=>.ok .next
 led:=λq=>[As D [(BA,.int (q.k:Int) q.t)],AE acc (q.ks.map rv),AF c ss,AW K.ch (J x),AE x (AH.map It.v),Ai AH]
 ok:=by
  have h:=D_ (B:=B) (A:=A) (elt:=DL Ov) (iter:=Hf Ov) (x0:=BA) (p0:=(Cp Ov).pos) (sc:=Gh Ov) (pos:=Ov.pos) (env:=pi K L D) (dv:=As D) (acc:=acc) (a:=a) (c:=c) O (ADp:6<=150) U (E:=Str×Nat) (rv) (λYa=>[]) (λj e=>e.1=BB eS ((AH.drop j).map It.cat)) (λYa:Unit=>[AW K.ch (J x),AE x (AH.map It.v),Ai AH]) (ss:=ss) (n:=m) hs
   (λA' h j k l hl=>by
    rcases hl with rfl|⟨i,m,rfl⟩
    ·exact pj O h K L D j k
    ·exact pn O h K L D j k i m)
   (λA' SG B8 j hj k _=>by
    have hd:AH.drop j≠[]:=λe=>by have:=congrArg C7 e;rw[A6] at this;simp at this;lia
    have e:=sY O (B8.le (ADp:140<=150)) K L D j k x AH ADp hd (λi hi=>hF i (EI hi)) (by rw[A6];lia) ⟨by rw[AD,A6];lia,λy hy=>hw.2 y (by rw[Dk] at hy;exact EI hy)⟩
    refine(AC.TU (P:=[_,_,_]) (Q:=λq=>[_,_,_]) j e).weaken λq=>⟨(⟨(_,q),rfl⟩,()),rfl,λR s S=>S.BV (.refl _)⟩) hm () F5
  exact AC.weaken h λy=>⟨⟨y.1.1.es,F2 (g:=λe:Str×Nat=>e.1) y.1.1,y.2.1,y.2.2⟩,rfl,λR s S=>S.BV (by
   simp only[An,Ao,Bi.flat,Ey,Ex,Aj,Al];exact .refl _)⟩
abbrev Gv(B:Bx)(i n:Nat):Dx:=((A4 B.P 322).drop i).take n
theorem vr(U:AA 60 A)(L c n:Nat)(K:LC)(ar:Addr)(AH:List It)(hS:B.Std)(hl:(AH.map It.v).length<=900)(Mr:AH.length<=900)(CD:AH≠[])(mf: ∀i∈AH,It.small i):
 AC B.C A (Ac (Gv B 3 2) (Fi B K L)) [AI L [(Cb,.ref ar),(CZ,J n)],AW K.ch (J c),AE c (AH.map It.v),Ai AH,C3 K.sz none]
  (λq:Nat×qJ (AH.map It.len)×Gk (Ah (AH.map It.v).length)=>Dg)
  (λq=>[AI L [(Cb,.ref ar),(CZ,J n),(Gb,J q.2.2.a)],AF q.2.2.a q.2.2.ys,AW K.ch (J c),AE c (AH.map It.v),Ai AH,AW K.sz (J q.1),AF q.1 q.2.1.ks]):=by
 obtain⟨_,_|_⟩:=B<;>exact D7 O U (.g 274626<|.cc (Bt O U.l c (AH.map It.v)) [2] λ(y0:Nat)=>.g 65<|.al λa1=>.al λa2=>.cc (W8 O U.l L a2 c y0 a1 AH CD mf Mr) [0,1,1,3,0] λ(y3:qJ (AH.map It.len))=>.g 1353996917968552316851585089<|.cc (IL O U.l c (B0 It.v AH) (by first|lia|assumption)) [1] λ(y4:Nat×Nat)=>.cc (KE O U.l ((B0 It.v AH).length) y4.snd) [] λ(y5:Nat×Nat×Nat)=>.cc (bv O hS U.l y5.fst ((B0 It.v AH).length) y5.snd.fst y4.snd y5.snd.snd (by first|lia|assumption)) [0] λy6=>.fr λk7=>.g 6470<|.fi (a1,y3,y6) [5,0,4,0,1,2,1])
theorem z0(U:AA 60 A)(L n s z w wt m:Nat)(K:LC)(ar:Addr)(ss zs:Aa)(hs:ns ss=Ah m)(hm:m<=1000)(F5:m≠0)(h1:zs.length=m)(h2:(ns zs).sum<=1000000):
 AC B.C A (Ac (Gv B 5 1) (Fi B K L)) [AI L [(Cb,.ref ar),(CZ,J n),(Gb,J s)],AF s ss,AW K.sz (J z),AW K.wi (.int (w:Int) wt),AF z zs,C3 K.st none]
  (λq:Nat×Qk (Ct (ns zs) w)=>Dg)
  (λq=>[AI L [(Cb,.ref ar),(CZ,J n),(Gb,J s)],AF s ss,AW K.sz (J z),AW K.wi (.int (w:Int) wt),AF z zs,AW K.st (J q.1),AF q.1 q.2.ys]):=by
 obtain⟨_,_|_⟩:=B<;>exact D7 O U (.g 270465<|.cc (Bt O U.l s (ss.map iv)) [1] λy0=>.g 65<|.al λa1=>.al λa2=>.cc (lO O U.l K L a2 s y0 a1 z w wt zs ss m hs hm F5 h1 h2) [0,0,0,0,1,1,1] λy3=>.g 1730281537<|.fi (a1,y3) [6,2,2,2,2,2,1])
theorem vt(U:AA 60 A)(L n s z y w wt h ht m:Nat)(K:LC)(ar:Addr)(ss zs ys:Aa)(hs:ns ss=Ah m)(hm:m<=1000)(F5:m≠0)(h1:zs.length=m)(h2:(ns zs).sum<=1000000)(h4:ys.length<=500)(h5: ∀i,i<ys.length->i<(ns ys).getD i 0)(h6: ∀j,j<m->(BI (ns ys) (Cq (ns zs) j (HU w h))).length<=900):
 AC B.C A (Ac (Gv B 6 2) (Fi B K L)) [AI L [(Cb,.ref ar),(CZ,J n),(Gb,J s)],AF s ss,AW K.sz (J z),AW K.hd (.int (h:Int) ht),AW K.wi (.int (w:Int) wt),AF z zs,AW K.st (J y),AF y ys,C3 K.du none,C3 K.be none]
  (λq:Nat×WP (λj=>BI (ns ys) j) m×Nat×WP (λj=>j::BI (ns ys) (Cq (ns zs) j (HU w h))) m=>Dg)
  (λq=>[AI L [(Cb,.ref ar),(CZ,J n),(Gb,J s)],AF s ss,AW K.sz (J z),AW K.hd (.int (h:Int) ht),AW K.wi (.int (w:Int) wt),AF z zs,AW K.st (J y),AF y ys,AW K.du (J q.1),AW K.be (J q.2.2.1),AE q.1 (q.2.1.es.map IE.v),BU q.2.1.es,AE q.2.2.1 (q.2.2.2.es.map IE.v),BU q.2.2.2.es]):=by
 obtain⟨_,_|_⟩:=B<;>exact D7 O U (.g 270465<|.cc (Bt O U.l s (ss.map iv)) [1] λy0=>.g 65<|.al λa1=>.al λa2=>.cc (ko O U.l K L a2 s y0 a1 y ys ss m hs hm F5 h4 h5) [0,0,0,0,5,5] λy3=>.g 294883515564097<|.cc (Bt O U.l s (ss.map iv)) [2] λy4=>.g 65<|.al λa5=>.al λa6=>.cc (km O U.l K L a6 s y4 a5 z y w wt h ht zs ys ss m hs hm F5 h1 h2 h4 h5 h6) [0,0,0,0,3,5,5,5,5,3] λy7=>.g 1866596417<|.fi (a1,y3,a5,y7) [13,2,4,4,4,4,3,3,6,6,4,4,1,1])
theorem rl(U:AA 160 A)(L n s x w wt h ht m:Nat)(K:LC)(ar:Addr)(ss:Aa)(AH:List It)(hS:B.Std)(hs:ns ss=Ah m)(hm:m<=1000)(F5:m≠0)(hl:AH.length=m)(Vn:m<=20)(hh:h<=1000)(hW: ∀i∈AH,FL (i.f,i.p))(hF: ∀i∈AH,It.MH i)(hw:JE (AH.map It.cat)):
 AC B.C A (Ac (Gv B 8 3) (Fi B K L)) [AI L [(Cb,.ref ar),(CZ,J n),(Gb,J s)],AF s ss,AW K.ch (J x),AW K.hd (.int (h:Int) ht),AW K.wi (.int (w:Int) wt),AE x (AH.map It.v),Ai AH,C3 K.ba none,C3 K.na none]
  (λq:Nat×qI (λj=>Hk w ((AH.drop j).map It.ab)) m×Nat×qI (λj=>C4 w h ((AH.drop j).map It.ab)) m×Nat×x5 (λj=>BB eS ((AH.drop j).map It.cat)) m=>Dg)
  (λq=>[AI L [(Cb,.ref ar),(CZ,J n),(Gb,J s),(UJ,J q.2.2.2.2.1)],AF s ss,AW K.ch (J x),AW K.hd (.int (h:Int) ht),AW K.wi (.int (w:Int) wt),AE x (AH.map It.v),Ai AH,AW K.ba (J q.1),AW K.na (J q.2.2.1),AE q.1 (q.2.1.es.map SE.v),DB q.2.1.es,AE q.2.2.1 (q.2.2.2.1.es.map SE.v),DB q.2.2.2.1.es,AE q.2.2.2.2.1 (q.2.2.2.2.2.ks.map rv)]):=by
 obtain⟨_,_|_⟩:=B<;>exact D7 O U (.g 270465<|.cc (Bt O U.l s (ss.map iv)) [1] λy0=>.g 65<|.al λa1=>.al λa2=>.cc (kk O hS U.l K L a2 s y0 a1 x w wt AH ss m hs hm F5 hl Vn hW) [0,0,0,0,1,2,2,2] λy3=>.g 294885646008385<|.cc (Bt O U.l s (ss.map iv)) [2] λy4=>.g 65<|.al λa5=>.al λa6=>.cc (lH O hS U.l K L a6 s y4 a5 x w wt h ht AH ss m hs hm F5 hl Vn hh hW) [0,0,0,0,3,7,3,3,3] λy7=>.g 294890009133121<|.cc (Bt O U.l s (ss.map iv)) [2] λy8=>.g 65<|.al λa9=>.al λtw=>.cc (lR O U.l K L tw s y8 a9 x AH ss m hs hm F5 hl Vn hF hw) [0,0,0,0,3,5,5] λNq=>.fr λiW=>.g 1610881935<|.fi (a1,y3,a5,y7,a9,Nq) [14,2,2,7,7,2,2,8,8,6,6,3,3,1])
def ON:Expr:=el (el (vE (sN 29 11)) 0) 0
def OO:Expr:=el (el (vE (sN 29 11)) 1) 0
theorem mw(U:AA 6 A)(L D j:Nat):
 AS B A (Bo (Cp ON) (Gm ON [] L D) (J j)) [As D []] () [As D [(Er,J j)]]:=
 Ef O U (.fr λk0=>.g 6145<|.fi () [0])
theorem mx(U:AA 6 A)(L D j i:Nat):
 AS B A (Bo (Cp ON) (Gm ON [] L D) (J j)) [As D [(Er,J i)]] () [As D [(Er,J j)]]:=
 Ef O U (.fr λk0=>.g 6145<|.fi () [0])
theorem rT(U:AA 20 A)(L D x:Nat)(ks:Db)(h1:JE (ks.map (·.1))):
 AC B.C A (Bf (DL ON) (Gm ON [] L D)) [As D [(Er,J x)],AE x (ks.map rv)]
  (λq:Nat=>Co (BB eS (ks.map (·.1))) q)
  (λq=>[As D [(Er,J x)],AE x (ks.map rv)]):=Jk O U (.fr λk0=>.g 65<|.cc (N6 O U.l x ⟨⟨[]⟩⟩ k0 ks h1 (by first|lia|assumption|exact(ADs:(0:Nat)<=10))) [1] λy1=>.fi (y1) [1,0])
theorem my(U:AA 6 A)(L D j:Nat):
 AS B A (Bo (Cp OO) (Gm OO [] L D) (J j)) [As D []] () [As D [(Er,J j)]]:=
 Ef O U (.fr λk0=>.g 6145<|.fi () [0])
theorem mz(U:AA 6 A)(L D j i:Nat):
 AS B A (Bo (Cp OO) (Gm OO [] L D) (J j)) [As D [(Er,J i)]] () [As D [(Er,J j)]]:=
 Ef O U (.fr λk0=>.g 6145<|.fi () [0])
theorem rU(U:AA 20 A)(L D x:Nat)(ks:Db)(h1:JE (ks.map (·.1))):
 AC B.C A (Bf (DL OO) (Gm OO [] L D)) [As D [(Er,J x)],AE x (ks.map rv)]
  (λq:Nat=>Co (BB eS (ks.map (·.1))) q)
  (λq=>[As D [(Er,J x)],AE x (ks.map rv)]):=Jk O U (.fr λk0=>.g 65<|.cc (N6 O U.l x ⟨⟨[]⟩⟩ k0 ks h1 (by first|lia|assumption|exact(ADs:(0:Nat)<=10))) [1] λy1=>.fi (y1) [1,0])
theorem qA(U:AA 60 A)(K:LC)(L D j k b x:Nat)(bs:Ak)(ks:Db)(hl:bs.length<=1000)(hx:bs[j]? =some (J x))(CD:ks≠[])(hk:ks.length<=200):
 AC B.C A (Bf (DL UK) (jz K L D)) [As D [(BA,.int (j:Int) k)],AW K.ba (J b),AE b bs,pT,AE x (ks.map rv)]
  (λq:aW (EE (Fn ks) j)=>J q.a)
  (λq=>[As D [(BA,.int (j:Int) k)],AF q.a q.ys,AW K.ba (J b),AE b bs,OR q.cd,EA q.cd CH Bw q.y,AE x (ks.map rv)]):=Jk O U (.g 71991824512<|.cc (BZ O U.l b j k bs (J x) hx hl) [2] λYa=>.g 4098<|.cc (VT O U.l x j k ks CD hk) [4,3] λy1=>.fi (y1) [5,0,4,3,1,1,0])
theorem qB(U:AA 60 A)(K:LC)(L D j k b x cd:Nat)(y:Fc)(bs:Ak)(ks:Db)(hl:bs.length<=1000)(hx:bs[j]? =some (J x))(CD:ks≠[])(hk:ks.length<=200):
 AC B.C A (Bf (DL UK) (jz K L D)) [As D [(BA,.int (j:Int) k)],AW K.ba (J b),AE b bs,OR cd,EA cd CH Bw y,AE x (ks.map rv)]
  (λq:Gk (EE (Fn ks) j)=>J q.a)
  (λq=>[As D [(BA,.int (j:Int) k)],AF q.a q.ys,AW K.ba (J b),AE b bs,OR cd,EA cd CH Bw y,AE x (ks.map rv)]):=Jk O U (.g 71991824512<|.cc (BZ O U.l b j k bs (J x) hx hl) [2] λYa=>.g 4098<|.cc (VU O U.l x j k cd y ks CD hk) [5,3,3] λy1=>.fi (y1) [5,0,4,3,1,1,0])
theorem oD(U:AA 60 A)(K:LC)(L D j k b x cd:Nat)(y:Fc)(bs:Ak)(ks:Db)(hl:bs.length<=1000)(hx:bs[j]? =some (J x))(CD:ks≠[])(hk:ks.length<=200):
 AC B.C A (Bf (DL Tw) (i7 K L D)) [As D [(BA,.int (j:Int) k)],AW K.na (J b),AE b bs,OR cd,EA cd CH Bw y,AE x (ks.map rv)]
  (λq:Gk (EE (Fn ks) j)=>J q.a)
  (λq=>[As D [(BA,.int (j:Int) k)],AF q.a q.ys,AW K.na (J b),AE b bs,OR cd,EA cd CH Bw y,AE x (ks.map rv)]):=Jk O U (.g 71991824512<|.cc (BZ O U.l b j k bs (J x) hx hl) [2] λYa=>.g 4098<|.cc (VU O U.l x j k cd y ks CD hk) [5,3,3] λy1=>.fi (y1) [5,0,4,3,1,1,0])
theorem oC(U:AA 60 A)(K:LC)(L D j k b x:Nat)(bs:Ak)(ks:Db)(hl:bs.length<=1000)(hx:bs[j]? =some (J x))(CD:ks≠[])(hk:ks.length<=200):
 AC B.C A (Bf (DL Tw) (i7 K L D)) [As D [(BA,.int (j:Int) k)],AW K.na (J b),AE b bs,pT,AE x (ks.map rv)]
  (λq:aW (EE (Fn ks) j)=>J q.a)
  (λq=>[As D [(BA,.int (j:Int) k)],AF q.a q.ys,AW K.na (J b),AE b bs,OR q.cd,EA q.cd CH Bw q.y,AE x (ks.map rv)]):=Jk O U (.g 71991824512<|.cc (BZ O U.l b j k bs (J x) hx hl) [2] λYa=>.g 4098<|.cc (VT O U.l x j k ks CD hk) [4,3] λy1=>.fi (y1) [5,0,4,3,1,1,0])
theorem rW(U:AA 60 A)(K:LC)(L D j k w o p x y:Nat)(al:BC)(ws os:Ak)(ps x1 x2:Aa)(hK:C8 A [L])(hw:ws.length<=1000)(ho:os.length<=1000)(hx:ws[j]? =some (J x))(hy:os[j]? =some (J y))(hp:ps.length<=500)(h1:x1.length<=500)(h2:x2.length<=500):
 AC B.C A (Bf (DL U8) (m_ K L D)) [As D [(BA,.int (j:Int) k)],AW K.wa (J w),AW K.pl (J p),AW K.ot (J o),AE w ws,AE o os,AF p ps,AI L al,AF x x1,AF y x2]
  (λq:Gk (EG (EG (ns ps) (ns x1)) (ns x2))=>J q.a)
  (λq=>[As D [(BA,.int (j:Int) k)],AF q.a q.ys,AW K.wa (J w),AW K.pl (J p),AW K.ot (J o),AE w ws,AE o os,AF p ps,AI L al,AF x x1,AF y x2]):=Jk O U (.g 4747096760320<|.cc (BZ O U.l w j k ws (J x) hx hw) [4] λYa=>.g 1176002693<|.cc (BZ O U.l o j k os (J y) hy ho) [5] λYa=>.al λa2=>.g 4102<|.cc (W4 O U.l a2 p x y L al ps x1 x2 hK hp h1 h2) [0,6,7,7,6] λy3=>.fi (y3) [8,0,7,7,7,6,5,1,3,1,1])
omit O
theorem pH{es:List SE}{i:Nat}{e:SE}(h:es[i]? =some e):(aJ es).Perm (SE.p e::aJ (es.take i++es.drop (i+1))):=by
 have:=(IU h).map SE.p
 rwa [Aw] at this
theorem UC{P:AN}{es:List SE}{i:Nat}{e:SE}(he:es[i]? =some e):(Ao (P++[DB es])).Perm (Ao (P++[AE e.a (e.ks.map rv)]++[.many (aJ (es.take i++es.drop (i+1)))])):=by
 simp only[An,Ao,Bi.flat,Aj,AG]
 exact(pH he).append_left _
theorem AC.Vy{C:Cx}{A:AL}{α:Type}{t:Sem α}{P:AN}{X:Type}{res:X->α}{Q:X->AN}{es:List SE}{i:Nat}{e:SE}(he:es[i]? =some e)
 (h:AC C A t (P++[AE e.a (e.ks.map rv)]) res (λx=>Q x++[AE e.a (e.ks.map rv)])):AC C A t (P++[DB es]) res (λx=>Q x++[DB es]):=
 ((h.frame [.many (aJ (es.take i++es.drop (i+1)))]).pre λR s S=>S.BV (by rw[An,An _ R];exact(UC he).append_right _)).post λx R s S=>S.BV (by rw[An,An _ R];exact((UC he).append_right _).symm)
theorem Hn{α β:Type}{es:List α}{g:α->β}{f:Nat->β}{m j:Nat}{e:α}(h:es.map g=(Ah m).map f)(he:es[j]? =some e):g e=f j:=by
 have h1:(es.map g)[j]? =some (g e):=by rw[AQ,he];rfl
 rw[h,AQ] at h1;obtain⟨q,hq,e1⟩:=Option.map_eq_some_iff.mp h1;obtain⟨h2,h3⟩:=List.getElem?_eq_some_iff.mp hq;rw[HI] at h3;subst h3;exact e1.symm
theorem Ee{α β:Type}{es:List α}{g:α->β}{f:Nat->β}{m:Nat}(h:es.map g=(Ah m).map f):es.length=m:=by
 have:=congrArg C7 h
 rwa [AD,AD,Dv] at this
def xh:Option (Nat×Fc)->AN
 |none=>[pT]
 |some (cd,y)=>[OR cd,EA cd CH Bw y]
def Jr(t:Option (Nat×Fc)):F6:=Ao (xh t)
structure j5(f:Nat->Ay)(n:Nat) where
 es:List IE
 ok:es.map IE.ns=(Ah n).map f
 k:Nat
 t:Nat
 tb:Option (Nat×Fc)
structure X4(es:List SE) where
 ks:Db
 ok:ks.map (·.1)=es.map λe=>BB eS (SE.rows e)
 r:Nat
theorem aO{E:Type}{es:List SE}{g:E->Str}{f:SE->Str}{n:Nat}(hn:n=es.length)(t:He E (λj e=> ∀x,es[j]? =some x->g e=f x) n):t.es.map g=es.map f:=by
 apply Hz;intro j;rw[AQ,AQ];cases he:t.es[j]? with
 |some e=>
  have h1:j<n:=by rw[<-t.len];exact(List.getElem?_eq_some_iff.mp he).1
  have h2:es[j]? =some es[j]:=AJ ADp
  rw[h2];show some (g e)=some (f _);rw[t.all j e he _ h2]
 |none=>
  have h1:=List.getElem?_eq_none_iff.mp he;rw[t.len] at h1;rw[B7 ADp];rfl
theorem eP(e:SE)(j:Nat){r:List Str}(h:SE.rows e=r):EE (Fn e.ks) j=EE (r.map Fb) j:=by
 subst h;unfold Fn SE.rows;rw[CK];rfl
include O
def kv(U:AA 31 A)(L D c a acc:Nat)(es:List SE)(h0:es≠[])(hl:es.length<=1000)(hf: ∀e∈es,JE (SE.rows e)):Ag B.C A where
 c:=.compStart ON 0 (J a) (J acc) (Gm ON [] L D)
 F:=[As D [],AE acc [],BQ a c 0,AE c (es.map SE.v),DB es]
 X:=X4 es
 res:=λYa=>.ok .next
 led:=λq=>[As D [(Er,J q.r)],AE acc (q.ks.map rv),AE c (es.map SE.v),DB es]
 ok:=by
  have hlen:(es.map SE.v).length=es.length:=AD _;have h:=O9 (B:=B) (A:=A) (elt:=DL ON) (iter:=Hf ON) (x0:=Er) (p0:=(Cp ON).pos) (sc:=Gh ON) (pos:=ON.pos) (env:=Gm ON [] L D) (dv:=As D) (acc:=acc) (a:=a) (c:=c) O (ADp:6<=30) U (E:=Str×Nat) rv (λYa=>[]) (λj e=> ∀x,es[j]? =some x->e.1=BB eS (SE.rows x)) (λYa:Unit=>[DB es]) (xs:=es.map SE.v) (K:=λv=> ∃r:Nat,v=J r)
   (λv hv=>by obtain⟨q,_,rfl⟩:=List.mem_map.mp hv;exact⟨_,rfl⟩)
   (λA' h v ⟨r,e⟩ l hl=>by
    subst e
    rcases hl with rfl|⟨u,⟨i,rfl⟩,rfl⟩
    ·exact mw O h L D r
    ·exact mx O h L D r i)
   (λA' SG B8 j v0 hv _=>by
    rw[AQ] at hv;obtain⟨e,he,rfl⟩:=Option.map_eq_some_iff.mp hv;have g:=rT O (B8.le (ADp:20<=30)) L D e.a e.ks (hf e (B4 he))
    refine AC.weaken (((AC.Vy (P:=[_]) (Q:=λYa=>[_]) he g).frame [AE c (es.map SE.v)]).ix [0,1,0] rfl) λq=>⟨(⟨(_,q),λx hx=>by rw[he] at hx;cases hx;rfl⟩,()),rfl,λR s S=>?_⟩
    exact(St.picked (L:=[_,_,_]) (ix:=[0,1,0]) S rfl).BV (.refl _))
   ADp () (by intro e;rw[e] at hlen;simp at hlen;exact h0 (by cases es with|nil=>rfl|cons=>simp at hlen))
  refine AC.weaken h λy=>?_;obtain⟨y1,u,r,e⟩:=y;subst e;exact⟨⟨y1.1.es,aO (g:=λe:Str×Nat=>e.1) (f:=λx=>BB eS (SE.rows x)) hlen y1.1,r⟩,rfl,λR s S=>S.BV (by
   simp only[An,Ao,Bi.flat,Ey,Ex,Aj,Al];exact .refl _)⟩
def kx(U:AA 31 A)(L D c a acc:Nat)(es:List SE)(h0:es≠[])(hl:es.length<=1000)(hf: ∀e∈es,JE (SE.rows e)):Ag B.C A where
 c:=.compStart OO 0 (J a) (J acc) (Gm OO [] L D)
 F:=[As D [],AE acc [],BQ a c 0,AE c (es.map SE.v),DB es]
 X:=X4 es
 res:=λYa=>.ok .next
 led:=λq=>[As D [(Er,J q.r)],AE acc (q.ks.map rv),AE c (es.map SE.v),DB es]
 ok:=by
  have hlen:(es.map SE.v).length=es.length:=AD _;have h:=O9 (B:=B) (A:=A) (elt:=DL OO) (iter:=Hf OO) (x0:=Er) (p0:=(Cp OO).pos) (sc:=Gh OO) (pos:=OO.pos) (env:=Gm OO [] L D) (dv:=As D) (acc:=acc) (a:=a) (c:=c) O (ADp:6<=30) U (E:=Str×Nat) rv (λYa=>[]) (λj e=> ∀x,es[j]? =some x->e.1=BB eS (SE.rows x)) (λYa:Unit=>[DB es]) (xs:=es.map SE.v) (K:=λv=> ∃r:Nat,v=J r)
   (λv hv=>by obtain⟨q,_,rfl⟩:=List.mem_map.mp hv;exact⟨_,rfl⟩)
   (λA' h v ⟨r,e⟩ l hl=>by
    subst e
    rcases hl with rfl|⟨u,⟨i,rfl⟩,rfl⟩
    ·exact my O h L D r
    ·exact mz O h L D r i)
   (λA' SG B8 j v0 hv _=>by
    rw[AQ] at hv;obtain⟨e,he,rfl⟩:=Option.map_eq_some_iff.mp hv;have g:=rU O (B8.le (ADp:20<=30)) L D e.a e.ks (hf e (B4 he))
    refine AC.weaken (((AC.Vy (P:=[_]) (Q:=λYa=>[_]) he g).frame [AE c (es.map SE.v)]).ix [0,1,0] rfl) λq=>⟨(⟨(_,q),λx hx=>by rw[he] at hx;cases hx;rfl⟩,()),rfl,λR s S=>?_⟩
    exact(St.picked (L:=[_,_,_]) (ix:=[0,1,0]) S rfl).BV (.refl _))
   ADp () (by intro e;rw[e] at hlen;simp at hlen;exact h0 (by cases es with|nil=>rfl|cons=>simp at hlen))
  refine AC.weaken h λy=>?_;obtain⟨y1,u,r,e⟩:=y;subst e;exact⟨⟨y1.1.es,aO (g:=λe:Str×Nat=>e.1) (f:=λx=>BB eS (SE.rows x)) hlen y1.1,r⟩,rfl,λR s S=>S.BV (by
   simp only[An,Ao,Bi.flat,Ey,Ex,Aj,Al];exact .refl _)⟩
def lS(U:AA 81 A)(K:LC)(L D c a acc b:Nat)(T_:Nat->List Str)(es:List SE)(t0:Option (Nat×Fc))(ss:Aa)(m:Nat)(hs:ns ss=Ah m)(hm:m<=1000)(F5:m≠0)(hb:es.map SE.rows=(Ah m).map T_)(hr: ∀j,j<m->T_ j≠[]/\(T_ j).length<=200):Ag B.C A where
 c:=.compStart UK 0 (J a) (J acc) (jz K L D)
 F:=[As D [],AE acc [],BQ a c 0,AF c ss,AW K.ba (J b),AE b (es.map SE.v),DB es,.many (Jr t0)]
 X:=j5 (λj=>EE ((T_ j).map Fb) j) m
 res:=λYa=>.ok .next
 led:=λq=>[As D [(BA,.int (q.k:Int) q.t)],AE acc (q.es.map IE.v),AF c ss,BU q.es,AW K.ba (J b),AE b (es.map SE.v),DB es,.many (Jr q.tb)]
 ok:=by
  have hlen:=Ee hb;have Zj:(es.map SE.v).length=es.length:=AD _;have h:=D_ (B:=B) (A:=A) (elt:=DL UK) (iter:=Hf UK) (x0:=BA) (p0:=(Cp UK).pos) (sc:=Gh UK) (pos:=UK.pos) (env:=jz K L D) (dv:=As D) (acc:=acc) (a:=a) (c:=c) O (ADp:6<=80) U (E:=IE) IE.v (λe=>[IE.p e]) (λj e=>IE.ns e=EE ((T_ j).map Fb) j) (λt:Option (Nat×Fc)=>[AW K.ba (J b),AE b (es.map SE.v),DB es,.many (Jr t)]) (ss:=ss) (n:=m) hs
   (λA' h j k l hl=>by
    rcases hl with rfl|⟨i,m,rfl⟩
    ·exact qC O h K L D j k
    ·exact qD O h K L D j k i m)
   (λA' SG B8 j hj k t=>by
    have he:es[j]? =some es[j]:=AJ ADp
    have JA:=Hn hb he;obtain⟨r1,r2⟩:=hr j hj;have mU:es[j].ks≠[]:=λe=>r1 (by rw[<-JA];unfold SE.rows;rw[e];rfl)
    have mV:es[j].ks.length<=200:=by rw[<-JA] at r2;unfold SE.rows at r2;rwa [AD] at r2
    have hx:(es.map SE.v)[j]? =some (.ref (es[j].a+323)):=by rw[AQ,he];rfl
    have Zh:=eP es[j] j JA;cases t with
    |none=>
     have g:=qA O (B8.le (ADp:60<=80)) K L D j k b es[j].a (es.map SE.v) es[j].ks ADp hx mU mV
     refine AC.weaken ((AC.Vy (P:=[_,_,_,_]) (Q:=λq:aW (EE (Fn es[j].ks) j)=>[_,_,_,_,_,_]) he g).pre λR s S=>?_) λq=>⟨(⟨⟨q.a,q.ys⟩,q.ok.trans Zh⟩,some (q.cd,q.y)),rfl,λR s S=>?_⟩
     ·exact(St.picked (L:=[_,_,_,_,_]) (ix:=[0,0,0,1,0]) S rfl).BV (.refl _)
     ·have S1:=St.picked (L:=[_,_,_,_,_,_,_]) (ix:=[0,0,0,0,2,0,0]) S rfl
      exact S1.BV (.refl _)
    |some t=>
     obtain⟨cd,y⟩:=t;have g:=qB O (B8.le (ADp:60<=80)) K L D j k b es[j].a cd y (es.map SE.v) es[j].ks ADp hx mU mV
     refine AC.weaken ((AC.Vy (P:=[_,_,_,_,_]) (Q:=λq:Gk (EE (Fn es[j].ks) j)=>[_,_,_,_,_,_]) he g).pre λR s S=>?_) λq=>⟨(⟨⟨q.a,q.ys⟩,q.ok.trans Zh⟩,some (cd,y)),rfl,λR s S=>?_⟩
     ·have S1:St B.C ([As D [(BA,.int (j:Int) k)],AW K.ba (J b),AE b (es.map SE.v),DB es,OR cd,EA cd CH Bw y]++R) s:=S.BV (.refl _)
      exact St.picked (L:=[_,_,_,_,_,_]) (ix:=[0,0,0,1,1,0]) S1 rfl
     ·have S1:=St.picked (L:=[_,_,_,_,_,_,_]) (ix:=[0,0,0,0,2,0,0]) S rfl
      exact S1.BV (.refl _)) hm t0 F5
  exact AC.weaken h λy=>⟨⟨y.1.1.es,F2 (g:=IE.ns) y.1.1,y.2.1,y.2.2,y.1.2⟩,rfl,λR s S=>S.BV (by
   simp only[An,Ao,Bi.flat,Ey,Ex,Aj,Al];exact .refl _)⟩
def lN(U:AA 81 A)(K:LC)(L D c a acc b:Nat)(T_:Nat->List Str)(es:List SE)(t0:Option (Nat×Fc))(ss:Aa)(m:Nat)(hs:ns ss=Ah m)(hm:m<=1000)(F5:m≠0)(hb:es.map SE.rows=(Ah m).map T_)(hr: ∀j,j<m->T_ j≠[]/\(T_ j).length<=200):Ag B.C A where
 c:=.compStart Tw 0 (J a) (J acc) (i7 K L D)
 F:=[As D [],AE acc [],BQ a c 0,AF c ss,AW K.na (J b),AE b (es.map SE.v),DB es,.many (Jr t0)]
 X:=j5 (λj=>EE ((T_ j).map Fb) j) m
 res:=λYa=>.ok .next
 led:=λq=>[As D [(BA,.int (q.k:Int) q.t)],AE acc (q.es.map IE.v),AF c ss,BU q.es,AW K.na (J b),AE b (es.map SE.v),DB es,.many (Jr q.tb)]
 ok:=by
  have hlen:=Ee hb;have Zj:(es.map SE.v).length=es.length:=AD _;have h:=D_ (B:=B) (A:=A) (elt:=DL Tw) (iter:=Hf Tw) (x0:=BA) (p0:=(Cp Tw).pos) (sc:=Gh Tw) (pos:=Tw.pos) (env:=i7 K L D) (dv:=As D) (acc:=acc) (a:=a) (c:=c) O (ADp:6<=80) U (E:=IE) IE.v (λe=>[IE.p e]) (λj e=>IE.ns e=EE ((T_ j).map Fb) j) (λt:Option (Nat×Fc)=>[AW K.na (J b),AE b (es.map SE.v),DB es,.many (Jr t)]) (ss:=ss) (n:=m) hs
   (λA' h j k l hl=>by
    rcases hl with rfl|⟨i,m,rfl⟩
    ·exact oE O h K L D j k
    ·exact oF O h K L D j k i m)
   (λA' SG B8 j hj k t=>by
    have he:es[j]? =some es[j]:=AJ ADp
    have JA:=Hn hb he;obtain⟨r1,r2⟩:=hr j hj;have mU:es[j].ks≠[]:=λe=>r1 (by rw[<-JA];unfold SE.rows;rw[e];rfl)
    have mV:es[j].ks.length<=200:=by rw[<-JA] at r2;unfold SE.rows at r2;rwa [AD] at r2
    have hx:(es.map SE.v)[j]? =some (.ref (es[j].a+323)):=by rw[AQ,he];rfl
    have Zh:=eP es[j] j JA;cases t with
    |none=>
     have g:=oC O (B8.le (ADp:60<=80)) K L D j k b es[j].a (es.map SE.v) es[j].ks ADp hx mU mV
     refine AC.weaken ((AC.Vy (P:=[_,_,_,_]) (Q:=λq:aW (EE (Fn es[j].ks) j)=>[_,_,_,_,_,_]) he g).pre λR s S=>?_) λq=>⟨(⟨⟨q.a,q.ys⟩,q.ok.trans Zh⟩,some (q.cd,q.y)),rfl,λR s S=>?_⟩
     ·exact(St.picked (L:=[_,_,_,_,_]) (ix:=[0,0,0,1,0]) S rfl).BV (.refl _)
     ·have S1:=St.picked (L:=[_,_,_,_,_,_,_]) (ix:=[0,0,0,0,2,0,0]) S rfl
      exact S1.BV (.refl _)
    |some t=>
     obtain⟨cd,y⟩:=t;have g:=oD O (B8.le (ADp:60<=80)) K L D j k b es[j].a cd y (es.map SE.v) es[j].ks ADp hx mU mV
     refine AC.weaken ((AC.Vy (P:=[_,_,_,_,_]) (Q:=λq:Gk (EE (Fn es[j].ks) j)=>[_,_,_,_,_,_]) he g).pre λR s S=>?_) λq=>⟨(⟨⟨q.a,q.ys⟩,q.ok.trans Zh⟩,some (cd,y)),rfl,λR s S=>?_⟩
     ·have S1:St B.C ([As D [(BA,.int (j:Int) k)],AW K.na (J b),AE b (es.map SE.v),DB es,OR cd,EA cd CH Bw y]++R) s:=S.BV (.refl _)
      exact St.picked (L:=[_,_,_,_,_,_]) (ix:=[0,0,0,1,1,0]) S1 rfl
     ·have S1:=St.picked (L:=[_,_,_,_,_,_,_]) (ix:=[0,0,0,0,2,0,0]) S rfl
      exact S1.BV (.refl _)) hm t0 F5
  exact AC.weaken h λy=>⟨⟨y.1.1.es,F2 (g:=IE.ns) y.1.1,y.2.1,y.2.2,y.1.2⟩,rfl,λR s S=>S.BV (by
   simp only[An,Ao,Bi.flat,Ey,Ex,Aj,Al];exact .refl _)⟩
def ky(U:AA 81 A)(K:LC)(L D c a acc w o p:Nat)(al:BC)(f1 f2:Nat->Ay)(es fs:List IE)(ps ss:Aa)(m:Nat)(hK:C8 A [L])(hs:ns ss=Ah m)(hm:m<=1000)(F5:m≠0)(hp:ps.length<=500)(TZ:es.map IE.ns=(Ah m).map f1)(Ta:fs.map IE.ns=(Ah m).map f2)(Te: ∀j,j<m->(f1 j).length<=500)(dN: ∀j,j<m->(f2 j).length<=500):Ag B.C A where
 c:=.compStart U8 0 (J a) (J acc) (m_ K L D)
 F:=[As D [],AE acc [],BQ a c 0,AF c ss,AW K.wa (J w),AW K.pl (J p),AW K.ot (J o),AE w (es.map IE.v),AE o (fs.map IE.v),AF p ps,AI L al,BU es,BU fs]
 X:=WP (λj=>EG (EG (ns ps) (f1 j)) (f2 j)) m
 res:=λYa=>.ok .next
 led:=λq=>[As D [(BA,.int (q.k:Int) q.t)],AE acc (q.es.map IE.v),AF c ss,BU q.es,AW K.wa (J w),AW K.pl (J p),AW K.ot (J o),AE w (es.map IE.v),AE o (fs.map IE.v),AF p ps,AI L al,BU es,BU fs]
 ok:=by
  have u_:=Ee TZ;have XT:=Ee Ta;have hl1:(es.map IE.v).length=es.length:=AD _;have Mr:(fs.map IE.v).length=fs.length:=AD _;have h:=D_ (B:=B) (A:=A) (elt:=DL U8) (iter:=Hf U8) (x0:=BA) (p0:=(Cp U8).pos) (sc:=Gh U8) (pos:=U8.pos) (env:=m_ K L D) (dv:=As D) (acc:=acc) (a:=a) (c:=c) O (ADp:6<=80) U (E:=IE) IE.v (λe=>[IE.p e]) (λj e=>IE.ns e=EG (EG (ns ps) (f1 j)) (f2 j)) (λYa:Unit=>[AW K.wa (J w),AW K.pl (J p),AW K.ot (J o),AE w (es.map IE.v),AE o (fs.map IE.v),AF p ps,AI L al,BU es,BU fs]) (ss:=ss) (n:=m) hs
   (λA' h j k l hl=>by
    rcases hl with rfl|⟨i,m,rfl⟩
    ·exact nA O h K L D j k
    ·exact nC O h K L D j k i m)
   (λA' SG B8 j hj k _=>by
    have hx:es[j]? =some es[j]:=AJ ADp
    have hy:fs[j]? =some fs[j]:=AJ ADp
    have q1:=Hn TZ hx;have q2:=Hn Ta hy;have U4:C8 A' [L]:=by subst SG;exact hK
    have l1:es[j].ys.length<=500:=by have:=Te j hj;rw[<-q1] at this;unfold IE.ns Mine.ns at this;rwa [AD] at this
    have l2:fs[j].ys.length<=500:=by have:=dN j hj;rw[<-q2] at this;unfold IE.ns Mine.ns at this;rwa [AD] at this
    have g:=rW O (B8.le (ADp:60<=80)) K L D j k w o p es[j].a fs[j].a al (es.map IE.v) (fs.map IE.v) ps es[j].ys fs[j].ys U4 ADp ADp (by rw[AQ,hx];rfl) (by rw[AQ,hy];rfl) hp l1 l2
    refine(AC.nj (P:=[_,_,_,_,_,_,_,_]) (Q:=λq:Gk _=>[_,_,_,_,_,_,_,_,_]) hx hy g).weaken λq=>⟨(⟨⟨q.a,q.ys⟩,q.ok.trans (by rw[<-q1,<-q2])⟩,()),rfl,λR s S=>S.BV (.refl _)⟩) hm () F5
  exact AC.weaken h λy=>⟨⟨y.1.1.es,F2 (g:=IE.ns) y.1.1,y.2.1,y.2.2⟩,rfl,λR s S=>S.BV (by
   simp only[An,Ao,Bi.flat,Ey,Ex,Aj,Al];exact .refl _)⟩
noncomputable abbrev sJ(a t:Nat):Bi:=.one (a+323) (.ex ⟨.type "slice",none,.fields ⟨[.none,.none,.int (-1) t]⟩,⟨[]⟩⟩)
omit O
section
variable{C:Cx}{A:AL}
theorem Wb(O:C.Ok){l sl:Addr}{t:Nat}{c:Value}{d:Option Addr}{xs:Ak}(hx:xs.length<=1000):
 AC C A (Builtin.«list.__getitem__» ⟨[.ref l,.ref sl],[]⟩) [.one l (.ls c d xs),.one sl (.ex ⟨.type "slice",none,.fields ⟨[.none,.none,.int (-1) t]⟩,⟨[]⟩⟩)]
  (λa:Nat=>.done (.ret (.ref (a+323)))) (λa=>[.one (a+323) (.ls (.type "list") none xs.reverse),.one l (.ls c d xs),.one sl (.ex ⟨.type "slice",none,.fields ⟨[.none,.none,.int (-1) t]⟩,⟨[]⟩⟩)]):=by
 intro R s S;have hy:(RI ⟨xs⟩ none none (some (-1))).toList=xs.reverse:=by rw[krv_pick]
 obtain⟨g,ho⟩:=S.Dj;have MK:=DV S.swap;have TW:s.TypeIs (.ref sl) "slice":=⟨_,MK,rfl⟩;have Is:(⟨xs⟩:Bs).size<=sizeLine:=AK (show xs.length<=1000 from hx) ADs
 show BN _ _ (Bb (.ref sl)>>=_) _ _ s;refine AB ?_;unfold Bb;refine AB (I_ TW J5 ?_);simp only[J1,if_true];refine AP ?_;show BN _ _ (J6 (.ref sl)>>=_) _ _ s;refine AB (H6 TW ?_);refine iN ADs ?_
 rw[H3];refine AB (AB (B9 MK rfl (x:=.int (-1) t) rfl (AB (DF (.int (-1) t) ?_))));refine iN ADs ?_
 refine AB (B9 MK rfl (x:=.none) rfl (AB (DF .none ?_)));refine AB (B9 MK rfl (x:=.none) rfl (AB (DF .none (AP ?_))));refine AB (m:=A7 (.ref l)) ?_;unfold A7;refine AB (DG ho rfl (AP ?_));refine AB (GR (Ie none none (some (-1)) xs.length ADs) ?_)
 refine AB (DS (AP ?_) (AK (Ke _ none none (some (-1))) Is));refine⟨s.heap.objs.size-323,?_,?_⟩
 ·rw[<-S.size_eq O]
 ·rw[<-S.size_eq O]
  exact S.alloc rfl ⟨G0,by rw[<-hy];rfl⟩
end
include O
theorem ke(U:AA 1 A)(x sl t:Nat)(xs:Ak):
 AS B A (AU "list.__getitem__" ⟨[.ref (x+323),.ref (sl+323)],[]⟩) [AE x xs,sJ sl t] () [AE x xs,sJ sl t]:=
 by apply Hc O U (.g 65<|.fi () [0,0])
def bc(U:AA 3 A)(x sl t:Nat)(xs:Ak)(hx:xs.length<=1000):Ag B.C A where
 c:=.call (.builtin "list.__getitem__") ⟨[.ref (x+323),.ref (sl+323)],[]⟩
 F:=[AE x xs,sJ sl t]
 X:=Nat
 res:=λa=>.ok (.ret (.ref (a+323)))
 led:=λa=>[AE a xs.reverse,AE x xs,sJ sl t]
 ok:=BF ADr Dq (ke O U.l.in1 x sl t xs) (Wb O hx)
abbrev Fg(ar:Addr)(n s t:Nat):BC:=[(Cb,.ref ar),(CZ,J n),(Gb,J s),(UJ,J t)]
theorem uF(U:AA 40 A)(L b:Nat)(K:LC)(es:List SE)(h0:es≠[])(hl:es.length<=1000)(hf: ∀e∈es,JE (SE.rows e)):
 AC B.C A (Bf ON (Fi B K L)) [AW K.ba (J b),AE b (es.map SE.v),DB es]
  (λq:Nat×X4 es=>J q.1)
  (λq=>[AE q.1 (q.2.ks.map rv),AW K.ba (J b),AE b (es.map SE.v),DB es]):=by
 obtain⟨_,_|_⟩:=B<;>exact H_ O U (.g 270465<|.cc (Bt O U.l b (es.map SE.v)) [1] λy0=>.g 65<|.al λa1=>.al λa2=>.cc (kv O U.l L a2 b y0 a1 es h0 hl hf) [0,0,0,0,1] λy3=>.g 393281<|.fi (a1,y3) [1,3,1,1])
theorem uG(U:AA 40 A)(L b:Nat)(K:LC)(es:List SE)(h0:es≠[])(hl:es.length<=1000)(hf: ∀e∈es,JE (SE.rows e)):
 AC B.C A (Bf OO (Fi B K L)) [AW K.na (J b),AE b (es.map SE.v),DB es]
  (λq:Nat×X4 es=>J q.1)
  (λq=>[AE q.1 (q.2.ks.map rv),AW K.na (J b),AE b (es.map SE.v),DB es]):=by
 obtain⟨_,_|_⟩:=B<;>exact H_ O U (.g 270465<|.cc (Bt O U.l b (es.map SE.v)) [1] λy0=>.g 65<|.al λa1=>.al λa2=>.cc (kx O U.l L a2 b y0 a1 es h0 hl hf) [0,0,0,0,1] λy3=>.g 393281<|.fi (a1,y3) [1,3,1,1])
theorem ni(U:AA 90 A)(L n s t b c m:Nat)(K:LC)(ar:Addr)(ss:Aa)(r1 r2:Nat->List Str)(es fs:List SE)(tb:Option (Nat×Fc))(hs:ns ss=Ah m)(hm:m<=1000)(F5:m≠0)(hb1:es.map SE.rows=(Ah m).map r1)(Te: ∀j,j<m->r1 j≠[]/\(r1 j).length<=200)(hb2:fs.map SE.rows=(Ah m).map r2)(dN: ∀j,j<m->r2 j≠[]/\(r2 j).length<=200):
 AC B.C A (Ac (Gv B 12 2) (Fi B K L)) [AI L (Fg ar n s t),AF s ss,AW K.ba (J b),AE b (es.map SE.v),DB es,AW K.na (J c),AE c (fs.map SE.v),DB fs,C3 K.wa none,C3 K.ot none,.many (Jr tb)]
  (λq:Nat×j5 (λj=>EE ((r1 j).map Fb) j) m×Nat×j5 (λj=>EE ((r2 j).map Fb) j) m=>Dg)
  (λq=>[AI L (Fg ar n s t),AF s ss,AW K.ba (J b),AE b (es.map SE.v),DB es,AW K.na (J c),AE c (fs.map SE.v),DB fs,AW K.wa (J q.1),AW K.ot (J q.2.2.1),AE q.1 (q.2.1.es.map IE.v),BU q.2.1.es,AE q.2.2.1 (q.2.2.2.es.map IE.v),BU q.2.2.2.es,.many (Jr q.2.2.2.tb)]):=by
 obtain⟨_,_|_⟩:=B<;>exact D7 O U (.g 270465<|.cc (Bt O U.l s (ss.map iv)) [1] λy0=>.g 65<|.al λa1=>.al λa2=>.cc (lS O U.l K L a2 s y0 a1 b r1 es tb ss m hs hm F5 hb1 Te) [0,0,0,0,1,1,1,6] λ(y3:j5 (λj=>EE (B0 Fb (r1 j)) j) m)=>.g 294885680087105<|.cc (Bt O U.l s (ss.map iv)) [2] λy4=>.g 65<|.al λa5=>.al λa6=>.cc (lN O U.l K L a6 s y4 a5 c r2 fs y3.tb ss m hs hm F5 hb2 dN) [0,0,0,0,8,8,8,6] λy7=>.g 1883635777<|.fi (a1,y3,a5,y7) [14,2,10,10,10,3,3,3,7,7,5,5,1,1,1])
theorem vk(U:AA 90 A)(L n s t w o:Nat)(K:LC)(ar:Addr)(ws os:Ak)(hw:ws.length<=500)(ho:os.length<=500):
 AC B.C A (Ac (Gv B 15 1) (Fi B K L)) [AI L (Fg ar n s t),AW K.wa (J w),AW K.ot (J o),AE w ws,AE o os]
  (λq:Nat=>.next)
  (λq=>[AI L (Fg ar n s t++[(Cc,J q)]),AE q (ws++os).reverse,AW K.wa (J w),AW K.ot (J o),AE w ws,AE o os]):=Ix O U (.g 1142177986<|.cc (Kx _ _ O U.l w o ws os (by first|lia|assumption|(rw[AX];lia)) (by first|lia|assumption|(rw[AX];lia))) [3,3] λ(y0:Nat)=>.fr λk1=>.cc (HB O U.l k1) [] λ(y2:Nat)=>.al λa3=>.g 270466<|.cc (bc O U.l y0 a3 y2 (ws++os) (by first|lia|assumption|(rw[AX];lia))) [1,0] λy4=>.cc (Dp O U.l) [] λYa=>.fr λk6=>.g 6470<|.fi (y4) [5,0,4,4,2,2])
abbrev VH(cd:Nat):Bi:=.one 319 (.ex ⟨.none,none,.fields ⟨[.int 278 0,.int 21 0,J cd]⟩,⟨[]⟩⟩)
abbrev WJ(cd c2:Nat):Bi:=.one 319 (.ex ⟨.none,none,.fields ⟨[.int 278 0,.int 21 0,J cd,.int 279 0,.int 53 0,J c2]⟩,⟨[]⟩⟩)
theorem vm(U:AA 90 A)(L n s t u:Nat)(K:LC)(ar:Addr):
 AC B.C A (Ac (Gv B 16 1) (Fi B K L)) [AI L (Fg ar n s t++[(Cc,J u)]),Yc [],.one 319 (.ex ⟨.none,none,.fields ⟨[]⟩,⟨[]⟩⟩)]
  (λq:KZ=>.next)
  (λq=>((AI L (Fg ar n s t++[(Cc,J u),(Eu,J q.z.x.a)])::VH q.cd::Yd q.z.cc::CX B q))):=Ix O U (.g 274432<|.fr λk0=>.fr λk1=>.fr λk2=>.al λa3=>.al λa4=>.fr λk5=>.fr λk6=>.al λa7=>.al λa8=>.al λa9=>.fr λH9=>.fr λQC=>.al λIF=>.g 68719516169<|.al λOL=>.g 64<|.cc (gJ O U.l OL) [8] λ(OT:KX×Nat)=>.fr λvS=>.g 7185<|.fi (⟨OT.fst,OT.snd,OL,IF,⟨k0,k1,cw k2 278 19 a3 a4 a7 a8 a9 H9 QC⟩⟩) (16::16::8::BW 10))
theorem vo(U:AA 90 A)(L n s t u k c:Nat)(K:LC)(ar:Addr)(ss:Aa)(AH:List It)(h1:(ss.map iv).length<=1000)(h2:(AH.map It.v).length<=1000):
 AC B.C A (Ac (Gv B 18 1) (Fi B K L)) [AI L (Fg ar n s t++[(Cc,J u),(Eu,J k)]),AF s ss,AW K.ch (J c),AE c (AH.map It.v),C3 K.pl none]
  (λq:Nat×Nat=>.next)
  (λq=>[AI L (Fg ar n s t++[(Cc,J u),(Eu,J k)]),AE q.1 (ss.map iv++[.int (((AH.map It.v).length:Nat):Int) q.2]),AF s ss,AW K.ch (J c),AE c (AH.map It.v),AW K.pl (J q.1)]):=Ix O U (.g 17563649<|.cc (IL O U.l c (B0 It.v AH) h2) [3] λ(y0:Nat×Nat)=>.al λa1=>.g 278596<|.cc (Kx _ _ O U.l s a1 (B0 iv ss) [.int (↑(B0 It.v AH).length) y0.snd] h1 (by first|lia|assumption|decide|(simp<;>lia))) [3,0] λy2=>.g 6535<|.fi (y2,y0.snd) [4,0,0,2,1,1])
theorem vp(U:AA 90 A)(L n s t u k w o p m:Nat)(K:LC)(ar:Addr)(f1 f2:Nat->Ay)(es fs:List IE)(ps ss:Aa)(hK:C8 A [L])(hs:ns ss=Ah m)(hm:m<=1000)(F5:m≠0)(hp:ps.length<=500)(TZ:es.map IE.ns=(Ah m).map f1)(Ta:fs.map IE.ns=(Ah m).map f2)(Te: ∀j,j<m->(f1 j).length<=500)(dN: ∀j,j<m->(f2 j).length<=500):
 AC B.C A (Ac (Gv B 19 1) (Fi B K L)) [AI L (Fg ar n s t++[(Cc,J u),(Eu,J k)]),AF s ss,AW K.wa (J w),AW K.pl (J p),AW K.ot (J o),AE w (es.map IE.v),AE o (fs.map IE.v),AF p ps,BU es,BU fs]
  (λq:Nat×WP (λj=>EG (EG (ns ps) (f1 j)) (f2 j)) m=>Dg)
  (λq=>[AI L (Fg ar n s t++[(Cc,J u),(Eu,J k),(Xx,J q.1)]),AF s ss,AE q.1 (q.2.es.map IE.v),BU q.2.es]):=by
 obtain⟨_,_|_⟩:=B<;>exact D7 O U (.g 270465<|.cc (Bt O U.l s (ss.map iv)) [1] λy0=>.g 65<|.al λa1=>.al λa2=>.cc (ky O U.l K L a2 s y0 a1 w o p [(⟨⟨[115,99,114,105,112,116]⟩⟩,.ref ar),(⟨⟨[110,117,109,98,101,114,115]⟩⟩,J n),(⟨⟨[115,116,97,114,116,115]⟩⟩,J s),(⟨⟨[116,101,120,116,115]⟩⟩,J t),(⟨⟨[116,117,114,110,101,100]⟩⟩,J u),(⟨⟨[107,101,121]⟩⟩,J k)] f1 f2 es fs ps ss m hK hs hm F5 hp TZ Ta Te dN) [0,0,0,0,1,1,1,1,1,1,0,0,0] λy3=>.fr λk4=>.g 1610881675<|.fi (a1,y3) [10,2,1,1])
def cI(U:AA 74 A)(u:Nat)(q:KZ)(ws:List IE)(hw: ∀e∈ws,e.ys.length<=1000)(h2:2<=ws.length)(NL:ws.length<64):Ag B.C A where
 c:=.call (.builtin "sorted") ⟨[J u],[(OC,J q.z.x.a)]⟩
 F:=AE u (ws.map IE.v)::BU ws::CX B q
 X:=Nat
 res:=λx=>.ok (.ret (J x))
 led:=λx=>AE x (De (λi j=>decide (EY (Ft ws i) (Ft ws j)<0)) (ws.map IE.v))::AE u (ws.map IE.v)::BU ws::CX B q
 ok:=by
  have hl:(ws.map IE.v).length=ws.length:=AD _;refine AC.weaken (AC.pre (NA (A:=A) O U.l ADp ADp (vY (A:=A.in1.in1) O (U.le (ADs:70+1+1<=74)).in1.in1 q ws hw) u ⟨[],rfl,By _⟩) λR s S=>S.BV ?_) λx=>⟨x.1,rfl,λR s S=>?_⟩
  ·show(Ao ((AE u (ws.map IE.v)::BU ws::CX B q)++R)).Perm (Ao ((AE u (ws.map IE.v)::(CX B q++[BU ws,.many []]))++R))
   generalize CX B q=K
   simp only[An,Ao,Bi.flat,A5,Aj,AG,Al];refine BY _ ?_;rw[<-AG,<-AG];exact A8 _ A9
  ·have S1:St B.C ([AE x.1 (De (λi j=>decide (EY (Ft ws i) (Ft ws j)<0)) (ws.map IE.v)),AE u (ws.map IE.v),BU ws]++CX B q++(.many (Mt q.z.x.a x.2.1 ws)::R)) s:=S.BV (by
    show(Ao ((AE x.1 _::AE u (ws.map IE.v)::(CX B q++[BU ws,.many (Mt q.z.x.a x.2.1 ws)]))++R)).Perm _
    generalize CX B q=K
    simp only[An,Ao,Bi.flat,A5,Aj,AG,Al];exact BY _ (BY _ (Ce _ _ _)))
   show St B.C (([AE x.1 (De (λi j=>decide (EY (Ft ws i) (Ft ws j)<0)) (ws.map IE.v)),AE u (ws.map IE.v),BU ws]++CX B q)++R) s
   revert S1
   generalize CX B q=K
   intro S1;exact St.drop (L':=[.many (Mt q.z.x.a x.2.1 ws)]) (S1.perm (by
    rw[AG _ R];exact CP _ (A9 (l₁:=[_]))))
def TJ(U:AA 74 A)(u k cd:Nat)(x:Fc)(ws:List IE)(hw: ∀e∈ws,e.ys.length<=1000/\2<=e.ys.length)(h2:2<=ws.length)(NL:ws.length<64):Ag B.C A where
 c:=.call (.builtin "sorted") ⟨[J u],[(OC,J k)]⟩
 F:=[AE u (ws.map IE.v),Hm k (HS B) Bk cd,EA cd CH Bk x,BU ws]
 X:=Nat
 res:=λr=>.ok (.ret (J r))
 led:=λr=>[AE r (De (λi j=>decide (DO ws i<DO ws j)) (ws.map IE.v)),AE u (ws.map IE.v),Hm k (HS B) Bk cd,EA cd CH Bk x,BU ws]
 ok:=by
  have hl:(ws.map IE.v).length=ws.length:=AD _;exact AC.weaken (NA (A:=A) O U.l ADp ADp (nD (A:=A.in1.in1) O (U.le (ADs:30+1+1<=74)).in1.in1 k cd x ws hw) u ⟨(),By _⟩) λr=>⟨r.1,rfl,λR s S=>S⟩
def Iw(B:Bx)(i:Nat):Stmt:=((A4 B.P 322).drop i).headD Au
def so1(B:Bx):Expr:=el (vE (Iw B 17)) 0
def so2(B:Bx):Expr:=el (vE (Iw B 17)) 1
theorem ql(U:AA 90 A)(L n s t u:Nat)(K:LC)(ar:Addr)(q:KZ)(ws:List IE)(hw: ∀e∈ws,e.ys.length<=1000)(h2:2<=ws.length)(NL:ws.length<64):
 AC B.C A (Bf (so1 B) (Fi B K L)) ((AI L (Fg ar n s t++[(Cc,J u),(Eu,J q.z.x.a)])::AE u (ws.map IE.v)::BU ws::CX B q))
  (λr:Nat=>J r)
  (λr=>((AE r (De (λi j=>decide (EY (Ft ws i) (Ft ws j)<0)) (ws.map IE.v))::AI L (Fg ar n s t++[(Cc,J u),(Eu,J q.z.x.a)])::AE u (ws.map IE.v)::[BU ws]))):=Jk O U (.g 17043456<|.cc (cI O U.l u q ws hw h2 NL) [1,1,1,1,1,1,1,1,1,1,1,1] λy0=>.fi (y0) [0,12,0,0])
abbrev sy(k2 fl fg ft tb x y z k6 k7:Nat):Ak:=[.str RB k2,.int (fl:Int) 0,.int 1 0,.int 0 0,.int 0 0,.int (fg:Int) 0,J ft,.bool true,.int 276 0,J tb,.none,J x,J y,J z,.int (k6:Int) 0,.int (fl:Int) 0,.str RB k7]
theorem qm(U:AA 90 A)(L n s t u k cd:Nat)(K:LC)(ar:Addr)(ws:List IE)(hw: ∀e∈ws,e.ys.length<=1000/\2<=e.ys.length)(h2:2<=ws.length)(NL:ws.length<64):
 AC B.C A (Bf (so2 B) (Fi B K L)) [AI L (Fg ar n s t++[(Cc,J u),(Eu,J k)]),AE u (ws.map IE.v),BU ws,VH cd] (λr:Nat×Nat=>J r.1)
  (λr=>[AE r.1 (De (λi j=>decide (DO ws i<DO ws j)) (ws.map IE.v)),AI L (Fg ar n s t++[(Cc,J u),(Eu,J k)]),AE u (ws.map IE.v),BU ws,WJ cd r.2]):=by
 obtain⟨w9,b1,b2,s9,zH,mu9,gn9⟩:=B;cases b1
 ·exact Ga O U.1 (.g 1140854784<|.fr λk0=>.fr λk1=>.fr λk2=>.al λa3=>.al λa4=>.fr λk5=>.al λa6=>.al λa7=>.al λa8=>.fr λk9=>.fr λH9=>.al λaZ=>.g 68719520330<|.al λIF=>
  .cc (TJ O U.l u IF aZ ⟨k0,k1,sy k2 279 19 a3 a4 a6 a7 a8 k9 H9⟩ ws hw h2 NL) [8,0,0,6] λ(y:Nat)=>.fi (y,aZ) [0,9,0,2,7]) ADq
 ·exact Ga O U.1 (.g 1140854784<|.fr λk0=>.fr λk1=>.fr λk2=>.al λa3=>.al λa4=>.fr λk5=>.al λa6=>.al λa7=>.al λa8=>.fr λk9=>.fr λH9=>.al λaZ=>.g 68719520330<|.al λIF=>
  .cc (TJ O U.l u IF aZ ⟨k0,k1,sy k2 279 19 a3 a4 a6 a7 a8 k9 H9⟩ ws hw h2 NL) [8,0,0,6] λ(y:Nat)=>.fi (y,aZ) [0,9,0,2,7]) ADq
abbrev lx:Stmt->Expr:=vE
abbrev uJ:Stmt->Dx:=O6
abbrev uK:Stmt->Pos:=oJ
abbrev Ye(e:Expr):Expr:=el e 1
abbrev gE(e:Expr):Expr:=el e 0
abbrev i5:Expr->Expr:=o4
abbrev yb:Expr->Nat->Expr:=el
abbrev jl(B:Bx)(i:Nat):Expr:=yb (lx (Iw B 11)) i
abbrev Mw(B:Bx)(i:Nat):Expr:=yb (lx (Iw B 14)) i
omit O
theorem nb(B:Bx):Gv B 11 1=[.If (.BoolOp .Or [.Compare ON [.NotEq] [Ye (jl B 0)] (U3 (jl B 0)),.Compare OO [.NotEq] [Ye (jl B 1)] (U3 (jl B 1))] (U3 (lx (Iw B 11)))) (uJ (Iw B 11)) [] (uK (Iw B 11))]:=by kernel_rfl
theorem nc(B:Bx):Gv B 14 1=[.If (.BoolOp .Or [.Compare (gE (Mw B 0)) [.NotEq] [Ye (Mw B 0)] (U3 (Mw B 0)),.Compare (gE (Mw B 1)) [.NotEq] [Ye (Mw B 1)] (U3 (Mw B 1)),.UnaryOp .Not (i5 (Mw B 2)) (U3 (Mw B 2)),.UnaryOp .Not (i5 (Mw B 3)) (U3 (Mw B 3))] (U3 (lx (Iw B 14)))) (uJ (Iw B 14)) [] (uK (Iw B 14))]:=by kernel_rfl
theorem nf(B:Bx):Gv B 17 1=[.If (.Compare (so1 B) [.NotEq] [so2 B] (U3 (lx (Iw B 17)))) (uJ (Iw B 17)) [] (uK (Iw B 17))]:=by kernel_rfl
include O
theorem rr(U:AA 10 A)(L n s t:Nat)(K:LC)(ar:Addr):
 AS B A (Bf (Ye (jl B 0)) (Fi B K L)) [AI L (Fg ar n s t)] (J t) [AI L (Fg ar n s t)]:=
 H_ O U (.g 65<|.fi () [0])
theorem rt(U:AA 10 A)(L n s t:Nat)(K:LC)(ar:Addr):
 AS B A (Bf (Ye (jl B 1)) (Fi B K L)) [AI L (Fg ar n s t)] (J t) [AI L (Fg ar n s t)]:=
 H_ O U (.g 65<|.fi () [0])
theorem v4(U:AA 10 A)(L w:Nat)(K:LC):
 AS B A (Bf (gE (Mw B 0)) (Fi B K L)) [AW K.wa (J w)] (J w) [AW K.wa (J w)]:=
 H_ O U (.g 65<|.fi () [0])
theorem v2(U:AA 10 A)(L w:Nat)(K:LC):
 AS B A (Bf (Ye (Mw B 0)) (Fi B K L)) [AW K.du (J w)] (J w) [AW K.du (J w)]:=
 H_ O U (.g 65<|.fi () [0])
theorem v3(U:AA 10 A)(L w:Nat)(K:LC):
 AS B A (Bf (gE (Mw B 1)) (Fi B K L)) [AW K.ot (J w)] (J w) [AW K.ot (J w)]:=
 H_ O U (.g 65<|.fi () [0])
theorem vz(U:AA 10 A)(L w:Nat)(K:LC):
 AS B A (Bf (Ye (Mw B 1)) (Fi B K L)) [AW K.be (J w)] (J w) [AW K.be (J w)]:=
 H_ O U (.g 65<|.fi () [0])
theorem iU(U:AA 70 A)(L w:Nat)(K:LC)(al:BC)(es:List IE)(hK:C8 A [L])(h:RJ es):
 AS B A (isTrue (i5 (Mw B 2)) (Fi B K L) (Bf (i5 (Mw B 2)) (Fi B K L))) [AW K.wa (J w),AE w (es.map IE.v),AI L al,BU es] true [AW K.wa (J w),AE w (es.map IE.v),AI L al,BU es]:=Xl O U (.g 262208<|.cc (b6 O U.l w L al es hK h) [1,1,1] λYa=>.fi () [3,0,0,0])
theorem dS(U:AA 70 A)(L w o:Nat)(K:LC)(al:BC)(es fs:List IE)(hK:C8 A [L])(h:VJ es fs):
 AS B A (isTrue (i5 (Mw B 3)) (Fi B K L) (Bf (i5 (Mw B 3)) (Fi B K L))) [AW K.wa (J w),AW K.ot (J o),AE w (es.map IE.v),AE o (fs.map IE.v),AI L al,BU fs,BU es] true [AW K.wa (J w),AW K.ot (J o),AE w (es.map IE.v),AE o (fs.map IE.v),AI L al,BU fs,BU es]:=Xl O U (.g 16785472<|.cc (Yi O U.l w o L al es fs hK h) [2,2,2,2,2] λYa=>.fi () (5::5::BW 5))
omit O
theorem ik(ks:List Str)(h: ∀x∈ks,x.cps.all (· <0x110000)=true):(Nx (ks.map HL)).canLay0=true/\(Nx (ks.map HL)).depth<=64:=by
 obtain⟨h1,h2⟩:=Vv ks h;exact⟨by simp only[En];exact h1,by simp only[Fl];lia⟩
theorem St.sH{C:Cx}{L:AN}{s:Af}(S:St C L s){a:Nat}{ks:Db}{l:List Str}(e:ks.map (·.1)=l)(hp:(a+323,AO.ls (.type "list") none (ks.map rv))∈Ao L):Gl s.heap (J a) (.list (l.map HL)):=e▸S.list hp (ew _ _)
theorem St.ip{C:Cx}{L:AN}{s:Af}(S:St C L s){a:Nat}{es:List IE}{l:List Ay}(e:es.map IE.ns=l)(hp:(a+323,AO.ls (.type "list") none (es.map IE.v))∈Ao L)(he: ∀e∈es,e.p∈Ao L):Gl s.heap (J a) (.list (l.map Je)):=by
 have:=S.ll hp he
 rw[<-e,CK];exact this
theorem iy{L:AN}{e:Bi}(h:e∈L){p:Addr×AO}(hp:p∈e.flat):p∈Ao L:=by
 induction L with
 |nil=>cases h
 |cons x r ih=>
  rcases List.mem_cons.mp h with rfl|h
  ·exact Ar _ hp
  ·exact Ax _ (ih h)
theorem nn{L:AN}{es:List IE}(h:BU es∈L): ∀e∈es,e.p∈Ao L:=λe he=>iy h (CB he)
theorem Zu{L:AN}{es:List IE}(i:Nat)(h:L[i]? =some (BU es)): ∀e∈es,e.p∈Ao L:=nn (B4 h)
include O
theorem vh(U:AA 60 A){L n s t b c:Nat}{K:LC}{ar:Addr}{es fs:List SE}{ts:Db}(h0:es≠[])(g0:fs≠[])(hl:es.length<=1000)(gl:fs.length<=1000)(hf: ∀e∈es,JE (SE.rows e))(gf: ∀e∈fs,JE (SE.rows e))
 (h1:es.map (λe=>BB eS (SE.rows e))=ts.map (·.1)) (h2:fs.map (λe=>BB eS (SE.rows e))=ts.map (·.1)) (hx: ∀x∈ts.map (·.1),x.cps.all (· <0x110000)=true):
 AC B.C A (Ac (Gv B 11 1) (Fi B K L)) [AI L (Fg ar n s t),AE t (ts.map rv),AW K.ba (J b),AE b (es.map SE.v),DB es,AW K.na (J c),AE c (fs.map SE.v),DB fs] (λYa:Unit=>.next)
  (λYa=>[AI L (Fg ar n s t),AE t (ts.map rv),AW K.ba (J b),AE b (es.map SE.v),DB es,AW K.na (J c),AE c (fs.map SE.v),DB fs]):=by
 obtain⟨l1,l2⟩:=ik (ts.map (·.1)) hx;rw[nb];refine AC.one (AC.MM (b:=false) (AC.Iu (AC.O5 (led1:=λYa:X4 es×Nat=>[AI L (Fg ar n s t),AE t (ts.map rv),AW K.ba (J b),AE b (es.map SE.v),DB es,AW K.na (J c),AE c (fs.map SE.v),DB fs]) ?_ λYa=>
  AC.O5 (led1:=λYa:X4 fs×Nat=>[AI L (Fg ar n s t),AE t (ts.map rv),AW K.ba (J b),AE b (es.map SE.v),DB es,AW K.na (J c),AE c (fs.map SE.v),DB fs]) ?_ λYa=>AC.eH)) λYa=>AC.nil)
 ·refine(AC.Fh (led2:=λ(q:Nat×X4 es) (_:Unit)=>[AI L (Fg ar n s t),AE q.1 (q.2.ks.map rv),AW K.ba (J b),AE b (es.map SE.v),DB es,AE t (ts.map rv),AW K.na (J c),AE c (fs.map SE.v),DB fs])
   (((uF O U.l L b K es h0 hl hf).frame [AI L (Fg ar n s t),AE t (ts.map rv),AW K.na (J c),AE c (fs.map SE.v),DB fs]).ix (2::2::2::BW 5) rfl)
   (λq=>(((rr O U.l L n s t K ar).frame [AE q.1 (q.2.ks.map rv),AW K.ba (J b),AE b (es.map SE.v),DB es,AE t (ts.map rv),AW K.na (J c),AE c (fs.map SE.v),DB fs]).ix (4::BW 8) rfl))
   (λq _=>Jm (d:=.list ((ts.map (·.1)).map HL)) (AA.Ow (n:=20) U.l) l1 l2 λR s S=>⟨S.sH (q.2.ok.trans h1) (IM 1 rfl),S.sH rfl (IM 5 rfl)⟩) rfl).weaken λp=>⟨(p.1.2,p.1.1),rfl,pk [0,4,1,1,1,1,1,1] rfl⟩
 ·refine(AC.Fh (led2:=λ(q:Nat×X4 fs) (_:Unit)=>[AI L (Fg ar n s t),AE q.1 (q.2.ks.map rv),AW K.na (J c),AE c (fs.map SE.v),DB fs,AE t (ts.map rv),AW K.ba (J b),AE b (es.map SE.v),DB es])
   (((uG O U.l L c K fs g0 gl gf).frame [AI L (Fg ar n s t),AE t (ts.map rv),AW K.ba (J b),AE b (es.map SE.v),DB es]).ix (5::5::5::BW 5) rfl)
   (λq=>(((rt O U.l L n s t K ar).frame [AE q.1 (q.2.ks.map rv),AW K.na (J c),AE c (fs.map SE.v),DB fs,AE t (ts.map rv),AW K.ba (J b),AE b (es.map SE.v),DB es]).ix (4::BW 8) rfl))
   (λq _=>Jm (d:=.list ((ts.map (·.1)).map HL)) (AA.Ow (n:=20) U.l) l1 l2 λR s S=>⟨S.sH (q.2.ok.trans h2) (IM 1 rfl),S.sH rfl (IM 5 rfl)⟩) rfl).weaken λp=>⟨(p.1.2,p.1.1),rfl,pk [0,4,4,4,4,1,1,1] rfl⟩
abbrev NW(L w o du be:Nat)(K:LC)(al:BC)(es fs ds bs:List IE):AN:=[AW K.wa (J w),AW K.ot (J o),AE w (es.map IE.v),AE o (fs.map IE.v),AI L al,BU fs,BU es,AW K.du (J du),AE du (ds.map IE.v),BU ds,AW K.be (J be),AE be (bs.map IE.v),BU bs]
theorem vj(U:AA 80 A){L w o du be:Nat}{K:LC}{al:BC}{es fs ds bs:List IE}(hK:C8 A [L])(hp:RJ es)(hb:VJ es fs)(h1:es.map IE.ns=ds.map IE.ns)(h2:fs.map IE.ns=bs.map IE.ns):
 AC B.C A (Ac (Gv B 14 1) (Fi B K L)) (NW L w o du be K al es fs ds bs) (λYa:Unit=>.next) (λYa=>NW L w o du be K al es fs ds bs):=by
 rw[nc];obtain⟨l1,l2⟩:=Xb (ds.map IE.ns);obtain⟨l3,l4⟩:=Xb (bs.map IE.ns);refine AC.one (AC.MM (b:=false) (AC.Iu (AC.O5 (led1:=λYa:Unit=>NW L w o du be K al es fs ds bs) ?_ λYa=>
  AC.O5 (led1:=λYa:Unit=>NW L w o du be K al es fs ds bs) ?_ λYa=>AC.O5 (led1:=λYa:Unit=>NW L w o du be K al es fs ds bs) ?_ λYa=>AC.O5 (led1:=λYa:Unit=>NW L w o du be K al es fs ds bs) ?_ λYa=>AC.eH)) λYa=>AC.nil)
 ·refine(AC.Fh (led2:=λ(_:Unit) (_:Unit)=>NW L w o du be K al es fs ds bs)
   ((v4 O U.l L w K).frame [AW K.ot (J o),AE w (es.map IE.v),AE o (fs.map IE.v),AI L al,BU fs,BU es,AW K.du (J du),AE du (ds.map IE.v),BU ds,AW K.be (J be),AE be (bs.map IE.v),BU bs])
   (λYa=>(((v2 O U.l L du K).frame [AW K.wa (J w),AW K.ot (J o),AE w (es.map IE.v),AE o (fs.map IE.v),AI L al,BU fs,BU es,AE du (ds.map IE.v),BU ds,AW K.be (J be),AE be (bs.map IE.v),BU bs]).ix (7::BW 12) rfl).ox [1,1,1,1,1,1,1,0,0,0,0,0,0] λYa=>rfl)
   (λYa Ya=>Jm (d:=.list ((ds.map IE.ns).map Je)) (AA.Ow (n:=20) U.l) l1 l2 λR s S=>⟨S.ip h1 (IM 2 rfl) (Zu 6 rfl),S.ip rfl (IM 8 rfl) (Zu 9 rfl)⟩) rfl).weaken λp=>⟨(),rfl,λR s S=>S⟩
 ·refine(AC.Fh (led2:=λ(_:Unit) (_:Unit)=>NW L w o du be K al es fs ds bs)
   ((((v3 O U.l L o K).frame [AW K.wa (J w),AE w (es.map IE.v),AE o (fs.map IE.v),AI L al,BU fs,BU es,AW K.du (J du),AE du (ds.map IE.v),BU ds,AW K.be (J be),AE be (bs.map IE.v),BU bs])).ix (1::BW 12) rfl)
   (λYa=>(((vz O U.l L be K).frame [AW K.wa (J w),AW K.ot (J o),AE w (es.map IE.v),AE o (fs.map IE.v),AI L al,BU fs,BU es,AW K.du (J du),AE du (ds.map IE.v),BU ds,AE be (bs.map IE.v),BU bs]).ix (10::1::BW 11) rfl).ox [1,1,1,1,1,1,1,1,1,1,0,0,0] λYa=>rfl)
   (λYa Ya=>Jm (d:=.list ((bs.map IE.ns).map Je)) (AA.Ow (n:=20) U.l) l3 l4 λR s S=>⟨S.ip h2 (IM 3 rfl) (Zu 5 rfl),S.ip rfl (IM 11 rfl) (Zu 12 rfl)⟩) rfl).weaken λp=>⟨(),rfl,λR s S=>S⟩
 ·refine AC.Tg (b:=true) ((((iU O U.l L w K al es hK hp).frame [AW K.ot (J o),AE o (fs.map IE.v),BU fs,AW K.du (J du),AE du (ds.map IE.v),BU ds,AW K.be (J be),AE be (bs.map IE.v),BU bs]).ix [0,1,2,3,0,0,0,0,0,0,0,0,0] rfl).ox [0,3,0,2,0,1,0,0,0,0,0,0,0] λYa=>rfl)
 ·exact AC.Tg (b:=true) ((dS O U.l L w o K al es fs hK hb).frame [AW K.du (J du),AE du (ds.map IE.v),BU ds,AW K.be (J be),AE be (bs.map IE.v),BU bs])
def cY(ws:List IE):Value->PyData
 |.ref a=>(match ws.find? (λe=>e.a+323==a) with|some e=>Je (ns e.ys)|none=>.none)
 |_=>.none
omit O
theorem Xp{C:Cx}{L:AN}{s:Af}(S:St C L s){ws:List IE}(hw: ∀e∈ws,e.p∈Ao L): ∀l:Ak,(∀v∈l,v=.none∨ ∃e∈ws,v=e.v)->Ob (Gl s.heap) l (l.map (cY ws))
 |[],_=>.nil
 |v::l,h=>by
  refine .cons ?_ (Xp S hw l λu hu=>h u (.tail _ hu))
  rcases h v (.head _) with rfl|⟨e,he,rfl⟩
  ·exact⟨_,.none⟩
  ·show Gl _ (.ref (e.a+323)) (match ws.find? (λx=>x.a+323==e.a+323) with|some e=>Je (ns e.ys)|none=>.none)
   cases hf:ws.find? (λx=>x.a+323==e.a+323) with
   |none=>
    have:=List.find?_eq_none.mp hf e he
    simp at this
   |some x=>
    have hx:=List.mem_of_find?_eq_some hf;have dQ:=List.find?_some hf;have zd:x.a+323=e.a+323:=by simpa using dQ
    show Gl _ (.ref (e.a+323)) (Je (ns x.ys));rw[<-zd];exact S.il (hw x hx)
theorem Zt(ws:List IE): ∀l:Ak,DQ (l.map (cY ws))=true/\D2 (l.map (cY ws))<=1
 |[]=>⟨rfl,By _⟩
 |v::l=>by
  obtain⟨h1,h2⟩:=Zt ws l;have h:(cY ws v).canLay0=true/\(cY ws v).depth<=1:=by
   unfold cY
   split
   ·split
    ·exact⟨(SS _).1,Ge (SS _).2⟩
    ·exact⟨rfl,By _⟩
   ·exact⟨rfl,By _⟩
  refine⟨by simp only[Aw,DQ,h1,h.1,Kq],?_⟩
  simp only[Aw,D2];exact Nat.max_le.mpr ⟨h.2,h2⟩
theorem UD{lt:Nat->Nat->Bool}{ws:List IE}: ∀v∈De lt (ws.map IE.v),v=.none∨ ∃e∈ws,v=e.v:=λv hv=>by
 unfold De at hv;obtain⟨i,_,rfl⟩:=List.mem_map.mp hv;rw[Ad,AQ];cases h:ws[i]? with
 |none=>exact .inl rfl
 |some e=>exact .inr ⟨e,B4 h,rfl⟩
include O
theorem vn(U:AA 96 A){L n s t u:Nat}{K:LC}{ar:Addr}{q:KZ}{ws:List IE}(hw: ∀e∈ws,e.ys.length<=1000/\2<=e.ys.length)(h2:2<=ws.length)(NL:ws.length<64)
 (IP: ∀i j,i<ws.length->j<ws.length->decide (EY (Ft ws i) (Ft ws j)<0)=decide (DO ws i<DO ws j)):
 AC B.C A (Ac (Gv B 17 1) (Fi B K L)) (AI L (Fg ar n s t++[(Cc,.ref (u+323)),(Eu,.ref (q.z.x.a+323))])::AE u (ws.map IE.v)::BU ws::VH q.cd::CX B q) (λYa:Nat=>.next)
  (λc:Nat=>[AI L (Fg ar n s t++[(Cc,.ref (u+323)),(Eu,.ref (q.z.x.a+323))]),BU ws,WJ q.cd c]):=by
 have hl:(ws.map IE.v).length=ws.length:=AD _;have e1:=ql O U.l L n s t u K ar q ws (λe he=>(hw e he).1) h2 NL;have heq:De (λi j=>decide (EY (Ft ws i) (Ft ws j)<0)) (ws.map IE.v)=De (λi j=>decide (DO ws i<DO ws j)) (ws.map IE.v):=
  Xs ADp λi j hi hj=>IP i j ADp ADp
 rw[heq] at e1;obtain⟨l1,l2⟩:=Zt ws (De (λi j=>decide (DO ws i<DO ws j)) (ws.map IE.v));rw[nf];refine AC.one (AC.MM (b:=false) (led1:=λc:Nat=>[AI L (Fg ar n s t++[(Cc,.ref (u+323)),(Eu,.ref (q.z.x.a+323))]),BU ws,WJ q.cd c]) ?_ λc=>AC.weaken AC.nil λYa=>⟨c,rfl,λR s S=>S⟩);refine AC.weaken (AC.Fh (led1:=λr:Nat=>[AE r (De (λi j=>decide (DO ws i<DO ws j)) (ws.map IE.v)),AI L (Fg ar n s t++[(Cc,.ref (u+323)),(Eu,.ref (q.z.x.a+323))]),AE u (ws.map IE.v),BU ws,VH q.cd])
  (led2:=λ(r:Nat) (r':Nat×Nat)=>[AE r'.1 (De (λi j=>decide (DO ws i<DO ws j)) (ws.map IE.v)),AI L (Fg ar n s t++[(Cc,.ref (u+323)),(Eu,.ref (q.z.x.a+323))]),AE u (ws.map IE.v),BU ws,WJ q.cd r'.2,AE r (De (λi j=>decide (DO ws i<DO ws j)) (ws.map IE.v))])
  (((e1.frame [VH q.cd]).pre λR s' S=>S.perm ?_))
  (λr=>(((qm O U.l L n s t u q.z.x.a q.cd K ar ws hw h2 NL).frame [AE r (De (λi j=>decide (DO ws i<DO ws j)) (ws.map IE.v))]).ix [1,1,1,1,0] rfl))
  (λr r'=>Jm (d:=.list ((De (λi j=>decide (DO ws i<DO ws j)) (ws.map IE.v)).map (cY ws))) (AA.Ow (n:=20) U.l) (by simp only[En];exact l1) (by simp only[Fl];lia) λR s S=>
   ⟨S.list (IM 5 rfl) (Xp S (Zu 3 rfl) _ UD),S.list (IM 0 rfl) (Xp S (Zu 3 rfl) _ UD)⟩) rfl) λp=>⟨p.2.2,rfl,pk [1,2,2] rfl⟩
 show(AI L (Fg ar n s t++[(Cc,.ref (u+323)),(Eu,.ref (q.z.x.a+323))])::AE u (ws.map IE.v)::BU ws::VH q.cd::(CX B q++R)).Perm (AI L (Fg ar n s t++[(Cc,.ref (u+323)),(Eu,.ref (q.z.x.a+323))])::AE u (ws.map IE.v)::BU ws::(CX B q++[VH q.cd])++R)
 generalize CX B q=Z
 refine .cons _ (.cons _ (.cons _ ?_))
 show(VH q.cd::(Z++R)).Perm ((Z++[VH q.cd])++R)
 rw[AG];exact List.perm_middle.symm
abbrev xT:Stmt->Expr:=vE
abbrev reP:Stmt->Pos:=oJ
def Tm:Expr:=el (vE (sN 29 20)) 1
def NS:Expr:=o4 (el (vE (sN 29 20)) 1)
abbrev rY(K:LC)(c L D:Nat):Env:=Gm Tm [(BA,c+323),(pp,K.du+323),(RC,K.be+323)] L D
abbrev Tl(K:LC)(c L D:Nat):Env:=Gm NS [(RC,K.be+323),(BA,c+323)] L D
theorem rZ(U:AA 6 A)(K:LC)(c L D j k:Nat)(o:DP):
 AS B A (Bo (Cp Tm) (rY K c L D) (.int (j:Int) k)) [C3 c o] () [AW c (.int (j:Int) k)]:=
 Ef O U (.g 6145<|.fi () [0])
theorem nE(U:AA 6 A)(K:LC)(c L D j k:Nat):
 AS B A (Bo (Cp NS) (Tl K c L D) (.int (j:Int) k)) [As D []] () [As D [(BD,.int (j:Int) k)]]:=
 Ef O U (.fr λk0=>.g 6145<|.fi () [0])
theorem nF(U:AA 6 A)(K:LC)(c L D j k i m:Nat):
 AS B A (Bo (Cp NS) (Tl K c L D) (.int (j:Int) k)) [As D [(BD,.int (i:Int) m)]] () [As D [(BD,.int (j:Int) k)]]:=
 Ef O U (.fr λk0=>.g 6145<|.fi () [0])
theorem rX(U:AA 6 A)(K:LC)(c L D v k:Nat):
 AS B A (Bf (DL NS) (Tl K c L D)) [As D [(BD,.int (v:Int) k)]] (Be (v:Int) k) [As D [(BD,.int (v:Int) k)]]:=
 H_ O U (.g 65<|.fi () [0])
theorem zp(U:AA 6 A)(K:LC)(c L D v k j t b y:Nat)(bs:Ak)(ys:Aa)(hl:bs.length<=1000)(hx:bs[j]? =some (J y))(h1:v∉ns ys):
 AS B A (isTrue (C9 NS) (Tl K c L D) (Bf (C9 NS) (Tl K c L D))) [As D [(BD,.int (v:Int) k)],AW c (.int (j:Int) t),AW K.be (J b),AE b bs,AF y ys] false [As D [(BD,.int (v:Int) k)],AW c (.int (j:Int) t),AW K.be (J b),AE b bs,AF y ys]:=Xl O U (.g 73082609857<|.cc (BZ O U.l b j t bs (J y) hx hl) [3] λYa=>.g 4421<|.cc (NE _ _ U.l y v k ys h1) [4] λYa=>.fi () [2,2,2,1,0])
theorem zq(U:AA 6 A)(K:LC)(c L D v k j t b y:Nat)(bs:Ak)(ys:Aa)(hl:bs.length<=1000)(hx:bs[j]? =some (J y))(h1:v∈ns ys):
 AS B A (isTrue (C9 NS) (Tl K c L D) (Bf (C9 NS) (Tl K c L D))) [As D [(BD,.int (v:Int) k)],AW c (.int (j:Int) t),AW K.be (J b),AE b bs,AF y ys] true [As D [(BD,.int (v:Int) k)],AW c (.int (j:Int) t),AW K.be (J b),AE b bs,AF y ys]:=Xl O U (.g 73082609857<|.cc (BZ O U.l b j t bs (J y) hx hl) [3] λYa=>.g 4421<|.cc (Pt _ _ U.l y v k ys h1) [4] λYa=>.fi () [2,2,2,1,0])
theorem nG(U:AA 6 A)(K:LC)(c L D v k j t b y:Nat)(bs:Ak)(ys:Aa)(hl:bs.length<=1000)(hx:bs[j]? =some (J y)):
 AC B.C A (isTrue (C9 NS) (Tl K c L D) (Bf (C9 NS) (Tl K c L D))) [As D [(BD,.int (v:Int) k)],AW c (.int (j:Int) t),AW K.be (J b),AE b bs,AF y ys] (λYa:Unit=>decide (v∈ns ys)) (λYa=>[As D [(BD,.int (v:Int) k)],AW c (.int (j:Int) t),AW K.be (J b),AE b bs,AF y ys]):=by
 by_cases h:v∈ns ys
 ·rw[decide_eq_true h]
  have e:=zq O U K c L D v k j t b y bs ys hl hx h;exact e
 ·rw[decide_eq_false h]
  exact zp O U K c L D v k j t b y bs ys hl hx h
structure eF(bs:Ak)(j y:Nat):Prop where
 get:bs[j]? =some (J y)
def kz(U:AA 7 A)(K:LC)(L D c a acc x y j t b:Nat)(bs:Ak)(xs ys:Aa)(hl:xs.length<=900)(h0:xs≠[])(ua:bs.length<=1000)(hy:eF bs j y):Ag B.C A where
 c:=.compStart NS 0 (J a) (J acc) (Tl K c L D)
 F:=[As D [],AE acc [],BQ a x 0,AF x xs,AW c (.int (j:Int) t),AW K.be (J b),AE b bs,AF y ys]
 X:=Qk ((ns xs).filter λv=>decide (v∈ns ys))
 res:=λYa=>.ok .next
 led:=λq=>[As D [(BD,.int (q.k:Int) q.t)],AF acc q.ys,AF x xs,AW c (.int (j:Int) t),AW K.be (J b),AE b bs,AF y ys]
 ok:=by
  have hlen:(ns xs).length=xs.length:=AD _;have h:=Io (B:=B) (A:=A) (elt:=DL NS) (ifs:=[C9 NS]) (iter:=Hf NS) (x0:=BD) (p0:=(Cp NS).pos) (sc:=Gh NS) (pos:=NS.pos) (env:=Tl K c L D) (D:=D) (acc:=acc) (a:=a) (c:=x) (G:=[AW c (.int (j:Int) t),AW K.be (J b),AE b bs,AF y ys]) (xs:=xs) (f:=Jf (ns xs) λv=>decide (v∈ns ys)) O U
   (NO _ _) (λj hj=>K3 ADp) ADp h0
   (λA' h j k l hl=>by
    rcases hl with rfl|⟨i,m,rfl⟩
    ·exact nE O h K c L D j k
    ·exact nF O h K c L D j k i m)
   (λA' h i v k hx=>Nm hx (((nG O h K c L D v k j t b y bs ys ua hy.get).frame [AF x xs]).pre (pk [0,1,1,1,1,0] rfl)|>.ox (0::4::BW 4) λYa=>rfl) (by
    exact(rX O h K c L D v k).frame _))
  rw[<-hlen,No] at h;exact h
theorem rc(U:AA 20 A)(K:LC)(c L D j t d b x y:Nat)(ds bs:Ak)(xs ys:Aa)(hl:ds.length<=1000)(hx:ds[j]? =some (J x))(hxl:xs.length<=900)(h0:xs≠[])(ua:bs.length<=1000)(hy:eF bs j y):
 AC B.C A (Bf (DL Tm) (rY K c L D)) [AW c (.int (j:Int) t),AW K.du (J d),AW K.be (J b),AE d ds,AE b bs,AF x xs,AF y ys]
  (λq:Nat×Qk ((ns xs).filter λv=>decide (v∈ns ys))=>J q.1)
  (λq=>[AW c (.int (j:Int) t),AF q.1 q.2.ys,AW K.du (J d),AW K.be (J b),AE d ds,AE b bs,AF x xs,AF y ys]):=by
 obtain⟨_,_|_⟩:=B<;>exact H_ O U (.g 1141915714<|.cc (BZ O U.l d j t ds (J x) hx hl) [3] λYa=>.g 4486<|.cc (Bt O U.l x (xs.map iv)) [5] λy1=>.g 65<|.al λa2=>.al λa3=>.cc (kz O U.l K L a3 c y1 a2 x y j t b bs xs ys hxl h0 ua hy) [0,0,0,0,1,2,2,2] λy4=>.g 393281<|.fi (a2,y4) [3,1,6,2,4,2,1,1])
def lB(U:AA 31 A)(K:LC)(L D s c a acc d b:Nat)(f1 f2:Nat->Ay)(es fs:List IE)(ss:Aa)(m:Nat)(hs:ns ss=Ah m)(hm:m<=1000)(F5:m≠0)(TZ:es.map IE.ns=(Ah m).map f1)(Ta:fs.map IE.ns=(Ah m).map f2)(Te: ∀j,j<m->f1 j≠[]/\(f1 j).length<=900):Ag B.C A where
 c:=.compStart Tm 0 (J a) (J acc) (rY K c L D)
 F:=[C3 c none,AE acc [],BQ a s 0,AF s ss,AW K.du (J d),AW K.be (J b),AE d (es.map IE.v),AE b (fs.map IE.v),BU es,BU fs]
 X:=WP (λj=>(f1 j).filter λv=>decide (v∈f2 j)) m
 res:=λYa=>.ok .next
 led:=λq=>[AW c (.int (q.k:Int) q.t),AE acc (q.es.map IE.v),AF s ss,BU q.es,AW K.du (J d),AW K.be (J b),AE d (es.map IE.v),AE b (fs.map IE.v),BU es,BU fs]
 ok:=by
  have u_:=Ee TZ;have XT:=Ee Ta;have hl1:(es.map IE.v).length=es.length:=AD _;have Mr:(fs.map IE.v).length=fs.length:=AD _;have h:=D_ (B:=B) (A:=A) (elt:=DL Tm) (iter:=Hf Tm) (x0:=BA) (p0:=(Cp Tm).pos) (sc:=Gh Tm) (pos:=Tm.pos) (env:=rY K c L D) (dv:=λl=>C3 c (l.head?.map (·.2))) (acc:=acc) (a:=a) (c:=s) O (ADp:6<=30) U (E:=IE) IE.v (λe=>[IE.p e]) (λj e=>IE.ns e=(f1 j).filter λv=>decide (v∈f2 j)) (λYa:Unit=>[AW K.du (J d),AW K.be (J b),AE d (es.map IE.v),AE b (fs.map IE.v),BU es,BU fs]) (ss:=ss) (n:=m) hs
   (λA' h j k l hl=>by
    exact rZ O h K c L D j k (l.head?.map (·.2)))
   (λA' SG B8 j hj k _=>by
    have hx:es[j]? =some es[j]:=AJ ADp
    have hy:fs[j]? =some fs[j]:=AJ ADp
    have q1:=Hn TZ hx;have q2:=Hn Ta hy;obtain⟨r1,r2⟩:=Te j hj;have l1:es[j].ys.length<=900:=by rw[<-q1] at r2;unfold IE.ns Mine.ns at r2;rwa [AD] at r2
    have l0:es[j].ys≠[]:=λe=>r1 (by rw[<-q1];unfold IE.ns;rw[e];rfl)
    have g:=rc O (B8.le (ADp:20<=30)) K c L D j k d b es[j].a fs[j].a (es.map IE.v) (fs.map IE.v) es[j].ys fs[j].ys ADp (by rw[AQ,hx];rfl) l1 l0 ADp ⟨by rw[AQ,hy];rfl⟩
    refine AC.weaken (AC.nj (P:=[_,_,_,_,_]) (Q:=λq:Nat×Qk _=>[_,_,_,_,_,_]) hx hy g) λq=>⟨(⟨⟨q.1,q.2.ys⟩,q.2.ok.trans (by rw[<-q1,<-q2])⟩,()),rfl,λR s S=>S.BV (.refl _)⟩) hm () F5
  exact AC.weaken h λy=>⟨⟨y.1.1.es,F2 (g:=IE.ns) y.1.1,y.2.1,y.2.2⟩,rfl,λR s S=>S.BV (by
   simp only[An,Ao,Bi.flat,Ey,Ex,Aj,Al];exact .refl _)⟩
theorem uH(U:AA 60 A)(L s du be m:Nat)(K:LC)(al:BC)(ar:Addr)(n:Nat)(f1 f2:Nat->Ay)(es fs:List IE)(ss:Aa)(hs:ns ss=Ah m)(hm:m<=1000)(F5:m≠0)(TZ:es.map IE.ns=(Ah m).map f1)(Ta:fs.map IE.ns=(Ah m).map f2)(Te: ∀j,j<m->f1 j≠[]/\(f1 j).length<=900):
 AC B.C A (Bf Tm (Fi B K L)) ((AI L ([(Cb,.ref ar),(CZ,J n),(Gb,J s)]++al)::AF s ss::AW K.du (J du)::AW K.be (J be)::AE du (es.map IE.v)::AE be (fs.map IE.v)::[BU es,BU fs]))
  (λq:Nat×WP (λj=>(f1 j).filter λv=>decide (v∈f2 j)) m=>J q.1)
  (λq=>((AE q.1 (q.2.es.map IE.v)::[BU q.2.es]))):=by
 obtain⟨_,_|_⟩:=B<;>exact H_ O U (.g 270465<|.cc (Bt O U.l s (ss.map iv)) [1] λy0=>.g 65<|.al λa1=>.al λa2=>.al λa3=>.cc (lB O U.l K L a2 s a3 y0 a1 du be f1 f2 es fs ss m hs hm F5 TZ Ta Te) [0,1,1,1,2,2,2,2,2,2] λy4=>.fi (a1,y4) [1,2])
omit O
theorem ng(B:Bx):Gv B 20 1=[.Return (some (.Compare (gE (xT (Iw B 20))) [.Eq] [Tm] (U3 (xT (Iw B 20))))) (reP (Iw B 20))]:=by kernel_rfl
abbrev qs(ar:Addr)(n s t u k q:Nat):BC:=Fg ar n s t++[(Cc,J u),(Eu,J k),(Xx,J q)]
include O
theorem n4(U:AA 10 A)(L n s t u k q:Nat)(K:LC)(ar:Addr):
 AS B A (Bf (gE (xT (Iw B 20))) (Fi B K L)) [AI L (qs ar n s t u k q)] (J q) [AI L (qs ar n s t u k q)]:=
 H_ O U (.g 65<|.fi () [0])
theorem vq(U:AA 70 A){L n s t u k kp du be m:Nat}{K:LC}{ar:Addr}{f1 f2:Nat->Ay}{ks es fs:List IE}{ss:Aa}(hs:ns ss=Ah m)(hm:m<=1000)(F5:m≠0)(TZ:es.map IE.ns=(Ah m).map f1)(Ta:fs.map IE.ns=(Ah m).map f2)(Te: ∀j,j<m->f1 j≠[]/\(f1 j).length<=900)
 (hk:ks.map IE.ns=(Ah m).map λj=>(f1 j).filter λv=>decide (v∈f2 j)):
 AC B.C A (Ac (Gv B 20 1) (Fi B K L)) [AI L (qs ar n s t u k kp),AF s ss,AW K.du (J du),AW K.be (J be),AE du (es.map IE.v),AE be (fs.map IE.v),BU es,BU fs,AE kp (ks.map IE.v),BU ks] (λYa:Unit=>.ret (.bool true)) (λYa=>[]):=by
 obtain⟨l1,l2⟩:=Xb (ks.map IE.ns);rw[ng];refine AC.one (AC.retS (v:=λYa:Unit=>.bool true) ?_);refine AC.weaken (AC.TQ (led1:=λYa:Unit=>[AI L (qs ar n s t u k kp),AF s ss,AW K.du (J du),AW K.be (J be),AE du (es.map IE.v),AE be (fs.map IE.v),BU es,BU fs,AE kp (ks.map IE.v),BU ks])
  (led2:=λ(_:Unit) (q:Nat×WP (λj=>(f1 j).filter λv=>decide (v∈f2 j)) m)=>[AE q.1 (q.2.es.map IE.v),BU q.2.es,AE kp (ks.map IE.v),BU ks])
  ((n4 O U.l L n s t u k kp K ar).frame [AF s ss,AW K.du (J du),AW K.be (J be),AE du (es.map IE.v),AE be (fs.map IE.v),BU es,BU fs,AE kp (ks.map IE.v),BU ks])
  (λYa=>(uH O U.l L s du be m K [(UJ,J t),(Cc,J u),(Eu,J k),(Xx,J kp)] ar n f1 f2 es fs ss hs hm F5 TZ Ta Te).frame [AE kp (ks.map IE.v),BU ks])
  (λYa q=>oo (d:=.list ((ks.map IE.ns).map Je)) (AA.Ow (n:=20) U.l) l1 l2 λR s S=>⟨S.ip rfl (IM 2 rfl) (Zu 3 rfl),S.ip (q.2.ok.trans hk.symm) (IM 0 rfl) (Zu 1 rfl)⟩) rfl) λp=>⟨(),rfl,pk [] rfl⟩
omit O
theorem de(B:Bx):(A4 B.P 322).take 3++(Gv B 3 2++(Gv B 5 1++(Gv B 6 2++(Gv B 8 3++(Gv B 11 1++(Gv B 12 2++(Gv B 14 1++(Gv B 15 1++(Gv B 16 1++(Gv B 17 1++(Gv B 18 1++(Gv B 19 1++Gv B 20 1))))))))))))=A4 B.P 322:=by kernel_rfl
theorem qX(cs:Ay): ∀(p:Ay) (s:Nat),cs.foldl (λl c=>l++[l.getLastD 0+c]) (p++[s])=p++Ml cs s:=by
 induction cs with
 |nil=>intro p s;rfl
 |cons c r ih=>
  intro p s;rw[C0];have e:(p++[s]).getLastD 0=s:=by rw[J9];simp
  rw[e,ih (p++[s]) (s+c),AG]
  rfl
theorem VO(cs:Ay)(s:Nat):EE cs s=Ml cs s:=qX cs [] s
theorem qh(v:Int)(j:Nat)(hj:j<6):FL (Sr v j):=by
 unfold Sr;refine⟨?_,?_,?_,?_,?_,?_⟩
 ·split
  ·exact⟨[9],rfl⟩
  ·exact⟨[],rfl⟩
 ·intro x hx
  split at hx
  ·simp at hx;lia
  ·simp at hx;lia
 ·show DE _ _≠[]
  simp
 ·intro x hx
  have:=Kt (show x∈DE _ _ from hx)
  lia
 ·split
  ·exact(ADs:(2:Nat)<=100)
  ·exact(ADs:(1:Nat)<=100)
 ·show(DE _ _).length<=100
  rw[M1];exact AK (N9 (v.fdiv ((2:Nat):Int)) 3) ADs
theorem qf(v:Int)(j:Nat):WQ (Sr v j):=by
 refine⟨?_⟩;unfold Sr;rw[QW];have h2:((PN (97+j) (C_ (v.fdiv ((2:Nat):Int)) 3+1)).cps.toList).count 32=0:=by
  show(DE _ _).count 32=0
  rw[List.count_eq_zero];intro hx
  have:=Kt hx
  lia
 rw[h2]
 split<;>rfl
theorem RN{vs:List Int}{c:Str×Str}(h:c∈Jb vs)(hl:vs.length<=6): ∃v j,j<6/\c=Sr v j:=by
 unfold Jb at h;obtain⟨j,hj,rfl⟩:=List.mem_iff_getElem.mp h;rw[Pa] at hj;exact⟨vs[j],j,AK hj hl,by rw[List.getElem_mapIdx]⟩
theorem iq(l:List Int):3<=(DA l).length/\(DA l).length<=6:=by
 obtain⟨h1,h2⟩:=Q5 l;unfold DA Jb;rw[Pa,AX,A6];show 3<=(HD l).length-1+3/\(HD l).length-1+3<=6
 lia
theorem nh(l:List Int):(∀c∈DA l,FL c)/\ ∀c∈DA l,WQ c:=by
 have hlen:((HD l).drop 1++[0,5,2]).length<=6:=by
  obtain⟨h1,h2⟩:=Q5 l;rw[AX,A6]
  show(HD l).length-1+3<=6
  lia
 refine⟨λc hc=>?_,λc hc=>?_⟩
 ·obtain⟨v,j,hj,rfl⟩:=RN hc hlen
  exact qh v j hj
 ·obtain⟨v,j,hj,rfl⟩:=RN hc hlen
  exact qf v j
theorem ri(l:List Int):2<=GG l/\GG l<=9:=by unfold GG;have:=N9 ((HD l).headD 0) 7;lia
theorem rh(l:List Int):1<=K7 l/\K7 l<=9:=by unfold K7;have:=N9 (((HD l).headD 0).fdiv ((8:Nat):Int)) 8;lia
def mq(c:Str×Str):It:=⟨0,c.1,0,c.2,0⟩
theorem mr(cs:Ed):(cs.map mq).map It.ab=cs:=by
 rw[CK]
 exact(CA λc _=>rfl).trans (List.map_id cs)
theorem Rp{m n:Nat}(hn:n<=1000){cs:Ed}(CD:cs≠[])(hW: ∀c∈cs,FL c)(hlen:cs.length<=20):
 C4 m n cs≠[]/\(C4 m n cs).length<=100/\JE (C4 m n cs)/\(BB eS (C4 m n cs)).cps.toList=DI cs:=by
 have Zf: ∀i∈cs.map mq,FL (i.f,i.p):=λi hi=>by obtain⟨c,hc,rfl⟩:=List.mem_map.mp hi;exact hW c hc
 obtain⟨h1,h2,h3,h4,h5,h6⟩:=Rb (m:=m) hn (cks:=cs.map mq) (by simpa using CD) Zf (by rw[AD];exact hlen) (a:=cs.foldl (Ab.step m) (H7 n)) (by rw[mr])
 have Fo:(cs.foldl (Ab.step m) (H7 n)).all=DI cs:=by rw[N4];simp[H7,Pj,DI]
 have XT:(C4 m n cs).length<=100:=by
  unfold C4 Ab.out;rw[AX,CF]
  have:=h1.rows
  exact Em this ADs
 refine⟨h4,XT,⟨AK XT ADs,λr hr=>?_⟩,?_⟩
 ·have hm:r.cps.toList∈((C4 m n cs).map λr=>r.cps.toList):=List.mem_map.mpr ⟨r,hr,rfl⟩
  have hs:=(List.sublist_flatten_of_mem hm).length_le;have e:((C4 m n cs).map λr=>r.cps.toList).flatten=(cs.foldl (Ab.step m) (H7 n)).all:=rfl;rw[e] at hs;exact AK hs h3
 ·rw[MN]
  exact Fo
theorem pO{x y:Str}(h:x.cps.toList=y.cps.toList):x=y:=by
 obtain⟨⟨x⟩⟩:=x;obtain⟨⟨y⟩⟩:=y;simp only at h;subst h;rfl
theorem T4{m n:Nat}(hn:n<=1000){cks:List It}(CD:cks≠[])(hW: ∀i∈cks,FL (i.f,i.p))(hlen:cks.length<=20):BB eS (C4 m n (cks.map It.ab))=BB eS (cks.map It.cat):=
 pO (by
  rw[Sl]
  exact(Rp (m:=m) hn (cs:=cks.map It.ab) (by simpa using CD) (λc hc=>by obtain⟨i,hi,rfl⟩:=List.mem_map.mp hc;exact hW i hi) (by rw[AD];exact hlen)).2.2.2)
theorem pV{cks:List It}(hW: ∀i∈cks,FL (i.f,i.p)):(BB eS (cks.map It.cat)).cps.all (· <0x110000)=true:=by
 rw[<-Array.all_toList,Sl,List.all_eq_true];intro x hx;unfold DI at hx;obtain⟨c,hc,hx⟩:=List.mem_flatMap.mp hx;obtain⟨i,hi,rfl⟩:=List.mem_map.mp hc;have w:=hW i hi
 rcases List.mem_append.mp hx with h|h
 ·have:=w.ws x h
  simp;lia
 ·have:=w.az x h
  simp;lia
theorem fE: ∀{l:Ay} {a k:Nat},Up l->(∀v∈l,a<=v/\v<=k)->l.length+a<=k+1∨l=[]
 |[],_,_,_,_=>.inr rfl
 |x::r,a,k,hu,h=>by
  left
  have hx:=h x (.head _)
  rcases fE (l:=r) (a:=x+1) (k:=k) (List.pairwise_cons.mp hu).2 (λv hv=>⟨(List.pairwise_cons.mp hu).1 v hv,(h v (.tail _ hv)).2⟩) with h1|h1
  ·rw[Ap];lia
  ·subst h1;simp;lia
theorem Hs{S:Ay}(h:G_ S){a:Nat}(ha:a<=S.length):BI S a≠[]/\(BI S a).length<=S.length+1:=by
 obtain⟨h1,h2,h3⟩:=h.w ha;have CD:BI S a≠[]:=λe=>by rw[e] at h3;cases h3
 refine⟨CD,?_⟩
 rcases fE h1 h2 with h|h
 ·lia
 ·exact absurd h CD
theorem IE.ns_len(e:IE):(IE.ns e).length=e.ys.length:=AD _
theorem K9{α β:Type}{es:List α}{g:α->β}{f:Nat->β}{m:Nat}(h:es.map g=(Ah m).map f){e:α}(he:e∈es): ∃j,j<m/\g e=f j:=by
 obtain⟨j,hj,rfl⟩:=List.mem_iff_getElem.mp he;exact⟨j,by have:=Ee h;lia,Hn h (AJ hj)⟩
theorem oR{S:Ay}(h:G_ S)(h0:0<S.length)(h1:S.length<=90){es:List IE}(he:es.map IE.ns=(Ah S.length).map (BI S)):RJ es:=by
 have hl:=Ee he;refine⟨by lia,by lia,λe hm=>?_,λi j e f h1 h2=>?_⟩
 ·obtain⟨j,hj,ej⟩:=K9 he hm
  obtain⟨w1,w2⟩:=Hs h (Cw hj)
  have:=IE.ns_len e
  rw[ej] at this;refine⟨by lia,λz=>w1 (List.length_eq_zero_iff.mp ADp)⟩
 ·have hi:i<es.length:=(List.getElem?_eq_some_iff.mp h1).1
  have hj:j<es.length:=(List.getElem?_eq_some_iff.mp h2).1;have q1:ns e.ys=BI S i:=Hn (g:=IE.ns) he h1;have q2:ns f.ys=BI S j:=Hn (g:=IE.ns) he h2;rw[q1,q2];refine⟨PO (BI S i) (BI S j),?_,dn h ADp ADp⟩
  obtain⟨a1,a2,a3⟩:=h.w (show i<=S.length by lia)
  obtain⟨b1,b2,b3⟩:=h.w (show j<=S.length by lia)
  unfold PO;have hm:S.length∈(BI S i).filter λv=>decide (v∈BI S j):=List.mem_filter.mpr ⟨a3,by simpa using b3⟩
  cases hf:(BI S i).filter λv=>decide (v∈BI S j) with
  |nil=>rw[hf] at hm;cases hm
  |cons x r=>rfl
theorem uB{S:Ay}(h:G_ S)(h0:0<S.length)(h1:S.length<=90){N:Nat->Nat}(hN: ∀j,j<S.length->j<=N j/\N j<=S.length){es fs:List IE}(he:es.map IE.ns=(Ah S.length).map (BI S))(hf:fs.map IE.ns=(Ah S.length).map λj=>j::BI S (N j)):VJ es fs:=by
 have hl:=Ee he;have Mr:=Ee hf;refine⟨by lia,by lia,by lia,(oR h h0 h1 he).be,λe hm=>?_,λj e f q1 q2=>?_⟩
 ·obtain⟨j,hj,ej⟩:=K9 hf hm
  obtain⟨w1,w2⟩:=Hs h (hN j hj).2
  have:=IE.ns_len e
  rw[ej,Ap] at this
  lia
 ·have hj:j<fs.length:=(List.getElem?_eq_some_iff.mp q1).1
  have hk:(j+1) % es.length<es.length:=Nat.mod_lt _ ADp
  have e1:ns f.ys=j::BI S (N j):=Hn (g:=IE.ns) hf q1;have e2:ns e.ys=BI S ((j+1) % es.length):=Hn (g:=IE.ns) he q2;rw[e1,e2];obtain⟨n1,n2⟩:=hN j ADp
  exact YB h ADp n1 n2 ADp
theorem RD(S:Ay)(q:Nat): ∃r,BI S q=q::r:=⟨_,rfl⟩
def UY(S:Ay)(e:IE):Prop:= ∃p q,IE.ns e=p::BI S q
theorem UY.tl{S:Ay}{e:IE}{p q:Nat}(h:IE.ns e=p::BI S q):ns (e.ys.drop 1)=BI S q:=by
 have:ns (e.ys.drop 1)=(ns e.ys).drop 1:=by unfold ns;rw[Dk]
 rw[this,show ns e.ys=p::BI S q from h];rfl
theorem UY.snd{S:Ay}{e:IE}{p q:Nat}(h:IE.ns e=p::BI S q):e.snd=q:=by
 obtain⟨r,hr⟩:=RD S q;have h':ns e.ys=p::q::r:=by rw[<-hr];exact h
 unfold IE.snd
 match hy:e.ys with
 |[]=>rw[hy] at h';cases h'
 |[a]=>rw[hy] at h';cases h'
 |a::b::t=>
  rw[hy] at h';have h2:b.1=q:=by
   unfold ns at h';simp only[Aw,G4] at h';exact h'.2.1
  exact h2
theorem sI{S:Ay}{ws:List IE}(h: ∀e∈ws,UY S e)(i j:Nat)(hi:i<ws.length)(hj:j<ws.length):decide (EY (Ft ws i) (Ft ws j)<0)=decide (DO ws i<DO ws j):=by
 have g1:ws[i]? =some ws[i]:=AJ hi;have g2:ws[j]? =some ws[j]:=AJ hj;obtain⟨p1,q1,e1⟩:=h _ (Cn hi);obtain⟨p2,q2,e2⟩:=h _ (Cn hj);have t1:Ft ws i=BI S q1:=by unfold Ft;rw[g1];exact UY.tl e1
 have t2:Ft ws j=BI S q2:=by unfold Ft;rw[g2];exact UY.tl e2
 have s1:DO ws i=q1:=by unfold DO;rw[g1];exact UY.snd e1
 have s2:DO ws j=q2:=by unfold DO;rw[g2];exact UY.snd e2
 rw[t1,t2,s1,s2];exact eB q1 q2
theorem ja{S:Ay}(h:G_ S){es:List IE}(he:es.map IE.ns=(Ah S.length).map (BI S)): ∀e∈es,UY S e/\2<=e.ys.length/\e.ys.length<=S.length+1:=λe hm=>by
 obtain⟨j,hj,ej⟩:=K9 he hm;have e2:=IY h.one hj;have w:=(Hs h (Cw hj)).2;have hl:=IE.ns_len e;obtain⟨r,hr⟩:=RD S (S.getD j 0);refine⟨⟨j,S.getD j 0,by rw[ej,e2]⟩,?_,?_⟩
 ·rw[ej,e2,hr] at hl
  simp at hl;lia
 ·rw[ej] at hl;exact AK (Ge (Eq.symm hl)) w
theorem aD{S:Ay}(h:G_ S){N:Nat->Nat}(hN: ∀j,j<S.length->j<=N j/\N j<=S.length){fs:List IE}(hf:fs.map IE.ns=(Ah S.length).map λj=>j::BI S (N j)): ∀e∈fs,UY S e/\2<=e.ys.length/\e.ys.length<=S.length+2:=λe hm=>by
 obtain⟨j,hj,ej⟩:=K9 hf hm;have w:=(Hs h (hN j hj).2).2;have hl:=IE.ns_len e;obtain⟨r,hr⟩:=RD S (N j);refine⟨⟨j,N j,ej⟩,?_,?_⟩
 ·rw[ej,hr] at hl
  simp at hl;lia
 ·rw[ej,Ap] at hl;lia
theorem QP(es fs:List IE):(K6 (es++fs).reverse).Perm (K6 es++K6 fs):=by
 unfold K6;rw[<-AZ]
 exact(List.reverse_perm _).map _
theorem AC.part{C:Cx}{A:AL}{L F1 r:AN}{l1 l2:Dx}{env:Env}{X Y:Type}{led1:X->AN}{fl:Y->OV}{led2:Y->AN}(ix:Ay)(e:Fq ix L=some (F1,r))(h1:AC C A (Ac l1 env) F1 (λYa:X=>.next) led1)
 (h2: ∀x,AC C A (Ac l2 env) (led1 x++r) fl led2):AC C A (Ac (l1++l2) env) L fl led2:=
 AC.seq (AC.pre (h1.frame r) λR s S=>S.perm ((PQ e).symm.append_right R)) h2
noncomputable abbrev UE(P:Addr)(l:Ak):Bi:=.one P (.ex ⟨.none,none,.fields ⟨l⟩,⟨[]⟩⟩)
noncomputable abbrev pU:Bi:=.one 319 (.ex ⟨.none,none,.fields ⟨[]⟩,⟨[]⟩⟩)
abbrev zw(K:LC)(L:Nat)(ar:Addr)(ss:List (Int×Nat)):AN:=[AI L [(Cb,.ref ar)],IS ar (ss.map zv),C3 K.wi none,C3 K.hd none,C3 K.ch none,C3 K.sz none,C3 K.st none,C3 K.du none,C3 K.be none,C3 K.ba none,C3 K.na none,C3 K.wa none,C3 K.ot none,C3 K.pl none,.many (Jr none),Yc [],pU]
theorem jn(tb:Option (Nat×Fc)): ∃l,∀{C:Cx} {a b c:Bi} {R:AN} {s:Af},St C ([a,b,c,.many (Jr tb)]++R) s->St C ([a,b,c,UE 274 l]++R) s:=by
 cases tb with
 |none=>exact⟨_,λS=>S.BV (by simp only[Jr,xh,Ao,An,Bi.flat,Aj,A5,Al];exact .refl _)⟩
 |some q=>
  obtain⟨cd,y⟩:=q;refine⟨[.int 230 0,.int 18 0,J cd],λ{C a b c R s} S=>?_⟩;have S1:St C ([a,b,c,OR cd,EA cd CH Bw y]++R) s:=S.BV (by simp only[Jr,xh,Ao,An,Bi.flat,Aj,A5,Al];exact .refl _)
  exact S1.picked (ix:=(BW 4)) rfl
include O
theorem rj(U:AA 96 A){L n s t u:Nat}{K:LC}{ar:Addr}{q:KZ}{es fs:List IE}(hw: ∀e∈(es++fs).reverse,e.ys.length<=1000/\2<=e.ys.length)(h2:2<=(es++fs).reverse.length)(NL:(es++fs).reverse.length<64)
 (IP: ∀i j,i<(es++fs).reverse.length->j<(es++fs).reverse.length->decide (EY (Ft (es++fs).reverse i) (Ft (es++fs).reverse j)<0)=decide (DO (es++fs).reverse i<DO (es++fs).reverse j)):
 AC B.C A (Ac (Gv B 17 1) (Fi B K L)) (AI L (Fg ar n s t++[(Cc,J u),(Eu,J q.z.x.a)])::AE u (es.map IE.v++fs.map IE.v).reverse::BU es::BU fs::VH q.cd::CX B q) (λYa:Nat=>.next)
  (λc=>[AI L (Fg ar n s t++[(Cc,J u),(Eu,J q.z.x.a)]),BU es,BU fs,WJ q.cd c]):=by
 have e:(es.map IE.v++fs.map IE.v).reverse=(es++fs).reverse.map IE.v:=by rw[<-AZ,List.map_reverse]
 rw[e]
 refine((vn O U (L:=L) (n:=n) (s:=s) (t:=t) (u:=u) (K:=K) (ar:=ar) (q:=q) hw h2 NL IP).pre λR s' S=>S.BV ?_).post λYa R s' S=>S.BV ?_
 ·generalize CX B q=Z
  simp only[Ao,An,Bi.flat,AG,A5,Al,Aj];refine .cons _ (.cons _ ?_);rw[<-AG]
  exact(QP es fs).symm.append_right _
 ·simp only[Ao,An,Bi.flat,AG,A5,Al,Aj]
  refine .cons _ ?_;rw[<-AG]
  exact(QP es fs).append_right _
theorem rk(U:AA 90 A)(L n s t u k c m:Nat)(K:LC)(ar:Addr)(ss:Aa)(AH:List It)(h1:ss.length<=1000)(h2:AH.length<=1000)(hm:AH.length=m):
 AC B.C A (Ac (Gv B 18 1) (Fi B K L)) [AI L (Fg ar n s t++[(Cc,J u),(Eu,J k)]),AF s ss,AW K.ch (J c),AE c (AH.map It.v),C3 K.pl none] (λYa:Nat×Nat=>.next)
  (λq=>[AI L (Fg ar n s t++[(Cc,J u),(Eu,J k)]),AF q.1 (ss++[(m,q.2)]),AF s ss,AW K.ch (J c),AE c (AH.map It.v),AW K.pl (J q.1)]):=by
 refine(vo O U L n s t u k c K ar ss AH (by rw[AD];exact h1) (by rw[AD];exact h2)).post λq R s' S=>?_
 have e:ss.map iv++[Be (((AH.map It.v).length:Nat):Int) q.2]=(ss++[(m,q.2)]).map iv:=by rw[AZ,AD,hm];rfl
 rw[e] at S;exact S
omit O
theorem fA: ∀cs:Ed,(∀c∈cs,FL c)->(cs.map CT).sum<=cs.length*200
 |[],_=>Am _
 |c::r,h=>by
  have h1:=(h c (.head _)).s1;have h2:=(h c (.head _)).s2;have h3:=fA r λd hd=>h d (.tail _ hd);rw[Aw,Ea,Ap];show c.1.length+c.2.length+_<=_
  lia
theorem qd{i:It}(h:FL (i.f,i.p)):(It.cat i).length<=5000:=by
 have h1:i.f.length<=100:=h.s1;have h2:i.p.length<=100:=h.s2
 show(i.f.cps++i.p.cps).size<=5000
 rw[Hv];have e1:i.f.cps.size=i.f.length:=rfl;have e2:i.p.cps.size=i.p.length:=rfl
 lia
theorem nI{B:Bx}(O:B.C.Ok)(hS:B.Std){A:AL}(U:AA 170 A)(L:Nat)(K:LC)(ar:Addr)(hK:C8 A [L])(ss:List (Int×Nat))(hl:ss.length<=900):
 AC B.C A (Ac (A4 B.P 322) (Fi B K L)) (zw K L ar ss) (λYa:Ak×Ak×Ak=>.ret (.bool true)) (λq=>[IS ar (ss.map zv),UE 206 q.1,UE 319 q.2.1,UE 274 q.2.2]):=by
 rw[<-de];refine AC.part (BW 5) rfl (ve O U.l L K ar ss hl) λq1=>?_;obtain⟨n,wt,ht,c,AH,hits⟩:=q1;refine AC.ix [0,0,0,0,0,0,1,1,1,1,1,1,1,1,1,1,1,1,0] ?_ rfl
 generalize zn ss=l at hits⊢
 obtain⟨m3,m6⟩:=iq l;obtain⟨yv,tA⟩:=nh l;have iP:AH.length=(DA l).length:=by rw[<-hits,AD]
 have Zf: ∀i∈AH,FL (i.f,i.p):=λi hi=>yv _ (hits▸CB (f:=It.ab) hi);have CD:AH≠[]:=λe=>by rw[e] at iP;simp at iP;lia
 have mf: ∀i∈AH,It.small i:=λi hi=>⟨AK (Zf i hi).s1 ADs,AK (Zf i hi).s2 ADs⟩
 refine AC.part [0,2,2,2,2] rfl (vr O U.l L c n K ar AH hS (by rw[AD];lia) ADp CD mf) λq2=>?_
 let z:=q2.1
 let zs:=q2.2.1.ks
 have XW:ns zs=_:=q2.2.1.ok
 let s:=q2.2.2.a
 let sv:=q2.2.2.ys
 have hs:ns sv=_:=q2.2.2.ok;rw[AD,iP] at hs;have XW:ns zs=(DA l).map CT:=by rw[XW,<-hits,CK];rfl
 have ACa:sv.length=(DA l).length:=by have:=congrArg C7 hs;unfold ns at this;rwa [AD,Dv] at this
 have ze:zs.length=(DA l).length:=by have:=congrArg C7 XW;unfold ns at this;rwa [AD,AD] at this
 obtain⟨w2,w9⟩:=ri l;obtain⟨g1,g9⟩:=rh l;have za:((DA l).map CT).length=(DA l).length:=AD _;have hG:=Xu ((DA l).map CT) (GG l);have Ze:(Ct ((DA l).map CT) (GG l)).length=(DA l).length:=by rw[Jq,za]
 have Vo:(ns zs).sum<=1000000:=by
  rw[XW]
  have:=fA (DA l) yv
  lia
 refine AC.part [0,0,3,4,3,4] rfl (z0 O U.l L n s z (GG l) wt _ K ar sv zs hs ADp ADp ze Vo) λq3=>?_
 let y:=q3.1
 let ys:=q3.2.ys
 have mm:ns ys=_:=q3.2.ok;rw[XW] at mm;have hyl:ys.length=(DA l).length:=by have:=congrArg C7 mm;unfold ns at this;rw[AD] at this;lia
 have hN: ∀j,j<(DA l).length->j<=Cq ((DA l).map CT) j (HU (GG l) (K7 l))/\Cq ((DA l).map CT) j (HU (GG l) (K7 l))<=(DA l).length:=λj hj=>⟨Zx ADp,by have:=QH (sz:=(DA l).map CT) (st:=j) (rm:=HU (GG l) (K7 l)) ADp;lia⟩
 refine AC.part [0,0,0,7,0,0,0,0,3,3] rfl (vt O U.l L n s z y (GG l) wt (K7 l) ht _ K ar sv zs ys hs ADp ADp ze Vo ADp (by rw[mm,hyl,<-Ze];exact hG.one) (λj hj=>by
  rw[mm,XW]
  have:=(Hs hG (a:=Cq ((DA l).map CT) j (HU (GG l) (K7 l))) (by have:=(hN j hj).2;lia)).2
  lia)) λq4=>?_
 let du:=q4.1
 let ds:=q4.2.1.es
 have ur:ds.map IE.ns=_:=q4.2.1.ok
 let be:=q4.2.2.1
 let bs:=q4.2.2.2.es
 have q9:bs.map IE.ns=_:=q4.2.2.2.ok;refine AC.part [0,0,12,1,1,10,10,10,10] rfl (rl O U.l L n s c (GG l) wt (K7 l) ht _ K ar sv AH hS hs ADp ADp iP ADp ADp Zf (λi hi=>(Zf i hi).MH) ⟨by rw[AD];lia,λx hx=>by
  obtain⟨i,hi,rfl⟩:=List.mem_map.mp hx;exact qd (Zf i hi)⟩) λq5=>?_
 let ba:=q5.1
 let qV:=q5.2.1.es
 have q7:qV.map SE.rows=_:=q5.2.1.ok
 let na:=q5.2.2.1
 let rp:=q5.2.2.2.1.es
 have rL:rp.map SE.rows=_:=q5.2.2.2.1.ok
 let t:=q5.2.2.2.2.1
 let ts:=q5.2.2.2.2.2.ks
 have rN:ts.map (·.1)=_:=q5.2.2.2.2.2.ok;have tL: ∀j,(AH.drop j).map It.ab=(DA l).drop j:=λj=>by rw[Dk,hits]
 have mM: ∀j,j<(DA l).length->AH.drop j≠[]:=λj hj e=>by have:=congrArg C7 e;rw[A6] at this;simp at this;lia
 have rD: ∀j,∀i∈AH.drop j,FL (i.f,i.p):=λj i hi=>Zf i (EI hi);have dF: ∀j,(AH.drop j).length<=20:=λj=>by rw[A6];lia
 have JA: ∀h,h<=1000-> ∀j,j<(DA l).length->C4 (GG l) h ((AH.drop j).map It.ab)≠[]/\(C4 (GG l) h ((AH.drop j).map It.ab)).length<=100/\JE (C4 (GG l) h ((AH.drop j).map It.ab)):=λh hh j hj=>by
  obtain⟨a1,a2,a3,_⟩:=Rp (m:=GG l) hh (cs:=(AH.drop j).map It.ab) (by simpa using mM j hj) (λc hc=>by obtain⟨i,hi,rfl⟩:=List.mem_map.mp hc;exact rD j i hi) (by rw[AD];exact dF j)
  exact⟨a1,a2,a3⟩
 have tF:=Ee q7;have tO:=Ee rL;have vH:=Ee rN;have j1:qV.map (λe=>BB eS (SE.rows e))=ts.map (·.1):=by
  rw[rN,show(λe=>BB eS (SE.rows e))=(λr=>BB eS r)∘SE.rows from rfl,<-CK,q7,CK];exact CA λj hj=>T4 (m:=GG l) (n:=0) ADp (mM j (List.mem_range.mp hj)) (rD j) (dF j)
 have j2:rp.map (λe=>BB eS (SE.rows e))=ts.map (·.1):=by
  rw[rN,show(λe=>BB eS (SE.rows e))=(λr=>BB eS r)∘SE.rows from rfl,<-CK,rL,CK];exact CA λj hj=>T4 (m:=GG l) (n:=K7 l) ADp (mM j (List.mem_range.mp hj)) (rD j) (dF j)
 refine AC.part [0,12,6,7,7,6,6,6] rfl (vh O U.l (L:=L) (n:=n) (s:=s) (t:=t) (b:=ba) (c:=na) (K:=K) (ar:=ar) (es:=qV) (fs:=rp) (ts:=ts) (λe=>by rw[e] at tF;simp at tF;lia) (λe=>by rw[e] at tO;simp at tO;lia) ADp ADp
  (λe he=>by obtain⟨j,hj,ej⟩:=K9 q7 he;rw[ej];exact(JA 0 ADp j hj).2.2) (λe he=>by obtain⟨j,hj,ej⟩:=K9 rL he;rw[ej];exact(JA (K7 l) ADp j hj).2.2) j1 j2
  (λx hx=>by rw[rN] at hx;obtain⟨j,hj,rfl⟩:=List.mem_map.mp hx;exact pV (rD j))) λYa=>?_
 refine AC.part [0,7,1,1,1,1,1,1,16,16,17] rfl (ni O U.l L n s t ba na _ K ar sv _ _ qV rp none hs ADp ADp q7 (λj hj=>⟨(JA 0 ADp j hj).1,AK (JA 0 ADp j hj).2.1 ADs⟩) rL (λj hj=>⟨(JA (K7 l) ADp j hj).1,AK (JA (K7 l) ADp j hj).2.1 ADs⟩)) λq6=>?_
 let w:=q6.1
 let es:=q6.2.1.es
 have hes:es.map IE.ns=_:=q6.2.1.ok
 let o:=q6.2.2.1
 let fs:=q6.2.2.2.es
 have zF:fs.map IE.ns=_:=q6.2.2.2.ok
 let tb:=q6.2.2.2.tb
 refine AC.ix [0,0,0,0,0,0,0,0,0,0,0,0,0,0,1,1,1,1,1,1,1,1,1,1,1,1,1,1,1,1,1,1,1,1,0] ?_ rfl;have he:es.map IE.ns=(Ah (Ct ((DA l).map CT) (GG l)).length).map (BI (Ct ((DA l).map CT) (GG l))):=by
  rw[hes,Ze];refine CA λj hj=>?_;rw[VO,tL];exact lw tA (List.mem_range.mp hj)
 have hf:fs.map IE.ns=(Ah (Ct ((DA l).map CT) (GG l)).length).map λj=>j::BI (Ct ((DA l).map CT) (GG l)) (Cq ((DA l).map CT) j (HU (GG l) (K7 l))):=by
  rw[zF,Ze];refine CA λj hj=>?_;rw[VO,tL];exact ig tA ADp (List.mem_range.mp hj)
 rw[mm] at ur q9;rw[XW] at q9;have yt: ∀j,j<(Ct ((DA l).map CT) (GG l)).length->j<=Cq ((DA l).map CT) j (HU (GG l) (K7 l))/\Cq ((DA l).map CT) j (HU (GG l) (K7 l))<=(Ct ((DA l).map CT) (GG l)).length:=λj hj=>by rw[Ze] at hj⊢;exact hN j hj
 have hed:es.map IE.ns=ds.map IE.ns:=by rw[he,ur,Ze]
 have hfb:fs.map IE.ns=bs.map IE.ns:=by rw[hf,q9,Ze]
 refine AC.part [8,8,8,9,0,8,7,17,18,18,17,17,17] rfl (vj O U.l (L:=L) (w:=w) (o:=o) (du:=du) (be:=be) (K:=K) (al:=Fg ar n s t) (es:=es) (fs:=fs) (ds:=ds) (bs:=bs) hK (oR hG ADp ADp he) (uB hG ADp ADp yt he hf) hed hfb) λYa=>?_
 have hel:=Ee he;have uw:=Ee hf;refine AC.part (4::BW 4) rfl (vk O U.l L n s t w o K ar (es.map IE.v) (fs.map IE.v) (by rw[AD];lia) (by rw[AD];lia)) λu=>?_
 refine AC.part [0,31,31] rfl (vm O U.l L n s t u K ar) λq=>?_;refine AC.ix [0,0,1,1,1,1,1,1,1,1,1,1,1,1,1,1,1,1,1,1,1,1,1,1,1,1,1,1,1,1,1,1,1,1,1,1,1,1,1,1,1,1,1,1,1,0] ?_ rfl;have me: ∀e∈(es++fs).reverse,UY (Ct ((DA l).map CT) (GG l)) e/\2<=e.ys.length/\e.ys.length<=1000:=λe hm=>by
  rcases List.mem_append.mp (List.mem_reverse.mp hm) with hm|hm
  ·obtain⟨a1,a2,a3⟩:=ja hG he e hm
   exact⟨a1,a2,by lia⟩
  ·obtain⟨a1,a2,a3⟩:=aD hG yt hf e hm
   exact⟨a1,a2,by lia⟩
 refine AC.part [0,11,16,15,0,0,0,0,0,0,0,0,0,0,0] rfl (rj O U.l (L:=L) (n:=n) (s:=s) (t:=t) (u:=u) (K:=K) (ar:=ar) (q:=q) (es:=es) (fs:=fs) (λe hm=>⟨(me e hm).2.2,(me e hm).2.1⟩) (by rw[OW,AX];lia) (by rw[OW,AX];lia) (sI λe hm=>(me e hm).1)) λc9=>?_
 refine AC.ix [0,0,0,1,1,1,1,1,1,1,1,1,1,1,1,1,1,1,1,1,1,1,1,1,1,1,1,1,1,1,1,1,1,1,0] ?_ rfl;refine AC.part [0,12,19,21,26] rfl (rk O U.l L n s t u q.z.x.a c (DA l).length K ar sv AH ADp ADp iP) λp=>?_
 obtain⟨p,pk⟩:=p;have rJ:=he;have rK:=hf;rw[Ze] at rJ rK;have hps:ns (sv++[((DA l).length,pk)])=Ah ((Ct ((DA l).map CT) (GG l)).length+1):=by
  rw[Ze,List.range_succ,<-hs];unfold ns;rw[AZ];rfl
 refine AC.part [0,1,6,3,5,5,5,0,2,2] rfl (vp O U.l L n s t u q.z.x.a w o p (DA l).length K ar _ _ es fs (sv++[((DA l).length,pk)]) sv hK hs ADp ADp (by rw[AX];show sv.length+1<=500;lia) rJ rK
  (λj hj=>by have:=(Hs hG (a:=j) ADp).2;lia) (λj hj=>by have:=(Hs hG (a:=Cq ((DA l).map CT) j (HU (GG l) (K7 l))) (by have:=(hN j hj).2;lia)).2;rw[Ap];lia)) λq8=>?_
 let kp:=q8.1
 let ks:=q8.2.es
 have u9:ks.map IE.ns=_:=q8.2.ok;have hk:ks.map IE.ns=(Ah (DA l).length).map λj=>(BI (Ct ((DA l).map CT) (GG l)) j).filter λv=>decide (v∈j::BI (Ct ((DA l).map CT) (GG l)) (Cq ((DA l).map CT) j (HU (GG l) (K7 l)))):=by
  rw[u9];refine CA λj hj=>?_;have hj:=List.mem_range.mp hj;rw[hps];exact ib hG ADp (hN j hj).1 (by have:=(hN j hj).2;lia)
 obtain⟨lt,IP⟩:=jn tb
 exact(((vq O U.l (L:=L) (n:=n) (s:=s) (t:=t) (u:=u) (k:=q.z.x.a) (kp:=kp) (du:=du) (be:=be) (K:=K) (ar:=ar) (ks:=ks) (es:=ds) (fs:=bs) (ss:=sv) hs ADp ADp ur q9
  (λj hj=>⟨(Hs hG (a:=j) ADp).1,by have:=(Hs hG (a:=j) ADp).2;lia⟩) hk).frame [IS ar (ss.map zv),Yd q.z.cc,WJ q.cd c9,.many (Jr tb)]).ix [0,0,4,6,4,5,4,4,0,0,16,17,17,16] rfl).weaken λYa=>⟨(_,_,lt),rfl,λR s' S=>IP S⟩
include O
theorem fY(U:AA 10 A)(ar:Addr):
 AS B A (Pl B 322 [.ref ar]) [] (([(Cb,.ref ar)]:BC)) []:=
 rn O U (.fi () [])
theorem cu(U:AA 10 A)(ar:Addr):
 AC B.C A (OP B 322 [(Cb,.ref ar)]) []
  (λq:Nat×LC=>Fi B q.2 q.1)
  (λq=>[AI q.1 [(Cb,.ref ar)],C3 q.2.wi none,C3 q.2.hd none,C3 q.2.ch none,C3 q.2.sz none,C3 q.2.st none,C3 q.2.du none,C3 q.2.be none,C3 q.2.ba none,C3 q.2.na none,C3 q.2.wa none,C3 q.2.ot none,C3 q.2.pl none]):=
 rn O U (.al λa0=>.al λa1=>.al λa2=>.al λa3=>.al λa4=>.al λa5=>.al λa6=>.al λa7=>.al λa8=>.al λa9=>.al λtw=>.al λaZ=>.al λIF=>.fr λzi=>.g 6925<|.fi (a0,⟨a1,a2,a3,a4,a5,a6,a7,a8,a9,tw,aZ,IF⟩) [12,11,10,9,8,7,6,5,4,3,2,1,0])
omit O
theorem fw{B:Bx}(O:B.C.Ok)(hS:B.Std){A:AL}(U:AA 174 A)(hK:C8 A [])(ar:Addr)(ss:List (Int×Nat))(hl:ss.length<=900):
 Bv B.C A (.call (.ref 322) ⟨[.ref ar],[]⟩) [IS ar (ss.map zv),.many (Jr none),Yc [],pU] (λYa:Ak×Ak×Ak=>.ok (.ret (.bool true))) (λq=>[IS ar (ss.map zv),UE 206 q.1,UE 319 q.2.1,UE 274 q.2.2]):=
 Dm O (n:=173) U ADq ((fY O U.l.in1 ar).frame _) (λR s S=>(cu O U.l.in1 ar).frame [IS ar (ss.map zv),.many (Jr none),Yc [],pU] R s S)
  (λq=>BK (fl:=λYa:Ak×Ak×Ak=>.ret (.bool true)) (by
   have h:=nI O hS (A:=A.deeper (Fi B q.2 q.1)) (AA.deeper U.l) q.1 q.2 ar (hK.deeper rfl (by
    show(D4 B.P 322).scope.kind≠.module;exact(by kernel_rfl:(D4 B.P 322).scope.kind=.function)▸ADs)) ss hl
   exact h.ix (0::12::BW 15) rfl))
end
def mF:List Addr:=QO++[162,169,206,274,319]
def m8(P:Params)(a:Addr):Option Obj:=match GL P a with
 |some o=>some o
 |none=>some (N2 #[])
def KG:Program:=view p [0,29]
noncomputable def Vl:List Str:=["_wall","_twin_re_1","NL","EMPTYSTRING","_ValueFormatter","_Accumulator","cmp_to_key","_initial_missing","reduce","sorted_list_difference","three_way_cmp","_law_plain","_law_chunks","_law_text","_law_fed","_law_lay","_law_laid","_law_begins","_law_next","_law_way","_law_lacks","_law_kept","_law_pairs","_law_beside"]
noncomputable def mH(v:Program)(s:Af):Bool:=xlAt v [] s&&recOk [] s
abbrev tK:Af->Bool:=mH KG
def XS(s:Af):List (Option Obj):=mF.map s.heap.get?
def TY(w:World):List (Option Obj):=mF.map (m8 w.params)
def K2(w:World)(h:Heap):Prop:= ∀a∈mF,h.get? a=m8 w.params a
def hdLhs(ls:List Str)(xq:Program->Af->Bool)(q:Program)(w:World):=(openEnds treeTable q w 3600).map λs=>(openSeen (view q [0,29]) ls (importedModules q.main.body) (xq (view q [0,29])) true s,XS s)
def hdGood(ls:List Str)(v:Program):=openGood v ls
lay_quick Mine.hdLhs Mine.hdGood
abbrev tH:=PySem.W.Fast.tw17194539320767164699
abbrev tG:=PySem.W.Fast.tw731727335646702260
theorem rB:hdLhs=tH:=PySem.W.Fast.te17194539320767164699
theorem rA:hdGood=tG:=PySem.W.Fast.te731727335646702260
theorem rG(w:World):tH Vl mH p w=some (tG Vl KG,TY w):=by kernel_rfl
theorem mJ:LeftO p KG Vl tK XS TY 3600:=λw=>by
 show hdLhs Vl mH p w=some (hdGood Vl KG,TY w);rw[rB,rA];exact rG w
theorem mL(w:World)(s:Af)(e:XS s=TY w):K2 w s.heap:=λa ha=>List.map_inj_left.mp e a ha
theorem iJ(w:World)(h h':Heap)(y:K2 w h)(k: ∀b o,h.get? b=some o->h'.get? b=some o):K2 w h':=λa ha=>by
 have e:=y a ha
 have: ∃o,m8 w.params a=some o:=by
  unfold m8;cases GL w.params a with
  |none=>exact⟨_,rfl⟩
  |some o=>exact⟨o,rfl⟩
 obtain⟨o,ho⟩:=this;rw[ho] at e⊢;exact k a o e
def PI:DefRec:=((defOf KG "law").get ADq).1
theorem rE:defOf KG "law"=some (PI,[]):=by kernel_rfl
theorem rI:p.theDef "law"=some (PI.params,PI.body,PI.scope):=by kernel_rfl
theorem ul:kwWritten? PI.params.kwonlyargs PI.params.kw_defaults=some []:=by kernel_rfl
theorem mK:PI.name="law":=by kernel_rfl
theorem pY(P:Params):(Ah 323).all (λa=>(GL P a).isNone||QO.contains a)=true:=by kernel_rfl
theorem jo(P:Params)(k:Nat):GL P (k+323)=none:=by kernel_rfl
theorem aP{P:Params}{a:Addr}{o:Obj}(h:GL P a=some o):a∈QO:=by
 have ha:(a:Nat)<323:=LW λq=>by
  have:=jo P (a-323)
  rw[Nat.sub_add_cancel q,h] at this;cases this
 have:=List.all_eq_true.mp (pY P) a (List.mem_range.mpr ha)
 rw[h] at this;simpa using this
theorem Q_(P:Params)(a:Addr)(h:a∈QO):(GL P a).isSome=true:=List.all_eq_true.mp (show QO.all (λa=>(GL P a).isSome)=true by kernel_rfl) a h
theorem Gx{w:World}{h:Heap}(Y:K2 w h){a:Addr}{o:Obj}(e:GL w.params a=some o):h.get? a=some o:=by
 rw[Y a (Ar _ (aP e))];unfold m8;rw[e]
theorem UF{w:World}{h:Heap}(Y:K2 w h): ∀a∈T5,h.get? a=some (N2 #[]):=λa ha=>by
 rw[Y a (Ax _ ha)];simp only[T5,CG,B_,or_false] at ha
 rcases ha with rfl|rfl|rfl|rfl|rfl<;>kernel_rfl
theorem pZ: ∀a∈QO,a∉T5:=by decide+kernel
noncomputable def vQ:Option Obj->Bool
 |some ⟨.type n,none,.seq _ _,_⟩=>n=="list"
 |_=>false
theorem ru(P:Params):QO.all (λa=> !vQ (GL P a))=true:=by kernel_rfl
theorem eI{w:World}{h:Heap}(Y:K2 w h){ar:Addr}{xs:Bs}{n:Nat}{sl:Array DP}(e:h.get? ar=some ⟨.type "list",none,.seq xs n,sl⟩):ar∉T5/\ar∉QO:=by
 refine⟨λhm=>?_,λhm=>?_⟩
 ·rw[UF Y ar hm] at e
  exact absurd (congrArg Obj.cls (DZ e)) (by simp[N2])
 ·have h1:=List.all_eq_true.mp (ru w.params) ar hm
  have h2:=Q_ w.params ar hm;obtain⟨o,ho⟩:=Option.isSome_iff_exists.mp h2;have h3:=Gx Y ho;rw[e] at h3;rw[ho,<-DZ h3] at h1;exact absurd (show false=true from h1) BP
noncomputable def NI(h:Heap)(n:Nat):Heap:=⟨h.objs.extract 0 (n+1),h.life⟩
theorem Pz(h:Heap)(n b:Nat):(NI h n).get? b=if b<=n then h.get? b else none:=by
 unfold NI Heap.get?;simp only[Array.getElem?_extract]
 by_cases hb:b<=n
 ·rw[if_pos hb]
  simp only[FH];have e:(if b<min (n+1) h.objs.size-0 then h.objs[b]? else none)=h.objs[b]? :=by
   split
   ·rfl
   ·rw[Array.getElem?_eq_none ADp]
  rw[e]
 ·rw[if_neg hb,if_neg ADp]
theorem dd{h:Heap}{mu:List Addr}{a₀:Addr}{o₀:Obj}(ha:h.get? a₀=some o₀)(hm:a₀∉mu): ∃n o,h.get? n=some o/\n∉mu/\ ∀b o,h.get? b=some o->b∉mu->b<=n:=by
 have key: ∀k:Nat,(∀b o,h.get? b=some o->b∉mu->b<k)-> ∃n o,h.get? n=some o/\n∉mu/\ ∀b o,h.get? b=some o->b∉mu->b<=n:=by
  intro k
  induction k with
  |zero=>exact λq=>absurd (q a₀ o₀ ha hm) (Nat.not_lt_zero _)
  |succ k ih=>
   intro q
   by_cases hk: ∃o,h.get? k=some o/\k∉mu
   ·obtain⟨o,h1,h2⟩:=hk
    exact⟨k,o,h1,h2,λb o e m=>FG (q b o e m)⟩
   ·refine ih λb o e m=>?_
    have:=q b o e m
    rcases Nat.lt_or_eq_of_le (FG this) with h'|rfl
    ·exact h'
    ·exact absurd ⟨o,e,m⟩ hk
 exact key h.objs.size λb o e _=>Cf e
theorem Qs{h:Heap}{n:Nat}{o:Obj}(e:h.get? n=some o):(NI h n).objs.size=n+1:=by
 have:(n:Nat)<h.objs.size:=Cf e
 show(h.objs.extract 0 (n+1)).size=_
 rw[Array.size_extract];lia
noncomputable abbrev HF(P:Addr)(l:Ak):Bi:=.one P (.ex ⟨.none,none,.fields ⟨l⟩,⟨[]⟩⟩)
noncomputable abbrev Zv(a:Addr)(xs:Ak):Bi:=.one a (.ex ⟨.type "list",none,.seq ⟨xs⟩ 0,⟨[]⟩⟩)
theorem Bv.run{C:Cx}{A:AL}{f:Value}{pos:Ak}{kw:BC}{F:AN}{X:Type}{val:X->Value}{led:X->AN}
 (h:Bv C A (.call f ⟨pos,kw⟩) F (λx=>.ok (.ret (val x))) led):AC C A (call f pos kw) F val led:=λR s S Γ p hΓ=>by
 have q:=h R s S Γ p hΓ;unfold Qm at q;rw[HY] at q;unfold UR;rw[I9];refine I5 (λr s' hr=>?_) q;obtain⟨x,rfl,S'⟩:=hr;exact⟨x,rfl,S'⟩
def Rg(w:World)(s₁:Af)(ar:Addr)(n:Nat):Bx:=⟨w,w.params.followText "special-get-raises",w.params.followText "comprehension-iter-twice",{s₁ with heap:=NI s₁.heap n},Pg,ar::T5,λs=>Hu s.gens⟩
theorem uq(w:World)(s₁:Af)(ar:Addr)(n:Nat):(Rg w s₁ ar n).C.w=w:=qE w
theorem rH(w:World)(s₁:Af)(ar:Addr)(n:Nat):(Rg w s₁ ar n).Std:=⟨rfl,λa h=>.tail _ h,rfl⟩
theorem un{w:World}{s₁:Af}{ar n:Nat}{o:Obj}(Y:K2 w s₁.heap)(hn:s₁.heap.get? n=some o)(hm:n∉ar::T5)(Fo: ∀b o,s₁.heap.get? b=some o->b∉ar::T5->b<=n)(P5:ar∉QO):(Rg w s₁ ar n).C.Ok:=by
 have e:(wf w (w.params.followText "special-get-raises") (w.params.followText "comprehension-iter-twice"))=w:=qE w;have top: ∀a o,GL w.params a=some o->(NI s₁.heap n).get? a=some o/\a∉ar::T5:=λa o h=>by
  have m:=aP h;have m':a∉ar::T5:=λq=>by
   rcases List.mem_cons.mp q with rfl|q
   ·exact P5 m
   ·exact pZ a m q
  have g:=Gx Y h;exact⟨by rw[Pz,if_pos (Fo a o g m')];exact g,m'⟩
 refine⟨λa o h=>?_,?_,n,o,?_,hm,?_⟩
 ·refine top a o ?_
  rw[<-e];exact h
 ·show 323<=(NI s₁.heap n).objs.size
  rw[Qs hn];obtain⟨o3,h3⟩:=Option.isSome_iff_exists.mp (Q_ w.params 322 ADr)
  have:=Fo 322 o3 (Gx Y h3) (top 322 o3 h3).2
  have:(322:Nat)<=n:=this
  lia
 ·show(NI s₁.heap n).get? n=some o
  rw[Pz,if_pos (Am n)];exact hn
 ·show(NI s₁.heap n).objs.size<=n+1
  rw[Qs hn];exact Am _
abbrev dE(ar:Addr)(xs:Ak):AN:=[Zv ar xs,HF 274 [],HF 206 [],HF 319 []]
theorem uo{w:World}{s₁:Af}{ar n:Nat}{o:Obj}{xs:Ak}(Y:K2 w s₁.heap)(hn:s₁.heap.get? n=some o)(P5:s₁.heap.get? ar=some ⟨.type "list",none,.seq ⟨xs⟩ 0,⟨[]⟩⟩)(hg:s₁.gens=#[]):
 St (Rg w s₁ ar n).C (dE ar xs++[]) s₁:=by
 have T:=UF Y;obtain⟨hT,_⟩:=eI Y P5;refine⟨λb o h _=>?_,⟨[(162,.ex (N2 #[])),(169,.ex (N2 #[]))],⟨rfl,λp hp=>?_⟩,⟨λp hp=>?_,?_,λp hp=>?_⟩⟩,λh t _=>?_,rfl,?_⟩
 ·have h:(NI s₁.heap n).get? b=some o:=h
  rw[Pz] at h
  split at h
  ·exact h
  ·cases h
 ·simp only[CG,B_,or_false] at hp
  rcases hp with rfl|rfl<;>exact⟨_,rfl,#[],rfl,trivial⟩
 ·simp only[Ao,Bi.flat,A5,Al,CG,B_,or_false] at hp
  rcases hp with rfl|rfl|rfl|rfl|rfl|rfl
  ·exact⟨_,P5,G0,rfl⟩
  ·exact⟨_,T 274 ADs,G0,rfl⟩
  ·exact⟨_,T 206 ADs,G0,rfl⟩
  ·exact⟨_,T 319 ADs,G0,rfl⟩
  ·exact⟨_,T 162 ADs,G0,rfl⟩
  ·exact⟨_,T 169 ADs,G0,rfl⟩
 ·show(ar::[274,206,319,162,169]).Nodup
  refine List.nodup_cons.mpr ⟨λh=>hT ?_,by decide⟩
  have: ∀x∈([274,206,319,162,169]:List Addr),x∈T5:=by decide
  exact this ar h
 ·refine .inl ?_
  have: ∀x∈([274,206,319,162,169]:List Addr),x∈T5:=by decide
  show p.1∈ar::T5;simp only[Ao,Bi.flat,A5,Al,CG,B_,or_false] at hp
  rcases hp with rfl|rfl|rfl|rfl|rfl|rfl
  ·exact .head _
  all_goals exact .tail _ (this _ ADs)
 ·show Hu s₁.gens
  rw[hg];exact AllBare.empty
 ·show(NI s₁.heap n).objs.size<=s₁.heap.objs.size
  rw[Qs hn];exact Cf hn
theorem jm{w:World}{h:Heap}(Y:K2 w h): ∀a∈T5,isCodeTable h a:=λa ha=>by
 simp only[T5,CG,B_,or_false] at ha
 rcases ha with rfl|rfl|rfl|rfl|rfl
 ·exact⟨166,Tu w.params,_,Gx Y ((show KQ w.params 166=some (Tu w.params) from rfl)),rfl,rfl,rfl⟩
 ·exact⟨173,Tv w.params,_,Gx Y ((show KQ w.params 173=some (Tv w.params) from rfl)),rfl,rfl,rfl⟩
 ·exact⟨210,dj w.params,_,Gx Y ((show KQ w.params 210=some (dj w.params) from rfl)),rfl,rfl,rfl⟩
 ·exact⟨278,dk w.params,_,Gx Y ((show KQ w.params 278=some (dk w.params) from rfl)),rfl,rfl,rfl⟩
 ·exact⟨321,dm w.params,_,Gx Y ((show KQ w.params 321=some (dm w.params) from rfl)),rfl,rfl,rfl⟩
theorem rF{w:World}{s₁ s':Af}{ar n:Nat}{o:Obj}{xs la lb lc:Ak}(Y:K2 w s₁.heap)(hn:s₁.heap.get? n=some o)(Fo: ∀b o,s₁.heap.get? b=some o->b∉ar::T5->b<=n)
 (P5:s₁.heap.get? ar=some ⟨.type "list",none,.seq ⟨xs⟩ 0,⟨[]⟩⟩) (S:St (Rg w s₁ ar n).C ([Zv ar xs,HF 206 la,HF 319 lb,HF 274 lc]++[]) s'):OldK s₁.heap s'.heap/\s'.os=s₁.os/\Hu s'.gens:=by
 have T:=UF Y;obtain⟨H,hH,XP⟩:=S.led;have hH:Pg H:=hH;have one: ∀a o',(a,AO.ex o')∈Ao ([Zv ar xs,HF 206 la,HF 319 lb,HF 274 lc]++[])++H->s'.heap.get? a=some o':=λa o' h=>by
  obtain⟨o2,h2,g,e⟩:=XP.at_ _ h;rw[h2,e];rfl
 have tab: ∀a∈T5,∃l,s'.heap.get? a=some ⟨.none,none,.fields ⟨l⟩,⟨[]⟩⟩:=λa ha=>by
  have SH:a=162∨a=169-> ∃l,s'.heap.get? a=some ⟨.none,none,.fields ⟨l⟩,⟨[]⟩⟩:=λq=>by
   have:a∈H.map (·.1):=by rw[hH.1];rcases q with rfl|rfl<;>simp
   obtain⟨p,hp,rfl⟩:=List.mem_map.mp this;obtain⟨o',e,ps,rfl,_⟩:=hH.2 p hp;exact⟨ps.toList,one _ _ (Ax _ (by rw[<-e];exact hp))⟩
  simp only[T5,CG,B_,or_false] at ha
  rcases ha with rfl|rfl|rfl|rfl|rfl
  ·exact SH (.inl rfl)
  ·exact SH (.inr rfl)
  ·exact⟨la,one _ _ (.tail _ (.head _))⟩
  ·exact⟨lc,one _ _ (.tail _ (.tail _ (.tail _ (.head _))))⟩
  ·exact⟨lb,one _ _ (.tail _ (.tail _ (.head _)))⟩
 have key: ∀b o,s₁.heap.get? b=some o->(s'.heap.get? b=some o∨b∈T5):=λb o e=>by
  by_cases hb:b∈ar::T5
  ·rcases List.mem_cons.mp hb with rfl|hb
   ·rw[P5] at e;cases e
    exact .inl (one _ _ (.head _))
   ·exact .inr hb
  ·refine .inl (S.old b o ?_ hb)
   show(NI s₁.heap n).get? b=some o
   rw[Pz,if_pos (Fo b o e hb)];exact e
 refine⟨⟨λb o e=>?_,λb o e=>?_⟩,S.os,S.gens s'.heap s'.toks (Am _)⟩
 ·rcases key b o e with h|h
  ·exact .inl h
  ·obtain⟨l,hl⟩:=tab b h
   rw[T b h] at e;cases e;exact .inr (.inl ⟨jm Y b h,rfl,#[],⟨l⟩,rfl,by rw[hl];simp[N2]⟩)
 ·rcases key b o e with h|h
  ·exact⟨o,h⟩
  ·obtain⟨l,hl⟩:=tab b h
   exact⟨_,hl⟩
theorem mI{w:World}{s₁:Af}{ar:Nat}{xs:Ak}(Y:K2 w s₁.heap)(P5:s₁.heap.get? ar=some ⟨.type "list",none,.seq ⟨xs⟩ 0,⟨[]⟩⟩)(hg:s₁.gens=#[])
 (h: ∀B:Bx,B.C.Ok->B.Std->Bv B.C callerA (.call (.ref 322) ⟨[.ref ar],[]⟩) (dE ar xs) (λYa:Ak×Ak×Ak=>.ok (.ret (.bool true))) (λq=>[Zv ar xs,HF 206 q.1,HF 319 q.2.1,HF 274 q.2.2])):
 BN (Qg p w) callerA (call (.ref 322) [.ref ar] []) (λv s'=>v=.bool true/\OldK s₁.heap s'.heap/\s'.os=s₁.os/\Hu s'.gens) (λYa Ya=>False) s₁:=by
 obtain⟨hT,U⟩:=eI Y P5;obtain⟨o3,h3⟩:=Option.isSome_iff_exists.mp (Q_ w.params 322 ADr)
 obtain⟨n,o,hn,hm,Fo⟩:=dd (mu:=ar::T5) (Gx Y h3) (λq=>by
  rcases List.mem_cons.mp q with rfl|q
  ·exact U ADr
  ·exact absurd q ADs)
 have q:=Bv.run (h (Rg w s₁ ar n) (un Y hn hm Fo U) (rH ..)) [] s₁ (uo Y hn P5 hg);have eM:(Rg w s₁ ar n).C.M=Qg p w:=by
  show Qg pF (Rg w s₁ ar n).C.w=_;rw[<-xJ,uq]
 rw[eM] at q;exact Av q (λv s' ⟨x,e,S'⟩=>⟨e,rF Y hn Fo P5 S'⟩) λYa Ya q=>q
abbrev xr(p:Int×Nat):Value:=.int p.1 p.2
theorem UM{P:Params}{h:Heap}{R:WRecords}: ∀{xs:List WData} {vs:Ak},WellAll P h vs xs->WShape.hasItems R xs .int=true-> ∃ss:List (Int×Nat),vs=ss.map xr/\ss.length=xs.length
 |[],vs,w,_=>by cases w;exact⟨[],rfl,rfl⟩
 |x::xs,vs,w,hx=>by
  obtain⟨v,r,rfl,wv,wr⟩:=wellAll_cons_inv w;simp only[WShape.hasItems,FS] at hx;obtain⟨i,rfl⟩:=hasW_int hx.1;obtain⟨ss,rfl,hl⟩:=UM wr hx.2;cases wv with
  |int _ t=>exact⟨(i,t)::ss,rfl,by simp[hl]⟩
theorem oT{R:WRecords}{xs:List WData}{t:WTm}(h:(WTm.and (.not (.lt (.lit (.int 63)) (.len (.arg 0)))) t).holds R {args:=[.list xs]}=true):xs.length<=63:=by
 have h1:=(holds_andW h).1;unfold WTm.holds at h1;refine Ec λq=>?_;have q':(63:Int)<(xs.length:Int):=by lia
 simp[WTm.value,less?,Num.less?,q'] at h1
theorem um{w:World}{h:Heap}{mg:Str->DP}(Y:K2 w h)(hN:h.Ns mainGlobals mg){fa:Addr}(e:mg "law"=some (.ref fa)):fa=322:=by
 obtain⟨o,es,ep,ho,hd,_,hm⟩:=hN;obtain⟨o3,uD,n,h0,h1,h2⟩: ∃o uD n,GL w.params 3=some o/\o.data=.dict ⟨uD⟩ n/\N0 ⟨uD⟩ "law"=some (.ref 322):=⟨r4 w.params,_,_,by rw[<-pX];exact(show KQ w.params 3=some (r4 w.params) from rfl),rfl,by kernel_rfl⟩
 have:o=o3:=DZ (ho.symm.trans (Gx Y h0))
 subst this;rw[<-hm] at e;rw[h1] at hd;cases hd;rw[h2] at e;cases e;rfl
theorem Zs(ar:Addr)(ss:List (Int×Nat))(hl:ss.length<=63): ∀B:Bx,B.C.Ok->B.Std->Bv B.C callerA (.call (.ref 322) ⟨[.ref ar],[]⟩) (dE ar (ss.map xr)) (λYa:Ak×Ak×Ak=>.ok (.ret (.bool true))) (λq=>[Zv ar (ss.map xr),HF 206 q.1,HF 319 q.2.1,HF 274 q.2.2]):=λB O hS=>
 AC.pre (fw O hS (A:=callerA) ⟨rfl,by decide,by decide⟩ ⟨[],rfl,rfl,λYa h=>nomatch h⟩ ar ss ADp) λR s S=>S.BV (.refl _)
theorem ls1:(sreFenced PySem.Challenge.rw_il0055_01.row.prog.main&&((moduleNames PySem.Challenge.rw_il0055_01.row.prog.main.body).isEmpty||lookedIntoSs (moduleNames PySem.Challenge.rw_il0055_01.row.prog.main.body) PySem.Challenge.rw_il0055_01.row.prog.main.body))=true:=by kernel_rfl
theorem ls2:namesResolve PySem.Challenge.rw_il0055_01.row.prog=true:=by kernel_rfl
theorem ls4:noRoadLSs {strict:= !(importedModules PySem.Challenge.rw_il0055_01.row.prog.main.body).all cThrough.contains,foot:=none,bare:=(["vars","dir","locals"]:List Str).filter (readsOut PySem.Challenge.rw_il0055_01.row.prog PySem.Challenge.rw_il0055_01.row.prog.main.body)} PySem.Challenge.rw_il0055_01.row.prog.main.body=true:=by kernel_rfl
theorem ls5:(namesMeet PySem.Challenge.rw_il0055_01.row.prog PySem.Challenge.rw_il0055_01.row.prog.main.body λYa n=>attrL n)=true:=by kernel_rfl
theorem ls6:PySem.Challenge.rw_il0055_01.row.partSaid=true:=by
 unfold OpenRow.partSaid
 iterate 13 refine JW ?_ ADq
 unfold looksOpen;refine JW (JW (JW (JW ?_ ?_) ADq) ?_) ?_
 ·with_reducible exact ls1
 ·with_reducible exact ls2
 ·with_reducible exact ls4
 ·with_reducible exact ls5
theorem ij:PySem.Challenge.rw_il0055_01.wellSaid=true:=by
 unfold OpenLaw.wellSaid
 iterate 18 refine JW ?_ ADq
 unfold OpenRow.wellSaid
 iterate 2 refine JW ?_ ADq
 with_reducible exact ls6
end
end Mine
theorem PySem.Challenge.cw_il0055_01_holds : PySem.Challenge.rw_il0055_01.Holds := by
 refine holds_law Mine.ij fun ACf=>?_
 refine PySem.W.holds_open (q:=Mine.KG) (loose:=Mine.Vl) (Xt:=Mine.tK) (XP:=XL Mine.KG []) (Yf:=Mine.XS) (Ya:=Mine.TY) (YP:=Mine.K2) (N:=3600) Mine.mJ Mine.mL Mine.iJ (fun s e=>xl_of s (Bool.and_eq_true_iff.mp e).1) XL.keeps Mine.rE Mine.rI Mine.ul (fun s e=>recFacts_of (Bool.and_eq_true_iff.mp e).2) rfl (by assumption) (by decide+kernel) ⟨rfl,rfl,rfl,rfl,rfl,by decide+kernel⟩ ?hw ?hc
 (case hw=>w_witness2)
 intro w s₀ s₁ mg mb G Y fa o pm cd doc dV kV ho hd iI hD zP hg args vals as zV ACZ hrd hwl vB
 clear hd hD
 rw[Mine.mK] at zP
 have hfa:=Mine.um Y G.T.g zP
 subst hfa
 obtain⟨h1,h2⟩:=pre_splitW zV
 obtain⟨d,r,rfl,h3,h4⟩:=hasAllW_cons h1
 obtain rfl:=hasAllW_nil h4
 obtain⟨xs,rfl,h5⟩:=hasW_list h3
 have h6:=Mine.oT h2
 obtain⟨v,vs,rfl,hv,dP⟩:=wellAll_cons_inv hwl
 cases dP
 cases hv
 rename_i ar ws P5 hws
 obtain⟨ss,rfl,h7⟩:=Mine.UM hws h5
 refine wpAny_mono (Mine.mI Y P5 hg (Mine.Zs ar ss (by lia))) (fun v s' ⟨e,K,os,ab⟩=>?_) fun _ _ q=>q.elim
 subst e
 refine⟨.inl ⟨.bool true,.bool true,[],rfl,fun _=>rfl,.bool true,?_,fun _=>⟨List.nodup_nil,fun _ hm=>nomatch hm⟩⟩,K,os,ab⟩
 first|rfl|wrow_post
