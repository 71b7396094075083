import PyProof.Rows.All
import Wide.All
import OpenK.AllK
import Wide.FinOn
import Lean
import PySem.Challenge.RW_il0055_01
set_option maxRecDepth 100000
set_option maxHeartbeats 0
set_option linter.all false
set_option Elab.async false
set_option compiler.extract_closed false
set_option bootstrap.genMatcherCode false
set_option genCtorIdx false
set_option genInjectivity false
set_option genSizeOf false
open PySem renaming wpAny_bind->AB,Around->AL,wpAny_pure->AP,checkBuiltinCall->AU,execs->Ac,Shared->Af,wpAny_mono->Av,codeAny_of_tree->BL,wpAny->BN,eval->Bf,assign->Bo,sizeLine_eq->Br,entryFor_of_tree->B2,wpAny_field->B9,rawInt->CL,entryFor->C1,wpAny_listPart->DF,wpAny_seqItems->DG,plainId_quiet->DH,wpAny_newObj_type->DS,wpAny_onRaise->DT,wpAny_standAt->DU,callSpecial?->ED,codeAny_call_builtin->EJ,theTreesLotGoes->EQ,wpAny_rule->Eo,codeAny_call_builtin_code->Ew,codeAny_builtin->Ez,noteFrame->E0,pyNext->FK,wpAny_setField->FU,table->FZ,codeAny_mono->Fm,letOwnedTupleGo->Fw,loadName->Fx,wpAny_execs_nil->Fy,seqIndex?->F4,wpAny_of_eq->GR,compareOp->Gf,wpAny_execs_cons->Gg,callSpecialIfBound?->Gs,Comprehension->Gz,wpAny_updateSeq->G9,ks_wpAt_execs_cons->HO,slot_listiter_next->HP,wpAny_listSubscript_int->HZ,listSliceParts_eq->H3,plainId->H4,wpAny_Try_finally->H5,wpAny_typeOf->H6,«wpAt»->Ia,builtinsNs->Ib,preSum->Ic,sliceIndices_raw->Ie,wpAny_isInstance->Ig,sliceBounds->I3,wpAny_tryStmt_except->I4,wpCode_mono->I5,wpAny_specialOf->I_,TriplesOk->JV,«compTurn»->J2,isInstance->J3,slice_no_index->J4,typeOf->J5,Builtin->KU,codeAny->Kc,slicePick_size_le->Kd,standAt->Ke,wpAny_Return_some->Kg,wpAny_holding->Kv,Args->LN,callWith->LW,getMethod->LX,seqItems?->LY,whileTurn->LZ,wpAny_callSpecial?_slot->Lz,wpAny_eqBool_int->L0,ks_wpAt_mono->Mg,pyIter->Mh,codeAny_call_function->M3,nsFind->Nz,richCompare->N0,clausesOf->OG,strValues->OH,Flow->OU,wpAt_of_wpAny->OX,entry_listiter_next->OY,ks_wpAt_Return_some->OZ,field->Oz,ref_ne_byPass->O0,wpAny_attempt->O1,wpAny_handled->O2,IsPart->PX,args_listiter_next->Pc,execs_cons->Pd,tryCompare->Pe,Reads->Qc,arm_exec_Try->Qd,exec->Qe,model->Qf,raiseNew->Qh,wpAny_truthy_bool->Qi,InLong->RG,slicePick->RH,readyFrames->Rx,slicePicked->Ry,wpAny_letGo->Rz,wpAny_mkStr->R0,wpAny_throw->R1,allTrue->SX,newList->SY,call->UQ,QuietGenTD->UR,genEnv->US,typeIs_int->UU,typeIs_str->UV
open List renaming length_map->AD,append_assoc->AG,getElem?_eq_getElem->AJ,getElem?_map->AQ,length_append->AX,map_append->AZ,getD_eq_getElem?_getD->Ad,range->Ah,append_nil->Aj,nil_append->Al,length_cons->Ap,mem_append_left->Ar,map_cons->Aw,mem_append_right->Ax,cons_append->A5,length_drop->A6,perm_append_comm->A9,perm_middle->BH,drop_eq_getElem_cons->BR,perm_append_singleton->Bm,map->B0,mem_of_getElem?->B4,getElem?_eq_none->B7,not_mem_nil->B_,map_congr_left->CA,mem_map_of_mem->CB,length_singleton->CF,mem_cons->CG,map_map->CK,take_append_drop->CQ,drop->Cd,perm_append_comm_assoc->Ce,getElem_mem->Cn,mem_singleton->Cv,foldl_cons->C0,length_take->C5,length->C7,replicate->DE,map_drop->Dk,drop_zero->Du,length_range->Dv,map_nil->EC,mem_of_mem_drop->EI,forIn_cons->EP,drop_eq_nil_of_le->EW,take_of_length_le->EX,sum_cons->Ea,getElem?_append_right->El,getElem?_append_left->Ev,filter_congr->FE,take_add_one->FF,map_take->F3,take_length->Gc,filter_sublist->Gr,length_nil->G5,nodup_cons->G6,sum_append->G7,getElem_range->HI,eraseIdx_append_of_length_le->Hd,drop_drop->Hy,ext_getElem?->Hz,getElem_cons_drop->H0,take_left->H1,getLast?_eq_some_getLast->I1,length_zip->I8,flatMap_append->JC,take_succ_cons->JD,dropWhile_cons_of_neg->Ju,dropWhile_cons_of_pos->Jv,drop_left->Jw,getElem?_drop->Jx,getElem?_zip_eq_some->J7,getLastD_eq_getLast?->J8,flatMap_cons->KY,nodup_append->Ka,range'->Kb,eq_of_mem_replicate->Ks,getElem?_cons_succ->LQ,getElem_zip->LR,pairwise_singleton->LS,take->LU,drop_of_length_le->MY,extract->MZ,pairwise_lt_range->Ma,length_filter_le->Mz,length_replicate->M0,lookup_cons_self->M1,drop_take->Nr,forIn_nil->Nt,mem_cons_of_mem->Nu,mem_range->Nv,length_reverse->OV,replicate_succ->OW,filter_append->PY,length_mapIdx->PZ,zip_cons_cons->Pa,count_append->QV,flatten_cons->QW,foldl_append->QX,getLast?_map->QY,sum_nil->QZ
open Nat renaming le_trans->AK,le_refl->Am,zero_le->By,le_of_lt->Cw,lt_irrefl->Dl,lt_of_lt_of_le->D8,le_succ->Eb,le_of_not_lt->Ec,lt_of_le_of_lt->Em,le_of_lt_succ->FG,zero_add->FH,le_add_left->Fv,le_add_right->Gd,le_of_eq->Ge,add_right_comm->HJ,lt_of_le_of_ne->HK,lt_succ_self->IZ,lt_of_not_le->LV,max->Mb,le_succ_of_le->Qa,sub_self->Qb
open List.Perm renaming swap->Ae,append_right->A8,cons->BY,append_left->CP,refl->EH
open Inhabited renaming default->Au
open PySem.Fin renaming done->Az,again->G8
open PySem.Builtin.List renaming listItems->A7,listSubscript?->Bb,listUpdate->Df,listFitsIndex->GP,listTooLong->Gy,listExtendWith->JM,listSameRef->Kq
open PySem.Txt renaming join->BB
open Bool renaming «false_ne_true»->BP,and_eq_true->FS,or_eq_false_iff->Iz,not_eq_true'->KS,«and_self»->Kp,and_eq_false_iff->My,false->UN
open PySem.Around renaming under_plainId->BX,frames_deeper->Nq
open PySem.Value renaming int->Be,ref->CC,none->CU,str->Co,«bool»->HM,type->HN
open PySem.Heap.SameBut renaming update->B1
open PySem.Flow renaming ret->B6,next->Dg,brk->LP
open PySem.Heap renaming get?_update_self->CO,lt_size->Cf,get?_push_of_some->Cu,get?_push_size->FN,SameBut->QU
open PyProof.Rows renaming listItems_at->CR,AllBare->Hu,oneType'->Qg
open PySem.Builtin.Range renaming rangeSize->CS,small->Dw,rangeFitsLong->F7
open PySem.Unicode renaming «isSpace»->Cg
open PySem.Builtin.Getset_descriptor renaming descrCheckInstance->Cm
open Except renaming ok->Cs
open PySem.PyData renaming canLayAll0->DQ,depthAll->D2,canLay0->En,depth->Fl,str->HL,eqv->Me,list->Nw
open PySem.MeetsSeq3 renaming plain_eq_loop->DR,entry_eq_loop->I2
open ForInStep renaming yield->DY
open Option.some renaming inj->DZ,injEq->EL
open OfNat renaming ofNat->Dh
open Int renaming toNat_natCast->Dt,natCast_nonneg->HH,lt_of_lt_of_le->PW,negSucc->Rw
open PySem.Builtin.Str renaming «strKind»->ES,occurrences->FT,«strSliceIndices»->JN,«glued»->KV,«strOf»->KW,partsBetween->Kr,«tooLong»->OT
open PySem.Sre renaming «Seen»->ET
open PySem.Calls renaming «spliced_cons»->Ek,«Name_function_global»->GQ,«callWith_builtin»->Hw,«spliced_nil»->Hx,«evalArgs_plain»->I0,«loadGlobal_global»->LO
open Array renaming all_eq_true_iff_forall_mem->FC,toList_extract->GO,size_append->Hv,getD->MX,getElem?_toList->Mx
open PySem.Code renaming builtin->FD,quiet_builtin->Jt,call->OF
open PySem.F renaming args_str_split_2->G1,entry_str_split->HX,slot_str_split->H2,args_str_getitem_2->J1,«entry_str_getitem»->J9,«slot_str_getitem»->Kt
open List.cons renaming injEq->G4,inj->Ox
open PySem.Sem renaming wp_call->HY,wp_runValue->I9,wp_bind'->Mf,wp_mono->Ny,wp_loadIfAlive->Pb
open PySem.AutoIntG6 renaming int___mod___int_int_1->IA
open ForIn renaming forIn->ID
open Function renaming comp->Il
open Prod.mk renaming injEq->Im
open PySem.Builtin renaming «divisionGoesByPylong»->I7,len->Mp,«sorted»->PV
open PySem.Str renaming ofString->JO
open PySem.Expr renaming Name->JU,Constant->Ow
open PySem.NameKind renaming «local»->Jy
open PySem.Obj renaming data_mapFields->Jz,mapSeq->Mc,isFreed_of_fields->M2,mapFields->Oy
open Option renaming isNone_none->J0
open PySem.StrLaws renaming «sliceIdx_none_hi»->Ku
open PySem.SeqAt renaming eqv_refl->Nx
open PySem.W.X renaming tableObj->N1
open PUnit renaming unit->UO
open Prod renaming fst->UP
open PySem.W renaming kas_item->UT
open PySem PySem.W PySem.W.X PyProof.Rows
namespace Mine
theorem ADn{p:Prop}(h:p:=by simp):p:=h
theorem ADj{p:Prop}(h:p:=by lia):p:=h
theorem ADk{p:Prop}(h:p:=by kernel_rfl):p:=h
theorem ADl{p:Prop}(h:p:=by decide+kernel):p:=h
theorem ADm{p:Prop}(h:p:=by decide):p:=h
abbrev Aa:=List (Nat×Nat)
abbrev BC:=List (Str×Value)
abbrev Db:=List (Str×Nat)
abbrev Ed:=List (Str×Str)
abbrev Ak:=List Value
abbrev Ay:=List Nat
abbrev Bs:=Array Value
abbrev DJ:=List DictEntry
abbrev Dx:=List Stmt
abbrev DP:=Option Value
noncomputable section
theorem La{a b:Nat}(h:a<=b):(a:Int)<=b:=Int.ofNat_le.mpr h
theorem Lb{a m n:Nat}{i:OfNat Nat n}(h:a<=@Dh Nat n i)(k:@Dh Nat n i<=m):a<=m:=AK h k
theorem Lc{a m n:Nat}{i:OfNat Nat n}(h:a<@Dh Nat n i)(k:@Dh Nat n i<=m+1):a<=m:=FG (D8 h k)
theorem Ld{a b c:Nat}(h:c=b)(k:a<=b):a<=c:=h▸k
theorem Le{a b c:Nat}(h:b=c)(k:a<=b):a<=c:=h▸k
theorem Lf{a b c:Nat}(h:a=b)(k:b<=c):a<=c:=h▸k
theorem Lg{a b n m:Nat}{i:OfNat Nat n}(h:a=b)(k:b<=@Dh Nat n i)(l:@Dh Nat n i<=m):a<=m:=h▸AK k l
theorem Lh{a b c:Nat}(h:a+(b+1)=c):a<c:=h▸Nat.lt_add_of_pos_right (Nat.succ_pos b)
theorem Li{a b c:Nat}(h:a+(b+1)=c):a+1+b=c:=(HJ a 1 b).trans h
theorem Lj{a b c:Nat}(h:c=b)(k:a<b):a<=c:=h▸Cw k
theorem Lk{a b c d:Nat}(h:a=b)(k:b=c)(l:c<=d):a<=d:=h▸k▸l
theorem Ll{a b c:Nat}(h:a+(b+1)<=c):a+1+b<=c:=AK (Ge (HJ a 1 b)) h
theorem Lm{a b:Nat}(h:¬a<b):¬(a:Int)<(b:Int):=λk=>h (Int.ofNat_lt.mp k)
theorem Ln{a n:Nat}(h:n<=a)(k:n≠0):a≠0:=λe=>k (Nat.le_zero.mp (e▸h))
theorem Lo{a b c:Nat}(h:b=c)(k:a<b):a<=c:=h▸Cw k
theorem Lp{a b c d:Nat}(h:a<b)(k:c<=a+(d+1)):c<=b+d:=by lia
theorem Lq{a b:Nat}(h:a<b):a+(b-a)=b:=Nat.add_sub_cancel' (Cw h)
theorem Lr{a b:Nat}(h:a≠b):(a:Int)≠(b:Int):=λe=>h (Int.ofNat.inj e)
theorem Ls{a b:Nat}:a+(b+1)=a+1+b:=(HJ a 1 b).symm
theorem Lt{a:Nat}:((a+1:Nat):Int)-1=a:=by lia
theorem Lu{a b n m:Nat}{i:OfNat Nat n}(h:a+(b+1)<=@Dh Nat n i)(k:@Dh Nat n i<=m+1):a<=m:=Nat.le_of_succ_le_succ (AK (AK (Nat.succ_le_succ (Gd a b)) h) k)
theorem Lv{a b c:Nat}(h:a+b<c):a<c:=Em (Gd a b) h
theorem Lw{a b n m k:Nat}{i:OfNat Nat n}{j:OfNat Nat m}(h:a<=@Dh Nat n i)(l:b<=@Dh Nat m j)(q:@Dh Nat n i+@Dh Nat m j<=k):a+b<=k:=AK (Nat.add_le_add h l) q
theorem Lx{a b c n m:Nat}{i:OfNat Nat n}(h:c<=a)(k:a<b)(l:b<=@Dh Nat n i)(q:@Dh Nat n i<=m+1):c<=m:=FG (Em h (D8 k (AK l q)))
theorem Ly{p:Prop}(h:p):p:=h
local macro_rules |`(tactic|lia)=>do
 let mut s <- `(tactic|contradiction)
 for n in "Nat.le_add_right Nat.le_of_lt_succ Nat.le_trans Nat.le_of_not_le Nat.add_comm Ls Lp Nat.lt_succ_of_le Lq Lo Lt Lx Lf Lr Lv Ll Lu Lw Ln Lk Lm Nat.le_of_not_lt Nat.le_refl Lc La Nat.le_succ_of_le Nat.lt_of_le_of_lt Nat.add_right_comm Lj Li Lh Nat.add_sub_cancel' Lg Le Ld Nat.le_of_lt Lb Nat.le_add_left Ly".splitOn do s <- `(tactic|first|(apply $(Lean.mkIdent n.toName)<;>first|assumption|decide)|$s:tactic)
 return s
theorem iN{M:Model}{A:AL}{α:Type}{Q:α->Af->Prop}{E:Value->Af->Prop}{s:Af}{c:Prop} [Decidable c]{t e:Sem α}(h: ¬c)(k:BN M A e Q E s):BN M A (if c then t else e) Q E s:=by rw[if_neg h];exact k
theorem iT{M:Model}{A:AL}{α:Type}{Q:α->Af->Prop}{E:Value->Af->Prop}{s:Af}{c:Prop} [Decidable c]{t e:Sem α}(h:c)(k:BN M A t Q E s):BN M A (if c then t else e) Q E s:=by rw[if_pos h];exact k
theorem iNb{M:Model}{A:AL}{α β:Type}{Q:β->Af->Prop}{E:Value->Af->Prop}{s:Af}{c:Prop} [Decidable c]{t e:Sem α}{f:α->Sem β}(h: ¬c)(k:BN M A (e>>=f) Q E s):BN M A ((if c then t else e)>>=f) Q E s:=by rw[if_neg h];exact k
theorem iTb{M:Model}{A:AL}{α β:Type}{Q:β->Af->Prop}{E:Value->Af->Prop}{s:Af}{c:Prop} [Decidable c]{t e:Sem α}{f:α->Sem β}(h:c)(k:BN M A (t>>=f) Q E s):BN M A ((if c then t else e)>>=f) Q E s:=by rw[if_pos h];exact k
structure G where
 hs:Nat->Int
 ks:Nat->Nat
 ep:Nat
 sl:Array DP
noncomputable def G0:G:=⟨λYa=>0,λYa=>0,0,⟨[]⟩⟩
inductive AO where
 |ex (o:Obj)
 |ns (cls:Value) (al:BC)
 |ls (cls:Value) (dict:Option Addr) (items:Ak)
noncomputable def Oq(g:G):Nat->BC->DJ
 |_,[]=>[]
 |i,(n,v)::r=>⟨g.hs i,.str n (g.ks i),v⟩::Oq g (i+1) r
def AO.obj(g:G):AO->Obj
 |.ex o=>o
 |.ns c al=>⟨c,none,.dict ⟨Oq g 0 al⟩ g.ep,g.sl⟩
 |.ls c d xs=>⟨c,d,.seq ⟨xs⟩ g.ep,⟨[]⟩⟩
def AO.is(ao:AO)(o:Obj):Prop:= ∃g,o=ao.obj g
noncomputable def K4:DJ->Option BC
 |[]=>some []
 |e::r=>match e.key with
  |.str n _=>(match K4 r with|some al=>some ((n,e.val)::al)|none=>none)
  |_=>none
def ae(o:Obj):AO:=match o.data with
 |.seq xs _=>(match o.slots.toList with|[]=>.ls o.cls o.dict xs.toList|_=>.ex o)
 |.dict es _=>(match o.dict with|none=>(match K4 es.toList with|some al=>.ns o.cls al|none=>.ex o)|_=>.ex o)
 |_=>.ex o
theorem Rg: ∀{es:DJ} {al:BC},K4 es=some al-> ∃hs:Nat->Int,∃ks:Nat->Nat,∀i (g:G),(∀j,g.hs (i+j)=hs j)->(∀j,g.ks (i+j)=ks j)->es=Oq g i al
 |[],al,h=>by
  simp only[K4,EL] at h;subst h;exact⟨λYa=>0,λYa=>0,λYa Ya Ya Ya=>rfl⟩
 |e::r,al,h=>by
  obtain⟨hh,k,v⟩:=e;simp only[K4] at h
  split at h
  ·rename_i n t
   split at h
   ·rename_i qJ he
    simp only[EL] at h;subst h;obtain⟨hs,ks,H⟩:=Rg he;refine⟨λj=>match j with|0=>hh|j+1=>hs j,λj=>match j with|0=>t|j+1=>ks j,λi g h1 h2=>?_⟩
    have a1:=h1 0;have a2:=h2 0;simp only[Nat.add_zero] at a1 a2;simp only[Oq,a1,a2,G4,true_and];refine H (i+1) g (λj=>?_) (λj=>?_)
    ·have:=h1 (j+1);rw[show i+(j+1)=i+1+j from by lia] at this;exact this
    ·have:=h2 (j+1);rw[show i+(j+1)=i+1+j from by lia] at this;exact this
   ·cases h
  ·cases h
theorem fL(o:Obj):(ae o).is o:=by
 obtain⟨c,d,dt,⟨sl⟩⟩:=o;cases dt with
 |seq xs n=>
  cases sl with
  |nil=>exact⟨⟨λYa=>0,λYa=>0,n,⟨[]⟩⟩,rfl⟩
  |cons _ _=>exact⟨G0,rfl⟩
 |dict es n=>
  cases d with
  |some _=>exact⟨G0,rfl⟩
  |none=>
   unfold ae
   dsimp only
   cases he:K4 es.toList with
   |none=>exact⟨G0,rfl⟩
   |some al=>
    obtain⟨hs,ks,H⟩:=Rg he;exact⟨⟨hs,ks,n,⟨sl⟩⟩,congrArg (λl=>(⟨c,none,.dict ⟨l⟩ n,⟨sl⟩⟩:Obj)) (H 0 ⟨hs,ks,n,⟨sl⟩⟩ (λj=>by simp) (λj=>by simp))⟩
 |_=>exact⟨G0,rfl⟩
def bM(o:Obj):Option AO:=match o.data with
 |.freed=>none
 |_=>some (ae o)
theorem n4{α:Type}{a:α}{P:Prop}(h:none=some a):P:=nomatch h
theorem SP{o:Obj}{ao:AO}(h:bM o=some ao):ao.is o/\o.isFreed=false:=by
 obtain⟨c,d,dt,sl⟩:=o;cases dt with
 |freed=>exact n4 h
 |_=>exact⟨DZ h▸fL _,rfl⟩
abbrev F6:=List (Addr×AO)
inductive Bi where
 |one (a:Addr) (ao:AO)
 |many (l:F6)
noncomputable def Bi.flat:Bi->F6
 |.one a ao=>[(a,ao)]
 |.many l=>l
abbrev AN:=List Bi
noncomputable def Ao:AN->F6
 |[]=>[]
 |e::r=>e.flat++Ao r
theorem An(L L':AN):Ao (L++L')=Ao L++Ao L':=by
 induction L with
 |nil=>rfl
 |cons e r ih=>simp only[A5,Ao,ih,AG]
theorem cy{L L':AN}(p:L.Perm L'):(Ao L).Perm (Ao L'):=by
 induction p with
 |nil=>exact .refl _
 |cons x _ ih=>exact ih.append_left _
 |swap x y l=>
  simp only[Ao,<-AG];exact List.perm_append_comm.append_right _
 |trans _ _ h1 h2=>exact h1.trans h2
def T5:List Addr:=[162,169,206,274,319]
structure Cx where
 w:World
 prog:Program
 s₁:Af
 top:Addr->Option Obj
 Hid:F6->Prop
 mu:List Addr
 Gn:Af->Prop
structure Cx.Ok(C:Cx):Prop where
 top: ∀a o,C.top a=some o->C.s₁.heap.get? a=some o/\a∉C.mu
 size:323<=C.s₁.heap.objs.size
 last: ∃a o,C.s₁.heap.get? a=some o/\a∉C.mu/\C.s₁.heap.objs.size<=a+1
abbrev Cx.M(C:Cx):Model:=Qf C.prog C.w
structure fK(C:Cx)(h:Heap)(L:F6):Prop where
 at_: ∀p∈L,∃o,h.get? p.1=some o/\p.2.is o
 nodup:(L.map (·.1)).Nodup
 new: ∀p∈L,p.1∈C.mu∨C.s₁.heap.get? p.1=none
structure St(C:Cx)(L:AN)(s:Af):Prop where
 old: ∀b o,C.s₁.heap.get? b=some o->b∉C.mu->s.heap.get? b=some o
 led: ∃H,C.Hid H/\fK C s.heap (Ao L++H)
 gens: ∀h t,s.toks<=t->C.Gn {s with heap:=h,toks:=t}
 os:s.os=C.s₁.os
 size:C.s₁.heap.objs.size<=s.heap.objs.size
theorem fK.perm{C:Cx}{h:Heap}{L L':F6}(XP:fK C h L)(p:L.Perm L'):fK C h L':=
 ⟨λx hx=>XP.at_ x (p.mem_iff.mpr hx),(p.map _).nodup_iff.mp XP.nodup,λx hx=>XP.new x (p.mem_iff.mpr hx)⟩
theorem St.BV{C:Cx}{s:Af}{L L':AN}(S:St C L s)(p:(Ao L).Perm (Ao L')):St C L' s:=
 let⟨H,hH,XP⟩:=S.led
 ⟨S.old,⟨H,hH,XP.perm (p.append_right H)⟩,S.gens,S.os,S.size⟩
theorem St.perm{C:Cx}{s:Af}{L L':AN}(S:St C L s)(p:L.Perm L'):St C L' s:=S.BV (cy p)
theorem St.drop{C:Cx}{s:Af}{L L':AN}(S:St C (L++L') s):St C L s:=by
 obtain⟨H,hH,XP⟩:=S.led;rw[An] at XP;refine⟨S.old,⟨H,hH,⟨λp hp=>XP.at_ p ?_,?_,λp hp=>XP.new p ?_⟩⟩,S.gens,S.os,S.size⟩
 ·rcases List.mem_append.mp hp with h|h
  ·exact Ar _ (Ar _ h)
  ·exact Ax _ h
 ·refine List.Sublist.nodup (List.Sublist.map _ ?_) XP.nodup
  exact List.Sublist.append (List.sublist_append_left (Ao L) (Ao L')) (List.Sublist.refl H)
 ·rcases List.mem_append.mp hp with h|h
  ·exact Ar _ (Ar _ h)
  ·exact Ax _ h
noncomputable def LB:AN->Nat->Option (Addr×AO)
 |[],_=>none
 |x::_,0=>(match x with|.one a ao=>some (a,ao)|.many _=>none)
 |_::r,i+1=>LB r i
noncomputable def Na:AN->Nat->AO->AN
 |[],_,_=>[]
 |x::r,0,y=>(match x with|.one a _=>.one a y|.many l=>.many l)::r
 |x::r,i+1,y=>x::Na r i y
noncomputable def QM:AN->Nat->Option (Bi×AN)
 |[],_=>none
 |x::r,0=>some (x,r)
 |x::r,i+1=>match QM r i with|some (y,r')=>some (y,x::r')|none=>none
noncomputable def Fq:Ay->AN->Option (AN×AN)
 |[],L=>some ([],L)
 |i::is,L=>match QM L i with
  |some (x,L')=>(match Fq is L' with|some (F,r)=>some (x::F,r)|none=>none)
  |none=>none
theorem Xu{L:AN}: ∀{i:Nat} {x:Bi} {r:AN},QM L i=some (x,r)->(x::r).Perm L:=by
 induction L with
 |nil=>intro i x r h;cases h
 |cons y L ih=>
  intro i x r h;cases i with
  |zero=>simp only[QM,EL,Im] at h;obtain⟨rfl,rfl⟩:=h;exact .refl _
  |succ i=>
   simp only[QM] at h
   split at h
   ·rename_i z r' he
    simp only[EL,Im] at h;obtain⟨rfl,rfl⟩:=h
    exact(Ae y z r').trans ((ih he).cons y)
   ·cases h
theorem PP{ix:Ay}: ∀{L F r:AN},Fq ix L=some (F,r)->(F++r).Perm L:=by
 induction ix with
 |nil=>intro L F r h;simp only[Fq,EL,Im] at h;obtain⟨rfl,rfl⟩:=h;exact .refl _
 |cons i is ih=>
  intro L F r h;simp only[Fq] at h
  split at h
  ·rename_i x L' he
   split at h
   ·rename_i F' r' hp
    simp only[EL,Im] at h;obtain⟨rfl,rfl⟩:=h
    exact((ih hp).cons x).trans (Xu he)
   ·cases h
  ·cases h
theorem Tr{L:AN}{b:Addr}{ao:AO}: ∀{i:Nat},LB L i=some (b,ao)-> ∃pre post,L=pre++.one b ao::post/\ ∀y,Na L i y=pre++.one b y::post:=by
 induction L with
 |nil=>intro i h;cases h
 |cons x r ih=>
  intro i h;cases i with
  |zero=>
   cases x with
   |one a ao'=>
    simp only[LB,EL,Im] at h;obtain⟨rfl,rfl⟩:=h;exact⟨[],r,rfl,λy=>rfl⟩
   |many l=>cases h
  |succ i=>
   obtain⟨pre,post,e,f⟩:=ih (i:=i) h;exact⟨x::pre,post,by rw[e];rfl,λy=>by show x::Na r i y=_;rw[f];rfl⟩
section
variable{C:Cx}{s:Af}{L R:AN}
theorem fK.ne{h:Heap}{L:F6}(XP:fK C h L){p:Addr×AO}(hp:p∈L){b:Addr}{o:Obj}(hb:C.s₁.heap.get? b=some o)(hT:b∉C.mu):p.1≠b:=λe=>by
 rcases XP.new p hp with h|h
 ·exact hT (e▸h)
 ·rw[e,hb] at h;cases h
theorem St.Dj{b:Addr}{ao:AO}{L:AN}(S:St C (.one b ao::L) s): ∃g,s.heap.get? b=some (ao.obj g):=by
 obtain⟨H,_,XP⟩:=S.led;obtain⟨o,ho,g,rfl⟩:=XP.at_ (b,ao) (.head _);exact⟨g,ho⟩
theorem St.get(S:St C (L++R) s){i:Nat}{b:Addr}{ao:AO}(h:LB L i=some (b,ao)): ∃g,s.heap.get? b=some (ao.obj g):=by
 obtain⟨pre,post,e,_⟩:=Tr h;subst e
 refine(S.perm (L':=.one b ao::(pre++post++R)) ?_).Dj
 rw[AG,A5,AG];exact BH
theorem St.No{b:Addr}{ao ao':AO}{h':Heap}{o':Obj}{t:Nat}(S:St C (.one b ao::L) s)(hs:QU b s.heap h')(ho:h'.get? b=some o')(ha:ao'.is o')(ht:s.toks<=t:=by exact Am _):
 St C (.one b ao'::L) {s with heap:=h',toks:=t}:=by
 obtain⟨H,hH,XP⟩:=S.led;have CD: ∀p∈Ao L++H,p.1≠b:=λp hp e=>by
  have:=XP.nodup
  rw[show Ao (Bi.one b ao::L)++H=(b,ao)::(Ao L++H) from rfl,Aw,G6] at this;exact this.1 (by show b∈_;rw[<-e];exact CB (f:=λx:Addr×AO=>x.1) hp)
 refine⟨λc oc hc hT=>?_,⟨H,hH,λp hp=>?_,XP.nodup,λp hp=>?_⟩,λh u hu=>S.gens h u (AK ht hu),S.os,?_⟩
 ·exact(hs.2 c (XP.ne (p:=(b,ao)) (.head _) hc hT).symm).trans (S.old c oc hc hT)
 ·rcases List.mem_cons.mp (show p∈(b,ao')::(Ao L++H) from hp) with rfl|hp
  ·exact⟨o',ho,ha⟩
  ·obtain⟨op,Tc,hi⟩:=XP.at_ p (.tail _ hp)
   exact⟨op,(hs.2 _ (CD p hp)).trans Tc,hi⟩
 ·rcases List.mem_cons.mp (show p∈(b,ao')::(Ao L++H) from hp) with rfl|hp
  ·exact XP.new (b,ao) (.head _)
  ·exact XP.new p (.tail _ hp)
 ·show C.s₁.heap.objs.size<=h'.objs.size
  rw[hs.1];exact S.size
theorem St.upd(S:St C (L++R) s){i:Nat}{b:Addr}{ao ao':AO}(h:LB L i=some (b,ao)){f:Obj->Obj}{o:Obj}(ho:s.heap.get? b=some o)(hf:(f o).isFreed=false)(ha:ao'.is (f o)):
 St C (Na L i ao'++R) {s with heap:=s.heap.update b f}:=by
 obtain⟨pre,post,e,hp⟩:=Tr h;rw[hp ao'];subst e;have p1: ∀y,((pre++Bi.one b y::post)++R).Perm (Bi.one b y::(pre++post++R)):=λy=>by
  rw[AG,A5,AG];exact BH
 exact((S.perm (p1 ao)).No (t:=s.toks) (B1 ..) (CO _ ho hf) ha).perm (p1 ao').symm
theorem St.alloc(S:St C L s){o:Obj}{ao:AO}(hf:o.isFreed=false)(ha:ao.is o):St C (.one s.heap.objs.size ao::L) {s with heap:=s.heap.push o}:=by
 obtain⟨H,hH,XP⟩:=S.led;refine⟨λc oc hc hT=>Cu _ (S.old c oc hc hT),⟨H,hH,?_⟩,S.gens,S.os,?_⟩
 ·refine⟨λp hp=>?_,?_,λp hp=>?_⟩
  ·rcases List.mem_cons.mp (show p∈(s.heap.objs.size,ao)::(Ao L++H) from hp) with rfl|hp
   ·exact⟨o,FN _ hf,ha⟩
   ·obtain⟨op,Tc,hi⟩:=XP.at_ p hp
    exact⟨op,Cu _ Tc,hi⟩
  ·show((s.heap.objs.size::(Ao L++H).map (·.1))).Nodup
   refine List.nodup_cons.mpr ⟨λhm=>?_,XP.nodup⟩;obtain⟨p,hp,e⟩:=List.mem_map.mp hm;obtain⟨op,Tc,_⟩:=XP.at_ p hp;exact Dl _ (e▸Cf Tc)
  ·rcases List.mem_cons.mp (show p∈(s.heap.objs.size,ao)::(Ao L++H) from hp) with rfl|hp
   ·right
    cases e:C.s₁.heap.get? s.heap.objs.size with
    |none=>rfl
    |some o'=>exact absurd (D8 (Cf e) S.size) (Dl _)
   ·exact XP.new p hp
 ·show C.s₁.heap.objs.size<=(s.heap.objs.push o).size
  rw[Array.size_push];exact Qa S.size
theorem St.toks(S:St C L s)(t:Nat)(ht:s.toks<=t):St C L {s with toks:=t}:=⟨S.old,S.led,λh u hu=>S.gens h u (AK ht hu),S.os,S.size⟩
end
theorem St.ext{C:Cx}(O:C.Ok){s s':Af}{L:AN}(S:St C L s)(hk: ∀b o,s.heap.get? b=some o->s'.heap.get? b=some o)(hg: ∀h t,s'.toks<=t->C.Gn {s' with heap:=h,toks:=t})(ho:s'.os=s.os):St C L s':=by
 obtain⟨H,hH,XP⟩:=S.led;have Rl: ∀b o,C.s₁.heap.get? b=some o->b∉C.mu->s'.heap.get? b=some o:=λb o h m=>hk b o (S.old b o h m);obtain⟨a,o,hl,hm,hz⟩:=O.last;exact⟨Rl,⟨H,hH,⟨λp hp=>let⟨o,h,i⟩:=XP.at_ p hp;⟨o,hk _ o h,i⟩,XP.nodup,XP.new⟩⟩,hg,ho.trans S.os,AK hz (Cf (Rl a o hl hm))⟩
theorem St.u5{C:Cx}(O:C.Ok){s s':Af}{L:AN}(S:St C L s){P:Addr}{o':Obj}(hP:P∈C.mu)(hk: ∀b o,b≠P->s.heap.get? b=some o->s'.heap.get? b=some o)
 (hn:s'.heap.get? P=some o') (hL: ∀H,C.Hid H->P∉H.map (·.1)->False)
 (hU: ∀H,C.Hid H->C.Hid (H.map λp=>if p.1=P then(P,.ex o') else p)) (hg: ∀h t,s'.toks<=t->C.Gn {s' with heap:=h,toks:=t}) (ho:s'.os=s.os):St C L s':=by
 obtain⟨H,hH,XP⟩:=S.led;have Rl: ∀b o,C.s₁.heap.get? b=some o->b∉C.mu->s'.heap.get? b=some o:=λb o h m=>hk b o (λe=>m (e▸hP)) (S.old b o h m);obtain⟨a,o,hl,hm,hz⟩:=O.last;have uT:P∈H.map (·.1):=Classical.byContradiction λh=>hL H hH h;have uR: ∀p∈Ao L,p.1≠P:=λp hp e=>by
  have:=XP.nodup
  rw[AZ,Ka] at this;exact this.2.2 p.1 (CB (f:=λx:Addr×AO=>x.1) hp) P uT e
 have e1:(H.map λp=>if p.1=P then(P,AO.ex o') else p).map (·.1)=H.map (·.1):=by
  rw[CK];refine CA λp _=>?_;simp only[Il]
  split
  ·rename_i h;exact h.symm
  ·rfl
 refine⟨Rl,⟨_,hU H hH,⟨λp hp=>?_,?_,λp hp=>?_⟩⟩,hg,ho.trans S.os,AK hz (Cf (Rl a o hl hm))⟩
 ·rcases List.mem_append.mp hp with h|h
  ·obtain⟨o,e,i⟩:=XP.at_ p (Ar _ h)
   exact⟨o,hk _ o (uR p h) e,i⟩
  ·obtain⟨q,hq,rfl⟩:=List.mem_map.mp h
   split
   ·exact⟨o',hn,G0,rfl⟩
   ·rename_i CD
    obtain⟨o,e,i⟩:=XP.at_ q (Ax _ hq);exact⟨o,hk _ o CD e,i⟩
 ·rw[AZ,e1,<-AZ];exact XP.nodup
 ·rcases List.mem_append.mp hp with h|h
  ·exact XP.new p (Ar _ h)
  ·obtain⟨q,hq,rfl⟩:=List.mem_map.mp h
   split
   ·exact .inl hP
   ·exact XP.new q (Ax _ hq)
theorem St.picked{C:Cx}{s:Af}{L R F r:AN}(S:St C (L++R) s){ix:Ay}(e:Fq ix L=some (F,r)):St C (F++R) s:=by
 have p:(L++R).Perm ((F++R)++r):=by
  refine((PP e).symm.append_right R).trans ?_
  rw[AG,AG]
  exact(A9).append_left F
 exact(S.perm p).drop
theorem pk{C:Cx}{L F r:AN}(ix:Ay)(e:Fq ix L=some (F,r)): ∀R s,St C (L++R) s->St C (F++R) s:=λYa Ya S=>S.picked e
theorem IM{L:AN}{x:Addr×AO}: ∀(i:Nat),L[i]? =some (.one x.1 x.2)->x∈Ao L:=by
 induction L with
 |nil=>intro i h;cases h
 |cons y L ih=>
  intro i h;cases i with
  |zero=>cases h;exact .head _
  |succ i=>exact Ax _ (ih i h)
def AC(C:Cx)(A:AL){α:Type}(t:Sem α)(L:AN){X:Type}(res:X->α)(led:X->AN):Prop:=
 ∀R s,St C (L++R) s->BN C.M A t (λa s'=> ∃x,a=res x/\St C (led x++R) s') (λYa Ya=>False) s
theorem AC.wp{C:Cx}{A:AL}{α:Type}{t:Sem α}{L R:AN}{X:Type}{res:X->α}{led:X->AN}{Q:α->Af->Prop}{E:Value->Af->Prop}{s:Af}(h:AC C A t L res led)(S:St C (L++R) s)(g: ∀x s',St C (led x++R) s'->Q (res x) s'):BN C.M A t Q E s:=Av (h R s S) (λYa s' ⟨x,e,S'⟩=>e▸g x s' S') λYa Ya q=>q.elim
noncomputable def Ql(c:Code):Sem Result:=.call c none false [] .pure
def Bv(C:Cx)(A:AL)(c:Code)(F:AN){X:Type}(res:X->Result)(led:X->AN):Prop:=AC C A (Ql c) F res led
theorem Bu{C:Cx}{A:AL}{c:Code}{F:AN}{X:Type}{res:X->Result}{led:X->AN}
 (h: ∀R s,St C (F++R) s->Kc C.M A c (λr s'=> ∃x,r=res x/\St C (led x++R) s') s):Bv C A c F res led:=λR s S=>by
 refine y_start _ _ _ _ _ _ _ _ _ _ _ _ ?_ ?_
 ·intro q;cases q
 ·exact Fm (h R s S) λr s' hx=>x_pure hx
theorem G2{C:Cx}{A:AL}{f:Value}{pos:Ak}{kw:BC}{F:AN}{X:Type}{val:X->Value}{led:X->AN}
 (h:AC C A (call f pos kw) F val led):Bv C A (.call f ⟨pos,kw⟩) F (λx=>.ok (.ret (val x))) led:=λR s S Γ p hΓ=>by
 have q:=h R s S Γ p hΓ;unfold UQ at q;rw[I9] at q;show Sem.wp _ Γ (.call _ none false [] .pure) _ _ p s;rw[HY];refine I5 (λr s' hr=>?_) q
 show∃x,r=_/\_
 cases r with
 |error e=>exact hr.elim
 |ok f=>cases f with
  |ret v=>exact hr.elim λx h=>⟨x,congrArg (λv=>Cs (B6 v)) h.1,h.2⟩
  |_=>exact hr.elim
structure Ag(C:Cx)(A:AL) where
 c:Code
 F:AN
 X:Type
 res:X->Result
 led:X->AN
 ok:Bv C A c F res led
inductive D5(C:Cx)(A:AL)(X:Type):Type 1 where
 |fi (x:X) (ix:Ay)
 |go (n:Nat) (r:D5 C A X)
 |up (i:Nat) (r:D5 C A X)
 |al (r:Addr->D5 C A X)
 |fr (r:Nat->D5 C A X)
 |sk (r:D5 C A X)
 |cc (K:Ag C A) (ix:Ay) (r:K.X->D5 C A X)
abbrev xt(C:Cx)(A:AL)(X:Type):=D5 C A X->AN->(Nat->G)->Prop
def Hj(C:Cx)(A:AL)(Ir:DP){α X:Type}(Q:α->AN->Prop)(E:Value->AN->Prop)(t:Sem α):xt C A X:=
 @Sem.rec α (λYa=>xt C A X)
  (λa sc L _=>match sc with
   |.fi _ ix=>(match Fq ix L with|some (F,_)=>Q a F|none=>False)
   |_=>False)
  (λe sc L _=>match sc with
   |.fi _ ix=>(match Fq ix L with|some (F,_)=>E e F|none=>False)
   |_=>False)
  (λYa Ya Ya Ya=>False)
  (λYa Ya Ya Ya=>False)
  (λYa Ya ih=>ih ())
  (λYa Ya ih=>ih ())
  (λa _ _ ih sc L g=>match sc with
   |.go n r=>(match n with
    |0=>(match C.top a with|some o=>ih o r L g|none=>False)
    |i+1=>(match LB L i with|some (b,ao)=>a=b/\ih (ao.obj (g 0)) r L (λm=>g (m+1))|none=>False))
   |_=>False)
  (λa _ f _ ih sc L g=>match sc with
   |.up i r=>(match LB L i with
    |some (b,ao)=>(match bM (f (ao.obj (g 0))) with
     |some ao'=>a=b/\ih () r (Na L i ao') (λm=>g (m+1))
     |none=>False)
    |none=>False)
   |_=>False)
  (λo _ ih sc L g=>match sc with
   |.al r=>(match bM o with|some ao=> ∀a:Nat,ih (a+323) (r a) (.one (a+323) ao::L) g|none=>False)
   |_=>False)
  (λa _ ih sc L g=>match sc with
   |.go n r=>(match n with
    |0=>(match C.top a with|some o=>ih (some o) r L g|none=>False)
    |i+1=>(match LB L i with|some (b,ao)=>a=b/\ih (some (ao.obj (g 0))) r L (λm=>g (m+1))|none=>False))
   |_=>False)
  (λYa Ya ih=>ih ())
  (λYa Ya Ya Ya Ya Ya=>False)
  (λYa ih sc L g=>match sc with
   |.fr r=> ∀t:Nat,ih t (r t) L g
   |_=>False)
  (λYa ih=>ih ⟨C.prog,C.w.params⟩)
  (λYa Ya Ya Ya Ya Ya Ya=>False)
  (λYa Ya Ya Ya Ya Ya Ya=>False)
  (λc hd _ _ _ ih sc L g=>match sc with
   |.cc K ix r=>(match hd with
    |none=>(match Fq ix L with
     |some (F,rest)=>c=K.c/\F=K.F/\ ∀x,ih (K.res x) (r x) (K.led x++rest) g
     |none=>False)
    |some _=>False)
   |_=>False)
  (λown _ ih=>match own with|false=>ih Ir|true=>λYa Ya Ya=>False)
  (λYa Ya Ya Ya Ya Ya=>False)
  (λYa Ya Ya Ya Ya Ya=>False)
  (λYa Ya Ya Ya Ya Ya Ya Ya=>False)
  (λYa Ya Ya Ya Ya Ya Ya Ya=>False)
  (λk ih sc L g=>match sc with
   |.sk r=>(∀st,Lies A st->k st=k [])/\ih [] r L g
   |_=>False)
  (λYa Ya Ya Ya Ya Ya=>False)
  (λYa Ya Ya Ya Ya=>False)
  (λYa Ya Ya Ya Ya Ya Ya Ya Ya=>False)
  t
theorem Around.mark_none(A:AL):A.mark none=A:=rfl
abbrev Po(C:Cx)(R:AN){α:Type}(Q:α->AN->Prop)(a:α)(s':Af):Prop:= ∃L',Q a L'/\St C (L'++R) s'
theorem Pz{C:Cx}(O:C.Ok){A:AL}{Ir:DP}(U:A.handled=Ir){α X:Type}{Q:α->AN->Prop}{E:Value->AN->Prop}(t:Sem α):
 ∀(sc:D5 C A X) L R s,(∀g,Hj C A Ir Q E t sc L g)->St C (L++R) s->
  BN C.M A t (Po C R Q) (Po C R E) s:=by
 induction t with
 |pure a=>
  intro sc L R s h S;cases sc with
  |fi _ ix=>
   have h':(match Fq ix L with|some (F,_)=>Q a F|none=>False):=h λYa=>G0
   cases e:Fq ix L with
   |none=>rw[e] at h';exact h'.elim
   |some x=>
    obtain⟨F,r⟩:=x;rw[e] at h';exact x_pure ⟨F,h',S.picked e⟩
  |_=>exact(h λYa=>G0).elim
 |raise a=>
  intro sc L R s h S;cases sc with
  |fi _ ix=>
   have h':(match Fq ix L with|some (F,_)=>E a F|none=>False):=h λYa=>G0
   cases e:Fq ix L with
   |none=>rw[e] at h';exact h'.elim
   |some x=>
    obtain⟨F,r⟩:=x;rw[e] at h';exact x_raise ⟨F,h',S.picked e⟩
  |_=>exact(h λYa=>G0).elim
 |unsupported=>exact λsc L R s h S=>(h λYa=>G0).elim
 |finish=>exact λsc L R s h S=>(h λYa=>G0).elim
 |rule _ k ih=>exact λsc L R s h S=>x_rule (ih () sc L R s h S)
 |«at» _ k ih=>exact λsc L R s h S=>x_at (ih () sc L R s h S)
 |point _ k ih=>exact λsc L R s h S=>x_point (ih () sc L R s h S)
 |ask k ih=>exact λsc L R s h S=>x_ask (ih _ sc L R s h S)
 |load a p k ih=>
  intro sc L R s h S;cases sc with
  |go n r=>
   cases n with
   |zero=>
    have h': ∀g:Nat->G,(match C.top a with|some o=>Hj C A Ir Q E (k o) r L g|none=>False):=h
    cases e:C.top a with
    |none=>have:=h' λYa=>G0;rw[e] at this;exact this.elim
    |some o=>
     simp only[e] at h';have ho:=(O.top a o e);exact AB (m:=loadPart a p) (f:=k) (wpAny_loadPart (S.old a o ho.1 ho.2) (ih o r L R s h' S))
   |succ i=>
    have h': ∀g:Nat->G,(match LB L i with|some (b,ao)=>a=b/\Hj C A Ir Q E (k (ao.obj (g 0))) r L (λm=>g (m+1))|none=>False):=h
    cases e:LB L i with
    |none=>have:=h' λYa=>G0;rw[e] at this;exact this.elim
    |some x=>
     obtain⟨b,ao⟩:=x;simp only[e] at h';obtain⟨g₀,hg⟩:=S.get e;have U4:=(h' λYa=>G0).1;subst U4;refine AB (m:=loadPart a p) (f:=k) (wpAny_loadPart hg (ih _ r L R s (λg=>?_) S))
     exact(h' λm=>match m with|0=>g₀|m+1=>g m).2
  |_=>exact(h λYa=>G0).elim
 |update a p f k ih=>
  intro sc L R s h S;cases sc with
  |up i r=>
   have h': ∀g:Nat->G,(match LB L i with
    |some (b,ao)=>(match bM (f (ao.obj (g 0))) with
     |some ao'=>a=b/\Hj C A Ir Q E (k ()) r (Na L i ao') (λm=>g (m+1))
     |none=>False)
    |none=>False):=h
   cases e:LB L i with
   |none=>have:=h' λYa=>G0;rw[e] at this;exact this.elim
   |some x=>
    obtain⟨b,ao⟩:=x;simp only[e] at h';obtain⟨g₀,hg⟩:=S.get e;have key: ∀g:Nat->G,∃ao',bM (f (ao.obj g₀))=some ao'/\a=b/\Hj C A Ir Q E (k ()) r (Na L i ao') g:=λg=>by
     have:=h' λm=>match m with|0=>g₀|m+1=>g m
     split at this
     ·rename_i ao' he;exact⟨ao',he,this⟩
     ·exact this.elim
    obtain⟨ao',hc,U4,_⟩:=key λYa=>G0;subst U4;have hk: ∀g,Hj C A Ir Q E (k ()) r (Na L i ao') g:=λg=>by
     obtain⟨AAs,mC,_,hd⟩:=key g;rw[hc] at mC;cases mC;exact hd
    exact AB (m:=updatePart a p f) (f:=k) (wpAny_updatePart hg (ih () r _ R _ hk (S.upd e hg (SP hc).2 (SP hc).1)))
  |_=>exact(h λYa=>G0).elim
 |alloc o k ih=>
  intro sc L R s h S;cases sc with
  |al r=>
   have h': ∀g:Nat->G,(match bM o with|some ao=> ∀a:Nat,Hj C A Ir Q E (k (a+323)) (r a) (.one (a+323) ao::L) g|none=>False):=h
   cases e:bM o with
   |none=>have:=h' λYa=>G0;rw[e] at this;exact this.elim
   |some ao=>
    simp only[e] at h';have hz:s.heap.objs.size=(s.heap.objs.size-323)+323:=by have:=S.size;have:=O.size;lia
    refine AB (m:=alloc o) (f:=k) (wpAny_alloc ?_);have S':=S.alloc (SP e).2 (SP e).1;rw[hz] at S'⊢;exact ih _ _ _ R _ (λg=>h' g _) S'
  |_=>exact(h λYa=>G0).elim
 |loadIfAlive a k ih=>
  intro sc L R s h S;cases sc with
  |go n r=>
   cases n with
   |zero=>
    have h': ∀g:Nat->G,(match C.top a with|some o=>Hj C A Ir Q E (k (some o)) r L g|none=>False):=h
    cases e:C.top a with
    |none=>have:=h' λYa=>G0;rw[e] at this;exact this.elim
    |some o=>
     simp only[e] at h';have ho:=(O.top a o e);refine λΓ p hΓ=>?_;rw[Pb,S.old a o ho.1 ho.2];exact ih (some o) r L R s h' S Γ p hΓ
   |succ i=>
    have h': ∀g:Nat->G,(match LB L i with|some (b,ao)=>a=b/\Hj C A Ir Q E (k (some (ao.obj (g 0)))) r L (λm=>g (m+1))|none=>False):=h
    cases e:LB L i with
    |none=>have:=h' λYa=>G0;rw[e] at this;exact this.elim
    |some x=>
     obtain⟨b,ao⟩:=x;simp only[e] at h';obtain⟨g₀,hg⟩:=S.get e;have U4:=(h' λYa=>G0).1;subst U4;refine λΓ p hΓ=>?_;rw[Pb,hg];exact ih _ r L R s (λg=>(h' λm=>match m with|0=>g₀|m+1=>g m).2) S Γ p hΓ
  |_=>exact(h λYa=>G0).elim
 |register=>exact λsc L R s h S=>(h λYa=>G0).elim
 |fresh k ih=>
  intro sc L R s h S;cases sc with
  |fr r=>
   refine AB (m:=fresh) (f:=k) (wpAny_fresh ?_);exact ih _ _ L R _ (λg=>(h g: ∀t:Nat,Hj C A Ir Q E (k t) (r t) L g) s.toks) ⟨S.old,S.led,λh u hu=>S.gens h u (Nat.le_of_succ_le hu),S.os,S.size⟩
  |_=>exact(h λYa=>G0).elim
 |choose=>exact λsc L R s h S=>(h λYa=>G0).elim
 |os=>exact λsc L R s h S=>(h λYa=>G0).elim
 |call c hd gd l k ih=>
  intro sc L R s h S;cases sc with
  |cc K ix r=>
   cases hd with
   |some=>exact(h λYa=>G0).elim
   |none=>
    have h': ∀g:Nat->G,(match Fq ix L with
     |some (F,rest)=>c=K.c/\F=K.F/\ ∀x,Hj C A Ir Q E (k (K.res x)) (r x) (K.led x++rest) g
     |none=>False):=h
    cases e:Fq ix L with
    |none=>have:=h' λYa=>G0;rw[e] at this;exact this.elim
    |some x=>
     obtain⟨F,rest⟩:=x;simp only[e] at h';have S':St C (F++(rest++R)) s:=by
      rw[<-AG];exact S.perm ((PP e).symm.append_right R)
     obtain⟨rfl,rfl,_⟩:=h' λYa=>G0;intro Γ p hΓ;have q:=K.ok (rest++R) s S' Γ p hΓ;unfold Ql at q;rw[HY] at q⊢;refine I5 (λr' s' hx=>?_) q;obtain⟨x,rfl,Sx⟩:=hx;rw[<-AG] at Sx;exact ih _ _ _ R s' (λg=>(h' g).2.2 x) Sx Γ p hΓ
  |_=>exact(h λYa=>G0).elim
 |handled own k ih=>
  intro sc L R s h S;cases own with
  |true=>exact(h λYa=>G0).elim
  |false=>
   refine AB (m:=handled) (f:=k) (O2 ?_);rw[U];exact ih Ir sc L R s h S
 |newGen=>exact λsc L R s h S=>(h λYa=>G0).elim
 |genState=>exact λsc L R s h S=>(h λYa=>G0).elim
 |resume=>exact λsc L R s h S=>(h λYa=>G0).elim
 |yield=>exact λsc L R s h S=>(h λYa=>G0).elim
 |stack k ih=>
  intro sc L R s h S;cases sc with
  |sk r=>
   have h': ∀g,(∀st,Lies A st->k st=k [])/\Hj C A Ir Q E (k []) r L g:=h;intro Γ p hΓ;rw[Sem.wp_stack,(h' λYa=>G0).1 _ (lies_of hΓ)];exact ih [] r L R s (λg=>(h' g).2) S Γ p hΓ
  |_=>exact(h λYa=>G0).elim
 |fork=>exact λsc L R s h S=>(h λYa=>G0).elim
 |thread=>exact λsc L R s h S=>(h λYa=>G0).elim
 |await=>exact λsc L R s h S=>(h λYa=>G0).elim
def Ty(C:Cx)(A:AL){α X:Type}(res:X->α)(led:X->AN)(sc:D5 C A X):AN->Prop:=
 @D5.rec C A X (λYa=>AN->Prop)
  (λx _ _=> ∃y,res x=res y/\led x=led y)
  (λn _ ih L=>match n with|0=>ih L|i+1=>(match LB L i with|some (b,_)=>b=b/\ih L|none=>True))
  (λi _ ih L=>match LB L i with|some (b,_)=>b=b/\ih L|none=>True)
  (λYa ih L=> ∀a:Nat,ih a (.one (a+323) (.ns .none [])::L))
  (λYa ih L=> ∀t:Nat,ih t L)
  (λYa Ya Ya=>True)
  (λK ix _ ih L=>match Fq ix L with|some (_,rest)=>K.c=K.c/\K.F=K.F/\ ∀x,ih x (K.led x++rest)|none=>True)
  sc
theorem j8{C:Cx}{A:AL}{α X:Type}(res:X->α)(led:X->AN)(sc:D5 C A X): ∀L,Ty C A res led sc L:=by
 induction sc with
 |fi x ix=>exact λYa=>⟨x,rfl,rfl⟩
 |go n r ih=>
  intro L;cases n with
  |zero=>exact ih L
  |succ i=>
   show(match LB L i with|some (b,_)=>b=b/\Ty C A res led r L|none=>True)
   cases LB L i with
   |none=>trivial
   |some q=>exact⟨rfl,ih L⟩
 |up i r ih=>
  intro L
  show(match LB L i with|some (b,_)=>b=b/\Ty C A res led r L|none=>True)
  cases LB L i with
  |none=>trivial
  |some q=>exact⟨rfl,ih L⟩
 |al r ih=>exact λL a=>ih a _
 |fr r ih=>exact λL t=>ih t L
 |sk r ih=>exact λYa=>trivial
 |cc K ix r ih=>
  intro L
  show(match Fq ix L with|some (_,rest)=>K.c=K.c/\K.F=K.F/\ ∀x,Ty C A res led (r x) (K.led x++rest)|none=>True)
  cases Fq ix L with
  |none=>trivial
  |some q=>exact⟨rfl,rfl,λx=>ih x _⟩
noncomputable def D5.gf{C:Cx}{A:AL}{X:Type}(f:Nat):Nat->D5 C A X->D5 C A X:=
 Nat.rec (λYa r=>r) (λYa ih n r=>cond (Nat.beq n 1) r (cond (Nat.ble 32 (Nat.mod n 64)) (.up (Nat.sub (Nat.mod n 64) 32) (ih (Nat.div n 64) r)) (.go (Nat.mod n 64) (ih (Nat.div n 64) r)))) f
def D5.g{C:Cx}{A:AL}{X:Type}(n:Nat)(r:D5 C A X):D5 C A X:=D5.gf 1000 n r
def QQ{α X:Type}(res:X->α)(led:X->AN)(a:α)(F:AN):Prop:= ∃x,a=res x/\F=led x
def NQ{α:Type}(_:α)(_:AN):Prop:=False
def eD(p:(Nat->G)->Prop):Prop:= ∀g,p g
def su(p:Prop):Prop:= ∀_:Nat->G,p
abbrev H8(C:Cx)(A:AL)(Ir:DP){α X:Type}(res:X->α)(led:X->AN)(t:Sem α)(sc:D5 C A X)(L:AN):Prop:=eD (Hj C A Ir (QQ res led) NQ t sc L)=su (Ty C A res led sc L)
abbrev VJ(C:Cx)(A:AL)(Ir:DP){α X:Type}(exc:X->Value)(led:X->AN)(t:Sem α)(sc:D5 C A X)(L:AN):Prop:=eD (Hj C A Ir NQ (QQ exc led) t sc L)=su (Ty C A exc led sc L)
theorem Ga{C:Cx}(O:C.Ok){A:AL}{Ir:DP}(U:A.handled=Ir){α:Type}{t:Sem α}{L:AN}{X:Type}{res:X->α}{led:X->AN}(sc:D5 C A X)(h:H8 C A Ir res led t sc L):AC C A t L res led:=λR s S=>
 Av (Pz O U (Q:=QQ res led) (E:=NQ) t sc L R s ((show eD _ from h▸λYa=>j8 res led sc L)) S) (λa s' ⟨_,⟨x,ha,hF⟩,S'⟩=>⟨x,ha,hF▸S'⟩) λYa Ya ⟨_,hf,_⟩=>hf
noncomputable def HV(p:Program)(i:Nat):Stmt:=p.main.body.getD i (.Pass Au)
noncomputable def uS:Stmt->List Expr×List Dx×Pos×Scope×List Str×Arguments×List ExceptHandler
 |.ClassDef _ _ _ b _ _ s _ _ t p=>([],[b],p,s,t,Au,[])
 |.FunctionDef n a b _ _ _ s _ _ p=>([],[b],p,s,[n],a,[])
 |.Assign _ v p=>([v],[],p,Au,[],Au,[])
 |.Return v p=>(v.toList,[],p,Au,[],Au,[])
 |.Expr v p=>([v],[],p,Au,[],Au,[])
 |.While t b o p=>([t],[b,o],p,Au,[],Au,[])
 |.If t b o p=>([t],[b,o],p,Au,[],Au,[])
 |.For t v b o p=>([v,t],[b,o],p,Au,[],Au,[])
 |.Try b h _ o p=>([],[b,o],p,Au,[],Au,h)
 |_=>([],[],Au,Au,[],Au,[])
noncomputable def uE:Expr->List Expr×Pos×Scope×Arguments
 |.Subscript v _ p=>([v],p,Au,Au)
 |.UnaryOp _ v p=>([v],p,Au,Au)
 |.ListComp v g s p=>(v::g.flatMap λx=>x.target::x.iter::x.ifs,p,s,Au)
 |.Tuple l _ p=>(l,p,Au,Au)
 |.BoolOp _ l p=>(l,p,Au,Au)
 |.Call _ l k p=>(l++k.map (·.value),p,Au,Au)
 |.Compare l _ r p=>(l::r,p,Au,Au)
 |.Lambda a e s p=>([e],p,s,a)
 |_=>([],Au,Au,Au)
noncomputable def O5(s:Stmt):Dx:=(uS s).2.1.headD []
noncomputable def Go(p:Program)(i j:Nat):Stmt:=(O5 (HV p i)).getD j (.Pass Au)
noncomputable def vt(s:Stmt):Str:=(uS s).2.2.2.2.1.headD ""
noncomputable def t9(s:Stmt):Arguments:=(uS s).2.2.2.2.2.1
noncomputable def ew(s:Stmt):Scope:=(uS s).2.2.2.1
def oI(s:Stmt):Pos:=(uS s).2.2.1
noncomputable def K0(st:Stmt)(qual:Str)(gl:Addr)(cl:List (Str×Addr))(dV kV doc pm:Value)(an:Option Addr)(cd clT:Value)(bu:Addr):FuncData:=
 {name:=vt st,qualname:=qual,params:=t9 st,body:=.stmts (O5 st),scope:=ew st,globals:=gl,closure:=cl,defaults:=dV,kwdefaults:=kV,
  doc:=doc,pyModule:=pm,annotations:=an,code:=cd,closureTuple:=clT,builtins:=bu}
noncomputable abbrev p:Program:=PySem.Challenge.pw_il0055_01
noncomputable def vE(s:Stmt):Expr:=(uS s).1.headD Au
noncomputable def tE(s:Stmt):Expr:=(uS s).1.getD 1 Au
noncomputable abbrev nB:Stmt->Dx:=O5
noncomputable def nO(s:Stmt):Dx:=(uS s).2.1.getD 1 []
noncomputable def nH(s:Stmt):List ExceptHandler:=(uS s).2.2.2.2.2.2
noncomputable def hS(l:Dx)(k:Nat):Stmt:=l.getD k (.Pass Au)
noncomputable def sN(i k:Nat):Stmt:=hS (O5 (HV p i)) k
noncomputable def mN(i j k:Nat):Stmt:=hS (O5 (Go p i j)) k
noncomputable def el(e:Expr)(k:Nat):Expr:=(uE e).1.getD k Au
noncomputable abbrev o0(e:Expr):Expr:=el e 0
def U2(e:Expr):Pos:=(uE e).2.1
def Gh(e:Expr):Scope:=(uE e).2.2.1
noncomputable def co(n q:Str)(t l a p k f r s:Nat)(v w x y:Value)(c:Nat):Obj:=⟨.type "code",none,.fields ⟨[.str n t,.str q (t+1),.str "/claim/cut.py" (t+2),.int l 0,.int a 0,.int p 0,.int k 0,.int f 0,.ref r,.bool true,.int 276 0,.ref s,v,w,x,y,.int c 0,.int l 0,.str "/claim/cut.py" (c+1)]⟩,⟨[]⟩⟩
noncomputable def fo(st:Stmt)(q:Str)(c:Nat):Obj:=⟨.type "function",none,.func (K0 st q 3 [] .none .none .none (.str "law_il0055_01" 581) none (.ref c) .none 0),⟨[]⟩⟩
noncomputable def lf(a n:Nat)(o:Obj):Option Obj:=cond (Nat.beq a n) (some o) none
noncomputable def nd(a n:Nat)(x y:Option Obj):Option Obj:=cond (Nat.blt a n) x y
noncomputable def kE(P:Params)(n:Str)(k:Nat)(v:Value):DictEntry:=⟨PyData.keyHash P n,.str n k,v⟩
def bl0(P:Params)(r:DJ):DJ:=kE P "__name__" 1 (.str "builtins" 160)::kE P "__doc__" 2 (.builtin "builtins.__doc__:str#opaque")::kE P "__package__" 3 (.builtin "builtins.__package__:str#opaque")::kE P "__loader__" 4 (.builtin "builtins.__loader__:shared#opaque")::kE P "__spec__" 5 (.builtin "builtins.__spec__#opaque")::r
def bl1(P:Params)(r:DJ):DJ:=kE P "__build_class__" 6 (.builtin "__build_class__")::kE P "__import__" 7 (.builtin "__import__")::kE P "abs" 8 (.builtin "abs")::kE P "all" 9 (.builtin "all")::kE P "any" 10 (.builtin "any")::r
def bl2(P:Params)(r:DJ):DJ:=kE P "ascii" 11 (.builtin "ascii")::kE P "bin" 12 (.builtin "bin")::kE P "breakpoint" 13 (.builtin "breakpoint")::kE P "callable" 14 (.builtin "callable")::kE P "chr" 15 (.builtin "chr")::r
def bl3(P:Params)(r:DJ):DJ:=kE P "compile" 16 (.builtin "compile")::kE P "delattr" 17 (.builtin "delattr")::kE P "dir" 18 (.builtin "dir")::kE P "divmod" 19 (.builtin "divmod")::kE P "eval" 20 (.builtin "eval")::r
def bl4(P:Params)(r:DJ):DJ:=kE P "exec" 21 (.builtin "exec")::kE P "format" 22 (.builtin "format")::kE P "getattr" 23 (.builtin "getattr")::kE P "globals" 24 (.builtin "globals")::kE P "hasattr" 25 (.builtin "hasattr")::r
def bl5(P:Params)(r:DJ):DJ:=kE P "hash" 26 (.builtin "hash")::kE P "hex" 27 (.builtin "hex")::kE P "id" 28 (.builtin "id")::kE P "input" 29 (.builtin "input")::kE P "isinstance" 30 (.builtin "isinstance")::r
def bl6(P:Params)(r:DJ):DJ:=kE P "issubclass" 31 (.builtin "issubclass")::kE P "iter" 32 (.builtin "iter")::kE P "aiter" 33 (.builtin "aiter")::kE P "len" 34 (.builtin "len")::kE P "locals" 35 (.builtin "locals")::r
def bl7(P:Params)(r:DJ):DJ:=kE P "max" 36 (.builtin "max")::kE P "min" 37 (.builtin "min")::kE P "next" 38 (.builtin "next")::kE P "anext" 39 (.builtin "anext")::kE P "oct" 40 (.builtin "oct")::r
def bl8(P:Params)(r:DJ):DJ:=kE P "ord" 41 (.builtin "ord")::kE P "pow" 42 (.builtin "pow")::kE P "print" 43 (.builtin "print")::kE P "repr" 44 (.builtin "repr")::kE P "round" 45 (.builtin "round")::r
def bl9(P:Params)(r:DJ):DJ:=kE P "setattr" 46 (.builtin "setattr")::kE P "sorted" 47 (.builtin "sorted")::kE P "sum" 48 (.builtin "sum")::kE P "vars" 49 (.builtin "vars")::kE P "None" 50 .none::r
def yD(P:Params)(r:DJ):DJ:=kE P "Ellipsis" 51 .ellipsis::kE P "NotImplemented" 52 .notImplemented::kE P "False" 53 (.bool false)::kE P "True" 54 (.bool true)::kE P "bool" 55 (.type "bool")::r
def yE(P:Params)(r:DJ):DJ:=kE P "memoryview" 56 (.type "memoryview")::kE P "bytearray" 57 (.type "bytearray")::kE P "bytes" 58 (.type "bytes")::kE P "classmethod" 59 (.type "classmethod")::kE P "complex" 60 (.type "complex")::r
def yF(P:Params)(r:DJ):DJ:=kE P "dict" 61 (.type "dict")::kE P "enumerate" 62 (.type "enumerate")::kE P "filter" 63 (.type "filter")::kE P "float" 64 (.type "float")::kE P "frozenset" 65 (.type "frozenset")::r
def yG(P:Params)(r:DJ):DJ:=kE P "property" 66 (.type "property")::kE P "int" 67 (.type "int")::kE P "list" 68 (.type "list")::kE P "map" 69 (.type "map")::kE P "object" 70 (.type "object")::r
def yH(P:Params)(r:DJ):DJ:=kE P "range" 71 (.type "range")::kE P "reversed" 72 (.type "reversed")::kE P "set" 73 (.type "set")::kE P "slice" 74 (.type "slice")::kE P "staticmethod" 75 (.type "staticmethod")::r
def yI(P:Params)(r:DJ):DJ:=kE P "str" 76 (.type "str")::kE P "super" 77 (.type "super")::kE P "tuple" 78 (.type "tuple")::kE P "type" 79 (.type "type")::kE P "zip" 80 (.type "zip")::r
def yJ(P:Params)(r:DJ):DJ:=kE P "__debug__" 81 (.bool true)::kE P "BaseException" 82 (.type "BaseException")::kE P "BaseExceptionGroup" 83 (.type "BaseExceptionGroup")::kE P "Exception" 84 (.type "Exception")::kE P "GeneratorExit" 85 (.type "GeneratorExit")::r
def yK(P:Params)(r:DJ):DJ:=kE P "KeyboardInterrupt" 86 (.type "KeyboardInterrupt")::kE P "SystemExit" 87 (.type "SystemExit")::kE P "ArithmeticError" 88 (.type "ArithmeticError")::kE P "AssertionError" 89 (.type "AssertionError")::kE P "AttributeError" 90 (.type "AttributeError")::r
def yL(P:Params)(r:DJ):DJ:=kE P "BufferError" 91 (.type "BufferError")::kE P "EOFError" 92 (.type "EOFError")::kE P "ImportError" 93 (.type "ImportError")::kE P "LookupError" 94 (.type "LookupError")::kE P "MemoryError" 95 (.type "MemoryError")::r
def yM(P:Params)(r:DJ):DJ:=kE P "NameError" 96 (.type "NameError")::kE P "OSError" 97 (.type "OSError")::kE P "ReferenceError" 98 (.type "ReferenceError")::kE P "RuntimeError" 99 (.type "RuntimeError")::kE P "StopAsyncIteration" 100 (.type "StopAsyncIteration")::r
def yN(P:Params)(r:DJ):DJ:=kE P "StopIteration" 101 (.type "StopIteration")::kE P "SyntaxError" 102 (.type "SyntaxError")::kE P "SystemError" 103 (.type "SystemError")::kE P "TypeError" 104 (.type "TypeError")::kE P "ValueError" 105 (.type "ValueError")::r
def yO(P:Params)(r:DJ):DJ:=kE P "Warning" 106 (.type "Warning")::kE P "FloatingPointError" 107 (.type "FloatingPointError")::kE P "OverflowError" 108 (.type "OverflowError")::kE P "ZeroDivisionError" 109 (.type "ZeroDivisionError")::kE P "BytesWarning" 110 (.type "BytesWarning")::r
def yP(P:Params)(r:DJ):DJ:=kE P "DeprecationWarning" 111 (.type "DeprecationWarning")::kE P "EncodingWarning" 112 (.type "EncodingWarning")::kE P "FutureWarning" 113 (.type "FutureWarning")::kE P "ImportWarning" 114 (.type "ImportWarning")::kE P "PendingDeprecationWarning" 115 (.type "PendingDeprecationWarning")::r
def yQ(P:Params)(r:DJ):DJ:=kE P "ResourceWarning" 116 (.type "ResourceWarning")::kE P "RuntimeWarning" 117 (.type "RuntimeWarning")::kE P "SyntaxWarning" 118 (.type "SyntaxWarning")::kE P "UnicodeWarning" 119 (.type "UnicodeWarning")::kE P "UserWarning" 120 (.type "UserWarning")::r
def yR(P:Params)(r:DJ):DJ:=kE P "BlockingIOError" 121 (.type "BlockingIOError")::kE P "ChildProcessError" 122 (.type "ChildProcessError")::kE P "ConnectionError" 123 (.type "ConnectionError")::kE P "FileExistsError" 124 (.type "FileExistsError")::kE P "FileNotFoundError" 125 (.type "FileNotFoundError")::r
def yS(P:Params)(r:DJ):DJ:=kE P "InterruptedError" 126 (.type "InterruptedError")::kE P "IsADirectoryError" 127 (.type "IsADirectoryError")::kE P "NotADirectoryError" 128 (.type "NotADirectoryError")::kE P "PermissionError" 129 (.type "PermissionError")::kE P "ProcessLookupError" 130 (.type "ProcessLookupError")::r
def yT(P:Params)(r:DJ):DJ:=kE P "TimeoutError" 131 (.type "TimeoutError")::kE P "IndentationError" 132 (.type "IndentationError")::kE P "_IncompleteInputError" 133 (.type "_IncompleteInputError")::kE P "IndexError" 134 (.type "IndexError")::kE P "KeyError" 135 (.type "KeyError")::r
def yU(P:Params)(r:DJ):DJ:=kE P "ModuleNotFoundError" 136 (.type "ModuleNotFoundError")::kE P "NotImplementedError" 137 (.type "NotImplementedError")::kE P "PythonFinalizationError" 138 (.type "PythonFinalizationError")::kE P "RecursionError" 139 (.type "RecursionError")::kE P "UnboundLocalError" 140 (.type "UnboundLocalError")::r
def yV(P:Params)(r:DJ):DJ:=kE P "UnicodeError" 141 (.type "UnicodeError")::kE P "BrokenPipeError" 142 (.type "BrokenPipeError")::kE P "ConnectionAbortedError" 143 (.type "ConnectionAbortedError")::kE P "ConnectionRefusedError" 144 (.type "ConnectionRefusedError")::kE P "ConnectionResetError" 145 (.type "ConnectionResetError")::r
def yW(P:Params)(r:DJ):DJ:=kE P "TabError" 146 (.type "TabError")::kE P "UnicodeDecodeError" 147 (.type "UnicodeDecodeError")::kE P "UnicodeEncodeError" 148 (.type "UnicodeEncodeError")::kE P "UnicodeTranslateError" 149 (.type "UnicodeTranslateError")::kE P "ExceptionGroup" 150 (.type "ExceptionGroup")::r
def yX(P:Params)(r:DJ):DJ:=kE P "EnvironmentError" 151 (.type "OSError")::kE P "IOError" 152 (.type "OSError")::kE P "open" 153 (.builtin "open")::kE P "quit" 154 (.builtin "builtins.quit#opaque")::kE P "exit" 155 (.builtin "builtins.exit#opaque")::r
def yY(P:Params)(r:DJ):DJ:=kE P "copyright" 156 (.builtin "builtins.copyright#opaque")::kE P "credits" 157 (.builtin "builtins.credits#opaque")::kE P "license" 158 (.builtin "builtins.license#opaque")::kE P "help" 159 (.builtin "builtins.help#opaque")::r
def z2(P:Params):Obj:=⟨.type "dict",none,.dict ⟨bl0 P<|bl1 P<|bl2 P<|bl3 P<|bl4 P<|bl5 P<|bl6 P<|bl7 P<|bl8 P<|bl9 P<|yD P<|yE P<|yF P<|yG P<|yH P<|yI P<|yJ P<|yK P<|yL P<|yM P<|yN P<|yO P<|yP P<|yQ P<|yR P<|yS P<|yT P<|yU P<|yV P<|yW P<|yX P<|yY P []⟩ 159,⟨[]⟩⟩
def z3(P:Params):Obj:=⟨.none,none,.dict ⟨[kE P "\x69mport.loaded._sre" 183 (.bool true),kE P "class._frozen_importlib.BuiltinImporter" 185 (.ref 14),kE P "watched.\x69mport" 206 (.ref 18),kE P "class._frozen_importlib.ModuleSpec" 216 (.ref 22),kE P "sys.modules.booked-epoch" 245 (.int 3 0),kE P "\x69mport.later-laid._sre" 270 (.bool true),kE P "watched.library" 272 (.ref 27),kE P "watched.library-objects" 0 (.str "\x0c" 0),kE P "watched.library-deep._sre" 273 (.str "\x04\x00\x00\x0b\x04\x00\x00\x0b\x04\x00\x00\x03\x04\x00\x00\x0b\x08\x04dict\x02" 0)]⟩ 9,⟨[]⟩⟩
def r3(P:Params):Obj:=⟨.type "dict",none,.dict ⟨[kE P "__name__" 165 (.str "law_il0055_01" 581),kE P "__doc__" 166 .none,kE P "__package__" 167 .none,kE P "__loader__" 168 (.builtin "__main__.__loader__#opaque"),kE P "__spec__" 169 .none,kE P "__annotations__" 170 (.ref 6),kE P "__builtins__" 171 (.ref 4),kE P "__file__" 173 (.str "/claim/cut.py" 172),kE P "__cached__" 174 .none,kE P "_sre" 275 (.ref 12),kE P "_wall" 288 (.ref 38),kE P "_twin_re_1" 318 (.ref 43),kE P "NL" 320 (.str "\n" 319),kE P "EMPTYSTRING" 322 (.str "" 321),kE P "_ValueFormatter" 436 (.ref 116),kE P "_Accumulator" 532 (.ref 200),kE P "cmp_to_key" 543 (.ref 211),kE P "_initial_missing" 544 (.ref 212),kE P "reduce" 556 (.ref 220),kE P "sorted_list_difference" 572 (.ref 227),kE P "three_way_cmp" 580 (.ref 234),kE P "_law_plain" 589 (.ref 241),kE P "_law_chunks" 595 (.ref 246),kE P "_law_text" 601 (.ref 251),kE P "_law_fed" 611 (.ref 258),kE P "_law_lay" 619 (.ref 265),kE P "_law_laid" 628 (.ref 272),kE P "_law_begins" 636 (.ref 279),kE P "_law_next" 646 (.ref 286),kE P "_law_way" 655 (.ref 293),kE P "_law_lacks" 661 (.ref 298),kE P "_law_kept" 669 (.ref 305),kE P "_law_pairs" 675 (.ref 310),kE P "_law_beside" 685 (.ref 317),kE P "law" 691 (.ref 322)]⟩ 35,⟨[]⟩⟩
noncomputable def z4(P:Params):Obj:=⟨.type "module",some 0,.plain,⟨[]⟩⟩
noncomputable def z5(P:Params):Obj:=⟨.type "tuple",none,.seq ⟨[.int 14 0,.int 4 0,.int 0 0,.int 1 0,.int 4294967295 0,.int 17 0,.int 0 0,.int 24 0,.int 11 0,.int 1 0,.int 4294967295 0,.int 13 0,.int 6 0,.int 16 0,.int 32 0,.int 16 0,.int 9 0,.int 0 0,.int 1 0,.int 17 0,.int 1 0,.int 1 0]⟩ 0,⟨[]⟩⟩
noncomputable def z6(P:Params):Obj:=⟨.type "re.Pattern",none,.fields ⟨[.str "([ \t]+)" 292,.int 32 317,.int 1 0,.none,.none,.ref 42,.int 0 0]⟩,⟨[]⟩⟩
def z7(P:Params):Obj:=co "__init__" "_ValueFormatter.__init__" 335 11 5 0 0 3 51 52 .none (.ref 53) (.ref 54) (.ref 55) 343
def z8(P:Params):Obj:=⟨.type "function",none,.func (K0 (Go p 6 0) "_ValueFormatter.__init__" 3 [] (.none) (.none) (.none) (.str "cpy313.email.header" 289) none (.ref 56) (.none) 0),⟨[]⟩⟩
def z9(P:Params):Obj:=co "_str" "_ValueFormatter._str" 346 19 2 0 0 3 58 59 .none (.ref 60) (.ref 61) (.ref 62) 351
def z_(P:Params):Obj:=⟨.type "function",none,.func (K0 (Go p 6 1) "_ValueFormatter._str" 3 [] (.none) (.none) (.none) (.str "cpy313.email.header" 289) none (.ref 63) (.none) 0),⟨[]⟩⟩
def AAA(P:Params):Obj:=co "newline" "_ValueFormatter.newline" 361 26 1 0 0 3 72 73 .none (.ref 74) (.ref 75) (.ref 76) 366
def AAB(P:Params):Obj:=⟨.type "function",none,.func (K0 (Go p 6 3) "_ValueFormatter.newline" 3 [] (.none) (.none) (.none) (.str "cpy313.email.header" 289) none (.ref 77) (.none) 0),⟨[]⟩⟩
def AAC(P:Params):Obj:=co "feed" "_ValueFormatter.feed" 376 40 4 0 0 3 86 87 .none (.ref 88) (.ref 89) (.ref 90) 387
def AAD(P:Params):Obj:=⟨.type "function",none,.func (K0 (Go p 6 5) "_ValueFormatter.feed" 3 [] (.none) (.none) (.none) (.str "cpy313.email.header" 289) none (.ref 91) (.none) 0),⟨[]⟩⟩
def v8(P:Params):Obj:=co "_ascii_split" "_ValueFormatter._ascii_split" 397 65 4 0 0 3 100 101 .none (.ref 102) (.ref 103) (.ref 104) 406
def v9(P:Params):Obj:=⟨.type "function",none,.func (K0 (Go p 6 7) "_ValueFormatter._ascii_split" 3 [] (.none) (.none) (.none) (.str "cpy313.email.header" 289) none (.ref 105) (.none) 0),⟨[]⟩⟩
def v_(P:Params):Obj:=co "_append_chunk" "_ValueFormatter._append_chunk" 409 74 3 0 0 3 107 108 .none (.ref 109) (.ref 110) (.ref 111) 420
def wA(P:Params):Obj:=⟨.type "function",none,.func (K0 (Go p 6 8) "_ValueFormatter._append_chunk" 3 [] (.none) (.none) (.none) (.str "cpy313.email.header" 289) none (.ref 112) (.none) 0),⟨[]⟩⟩
def wB(P:Params):Obj:=⟨.type "dict",none,.dict ⟨[kE P "__module__" 330 (.str "cpy313.email.header" 289),kE P "__firstlineno__" 334 (.int 9 333),kE P "__init__" 345 (.ref 57),kE P "_str" 353 (.ref 64),kE P "__str__" 360 (.ref 71),kE P "newline" 368 (.ref 78),kE P "add_transition" 375 (.ref 85),kE P "feed" 389 (.ref 92),kE P "_maxlengths" 396 (.ref 99),kE P "_ascii_split" 408 (.ref 106),kE P "_append_chunk" 422 (.ref 113),kE P "__static_attributes__" 429 (.ref 114),kE P "__dict__" 431 (.ref 117),kE P "__weakref__" 433 (.ref 118),kE P "__doc__" 434 .none]⟩ 4,⟨[]⟩⟩
noncomputable def wC(P:Params):Obj:=⟨.type "type",none,.cls {name:="_ValueFormatter",bases:=[.type "object"],mro:=[.ref 116,.type "object"],ns:=115,qualname:="_ValueFormatter",hasDict:=true,slotNames:=[],subclasses:=[],abstract:=false,collection:=none,hasDel:=false},⟨[none,none,some (.str "_ValueFormatter" 323),some (.str "_ValueFormatter" 331),some (.builtin "object.__new__"),some (.bool true)]⟩⟩
noncomputable def wD(P:Params):Obj:=⟨.type "cell",none,.cell (some (.ref 200)),⟨[]⟩⟩
noncomputable def wE(P:Params):Obj:=⟨.type "tuple",none,.seq ⟨[.int 0 449]⟩ 0,⟨[]⟩⟩
def n8(P:Params):Obj:=co "__init__" "_Accumulator.__init__" 450 102 2 0 0 3 131 132 .none (.ref 133) (.ref 134) (.ref 135) 456
def wF(P:Params):Obj:=⟨.type "function",none,.func (K0 (Go p 7 0) "_Accumulator.__init__" 3 [("__class__",124)] (.ref 129) (.none) (.none) (.str "cpy313.email.header" 289) none (.ref 136) (.ref 130) 0),⟨[]⟩⟩
def wG(P:Params):Obj:=co "push" "_Accumulator.push" 459 106 3 0 0 3 138 139 .none (.ref 140) (.ref 141) (.ref 142) 465
def wH(P:Params):Obj:=⟨.type "function",none,.func (K0 (Go p 7 1) "_Accumulator.push" 3 [] (.none) (.none) (.none) (.str "cpy313.email.header" 289) none (.ref 143) (.none) 0),⟨[]⟩⟩
noncomputable def wI(P:Params):Obj:=⟨.type "tuple",none,.seq ⟨[.int 0 468]⟩ 0,⟨[]⟩⟩
def wJ(P:Params):Obj:=co "pop_from" "_Accumulator.pop_from" 469 109 2 0 0 3 146 147 .none (.ref 148) (.ref 149) (.ref 150) 475
def wK(P:Params):Obj:=⟨.type "function",none,.func (K0 (Go p 7 2) "_Accumulator.pop_from" 3 [] (.ref 145) (.none) (.none) (.str "cpy313.email.header" 289) none (.ref 151) (.none) 0),⟨[]⟩⟩
def n9(P:Params):Obj:=co "pop" "_Accumulator.pop" 478 114 1 0 0 3 154 155 .none (.ref 156) (.ref 157) (.ref 158) 483
def wL(P:Params):Obj:=⟨.type "function",none,.func (K0 (Go p 7 3) "_Accumulator.pop" 3 [("__class__",124)] (.none) (.none) (.none) (.str "cpy313.email.header" 289) none (.ref 159) (.ref 153) 0),⟨[]⟩⟩
def Tt(P:Params):Obj:=co "__len__" "_Accumulator.__len__" 486 119 1 0 0 3 161 162 .none (.ref 163) (.ref 164) (.ref 165) 490
def wM(P:Params):Obj:=⟨.type "function",none,.func (K0 (Go p 7 4) "_Accumulator.__len__" 3 [] (.none) (.none) (.none) (.str "cpy313.email.header" 289) none (.ref 166) (.none) 0),⟨[]⟩⟩
def Tu(P:Params):Obj:=co "__str__" "_Accumulator.__str__" 493 122 1 0 0 3 168 169 .none (.ref 170) (.ref 171) (.ref 172) 497
def wN(P:Params):Obj:=⟨.type "function",none,.func (K0 (Go p 7 5) "_Accumulator.__str__" 3 [] (.none) (.none) (.none) (.str "cpy313.email.header" 289) none (.ref 173) (.none) 0),⟨[]⟩⟩
noncomputable def wO(P:Params):Obj:=⟨.type "tuple",none,.seq ⟨[.none]⟩ 0,⟨[]⟩⟩
def wP(P:Params):Obj:=co "reset" "_Accumulator.reset" 500 125 2 0 0 3 176 177 .none (.ref 178) (.ref 179) (.ref 180) 505
def wQ(P:Params):Obj:=⟨.type "function",none,.func (K0 (Go p 7 6) "_Accumulator.reset" 3 [] (.ref 175) (.none) (.none) (.str "cpy313.email.header" 289) none (.ref 181) (.none) 0),⟨[]⟩⟩
def wR(P:Params):Obj:=co "is_onlyws" "_Accumulator.is_onlyws" 508 131 1 0 0 3 183 184 .none (.ref 185) (.ref 186) (.ref 187) 512
def wS(P:Params):Obj:=⟨.type "function",none,.func (K0 (Go p 7 7) "_Accumulator.is_onlyws" 3 [] (.none) (.none) (.none) (.str "cpy313.email.header" 289) none (.ref 188) (.none) 0),⟨[]⟩⟩
def n_(P:Params):Obj:=co "part_count" "_Accumulator.part_count" 515 134 1 0 0 3 191 192 .none (.ref 193) (.ref 194) (.ref 195) 520
def wT(P:Params):Obj:=⟨.type "function",none,.func (K0 (Go p 7 8) "_Accumulator.part_count" 3 [("__class__",124)] (.none) (.none) (.none) (.str "cpy313.email.header" 289) none (.ref 196) (.ref 190) 0),⟨[]⟩⟩
def wU(P:Params):Obj:=⟨.type "dict",none,.dict ⟨[kE P "__module__" 444 (.str "cpy313.email.header" 289),kE P "__firstlineno__" 448 (.int 100 447),kE P "__init__" 458 (.ref 137),kE P "push" 467 (.ref 144),kE P "pop_from" 477 (.ref 152),kE P "pop" 485 (.ref 160),kE P "__len__" 492 (.ref 167),kE P "__str__" 499 (.ref 174),kE P "reset" 507 (.ref 182),kE P "is_onlyws" 514 (.ref 189),kE P "part_count" 522 (.ref 197),kE P "__static_attributes__" 524 (.ref 198),kE P "__dict__" 527 (.ref 201),kE P "__weakref__" 529 (.ref 202),kE P "__doc__" 530 .none]⟩ 5,⟨[]⟩⟩
noncomputable def wV(P:Params):Obj:=⟨.type "type",none,.cls {name:="_Accumulator",bases:=[.type "list"],mro:=[.ref 200,.type "list",.type "object"],ns:=199,qualname:="_Accumulator",hasDict:=true,slotNames:=[],subclasses:=[],abstract:=false,collection:=none,hasDel:=false},⟨[some (.ref 121),none,some (.str "_Accumulator" 437),some (.str "_Accumulator" 445),some (.builtin "list.__new__"),some (.bool true)]⟩⟩
def di(P:Params):Obj:=co "cmp_to_key" "cmp_to_key" 535 137 1 0 0 3 205 206 .none (.ref 207) (.ref 208) (.ref 209) 541
def wW(P:Params):Obj:=⟨.type "function",none,.func (K0 (HV p 9) "cmp_to_key" 3 [] (.none) (.none) (.none) (.str "cpy313.functools" 533) none (.ref 210) (.none) 0),⟨[]⟩⟩
noncomputable def wX(P:Params):Obj:=⟨.type "object",none,.plain,⟨[]⟩⟩
noncomputable def wY(P:Params):Obj:=⟨.type "tuple",none,.seq ⟨[.ref 212]⟩ 0,⟨[]⟩⟩
def wZ(P:Params):Obj:=co "reduce" "reduce" 545 163 3 0 0 3 214 215 .none (.ref 216) (.ref 217) (.ref 218) 554
def wb(P:Params):Obj:=⟨.type "function",none,.func (K0 (HV p 11) "reduce" 3 [] (.ref 213) (.none) (.none) (.str "cpy313.functools" 533) none (.ref 219) (.none) 0),⟨[]⟩⟩
def wc(P:Params):Obj:=co "sorted_list_difference" "sorted_list_difference" 559 176 2 0 0 3 221 222 .none (.ref 223) (.ref 224) (.ref 225) 570
def we(P:Params):Obj:=⟨.type "function",none,.func (K0 (HV p 13) "sorted_list_difference" 3 [] (.none) (.none) (.none) (.str "cpy313.unittest.util" 557) none (.ref 226) (.none) 0),⟨[]⟩⟩
def wg(P:Params):Obj:=co "three_way_cmp" "three_way_cmp" 573 208 2 0 0 3 228 229 .none (.ref 230) (.ref 231) (.ref 232) 578
def wh(P:Params):Obj:=⟨.type "function",none,.func (K0 (HV p 14) "three_way_cmp" 3 [] (.none) (.none) (.none) (.str "cpy313.unittest.util" 557) none (.ref 233) (.none) 0),⟨[]⟩⟩
def wj(P:Params):Obj:=co "_law_plain" "_law_plain" 583 211 0 0 0 3 235 236 .none (.ref 237) (.ref 238) (.ref 239) 587
def wk(P:Params):Obj:=fo (HV p 16) "_law_plain" 240
def wl(P:Params):Obj:=co "_law_chunks" "_law_chunks" 590 215 1 0 0 3 242 243 .none .none .none (.ref 244) 593
def wm(P:Params):Obj:=fo (HV p 17) "_law_chunks" 245
def wn(P:Params):Obj:=co "_law_text" "_law_text" 596 217 1 0 0 3 247 248 .none .none .none (.ref 249) 599
def wo(P:Params):Obj:=fo (HV p 18) "_law_text" 250
def wq(P:Params):Obj:=co "_law_fed" "_law_fed" 602 219 2 0 0 3 252 253 .none (.ref 254) (.ref 255) (.ref 256) 609
def wu(P:Params):Obj:=fo (HV p 19) "_law_fed" 257
def ww(P:Params):Obj:=co "_law_lay" "_law_lay" 612 224 2 0 0 3 259 260 .none (.ref 261) (.ref 262) (.ref 263) 617
def wx(P:Params):Obj:=fo (HV p 20) "_law_lay" 264
def wy(P:Params):Obj:=co "_law_laid" "_law_laid" 620 227 3 0 0 3 266 267 .none (.ref 268) (.ref 269) (.ref 270) 626
def wz(P:Params):Obj:=fo (HV p 21) "_law_laid" 271
def dj(P:Params):Obj:=co "_law_begins" "_law_begins" 629 229 2 0 0 3 273 274 .none (.ref 275) (.ref 276) (.ref 277) 634
def w3(P:Params):Obj:=fo (HV p 22) "_law_begins" 278
def w4(P:Params):Obj:=co "_law_next" "_law_next" 637 231 3 0 0 3 280 281 .none (.ref 282) (.ref 283) (.ref 284) 644
def w5(P:Params):Obj:=fo (HV p 23) "_law_next" 285
def w6(P:Params):Obj:=co "_law_way" "_law_way" 647 236 2 0 0 3 287 288 .none (.ref 289) (.ref 290) (.ref 291) 653
def w7(P:Params):Obj:=fo (HV p 24) "_law_way" 292
def w8(P:Params):Obj:=co "_law_lacks" "_law_lacks" 656 241 2 0 0 3 294 295 .none .none .none (.ref 296) 659
def w_(P:Params):Obj:=fo (HV p 25) "_law_lacks" 297
def xA(P:Params):Obj:=co "_law_kept" "_law_kept" 662 243 2 0 0 3 299 300 .none (.ref 301) (.ref 302) (.ref 303) 667
def xB(P:Params):Obj:=fo (HV p 26) "_law_kept" 304
def xC(P:Params):Obj:=co "_law_pairs" "_law_pairs" 670 245 1 0 0 3 306 307 .none .none .none (.ref 308) 673
def xD(P:Params):Obj:=fo (HV p 27) "_law_pairs" 309
def xE(P:Params):Obj:=co "_law_beside" "_law_beside" 676 253 2 0 0 3 311 312 .none (.ref 313) (.ref 314) (.ref 315) 683
def xF(P:Params):Obj:=fo (HV p 28) "_law_beside" 316
def dk(P:Params):Obj:=co "law" "law" 686 259 1 0 0 3 318 319 .none .none .none (.ref 320) 689
def xG(P:Params):Obj:=fo (HV p 29) "law" 321
def KP(P:Params)(a:Addr):Option Obj:=nd a 197 (nd a 124 (nd a 77 (nd a 43 (nd a 3 (nd a 2 (lf a 0 (z2 P)) (lf a 2 (z3 P))) (nd a 4 (lf a 3 (r3 P)) (nd a 42 (lf a 4 (z4 P)) (lf a 42 (z5 P))))) (nd a 57 (nd a 56 (lf a 43 (z6 P)) (lf a 56 (z7 P))) (nd a 63 (lf a 57 (z8 P)) (nd a 64 (lf a 63 (z9 P)) (lf a 64 (z_ P)))))) (nd a 106 (nd a 91 (nd a 78 (lf a 77 (AAA P)) (lf a 78 (AAB P))) (nd a 92 (lf a 91 (AAC P)) (nd a 105 (lf a 92 (AAD P)) (lf a 105 (v8 P))))) (nd a 113 (nd a 112 (lf a 106 (v9 P)) (lf a 112 (v_ P))) (nd a 115 (lf a 113 (wA P)) (nd a 116 (lf a 115 (wB P)) (lf a 116 (wC P))))))) (nd a 160 (nd a 144 (nd a 136 (nd a 129 (lf a 124 (wD P)) (lf a 129 (wE P))) (nd a 137 (lf a 136 (n8 P)) (nd a 143 (lf a 137 (wF P)) (lf a 143 (wG P))))) (nd a 151 (nd a 145 (lf a 144 (wH P)) (lf a 145 (wI P))) (nd a 152 (lf a 151 (wJ P)) (nd a 159 (lf a 152 (wK P)) (lf a 159 (n9 P)))))) (nd a 175 (nd a 167 (nd a 166 (lf a 160 (wL P)) (lf a 166 (Tt P))) (nd a 173 (lf a 167 (wM P)) (nd a 174 (lf a 173 (Tu P)) (lf a 174 (wN P))))) (nd a 188 (nd a 181 (lf a 175 (wO P)) (nd a 182 (lf a 181 (wP P)) (lf a 182 (wQ P)))) (nd a 189 (lf a 188 (wR P)) (nd a 196 (lf a 189 (wS P)) (lf a 196 (n_ P)))))))) (nd a 258 (nd a 227 (nd a 212 (nd a 200 (nd a 199 (lf a 197 (wT P)) (lf a 199 (wU P))) (nd a 210 (lf a 200 (wV P)) (nd a 211 (lf a 210 (di P)) (lf a 211 (wW P))))) (nd a 219 (nd a 213 (lf a 212 (wX P)) (lf a 213 (wY P))) (nd a 220 (lf a 219 (wZ P)) (nd a 226 (lf a 220 (wb P)) (lf a 226 (wc P)))))) (nd a 245 (nd a 234 (nd a 233 (lf a 227 (we P)) (lf a 233 (wg P))) (nd a 240 (lf a 234 (wh P)) (nd a 241 (lf a 240 (wj P)) (lf a 241 (wk P))))) (nd a 250 (nd a 246 (lf a 245 (wl P)) (lf a 246 (wm P))) (nd a 251 (lf a 250 (wn P)) (nd a 257 (lf a 251 (wo P)) (lf a 257 (wq P))))))) (nd a 293 (nd a 278 (nd a 265 (nd a 264 (lf a 258 (wu P)) (lf a 264 (ww P))) (nd a 271 (lf a 265 (wx P)) (nd a 272 (lf a 271 (wy P)) (lf a 272 (wz P))))) (nd a 285 (nd a 279 (lf a 278 (dj P)) (lf a 279 (w3 P))) (nd a 286 (lf a 285 (w4 P)) (nd a 292 (lf a 286 (w5 P)) (lf a 292 (w6 P)))))) (nd a 309 (nd a 298 (nd a 297 (lf a 293 (w7 P)) (lf a 297 (w8 P))) (nd a 304 (lf a 298 (w_ P)) (nd a 305 (lf a 304 (xA P)) (lf a 305 (xB P))))) (nd a 317 (nd a 310 (lf a 309 (xC P)) (nd a 316 (lf a 310 (xD P)) (lf a 316 (xE P)))) (nd a 321 (lf a 317 (xF P)) (nd a 322 (lf a 321 (dk P)) (lf a 322 (xG P))))))))
noncomputable def QN:List Addr:=[0,2,3,4,42,43,56,57,63,64,77,78,91,92,105,106,112,113,115,116,124,129,136,137,143,144,145,151,152,159,160,166,167,173,174,175,181,182,188,189,196,197,199,200,210,211,212,213,219,220,226,227,233,234,240,241,245,246,250,251,257,258,264,265,271,272,278,279,285,286,292,293,297,298,304,305,309,310,316,317,321,322]
abbrev GL:=KP
abbrev pF:Program:=p
theorem pW:KP=GL:=rfl
theorem xI:p=pF:=rfl
abbrev P1:=PySem.W.Fast.tw12563942051412417395
theorem MF: @Ac=P1:=PySem.W.Fast.te12563942051412417395
abbrev PE:=PySem.W.Fast.tw14044960220447912780
theorem JR: @Bf=PE:=PySem.W.Fast.te14044960220447912780
abbrev ZK:=PySem.W.Fast.tw11892475500146522536
theorem ZL: @denote=ZK:=PySem.W.Fast.te11892475500146522536
abbrev Pp:= @PySem.W.Fast.tw10254737850608025244
theorem O7: @AU= @Pp:=PySem.W.Fast.te10254737850608025244
abbrev mn:= @PySem.W.Fast.tw15418851999007992765
theorem tT: @PySem.isTrue= @mn:=PySem.W.Fast.te15418851999007992765
abbrev Z0:= @PySem.W.Fast.tw8711993805878244202
theorem Z1: @Mh= @Z0:=PySem.W.Fast.te8711993805878244202
abbrev Z2:= @PySem.W.Fast.tw9404975358583537561
theorem Z3: @FK= @Z2:=PySem.W.Fast.te9404975358583537561
abbrev X8:= @PySem.W.Fast.tw17772580674575903948
theorem X9: @Bo= @X8:=PySem.W.Fast.te17772580674575903948
abbrev FP:= @PySem.W.Fast.tw11113344188204177931
theorem NW: @newFunctionEnv= @FP:=PySem.W.Fast.te11113344188204177931
abbrev Dc:= @PySem.W.Fast.tw9782568553167038054
theorem Ki: @bindArgs= @Dc:=PySem.W.Fast.te9782568553167038054
abbrev Sj:= @PySem.W.Fast.tw8289420714989923916
theorem Uk: @LW= @Sj:=PySem.W.Fast.te8289420714989923916
abbrev pZ:= @PySem.W.Fast.tw14364793385576792824
theorem jo: @treeTable= @pZ:=PySem.W.Fast.te14364793385576792824
def qp:Data->Option FuncData|.func f=>some f|_=>none
noncomputable def sy(o:Option Obj):FuncData:=(o.bind λo=>qp o.data).getD Au
def D4(P:Params)(a:Addr):FuncData:=sy (GL P a)
def A4(P:Params)(a:Addr):Dx:=match(D4 P a).body with|.stmts b=>b|_=>[]
def AR(P:Params)(a:Addr)(cells:List (Str×Addr))(L:Addr):Env:=
 {scope:=(D4 P a).scope,locals:=L,globals:=(D4 P a).globals,cells:=cells,qual:=(D4 P a).qualname++".<locals>.",func:=some a,code:=(D4 P a).code,frame:=some L,builtins:=(D4 P a).builtins}
abbrev Tp:= @PySem.W.Fast.tw8468629109055619292
theorem U8: @PySem.loadName= @Tp:=PySem.W.Fast.te8468629109055619292
abbrev Sf:= @PySem.W.Fast.tw2036766266224100846
theorem Ub: @PySem.binaryOp= @Sf:=PySem.W.Fast.te2036766266224100846
abbrev Rc:= @PySem.W.Fast.tw6042679816869820781
theorem TU: @PySem.getMethod= @Rc:=PySem.W.Fast.te6042679816869820781
noncomputable abbrev Bl(l:Ay):Str:=⟨⟨l⟩⟩
noncomputable abbrev nM(s:Str)(l c e:Nat):Expr:=.Name s ⟨l,c,l,e⟩
noncomputable abbrev pS(l c e:Nat):Pos:=⟨l,c,l,e⟩
def xo:Str:=Bl [115,117,109]
def z__:Str:=Bl [32]
def AM:Str:=Bl [115,101,108,102]
def JL:Str:=Bl [104,101,97,100,101,114,108,101,110]
def OC:Str:=Bl [109,97,120,108,101,110]
def Fk:Str:=Bl [99,111,110,116,105,110,117,97,116,105,111,110,95,119,115]
def Ba:Str:=Bl [115,112,108,105,116,99,104,97,114,115]
def HG:Str:=Bl [108,105,110,101,115,101,112]
def B5:Str:=Bl [101,110,100,95,111,102,95,108,105,110,101]
def Bp:Str:=Bl [102,119,115]
def A0:Str:=Bl [115,116,114,105,110,103]
def MW:Str:=Bl [99,104,97,114,115,101,116]
def Ei:Str:=Bl [112,97,114,116,115]
def OD:Str:=Bl [112,97,114,116]
def KQ:Str:=Bl [99,104]
def VH:Str:=Bl [105]
def CV:Str:=Bl [105,110,105,116,105,97,108,95,115,105,122,101]
def KR:Str:=Bl [115,116,97,114,116,118,97,108]
def CE:Str:=Bl [109,121,99,109,112]
def EV:Str:=Bl [111,98,106]
def DM:Str:=Bl [111,116,104,101,114]
def Bg:Str:=Bl [102,117,110,99,116,105,111,110]
def Bh:Str:=Bl [115,101,113,117,101,110,99,101]
def Bz:Str:=Bl [105,110,105,116,105,97,108]
def Hq:Str:=Bl [105,116]
def Ds:Str:=Bl [118,97,108,117,101]
def EN:Str:=Bl [101,108,101,109,101,110,116]
def HW:Str:=Bl [101,120,112,101,99,116,101,100]
def JT:Str:=Bl [97,99,116,117,97,108]
def xl:Str:=Bl [106]
def PU:Str:=Bl [109,105,115,115,105,110,103]
def Ko:Str:=Bl [117,110,101,120,112,101,99,116,101,100]
def v_e:Str:=Bl [101]
def v_a:Str:=Bl [97]
def LM:Str:=Bl [120]
def Mw:Str:=Bl [121]
def CZ:Str:=Bl [110,117,109,98,101,114,115]
def BA:Str:=Bl [97,116]
def DK:Str:=Bl [99,104,117,110,107,115]
def DC:Str:=Bl [97,104,101,97,100]
def Es:Str:=Bl [119,111,114,100]
def ER:Str:=Bl [119,105,100,116,104]
def Jr:Str:=Bl [109,97,107,101,114]
def aP:Str:=Bl [99,104,117,110,107]
def Er:Str:=Bl [114,111,119,115]
def Cr:Str:=Bl [115,116,97,114,116]
def E_:Str:=Bl [116,111,108,100]
def Xy:Str:=Bl [114,111,119]
def Ej:Str:=Bl [115,105,122,101,115]
def G3:Str:=Bl [114,111,111,109]
def FQ:Str:=Bl [115,116,101,112,115]
def Hr:Str:=Bl [119,97,121]
def Ca:Str:=Bl [111,110,101]
def Dr:Str:=Bl [116,119,111]
def OE:Str:=Bl [112,108,97,99,101,115]
def CJ:Str:=Bl [119,97,121,115]
def QS:Str:=Bl [110,97,109,101,100]
def DX:Str:=Bl [109,101,101,116]
def BD:Str:=Bl [112,108,97,99,101]
def Cb:Str:=Bl [115,99,114,105,112,116]
def QR:Str:=Bl [104,101,97,100]
def Gb:Str:=Bl [115,116,97,114,116,115]
def po:Str:=Bl [100,117,101]
def RB:Str:=Bl [98,101,115,105,100,101]
def fE:Str:=Bl [98,97,114,101]
def UI:Str:=Bl [116,101,120,116,115]
def WN:Str:=Bl [111,116,104,101,114,115]
def Cc:Str:=Bl [116,117,114,110,101,100]
def Eu:Str:=Bl [107,101,121]
def Xw:Str:=Bl [107,101,112,116]
def D6:Str:=Bl [95,109,97,120,108,101,110]
def CM:Str:=Bl [95,99,111,110,116,105,110,117,97,116,105,111,110,95,119,115]
def CI:Str:=Bl [95,99,111,110,116,105,110,117,97,116,105,111,110,95,119,115,95,108,101,110]
def EB:Str:=Bl [95,115,112,108,105,116,99,104,97,114,115]
def Jf:Str:=Bl [95,108,105,110,101,115]
def Fp:Str:=Bl [95,99,117,114,114,101,110,116,95,108,105,110,101]
def EM:Str:=Bl [95,105,110,105,116,105,97,108,95,115,105,122,101]
def HC:Str:=Bl [104,101,97,100,101,114,95,101,110,99,111,100,105,110,103]
noncomputable def wf(w:World)(b1 b2:Bool):World:=
 {w with params:={w.params with followText:=λs=>if s="special-get-raises" then b1 else if s="comprehension-iter-twice" then b2 else w.params.followText s}}
theorem qD(w:World):wf w (w.params.followText "special-get-raises") (w.params.followText "comprehension-iter-twice")=w:=
 congrArg (λg=>({w with params:={w.params with followText:=g}}:World)) (funext λs=>by
  by_cases h:s="special-get-raises"
  ·rw[if_pos h,h]
  ·rw[if_neg h]
   by_cases h:s="comprehension-iter-twice"
   ·rw[if_pos h,h]
   ·rw[if_neg h]:(λs=>if s="special-get-raises" then w.params.followText "special-get-raises" else if s="comprehension-iter-twice" then w.params.followText "comprehension-iter-twice" else w.params.followText s)=w.params.followText)
structure Bx where
 w:World
 b1:Bool
 b2:Bool
 s₁:Af
 SG:F6->Prop
 mu:List Addr
 gn:Af->Prop
def Bx.C(B:Bx):Cx:=⟨wf B.w B.b1 B.b2,pF,B.s₁,GL (wf B.w B.b1 B.b2).params,B.SG,B.mu,B.gn⟩
abbrev Bx.P(B:Bx):Params:=(wf B.w B.b1 B.b2).params
def AA(n:Nat)(A:AL):Prop:=A.handled=none/\A.depth+n<recursionLimit/\A.units+12*n<cLine
def Bj(n:Nat)(A:AL):Prop:=A.depth+n<recursionLimit/\A.units+12*n<cLine
theorem AA.h{n:Nat}{A:AL}(h:AA n A):Bj n A:=h.2
theorem Bj.le{n m:Nat}{A:AL}(h:Bj n A)(q:m<=n):Bj m A:=⟨by have:=h.1;lia,by have:=h.2;lia⟩
theorem Bj.in1{n:Nat}{A:AL}(h:Bj (n+1) A):Bj n A.in1:=⟨by have:=h.1;simp only[Around.in1_depth];lia,by have:=h.2;simp only[Around.in1_units];lia⟩
def kq:Lean.Syntax:=Lean.Unhygienic.run `(Lean.Parser.Tactic.tacticSeq|kernel_rfl)
def kb:Lean.Syntax:=Lean.Unhygienic.run `(Lean.Parser.Tactic.tacticSeq|obtain⟨_,_|_⟩:= ‹Bx› <;>kernel_rfl)
def kl:Lean.Syntax:=Lean.Unhygienic.run `(Lean.Parser.Tactic.tacticSeq|first|decide|lia)
def kw:Lean.Syntax:=Lean.Unhygienic.run `(Lean.Parser.Tactic.tacticSeq|first|exact By 1|exact Am 1|exact By 12|exact(ADm:3<=12))
theorem Bj.l{n m:Nat}{A:AL}(h:Bj n A)(q:autoParam (m<=n) kl):Bj m A:=h.le q
theorem AA.lh{n m:Nat}{A:AL}(h:AA n A)(q:autoParam (m<=n) kl):Bj m A:=h.h.le q
theorem AA.le{n m:Nat}{A:AL}(h:AA n A)(q:m<=n):AA m A:=⟨h.1,by have:=h.2.1;lia,by have:=h.2.2;lia⟩
theorem AA.l{n m:Nat}{A:AL}(h:AA n A)(q:autoParam (m<=n) kl):AA m A:=h.le q
abbrev BW(n:Nat):Ay:=DE n 0
noncomputable abbrev J(x:Nat):Value:=.ref (x+323)
abbrev AS(B:Bx)(A:AL){α:Type}(t:Sem α)(F:AN)(v:α)(XP:AN):Prop:=AC B.C A t F (λYa:Unit=>v) (λYa=>XP)
theorem rn{C:Cx}(O:C.Ok){A:AL}{n:Nat}(U:AA n A){α:Type}{t:Sem α}{L:AN}{X:Type}{res:X->α}{led:X->AN}(sc:D5 C A X)(h:autoParam (H8 C A none res led t sc L) kq):AC C A t L res led:=Ga O U.1 sc h
theorem rb{B:Bx}(O:B.C.Ok){A:AL}{n:Nat}(U:AA n A){α:Type}{t:Sem α}{L:AN}{X:Type}{res:X->α}{led:X->AN}(sc:D5 B.C A X)(h:autoParam (H8 B.C A none res led t sc L) kb):AC B.C A t L res led:=rn O U sc h
theorem Mt{C:Cx}(O:C.Ok){A:AL}{α:Type}{t:Sem α}{L:AN}{X:Type}{res:X->α}{led:X->AN}(sc:D5 C A X)(h:autoParam (H8 C A A.handled res led t sc L) kq):AC C A t L res led:=Ga O rfl sc h
theorem D7{C:Cx}(O:C.Ok){A:AL}{n:Nat}(U:AA n A){x y}{L:AN}{X:Type}{res:X->_}{led:X->AN}(sc:D5 C A X)(h:autoParam (H8 C A none res led (P1 x y) sc L) kq):AC C A (Ac x y) L res led:=by rw[MF];exact rn O U sc h
theorem H_{C:Cx}(O:C.Ok){A:AL}{n:Nat}(U:AA n A){x y}{L:AN}{X:Type}{res:X->_}{led:X->AN}(sc:D5 C A X)(h:autoParam (H8 C A none res led (PE x y) sc L) kq):AC C A (Bf x y) L res led:=by rw[JR];exact rn O U sc h
theorem Ef{C:Cx}(O:C.Ok){A:AL}{n:Nat}(U:AA n A){x y z}{L:AN}{X:Type}{res:X->_}{led:X->AN}(sc:D5 C A X)(h:autoParam (H8 C A none res led (X8 x y z) sc L) kq):AC C A (Bo x y z) L res led:=by rw[X9];exact rn O U sc h
theorem Hc{C:Cx}(O:C.Ok){A:AL}{n:Nat}(U:AA n A){x y}{L:AN}{X:Type}{res:X->_}{led:X->AN}(sc:D5 C A X)(h:autoParam (H8 C A none res led (Pp x y) sc L) kq):AC C A (AU x y) L res led:=by rw[O7];exact rn O U sc h
theorem Q6{C:Cx}(O:C.Ok){A:AL}{n:Nat}(U:AA n A){x y}{L:AN}{X:Type}{res:X->_}{led:X->AN}(sc:D5 C A X)(h:autoParam (H8 C A none res led (isTrue x y (PE x y)) sc L) kq):AC C A (isTrue x y (Bf x y)) L res led:=by rw[JR];exact rn O U sc h
theorem xW{C:Cx}(O:C.Ok){A:AL}{n:Nat}(U:AA n A){x}{L:AN}{X:Type}{res:X->_}{led:X->AN}(sc:D5 C A X)(h:autoParam (H8 C A none res led (Z0 x) sc L) kq):AC C A (Mh x) L res led:=by rw[Z1];exact rn O U sc h
theorem xV{C:Cx}(O:C.Ok){A:AL}{n:Nat}(U:AA n A){x y z}{L:AN}{X:Type}{res:X->_}{led:X->AN}(sc:D5 C A X)(h:autoParam (H8 C A none res led (Rc x y z) sc L) kq):AC C A (LX x y z) L res led:=by rw[TU];exact rn O U sc h
theorem xU{C:Cx}(O:C.Ok){A:AL}{n:Nat}(U:AA n A){x y z u v}{L:AN}{X:Type}{res:X->_}{led:X->AN}(sc:D5 C A X)(h:autoParam (H8 C A none res led (Sj x y z u v) sc L) kq):AC C A (LW x y z u v) L res led:=by rw[Uk];exact rn O U sc h
theorem Ix{B:Bx}(O:B.C.Ok){A:AL}{n:Nat}(U:AA n A){x y}{L:AN}{X:Type}{res:X->_}{led:X->AN}(sc:D5 B.C A X)(h:autoParam (H8 B.C A none res led (P1 x y) sc L) kb):AC B.C A (Ac x y) L res led:=by rw[MF];exact rn O U sc h
theorem Jj{B:Bx}(O:B.C.Ok){A:AL}{n:Nat}(U:AA n A){x y}{L:AN}{X:Type}{res:X->_}{led:X->AN}(sc:D5 B.C A X)(h:autoParam (H8 B.C A none res led (PE x y) sc L) kb):AC B.C A (Bf x y) L res led:=by rw[JR];exact rn O U sc h
theorem Xk{B:Bx}(O:B.C.Ok){A:AL}{n:Nat}(U:AA n A){x y}{L:AN}{X:Type}{res:X->_}{led:X->AN}(sc:D5 B.C A X)(h:autoParam (H8 B.C A none res led (isTrue x y (PE x y)) sc L) kb):AC B.C A (isTrue x y (Bf x y)) L res led:=by rw[JR];exact rn O U sc h
theorem dr{B:Bx}(O:B.C.Ok){A:AL}{n:Nat}(U:AA n A){x}{L:AN}{X:Type}{res:X->_}{led:X->AN}(sc:D5 B.C A X)(h:autoParam (H8 B.C A none res led (Z2 x) sc L) kb):AC B.C A (FK x) L res led:=by rw[Z3];exact rn O U sc h
theorem oX{B:Bx}(O:B.C.Ok){A:AL}{n:Nat}(U:AA n A){x y}{L:AN}{X:Type}{res:X->_}{led:X->AN}(sc:D5 B.C A X)(h:autoParam (H8 B.C A none res led (Pp x y) sc L) kb):AC B.C A (AU x y) L res led:=by rw[O7];exact rn O U sc h
theorem rbb{B:Bx}(O:B.C.Ok){A:AL}{n:Nat}(U:AA n A){x y z}{L:AN}{X:Type}{res:X->_}{led:X->AN}(sc:D5 B.C A X)(h:autoParam (H8 B.C A none res led (Sf x y z) sc L) kb):AC B.C A (binaryOp x y z) L res led:=by rw[Ub];exact rn O U sc h
theorem Z7{C:Cx}(O:C.Ok){A:AL}{x y}{L:AN}{X:Type}{res:X->_}{led:X->AN}(sc:D5 C A X)(h:autoParam (H8 C A A.handled res led (Pp x y) sc L) kq):AC C A (AU x y) L res led:=by rw[O7];exact Mt O sc h
theorem AAN{C:Cx}(O:C.Ok){A:AL}{x y}{L:AN}{X:Type}{res:X->_}{led:X->AN}(sc:D5 C A X)(h:autoParam (H8 C A A.handled res led (P1 x y) sc L) kq):AC C A (Ac x y) L res led:=by rw[MF];exact Mt O sc h
theorem Xm{C:Cx}(O:C.Ok){A:AL}{n:Nat}(U:AA n A){x y}{L:AN}{X:Type}{res:X->_}{led:X->AN}(sc:D5 C A X)(h:autoParam (H8 C A none res led (Tp x y) sc L) kq):AC C A (Fx x y) L res led:=by rw[U8];exact rn O U sc h
theorem AA.in1{n:Nat}{A:AL}(h:AA (n+1) A):AA n A.in1:=⟨h.1,by have:=h.2.1;simp only[Around.in1_depth];lia,by have:=h.2.2;simp only[Around.in1_units];lia⟩
theorem AA.deeper{n:Nat}{A:AL}{env:Env}(h:AA (n+1) A):AA n (A.deeper env):=
 ⟨h.1,by have:=h.2.1;show A.depth+1+n<_;lia,by have:=h.2.2;show A.units+3+_<_;lia⟩
section
variable{C:Cx}{A:AL}{F L:AN}{X:Type}
theorem AC.weaken{α:Type}{t:Sem α}{res:X->α}{led:X->AN}(h:AC C A t F res led){Y:Type}{D0:Y->α}{Cy:Y->AN}
 (f: ∀x,∃y,res x=D0 y/\ ∀R s,St C (led x++R) s->St C (Cy y++R) s):AC C A t F D0 Cy:=λR s S=>
 Av (h R s S) (λa s' ⟨x,e,S'⟩=>let⟨y,e',g⟩:=f x;⟨y,e.trans e',g R s' S'⟩) λYa Ya h=>h
theorem AC.bind{α β:Type}{t:Sem α}{k:α->Sem β}{res:X->α}{led:X->AN}{Y:Type}{D0:Y->β}{Cy:Y->AN}(h:AC C A t F res led)
 (g: ∀x,AC C A (k (res x)) (led x) D0 Cy):AC C A (t>>=k) F D0 Cy:=λR s S=>
 AB (Av (h R s S) (λYa s' ⟨x,e,S'⟩=>by subst e;exact g x R s' S') λYa Ya h=>h)
theorem BF{id:String}{b:KU}{args:LN}{val:X->Value}{led:X->AN}(hp:H4 id=true)(hb:C1 FZ id=some b)
 (hc:AC C A.in1 (AU id args) F (λYa:Unit=>()) (λYa=>F))
 (h:AC C A.in1 (b args) F (λx=>.done (.ret (val x))) led):Bv C A (.call (.builtin id) args) F (λx=>.ok (.ret (val x))) led:=
 Bu λR s S=>EJ hp hb (Av (hc R s S) (λYa s₁ ⟨_,_,S₁⟩=>AC.wp h S₁ λx s₂ S₂=>⟨x,rfl,S₂⟩) λYa Ya q=>q.elim)
end
def dw:OU->Value
 |.ret v=>v
 |_=>.none
section
variable{C:Cx}{A:AL}{F L:AN}{X:Type}
theorem BK{body:Dx}{env:Env}{fl:X->OU}{led:X->AN}(h:AC C (A.deeper env) (Ac body env) L fl led)(R:AN)(s:Af)(S:St C (L++R) s):
 Kc C.M A (.func body env) (λr s'=> ∃x,r=.ok (.ret (dw (fl x)))/\St C (led x++R) s') s:=by
 refine codeAny_func (Av (h R s S) (λf s' hx=>?_) λYa Ya q=>q.elim);obtain⟨x,rfl,S'⟩:=hx;exact⟨x,rfl,S'⟩
theorem St.top{B:Bx}{L:AN}{s:Af}(O:B.C.Ok)(S:St B.C L s){a:Addr}{o:Obj}(h:GL B.P a=some o):s.heap.get? a=some o:=
 let q:=O.top a o h;S.old a o q.1 q.2
def ea:Value->Bool
 |.str .. =>true
 |_=>false
noncomputable def LL:DJ->Bool
 |[]=>true
 |e::r=>ea e.key&&LL r
theorem rO{v:Value}(h:ea v=true): ∃n t,v=.str n t:=by
 cases v with
 |str n t=>exact⟨n,t,rfl⟩
 |_=>exact(BP h).elim
theorem MT{l:DJ}(h:LL l=true): ∀e∈l,∃n t,e.key=.str n t:=by
 induction l with
 |nil=>exact λe he=>nomatch he
 |cons a r ih=>
  have h:=Bool.and_eq_true_iff.mp h;exact λe he=>(List.mem_cons.mp he).elim (λq=>q▸rO h.1) (ih h.2 e)
theorem St.noLimit{B:Bx}{L:AN}{s:Af}(O:B.C.Ok)(S:St B.C L s):s.heap.NoLimit:=by
 obtain⟨es,n,ho,hk,hf⟩: ∃es n,GL B.P 2=some ⟨.none,none,.dict ⟨es⟩ n,⟨[]⟩⟩/\LL es=true/\(es.find? λe=>e.key.isStr "sys.recursionlimit")=none:=
  ⟨_,_,(show KP B.P 2=some (z3 B.P) from rfl).trans rfl,by kernel_rfl,by kernel_rfl⟩
 refine⟨λx=>Nz ⟨es⟩ x,⟨_,⟨es⟩,n,S.top O ho,rfl,λe he=>MT hk e (by simpa using he),λYa=>rfl⟩,?_⟩
 show findBy _ _ _=none;unfold findBy;rw[List.find?_toArray,hf];rfl
end
def yk:Data->Option Bs|.fields v=>some v|_=>none
def rfV:Value->Option Addr|.ref a=>some a|_=>none
def stV:Value->Option Str|.str q _=>some q|_=>none
def stB:FuncBody->Bool|.stmts _=>true|_=>false
def Vg(P:Params)(f:Addr):Bool:=((GL P f).bind λo=>(qp o.data).bind λfd=>(rfV fd.code).bind λc=>(GL P c).bind λoc=>(yk oc.data).bind λvs=>(vs[1]?).bind λv=>(stV v).map λq=>
 PySem.W.Fast.sEq q fd.qualname&& !fd.scope.isCoroutine&& !fd.scope.isGenerator&&stB fd.body).getD false
theorem cz{x:Option Bool}(h:x.getD false=true):x=some true:=by cases x with|none=>cases h|some b=>exact congrArg some h
theorem qq{d:Data}{f:FuncData}(h:qp d=some f):d=.func f:=by cases d with|func g=>exact congrArg Data.func (DZ h)|_=>exact n4 h
theorem qs{d:Data}{f:Bs}(h:yk d=some f):d=.fields f:=by cases d with|fields g=>exact congrArg Data.fields (DZ h)|_=>exact n4 h
theorem sE{d:Value}{f:Addr}(h:rfV d=some f):d=.ref f:=by cases d with|ref g=>exact congrArg CC (DZ h)|_=>exact n4 h
theorem sM{d:Value}{f:Str}(h:stV d=some f): ∃t,d=.str f t:=by cases d with|str g t=>exact⟨t,congrArg (Co · t) (DZ h)⟩|_=>exact n4 h
theorem lz{P:Params}{f:Addr}{Q:Prop}(h:Vg P f=true)(k: ∀o fd c oc vs q t,GL P f=some o->o.data=.func fd->fd.code=.ref c->GL P c=some oc->oc.data=.fields vs->vs[1]? =some (.str q t)->q=fd.qualname->fd.scope.isCoroutine=false->fd.scope.isGenerator=false->stB fd.body=true->Q):Q:=by
 obtain⟨o,ho,h⟩:=Option.bind_eq_some_iff.mp (cz h);obtain⟨fd,uu,h⟩:=Option.bind_eq_some_iff.mp h;obtain⟨c,hc,h⟩:=Option.bind_eq_some_iff.mp h;obtain⟨oc,ma,h⟩:=Option.bind_eq_some_iff.mp h;obtain⟨vs,dO,h⟩:=Option.bind_eq_some_iff.mp h;obtain⟨v,hv,h⟩:=Option.bind_eq_some_iff.mp h;obtain⟨q,hq,hb⟩:=Option.map_eq_some_iff.mp h;obtain⟨t,rfl⟩:=sM hq;obtain⟨h6,h4⟩:=Bool.and_eq_true_iff.mp hb;obtain⟨h5,h3⟩:=Bool.and_eq_true_iff.mp h6;obtain⟨h1,h2⟩:=Bool.and_eq_true_iff.mp h5;exact k o fd c oc vs q t ho (qq uu) (sE hc) ma (qs dO) hv (PySem.W.Fast.sEq_iff.mp h1) (KS _|>.mp h2) (KS _|>.mp h3) h4
theorem Vh{B:Bx}(O:B.C.Ok){f:Addr}(h:Vg B.P f=true): ∃o,(∀L s,St B.C L s->s.heap.get? f=some o)/\o.data=.func (D4 B.P f)/\(∀L s,St B.C L s->s.heap.CodeRec (D4 B.P f).code (D4 B.P f).qualname)/\
 (D4 B.P f).scope.isCoroutine=false/\(D4 B.P f).scope.isGenerator=false/\(D4 B.P f).body=.stmts (A4 B.P f):=lz h λo fd c oc vs q t ho hd hc ma dO hv hq h2 h3 h4=>by
 have hf:D4 B.P f=fd:=by unfold D4 sy;rw[ho];show(qp o.data).getD Au=fd;rw[hd];rfl
 unfold A4;rw[hf];refine⟨o,λL s S=>S.top O ho,hd,λL s S=>⟨c,oc,vs,t,hc,S.top O ma,dO,hq▸hv⟩,h2,h3,?_⟩;cases hb:fd.body with
 |stmts b=>rfl
 |expr e=>rw[hb] at h4;exact(BP h4).elim
def AT(C:Cx)(A:AL)(c:Code)(F:AN){X:Type}(res:X->Result)(led:X->AN):Prop:= ∀R s,St C (F++R) s->Kc C.M A c (λr s'=> ∃x,r=res x/\St C (led x++R) s') s
theorem AT.call{C:Cx}{A:AL}{c:Code}{F:AN}{X:Type}{res:X->Result}{led:X->AN}(h:AT C A c F res led):Bv C A c F res led:=Bu h
theorem Pq{B:Bx}(O:B.C.Ok){A:AL}{n:Nat}(U:AA (n+1) A){f:Addr}(hf:Vg B.P f=true){args:LN}{F:AN}{binds:BC}
 (h1:AC B.C A.in1 (Dc (D4 B.P f) args) F (λYa:Unit=>binds) (λYa=>F)) {Y:Type} {env:Y->Env} {NT:Y->AN}
 (h2:AC B.C A.in1 (FP (D4 B.P f).scope (D4 B.P f).globals (D4 B.P f).closure binds ((D4 B.P f).qualname++".<locals>.") (some f) (D4 B.P f).code none (D4 B.P f).builtins) F env NT)
 {X:Type} {val:X->Value} {led:X->AN}
 (hb: ∀y R s,St B.C (NT y++R) s->Kc B.C.M A (.func (A4 B.P f) (env y)) (λr s'=> ∃x,r=.ok (.ret (val x))/\St B.C (led x++R) s') s):
 AT B.C A (.call (.ref f) args) F (λx=>.ok (.ret (val x))) led:=λR s S=>by
 obtain⟨o,ho,hd,iH,XQ,Zh,TW⟩:=Vh O hf;refine M3 (fd:=D4 B.P f) (body:=A4 B.P f) (by have:=U.2.1;lia) (ho _ _ S) hd XQ Zh TW (iH _ _ S) ?_
 rw[Ki,NW];refine AC.wp h1 S λYa s₁ S₁=>?_;refine AC.wp h2 S₁ λy s₂ S₂=>?_;exact⟨S₂.noLimit O,hb y R s₂ S₂⟩
theorem Dm{B:Bx}(O:B.C.Ok){A:AL}{n:Nat}(U:AA (n+1) A){f:Addr}(hf:Vg B.P f=true){args:LN}{F:AN}{binds:BC}
 (h1:AC B.C A.in1 (Dc (D4 B.P f) args) F (λYa:Unit=>binds) (λYa=>F)) {Y:Type} {env:Y->Env} {NT:Y->AN}
 (h2:AC B.C A.in1 (FP (D4 B.P f).scope (D4 B.P f).globals (D4 B.P f).closure binds ((D4 B.P f).qualname++".<locals>.") (some f) (D4 B.P f).code none (D4 B.P f).builtins) F env NT)
 {X:Type} {val:X->Value} {led:X->AN}
 (hb: ∀y R s,St B.C (NT y++R) s->Kc B.C.M A (.func (A4 B.P f) (env y)) (λr s'=> ∃x,r=.ok (.ret (val x))/\St B.C (led x++R) s') s):
 Bv B.C A (.call (.ref f) args) F (λx=>.ok (.ret (val x))) led:=(Pq O U hf h1 h2 hb).call
def BM(c:Code):Sem PySem.Fin:=ZK pZ c
theorem E4(C:Cx)(c:Code):C.M.den c=BM c:=by
 show denote FZ c=_;rw[table_eq_tree,ZL,jo];rfl
section
variable{C:Cx}{A:AL}{F:AN}{X:Type}
theorem AT.Tc{c c':Code}{res:X->Result}{led:X->AN}(h1:AC C (A.under c) (BM c) F (λYa:Unit=>G8 c') (λYa=>F))(hq:c'.quiet=true)(h2:AT C A c' F res led):AT C A c F res led:=λR s S=>by
 refine BL ?_;rw[E4 C];refine AC.wp h1 S λYa s₁ S₁=>?_;exact⟨hq,h2 R s₁ S₁⟩
theorem AT.NM{c:Code}{Y:Type}{c':Y->Code}{ledY:Y->AN}{res:X->Result}{led:X->AN}(h1:AC C (A.under c) (BM c) F (λy:Y=>G8 (c' y)) ledY)(hq: ∀y,(c' y).quiet=true)
 (h2: ∀y,AT C A (c' y) (ledY y) res led):AT C A c F res led:=λR s S=>by
 refine BL ?_;rw[E4 C];refine AC.wp h1 S λy s₁ S₁=>?_;exact⟨hq y,h2 y R s₁ S₁⟩
theorem HA{id:String}{args:LN}{val:X->Value}{led:X->AN}(hp:H4 id=true)
 (hc:AC C A.in1 (AU id args) F (λYa:Unit=>()) (λYa=>F))
 (h:AC C A.in1 (BM (.builtin id args)) F (λx=>.done (.ret (val x))) led):Bv C A (.call (.builtin id) args) F (λx=>.ok (.ret (val x))) led:=
 Bu λR s S=>Ew (DH hp args) (by
  refine AC.wp hc S λYa s₁ S₁=>?_;refine BL ?_;rw[BX hp args,E4 C];exact AC.wp h S₁ λx s₂ S₂=>⟨x,rfl,S₂⟩)
theorem F9{id:String}{args:LN}{val:X->Value}{led:X->AN}(hp:H4 id=true)
 (h:AC C A.in1 (BM (.builtin id args)) F (λx=>.done (.ret (val x))) led):Bv C A (.builtin id args) F (λx=>.ok (.ret (val x))) led:=
 Bu λR s S=>by
  refine BL ?_;rw[BX hp args,E4 C];exact AC.wp h S λx s₂ S₂=>⟨x,rfl,S₂⟩
end
abbrev Pk(B:Bx)(f:Addr)(as:Ak):Sem BC:=Dc (D4 B.P f) ⟨as,[]⟩
abbrev OO(B:Bx)(f:Addr)(b:BC):Sem Env:=FP (D4 B.P f).scope (D4 B.P f).globals (D4 B.P f).closure b ((D4 B.P f).qualname++".<locals>.") (some f) (D4 B.P f).code none (D4 B.P f).builtins
def frs{C:Cx}{A:AL}{X:Type}(k:Nat)(r:D5 C A X):D5 C A X:=Nat.rec r (λYa ih=>.fr λYa=>.g 6145 ih) k
theorem AC.frame{C:Cx}{A:AL}{α:Type}{t:Sem α}{F:AN}{X:Type}{res:X->α}{led:X->AN}(h:AC C A t F res led)(G:AN):AC C A t (F++G) res (λx=>led x++G):=λR s S=>by
 have:=h (G++R) s (by rw[<-AG];exact S)
 exact Av this (λa s' ⟨x,e,S'⟩=>⟨x,e,by rw[AG];exact S'⟩) λYa Ya q=>q
theorem EU{B:Bx}(O:B.C.Ok){A:AL}{n:Nat}(U:AA (n+1) A){f:Addr}{as:Ak}{F:AN}(al:BC){X:Type}{val:X->Value}{led:X->AN}
 (hb: ∀(L:Nat) R s,St B.C (([.one (L+323) (.ns (.type "frame") al)]++F)++R) s->Kc B.C.M A (.func (A4 B.P f) (AR B.P f [] (L+323))) (λr s'=> ∃x,r=.ok (.ret (val x))/\St B.C (led x++R) s') s) (sb:D5 B.C A.in1 Unit:=.fi () [])
 (hf:autoParam (Vg B.P f=true) kq) (h1:autoParam (H8 B.C A.in1 none (λYa:Unit=>al) (λYa=>[]) (Pk B f as) sb []) kq)
 (h2:autoParam (H8 B.C A.in1 none (λa:Nat=>AR B.P f [] (a+323)) (λa=>[.one (a+323) (.ns (.type "frame") al)]) (OO B f al) (.al λa=>frs al.length (.fi a [0])) []) kq):
 Bv B.C A (.call (.ref f) ⟨as,[]⟩) F (λx=>.ok (.ret (val x))) led:=
 Dm O U hf ((rn O U.in1 sb h1).frame F) (λR s S=>(rn O U.in1 _ h2).frame F R s S) hb
noncomputable def DN{B:Bx}{A:AL}(O:B.C.Ok){n:Nat}(U:AA (n+1) A)(id:String)(as:Ak)(F:AN){X:Type}(val:X->Value)(led:X->AN)(s1:AA n A.in1->D5 B.C A.in1 Unit)(s2:AA n A.in1->D5 B.C A.in1 X)
 (hp:H4 id=true:=by decide+kernel) (h1:autoParam (H8 B.C A.in1 none (λYa:Unit=>()) (λYa=>F) (Pp id ⟨as,[]⟩) (s1 U.in1) F) kq)
 (h2:autoParam (H8 B.C A.in1 none (λx=>Az (.ret (val x))) led (BM (.builtin id ⟨as,[]⟩)) (s2 U.in1) F) kq):Ag B.C A:=
 ⟨.call (.builtin id) ⟨as,[]⟩,F,X,λx=>.ok (.ret (val x)),led,HA hp (Hc O U.in1 _ h1) (rn O U.in1 _ h2)⟩
section
variable{B:Bx}{A:AL}(O:B.C.Ok)
theorem RY:C1 FZ "list.append"=some Builtin.«list.append»:=B2 ADk
noncomputable abbrev AY(x dx:Nat)(xs:Ak):Bi:=.one (x+323) (.ls (.ref 200) (some (dx+323)) xs)
noncomputable abbrev AV(a:Nat)(xs:Ak):Bi:=.one (a+323) (.ls (.type "tuple") none xs)
abbrev A3(dx:Nat)(n:Value):Bi:=.one (dx+323) (.ns (.type "dict") [(EM,n)])
noncomputable abbrev AI(a:Nat)(l:BC):Bi:=.one (a+323) (.ns (.type "frame") l)
section
variable{C:Cx}{A:AL}
theorem Pm{l:Addr}{c:Value}{d:Option Addr}{xs:Ak}{v:Value}(hx:xs.length<=1000):
 AC C A (Builtin.«list.append» ⟨[.ref l,v],[]⟩) [.one l (.ls c d xs)] (λYa:Unit=>.done (.ret .none)) (λYa=>[.one l (.ls c d (xs++[v]))]):=by
 intro R s S;obtain⟨g,ho⟩:=S.Dj;show BN _ _ (updateSeq l (·.push v)>>=λYa=>ret .none) _ _ s;refine AB (G9 ho rfl (AP ⟨(),rfl,?_⟩) ?_)
 ·have S':=S.No (t:=s.toks) (B1 ..) (CO (Mc (·.push v)) ho ?_) (ao':=.ls c d (xs++[v])) ?_
  ·exact S'
  ·rfl
  ·refine⟨⟨g.hs,g.ks,g.ep+1,g.sl⟩,?_⟩
   simp[Mc,AO.obj]
 ·exact AK (show xs.length<=1000 from hx) ADm
end
include O
theorem Wj(U:AA 1 A)(x dx:Nat)(v:Value)(xs:Ak):
 AS B A (AU "list.append" ⟨[J x,v],[]⟩) [AY x dx xs] () [AY x dx xs]:=
 by apply Hc O U (.g 4097<|.fi () [0])
def Wp(U:AA 2 A)(x dx:Nat)(v:Value)(xs:Ak)(hx:xs.length<=1000):Ag B.C A where
 c:=.call (.builtin "list.append") ⟨[J x,v],[]⟩
 F:=[AY x dx xs]
 X:=Unit
 res:=λYa=>.ok (.ret .none)
 led:=λYa=>[AY x dx (xs++[v])]
 ok:=BF ADl RY (Wj O U.in1 x dx v xs) (Pm hx)
theorem aq(U:AA 1 A)(x dx:Nat)(IN st:Str)(t1 t2:Nat)(xs:Ak)(n:Value):
 AS B A (Pk B 144 [J x,.str IN t1,.str st t2]) [AY x dx xs,A3 dx n] (([(AM,J x),(Bp,.str IN t1),(A0,.str st t2)]:BC)) [AY x dx xs,A3 dx n]:=
 rn O U (.fi () [0,0])
theorem ZV(U:AA 1 A)(x dx:Nat)(IN st:Str)(t1 t2:Nat)(xs:Ak)(n:Value):
 AC B.C A (OO B 144 [(AM,J x),(Bp,.str IN t1),(A0,.str st t2)]) [AY x dx xs,A3 dx n]
  (λa0:Nat=>AR B.P 144 [] (a0+323))
  (λa0=>[AI a0 [(AM,J x),(Bp,.str IN t1),(A0,.str st t2)],AY x dx xs,A3 dx n]):=
 rn O U (.al λa0=>.fr λk1=>.g 6145<|.fr λk2=>.g 6145<|.fr λk3=>.g 6145<|.fi (a0) [0,0,0])
theorem bJ(U:AA 3 A)(L x dx:Nat)(IN st:Str)(t1 t2:Nat)(xs:Ak)(n:Value)(hx:xs.length<=1000):
 AC B.C A (Ac (A4 B.P 144) (AR B.P 144 [] (L+323))) [AI L [(AM,J x),(Bp,.str IN t1),(A0,.str st t2)],AY x dx xs,A3 dx n]
  (λa:Nat=>.next)
  (λa=>[AY x dx (xs++[J a]),A3 dx n,AV a [.str IN t1,.str st t2]]):=
 D7 O U (.g 5151127136368754662169395593345<|.al λa0=>.cc (Wp O U.l x dx (J a0) xs hx) [2] λYa=>.fi (a0) [0,2,0])
omit O
theorem Sr{B:Bx}{A:AL}(O:B.C.Ok)(U:AA 5 A)(x dx:Nat)(IN st:Str)(t1 t2:Nat)(xs:Ak)(n:Value)(hx:xs.length<=1000):
 AT B.C A (.call (.ref 144) ⟨[J x,.str IN t1,.str st t2],[]⟩) [AY x dx xs,A3 dx n] (λa:Nat=>.ok (.ret .none)) (λa=>[AY x dx (xs++[J a]),A3 dx n,AV a [.str IN t1,.str st t2]]):=
 Pq O (n:=4) U ADk (aq O U.l.in1 x dx IN st t1 t2 xs n) (ZV O U.l.in1 x dx IN st t1 t2 xs n)
  (λa=>BK (bJ O U.l.deeper a x dx IN st t1 t2 xs n hx))
include O
def Qq(U:AA 5 A)(x dx:Nat)(IN st:Str)(t1 t2:Nat)(xs:Ak)(n:Value)(hx:xs.length<=1000):Ag B.C A where
 c:=.call (.ref 144) ⟨[J x,.str IN t1,.str st t2],[]⟩
 F:=[AY x dx xs,A3 dx n]
 X:=Nat
 res:=λa=>.ok (.ret .none)
 led:=λa=>[AY x dx (xs++[J a]),A3 dx n,AV a [.str IN t1,.str st t2]]
 ok:=(Sr O U x dx IN st t1 t2 xs n hx).call
noncomputable def Ag.re{C:Cx}{A:AL}(K:Ag C A){X':Type}(D0:X'->Result)(Cy:X'->AN)(f:K.X->X')(h: ∀x,K.res x=D0 (f x))(hl: ∀x,K.led x=Cy (f x)):Ag C A where
 c:=K.c
 F:=K.F
 X:=X'
 res:=D0
 led:=Cy
 ok:=AC.weaken K.ok λx=>⟨f x,h x,λR s S=>by rw[<-hl x];exact S⟩
def Kx(U:AA 3 A)(i j:Int)(t u:Nat):Ag B.C A:=
 DN O U "int.__eq__" [.int i t,.int j u] [] (λYa:Unit=>.bool (i==j)) (λYa=>[]) (λU=>.fi () []) λU=>.fi () []
def Yo(U:AA 3 A)(i j:Int)(t u:Nat):Ag B.C A:=
 DN O U "int.__gt__" [.int i t,.int j u] [] (λYa:Unit=>.bool (decide (i>j))) (λYa=>[]) (λU=>.fi () []) λU=>.fi () []
def Yq(U:AA 3 A)(i j:Int)(t u:Nat):Ag B.C A:=
 DN O U "int.__lt__" [.int i t,.int j u] [] (λYa:Unit=>.bool (decide (i<j))) (λYa=>[]) (λU=>.fi () []) λU=>.fi () []
def Yp(U:AA 3 A)(i j:Int)(t u:Nat):Ag B.C A:=
 DN O U "int.__le__" [.int i t,.int j u] [] (λYa:Unit=>.bool (decide (i<=j))) (λYa=>[]) (λU=>.fi () []) λU=>.fi () []
def Qp(U:AA 3 A)(i j:Int)(t u:Nat):Ag B.C A:=
 DN O U "int.__sub__" [.int i t,.int j u] [] (λk:Nat=>.int (i-j) k) (λk=>[]) (λU=>.fi () []) λU=>.fr λk0=>.fi (k0) []
def VV(U:AA 3 A)(i j:Int)(t u:Nat):Ag B.C A:=
 DN O U "int.__add__" [.int i t,.int j u] [] (λk:Nat=>.int (i+j) k) (λk=>[]) (λU=>.fi () []) λU=>.fr λk0=>.fi (k0) []
def Uw(U:AA 3 A)(i:Str)(t:Nat):Ag B.C A:=
 DN O U "str.isspace" [.str i t] [] (λYa:Unit=>.bool (decide (i.length>0)&&i.cps.all Cg)) (λYa=>[]) (λU=>.fi () []) λU=>.fi () []
def gq(U:AA 3 A)(i:Str)(t:Nat):Ag B.C A:=
 DN O U "str.__len__" [.str i t] [] (λk:Nat=>.int (i.length:Int) k) (λk=>[]) (λU=>.fi () []) λU=>.fr λk0=>.fi (k0) []
omit O
section
variable(B:Bx)(A:AL)(O:B.C.Ok)(U:AA 3 A)
def gM(i j:Int)(t u:Nat)(h:i=j):Ag B.C A:=(Kx O U i j t u).re (λYa:Unit=>.ok (.ret (.bool true))) (λYa=>[]) (λYa=>()) (λYa=>by subst h;show(Cs (B6 (.bool (i==i))):Result)=_;simp) (λYa=>rfl)
def gL(i j:Int)(t u:Nat)(h:i≠j):Ag B.C A:=(Kx O U i j t u).re (λYa:Unit=>.ok (.ret (.bool false))) (λYa=>[]) (λYa=>()) (λYa=>by show(Cs (B6 (.bool (i==j))):Result)=_;rw[beq_eq_false_iff_ne.mpr h]) (λYa=>rfl)
def Ky(i j:Int)(t u:Nat)(h:i>j):Ag B.C A:=(Yo O U i j t u).re (λYa:Unit=>.ok (.ret (.bool true))) (λYa=>[]) (λYa=>()) (λYa=>by show(Cs (B6 (.bool (decide (i>j)))):Result)=_;rw[decide_eq_true h]) (λYa=>rfl)
def Qo(i j:Int)(t u:Nat)(h: ¬i>j):Ag B.C A:=(Yo O U i j t u).re (λYa:Unit=>.ok (.ret (.bool false))) (λYa=>[]) (λYa=>()) (λYa=>by show(Cs (B6 (.bool (decide (i>j)))):Result)=_;rw[decide_eq_false h]) (λYa=>rfl)
def IJ(i j:Int)(t u:Nat)(h:i<j):Ag B.C A:=(Yq O U i j t u).re (λYa:Unit=>.ok (.ret (.bool true))) (λYa=>[]) (λYa=>()) (λYa=>by show(Cs (B6 (.bool (decide (i<j)))):Result)=_;rw[decide_eq_true h]) (λYa=>rfl)
def II(i j:Int)(t u:Nat)(h: ¬i<j):Ag B.C A:=(Yq O U i j t u).re (λYa:Unit=>.ok (.ret (.bool false))) (λYa=>[]) (λYa=>()) (λYa=>by show(Cs (B6 (.bool (decide (i<j)))):Result)=_;rw[decide_eq_false h]) (λYa=>rfl)
def gO(i j:Int)(t u:Nat)(h:i<=j):Ag B.C A:=(Yp O U i j t u).re (λYa:Unit=>.ok (.ret (.bool true))) (λYa=>[]) (λYa=>()) (λYa=>by show(Cs (B6 (.bool (decide (i<=j)))):Result)=_;rw[decide_eq_true h]) (λYa=>rfl)
def gN(i j:Int)(t u:Nat)(h: ¬i<=j):Ag B.C A:=(Yp O U i j t u).re (λYa:Unit=>.ok (.ret (.bool false))) (λYa=>[]) (λYa=>()) (λYa=>by show(Cs (B6 (.bool (decide (i<=j)))):Result)=_;rw[decide_eq_false h]) (λYa=>rfl)
def gr(i:Str)(t:Nat)(h:(decide (i.length>0)&&i.cps.all Cg)=false):Ag B.C A:=(Uw O U i t).re (λYa:Unit=>.ok (.ret (.bool false))) (λYa=>[]) (λYa=>()) (λYa=>by show(Cs (B6 (.bool (decide (i.length>0)&&i.cps.all Cg))):Result)=_;rw[h]) (λYa=>rfl)
def GA(a b t u:Nat):Ag B.C A:=(VV O U (a:Int) (b:Int) t u).re (λk:Nat=>.ok (.ret (.int ((a+b:Nat):Int) k))) (λYa=>[]) (λk=>k) (λk=>by show(Cs (B6 (.int ((a:Int)+(b:Int)) k)):Result)=_;rw[Int.natCast_add]) (λYa=>rfl)
def F_(a t u:Nat):Ag B.C A:=(VV O U (a:Int) 1 t u).re (λk:Nat=>.ok (.ret (.int ((a+1:Nat):Int) k))) (λYa=>[]) (λk=>k) (λk=>rfl) (λYa=>rfl)
def bh(a t u:Nat):Ag B.C A:=(Qp O U ((a+1:Nat):Int) 1 t u).re (λk:Nat=>.ok (.ret (.int (a:Int) k))) (λYa=>[]) (λk=>k) (λk=>by show(Cs (B6 (.int (((a+1:Nat):Int)-1) k)):Result)=_;rw[show((a+1:Nat):Int)-1=(a:Int) by lia]) (λYa=>rfl)
end
noncomputable abbrev AE(x:Nat)(xs:Ak):Bi:=.one (x+323) (.ls (.type "list") none xs)
noncomputable abbrev F8(a:Nat)(u v:Value):Bi:=.one (a+323) (.ex ⟨.type "slice",none,.fields ⟨[u,v,.none]⟩,⟨[]⟩⟩)
section
variable{C:Cx}{A:AL}
theorem DV{s:Af}{L:AN}{a:Addr}{o:Obj}(S:St C (.one a (.ex o)::L) s):s.heap.get? a=some o:=by
 obtain⟨g,h⟩:=S.Dj;exact h
theorem St.swap{s:Af}{L:AN}{e f:Bi}(S:St C (e::f::L) s):St C (f::e::L) s:=S.perm (Ae f e L)
theorem St.size_eq(O:C.Ok){s:Af}{L:AN}(S:St C L s):s.heap.objs.size=(s.heap.objs.size-323)+323:=by
 have:=S.size;have:=O.size;lia
theorem Kj{l:Addr}{c:Value}{d:Option Addr}{xs:Ak}{k:Int}{t:Nat}{v:Value}(h0:0<=k)(hk:k<2^63)(hx:xs[k.toNat]? =some v):
 AC C A (Builtin.«list.__getitem__» ⟨[.ref l,.int k t],[]⟩) [.one l (.ls c d xs)] (λYa:Unit=>.done (.ret v)) (λYa=>[.one l (.ls c d xs)]):=by
 intro R s S;obtain⟨g,ho⟩:=S.Dj;have Qz:(⟨xs⟩:Bs)[k.toNat]? =some v:=by simpa using hx
 show BN _ _ (Bb (.int k t)>>=_) _ _ s;refine AB (HZ (fitsIndex_of h0 hk) ?_)
 clear hk
 obtain⟨j,rfl⟩:=Int.eq_ofNat_of_zero_le h0;have Qz:(⟨xs⟩:Bs)[j]? =some v:=by simpa using hx
 show BN _ _ ((seqItemAt l j>>=λr=>pure (r.map (j, ·)))>>=_) _ _ s;refine AB (AB (wpAny_seqItemAt ho rfl (AP ?_)));rw[Qz]
 first
  |exact AB (AP (AP ⟨(),rfl,S⟩))
  |exact AP ⟨(),rfl,S⟩
theorem JZ(O:C.Ok){l sl:Addr}{c:Value}{d:Option Addr}{xs:Ak}{vl vu:Value}{lo hi:Option Int}(pl:PX vl lo)(pu:PX vu hi)(hx:xs.length<=1000){ys:Ak}
 (hy:(RH ⟨xs⟩ lo hi none).toList=ys):
 AC C A (Builtin.«list.__getitem__» ⟨[.ref l,.ref sl],[]⟩) [.one l (.ls c d xs),.one sl (.ex ⟨.type "slice",none,.fields ⟨[vl,vu,.none]⟩,⟨[]⟩⟩)]
  (λa:Nat=>.done (.ret (.ref (a+323)))) (λa=>[.one (a+323) (.ls (.type "list") none ys),.one l (.ls c d xs),.one sl (.ex ⟨.type "slice",none,.fields ⟨[vl,vu,.none]⟩,⟨[]⟩⟩)]):=by
 subst hy;intro R s S;obtain⟨g,ho⟩:=S.Dj;have MJ:=DV S.swap;have TV:s.TypeIs (.ref sl) "slice":=⟨_,MJ,rfl⟩;have Is:(⟨xs⟩:Bs).size<=sizeLine:=AK (show xs.length<=1000 from hx) ADm
 show BN _ _ (Bb (.ref sl)>>=_) _ _ s;refine AB ?_;unfold Bb;refine AB (I_ TV J4 ?_);simp only[J0,if_true];refine AP ?_;show BN _ _ (J5 (.ref sl)>>=_) _ _ s;refine AB (H6 TV ?_);refine iN ADm ?_
 rw[H3];refine AB (AB (B9 MJ rfl (x:=.none) rfl (AB (DF .none ?_))));refine iN ADm ?_
 refine AB (B9 MJ rfl (x:=vl) rfl (AB (DF pl ?_)));refine AB (B9 MJ rfl (x:=vu) rfl (AB (DF pu (AP ?_))));refine AB (m:=A7 (.ref l)) ?_;unfold A7;refine AB (DG ho rfl (AP ?_));refine AB (GR (Ie lo hi none xs.length ADn) ?_)
 refine AB (DS (AP ?_) (AK (Kd _ lo hi none) Is));refine⟨s.heap.objs.size-323,?_,?_⟩
 ·rw[<-S.size_eq O]
 ·rw[<-S.size_eq O]
  exact S.alloc rfl ⟨G0,rfl⟩
theorem MO{c:Value}{d:Option Addr}{xs ys:Ak}{n:Nat}{f:Bs->Bs}(h:f ⟨xs⟩=⟨ys⟩):(AO.ls c d ys).is (Mc f ⟨c,d,.seq ⟨xs⟩ n,⟨[]⟩⟩):=by
 refine⟨⟨λYa=>0,λYa=>0,if(f ⟨xs⟩).size==(⟨xs⟩:Bs).size then n else n+1,⟨[]⟩⟩,?_⟩
 show(⟨c,d,.seq (f ⟨xs⟩) (if(f ⟨xs⟩).size==(⟨xs⟩:Bs).size then n else n+1),⟨[]⟩⟩:Obj)=⟨c,d,.seq ⟨ys⟩ _,⟨[]⟩⟩
 generalize (if(f ⟨xs⟩).size==(⟨xs⟩:Bs).size then n else n+1)=m
 rw[h]
theorem St.ne{s:Af}{L:AN}{a b:Addr}{x y:AO}(S:St C (.one a x::.one b y::L) s):a≠b:=by
 obtain⟨H,_,XP⟩:=S.led
 have:=XP.nodup
 rw[show Ao (Bi.one a x::Bi.one b y::L)++H=(a,x)::(b,y)::(Ao L++H) from rfl] at this;simp only[Aw,G6,CG,not_or] at this;exact this.1.1
theorem VD(i n:Nat)(h:i<=n):I3 (some (i:Int)) none none n=((i:Int),(n:Int),1):=by
 simp only[I3,Option.getD_none];have h1: ¬((i:Int)<0):=by lia
 simp only[h1,if_false,show(1:Int)>0 by decide,if_true]
 congr 1
 lia
theorem Xq(n:Nat):I3 none none none n=(0,(n:Int),1):=by simp[I3]
theorem M8{l sl b:Addr}{c:Value}{d:Option Addr}{xs ys:Ak}{vl vu:Value}{lo hi:Option Int}(pl:PX vl lo)(pu:PX vu hi)(hx:xs.length<=1000)(hy:ys.length<=1000)
 {i:Nat} (Ta:I3 lo hi none xs.length=((i:Int),(xs.length:Int),1)):
 AC C A (Builtin.«list.__setitem__» ⟨[.ref l,.ref sl,.ref b],[]⟩) [.one l (.ls c d xs),.one sl (.ex ⟨.type "slice",none,.fields ⟨[vl,vu,.none]⟩,⟨[]⟩⟩),.one b (.ls (.type "list") none ys)]
  (λYa:Unit=>.done (.ret .none)) (λYa=>[.one l (.ls c d (xs.take i++ys)),.one sl (.ex ⟨.type "slice",none,.fields ⟨[vl,vu,.none]⟩,⟨[]⟩⟩),.one b (.ls (.type "list") none ys)]):=by
 intro R s S;obtain⟨g,ho⟩:=S.Dj;have MJ:=DV S.swap;have hlb:l≠b:=(St.perm S (L':=.one l (.ls c d xs)::.one b (.ls (.type "list") none ys)::.one sl (.ex ⟨.type "slice",none,.fields ⟨[vl,vu,.none]⟩,⟨[]⟩⟩)::R) (by
  simp only[A5,Al];exact(Ae _ _ _).cons _)).ne
 obtain⟨gb,hb⟩:=(St.perm S (L':=.one b (.ls (.type "list") none ys)::.one l (.ls c d xs)::.one sl (.ex ⟨.type "slice",none,.fields ⟨[vl,vu,.none]⟩,⟨[]⟩⟩)::R) (by
  simp only[A5,Al];exact((Ae _ _ _).cons _).trans (Ae _ _ _))).Dj
 have TV:s.TypeIs (.ref sl) "slice":=⟨_,MJ,rfl⟩;have uV:s.TypeIs (.ref b) "list":=⟨_,hb,rfl⟩;have Is:(⟨xs⟩:Bs).size<=sizeLine:=AK (show xs.length<=1000 from hx) ADm
 show BN _ _ (Bb (.ref sl)>>=_) _ _ s;refine AB ?_;unfold Bb;refine AB (I_ TV J4 ?_);refine iT rfl ?_;refine AP ?_;show BN _ _ (J5 (.ref sl)>>=_) _ _ s;refine AB (H6 TV ?_);refine iN ADm ?_
 rw[H3];refine AB (AB (B9 MJ rfl (x:=.none) rfl (AB (DF .none ?_))));refine iN ADm ?_
 refine AB (B9 MJ rfl (x:=vl) rfl (AB (DF pl ?_)));refine AB (B9 MJ rfl (x:=vu) rfl (AB (DF pu (AP ?_))));have vF:(Kq (.ref l) (.ref b))=false:=by
  show(l==b)=false
  exact beq_eq_false_iff_ne.mpr hlb
 rw[vF];refine iN BP ?_;have Qy: ∀{a:Addr} {o:Obj} {ys:Ak} {n:Nat} {Q:Bs->Af->Prop} {E:Value->Af->Prop},s.heap.get? a=some o->o.data=.seq ⟨ys⟩ n->Q ⟨ys⟩ s->BN C.M A (A7 (.ref a)) Q E s:=λho hd h=>by
  unfold A7;exact AB (DG ho hd (AP h))
 refine AB ?_;unfold Builtin.List.listAllItems;refine AB (H6 uV ?_);refine iT ADm ?_
 first
  |refine Qy hb rfl ?_
  |refine AB (m:=A7 _) (Qy hb rfl (AP ?_))
 refine AB (m:=A7 _) (Qy ho rfl ?_);refine AB (GR (Ie lo hi none xs.length ADn) ?_)
 rw[Ta]
 dsimp only
 refine iT (show((1:Int)==1)=true from rfl) ?_;refine AB (Eo ?_);refine iN (by simp only[Gy,decide_eq_true_eq];show¬(xs.length+ys.length>sizeLine);rw[Br];lia) ?_
 have hI:i<=xs.length:=by
  have:=congrArg UP Ta
  simp only[I3,Option.getD_none,show(1:Int)>0 by decide,if_true] at this
  split at this<;>lia
 have Zj:((⟨xs⟩:Bs).extract 0 (i:Int).toNat++⟨ys⟩++(⟨xs⟩:Bs).extract (max (i:Int) (xs.length:Int)).toNat (⟨xs⟩:Bs).size)=⟨xs.take i++ys⟩:=by
  apply Array.toList_inj.mp
  have:(max (i:Int) (xs.length:Int)).toNat=xs.length:=by lia
  simp[this]
 refine AB (m:=Df _ _) (G9 ho rfl (AB (Rz (AP ⟨(),rfl,?_⟩))) Is ?_)
 ·refine(St.No S (t:=s.toks) (B1 ..) (CO _ ho ?_) ?_)
  ·rfl
  ·exact MO Zj
 ·rw[Zj]
  show(xs.take i++ys).length<=_
  rw[Br,AX,C5];lia
end
theorem Dq:C1 FZ "list.__getitem__"=some Builtin.«list.__getitem__»:=B2 ADk
theorem P0:C1 FZ "list.__setitem__"=some Builtin.«list.__setitem__»:=B2 ADk
include O
theorem Wk(U:AA 1 A)(x:Nat)(v:Value)(xs:Ak):
 AS B A (AU "list.append" ⟨[J x,v],[]⟩) [AE x xs] () [AE x xs]:=
 by apply Hc O U (.g 65<|.fi () [0])
def Do(U:AA 2 A)(x:Nat)(v:Value)(xs:Ak)(hx:xs.length<=1000):Ag B.C A where
 c:=.call (.builtin "list.append") ⟨[J x,v],[]⟩
 F:=[AE x xs]
 X:=Unit
 res:=λYa=>.ok (.ret .none)
 led:=λYa=>[AE x (xs++[v])]
 ok:=BF ADl RY (Wk O U.in1 x v xs) (Pm hx)
theorem Ul(U:AA 1 A)(x dx:Nat)(v:Value)(xs:Ak):
 AS B A (AU "list.__getitem__" ⟨[J x,v],[]⟩) [AY x dx xs] () [AY x dx xs]:=
 by apply Hc O U (.g 4097<|.fi () [0])
theorem Sl(U:AA 1 A)(x dx sl:Nat)(u v:Value)(xs:Ak):
 AS B A (AU "list.__getitem__" ⟨[J x,J sl],[]⟩) [AY x dx xs,F8 sl u v] () [AY x dx xs,F8 sl u v]:=
 by apply Hc O U (.g 4097<|.fi () [0,0])
theorem NA(U:AA 1 A)(x dx sl b:Nat)(u v:Value)(xs ys:Ak):
 AS B A (AU "list.__setitem__" ⟨[J x,J sl,J b],[]⟩) [AY x dx xs,F8 sl u v,AE b ys] () [AY x dx xs,F8 sl u v,AE b ys]:=
 by apply Hc O U (.g 4097<|.fi () [0,0,0])
def Sw(U:AA 2 A)(x dx sl:Nat)(i t:Nat)(xs:Ak)(hi:i<=xs.length)(hx:xs.length<=1000):Ag B.C A where
 c:=.call (.builtin "list.__getitem__") ⟨[J x,J sl],[]⟩
 F:=[AY x dx xs,F8 sl (.int (i:Int) t) .none]
 X:=Nat
 res:=λa=>.ok (.ret (J a))
 led:=λa=>[AE a (xs.drop i),AY x dx xs,F8 sl (.int (i:Int) t) .none]
 ok:=BF ADl Dq (Sl O U.in1 x dx sl _ _ xs)
  (JZ O (.int (i:Int) t) .none hx (by rw[slicePick_from _ _ hi]))
def Sv(U:AA 2 A)(x dx sl b:Nat)(i t:Nat)(xs:Ak)(hi:i<=xs.length)(hx:xs.length<=1000):Ag B.C A where
 c:=.call (.builtin "list.__setitem__") ⟨[J x,J sl,J b],[]⟩
 F:=[AY x dx xs,F8 sl (.int (i:Int) t) .none,AE b []]
 X:=Unit
 res:=λYa=>.ok (.ret .none)
 led:=λYa=>[AY x dx (xs.take i),F8 sl (.int (i:Int) t) .none,AE b []]
 ok:=BF ADl P0 (NA O U.in1 x dx sl b _ _ xs [])
  (by have:=M8 (C:=B.C) (A:=A.in1) (l:=x+323) (sl:=sl+323) (b:=b+323) (c:=.ref 200) (d:=some (dx+323)) (xs:=xs) (ys:=[]) (.int (i:Int) t) .none hx ADn (VD i xs.length hi)
      simpa using this)
def Px(U:AA 2 A)(x dx sl b:Nat)(xs ys:Ak)(hx:xs.length<=1000)(hy:ys.length<=1000):Ag B.C A where
 c:=.call (.builtin "list.__setitem__") ⟨[J x,J sl,J b],[]⟩
 F:=[AY x dx xs,F8 sl .none .none,AE b ys]
 X:=Unit
 res:=λYa=>.ok (.ret .none)
 led:=λYa=>[AY x dx ys,F8 sl .none .none,AE b ys]
 ok:=BF ADl P0 (NA O U.in1 x dx sl b _ _ xs ys)
  (by have:=M8 (C:=B.C) (A:=A.in1) (l:=x+323) (sl:=sl+323) (b:=b+323) (c:=.ref 200) (d:=some (dx+323)) (xs:=xs) (ys:=ys) (i:=0) .none .none hx hy (Xq xs.length)
      simpa using this)
def Pw(U:AA 3 A)(x dx:Nat)(xs:Ak)(n v:Value)(t:Nat):Ag B.C A:=
 DN O U "object.__setattr__" [J x,.str EM t,v] [AY x dx xs,A3 dx n] (λYa:Unit=>.none) (λYa=>[AY x dx xs,A3 dx v]) (λU=>.g 4097<|.fi () [0,0]) λU=>.g 281543696191489<|.fr λk0=>.g 272450<|.fi () [0,0]
def Uv(U:AA 3 A)(x dx:Nat)(xs:Ak)(v:Value)(t:Nat):Ag B.C A:=
 DN O U "object.__setattr__" [J x,.str EM t,v] [AY x dx xs,.one (dx+323) (.ns (.type "dict") [])] (λYa:Unit=>.none) (λYa=>[AY x dx xs,A3 dx v]) (λU=>.g 4097<|.fi () [0,0]) λU=>.g 281543696191489<|.fr λk0=>.g 272450<|.fi () [0,0]
def JG(U:AA 3 A)(x dx:Nat)(xs:Ak)(n:Value)(t:Nat):Ag B.C A:=
 DN O U "list.__getattribute__" [J x,.str EM t] [AY x dx xs,A3 dx n] (λYa:Unit=>n) (λYa=>[AY x dx xs,A3 dx n]) (λU=>.g 4097<|.fi () [0,0]) λU=>.g 290272160251905<|.fi () [0,0]
theorem Uf(U:AA 3 A)(L x dx:Nat)(i t:Nat)(xs:Ak)(n:Value)(hi:i<=xs.length)(hx:xs.length<=1000):
 AC B.C A (Ac (A4 B.P 152) (AR B.P 152 [] (L+323))) [AI L [(AM,J x),(VH,.int (i:Int) t)],AY x dx xs,A3 dx n]
  (λa:Nat=>.ret (J a))
  (λa=>[AY x dx (xs.take i),A3 dx n,AE a (xs.drop i)]):=
 D7 O U (.g 4161<|.al λa0=>.g 1152921710815608835<|.cc (Sw O U.l x dx a0 i t xs hi hx) [2,0] λy1=>.fr λk2=>.g 6340<|.al λa3=>.g 4421<|.al λa4=>.g 68719493124<|.cc (Sv O U.l x dx a4 a3 i t xs hi hx) [3,0,0] λYa=>.g 70<|.fi (y1) [0,5,2])
def W0(U:AA 5 A)(x dx:Nat)(i t:Nat)(xs:Ak)(n:Value)(hi:i<=xs.length)(hx:xs.length<=1000):Ag B.C A where
 c:=.call (.ref 152) ⟨[J x,.int (i:Int) t],[]⟩
 F:=[AY x dx xs,A3 dx n]
 X:=Nat
 res:=λa=>.ok (.ret (J a))
 led:=λa=>[AY x dx (xs.take i),A3 dx n,AE a (xs.drop i)]
 ok:=EU O U [(AM,J x),(VH,.int (i:Int) t)] (sb:=.g 64<|.fi () [])
  (λa=>BK (Uf O U.l.deeper a x dx i t xs n hi hx))
theorem YN(U:AA 3 A)(L x dx b:Nat)(xs ys:Ak)(n:Value)(hx:xs.length<=1000)(hy:ys.length<=1000):
 AC B.C A (Ac (A4 B.P 182) (AR B.P 182 [] (L+323))) [AI L [(AM,J x),(KR,J b)],AY x dx xs,A3 dx n,AE b ys]
  (λt:Nat=>.next)
  (λt=>[AY x dx ys,A3 dx (.int 0 t),AE b ys]):=
 D7 O U (.g 266305<|.al λa0=>.g 68719489027<|.cc (Px O U.l x dx a0 b xs ys hx hy) [2,0,2] λYa=>.fr λk2=>.g 68<|.fr λk3=>.g 16777217<|.cc (Pw O U.l x dx ys n (.int 0 k2) k3) [0,3] λYa=>.fi (k2) [0,0,1])
omit O
theorem qO(B:Bx):A4 B.P 167=[.Return (some (vE (mN 7 4 0))) (pS 120 8 84)]:=by kernel_rfl
theorem qP(B:Bx):A4 B.P 174=[.Return (some (vE (mN 7 5 0))) (pS 123 8 86)]:=by kernel_rfl
def aW(h:Heap)(l:Addr)(items:Bs):Prop:= ∃o n,h.get? l=some o/\o.data=.seq items n
theorem aW.at'{h h':Heap}{l items}(x:aW h l items)(hk: ∀o,h.get? l=some o->h'.get? l=some o):aW h' l items:=
 let⟨o,n,ho,hd⟩:=x;⟨o,n,hk o ho,hd⟩
section
variable{prog:Program}{w:World}{A:AL}{E:Value->Af->Prop}{s:Af}
theorem dh{it l:Addr}{i:Nat}{items:Bs}{x:Value}{Q:DP->Af->Prop}(hit:s.heap.IsListIter it l i)(hl:aW s.heap l items)(hx:items[i]? =some x)
 (hQ: ∀h',h'.get? it=some (Oy (λvs=>vs.setIfInBounds 1 (CL ((i:Int)+1))) ((s.heap.get? it).getD Au))∨True->h'.IsListIter it l (i+1)->QU it s.heap h'->Q (some x) {s with heap:=h'}):BN (Qf prog w) A (FK (.ref it)) Q E s:=by
 obtain⟨o,ho,hc,hd⟩:=id hit;obtain⟨ol,nl,dK,dE⟩:=hl;unfold FK;refine AB (O1 (Lz (name:=JO "__next__") hit.typeIs HP
  (wpAny_call_entry HP hit.typeIs OY ?_ (Pc _))))
 show BN _ _ (Oz (.ref it) 0>>=_) _ _ s;refine AB (B9 ho hd (x:=.ref l) rfl ?_);show BN _ _ (if(CC l==CU)=true then _ else _) _ _ s
 refine iN (show¬((CC l==CU)=true) from BP) ?_;show BN _ _ (Oz (.ref it) 1>>=_) _ _ s;refine AB (B9 ho hd (x:=.int i 0) rfl ?_);show BN _ _ (LY (.ref l)>>=_) _ _ s;refine AB (DG dK dE ?_);simp only[Dt,hx];refine AB (FU ho hd ADn (AP ⟨x,rfl,AP (hQ _ (.inr trivial) ?_ (B1 ..))⟩))
 exact⟨_,CO _ ho (M2 (Jz hd _)),(Obj.cls_mapFields ..).trans hc,by
  rw[Jz hd];simp[CL]⟩
theorem iz{it l:Addr}{i:Nat}{items:Bs}{Q:DP->Af->Prop}(hh:A.handled=none)(hit:s.heap.IsListIter it l i)(hl:aW s.heap l items)(hx:items[i]? =none)
 (hQ: ∀h',Heap.ExtBut it s.heap h'->s.heap.objs.size<=h'.objs.size->(∃o,h'.get? it=some o)->Q none {s with heap:=h'}):BN (Qf prog w) A (FK (.ref it)) Q E s:=by
 obtain⟨o,ho,hc,hd⟩:=id hit;obtain⟨ol,nl,dK,dE⟩:=hl;unfold FK;refine AB (O1 (Lz (name:=JO "__next__") hit.typeIs HP
  (wpAny_call_entry HP hit.typeIs OY ?_ (Pc _))))
 show BN _ _ (Oz (.ref it) 0>>=_) _ _ s;refine AB (B9 ho hd (x:=.ref l) rfl ?_);show BN _ _ (if(CC l==CU)=true then _ else _) _ _ s
 refine iN (show¬((CC l==CU)=true) from BP) ?_;show BN _ _ (Oz (.ref it) 1>>=_) _ _ s;refine AB (B9 ho hd (x:=.int i 0) rfl ?_);show BN _ _ (LY (.ref l)>>=_) _ _ s;refine AB (DG dK dE ?_);simp only[Dt,hx];refine AB (Eo (AB (FU ho hd ADn ?_)))
 show BN _ _ (newExc (.type "StopIteration") []>>=_) _ _ _;refine AB ?_;simp only[newExc,newTuple];refine AB (DS ?_ (by size_fits))
 refine AB (m:=firstArgMember _ _) (GR (a:=CU) (by first|rfl|(simp only[firstArgMember];rfl)) ?_)
 refine DS ?_ (by size_fits)
 simp only[Qh];refine AB (O2 ?_);rw[show A.in1.handled=none from hh];refine AB (AP (R1 ?_));refine AB (Ig (T:="StopIteration") (b:=true) ⟨_,FN _ rfl,rfl⟩ isSubtype_stop ?_);refine AP (hQ _ (((B1 ..).extBut.push _).push _) ?_ ⟨_,Cu _ (Cu _ (CO _ ho (M2 (Jz hd _))))⟩);simp only[Heap.size_push]
 have:=(B1 (h:=s.heap) (a:=it) (f:=Oy λvs=>vs.setIfInBounds 0 CU)).1
 first
  |lia
  |(simp only[QU] at this;lia)
  |exact AK (Ge (B1 ..).1.symm) ADj
theorem jz(hh:A.handled=none)(I ax:Addr)(CD:ax≠I)(items:Bs)(Ts:Nat->Addr)(vals:Nat->Bs)
 (hit: ∀j,j<items.size->items[j]? =some (.ref (Ts j))) (yt: ∀j,j<items.size->Ts j≠I):
 WalksU prog w A I (I::ax::(Ah items.size).map Ts) [I] items.size (λj v=>v=vals j/\j<items.size)
  (λj h=>h.IsListIter I ax j/\aW h ax items/\ ∀k,k<items.size->h.IsTuple (Ts k) (vals k))
  (λj T h=>(j<items.size/\T=Ts j)/\h.IsListIter I ax (j+1)/\aW h ax items/\ ∀k,k<items.size->h.IsTuple (Ts k) (vals k)) where
 sub:=λb hb=>by simp at hb;simp[hb]
 frame:=λYa Ya Ya st hk=>⟨st.1.at λo e=>hk I ADn o e,st.2.1.at' λo e=>hk ax ADn o e,
  λk Tb=>(st.2.2 k Tb).at λo e=>hk (Ts k) (Nu _ (Nu _ (List.mem_map.mpr ⟨k,List.mem_range.mpr Tb,rfl⟩))) o e⟩
 item:=λi s Q E hi st hQ=>by
  refine dh st.1 st.2.1 (x:=.ref (Ts i)) (hit i hi) λh' _ zI P5=>?_;have tup: ∀k,k<items.size->h'.IsTuple (Ts k) (vals k):=λk Tb=>(st.2.2 k Tb).extBut P5.extBut (yt k Tb);exact hQ (Ts i) (vals i) h' s.toks ⟨rfl,hi⟩ (tup i hi) ⟨⟨hi,rfl⟩,zI,st.2.1.at' λo e=>P5.extBut _ o CD e,tup⟩ λb o hb e=>P5.extBut b o (λh=>hb (by simp[h])) e
 go:=λYa Ya Ya Ya Ya s Q _ hm hQ=>wpAny_letOwnedTupleGo_listiter hm.2.1 (hQ s.heap hm.2 λYa Ya Ya e=>e)
 apart:=λj T _ hm zN=>by
  rcases List.mem_cons.mp zN with e|e
  ·exact yt j hm.1.1 (hm.1.2▸e)
  ·cases e
 done:=λs Q E st hQ=>iz hh st.1 st.2.1 ADn λh' rI _ _=>hQ h' s.toks λb o hb e=>rI b o (λh=>hb (by simp[h])) e
 self:=λYa Ya Ya Ya st hQ=>wpAny_pyIter_listiter st.1 hQ
end
abbrev U1(a:Nat)(ao:AO)(g:G):Bi:=.one (a+323) (.ex (ao.obj g))
abbrev uK(l:BC):AO:=.ns (.type "frame") l
noncomputable abbrev X5(dx:Nat)(xs:Ak):AO:=.ls (.ref 200) (some (dx+323)) xs
abbrev j_(n:Value):AO:=.ns (.type "dict") [(EM,n)]
include O
def Ur(U:AA 3 A)(x dx:Nat)(xs:Ak)(n:Int)(tn:Nat)(t:Nat)(g1 g2:G):Ag B.C A:=
 DN O U "list.__getattribute__" [J x,.str EM t] [U1 x (X5 dx xs) g1,U1 dx (j_ (.int n tn)) g2] (λYa:Unit=>.int n tn) (λYa=>[U1 x (X5 dx xs) g1,U1 dx (j_ (.int n tn)) g2]) (λU=>.g 4097<|.fi () [0,0]) λU=>.g 290272160251905<|.fi () [0,0]
theorem ik(U:AA 3 A)(L x dx:Nat)(xs:Ak)(n:Int)(tn:Nat)(g0 g1 g2:G):
 AS B A (Bf ((nM AM 120 65 69).Attribute EM (pS 120 65 83)) (AR B.P 167 [] (L+323))) [U1 L (uK [(AM,J x)]) g0,U1 x (X5 dx xs) g1,U1 dx (j_ (.int n tn)) g2] (Be n tn) [U1 L (uK [(AM,J x)]) g0,U1 x (X5 dx xs) g1,U1 dx (j_ (.int n tn)) g2]:=
 H_ O U (.g 65<|.fr λk0=>.g 4398046511106<|.cc (Ur O U.l x dx xs n tn k0 g1 g2) [1,1] λYa=>.fi () [2,0,0])
theorem nI(U:AA 1 A)(L:Nat)(l:BC):
 AS B A (Bf (nM xo 120 15 18) (AR B.P 167 [] (L+323))) [AI L l] (Value.builtin "sum") [AI L l]:=
 H_ O U (.g 4096<|.fi () [0])
theorem im(U:AA 1 A)(L:Nat)(v:Value):
 AS B A (Bf (nM AM 120 58 62) (AR B.P 167 [] (L+323))) [AI L [(AM,v)]] v [AI L [(AM,v)]]:=
 H_ O U (.g 65<|.fi () [0])
theorem je(U:AA 1 A)(L:Nat)(v:Value):
 AS B A (Bf (nM AM 123 80 84) (AR B.P 174 [] (L+323))) [AI L [(AM,v)]] v [AI L [(AM,v)]]:=
 H_ O U (.g 65<|.fi () [0])
def bm(U:AA 3 A)(x dx:Nat)(xs:Ak):Ag B.C A:=
 DN O U "list.__iter__" [J x] [AY x dx xs] (λa:Nat=>J a) (λa=>[.one (a+323) (.ex ⟨.type "list_iterator",none,.fields ⟨[J x,.int 0 0]⟩,⟨[]⟩⟩),AY x dx xs]) (λU=>.g 4097<|.fi () [0]) λU=>.al λa0=>.fi (a0) [0,0]
theorem Vw(U:AA 3 A)(x dx:Nat)(xs:Ak):
 AC B.C A (Mh (J x)) [AY x dx xs]
  (λa:Nat=>J a)
  (λa=>[.one (a+323) (.ex ⟨.type "list_iterator",none,.fields ⟨[J x,.int 0 0]⟩,⟨[]⟩⟩),AY x dx xs]):=by
 obtain⟨_,_|_⟩:=B<;>exact xW O U (.g 281474993487873<|.cc (bm O U.l x dx xs) [0] λy0=>.g 65<|.fi (y0) [0,0])
omit O
section
variable{prog:Program}{w:World}{A:AL}{E:Value->Af->Prop}{s:Af}
theorem af(a b:Value):argsOk "sum" ⟨[a,b],[]⟩:=by unfold argsOk;kernel_rfl
theorem MQ(i0:Int)(val:Nat->Int): ∀j,Ic (λi=>match i with|0=>i0|i+1=>val i) (j+1)=i0+Ic val j
 |0=>by simp[Ic]
 |j+1=>by
  have:=MQ i0 val j
  simp only[Ic] at this⊢
  lia
theorem aQ{I:Addr}{fp wr:List Addr}{G:Array GenState->Array GenState->Prop}{n:Nat}{P:Nat->Value->Prop}{St:Nat->Af->Prop}(W:WalksS prog w A I fp wr G n P St):
 WalksS prog w A I fp wr G (n+1) (λi v=> ∃j,i=j+1/\P j v) (λi s=> ∃j,i=j+1/\St j s) where
 sub:=W.sub
 grefl:=W.grefl
 gtrans:=W.gtrans
 frame:=λi s h' tk ⟨j,e,st⟩ ht hk=>⟨j,e,W.frame j s h' tk st ht hk⟩
 item:=λi s Q E hi ⟨j,e,st⟩ hQ=>W.item j s Q E ADj st λv s' hP VE hm=>hQ v s' ⟨j,e,hP⟩ ⟨j+1,by lia,VE⟩ hm
 done:=λs Q E ⟨j,e,st⟩ hQ=>W.done s Q E (by have:n=j:=ADj;rw[this];exact st) hQ
 self:=λi s Q E ⟨j,e,st⟩ hQ=>W.self j s Q E st hQ
theorem R7{x:Value}{i0:Int}{t0:Tok}{Q:Value->Af->Prop}(h0:RG i0)
 (h:BN (Qf prog w) A.in1 (Mh x) (λit s₂=> ∃I fp wr G n P St val,it=.ref I/\WalksS prog w A.in1 I fp wr G n P St/\St 0 s₂/\(∀b∈fp,b<s₂.heap.objs.size)/\
  (∀i v,P i v-> ∃t,v=.int (val i) t)/\(∀j,j<n->RG (val j)/\RG (i0+Ic val (j+1)))/\
  ∀s' t',Moved wr G s₂ s'->Q (.int (i0+Ic val n) t') s') E s):
 BN (Qf prog w) A (call (.builtin "sum") [x,.int i0 t0]) Q E s:=by
 refine call_function_tree F.kind_sum F.plain_sum F.entry_sum (af _ _) ?_;unfold Builtin.«sum»;simp only[Ap,G5];refine iN ADm ?_
 refine AB (GR (show Builtin.Builtins.bindParams "sum" ["start"] 0 ⟨[.int i0 t0],[]⟩=pure [some (.int i0 t0)] from rfl) ?_);refine AB (Av h (λit s₂ h₂=>?_) λYa Ya e=>e);obtain⟨I,fp,wr,G,n,P,St,val,rfl,W,Mr,mP,zb,FV,hQ⟩:=h₂
 dsimp only
 rw[if_pos (by
  show(decide (-(2^63)<=i0)&&decide (i0<2^63))=true
  rw[FS,decide_eq_true_eq,decide_eq_true_eq];exact h0)]
 refine AB (Eo ?_);refine AB (wpAny_mkInt ?_);refine AB (AP ?_);simp only[EP,Nt];refine AB (AB (AB (Ig (T:="int") (b:=false) (UU _ _ _) PySem.sub_int_str ?_)));refine iN BP ?_;refine AP (AB (AB (Ig (T:="int") (b:=false) (UU _ _ _) PySem.sub_int_bytes ?_)));refine iN BP ?_;refine AP (AB (AB (Ig (T:="int") (b:=false) (UU _ _ _) PySem.sub_int_bytearray ?_)));refine iN BP ?_;refine AP (AP ?_);refine AB (DS ?_);have hSf:s₂.heap.objs.size∉fp:=λhm=>Dl _ (mP _ hm);refine AP ⟨DH F.plain_sum_loop _,codeAny_sum_loopS (aQ W) (λi=>match i with|0=>i0|i+1=>val i) (λi v ⟨j,e,hP⟩=>by subst e;exact zb j v hP) (λj hj=>?_) s₂.heap.objs.size hSf (n+1-1) 1 _ s₂.toks 0 rfl ADj
  ⟨0,rfl,W.frame 0 s₂ _ _ Mr (by first|exact Am _|exact Eb _|lia) λb _ o e=>Cu _ e⟩ ?_ λs' t' hm=>?_⟩
 ·cases j with
  |zero=>exact⟨h0,by simpa [Ic] using h0⟩
  |succ j=>
   have:=FV j ADj
   rw[MQ];exact this
 ·rw[show Ic (λi=>match i with|0=>i0|i+1=>val i) 1=i0 from by simp[Ic]]
  exact FN _ rfl
 ·rw[MQ]
  exact hQ s' t' (hm.drop_new (by first|exact Am _|exact Eb _|lia))
end
structure It where
 a:Nat
 f:Str
 tf:Nat
 p:Str
 tp:Nat
 deriving Inhabited
def It.v(i:It):Value:=J i.a
noncomputable def It.e(i:It):Addr×AO:=(i.a+323,.ls (.type "tuple") none [.str i.f i.tf,.str i.p i.tp])
noncomputable def It.len(i:It):Nat:=i.f.length+i.p.length
def CN(AH:List It):Nat:=(AH.map It.len).sum
abbrev BS(x dx:Nat)(AH:List It):Bi:=AY x dx (AH.map It.v)
abbrev Ai(AH:List It):Bi:=.many (AH.map It.e)
def CY(AH:List It):Prop:=AH.length<=500/\ ∀i∈AH,i.f.length<=500/\i.p.length<=500
theorem CY.sum{AH:List It}(h:CY AH):CN AH<=500000:=by
 have: ∀l:List It,(∀i∈l,i.f.length<=500/\i.p.length<=500)->CN l<=1000*l.length:=by
  intro l
  induction l with
  |nil=>intro _;simp[CN]
  |cons i r ih=>
   intro h;have h1:=h i (.head _);have h2:=ih λj hj=>h j (.tail _ hj);simp only[CN,Aw,Ea,Ap,It.len] at h2⊢
   lia
 have:=this AH h.2
 have:=h.1
 lia
theorem rP{C:Cx}{AH:List It}{L:AN}{s:Af}(S:St C (Ai AH::L) s){i:It}(hi:i∈AH):s.heap.IsTuple (i.a+323) #[.str i.f i.tf,.str i.p i.tp]:=by
 obtain⟨H,_,XP⟩:=S.led;obtain⟨o,ho,g,rfl⟩:=XP.at_ i.e (Ar _ (Ar _ (CB hi)));exact⟨_,ho,rfl,_,rfl⟩
theorem rQ{C:Cx}{AH:List It}{L:AN}{s:Af}{b:Addr}{ao:AO}(S:St C (Ai AH::.one b ao::L) s){i:It}(hi:i∈AH):i.a+323≠b:=by
 obtain⟨H,_,XP⟩:=S.led
 have:=XP.nodup
 rw[show Ao (Ai AH::.one b ao::L)++H=AH.map It.e++((b,ao)::(Ao L++H)) from by simp[Ao,Bi.flat],AZ,Ka] at this
 exact this.2.2 _ (CB (f:=λx:Addr×AO=>x.1) (CB hi)) _ ADn
def aX(o:Obj):Prop:= ∃ps,o=⟨.none,none,.fields ps,⟨[]⟩⟩/\JV ps.toList
def Pf(H:F6):Prop:=H.map (·.1)=[162,169]/\ ∀p∈H,∃o,p.2=.ex o/\aX o
structure Bx.Std(B:Bx):Prop where
 SG:B.SG=Pf
 mu: ∀a∈T5,a∈B.mu
 gn:B.gn=λs=>Hu s.gens
theorem St.bare{B:Bx}(hS:B.Std){L:AN}{s:Af}(S:St B.C L s):Hu s.gens:=by
 have:=S.gens s.heap s.toks (Am _)
 rw[show B.C.Gn=λs=>Hu s.gens from hS.gn] at this;exact this
theorem WV{B:Bx}(hS:B.Std){s:Af}(h:Hu s.gens): ∀hp t,s.toks<=t->B.C.Gn {s with heap:=hp,toks:=t}:=λhp t _=>by
 rw[show B.C.Gn=λs=>Hu s.gens from hS.gn];exact h
section
variable{B:Bx}{s:Af}{L:AN}
theorem sT(hS:B.Std)(S:St B.C L s){P:Addr}(hP:P=162∨P=169): ∃ps,s.heap.get? P=some ⟨.none,none,.fields ps,⟨[]⟩⟩/\JV ps.toList:=by
 obtain⟨H,hH,XP⟩:=S.led;have hH:Pf H:=by rw[<-hS.SG];exact hH
 have:P∈H.map (·.1):=by rw[hH.1];rcases hP with rfl|rfl<;>simp
 obtain⟨p,hp,rfl⟩:=List.mem_map.mp this;obtain⟨o,ho,g,rfl⟩:=XP.at_ p (Ax _ hp);obtain⟨o',e,ps,rfl,ht⟩:=hH.2 p hp;exact⟨ps,by rw[ho,e];rfl,ht⟩
theorem fB(O:B.C.Ok)(hS:B.Std){I:Addr}{ao:AO}(S:St B.C (.one I ao::L) s){s':Af}{P:Addr}(hP:P=162∨P=169)(hk: ∀b o,b≠I->b≠P->s.heap.get? b=some o->s'.heap.get? b=some o)
 {o':Obj} (hn:s'.heap.get? P=some o') (ht:aX o') (hg:Hu s'.gens) (ho:s'.os=s.os):St B.C L s':=by
 obtain⟨H,hH,XP⟩:=S.led;have uP:Pf H:=by rw[<-hS.SG];exact hH
 have iG:P∈B.C.mu:=hS.mu P (by rcases hP with rfl|rfl<;>decide)
 have hI: ∀p∈Ao L++H,p.1≠I:=λp hp e=>by
  have:=XP.nodup
  rw[show Ao (Bi.one I ao::L)++H=(I,ao)::(Ao L++H) from rfl,Aw,G6] at this;exact this.1 (by show I∈_;rw[<-e];exact CB (f:=λx:Addr×AO=>x.1) hp)
 have Rl: ∀b o,B.C.s₁.heap.get? b=some o->b∉B.C.mu->s'.heap.get? b=some o:=λb o h m=>hk b o (λe=>XP.ne (p:=(I,ao)) (.head _) h m e.symm) (λe=>m (e▸iG)) (S.old b o h m);obtain⟨a,o,hl,hm,hz⟩:=O.last;have uT:P∈H.map (·.1):=by rw[uP.1];rcases hP with rfl|rfl<;>simp
 have nd:((Ao L++H).map (·.1)).Nodup:=by
  have:=XP.nodup
  rw[show Ao (Bi.one I ao::L)++H=(I,ao)::(Ao L++H) from rfl,Aw,G6] at this;exact this.2
 have uR: ∀p∈Ao L,p.1≠P:=λp hp e=>by
  have:=nd
  rw[AZ,Ka] at this;exact this.2.2 p.1 (CB (f:=λx:Addr×AO=>x.1) hp) P uT e
 have e1:(H.map λp=>if p.1=P then(P,AO.ex o') else p).map (·.1)=H.map (·.1):=by
  rw[CK];refine CA λp _=>?_;simp only[Il]
  split
  ·rename_i h;exact h.symm
  ·rfl
 refine⟨Rl,⟨H.map λp=>if p.1=P then(P,AO.ex o') else p,?_,⟨λp hp=>?_,?_,λp hp=>?_⟩⟩,WV hS hg,ho.trans S.os,AK hz (Cf (Rl a o hl hm))⟩
 ·rw[show B.C.Hid=Pf from hS.SG]
  refine⟨e1.trans uP.1,λp hp=>?_⟩;obtain⟨q,hq,rfl⟩:=List.mem_map.mp hp
  split
  ·exact⟨o',rfl,ht⟩
  ·exact uP.2 q hq
 ·rcases List.mem_append.mp hp with h|h
  ·obtain⟨o,e,i⟩:=XP.at_ p (.tail _ (Ar _ h))
   exact⟨o,hk _ o (hI p (Ar _ h)) (uR p h) e,i⟩
  ·obtain⟨q,hq,rfl⟩:=List.mem_map.mp h
   split
   ·exact⟨o',hn,G0,rfl⟩
   ·rename_i CD
    obtain⟨o,e,i⟩:=XP.at_ q (.tail _ (Ax _ hq));exact⟨o,hk _ o (hI q (Ax _ hq)) CD e,i⟩
 ·rw[AZ,e1,<-AZ];exact nd
 ·rcases List.mem_append.mp hp with h|h
  ·exact XP.new p (.tail _ (Ar _ h))
  ·obtain⟨q,hq,rfl⟩:=List.mem_map.mp h
   split
   ·exact .inl iG
   ·exact XP.new q (.tail _ (Ax _ hq))
theorem rz(O:B.C.Ok)(S:St B.C L s): ∃m,s.heap.Ns 3 m/\m ⟨⟨[108,101,110]⟩⟩=none/\m ⟨⟨[115,117,109]⟩⟩=none/\m ⟨⟨[69,77,80,84,89,83,84,82,73,78,71]⟩⟩=some (.str ⟨⟨[]⟩⟩ 321)/\m "__builtins__"=some (.ref 4):=by
 obtain⟨es,n,ho,hk,h1,h2,h3,h4⟩: ∃es n,GL B.P 3=some ⟨.type "dict",none,.dict ⟨es⟩ n,⟨[]⟩⟩/\LL es=true/\Nz ⟨es⟩ ⟨⟨[108,101,110]⟩⟩=none/\Nz ⟨es⟩ ⟨⟨[115,117,109]⟩⟩=none/\
  Nz ⟨es⟩ ⟨⟨[69,77,80,84,89,83,84,82,73,78,71]⟩⟩=some (.str ⟨⟨[]⟩⟩ 321)/\Nz ⟨es⟩ "__builtins__"=some (.ref 4):=
  ⟨_,_,(show KP B.P 3=some (r3 B.P) from rfl).trans rfl,by kernel_rfl,by kernel_rfl,by kernel_rfl,by kernel_rfl,by kernel_rfl⟩
 exact⟨λx=>Nz ⟨es⟩ x,⟨_,⟨es⟩,n,S.top O ho,rfl,λe he=>MT hk e (by simpa using he),λYa=>rfl⟩,h1,h2,h3,h4⟩
theorem ns0(O:B.C.Ok)(S:St B.C L s): ∃m,s.heap.Ns 0 m/\m ⟨⟨[108,101,110]⟩⟩=some (.builtin "len"):=by
 obtain⟨es,n,ho,hk,h1⟩: ∃es n,GL B.P 0=some ⟨.type "dict",none,.dict ⟨es⟩ n,⟨[]⟩⟩/\LL es=true/\Nz ⟨es⟩ ⟨⟨[108,101,110]⟩⟩=some (.builtin "len"):=
  ⟨_,_,(show KP B.P 0=some (z2 B.P) from rfl).trans rfl,by kernel_rfl,by kernel_rfl⟩
 exact⟨λx=>Nz ⟨es⟩ x,⟨_,⟨es⟩,n,S.top O ho,rfl,λe he=>MT hk e (by simpa using he),λYa=>rfl⟩,h1⟩
theorem yZ(O:B.C.Ok)(S:St B.C L s): ∃o,s.heap.get? 4=some o/\o.cls=.type "module"/\o.dict=some Ib/\o.data=.plain:=
 ⟨_,S.top O ((show KP B.P 4=some (z4 B.P) from rfl).trans rfl),rfl,rfl,rfl⟩
end
theorem Xh(n:Nat):passing (λYa=>true) n 0=Ah n:=by simp[passing]
noncomputable abbrev NU(i:Nat)(l:Addr)(n:Nat):Bi:=.one (i+323) (.ex ⟨.type "list_iterator",none,.fields ⟨[.ref l,.int (n:Int) 0]⟩,⟨[]⟩⟩)
def KH(AH:List It)(j:Nat):Bs:=#[.str (AH.getD j Au).f (AH.getD j Au).tf,.str (AH.getD j Au).p (AH.getD j Au).tp]
theorem iA{M:Model}{A:AL}{E:Value->Af->Prop}{s:Af}{env:Env}{c P:Addr}{ps:Bs}{pos:Pos}{qualname:Str}{scope:Scope}{Q:Value->Af->Prop}(hc:env.code=.ref c)
 (IQ:s.heap.IsCode c P ps) (tR:s.heap.TableAt c P ps)
 (hQ: ∀code h' tk oT,Heap.ExtBut P s.heap h'->h'.get? P=some ⟨.none,none,.fields oT,⟨[]⟩⟩->JV oT.toList->Q code {s with heap:=h',toks:=tk}):
 BN M A (genexprCode env pos qualname scope) Q E s:=by
 have tr: ∀{h:Heap} {ps},h.IsCode c P ps->JV ps.toList:=λq=>by
  obtain⟨_,_,_,_,_,_,_,_,_,_,q⟩:=q;exact q.2.2.2.2.2.2.2.2.2.1
 cases hf:codeAmong pos ps.toList with
 |none=>exact wpAny_genexprCodeX hc IQ tR hf λc' h' tk hx _ _ zS _ ht' _=>hQ _ h' tk _ hx ht'.2 (tr zS)
 |some cv=>exact wpAny_genexprCode_hit hc IQ hf (hQ cv s.heap s.toks ps (Heap.ExtBut.refl _ _) tR.2 (tr IQ))
section
variable{B:Bx}{s:Af}{A:AL}{E:Value->Af->Prop}
theorem Zc(O:B.C.Ok)(hS:B.Std)(U:AA 2 A){env:Env}{c P:Addr}(hP:P=162∨P=169)(ud:env.code=.ref c)
 (yz: ∀L s,St B.C L s-> ∀ps,s.heap.get? P=some ⟨.none,none,.fields ps,⟨[]⟩⟩->JV ps.toList->s.heap.IsCode c P ps/\s.heap.TableAt c P ps) (mQ:env.globals=3)
 {elt iter:Expr} {xa xb:Str} {pa pb pt:Pos} {kt:Nat} {scope:Scope} {pos:Pos} {Q:Value->Af->Prop}
 (XQ:scope.isCoroutine=false) (uc:closureFor scope env=pure []) (ub: ∀y∈scope.names,y.2≠.cell) (h0:scope.names.lookup (".0":Str)=some Jy)
 (dP:scope.names.lookup xa=some .local) (mi:scope.names.lookup xb=some .local) (U4:xa≠xb) (MI:scope.kind=.function) (uw: ∀x,genFold iter env x=pure x)
 {x dx:Nat} {AH:List It} {R:AN} {F:Nat->Value->Prop}
 (hit:BN B.C.M A (Bf iter env) (λxv s₁=>BN B.C.M A (Mh xv) (λit s₂=> ∃I:Nat,it=J I/\St B.C (NU I (x+323) 0::BS x dx AH::Ai AH::R) s₂) E s₁) E s)
 (hq: ∀(s₄:Af) (I C:Nat) (code:Value) (L:AN) (KG:Heap),St B.C L s₄->(∀b o,s₄.heap.get? b=some o->KG.get? b=some o)->
  UR B.C.prog B.C.w (US scope [] C code Ib env) xa xb [] elt (Ah s₄.heap.objs.size) [I+323] (λj v=>v=KH AH j/\j<AH.length) (λYa=>true) F KG (A.depth+1) (A.units+8))
 (hQ: ∀(s₂ s₅:Af) (I:Nat) (a:Addr) (fp wr:List Addr) (g:Nat) (Gen:Nat->Af->Prop),St B.C (NU I (x+323) 0::BS x dx AH::Ai AH::R) s₂->(∀b o,b≠P->s₂.heap.get? b=some o->s₅.heap.get? b=some o)->
  (∃o,s₅.heap.get? P=some o/\aX o)->Hu s₅.gens->s₅.os=s₂.os->(∀b∈fp,b<s₅.heap.objs.size)->a∈fp->(∀b∈wr,b=I+323∨s₂.heap.get? b=none)->P∉wr->s₅.heap.objs.size=a+1->(∀b o,s₂.heap.get? b=some o->b≠P->b<a)->
  WalksS B.C.prog B.C.w A.in4 a fp wr (GenOnlyQ g) AH.length F Gen->Gen 0 s₅->(∀i s,Gen i s->s.TypeIs (.ref a) "generator")->Q (.ref a) s₅):
 BN B.C.M A (Bf (.GeneratorExp elt [⟨.Tuple [.Name xa pa,.Name xb pb] kt pt,iter,[],0⟩] scope pos) env) Q E s:=by
 refine wpAny_GeneratorExp_walksQTD U.1 XQ uc ub h0 dP mi U4 MI (by have:=U.2.1;lia) (Av hit (λxv s₁ h₁=>Av h₁ (λit s₂ h₂=>?_) λYa Ya e=>e) λYa Ya e=>e) uw
 obtain⟨I,rfl,S₂⟩:=h₂;refine⟨S₂.noLimit O,?_⟩;obtain⟨ps,zQ,za⟩:=sT hS S₂ hP;refine iA ud (yz _ _ S₂ ps zQ za).1 (yz _ _ S₂ ps zQ za).2 λcode h' tk oT hk tP tS=>?_;have iG:P∈B.C.mu:=hS.mu P (by rcases hP with rfl|rfl<;>decide)
 have S₃:St B.C (NU I (x+323) 0::BS x dx AH::Ai AH::R) {s₂ with heap:=h',toks:=tk}:=by
  refine St.u5 O S₂ iG (λb o hb e=>hk b o hb e) tP (λH hH hn=>?_) (λH hH=>?_) (WV hS (S₂.bare hS)) rfl
  ·have hH:Pf H:=by rw[<-hS.SG];exact hH
   rw[hH.1] at hn
   rcases hP with rfl|rfl<;>simp at hn
  ·have hH:Pf H:=by rw[<-hS.SG];exact hH
   rw[show B.C.Hid=Pf from hS.SG];refine⟨?_,λp hp=>?_⟩
   ·rw[CK,<-hH.1]
    refine CA λp _=>?_;simp only[Il]
    split
    ·rename_i h;exact h.symm
    ·rfl
   ·obtain⟨q,mc,rfl⟩:=List.mem_map.mp hp
    split
    ·exact⟨_,rfl,oT,rfl,tS⟩
    ·exact hH.2 q mc
 obtain⟨m3,dI,_,_,_,hbi⟩:=rz O S₃;obtain⟨ob,hob,hcb,hdb,hdd⟩:=yZ O S₃;rw[mQ];refine wpAny_builtinsFor dI hbi ADm hob hcb hdb hdd ?_
 obtain⟨gA,iK⟩:=(S₃.perm (L':=BS x dx AH::NU I (x+323) 0::Ai AH::R) (Ae _ _ _)).Dj;have zF:=DV S₃;have CD:x+323≠I+323:=λe=>by
  have:=S₃.ne;exact this e.symm
 have j7:St B.C (Ai AH::NU I (x+323) 0::BS x dx AH::R) {s₂ with heap:=h',toks:=tk}:=S₃.perm (by
  refine .trans ?_ (Ae _ _ _)
  exact(Ae _ _ _).cons _)
 have mR: ∀j,j<AH.length->AH.getD j Au∈AH:=λj hj=>by
  rw[Ad,AJ hj];exact Cn hj
 have tA: ∀j,j<AH.length->h'.IsTuple ((AH.getD j Au).a+323) (KH AH j):=λj hj=>rP j7 (mR j hj);have Is:(AH.map It.v).toArray.size=AH.length:=by simp
 have IP: ∀b o,h'.get? b=some o->b<h'.objs.size:=λb o e=>Cf e;refine⟨I+323,(I+323)::(x+323)::(Ah (AH.map It.v).toArray.size).map (λj=>(AH.getD j Au).a+323),[I+323],(AH.map It.v).toArray.size,λj v=>v=KH AH j/\j<(AH.map It.v).toArray.size,_,_,λYa=>true,F,rfl,
  λA' B8=>jz B8 (I+323) (x+323) CD (AH.map It.v).toArray (λj=>(AH.getD j Au).a+323) (KH AH) (λj hj=>?_) (λj hj=>?_),λi vals ⟨e,_⟩=>⟨_,_,e⟩,⟨⟨_,zF,rfl,rfl⟩,⟨_,_,iK,rfl⟩,λk Tb=>tA k (by simpa using Tb)⟩,?_,S₃.noLimit O,?_,?_,?_⟩
 ·rw[Is] at hj
  simp[It.v,hj]
 ·rw[Is] at hj
  exact rQ j7 (mR j hj)
 ·intro b hb
  simp only[CG,List.mem_map,Nv] at hb
  rcases hb with rfl|rfl|⟨j,hj,rfl⟩
  ·exact IP _ _ zF
  ·exact IP _ _ iK
  ·obtain⟨o,ho,_⟩:=tA j (by rw[Is] at hj;exact hj)
   exact IP _ _ ho
 ·intro h
  simp only[Cv] at h;have h:(2:Nat)=I+323:=h
  lia
 ·intro KG Tb
  rw[Is];exact hq _ I _ code _ KG S₃ Tb
 ·intro a h₅ tk' gs hgs ha Vo Qw W hG
  rw[Is] at W hG;have uU:P<323:=by rcases hP with rfl|rfl<;>decide
  have W'':WalksS B.C.prog B.C.w A.in4 a (a::h'.objs.size::Ah h'.objs.size) (h'.objs.size::[I+323]) (GenOnlyQ s₂.gens.size) AH.length F
   (GenAt B.C.prog B.C.w A.in4 a s₂.gens.size h'.objs.size (Ah h'.objs.size) [I+323] (λYa=>true) AH.length F):=by
   have W':=W;rw[Xh] at W';rw[Dv] at W';refine⟨W'.sub,W'.grefl,W'.gtrans,W'.frame,λi s Q E hi st hQ'=>W'.item i s Q E hi st λv s' ⟨j,hj,hF⟩ VE hm=>hQ' v s' ?_ VE hm,W'.done,W'.self⟩;rw[List.getElem?_eq_some_iff] at hj;obtain⟨_,e⟩:=hj;simp only[HI] at e;subst e;exact hF
  refine hQ s₂ _ I a _ _ _ _ S₂ (λb o hb e=>Qw b o (hk b o hb e)) ⟨_,Qw _ _ tP,oT,rfl,tS⟩ ((S₂.bare hS).push hgs) rfl ?_ (.head _) ?_ ?_ Vo (λb o e hb=>Nat.lt_trans (IP b o (hk b o hb e)) ha) W'' hG ?_
  ·intro b hb
   simp only[CG,Nv] at hb;show b<h₅.objs.size;rw[Vo];have ha':(h'.objs.size:Nat)<a:=ha;have ABs:(h₅.objs.size:Nat)=a+1:=Vo
   rcases hb with rfl|rfl|hb
   ·show(b:Nat)<_
    exact IZ _
   ·show(h'.objs.size:Nat)<_;exact Qa ha'
   ·have hb:(b:Nat)<h'.objs.size:=hb
    exact D8 hb ADj
  ·intro b hb
   simp only[CG,Cv,B_,or_false] at hb
   rcases hb with rfl|rfl
   ·right
    cases e:s₂.heap.get? h'.objs.size with
    |none=>rfl
    |some o=>
     have hz:323<=h'.objs.size:=AK O.size S₃.size;exact absurd (IP _ _ (hk _ o (Nat.ne_of_gt (D8 uU hz)) e)) (Dl _)
   ·exact .inl rfl
  ·intro hm
   simp only[CG,Cv,B_,or_false] at hm;have hz:323<=h'.objs.size:=AK O.size S₃.size
   rcases hm with e|e
   ·exact absurd (e▸uU:(h'.objs.size:Nat)<323) (Nat.not_lt.mpr hz)
   ·exact absurd (e▸uU:(I+323:Nat)<323) ADj
  ·intro i s hs
   exact hs.1.typeIs
end
section
variable{B:Bx}
theorem kg(O:B.C.Ok): ∀L s,St B.C L s-> ∀ps,s.heap.get? 162=some ⟨.none,none,.fields ps,⟨[]⟩⟩->JV ps.toList->s.heap.IsCode 166 162 ps/\s.heap.TableAt 166 162 ps:=λL s S ps ho ht=>
 have h:=S.top O ((show KP B.P 166=some (Tt B.P) from rfl))
 ⟨⟨Tt B.P,_,_,_,_,_,_,_,_,_,h,rfl,rfl,rfl,rfl,rfl,rfl,ho,rfl,ht,by decide⟩,⟨_,_,h,rfl,rfl,rfl⟩,ho⟩
theorem N2{M:Model}{A:AL}{E:Value->Af->Prop}{s:Af}{scope:Scope}{C:Addr}{code:Value}{env:Env}{x:Str}{pos:Pos}{m}{v:Value}{Q:Value->Af->Prop}(hk:scope.kind=.function)
 (hx:scope.names.lookup x=some .local) (hn:s.heap.Ns C m) (hv:m x=some v) (h:Q v s) (hd:(x==("__debug__":Str))=false):BN M A (Bf (.Name x pos) (US scope [] C code Ib env)) Q E s:=
 wpAny_Name (wpAny_loadName_local (env:=US scope [] C code Ib env) hk hx hn hv h) hd
theorem dp(O:B.C.Ok){AH:List It}(hI:CY AH){env:Env}(mQ:env.globals=3){scope:Scope}(MI:scope.kind=.function){xa xb:Str}(dP:scope.names.lookup xa=some .local)(mi:scope.names.lookup xb=some .local)
 (hlen:scope.names.lookup ⟨⟨[108,101,110]⟩⟩=some .globalImplicit) (ha:(xa==("__debug__":Str))=false) (hb:(xb==("__debug__":Str))=false) {p1 p2 p3 p4 p5 p6 p7:Pos} {D Xt:Nat}
 (s₄:Af) (I C:Nat) (code:Value) (L:AN) (KG:Heap) (S₄:St B.C L s₄) (hk: ∀b o,s₄.heap.get? b=some o->KG.get? b=some o):
 UR B.C.prog B.C.w (US scope [] C code Ib env) xa xb []
  ((Expr.Call (JU ⟨⟨[108,101,110]⟩⟩ p1) [JU xa p2] [] p3).BinOp Operator.Add (Expr.Call (JU ⟨⟨[108,101,110]⟩⟩ p4) [JU xb p5] [] p6) p7)
  (Ah s₄.heap.objs.size) [I+323] (λj v=>v=KH AH j/\j<AH.length) (λYa=>true) (λj y=> ∃t,y=.int ((AH.getD j Au).len:Nat) t) KG D Xt where
 tests:=λA' E' i va vb s₂ m₂ hh hd hu hP hn h1 h2 mW=>by
  simp only[Nt];exact AP ⟨rfl,⟨_,_,rfl,λYa Ya e=>e⟩⟩
 elt:=λA' E' i va vb s₂ m₂ hh hd hu ⟨hP,hi⟩ _ hn h1 h2 mW=>by
  obtain⟨m3,dI,zK,_⟩:=rz O S₄;obtain⟨m0,XT,Qx⟩:=ns0 O S₄;have lt: ∀{b:Addr} {o:Obj},s₄.heap.get? b=some o->b<323-> ∀o,s₄.heap.get? b=some o->s₂.heap.get? b=some o:=λ{b o} e hb o' e'=>
   mW b (List.mem_range.mpr (Cf e)) (λhm=>by
    simp only[Cv] at hm;subst hm;exact absurd (show(I+323:Nat)<323 from hb) ADj) o' (hk b o' e')
  have n3:s₂.heap.Ns 3 m3:=by
   obtain⟨o,es,ep,ho,r⟩:=dI;exact⟨o,es,ep,lt ho ADm o ho,r⟩
  have n0:s₂.heap.Ns 0 m0:=by
   obtain⟨o,es,ep,ho,r⟩:=XT;exact⟨o,es,ep,lt ho ADm o ho,r⟩
  have dH:(AH.getD i Au).f.length<=500/\(AH.getD i Au).p.length<=500:=hI.2 _ (by
   rw[Ad,AJ hi];exact Cn hi)
  have hv:va=.str (AH.getD i Au).f (AH.getD i Au).tf/\vb=.str (AH.getD i Au).p (AH.getD i Au).tp:=by
   unfold KH at hP
   have:=congrArg Array.toList hP
   simp only[G4,and_true] at this;exact this
  obtain⟨rfl,rfl⟩:=hv;have nm: ∀{s₃:Af} {Q:Value->Af->Prop} {E p},s₃.heap.Ns 3 m3->s₃.heap.Ns 0 m0->Q (.builtin "len") s₃->BN (Qf B.C.prog B.C.w) A' (Bf (.Name ⟨⟨[108,101,110]⟩⟩ p) (US scope [] C code Ib env)) Q E s₃:=λa b q=>
   GQ MI hlen (Calls.loadGlobal_builtin (mg:=m3) (mb:=m0) (by show Heap.Ns _ env.globals _;rw[mQ];exact a) zK b Qx q) ADk
  refine wpAny_BinOp (Call_name1 rfl (nm n3 n0 (callWith_builtin1 (N2 MI dP hn h1 (P.len_str (by have:=dH.1;lia) ?_) ha))))
  refine Call_name1 rfl (nm n3 n0 (callWith_builtin1 (N2 MI mi hn h2 (P.len_str (by have:=dH.2;lia) ?_) hb)))
  refine P.add_int (prog:=B.C.prog) (w:=B.C.w) ?_;have e:(((AH.getD i Au).len:Nat):Int)=((AH.getD i Au).f.length:Int)+((AH.getD i Au).p.length:Int):=by simp[It.len]
  rw[e];exact⟨⟨_,rfl⟩,⟨_,_,rfl,λYa Ya e=>e⟩⟩
end
section
variable{B:Bx}
theorem GX{β:Type} [Inhabited β](f:β->Nat): ∀(l:List β) (j:Nat),j<=l.length->Ic (λi=>((f (l.getD i Au):Nat):Int)) j=(((l.take j).map f).sum:Nat)
 |l,0,_=>by simp[Ic]
 |l,j+1,h=>by
  have hj:j<l.length:=by lia
  rw[Ic,GX f l j ADj,List.take_succ,AJ hj,Ad,AJ hj]
  simp only[Option.toList,Option.getD_some,AZ,G7,Aw,EC,Ea,QZ]
  lia
theorem MU{β:Type}(f:β->Nat): ∀(l:List β) (j:Nat),((l.take j).map f).sum<=(l.map f).sum
 |[],j=>by simp
 |a::r,0=>by simp
 |a::r,j+1=>by
  have:=MU f r j
  simp only[JD,Aw,Ea]
  lia
noncomputable abbrev Bx.now(B:Bx)(s:Af)(M:List Addr):Bx:=⟨B.w,B.b1,B.b2,s,λH=>H=[],M,λt=>t.gens=s.gens/\t.drawn=s.drawn/\s.toks<=t.toks⟩
theorem ru(O:B.C.Ok){s₂ s₅:Af}{L:AN}(S₂:St B.C L s₂){P a:Addr}{M:List Addr}(hP:P∈B.C.mu)(hk: ∀b o,b≠P->s₂.heap.get? b=some o->s₅.heap.get? b=some o)(hM: ∀m∈M,∃p∈Ao L,p.1=m)
 (Is:s₅.heap.objs.size=a+1) (ha: ∃o,s₅.heap.get? a=some o) (haM:a∉M):(B.now s₅ M).C.Ok:=by
 obtain⟨H,_,XP⟩:=S₂.led;refine⟨λb o h=>?_,?_,?_⟩
 ·obtain⟨h1,h2⟩:=O.top b o h
  refine⟨hk b o (λe=>h2 (e▸hP)) (S₂.old b o h1 h2),λhm=>?_⟩;obtain⟨p,hp,e⟩:=hM b hm;exact XP.ne (Ar _ hp) h1 h2 e
 ·obtain⟨b,o,hl,hm,hz⟩:=O.last
  exact AK O.size (AK hz (Cf (hk b o (λe=>hm (e▸hP)) (S₂.old b o hl hm))))
 ·obtain⟨o,ho⟩:=ha
  exact⟨a,o,ho,haM,Ge Is⟩
theorem ry{s:Af}{M:List Addr}{L:AN}(uW: ∀p∈Ao L,∃o,s.heap.get? p.1=some o/\p.2.is o)(hnd:((Ao L).map (·.1)).Nodup)(hM: ∀p∈Ao L,p.1∈M):St (B.now s M).C (L++[]) s:=
 ⟨λb o h _=>h,⟨[],rfl,by rw[Aj,Aj];exact⟨uW,hnd,λp hp=>.inl (hM p hp)⟩⟩,λYa Ya ht=>⟨rfl,rfl,ht⟩,rfl,Am _⟩
theorem fe(O:B.C.Ok)(hS:B.Std){A:AL}(U:AA 6 A)(L x dx n t:Nat)(AH:List It)(hI:CY AH)(hn:n<=1000000):
 AC B.C A (Ac (A4 B.P 167) (AR B.P 167 [] (L+323))) [AI L [(AM,J x)],BS x dx AH,A3 dx (.int (n:Int) t),Ai AH]
  (λk:Nat=>.ret (.int ((n+CN AH:Nat):Int) k)) (λYa=>[BS x dx AH,A3 dx (.int (n:Int) t),Ai AH]):=by
 intro R s S;rw[qO];refine Gg (Kg (wpAny_Call_NameR ?_));have h1:=nI O (A:=A) U.l L [(AM,J x)];refine AC.wp h1 S λYa s₁ S₁=>?_;refine Hw rfl (I0 (Ek ?_));have h2:=im O (A:=A) U.l L (J x);have h3:=Vw O (A:=A) U.l x dx (AH.map It.v);refine Zc O hS U.l (P:=162) (c:=166) (.inl rfl) ADk (kg O) ADk (AH:=AH) (x:=x) (dx:=dx) (R:=AI L [(AM,J x)]::A3 dx (.int (n:Int) t)::R)
  (F:=λj y=> ∃t,y=.int ((AH.getD j Au).len:Nat) t)
  rfl ADk ADm ADk ADk ADk ADm rfl (λYa=>rfl) ?_ ?_ ?_
 ·refine AC.wp h2 S₁ λYa s₂ S₂=>?_
  have O3:St B.C ([BS x dx AH]++(Ai AH::AI L [(AM,J x)]::A3 dx (.int (n:Int) t)::R)) s₂:=S₂.perm (by
   simp only[A5,Al];refine .trans (Ae _ _ _) (.cons _ ?_);refine .trans ((Ae _ _ _).cons _) ?_;exact Ae _ _ _)
  refine AC.wp h3 O3 λI s₃ S₃=>?_;exact⟨I,rfl,S₃⟩
 ·exact λs₄ I C code Lx KG S₄ hk=>dp O hI ADk rfl ADk ADk ADk ADm ADm s₄ I C code Lx KG S₄ hk
 ·intro s₂ s₅ I a fp wr g Gen S₂ Qw l9 ux vB mP tB vJ l_ Vo eV W hG hT
  refine Ek ?_;have iG:(162:Addr)∈B.C.mu:=hS.mu 162 ADm
  have SA:St B.C (BS x dx AH::AI L [(AM,J x)]::A3 dx (.int (n:Int) t)::NU I (x+323) 0::Ai AH::R) s₂:=S₂.perm (by
   refine .trans (Ae _ _ _) (.cons _ ?_);refine .trans ?_ (BH (l₁:=[AI L [(AM,J x)],A3 dx (.int (n:Int) t)]) (a:=NU I (x+323) 0)).symm
   exact(BH (l₁:=[AI L [(AM,J x)],A3 dx (.int (n:Int) t)]) (a:=Ai AH)).symm.cons _)
  obtain⟨gA,iK⟩:=SA.Dj;obtain⟨gF,uz⟩:=(SA.perm (Ae _ _ _)).Dj;obtain⟨gD,uy⟩:=(SA.perm (.trans (.cons _ (Ae _ _ _)) (Ae _ _ _))).Dj;have R4: ∀{b:Nat},b+323≠162:=λe=>by lia
  have CD:(L+323)≠(x+323)/\(L+323)≠(dx+323)/\(x+323)≠(dx+323):=⟨(SA.perm (Ae _ _ _)).ne,(SA.perm (L':=AI L [(AM,J x)]::A3 dx (.int (n:Int) t)::BS x dx AH::NU I (x+323) 0::Ai AH::R) (.trans (Ae _ _ _) (.cons _ (Ae _ _ _)))).ne,
   (SA.perm (L':=BS x dx AH::A3 dx (.int (n:Int) t)::AI L [(AM,J x)]::NU I (x+323) 0::Ai AH::R) (.cons _ (Ae _ _ _))).ne⟩
  obtain⟨og,hog,_⟩:=hT 0 s₅ hG;have hC':(B.now s₅ [L+323,x+323,dx+323]).C.Ok:=ru O S₂ iG Qw (λm hm=>by
   simp only[CG,B_,or_false] at hm
   rcases hm with rfl|rfl|rfl
   ·exact⟨(L+323,uK [(AM,J x)]),IM 3 rfl,rfl⟩
   ·exact⟨(x+323,X5 dx (AH.map It.v)),IM 1 rfl,rfl⟩
   ·exact⟨(dx+323,j_ (.int (n:Int) t)),IM 4 rfl,rfl⟩) Vo ⟨og,hog⟩ (λhm=>by
   simp only[CG,B_,or_false] at hm
   rcases hm with e|e|e
   ·exact Dl _ (e▸eV _ _ uz R4)
   ·exact Dl _ (e▸eV _ _ iK R4)
   ·exact Dl _ (e▸eV _ _ uy R4))
  have h4:=ik hC' (A:=A) U.l L x dx (AH.map It.v) (n:Int) t gF gA gD;refine Av (h4 [] s₅ (ry (λp hp=>?_) ?_ ?_)) (λf s₆ ⟨_,e,S₆⟩=>?_) λYa Ya q=>q.elim
  ·simp only[Ao,Bi.flat,A5,Al,CG,B_,or_false] at hp
   rcases hp with rfl|rfl|rfl
   ·exact⟨_,Qw _ _ R4 uz,G0,rfl⟩
   ·exact⟨_,Qw _ _ R4 iK,G0,rfl⟩
   ·exact⟨_,Qw _ _ R4 uy,G0,rfl⟩
  ·simp only[Ao,Bi.flat,A5,Al,Aw,EC,G6,CG,B_,or_false,not_or,not_false_eq_true,List.nodup_nil,and_true]
   exact⟨⟨CD.1,CD.2.1⟩,CD.2.2⟩
  ·intro p hp
   simp only[Ao,Bi.flat,A5,Al,CG,B_,or_false] at hp
   rcases hp with rfl|rfl|rfl<;>simp
  subst e;have k6: ∀b o,s₅.heap.get? b=some o->s₆.heap.get? b=some o:=λb o e=>by
   by_cases hm:b∈[L+323,x+323,dx+323]
   ·simp only[CG,B_,or_false] at hm
    rcases hm with rfl|rfl|rfl
    ·rw[Qw _ _ R4 uz] at e;cases e;exact DV S₆
    ·rw[Qw _ _ R4 iK] at e;cases e;exact DV (S₆.perm (Ae _ _ _))
    ·rw[Qw _ _ R4 uy] at e;cases e;exact DV (S₆.perm (.trans (.cons _ (Ae _ _ _)) (Ae _ _ _)))
   ·exact S₆.old b o e hm
  have g6:=S₆.gens s₆.heap s₆.toks (Am _);have e6:s₆={s₅ with heap:=s₆.heap,toks:=s₆.toks}:=by
   obtain⟨h6,gn6,d6,t6,o6⟩:=s₆;have g6:gn6=s₅.gens/\d6=s₅.drawn/\s₅.toks<=t6:=g6
   have:=S₆.os
   have o6:o6=s₅.os:=this;rw[g6.1,g6.2.1,o6]
  have yo:Gen 0 s₆:=by
   rw[e6];exact W.frame 0 s₅ _ _ hG g6.2.2 λb _ o e=>k6 b o e
  refine Hx ?_;refine R7 (by constructor<;>lia) ?_
  have W1:=W.of_in1.of_in1.of_in1;refine W1.self 0 s₆ _ _ yo ?_;refine⟨a,fp,wr,_,AH.length,_,Gen,λj=>((AH.getD j Au).len:Nat),rfl,W1,yo,λb hb=>?_,λi v hv=>hv,λj hj=>?_,λs' t' hm=>?_⟩
  ·exact D8 (mP b hb) S₆.size
  ·have h1:=MU It.len AH (j+1)
   have h2:=hI.sum;rw[GX It.len AH (j+1) ADj]
   unfold CN at h2;have h3:=GX It.len AH (j+1) ADj
   have h4:=GX It.len AH j ADj
   rw[Ic,h4] at h3;show RG (((AH.getD j Au).len:Nat):Int)/\RG _
   constructor<;>constructor<;>lia
  ·refine⟨t',?_,?_⟩
   ·rw[GX It.len AH AH.length (Am _),Gc]
    simp[dw,CN]
   ·have O3:St B.C (NU I (x+323) 0::([BS x dx AH,A3 dx (.int (n:Int) t),Ai AH]++R)) s₂:=by
     refine St.drop (L':=[AI L [(AM,J x)]]) (S₂.perm (.cons _ (.cons _ ?_)));refine .trans (.cons _ (Ae _ _ _)) (.trans (Ae _ _ _) (.cons _ (.cons _ ?_)))
     exact(Bm _ _).symm
    refine fB O hS O3 (.inl rfl) (λb o uX uY e=>hm.heap b o (λhw=>?_) (k6 b o (Qw b o uY e))) ?_ l9.choose_spec.2 ?_ ?_
    ·rcases vJ b hw with h|h
     ·exact uX h
     ·rw[h] at e;cases e
    ·exact hm.heap _ _ l_ (k6 _ _ l9.choose_spec.1)
    ·refine AllBare.moved ?_ hm.gens
     show Hu s₆.gens;rw[show s₆.gens=s₅.gens from g6.1];exact ux
    ·exact hm.os.trans ((S₆.os).trans vB)
end
noncomputable abbrev eS:Str:=⟨⟨[]⟩⟩
def It.text(i:It):Str:=BB eS [i.f,i.p]
def Bq(AH:List It):Str:=BB eS (AH.map It.text)
section
variable{B:Bx}
theorem kh(O:B.C.Ok): ∀L s,St B.C L s-> ∀ps,s.heap.get? 169=some ⟨.none,none,.fields ps,⟨[]⟩⟩->JV ps.toList->s.heap.IsCode 173 169 ps/\s.heap.TableAt 173 169 ps:=λL s S ps ho ht=>
 have h:=S.top O ((show KP B.P 173=some (Tu B.P) from rfl))
 ⟨⟨Tu B.P,_,_,_,_,_,_,_,_,_,h,rfl,rfl,rfl,rfl,rfl,rfl,ho,rfl,ht,by decide⟩,⟨_,_,h,rfl,rfl,rfl⟩,ho⟩
theorem dq(O:B.C.Ok){AH:List It}(hI:CY AH){env:Env}(mQ:env.globals=3){scope:Scope}(MI:scope.kind=.function){xa xb:Str}(dP:scope.names.lookup xa=some .local)(mi:scope.names.lookup xb=some .local)
 (hlen:scope.names.lookup ⟨⟨[69,77,80,84,89,83,84,82,73,78,71]⟩⟩=some .globalImplicit) (ha:(xa==("__debug__":Str))=false) (hb:(xb==("__debug__":Str))=false) {p1 p2 p3 p4 p5 p6:Pos} {k:Nat} (u_:(p2.endLine==p6.line)=true) {D Xt:Nat}
 (s₄:Af) (I C:Nat) (code:Value) (L:AN) (KG:Heap) (S₄:St B.C L s₄) (hk: ∀b o,s₄.heap.get? b=some o->KG.get? b=some o):
 UR B.C.prog B.C.w (US scope [] C code Ib env) xa xb []
  (Expr.Call (Expr.Attribute (JU ⟨⟨[69,77,80,84,89,83,84,82,73,78,71]⟩⟩ p1) ⟨⟨[106,111,105,110]⟩⟩ p2) [Expr.Tuple [JU xa p3,JU xb p4] k p5] [] p6)
  (Ah s₄.heap.objs.size) [I+323] (λj v=>v=KH AH j/\j<AH.length) (λYa=>true) (λj y=> ∃t,y=.str (AH.getD j Au).text t) KG D Xt where
 tests:=λA' E' i va vb s₂ m₂ hh hd hu hP hn h1 h2 mW=>by
  simp only[Nt];exact AP ⟨rfl,⟨_,_,rfl,λYa Ya e=>e⟩⟩
 elt:=λA' E' i va vb s₂ m₂ hh hd hu ⟨hP,hi⟩ _ hn h1 h2 mW=>by
  obtain⟨m3,dI,_,_,ur,_⟩:=rz O S₄;have lt: ∀{b:Addr} {o:Obj},s₄.heap.get? b=some o->b<323-> ∀o,s₄.heap.get? b=some o->s₂.heap.get? b=some o:=λ{b o} e hb o' e'=>
   mW b (List.mem_range.mpr (Cf e)) (λhm=>by
    simp only[Cv] at hm;subst hm;exact absurd (show(I+323:Nat)<323 from hb) ADj) o' (hk b o' e')
  have n3:s₂.heap.Ns 3 m3:=by
   obtain⟨o,es,ep,ho,r⟩:=dI;exact⟨o,es,ep,lt ho ADm o ho,r⟩
  have dH:(AH.getD i Au).f.length<=500/\(AH.getD i Au).p.length<=500:=hI.2 _ (by
   rw[Ad,AJ hi];exact Cn hi)
  have hv:va=.str (AH.getD i Au).f (AH.getD i Au).tf/\vb=.str (AH.getD i Au).p (AH.getD i Au).tp:=by
   unfold KH at hP
   have:=congrArg Array.toList hP
   simp only[G4,and_true] at this;exact this
  obtain⟨rfl,rfl⟩:=hv;refine Call_method1 rfl rfl u_ (GQ MI hlen (LO (mg:=m3) (by show Heap.Ns _ env.globals _;rw[mQ];exact n3) ur ?_) ADk)
  refine⟨"str","str.join",F.plainAttrs_str,F.slot_str_join,F.type_str_join,UV _ _ _,(λYa e=>nomatch e),?_⟩;refine Hw rfl (I0 (Ek (wpAny_Tuple ?_)));refine Ek (N2 MI dP hn h1 (Ek (N2 MI mi hn h2 (Hx ⟨(by show 2<=sizeLine;decide),?_⟩) hb)) ha)
  refine Hx ?_;refine join_tupleW (ys:=[(AH.getD i Au).f,(AH.getD i Au).p]) ⟨_,FN _ rfl,rfl,_,rfl⟩ (.cons _ _ (.cons _ _ .nil)) ADm (by simp only[Aw,EC,Ea,QZ,Ap,G5];lia) λt' k=>?_
  exact⟨⟨_,rfl⟩,⟨_,_,rfl,λb o e=>Cu _ e⟩⟩
theorem pO{AH:List It}: ∀{l:List (Str×Tok)},ItemsOf (λj y=> ∃t,y=Co (AH.getD j Au).text t) (OH l).toArray AH.length->l.map (·.1)=AH.map It.text:=by
 intro l h;obtain⟨hz,hv⟩:=h;refine Hz λj=>?_;have vL:l.length=AH.length:=by
  have:(OH l).length=AH.length:=by simpa using hz
  rw[<-this];unfold OH;simp
 rw[AQ,AQ]
 by_cases hj:j<AH.length
 ·have h1:(OH l).toArray[j]? =some (Co l[j].1 l[j].2):=by
   rw[List.getElem?_toArray];unfold OH;rw[AQ,AJ ADj];rfl
  obtain⟨t,e⟩:=hv j _ h1;rw[AJ ADj,AJ hj]
  rw[Ad,AJ hj] at e;have e1:=(Value.str.inj e).1;simp only[Option.map_some,Option.getD_some] at e1⊢;rw[e1]
 ·rw[B7 ADj,B7 ADj];rfl
theorem It.text_len(i:It):i.text.length=i.len:=by
 show(KV eS [i.f,i.p]).cps.size=i.f.cps.size+i.p.cps.size
 simp[KV,eS]
theorem UG: ∀AH:List It,((AH.map It.text).map (·.length)).sum=CN AH
 |[]=>rfl
 |i::r=>by
  simp only[Aw,Ea,CN,It.text_len];rw[UG r,CN]
theorem fm(O:B.C.Ok)(hS:B.Std){A:AL}(U:AA 6 A)(L x dx n t:Nat)(AH:List It)(hI:CY AH):
 AC B.C A (Ac (A4 B.P 174) (AR B.P 174 [] (L+323))) [AI L [(AM,J x)],BS x dx AH,A3 dx (.int (n:Int) t),Ai AH]
  (λk:Nat=>.ret (.str (Bq AH) k)) (λYa=>[BS x dx AH,A3 dx (.int (n:Int) t),Ai AH]):=by
 intro R s S;rw[qP];obtain⟨m3,dI,_,_,ur,_⟩:=rz O S;refine Gg (Kg (Call_method1 rfl rfl rfl (GQ ADk ADk (LO (mg:=m3) (by rw[show(AR B.P 174 [] (L+323)).globals=3 from by kernel_rfl];exact dI) ur ?_) ADk)))
 refine⟨"str","str.join",F.plainAttrs_str,F.slot_str_join,F.type_str_join,UV _ _ _,(λYa e=>nomatch e),?_⟩;refine Hw rfl (I0 (Ek ?_));refine Zc O hS U.l (P:=169) (c:=173) (.inr rfl) ADk (kh O) ADk (AH:=AH) (x:=x) (dx:=dx) (R:=AI L [(AM,J x)]::A3 dx (.int (n:Int) t)::R)
  (F:=λj y=> ∃t,y=.str (AH.getD j Au).text t)
  rfl ADk ADm ADk ADk ADk ADm rfl (λYa=>rfl) ?_ ?_ ?_
 ·refine AC.wp (je O (A:=A) U.l L (J x)) S λYa s₂ S₂=>?_
  have O3:St B.C ([BS x dx AH]++(Ai AH::AI L [(AM,J x)]::A3 dx (.int (n:Int) t)::R)) s₂:=S₂.perm (by
   simp only[A5,Al];refine .trans (Ae _ _ _) (.cons _ ?_);refine .trans ((Ae _ _ _).cons _) ?_;exact Ae _ _ _)
  refine AC.wp (Vw O (A:=A) U.l x dx (AH.map It.v)) O3 λI s₃ S₃=>?_;exact⟨I,rfl,S₃⟩
 ·exact λs₄ I C code Lx KG S₄ hk=>dq O hI ADk rfl ADk ADk ADk ADm ADm rfl s₄ I C code Lx KG S₄ hk
 ·intro s₂ s₅ I a fp wr g Gen S₂ Qw l9 ux vB mP tB vJ l_ Vo eV W hG hT
  refine Hx ?_;refine SC.joinGen W.of_in1.of_in1 hT hG mP tB (λi v ⟨t,e⟩=>⟨_,t,e⟩) (λs' l hm hl=>?_) (AK hI.1 ADm)
  have Zi:=pO hl;rw[Zi];have hw:((AH.map It.text).map (·.length)).sum+(AH.map It.text).length<=1048576:=by
   rw[UG,AD]
   have:=hI.sum
   have:=hI.1
   lia
  refine⟨joinOk_of_weight hw ADm,λt' k=>⟨t',rfl,?_⟩⟩
  have O3:St B.C (NU I (x+323) 0::([BS x dx AH,A3 dx (.int (n:Int) t),Ai AH]++R)) s₂:=by
   refine St.drop (L':=[AI L [(AM,J x)]]) (S₂.perm (.cons _ (.cons _ ?_)));refine .trans (.cons _ (Ae _ _ _)) (.trans (Ae _ _ _) (.cons _ (.cons _ ?_)))
   exact(Bm _ _).symm
  refine fB O hS O3 (.inr rfl) (λb o uX uY e=>hm.heap b o (λhw=>?_) (Qw b o uY e)) ?_ l9.choose_spec.2 ?_ ?_
  ·rcases vJ b hw with h|h
   ·exact uX h
   ·rw[h] at e;cases e
  ·exact hm.heap _ _ l_ l9.choose_spec.1
  ·exact AllBare.moved ux hm.gens
  ·exact hm.os.trans vB
end
include O
def lC(hS:B.Std)(U:AA 8 A)(x dx n t:Nat)(AH:List It)(hI:CY AH)(hn:n<=1000000):Ag B.C A where
 c:=.call (.ref 167) ⟨[J x],[]⟩
 F:=[BS x dx AH,A3 dx (.int (n:Int) t),Ai AH]
 X:=Nat
 res:=λk=>.ok (.ret (.int ((n+CN AH:Nat):Int) k))
 led:=λk=>[BS x dx AH,A3 dx (.int (n:Int) t),Ai AH]
 ok:=EU O U [(AM,J x)]
  (λa=>BK (fe O hS (AA.deeper U.l) a x dx n t AH hI hn))
def lO(hS:B.Std)(U:AA 8 A)(x dx n t:Nat)(AH:List It)(hI:CY AH):Ag B.C A where
 c:=.call (.ref 174) ⟨[J x],[]⟩
 F:=[BS x dx AH,A3 dx (.int (n:Int) t),Ai AH]
 X:=Nat
 res:=λk=>.ok (.ret (.str (Bq AH) k))
 led:=λk=>[BS x dx AH,A3 dx (.int (n:Int) t),Ai AH]
 ok:=EU O U [(AM,J x)]
  (λa=>BK (fm O hS (AA.deeper U.l) a x dx n t AH hI))
theorem ZC(U:AA 12 A)(x dx n t:Nat)(AH:List It)(hS:B.Std)(hI:CY AH)(hn:n<=1000000):
 AC B.C A (ED (J x) "__len__") [BS x dx AH,A3 dx (.int (n:Int) t),Ai AH]
  (λk:Nat=>some (Be ((n+CN AH:Nat):Int) k))
  (λk=>[BS x dx AH,A3 dx (.int (n:Int) t),Ai AH]):=
 rn O U (.g 1073741825<|.cc (lC O hS U.l x dx n t AH hI hn) [0,0,0] λy0=>.fi (y0) [0,0,0])
theorem lU(U:AA 12 A)(x dx n t:Nat)(AH:List It)(hS:B.Std)(hI:CY AH):
 AC B.C A (ED (J x) "__str__") [BS x dx AH,A3 dx (.int (n:Int) t),Ai AH]
  (λk:Nat=>some (Co (Bq AH) k))
  (λk=>[BS x dx AH,A3 dx (.int (n:Int) t),Ai AH]):=
 rn O U (.g 1073741825<|.cc (lO O hS U.l x dx n t AH hI) [0,0,0] λy0=>.fi (y0) [0,0,0])
theorem fx(U:AA 1 A)(x dx n t:Nat)(AH:List It):
 AS B A (AU "len" ⟨[J x],[]⟩) [BS x dx AH,A3 dx (.int (n:Int) t),Ai AH] () [BS x dx AH,A3 dx (.int (n:Int) t),Ai AH]:=
 by apply Hc O U (.fi () [0,0,0])
omit O
section
variable{C:Cx}{A:AL}{F:AN}
theorem AA.units{n:Nat}{A:AL}(h:AA n A):A.units<cLine:=by have:=h.2.2;lia
theorem d4{a:Addr}{x:Str}{led:Nat->AN}(hu:A.units<cLine)(h:AC C A (ED (.ref a) "__str__") F (λk:Nat=>some (.str x k)) led):
 AC C A (KW (.ref a)) F (λk:Nat=>Co x k) led:=by
 intro R s S;unfold KW;refine iN (show¬(Builtin.Str.isExactStr (.ref a)=true) from BP) ?_;refine AB (m:=cRoomFor _ _) (wpAny_cRoomFor hu ?_);refine AB (m:=ED _ (JO "__str__")) (AC.wp h S λk s₁ S₁=>?_);exact AP ⟨k,rfl,S₁⟩
theorem Q3{prog:Program}{w:World}{v:Value}:MeetsIn prog w (Builtin.«str.__new__» ⟨[.type "str",v],[]⟩)
 (λA R s=>BN (Qf prog w) A.in1 (KW v) (λr s'=>R (.ok (.ret r)) s') (λe s'=>R (.error e) s') s):=.of_wp λA R s h=>by
 rw[str_new_tree v];refine AB (AP ?_);refine AB (GR isSubtype_str_str ?_);exact AB (Av h (λr s' h'=>AP ⟨_,rfl,h'⟩) λYa Ya e=>e)
theorem YR{a:Addr}{x:Str}{led:Nat->AN}(U:AA 2 A)(h:AC C A.in1.in1 (ED (.ref a) "__str__") F (λk:Nat=>some (.str x k)) led):
 Bv C A (.call (.type "str") ⟨[.ref a],[]⟩) F (λk:Nat=>.ok (.ret (.str x k))) led:=G2 λR s S=>by
 refine callType_newIn PySem.F.called_str ADm (PySem.F.typeCall_str_1 _) (PySem.F.newCall_str_1 _) (λobj=>PySem.F.args_object_init_2 obj _) PySem.F.entry_str_new Q3 ?_
 refine AC.wp (d4 (AA.units (U.le (ADm:1+1<=2)).in1.in1) h) S λk s₁ S₁=>?_
 exact⟨UV _ _ _,k,rfl,S₁⟩
theorem IG{v:Value}{m:Nat}{led:Nat->AN}(hm:m<2^62)(h:AC C A (ED v "__len__") F (λk:Nat=>some (.int (m:Int) k)) led):
 AC C A (Mp ⟨[v],[]⟩) F (λp:Nat×Nat=>Az (.ret (.int (m:Int) p.2))) (λp=>led p.1):=by
 intro R s S;unfold Mp;refine AB (m:=oneArg "len" _) (AP ?_);refine AB (m:=ED _ (JO "__len__")) (AC.wp h S λk s₁ S₁=>?_);show BN _ _ _ _ _ s₁;refine AB (Kv (AP ?_));refine AB (Rz ?_);show BN _ _ (if((m:Nat):Int)<0 then _ else _) _ _ _
 refine iN ADj ?_
 show BN _ _ (if((m:Nat):Int)≥2^63 then _ else _) _ _ _
 refine iN ADj ?_
 exact AB (wpAny_mkInt (AP ⟨(k,s₁.toks),rfl,S₁.toks _ (Eb _)⟩))
end
theorem L7{C:Cx}{A:AL}{F:AN}{X:Type}{id:String}{b:KU}{args:LN}{val:X->Value}{led:X->AN}(hp:H4 id=true)(hb:C1 FZ id=some b)
 (h:AC C A.in1 (b args) F (λx=>.done (.ret (val x))) led):Bv C A (.builtin id args) F (λx=>.ok (.ret (val x))) led:=Bu λR s S=>by
 refine Ez hb ?_;rw[BX hp args];exact AC.wp h S λx s₂ S₂=>⟨x,rfl,S₂⟩
theorem Kz:C1 FZ "len"=some Mp:=B2 ADk
include O
def gX(hS:B.Std)(U:AA 14 A)(x dx n t:Nat)(AH:List It)(hI:CY AH)(hn:n<=1000000):Ag B.C A where
 c:=.call (.builtin "len") ⟨[J x],[]⟩
 F:=[BS x dx AH,A3 dx (.int (n:Int) t),Ai AH]
 X:=Nat×Nat
 res:=λp=>.ok (.ret (.int ((n+CN AH:Nat):Int) p.2))
 led:=λp=>[BS x dx AH,A3 dx (.int (n:Int) t),Ai AH]
 ok:=BF ADl Kz (fx O U.l.in1 x dx n t AH) (IG (by have:=hI.sum;lia) (ZC O (A:=A.in1) U.l.in1 x dx n t AH hS hI hn))
def N6(hS:B.Std)(U:AA 15 A)(x dx n t:Nat)(AH:List It)(hI:CY AH):Ag B.C A where
 c:=.call (.type "str") ⟨[J x],[]⟩
 F:=[BS x dx AH,A3 dx (.int (n:Int) t),Ai AH]
 X:=Nat
 res:=λk=>.ok (.ret (.str (Bq AH) k))
 led:=λk=>[BS x dx AH,A3 dx (.int (n:Int) t),Ai AH]
 ok:=YR U.l (lU O (A:=A.in1.in1) (AA.in1 (AA.in1 U.l)) x dx n t AH hS hI)
theorem ZD(U:AA 4 A)(i:Str)(t:Nat):
 AC B.C A (ED (.str i t) "__len__") []
  (λk:Nat=>some (Be (i.length:Int) k))
  (λk=>[]):=
 rn O U (.cc (gq O U.l i t) [] λy0=>.fi (y0) [])
theorem fz(U:AA 1 A)(i:Str)(t:Nat):
 AS B A (AU "len" ⟨[.str i t],[]⟩) [] () []:=
 by apply Hc O U (.fi () [])
noncomputable def JQ(U:AA 6 A)(i:Str)(t:Nat)(hi:i.length<=1000000):Ag B.C A where
 c:=.call (.builtin "len") ⟨[.str i t],[]⟩
 F:=[]
 X:=Nat×Nat
 res:=λp=>.ok (.ret (.int (i.length:Int) p.2))
 led:=λp=>[]
 ok:=BF ADl Kz (fz O U.l.in1 i t) (IG (Em hi ADm) (ZD O (A:=A.in1) U.l.in1 i t))
def bw(U:AA 3 A)(x:Nat)(xs:Ak):Ag B.C A:=
 DN O U "list.__len__" [J x] [AE x xs] (λk:Nat=>.int (xs.length:Int) k) (λk=>[AE x xs]) (λU=>.g 65<|.fi () [0]) λU=>.g 65<|.fr λk0=>.fi (k0) [0]
theorem lT(U:AA 4 A)(x:Nat)(xs:Ak):
 AC B.C A (ED (J x) "__len__") [AE x xs]
  (λk:Nat=>some (Be (xs.length:Int) k))
  (λk=>[AE x xs]):=
 rn O U (.g 65<|.cc (bw O U.l x xs) [0] λy0=>.fi (y0) [0])
theorem fy(U:AA 1 A)(x:Nat)(xs:Ak):
 AS B A (AU "len" ⟨[J x],[]⟩) [AE x xs] () [AE x xs]:=
 by apply Hc O U (.fi () [0])
def IL(U:AA 6 A)(x:Nat)(xs:Ak)(hx:xs.length<=1000):Ag B.C A where
 c:=.call (.builtin "len") ⟨[J x],[]⟩
 F:=[AE x xs]
 X:=Nat×Nat
 res:=λp=>.ok (.ret (.int (xs.length:Int) p.2))
 led:=λp=>[AE x xs]
 ok:=BF ADl Kz (fy O U.l.in1 x xs) (IG (Em hx ADm) (lT O (A:=A.in1) U.l.in1 x xs))
def MD(hS:B.Std)(U:AA 14 A)(x dx n t z:Nat)(AH:List It)(hI:CY AH)(hn:n<=1000000)(hz:n+CN AH=z):Ag B.C A:=
 (gX O hS U x dx n t AH hI hn).re (λk:Nat×Nat=>.ok (.ret (.int (z:Int) k.2))) (λk=>[BS x dx AH,A3 dx (.int (n:Int) t),Ai AH]) (λk=>k) (λk=>by subst hz;rfl) (λYa=>rfl)
def bq(hS:B.Std)(U:AA 14 A)(x dx n t z:Nat)(AH:List It)(hI:CY AH)(hn:n<=1000000)(hz:n+CN AH=z):Ag B.C A where
 c:=.builtin "len" ⟨[J x],[]⟩
 F:=[BS x dx AH,A3 dx (.int (n:Int) t),Ai AH]
 X:=Nat×Nat
 res:=λp=>.ok (.ret (.int (z:Int) p.2))
 led:=λp=>[BS x dx AH,A3 dx (.int (n:Int) t),Ai AH]
 ok:=by subst hz;exact L7 ADl Kz (IG (by have:=hI.sum;lia) (ZC O (A:=A.in1) U.l.in1 x dx n t AH hS hI hn))
theorem Wb(U:AA 18 A)(L x dx n t:Nat)(AH:List It)(hS:B.Std)(hI:CY AH):
 AS B A (Ac (A4 B.P 189) (AR B.P 189 [] (L+323))) [AI L [(AM,J x)],BS x dx AH,A3 dx (.int ((n+1:Nat):Int) t),Ai AH] (.ret (.bool false)) [BS x dx AH,A3 dx (.int ((n+1:Nat):Int) t),Ai AH]:=by
 obtain⟨_,_|_⟩:=B<;>exact D7 O U (.g 65<|.fr λk0=>.g 4398046511106<|.cc (JG O U.l x dx (B0 It.v AH) (.int (↑(n+1)) t) k0) [1,1] λYa=>.fr λk2=>.cc (Kx O U.l (↑(n+1)) 0 t k2) [] λYa=>.fi () [0,0,1])
theorem Wc(U:AA 18 A)(L x dx t m:Nat)(AH:List It)(hS:B.Std)(hI:CY AH)(hz:0+CN AH=m+1)(hw:(decide ((Bq AH).length>0)&&(Bq AH).cps.all Cg)=false):
 AS B A (Ac (A4 B.P 189) (AR B.P 189 [] (L+323))) [AI L [(AM,J x)],BS x dx AH,A3 dx (.int ((0:Nat):Int) t),Ai AH] (.ret (.bool false)) [BS x dx AH,A3 dx (.int ((0:Nat):Int) t),Ai AH]:=by
 obtain⟨_,_|_⟩:=B<;>exact D7 O U (.g 65<|.fr λk0=>.g 4398046511106<|.cc (JG O U.l x dx (B0 It.v AH) (.int (↑0) t) k0) [1,1] λYa=>.fr λk2=>.cc (Kx O U.l ↑0 0 t k2) [] λYa=>.g 18014399583223875<|.cc (bq O hS U.l x dx 0 t (m+1) AH hI (by first|lia|assumption) hz) [0,0,1] λYa=>.g 278528<|.cc (N6 O hS U.l x dx 0 t AH hI) [0,0,0] λy5=>.cc (gr _ _ O U.l (Bq AH) y5 hw) [] λYa=>.fi () [0,0,0])
def bk(hS:B.Std)(U:AA 20 A)(x dx n t:Nat)(AH:List It)(hI:CY AH):Ag B.C A where
 c:=.call (.ref 189) ⟨[J x],[]⟩
 F:=[BS x dx AH,A3 dx (.int ((n+1:Nat):Int) t),Ai AH]
 X:=Unit
 res:=λYa=>.ok (.ret (.bool false))
 led:=λYa=>[BS x dx AH,A3 dx (.int ((n+1:Nat):Int) t),Ai AH]
 ok:=EU O U [(AM,J x)]
  (λa=>BK (Wb O (AA.deeper U.l) a x dx n t AH hS hI))
def bl(hS:B.Std)(U:AA 20 A)(x dx t m:Nat)(AH:List It)(hI:CY AH)(hz:0+CN AH=m+1)(hw:(decide ((Bq AH).length>0)&&(Bq AH).cps.all Cg)=false):Ag B.C A where
 c:=.call (.ref 189) ⟨[J x],[]⟩
 F:=[BS x dx AH,A3 dx (.int ((0:Nat):Int) t),Ai AH]
 X:=Unit
 res:=λYa=>.ok (.ret (.bool false))
 led:=λYa=>[BS x dx AH,A3 dx (.int ((0:Nat):Int) t),Ai AH]
 ok:=EU O U [(AM,J x)]
  (λa=>BK (Wc O (AA.deeper U.l) a x dx t m AH hS hI hz hw))
omit O
theorem AA.under{n:Nat}{A:AL}{c:Code}(h:AA (n+1) A)(hw:c.weight<=1)(hu:c.cUnits<=12):AA n (A.under c):=by
 refine⟨h.1,?_,?_⟩
 ·have:=h.2.1
  show A.depth+c.weight+n<_
  lia
 ·have:=h.2.2
  show A.units+c.cUnits+_<_
  lia
section
variable{C:Cx}{A:AL}{F:AN}{X:Type}
theorem Dn{f:Value}{args:LN}{id:String}{Di:LN}{val:X->Value}{led:X->AN}
 (h1:AC C (A.under (.call f args)) (BM (.call f args)) F (λYa:Unit=>.again (.builtin id Di)) (λYa=>F)) (hq:(FD id Di).quiet=true)
 (h2:AC C (A.under (.builtin id Di)) (BM (.builtin id Di)) F (λx=>Az (.ret (val x))) led):Bv C A (.call f args) F (λx=>.ok (.ret (val x))) led:=
 Bu λR s S=>by
  refine BL ?_;rw[E4 C];refine AC.wp h1 S λYa s₁ S₁=>?_;refine⟨hq,BL ?_⟩;rw[E4 C];exact AC.wp h2 S₁ λx s₂ S₂=>⟨x,rfl,S₂⟩
end
noncomputable abbrev EZ(a:Nat)(u v w:Value):Bi:=.one (a+323) (.ex ⟨.type "super",none,.fields ⟨[u,v,w]⟩,⟨[]⟩⟩)
include O
theorem iD(U:AA 1 A)(x dx:Nat)(xs:Ak):
 AS B A (BM (.call (.type "super") ⟨[.ref 200,J x],[]⟩)) [AY x dx xs] (.again (.builtin "type.__call__" ⟨[.type "super",.ref 200,J x],[]⟩)) [AY x dx xs]:=
 rn O U (.fi () [0])
def Ux(U:AA 3 A)(x dx:Nat)(xs:Ak):Ag B.C A:=
 DN O U "super.__new__" [.type "super",.ref 200,J x] [AY x dx xs] (λa:Nat=>J a) (λa=>[EZ a .none .none .none,AY x dx xs]) (λU=>.fi () [0]) λU=>.al λa0=>.fi (a0) [0,0]
def TK(U:AA 3 A)(x dx a:Nat)(xs:Ak):Ag B.C A:=
 DN O U "super.__init__" [J a,.ref 200,J x] [EZ a .none .none .none,AY x dx xs] (λYa:Unit=>.none) (λYa=>[EZ a (.ref 200) (J x) (.ref 200),AY x dx xs]) (λU=>.g 65<|.fi () [0,0]) λU=>.g 1729804572471337088<|.fi () [0,0]
theorem jv(U:AA 4 A)(x dx:Nat)(xs:Ak):
 AC B.C A (BM (.builtin "type.__call__" ⟨[.type "super",.ref 200,J x],[]⟩)) [AY x dx xs]
  (λa:Nat=>.done (.ret (J a)))
  (λa=>[EZ a (.ref 200) (J x) (.ref 200),AY x dx xs]):=
 rn O U (.g 64<|.cc (Ux O U.l x dx xs) [0] λy0=>.g 4161<|.cc (TK O U.l x dx y0 xs) [0,0] λYa=>.fi (y0) [0,0])
omit O
theorem aS(args:Ak):(FD "type.__call__" ⟨args,[]⟩).weight<=1/\(FD "type.__call__" ⟨args,[]⟩).cUnits=1:=by
 refine⟨?_,rfl⟩;unfold Code.weight;have h1:(FD "type.__call__" ⟨args,[]⟩).frames=0:=rfl;have h2:(FD "type.__call__" ⟨args,[]⟩).isGuard=false:=by rfl
 have h3:(FD "type.__call__" ⟨args,[]⟩).isCaller=false:=by rfl
 rw[h1,h2,h3]
 split<;>simp
theorem aR(f:Value)(args:Ak):(OF f ⟨args,[]⟩).weight=0/\(OF f ⟨args,[]⟩).cUnits=1:=⟨rfl,rfl⟩
theorem AA.ty{n:Nat}{A:AL}(h:AA (n+1) A)(args:Ak):AA n (A.under (.builtin "type.__call__" ⟨args,[]⟩)):=h.under (aS args).1 (by rw[(aS args).2];lia)
theorem AA.ca{n:Nat}{A:AL}(h:AA (n+1) A)(f:Value)(args:Ak):AA n (A.under (.call f ⟨args,[]⟩)):=h.under (by rw[(aR f args).1];lia) (by rw[(aR f args).2];lia)
theorem F0(args:LN):(FD "type.__call__" args).quiet=true:=Jt _ ADl
include O
def cJ(U:AA 5 A)(x dx:Nat)(xs:Ak):Ag B.C A where
 c:=.call (.type "super") ⟨[.ref 200,J x],[]⟩
 F:=[AY x dx xs]
 X:=Nat
 res:=λa=>.ok (.ret (J a))
 led:=λa=>[EZ a (.ref 200) (J x) (.ref 200),AY x dx xs]
 ok:=Dn (iD O (A:=A.under (.call (.type "super") ⟨[.ref 200,J x],[]⟩)) (U.l.ca _ _) x dx xs) (F0 _) (jv O (A:=A.under (.builtin "type.__call__" ⟨[.type "super",.ref 200,J x],[]⟩)) (U.ty _) x dx xs)
omit O
theorem qQ(B:Bx):A4 B.P 197=[.Return (some (vE (mN 7 8 0))) (pS 135 8 32)]:=by kernel_rfl
theorem eK(B:Bx):A4 B.P 160=[.If (vE (mN 7 3 0)) (nB (mN 7 3 0)) [] ⟨115,8,116,27⟩,.Return (some (vE (mN 7 3 1))) (pS 117 8 28)]:=by kernel_rfl
theorem eJ(B:Bx):A4 B.P 137=[mN 7 0 0,.Expr (vE (mN 7 0 1)) (pS 104 8 26)]:=by kernel_rfl
noncomputable abbrev J6(a:Nat)(f:String)(x:Addr):Bi:=.one (a+323) (.ex ⟨.type "method-wrapper",none,.fields ⟨[.builtin f,.ref x]⟩,⟨[]⟩⟩)
noncomputable abbrev WX(a:Nat)(f:String)(x:Addr):Bi:=.one (a+323) (.ex ⟨.type "builtin_function_or_method",none,.fields ⟨[.builtin f,.ref x]⟩,⟨[]⟩⟩)
include O
def Wv(U:AA 3 A)(x dx:Nat)(xs:Ak):Ag B.C A:=
 DN O U "wrapper_descriptor.__get__" [.builtin "list.__len__",J x,.ref 200] [AY x dx xs] (λa:Nat=>J a) (λa=>[J6 a "list.__len__" (x+323),AY x dx xs]) (λU=>.fi () [0]) λU=>.g 4097<|.al λa0=>.fi (a0) [0,0]
def Ww(U:AA 3 A)(x dx:Nat)(xs:Ak):Ag B.C A:=
 DN O U "method_descriptor.__get__" [.builtin "list.pop",J x,.ref 200] [AY x dx xs] (λa:Nat=>J a) (λa=>[WX a "list.pop" (x+323),AY x dx xs]) (λU=>.fi () [0]) λU=>.g 4097<|.al λa0=>.fi (a0) [0,0]
def Us(U:AA 3 A)(x dx:Nat)(xs:Ak):Ag B.C A:=
 DN O U "wrapper_descriptor.__get__" [.builtin "list.__init__",J x,.ref 200] [AY x dx xs] (λa:Nat=>J a) (λa=>[J6 a "list.__init__" (x+323),AY x dx xs]) (λU=>.fi () [0]) λU=>.g 4097<|.al λa0=>.fi (a0) [0,0]
def Ym(U:AA 5 A)(x dx so t:Nat)(xs:Ak):Ag B.C A:=
 DN O U "super.__getattribute__" [J so,.str ⟨⟨[95,95,108,101,110,95,95]⟩⟩ t] [EZ so (.ref 200) (J x) (.ref 200),AY x dx xs] (λa:Nat=>J a) (λa=>[J6 a "list.__len__" (x+323),AY x dx xs]) (λU=>.g 65<|.fi () [0,0]) λU=>.g 1073745985<|.cc (Wv O U.l x dx xs) [1] λ(y0:Nat)=>.fi (y0) [0,0]
theorem qt(U:AA 6 A)(x dx so:Nat)(xs:Ak)(pl:Sem Bool):
 AC B.C A (LX (J so) ⟨⟨[95,95,108,101,110,95,95]⟩⟩ pl) [EZ so (.ref 200) (J x) (.ref 200),AY x dx xs]
  (λa:Nat=>(J a,([]:Ak)))
  (λa=>[J6 a "list.__len__" (x+323),AY x dx xs]):=
 xV O U (.g 65<|.fr λk0=>.g 65<|.cc (Ym O U.l x dx so k0 xs) [0,0] λy1=>.fi (y1) [0,0])
def Yn(U:AA 5 A)(x dx so t:Nat)(xs:Ak):Ag B.C A:=
 DN O U "super.__getattribute__" [J so,.str ⟨⟨[112,111,112]⟩⟩ t] [EZ so (.ref 200) (J x) (.ref 200),AY x dx xs] (λa:Nat=>J a) (λa=>[WX a "list.pop" (x+323),AY x dx xs]) (λU=>.g 65<|.fi () [0,0]) λU=>.g 1073745985<|.cc (Ww O U.l x dx xs) [1] λ(y0:Nat)=>.fi (y0) [0,0]
theorem qu(U:AA 6 A)(x dx so:Nat)(xs:Ak)(pl:Sem Bool):
 AC B.C A (LX (J so) ⟨⟨[112,111,112]⟩⟩ pl) [EZ so (.ref 200) (J x) (.ref 200),AY x dx xs]
  (λa:Nat=>(J a,([]:Ak)))
  (λa=>[WX a "list.pop" (x+323),AY x dx xs]):=
 xV O U (.g 65<|.fr λk0=>.g 65<|.cc (Yn O U.l x dx so k0 xs) [0,0] λy1=>.fi (y1) [0,0])
def Wu(U:AA 5 A)(x dx so t:Nat)(xs:Ak):Ag B.C A:=
 DN O U "super.__getattribute__" [J so,.str ⟨⟨[95,95,105,110,105,116,95,95]⟩⟩ t] [EZ so (.ref 200) (J x) (.ref 200),AY x dx xs] (λa:Nat=>J a) (λa=>[J6 a "list.__init__" (x+323),AY x dx xs]) (λU=>.g 65<|.fi () [0,0]) λU=>.g 1073745985<|.cc (Us O U.l x dx xs) [1] λ(y0:Nat)=>.fi (y0) [0,0]
theorem l5(U:AA 6 A)(x dx so:Nat)(xs:Ak)(pl:Sem Bool):
 AC B.C A (LX (J so) ⟨⟨[95,95,105,110,105,116,95,95]⟩⟩ pl) [EZ so (.ref 200) (J x) (.ref 200),AY x dx xs]
  (λa:Nat=>(J a,([]:Ak)))
  (λa=>[J6 a "list.__init__" (x+323),AY x dx xs]):=
 xV O U (.g 65<|.fr λk0=>.g 65<|.cc (Wu O U.l x dx so k0 xs) [0,0] λy1=>.fi (y1) [0,0])
omit O
section
variable{C:Cx}{A:AL}{F:AN}{X:Type}
theorem Ui{f:Value}{args:LN}{id:String}{b:KU}{Di:LN}{val:X->Value}{led:X->AN}
 (h1:AC C (A.under (.call f args)) (BM (.call f args)) F (λYa:Unit=>.again (.builtin id Di)) (λYa=>F)) (hp:H4 id=true) (hb:C1 FZ id=some b)
 (h2:AC C A.in1 (b Di) F (λx=>Az (.ret (val x))) led):Bv C A (.call f args) F (λx=>.ok (.ret (val x))) led:=
 Bu λR s S=>by
  refine BL ?_;rw[E4 C];refine AC.wp h1 S λYa s₁ S₁=>?_;refine⟨DH hp _,Ez hb ?_⟩;rw[BX hp Di];exact AC.wp h2 S₁ λx s₂ S₂=>⟨x,rfl,S₂⟩
theorem Ue{l m:Addr}{c:Value}{d:Option Addr}{xs:Ak}{v:Value}{ao:AO}(hx:xs.length<1000):
 AC C A (Builtin.«list.pop» ⟨[.ref l],[]⟩) [.one m ao,.one l (.ls c d (xs++[v]))] (λYa:Unit=>Az (.ret v)) (λYa=>[.one m ao,.one l (.ls c d xs)]):=by
 intro R s S;have S':St C (.one l (.ls c d (xs++[v]))::.one m ao::R) s:=S.perm (Ae _ _ _);obtain⟨g,ho⟩:=S'.Dj;unfold Builtin.«list.pop»;refine AB (m:=selfAndSome "list.pop" "pop" 0 1 _) (AP ?_)
 dsimp only
 refine AB (m:=pure (-1)) (AP ?_);refine iN (show¬((!GP (-1))=true) by decide) ?_
 refine AB (m:=A7 _) ?_;unfold A7;refine AB (DG ho rfl (AP ?_));refine iN ADn ?_
 have hk:((F4 (-1) ((⟨xs++[v]⟩:Bs).size)).bind λk=>((⟨xs++[v]⟩:Bs)[k]?).map (k, ·))=some (xs.length,v):=by
  have h1:F4 (-1) ((⟨xs++[v]⟩:Bs).size)=some xs.length:=by
   show F4 (-1) (xs++[v]).length=_;rw[AX];unfold F4;simp
   lia
  rw[h1];simp
 rw[hk];refine AB (m:=Df _ _) (G9 ho rfl (AP ⟨(),rfl,?_⟩) ?_ ?_)
 ·refine(St.No S' (t:=s.toks) (B1 ..) (CO _ ho ?_) (ao':=.ls c d xs) ?_).perm (Ae _ _ _)
  ·rfl
  ·refine MO ?_
   apply Array.toList_inj.mp;simp[Hd]
 ·show(xs++[v]).length<=_
  rw[Br,AX,CF];lia
 ·show((⟨xs++[v]⟩:Bs).eraseIdxIfInBounds xs.length).size<=_
  rw[show((⟨xs++[v]⟩:Bs).eraseIdxIfInBounds xs.length)=⟨xs⟩ from by
   apply Array.toList_inj.mp;simp[Hd]]
  show xs.length<=_;rw[Br];lia
end
include O
theorem qx(U:AA 1 A)(x dx a:Nat)(xs:Ak):
 AS B A (BM (.call (J a) ⟨[],[]⟩)) [J6 a "list.__len__" (x+323),AY x dx xs] (.again (.builtin "list.__len__" ⟨[J x],[]⟩)) [J6 a "list.__len__" (x+323),AY x dx xs]:=
 rn O U (.g 65<|.fi () [0,0])
theorem gz(U:AA 1 A)(x dx a:Nat)(xs:Ak):
 AC B.C A (BM (.builtin "list.__len__" ⟨[J x],[]⟩)) [J6 a "list.__len__" (x+323),AY x dx xs]
  (λk:Nat=>.done (.ret (.int (xs.length:Int) k)))
  (λk=>[J6 a "list.__len__" (x+323),AY x dx xs]):=
 rn O U (.g 66<|.fr λk0=>.fi (k0) [0,0])
theorem qy(U:AA 1 A)(x dx a:Nat)(xs:Ak):
 AS B A (BM (.call (J a) ⟨[],[]⟩)) [WX a "list.pop" (x+323),AY x dx xs] (.again (.builtin "list.pop" ⟨[J x],[]⟩)) [WX a "list.pop" (x+323),AY x dx xs]:=
 rn O U (.g 4398080589953<|.fi () [0,0])
theorem l7(U:AA 1 A)(x dx a:Nat):
 AS B A (BM (.call (J a) ⟨[],[]⟩)) [J6 a "list.__init__" (x+323),AY x dx []] (.again (.builtin "list.__init__" ⟨[J x],[]⟩)) [J6 a "list.__init__" (x+323),AY x dx []]:=
 rn O U (.g 65<|.fi () [0,0])
theorem ce(U:AA 1 A)(x dx a:Nat):
 AS B A (BM (.builtin "list.__init__" ⟨[J x],[]⟩)) [J6 a "list.__init__" (x+323),AY x dx []] (Az (B6 .none)) [J6 a "list.__init__" (x+323),AY x dx []]:=
 rn O U (.g 17436802<|.fi () [0,0])
omit O
theorem ZN:C1 FZ "list.pop"=some Builtin.«list.pop»:=B2 ADk
include O
def Wq(U:AA 3 A)(x dx a:Nat)(xs:Ak):Ag B.C A where
 c:=.call (J a) ⟨[],[]⟩
 F:=[J6 a "list.__len__" (x+323),AY x dx xs]
 X:=Nat
 res:=λk=>.ok (.ret (.int (xs.length:Int) k))
 led:=λk=>[J6 a "list.__len__" (x+323),AY x dx xs]
 ok:=Dn (qx O (A:=A.under (.call (J a) ⟨[],[]⟩)) (U.l.ca _ _) x dx a xs) (Jt _ ADl) (by
  rw[BX ADl]
  exact gz O (A:=A.in1) U.l.in1 x dx a xs)
def Wr(U:AA 3 A)(x dx a:Nat)(xs:Ak)(v:Value)(hx:xs.length<1000):Ag B.C A where
 c:=.call (J a) ⟨[],[]⟩
 F:=[WX a "list.pop" (x+323),AY x dx (xs++[v])]
 X:=Unit
 res:=λYa=>.ok (.ret v)
 led:=λYa=>[WX a "list.pop" (x+323),AY x dx xs]
 ok:=Ui (qy O (A:=A.under (.call (J a) ⟨[],[]⟩)) (U.l.ca _ _) x dx a (xs++[v])) ADl ZN (Ue hx)
def Um(U:AA 3 A)(x dx a:Nat):Ag B.C A where
 c:=.call (J a) ⟨[],[]⟩
 F:=[J6 a "list.__init__" (x+323),AY x dx []]
 X:=Unit
 res:=λYa=>.ok (.ret .none)
 led:=λYa=>[J6 a "list.__init__" (x+323),AY x dx []]
 ok:=Dn (l7 O (A:=A.under (.call (J a) ⟨[],[]⟩)) (U.l.ca _ _) x dx a) (Jt _ ADl) (by
  rw[BX ADl]
  exact ce O (A:=A.in1) U.l.in1 x dx a)
theorem qh(U:AA 6 A)(x dx a:Nat)(xs:Ak)(pos:Pos):
 AC B.C A (LW pos (J a) [] [] []) [J6 a "list.__len__" (x+323),AY x dx xs]
  (λk:Nat=>Be (xs.length:Int) k)
  (λk=>[AY x dx xs]):=
 xU O U (.g 65<|.cc (Wq O U.l x dx a xs) [0,0] λy0=>.fi (y0) [1])
theorem qi(U:AA 6 A)(x dx a:Nat)(xs:Ak)(v:Addr)(pos:Pos)(hx:xs.length<1000):
 AS B A (LW pos (J a) [] [] []) [WX a "list.pop" (x+323),AY x dx (xs++[CC v])] (CC v) [AY x dx xs]:=
 xU O U (.g 65<|.cc (Wr O U.l x dx a xs (.ref v) hx) [0,0] λYa=>.fi () [1])
theorem lV(U:AA 6 A)(x dx a:Nat)(pos:Pos):
 AS B A (LW pos (J a) [] [] []) [J6 a "list.__init__" (x+323),AY x dx []] (CU) [AY x dx []]:=
 xU O U (.g 65<|.cc (Um O U.l x dx a) [0,0] λYa=>.fi () [1])
def CW:Str:=Bl [95,95,99,108,97,115,115,95,95]
theorem nU(U:AA 1 A)(L x:Nat)(v:Value):
 AS B A (Fx (AR B.P 197 [(CW,124)] (L+323)) "super") [AI L [(AM,J x)]] (HN "super") [AI L [(AM,J x)]]:=
 Xm O U (.g 4096<|.fi () [0])
theorem nR(U:AA 1 A)(L x:Nat)(v:Value):
 AS B A (Fx (AR B.P 197 [(CW,124)] (L+323)) "__class__") [AI L [(AM,J x)]] (CC 200) [AI L [(AM,J x)]]:=
 Xm O U (.g 64<|.fi () [0])
theorem nX(U:AA 1 A)(L x:Nat)(v:Value):
 AS B A (Fx (AR B.P 197 [(CW,124)] (L+323)) AM) [AI L [(AM,J x)]] (J x) [AI L [(AM,J x)]]:=
 Xm O U (.g 65<|.fi () [0])
theorem nT(U:AA 1 A)(L x:Nat)(v:Value):
 AS B A (Fx (AR B.P 160 [(CW,124)] (L+323)) "super") [AI L [(AM,J x)]] (HN "super") [AI L [(AM,J x)]]:=
 Xm O U (.g 4096<|.fi () [0])
theorem nQ(U:AA 1 A)(L x:Nat)(v:Value):
 AS B A (Fx (AR B.P 160 [(CW,124)] (L+323)) "__class__") [AI L [(AM,J x)]] (CC 200) [AI L [(AM,J x)]]:=
 Xm O U (.g 64<|.fi () [0])
theorem nW(U:AA 1 A)(L x:Nat)(v:Value):
 AS B A (Fx (AR B.P 160 [(CW,124)] (L+323)) AM) [AI L [(AM,J x)]] (J x) [AI L [(AM,J x)]]:=
 Xm O U (.g 65<|.fi () [0])
theorem nS(U:AA 1 A)(L x:Nat)(v:Value):
 AS B A (Fx (AR B.P 137 [(CW,124)] (L+323)) "super") [AI L [(AM,J x),(CV,v)]] (HN "super") [AI L [(AM,J x),(CV,v)]]:=
 Xm O U (.g 4096<|.fi () [0])
theorem nP(U:AA 1 A)(L x:Nat)(v:Value):
 AS B A (Fx (AR B.P 137 [(CW,124)] (L+323)) "__class__") [AI L [(AM,J x),(CV,v)]] (CC 200) [AI L [(AM,J x),(CV,v)]]:=
 Xm O U (.g 64<|.fi () [0])
theorem nV(U:AA 1 A)(L x:Nat)(v:Value):
 AS B A (Fx (AR B.P 137 [(CW,124)] (L+323)) AM) [AI L [(AM,J x),(CV,v)]] (J x) [AI L [(AM,J x),(CV,v)]]:=
 Xm O U (.g 65<|.fi () [0])
theorem zg(U:AA 1 A):
 AS B A (isType (.ref 200)) [] true []:=
 rn O U (.g 64<|.fi () [])
omit O
section
variable{B:Bx}
theorem L9{C:Cx}{A:AL}{L:AN}{X:Type}{body:Dx}{env:Env}{fl:X->OU}{led:X->AN}
 (h: ∀R s,St C (L++R) s->Ia C.M (A.deeper env) (.func body env) (Ac body env) (λf s'=> ∃x,f=fl x/\St C (led x++R) s') (λYa Ya=>False) s) (R:AN) (s:Af) (S:St C (L++R) s):
 Kc C.M A (.func body env) (λr s'=> ∃x,r=.ok (.ret (dw (fl x)))/\St C (led x++R) s') s:=by
 refine ks_codeAny_funcAt (Mg (h R s S) (λf s' hx=>?_) λYa Ya q=>q.elim);obtain⟨x,rfl,S'⟩:=hx;exact⟨x,rfl,S'⟩
theorem LH{C:Cx}{A:AL}{f:Value}{pos:Ak}{kw:BC}{F:AN}{X:Type}{val:X->Value}{led:X->AN}
 (h:Bv C A (.call f ⟨pos,kw⟩) F (λx=>.ok (.ret (val x))) led):AC C A (call f pos kw) F val led:=λR s S Γ p hΓ=>by
 have q:=h R s S Γ p hΓ;unfold Ql at q;rw[HY] at q;unfold UQ;rw[I9];refine I5 (λr s' hr=>?_) q;obtain⟨x,e,S'⟩: ∃x,r=_/\_:=hr;subst e;exact⟨x,rfl,S'⟩
theorem Nk(O:B.C.Ok){A:AL}(U:AA 8 A){f cc:Addr}{x dx L so:Nat}{xs:Ak}{l:BC}{body:Dx}{env:Env}{name:Str}{p0 p1 apos pos:Pos}{X:Type}{res:X->Value}{led:X->AN}{E:Nat->Bi}
 (hf:Vg B.P f=true) (hp:(((D4 B.P f).params.posonlyargs++(D4 B.P f).params.args).head?.map (·.arg))=some AM)
 (u8:env.kindOf "super"=some .globalImplicit) (hkc:env.kindOf "__class__"=some .free) (uW:(name==("__class__":Str))=false) (hfu:env.func=some f) (XQ:env.code=.ref cc)
 (hcc: ∃oc vs tf,GL B.P cc=some oc/\oc.data=.fields vs/\vs[2]? =some (.str "/claim/cut.py" tf))
 (h1:AC B.C A (Fx env "super") [AI L l] (λYa:Unit=>.type "super") (λYa=>[AI L l])) (h2:AC B.C A (Fx env "__class__") [AI L l] (λYa:Unit=>.ref 200) (λYa=>[AI L l]))
 (h3:AC B.C A (Fx env AM) [AI L l] (λYa:Unit=>J x) (λYa=>[AI L l]))
 (hm: ∀so pl,AC B.C A (LX (J so) name pl) [EZ so (.ref 200) (J x) (.ref 200),AY x dx xs] (λa:Nat=>(J a,([]:Ak))) (λa=>[E a,AY x dx xs]))
 (hcw: ∀a,AC B.C A (LW pos (J a) [] [] []) [E a,AY x dx xs] res led)
 {pl:Sem Bool} (he:Bf (.Call (.Attribute (.Call (.Name "super" p0) [] [] p1) name apos) [] [] pos) env=(do
  let ov<-attributeBase (.Call (.Name "super" p0) [] [] p1) name env (Bf (.Call (.Name "super" p0) [] [] p1) env)
  Ke apos.atName
  let(f,first)<-holding [ov] (LX ov name pl)
  LW pos f first (backTo pos (starEach [] env)) []))
 (R:AN) (s:Af) (S:St B.C ([AI L l,AY x dx xs]++R) s):
 Ia B.C.M A (.func body env) (Bf (.Call (.Attribute (.Call (.Name "super" p0) [] [] p1) name apos) [] [] pos) env) (λv s'=> ∃x,v=res x/\St B.C (led x++AI L l::R) s') (λYa Ya=>False) s:=by
 obtain⟨of,hof,uu,_⟩:=Vh O hf;obtain⟨oc,vs,tf,ma,zR,dO⟩:=hcc;obtain⟨ar,P4,yv⟩: ∃ar,((D4 B.P f).params.posonlyargs++(D4 B.P f).params.args).head?=some ar/\ar.arg=AM:=by
  cases hh:((D4 B.P f).params.posonlyargs++(D4 B.P f).params.args).head? with
  |none=>rw[hh] at hp;cases hp
  |some ar=>rw[hh] at hp;exact⟨ar,rfl,DZ hp⟩
 refine ks_wpAt_MethodCall (pl:=pl) (he:=he) (ks_wpAt_super_base (prog:=B.C.prog) (w:=B.C.w) u8 hkc uW hfu (hof _ _ S) uu P4 XQ (S.top O ma) zR dO ADk ADk ?_)
 refine Av (h1 _ s S) (λg s₁ ⟨_,e,S₁⟩=>⟨e,?_⟩) λYa Ya q=>q.elim;refine AC.wp h2 S₁ λYa s₂ S₂=>?_;rw[yv];refine AC.wp h3 S₂ λYa s₃ S₃=>?_;refine Av (zg O (A:=A) U.l (AI L l::AY x dx xs::R) s₃ (by rw[Al];exact S₃)) (λb s₄ ⟨_,e,S₄⟩=>⟨e,?_⟩) λYa Ya q=>q.elim
 rw[Al] at S₄;have tu:St B.C ([AY x dx xs]++(AI L l::R)) s₄:=S₄.perm (Ae _ _ _);refine AC.wp (LH (cJ O U.l x dx xs).ok) tu λso' s₅ S₅=>?_;refine AC.wp (hm so' pl) S₅ λa s₆ S₆=>?_;exact hcw a _ s₆ S₆
end
section
variable{M:Model}{A:AL}{E:Value->Af->Prop}{s:Af}{env:Env}
theorem fN{st:Stmt}{rest:Dx}{Q:OU->Af->Prop}(h:BN M A (Ac [st] env) (λf s'=>match f with|.next=>BN M A (Ac rest env) Q E s'|f=>Q f s') E s):
 BN M A (Ac (st::rest) env) Q E s:=by
 refine Gg λΓ p hΓ=>?_
 have:=h Γ p hΓ
 rw[Pd,Mf] at this;refine Ny M Γ _ (λf p' s' h'=>?_) (λYa Ya Ya h'=>h') _ _ this;cases f<;>exact h'
theorem X_{c:Code}{st:Stmt}{rest:Dx}{Q:OU->Af->Prop}(h:BN M A (Ac [st] env) (λf s'=>match f with|.next=>Ia M A c (Ac rest env) Q E s'|f=>Q f s') E s):
 Ia M A c (Ac (st::rest) env) Q E s:=by
 refine HO λΓ p hc hΓ=>?_
 have:=h Γ p hΓ
 rw[Pd,Mf] at this;refine Ny M Γ _ (λf p' s' h'=>?_) (λYa Ya Ya h'=>h') _ _ this;cases f<;>exact h'
end
theorem AC.step{C:Cx}{A:AL}{L:AN}{st:Stmt}{rest:Dx}{env:Env}{X Y:Type}{led1:X->AN}{fl:Y->OU}{led2:Y->AN}
 (h1:AC C A (Ac [st] env) L (λYa:X=>.next) led1) (h2: ∀x,AC C A (Ac rest env) (led1 x) fl led2):AC C A (Ac (st::rest) env) L fl led2:=λR s S=>
 fN (Av (h1 R s S) (λf s₁ ⟨x,e,S₁⟩=>by subst e;exact h2 x R s₁ S₁) λYa Ya q=>q)
include O
theorem R5(U:AA 1 A)(x dx:Nat)(xs:Ak):
 AS B A (Pk B 197 [J x]) [AY x dx xs] (([(AM,J x)]:BC)) [AY x dx xs]:=
 rn O U (.fi () [0])
theorem Qt(U:AA 1 A)(x dx:Nat)(xs:Ak):
 AC B.C A (OO B 197 [(AM,J x)]) [AY x dx xs]
  (λa0:Nat=>AR B.P 197 [(CW,124)] (a0+323))
  (λa0=>[AI a0 [(AM,J x)],AY x dx xs]):=
 rn O U (.al λa0=>.fr λk1=>.g 6145<|.fi (a0) [0,0])
def Jb(U:AA 12 A)(x dx:Nat)(xs:Ak):Ag B.C A where
 c:=.call (.ref 197) ⟨[J x],[]⟩
 F:=[AY x dx xs]
 X:=Nat
 res:=λk=>.ok (.ret (.int (xs.length:Int) k))
 led:=λk=>[AY x dx xs]
 ok:=Dm O (n:=11) U ADk (R5 O U.l.in1 x dx xs) (Qt O U.l.in1 x dx xs)
  (λa=>L9 (fl:=λk:Nat=>.ret (.int (xs.length:Int) k)) (λR s S=>by
   rw[qQ];have B8:AA 10 (A.deeper (AR B.P 197 [(CW,124)] (a+323))):=AA.deeper U.l;refine HO (OZ (Mg (Nk O (B8.le ADj) (f:=197) (cc:=196) (x:=x) (dx:=dx) (L:=a) (so:=0) (E:=λq=>J6 q "list.__len__" (x+323)) (res:=λk:Nat=>Be (xs.length:Int) k) (led:=λYa=>[AY x dx xs]) ADk ADk ADk ADk ADk ADk ADk
    ⟨n_ B.P,_,_,rfl,rfl,rfl⟩ (nU O (A:=A.deeper (AR B.P 197 [(CW,124)] (a+323))) (B8.le ADj) a x (.none)) (nR O (A:=A.deeper (AR B.P 197 [(CW,124)] (a+323))) (B8.le ADj) a x (.none)) (nX O (A:=A.deeper (AR B.P 197 [(CW,124)] (a+323))) (B8.le ADj) a x (.none)) (λso pl=>qt O (B8.le ADj) x dx so xs pl) (λq=>qh O (B8.le ADj) x dx q xs _) rfl R s S) (λv s' ⟨k,e,S'⟩=>⟨k,by rw[e],?_⟩) λYa Ya q=>q))
   exact St.drop (L':=[AI a [(AM,J x)]]) (S'.perm (.cons _ (Bm _ _).symm))))
def Ml(U:AA 12 A)(x dx:Nat)(xs:Ak)(v:Addr):Ag B.C A:=
 (Jb O U x dx (xs++[CC v])).re (λk:Nat=>.ok (.ret (.int ((xs.length+1:Nat):Int) k))) (λk=>[AY x dx (xs++[CC v])]) (λk=>k) (λk=>by
  show(Cs (B6 (.int ((xs++[CC v]).length:Int) k)):Result)=_
  rw[AX];rfl) (λYa=>rfl)
def R9(U:AA 12 A)(x dx:Nat):Ag B.C A:=
 (Jb O U x dx []).re (λk:Nat=>.ok (.ret (.int ((0:Nat):Int) k))) (λk=>[AY x dx []]) (λk=>k) (λk=>rfl) (λYa=>rfl)
theorem VO(U:AA 1 A)(x dx:Nat)(xs:Ak)(n:Value):
 AS B A (Pk B 160 [J x]) [AY x dx xs,A3 dx n] (([(AM,J x)]:BC)) [AY x dx xs,A3 dx n]:=
 rn O U (.fi () [0,0])
theorem TN(U:AA 1 A)(x dx:Nat)(xs:Ak)(n:Value):
 AC B.C A (OO B 160 [(AM,J x)]) [AY x dx xs,A3 dx n]
  (λa0:Nat=>AR B.P 160 [(CW,124)] (a0+323))
  (λa0=>[AI a0 [(AM,J x)],AY x dx xs,A3 dx n]):=
 rn O U (.al λa0=>.fr λk1=>.g 6145<|.fi (a0) [0,0,0])
theorem YM(U:AA 16 A)(L x dx:Nat)(n:Value):
 AC B.C A (Ac (A4 B.P 160) (AR B.P 160 [(CW,124)] (L+323))) [AI L [(AM,J x)],AY x dx [],A3 dx n]
  (λp:Nat×Nat×Nat=>.ret (J p.1))
  (λp=>[AV p.1 [.str eS p.2.1,.str eS p.2.2],AY x dx [],A3 dx n]):=by
 obtain⟨_,_|_⟩:=B<;>exact D7 O U (.g 5074354906657037443744267239553<|.cc (R9 O U.l x dx) [1] λy0=>.fr λk1=>.cc (Kx O U.l ↑0 0 y0 k1) [] λYa=>.fr λk3=>.fr λk4=>.al λa5=>.fi (a5,k3,k4) [0,0,1])
def gi(U:AA 18 A)(x dx:Nat)(n:Value):Ag B.C A where
 c:=.call (.ref 160) ⟨[J x],[]⟩
 F:=[AY x dx [],A3 dx n]
 X:=Nat×Nat×Nat
 res:=λp=>.ok (.ret (J p.1))
 led:=λp=>[AV p.1 [.str eS p.2.1,.str eS p.2.2],AY x dx [],A3 dx n]
 ok:=Dm O (n:=17) U ADk (VO O U.l.in1 x dx [] n) (TN O U.l.in1 x dx [] n)
  (λa=>BK (YM O (AA.deeper U.l) a x dx n))
theorem YL(U:AA 16 A)(L x dx:Nat)(xs:Ak)(v:Addr)(n:Value):
 AS B A (Ac ((A4 B.P 160).take 1) (AR B.P 160 [(CW,124)] (L+323))) [AI L [(AM,J x)],AY x dx (xs++[CC v]),A3 dx n] .next [AI L [(AM,J x)],AY x dx (xs++[CC v]),A3 dx n]:=by
 obtain⟨_,_|_⟩:=B<;>exact D7 O U (.g 5074354906657037443744267239553<|.cc (Ml O U.l x dx xs v) [1] λy0=>.fr λk1=>.cc (Kx O U.l (↑(xs.length+1)) 0 y0 k1) [] λYa=>.fi () [1,0,0])
def Va(U:AA 18 A)(x dx:Nat)(xs:Ak)(v:Addr)(n:Value)(hx:xs.length<1000):Ag B.C A where
 c:=.call (.ref 160) ⟨[J x],[]⟩
 F:=[AY x dx (xs++[CC v]),A3 dx n]
 X:=Unit
 res:=λYa=>.ok (.ret (.ref v))
 led:=λYa=>[AY x dx xs,A3 dx n]
 ok:=Dm O (n:=17) U ADk (VO O U.l.in1 x dx (xs++[CC v]) n) (TN O U.l.in1 x dx (xs++[CC v]) n)
  (λa=>L9 (fl:=λYa:Unit=>.ret (.ref v)) (λR s S=>by
   have B8:AA 16 (A.deeper (AR B.P 160 [(CW,124)] (a+323))):=AA.deeper U.l;have e0:=YL O (A:=A.deeper (AR B.P 160 [(CW,124)] (a+323))) B8 a x dx xs v n;rw[eK] at e0;rw[eK];refine X_ (AC.wp e0 S λYa s₁ S₁=>?_);refine HO (OZ (Mg (Nk O (B8.le ADj) (f:=160) (cc:=159) (x:=x) (dx:=dx) (L:=a) (so:=0) (xs:=xs++[CC v]) (l:=[(AM,J x)]) (E:=λq=>WX q "list.pop" (x+323)) (res:=λYa:Unit=>CC v) (led:=λYa=>[AY x dx xs]) ADk ADk ADk ADk ADk ADk ADk
    ⟨n9 B.P,_,_,rfl,rfl,rfl⟩ (nT O (A:=A.deeper (AR B.P 160 [(CW,124)] (a+323))) (B8.le ADj) a x (.none)) (nQ O (A:=A.deeper (AR B.P 160 [(CW,124)] (a+323))) (B8.le ADj) a x (.none)) (nW O (A:=A.deeper (AR B.P 160 [(CW,124)] (a+323))) (B8.le ADj) a x (.none)) (λso pl=>qu O (B8.le ADj) x dx so (xs++[CC v]) pl) (λq=>qi O (B8.le ADj) x dx q xs v _ hx) rfl (A3 dx n::R) s₁ S₁) (λv s' ⟨k,e,S'⟩=>⟨(),by rw[e],?_⟩) λYa Ya q=>q))
   exact St.drop (L':=[AI a [(AM,J x)]]) (S'.perm (.cons _ (.trans (Ae _ _ _) (.cons _ (Bm _ _).symm))))))
theorem YB(U:AA 1 A)(x dx:Nat)(n:Nat)(t:Nat):
 AS B A (Pk B 137 [J x,.int (n:Int) t]) [AY x dx [],.one (dx+323) (.ns (.type "dict") [])] (([(AM,J x),(CV,.int (n:Int) t)]:BC)) [AY x dx [],.one (dx+323) (.ns (.type "dict") [])]:=
 rn O U (.g 64<|.fi () [0,0])
theorem XG(U:AA 1 A)(x dx:Nat)(n:Nat)(t:Nat):
 AC B.C A (OO B 137 [(AM,J x),(CV,.int (n:Int) t)]) [AY x dx [],.one (dx+323) (.ns (.type "dict") [])]
  (λa0:Nat=>AR B.P 137 [(CW,124)] (a0+323))
  (λa0=>[AI a0 [(AM,J x),(CV,.int (n:Int) t)],AY x dx [],.one (dx+323) (.ns (.type "dict") [])]):=
 rn O U (.al λa0=>.fr λk1=>.g 6145<|.fr λk2=>.g 6145<|.fi (a0) [0,0,0])
theorem Uc(U:AA 16 A)(L x dx:Nat)(n t:Nat):
 AS B A (Ac ((A4 B.P 137).take 1) (AR B.P 137 [(CW,124)] (L+323))) [AI L [(AM,J x),(CV,.int (n:Int) t)],AY x dx [],.one (dx+323) (.ns (.type "dict") [])] .next [AI L [(AM,J x),(CV,.int (n:Int) t)],AY x dx [],A3 dx (.int (n:Int) t)]:=
 D7 O U (.g 4161<|.fr λk0=>.g 16777218<|.cc (Uv O U.l x dx [] (.int (↑n) t) k0) [1,1] λYa=>.fi () [2,0,0])
def bW(U:AA 18 A)(x dx n t:Nat):Ag B.C A where
 c:=.call (.ref 137) ⟨[J x,.int (n:Int) t],[]⟩
 F:=[AY x dx [],.one (dx+323) (.ns (.type "dict") [])]
 X:=Unit
 res:=λYa=>.ok (.ret .none)
 led:=λYa=>[AY x dx [],A3 dx (.int (n:Int) t)]
 ok:=Dm O (n:=17) U ADk (YB O U.l.in1 x dx n t) (XG O U.l.in1 x dx n t)
  (λa=>L9 (fl:=λYa:Unit=>.next) (λR s S=>by
   have B8:AA 16 (A.deeper (AR B.P 137 [(CW,124)] (a+323))):=AA.deeper U.l;have e0:=Uc O (A:=A.deeper (AR B.P 137 [(CW,124)] (a+323))) B8 a x dx n t;rw[eJ] at e0;rw[eJ];refine X_ (AC.wp e0 S λYa s₁ S₁=>?_);refine HO (ks_wpAt_Expr_any (Mg (Nk O (B8.le ADj) (f:=137) (cc:=136) (x:=x) (dx:=dx) (L:=a) (so:=0) (xs:=[]) (l:=[(AM,J x),(CV,.int (n:Int) t)]) (E:=λq=>J6 q "list.__init__" (x+323)) (res:=λYa:Unit=>CU) (led:=λYa=>[AY x dx []]) ADk ADk ADk ADk ADk ADk ADk
    ⟨n8 B.P,_,_,rfl,rfl,rfl⟩ (nS O (A:=A.deeper (AR B.P 137 [(CW,124)] (a+323))) (B8.le ADj) a x (.int (n:Int) t)) (nP O (A:=A.deeper (AR B.P 137 [(CW,124)] (a+323))) (B8.le ADj) a x (.int (n:Int) t)) (nV O (A:=A.deeper (AR B.P 137 [(CW,124)] (a+323))) (B8.le ADj) a x (.int (n:Int) t)) (λso pl=>l5 O (B8.le ADj) x dx so [] pl) (λq=>lV O (B8.le ADj) x dx q _) rfl (A3 dx (.int (n:Int) t)::R) s₁ S₁) (λv s' ⟨k,e,S'⟩=>?_) λYa Ya q=>q))
   show Ia _ _ _ (Ac [] _) _ _ _;exact wpAt_of_wpAny (AP ⟨(),rfl,St.drop (L':=[AI a [(AM,J x),(CV,.int (n:Int) t)]]) (S'.perm (.cons _ (.trans (Ae _ _ _) (.cons _ (Bm _ _).symm))))⟩)))
noncomputable def SW{α:Type}:Sem α->List (Code×Pos)->Sem α
 |.stack k=>k
 |t=>λYa=>t
omit O
theorem Xz{M:Model}{A:AL}{c:Code}{α:Type}{t:Sem α}{Q:α->Af->Prop}{E:Value->Af->Prop}{s:Af}(h: ∀p below,BN M A (SW t ((c,p)::below)) Q E s):Ia M A c t Q E s:=by
 cases t with
 |stack k=>
  show Ia M A c (PySem.stack>>=k) Q E s;exact PySem.wpAt_bind (PySem.wpAt_stack λp below=>OX (h p below))
 |_=>exact OX (h Au [])
section
variable{C:Cx}{A:AL}{F:AN}{X:Type}
theorem Pn{id:String}{args:LN}{val:X->Value}{led:X->AN}(hp:H4 id=true)
 (hc:AC C A.in1 (AU id args) F (λYa:Unit=>()) (λYa=>F))
 (h: ∀p below,AC C A.in1 (SW (BM (.builtin id args)) ((.builtin id args,p)::below)) F (λx=>Az (.ret (val x))) led):Bv C A (.call (.builtin id) args) F (λx=>.ok (.ret (val x))) led:=
 Bu λR s S=>Ew (DH hp args) (by
  refine AC.wp hc S λYa s₁ S₁=>?_;refine PySem.codeAny_of_treeAt ?_;rw[BX hp args,E4 C];refine Xz λp below=>?_;exact AC.wp (h p below) S₁ λx s₂ S₂=>⟨x,rfl,S₂⟩)
end
theorem Od{C:Cx}{A:AL}{F:AN}{X:Type}{f:Value}{args Di:LN}{id:String}{val:X->Value}{led:X->AN}
 (h1:AC C (A.under (.call f args)) (BM (.call f args)) F (λYa:Unit=>.again (.call (.builtin id) Di)) (λYa=>F))
 (iF:AC C (A.under (.call (.builtin id) Di)) (BM (.call (.builtin id) Di)) F (λYa:Unit=>.again (.builtin id Di)) (λYa=>F)) (mc:(OF (.builtin id) Di).quiet=true) (hq:(FD id Di).quiet=true)
 (h2:AC C (A.under (.builtin id Di)) (BM (.builtin id Di)) F (λx=>Az (.ret (val x))) led):Bv C A (.call f args) F (λx=>.ok (.ret (val x))) led:=
 Bu λR s S=>by
  refine BL ?_;rw[E4 C];refine AC.wp h1 S λYa s₁ S₁=>?_;refine⟨mc,BL ?_⟩;rw[E4 C];refine AC.wp iF S₁ λYa s₁ S₁=>?_;refine⟨hq,BL ?_⟩;rw[E4 C];exact AC.wp h2 S₁ λx s₂ S₂=>⟨x,rfl,S₂⟩
theorem Nb(f:Value)(args:LN):(OF f args).quiet=true:=rfl
include O
theorem Wl(U:AA 1 A)(n t:Nat):
 AS B A (AU "list.__new__" ⟨[.ref 200,.int (n:Int) t],[]⟩) [] () []:=
 by apply Hc O U (.g 4398046511104<|.fi () [])
theorem XB(U:AA 1 A)(n t:Nat)(p:Pos)(below:List (Code×Pos)):
 AC B.C A (SW (BM (.builtin "list.__new__" ⟨[.ref 200,.int (n:Int) t],[]⟩)) ((.builtin "list.__new__" ⟨[.ref 200,.int (n:Int) t],[]⟩,p)::below)) []
  (λa:Nat×Nat=>.done (.ret (J a.1)))
  (λa=>[AY a.1 a.2 [],.one (a.2+323) (.ns (.type "dict") [])]):=
 rn O U (.g 4096<|.al λa0=>.al λa1=>.g 64<|.fi (a1,a0) [0,0])
def Wy(U:AA 3 A)(n t:Nat):Ag B.C A where
 c:=.call (.builtin "list.__new__") ⟨[.ref 200,.int (n:Int) t],[]⟩
 F:=[]
 X:=Nat×Nat
 res:=λa=>.ok (.ret (J a.1))
 led:=λa=>[AY a.1 a.2 [],.one (a.2+323) (.ns (.type "dict") [])]
 ok:=Pn ADl (Wl O U.l.in1 n t) (λp below=>XB O U.l.in1 n t p below)
theorem qv(U:AA 1 A)(n t:Nat):
 AS B A (BM (.call (.ref 200) ⟨[.int (n:Int) t],[]⟩)) [] (.again (.call (.builtin "type.__call__") ⟨[.ref 200,.int (n:Int) t],[]⟩)) []:=
 rn O U (.g 4096<|.fi () [])
theorem l6(U:AA 1 A)(n t:Nat):
 AS B A (BM (.call (.builtin "type.__call__") ⟨[.ref 200,.int (n:Int) t],[]⟩)) [] (.again (.builtin "type.__call__" ⟨[.ref 200,.int (n:Int) t],[]⟩)) []:=
 rn O U (.g 64<|.fi () [])
theorem sY(U:AA 20 A)(n t:Nat):
 AC B.C A (BM (.builtin "type.__call__" ⟨[.ref 200,.int (n:Int) t],[]⟩)) []
  (λa:Nat×Nat=>.done (.ret (J a.1)))
  (λa=>[AY a.1 a.2 [],A3 a.2 (.int (n:Int) t)]):=
 rn O U (.g 262144<|.cc (Wy O U.l n t) [] λ(y0:Nat×Nat)=>.g 4398046515201<|.cc (bW O U.l y0.fst y0.snd n t) [0,0] λYa=>.fi (y0) [0,0])
def Yt(U:AA 22 A)(n t:Nat):Ag B.C A where
 c:=.call (.ref 200) ⟨[.int (n:Int) t],[]⟩
 F:=[]
 X:=Nat×Nat
 res:=λa=>.ok (.ret (J a.1))
 led:=λa=>[AY a.1 a.2 [],A3 a.2 (.int (n:Int) t)]
 ok:=Od (qv O (A:=A.under (.call (.ref 200) ⟨[.int (n:Int) t],[]⟩)) (U.l.ca _ _) n t)
  (l6 O (A:=A.under (.call (.builtin "type.__call__") ⟨[.ref 200,.int (n:Int) t],[]⟩)) (U.l.ca _ _) n t) (Nb _ _) (F0 _)
  (sY O (A:=A.under (.builtin "type.__call__" ⟨[.ref 200,.int (n:Int) t],[]⟩)) (U.l.ty _) n t)
noncomputable abbrev BO(x dx:Nat):Bi:=.one (x+323) (.ex ⟨.ref 116,some (dx+323),.plain,⟨[]⟩⟩)
def cP(U:AA 3 A)(x dx m u t:Nat):Ag B.C A:=
 DN O U "object.__setattr__" [J x,.str D6 t,.int (m:Int) u] [BO x dx,.one (dx+323) (.ns (.type "dict") [])] (λYa:Unit=>.none) (λYa=>[BO x dx,.one (dx+323) (.ns (.type "dict") [(D6,.int (m:Int) u)])]) (λU=>.g 4097<|.fi () [0,0]) λU=>.g 281543696191489<|.fr λk0=>.g 272450<|.fi () [0,0]
def cQ(U:AA 3 A)(x dx m u t3 t:Nat):Ag B.C A:=
 DN O U "object.__setattr__" [J x,.str CM t,.str ⟨⟨[45,45]⟩⟩ t3] [BO x dx,.one (dx+323) (.ns (.type "dict") [(D6,.int (m:Int) u)])] (λYa:Unit=>.none) (λYa=>[BO x dx,.one (dx+323) (.ns (.type "dict") [(D6,.int (m:Int) u),(CM,.str ⟨⟨[45,45]⟩⟩ t3)])]) (λU=>.g 4097<|.fi () [0,0]) λU=>.g 281543696191489<|.fr λk0=>.g 272450<|.fi () [0,0]
def cR(U:AA 3 A)(x dx m u t3 t5 t:Nat):Ag B.C A:=
 DN O U "object.__setattr__" [J x,.str CI t,.int 2 t5] [BO x dx,.one (dx+323) (.ns (.type "dict") [(D6,.int (m:Int) u),(CM,.str ⟨⟨[45,45]⟩⟩ t3)])] (λYa:Unit=>.none) (λYa=>[BO x dx,.one (dx+323) (.ns (.type "dict") [(D6,.int (m:Int) u),(CM,.str ⟨⟨[45,45]⟩⟩ t3),(CI,.int 2 t5)])]) (λU=>.g 4097<|.fi () [0,0]) λU=>.g 281543696191489<|.fr λk0=>.g 272450<|.fi () [0,0]
def cS(U:AA 3 A)(x dx m u t3 t5 t4 t:Nat):Ag B.C A:=
 DN O U "object.__setattr__" [J x,.str EB t,.str ⟨⟨[32]⟩⟩ t4] [BO x dx,.one (dx+323) (.ns (.type "dict") [(D6,.int (m:Int) u),(CM,.str ⟨⟨[45,45]⟩⟩ t3),(CI,.int 2 t5)])] (λYa:Unit=>.none) (λYa=>[BO x dx,.one (dx+323) (.ns (.type "dict") [(D6,.int (m:Int) u),(CM,.str ⟨⟨[45,45]⟩⟩ t3),(CI,.int 2 t5),(EB,.str ⟨⟨[32]⟩⟩ t4)])]) (λU=>.g 4097<|.fi () [0,0]) λU=>.g 281543696191489<|.fr λk0=>.g 272450<|.fi () [0,0]
def cT(U:AA 3 A)(x dx m u t3 t5 t4 l t:Nat):Ag B.C A:=
 DN O U "object.__setattr__" [J x,.str Jf t,J l] [BO x dx,.one (dx+323) (.ns (.type "dict") [(D6,.int (m:Int) u),(CM,.str ⟨⟨[45,45]⟩⟩ t3),(CI,.int 2 t5),(EB,.str ⟨⟨[32]⟩⟩ t4)])] (λYa:Unit=>.none) (λYa=>[BO x dx,.one (dx+323) (.ns (.type "dict") [(D6,.int (m:Int) u),(CM,.str ⟨⟨[45,45]⟩⟩ t3),(CI,.int 2 t5),(EB,.str ⟨⟨[32]⟩⟩ t4),(Jf,J l)])]) (λU=>.g 4097<|.fi () [0,0]) λU=>.g 281543696191489<|.fr λk0=>.g 272450<|.fi () [0,0]
def cU(U:AA 3 A)(x dx m u t3 t5 t4 l y t:Nat):Ag B.C A:=
 DN O U "object.__setattr__" [J x,.str Fp t,J y] [BO x dx,.one (dx+323) (.ns (.type "dict") [(D6,.int (m:Int) u),(CM,.str ⟨⟨[45,45]⟩⟩ t3),(CI,.int 2 t5),(EB,.str ⟨⟨[32]⟩⟩ t4),(Jf,J l)])] (λYa:Unit=>.none) (λYa=>[BO x dx,.one (dx+323) (.ns (.type "dict") [(D6,.int (m:Int) u),(CM,.str ⟨⟨[45,45]⟩⟩ t3),(CI,.int 2 t5),(EB,.str ⟨⟨[32]⟩⟩ t4),(Jf,J l),(Fp,J y)])]) (λU=>.g 4097<|.fi () [0,0]) λU=>.g 281543696191489<|.fr λk0=>.g 272450<|.fi () [0,0]
abbrev Bc(dx m u t3 t5 t4 l y:Nat):Bi:=.one (dx+323) (.ns (.type "dict") [(D6,.int (m:Int) u),(CM,.str ⟨⟨[45,45]⟩⟩ t3),(CI,.int 2 t5),(EB,.str ⟨⟨[32]⟩⟩ t4),(Jf,J l),(Fp,J y)])
theorem YF(U:AA 1 A)(x dx n t m u t3 t4:Nat):
 AS B A (Dc (D4 B.P 57) ⟨[J x,.int (n:Int) t,.int (m:Int) u,.str ⟨⟨[45,45]⟩⟩ t3,.str ⟨⟨[32]⟩⟩ t4],[]⟩) [BO x dx,.one (dx+323) (.ns (.type "dict") [])] (([(AM,J x),(JL,.int (n:Int) t),(OC,.int (m:Int) u),(Fk,.str ⟨⟨[45,45]⟩⟩ t3),(Ba,.str ⟨⟨[32]⟩⟩ t4)]:BC)) [BO x dx,.one (dx+323) (.ns (.type "dict") [])]:=
 rn O U (.fi () [0,0])
theorem XK(U:AA 1 A)(x dx n t m u t3 t4:Nat):
 AC B.C A (OO B 57 [(AM,J x),(JL,.int (n:Int) t),(OC,.int (m:Int) u),(Fk,.str ⟨⟨[45,45]⟩⟩ t3),(Ba,.str ⟨⟨[32]⟩⟩ t4)]) [BO x dx,.one (dx+323) (.ns (.type "dict") [])]
  (λa0:Nat=>AR B.P 57 [] (a0+323))
  (λa0=>[AI a0 [(AM,J x),(JL,.int (n:Int) t),(OC,.int (m:Int) u),(Fk,.str ⟨⟨[45,45]⟩⟩ t3),(Ba,.str ⟨⟨[32]⟩⟩ t4)],BO x dx,.one (dx+323) (.ns (.type "dict") [])]):=
 rn O U (.al λa0=>.fr λk1=>.g 6145<|.fr λk2=>.g 6145<|.fr λk3=>.g 6145<|.fr λk4=>.g 6145<|.fr λk5=>.g 6145<|.fi (a0) [0,0,0])
theorem YO(U:AA 30 A)(L x dx n t m u t3 t4:Nat):
 AC B.C A (Ac (A4 B.P 57) (AR B.P 57 [] (L+323))) [AI L [(AM,J x),(JL,.int (n:Int) t),(OC,.int (m:Int) u),(Fk,.str ⟨⟨[45,45]⟩⟩ t3),(Ba,.str ⟨⟨[32]⟩⟩ t4)],BO x dx,.one (dx+323) (.ns (.type "dict") [])]
  (λp:Nat×Nat×Nat×Nat=>.next)
  (λp=>[BO x dx,Bc dx m u t3 p.1 t4 p.2.1 p.2.2.1,AY p.2.2.1 p.2.2.2 [],A3 p.2.2.2 (.int (n:Int) t),AE p.2.1 []]):=
 D7 O U (.g 4161<|.fr λk0=>.g 16777218<|.cc (cP O U.l x dx m u k0) [1,1] λYa=>.g 4291<|.fr λk2=>.g 16777217<|.cc (cQ O U.l x dx m u t3 k2) [0,0] λYa=>.g 274432<|.cc (JQ O U.l ⟨⟨[45,45]⟩⟩ t3 (by first|assumption|lia|decide)) [] λ(y4:Nat×Nat)=>.g 67<|.fr λk5=>.g 16777217<|.cc (cR O U.l x dx m u t3 y4.snd k5) [0,0] λYa=>.g 4291<|.fr λk7=>.g 16777217<|.cc (cS O U.l x dx m u t3 y4.snd t4 k7) [0,0] λYa=>.al λa9=>.g 68<|.fr λH9=>.g 16777218<|.cc (cT O U.l x dx m u t3 y4.snd t4 a9 H9) [1,1] λYa=>.g 16777472<|.cc (Yt O U.l n t) [] λ(OR:Nat×Nat)=>.g 70<|.fr λzh=>.g 16777219<|.cc (cU O U.l x dx m u t3 y4.snd t4 a9 OR.fst zh) [2,2] λYa=>.fi (y4.snd,a9,OR.fst,OR.snd) (BW 5))
def cO(U:AA 32 A)(x dx n t m u t3 t4:Nat):Ag B.C A where
 c:=.call (.ref 57) ⟨[J x,.int (n:Int) t,.int (m:Int) u,.str ⟨⟨[45,45]⟩⟩ t3,.str ⟨⟨[32]⟩⟩ t4],[]⟩
 F:=[BO x dx,.one (dx+323) (.ns (.type "dict") [])]
 X:=Nat×Nat×Nat×Nat
 res:=λYa=>.ok (.ret .none)
 led:=λp=>[BO x dx,Bc dx m u t3 p.1 t4 p.2.1 p.2.2.1,AY p.2.2.1 p.2.2.2 [],A3 p.2.2.2 (.int (n:Int) t),AE p.2.1 []]
 ok:=Dm O (n:=31) U ADk (YF O U.l.in1 x dx n t m u t3 t4) (XK O U.l.in1 x dx n t m u t3 t4)
  (λa=>BK (YO O (AA.deeper U.l) a x dx n t m u t3 t4))
def cN(U:AA 3 A)(n t m u t3 t4:Nat):Ag B.C A:=
 DN O U "object.__new__" [.ref 116,.int (n:Int) t,.int (m:Int) u,.str ⟨⟨[45,45]⟩⟩ t3,.str ⟨⟨[32]⟩⟩ t4] [] (λa:Nat×Nat=>J a.1) (λa=>[BO a.1 a.2,.one (a.2+323) (.ns (.type "dict") [])]) (λU=>.g 4398046511104<|.fi () []) λU=>.g 4722366482869645213696<|.al λa0=>.al λa1=>.g 64<|.fi (a1,a0) [0,0]
theorem uM(U:AA 1 A)(n t m u t3 t4:Nat):
 AS B A (BM (.call (.ref 116) ⟨[.int (n:Int) t,.int (m:Int) u,.str ⟨⟨[45,45]⟩⟩ t3,.str ⟨⟨[32]⟩⟩ t4],[]⟩)) [] (.again (.call (.builtin "type.__call__") ⟨[.ref 116,.int (n:Int) t,.int (m:Int) u,.str ⟨⟨[45,45]⟩⟩ t3,.str ⟨⟨[32]⟩⟩ t4],[]⟩)) []:=
 rn O U (.g 4096<|.fi () [])
theorem qz(U:AA 1 A)(n t m u t3 t4:Nat):
 AS B A (BM (.call (.builtin "type.__call__") ⟨[.ref 116,.int (n:Int) t,.int (m:Int) u,.str ⟨⟨[45,45]⟩⟩ t3,.str ⟨⟨[32]⟩⟩ t4],[]⟩)) [] (.again (.builtin "type.__call__" ⟨[.ref 116,.int (n:Int) t,.int (m:Int) u,.str ⟨⟨[45,45]⟩⟩ t3,.str ⟨⟨[32]⟩⟩ t4],[]⟩)) []:=
 rn O U (.g 64<|.fi () [])
theorem xk(U:AA 34 A)(n t m u t3 t4:Nat):
 AC B.C A (BM (.builtin "type.__call__" ⟨[.ref 116,.int (n:Int) t,.int (m:Int) u,.str ⟨⟨[45,45]⟩⟩ t3,.str ⟨⟨[32]⟩⟩ t4],[]⟩)) []
  (λp:(Nat×Nat)×Nat×Nat×Nat×Nat=>.done (.ret (J p.1.1)))
  (λp=>[BO p.1.1 p.1.2,Bc p.1.2 m u t3 p.2.1 t4 p.2.2.1 p.2.2.2.1,AY p.2.2.2.1 p.2.2.2.2 [],A3 p.2.2.2.2 (.int (n:Int) t),AE p.2.2.1 []]):=
 rn O U (.g 262144<|.cc (cN O U.l n t m u t3 t4) [] λ(y0:Nat×Nat)=>.g 4398046515201<|.cc (cO O U.l y0.fst y0.snd n t m u t3 t4) [0,0] λy1=>.fi (y0,y1) (BW 5))
def TC(U:AA 36 A)(n t m u t3 t4:Nat):Ag B.C A where
 c:=.call (.ref 116) ⟨[.int (n:Int) t,.int (m:Int) u,.str ⟨⟨[45,45]⟩⟩ t3,.str ⟨⟨[32]⟩⟩ t4],[]⟩
 F:=[]
 X:=(Nat×Nat)×Nat×Nat×Nat×Nat
 res:=λp=>.ok (.ret (J p.1.1))
 led:=λp=>[BO p.1.1 p.1.2,Bc p.1.2 m u t3 p.2.1 t4 p.2.2.1 p.2.2.2.1,AY p.2.2.2.1 p.2.2.2.2 [],A3 p.2.2.2.2 (.int (n:Int) t),AE p.2.2.1 []]
 ok:=Od (uM O (A:=A.under (.call (.ref 116) ⟨[.int (n:Int) t,.int (m:Int) u,.str ⟨⟨[45,45]⟩⟩ t3,.str ⟨⟨[32]⟩⟩ t4],[]⟩)) (U.l.ca _ _) n t m u t3 t4)
  (qz O (A:=A.under (.call (.builtin "type.__call__") ⟨[.ref 116,.int (n:Int) t,.int (m:Int) u,.str ⟨⟨[45,45]⟩⟩ t3,.str ⟨⟨[32]⟩⟩ t4],[]⟩)) (U.l.ca _ _) n t m u t3 t4) (Nb _ _) (F0 _)
  (xk O (A:=A.under (.builtin "type.__call__" ⟨[.ref 116,.int (n:Int) t,.int (m:Int) u,.str ⟨⟨[45,45]⟩⟩ t3,.str ⟨⟨[32]⟩⟩ t4],[]⟩)) (U.l.ty _) n t m u t3 t4)
def cB(U:AA 5 A)(x dx b:Nat)(xs ys:Ak)(n:Value)(hx:xs.length<=1000)(hy:ys.length<=1000):Ag B.C A where
 c:=.call (.ref 182) ⟨[J x,J b],[]⟩
 F:=[AY x dx xs,A3 dx n,AE b ys]
 X:=Nat
 res:=λYa=>.ok (.ret .none)
 led:=λt=>[AY x dx ys,A3 dx (.int 0 t),AE b ys]
 ok:=EU O U [(AM,J x),(KR,J b)] (sb:=.g 64<|.fi () [])
  (λa=>BK (YN O U.l.deeper a x dx b xs ys n hx hy))
theorem Wh(U:AA 3 A)(L x dx:Nat)(xs:Ak)(n:Value)(hx:xs.length<=1000):
 AC B.C A (Ac (A4 B.P 182) (AR B.P 182 [] (L+323))) [AI L [(AM,J x),(KR,.none)],AY x dx xs,A3 dx n]
  (λt:Nat=>.next)
  (λt=>[AY x dx [],A3 dx (.int ((0:Nat):Int) t)]):=
 D7 O U (.g 65<|.al λa0=>.fr λk1=>.g 17311810<|.al λa2=>.g 68719493124<|.cc (Px O U.l x dx a2 a0 xs [] hx (by first|assumption|simp)) [3,0,0] λYa=>.fr λk4=>.g 68<|.fr λk5=>.g 16777217<|.cc (Pw O U.l x dx [] n (.int 0 k4) k5) [0,3] λYa=>.fi (k4) [0,0])
def RR(U:AA 5 A)(x dx:Nat)(xs:Ak)(n:Value)(hx:xs.length<=1000):Ag B.C A where
 c:=.call (.ref 182) ⟨[J x],[]⟩
 F:=[AY x dx xs,A3 dx n]
 X:=Nat
 res:=λYa=>.ok (.ret .none)
 led:=λt=>[AY x dx [],A3 dx (.int ((0:Nat):Int) t)]
 ok:=EU O U [(AM,J x),(KR,.none)] (sb:=.g 64<|.fi () [])
  (λa=>BK (Wh O U.l.deeper a x dx xs n hx))
omit O
theorem hO:C1 FZ "list.__iadd__"=some Builtin.«list.__iadd__»:=B2 ADk
theorem ZM:C1 FZ "list.extend"=some Builtin.«list.extend»:=B2 ADk
section
variable{C:Cx}{A:AL}
theorem Mn{S it:Addr}{res:Value}{T:String}{d:Option Addr}{xs ys:Ak}(hT:T="list"∨T="tuple")(hx:xs.length<=1000)(hy:ys.length<=1000):
 AC C A (JM (.ref S) (.ref it) res) [.one S (.ls (.type "list") none xs),.one it (.ls (.type T) d ys)]
  (λYa:Unit=>.done (.ret res)) (λYa=>[.one S (.ls (.type "list") none (xs++ys)),.one it (.ls (.type T) d ys)]):=by
 intro R s St;obtain⟨g,ho⟩:=St.Dj;obtain⟨gb,hb⟩:=St.swap.Dj;have uV:s.TypeIs (.ref it) T:=⟨_,hb,rfl⟩;have Qy: ∀{a:Addr} {o:Obj} {ys:Ak} {n:Nat} {Q:Bs->Af->Prop} {E:Value->Af->Prop},s.heap.get? a=some o->o.data=.seq ⟨ys⟩ n->Q ⟨ys⟩ s->BN C.M A (A7 (.ref a)) Q E s:=λho hd h=>by
  unfold A7;exact AB (DG ho hd (AP h))
 unfold JM;refine AB (H6 uV ?_);have h1:(Kq (.ref S) (.ref it)||HN T==HN "list"||HN T==HN "tuple")=true:=by
  rcases hT with rfl|rfl<;>simp
 refine iT h1 ?_;refine AB (m:=A7 _) (Qy hb rfl ?_);refine AB (m:=A7 _) (Qy ho rfl ?_);have hnt:(!(⟨xs⟩:Bs).isEmpty&&Gy ((⟨xs⟩:Bs).size+(⟨ys⟩:Bs).size))=false:=by
  rw[My];right;simp only[Gy,decide_eq_false_iff_not];show¬(xs.length+ys.length>sizeLine);rw[Br];lia
 simp only[hnt,Bool.false_eq_true,if_false];have Zj:(⟨xs⟩:Bs)++⟨ys⟩=⟨xs++ys⟩:=by apply Array.toList_inj.mp;simp
 refine AB (m:=Df _ _) (G9 ho rfl (AP ⟨(),rfl,?_⟩) (AK (show xs.length<=1000 from hx) ADm) ?_)
 ·refine(St.No (t:=s.toks) (B1 ..) (CO _ ho ?_) ?_)
  ·rfl
  ·exact MO Zj
 ·rw[Zj]
  show(xs++ys).length<=_
  rw[Br,AX];lia
theorem bS(U:AA 2 A){S it:Addr}{T:String}{d:Option Addr}{xs ys:Ak}(hT:T="list"∨T="tuple")(hx:xs.length<=1000)(hy:ys.length<=1000):
 AT C A (.builtin "list.__iadd__" ⟨[.ref S,.ref it],[]⟩) [.one S (.ls (.type "list") none xs),.one it (.ls (.type T) d ys)]
  (λYa:Unit=>.ok (.ret (.ref S))) (λYa=>[.one S (.ls (.type "list") none (xs++ys)),.one it (.ls (.type T) d ys)]):=λR s St=>by
 refine Ez hO ?_;rw[BX ADl]
 exact AC.wp (Mn (A:=A.in1) hT hx hy) St λx s₂ S₂=>⟨x,rfl,S₂⟩
theorem Og(O:C.Ok)(U:AA 3 A){v:Nat}{T:String}{d:Option Addr}{ys:Ak}(hT:T="list"∨T="tuple")(hy:ys.length<=1000):
 AT C A (.builtin "proto.collect" ⟨[J v],[]⟩) [.one (v+323) (.ls (.type T) d ys)] (λa:Nat=>.ok (.ret (J a))) (λa=>[.one (a+323) (.ls (.type "list") none ys),.one (v+323) (.ls (.type T) d ys)]):=by
 intro R s S;refine Ez PySem.F.entry_proto_collect ?_;rw[BX PySem.F.plain_proto_collect _];show BN _ A.in1 (SY []>>=λl=>again (.builtin "list.__iadd__" ⟨[l,J v],[]⟩)) _ _ s;refine AB (DS (AP ⟨DH PySem.F.plain_list_iadd _,?_⟩));have S₁:=S.alloc (o:={cls:=.type "list",data:=.seq ([]:Ak).toArray}) (ao:=.ls (.type "list") none []) rfl ⟨G0,rfl⟩;rw[St.size_eq O S] at S₁⊢
 have:=bS (C:=C) (A:=A) U.l (S:=s.heap.objs.size-323+323) (it:=v+323) (xs:=[]) hT ADn hy R _ S₁
 rw[Al] at this;exact Fm this λr s' ⟨_,e,S'⟩=>⟨_,e,S'⟩
end
include O
def Un(U:AA 3 A)(v:Nat)(ys:Ak)(hy:ys.length<=1000):Ag B.C A where
 c:=.builtin "proto.collect" ⟨[J v],[]⟩
 F:=[AV v ys]
 X:=Nat
 res:=λa=>.ok (.ret (J a))
 led:=λa=>[AE a ys,AV v ys]
 ok:=(Og O U (.inr rfl) hy).call
def Kl(U:AA 3 A)(v:Nat)(ys:Ak)(hy:ys.length<=1000):Ag B.C A where
 c:=.builtin "proto.collect" ⟨[J v],[]⟩
 F:=[AE v ys]
 X:=Nat
 res:=λa=>.ok (.ret (J a))
 led:=λa=>[AE a ys,AE v ys]
 ok:=(Og O U (.inl rfl) hy).call
omit O
section
variable{C:Cx}{A:AL}{L:AN}
theorem AC.pre{α:Type}{t:Sem α}{F F':AN}{X:Type}{res:X->α}{led:X->AN}(h:AC C A t F res led)(p: ∀R s,St C (F'++R) s->St C (F++R) s):AC C A t F' res led:=λR s S=>h R s (p R s S)
theorem AC.post{α:Type}{t:Sem α}{F:AN}{X:Type}{res:X->α}{led Cy:X->AN}(h:AC C A t F res led)(p: ∀x R s,St C (led x++R) s->St C (Cy x++R) s):AC C A t F res Cy:=h.weaken λx=>⟨x,rfl,p x⟩
theorem AC.ix{α:Type}{t:Sem α}{F F' r:AN}{X:Type}{res:X->α}{led:X->AN}(ix:Ay)(h:AC C A t F res led)(e:Fq ix F'=some (F,r)):AC C A t F' res led:=h.pre λR s S=>S.picked e
theorem AC.ox{α:Type}{t:Sem α}{F:AN}{X:Type}{res:X->α}{led Cy r:X->AN}(ix:Ay)(h:AC C A t F res led)(e: ∀x,Fq ix (led x)=some (Cy x,r x)):AC C A t F res Cy:=h.post λx=>pk ix (e x)
theorem AC.one{st:Stmt}{env:Env}{X:Type}{fl:X->OU}{led:X->AN}(h:AC C A (Qe st env) L fl led):AC C A (Ac [st] env) L fl led:=λR s S=>by
 refine Gg (AC.wp h S λx s' S'=>?_);cases hf:fl x with
 |next=>exact Fy ⟨x,hf.symm,S'⟩
 |_=>exact⟨x,hf.symm,S'⟩
theorem AC.ML{test:Expr}{body orelse:Dx}{pos:Pos}{env:Env}{X Y:Type}{b:Bool}{led1:X->AN}{fl:Y->OU}{led:Y->AN}
 (h1:AC C A (isTrue test env (Bf test env)) L (λYa:X=>b) led1) (h2: ∀x,AC C A (Ac (if b then body else orelse) env) (led1 x) fl led):AC C A (Qe (.If test body orelse pos) env) L fl led:=λR s S=>by
 refine wpAny_If (Av (h1 R s S) (λf s' ⟨x,e,S'⟩=>?_) λYa Ya q=>q);subst e
 have:=h2 x R s' S'
 cases f<;>exact this
theorem AC.Fh{l r:Expr}{op:CmpOp}{pos:Pos}{env:Env}{whole:Sem Value}{X Y:Type}{b:Bool}{va:X->Value}{vb:X->Y->Value}{led1:X->AN}{led2:X->Y->AN}
 (h1:AC C A (Bf l env) L va led1) (h2: ∀x,AC C A (Bf r env) (led1 x) (vb x) (led2 x)) (h3: ∀x y,AC C A (Gf op (va x) (vb x y)) (led2 x y) (λYa:Unit=>.bool b) (λYa=>led2 x y))
 (hm:behindInMarks op r=false):AC C A (isTrue (.Compare l [op] [r] pos) env whole) L (λYa:X×Y=>b) (λp=>led2 p.1 p.2):=λR s S=>by
 refine wpAny_isTrue_Compare1 (Av (h1 R s S) (λf s₁ ⟨x,e,S₁⟩=>?_) λYa Ya q=>q) hm;subst e;refine AC.wp (h2 x) S₁ λy s₂ S₂=>?_;refine AC.wp (h3 x y) S₂ λYa s₃ S₃=>?_;exact Qi ⟨(x,y),rfl,S₃⟩
theorem AC.TP{l r:Expr}{op:CmpOp}{pos:Pos}{env:Env}{X Y:Type}{v:Value}{va:X->Value}{vb:X->Y->Value}{led1:X->AN}{led2:X->Y->AN}
 (h1:AC C A (Bf l env) L va led1) (h2: ∀x,AC C A (Bf r env) (led1 x) (vb x) (led2 x)) (h3: ∀x y,AC C A (Gf op (va x) (vb x y)) (led2 x y) (λYa:Unit=>v) (λYa=>led2 x y))
 (hm:behindInMarks op r=false):AC C A (Bf (.Compare l [op] [r] pos) env) L (λYa:X×Y=>v) (λp=>led2 p.1 p.2):=λR s S=>by
 refine wpAny_Compare1 (Av (h1 R s S) (λf s₁ ⟨x,e,S₁⟩=>?_) λYa Ya q=>q) hm;subst e;refine AC.wp (h2 x) S₁ λy s₂ S₂=>?_;refine AC.wp (h3 x y) S₂ λYa s₃ S₃=>?_;exact⟨(x,y),rfl,S₃⟩
theorem AC.retS{e:Expr}{pos:Pos}{env:Env}{X:Type}{v:X->Value}{led:X->AN}(h:AC C A (Bf e env) L v led):AC C A (Qe (.Return (some e) pos) env) L (λx=>.ret (v x)) led:=λR s S=>
 Kg (Av (h R s S) (λYa s' ⟨x,e,S'⟩=>⟨x,by rw[e],S'⟩) λYa Ya q=>q)
theorem om{B:Bx}{a b:Value}{da db:PyData}{L:AN}{bo:Bool}(hu:A.units+64<cLine)(ha:da.canLay0=true)(hb:db.canLay0=true)(hd:da.depth<=64)
 (h: ∀R s,St B.C (L++R) s->(∃as,Qc s.heap a da as)/\ ∃bs,Qc s.heap b db bs) (he:Me da db=bo):AC B.C A (Gf .Eq a b) L (λYa:Unit=>.bool bo) (λYa=>L):=λR s S=>by
 obtain⟨⟨as,ra⟩,bs,rb⟩:=h R s S;exact SeqAt.compareEq_reads ra rb ha hb (by have:=Nat.min_le_left da.depth db.depth;lia) ⟨(),by rw[he],S⟩
theorem T7{B:Bx}{a b:Value}{da db:PyData}{L:AN}{bo:Bool}(hu:A.units+64<cLine)(ha:da.canLay0=true)(hb:db.canLay0=true)(hd:da.depth<=64)
 (h: ∀R s,St B.C (L++R) s->(∃as,Qc s.heap a da as)/\ ∃bs,Qc s.heap b db bs) (he:(!Me da db)=bo):AC B.C A (Gf .NotEq a b) L (λYa:Unit=>.bool bo) (λYa=>L):=λR s S=>by
 obtain⟨⟨as,ra⟩,bs,rb⟩:=h R s S;exact SeqAt.compareNe_reads ra rb ha hb (by have:=Nat.min_le_left da.depth db.depth;lia) ⟨(),by rw[he],S⟩
theorem AA.Ov{n:Nat}{A:AL}(h:AA (n+6) A):A.units+64<cLine:=by have:=h.2.2;lia
theorem St.c7{C:Cx}{L:AN}{s:Af}{e:Bi}(S:St C L s)(he:e∈L){p:Addr×AO}(hp:p∈e.flat): ∃g,s.heap.get? p.1=some (p.2.obj g):=by
 obtain⟨H,_,XP⟩:=S.led
 have: ∀L:AN,e∈L->p∈Ao L:=λL he=>by
  induction L with
  |nil=>cases he
  |cons x r ih=>
   rcases List.mem_cons.mp he with rfl|he
   ·exact Ar _ hp
   ·exact Ax _ (ih he)
 obtain⟨o,ho,g,rfl⟩:=XP.at_ p (Ar _ (this L he));exact⟨g,ho⟩
inductive RJ:Ak->List PyData->Prop
 |nil:RJ [] []
 |str {x t vs ds}:RJ vs ds->RJ (.str x t::vs) (.str x::ds)
 |int {i t vs ds}:RJ vs ds->RJ (.int i t::vs) (.int i::ds)
theorem RJ.reads{h:Heap}{vs:Ak}{ds:List PyData}(q:RJ vs ds): ∃as,ReadsAll h vs ds as:=by
 induction q with
 |nil=>exact⟨_,.nil⟩
 |str _ ih=>obtain⟨as,r⟩:=ih;exact⟨_,.cons (.str _ _) r⟩
 |int _ ih=>obtain⟨as,r⟩:=ih;exact⟨_,.cons (.int _ _) r⟩
theorem St.fC{C:Cx}{L:AN}{s:Af}(S:St C L s){a:Nat}{vs:Ak}{ds:List PyData}(he:AV a vs∈L)(q:RJ vs ds): ∃as,Qc s.heap (J a) (.tuple ds) as:=by
 obtain⟨g,hg⟩:=S.c7 he (p:=(a+323,_)) (.head _);obtain⟨as,r⟩:=q.reads (h:=s.heap);exact⟨as,.tuple hg rfl rfl r⟩
end
theorem Fz{AH:List It}(hI:CY AH):(AH.map It.v).length<=1000:=by have:=hI.1;rw[AD];lia
theorem WU(B:Bx):A4 B.P 78=[mN 6 3 0,.If (.Compare (el (vE (mN 6 3 1)) 0) [.NotEq] [el (vE (mN 6 3 1)) 1] (pS 28 11 35)) (nB (mN 6 3 1)) [] ⟨28,8,29,49⟩,.If (vE (mN 6 3 2)) (nB (mN 6 3 2)) [] ⟨30,8,34,59⟩,mN 6 3 3]:=by kernel_rfl
include O
theorem TL(U:AA 5 A)(x dx m u t3 t5 t4 l y t:Nat):
 AS B A (BM (.builtin "proto.getattr_hooked" ⟨[J x,.str D6 t],[]⟩)) [BO x dx,Bc dx m u t3 t5 t4 l y] (.done (.ret (.int (m:Int) u))) [BO x dx,Bc dx m u t3 t5 t4 l y]:=
 rn O U (.g 290272160251905<|.fi () [0,0])
def NB(U:AA 6 A)(x dx m u t3 t5 t4 l y t:Nat):Ag B.C A where
 c:=.builtin "proto.getattr_hooked" ⟨[J x,.str D6 t],[]⟩
 F:=[BO x dx,Bc dx m u t3 t5 t4 l y]
 X:=Unit
 res:=λYa=>.ok (.ret (.int (m:Int) u))
 led:=λYa=>[BO x dx,Bc dx m u t3 t5 t4 l y]
 ok:=F9 ADl (TL O U.in1 x dx m u t3 t5 t4 l y t)
theorem R_(U:AA 5 A)(x dx m u t3 t5 t4 l y t:Nat):
 AS B A (BM (.builtin "proto.getattr_hooked" ⟨[J x,.str Fp t],[]⟩)) [BO x dx,Bc dx m u t3 t5 t4 l y] (.done (.ret (J y))) [BO x dx,Bc dx m u t3 t5 t4 l y]:=
 rn O U (.g 290272160251905<|.fi () [0,0])
def BE(U:AA 6 A)(x dx m u t3 t5 t4 l y t:Nat):Ag B.C A where
 c:=.builtin "proto.getattr_hooked" ⟨[J x,.str Fp t],[]⟩
 F:=[BO x dx,Bc dx m u t3 t5 t4 l y]
 X:=Unit
 res:=λYa=>.ok (.ret (J y))
 led:=λYa=>[BO x dx,Bc dx m u t3 t5 t4 l y]
 ok:=F9 ADl (R_ O U.in1 x dx m u t3 t5 t4 l y t)
theorem Uy(U:AA 5 A)(x dx m u t3 t5 t4 l y t:Nat):
 AS B A (BM (.builtin "proto.getattr_hooked" ⟨[J x,.str Jf t],[]⟩)) [BO x dx,Bc dx m u t3 t5 t4 l y] (.done (.ret (J l))) [BO x dx,Bc dx m u t3 t5 t4 l y]:=
 rn O U (.g 290272160251905<|.fi () [0,0])
def Ih(U:AA 6 A)(x dx m u t3 t5 t4 l y t:Nat):Ag B.C A where
 c:=.builtin "proto.getattr_hooked" ⟨[J x,.str Jf t],[]⟩
 F:=[BO x dx,Bc dx m u t3 t5 t4 l y]
 X:=Unit
 res:=λYa=>.ok (.ret (J l))
 led:=λYa=>[BO x dx,Bc dx m u t3 t5 t4 l y]
 ok:=F9 ADl (Uy O U.in1 x dx m u t3 t5 t4 l y t)
theorem PD(U:AA 5 A)(x dx m u t3 t5 t4 l y t:Nat):
 AS B A (BM (.builtin "proto.getattr_hooked" ⟨[J x,.str EB t],[]⟩)) [BO x dx,Bc dx m u t3 t5 t4 l y] (.done (.ret (.str ⟨⟨[32]⟩⟩ t4))) [BO x dx,Bc dx m u t3 t5 t4 l y]:=
 rn O U (.g 290272160251905<|.fi () [0,0])
def Fd(U:AA 6 A)(x dx m u t3 t5 t4 l y t:Nat):Ag B.C A where
 c:=.builtin "proto.getattr_hooked" ⟨[J x,.str EB t],[]⟩
 F:=[BO x dx,Bc dx m u t3 t5 t4 l y]
 X:=Unit
 res:=λYa=>.ok (.ret (.str ⟨⟨[32]⟩⟩ t4))
 led:=λYa=>[BO x dx,Bc dx m u t3 t5 t4 l y]
 ok:=F9 ADl (PD O U.in1 x dx m u t3 t5 t4 l y t)
noncomputable abbrev iq(a:Nat)(f x:Addr):Bi:=.one (a+323) (.ex ⟨.type "method",none,.fields ⟨[.ref f,.ref x]⟩,⟨[]⟩⟩)
def gK(U:AA 3 A)(x dx:Nat)(xs:Ak):Ag B.C A:=
 DN O U "function.__get__" [.ref 144,J x,.ref 200] [AY x dx xs] (λa:Nat=>J a) (λa=>[iq a 144 (x+323),AY x dx xs]) (λU=>.g 64<|.fi () [0]) λU=>.al λa0=>.fi (a0) [0,0]
def bX(U:AA 5 A)(x dx:Nat)(xs:Ak)(n:Value)(t:Nat):Ag B.C A:=
 DN O U "list.__getattribute__" [J x,.str ⟨⟨[112,117,115,104]⟩⟩ t] [AY x dx xs,A3 dx n] (λa:Nat=>J a) (λa=>[iq a 144 (x+323),AY x dx xs,A3 dx n]) (λU=>.g 4097<|.fi () [0,0]) λU=>.g 76093105177075122177<|.cc (gK O U.l x dx xs) [0] λ(y0:Nat)=>.fi (y0) [0,0,0]
theorem iB(U:AA 1 A)(x dx a:Nat)(IN st:Str)(t1 t2:Nat)(xs:Ak)(n:Value):
 AS B A (BM (.call (J a) ⟨[.str IN t1,.str st t2],[]⟩)) [iq a 144 (x+323),AY x dx xs,A3 dx n] (.again (.call (.ref 144) ⟨[J x,.str IN t1,.str st t2],[]⟩)) [iq a 144 (x+323),AY x dx xs,A3 dx n]:=
 rn O U (.g 65<|.fi () [0,0,0])
def b0(U:AA 6 A)(x dx a:Nat)(IN st:Str)(t1 t2:Nat)(xs:Ak)(n:Value)(hx:xs.length<=1000):Ag B.C A where
 c:=.call (J a) ⟨[.str IN t1,.str st t2],[]⟩
 F:=[iq a 144 (x+323),AY x dx xs,A3 dx n]
 X:=Nat
 res:=λa=>.ok (.ret .none)
 led:=λa=>[AY x dx (xs++[J a]),A3 dx n,AV a [.str IN t1,.str st t2]]
 ok:=(AT.Tc (iB O (A:=A.under (.call (J a) ⟨[.str IN t1,.str st t2],[]⟩)) (U.l.ca _ _) x dx a IN st t1 t2 xs n) (Nb _ _)
  (λR s S=>Fm (Sr O U.l x dx IN st t1 t2 xs n hx (.one (a+323) (.ex ⟨.type "method",none,.fields ⟨[.ref 144,J x]⟩,⟨[]⟩⟩)::R) s (S.perm ((Ae _ _ _).trans ((Ae _ _ _).cons _)))) (λr s' ⟨q,e,S'⟩=>⟨q,e,by
   refine St.drop (L':=[iq a 144 (x+323)]) (S'.perm ?_)
   exact(((Bm _ _).symm.cons _).cons _).cons _⟩))).call
theorem vw(U:AA 20 A)(L:Nat)(x dx m u t3 t5 t4 l y dy n t:Nat)(xs:Ak)(v:Addr)(hx:xs.length<1000):
 AS B A (Ac ((A4 B.P 78).take 1) (AR B.P 78 [] (L+323))) [AI L [(AM,J x)],BO x dx,Bc dx m u t3 t5 t4 l y,AY y dy (xs++[CC v]),A3 dy (.int (n:Int) t)] .next [AI L [(AM,J x),(B5,.ref v)],BO x dx,Bc dx m u t3 t5 t4 l y,AY y dy xs,A3 dy (.int (n:Int) t)]:=
 D7 O U (.g 65<|.fr λk0=>.g 16777218<|.cc (BE O U.l x dx m u t3 t5 t4 l y k0) [1,1] λYa=>.g 79326085505654248456669102084<|.cc (Va O U.l y dy xs v (.int (↑n) t) hx) [3,3] λYa=>.fr λk3=>.g 6405<|.fi () [4,2,2,0,0])
theorem vv(U:AA 20 A)(L:Nat)(x dx m u t3 t5 t4 l y dy n t:Nat):
 AC B.C A (Ac ((A4 B.P 78).take 1) (AR B.P 78 [] (L+323))) [AI L [(AM,J x)],BO x dx,Bc dx m u t3 t5 t4 l y,AY y dy [],A3 dy (.int (n:Int) t)]
  (λp:Nat×Nat×Nat=>.next)
  (λp=>[AI L [(AM,J x),(B5,J p.1)],BO x dx,Bc dx m u t3 t5 t4 l y,AY y dy [],A3 dy (.int (n:Int) t),AV p.1 [.str eS p.2.1,.str eS p.2.2]]):=
 D7 O U (.g 65<|.fr λk0=>.g 16777218<|.cc (BE O U.l x dx m u t3 t5 t4 l y k0) [1,1] λYa=>.g 79326085505654248456669102084<|.cc (gi O U.l y dy (.int (↑n) t)) [3,3] λy2=>.fr λk3=>.g 6470<|.fi (y2) [5,3,3,1,1,0])
theorem nw(U:AA 1 A)(L x:Nat)(v:Addr):
 AS B A (Bf (nM B5 28 11 22) (AR B.P 78 [] (L+323))) [AI L [(AM,J x),(B5,.ref v)]] (CC v) [AI L [(AM,J x),(B5,.ref v)]]:=
 H_ O U (.g 65<|.fi () [0])
theorem nx(U:AA 1 A)(L:Nat)(q:BC):
 AC B.C A (Bf (Expr.Tuple [Ow (Const.str z__) 0 (pS 28 27 30),Ow (Const.str ⟨⟨[]⟩⟩) 0 (pS 28 32 34)] 0 (pS 28 26 35)) (AR B.P 78 [] (L+323))) [AI L q]
  (λp:Nat×Nat×Nat=>J p.1)
  (λp=>[AV p.1 [.str ⟨⟨[32]⟩⟩ p.2.1,.str eS p.2.2],AI L q]):=
 H_ O U (.fr λk0=>.fr λk1=>.al λa2=>.fi (a2,k0,k1) [0,0])
theorem ny(U:AA 20 A)(L:Nat)(x dx m u t3 t5 t4 l y dy n t:Nat)(xs:Ak)(v tf tp:Nat)(f p:Str)(hx:xs.length<=1000):
 AC B.C A (Ac (nB (mN 6 3 1)) (AR B.P 78 [] (L+323))) [AI L [(AM,J x),(B5,J v)],BO x dx,Bc dx m u t3 t5 t4 l y,AY y dy xs,A3 dy (.int (n:Int) t),AV v [.str f tf,.str p tp]]
  (λa:Nat=>.next)
  (λa=>[AI L [(AM,J x),(B5,J v)],BO x dx,Bc dx m u t3 t5 t4 l y,AY y dy (xs++[J a]),A3 dy (.int (n:Int) t),AV a [.str f tf,.str p tp]]):=
 D7 O U (.g 65<|.fr λk0=>.g 16777218<|.cc (BE O U.l x dx m u t3 t5 t4 l y k0) [1,1] λYa=>.fr λk2=>.g 4398046511108<|.cc (bX O U.l y dy xs (.int (↑n) t) k2) [3,3] λ(y3:Nat)=>.g 4550<|.cc (Un O U.l v [.str f tf,.str p tp] (by first|assumption|simp)) [6] λYa=>.g 262337<|.cc (b0 O U.l y dy y3 f p tf tp xs (.int (↑n) t) hx) [2,2,2] λy5=>.fi (y5) [7,5,5,0,0,0])
theorem tZ(U:AA 26 A)(L:Nat)(x dx m u t3 t5 t4 l y dy n t:Nat)(AH:List It)(v z:Nat)(rows:Ak)(hS:B.Std)(hI:CY AH)(hn:n+1<=1000000)(hz:(n+1)+CN AH=z+1)(hr:rows.length<=900):
 AC B.C A (Ac ((A4 B.P 78).drop 2) (AR B.P 78 [] (L+323))) [AI L [(AM,J x),(B5,J v)],BO x dx,Bc dx m u t3 t5 t4 l y,BS y dy AH,A3 dy (.int ((n+1:Nat):Int) t),Ai AH,AE l rows]
  (λp:Nat×Nat=>.next)
  (λp=>[BO x dx,Bc dx m u t3 t5 t4 l y,AY y dy [],A3 dy (.int ((0:Nat):Int) p.1),AE l (rows++[Co (Bq AH) p.2])]):=by
 obtain⟨_,_|_⟩:=B<;>exact D7 O U (.g 266240<|.fr λk0=>.g 16777218<|.cc (BE O U.l x dx m u t3 t5 t4 l y k0) [1,1] λYa=>.cc (MD O hS U.l y dy (n+1) t (z+1) AH hI hn hz) [3,3,3] λ(y2:Nat×Nat)=>.fr λk3=>.cc (Ky _ _ O U.l (↑(z+1)) 0 y2.snd k3 (by first|assumption|lia|exact Fz hI)) [] λYa=>.g 70<|.fr λk5=>.g 16777220<|.cc (BE O U.l x dx m u t3 t5 t4 l y k5) [3,3] λYa=>.g 79306440461085229257586638851<|.cc (bk O hS U.l y dy n t AH hI) [2,2,2] λYa=>.g 70<|.fr λk8=>.g 16777220<|.cc (Ih O U.l x dx m u t3 t5 t4 l y k8) [3,3] λYa=>.g 4810365235655<|.fr λH9=>.g 16777217<|.cc (BE O U.l x dx m u t3 t5 t4 l y H9) [0,0] λYa=>.cc (N6 O hS U.l y dy (n+1) t AH hI) [2,2,2] λ(OR:Nat)=>.cc (Do O U.l l (.str (Bq AH) OR) rows (by first|assumption|lia|exact Fz hI)) [6] λYa=>.g 71<|.fr λXX=>.g 16777221<|.cc (BE O U.l x dx m u t3 t5 t4 l y XX) [4,4] λYa=>.g 79326085505654248456669102084<|.cc (RR O U.l y dy (B0 It.v AH) (.int (↑(n+1)) t) (by first|assumption|lia|exact Fz hI)) [3,3] λSM=>.fi (SM,OR) [2,2,0,0,0])
theorem vx(U:AA 26 A)(L:Nat)(x dx m u t3 t5 t4 l y dy t:Nat)(AH:List It)(v z:Nat)(rows:Ak)(hS:B.Std)(hI:CY AH)(hz:0+CN AH=z+1)(hr:rows.length<=900)(hw:(decide ((Bq AH).length>0)&&(Bq AH).cps.all Cg)=false):
 AC B.C A (Ac ((A4 B.P 78).drop 2) (AR B.P 78 [] (L+323))) [AI L [(AM,J x),(B5,J v)],BO x dx,Bc dx m u t3 t5 t4 l y,BS y dy AH,A3 dy (.int ((0:Nat):Int) t),Ai AH,AE l rows]
  (λp:Nat×Nat=>.next)
  (λp=>[BO x dx,Bc dx m u t3 t5 t4 l y,AY y dy [],A3 dy (.int ((0:Nat):Int) p.1),AE l (rows++[Co (Bq AH) p.2])]):=by
 obtain⟨_,_|_⟩:=B<;>exact D7 O U (.g 266240<|.fr λk0=>.g 16777218<|.cc (BE O U.l x dx m u t3 t5 t4 l y k0) [1,1] λYa=>.cc (MD O hS U.l y dy 0 t (z+1) AH hI (by first|assumption|lia|exact Fz hI) hz) [3,3,3] λ(y2:Nat×Nat)=>.fr λk3=>.cc (Ky _ _ O U.l (↑(z+1)) 0 y2.snd k3 (by first|assumption|lia|exact Fz hI)) [] λYa=>.g 70<|.fr λk5=>.g 16777220<|.cc (BE O U.l x dx m u t3 t5 t4 l y k5) [3,3] λYa=>.g 79306440461085229257586638851<|.cc (bl O hS U.l y dy t z AH hI hz hw) [2,2,2] λYa=>.g 70<|.fr λk8=>.g 16777220<|.cc (Ih O U.l x dx m u t3 t5 t4 l y k8) [3,3] λYa=>.g 4810365235655<|.fr λH9=>.g 16777217<|.cc (BE O U.l x dx m u t3 t5 t4 l y H9) [0,0] λYa=>.cc (N6 O hS U.l y dy 0 t AH hI) [2,2,2] λ(OR:Nat)=>.cc (Do O U.l l (.str (Bq AH) OR) rows (by first|assumption|lia|exact Fz hI)) [6] λYa=>.g 71<|.fr λXX=>.g 16777221<|.cc (BE O U.l x dx m u t3 t5 t4 l y XX) [4,4] λYa=>.g 79326085505654248456669102084<|.cc (RR O U.l y dy (B0 It.v AH) (.int (↑0) t) (by first|assumption|lia|exact Fz hI)) [3,3] λSM=>.fi (SM,OR) [2,2,0,0,0])
omit O
section
variable{C:Cx}{A:AL}{s:Af}{L:AN}
theorem St.tl{e:Bi}(S:St C (e::L) s):St C L s:=St.drop (L':=[e]) (S.perm (Bm _ _).symm)
theorem St.Zm{AH:List It}{i:It}(S:St C (Ai (AH++[i])::L) s):St C (AV i.a [.str i.f i.tf,.str i.p i.tp]::Ai AH::L) s:=S.BV (by
 show(((AH++[i]).map It.e)++Ao L).Perm (i.e::(AH.map It.e++Ao L))
 rw[AZ,AG];exact BH)
theorem St.eb{AH:List It}{a:Nat}{f p:Str}{tf tp:Nat}(S:St C (AV a [.str f tf,.str p tp]::Ai AH::L) s):St C (Ai (AH++[It.mk a f tf p tp])::L) s:=S.BV (by
 show(It.e ⟨a,f,tf,p,tp⟩::(AH.map It.e++Ao L)).Perm (((AH++[It.mk a f tf p tp]).map It.e)++Ao L)
 rw[AZ,AG];exact List.perm_middle.symm)
end
def It.ok(i:It):Prop:=i.f.cps.all (· <0x110000)=true/\i.p.cps.all (· <0x110000)=true
theorem rp{f p:Str}(h:p.cps.toList≠[]):(!Me (.tuple [.str f,.str p]) (.tuple [.str ⟨⟨[32]⟩⟩,.str eS]))=true:=by
 simp only[Me,PyData.eqvAll,Bool.and_true,KS,My]
 right
 rw[beq_eq_false_iff_ne];intro e;exact h (by rw[e])
section
variable{B:Bx}
theorem fj(O:B.C.Ok){A:AL}(U:AA 26 A)(L x dx m u t3 t5 t4 l y dy n t:Nat)(xs:Ak)(v:Nat)(f p:Str)(tf tp:Nat)(hx:xs.length<1000)(hp:p.cps.toList≠[])
 (IQ:f.cps.all (· <0x110000)=true/\p.cps.all (· <0x110000)=true) {Y:Type} {led:Y->AN} {rest:Dx} (hr:(A4 B.P 78).drop 2=rest)
 {G:AN} (h3: ∀a:Nat,AC B.C A (Ac rest (AR B.P 78 [] (L+323))) ([AI L [(AM,J x),(B5,J v)],BO x dx,Bc dx m u t3 t5 t4 l y,AY y dy (xs++[J a]),A3 dy (.int (n:Int) t),AV a [.str f tf,.str p tp]]++G) (λYa:Y=>.next) led):
 AC B.C A (Ac (A4 B.P 78) (AR B.P 78 [] (L+323))) ([AI L [(AM,J x)],BO x dx,Bc dx m u t3 t5 t4 l y,AY y dy (xs++[J v]),A3 dy (.int (n:Int) t),AV v [.str f tf,.str p tp]]++G) (λYa:Y=>.next) led:=by
 have e1:=vw O U.l L x dx m u t3 t5 t4 l y dy n t xs (v+323) hx;rw[WU] at e1 hr;rw[WU];subst hr;refine AC.step (led1:=λYa:Unit=>[AI L [(AM,J x),(B5,J v)],BO x dx,Bc dx m u t3 t5 t4 l y,AY y dy xs,A3 dy (.int (n:Int) t),AV v [.str f tf,.str p tp]]++G) (e1.frame (AV v [.str f tf,.str p tp]::G)) λYa=>?_;refine AC.step (X:=Nat) (led1:=λa=>[AI L [(AM,J x),(B5,J v)],BO x dx,Bc dx m u t3 t5 t4 l y,AY y dy (xs++[J a]),A3 dy (.int (n:Int) t),AV a [.str f tf,.str p tp]]++G) (AC.one (AC.ML (b:=true)
  (AC.Fh ((nw O U.l L x (v+323)).frame ([BO x dx,Bc dx m u t3 t5 t4 l y,AY y dy xs,A3 dy (.int (n:Int) t),AV v [.str f tf,.str p tp]]++G))
   (λYa=>(nx O U.l L [(AM,J x),(B5,J v)]).frame ([BO x dx,Bc dx m u t3 t5 t4 l y,AY y dy xs,A3 dy (.int (n:Int) t),AV v [.str f tf,.str p tp]]++G))
   (λYa q=>T7 (da:=.tuple [.str f,.str p]) (db:=.tuple [.str ⟨⟨[32]⟩⟩,.str eS]) (AA.Ov (n:=20) U) ?_ ADl (by simp[Fl,D2]) (λR s S=>?_) (rp hp)) rfl)
  (λq=>((ny O U.l L x dx m u t3 t5 t4 l y dy n t xs v tf tp f p ADj).frame G).pre λR s S=>?_))) λa=>h3 a
 ·simp only[En,DQ,Bool.and_true]
  exact Bool.and_eq_true_iff.mpr IQ
 ·exact⟨S.fC (a:=v) (Ar _ (Ax _ (Ar _ (.tail _ (.tail _ (.tail _ (.tail _ (.head _)))))))) (.str (.str .nil)),S.fC (a:=q.1) (Ar _ (.head _)) (.str (.str .nil))⟩
 ·exact St.tl S
theorem Kh{AH:List It}{a a' tf tf' tp tp':Nat}{f p:Str}:Bq (AH++[It.mk a f tf p tp])=Bq (AH++[It.mk a' f tf' p tp']):=by
 simp only[Bq,AZ,Aw,EC,It.text]
theorem WR{AH:List It}{a a' tf tf' tp tp':Nat}{f p:Str}:CN (AH++[It.mk a f tf p tp])=CN (AH++[It.mk a' f tf' p tp']):=by
 simp only[CN,AZ,Aw,EC,It.len]
theorem CY.same{AH:List It}{a a' tf tf' tp tp':Nat}{f p:Str}(h:CY (AH++[It.mk a f tf p tp])):CY (AH++[It.mk a' f tf' p tp']):=by
 refine⟨by have:=h.1;simpa using this,λi hi=>?_⟩
 rcases List.mem_append.mp hi with hi|hi
 ·exact h.2 i (Ar _ hi)
 ·rw[List.mem_singleton.mp hi]
  exact h.2 (It.mk a f tf p tp) (Ax _ (.head _))
theorem fh(O:B.C.Ok)(hS:B.Std){A:AL}(U:AA 26 A)(L x dx m u t3 t5 t4 l y dy n t:Nat)(AH:List It)(i:It)(rows:Ak)(hI:CY (AH++[i]))(hn:n<=1000)(hp:i.p.cps.toList≠[])
 (IQ:i.ok) (hz:0<CN (AH++[i])) (hr:rows.length<=900) (hw:(Bq (AH++[i])).cps.all Cg=false):
 AC B.C A (Ac (A4 B.P 78) (AR B.P 78 [] (L+323))) [AI L [(AM,J x)],BO x dx,Bc dx m u t3 t5 t4 l y,BS y dy (AH++[i]),A3 dy (.int (n:Int) t),Ai (AH++[i]),AE l rows]
  (λYa:Nat×Nat=>.next) (λp=>[BO x dx,Bc dx m u t3 t5 t4 l y,AY y dy [],A3 dy (.int ((0:Nat):Int) p.1),AE l (rows++[Co (Bq (AH++[i])) p.2])]):=by
 obtain⟨a0,f,tf,p,tp⟩:=i
 refine(fj O U L x dx m u t3 t5 t4 l y dy n t (AH.map It.v) a0 f p tf tp (by have:=hI.1;rw[AX] at this;rw[AD];simp at this;lia) hp IQ (G:=[Ai AH,AE l rows]) rfl λa=>?_).pre λR s S=>?_
 ·have yp:=hI.same (a':=a) (tf':=tf) (tp':=tp)
  have vL:0<CN (AH++[It.mk a f tf p tp]):=by rw[WR (a':=a0) (tf':=tf) (tp':=tp)];exact hz
  have hl: ∀R s,St B.C ([AI L [(AM,J x),(B5,J a0)],BO x dx,Bc dx m u t3 t5 t4 l y,AY y dy (AH.map It.v++[J a]),A3 dy (.int (n:Int) t),AV a [.str f tf,.str p tp]]++[Ai AH,AE l rows]++R) s->
   St B.C ([AI L [(AM,J x),(B5,J a0)],BO x dx,Bc dx m u t3 t5 t4 l y,BS y dy (AH++[It.mk a f tf p tp]),A3 dy (.int (n:Int) t),Ai (AH++[It.mk a f tf p tp]),AE l rows]++R) s:=λR s S=>by
   have S1:=S.picked (ix:=(5::5::BW 6)) rfl;have S2:=S1.eb;have S3:=St.picked (L:=[_,_,_,_,_,_,_]) (ix:=[1,1,1,1,1,0,0]) S2 rfl;rw[show AH.map It.v++[J a]=(AH++[It.mk a f tf p tp]).map It.v from by rw[AZ];rfl] at S3
   exact S3
  cases n with
  |zero=>
   have e:=vx O U L x dx m u t3 t5 t4 l y dy t (AH++[It.mk a f tf p tp]) a0 (CN (AH++[It.mk a f tf p tp])-1) rows hS yp ADj hr (by rw[Kh (a':=a0) (tf':=tf) (tp':=tp),hw,Bool.and_false])
   exact(e.pre hl).post λq R s S=>by rw[Kh (a':=a0) (tf':=tf) (tp':=tp)] at S;exact S
  |succ n=>
   exact((tZ O U L x dx m u t3 t5 t4 l y dy n t (AH++[It.mk a f tf p tp]) a0 (n+CN (AH++[It.mk a f tf p tp])) rows hS yp ADj ADj hr).pre hl).post λq R s S=>by rw[Kh (a':=a0) (tf':=tf) (tp':=tp)] at S;exact S
 ·have S1:=St.picked (L:=[_,_,_,_,_,_,_]) (ix:=(5::BW 6)) S rfl
  have S2:=S1.Zm;have S3:=St.picked (L:=[_,_,_,_,_,_,_,_]) (ix:=[2,2,2,2,2,0,0,0]) S2 rfl;rw[show BS y dy (AH++[It.mk a0 f tf p tp])=AY y dy (AH.map It.v++[J a0]) from by unfold BS;rw[AZ];rfl] at S3
  exact S3
end
include O
def lK(hS:B.Std)(U:AA 28 A)(x dx m u t3 t5 t4 l y dy n t:Nat)(AH:List It)(i:It)(rows:Ak)(hI:CY (AH++[i]))(hn:n<=1000)(hp:i.p.cps.toList≠[])
 (IQ:i.ok) (hz:0<CN (AH++[i])) (hr:rows.length<=900) (hw:(Bq (AH++[i])).cps.all Cg=false):Ag B.C A where
 c:=.call (.ref 78) ⟨[J x],[]⟩
 F:=[BO x dx,Bc dx m u t3 t5 t4 l y,BS y dy (AH++[i]),A3 dy (.int (n:Int) t),Ai (AH++[i]),AE l rows]
 X:=Nat×Nat
 res:=λYa=>.ok (.ret .none)
 led:=λp=>[BO x dx,Bc dx m u t3 t5 t4 l y,AY y dy [],A3 dy (.int ((0:Nat):Int) p.1),AE l (rows++[Co (Bq (AH++[i])) p.2])]
 ok:=EU O U [(AM,J x)]
  (λa=>BK (fh O hS (AA.deeper U.l) a x dx m u t3 t5 t4 l y dy n t AH i rows hI hn hp IQ hz hr hw))
omit O
theorem nu:(!Me (.tuple [.str eS,.str eS]) (.tuple [.str ⟨⟨[32]⟩⟩,.str eS]))=true:=by decide+kernel
section
variable{B:Bx}
theorem ff(O:B.C.Ok)(hS:B.Std){A:AL}(U:AA 26 A)(L x dx m u t3 t5 t4 l y dy n t:Nat)(rows:Ak)(hn:n+1<=1000)(hr:rows.length<=900):
 AC B.C A (Ac (A4 B.P 78) (AR B.P 78 [] (L+323))) [AI L [(AM,J x)],BO x dx,Bc dx m u t3 t5 t4 l y,AY y dy [],A3 dy (.int ((n+1:Nat):Int) t),AE l rows]
  (λYa:Nat×Nat=>.next) (λp=>[BO x dx,Bc dx m u t3 t5 t4 l y,AY y dy [],A3 dy (.int ((0:Nat):Int) p.1),AE l (rows++[Co eS p.2])]):=by
 have e1:=vv O U.l L x dx m u t3 t5 t4 l y dy (n+1) t;have e2a:=λv=>nw O U.l L x (v+323);have e2b:=λv=>nx O U.l L [(AM,J x),(B5,J v)];have e2c:=λv tf tp=>ny O U.l L x dx m u t3 t5 t4 l y dy (n+1) t [] v tf tp eS eS ADn
 have e3:=λa tf tp v=>tZ O U L x dx m u t3 t5 t4 l y dy n t [It.mk a eS tf eS tp] v n rows hS ⟨by simp,λi hi=>by rw[List.mem_singleton.mp hi];exact⟨By _,By _⟩⟩ ADj rfl hr
 rw[WU] at e1 e3;rw[WU];refine AC.step (led1:=λq:Nat×Nat×Nat=>[AI L [(AM,J x),(B5,J q.1)],BO x dx,Bc dx m u t3 t5 t4 l y,AY y dy [],A3 dy (.int ((n+1:Nat):Int) t),AV q.1 [.str eS q.2.1,.str eS q.2.2],AE l rows]) (e1.frame [AE l rows]) λv=>?_;refine AC.step (X:=Nat) (led1:=λa=>[AI L [(AM,J x),(B5,J v.1)],BO x dx,Bc dx m u t3 t5 t4 l y,AY y dy ([]++[J a]),A3 dy (.int ((n+1:Nat):Int) t),AV a [.str eS v.2.1,.str eS v.2.2],AE l rows]) (AC.one (AC.ML (b:=true)
  (AC.Fh ((e2a v.1).frame [BO x dx,Bc dx m u t3 t5 t4 l y,AY y dy [],A3 dy (.int ((n+1:Nat):Int) t),AV v.1 [.str eS v.2.1,.str eS v.2.2],AE l rows])
   (λYa=>(e2b v.1).frame [BO x dx,Bc dx m u t3 t5 t4 l y,AY y dy [],A3 dy (.int ((n+1:Nat):Int) t),AV v.1 [.str eS v.2.1,.str eS v.2.2],AE l rows])
   (λYa q=>T7 (da:=.tuple [.str eS,.str eS]) (db:=.tuple [.str ⟨⟨[32]⟩⟩,.str eS]) (AA.Ov (n:=20) U) ADl ADl ADl (λR s S=>?_) nu) rfl)
  (λq=>((e2c v.1 v.2.1 v.2.2).frame [AE l rows]).pre λR s S=>?_))) λa=>((e3 a v.2.1 v.2.2 v.1).pre λR s S=>?_)
 ·exact⟨S.fC (a:=v.1) (Ar _ (Ax _ (.tail _ (.tail _ (.tail _ (.tail _ (.head _))))))) (.str (.str .nil)),S.fC (a:=q.1) (Ar _ (.head _)) (.str (.str .nil))⟩
 ·exact St.tl S
 ·exact S.BV (EH _)
end
include O
def lH(hS:B.Std)(U:AA 28 A)(x dx m u t3 t5 t4 l y dy n t:Nat)(rows:Ak)(hn:n+1<=1000)(hr:rows.length<=900):Ag B.C A where
 c:=.call (.ref 78) ⟨[J x],[]⟩
 F:=[BO x dx,Bc dx m u t3 t5 t4 l y,AY y dy [],A3 dy (.int ((n+1:Nat):Int) t),AE l rows]
 X:=Nat×Nat
 res:=λYa=>.ok (.ret .none)
 led:=λp=>[BO x dx,Bc dx m u t3 t5 t4 l y,AY y dy [],A3 dy (.int ((0:Nat):Int) p.1),AE l (rows++[Co eS p.2])]
 ok:=EU O U [(AM,J x)]
  (λa=>BK (ff O hS (AA.deeper U.l) a x dx m u t3 t5 t4 l y dy n t rows hn hr))
def BG(C:Cx)(A:AL){α:Type}(t:Sem α)(L:AN){X:Type}(exc:X->Value)(led:X->AN):Prop:=
 ∀R s,St C (L++R) s->BN C.M A t (λYa Ya=>False) (λe s'=> ∃x,e=exc x/\St C (led x++R) s') s
omit O
theorem BG.wp{C:Cx}{A:AL}{α:Type}{t:Sem α}{L R:AN}{X:Type}{exc:X->Value}{led:X->AN}{Q:α->Af->Prop}{E:Value->Af->Prop}{s:Af}(h:BG C A t L exc led)(S:St C (L++R) s)(g: ∀x s',St C (led x++R) s'->E (exc x) s'):BN C.M A t Q E s:=Av (h R s S) (λYa Ya q=>q.elim) λYa s' ⟨x,e,S'⟩=>e▸g x s' S'
theorem Z8{C:Cx}(O:C.Ok){A:AL}{Ir:DP}(U:A.handled=Ir){α:Type}{t:Sem α}{L:AN}{X:Type}{exc:X->Value}{led:X->AN}(sc:D5 C A X)(h:VJ C A Ir exc led t sc L):BG C A t L exc led:=λR s S=>
 Av (Pz O U (Q:=NQ) (E:=QQ exc led) t sc L R s ((show eD _ from h▸λYa=>j8 exc led sc L)) S) (λa s' ⟨_,hf,_⟩=>hf) λe s' ⟨_,⟨x,ha,hF⟩,S'⟩=>⟨x,ha,hF▸S'⟩
theorem dz{C:Cx}(O:C.Ok){A:AL}{n:Nat}(U:AA n A){α:Type}{t:Sem α}{L:AN}{X:Type}{exc:X->Value}{led:X->AN}(sc:D5 C A X)(h:autoParam (VJ C A none exc led t sc L) kq):BG C A t L exc led:=Z8 O U.1 sc h
theorem AAM{C:Cx}(O:C.Ok){A:AL}{α:Type}{t:Sem α}{L:AN}{X:Type}{exc:X->Value}{led:X->AN}(sc:D5 C A X)(h:autoParam (VJ C A A.handled exc led t sc L) kq):BG C A t L exc led:=Z8 O rfl sc h
theorem en{C:Cx}(O:C.Ok){A:AL}{n:Nat}(U:AA n A){x y}{L:AN}{X:Type}{exc:X->_}{led:X->AN}(sc:D5 C A X)(h:autoParam (VJ C A none exc led (isTrue x y (PE x y)) sc L) kq):BG C A (isTrue x y (Bf x y)) L exc led:=by rw[JR];exact dz O U sc h
theorem eo{C:Cx}(O:C.Ok){A:AL}{n:Nat}(U:AA n A){x y}{L:AN}{X:Type}{exc:X->_}{led:X->AN}(sc:D5 C A X)(h:autoParam (VJ C A none exc led (P1 x y) sc L) kq):BG C A (Ac x y) L exc led:=by rw[MF];exact dz O U sc h
theorem xT{C:Cx}(O:C.Ok){A:AL}{x y}{L:AN}{X:Type}{exc:X->_}{led:X->AN}(sc:D5 C A X)(h:autoParam (VJ C A A.handled exc led (isTrue x y (PE x y)) sc L) kq):BG C A (isTrue x y (Bf x y)) L exc led:=by rw[JR];exact AAM O sc h
section
variable{C:Cx}{A:AL}{F:AN}{X:Type}
theorem KA{id:String}{args:LN}{exc:X->Value}{led:X->AN}(hp:H4 id=true)
 (hc:AC C A.in1 (AU id args) F (λYa:Unit=>()) (λYa=>F))
 (h:BG C A.in1 (BM (.builtin id args)) F exc led):Bv C A (.call (.builtin id) args) F (λx=>.error (exc x)) led:=
 Bu λR s S=>Ew (DH hp args) (by
  refine AC.wp hc S λYa s₁ S₁=>?_;refine BL ?_;rw[BX hp args,E4 C];exact Av (h R s₁ S₁) (λYa s₂ q=>q.elim) λe s₂ ⟨x,ex,S₂⟩=>⟨x,by rw[ex],S₂⟩)
theorem AT.ends{c:Code}{X:Type}{fl:X->OU}{led:X->AN}(h:AC C (A.under c) (BM c) F (λx=>Az (fl x)) led):AT C A c F (λx=>.ok (fl x)) led:=λR s S=>by
 refine BL ?_;rw[E4 C];exact AC.wp h S λx s₁ S₁=>⟨x,rfl,S₁⟩
theorem AT.pre{c:Code}{F':AN}{res:X->Result}{led:X->AN}(h:AT C A c F res led)(p: ∀R s,St C (F'++R) s->St C (F++R) s):AT C A c F' res led:=λR s S=>h R s (p R s S)
theorem AT.weaken{c:Code}{res:X->Result}{led:X->AN}(h:AT C A c F res led){Y:Type}{D0:Y->Result}{Cy:Y->AN}(f: ∀x,∃y,res x=D0 y/\ ∀R s,St C (led x++R) s->St C (Cy y++R) s):AT C A c F D0 Cy:=λR s S=>
 Fm (h R s S) λr s' ⟨x,e,S'⟩=>let⟨y,e',g⟩:=f x;⟨y,e.trans e',g R s' S'⟩
theorem AT.frame{c:Code}{res:X->Result}{led:X->AN}(h:AT C A c F res led)(G:AN):AT C A c (F++G) res (λx=>led x++G):=λR s S=>by
 have:=h (G++R) s (by rw[<-AG];exact S)
 exact Fm this λr s' ⟨x,e,S'⟩=>⟨x,e,by rw[AG];exact S'⟩
end
theorem AA.loop{n:Nat}{A:AL}{c:Code}(h:AA (n+1) A)(hw:autoParam (c.weight<=1) kw)(hu:autoParam (c.cUnits<=12) kw):AA n (A.under c):=h.under hw hu
theorem TM:C1 FZ "list_iterator.__next__"=some Builtin.«list_iterator.__next__»:=B2 ADk
noncomputable abbrev BQ(a x:Nat)(i:Nat):Bi:=.one (a+323) (.ex ⟨.type "list_iterator",none,.fields ⟨[.ref (x+323),.int (i:Int) 0]⟩,⟨[]⟩⟩)
noncomputable abbrev Nf(a:Nat)(u v w:Value):Bi:=.one (a+323) (.ex ⟨.type "range",none,.fields ⟨[u,v,w]⟩,⟨[]⟩⟩)
noncomputable abbrev Fj(a:Nat)(x left step:Int):Bi:=.one (a+323) (.ex ⟨.type "range_iterator",none,.fields ⟨[.int x 0,.int left 0,.int step 0]⟩,⟨[]⟩⟩)
noncomputable abbrev NI(T:String)(t:Nat):AO:=.ex ⟨.type T,none,.fields ⟨[.ref (t+323),.none,.none,.none,.bool false,.none]⟩,⟨[]⟩⟩
include O
theorem sP(U:AA 1 A):
 BG B.C A ((Builtin.SmallTypes.stopIteration:Sem PySem.Fin)) []
  (λp:Nat×Nat=>CC (p.1+323))
  (λp=>[.one (p.1+323) (NI "StopIteration" p.2)]):=
 dz O U (.al λa0=>.al λa1=>.fi (a1,a0) [0])
omit O
section
variable{C:Cx}{A:AL}
theorem IH{F:AN}{X:Type}{id:String}{b:KU}{args:LN}{exc:X->Value}{led:X->AN}(hp:H4 id=true)(hb:C1 FZ id=some b)
 (hc:AC C A.in1 (AU id args) F (λYa:Unit=>()) (λYa=>F))
 (h:BG C A.in1 (b args) F exc led):Bv C A (.call (.builtin id) args) F (λx=>.error (exc x)) led:=
 Bu λR s S=>EJ hp hb (Av (hc R s S) (λYa s₁ ⟨_,_,S₁⟩=>Av (h R s₁ S₁) (λYa s₂ q=>q.elim) λe s₂ ⟨x,ex,S₂⟩=>⟨x,by rw[ex],S₂⟩) λYa Ya q=>q.elim)
theorem St.UH{s:Af}{L:AN}{a:Addr}{c:Value}{d:Option Addr}{vs ws:Ak}(S:St C (.one a (.ex ⟨c,d,.fields ⟨vs⟩,⟨[]⟩⟩)::L) s){f:Bs->Bs}(hf:f ⟨vs⟩=⟨ws⟩):
 St C (.one a (.ex ⟨c,d,.fields ⟨ws⟩,⟨[]⟩⟩)::L) {s with heap:=s.heap.update a (Oy f)}:=
 St.No (t:=s.toks) S (B1 ..) (CO _ (DV S) rfl) ⟨G0,by show(⟨c,d,.fields (f ⟨vs⟩),⟨[]⟩⟩:Obj)=_;rw[hf];rfl⟩
theorem YI{a x:Nat}{i:Nat}{c:Value}{d:Option Addr}{xs:Ak}{v:Value}(hx:xs[i]? =some v):
 AC C A (Builtin.«list_iterator.__next__» ⟨[.ref (a+323)],[]⟩) [BQ a x i,.one (x+323) (.ls c d xs)] (λYa:Unit=>.done (.ret v)) (λYa=>[BQ a x (i+1),.one (x+323) (.ls c d xs)]):=by
 intro R s S;have ho:=DV S;obtain⟨g,hl⟩:=S.swap.Dj;show BN _ _ (Oz (.ref (a+323)) 0>>=_) _ _ s;refine AB (B9 ho rfl (x:=.ref (x+323)) rfl ?_);refine iN (show¬((CC (x+323)==CU)=true) from BP) ?_;show BN _ _ (Oz (.ref (a+323)) 1>>=_) _ _ s;refine AB (B9 ho rfl (x:=.int i 0) rfl ?_);show BN _ _ (LY (.ref (x+323))>>=_) _ _ s;refine AB (DG hl rfl ?_);have Qz:(⟨xs⟩:Bs)[i]? =some v:=by simpa using hx
 simp only[Dt,Qz];refine AB (FU ho rfl ADn (AP ⟨(),rfl,?_⟩))
 exact S.UH rfl
theorem We{B:Bx}(O:B.C.Ok)(U:AA 1 A){a x:Nat}{i:Nat}{c:Value}{d:Option Addr}{xs:Ak}(hx:xs.length<=i):
 BG B.C A (Builtin.«list_iterator.__next__» ⟨[.ref (a+323)],[]⟩) [BQ a x i,.one (x+323) (.ls c d xs)] (λp:Nat×Nat=>.ref (p.1+323))
  (λp=>[.one (p.1+323) (NI "StopIteration" p.2),.one (x+323) (.ls c d xs)]):=by
 intro R s S;have ho:=DV S;obtain⟨g,hl⟩:=S.swap.Dj;show BN _ _ (Oz (.ref (a+323)) 0>>=_) _ _ s;refine AB (B9 ho rfl (x:=.ref (x+323)) rfl ?_);refine iN (show¬((CC (x+323)==CU)=true) from BP) ?_;show BN _ _ (Oz (.ref (a+323)) 1>>=_) _ _ s;refine AB (B9 ho rfl (x:=.int i 0) rfl ?_);show BN _ _ (LY (.ref (x+323))>>=_) _ _ s;refine AB (DG hl rfl ?_);have Qz:(⟨xs⟩:Bs)[i]? =none:=by simpa using hx
 simp only[Dt,Qz];refine AB (Eo (AB (FU ho rfl ADn ?_)))
 have S2:=St.tl (S.UH (ws:=[.none,.int (i:Int) 0]) (f:=λvs=>vs.setIfInBounds 0 CU) rfl);refine Av (sP O (A:=A) U _ _ S2) (λYa Ya q=>q) λe s' ⟨p,e',S'⟩=>⟨p,e',S'⟩
theorem D9{F:AN}{X:Type}{T:String}{name:Str}{id:String}{Bn:KU}{self:Value}{rest:Ak}{Sp:PySem.Spec}{res:X->Result}{led:X->AN}(slot:Slot T name id)
 (entry:C1 FZ id=some Bn) (args:argsOk id ⟨self::rest,[]⟩) (g:Meets (Bn ⟨self::rest,[]⟩) Sp)
 (h: ∀R s,St C (F++R) s->s.TypeIs self T/\Sp A (λr s'=> ∃x,r=res x/\St C (led x++R) s') s):Bv C A (.call (.builtin id) ⟨self::rest,[]⟩) F res led:=
 Bu λR s S=>EJ slot.plain entry (slot.check _ _ _ _ _ _ _ _ (h R s S).1 args (g C.prog C.w A _ s (h R s S).2))
end
include O
theorem Sm(U:AA 1 A)(a x i:Nat)(xs:Ak):
 AS B A (AU "list_iterator.__next__" ⟨[.ref (a+323)],[]⟩) [BQ a x i,AE x xs] () [BQ a x i,AE x xs]:=
 by apply Hc O U (.g 65<|.fi () [0,0])
def Fe(U:AA 3 A)(a x i:Nat)(xs:Ak)(v:Value)(hx:xs[i]? =some v):Ag B.C A where
 c:=.call (.builtin "list_iterator.__next__") ⟨[.ref (a+323)],[]⟩
 F:=[BQ a x i,AE x xs]
 X:=Unit
 res:=λYa=>.ok (.ret v)
 led:=λYa=>[BQ a x (i+1),AE x xs]
 ok:=BF ADl TM (Sm O U.l.in1 a x i xs) (YI hx)
def RP(U:AA 3 A)(a x i:Nat)(xs:Ak)(hx:xs.length<=i):Ag B.C A where
 c:=.call (.builtin "list_iterator.__next__") ⟨[.ref (a+323)],[]⟩
 F:=[BQ a x i,AE x xs]
 X:=Nat×Nat
 res:=λp=>.error (.ref (p.1+323))
 led:=λp=>[.one (p.1+323) (NI "StopIteration" p.2),AE x xs]
 ok:=IH ADl TM (Sm O U.l.in1 a x i xs) (We O U.l.in1 hx)
def Bt(U:AA 3 A)(x:Nat)(xs:Ak):Ag B.C A:=
 DN O U "list.__iter__" [.ref (x+323)] [AE x xs] (λa:Nat=>.ref (a+323)) (λa=>[BQ a x 0,AE x xs]) (λU=>.g 65<|.fi () [0]) λU=>.al λa0=>.fi (a0) [0,0]
def NE(U:AA 3 A)(a x i:Nat):Ag B.C A:=
 DN O U "list_iterator.__iter__" [.ref (a+323)] [BQ a x i] (λYa:Unit=>.ref (a+323)) (λYa=>[BQ a x i]) (λU=>.g 65<|.fi () [0]) λU=>.fi () [0]
def Y1(U:AA 3 A)(a:Nat)(v left step:Int):Ag B.C A:=
 DN O U "range_iterator.__iter__" [.ref (a+323)] [Fj a v left step] (λYa:Unit=>.ref (a+323)) (λYa=>[Fj a v left step]) (λU=>.g 65<|.fi () [0]) λU=>.fi () [0]
theorem cb(U:AA 2 A):
 AS B A (BM (.builtin "proto.let_go" ⟨[],[]⟩)) [] (.done (.ret (.none))) []:=
 rn O U (.fi () [])
noncomputable def Dp(U:AA 3 A):Ag B.C A where
 c:=.builtin "proto.let_go" ⟨[],[]⟩
 F:=[]
 X:=Unit
 res:=λYa=>.ok (.ret (.none))
 led:=λYa=>[]
 ok:=F9 ADl (cb O U.in1)
def RU(U:AA 3 A)(a:Nat)(v:Int)(left:Nat)(step:Int):Ag B.C A:=
 DN O U "range_iterator.__next__" [.ref (a+323)] [Fj a v ((left+1:Nat):Int) step] (λk:Nat=>.int v k) (λk=>[Fj a (v+step) (((left+1:Nat):Int)-1) step]) (λU=>.g 65<|.fi () [0]) λU=>.g 6598680645697<|.fr λk0=>.fi (k0) [0]
def Y2(U:AA 3 A)(a v left:Nat):Ag B.C A:=
 (RU O U a ((v+1:Nat):Int) left (-1)).re (λk:Nat=>.ok (.ret (.int ((v+1:Nat):Int) k))) (λYa=>[Fj a (v:Int) (left:Int) (-1)]) (λk=>k) (λk=>rfl) (λk=>by
  show [Fj a (((v+1:Nat):Int)+(-1)) (((left+1:Nat):Int)-1) (-1)]=_;rw[show((v+1:Nat):Int)+(-1)=(v:Int) by lia,show((left+1:Nat):Int)-1=(left:Int) by lia])
def Y3(U:AA 3 A)(a v left:Nat):Ag B.C A:=
 (RU O U a (v:Int) left 1).re (λk:Nat=>.ok (.ret (.int (v:Int) k))) (λYa=>[Fj a ((v+1:Nat):Int) (left:Int) 1]) (λk=>k) (λk=>rfl) (λk=>by
  show [Fj a ((v:Int)+1) (((left+1:Nat):Int)-1) 1]=_;rw[show((left+1:Nat):Int)-1=(left:Int) by lia];rfl)
theorem YS(U:AA 2 A)(a:Nat)(v:Int)(step:Int):
 AS B A (AU "range_iterator.__next__" ⟨[.ref (a+323)],[]⟩) [Fj a v ((0:Nat):Int) step] () [Fj a v ((0:Nat):Int) step]:=
 by apply Hc O U (.g 65<|.fi () [0])
theorem ZE(U:AA 2 A)(a:Nat)(v:Int)(step:Int):
 BG B.C A (BM (.builtin "range_iterator.__next__" ⟨[.ref (a+323)],[]⟩)) [Fj a v ((0:Nat):Int) step]
  (λp:Nat×Nat=>CC (p.1+323))
  (λp=>[.one (p.1+323) (NI "StopIteration" p.2)]):=
 dz O U (.g 266305<|.al λa0=>.al λa1=>.fi (a1,a0) [0])
def RT(U:AA 3 A)(a:Nat)(v:Int)(step:Int):Ag B.C A where
 c:=.call (.builtin "range_iterator.__next__") ⟨[.ref (a+323)],[]⟩
 F:=[Fj a v ((0:Nat):Int) step]
 X:=Nat×Nat
 res:=λp=>.error (CC (p.1+323))
 led:=λp=>[.one (p.1+323) (NI "StopIteration" p.2)]
 ok:=KA ADl (YS O U.in1 a v step) (ZE O U.in1 a v step)
def Yz(U:AA 3 A)(n:Nat)(t:Nat):Ag B.C A:=
 DN O U "range.__new__" [.type "range",.int (n:Int) t] [] (λp:Nat×Nat×Nat=>.ref (p.1+323)) (λp=>[Nf p.1 (.int 0 p.2.1) (.int (n:Int) t) (.int 1 p.2.2)]) (λU=>.fi () []) λU=>.fr λk0=>.fr λk1=>.al λa2=>.fi (a2,k0,k1) [0]
def Y0(U:AA 3 A)(n:Nat)(t u v:Nat):Ag B.C A:=
 DN O U "range.__new__" [.type "range",.int (n:Int) t,.int 0 u,.int (-1) v] [] (λa:Nat=>.ref (a+323)) (λa=>[Nf a (.int (n:Int) t) (.int 0 u) (.int (-1) v)]) (λU=>.fi () []) λU=>.al λa0=>.fi (a0) [0]
omit O
theorem Rq(n:Nat)(h:n<=1000):Dw (n:Int) 0 (-1)=true/\CS (n:Int) 0 (-1)=(n:Int):=by
 have e:CS (n:Int) 0 (-1)=(n:Int):=by
  unfold CS;rw[if_neg ADm]
  split
  ·rw[show(-(-1):Int)=1 from rfl,Int.ediv_one];lia
  ·lia
 refine⟨?_,e⟩;unfold Dw;rw[e];simp only[F7,FS,Bool.or_eq_true,decide_eq_true_eq,if_neg (show¬((-1:Int)>0) by decide)]
 have h63:((2:Int)^63)=9223372036854775808:=by decide
 rw[h63]
 lia
theorem WF(n:Nat)(h:n<=1000):Dw 0 (n:Int) 1=true/\CS 0 (n:Int) 1=(n:Int):=by
 have e:CS 0 (n:Int) 1=(n:Int):=by rw[rangeSize_one];split<;>lia
 exact⟨small_one ADm ADm ADj ADj,e⟩
theorem Nc{B:Bx}{A:AL}(O:B.C.Ok)(a:Nat)(lo hi st k:Int)(t u v:Nat)(hs:Dw lo hi st=true)(hk:CS lo hi st=k):
 Bv B.C A (.call (.builtin "range.__iter__") ⟨[.ref (a+323)],[]⟩) [Nf a (.int lo t) (.int hi u) (.int st v)] (λb:Nat=>.ok (.ret (.ref (b+323)))) (λb=>[Fj b lo k st,Nf a (.int lo t) (.int hi u) (.int st v)]):=
 D9 PySem.F.slot_range_iter PySem.F.entry_range_iter (PySem.F.args_range_iter_1 _) (AutoRange.range___iter___range_1 (a+323) lo hi st t u v (by unfold Dw at hs;simp[hs])) λR s S=>by
  have ho:=DV S;refine⟨⟨_,ho,rfl⟩,ho,s.heap.objs.size-323,?_,?_⟩
  ·rw[<-S.size_eq O]
  ·unfold Dw at hs
   simp only[hs,if_true];show St B.C (.one (s.heap.objs.size-323+323) _::_) _;rw[<-S.size_eq O,hk];exact S.alloc rfl ⟨G0,rfl⟩
include O
def RS(U:AA 3 A)(a n t u v:Nat)(hn:n<=1000):Ag B.C A where
 c:=.call (.builtin "range.__iter__") ⟨[.ref (a+323)],[]⟩
 F:=[Nf a (.int (n:Int) t) (.int 0 u) (.int (-1) v)]
 X:=Nat
 res:=λb=>.ok (.ret (.ref (b+323)))
 led:=λb=>[Fj b (n:Int) (n:Int) (-1),Nf a (.int (n:Int) t) (.int 0 u) (.int (-1) v)]
 ok:=Nc O a _ _ _ _ t u v (Rq n hn).1 (Rq n hn).2
def NG(U:AA 3 A)(a n t u v:Nat)(hn:n<=1000):Ag B.C A where
 c:=.call (.builtin "range.__iter__") ⟨[.ref (a+323)],[]⟩
 F:=[Nf a (.int 0 t) (.int (n:Int) u) (.int 1 v)]
 X:=Nat
 res:=λb=>.ok (.ret (.ref (b+323)))
 led:=λb=>[Fj b ((0:Nat):Int) (n:Int) 1,Nf a (.int 0 t) (.int (n:Int) u) (.int 1 v)]
 ok:=Nc O a _ _ _ _ t u v (WF n hn).1 (WF n hn).2
def W5(U:AA 3 A)(a n t:Nat)(x y z:Value):Ag B.C A:=
 DN O U "object.__init__" [.ref (a+323),.int (n:Int) t] [Nf a x y z] (λYa:Unit=>.none) (λYa=>[Nf a x y z]) (λU=>.g 65<|.fi () [0]) λU=>.g 65<|.fi () [0]
def W6(U:AA 3 A)(a n t u v:Nat)(x y z:Value):Ag B.C A:=
 DN O U "object.__init__" [.ref (a+323),.int (n:Int) t,.int 0 u,.int (-1) v] [Nf a x y z] (λYa:Unit=>.none) (λYa=>[Nf a x y z]) (λU=>.g 65<|.fi () [0]) λU=>.g 65<|.fi () [0]
theorem c8(U:AA 1 A)(n t:Nat):
 AS B A (BM (.call (.type "range") ⟨[.int (n:Int) t],[]⟩)) [] (.again (.builtin "type.__call__" ⟨[.type "range",.int (n:Int) t],[]⟩)) []:=
 rn O U (.fi () [])
theorem d7(U:AA 5 A)(n t:Nat):
 AC B.C A (BM (.builtin "type.__call__" ⟨[.type "range",.int (n:Int) t],[]⟩)) []
  (λp:Nat×Nat×Nat=>.done (.ret (.ref (p.1+323))))
  (λp=>[Nf p.1 (.int 0 p.2.1) (.int (n:Int) t) (.int 1 p.2.2)]):=
 rn O U (.cc (Yz O U.l n t) [] λ(y0:Nat×Nat×Nat)=>.g 4161<|.cc (W5 O U.l y0.fst n t (.int 0 y0.snd.fst) (.int (↑n) t) (.int 1 y0.snd.snd)) [0] λYa=>.fi (y0) [0])
theorem c_(U:AA 1 A)(n t u v:Nat):
 AS B A (BM (.call (.type "range") ⟨[.int (n:Int) t,.int 0 u,.int (-1) v],[]⟩)) [] (.again (.builtin "type.__call__" ⟨[.type "range",.int (n:Int) t,.int 0 u,.int (-1) v],[]⟩)) []:=
 rn O U (.fi () [])
theorem d8(U:AA 5 A)(n t u v:Nat):
 AC B.C A (BM (.builtin "type.__call__" ⟨[.type "range",.int (n:Int) t,.int 0 u,.int (-1) v],[]⟩)) []
  (λa:Nat=>.done (.ret (.ref (a+323))))
  (λa=>[Nf a (.int (n:Int) t) (.int 0 u) (.int (-1) v)]):=
 rn O U (.cc (Y0 O U.l n t u v) [] λy0=>.g 4161<|.cc (W6 O U.l y0 n t u v (.int (↑n) t) (.int 0 u) (.int (-1) v)) [0] λYa=>.fi (y0) [0])
def KD(U:AA 6 A)(n t:Nat):Ag B.C A where
 c:=.call (.type "range") ⟨[.int (n:Int) t],[]⟩
 F:=[]
 X:=Nat×Nat×Nat
 res:=λp=>.ok (.ret (.ref (p.1+323)))
 led:=λp=>[Nf p.1 (.int 0 p.2.1) (.int (n:Int) t) (.int 1 p.2.2)]
 ok:=Dn (c8 O (A:=A.under (.call (.type "range") ⟨[.int (n:Int) t],[]⟩)) (U.l.ca _ _) n t) (F0 _) (d7 O (A:=A.under (.builtin "type.__call__" ⟨[.type "range",.int (n:Int) t],[]⟩)) (U.ty _) n t)
def RQ(U:AA 6 A)(n t u v:Nat):Ag B.C A where
 c:=.call (.type "range") ⟨[.int (n:Int) t,.int 0 u,.int (-1) v],[]⟩
 F:=[]
 X:=Nat
 res:=λp=>.ok (.ret (.ref (p+323)))
 led:=λp=>[Nf p (.int (n:Int) t) (.int 0 u) (.int (-1) v)]
 ok:=Dn (c_ O (A:=A.under (.call (.type "range") ⟨[.int (n:Int) t,.int 0 u,.int (-1) v],[]⟩)) (U.l.ca _ _) n t u v) (F0 _) (d8 O (A:=A.under (.builtin "type.__call__" ⟨[.type "range",.int (n:Int) t,.int 0 u,.int (-1) v],[]⟩)) (U.ty _) n t u v)
noncomputable abbrev Xv(a x:Nat)(i:Int):Bi:=.one (a+323) (.ex ⟨.type "tuple_iterator",none,.fields ⟨[.ref (x+323),.int i 0]⟩,⟨[]⟩⟩)
def Ff(U:AA 3 A)(x:Nat)(xs:Ak):Ag B.C A:=
 DN O U "tuple.__iter__" [.ref (x+323)] [AV x xs] (λa:Nat=>.ref (a+323)) (λa=>[Xv a x 0,AV x xs]) (λU=>.g 65<|.fi () [0]) λU=>.al λa0=>.fi (a0) [0,0]
def E1(U:AA 3 A)(a x:Nat)(v w:Value):Ag B.C A:=
 DN O U "tuple_iterator.__next__" [.ref (a+323)] [Xv a x 0,AV x [v,w]] (λYa:Unit=>v) (λYa=>[Xv a x 1,AV x [v,w]]) (λU=>.g 65<|.fi () [0,0]) λU=>.g 1610883137<|.fi () [0,0]
def E2(U:AA 3 A)(a x:Nat)(v w:Value):Ag B.C A:=
 DN O U "tuple_iterator.__next__" [.ref (a+323)] [Xv a x 1,AV x [v,w]] (λYa:Unit=>w) (λYa=>[Xv a x 2,AV x [v,w]]) (λU=>.g 65<|.fi () [0,0]) λU=>.g 1610883137<|.fi () [0,0]
theorem YV(U:AA 2 A)(a x:Nat)(v w:Value):
 AS B A (AU "tuple_iterator.__next__" ⟨[.ref (a+323)],[]⟩) [Xv a x 2,AV x [v,w]] () [Xv a x 2,AV x [v,w]]:=
 by apply Hc O U (.g 65<|.fi () [0,0])
theorem ZG(U:AA 2 A)(a x:Nat)(v w:Value):
 BG B.C A (BM (.builtin "tuple_iterator.__next__" ⟨[.ref (a+323)],[]⟩)) [Xv a x 2,AV x [v,w]]
  (λp:Nat×Nat=>CC (p.1+323))
  (λp=>[.one (p.1+323) (NI "StopIteration" p.2),AV x [v,w]]):=
 dz O U (.g 1610883137<|.al λa0=>.al λa1=>.fi (a1,a0) [0,2])
def E3(U:AA 3 A)(a x:Nat)(v w:Value):Ag B.C A where
 c:=.call (.builtin "tuple_iterator.__next__") ⟨[.ref (a+323)],[]⟩
 F:=[Xv a x 2,AV x [v,w]]
 X:=Nat×Nat
 res:=λp=>.error (CC (p.1+323))
 led:=λp=>[.one (p.1+323) (NI "StopIteration" p.2),AV x [v,w]]
 ok:=KA ADl (YV O U.in1 a x v w) (ZG O U.in1 a x v w)
def PB(U:AA 3 A)(x t:Nat)(v w:Value):Ag B.C A:=
 DN O U "tuple.__getitem__" [.ref (x+323),.int 0 t] [AV x [v,w]] (λYa:Unit=>v) (λYa=>[AV x [v,w]]) (λU=>.g 65<|.fi () [0]) λU=>.g 65<|.fi () [0]
def PC(U:AA 3 A)(x t:Nat)(v w:Value):Ag B.C A:=
 DN O U "tuple.__getitem__" [.ref (x+323),.int 1 t] [AV x [v,w]] (λYa:Unit=>w) (λYa=>[AV x [v,w]]) (λU=>.g 65<|.fi () [0]) λU=>.g 65<|.fi () [0]
theorem Oe(U:AA 1 A)(x:Nat)(v:Value)(xs:Ak):
 AS B A (AU "list.__getitem__" ⟨[.ref (x+323),v],[]⟩) [AE x xs] () [AE x xs]:=
 by apply Hc O U (.g 65<|.fi () [0])
omit O
theorem nY{xs:Ak}{i:Nat}{v:Value}(hx:xs[i]? =some v)(hs:xs.length<=1000):(i:Int)<2^63:=by
 have:=(List.getElem?_eq_some_iff.mp hx).1
 exact PW (show(i:Int)<1001 by lia) ADm
include O
def Ut(U:AA 3 A)(x dx i t:Nat)(xs:Ak)(v:Value)(hx:xs[i]? =some v)(hs:xs.length<=1000):Ag B.C A where
 c:=.call (.builtin "list.__getitem__") ⟨[.ref (x+323),.int (i:Int) t],[]⟩
 F:=[AY x dx xs]
 X:=Unit
 res:=λYa=>.ok (.ret v)
 led:=λYa=>[AY x dx xs]
 ok:=BF ADl Dq (Ul O U.l.in1 x dx _ xs)
  (@Kj B.C A.in1 (x+323) (.ref 200) (some (dx+323)) xs (i:Int) t v (HH i) (nY hx hs) (by rw[Dt];exact hx))
def BZ(U:AA 3 A)(x i t:Nat)(xs:Ak)(v:Value)(hx:xs[i]? =some v)(hs:xs.length<=1000):Ag B.C A where
 c:=.call (.builtin "list.__getitem__") ⟨[.ref (x+323),.int (i:Int) t],[]⟩
 F:=[AE x xs]
 X:=Unit
 res:=λYa=>.ok (.ret v)
 led:=λYa=>[AE x xs]
 ok:=BF ADl Dq (Oe O U.l.in1 x _ xs)
  (@Kj B.C A.in1 (x+323) (.type "list") none xs (i:Int) t v (HH i) (nY hx hs) (by rw[Dt];exact hx))
omit O
section
variable{C:Cx}{A:AL}
theorem M9{T:String}{name:Str}{id:String}{Bn:KU}{self:Value}{rest:Ak}{y:Str}(slot:Slot T name id)
 (entry:C1 FZ id=some Bn) (args:argsOk id ⟨self::rest,[]⟩) (g:Gives (Bn ⟨self::rest,[]⟩) (.str y)) (hT: ∀s:Af,s.TypeIs self T) (hy:y.length<=sizeLine):
 Bv C A (.call (.builtin id) ⟨self::rest,[]⟩) [] (λk:Nat=>.ok (.ret (.str y k))) (λYa=>[]):=
 D9 slot entry args g.meets λR s S=>⟨hT s,hy,s.toks,rfl,S.toks _ (Eb _)⟩
theorem Hg{T:String}{name:Str}{id:String}{Bn:KU}{self:Value}{rest:Ak}{i:Int}(slot:Slot T name id)
 (entry:C1 FZ id=some Bn) (args:argsOk id ⟨self::rest,[]⟩) (g:Gives (Bn ⟨self::rest,[]⟩) (.int i)) (hT: ∀s:Af,s.TypeIs self T):
 Bv C A (.call (.builtin id) ⟨self::rest,[]⟩) [] (λk:Nat=>.ok (.ret (.int i k))) (λYa=>[]):=
 D9 slot entry args g.meets λR s S=>⟨hT s,s.toks,rfl,S.toks _ (Eb _)⟩
end
theorem sL(c:Nat):(⟨⟨[c]⟩⟩:Str).length<=sizeLine:=by show 1<=sizeLine;rw[Br];lia
noncomputable def TF{B:Bx}{A:AL}(O:B.C.Ok)(U:AA 3 A)(x:Str)(t u c:Nat)(i:Int)(h0:0<=i)(h1:i<1000)(hi:x.cps.toList[i.toNat]? =some c):Ag B.C A where
 c:=.call (.builtin "str.__getitem__") ⟨[.str x t,.int i u],[]⟩
 F:=[]
 X:=Nat
 res:=λk=>.ok (.ret (.str ⟨⟨[c]⟩⟩ k))
 led:=λYa=>[]
 ok:=M9 Kt J9 (J1 _ _)
  (gives_str_getitem x i t u c (by simp only[Iz,decide_eq_false_iff_not,show((2:Int)^63)=9223372036854775808 by decide];lia) (by
   obtain⟨hl,hv⟩:=List.getElem?_eq_some_iff.mp hi;have Zi:i.toNat<x.length:=hl;have e:F4 i x.length=some i.toNat:=by
    have hn: ¬i<0:=by lia
    have hp:(decide (0<=i)&&decide (i<(x.length:Int)))=true:=by rw[FS,decide_eq_true_eq,decide_eq_true_eq];lia
    simp only[F4,if_neg hn,if_pos hp]
   rw[e];show x.cps[i.toNat]? =some c;rw[<-Mx];exact hi)) (λs=>rfl) (sL c)
include O
def cD(U:AA 3 A)(fr:Ay)(t u:Nat):Ag B.C A:=
 (TF O U ⟨⟨32::fr⟩⟩ t u 32 0 ADj ADj rfl).re (λk:Nat=>.ok (.ret (.str ⟨⟨[32]⟩⟩ k))) (λYa=>[]) (λk=>k) (λYa=>rfl) (λYa=>rfl)
noncomputable def TB(U:AA 6 A)(i:Str)(t:Nat)(hi:i.length<=1000000):Ag B.C A where
 c:=.builtin "len" ⟨[.str i t],[]⟩
 F:=[]
 X:=Nat×Nat
 res:=λp=>.ok (.ret (.int (i.length:Int) p.2))
 led:=λp=>[]
 ok:=L7 ADl Kz (IG ADj (ZD O (A:=A.in1) U.l.in1 i t))
def TA(U:AA 6 A)(c:Nat)(fr:Ay)(t:Nat)(hi:fr.length<=900000):Ag B.C A:=
 (TB O U ⟨⟨c::fr⟩⟩ t (by show fr.length+1<=1000000;lia)).re (λp:Nat×Nat=>.ok (.ret (.int ((fr.length+1:Nat):Int) p.2))) (λYa=>[]) (λp=>p) (λYa=>rfl) (λYa=>rfl)
omit O
theorem WT(B:Bx):A4 B.P 113=[mN 6 8 0,.If (vE (mN 6 8 1)) (nB (mN 6 8 1)) [] ⟨76,8,99,47⟩]:=by kernel_rfl
noncomputable abbrev Mu(a t:Nat)(i:Int):Bi:=.one (a+323) (.ex ⟨.type "str_ascii_iterator",none,.fields ⟨[.str ⟨⟨[32]⟩⟩ t,.int i 0]⟩,⟨[]⟩⟩)
include O
def PA(U:AA 3 A)(t:Nat):Ag B.C A:=
 DN O U "str.__iter__" [.str ⟨⟨[32]⟩⟩ t] [] (λa:Nat=>J a) (λa=>[Mu a t 0]) (λU=>.fi () []) λU=>.al λa0=>.fi (a0) [0]
def RV(U:AA 3 A)(t a:Nat):Ag B.C A:=
 DN O U "str_ascii_iterator.__next__" [J a] [Mu a t 0] (λk:Nat=>.str ⟨⟨[32]⟩⟩ k) (λk=>[Mu a t 1]) (λU=>.g 65<|.fi () [0]) λU=>.g 25169985<|.fr λk0=>.fi (k0) [0]
theorem YT(U:AA 2 A)(t a:Nat):
 AS B A (AU "str_ascii_iterator.__next__" ⟨[J a],[]⟩) [Mu a t 1] () [Mu a t 1]:=
 by apply Hc O U (.g 65<|.fi () [0])
theorem ZF(U:AA 2 A)(t a:Nat):
 BG B.C A (BM (.builtin "str_ascii_iterator.__next__" ⟨[J a],[]⟩)) [Mu a t 1]
  (λp:Nat×Nat=>J p.1)
  (λp=>[.one (p.1+323) (NI "StopIteration" p.2)]):=
 dz O U (.g 25169985<|.al λa0=>.al λa1=>.fi (a1,a0) [0])
def Y6(U:AA 3 A)(t a:Nat):Ag B.C A where
 c:=.call (.builtin "str_ascii_iterator.__next__") ⟨[J a],[]⟩
 F:=[Mu a t 1]
 X:=Nat×Nat
 res:=λp=>.error (J p.1)
 led:=λp=>[.one (p.1+323) (NI "StopIteration" p.2)]
 ok:=KA ADl (YT O U.in1 t a) (ZF O U.in1 t a)
def gk(U:AA 3 A)(x y:Nat):Ag B.C A:=
 DN O U "str.__eq__" [.str ⟨⟨[32]⟩⟩ x,.str ⟨⟨[32]⟩⟩ y] [] (λYa:Unit=>.bool true) (λYa=>[]) (λU=>.fi () []) λU=>.fi () []
def cE(U:AA 3 A)(x:Nat):Ag B.C A:=
 DN O U "str.isspace" [.str ⟨⟨[32]⟩⟩ x] [] (λYa:Unit=>.bool true) (λYa=>[]) (λU=>.fi () []) λU=>.fi () []
def HB(U:AA 3 A)(x:Nat):Ag B.C A:=
 DN O U "int.__neg__" [.int 1 x] [] (λk:Nat=>.int (-1) k) (λk=>[]) (λU=>.fi () []) λU=>.fr λk0=>.fi (k0) []
def R3:Dx:=nB (hS (nB (mN 6 8 1)) 0)
def HQ:Dx:=nO (hS (nB (mN 6 8 1)) 0)
def Mj:Expr:=nM KQ 77 16 18
def fO:Dx:=nB (hS (nB (hS (nB (mN 6 8 1)) 0)) 0)
def Ob:Dx:=[Stmt.Continue (pS 87 20 28)]
def VK:Expr:=nM VH 78 20 21
theorem x8(U:AA 30 A)(L:Nat)(x dx m u t3 t5 t4 l y dy n t:Nat)(AH:List It)(fr:Ay)(p:Str)(tf tp:Nat)(hS:B.Std)(hI:CY AH)(hn:n<=1000):
 AC B.C A (Ac ((A4 B.P 113).take 1) (AR B.P 113 [] (L+323))) [AI L [(AM,J x),(Bp,.str ⟨⟨32::fr⟩⟩ tf),(A0,.str p tp)],BO x dx,Bc dx m u t3 t5 t4 l y,BS y dy AH,A3 dy (.int (n:Int) t)]
  (λa:Nat=>.next)
  (λa=>[AI L [(AM,J x),(Bp,.str ⟨⟨32::fr⟩⟩ tf),(A0,.str p tp)],BO x dx,Bc dx m u t3 t5 t4 l y,AY y dy (AH.map It.v++[J a]),A3 dy (.int (n:Int) t),AV a [.str ⟨⟨32::fr⟩⟩ tf,.str p tp]]):=
 D7 O U (.g 65<|.fr λk0=>.g 16777218<|.cc (BE O U.l x dx m u t3 t5 t4 l y k0) [1,1] λYa=>.g 324760049889078765847624474951684<|.cc (Qq O U.l y dy {cps:={toList:=32::fr}} p tf tp (B0 It.v AH) (.int (↑n) t) (by first|assumption|exact Fz hI)) [3,3] λy2=>.fi (y2) [5,3,3,0,0,0])
theorem t7(U:AA 30 A)(L:Nat)(x dx m u t3 t5 t4 l y dy n t z:Nat)(AH:List It)(q:BC)(hS:B.Std)(hI:CY AH)(hn:n<=1000000)(hz:n+CN AH=z)(hm: ¬(z:Int)>(m:Int)):
 AS B A (Ac ((A4 B.P 113).drop 1) (AR B.P 113 [] (L+323))) [AI L ((AM,J x)::q),BO x dx,Bc dx m u t3 t5 t4 l y,BS y dy AH,A3 dy (.int (n:Int) t),Ai AH] .next [BO x dx,Bc dx m u t3 t5 t4 l y,BS y dy AH,A3 dy (.int (n:Int) t),Ai AH]:=by
 obtain⟨_,_|_⟩:=B<;>exact D7 O U (.g 266240<|.fr λk0=>.g 16777218<|.cc (BE O U.l x dx m u t3 t5 t4 l y k0) [1,1] λYa=>.cc (MD O hS U.l y dy n t z AH hI hn hz) [3,3,3] λ(y2:Nat×Nat)=>.g 70<|.fr λk3=>.g 16777220<|.cc (NB O U.l x dx m u t3 t5 t4 l y k3) [3,3] λYa=>.cc (Qo _ _ O U.l ↑z ↑m y2.snd u hm) [] λYa=>.fi () (BW 5))
theorem zf(U:AA 30 A)(L:Nat)(x dx m u t3 t5 t4 l y dy b tc:Nat)(xs:Ak)(a tf tp tg th:Nat)(fr:Ay)(p:Str)(k:Nat)(hk:(xs++[J a])[k+1]? =some (J a))(hs:(xs++[J a]).length<=1000)(hf:fr.length<=900000):
 AC B.C A (BM (.forLoop VK (J b) fO Ob (AR B.P 113 [] (L+323)))) [AI L [(AM,J x),(Bp,.str ⟨⟨32::fr⟩⟩ tf),(A0,.str p tp),(KQ,.str ⟨⟨[32]⟩⟩ tc)],BO x dx,Bc dx m u t3 t5 t4 l y,AY y dy (xs++[J a]),AV a [.str ⟨⟨32::fr⟩⟩ tg,.str p th],Fj b ((k+1:Nat):Int) ((k+1:Nat):Int) (-1)]
  (λj:Nat=>Az Dg)
  (λj=>[AI L [(AM,J x),(Bp,.str ⟨⟨32::fr⟩⟩ tg),(A0,.str p tp),(KQ,.str ⟨⟨[32]⟩⟩ tc),(VH,.int ((k+1:Nat):Int) j)],BO x dx,Bc dx m u t3 t5 t4 l y,AY y dy (xs++[J a]),AV a [.str ⟨⟨32::fr⟩⟩ tg,.str p th]]):=by
 obtain⟨_,_|_⟩:=B<;>exact rn O U (.g 70<|.cc (Y2 O U.l b k k) [5] λy0=>.fr λk1=>.g 272450<|.cc (cE O U.l tc) [] λYa=>.g 66<|.fr λk3=>.g 16777219<|.cc (BE O U.l x dx m u t3 t5 t4 l y k3) [2,2] λYa=>.g 73786998290439471428<|.cc (Ut O U.l y dy (k+1) y0 (xs++[J a]) (J a) hk hs) [4] λYa=>.cc (Dp O U.l) [] λYa=>.fr λk7=>.g 287110<|.cc (PB O U.l a k7 (.str {cps:={toList:=32::fr}} tg) (.str p th)) [5] λYa=>.cc (Dp O U.l) [] λYa=>.fr λH9=>.g 289094<|.cc (TA O U.l 32 fr tg hf) [] λYa=>.g 70<|.fr λiV=>.cc (cD O U.l fr tg iV) [] λUM=>.g 70<|.cc (gk O U.l UM tc) [] λYa=>.fi (y0) [5,2,2,1,0])
def Yl(U:AA 31 A)(L x dx m u t3 t5 t4 l y dy b tc:Nat)(xs:Ak)(a tf tp tg th:Nat)(fr:Ay)(p:Str)(n:Nat)(hn:xs.length=n)(h0:0<n)(hs:xs.length<1000)(hf:fr.length<=900000):Ag B.C A where
 c:=.forLoop VK (J b) fO Ob (AR B.P 113 [] (L+323))
 F:=[Fj b (n:Int) (n:Int) (-1),AI L [(AM,J x),(Bp,.str ⟨⟨32::fr⟩⟩ tf),(A0,.str p tp),(KQ,.str ⟨⟨[32]⟩⟩ tc)],BO x dx,Bc dx m u t3 t5 t4 l y,AY y dy (xs++[J a]),AV a [.str ⟨⟨32::fr⟩⟩ tg,.str p th]]
 X:=Nat
 res:=λYa=>.ok .next
 led:=λj=>[AI L [(AM,J x),(Bp,.str ⟨⟨32::fr⟩⟩ tg),(A0,.str p tp),(KQ,.str ⟨⟨[32]⟩⟩ tc),(VH,.int (n:Int) j)],BO x dx,Bc dx m u t3 t5 t4 l y,AY y dy (xs++[J a]),AV a [.str ⟨⟨32::fr⟩⟩ tg,.str p th]]
 ok:=by
  obtain⟨k,rfl⟩: ∃k,n=k+1:=⟨n-1,by lia⟩
  exact((AT.ends (zf O (A:=A.under (.forLoop VK (J b) fO Ob (AR B.P 113 [] (L+323)))) U.loop L x dx m u t3 t5 t4 l y dy b tc xs a tf tp tg th fr p k (by rw[<-hn];simp) (by rw[AX];simp;lia) hf)).pre λR s S=>S.picked (L:=[_,_,_,_,_,_]) (ix:=[1,1,1,1,1,0]) rfl).call
theorem xH(U:AA 34 A)(n:Value)(L:Nat)(x dx m u t3 t5 t4 l y dy b:Nat)(xs:Ak)(a tf tp tg th:Nat)(fr:Ay)(p:Str)(h0:0<xs.length)(hs:xs.length<1000)(P5:xs.length<=1000)(hf:fr.length<=900000):
 AC B.C A (BM (.forLoop Mj (J b) R3 HQ (AR B.P 113 [] (L+323)))) [AI L [(AM,J x),(Bp,.str ⟨⟨32::fr⟩⟩ tf),(A0,.str p tp)],BO x dx,Bc dx m u t3 t5 t4 l y,AY y dy (xs++[J a]),A3 dy n,AV a [.str ⟨⟨32::fr⟩⟩ tg,.str p th],Mu b t4 0]
  (λj:Nat×Nat=>Az Dg)
  (λj=>[AI L [(AM,J x),(Bp,.str ⟨⟨32::fr⟩⟩ tg),(A0,.str p tp),(KQ,.str ⟨⟨[32]⟩⟩ j.1),(VH,.int (xs.length:Int) j.2)],BO x dx,Bc dx m u t3 t5 t4 l y,AY y dy (xs++[J a]),A3 dy n,AV a [.str ⟨⟨32::fr⟩⟩ tg,.str p th]]):=by
 obtain⟨_,_|_⟩:=B<;>exact rn O U (.g 71<|.cc (RV O U.l t4 b) [6] λ(y0:Nat)=>.fr λk1=>.g 1107298370<|.fr λk2=>.g 16777219<|.cc (BE O U.l x dx m u t3 t5 t4 l y k2) [2,2] λYa=>.g 79345730550223267655751565317<|.cc (Ml O U.l y dy xs (a+323)) [4] λ(y4:Nat)=>.fr λk5=>.cc (bh _ _ O U.l xs.length y4 k5) [] λ(y6:Nat)=>.fr λk7=>.fr λk8=>.cc (HB O U.l k8) [] λ(y9:Nat)=>.cc (RQ O U.l xs.length y6 k7 y9) [] λ(RF:Nat)=>.g 4161<|.cc (RS O U.l RF xs.length y6 k7 y9 P5) [0] λ(Np:Nat)=>.g 65<|.cc (Yl O U.l L x dx m u t3 t5 t4 l y dy Np y0 xs a tf tp tg th fr p xs.length (by first|assumption|rfl|lia) h0 hs hf) [0,5,2,2,1,3] λOR=>.fi (y0,OR) [0,0,0,0,3,0])
def Wt(U:AA 35 A)(n:Value)(L x dx m u t3 t5 t4 l y dy b:Nat)(xs:Ak)(a tf tp tg th:Nat)(fr:Ay)(p:Str)(h0:0<xs.length)(hs:xs.length<1000)(hf:fr.length<=900000):Ag B.C A where
 c:=.forLoop Mj (J b) R3 HQ (AR B.P 113 [] (L+323))
 F:=[Mu b t4 0,AI L [(AM,J x),(Bp,.str ⟨⟨32::fr⟩⟩ tf),(A0,.str p tp)],BO x dx,Bc dx m u t3 t5 t4 l y,AY y dy (xs++[J a]),A3 dy n,AV a [.str ⟨⟨32::fr⟩⟩ tg,.str p th]]
 X:=Nat×Nat
 res:=λYa=>.ok .next
 led:=λj=>[AI L [(AM,J x),(Bp,.str ⟨⟨32::fr⟩⟩ tg),(A0,.str p tp),(KQ,.str ⟨⟨[32]⟩⟩ j.1),(VH,.int (xs.length:Int) j.2)],BO x dx,Bc dx m u t3 t5 t4 l y,AY y dy (xs++[J a]),A3 dy n,AV a [.str ⟨⟨32::fr⟩⟩ tg,.str p th]]
 ok:=((AT.ends (xH O (A:=A.under (.forLoop Mj (J b) R3 HQ (AR B.P 113 [] (L+323)))) U.loop n L x dx m u t3 t5 t4 l y dy b xs a tf tp tg th fr p h0 hs ADj hf)).pre λR s S=>S.picked (L:=[_,_,_,_,_,_,_]) (ix:=[1,1,1,1,1,1,0]) rfl).call
def Uu(U:AA 5 A)(x dx:Nat)(t:Nat)(xs:Ak)(v n:Value)(hx:xs.length<1000):Ag B.C A:=
 (W0 O U x dx xs.length t (xs++[v]) n ADn (by simp;lia)).re (λa:Nat=>.ok (.ret (J a))) (λa=>[AY x dx xs,A3 dx n,AE a [v]]) (λa=>a) (λYa=>rfl) (λa=>by
  show [AY x dx ((xs++[v]).take xs.length),A3 dx n,AE a ((xs++[v]).drop xs.length)]=_;rw[H1,Jw])
theorem x9(U:AA 30 A)(L:Nat)(x dx m u t3 t5 t4 l y dy n t z:Nat)(AH:List It)(q:BC)(hS:B.Std)(hI:CY AH)(hn:n<=1000000)(hz:n+CN AH=z)(hm:(z:Int)>(m:Int)):
 AS B A (isTrue (vE (mN 6 8 1)) (AR B.P 113 [] (L+323)) (Bf (vE (mN 6 8 1)) (AR B.P 113 [] (L+323)))) [AI L ((AM,J x)::q),BO x dx,Bc dx m u t3 t5 t4 l y,BS y dy AH,A3 dy (.int (n:Int) t),Ai AH] true [AI L ((AM,J x)::q),BO x dx,Bc dx m u t3 t5 t4 l y,BS y dy AH,A3 dy (.int (n:Int) t),Ai AH]:=by
 obtain⟨_,_|_⟩:=B<;>exact Q6 O U (.g 266240<|.fr λk0=>.g 16777218<|.cc (BE O U.l x dx m u t3 t5 t4 l y k0) [1,1] λYa=>.cc (MD O hS U.l y dy n t z AH hI hn hz) [3,3,3] λ(y2:Nat×Nat)=>.g 70<|.fr λk3=>.g 16777220<|.cc (NB O U.l x dx m u t3 t5 t4 l y k3) [3,3] λYa=>.cc (Ky _ _ O U.l ↑z ↑m y2.snd u hm) [] λYa=>.fi () (5::BW 5))
theorem t8(U:AA 40 A)(n L:Nat)(x dx m u t t3 t5 t4 l y dy:Nat)(AH:List It)(a tf tp tg th:Nat)(fr:Ay)(p:Str)(rows:Ak)(hS:B.Std)(hI:CY AH)(h0:0<(AH.map It.v).length)(hs:(AH.map It.v).length<1000)(hf:fr.length<=900000)(hr:rows.length<=1000):
 AC B.C A (Ac (nB (mN 6 8 1)) (AR B.P 113 [] (L+323))) [AI L [(AM,J x),(Bp,.str ⟨⟨32::fr⟩⟩ tf),(A0,.str p tp)],BO x dx,Bc dx m u t3 t5 t4 l y,AY y dy (AH.map It.v++[J a]),A3 dy (.int (n:Int) t),AV a [.str ⟨⟨32::fr⟩⟩ tg,.str p th],Ai AH,AE l rows]
  (λq:Nat×Nat=>.next)
  (λq=>[BO x dx,Bc dx m u t3 t5 t4 l y,AY y dy [J a],A3 dy (.int ((0:Nat):Int) q.1),AV a [.str ⟨⟨32::fr⟩⟩ tg,.str p th],AE l (rows++[Co (Bq AH) q.2])]):=by
 obtain⟨_,_|_⟩:=B<;>exact D7 O U (.g 65<|.fr λk0=>.g 16777218<|.cc (Fd O U.l x dx m u t3 t5 t4 l y k0) [1,1] λYa=>.cc (PA O U.l t4) [] λ(y2:Nat)=>.g 65<|.cc (Wt O U.l (.int (↑n) t) L x dx m u t3 t5 t4 l y dy y2 (B0 It.v AH) a tf tp tg th fr p h0 hs hf) (0::2::BW 5) λ(y3:Nat×Nat)=>.g 65<|.fr λk4=>.g 16777218<|.cc (BE O U.l x dx m u t3 t5 t4 l y k4) [1,1] λYa=>.g 5074414144022163657674635345924<|.cc (Uu O U.l y dy y3.snd (B0 It.v AH) (J a) (.int (↑n) t) hs) [3,3] λ(y6:Nat)=>.fr λk7=>.g 289094<|.fr λk8=>.g 16777220<|.cc (Ih O U.l x dx m u t3 t5 t4 l y k8) [3,3] λYa=>.g 4810365768265<|.fr λH9=>.g 16777217<|.cc (BE O U.l x dx m u t3 t5 t4 l y H9) [0,0] λYa=>.cc (N6 O hS U.l y dy n t AH hI) [2,2,5] λ(OR:Nat)=>.cc (Do O U.l l (.str (Bq AH) OR) rows hr) [8] λYa=>.g 72<|.fr λXX=>.g 16777221<|.cc (BE O U.l x dx m u t3 t5 t4 l y XX) [4,4] λYa=>.g 5080603844218590559049130967044<|.cc (cB O U.l y dy y6 (B0 It.v AH) [J a] (.int (↑n) t) (by first|assumption|exact Fz hI|simp) (by first|assumption|exact Fz hI|simp)) [3,3,4] λSM=>.fi (SM,OR) [3,3,0,0,4,1])
def bj(U:AA 3 A)(n m t u:Nat)(h:n=m+1):Ag B.C A:=
 (Qp O U (n:Int) 1 t u).re (λk:Nat=>.ok (.ret (.int (m:Int) k))) (λYa=>[]) (λk=>k) (λk=>by show(Cs (B6 (.int ((n:Int)-1) k)):Result)=_;rw[show(n:Int)-1=(m:Int) by lia]) (λYa=>rfl)
def VZ(U:AA 18 A)(x dx:Nat)(v:Addr)(n:Value):Ag B.C A:=
 (Va O U x dx [] v n ADn).re (λYa:Unit=>.ok (.ret (.ref v))) (λYa=>[AY x dx [],A3 dx n]) (λYa=>()) (λYa=>rfl) (λYa=>rfl)
theorem ze(U:AA 30 A)(L:Nat)(b:Nat)(q:BC):
 AS B A (BM (.forLoop VK (J b) fO Ob (AR B.P 113 [] (L+323)))) [AI L q,Fj b ((0:Nat):Int) ((0:Nat):Int) (-1)] (.again (.block Ob (AR B.P 113 [] (L+323)))) [AI L q]:=
 rn O U (.g 66<|.cc (RT O U.l b ↑0 (-1)) [1] λYa=>.g 65<|.fi () [1])
theorem vO(U:AA 1 A)(L:Nat):
 AS B A (BM (.block Ob (AR B.P 113 [] (L+323)))) [] (Az Flow.cont) []:=
 rn O U (.fi () [])
def Yk(U:AA 31 A)(L b z:Nat)(q:BC)(hz:z=0):Ag B.C A where
 c:=.forLoop VK (J b) fO Ob (AR B.P 113 [] (L+323))
 F:=[Fj b (z:Int) (z:Int) (-1),AI L q]
 X:=Unit
 res:=λYa=>.ok .cont
 led:=λYa=>[AI L q]
 ok:=by subst hz;exact((AT.NM (Y:=Unit) (c':=λYa=>.block Ob (AR B.P 113 [] (L+323))) (ledY:=λYa=>[AI L q]) (ze O (A:=A.under (.forLoop VK (J b) fO Ob (AR B.P 113 [] (L+323)))) U.loop L b q) (λYa=>rfl)
  (λYa=>(AT.ends (vO O (A:=A.under (.block Ob (AR B.P 113 [] (L+323)))) U.l.loop L)).frame [AI L q])).pre λR s S=>S.picked (L:=[_,_]) (ix:=[1,0]) rfl).call
theorem r4(U:AA 34 A)(n:Value)(L:Nat)(x dx m u t3 t5 t4 l y dy b a tf tp:Nat)(fr:Ay)(p:Str)(z:Nat)(h1:[J a].length=z+1)(hz:z=0)(vL:z<=1000):
 AC B.C A (BM (.forLoop Mj (J b) R3 HQ (AR B.P 113 [] (L+323)))) [AI L [(AM,J x),(Bp,.str ⟨⟨32::fr⟩⟩ tf),(A0,.str p tp)],BO x dx,Bc dx m u t3 t5 t4 l y,AY y dy [J a],A3 dy n,Mu b t4 0]
  (λj:Nat=>.again (.forLoop Mj (J b) R3 HQ (AR B.P 113 [] (L+323))))
  (λj=>[AI L [(AM,J x),(Bp,.str ⟨⟨32::fr⟩⟩ tf),(A0,.str p tp),(KQ,.str ⟨⟨[32]⟩⟩ j)],BO x dx,Bc dx m u t3 t5 t4 l y,AY y dy [J a],A3 dy n,Mu b t4 1]):=by
 obtain⟨_,_|_⟩:=B<;>exact rn O U (.g 70<|.cc (RV O U.l t4 b) [5] λy0=>.fr λk1=>.g 1107298370<|.fr λk2=>.g 16777219<|.cc (BE O U.l x dx m u t3 t5 t4 l y k2) [2,2] λYa=>.g 79345730550223267655751565317<|.cc (Jb O U.l y dy [J a]) [4] λy4=>.fr λk5=>.cc (bj O U.l [J a].length z y4 k5 h1) [] λy6=>.fr λk7=>.fr λk8=>.cc (HB O U.l k8) [] λy9=>.cc (RQ O U.l z y6 k7 y9) [] λRF=>.g 4161<|.cc (RS O U.l RF z y6 k7 y9 vL) [0] λNp=>.g 65<|.cc (Yk O U.l L Np z [(⟨⟨[115,101,108,102]⟩⟩,J x),(⟨⟨[102,119,115]⟩⟩,.str {cps:={toList:=32::fr}} tf),(⟨⟨[115,116,114,105,110,103]⟩⟩,.str p tp),(⟨⟨[99,104]⟩⟩,.str ⟨⟨[32]⟩⟩ y0)] hz) [0,5] λYa=>.fi (y0) [0,2,2,1,2,1])
theorem r5(U:AA 34 A)(n:Value)(L:Nat)(x dx m u t3 t5 t4 l y dy b:Nat)(q:BC):
 AS B A (BM (.forLoop Mj (J b) R3 HQ (AR B.P 113 [] (L+323)))) [AI L q,Mu b t4 1] (.again (.block HQ (AR B.P 113 [] (L+323)))) [AI L q]:=
 rn O U (.g 66<|.cc (Y6 O U.l t4 b) [1] λYa=>.g 65<|.fi () [1])
theorem oF(U:AA 34 A)(L:Nat)(x dx m u t t3 t5 t4 l y dy v:Nat)(tf tp tc tg th:Nat)(fr:Ay)(p:Str)(hf:fr.length<=900000):
 AC B.C A (BM (.block HQ (AR B.P 113 [] (L+323)))) [AI L [(AM,J x),(Bp,.str ⟨⟨32::fr⟩⟩ tf),(A0,.str p tp),(KQ,.str ⟨⟨[32]⟩⟩ tc)],BO x dx,Bc dx m u t3 t5 t4 l y,AY y dy [J v],A3 dy (.int ((0:Nat):Int) t),AV v [.str ⟨⟨32::fr⟩⟩ tg,.str p th]]
  (λj:Nat=>Az (B6 .none))
  (λj=>[BO x dx,Bc dx m u t3 t5 t4 l y,AY y dy [J j],A3 dy (.int ((0:Nat):Int) t),AV j [.str ⟨⟨32::fr⟩⟩ tg,.str p th]]):=by
 obtain⟨_,_|_⟩:=B<;>exact rn O U (.g 65<|.fr λk0=>.g 16777218<|.cc (BE O U.l x dx m u t3 t5 t4 l y k0) [1,1] λYa=>.g 79326085505654248456669102084<|.cc (VZ O U.l y dy (v+323) (.int (↑0) t)) [3,3] λYa=>.g 287110<|.cc (Ff O U.l v [.str {cps:={toList:=32::fr}} tg,.str p th]) [5] λ(y3:Nat)=>.g 4161<|.cc (E1 O U.l y3 v (.str {cps:={toList:=32::fr}} tg) (.str p th)) [0,0] λYa=>.g 65<|.cc (E2 O U.l y3 v (.str {cps:={toList:=32::fr}} tg) (.str p th)) [0,0] λYa=>.g 65<|.cc (E3 O U.l y3 v (.str {cps:={toList:=32::fr}} tg) (.str p th)) [0,0] λYa=>.g 65<|.fr λk7=>.g 6535<|.fr λk8=>.g 293255<|.fr λk9=>.g 16777221<|.cc (BE O U.l x dx m u t3 t5 t4 l y k9) [4,4] λYa=>.fr λQB=>.g 4398046511109<|.cc (JG O U.l y dy [] (.int (↑0) t) QB) [4,4] λYa=>.cc (Dp O U.l) [] λYa=>.fr λXX=>.cc (Qo _ _ O U.l ↑0 0 t XX (by first|assumption|rfl|lia|simp)) [] λYa=>.g 71<|.fr λTi=>.g 16777219<|.cc (BE O U.l x dx m u t3 t5 t4 l y Ti) [2,2] λYa=>.g 325081894654248395699899164786691<|.cc (Qq O U.l y dy {cps:={toList:=32::fr}} p tg th [] (.int (↑0) t) (by first|assumption|rfl|lia|simp)) [2,2] λy18=>.fi (y18) [3,3,0,0,0])
theorem oG(U:AA 54 A)(n L:Nat)(x dx m u t t3 t5 t4 l y dy v:Nat)(tf tp tc tg th:Nat)(fr:Ay)(p:Str)(rows:Ak)(hf:fr.length<=900000)(hS:B.Std)(hr:rows.length<=900)(hn:n+1<=1000)(hp:Int.ofNat (n+1)>0):
 AC B.C A (BM (.block HQ (AR B.P 113 [] (L+323)))) [AI L [(AM,J x),(Bp,.str ⟨⟨32::fr⟩⟩ tf),(A0,.str p tp),(KQ,.str ⟨⟨[32]⟩⟩ tc)],BO x dx,Bc dx m u t3 t5 t4 l y,AY y dy [J v],A3 dy (.int ((n+1:Nat):Int) t),AV v [.str ⟨⟨32::fr⟩⟩ tg,.str p th],AE l rows]
  (λj:Nat×Nat×Nat=>Az (B6 .none))
  (λj=>[BO x dx,Bc dx m u t3 t5 t4 l y,AY y dy [J j.1],A3 dy (.int ((0:Nat):Int) j.2.1),AV j.1 [.str ⟨⟨32::fr⟩⟩ tg,.str p th],AE l (rows++[Co eS j.2.2])]):=by
 obtain⟨_,_|_⟩:=B<;>exact rn O U (.g 65<|.fr λk0=>.g 16777218<|.cc (BE O U.l x dx m u t3 t5 t4 l y k0) [1,1] λYa=>.g 79326085505654248456669102084<|.cc (VZ O U.l y dy (v+323) (.int (↑(n+1)) t)) [3,3] λYa=>.g 287110<|.cc (Ff O U.l v [.str {cps:={toList:=32::fr}} tg,.str p th]) [5] λ(y3:Nat)=>.g 4161<|.cc (E1 O U.l y3 v (.str {cps:={toList:=32::fr}} tg) (.str p th)) [0,0] λYa=>.g 65<|.cc (E2 O U.l y3 v (.str {cps:={toList:=32::fr}} tg) (.str p th)) [0,0] λYa=>.g 65<|.cc (E3 O U.l y3 v (.str {cps:={toList:=32::fr}} tg) (.str p th)) [0,0] λYa=>.g 65<|.fr λk7=>.g 6535<|.fr λk8=>.g 293255<|.fr λk9=>.g 16777221<|.cc (BE O U.l x dx m u t3 t5 t4 l y k9) [4,4] λYa=>.fr λQB=>.g 4398046511109<|.cc (JG O U.l y dy [] (.int (↑(n+1)) t) QB) [4,4] λYa=>.cc (Dp O U.l) [] λYa=>.fr λXX=>.cc (Ky _ _ O U.l (↑(n+1)) 0 t XX (by first|assumption|rfl|lia|simp)) [] λYa=>.g 5075612189509454672485544886471<|.cc (lH O hS U.l x dx m u t3 t5 t4 l y dy n t rows hn hr) [2,2,0,0,3] λ(SM:Nat×Nat)=>.g 72<|.cc (TA O U.l 32 fr tg hf) [] λYa=>.g 72<|.fr λmz=>.g 16777217<|.cc (BE O U.l x dx m u t3 t5 t4 l y mz) [0,0] λYa=>.g 325162360756801945417767607861251<|.cc (Qq O U.l y dy {cps:={toList:=32::fr}} p tg th [] (.int (↑0) SM.fst) (by first|assumption|rfl|lia|simp)) [2,2] λy20=>.fi (y20,SM) (3::3::BW 4))
theorem Oh(U:AA 55 A)(n:Value)(L x dx m u t3 t5 t4 l y dy b a tf tp:Nat)(fr:Ay)(p:Str){G:AN}{X:Type}{led:X->AN}
 (h: ∀tc,AC B.C (A.under (.block HQ (AR B.P 113 [] (L+323)))) (BM (.block HQ (AR B.P 113 [] (L+323)))) ([AI L [(AM,J x),(Bp,.str ⟨⟨32::fr⟩⟩ tf),(A0,.str p tp),(KQ,.str ⟨⟨[32]⟩⟩ tc)],BO x dx,Bc dx m u t3 t5 t4 l y,AY y dy [J a],A3 dy n]++G) (λYa=>Az (B6 .none)) led):
 AT B.C A (.forLoop Mj (J b) R3 HQ (AR B.P 113 [] (L+323))) ([Mu b t4 0,AI L [(AM,J x),(Bp,.str ⟨⟨32::fr⟩⟩ tf),(A0,.str p tp)],BO x dx,Bc dx m u t3 t5 t4 l y,AY y dy [J a],A3 dy n]++G) (λYa:X=>.ok (.ret .none)) led:=by
 refine AT.pre (F:=[AI L [(AM,J x),(Bp,.str ⟨⟨32::fr⟩⟩ tf),(A0,.str p tp)],BO x dx,Bc dx m u t3 t5 t4 l y,AY y dy [J a],A3 dy n,Mu b t4 0]++G) ?_ λR s S=>by
  have:=St.picked (L:=[_,_,_,_,_,_]) (R:=G++R) (ix:=[1,1,1,1,1,0]) (by rw[AG] at S;exact S) rfl
  rw[AG];exact this
 refine AT.NM (Y:=Nat) (c':=λYa=>.forLoop Mj (J b) R3 HQ (AR B.P 113 [] (L+323))) (ledY:=λj=>[AI L [(AM,J x),(Bp,.str ⟨⟨32::fr⟩⟩ tf),(A0,.str p tp),(KQ,.str ⟨⟨[32]⟩⟩ j)],BO x dx,Bc dx m u t3 t5 t4 l y,AY y dy [J a],A3 dy n,Mu b t4 1]++G) ((r4 O (A:=A.under (.forLoop Mj (J b) R3 HQ (AR B.P 113 [] (L+323)))) U.l.loop n L x dx m u t3 t5 t4 l y dy b a tf tp fr p 0 rfl rfl ADj).frame G) (λYa=>rfl) λj=>?_
 refine AT.pre (F:=[AI L [(AM,J x),(Bp,.str ⟨⟨32::fr⟩⟩ tf),(A0,.str p tp),(KQ,.str ⟨⟨[32]⟩⟩ j)],Mu b t4 1]++([BO x dx,Bc dx m u t3 t5 t4 l y,AY y dy [J a],A3 dy n]++G)) ?_ λR s S=>by
  have:=St.picked (L:=[_,_,_,_,_,_]) (R:=G++R) (ix:=(0::4::BW 4)) (by rw[AG] at S;exact S) rfl
  rw[AG,AG];exact this
 exact AT.NM (Y:=Unit) (c':=λYa=>.block HQ (AR B.P 113 [] (L+323))) ((r5 O (A:=A.under (.forLoop Mj (J b) R3 HQ (AR B.P 113 [] (L+323)))) U.l.loop n L x dx m u t3 t5 t4 l y dy b [(AM,J x),(Bp,.str ⟨⟨32::fr⟩⟩ tf),(A0,.str p tp),(KQ,.str ⟨⟨[32]⟩⟩ j)]).frame _) (λYa=>rfl) λYa=>AT.ends (h j)
def Uo(U:AA 55 A)(L x dx m u t t3 t5 t4 l y dy b a tf tp tg th:Nat)(fr:Ay)(p:Str)(hf:fr.length<=900000):Ag B.C A where
 c:=.forLoop Mj (J b) R3 HQ (AR B.P 113 [] (L+323))
 F:=[Mu b t4 0,AI L [(AM,J x),(Bp,.str ⟨⟨32::fr⟩⟩ tf),(A0,.str p tp)],BO x dx,Bc dx m u t3 t5 t4 l y,AY y dy [J a],A3 dy (.int ((0:Nat):Int) t),AV a [.str ⟨⟨32::fr⟩⟩ tg,.str p th]]
 X:=Nat
 res:=λYa=>.ok (.ret .none)
 led:=λj=>[BO x dx,Bc dx m u t3 t5 t4 l y,AY y dy [J j],A3 dy (.int ((0:Nat):Int) t),AV j [.str ⟨⟨32::fr⟩⟩ tg,.str p th]]
 ok:=(Oh O U (.int ((0:Nat):Int) t) L x dx m u t3 t5 t4 l y dy b a tf tp fr p (G:=[AV a [.str ⟨⟨32::fr⟩⟩ tg,.str p th]])
  (λtc=>oF O (A:=A.under (.block HQ (AR B.P 113 [] (L+323)))) U.l.loop L x dx m u t t3 t5 t4 l y dy a tf tp tc tg th fr p hf)).call
def Uq(hS:B.Std)(U:AA 55 A)(n L x dx m u t t3 t5 t4 l y dy b a tf tp tg th:Nat)(fr:Ay)(p:Str)(rows:Ak)(hf:fr.length<=900000)(hr:rows.length<=900)(hn:n+1<=1000):Ag B.C A where
 c:=.forLoop Mj (J b) R3 HQ (AR B.P 113 [] (L+323))
 F:=[Mu b t4 0,AI L [(AM,J x),(Bp,.str ⟨⟨32::fr⟩⟩ tf),(A0,.str p tp)],BO x dx,Bc dx m u t3 t5 t4 l y,AY y dy [J a],A3 dy (.int ((n+1:Nat):Int) t),AV a [.str ⟨⟨32::fr⟩⟩ tg,.str p th],AE l rows]
 X:=Nat×Nat×Nat
 res:=λYa=>.ok (.ret .none)
 led:=λj=>[BO x dx,Bc dx m u t3 t5 t4 l y,AY y dy [J j.1],A3 dy (.int ((0:Nat):Int) j.2.1),AV j.1 [.str ⟨⟨32::fr⟩⟩ tg,.str p th],AE l (rows++[Co eS j.2.2])]
 ok:=(Oh O U (.int ((n+1:Nat):Int) t) L x dx m u t3 t5 t4 l y dy b a tf tp fr p (G:=[AV a [.str ⟨⟨32::fr⟩⟩ tg,.str p th],AE l rows])
  (λtc=>oG O (A:=A.under (.block HQ (AR B.P 113 [] (L+323)))) U.loop n L x dx m u t t3 t5 t4 l y dy a tf tp tc tg th fr p rows hf hS hr hn (by show(0:Int)<Int.ofNat (n+1);exact Int.natCast_pos.mpr (Nat.succ_pos n)))).call
theorem qM(U:AA 56 A)(L:Nat)(x dx m u t t3 t5 t4 l y dy:Nat)(a tf tp tg th:Nat)(fr:Ay)(p:Str)(hf:fr.length<=900000):
 AC B.C A (Ac (nB (mN 6 8 1)) (AR B.P 113 [] (L+323))) [AI L [(AM,J x),(Bp,.str ⟨⟨32::fr⟩⟩ tf),(A0,.str p tp)],BO x dx,Bc dx m u t3 t5 t4 l y,AY y dy [J a],A3 dy (.int ((0:Nat):Int) t),AV a [.str ⟨⟨32::fr⟩⟩ tg,.str p th]]
  (λj:Nat=>.ret .none)
  (λj=>[BO x dx,Bc dx m u t3 t5 t4 l y,AY y dy [J j],A3 dy (.int ((0:Nat):Int) t),AV j [.str ⟨⟨32::fr⟩⟩ tg,.str p th]]):=by
 obtain⟨_,_|_⟩:=B<;>exact D7 O U (.g 65<|.fr λk0=>.g 16777218<|.cc (Fd O U.l x dx m u t3 t5 t4 l y k0) [1,1] λYa=>.cc (PA O U.l t4) [] λy2=>.g 65<|.cc (Uo O U.l L x dx m u t t3 t5 t4 l y dy y2 a tf tp tg th fr p hf) (0::2::BW 5) λy3=>.fi (y3) (BW 5))
theorem qN(U:AA 56 A)(n L:Nat)(x dx m u t t3 t5 t4 l y dy:Nat)(a tf tp tg th:Nat)(fr:Ay)(p:Str)(rows:Ak)(hf:fr.length<=900000)(hS:B.Std)(hr:rows.length<=900)(hn:n+1<=1000):
 AC B.C A (Ac (nB (mN 6 8 1)) (AR B.P 113 [] (L+323))) [AI L [(AM,J x),(Bp,.str ⟨⟨32::fr⟩⟩ tf),(A0,.str p tp)],BO x dx,Bc dx m u t3 t5 t4 l y,AY y dy [J a],A3 dy (.int ((n+1:Nat):Int) t),AV a [.str ⟨⟨32::fr⟩⟩ tg,.str p th],AE l rows]
  (λj:Nat×Nat×Nat=>.ret .none)
  (λj=>[BO x dx,Bc dx m u t3 t5 t4 l y,AY y dy [J j.1],A3 dy (.int ((0:Nat):Int) j.2.1),AV j.1 [.str ⟨⟨32::fr⟩⟩ tg,.str p th],AE l (rows++[Co eS j.2.2])]):=by
 obtain⟨_,_|_⟩:=B<;>exact D7 O U (.g 65<|.fr λk0=>.g 16777218<|.cc (Fd O U.l x dx m u t3 t5 t4 l y k0) [1,1] λYa=>.cc (PA O U.l t4) [] λy2=>.g 65<|.cc (Uq O hS U.l n L x dx m u t t3 t5 t4 l y dy y2 a tf tp tg th fr p rows hf hr hn) (0::2::BW 6) λy3=>.fi (y3) (BW 6))
noncomputable def rv(p:Str×Nat):Value:=.str p.1 p.2
noncomputable def It.ab(i:It):Str×Str:=(i.f,i.p)
structure Ab where
 rows:List Str
 cur:Ed
 n:Nat
def M5(cur:Ed):Nat:=(cur.map λc=>c.1.length+c.2.length).sum
def Fa(cur:Ed):Str:=BB eS (cur.map λc=>BB eS [c.1,c.2])
omit O
theorem aa(AH:List It):M5 (AH.map It.ab)=CN AH:=by
 simp only[M5,CN,CK];rfl
theorem M6(AH:List It):Fa (AH.map It.ab)=Bq AH:=by
 simp only[Fa,Bq,CK];rfl
def Ab.step(m:Nat)(s:Ab)(c:Str×Str):Ab:=
 if s.n+M5 (s.cur++[c])<=m then⟨s.rows,s.cur++[c],s.n⟩
 else match s.cur with
  |[]=>⟨if s.n=0 then s.rows else s.rows++[eS],[c],0⟩
  |_::_=>⟨s.rows++[Fa s.cur],[c],0⟩
structure FX where
 AH:List It
 n:Nat
 t:Nat
 rs:Db
def FX.ab(g:FX):Ab:=⟨g.rs.map (·.1),g.AH.map It.ab,g.n⟩
abbrev Iq(x dx m u t3 t5 t4 l y dy:Nat)(g:FX):AN:=[BO x dx,Bc dx m u t3 t5 t4 l y,BS y dy g.AH,A3 dy (.int (g.n:Int) g.t),Ai g.AH,AE l (g.rs.map rv)]
structure X0(m:Nat)(a:Ab)(c:Str×Str) where
 g:FX
 ok:g.ab=a.step m c
include O
theorem kM(U:AA 1 A)(x dx m u t3 t5 t4 l y dy n t:Nat)(AH:List It)(rows:Ak)(f p:Str)(tf tp:Nat):
 AS B A (Pk B 113 [J x,.str f tf,.str p tp]) [BO x dx,Bc dx m u t3 t5 t4 l y,BS y dy AH,A3 dy (.int (n:Int) t),Ai AH,AE l rows] (([(AM,J x),(Bp,.str f tf),(A0,.str p tp)]:BC)) [BO x dx,Bc dx m u t3 t5 t4 l y,BS y dy AH,A3 dy (.int (n:Int) t),Ai AH,AE l rows]:=
 rn O U (.fi () (BW 6))
theorem h8(U:AA 1 A)(x dx m u t3 t5 t4 l y dy n t:Nat)(AH:List It)(rows:Ak)(f p:Str)(tf tp:Nat):
 AC B.C A (OO B 113 [(AM,J x),(Bp,.str f tf),(A0,.str p tp)]) [BO x dx,Bc dx m u t3 t5 t4 l y,BS y dy AH,A3 dy (.int (n:Int) t),Ai AH,AE l rows]
  (λa0:Nat=>AR B.P 113 [] (a0+323))
  (λa0=>[AI a0 [(AM,J x),(Bp,.str f tf),(A0,.str p tp)],BO x dx,Bc dx m u t3 t5 t4 l y,BS y dy AH,A3 dy (.int (n:Int) t),Ai AH,AE l rows]):=
 rn O U (.al λa0=>.fr λk1=>.g 6145<|.fr λk2=>.g 6145<|.fr λk3=>.g 6145<|.fi (a0) (BW 7))
omit O
section
variable{B:Bx}
theorem kN(O:B.C.Ok)(hS:B.Std){A:AL}(U:AA 56 A)(L x dx m u t3 t5 t4 l y dy:Nat)(g:FX)(fr:Ay)(p:Str)(tf tp:Nat)(hI:CY (g.AH++[It.mk 0 ⟨⟨32::fr⟩⟩ tf p tp]))(hn:g.n<=1000)(hr:g.rs.length<=900):
 AC B.C A (Ac (A4 B.P 113) (AR B.P 113 [] (L+323))) (AI L [(AM,J x),(Bp,.str ⟨⟨32::fr⟩⟩ tf),(A0,.str p tp)]::Iq x dx m u t3 t5 t4 l y dy g)
  (λh:{h:FX×Bool//h.1.ab=g.ab.step m (⟨⟨32::fr⟩⟩,p)}=>if h.1.2 then Dg else B6 .none) (λh=>Iq x dx m u t3 t5 t4 l y dy h.1.1):=by
 obtain⟨AH,n,t,rs⟩:=g
 dsimp only at hI hn hr
 have uQ:CY AH:=⟨by have:=hI.1;rw[AX] at this;lia,λi hi=>hI.2 i (Ar _ hi)⟩
 have yq: ∀a,CY (AH++[It.mk a ⟨⟨32::fr⟩⟩ tf p tp]):=λa=>hI.same;have hf:fr.length<=900000:=by
  have:=(hI.2 _ (Ax _ (.head _))).1
  have:fr.length+1<=500:=this
  lia
 have hlen:(AH.map It.v).length<1000:=by have:=uQ.1;rw[AD];lia
 have JA:(rs.map rv).length<=900:=by rw[AD];exact hr
 have e1:=x8 O U.l L x dx m u t3 t5 t4 l y dy n t AH fr p tf tp hS uQ hn;rw[WT] at e1;rw[WT];have hj: ∀(a:Nat) R s,St B.C ([AI L [(AM,J x),(Bp,.str ⟨⟨32::fr⟩⟩ tf),(A0,.str p tp)],BO x dx,Bc dx m u t3 t5 t4 l y,AY y dy (AH.map It.v++[J a]),A3 dy (.int (n:Int) t),AV a [.str ⟨⟨32::fr⟩⟩ tf,.str p tp]]++[Ai AH,AE l (rs.map rv)]++R) s->
  St B.C ([AI L [(AM,J x),(Bp,.str ⟨⟨32::fr⟩⟩ tf),(A0,.str p tp)],BO x dx,Bc dx m u t3 t5 t4 l y,BS y dy (AH++[It.mk a ⟨⟨32::fr⟩⟩ tf p tp]),A3 dy (.int (n:Int) t),Ai (AH++[It.mk a ⟨⟨32::fr⟩⟩ tf p tp]),AE l (rs.map rv)]++R) s:=λa R s S=>by
  have S1:=S.picked (ix:=(5::5::BW 6)) rfl;have S2:=S1.eb;have S3:=St.picked (L:=[_,_,_,_,_,_,_]) (ix:=[1,1,1,1,1,0,0]) S2 rfl;rw[show AH.map It.v++[J a]=(AH++[It.mk a ⟨⟨32::fr⟩⟩ tf p tp]).map It.v from by rw[AZ];rfl] at S3
  exact S3
 have hs: ∀(a:Nat) R s,St B.C ([AI L [(AM,J x),(Bp,.str ⟨⟨32::fr⟩⟩ tf),(A0,.str p tp)],BO x dx,Bc dx m u t3 t5 t4 l y,BS y dy (AH++[It.mk a ⟨⟨32::fr⟩⟩ tf p tp]),A3 dy (.int (n:Int) t),Ai (AH++[It.mk a ⟨⟨32::fr⟩⟩ tf p tp]),AE l (rs.map rv)]++R) s->
  St B.C ([AI L [(AM,J x),(Bp,.str ⟨⟨32::fr⟩⟩ tf),(A0,.str p tp)],BO x dx,Bc dx m u t3 t5 t4 l y,AY y dy (AH.map It.v++[J a]),A3 dy (.int (n:Int) t),AV a [.str ⟨⟨32::fr⟩⟩ tf,.str p tp],Ai AH,AE l (rs.map rv)]++R) s:=λa R s S=>by
  have S2:=(St.picked (L:=[_,_,_,_,_,_,_]) (ix:=(5::BW 6)) S rfl).Zm;have S3:=St.picked (L:=[_,_,_,_,_,_,_,_]) (ix:=[2,2,2,2,2,0,0,0]) S2 rfl;rw[show BS y dy (AH++[It.mk a ⟨⟨32::fr⟩⟩ tf p tp])=AY y dy (AH.map It.v++[J a]) from by unfold BS;rw[AZ];rfl] at S3
  exact S3
 refine AC.step (led1:=λa:Nat=>[AI L [(AM,J x),(Bp,.str ⟨⟨32::fr⟩⟩ tf),(A0,.str p tp)],BO x dx,Bc dx m u t3 t5 t4 l y,BS y dy (AH++[It.mk a ⟨⟨32::fr⟩⟩ tf p tp]),A3 dy (.int (n:Int) t),Ai (AH++[It.mk a ⟨⟨32::fr⟩⟩ tf p tp]),AE l (rs.map rv)]) ((e1.frame [Ai AH,AE l (rs.map rv)]).post λa R s S=>hj a R s S) λa=>?_;have U4: ∀a,(AH++[It.mk a ⟨⟨32::fr⟩⟩ tf p tp]).map It.ab=AH.map It.ab++[((⟨⟨32::fr⟩⟩:Str),p)]:=λa=>by rw[AZ];rfl
 have Zf:n+M5 (AH.map It.ab++[((⟨⟨32::fr⟩⟩:Str),p)])=n+CN (AH++[It.mk a ⟨⟨32::fr⟩⟩ tf p tp]):=by rw[<-U4 a,aa]
 by_cases hm:n+CN (AH++[It.mk a ⟨⟨32::fr⟩⟩ tf p tp])<=m
 ·have e2:=t7 O U.l L x dx m u t3 t5 t4 l y dy n t _ (AH++[It.mk a ⟨⟨32::fr⟩⟩ tf p tp]) [(Bp,.str ⟨⟨32::fr⟩⟩ tf),(A0,.str p tp)] hS (yq a) (by have:n<=1000:=hn;lia) rfl ADj
  rw[WT] at e2
  refine(e2.frame [AE l (rs.map rv)]).weaken λYa=>⟨⟨(FX.mk (AH++[It.mk a ⟨⟨32::fr⟩⟩ tf p tp]) n t rs,true),?_⟩,rfl,λR s S=>S⟩
  simp only[FX.ab,Ab.step,Zf,if_pos hm,U4]
 ·have et:=x9 O U.l L x dx m u t3 t5 t4 l y dy n t _ (AH++[It.mk a ⟨⟨32::fr⟩⟩ tf p tp]) [(Bp,.str ⟨⟨32::fr⟩⟩ tf),(A0,.str p tp)] hS (yq a) (by have:n<=1000:=hn;lia) rfl ADj
  refine AC.one (AC.ML (b:=true) (et.frame [AE l (rs.map rv)]) λYa=>?_);cases hits:AH with
  |cons i0 ir=>
   rw[<-hits];have e3:=t8 O U.l n L x dx m u t t3 t5 t4 l y dy AH a tf tp tf tp fr p (rs.map rv) hS uQ (by rw[hits];simp) hlen hf ADj
   refine(e3.pre (hs a)).weaken λq=>⟨⟨(FX.mk [It.mk a ⟨⟨32::fr⟩⟩ tf p tp] 0 q.1 (rs++[(Bq AH,q.2)]),true),?_⟩,rfl,λR s S=>?_⟩
   ·simp only[FX.ab,Ab.step,Zf,if_neg hm]
    rw[<-M6,hits];simp[It.ab]
   ·show St B.C ([BO x dx,Bc dx m u t3 t5 t4 l y,AY y dy [J a],A3 dy (.int ((0:Nat):Int) q.1),Ai [It.mk a ⟨⟨32::fr⟩⟩ tf p tp],AE l ((rs++[(Bq AH,q.2)]).map rv)]++R) s
    rw[show(rs++[(Bq AH,q.2)]).map rv=rs.map rv++[Co (Bq AH) q.2] from by rw[AZ];rfl]
    exact S.BV (EH _)
  |nil=>
   subst hits;cases n with
   |zero=>
    have e3:=qM O U L x dx m u t t3 t5 t4 l y dy a tf tp tf tp fr p hf;refine AC.pre (AC.weaken (e3.frame [AE l (rs.map rv)]) λq=>⟨⟨(FX.mk [It.mk q ⟨⟨32::fr⟩⟩ tf p tp] 0 t rs,false),?_⟩,rfl,λR s S=>S.BV (EH _)⟩) λR s S=>S.BV (EH _);simp only[FX.ab,Ab.step,Zf,if_neg hm];simp[It.ab]
   |succ n=>
    refine AC.pre (AC.weaken (qN O U n L x dx m u t t3 t5 t4 l y dy a tf tp tf tp fr p (rs.map rv) hf hS JA hn) λq=>⟨⟨(FX.mk [It.mk q.1 ⟨⟨32::fr⟩⟩ tf p tp] 0 q.2.1 (rs++[(eS,q.2.2)]),false),?_⟩,rfl,λR s S=>?_⟩) λR s S=>S.BV (EH _)
    ·simp only[FX.ab,Ab.step,Zf,if_neg hm]
     simp[It.ab]
    ·show St B.C ([BO x dx,Bc dx m u t3 t5 t4 l y,AY y dy [J q.1],A3 dy (.int ((0:Nat):Int) q.2.1),Ai [It.mk q.1 ⟨⟨32::fr⟩⟩ tf p tp],AE l ((rs++[(eS,q.2.2)]).map rv)]++R) s
     rw[show(rs++[(eS,q.2.2)]).map rv=rs.map rv++[Co eS q.2.2] from by rw[AZ];rfl]
     exact S.BV (EH _)
end
include O
def eR(hS:B.Std)(U:AA 58 A)(x dx m u t3 t5 t4 l y dy:Nat)(g:FX)(fr:Ay)(p:Str)(tf tp:Nat)(hI:CY (g.AH++[It.mk 0 ⟨⟨32::fr⟩⟩ tf p tp]))(hn:g.n<=1000)(hr:g.rs.length<=900):Ag B.C A where
 c:=.call (.ref 113) ⟨[J x,.str ⟨⟨32::fr⟩⟩ tf,.str p tp],[]⟩
 F:=Iq x dx m u t3 t5 t4 l y dy g
 X:=X0 m g.ab (⟨⟨32::fr⟩⟩,p)
 res:=λYa=>.ok (.ret .none)
 led:=λh=>Iq x dx m u t3 t5 t4 l y dy h.g
 ok:=(AT.weaken (Pq O (n:=57) U ADk (kM O U.l.in1 x dx m u t3 t5 t4 l y dy g.n g.t g.AH (g.rs.map rv) ⟨⟨32::fr⟩⟩ p tf tp) (h8 O U.l.in1 x dx m u t3 t5 t4 l y dy g.n g.t g.AH (g.rs.map rv) ⟨⟨32::fr⟩⟩ p tf tp)
  (λa=>BK (kN O hS (AA.deeper U.l) a x dx m u t3 t5 t4 l y dy g fr p tf tp hI hn hr)))
  λh=>⟨⟨h.1.1,h.2⟩,by obtain⟨⟨h,b⟩,q⟩:=h;cases b<;>rfl,λR s S=>S⟩).call
omit O
theorem Zb(k:Nat): ∀(l:List Str) (n:Nat),l.foldl (λn s=>n+s.length+k) n=n+(l.map (·.length)).sum+l.length*k
 |[],n=>by simp
 |a::r,n=>by
  rw[C0,Zb k r];simp only[Aw,Ea,Ap,Nat.add_mul,Nat.one_mul]
  lia
theorem Rt: ∀(l:Ay) (b:Nat),(∀x∈l,x<=b)->l.sum<=l.length*b
 |[],b,_=>by simp
 |a::r,b,h=>by
  rw[Ea,Ap,Nat.add_mul,Nat.one_mul]
  have:=Rt r b λx hx=>h x (.tail _ hx)
  have:=h a (.head _)
  lia
def JE(l:List Str):Prop:=l.length<=1000/\ ∀x∈l,x.length<=5000
theorem JE.fits{l:List Str}(h:JE l){sep:Str}(hs:sep.length<=10):OT (l.toArray.foldl (· + ·.length+sep.length) 0)=false/\(BB sep l).length<=sizeLine:=by
 have h1:(l.map (·.length)).sum<=l.length*5000:=by
  have:=Rt (l.map (·.length)) 5000 λx hx=>by
   obtain⟨y,hy,rfl⟩:=List.mem_map.mp hx;exact h.2 y hy
  rwa [AD] at this
 have h2:l.length*5000<=1000*5000:=Nat.mul_le_mul_right _ h.1;have h3:l.length*sep.length<=1000*10:=Nat.mul_le_mul h.1 hs
 constructor
 ·unfold OT
  rw[decide_eq_false_iff_not];have e:=Zb sep.length l 0;rw[Br]
  have:l.toArray.foldl (λn s=>n+s.length+sep.length) 0=l.foldl (λn s=>n+s.length+sep.length) 0:=by simp
  lia
 ·show(KV sep l).length<=_
  rw[size_glued,Br];have h4:(l.length-1)*sep.length<=1000*10:=Nat.mul_le_mul (by have:=h.1;lia) hs
  lia
def N5{B:Bx}{A:AL}(O:B.C.Ok)(U:AA 3 A)(l:Nat)(sep:Str)(t:Nat)(rs:Db)(hf:JE (rs.map (·.1)))(hs:sep.length<=10):Ag B.C A where
 c:=.call (.builtin "str.join") ⟨[.str sep t,J l],[]⟩
 F:=[AE l (rs.map rv)]
 X:=Nat
 res:=λk=>.ok (.ret (.str (BB sep (rs.map (·.1))) k))
 led:=λYa=>[AE l (rs.map rv)]
 ok:=D9 PySem.F.slot_str_join PySem.F.entry_str_join (PySem.F.args_str_join_2 _ _) (meets_str_join_list sep t (l+323) rs (hf.fits hs).1) λR s S=>by
  obtain⟨g,hg⟩:=S.Dj;refine⟨rfl,⟨_,hg,rfl,_,rfl⟩,?_⟩;have R4:(BB sep (rs.map (·.1))).length<=sizeLine/\ ∃x,(Cs (B6 (.str (BB sep (rs.map (·.1))) s.toks)):Result)=.ok (.ret (.str (BB sep (rs.map (·.1))) x))/\St B.C ([AE l (rs.map rv)]++R) {s with toks:=s.toks+1}:=⟨(hf.fits hs).2,s.toks,rfl,S.toks _ (Eb _)⟩
  cases rs with
  |nil=>exact R4
  |cons p r=>cases r with
   |nil=>exact⟨p.2,rfl,S⟩
   |cons q r=>exact R4
include O
theorem au(U:AA 1 A)(x dx m u t3 t5 t4 l y dy n t:Nat)(AH:List It)(rows:Ak)(t6:Nat):
 AS B A (Dc (D4 B.P 64) ⟨[J x,.str ⟨⟨[10]⟩⟩ t6],[]⟩) [BO x dx,Bc dx m u t3 t5 t4 l y,BS y dy AH,A3 dy (.int (n:Int) t),Ai AH,AE l rows] (([(AM,J x),(HG,.str ⟨⟨[10]⟩⟩ t6)]:BC)) [BO x dx,Bc dx m u t3 t5 t4 l y,BS y dy AH,A3 dy (.int (n:Int) t),Ai AH,AE l rows]:=
 rn O U (.fi () (BW 6))
theorem ZW(U:AA 1 A)(x dx m u t3 t5 t4 l y dy n t:Nat)(AH:List It)(rows:Ak)(t6:Nat):
 AC B.C A (OO B 64 [(AM,J x),(HG,.str ⟨⟨[10]⟩⟩ t6)]) [BO x dx,Bc dx m u t3 t5 t4 l y,BS y dy AH,A3 dy (.int (n:Int) t),Ai AH,AE l rows]
  (λa0:Nat=>AR B.P 64 [] (a0+323))
  (λa0=>[AI a0 [(AM,J x),(HG,.str ⟨⟨[10]⟩⟩ t6)],BO x dx,Bc dx m u t3 t5 t4 l y,BS y dy AH,A3 dy (.int (n:Int) t),Ai AH,AE l rows]):=
 rn O U (.al λa0=>.fr λk1=>.g 6145<|.fr λk2=>.g 6145<|.fi (a0) (BW 7))
omit O
theorem kD(B:Bx):A4 B.P 64=[.Expr (vE (mN 6 1 0)) (pS 20 8 22),.Return (some (vE (mN 6 1 1))) (pS 21 8 40)]:=by kernel_rfl
include O
theorem sQ(U:AA 30 A)(L x dx m u t3 t5 t4 l y dy n t:Nat)(AH:List It)(i:It)(rs:Db)(t6:Nat)(hS:B.Std)(hI:CY (AH++[i]))(hn:n<=1000)(hp:i.p.cps.toList≠[])(IQ:i.ok)(hz:0<CN (AH++[i]))(hr:(rs.map rv).length<=900)(hw:(Bq (AH++[i])).cps.all Cg=false):
 AC B.C A (Ac ((A4 B.P 64).take 1) (AR B.P 64 [] (L+323))) [AI L [(AM,J x),(HG,.str ⟨⟨[10]⟩⟩ t6)],BO x dx,Bc dx m u t3 t5 t4 l y,BS y dy (AH++[i]),A3 dy (.int (n:Int) t),Ai (AH++[i]),AE l (rs.map rv)]
  (λq:Nat×Nat=>.next)
  (λq=>[AI L [(AM,J x),(HG,.str ⟨⟨[10]⟩⟩ t6)],BO x dx,Bc dx m u t3 t5 t4 l y,AE l (rs.map rv++[Co (Bq (AH++[i])) q.2])]):=
 D7 O U (.g 5074354906657037443744267239553<|.cc (lK O hS U.l x dx m u t3 t5 t4 l y dy n t AH i (B0 rv rs) hI hn hp IQ hz hr hw) [1,1,1,1,1,1] λy0=>.fi (y0) [5,0,0,2])
theorem sR(U:AA 30 A)(L x dx m u t3 t5 t4 l y dy:Nat)(rs:Db)(t6:Nat)(hf:JE (rs.map (·.1))):
 AC B.C A (Ac ((A4 B.P 64).drop 1) (AR B.P 64 [] (L+323))) [AI L [(AM,J x),(HG,.str ⟨⟨[10]⟩⟩ t6)],BO x dx,Bc dx m u t3 t5 t4 l y,AE l (rs.map rv)]
  (λk:Nat=>.ret (.str (BB ⟨⟨[10]⟩⟩ (rs.map (·.1))) k))
  (λk=>[]):=Ix O U (.g 4161<|.fr λk0=>.g 16777218<|.cc (Ih O U.l x dx m u t3 t5 t4 l y k0) [1,1] λYa=>.cc (N5 O U.l l ⟨⟨[10]⟩⟩ t6 rs hf (by first|assumption|exact(ADm:(1:Nat)<=10))) [3] λy2=>.fi (y2) [])
def gt(hS:B.Std)(U:AA 32 A)(x dx m u t3 t5 t4 l y dy n t:Nat)(AH:List It)(i:It)(rs:Db)(t6:Nat)(hI:CY (AH++[i]))(hn:n<=1000)(hp:i.p.cps.toList≠[])(IQ:i.ok)(hz:0<CN (AH++[i]))(hr:rs.length<=900)
 (hw:(Bq (AH++[i])).cps.all Cg=false) (hf:JE (rs.map (·.1)++[Bq (AH++[i])])):Ag B.C A where
 c:=.call (.ref 64) ⟨[J x,.str ⟨⟨[10]⟩⟩ t6],[]⟩
 F:=[BO x dx,Bc dx m u t3 t5 t4 l y,BS y dy (AH++[i]),A3 dy (.int (n:Int) t),Ai (AH++[i]),AE l (rs.map rv)]
 X:=Nat
 res:=λk=>.ok (.ret (.str (BB ⟨⟨[10]⟩⟩ (rs.map (·.1)++[Bq (AH++[i])])) k))
 led:=λYa=>[]
 ok:=Dm O (n:=31) U ADk (au O U.l.in1 x dx m u t3 t5 t4 l y dy n t (AH++[i]) (rs.map rv) t6) (ZW O U.l.in1 x dx m u t3 t5 t4 l y dy n t (AH++[i]) (rs.map rv) t6)
  (λa=>BK (fl:=λk=>.ret (.str (BB ⟨⟨[10]⟩⟩ (rs.map (·.1)++[Bq (AH++[i])])) k)) (by
   have B8:AA 30 (A.deeper (AR B.P 64 [] (a+323))):=AA.deeper U.l;have e1:=sQ O B8 a x dx m u t3 t5 t4 l y dy n t AH i rs t6 hS hI hn hp IQ hz (by rw[AD];exact hr) hw
   have e2:=λk=>sR O B8 a x dx m u t3 t5 t4 l y dy (rs++[(Bq (AH++[i]),k)]) t6 (by rw[AZ];exact hf)
   rw[kD] at e1 e2;rw[kD];refine AC.step (led1:=λq:Nat×Nat=>[AI a [(AM,J x),(HG,.str ⟨⟨[10]⟩⟩ t6)],BO x dx,Bc dx m u t3 t5 t4 l y,AE l ((rs++[(Bq (AH++[i]),q.2)]).map rv)]) (e1.post λq R s S=>by rw[AZ];exact S) λq=>?_
   refine(e2 q.2).weaken λk=>⟨k,by rw[AZ];rfl,λR s S=>S⟩))
omit O
theorem eI(B:Bx):A4 B.P 106=[mN 6 7 0,mN 6 7 1,.For (tE (mN 6 7 2)) (vE (mN 6 7 2)) (nB (mN 6 7 2)) [] ⟨71,8,72,41⟩]:=by kernel_rfl
abbrev Tz(a b:Nat):Bi:=.one (a+323) (.ex ⟨.type "LookupError",none,.fields ⟨[J b,.none,.none,.none,.bool false,.none]⟩,⟨[]⟩⟩)
abbrev Xj(a b d:Nat):Bi:=.one (a+323) (.ex ⟨.type "LookupError",some (d+323),.fields ⟨[J b,.none,.none,.none,.bool false,.none]⟩,⟨[]⟩⟩)
abbrev Xi(d:Nat):Bi:=.one (d+323) (.ns (.type "dict") [(HC,.none)])
include O
theorem bR(U:AA 1 A)(t:Nat):
 AS B A (AU "LookupError.__new__" ⟨[.type "LookupError",.str ⟨⟨[112,108,97,105,110]⟩⟩ t],[]⟩) [] () []:=
 by apply Hc O U (.fi () [])
theorem cf(U:AA 1 A)(t:Nat)(p:Pos)(below:List (Code×Pos)):
 AC B.C A (SW (BM (.builtin "LookupError.__new__" ⟨[.type "LookupError",.str ⟨⟨[112,108,97,105,110]⟩⟩ t],[]⟩)) ((.builtin "LookupError.__new__" ⟨[.type "LookupError",.str ⟨⟨[112,108,97,105,110]⟩⟩ t],[]⟩,p)::below)) []
  (λa:Nat×Nat=>.done (.ret (J a.1)))
  (λa=>[Tz a.1 a.2,AV a.2 [.str ⟨⟨[112,108,97,105,110]⟩⟩ t]]):=
 rn O U (.al λa0=>.al λa1=>.fi (a1,a0) [0,0])
def b8(U:AA 3 A)(t:Nat):Ag B.C A where
 c:=.call (.builtin "LookupError.__new__") ⟨[.type "LookupError",.str ⟨⟨[112,108,97,105,110]⟩⟩ t],[]⟩
 F:=[]
 X:=Nat×Nat
 res:=λa=>.ok (.ret (J a.1))
 led:=λa=>[Tz a.1 a.2,AV a.2 [.str ⟨⟨[112,108,97,105,110]⟩⟩ t]]
 ok:=Pn ADl (bR O U.l.in1 t) (λp below=>cf O U.l.in1 t p below)
def Yw(U:AA 3 A)(a b t:Nat):Ag B.C A:=
 DN O U "LookupError.__init__" [J a,.str ⟨⟨[112,108,97,105,110]⟩⟩ t] [Tz a b,AV b [.str ⟨⟨[112,108,97,105,110]⟩⟩ t]] (λc:Nat=>.none) (λc=>[Tz a c]) (λU=>.g 4161<|.fi () [0,0]) λU=>.al λa0=>.g 397442<|.fi (a0) [1]
def b9(U:AA 3 A)(a b t:Nat):Ag B.C A:=
 DN O U "object.__setattr__" [J a,.str HC t,.none] [Tz a b] (λd:Nat=>.none) (λd=>[Xj a b d,Xi d]) (λU=>.g 65<|.fi () [0]) λU=>.g 266305<|.al λa0=>.g 97<|.fr λk1=>.g 268289<|.fi (a0) [1,0]
theorem iC(U:AA 1 A)(t:Nat):
 AS B A (BM (.call (.type "LookupError") ⟨[.str ⟨⟨[112,108,97,105,110]⟩⟩ t],[]⟩)) [] (.again (.builtin "type.__call__" ⟨[.type "LookupError",.str ⟨⟨[112,108,97,105,110]⟩⟩ t],[]⟩)) []:=
 rn O U (.fi () [])
theorem ju(U:AA 5 A)(t:Nat):
 AC B.C A (BM (.builtin "type.__call__" ⟨[.type "LookupError",.str ⟨⟨[112,108,97,105,110]⟩⟩ t],[]⟩)) []
  (λp:Nat×Nat=>.done (.ret (J p.1)))
  (λp=>[Tz p.1 p.2]):=
 rn O U (.cc (b8 O U.l t) [] λ(y0:Nat×Nat)=>.g 4161<|.cc (Yw O U.l y0.fst y0.snd t) [0,0] λy1=>.fi (y0.1,y1) [0])
def Yv(U:AA 6 A)(t:Nat):Ag B.C A where
 c:=.call (.type "LookupError") ⟨[.str ⟨⟨[112,108,97,105,110]⟩⟩ t],[]⟩
 F:=[]
 X:=Nat×Nat
 res:=λp=>.ok (.ret (J p.1))
 led:=λp=>[Tz p.1 p.2]
 ok:=Dn (iC O (A:=A.under (.call (.type "LookupError") ⟨[.str ⟨⟨[112,108,97,105,110]⟩⟩ t],[]⟩)) (U.l.ca _ _) t) (F0 _) (ju O (A:=A.under (.builtin "type.__call__" ⟨[.type "LookupError",.str ⟨⟨[112,108,97,105,110]⟩⟩ t],[]⟩)) (U.ty _) t)
theorem YK(U:AA 10 A)(L:Nat):
 AC B.C A (Ac (A4 B.P 241) (AR B.P 241 [] (L+323))) [AI L []]
  (λp:Nat×Nat×Nat=>.ret (J p.1))
  (λp=>[Xj p.1 p.2.1 p.2.2,Xi p.2.2]):=
 D7 O U (.g 4096<|.fr λk0=>.cc (Yv O U.l k0) [] λ(y1:Nat×Nat)=>.fr λk2=>.g 272450<|.fr λk3=>.g 65<|.cc (b9 O U.l y1.fst y1.snd k3) [0] λy4=>.g 67<|.fi (y1.1,y1.2,y4) [0,0])
def b6(U:AA 12 A):Ag B.C A where
 c:=.call (.ref 241) ⟨[],[]⟩
 F:=[]
 X:=Nat×Nat×Nat
 res:=λp=>.ok (.ret (J p.1))
 led:=λp=>[Xj p.1 p.2.1 p.2.2,Xi p.2.2]
 ok:=EU O U []
  (λa=>BK (YK O (AA.deeper U.l) a))
def b7(U:AA 3 A)(a b d t:Nat):Ag B.C A:=
 DN O U "BaseException.__getattribute__" [J a,.str HC t] [Xj a b d,Xi d] (λYa:Unit=>.none) (λYa=>[Xj a b d,Xi d]) (λU=>.g 65<|.fi () [0,0]) λU=>.g 17305665<|.fi () [0,0]
section
open PySem.Sre
noncomputable def QI:Array Nat:=#[14,4,0,1,4294967295,17,0,24,11,1,4294967295,13,6,16,32,16,9,0,1,17,1,1]
def ws(c:Nat):Bool:=c==32||c==9
omit O
theorem oe(c:Nat)(seen:ET): ∃MR,accepts QI 11 c seen=.ok (ws c,MR):=by
 show∃MR,inSet QI c 22 13 true seen=.ok (ws c,MR)
 by_cases h1:c=32
 ·subst h1;exact⟨_,rfl⟩
 ·by_cases h2:c=9
  ·subst h2;exact⟨_,rfl⟩
  ·have b1:(c==32)=false:=by simpa using h1
   have b2:(c==9)=false:=by simpa using h2
   have e:ws c=false:=by simp[ws,b1,b2]
   rw[e];refine⟨((seen.add 16).add 16).add 0,?_⟩
   show(if(c==32)=true then _ else(if(c==9)=true then _ else(Cs (!true,((seen.add 16).add 16).add 0):Except String (Bool×ET))))=_
   rw[b1,b2]
   rfl
theorem Xl(text:Array Nat): ∀(k N p found:Nat) (seen:ET),k<=N->(∀j,j<k->ws (text.getD (p+j) 0)=true)->(k<N->ws (text.getD (p+k) 0)=false)->
 ∃MR,Sre.run QI text 11 N p found seen=.ok (found+k,MR)
 |0,0,p,found,seen,_,_,_=>⟨seen,rfl⟩
 |0,N+1,p,found,seen,_,_,h2=>by
  obtain⟨s',e⟩:=oe (text.getD p 0) seen;rw[show ws (text.getD p 0)=false from h2 ADj] at e
  refine⟨s',?_⟩
  show(accepts QI 11 (text.getD p 0) seen>>=λx=>_)=_
  rw[e];rfl
 |k+1,0,p,found,seen,h,_,_=>absurd h ADj
 |k+1,N+1,p,found,seen,h,h1,h2=>by
  obtain⟨s',e⟩:=oe (text.getD p 0) seen;rw[show ws (text.getD p 0)=true from h1 0 ADj] at e
  obtain⟨s2,e2⟩:=Xl text k N (p+1) (found+1) s' ADj (λj hj=>by rw[show p+1+j=p+(j+1) from by lia];exact h1 (j+1) ADj) (λhk=>by rw[show p+1+k=p+(k+1) from by lia];exact h2 ADj)
  refine⟨s2,?_⟩
  show(accepts QI 11 (text.getD p 0) seen>>=λx=>_)=_
  rw[e];show Sre.run QI text 11 N (p+1) (found+1) s'=_;rw[e2,show found+1+k=found+(k+1) from by lia]
theorem JJ(m:M)(h:m.outcome.isSome=true): ∀n,m.runFor n=m
 |0=>rfl
 |n+1=>by
  show(if m.outcome.isSome then m else _)=m
  rw[if_pos h]
theorem C6(a b:Nat): ∀m:M,m.runFor (a+b)=(m.runFor a).runFor b:=by
 induction a with
 |zero=>intro m;rw[FH];rfl
 |succ a ih=>
  intro m;rw[show a+1+b=(a+b)+1 from by lia]
  show(if m.outcome.isSome then m else m.step.runFor (a+b))=(if m.outcome.isSome then m else m.step.runFor a).runFor b
  split
  ·rename_i h;exact(JJ m h b).symm
  ·exact ih m.step
def K7(text:Array Nat)(lim Bl s:Nat)(z1 ou:Bool)(marks:Array (Option Nat))(seen:ET):M:=
 {code:=QI,text,lim,start:=s,lastStart:=lim,mustAdvance:=z1,pc:=5,pos:=s,handed:=s,outermost:=ou,marks,seen,
  frames:=[{wait:=.nextStart,pc:=5,pos:=s,outermost:=ou}],weight:=1}
theorem Xd(text:Array Nat)(lim Bl s:Nat)(ou:Bool)(a b:Option Nat)(seen:ET):(K7 text lim Bl s false ou #[a,b] seen).runFor 1=
 {K7 text lim Bl s false ou #[some s,b] (seen.add 17) with pc:=7,lastmark:=0}:=rfl
theorem n5(lim s:Nat)(h:s<lim)(h2:lim<=4000000000):min 4294967295 ((lim:Int)-(s:Int)).toNat=lim-s:=by lia
theorem em(text:Array Nat)(lim Bl s:Nat)(ou:Bool)(a b:Option Nat)(seen:ET)(h:s<lim)(h2:lim<=4000000000)(hw:ws (text.getD s 0)=false):
 ∃MR,M.runFor 1 {K7 text lim Bl s false ou #[some s,b] seen with pc:=7,lastmark:=0}={K7 text lim Bl s false ou #[some s,b] MR with pc:=7,lastmark:=0,answer:=some false}:=by
 obtain⟨s',e⟩:=Xl text 0 (lim-s) s 0 ((seen.add 24).add 13) ADj (λj hj=>absurd hj ADj) (λYa=>hw)
 refine⟨s',?_⟩
 show(if((1:Nat):Int)>(lim:Int)-(s:Int) then _ else(match Sre.run QI text 11 (min 4294967295 ((lim:Int)-(s:Int)).toNat) s 0 ((seen.add 24).add 13) with|.error why=>_|.ok (n,seen)=>_))=_
 rw[if_neg ADj,n5 lim s h h2,e]
 rfl
theorem oh(text:Array Nat)(lim Bl:Nat)(ou:Bool)(a b:Option Nat)(seen:ET):
 M.runFor 1 {K7 text lim Bl lim false ou #[some lim,b] seen with pc:=7,lastmark:=0}={K7 text lim Bl lim false ou #[some lim,b] (seen.add 24) with pc:=7,lastmark:=0,answer:=some false}:=by
 show(if((1:Nat):Int)>(lim:Int)-(lim:Int) then _ else _)=_
 rw[if_pos ADj]
 rfl
theorem oi(text:Array Nat)(lim Bl s k:Nat)(ou:Bool)(a b:Option Nat)(seen:ET)(h:s+k<=lim)(h2:lim<=4000000000)(hk:0<k)(hw: ∀j,j<k->ws (text.getD (s+j) 0)=true)(he:s+k<lim->ws (text.getD (s+k) 0)=false):
 ∃MR,M.runFor 1 {K7 text lim Bl s false ou #[some s,b] seen with pc:=7,lastmark:=0}=
  {K7 text lim Bl s false ou #[some s,b] MR with pc:=19,pos:=s+k,handed:=s+k,lastmark:=0,weight:=2,frames:=[{wait:=.giveBack,pc:=7,pos:=s+k,outermost:=ou,count:=(k:Int),kept:={lastmark:=0,lastindex:= -1,whole:=false,marks:=#[]}},{wait:=.nextStart,pc:=5,pos:=s,outermost:=ou}]}:=by
 obtain⟨s',e⟩:=Xl text k (lim-s) s 0 ((seen.add 24).add 13) ADj hw (λq=>he ADj)
 refine⟨s',?_⟩
 show(if((1:Nat):Int)>(lim:Int)-(s:Int) then _ else(match Sre.run QI text 11 (min 4294967295 ((lim:Int)-(s:Int)).toNat) s 0 ((seen.add 24).add 13) with|.error why=>_|.ok (n,seen)=>_))=_
 rw[if_neg ADj,n5 lim s ADj h2,e]
 show(if 0+k<1 then _ else _)=_
 rw[if_neg ADj,FH]
 rfl
theorem Vy(text:Array Nat)(lim Bl s:Nat)(ou:Bool)(b:Option Nat)(seen:ET)(h:s<lim):
 M.runFor 1 {K7 text lim Bl s false ou #[some s,b] seen with pc:=7,lastmark:=0,answer:=some false}=K7 text lim Bl (s+1) false false #[some s,b] seen:=by
 show(if s<lim then _ else _)=_
 rw[if_pos h]
 rfl
theorem ig(text:Array Nat)(lim Bl:Nat)(ou:Bool)(b:Option Nat)(seen:ET):
 ∃m:M,M.runFor 2 {K7 text lim Bl lim false ou #[some lim,b] seen with pc:=7,lastmark:=0,answer:=some false}=m/\(∃x,m.outcome=some x/\x=.failed):=by
 refine⟨_,rfl,.failed,?_,rfl⟩
 show(M.runFor 1 (if lim<lim then _ else _)).outcome=_
 rw[if_neg (Dl _)]
 rfl
structure j0(m:M)(s e:Nat):Prop where
 out: ∃x,m.outcome=some x/\x=.matched
 start:m.start=s
 handed:m.handed=e
 m0:m.marks.getD 0 none=some s
 m1:m.marks.getD 1 none=some e
 last:m.lastmark=1
theorem jf(text:Array Nat)(lim Bl s k:Nat)(ou:Bool)(b:Option Nat)(seen:ET):
 M.runFor 1 {K7 text lim Bl s false ou #[some s,b] seen with pc:=19,pos:=s+k,handed:=s+k,lastmark:=0,weight:=2,frames:=[{wait:=.giveBack,pc:=7,pos:=s+k,outermost:=ou,count:=(k:Int),kept:={lastmark:=0,lastindex:= -1,whole:=false,marks:=#[]}},{wait:=.nextStart,pc:=5,pos:=s,outermost:=ou}]}=
 {K7 text lim Bl s false ou #[some s,some (s+k)] (seen.add 17) with pc:=21,pos:=s+k,handed:=s+k,lastmark:=1,lastindex:=1,weight:=2,frames:=[{wait:=.giveBack,pc:=7,pos:=s+k,outermost:=ou,count:=(k:Int),kept:={lastmark:=0,lastindex:= -1,whole:=false,marks:=#[]}},{wait:=.nextStart,pc:=5,pos:=s,outermost:=ou}]}:=by kernel_rfl
theorem jg(text:Array Nat)(lim Bl s k:Nat)(ou:Bool)(seen:ET):
 M.runFor 1 {K7 text lim Bl s false ou #[some s,some (s+k)] seen with pc:=21,pos:=s+k,handed:=s+k,lastmark:=1,lastindex:=1,weight:=2,frames:=[{wait:=.giveBack,pc:=7,pos:=s+k,outermost:=ou,count:=(k:Int),kept:={lastmark:=0,lastindex:= -1,whole:=false,marks:=#[]}},{wait:=.nextStart,pc:=5,pos:=s,outermost:=ou}]}=
 {K7 text lim Bl s false ou #[some s,some (s+k)] (seen.add 1) with pc:=21,pos:=s+k,handed:=s+k,lastmark:=1,lastindex:=1,weight:=2,answer:=some true,frames:=[{wait:=.giveBack,pc:=7,pos:=s+k,outermost:=ou,count:=(k:Int),kept:={lastmark:=0,lastindex:= -1,whole:=false,marks:=#[]}},{wait:=.nextStart,pc:=5,pos:=s,outermost:=ou}]}:=by
 cases ou<;>rfl
theorem jh(text:Array Nat)(lim Bl s k:Nat)(ou:Bool)(seen:ET):
 j0 (M.runFor 3 {K7 text lim Bl s false ou #[some s,some (s+k)] seen with pc:=21,pos:=s+k,handed:=s+k,lastmark:=1,lastindex:=1,weight:=2,answer:=some true,frames:=[{wait:=.giveBack,pc:=7,pos:=s+k,outermost:=ou,count:=(k:Int),kept:={lastmark:=0,lastindex:= -1,whole:=false,marks:=#[]}},{wait:=.nextStart,pc:=5,pos:=s,outermost:=ou}]}) s (s+k):=
 ⟨⟨.matched,rfl,rfl⟩,rfl,rfl,rfl,rfl,rfl⟩
theorem pP(text:Array Nat)(lim Bl s k:Nat)(ou:Bool)(b:Option Nat)(seen:ET):
 j0 (M.runFor 5 {K7 text lim Bl s false ou #[some s,b] seen with pc:=19,pos:=s+k,handed:=s+k,lastmark:=0,weight:=2,frames:=[{wait:=.giveBack,pc:=7,pos:=s+k,outermost:=ou,count:=(k:Int),kept:={lastmark:=0,lastindex:= -1,whole:=false,marks:=#[]}},{wait:=.nextStart,pc:=5,pos:=s,outermost:=ou}]}) s (s+k):=by
 rw[show 5=1+(1+3) from rfl,C6,jf,C6,jg];exact jh ..
theorem Ot(text:Array Nat)(lim Bl k:Nat)(h2:lim<=4000000000)(hk:0<k): ∀(d s:Nat) (ou:Bool) (a b:Option Nat) (seen:ET),s+d+k<=lim->(∀j,j<d->ws (text.getD (s+j) 0)=false)->
 (∀j,j<k->ws (text.getD (s+d+j) 0)=true)->(s+d+k<lim->ws (text.getD (s+d+k) 0)=false)->j0 (M.runFor (3*d+7) (K7 text lim Bl s false ou #[a,b] seen)) (s+d) (s+d+k)
 |0,s,ou,a,b,seen,h,_,hw,he=>by
  rw[show 3*0+7=1+(1+5) from rfl,C6,Xd,C6];obtain⟨s',e⟩:=oi text lim Bl s k ou a b (seen.add 17) ADj h2 hk hw he
  rw[e];exact pP text lim Bl s k ou b s'
 |d+1,s,ou,a,b,seen,h,hn,hw,he=>by
  rw[show 3*(d+1)+7=1+(1+(1+(3*d+7))) from by lia,C6,Xd,C6]
  obtain⟨s',e⟩:=em text lim Bl s ou a b (seen.add 17) ADj h2 (hn 0 ADj)
  rw[e,C6,Vy _ _ _ _ _ _ _ ADj]
  have:=Ot text lim Bl k h2 hk d (s+1) false (some s) b s' ADj (λj hj=>by rw[show s+1+j=s+(j+1) from by lia];exact hn (j+1) ADj)
   (λj hj=>by rw[show s+1+d+j=s+(d+1)+j from by lia];exact hw j hj) (λq=>by rw[show s+1+d+k=s+(d+1)+k from by lia];exact he ADj)
  rw[show s+1+d=s+(d+1) from by lia] at this
  exact this
def j5(m:M):Prop:= ∃x,m.outcome=some x/\x=.failed
theorem QK(text:Array Nat)(lim Bl:Nat)(h2:lim<=4000000000): ∀(d s:Nat) (ou:Bool) (a b:Option Nat) (seen:ET),s+d=lim->(∀j,j<d->ws (text.getD (s+j) 0)=false)->
 j5 (M.runFor (3*d+4) (K7 text lim Bl s false ou #[a,b] seen))
 |0,s,ou,a,b,seen,h,_=>by
  obtain rfl:s=lim:=by lia
  rw[show 3*0+4=1+(1+2) from rfl,C6,Xd,C6,oh _ _ _ _ a];obtain⟨m,rfl,x,hx⟩:=ig text s Bl ou b ((seen.add 17).add 24);exact⟨x,hx⟩
 |d+1,s,ou,a,b,seen,h,hn=>by
  rw[show 3*(d+1)+4=1+(1+(1+(3*d+4))) from by lia,C6,Xd,C6]
  obtain⟨s',e⟩:=em text lim Bl s ou a b (seen.add 17) ADj h2 (hn 0 ADj)
  rw[e,C6,Vy _ _ _ _ _ _ _ ADj]
  exact QK text lim Bl h2 d (s+1) false (some s) b s' ADj (λj hj=>by rw[show s+1+j=s+(j+1) from by lia];exact hn (j+1) ADj)
theorem Rb(text:Array Nat)(lim s:Nat)(h:s<lim):forSearch QI text 1 s lim false=K7 text lim s s false true #[none,none] (({}:ET).add 14):=by
 show(if(decide (s>lim)||decide (lim-s<1))=true then _ else _)=_
 rw[if_neg (by simp;lia)]
 rfl
theorem SD(text:Array Nat)(lim:Nat):j5 (M.runFor 1 (forSearch QI text 1 lim lim false)):=by
 have e:forSearch QI text 1 lim lim false=(if(decide (lim>lim)||decide (lim-lim<1))=true then M.say _ false else _):=rfl
 rw[e,if_pos ADn]
 exact⟨_,rfl,rfl⟩
section
open Builtin.Re
variable{Md:Model}{A:AL}{E:Value->Af->Prop}{s:Af}
theorem Qs{Q:M->Af->Prop}: ∀(turns N:Nat) (m:M),N<=4*turns->(m.runFor N).outcome.isSome=true->Q (m.runFor N) s->0<turns->BN Md A (reDrive turns m) Q E s
 |0,_,_,_,_,_,h=>absurd h ADj
 |turns+1,N,m,hN,ho,hQ,_=>by
  show BN Md A (if(m.runFor 4).outcome.isSome=true then pure (m.runFor 4) else(do rule "sre.turn";reDrive turns (m.runFor 4))) Q E s
  by_cases h4:(m.runFor 4).outcome.isSome=true
  ·rw[if_pos h4]
   refine AP ?_
   have:m.runFor 4=m.runFor N:=by
    by_cases hle:4<=N
    ·obtain⟨k,rfl⟩: ∃k,N=4+k:=⟨N-4,by lia⟩
     rw[C6,JJ _ h4]
    ·obtain⟨k,hk⟩: ∃k,4=N+k:=⟨4-N,by lia⟩
     rw[hk,C6,JJ _ ho]
   rw[this];exact hQ
  ·rw[if_neg h4]
   have hle:4<=N:=by
    refine Nat.not_lt.mp λIP=>h4 ?_;obtain⟨k,hk⟩: ∃k,4=N+k:=⟨4-N,by lia⟩
    rw[hk,C6,JJ _ ho];exact ho
   obtain⟨k,rfl⟩: ∃k,N=4+k:=⟨N-4,by lia⟩
   rw[C6] at ho hQ;refine AB (Eo ?_)
   by_cases ht:0<turns
   ·exact Qs turns k (m.runFor 4) ADj ho hQ ht
   ·obtain rfl:turns=0:=by lia
    obtain rfl:k=0:=by lia
    exact absurd ho h4
theorem MH(p:Nat->Bool)(f:Nat->String){Q:PUnit->Af->Prop}: ∀(l:Ay),Q ⟨⟩ s->BN Md A (ID l UO λi _=>if p i=true then(rule (f i)>>=λYa=>pure (DY UO)) else pure (DY UO)) Q E s
 |[],h=>AP h
 |i::r,h=>by
  rw[EP];have ih:=MH p f (Q:=Q) r h
  split
  ·exact AB (AB (Eo (AP ih)))
  ·exact AB (AP ih)
theorem oo{m:M}{N a b:Nat}(h:j0 (m.runFor N) a b)(hN:N<=4*2^64){Q:Option M->Af->Prop}(hQ: ∀m',j0 m' a b->Q (some m') s):BN Md A (reRunToEnd m) Q E s:=by
 obtain⟨x,hx,rfl⟩:=h.out;unfold reRunToEnd;refine AB (Qs (2^64) N m hN (by rw[hx];rfl) ?_ ADm)
 refine AB (m:=ID _ _ _) ?_;refine MH (λi=>(m.runFor N).seen.has i) (λi=>Sre.names.getD i "") _ ?_;rw[hx];exact AP (hQ _ h)
theorem V7{m:M}{N:Nat}(h:j5 (m.runFor N))(hN:N<=4*2^64){Q:Option M->Af->Prop}(hQ:Q none s):BN Md A (reRunToEnd m) Q E s:=by
 obtain⟨x,hx,rfl⟩:=h;unfold reRunToEnd;refine AB (Qs (2^64) N m hN (by rw[hx];rfl) ?_ ADm)
 refine AB (m:=ID _ _ _) ?_;refine MH (λi=>(m.runFor N).seen.has i) (λi=>Sre.names.getD i "") _ ?_;rw[hx];exact AP hQ
end
end
section
open PySem.Sre
open PySem.Builtin.Re
abbrev Wd:=Ay×Ay
def Wd.ok(w:Wd):Prop:=w.1≠[]/\(∀c∈w.1,ws c=true)/\w.2≠[]/\(∀c∈w.2,ws c=false)
def Et(l:List Wd):Ay:=l.flatMap λw=>w.1++w.2
noncomputable def Ij:Ay->List Wd->List Str
 |p,[]=>[⟨⟨p⟩⟩]
 |p,w::r=>⟨⟨p⟩⟩::⟨⟨w.1⟩⟩::Ij w.2 r
omit O
theorem PG{text:Array Nat}{s:Nat}{l:Ay}(h:text.toList.drop s=l)(j:Nat):text.getD (s+j) 0=l.getD j 0:=by
 subst h;rw[Ad,Jx,<-Ad];simp[MX,List.getD]
 split<;>simp_all
theorem Oj{text:Array Nat}{s n:Nat}{l:Ay}(h:text.toList.drop s=l):(⟨text.extract s (s+n)⟩:Str)=⟨⟨l.take n⟩⟩:=by
 subst h
 congr 1
 apply Array.toList_inj.mp;simp
section
variable{C:Cx}{A:AL}{E:Value->Af->Prop}
noncomputable def IX(t:ReTarget)(most:Int)(Pg:Bs×Nat×Nat×Bool×Int×Bool):Sem (ForInStep (Bs×Nat×Nat×Bool×Int×Bool)):=
 if(!Pg.2.2.2.2.2)=true then do
  let JX<-if(most != 0&&decide (Pg.2.2.2.2.1≥most))=true then pure none else reNextFound t Pg.2.1 Pg.2.2.2.1
  match JX with
   |none=>pure (DY (Pg.1,Pg.2.1,Pg.2.2.1,Pg.2.2.2.1,Pg.2.2.2.2.1,true))
   |some m=>do
    let JX<-reSlice t.text t.kind Pg.2.2.1 m.start
    let out<-ID (Ah t.groups) (Pg.1.push JX) λg out=>do
     let JX<-reMachineGroup t m (g+1) (pure CU)
     pure (DY (out.push JX))
    pure (DY (out,m.handed,m.handed,m.handed==m.start,Pg.2.2.2.2.1+1,Pg.2.2.2.2.2))
 else pure (DY Pg)
theorem aL(p v:Value):Builtin.«re.Pattern.split» ⟨[p,v],[]⟩=(do
 let t<-reWholeTarget p v
 let s<-ID (Ah (reMostMatches t)) ((#[]:Bs),0,0,false,(0:Int),false) λYa s=>IX t 0 s
 if(!s.2.2.2.2.2)=true then do
  unsupported "internal:re:more-matches-than-can-be"
  let x<-reSlice t.text t.kind s.2.2.1 t.lim
  ret (<-SY (s.1.push x).toList)
 else do
  let x<-reSlice t.text t.kind s.2.2.1 t.lim
  ret (<-SY (s.1.push x).toList)):=rfl
def Dy(p v:Value)(text:Array Nat):ReTarget:={pattern:=p,string:=v,code:=QI,text,kind:=0,groups:=1,pos:=0,lim:=text.size}
theorem Q_{n:Nat}(h:n<=4000000):n<=4*2^64:=AK h ADm
theorem RZ(w:Wd)(r:List Wd):Et (w::r)=w.1++w.2++Et r:=by simp[Et]
theorem Tx{M:Model}{t:ReTarget}{s:Af}{Q:(Bs×Nat×Nat×Bool×Int×Bool)->Af->Prop}{st:Bs×Nat×Nat×Bool×Int×Bool}(ho:st.2.2.2.2.2=true)(hQ:Q st s):
 ∀l:Ay,BN M A (ID l st λYa s=>IX t 0 s) Q E s
 |[]=>AP hQ
 |i::l=>by
  rw[EP];refine AB ?_;unfold IX;refine iN (by rw[ho];decide) ?_
  exact AP (Tx ho hQ l)
theorem Rs{M:Model}{pv v:Value}{text:Array Nat}(Is:text.size<=1000000): ∀(l:Ay) (r:List Wd) (p:Ay) (s:Nat) (out:Db) (n:Int) (st:Af) (Q:(Bs×Nat×Nat×Bool×Int×Bool)->Af->Prop),
 r.length+1<=l.length->s<=text.size->text.toList.drop s=p++Et r->(∀c∈p,ws c=false)->(∀w∈r,Wd.ok w)->
 (∀(NX:Db) (s':Nat) (m':Bool) (n':Int) (k:Nat),st.toks<=k->s'<=text.size->NX.map (·.1)++[⟨⟨text.toList.drop s'⟩⟩]=out.map (·.1)++Ij p r->Q (⟨NX.map rv⟩,s',s',m',n',true) {st with toks:=k})->
 BN M A (ID l ((⟨out.map rv⟩:Bs),s,s,false,n,false) λYa s=>IX (Dy pv v text) 0 s) Q E st
 |[],r,p,s,out,n,st,Q,hl,_,_,_,_,_=>absurd hl ADn
 |i::l,r,p,s,out,n,st,Q,hl,hs,hd,hp,hr,hQ=>by
  rw[EP];have hlen:text.toList.length=text.size:=by simp
  have Vn:(p++Et r).length=text.size-s:=by rw[<-hd,A6,hlen]
  have zV: ∀j,j<p.length->ws (text.getD (s+j) 0)=false:=λj hj=>by
   rw[PG hd,Ad,Ev hj,AJ hj];exact hp _ (Cn hj)
  refine AB ?_;unfold IX;refine iT (show(!false)=true from rfl) ?_;refine AB (m:=if((0:Int) != 0&&decide (n≥0))=true then pure none else reNextFound (Dy pv v text) s false) ?_
  refine iN ADn ?_
  show BN M A (reRunToEnd (forSearch QI text 1 s text.size false)) _ _ _;cases r with
  |nil=>
   have iP:s+p.length=text.size:=by simp[Et] at Vn;lia
   have s4:BN M A (pure (DY ((⟨out.map rv⟩:Bs),s,s,false,n,true))) (λa s'=>BN M A (match a with|ForInStep.done b=>pure b|DY b=>ID l b λYa s=>IX (Dy pv v text) 0 s) Q E s') E st:=by
    refine AP (Tx rfl ?_ l);refine hQ out s false n st.toks (Am _) hs ?_;rw[hd];simp[Et,Ij]
   by_cases IP:s<text.size
   ·rw[Rb text text.size s IP]
    exact V7 (N:=3*p.length+4) (QK text text.size s ADj p.length s true none none _ iP zV) (Q_ ADj) s4
   ·obtain rfl:s=text.size:=by lia
    exact V7 (N:=1) (SD text text.size) (Q_ ADj) s4
  |cons w r=>
   obtain⟨h1,h2,h3,h4⟩:=hr w (.head _);rw[RZ] at hd Vn;have hk:0<w.1.length:=List.length_pos_iff.mpr h1;have hq:0<w.2.length:=List.length_pos_iff.mpr h3;simp only[AX] at Vn;have hww: ∀j,j<w.1.length->ws (text.getD (s+p.length+j) 0)=true:=λj hj=>by
    rw[show s+p.length+j=s+(p.length+j) from by lia,PG hd,Ad,El ADj,show p.length+j-p.length=j from by lia,AG,Ev hj,AJ hj]
    exact h2 _ (Cn hj)
   have hwn:ws (text.getD (s+p.length+w.1.length) 0)=false:=by
    rw[show s+p.length+w.1.length=s+(p.length+w.1.length) from by lia,PG hd,Ad,El ADj,show p.length+w.1.length-p.length=w.1.length from by lia,AG,
     El ADj,Qb,Ev hq,AJ hq]
    exact h4 _ (Cn hq)
   rw[Rb text text.size s ADj]
   refine oo (N:=3*p.length+7) (a:=s+p.length) (b:=s+p.length+w.1.length) (Ot text text.size s w.1.length ADj hk p.length s true none none _ ADj zV hww λYa=>hwn) (Q_ ADj) λm hm=>?_
   have x1:=Oj (n:=p.length) hd;have hd2:text.toList.drop (s+p.length)=w.1++w.2++Et r:=by rw[<-Hy,hd,Jw]
   have x2:=Oj (n:=w.1.length) hd2;have hd3:text.toList.drop (s+p.length+w.1.length)=w.2++Et r:=by rw[<-Hy,hd2,AG,Jw]
   rw[H1] at x1;rw[AG,H1] at x2;refine AB (m:=reSlice text 0 s m.start) ?_;rw[hm.start];show BN M A (mkStr ⟨text.extract s (s+p.length)⟩) _ _ _;rw[x1];refine R0 ?_ (by show p.length<=_;rw[Br];lia)
   refine AB (m:=ID (Ah 1) _ _) ?_;rw[show Ah 1=[0] from rfl,EP];refine AB (AB (m:=reMachineGroup (Dy pv v text) m (0+1) (pure CU)) ?_);unfold reMachineGroup;refine iN (by rw[hm.last];decide) ?_
   rw[show m.marks.getD (2*(0+1-1)) none=some (s+p.length) from hm.m0,show m.marks.getD (2*(0+1-1)+1) none=some (s+p.length+w.1.length) from hm.m1];show BN M A (if s+p.length+w.1.length<s+p.length then _ else reSlice text 0 (s+p.length) (s+p.length+w.1.length)) _ _ _
   refine iN ADj ?_
   show BN M A (mkStr ⟨text.extract (s+p.length) (s+p.length+w.1.length)⟩) _ _ _;rw[x2];refine R0 ?_ (by show w.1.length<=_;rw[Br];lia)
   refine AP (AP (AP ?_));rw[hm.handed,show(s+p.length+w.1.length==s+p.length)=false from by rw[beq_eq_false_iff_ne];lia]
   have dL:((⟨out.map rv⟩:Bs).push (.str ⟨⟨p⟩⟩ st.toks)).push (.str ⟨⟨w.1⟩⟩ (st.toks+1))=⟨(out++[((⟨⟨p⟩⟩:Str),st.toks),((⟨⟨w.1⟩⟩:Str),st.toks+1)]).map rv⟩:=by
    apply Array.toList_inj.mp;simp[rv]
   show BN M A (ID l (((⟨out.map rv⟩:Bs).push (.str ⟨⟨p⟩⟩ st.toks)).push (.str ⟨⟨w.1⟩⟩ (st.toks+1)),s+p.length+w.1.length,s+p.length+w.1.length,false,n+1,false) _) _ _ _;rw[dL];refine Rs Is l r w.2 (s+p.length+w.1.length) _ (n+1) _ Q (by simp at hl⊢;lia) ADj hd3 h4 (λx hx=>hr x (.tail _ hx)) λNX s' m' n' k Tb P5 he=>?_
   refine hQ NX s' m' n' k (AK (Gd _ 2) Tb) P5 (he.trans ?_);simp[Ij]
end
include O
theorem eC(U:AA 1 A)(x:Str)(t:Nat):
 AS B A ((reWholeTarget (.ref 43) (.str x t):Sem ReTarget)) [] (Dy (.ref 43) (.str x t) x.cps) []:=
 rn O U (.g 4096<|.fi () [])
theorem Wm(U:AA 1 A)(x:Str)(t:Nat):
 AS B A (AU "re.Pattern.split" ⟨[.ref 43,.str x t],[]⟩) [] () []:=
 by apply Hc O U (.g 64<|.fi () [])
omit O
theorem XF:C1 FZ "re.Pattern.split"=some Builtin.«re.Pattern.split»:=B2 ADk
theorem NY: ∀(r:List Wd) (p:Ay),(Ij p r).length=2*r.length+1
 |[],p=>rfl
 |w::r,p=>by simp only[Ij,Ap,NY r];lia
theorem Ol: ∀(r:List Wd),(∀w∈r,Wd.ok w)->2*r.length<=(Et r).length
 |[],_=>by simp
 |w::r,h=>by
  have:=Ol r λx hx=>h x (.tail _ hx)
  obtain⟨h1,_,h3,_⟩:=h w (.head _)
  have:=List.length_pos_iff.mpr h1
  have:=List.length_pos_iff.mpr h3
  rw[RZ];simp only[AX,Ap]
  lia
include O
theorem Uh(U:AA 1 A)(x:Str)(t:Nat)(words:List Wd)(h:x.cps.toList=Et words)(hw: ∀w∈words,Wd.ok w)(Is:x.length<=100000):
 AC B.C A (Builtin.«re.Pattern.split» ⟨[.ref 43,.str x t],[]⟩) [] (λp:{p:Nat×Db//p.2.map (·.1)=Ij [] words}=>Az (.ret (J p.1.1))) (λp=>[AE p.1.1 (p.1.2.map rv)]):=by
 intro R s S;have hx:x.cps.size<=100000:=Is;have uv:=Ol words hw;have zE:(Et words).length=x.cps.size:=by rw[<-h];simp
 rw[aL];refine AB (AC.wp (eC O U x t) S λYa s₁ S₁=>?_);refine AB (m:=ID _ _ _) ?_;refine Rs ADj _ words [] 0 [] 0 s₁ _ (by rw[Dv];show _<=2*x.cps.size+3;lia) (By _) (by rw[Du,h];rfl) (λc hc=>nomatch hc) hw λNX s' m' n' k hk P5 he=>?_
 have hl:(NX.length+1)=2*words.length+1:=by
  have:=congrArg C7 he
  simp only[AX,AD,G5,NY,Ap] at this
  lia
 show BN _ _ (if(!true)=true then _ else _) _ _ _
 refine iN ADm ?_
 refine AB (m:=reSlice x.cps 0 s' x.cps.size) ?_;show BN _ _ (mkStr ⟨x.cps.extract s' x.cps.size⟩) _ _ _;have e2:(⟨x.cps.extract s' x.cps.size⟩:Str)=⟨⟨x.cps.toList.drop s'⟩⟩:=by
  congr 1
  apply Array.toList_inj.mp;simp only[GO,MZ];exact EX (by rw[A6];simp)
 rw[e2];refine R0 ?_ (by show(x.cps.toList.drop s').length<=_;rw[Br,A6];simp;lia)
 have dL:((⟨NX.map rv⟩:Bs).push (.str ⟨⟨x.cps.toList.drop s'⟩⟩ k)).toList=(NX++[((⟨⟨x.cps.toList.drop s'⟩⟩:Str),k)]).map rv:=by simp[rv]
 show BN _ _ (SY ((⟨NX.map rv⟩:Bs).push (.str ⟨⟨x.cps.toList.drop s'⟩⟩ k)).toList>>=λv=>ret v) _ _ _;rw[dL];have S₂:St B.C R {s₁ with toks:=k+1}:=St.toks (S₁) (k+1) (AK hk (Eb _))
 refine AB (DS (AP ?_) (by show((NX++[_]).map rv).length<=_;rw[Br,AD,AX];simp;lia))
 refine⟨⟨(s₁.heap.objs.size-323,NX++[((⟨⟨x.cps.toList.drop s'⟩⟩:Str),k)]),by rw[AZ];exact he⟩,?_,?_⟩
 ·show _=Az (.ret (.ref (s₁.heap.objs.size-323+323)))
  rw[<-St.size_eq O S₁]
 ·show St B.C (.one (s₁.heap.objs.size-323+323) _::_) _
  rw[<-St.size_eq O S₁];exact S₂.alloc rfl ⟨G0,rfl⟩
structure tt(words:List Wd) where
 a:Nat
 rs:Db
 ok:rs.map (·.1)=Ij [] words
def W4(U:AA 3 A)(x:Str)(t:Nat)(words:List Wd)(h:x.cps.toList=Et words)(hw: ∀w∈words,Wd.ok w)(Is:x.length<=100000):Ag B.C A where
 c:=.call (.builtin "re.Pattern.split") ⟨[.ref 43,.str x t],[]⟩
 F:=[]
 X:=tt words
 res:=λp=>.ok (.ret (J p.a))
 led:=λp=>[AE p.a (p.rs.map rv)]
 ok:=BF ADl XF (Wm O U.l.in1 x t) ((Uh O U.l.in1 x t words h hw Is).weaken λp=>⟨⟨p.1.1,p.1.2,p.2⟩,rfl,λR s S=>S⟩)
end
abbrev FA(z:Nat)(f:Value)(b:Bool)(i k:Nat):Bi:=.one (z+323) (.ex ⟨.type "zip",none,.fields ⟨[f,.bool b,.bool false,J i,J k]⟩,⟨[]⟩⟩)
def Ys(U:AA 3 A)(x t:Nat)(xs:Ak):Ag B.C A:=
 DN O U "int.__rmul__" [.int 2 t,J x] [AE x xs] (λYa:Unit=>.notImplemented) (λYa=>[AE x xs]) (λU=>.fi () [0]) λU=>.g 65<|.fi () [0]
def bx(U:AA 3 A)(x t:Nat)(v:Value):Ag B.C A:=
 DN O U "list.__mul__" [J x,.int 2 t] [AE x [v]] (λa:Nat=>J a) (λa=>[AE a [v,v],AE x [v]]) (λU=>.g 65<|.fi () [0]) λU=>.g 65<|.al λa0=>.fi (a0) [0,0]
theorem bO(U:AA 6 A)(x:Nat)(xs:Ak):
 AS B A (AU "iter" ⟨[J x],[]⟩) [AE x xs] () [AE x xs]:=by apply oX O U (.fi () [0])
theorem cZ(U:AA 6 A)(x:Nat)(xs:Ak):
 AC B.C A (BM (.builtin "iter" ⟨[J x],[]⟩)) [AE x xs]
  (λa:Nat=>.done (.ret (J a)))
  (λa=>[BQ a x 0,AE x xs]):=by
 obtain⟨_,_|_⟩:=B<;>exact rn O U (.g 4161<|.cc (Bt O U.l x xs) [0] λy0=>.g 65<|.fi (y0) [0,0])
def O9(U:AA 7 A)(x:Nat)(xs:Ak):Ag B.C A where
 c:=.call (.builtin "iter") ⟨[J x],[]⟩
 F:=[AE x xs]
 X:=Nat
 res:=λa=>.ok (.ret (J a))
 led:=λa=>[BQ a x 0,AE x xs]
 ok:=HA ADl (bO O U.in1 x xs) (cZ O U.in1 x xs)
theorem YW(U:AA 6 A)(x a i:Nat):
 AS B A (AU "zip.__new__" ⟨[.type "zip",J a,J a],[]⟩) [BQ a x i] () [BQ a x i]:=by apply oX O U (.fi () [0])
theorem ZH(U:AA 6 A)(x a i:Nat):
 AC B.C A (BM (.builtin "zip.__new__" ⟨[.type "zip",J a,J a],[]⟩)) [BQ a x i]
  (λp:Nat×Nat×Nat=>.done (.ret (J p.1)))
  (λp=>[FA p.1 .none false p.2.1 p.2.2,AV p.2.1 [J a,J a],AV p.2.2 [.none,.none],BQ a x i]):=by
 obtain⟨_,_|_⟩:=B<;>exact rn O U (.g 4161<|.cc (NE O U.l a x i) [0] λYa=>.g 266305<|.cc (NE O U.l a x i) [0] λYa=>.g 65<|.al λa2=>.al λa3=>.al λa4=>.fi (a4,a2,a3) [0,1,0,0])
def Y_(U:AA 7 A)(x a i:Nat):Ag B.C A where
 c:=.call (.builtin "zip.__new__") ⟨[.type "zip",J a,J a],[]⟩
 F:=[BQ a x i]
 X:=Nat×Nat×Nat
 res:=λp=>.ok (.ret (J p.1))
 led:=λp=>[FA p.1 .none false p.2.1 p.2.2,AV p.2.1 [J a,J a],AV p.2.2 [.none,.none],BQ a x i]
 ok:=HA ADl (YW O U.in1 x a i) (ZH O U.in1 x a i)
def W_(U:AA 3 A)(z a i k:Nat):Ag B.C A:=
 DN O U "object.__init__" [J z,J a,J a] [FA z .none false i k] (λYa:Unit=>.none) (λYa=>[FA z .none false i k]) (λU=>.g 65<|.fi () [0]) λU=>.g 65<|.fi () [0]
theorem zgo(U:AA 1 A)(x a i:Nat):
 AS B A (BM (.call (.type "zip") ⟨[J a,J a],[]⟩)) [BQ a x i] (.again (.builtin "type.__call__" ⟨[.type "zip",J a,J a],[]⟩)) [BQ a x i]:=
 rn O U (.fi () [0])
theorem zty(U:AA 10 A)(x a i:Nat):
 AC B.C A (BM (.builtin "type.__call__" ⟨[.type "zip",J a,J a],[]⟩)) [BQ a x i]
  (λp:Nat×Nat×Nat=>.done (.ret (J p.1)))
  (λp=>[FA p.1 .none false p.2.1 p.2.2,AV p.2.1 [J a,J a],AV p.2.2 [.none,.none],BQ a x i]):=
 rn O U (.cc (Y_ O U.l x a i) [0] λ(y0:Nat×Nat×Nat)=>.g 4161<|.cc (W_ O U.l y0.fst a y0.snd.fst y0.snd.snd) [0] λYa=>.fi (y0) (BW 4))
def cV(U:AA 3 A)(z i k:Nat)(f:Value)(b:Bool):Ag B.C A:=
 DN O U "zip.__iter__" [J z] [FA z f b i k] (λYa:Unit=>J z) (λYa=>[FA z f b i k]) (λU=>.g 65<|.fi () [0]) λU=>.fi () [0]
theorem YX(U:AA 6 A)(z j k a x i:Nat)(xs:Ak)(v w:Value)(h1:xs[i]? =some v)(h2:xs[i+1]? =some w):
 AS B A (AU "zip.__next__" ⟨[J z],[]⟩) [FA z .none false j k,AV j [J a,J a],AV k [.none,.none],BQ a x i,AE x xs] () [FA z .none false j k,AV j [J a,J a],AV k [.none,.none],BQ a x i,AE x xs]:=by apply oX O U (.g 65<|.fi () (BW 5))
theorem ZI(U:AA 6 A)(z j k a x i:Nat)(xs:Ak)(v w:Value)(h1:xs[i]? =some v)(h2:xs[i+1]? =some w):
 AC B.C A (BM (.builtin "zip.__next__" ⟨[J z],[]⟩)) [FA z .none false j k,AV j [J a,J a],AV k [.none,.none],BQ a x i,AE x xs]
  (λp:Nat=>.done (.ret (J p)))
  (λp=>[FA z (.int ((p+323:Nat):Int) 0) false j k,AV j [J a,J a],AV k [v,w],BQ a x (i+2),AE x xs,AV p [v,w]]):=rb O U (.g 301267276800065<|.cc (Fe O U.l a x i xs v h1) [3,3] λYa=>.g 1091977541<|.cc (Fe O U.l a x (i+1) xs w h2) [0,0] λYa=>.g 1159086405<|.al λa2=>.g 25970884<|.fi (a2) [3,3,3,1,1,0])
def ZA(U:AA 7 A)(z j k a x i:Nat)(xs:Ak)(v w:Value)(h1:xs[i]? =some v)(h2:xs[i+1]? =some w):Ag B.C A where
 c:=.call (.builtin "zip.__next__") ⟨[J z],[]⟩
 F:=[FA z .none false j k,AV j [J a,J a],AV k [.none,.none],BQ a x i,AE x xs]
 X:=Nat
 res:=λp=>.ok (.ret (J p))
 led:=λp=>[FA z (.int ((p+323:Nat):Int) 0) false j k,AV j [J a,J a],AV k [v,w],BQ a x (i+2),AE x xs,AV p [v,w]]
 ok:=HA ADl (YX O U.in1 z j k a x i xs v w h1 h2) (ZI O U.in1 z j k a x i xs v w h1 h2)
theorem YY(U:AA 6 A)(z j k a x i tp tq:Nat)(xs:Ak)(v w:Value)(f e:Str)(h1:xs[i]? =some v)(h2:xs[i+1]? =some w):
 AS B A (AU "zip.__next__" ⟨[J z],[]⟩) [FA z .none false j k,AV j [J a,J a],AV k [.str f tp,.str e tq],BQ a x i,AE x xs] () [FA z .none false j k,AV j [J a,J a],AV k [.str f tp,.str e tq],BQ a x i,AE x xs]:=by apply oX O U (.g 65<|.fi () (BW 5))
theorem ZJ(U:AA 6 A)(z j k a x i tp tq:Nat)(xs:Ak)(v w:Value)(f e:Str)(h1:xs[i]? =some v)(h2:xs[i+1]? =some w):
 AC B.C A (BM (.builtin "zip.__next__" ⟨[J z],[]⟩)) [FA z .none false j k,AV j [J a,J a],AV k [.str f tp,.str e tq],BQ a x i,AE x xs]
  (λp:Nat=>.done (.ret (J p)))
  (λp=>[FA z (.int ((p+323:Nat):Int) 0) false j k,AV j [J a,J a],AV k [v,w],BQ a x (i+2),AE x xs,AV p [v,w]]):=rb O U (.g 301267276800065<|.cc (Fe O U.l a x i xs v h1) [3,3] λYa=>.g 1091977541<|.cc (Fe O U.l a x (i+1) xs w h2) [0,0] λYa=>.g 1159086405<|.al λa2=>.g 25970884<|.fi (a2) [3,3,3,1,1,0])
def ZB(U:AA 7 A)(z j k a x i tp tq:Nat)(xs:Ak)(v w:Value)(f e:Str)(h1:xs[i]? =some v)(h2:xs[i+1]? =some w):Ag B.C A where
 c:=.call (.builtin "zip.__next__") ⟨[J z],[]⟩
 F:=[FA z .none false j k,AV j [J a,J a],AV k [.str f tp,.str e tq],BQ a x i,AE x xs]
 X:=Nat
 res:=λp=>.ok (.ret (J p))
 led:=λp=>[FA z (.int ((p+323:Nat):Int) 0) false j k,AV j [J a,J a],AV k [v,w],BQ a x (i+2),AE x xs,AV p [v,w]]
 ok:=HA ADl (YY O U.in1 z j k a x i tp tq xs v w f e h1 h2) (ZJ O U.in1 z j k a x i tp tq xs v w f e h1 h2)
theorem Wn(U:AA 6 A)(z j k a x i tp tq:Nat)(xs:Ak)(f e:Str)(h1:xs.length<=i):
 AS B A (AU "zip.__next__" ⟨[J z],[]⟩) [FA z .none false j k,AV j [J a,J a],AV k [.str f tp,.str e tq],BQ a x i,AE x xs] () [FA z .none false j k,AV j [J a,J a],AV k [.str f tp,.str e tq],BQ a x i,AE x xs]:=by apply oX O U (.g 65<|.fi () (BW 5))
theorem XE(U:AA 6 A)(z j k a x i tp tq:Nat)(xs:Ak)(f e:Str)(h1:xs.length<=i):
 BG B.C A (BM (.builtin "zip.__next__" ⟨[J z],[]⟩)) [FA z .none false j k,AV j [J a,J a],AV k [.str f tp,.str e tq],BQ a x i,AE x xs]
  (λp:Nat×Nat=>J p.1)
  (λp=>[.one (p.1+323) (NI "StopIteration" p.2)]):=by
 obtain⟨_,_|_⟩:=B<;>exact dz O U (.g 301267276800065<|.cc (RP O U.l a x i xs h1) [3,3] λy0=>.g 6275<|.fi (y0) [0])
def XA(U:AA 7 A)(z j k a x i tp tq:Nat)(xs:Ak)(f e:Str)(h1:xs.length<=i):Ag B.C A where
 c:=.call (.builtin "zip.__next__") ⟨[J z],[]⟩
 F:=[FA z .none false j k,AV j [J a,J a],AV k [.str f tp,.str e tq],BQ a x i,AE x xs]
 X:=Nat×Nat
 res:=λp=>.error (J p.1)
 led:=λp=>[.one (p.1+323) (NI "StopIteration" p.2)]
 ok:=KA ADl (Wn O U.in1 z j k a x i tp tq xs f e h1) (XE O U.in1 z j k a x i tp tq xs f e h1)
def lS(U:AA 12 A)(x a i:Nat):Ag B.C A where
 c:=.call (.type "zip") ⟨[J a,J a],[]⟩
 F:=[BQ a x i]
 X:=Nat×Nat×Nat
 res:=λp=>.ok (.ret (J p.1))
 led:=λp=>[FA p.1 .none false p.2.1 p.2.2,AV p.2.1 [J a,J a],AV p.2.2 [.none,.none],BQ a x i]
 ok:=Dn (zgo O (A:=A.under (.call (.type "zip") ⟨[J a,J a],[]⟩)) (U.l.ca _ _) x a i) (F0 _) (zty O (A:=A.under (.builtin "type.__call__" ⟨[.type "zip",J a,J a],[]⟩)) (U.l.ty _) x a i)
omit O
section
variable{C:Cx}{A:AL}
theorem Sg{l:Addr}{c:Value}{d:Option Addr}{xs:Ak}{v:Value}{t:Nat}(hx:xs.length<1000):
 AC C A (Builtin.«list.pop» ⟨[.ref l,.int 0 t],[]⟩) [.one l (.ls c d (v::xs))] (λYa:Unit=>Az (.ret v)) (λYa=>[.one l (.ls c d xs)]):=by
 intro R s S;obtain⟨g,ho⟩:=S.Dj;unfold Builtin.«list.pop»;refine AB (m:=selfAndSome "list.pop" "pop" 0 1 _) (AP ?_)
 dsimp only
 refine AB (m:=asIndex (.int 0 t)) (AP ?_);refine iN (show¬((!GP 0)=true) by decide) ?_
 refine AB (m:=A7 _) ?_;unfold A7;refine AB (DG ho rfl (AP ?_));refine iN ADn ?_
 have hk:((F4 0 ((⟨v::xs⟩:Bs).size)).bind λk=>((⟨v::xs⟩:Bs)[k]?).map (k, ·))=some (0,v):=by
  have h1:F4 0 ((⟨v::xs⟩:Bs).size)=some 0:=by
   show F4 0 (v::xs).length=_;unfold F4;simp
  rw[h1];simp
 rw[hk];have he:((⟨v::xs⟩:Bs).eraseIdxIfInBounds 0)=⟨xs⟩:=by
  apply Array.toList_inj.mp;simp
 refine AB (m:=Df _ _) (G9 ho rfl (AP ⟨(),rfl,?_⟩) ?_ ?_)
 ·refine(St.No S (t:=s.toks) (B1 ..) (CO _ ho ?_) (ao':=.ls c d xs) ?_)
  ·rfl
  ·exact MO he
 ·show(v::xs).length<=_
  rw[Br,Ap];lia
 ·rw[he]
  show xs.length<=_;rw[Br];lia
end
include O
theorem bP(U:AA 1 A)(x t:Nat)(xs:Ak):
 AS B A (AU "list.pop" ⟨[J x,.int 0 t],[]⟩) [AE x xs] () [AE x xs]:=
 by apply Hc O U (.g 65<|.fi () [0])
def bz(U:AA 3 A)(x t:Nat)(v:Value)(xs:Ak)(hx:xs.length<1000):Ag B.C A where
 c:=.call (.builtin "list.pop") ⟨[J x,.int 0 t],[]⟩
 F:=[AE x (v::xs)]
 X:=Unit
 res:=λYa=>.ok (.ret v)
 led:=λYa=>[AE x xs]
 ok:=BF ADl ZN (bP O U.l.in1 x t (v::xs)) (Sg hx)
noncomputable def O_{B:Bx}{A:AL}(O:B.C.Ok)(U:AA 3 A)(x y:Str)(t u:Nat)(hx:x.length≠0)(hy:y.length≠0)(hs:x.length+y.length<=1000000):Ag B.C A where
 c:=.call (.builtin "str.__add__") ⟨[.str x t,.str y u],[]⟩
 F:=[]
 X:=Nat
 res:=λk=>.ok (.ret (.str (x++y) k))
 led:=λYa=>[]
 ok:=M9 PySem.F.slot_str_add PySem.F.entry_str_add (PySem.F.args_str_add_2 _ _)
  (by
   have:=gives_str_add x y t u
   rw[if_neg (by simpa using hx),if_neg (by simpa using hy)] at this
   exact this) (λs=>rfl) (by
   show(x.cps++y.cps).size<=_
   rw[Hv,Br];have e1:x.length=x.cps.size:=rfl;have e2:y.length=y.cps.size:=rfl
   lia)
def OL:Expr:=tE (mN 6 7 2)
def Pj:Dx:=nB (mN 6 7 2)
omit O
section
variable{B:Bx}{A:AL}{F:AN}
theorem AT.P2{Dy:Expr}{it:Value}{body orelse:Dx}{env:Env}{X Y Z:Type}{v:X->Value}{L1 L2 L3:X->AN}{fl:OU}(uv:fl=.next∨fl=.cont){L4:X->Y->AN}{res:Z->Result}{led:Z->AN}
 (h1:AC B.C (A.under (.forLoop Dy it body orelse env)) (FK it) F (λx=>some (v x)) L1)
 (h2: ∀x,AC B.C (A.under (.forLoop Dy it body orelse env)) (Fw Dy it (v x)) (L1 x) (λYa:Unit=>()) (λYa=>L2 x))
 (h3: ∀x,AC B.C (A.under (.forLoop Dy it body orelse env)) (Bo Dy env (v x)) (L2 x) (λYa:Unit=>()) (λYa=>L3 x))
 (h4: ∀x,AC B.C (A.under (.forLoop Dy it body orelse env)) (Ac body env) (L3 x) (λYa:Y=>fl) (L4 x))
 (h5: ∀x y,AT B.C A (.forLoop Dy it body orelse env) (L4 x y) res led):AT B.C A (.forLoop Dy it body orelse env) F res led:=λR s S=>by
 refine BL ?_;show BN _ _ ((forTurn Dy it body orelse env).onRaise (λx=>do E0 x env;EQ x)) _ _ s;refine DT (Av ?_ (λYa Ya q=>q) (λYa Ya (q:False)=>q.elim));simp only[forTurn];refine AB (DU (AB (DT (AC.wp h1 S λx s₁ S₁=>?_))));refine AB (AC.wp (h2 x) S₁ λYa s₂ S₂=>?_);refine AB (AC.wp (h3 x) S₂ λYa s₃ S₃=>?_);refine AB (AC.wp (h4 x) S₃ λy s₄ S₄=>?_)
 rcases uv with rfl|rfl<;>exact AP ⟨rfl,h5 x y R s₄ S₄⟩
theorem AT.SQ{Dy:Expr}{it:Value}{body orelse:Dx}{env:Env}{X Z:Type}{L1:X->AN}{res:Z->Result}{led:Z->AN}
 (h1:AC B.C (A.under (.forLoop Dy it body orelse env)) (FK it) F (λx:X=>none) L1)
 (h2: ∀x,AT B.C A (.block orelse env) (L1 x) res led):AT B.C A (.forLoop Dy it body orelse env) F res led:=λR s S=>by
 refine BL ?_;show BN _ _ ((forTurn Dy it body orelse env).onRaise (λx=>do E0 x env;EQ x)) _ _ s;refine DT (Av ?_ (λYa Ya q=>q) (λYa Ya (q:False)=>q.elim));simp only[forTurn];refine AB (DU (AB (DT (AC.wp h1 S λx s₁ S₁=>?_))));exact AP ⟨rfl,h2 x R s₁ S₁⟩
theorem AT.SN(env:Env):AT B.C A (.block [] env) F (λYa:Unit=>.ok .next) (λYa=>F):=λR s S=>by
 refine BL ?_;show BN _ _ (((Ac [] env).onRaise (λx=>do E0 x env;EQ x))>>=λf=>pure (Az f)) _ _ s;refine AB (DT (Fy ?_));exact AP ⟨(),rfl,S⟩
end
include O
theorem fQ(U:AA 12 A)(z j k a x i:Nat)(xs:Ak)(f p:Str)(tf tp:Nat)(h1:xs[i]? =some (.str f tf))(h2:xs[i+1]? =some (.str p tp)):
 AC B.C A (FK (J z)) [FA z .none false j k,AV j [J a,J a],AV k [.none,.none],BQ a x i,AE x xs]
  (λo:Nat=>some (J o))
  (λo=>[FA z (.int ((o+323:Nat):Int) 0) false j k,AV j [J a,J a],AV k [.str f tf,.str p tp],BQ a x (i+2),AE x xs,AV o [.str f tf,.str p tp]]):=dr O U (.g 65<|.cc (ZA O U.l z j k a x i xs (.str f tf) (.str p tp) h1 h2) (BW 5) λy0=>.fi (y0) (BW 6))
theorem fS(U:AA 12 A)(z j k a x i:Nat)(xs:Ak)(f p f' p':Str)(tf tp tf' tp':Nat)(h1:xs[i]? =some (.str f tf))(h2:xs[i+1]? =some (.str p tp)):
 AC B.C A (FK (J z)) [FA z .none false j k,AV j [J a,J a],AV k [.str f' tf',.str p' tp'],BQ a x i,AE x xs]
  (λo:Nat=>some (J o))
  (λo=>[FA z (.int ((o+323:Nat):Int) 0) false j k,AV j [J a,J a],AV k [.str f tf,.str p tp],BQ a x (i+2),AE x xs,AV o [.str f tf,.str p tp]]):=dr O U (.g 65<|.cc (ZB O U.l z j k a x i tf' tp' xs (.str f tf) (.str p tp) f' p' h1 h2) (BW 5) λy0=>.fi (y0) (BW 6))
theorem fR(U:AA 12 A)(z j k a x i:Nat)(xs:Ak)(f' p':Str)(tf' tp':Nat)(h1:xs.length<=i):
 AS B A (FK (J z)) [FA z .none false j k,AV j [J a,J a],AV k [.str f' tf',.str p' tp'],BQ a x i,AE x xs] ((none:DP)) []:=dr O U (.g 65<|.cc (XA O U.l z j k a x i tf' tp' xs f' p' h1) (BW 5) λYa=>.g 65<|.fi () [])
theorem kA(U:AA 12 A)(L o x sv pa:Nat)(f p f0 s0 c0:Str)(tf tp t0 t1 t2:Nat):
 AS B A (Bo OL (AR B.P 106 [] (L+323)) (J o)) [AI L [(AM,J x),(Bp,.str f0 t0),(A0,.str s0 t1),(Ba,.str c0 t2),(Ei,J pa)],AV o [.str f tf,.str p tp]] () [AI L [(AM,J x),(Bp,.str f tf),(A0,.str s0 t1),(Ba,.str c0 t2),(Ei,J pa),(OD,.str p tp)]]:=by
 obtain⟨_,_|_⟩:=B<;>exact Ef O U (.g 270466<|.cc (Ff O U.l o [.str f tf,.str p tp]) [1] λy0=>.g 4161<|.cc (E1 O U.l y0 o (.str f tf) (.str p tp)) [0,0] λYa=>.g 65<|.cc (E2 O U.l y0 o (.str f tf) (.str p tp)) [0,0] λYa=>.g 65<|.cc (E3 O U.l y0 o (.str f tf) (.str p tp)) [0,0] λYa=>.g 65<|.fr λk4=>.g 6275<|.fr λk5=>.g 6275<|.fi () [2])
theorem kB(U:AA 12 A)(L o x sv pa:Nat)(f p f0 s0 c0 p0:Str)(tf tp t0 t1 t2 t3:Nat):
 AS B A (Bo OL (AR B.P 106 [] (L+323)) (J o)) [AI L [(AM,J x),(Bp,.str f0 t0),(A0,.str s0 t1),(Ba,.str c0 t2),(Ei,J pa),(OD,.str p0 t3)],AV o [.str f tf,.str p tp]] () [AI L [(AM,J x),(Bp,.str f tf),(A0,.str s0 t1),(Ba,.str c0 t2),(Ei,J pa),(OD,.str p tp)]]:=by
 obtain⟨_,_|_⟩:=B<;>exact Ef O U (.g 270466<|.cc (Ff O U.l o [.str f tf,.str p tp]) [1] λy0=>.g 4161<|.cc (E1 O U.l y0 o (.str f tf) (.str p tp)) [0,0] λYa=>.g 65<|.cc (E2 O U.l y0 o (.str f tf) (.str p tp)) [0,0] λYa=>.g 65<|.cc (E3 O U.l y0 o (.str f tf) (.str p tp)) [0,0] λYa=>.g 65<|.fr λk4=>.g 6275<|.fr λk5=>.g 6275<|.fi () [2])
theorem kC(U:AA 62 A)(L pa x dx m u t3 t5 t4 l y dy:Nat)(h:FX)(fr:Ay)(p s0 c0:Str)(tf tp t1 t2:Nat)(hS:B.Std)(hI:CY (h.AH++[It.mk 0 ⟨⟨32::fr⟩⟩ tf p tp]))(hn:h.n<=1000)(hr:h.rs.length<=900):
 AC B.C A (Ac Pj (AR B.P 106 [] (L+323))) [AI L [(AM,J x),(Bp,.str ⟨⟨32::fr⟩⟩ tf),(A0,.str s0 t1),(Ba,.str c0 t2),(Ei,J pa),(OD,.str p tp)],BO x dx,Bc dx m u t3 t5 t4 l y,BS y dy h.AH,A3 dy (.int (h.n:Int) h.t),Ai h.AH,AE l (h.rs.map rv)]
  (λq:X0 m h.ab (⟨⟨32::fr⟩⟩,p)=>.next)
  (λq=>[AI L [(AM,J x),(Bp,.str ⟨⟨32::fr⟩⟩ tf),(A0,.str s0 t1),(Ba,.str c0 t2),(Ei,J pa),(OD,.str p tp)],BO x dx,Bc dx m u t3 t5 t4 l y,BS y dy q.g.AH,A3 dy (.int (q.g.n:Int) q.g.t),Ai q.g.AH,AE l (q.g.rs.map rv)]):=
 D7 O U (.g 20774341017208481815903323128070273<|.cc (eR O hS U.l x dx m u t3 t5 t4 l y dy h fr p tf tp hI hn hr) [1,1,1,1,1,1] λy0=>.fi (y0) (6::BW 6))
structure Bd(k:Nat)(a:Ab):Prop where
 n:a.n<=1000
 rows:a.rows.length<=k
 cur:a.cur.length<=k
 parts: ∀c∈a.cur,c.1.length<=500/\c.2.length<=500
omit O
theorem Bd.step{k m:Nat}{a:Ab}(h:Bd k a){c:Str×Str}(hc:c.1.length<=500/\c.2.length<=500):Bd (k+1) (a.step m c):=by
 obtain⟨rows,cur,n⟩:=a;obtain⟨h1,h2,h3,h4⟩:=h
 dsimp only at h1 h2 h3 h4
 have one: ∀d∈[c],d.1.length<=500/\d.2.length<=500:=λd hd=>by rw[List.mem_singleton.mp hd];exact hc
 unfold Ab.step
 dsimp only
 split
 ·refine⟨h1,by dsimp only;lia,by simp;lia,λd hd=>?_⟩
  rcases List.mem_append.mp hd with hd|hd
  ·exact h4 d hd
  ·exact one d hd
 ·split
  ·refine⟨By _,?_,by simp,one⟩
   dsimp only
   split
   ·lia
   ·simp;lia
  ·exact⟨By _,by simp;lia,by simp,one⟩
theorem Bd.small{k:Nat}{h:FX}(b:Bd k h.ab)(hk:k<=400){f p:Str}{tf tp:Nat}(hc:f.length<=500/\p.length<=500):CY (h.AH++[It.mk 0 f tf p tp])/\h.n<=1000/\h.rs.length<=900:=by
 have h3:h.AH.length<=k:=by have:=b.cur;rwa [show h.ab.cur=h.AH.map It.ab from rfl,AD] at this
 have h2:h.rs.length<=k:=by have:=b.rows;rwa [show h.ab.rows=h.rs.map (·.1) from rfl,AD] at this
 refine⟨⟨by rw[AX,CF];lia,λi hi=>?_⟩,b.n,by lia⟩
 rcases List.mem_append.mp hi with hi|hi
 ·exact b.parts (It.ab i) (CB hi)
 ·rw[List.mem_singleton.mp hi];exact hc
def Nm(cs:Ed):List Str:=cs.flatMap λc=>[c.1,c.2]
def Ck(c:Str×Str):Prop:=(∃fr,c.1=⟨⟨32::fr⟩⟩)/\c.1.length<=500/\c.2.length<=500
section
variable{B:Bx}
theorem oy{rs:Db}{i:Nat}{f p:Str}{r:List Str}(h:(rs.map (·.1)).drop i=f::p::r): ∃tf tp,(rs.map rv)[i]? =some (.str f tf)/\(rs.map rv)[i+1]? =some (.str p tp)/\(rs.map (·.1)).drop (i+2)=r:=by
 have h0:(rs.map (·.1))[i]? =some f:=by have:=congrArg (·[0]?) h;simpa using this
 have h1:(rs.map (·.1))[i+1]? =some p:=by have:=congrArg (·[1]?) h;simpa using this
 rw[AQ] at h0 h1;cases e0:rs[i]? with
 |none=>rw[e0] at h0;cases h0
 |some a=>
  cases e1:rs[i+1]? with
  |none=>rw[e1] at h1;cases h1
  |some b=>
   rw[e0] at h0;rw[e1] at h1;cases h0;cases h1;refine⟨a.2,b.2,by rw[AQ,e0];rfl,by rw[AQ,e1];rfl,?_⟩
   rw[<-Hy,h];rfl
abbrev X6(x pa:Nat)(f s0 c0 p:Str)(t0 t1 t2 t3:Nat):BC:=[(AM,J x),(Bp,.str f t0),(A0,.str s0 t1),(Ba,.str c0 t2),(Ei,J pa),(OD,.str p t3)]
theorem d0{C:Cx}{A:AL}{elts:List Expr}{x1:Nat}{pos:Pos}{z j k o:Nat}:AC C A (Fw (.Tuple elts x1 pos) (J z) (J o)) [FA z (.int ((o+323:Nat):Int) 0) false j k] (λYa:Unit=>()) (λYa=>[FA z .none false j k]):=λR s S=>by
 refine wpAny_letOwnedTupleGo_zip (TI:=j+323) (TO:=k+323) (DV S) λh' hz hs=>⟨(),rfl,?_⟩;exact St.No (t:=s.toks) S hs hz ⟨G0,rfl⟩
theorem X7(O:B.C.Ok)(hS:B.Std){A:AL}(U:AA 70 A){L z j k a pa x dx m u t3 t5 t4 l y dy i:Nat}{rs:Db}{h:FX}{fr:Ay}{p s0 c0:Str}{tf tp t1 t2:Nat}{q:BC}
 (hq: ∀o,AC B.C (A.under (.forLoop OL (J z) Pj [] (AR B.P 106 [] (L+323)))) (Bo OL (AR B.P 106 [] (L+323)) (J o)) [AI L q,AV o [.str ⟨⟨32::fr⟩⟩ tf,.str p tp]] (λYa:Unit=>()) (λYa=>[AI L (X6 x pa ⟨⟨32::fr⟩⟩ s0 c0 p tf t1 t2 tp)]))
 (hI:CY (h.AH++[It.mk 0 ⟨⟨32::fr⟩⟩ tf p tp])) (hn:h.n<=1000) (hr:h.rs.length<=900) {ks:Ak}
 (h1:AC B.C (A.under (.forLoop OL (J z) Pj [] (AR B.P 106 [] (L+323)))) (FK (J z)) [FA z .none false j k,AV j [J a,J a],AV k ks,BQ a pa i,AE pa (rs.map rv)]
  (λo:Nat=>some (J o)) (λo=>[FA z (.int ((o+323:Nat):Int) 0) false j k,AV j [J a,J a],AV k [.str ⟨⟨32::fr⟩⟩ tf,.str p tp],BQ a pa (i+2),AE pa (rs.map rv),AV o [.str ⟨⟨32::fr⟩⟩ tf,.str p tp]]))
 {X:Type} {res:X->Result} {led:X->AN}
 (NL: ∀r:X0 m h.ab (⟨⟨32::fr⟩⟩,p),AT B.C A (.forLoop OL (J z) Pj [] (AR B.P 106 [] (L+323)))
  ([FA z .none false j k,AV j [J a,J a],AV k [.str ⟨⟨32::fr⟩⟩ tf,.str p tp],BQ a pa (i+2),AE pa (rs.map rv),AI L (X6 x pa ⟨⟨32::fr⟩⟩ s0 c0 p tf t1 t2 tp)]++Iq x dx m u t3 t5 t4 l y dy r.g) res led):
 AT B.C A (.forLoop OL (J z) Pj [] (AR B.P 106 [] (L+323)))
  ([FA z .none false j k,AV j [J a,J a],AV k ks,BQ a pa i,AE pa (rs.map rv),AI L q]++Iq x dx m u t3 t5 t4 l y dy h) res led:=by
 have B8:AA 62 (A.under (.forLoop OL (J z) Pj [] (AR B.P 106 [] (L+323)))):=(U.le (ADm:62+1<=70)).loop
 refine AT.P2 (fl:=.next) (.inl rfl) (v:=λo:Nat=>J o) (L1:=λo=>[FA z (.int ((o+323:Nat):Int) 0) false j k,AV j [J a,J a],AV k [.str ⟨⟨32::fr⟩⟩ tf,.str p tp],BQ a pa (i+2),AE pa (rs.map rv),AV o [.str ⟨⟨32::fr⟩⟩ tf,.str p tp]]++(AI L q::Iq x dx m u t3 t5 t4 l y dy h))
  (L2:=λo=>[FA z .none false j k]++([AV j [J a,J a],AV k [.str ⟨⟨32::fr⟩⟩ tf,.str p tp],BQ a pa (i+2),AE pa (rs.map rv),AV o [.str ⟨⟨32::fr⟩⟩ tf,.str p tp],AI L q]++Iq x dx m u t3 t5 t4 l y dy h))
  (L3:=λo=>[AI L (X6 x pa ⟨⟨32::fr⟩⟩ s0 c0 p tf t1 t2 tp)]++([FA z .none false j k,AV j [J a,J a],AV k [.str ⟨⟨32::fr⟩⟩ tf,.str p tp],BQ a pa (i+2),AE pa (rs.map rv)]++Iq x dx m u t3 t5 t4 l y dy h))
  (L4:=λYa (r:X0 m h.ab (⟨⟨32::fr⟩⟩,p))=>[FA z .none false j k,AV j [J a,J a],AV k [.str ⟨⟨32::fr⟩⟩ tf,.str p tp],BQ a pa (i+2),AE pa (rs.map rv),AI L (X6 x pa ⟨⟨32::fr⟩⟩ s0 c0 p tf t1 t2 tp)]++Iq x dx m u t3 t5 t4 l y dy r.g)
  ?_ (λo=>?_) (λo=>?_) (λo=>?_) (λo r=>NL r)
 ·exact h1.frame (AI L q::Iq x dx m u t3 t5 t4 l y dy h)
 ·exact d0.frame _
 ·refine((hq o).frame ([FA z .none false j k,AV j [J a,J a],AV k [.str ⟨⟨32::fr⟩⟩ tf,.str p tp],BQ a pa (i+2),AE pa (rs.map rv)]++Iq x dx m u t3 t5 t4 l y dy h)).ix (6::5::BW 11) rfl
 ·refine(((kC O B8 L pa x dx m u t3 t5 t4 l y dy h fr p s0 c0 tf tp t1 t2 hS hI hn hr).frame [FA z .none false j k,AV j [J a,J a],AV k [.str ⟨⟨32::fr⟩⟩ tf,.str p tp],BQ a pa (i+2),AE pa (rs.map rv)]).ix [0,5,5,5,5,5,5,0,0,0,0,0] rfl).post λr R s S=>?_
  exact St.picked (L:=[_,_,_,_,_,_,_,_,_,_,_,_]) (ix:=[7,7,7,7,7,0,0,0,0,0,0,0]) S rfl
theorem VL(O:B.C.Ok)(hS:B.Std){A:AL}(U:AA 70 A){L z j k a pa x dx m u t3 t5 t4 l y dy:Nat}{rs:Db}{s0 c0:Str}{t1 t2:Nat}(kb:Nat):
 ∀(cs:Ed) (i:Nat) (h:FX) (f p:Str) (tf tp tg th:Nat),(rs.map (·.1)).drop i=Nm cs->(∀c∈cs,Ck c)->Bd kb h.ab->kb+cs.length<=400->
 AT B.C A (.forLoop OL (J z) Pj [] (AR B.P 106 [] (L+323)))
  ([FA z .none false j k,AV j [J a,J a],AV k [.str f tf,.str p tp],BQ a pa i,AE pa (rs.map rv),AI L (X6 x pa f s0 c0 p tf t1 t2 tp)]++Iq x dx m u t3 t5 t4 l y dy h)
  (λYa:{q:FX//q.ab=cs.foldl (Ab.step m) h.ab}=>.ok .next) (λq=>Iq x dx m u t3 t5 t4 l y dy q.1)
 |[],i,h,f,p,tf,tp,tg,th,hd,hc,hb,hk=>by
  have hle:(rs.map rv).length<=i:=by
   rw[AD]
   have:(rs.map (·.1)).length<=i:=List.drop_eq_nil_iff.mp hd
   rwa [AD] at this
  have e:=fR O (A:=A.under (.forLoop OL (J z) Pj [] (AR B.P 106 [] (L+323)))) U.l.loop z j k a pa i (rs.map rv) f p tf tp hle;refine AT.SQ (X:=Unit) (L1:=λYa=>Iq x dx m u t3 t5 t4 l y dy h) ((e.frame (AI L _::Iq x dx m u t3 t5 t4 l y dy h)).post λYa R s S=>St.tl S) λYa=>?_
  exact(AT.SN _).weaken λYa=>⟨⟨h,rfl⟩,rfl,λR s S=>S⟩
 |(c1,c2)::cs,i,h,f,p,tf,tp,tg,th,hd,hc,hb,hk=>by
  obtain⟨⟨fr,Hl⟩,dA,dB⟩:=hc _ (.head _)
  dsimp only at Hl dA dB
  subst Hl;obtain⟨tf',tp',e1,e2,e3⟩:=oy (r:=Nm cs) (i:=i) hd;have g:=λo=>kB O (A:=A.under (.forLoop OL (J z) Pj [] (AR B.P 106 [] (L+323)))) U.l.loop L o x 0 pa ⟨⟨32::fr⟩⟩ c2 f s0 c0 p tf' tp' tf t1 t2 tp;obtain⟨b1,b2,b3⟩:=hb.small (f:=⟨⟨32::fr⟩⟩) (p:=c2) (tf:=tf') (tp:=tp') ADj ⟨dA,dB⟩
  refine X7 O hS U g b1 b2 b3 (fS O (A:=A.under (.forLoop OL (J z) Pj [] (AR B.P 106 [] (L+323)))) U.l.loop z j k a pa i (rs.map rv) ⟨⟨32::fr⟩⟩ c2 f p tf' tp' tf tp e1 e2) λr=>?_
  exact(VL O hS U (L:=L) (z:=z) (j:=j) (k:=k) (a:=a) (pa:=pa) (x:=x) (dx:=dx) (m:=m) (u:=u) (t3:=t3) (t5:=t5) (t4:=t4) (l:=l) (y:=y) (dy:=dy) (rs:=rs) (s0:=s0) (c0:=c0) (t1:=t1) (t2:=t2) (kb+1) cs (i+2) r.g ⟨⟨32::fr⟩⟩ c2 tf' tp' 0 0 e3 (λc hx=>hc c (.tail _ hx)) (by rw[r.ok];exact hb.step ⟨dA,dB⟩) (by simp only[Ap] at hk;lia)).weaken λq=>⟨⟨q.1,by rw[q.2,r.ok];rfl⟩,rfl,λR s S=>S⟩
end
structure OI(m:Nat)(a:Ab)(cs:Ed) where
 g:FX
 ok:g.ab=cs.foldl (Ab.step m) a
section
variable{B:Bx}
theorem fP(O:B.C.Ok)(hS:B.Std){A:AL}(U:AA 70 A){L z j k a pa x dx m u t3 t5 t4 l y dy:Nat}{rs:Db}{f0 s0 c0:Str}{t0 t1 t2:Nat}(kb:Nat)
 (c:Str×Str) (cs:Ed) (h:FX) (hd:rs.map (·.1)=Nm (c::cs)) (hc: ∀d∈c::cs,Ck d) (hb:Bd kb h.ab) (hk:kb+(c::cs).length<=400):
 AT B.C A (.forLoop OL (J z) Pj [] (AR B.P 106 [] (L+323)))
  ([FA z .none false j k,AV j [J a,J a],AV k [.none,.none],BQ a pa 0,AE pa (rs.map rv),AI L [(AM,J x),(Bp,.str f0 t0),(A0,.str s0 t1),(Ba,.str c0 t2),(Ei,J pa)]]++Iq x dx m u t3 t5 t4 l y dy h)
  (λYa:OI m h.ab (c::cs)=>.ok .next) (λq=>Iq x dx m u t3 t5 t4 l y dy q.g):=by
 obtain⟨c1,c2⟩:=c;obtain⟨⟨fr,Hl⟩,dA,dB⟩:=hc _ (.head _)
 dsimp only at Hl dA dB
 subst Hl;obtain⟨tf',tp',e1,e2,e3⟩:=oy (r:=Nm cs) (i:=0) (rs:=rs) (by rw[Du];exact hd)
 have g:=λo=>kA O (A:=A.under (.forLoop OL (J z) Pj [] (AR B.P 106 [] (L+323)))) U.l.loop L o x 0 pa ⟨⟨32::fr⟩⟩ c2 f0 s0 c0 tf' tp' t0 t1 t2;obtain⟨b1,b2,b3⟩:=hb.small (f:=⟨⟨32::fr⟩⟩) (p:=c2) (tf:=tf') (tp:=tp') ADj ⟨dA,dB⟩
 refine X7 O hS U g b1 b2 b3 (fQ O (A:=A.under (.forLoop OL (J z) Pj [] (AR B.P 106 [] (L+323)))) U.l.loop z j k a pa 0 (rs.map rv) ⟨⟨32::fr⟩⟩ c2 tf' tp' e1 e2) λr=>?_
 exact(VL O hS U (L:=L) (z:=z) (j:=j) (k:=k) (a:=a) (pa:=pa) (x:=x) (dx:=dx) (m:=m) (u:=u) (t3:=t3) (t5:=t5) (t4:=t4) (l:=l) (y:=y) (dy:=dy) (rs:=rs) (s0:=s0) (c0:=c0) (t1:=t1) (t2:=t2) (kb+1) cs 2 r.g ⟨⟨32::fr⟩⟩ c2 tf' tp' 0 0 e3 (λc hx=>hc c (.tail _ hx)) (by rw[r.ok];exact hb.step ⟨dA,dB⟩) (by simp only[Ap] at hk;lia)).weaken λq=>⟨⟨q.1,by rw[q.2,r.ok];rfl⟩,rfl,λR s S=>S⟩
end
include O
def Yg(hS:B.Std)(U:AA 70 A)(L z j k a pa x dx m u t3 t5 t4 l y dy:Nat)(rs:Db)(f0 s0 c0:Str)(t0 t1 t2 kb:Nat)(c:Str×Str)(cs:Ed)(h:FX)(hd:rs.map (·.1)=Nm (c::cs))(hc: ∀d∈c::cs,Ck d)(hb:Bd kb h.ab)(hk:kb+(c::cs).length<=400):Ag B.C A where
 c:=.forLoop OL (J z) Pj [] (AR B.P 106 [] (L+323))
 F:=[FA z .none false j k,AV j [J a,J a],AV k [.none,.none],BQ a pa 0,AE pa (rs.map rv),AI L [(AM,J x),(Bp,.str f0 t0),(A0,.str s0 t1),(Ba,.str c0 t2),(Ei,J pa)],BO x dx,Bc dx m u t3 t5 t4 l y,BS y dy h.AH,A3 dy (.int (h.n:Int) h.t),Ai h.AH,AE l (h.rs.map rv)]
 X:=OI m h.ab (c::cs)
 res:=λYa=>.ok .next
 led:=λq=>[BO x dx,Bc dx m u t3 t5 t4 l y,BS y dy q.g.AH,A3 dy (.int (q.g.n:Int) q.g.t),Ai q.g.AH,AE l (q.g.rs.map rv)]
 ok:=(fP O hS U kb c cs h hd hc hb hk).call
theorem x_(U:AA 30 A)(L x:Nat)(f s c0:Str)(t0 t1 t2:Nat)(words:List Wd)(hf:f.length≠0)(hs:s.length≠0)(hz:f.length+s.length<=1000000)(SH:(f++s).length<=100000)(hw:(f++s).cps.toList=Et words)(IQ: ∀w∈words,Wd.ok w):
 AC B.C A (Ac ((A4 B.P 106).take 1) (AR B.P 106 [] (L+323))) [AI L [(AM,J x),(Bp,.str f t0),(A0,.str s t1),(Ba,.str c0 t2)]]
  (λq:tt words=>.next)
  (λq=>[AI L [(AM,J x),(Bp,.str f t0),(A0,.str s t1),(Ba,.str c0 t2),(Ei,J q.a)],AE q.a (q.rs.map rv)]):=
 D7 O U (.g 4467839729664<|.cc (O_ O U.l f s t0 t1 hf hs hz) [] λ(y0:Nat)=>.cc (W4 O U.l {cps:=f.cps++s.cps} y0 words hw IQ (by first|lia|assumption)) [] λy1=>.fr λk2=>.g 6210<|.fi (y1) [1,0])
theorem yA(U:AA 30 A)(L x pa te:Nat)(f s c0:Str)(t0 t1 t2:Nat)(rs:Db)(h0:((.str eS te)::rs.map rv)[0]? =some (.str eS te))(hl:((.str eS te)::rs.map rv).length<=1000)(Mq:(rs.map rv).length<1000):
 AS B A (Ac (((A4 B.P 106).drop 1).take 1) (AR B.P 106 [] (L+323))) [AI L [(AM,J x),(Bp,.str f t0),(A0,.str s t1),(Ba,.str c0 t2),(Ei,J pa)],AE pa ((.str eS te)::rs.map rv)] .next [AI L [(AM,J x),(Bp,.str f t0),(A0,.str s t1),(Ba,.str c0 t2),(Ei,J pa)],AE pa (rs.map rv)]:=
 D7 O U (.g 65<|.fr λk0=>.g 270466<|.cc (BZ O U.l pa 0 k0 (.str ⟨⟨[]⟩⟩ te::B0 rv rs) (.str eS te) h0 hl) [1] λYa=>.cc (TB O U.l ⟨⟨[]⟩⟩ te (by first|assumption|exact(ADm:(0:Nat)<=1000000))) [] λYa=>.g 1090785346<|.fr λk3=>.cc (bz O U.l pa k3 (.str ⟨⟨[]⟩⟩ te) (B0 rv rs) Mq) [0] λYa=>.fi () [1,0])
theorem yB(U:AA 80 A)(L x pa dx m u t3 t5 t4 l y dy kb:Nat)(f s c0:Str)(t0 t1 t2:Nat)(rs:Db)(c:Str×Str)(cs:Ed)(h:FX)(hS:B.Std)(hd:rs.map (·.1)=Nm (c::cs))(hc: ∀d∈c::cs,Ck d)(hb:Bd kb h.ab)(hk:kb+(c::cs).length<=400):
 AC B.C A (Ac ((A4 B.P 106).drop 2) (AR B.P 106 [] (L+323))) [AI L [(AM,J x),(Bp,.str f t0),(A0,.str s t1),(Ba,.str c0 t2),(Ei,J pa)],AE pa (rs.map rv),BO x dx,Bc dx m u t3 t5 t4 l y,BS y dy h.AH,A3 dy (.int (h.n:Int) h.t),Ai h.AH,AE l (h.rs.map rv)]
  (λq:OI m h.ab (c::cs)=>.next)
  (λq=>[BO x dx,Bc dx m u t3 t5 t4 l y,BS y dy q.g.AH,A3 dy (.int (q.g.n:Int) q.g.t),Ai q.g.AH,AE l (q.g.rs.map rv)]):=by
 obtain⟨_,_|_⟩:=B<;>exact D7 O U (.g 1090519040<|.cc (O9 O U.l pa (rs.map rv)) [1] λ(y0:Nat)=>.al λa1=>.fr λk2=>.g 65<|.cc (Ys O U.l a1 k2 [J y0]) [0] λYa=>.g 65<|.cc (bx O U.l a1 k2 (J y0)) [0] λ(y4:Nat)=>.g 65<|.cc (Kl O U.l y4 [J y0,J y0] (by first|assumption|simp)) [0] λYa=>.g 65<|.cc (lS O U.l pa y0 0) [3] λ(y6:Nat×Nat×Nat)=>.g 4161<|.cc (cV O U.l y6.fst y6.snd.fst y6.snd.snd .none UN) [0] λYa=>.g 65<|.cc (Yg O hS U.l L y6.fst y6.snd.fst y6.snd.snd y0 pa x dx m u t3 t5 t4 l y dy rs f s c0 t0 t1 t2 kb c cs h hd hc hb hk) [0,0,0,0,3,3,3,3,3,3,3,3] λy8=>.fi (y8) (BW 6))
theorem fU(U:AA 1 A)(x:Nat)(f s c0:Str)(t0 t1 t2:Nat):
 AS B A (Pk B 106 [J x,.str f t0,.str s t1,.str c0 t2]) [] (([(AM,J x),(Bp,.str f t0),(A0,.str s t1),(Ba,.str c0 t2)]:BC)) []:=
 rn O U (.fi () [])
theorem cn(U:AA 1 A)(x:Nat)(f s c0:Str)(t0 t1 t2:Nat):
 AC B.C A (OO B 106 [(AM,J x),(Bp,.str f t0),(A0,.str s t1),(Ba,.str c0 t2)]) []
  (λa0:Nat=>AR B.P 106 [] (a0+323))
  (λa0=>[AI a0 [(AM,J x),(Bp,.str f t0),(A0,.str s t1),(Ba,.str c0 t2)]]):=
 rn O U (.al λa0=>.fr λk1=>.g 6145<|.fr λk2=>.g 6145<|.fr λk3=>.g 6145<|.fr λk4=>.g 6145<|.fi (a0) [0])
def Gi(w:Wd):Str×Str:=(⟨⟨w.1⟩⟩,⟨⟨w.2⟩⟩)
omit O
theorem Rm: ∀(r:List Wd) (p:Ay),Ij p r=(⟨⟨p⟩⟩:Str)::Nm (r.map Gi)
 |[],p=>rfl
 |w::r,p=>by
  rw[Ij,Rm r w.2];simp[Nm,Gi]
theorem Ru: ∀cs:Ed,(Nm cs).length=2*cs.length
 |[]=>rfl
 |c::cs=>by
  have:Nm (c::cs)=c.1::c.2::Nm cs:=by simp[Nm]
  rw[this,Ap,Ap,Ru cs,Ap];lia
theorem fY{B:Bx}(O:B.C.Ok)(hS:B.Std){A:AL}(U:AA 80 A)(L x dx m u t3 t5 t4 l y dy kb:Nat)(f s c0:Str)(t0 t1 t2:Nat)(h:FX)(words:List Wd)(hf:f.length≠0)(hs:s.length≠0)(SH:(f++s).length<=100000)(hw:(f++s).cps.toList=Et words)(IQ: ∀w∈words,Wd.ok w)
 (CD:words≠[]) (hc: ∀d∈words.map Gi,Ck d) (hb:Bd kb h.ab) (hk:kb+words.length<=400):
 AC B.C A (Ac (A4 B.P 106) (AR B.P 106 [] (L+323))) (AI L [(AM,J x),(Bp,.str f t0),(A0,.str s t1),(Ba,.str c0 t2)]::Iq x dx m u t3 t5 t4 l y dy h)
  (λYa:OI m h.ab (words.map Gi)=>.next) (λq=>Iq x dx m u t3 t5 t4 l y dy q.g):=by
 have hlen:(f++s).length=f.length+s.length:=by show(f.cps++s.cps).size=_;rw[Hv];rfl
 have e1:=x_ O U.l L x f s c0 t0 t1 t2 words hf hs ADj SH hw IQ
 obtain⟨w0,wr,rfl⟩: ∃a b,words=a::b:=by cases words with|nil=>exact absurd rfl CD|cons a b=>exact⟨a,b,rfl⟩
 have e3:=λpa rs hd=>yB O U L x pa dx m u t3 t5 t4 l y dy kb f s c0 t0 t1 t2 rs (Gi w0) (wr.map Gi) h hS hd hc hb (by simpa using hk)
 have e2:=λpa te rs hx hy hz=>yA O U.l L x pa te f s c0 t0 t1 t2 rs hx hy hz;rw[eI] at e1 e2 e3;rw[eI];refine AC.step (led1:=λq:tt (w0::wr)=>[AI L [(AM,J x),(Bp,.str f t0),(A0,.str s t1),(Ba,.str c0 t2),(Ei,J q.a)],AE q.a (q.rs.map rv)]++Iq x dx m u t3 t5 t4 l y dy h) (e1.frame _) λq=>?_;obtain⟨pa,rs,hq⟩:=q
 dsimp only
 have rL:=hq;rw[Rm] at rL
 clear hq
 cases rs with
 |nil=>cases rL
 |cons r0 rs=>
  obtain⟨r0s,te⟩:=r0;simp only[Aw,G4] at rL;obtain⟨rfl,zW⟩:=rL;have hlr:rs.length<=800:=by
   have h1:(rs.map (·.1)).length=(Nm (Gi w0::wr.map Gi)).length:=congrArg C7 zW;rw[Ru,AD] at h1;simp only[Ap,AD] at h1 hk
   lia
  refine AC.step (led1:=λYa:Unit=>[AI L [(AM,J x),(Bp,.str f t0),(A0,.str s t1),(Ba,.str c0 t2),(Ei,J pa)],AE pa (rs.map rv)]++Iq x dx m u t3 t5 t4 l y dy h) ((e2 pa te rs rfl (by simp;lia) (by simp;lia)).frame _) λYa=>?_
  exact e3 pa rs zW
include O
def ki(hS:B.Std)(U:AA 82 A)(x dx m u t3 t5 t4 l y dy kb:Nat)(f s c0:Str)(t0 t1 t2:Nat)(h:FX)(words:List Wd)(hf:f.length≠0)(hs:s.length≠0)(SH:(f++s).length<=100000)(hw:(f++s).cps.toList=Et words)(IQ: ∀w∈words,Wd.ok w)
 (CD:words≠[]) (hc: ∀d∈words.map Gi,Ck d) (hb:Bd kb h.ab) (hk:kb+words.length<=400):Ag B.C A where
 c:=.call (.ref 106) ⟨[J x,.str f t0,.str s t1,.str c0 t2],[]⟩
 F:=[BO x dx,Bc dx m u t3 t5 t4 l y,BS y dy h.AH,A3 dy (.int (h.n:Int) h.t),Ai h.AH,AE l (h.rs.map rv)]
 X:=OI m h.ab (words.map Gi)
 res:=λYa=>.ok (.ret .none)
 led:=λq=>[BO x dx,Bc dx m u t3 t5 t4 l y,BS y dy q.g.AH,A3 dy (.int (q.g.n:Int) q.g.t),Ai q.g.AH,AE l (q.g.rs.map rv)]
 ok:=Dm O (n:=81) U ADk ((fU O U.l.in1 x f s c0 t0 t1 t2).frame _) (λR s' S=>by
  exact(cn O U.l.in1 x f s c0 t0 t1 t2).frame (Iq x dx m u t3 t5 t4 l y dy h) R s' S)
  (λa=>BK (fY O hS (AA.deeper U.l) a x dx m u t3 t5 t4 l y dy kb f s c0 t0 t1 t2 h words hf hs SH hw IQ CD hc hb hk))
theorem ai(U:AA 1 A)(x a:Nat)(f s:Str)(t0 t1:Nat):
 AS B A (Pk B 92 [J x,.str f t0,.str s t1,J a]) [] (([(AM,J x),(Bp,.str f t0),(A0,.str s t1),(MW,J a)]:BC)) []:=
 rn O U (.fi () [])
theorem ZQ(U:AA 1 A)(x a:Nat)(f s:Str)(t0 t1:Nat):
 AC B.C A (OO B 92 [(AM,J x),(Bp,.str f t0),(A0,.str s t1),(MW,J a)]) []
  (λa0:Nat=>AR B.P 92 [] (a0+323))
  (λa0=>[AI a0 [(AM,J x),(Bp,.str f t0),(A0,.str s t1),(MW,J a)]]):=
 rn O U (.al λa0=>.fr λk1=>.g 6145<|.fr λk2=>.g 6145<|.fr λk3=>.g 6145<|.fr λk4=>.g 6145<|.fi (a0) [0])
theorem bA(U:AA 86 A)(L a b d x dx m u t3 t5 t4 l y dy kb:Nat)(f s:Str)(t0 t1:Nat)(h:FX)(words:List Wd)(hS:B.Std)(hf:f.length≠0)(hs:s.length≠0)(SH:(f++s).length<=100000)(hw:(f++s).cps.toList=Et words)(IQ: ∀w∈words,Wd.ok w)(CD:words≠[])(hc: ∀d∈words.map Gi,Ck d)(hb:Bd kb h.ab)(hk:kb+words.length<=400):
 AC B.C A (Ac (A4 B.P 92) (AR B.P 92 [] (L+323))) [AI L [(AM,J x),(Bp,.str f t0),(A0,.str s t1),(MW,J a)],Xj a b d,Xi d,BO x dx,Bc dx m u t3 t5 t4 l y,BS y dy h.AH,A3 dy (.int (h.n:Int) h.t),Ai h.AH,AE l (h.rs.map rv)]
  (λq:OI m h.ab (words.map Gi)=>.ret .none)
  (λq=>[BO x dx,Bc dx m u t3 t5 t4 l y,BS y dy q.g.AH,A3 dy (.int (q.g.n:Int) q.g.t),Ai q.g.AH,AE l (q.g.rs.map rv)]):=Ix O U (.g 65<|.fr λk0=>.g 66<|.cc (b7 O U.l a b d k0) [1,1] λYa=>.g 21758198853876321194597434458636547<|.fr λk2=>.g 16777220<|.cc (Fd O U.l x dx m u t3 t5 t4 l y k2) [3,3] λYa=>.g 64<|.cc (ki O hS U.l x dx m u t3 t5 t4 l y dy kb f s ⟨⟨[32]⟩⟩ t0 t1 t4 h words hf hs SH hw IQ CD hc hb hk) [0,0,3,3,3,3] λy4=>.fi (y4) (BW 6))
def gJ(hS:B.Std)(U:AA 88 A)(a b d x dx m u t3 t5 t4 l y dy kb:Nat)(f s:Str)(t0 t1:Nat)(h:FX)(words:List Wd)(hf:f.length≠0)(hs:s.length≠0)(SH:(f++s).length<=100000)(hw:(f++s).cps.toList=Et words)(IQ: ∀w∈words,Wd.ok w)
 (CD:words≠[]) (hc: ∀d∈words.map Gi,Ck d) (hb:Bd kb h.ab) (hk:kb+words.length<=400):Ag B.C A where
 c:=.call (.ref 92) ⟨[J x,.str f t0,.str s t1,J a],[]⟩
 F:=[Xj a b d,Xi d,BO x dx,Bc dx m u t3 t5 t4 l y,BS y dy h.AH,A3 dy (.int (h.n:Int) h.t),Ai h.AH,AE l (h.rs.map rv)]
 X:=OI m h.ab (words.map Gi)
 res:=λYa=>.ok (.ret .none)
 led:=λq=>[BO x dx,Bc dx m u t3 t5 t4 l y,BS y dy q.g.AH,A3 dy (.int (q.g.n:Int) q.g.t),Ai q.g.AH,AE l (q.g.rs.map rv)]
 ok:=Dm O (n:=87) U ADk ((ai O U.l.in1 x a f s t0 t1).frame _) (λR s' S=>by
  exact(ZQ O U.l.in1 x a f s t0 t1).frame (Xj a b d::Xi d::Iq x dx m u t3 t5 t4 l y dy h) R s' S)
  (λL=>BK (fl:=λYa=>.ret .none) (bA O (AA.deeper U.l) L a b d x dx m u t3 t5 t4 l y dy kb f s t0 t1 h words hS hf hs SH hw IQ CD hc hb hk))
noncomputable def FM(sc:Scope)(q:Str)(code:Nat)(cells:List (Str×Addr))(L D:Nat):Env:=
 {scope:=sc,locals:=D+323,globals:=3,cells:=cells,qual:=q,code:=.ref code,frame:=some (L+323),builtins:=0}
noncomputable abbrev As(D:Nat)(l:BC):Bi:=.one (D+323) (.ns (.type "dict") l)
theorem QH(U:AA 5 A)(a x i:Nat)(xs:Ak)(v:Value)(hx:xs[i]? =some v):
 AS B A (FK (J a)) [BQ a x i,AE x xs] (some v) [BQ a x (i+1),AE x xs]:=dr O U (.g 65<|.cc (Fe O U.l a x i xs v hx) [0,0] λYa=>.fi () [0,0])
theorem N_(U:AA 5 A)(a x i:Nat)(xs:Ak)(hx:xs.length<=i):
 AS B A (FK (J a)) [BQ a x i,AE x xs] ((none:DP)) [AE x xs]:=dr O U (.g 65<|.cc (RP O U.l a x i xs hx) [0,0] λYa=>.g 65<|.fi () [1])
theorem NO(U:AA 5 A)(a x i:Nat):
 AS B A (Mh (J a)) [BQ a x i] ((J a)) [BQ a x i]:=by
 obtain⟨_,_|_⟩:=B<;>exact xW O U (.g 4161<|.cc (NE O U.l a x i) [0] λYa=>.g 65<|.fi () [0])
theorem Z5(U:AA 5 A)(a:Nat)(v left step:Int):
 AS B A (Mh (J a)) [Fj a v left step] ((J a)) [Fj a v left step]:=by
 obtain⟨_,_|_⟩:=B<;>exact xW O U (.g 4161<|.cc (Y1 O U.l a v left step) [0] λYa=>.g 65<|.fi () [0])
theorem T_(U:AA 5 A)(a v left:Nat):
 AC B.C A (FK (J a)) [Fj a (v:Int) ((left+1:Nat):Int) 1]
  (λk:Nat=>some (Be (v:Int) k))
  (λk=>[Fj a ((v+1:Nat):Int) (left:Int) 1]):=dr O U (.g 65<|.cc (Y3 O U.l a v left) [0] λy0=>.fi (y0) [0])
theorem Xn(U:AA 5 A)(a:Nat)(v step:Int):
 AS B A (FK (J a)) [Fj a v ((0:Nat):Int) step] ((none:DP)) []:=dr O U (.g 65<|.cc (RT O U.l a v step) [0] λYa=>.g 65<|.fi () [])
omit O
section
variable{B:Bx}{A:AL}{F:AN}
theorem AT.compStart{elt:Expr}{g:Gz}{gs:List Gz}{sc:Scope}{pos:Pos}{d:Nat}{it acc:Value}{env:Env}{g0:Gz}{X:Type}{res:X->Result}{led:X->AN}
 (hg:(g::gs)[d]? =some g0) (ha:g0.is_async=0) (hi:AC B.C (A.under (.compStart (.ListComp elt (g::gs) sc pos) d it acc env)) (Mh it) F (λYa:Unit=>it) (λYa=>F))
 (h:AT B.C A (.compLoop (.ListComp elt (g::gs) sc pos) d it acc env) F res led):AT B.C A (.compStart (.ListComp elt (g::gs) sc pos) d it acc env) F res led:=λR s S=>by
 refine BL ?_;show BN _ _ ((PySem.compStart (.ListComp elt (g::gs) sc pos) d it acc env).onRaise (λx=>do E0 x env;Ke theWindowsPlace)) _ _ s;refine DT (Av ?_ (λYa Ya q=>q) (λYa Ya (q:False)=>q.elim));unfold PySem.compStart;rw[show(OG (.ListComp elt (g::gs) sc pos))=g::gs from rfl,hg];show BN _ _ (if(g0.is_async != 0)=true then _ else _) _ _ _
 refine iN (by rw[ha];decide) ?_
 refine AB (m:=ask) (x_ask (AP ?_))
 split
 ·exact AP ⟨rfl,h R s S⟩
 ·refine AB (Eo ?_)
  refine AB (m:=Ke _) (DU ?_);refine AB (AC.wp hi S λYa s₁ S₁=>?_);exact AP ⟨rfl,h R s₁ S₁⟩
theorem AT.Ss{elt:Expr}{g:Gz}{gs:List Gz}{sc:Scope}{pos:Pos}{d:Nat}{it acc:Value}{env:Env}{g0:Gz}{X:Type}{led:X->AN}
 (hg:(g::gs)[d]? =some g0) (ha:g0.is_async=0) (hi:AC B.C (A.under (.compLoop (.ListComp elt (g::gs) sc pos) d it acc env)) (FK it) F (λYa:X=>none) led):
 AT B.C A (.compLoop (.ListComp elt (g::gs) sc pos) d it acc env) F (λYa:X=>.ok .next) led:=λR s S=>by
 refine BL ?_;show BN _ _ ((J2 (.ListComp elt (g::gs) sc pos) d it acc env).onRaise (λx=>do E0 x env;EQ x)) _ _ s;refine DT (Av ?_ (λYa Ya q=>q) (λYa Ya (q:False)=>q.elim));unfold J2
 dsimp only
 rw[hg]
 dsimp only
 refine AB (m:=Ke _) (DU ?_);refine iN (by rw[ha];decide) ?_
 refine AB (AC.wp hi S λx s₁ S₁=>?_);exact AP ⟨x,rfl,S₁⟩
end
def QP:Expr:=el (vE (sN 18 0)) 0
noncomputable def SK:Scope:={kind:=ScopeKind.function,names:=[(⟨⟨[46,48]⟩⟩,Jy),(⟨⟨[97,104,101,97,100]⟩⟩,Jy),(⟨⟨[119,111,114,100]⟩⟩,Jy)],isGenerator:=UN,isCoroutine:=UN}
def SJ:Str:=Bl [95,108,97,119,95,116,101,120,116,46,60,108,111,99,97,108,115,62,46]
include O
theorem js(U:AA 10 A)(L D c a acc i o:Nat)(xs vs:Ak)(f p:Str)(tf tp:Nat)(hx:xs[i]? =some (J o))(hf:f.length≠0)(hp:p.length≠0)(hs:f.length+p.length<=1000000)(hv:vs.length<=1000):
 AC B.C A (BM (.compLoop QP 0 (J a) (J acc) (FM SK SJ 250 [] L D))) [As D [],BQ a c i,AE c xs,AV o [.str f tf,.str p tp],AE acc vs]
  (λk:Nat=>.again (.compLoop QP 0 (J a) (J acc) (FM SK SJ 250 [] L D)))
  (λk=>[As D [(DC,.str f tf),(Es,.str p tp)],BQ a c (i+1),AE c xs,AV o [.str f tf,.str p tp],AE acc (vs++[Co (f++p) k])]):=by
 obtain⟨_,_|_⟩:=B<;>exact rn O U (.g 66<|.cc (Fe O U.l a c i xs (J o) hx) [1,1] λYa=>.g 17842433<|.cc (Ff O U.l o [.str f tf,.str p tp]) [3] λy1=>.g 4161<|.cc (E1 O U.l y1 o (.str f tf) (.str p tp)) [0,0] λYa=>.g 65<|.cc (E2 O U.l y1 o (.str f tf) (.str p tp)) [0,0] λYa=>.g 65<|.cc (E3 O U.l y1 o (.str f tf) (.str p tp)) [0,0] λYa=>.g 65<|.fr λk5=>.g 6405<|.fr λk6=>.g 18110725<|.cc (O_ O U.l f p tf tp hf hp hs) [] λy7=>.cc (Do O U.l acc (.str {cps:=f.cps++p.cps} y7) vs hv) [5] λYa=>.fi (y7) [5,3,3,2,0])
theorem jt(U:AA 10 A)(L D c a acc i o:Nat)(xs vs:Ak)(f p f' p':Str)(tf tp tf' tp':Nat)(hx:xs[i]? =some (J o))(hf:f.length≠0)(hp:p.length≠0)(hs:f.length+p.length<=1000000)(hv:vs.length<=1000):
 AC B.C A (BM (.compLoop QP 0 (J a) (J acc) (FM SK SJ 250 [] L D))) [As D [(DC,.str f' tf'),(Es,.str p' tp')],BQ a c i,AE c xs,AV o [.str f tf,.str p tp],AE acc vs]
  (λk:Nat=>.again (.compLoop QP 0 (J a) (J acc) (FM SK SJ 250 [] L D)))
  (λk=>[As D [(DC,.str f tf),(Es,.str p tp)],BQ a c (i+1),AE c xs,AV o [.str f tf,.str p tp],AE acc (vs++[Co (f++p) k])]):=by
 obtain⟨_,_|_⟩:=B<;>exact rn O U (.g 66<|.cc (Fe O U.l a c i xs (J o) hx) [1,1] λYa=>.g 17842433<|.cc (Ff O U.l o [.str f tf,.str p tp]) [3] λy1=>.g 4161<|.cc (E1 O U.l y1 o (.str f tf) (.str p tp)) [0,0] λYa=>.g 65<|.cc (E2 O U.l y1 o (.str f tf) (.str p tp)) [0,0] λYa=>.g 65<|.cc (E3 O U.l y1 o (.str f tf) (.str p tp)) [0,0] λYa=>.g 65<|.fr λk5=>.g 6405<|.fr λk6=>.g 18110725<|.cc (O_ O U.l f p tf tp hf hp hs) [] λy7=>.cc (Do O U.l acc (.str {cps:=f.cps++p.cps} y7) vs hv) [5] λYa=>.fi (y7) [5,3,3,2,0])
omit O
section
variable{C:Cx}{s:Af}{L:AN}
theorem Zn(l1 l2:List It)(i:It)(F:F6):(((l1++i::l2).map It.e)++F).Perm (i.e::((l1++l2).map It.e++F)):=by
 rw[AZ,Aw,AZ,<-A5];exact List.perm_middle.append_right _
theorem St.Q1{l1 l2:List It}{i:It}(S:St C (Ai (l1++i::l2)::L) s):St C (AV i.a [.str i.f i.tf,.str i.p i.tp]::Ai (l1++l2)::L) s:=S.BV (Zn l1 l2 i (Ao L))
theorem St.Vr{l1 l2:List It}{i:It}(S:St C (AV i.a [.str i.f i.tf,.str i.p i.tp]::Ai (l1++l2)::L) s):St C (Ai (l1++i::l2)::L) s:=S.BV (Zn l1 l2 i (Ao L)).symm
end
def It.MG(i:It):Prop:=i.f.length≠0/\i.p.length≠0/\i.f.length<=500/\i.p.length<=500
structure X4(ts:List Str) where
 f:Str
 p:Str
 tf:Nat
 tp:Nat
 ks:Db
 ok:ks.map (·.1)=ts
def It.cat(i:It):Str:=i.f++i.p
theorem oz(ks:Db)(x:Str)(k:Nat):ks.map rv++[Co x k]=(ks++[(x,k)]).map rv:=by rw[AZ];rfl
theorem WK{B:Bx}(O:B.C.Ok){A:AL}(U:AA 12 A){L D c a acc:Nat}: ∀(l1 l2:List It) (ks:Db) (f' p':Str) (tf' tp':Nat),(∀i∈l2,It.MG i)->ks.length+l2.length<=900->
 AT B.C A (.compLoop QP 0 (J a) (J acc) (FM SK SJ 250 [] L D))
  [As D [(DC,.str f' tf'),(Es,.str p' tp')],BQ a c l1.length,AE c ((l1++l2).map It.v),Ai (l1++l2),AE acc (ks.map rv)]
  (λYa:X4 (ks.map (·.1)++l2.map It.cat)=>.ok .next) (λq=>[As D [(DC,.str q.f q.tf),(Es,.str q.p q.tp)],AE c ((l1++l2).map It.v),Ai (l1++l2),AE acc (q.ks.map rv)])
 |l1,[],ks,f',p',tf',tp',FV,hlen=>by
  have e:=N_ O (A:=A.under (.compLoop QP 0 (J a) (J acc) (FM SK SJ 250 [] L D))) U.l.loop a c l1.length ((l1++[]).map It.v) ADn
  refine(AT.Ss (X:=Unit) (led:=λYa=>[As D [(DC,.str f' tf'),(Es,.str p' tp')],AE c ((l1++[]).map It.v),Ai (l1++[]),AE acc (ks.map rv)]) (g0:=(OG QP).head?.getD ⟨Au,Au,[],0⟩) rfl rfl ?_).weaken λYa=>⟨⟨f',p',tf',tp',ks,by simp⟩,rfl,λR s S=>S⟩
  exact((e.frame [As D [(DC,.str f' tf'),(Es,.str p' tp')],Ai (l1++[]),AE acc (ks.map rv)]).ix [1,1,0,0,0] rfl).ox [1,0,0,0] λYa=>rfl
 |l1,i::l2,ks,f',p',tf',tp',FV,hlen=>by
  obtain⟨h1,h2,h3,h4⟩:=FV i (.head _);simp only[Ap] at hlen;have ih:=λk=>WK O U (L:=L) (D:=D) (c:=c) (a:=a) (acc:=acc) (l1++[i]) l2 (ks++[(i.cat,k)]) i.f i.p i.tf i.tp (λj hj=>FV j (.tail _ hj)) (by simp;lia)
  refine AT.pre (F:=[As D [(DC,.str f' tf'),(Es,.str p' tp')],BQ a c l1.length,AE c ((l1++i::l2).map It.v),AV i.a [.str i.f i.tf,.str i.p i.tp],AE acc (ks.map rv)]++[Ai (l1++l2)]) (AT.NM (Y:=Nat) (c':=λYa=>.compLoop QP 0 (J a) (J acc) (FM SK SJ 250 [] L D)) ((jt O (A:=A.under (.compLoop QP 0 (J a) (J acc) (FM SK SJ 250 [] L D))) U.l.loop L D c a acc l1.length i.a ((l1++i::l2).map It.v) (ks.map rv) i.f i.p f' p' i.tf i.tp tf' tp' (by simp[It.v]) h1 h2 ADj (by rw[AD];lia)).frame [Ai (l1++l2)]) (λYa=>rfl) λk=>?_) λR s S=>?_
  ·refine((ih k).pre λR s S=>?_).weaken λq=>⟨⟨q.f,q.p,q.tf,q.tp,q.ks,by rw[q.ok];simp⟩,rfl,λR s S=>?_⟩
   ·have S1:=St.picked (L:=[_,_,_,_,_,_]) (ix:=(3::4::BW 4)) S rfl
    have S2:=S1.Vr;have S3:=St.picked (L:=[_,_,_,_,_]) (ix:=[1,1,1,0,0]) S2 rfl;rw[show l1++i::l2=l1++[i]++l2 from by simp,oz] at S3
    rw[show(l1++[i]).length=l1.length+1 from by simp]
    exact S3
   ·rw[show l1++i::l2=l1++[i]++l2 from by simp];exact S
  ·have S1:=St.picked (L:=[_,_,_,_,_]) (ix:=(3::BW 4)) S rfl
   have S2:=S1.Q1;exact St.picked (L:=[_,_,_,_,_,_]) (ix:=[2,2,2,0,1,0]) S2 rfl
include O
def W8(U:AA 13 A)(L D c a acc:Nat)(cks:List It)(CD:cks≠[])(FV: ∀i∈cks,It.MG i)(hlen:cks.length<=900):Ag B.C A where
 c:=.compStart QP 0 (J a) (J acc) (FM SK SJ 250 [] L D)
 F:=[As D [],BQ a c 0,AE c (cks.map It.v),Ai cks,AE acc []]
 X:=X4 (cks.map It.cat)
 res:=λYa=>.ok .next
 led:=λq=>[As D [(DC,.str q.f q.tf),(Es,.str q.p q.tp)],AE c (cks.map It.v),Ai cks,AE acc (q.ks.map rv)]
 ok:=by
  obtain⟨i,l2,rfl⟩: ∃i l,cks=i::l:=by cases cks with|nil=>exact absurd rfl CD|cons i l=>exact⟨i,l,rfl⟩
  obtain⟨h1,h2,h3,h4⟩:=FV i (.head _);simp only[Ap] at hlen;have ih:=λk=>WK O U.l (L:=L) (D:=D) (c:=c) (a:=a) (acc:=acc) [i] l2 [(i.cat,k)] i.f i.p i.tf i.tp (λj hj=>FV j (.tail _ hj)) (by simp;lia)
  refine AT.call (AT.compStart (g0:=(OG QP).head?.getD ⟨Au,Au,[],0⟩) rfl rfl ((((NO O (A:=A.under (.compStart QP 0 (J a) (J acc) (FM SK SJ 250 [] L D))) U.l.loop a c 0).frame [As D [],AE c ((i::l2).map It.v),Ai (i::l2),AE acc []]).ix (1::BW 4) rfl).ox (1::BW 4) λYa=>rfl) ?_);refine AT.pre (F:=[As D [],BQ a c 0,AE c ((i::l2).map It.v),AV i.a [.str i.f i.tf,.str i.p i.tp],AE acc []]++[Ai l2]) (AT.NM (Y:=Nat) (c':=λYa=>.compLoop QP 0 (J a) (J acc) (FM SK SJ 250 [] L D)) ((js O (A:=A.under (.compLoop QP 0 (J a) (J acc) (FM SK SJ 250 [] L D))) U.l.loop L D c a acc 0 i.a ((i::l2).map It.v) [] i.f i.p i.tf i.tp rfl h1 h2 ADj ADn).frame [Ai l2]) (λYa=>rfl) λk=>?_) λR s S=>?_
  ·refine((ih k).pre λR s S=>?_).weaken λq=>⟨⟨q.f,q.p,q.tf,q.tp,q.ks,by rw[q.ok];simp⟩,rfl,λR s S=>S⟩
   have S1:=St.picked (L:=[_,_,_,_,_,_]) (ix:=(3::4::BW 4)) S rfl;have S2:=St.Vr (l1:=[]) S1;exact St.picked (L:=[_,_,_,_,_]) (ix:=[1,1,1,0,0]) S2 rfl
  ·have S1:=St.picked (L:=[_,_,_,_,_]) (ix:=(3::BW 4)) S rfl
   exact St.picked (L:=[_,_,_,_,_,_]) (ix:=[2,2,2,0,1,0]) (St.Q1 (l1:=[]) S1) rfl
theorem av(U:AA 1 A)(c:Nat):
 AS B A (Pk B 251 [J c]) [] (([(DK,J c)]:BC)) []:=
 rn O U (.fi () [])
theorem ZX(U:AA 1 A)(c:Nat):
 AC B.C A (OO B 251 [(DK,J c)]) []
  (λa0:Nat=>AR B.P 251 [] (a0+323))
  (λa0=>[AI a0 [(DK,J c)]]):=
 rn O U (.al λa0=>.fr λk1=>.g 6145<|.fi (a0) [0])
theorem bK(U:AA 20 A)(L c:Nat)(cks:List It)(CD:cks≠[])(FV: ∀i∈cks,It.MG i)(hlen:cks.length<=900)(Om:JE (cks.map It.cat)):
 AC B.C A (Ac (A4 B.P 251) (AR B.P 251 [] (L+323))) [AI L [(DK,J c)],AE c (cks.map It.v),Ai cks]
  (λq:X4 (cks.map It.cat)×Nat=>.ret (.str (BB eS (q.1.ks.map (·.1))) q.2))
  (λq=>[AE c (cks.map It.v),Ai cks]):=by
 obtain⟨_,_|_⟩:=B<;>exact D7 O U (.fr λk0=>.g 270465<|.cc (Bt O U.l c (cks.map It.v)) [1] λ(y1:Nat)=>.g 65<|.al λa2=>.al λa3=>.cc (W8 O U.l L a3 c y1 a2 cks CD FV hlen) [0,1,1,2,0] λ(y4:X4 (cks.map It.cat))=>.g 103096385601<|.cc (N5 O U.l a2 ⟨⟨[]⟩⟩ k0 y4.ks (by first|assumption|(rw[X4.ok];assumption)|exact(ADm:(0:Nat)<=10)) (by first|assumption|(rw[X4.ok];assumption)|exact(ADm:(0:Nat)<=10))) [3] λy5=>.fi (y4,y5) [2,2])
def Vf(U:AA 22 A)(c:Nat)(cks:List It)(CD:cks≠[])(FV: ∀i∈cks,It.MG i)(hlen:cks.length<=900)(Om:JE (cks.map It.cat)):Ag B.C A where
 c:=.call (.ref 251) ⟨[J c],[]⟩
 F:=[AE c (cks.map It.v),Ai cks]
 X:=Nat
 res:=λk=>.ok (.ret (.str (BB eS (cks.map It.cat)) k))
 led:=λYa=>[AE c (cks.map It.v),Ai cks]
 ok:=(AT.weaken (Pq O (n:=21) U ADk ((av O U.l.in1 c).frame _) (λR s S=>(ZX O U.l.in1 c).frame [AE c (cks.map It.v),Ai cks] R s S)
  (λa=>BK (fl:=λq:X4 (cks.map It.cat)×Nat=>.ret (.str (BB eS (q.1.ks.map (·.1))) q.2)) (bK O (AA.deeper U.l) a c cks CD FV hlen Om)))
  λq:X4 (cks.map It.cat)×Nat=>⟨q.2,by show(Cs (B6 (.str (BB eS (q.1.ks.map (·.1))) q.2)):Result)=_;rw[q.1.ok],λR s S=>S⟩).call
section
open PySem.StrLaws PySem.Builtin.Str
noncomputable def Gp(c:Nat):Ay->Nat->Ay
 |[],_=>[]
 |a::r,i=>if a=c then i::Gp c r (i+1) else Gp c r (i+1)
omit O
theorem Kn(c:Nat): ∀(l:Ay) (i:Nat),(Gp c l i).length=l.count c
 |[],_=>rfl
 |a::r,i=>by
  unfold Gp
  by_cases h:a=c
  ·rw[if_pos h,Ap,Kn c r,h,List.count_cons_self]
  ·rw[if_neg h,Kn c r,List.count_cons_of_ne h]
theorem AAT{x:Str}{c i a:Nat}{r:Ay}(h:x.cps.toList.drop i=a::r):subAt x ⟨⟨[c]⟩⟩ i=(a==c):=by
 unfold subAt;have e:x.cps.extract i (i+1)=#[a]:=by
  apply Array.toList_inj.mp;simp only[GO,MZ,h];simp
 show(x.cps.extract i (i+1)==#[c])=_
 rw[e];simp
theorem Q5(x:Str)(c:Nat): ∀(l:Ay) (i:Nat) (found:Array Nat) (free:Nat),x.cps.toList.drop i=l->i<=x.length->found.size<=i->free<=i->
 (ID (Kb i (l.length+1)) (found,free) (occBody x ⟨⟨[c]⟩⟩ x.length (x.length+1))).run.fst.toList=found.toList++Gp c l i
 |[],i,found,free,hd,hi,hs,hf=>by
  have hlen:x.cps.toList.length=x.length:=rfl;have hle:x.length<=i:=by rw[<-hlen];exact List.drop_eq_nil_iff.mp hd
  show(ID (Kb i 1) (found,free) (occBody x ⟨⟨[c]⟩⟩ x.length (x.length+1))).run.fst.toList=_
  rw[show Kb i 1=[i] from rfl,EP];unfold occBody;rw[if_neg (by show¬((_/\i+1<=x.length)/\_);lia)]
  show found.toList=_;simp[Gp]
 |a::r,i,found,free,hd,hi,hs,hf=>by
  have hlen:x.cps.toList.length=x.length:=rfl;have hr:i+(r.length+1)=x.length:=by
   have:=congrArg C7 hd
   rw[A6,hlen,Ap] at this
   lia
  have mD:x.cps.toList.drop (i+1)=r:=by rw[<-Hy,hd];rfl
  rw[Ap,List.range'_succ,EP];unfold occBody;rw[AAT hd]
  by_cases h:a=c
  ·rw[if_pos ⟨⟨⟨by show found.size<_;lia,hf⟩,by show i+1<=_;lia⟩,by simp[h]⟩]
   show(ID (Kb (i+1) (r.length+1)) (found.push i,i+1) (occBody x ⟨⟨[c]⟩⟩ x.length (x.length+1))).run.fst.toList=_
   rw[Q5 x c r (i+1) (found.push i) (i+1) mD ADj (by simp;lia) (Am _)]
   simp[Gp,h]
  ·rw[if_neg (by simp[h])]
   show(ID (Kb (i+1) (r.length+1)) (found,free) (occBody x ⟨⟨[c]⟩⟩ x.length (x.length+1))).run.fst.toList=_
   rw[Q5 x c r (i+1) found free mD ADj ADj ADj]
   simp[Gp,h]
theorem oA(x:Str)(c:Nat):occurrences x ⟨⟨[c]⟩⟩ 0 x.length (x.length+1)=Gp c x.cps.toList 0:=by
 rw[occ_eq]
 have:=Q5 x c x.cps.toList 0 #[] 0 (Du) (By _) (Am _) (Am _)
 rw[show x.length+1-0=x.cps.toList.length+1 from rfl,this]
 rfl
noncomputable def C2(c:Nat):Ay->List Ay
 |[]=>[[]]
 |a::r=>if a=c then []::C2 c r else(match C2 c r with|p::q=>(a::p)::q|[]=>[[a]])
theorem Jo(c:Nat): ∀l,C2 c l≠[]
 |[]=>by simp[C2]
 |a::r=>by
  unfold C2
  split
  ·simp
  ·split<;>simp
theorem NZ(x:Str)(c:Nat): ∀(l:Ay) (i s:Nat) (p:Ay),x.cps.toList.drop i=l->s<=i->(x.cps.toList.drop s).take (i-s)=p->i<=x.length->
 (((s::(Gp c l i).map (· +1)).zip (Gp c l i++[x.length])).map λ(a,b)=>strSub x a b)=(match C2 c l with|q::r=>(p++q)::r|[]=>[]).map λy=>(⟨⟨y⟩⟩:Str)
 |[],i,s,p,hd,hs,hp,hi=>by
  have hlen:x.cps.toList.length=x.length:=rfl;have hle:x.length<=i:=by rw[<-hlen];exact List.drop_eq_nil_iff.mp hd
  have:i=x.length:=by lia
  subst this;simp only[Gp,EC,Al,Pa,List.zip_nil_right,Aw,C2,Aj]
  congr 1
  unfold strSub
  congr 1
  apply Array.toList_inj.mp;simp only[GO,MZ];exact hp
 |a::r,i,s,p,hd,hs,hp,hi=>by
  have hlen:x.cps.toList.length=x.length:=rfl;have hr:i+(r.length+1)=x.length:=by
   have:=congrArg C7 hd
   rw[A6,hlen,Ap] at this
   lia
  have mD:x.cps.toList.drop (i+1)=r:=by rw[<-Hy,hd];rfl
  by_cases h:a=c
  ·have ih:=NZ x c r (i+1) (i+1) [] mD (Am _) ADn ADj
   simp only[Gp,if_pos h,Aw,A5,Pa,C2,Aj];rw[ih]
   congr 1
   ·unfold strSub
    congr 1
    apply Array.toList_inj.mp;simp only[GO,MZ];exact hp
   ·cases P6:C2 c r with
    |nil=>exact absurd P6 (Jo c r)
    |cons q t=>rfl
  ·have iP:(x.cps.toList.drop s).take (i+1-s)=p++[a]:=by
    rw[show i+1-s=(i-s)+1 from by lia,FF,hp,Jx,show s+(i-s)=i from by lia]
    have:x.cps.toList[i]? =some a:=by
     have:=congrArg (·[0]?) hd
     simpa using this
    rw[this];rfl
   have ih:=NZ x c r (i+1) s (p++[a]) mD ADj iP ADj
   simp only[Gp,if_neg h,C2];rw[ih];cases P6:C2 c r with
   |nil=>exact absurd P6 (Jo c r)
   |cons q t=>simp
theorem r7(x:Str)(c:Nat):partsBetween x (occurrences x ⟨⟨[c]⟩⟩ 0 x.length (x.length+1)) 1=(C2 c x.cps.toList).map λy=>(⟨⟨y⟩⟩:Str):=by
 rw[oA]
 have:=NZ x c x.cps.toList 0 0 [] Du (Am _) ADn (By _)
 unfold partsBetween;rw[this];cases P6:C2 c x.cps.toList with
 |nil=>exact absurd P6 (Jo c _)
 |cons q t=>rfl
noncomputable def IR(c:Nat):List Ay->Ay
 |[]=>[]
 |[a]=>a
 |a::b::r=>a++c::IR c (b::r)
theorem MS(c:Nat): ∀(p l:Ay),c∉p->C2 c (p++l)=(match C2 c l with|q::r=>(p++q)::r|[]=>[])
 |[],l,_=>by
  cases P6:C2 c l with
  |nil=>exact absurd P6 (Jo c l)
  |cons q t=>simp[P6]
 |a::p,l,h=>by
  have h1: ¬a=c:=λe=>h (by rw[e];exact .head _)
  have ih:=MS c p l λhm=>h (.tail _ hm)
  show(if a=c then _ else(match C2 c (p++l) with|p::q=>(a::p)::q|[]=>[[a]]))=_
  rw[if_neg h1];rw[ih];cases P6:C2 c l with
  |nil=>exact absurd P6 (Jo c l)
  |cons q t=>rfl
theorem Rr(c:Nat): ∀rows:List Ay,rows≠[]->(∀r∈rows,c∉r)->C2 c (IR c rows)=rows
 |[],h,_=>absurd rfl h
 |[a],_,h=>by
  have:=MS c a [] (h a (.head _))
  rw[Aj] at this;show C2 c a=[a];rw[this];simp[C2]
 |a::b::r,_,h=>by
  have ih:=Rr c (b::r) ADn λx hx=>h x (.tail _ hx)
  show C2 c (a++c::IR c (b::r))=_;rw[MS c a _ (h a (.head _))]
  have:C2 c (c::IR c (b::r))=[]::C2 c (IR c (b::r)):=by
   show(if c=c then _ else _)=_
   rw[if_pos rfl]
  rw[this,ih];simp
theorem NJ(sep:Str): ∀(r:List Str) (acc:Array Nat),(r.foldl (λacc p=>acc++sep.cps++p.cps) acc).toList=acc.toList++r.flatMap λp=>sep.cps.toList++p.cps.toList
 |[],acc=>by simp
 |a::r,acc=>by rw[C0,NJ sep r];simp
theorem Vs(c:Nat): ∀rows:List Str,rows≠[]->(BB ⟨⟨[c]⟩⟩ rows).cps.toList=IR c (rows.map λr=>r.cps.toList)
 |[],h=>absurd rfl h
 |a::r,_=>by
  show(r.foldl (λacc p=>acc++(⟨[c]⟩:Array Nat)++p.cps) a.cps).toList=_
  rw[NJ ⟨⟨[c]⟩⟩ r a.cps]
  induction r generalizing a with
  |nil=>simp[IR]
  |cons b r ih=>
   have:=ih b ADn
   simp only[Aw,IR] at this⊢;rw[<-this];simp
theorem MM: ∀rows:List Str,(BB eS rows).cps.toList=(rows.map λr=>r.cps.toList).flatten
 |[]=>rfl
 |a::r=>by
  show(r.foldl (λacc p=>acc++(⟨[]⟩:Array Nat)++p.cps) a.cps).toList=_
  rw[NJ eS r a.cps];simp[List.flatMap]
end
section
open PySem.StrLaws
noncomputable def Y4{B:Bx}{A:AL}(O:B.C.Ok)(U:AA 3 A)(x:Str)(t u:Nat):Ag B.C A where
 c:=.call (.builtin "str.count") ⟨[.str x t,.str ⟨⟨[32]⟩⟩ u],[]⟩
 F:=[]
 X:=Nat
 res:=λk=>.ok (.ret (.int ((x.cps.toList.count 32:Nat):Int) k))
 led:=λYa=>[]
 ok:=Hg PySem.F.slot_str_count PySem.F.entry_str_count (PySem.F.args_str_count_2 _ _) (by
  have:=gives_str_count x ⟨⟨[32]⟩⟩ t u
  rw[oA,Kn] at this;exact this) (λs=>rfl)
structure R2(rows:List Str) where
 a:Nat
 ks:Db
 ok:ks.map (·.1)=rows
omit O
theorem QL: ∀(l:List Str) (k:Nat),∃ks:Db,strsFrom k l=ks.map rv/\ks.map (·.1)=l
 |[],k=>⟨[],rfl,rfl⟩
 |a::r,k=>by
  obtain⟨ks,e,h⟩:=QL r (k+1);exact⟨(a,k)::ks,by rw[Aw,<-e];rfl,by rw[Aw,h]⟩
theorem T0(c:Nat): ∀(l:Ay) (i:Nat),Gp c l i=[]->c∉l
 |[],_,_=>by simp
 |a::r,i,h=>by
  unfold Gp at h
  by_cases e:a=c
  ·rw[if_pos e] at h;cases h
  ·rw[if_neg e] at h
   intro hm
   rcases List.mem_cons.mp hm with q|q
   ·exact e q.symm
   ·exact T0 c r (i+1) h q
theorem M7{B:Bx}(O:B.C.Ok){R:AN}{s:Af}(S:St B.C R s)(ks:Db){t:Nat}(ht:s.toks<=t):
 St B.C (AE (s.heap.objs.size-323) (ks.map rv)::R) {s with heap:=s.heap.push {cls:=.type "list",data:=.seq (ks.map rv).toArray},toks:=t}:=by
 show St B.C (.one (s.heap.objs.size-323+323) _::_) _;rw[<-St.size_eq O S];exact St.alloc (S.toks t ht) rfl ⟨G0,rfl⟩
theorem jd{B:Bx}{A:AL}(O:B.C.Ok)(x:Str)(t u:Nat)(hx:x.length<=1000000):
 Bv B.C A (.call (.builtin "str.split") ⟨[.str x t,.str ⟨⟨[10]⟩⟩ u],[]⟩) [] (λq:R2 ((C2 10 x.cps.toList).map λy=>(⟨⟨y⟩⟩:Str))=>.ok (.ret (J q.a))) (λq=>[AE q.a (q.ks.map rv)]):=by
 have hk:decide (ES x<ES ⟨⟨[10]⟩⟩)=false:=by
  rw[decide_eq_false_iff_not];have h1:ES ⟨⟨[10]⟩⟩=1:=by decide+kernel
  rw[h1];unfold ES
  split
  ·decide
  ·split<;>decide
 by_cases h0:x.length<1
 ·have rN:x=⟨⟨[]⟩⟩:=by
   obtain⟨⟨l⟩⟩:=x
   have:l.length<1:=h0
   cases l with
   |nil=>rfl
   |cons a r=>simp at this
  subst rN;refine D9 H2 HX (G1 _ _) (meets_str_split_cannot_occur _ _ t u ADm) λR s S=>⟨rfl,⟨s.heap.objs.size-323,[(⟨⟨[]⟩⟩,t)],rfl⟩,?_,?_⟩
  ·show _=(.ok (.ret (.ref (s.heap.objs.size-323+323))):Result)
   rw[<-S.size_eq O]
  ·exact M7 O S [((⟨⟨[]⟩⟩:Str),t)] (Am _)
 ·have h1:(decide (x.length<(⟨⟨[10]⟩⟩:Str).length)||decide (ES x<ES ⟨⟨[10]⟩⟩))=false:=by
   rw[hk,Bool.or_false,decide_eq_false_iff_not];exact h0
  by_cases hf:(FT x ⟨⟨[10]⟩⟩ 0 x.length (x.length+1)).isEmpty=true
  ·have dJ:10∉x.cps.toList:=by
    rw[oA] at hf;exact T0 10 _ 0 (List.isEmpty_iff.mp hf)
   have P6:C2 10 x.cps.toList=[x.cps.toList]:=by
    have:=MS 10 x.cps.toList [] dJ
    rw[Aj] at this;rw[this];simp[C2]
   refine D9 H2 HX (G1 _ _) (meets_str_split_not_found x _ t u h1 ADm hf) λR s S=>⟨rfl,⟨s.heap.objs.size-323,[(x,t)],by rw[P6];rfl⟩,?_,?_⟩
   ·show _=(.ok (.ret (.ref (s.heap.objs.size-323+323))):Result)
    rw[<-S.size_eq O]
   ·exact M7 O S [(x,t)] (Am _)
  ·have rJ:(FT x ⟨⟨[10]⟩⟩ 0 x.length (x.length+1)).isEmpty=false:=by simpa using hf
   have hlen:(Kr x (FT x ⟨⟨[10]⟩⟩ 0 x.length (x.length+1)) (⟨⟨[10]⟩⟩:Str).length).length<=sizeLine:=by
    rw[length_partsBetween]
    have:=occ_length_le x ⟨⟨[10]⟩⟩ 0 x.length (x.length+1)
    rw[Br];lia
   refine D9 H2 HX (G1 _ _) (meets_str_split_sep x _ t u h1 ADm rJ (by rw[Br];lia) hlen) λR s S=>?_
   have hp:Kr x (FT x ⟨⟨[10]⟩⟩ 0 x.length (x.length+1)) (⟨⟨[10]⟩⟩:Str).length=(C2 10 x.cps.toList).map λy=>(⟨⟨y⟩⟩:Str):=r7 x 10;rw[hp];obtain⟨ks,e,h⟩:=QL ((C2 10 x.cps.toList).map λy=>(⟨⟨y⟩⟩:Str)) s.toks;rw[e];refine⟨rfl,⟨s.heap.objs.size-323,ks,h⟩,?_,?_⟩
   ·show _=(.ok (.ret (.ref (s.heap.objs.size-323+323))):Result)
    rw[<-S.size_eq O]
   ·exact M7 O S ks (Gd _ _)
theorem aK{rows:List Str}(CD:rows≠[])(dJ: ∀r∈rows,10∉r.cps.toList):((C2 10 (BB ⟨⟨[10]⟩⟩ rows).cps.toList).map λy=>(⟨⟨y⟩⟩:Str))=rows:=by
 rw[Vs 10 rows CD,Rr 10 _ (by simpa using CD) (λr hr=>by
  obtain⟨x,hx,rfl⟩:=List.mem_map.mp hr;exact dJ x hx),CK]
 conv=>rhs;rw[<-List.map_id rows]
 rfl
include O
def RW(U:AA 3 A)(rows:List Str)(t u:Nat)(CD:rows≠[])(dJ: ∀r∈rows,10∉r.cps.toList)(hx:(BB ⟨⟨[10]⟩⟩ rows).length<=1000000):Ag B.C A where
 c:=.call (.builtin "str.split") ⟨[.str (BB ⟨⟨[10]⟩⟩ rows) t,.str ⟨⟨[10]⟩⟩ u],[]⟩
 F:=[]
 X:=R2 rows
 res:=λq=>.ok (.ret (J q.a))
 led:=λq=>[AE q.a (q.ks.map rv)]
 ok:=AC.weaken (jd O (BB ⟨⟨[10]⟩⟩ rows) t u hx) λq=>⟨⟨q.a,q.ks,by rw[q.ok];exact aK CD dJ⟩,rfl,λR s S=>S⟩
end
def DI(cs:Ed):Ay:=cs.flatMap λc=>c.1.cps.toList++c.2.cps.toList
omit O
theorem J_(cur:Ed):(Fa cur).cps.toList=DI cur:=by
 unfold Fa;rw[MM,CK];unfold DI;rw[List.flatMap_def]
 congr 1
 refine CA λc _=>?_
 show(BB eS [c.1,c.2]).cps.toList=_
 rw[MM];simp
def Ab.out(a:Ab):List Str:=a.rows++[Fa a.cur]
def Ab.all(a:Ab):Ay:=(a.out.map λr=>r.cps.toList).flatten
theorem Ph(a:Ab):a.all=(a.rows.map λr=>r.cps.toList).flatten++DI a.cur:=by
 simp[Ab.all,Ab.out,J_]
theorem L8(a b:Ed):DI (a++b)=DI a++DI b:=by simp[DI]
theorem fM(m:Nat)(a:Ab)(c:Str×Str):(a.step m c).all=a.all++DI [c]:=by
 rw[Ph,Ph];unfold Ab.step
 split
 ·dsimp only;rw[L8,AG]
 ·split
  ·rename_i h
   dsimp only
   rw[h]
   split<;>simp[DI]
  ·rename_i h
   dsimp only
   simp[J_]
theorem N3(m:Nat): ∀(cs:Ed) (a:Ab),(cs.foldl (Ab.step m) a).all=a.all++DI cs
 |[],a=>by simp[DI]
 |c::r,a=>by
  rw[C0,N3 m r,fM,AG,<-L8];rfl
structure FL(c:Str×Str):Prop where
 fr: ∃fr,c.1=⟨⟨32::fr⟩⟩
 ws: ∀x∈c.1.cps.toList,x=32∨x=9
 ne:c.2.cps.toList≠[]
 az: ∀x∈c.2.cps.toList,97<=x/\x<=122
 s1:c.1.length<=100
 s2:c.2.length<=100
structure OJ(k:Nat)(a:Ab):Prop where
 n:a.n<=1000
 rows:a.rows.length<=k
 cur:a.cur.length<=k
 parts: ∀c∈a.cur,FL c
theorem OJ.bd{k:Nat}{a:Ab}(h:OJ k a):Bd k a:=⟨h.n,h.rows,h.cur,λc hc=>⟨AK (h.parts c hc).s1 ADm,AK (h.parts c hc).s2 ADm⟩⟩
theorem OJ.step{k m:Nat}{a:Ab}(h:OJ k a){c:Str×Str}(hc:FL c):OJ (k+1) (a.step m c):=by
 have one: ∀d∈[c],FL d:=λd hd=>by rw[List.mem_singleton.mp hd];exact hc
 have b:=h.bd.step (m:=m) (c:=c) ⟨AK hc.s1 ADm,AK hc.s2 ADm⟩
 refine⟨b.n,b.rows,b.cur,?_⟩;unfold Ab.step
 split
 ·intro d hd
  rcases List.mem_append.mp hd with hd|hd
  ·exact h.parts d hd
  ·exact one d hd
 ·split
  ·exact one
  ·exact one
theorem OJ.fold{m:Nat}: ∀(cs:Ed) {k:Nat} {a:Ab},OJ k a->(∀c∈cs,FL c)->OJ (k+cs.length) (cs.foldl (Ab.step m) a)
 |[],k,a,h,_=>h
 |c::r,k,a,h,hc=>by
  have:=OJ.fold (m:=m) r (h.step (m:=m) (hc c (.head _))) λd hd=>hc d (.tail _ hd)
  rw[C0,Ap,show k+(r.length+1)=k+1+r.length from by lia]
  exact this
theorem pM(m:Nat)(a:Ab)(c:Str×Str):(a.step m c).cur≠[]:=by
 unfold Ab.step
 split
 ·simp
 ·split<;>simp
theorem TQ(m:Nat): ∀(cs:Ed) (a:Ab),cs≠[]->(cs.foldl (Ab.step m) a).cur≠[]
 |[],_,h=>absurd rfl h
 |[c],a,_=>pM m a c
 |c::d::r,a,_=>by rw[C0];exact TQ m (d::r) _ ADn
theorem fT: ∀c,97<=c->c<=122->Cg c=false:=by
 have: ∀k:Fin 123,97<=k.val->Cg k.val=false:=by decide+kernel
 intro c h1 h2;exact this ⟨c,by lia⟩ h1
theorem iu{cs:Ed}{x:Nat}(h:x∈DI cs): ∃c∈cs,x∈c.1.cps.toList∨x∈c.2.cps.toList:=by
 obtain⟨c,hc,hx⟩:=List.mem_flatMap.mp h;exact⟨c,hc,List.mem_append.mp hx⟩
theorem sF{rows:List Str}{r:Str}(h:r∈rows):r.length<=((rows.map λr=>r.cps.toList).flatten).length:=by
 induction rows with
 |nil=>cases h
 |cons a t ih=>
  rw[Aw,QW,AX]
  rcases List.mem_cons.mp h with rfl|h
  ·exact Gd _ _
  ·exact AK (ih h) (Fv _ _)
theorem VP{cs:Ed}(h: ∀c∈cs,FL c):(DI cs).length<=cs.length*200:=by
 induction cs with
 |nil=>simp[DI]
 |cons c r ih=>
  have h1:=(h c (.head _)).s1;have h2:=(h c (.head _)).s2
  have:=ih λd hd=>h d (.tail _ hd)
  have e:DI (c::r)=c.1.cps.toList++c.2.cps.toList++DI r:=by simp[DI]
  rw[e,AX,AX,Ap];have e1:c.1.cps.toList.length=c.1.length:=rfl;have e2:c.2.cps.toList.length=c.2.length:=rfl
  lia
theorem FL.ok{f p:Str}(h:FL (f,p)):f.cps.all (· <0x110000)=true/\p.cps.all (· <0x110000)=true:=by
 constructor
 ·rw[FC]
  intro x hx
  have:=h.ws x (by simpa using hx)
  rw[decide_eq_true_eq];lia
 ·rw[FC]
  intro x hx
  have:=h.az x (by simpa using hx)
  rw[decide_eq_true_eq];lia
include O
def TJ(hS:B.Std)(U:AA 32 A)(x dx m u t3 t5 t4 l y dy t6 k:Nat)(h:FX)(hI:OJ k h.ab)(hk:k<=300)(CD:h.ab.cur≠[])(Fo:h.ab.all.length<=5000):Ag B.C A where
 c:=.call (.ref 64) ⟨[J x,.str ⟨⟨[10]⟩⟩ t6],[]⟩
 F:=[BO x dx,Bc dx m u t3 t5 t4 l y,BS y dy h.AH,A3 dy (.int (h.n:Int) h.t),Ai h.AH,AE l (h.rs.map rv)]
 X:=Nat
 res:=λk=>.ok (.ret (.str (BB ⟨⟨[10]⟩⟩ h.ab.out) k))
 led:=λYa=>[]
 ok:=by
  obtain⟨AH,n,t,rs⟩:=h;have tO:AH≠[]:=λe=>CD (by simp[FX.ab,e])
  obtain⟨l1,i,rfl⟩: ∃l i,AH=l++[i]:=⟨AH.dropLast,AH.getLast tO,(List.dropLast_concat_getLast tO).symm⟩;have zA:(FX.mk (l1++[i]) n t rs).ab.cur=l1.map It.ab++[It.ab i]:=by simp[FX.ab]
  have hw:FL (i.f,i.p):=hI.parts (It.ab i) (by rw[zA];simp)
  have hrl:rs.length<=300:=by have:=hI.rows;rw[show(FX.mk (l1++[i]) n t rs).ab.rows=rs.map (·.1) from rfl,AD] at this;lia
  have iO:(l1++[i]).length<=300:=by have:=hI.cur;rw[show(FX.mk (l1++[i]) n t rs).ab.cur=(l1++[i]).map It.ab from rfl,AD] at this;lia
  have eW: ∀j∈l1++[i],FL (j.f,j.p):=λj hj=>hI.parts (It.ab j) (CB hj);have me:CY (l1++[i]):=⟨by lia,λj hj=>⟨AK (eW j hj).s1 ADm,AK (eW j hj).s2 ADm⟩⟩
  have yy:(Bq (l1++[i])).cps.toList=DI (l1.map It.ab)++(i.f.cps.toList++i.p.cps.toList):=by
   rw[<-M6,J_,AZ,L8];simp[DI,It.ab]
  obtain⟨a,r,vC⟩: ∃a r,i.p.cps.toList=a::r:=by
   cases e:i.p.cps.toList with
   |nil=>exact absurd e hw.ne
   |cons a r=>exact⟨a,r,rfl⟩
  have hz:0<CN (l1++[i]):=by
   have e:i.p.length=i.p.cps.toList.length:=rfl;simp only[CN,AZ,Aw,EC,G7,Ea,QZ,It.len];rw[e,vC,Ap];lia
  have P6:(Bq (l1++[i])).cps.all Cg=false:=by
   have ha:=hw.az a (by show a∈i.p.cps.toList;rw[vC];exact .head _)
   rw[<-Bool.not_eq_true,FC];intro Fo
   have:=Fo a (by rw[<-Array.mem_toList_iff,yy,vC];simp)
   rw[fT a ha.1 ha.2] at this;cases this
  have Mm:(FX.mk (l1++[i]) n t rs).ab.out=rs.map (·.1)++[Bq (l1++[i])]:=by
   show rs.map (·.1)++[Fa ((l1++[i]).map It.ab)]=_;rw[M6]
  have Om:JE (rs.map (·.1)++[Bq (l1++[i])]):=by
   rw[<-Mm];refine⟨by rw[Mm];simp;lia,λr hr=>AK (sF hr) Fo⟩
  rw[Mm]
  exact(gt O hS U x dx m u t3 t5 t4 l y dy n t l1 i rs t6 me hI.n hw.ne hw.ok hz ADj P6 Om).ok
def H7(n:Nat):Ab:=⟨[],[],n⟩
def bY(hS:B.Std)(U:AA 88 A)(a b d x dx m u t3 t5 t4 l y dy t:Nat)(f s:Str)(t0 t1:Nat)(words:List Wd)(hf:f.length≠0)(hs:s.length≠0)(SH:(f++s).length<=100000)(hw:(f++s).cps.toList=Et words)(IQ: ∀w∈words,Wd.ok w)
 (CD:words≠[]) (hc: ∀d∈words.map Gi,Ck d) (hk:words.length<=300):Ag B.C A where
 c:=.call (.ref 92) ⟨[J x,.str f t0,.str s t1,J a],[]⟩
 F:=[Xj a b d,Xi d,BO x dx,Bc dx m u t3 t5 t4 l y,AY y dy [],A3 dy (.int 0 t),AE l []]
 X:=OI m (H7 0) (words.map Gi)
 res:=λYa=>.ok (.ret .none)
 led:=λq=>[BO x dx,Bc dx m u t3 t5 t4 l y,BS y dy q.g.AH,A3 dy (.int (q.g.n:Int) q.g.t),Ai q.g.AH,AE l (q.g.rs.map rv)]
 ok:=AC.pre (gJ O hS U a b d x dx m u t3 t5 t4 l y dy 0 f s t0 t1 ⟨[],0,t,[]⟩ words hf hs SH hw IQ CD hc ⟨By _,Am _,Am _,λYa h=>nomatch h⟩ ADj).ok λR s S=>S.BV (EH _)
omit O
theorem aH(x:Str)(t n u:Nat)(h0:0<n)(hn:n<=x.length):sliceMade x t (some ((n:Int),u)) none none=.str ⟨⟨x.cps.toList.drop n⟩⟩:=by
 have e:Ry x (some ((n:Int),u)) none none=(Ah (x.length-n)).map (λk=>n+k):=by
  unfold Ry;show JN (some (n:Int)) none 1 x.length=_;rw[Ku,StrLaws.strSliceIndices_plain hn (Am _)]
 unfold sliceMade;rw[if_neg (by rw[e];simp;lia)]
 congr 2
 have:=StrLaws.sliced_plain x hn (Am _)
 unfold Ry
 show((JN (some (n:Int)) none 1 x.length).filterMap (x.cps[·]?)).toArray=_
 rw[Ku,this,EX (by rw[A6];exact Am _)]
def cC{B:Bx}{A:AL}(O:B.C.Ok)(U:AA 3 A)(x:Str)(t n u sl:Nat)(h0:0<n)(hn:n<=x.length)(hx:x.length<=1000000):Ag B.C A where
 c:=.call (.builtin "str.__getitem__") ⟨[.str x t,J sl],[]⟩
 F:=[F8 sl (.int (n:Int) u) .none]
 X:=Nat
 res:=λk=>.ok (.ret (.str ⟨⟨x.cps.toList.drop n⟩⟩ k))
 led:=λYa=>[F8 sl (.int (n:Int) u) .none]
 ok:=D9 Kt J9 (J1 _ _) (meets_str_getitem_slice x t (sl+323) (some ((n:Int),u)) none none rfl) λR s S=>by
  refine⟨rfl,⟨_,DV S,rfl,rfl⟩,?_⟩;rw[aH x t n u h0 hn];exact⟨by show(x.cps.toList.drop n).length<=_;rw[Br,A6];have:x.cps.toList.length=x.length:=rfl;lia,s.toks,rfl,S.toks _ (Eb _)⟩
theorem eN(B:Bx):A4 B.P 258=[sN 19 0,sN 19 1,.Expr (vE (sN 19 2)) (pS 222 4 67),.Return (some (vE (sN 19 3))) (pS 223 4 39)]:=by kernel_rfl
include O
def cK(U:AA 22 A)(c:Nat)(cks:List It)(tx:Str)(vH:BB eS (cks.map It.cat)=tx)(CD:cks≠[])(FV: ∀i∈cks,It.MG i)(hlen:cks.length<=900)(Om:JE (cks.map It.cat)):Ag B.C A:=
 (Vf O U c cks CD FV hlen Om).re (λk:Nat=>.ok (.ret (.str tx k))) (λYa=>[AE c (cks.map It.v),Ai cks]) (λk=>k) (λk=>by subst vH;rfl) (λYa=>rfl)
def Y5(U:AA 3 A)(x r:Str)(t n u sl:Nat)(hr:(⟨⟨x.cps.toList.drop n⟩⟩:Str)=r)(h0:0<n)(hn:n<=x.length)(hx:x.length<=1000000):Ag B.C A:=
 (cC O U x t n u sl h0 hn hx).re (λk:Nat=>.ok (.ret (.str r k))) (λYa=>[F8 sl (.int (n:Int) u) .none]) (λk=>k) (λk=>by subst hr;rfl) (λYa=>rfl)
theorem uH(U:AA 120 A)(L m u c o:Nat)(xs:Ak)(f p:Str)(tf tp:Nat)(hx:xs[0]? =some (J o))(hl:xs.length<=1000):
 AC B.C A (Ac ((A4 B.P 258).take 2) (AR B.P 258 [] (L+323))) [AI L [(DK,J c),(ER,.int (m:Int) u)],AE c xs,AV o [.str f tf,.str p tp]]
  (λq:((Nat×Nat)×Nat×Nat×Nat×Nat)×Nat×Nat×Nat=>Dg)
  (λq=>[AI L [(DK,J c),(ER,.int (m:Int) u),(Jr,J q.1.1.1),(DC,.str f tf)],AE c xs,AV o [.str f tf,.str p tp],BO q.1.1.1 q.1.1.2,Bc q.1.1.2 m u q.2.2.1 q.1.2.1 q.2.2.2 q.1.2.2.1 q.1.2.2.2.1,AY q.1.2.2.2.1 q.1.2.2.2.2 [],A3 q.1.2.2.2.2 (.int 0 q.2.1),AE q.1.2.2.1 []]):=
 D7 O U (.g 64<|.fr λk0=>.g 65<|.fr λk1=>.fr λk2=>.g 4096<|.cc (TC O U.l 0 k0 m u k1 k2) [] λy3=>.fr λk4=>.g 289094<|.fr λk5=>.g 291271<|.cc (BZ O U.l c 0 k5 xs (J o) hx hl) [6] λYa=>.fr λk7=>.g 295432<|.cc (PB O U.l o k7 (.str f tf) (.str p tp)) [7] λYa=>.cc (Dp O U.l) [] λYa=>.fr λH9=>.g 6600<|.fi (y3,k0,k1,k2) (7::1::BW 6))
theorem yh(U:AA 120 A)(L m u c x dx t3 t5 t4 l y dy t:Nat)(cks:List It)(f tx rx:Str)(tf:Nat)(words:List Wd)(hS:B.Std)(vH:BB eS (cks.map It.cat)=tx)(hrx:(⟨⟨tx.cps.toList.drop f.length⟩⟩:Str)=rx)(CD:cks≠[])(FV: ∀i∈cks,It.MG i)(hlen:cks.length<=900)(Om:JE (cks.map It.cat))(h0:0<f.length)(hn:f.length<=tx.length)(hx:tx.length<=1000000)(dF:f.length<=1000000)(hf:f.length≠0)(hs:rx.length≠0)(SH:(f++rx).length<=100000)(hw:(f++rx).cps.toList=Et words)(IQ: ∀w∈words,Wd.ok w)(hnw:words≠[])(hc: ∀d∈words.map Gi,Ck d)(hk:words.length<=300):
 AC B.C A (Ac (((A4 B.P 258).drop 2).take 1) (AR B.P 258 [] (L+323))) [AI L [(DK,J c),(ER,.int (m:Int) u),(Jr,J x),(DC,.str f tf)],AE c (cks.map It.v),Ai cks,BO x dx,Bc dx m u t3 t5 t4 l y,AY y dy [],A3 dy (.int 0 t),AE l []]
  (λq:OI m (H7 0) (words.map Gi)=>.next)
  (λq=>[AI L [(DK,J c),(ER,.int (m:Int) u),(Jr,J x),(DC,.str f tf)],BO x dx,Bc dx m u t3 t5 t4 l y,BS y dy q.g.AH,A3 dy (.int (q.g.n:Int) q.g.t),Ai q.g.AH,AE l (q.g.rs.map rv),AE c (cks.map It.v),Ai cks]):=Ix O U (.g 1329552599833808262849223049854583041<|.cc (cK O U.l c cks tx vH CD FV hlen Om) [1,1] λy0=>.g 274432<|.cc (JQ O U.l f tf dF) [] λ(y1:Nat×Nat)=>.al λa2=>.cc (Y5 O U.l tx rx y0 f.length y1.snd a2 hrx h0 hn hx) [0] λy3=>.g 4096<|.cc (b6 O U.l) [] λ(y4:Nat×Nat×Nat)=>.g 64<|.cc (bY O hS U.l y4.fst y4.snd.fst y4.snd.snd x dx m u t3 t5 t4 l y dy t f rx tf y3 words hf hs SH hw IQ hnw hc hk) [0,0,4,4,4,4,4] λy5=>.fi (y5) [9,0,0,0,0,0,0,1,1])
theorem yi(U:AA 120 A)(L m u c x dx t3 t5 t4 l y dy tf k:Nat)(h:FX)(f:Str)(hS:B.Std)(hI:OJ k h.ab)(hk:k<=300)(CD:h.ab.cur≠[])(Fo:h.ab.all.length<=5000)(hn1:h.ab.out≠[])(dJ: ∀r∈h.ab.out,10∉r.cps.toList)(hx:(BB ⟨⟨[10]⟩⟩ h.ab.out).length<=1000000):
 AC B.C A (Ac ((A4 B.P 258).drop 3) (AR B.P 258 [] (L+323))) [AI L [(DK,J c),(ER,.int (m:Int) u),(Jr,J x),(DC,.str f tf)],BO x dx,Bc dx m u t3 t5 t4 l y,BS y dy h.AH,A3 dy (.int (h.n:Int) h.t),Ai h.AH,AE l (h.rs.map rv)]
  (λq:R2 h.ab.out=>.ret (J q.a))
  (λq=>[AE q.a (q.ks.map rv)]):=Ix O U (.g 82980668258384175350998368385<|.fr λk0=>.g 64<|.cc (TJ O hS U.l x dx m u t3 t5 t4 l y dy k0 k h hI hk CD Fo) [1,1,1,1,1,1] λy1=>.fr λk2=>.cc (RW O U.l h.ab.out y1 k2 hn1 dJ hx) [] λy3=>.fi (y3) [0])
def UK(i:It):Wd:=(i.f.cps.toList,i.p.cps.toList)
omit O
theorem So(cks:List It):(cks.map UK).map Gi=cks.map It.ab:=by
 rw[CK];rfl
def Hk(m:Nat)(cs:Ed):List Str:=(cs.foldl (Ab.step m) (H7 0)).out
theorem FL.wd{i:It}(h:FL (i.f,i.p)):Wd.ok (UK i):=by
 obtain⟨fr,Hl⟩:=h.fr;refine⟨by show i.f.cps.toList≠[];rw[show i.f=⟨⟨32::fr⟩⟩ from Hl];simp,λc hc=>?_,h.ne,λc hc=>?_⟩
 ·rcases h.ws c hc with rfl|rfl<;>rfl
 ·have:=h.az c hc
  simp only[Mine.ws,Iz,beq_eq_false_iff_ne]
  lia
theorem FL.MG{i:It}(h:FL (i.f,i.p)):It.MG i:=by
 obtain⟨fr,Hl⟩:=h.fr;refine⟨by rw[show i.f=⟨⟨32::fr⟩⟩ from Hl];exact Nat.succ_ne_zero _,λe=>h.ne ?_,AK h.s1 ADm,AK h.s2 ADm⟩
 have:i.p.cps.toList.length=0:=e
 exact List.length_eq_zero_iff.mp this
theorem FL.ck{c:Str×Str}(h:FL c):Ck c:=⟨h.fr,AK h.s1 ADm,AK h.s2 ADm⟩
theorem Sk(cks:List It):(BB eS (cks.map It.cat)).cps.toList=DI (cks.map It.ab):=by
 rw[MM,CK,DI,List.flatMap_def,CK]
 congr 1
 refine CA λi _=>?_
 show(i.f.cps++i.p.cps).toList=_
 simp[It.ab]
theorem cw(cks:List It):Et (cks.map UK)=DI (cks.map It.ab):=by
 simp only[Et,DI,List.flatMap_map];rfl
theorem j3(n:Nat)(h:n<=1000):OJ 0 (H7 n):=⟨h,Am _,Am _,λYa h=>nomatch h⟩
theorem Tw{k:Nat}{cs:Ed}{a:Ab}(h:a.all=DI cs)(hc: ∀c∈cs,FL c): ∀r∈a.out,10∉r.cps.toList:=by
 intro r hr hx
 have:10∈a.all:=List.mem_flatten.mpr ⟨r.cps.toList,CB hr,hx⟩
 rw[h] at this;obtain⟨c,y_,hx⟩:=iu this
 rcases hx with hx|hx
 ·have:=(hc c y_).ws 10 hx;lia
 ·have:=(hc c y_).az 10 hx;lia
theorem Th(c:Nat): ∀rows:List Ay,(IR c rows).length<=rows.flatten.length+rows.length
 |[]=>by simp[IR]
 |[a]=>by simp[IR]
 |a::b::r=>by
  have:=Th c (b::r)
  simp only[IR,AX,Ap,QW] at this⊢
  lia
theorem QA{rows:List Str}(h:rows≠[]){n k:Nat}(h1:((rows.map λr=>r.cps.toList).flatten).length<=n)(h2:rows.length<=k):(BB ⟨⟨[10]⟩⟩ rows).length<=n+k:=by
 have e:=Vs 10 rows h
 have:(BB ⟨⟨[10]⟩⟩ rows).length=(IR 10 (rows.map λr=>r.cps.toList)).length:=by rw[<-e];rfl
 rw[this]
 have:=Th 10 (rows.map λr=>r.cps.toList)
 rw[AD] at this
 lia
theorem SV(a:Ab):a.out≠[]:=by simp[Ab.out]
theorem fI{M:Model}{Γ:Ctx}{env:Env}{l2:Dx}{Q:OU->Pos->Af->Prop}{E:Value->Pos->Af->Prop}: ∀(l1:Dx) {p:Pos} {s:Af},
 Sem.wp M Γ (Ac l1 env) (λf p' s'=>match f with|.next=>Sem.wp M Γ (Ac l2 env) Q E p' s'|f=>Q f p' s') E p s->Sem.wp M Γ (Ac (l1++l2) env) Q E p s
 |[],p,s,h=>h
 |st::r,p,s,h=>by
  rw[Pd,Mf] at h;rw[A5,Pd,Mf];refine Ny M Γ _ (λf p' s' h'=>?_) (λYa Ya Ya h'=>h') _ _ h;cases f with
  |next=>exact fI r h'
  |_=>exact h'
theorem Se{M:Model}{A:AL}{E:Value->Af->Prop}{env:Env}{l2:Dx}{Q:OU->Af->Prop}(l1:Dx){s:Af}
 (h:BN M A (Ac l1 env) (λf s'=>match f with|.next=>BN M A (Ac l2 env) Q E s'|f=>Q f s') E s):BN M A (Ac (l1++l2) env) Q E s:=λΓ p hΓ=>by
 refine fI l1 (Ny M Γ _ (λf p' s' h'=>?_) (λYa Ya Ya h'=>h') _ _ (h Γ p hΓ));cases f with
 |next=>exact h' Γ p' hΓ
 |_=>exact h'
theorem AC.seq{C:Cx}{A:AL}{L:AN}{l1 l2:Dx}{env:Env}{X Y:Type}{led1:X->AN}{fl:Y->OU}{led2:Y->AN}
 (h1:AC C A (Ac l1 env) L (λYa:X=>.next) led1) (h2: ∀x,AC C A (Ac l2 env) (led1 x) fl led2):AC C A (Ac (l1++l2) env) L fl led2:=λR s S=>
 Se l1 (Av (h1 R s S) (λf s₁ ⟨x,e,S₁⟩=>by subst e;exact h2 x R s₁ S₁) λYa Ya q=>q)
theorem fZ{B:Bx}(O:B.C.Ok)(hS:B.Std){A:AL}(U:AA 120 A)(L c m u:Nat)(cks:List It)(CD:cks≠[])(hW: ∀i∈cks,FL (i.f,i.p))(hlen:cks.length<=20):
 AC B.C A (Ac (A4 B.P 258) (AR B.P 258 [] (L+323))) [AI L [(DK,J c),(ER,.int (m:Int) u)],AE c (cks.map It.v),Ai cks]
  (λq:R2 (Hk m (cks.map It.ab))=>B6 (J q.a)) (λq=>[AE q.a (q.ks.map rv),AE c (cks.map It.v),Ai cks]):=by
 obtain⟨i0,ir,rfl⟩: ∃i l,cks=i::l:=by cases cks with|nil=>exact absurd rfl CD|cons i l=>exact⟨i,l,rfl⟩
 have hW0:=hW i0 (.head _);have Rd: ∀d∈(i0::ir).map It.ab,FL d:=λd hd=>by obtain⟨i,hi,rfl⟩:=List.mem_map.mp hd;exact hW i hi
 have hcl:(DI ((i0::ir).map It.ab)).length<=4000:=by
  have:=VP Rd
  rw[AD] at this
  lia
 have FV: ∀i∈i0::ir,It.MG i:=λi hi=>(hW i hi).MG;obtain⟨f1,f2,f3,f4⟩:=FV i0 (.head _);have vG:(BB eS ((i0::ir).map It.cat)).cps.toList=DI ((i0::ir).map It.ab):=Sk _;have dC:DI ((i0::ir).map It.ab)=i0.f.cps.toList++(i0.p.cps.toList++DI (ir.map It.ab)):=by simp[DI,It.ab]
 have mM:(BB eS ((i0::ir).map It.cat)).cps.toList.drop i0.f.length=i0.p.cps.toList++DI (ir.map It.ab):=by
  rw[vG,dC];exact Jw
 have Om:JE ((i0::ir).map It.cat):=by
  refine⟨by rw[AD];lia,λx hx=>?_⟩
  obtain⟨i,hi,rfl⟩:=List.mem_map.mp hx;have h1:=(hW i hi).s1;have h2:=(hW i hi).s2
  show(i.f.cps++i.p.cps).size<=5000
  rw[Hv];have e1:i.f.length=i.f.cps.size:=rfl;have e2:i.p.length=i.p.cps.size:=rfl
  dsimp only at h1 h2
  lia
 have e1:=uH O U L m u c i0.a ((i0::ir).map It.v) i0.f i0.p i0.tf i0.tp rfl (by rw[AD];lia)
 have hp0:i0.p.cps.toList.length=i0.p.length:=rfl;have hf0:i0.f.cps.toList.length=i0.f.length:=rfl;have ABg:(BB eS ((i0::ir).map It.cat)).length=(DI ((i0::ir).map It.ab)).length:=by rw[<-vG];rfl
 have ACS:(DI ((i0::ir).map It.ab)).length=i0.f.length+(i0.p.length+(DI (ir.map It.ab)).length):=by
  rw[dC,AX,AX];rfl
 have zY:((⟨⟨(BB eS ((i0::ir).map It.cat)).cps.toList.drop i0.f.length⟩⟩:Str)).length=i0.p.length+(DI (ir.map It.ab)).length:=by
  show((BB eS ((i0::ir).map It.cat)).cps.toList.drop i0.f.length).length=_
  rw[mM,AX];rfl
 have tC:(i0.f++(⟨⟨(BB eS ((i0::ir).map It.cat)).cps.toList.drop i0.f.length⟩⟩:Str)).cps.toList=DI ((i0::ir).map It.ab):=by
  show(i0.f.cps++(⟨(BB eS ((i0::ir).map It.cat)).cps.toList.drop i0.f.length⟩:Array Nat)).toList=_
  rw[Array.toList_append,mM,dC]
 have ABL:(i0.f++(⟨⟨(BB eS ((i0::ir).map It.cat)).cps.toList.drop i0.f.length⟩⟩:Str)).length=(DI ((i0::ir).map It.ab)).length:=by rw[<-tC];rfl
 have e3:=λ(x dx t3 t5 t4 l y dy t:Nat)=>yh O U L m u c x dx t3 t5 t4 l y dy t (i0::ir) i0.f _ _ i0.tf ((i0::ir).map UK) hS rfl rfl CD FV ADj Om ADj ADj ADj ADj f1 (by rw[zY];lia) ADj (by rw[tC,cw])
  (λw hw=>by obtain⟨i,hi,rfl⟩:=List.mem_map.mp hw;exact(hW i hi).wd) ADn (λd hd=>by rw[So] at hd;exact(Rd d hd).ck) (by rw[AD];lia)
 have hinv:=λq:OI m (H7 0) (((i0::ir).map UK).map Gi)=>(j3 0 (By _)).fold (m:=m) _ Rd;have e4:=λ(q:OI m (H7 0) (((i0::ir).map UK).map Gi)) (x dx t3 t5 t4 l y dy:Nat)=>by
  have hq:q.g.ab=((i0::ir).map It.ab).foldl (Ab.step m) (H7 0):=by rw[q.ok,So]
  have hi:=hinv q;rw[<-hq] at hi;have Fo:q.g.ab.all=DI ((i0::ir).map It.ab):=by rw[hq,N3];simp[H7,Ph,DI]
  have dK:q.g.ab.out.length<=100:=by
   have:=hi.rows
   rw[AD] at this;unfold Ab.out;rw[AX,CF];lia
  exact yi O U L m u c x dx t3 t5 t4 l y dy i0.tf _ q.g i0.f hS hi (by rw[AD];lia) (by rw[hq];exact TQ m _ _ ADn) (by rw[Fo];lia) (SV _) (Tw (k:=0) Fo Rd)
   (AK (QA (SV q.g.ab) (n:=5000) (k:=100) (by show q.g.ab.all.length<=_;rw[Fo];lia) dK) ADm)
 rw[eN] at e1 e3 e4;rw[eN];refine AC.pre (F:=[AI L [(DK,J c),(ER,.int (m:Int) u)],AE c ((i0::ir).map It.v),AV i0.a [.str i0.f i0.tf,.str i0.p i0.tp]]++[Ai ir]) ?_ λR s S=>?_
 ·refine AC.seq (l1:=[_,_]) (e1.frame [Ai ir]) λq=>?_
  refine AC.step (led1:=λr:OI m (H7 0) (((i0::ir).map UK).map Gi)=>[AI L [(DK,J c),(ER,.int (m:Int) u),(Jr,J q.1.1.1),(DC,.str i0.f i0.tf)],BO q.1.1.1 q.1.1.2,Bc q.1.1.2 m u q.2.2.1 q.1.2.1 q.2.2.2 q.1.2.2.1 q.1.2.2.2.1,BS q.1.2.2.2.1 q.1.2.2.2.2 r.g.AH,A3 q.1.2.2.2.2 (.int (r.g.n:Int) r.g.t),Ai r.g.AH,AE q.1.2.2.1 (r.g.rs.map rv),AE c ((i0::ir).map It.v),Ai (i0::ir)])
   (AC.pre (e3 q.1.1.1 q.1.1.2 q.2.2.1 q.1.2.1 q.2.2.2 q.1.2.2.1 q.1.2.2.2.1 q.1.2.2.2.2 q.2.1) λR s S=>?_) λr=>?_
  ·have S1:=St.picked (L:=[_,_,_,_,_,_,_,_,_]) (ix:=(2::7::BW 7)) S rfl
   have S2:=St.Vr (l1:=[]) S1;exact St.picked (L:=[_,_,_,_,_,_,_,_]) (ix:=(1::1::BW 6)) S2 rfl
  ·refine((e4 r q.1.1.1 q.1.1.2 q.2.2.1 q.1.2.1 q.2.2.2 q.1.2.2.1 q.1.2.2.2.1 q.1.2.2.2.2).frame [AE c ((i0::ir).map It.v),Ai (i0::ir)]).weaken λz=>⟨⟨z.a,z.ks,?_⟩,rfl,λR s S=>S⟩
   rw[z.ok,r.ok,So];rfl
 ·have S1:=St.picked (L:=[_,_,_]) (ix:=[2,0,0]) S rfl
  exact St.picked (L:=[_,_,_,_]) (ix:=[2,2,0,0]) (St.Q1 (l1:=[]) S1) rfl
include O
def ko(hS:B.Std)(U:AA 122 A)(c m u:Nat)(cks:List It)(CD:cks≠[])(hW: ∀i∈cks,FL (i.f,i.p))(hlen:cks.length<=20):Ag B.C A where
 c:=.call (.ref 258) ⟨[J c,.int (m:Int) u],[]⟩
 F:=[AE c (cks.map It.v),Ai cks]
 X:=R2 (Hk m (cks.map It.ab))
 res:=λq=>.ok (.ret (J q.a))
 led:=λq=>[AE q.a (q.ks.map rv),AE c (cks.map It.v),Ai cks]
 ok:=EU O U [(DK,J c),(ER,.int (m:Int) u)]
  (λL=>BK (fl:=λq:R2 (Hk m (cks.map It.ab))=>.ret (J q.a)) (fZ O hS (AA.deeper U.l) L c m u cks CD hW hlen))
omit O
theorem eL(B:Bx):A4 B.P 220=[sN 11 0,.If (vE (sN 11 1)) (nB (sN 11 1)) (nO (sN 11 1)) ⟨165,4,171,23⟩,.For (tE (sN 11 2)) (vE (sN 11 2)) (nB (sN 11 2)) [] ⟨172,4,173,40⟩,.Return (some (vE (sN 11 3))) (pS 174 4 16)]:=by kernel_rfl
def LG:Expr:=nM EN 172 8 15
def LF:Dx:=nB (sN 11 2)
include O
theorem xR(U:AA 20 A)(L x k i d:Nat)(xs:Ak):
 AC B.C A (Ac ((A4 B.P 220).take 2) (AR B.P 220 [] (L+323))) [AI L [(Bg,.ref k),(Bh,J x),(Bz,J i)],AE x xs,BO i d]
  (λa:Nat=>.next)
  (λa=>[AI L [(Bg,.ref k),(Bh,J x),(Bz,J i),(Hq,J a),(Ds,J i)],BQ a x 0,AE x xs,BO i d]):=Ix O U (.g 266240<|.cc (O9 O U.l x xs) [1] λy0=>.fr λk1=>.g 4604272064643<|.fr λk2=>.g 6275<|.fi (y0) [2,0,0,0])
theorem oY(U:AA 20 A)(L x k i:Nat)(xs ys:Ak):
 AC B.C A (Ac ((A4 B.P 220).take 2) (AR B.P 220 [] (L+323))) [AI L [(Bg,.ref k),(Bh,J x),(Bz,J i)],AE x xs,AE i ys]
  (λa:Nat=>.next)
  (λa=>[AI L [(Bg,.ref k),(Bh,J x),(Bz,J i),(Hq,J a),(Ds,J i)],BQ a x 0,AE x xs,AE i ys]):=Ix O U (.g 266240<|.cc (O9 O U.l x xs) [1] λy0=>.fr λk1=>.g 4604272064643<|.fr λk2=>.g 6275<|.fi (y0) [2,0,0,0])
theorem jN(U:AA 20 A)(L:Nat)(fv sv iv it v:Value)(e:Addr):
 AS B A (Bo LG (AR B.P 220 [] (L+323)) (.ref e)) [AI L [(Bg,fv),(Bh,sv),(Bz,iv),(Hq,it),(Ds,v)]] () [AI L [(Bg,fv),(Bh,sv),(Bz,iv),(Hq,it),(Ds,v),(EN,.ref e)]]:=
 Ef O U (.fr λk0=>.g 6145<|.fi () [0])
theorem jP(U:AA 20 A)(L:Nat)(fv sv iv it v e':Value)(e:Addr):
 AS B A (Bo LG (AR B.P 220 [] (L+323)) (.ref e)) [AI L [(Bg,fv),(Bh,sv),(Bz,iv),(Hq,it),(Ds,v),(EN,e')]] () [AI L [(Bg,fv),(Bh,sv),(Bz,iv),(Hq,it),(Ds,v),(EN,.ref e)]]:=
 Ef O U (.fr λk0=>.g 6145<|.fi () [0])
theorem jO(U:AA 20 A)(L:Nat)(fv sv iv it v:Value)(e:Str)(te:Nat):
 AS B A (Bo LG (AR B.P 220 [] (L+323)) (.str e te)) [AI L [(Bg,fv),(Bh,sv),(Bz,iv),(Hq,it),(Ds,v)]] () [AI L [(Bg,fv),(Bh,sv),(Bz,iv),(Hq,it),(Ds,v),(EN,.str e te)]]:=
 Ef O U (.fr λk0=>.g 6145<|.fi () [0])
theorem jQ(U:AA 20 A)(L:Nat)(fv sv iv it v e':Value)(e:Str)(te:Nat):
 AS B A (Bo LG (AR B.P 220 [] (L+323)) (.str e te)) [AI L [(Bg,fv),(Bh,sv),(Bz,iv),(Hq,it),(Ds,v),(EN,e')]] () [AI L [(Bg,fv),(Bh,sv),(Bz,iv),(Hq,it),(Ds,v),(EN,.str e te)]]:=
 Ef O U (.fr λk0=>.g 6145<|.fi () [0])
theorem sD(U:AA 20 A)(L:Nat)(fv sv iv it v e:Value):
 AS B A (Ac ((A4 B.P 220).drop 3) (AR B.P 220 [] (L+323))) [AI L [(Bg,fv),(Bh,sv),(Bz,iv),(Hq,it),(Ds,v),(EN,e)]] (.ret v) []:=
 D7 O U (.g 65<|.fi () [])
theorem od(U:AA 20 A)(L a x i:Nat)(fv sv iv v:Value):
 AS B A (Bf (vE (sN 11 2)) (AR B.P 220 [] (L+323))) [AI L [(Bg,fv),(Bh,sv),(Bz,iv),(Hq,J a),(Ds,v)]] (J a) [AI L [(Bg,fv),(Bh,sv),(Bz,iv),(Hq,J a),(Ds,v)]]:=Jj O U (.g 65<|.fi () [0])
omit O
section
variable{C:Cx}{A:AL}{F:AN}
theorem AC.runOwn{c:Code}{env:Env}{X:Type}{fl:X->OU}{led:X->AN}(h:Bv C A c F (λx=>.ok (fl x)) led):AC C A (PySem.runOwn c env) F fl led:=λR s S=>by
 refine DT (Av ?_ (λYa Ya q=>q) (λYa Ya (q:False)=>q.elim));intro Γ p hΓ;have q:=h R s S Γ p hΓ;unfold Ql at q;rw[HY] at q;unfold PySem.run;rw[HY];refine I5 (λr s' hr=>?_) q;obtain⟨x,e,S'⟩: ∃x,r=_/\_:=hr;subst e;exact⟨x,rfl,S'⟩
theorem AC.yj{Dy iter:Expr}{body orelse:Dx}{pos:Pos}{env:Env}{X Y Z:Type}{v:X->Value}{it:X->Y->Value}{L1:X->AN}{L2:X->Y->AN}{fl:Z->OU}{led:Z->AN}
 (hs: ∀x,foldedSetIterable iter env x=pure x) (h1:AC C A (Bf iter env) F v L1) (h2: ∀x,AC C A (Mh (v x)) (L1 x) (it x) (L2 x)) (h3: ∀x y,Bv C A (.forLoop Dy (it x y) body orelse env) (L2 x y) (λz=>.ok (fl z)) led):
 AC C A (Qe (.For Dy iter body orelse pos) env) F fl led:=λR s S=>by
 rw[exec_For];refine AB (m:=Ke _) (DU ?_);refine AB (AC.wp h1 S λx s₁ S₁=>?_);rw[hs];refine AB (AP ?_);refine AB (m:=Ke _) (DU ?_);refine AB (Kv (AC.wp (h2 x) S₁ λy s₂ S₂=>?_));exact AC.runOwn (h3 x y) R s₂ S₂
end
theorem St.pk{C:Cx}{s:Af}{P Q G R r:AN}(S:St C ((P++G)++R) s){ix:Ay}(e:Fq ix P=some (Q,r)):St C ((Q++G)++R) s:=by
 rw[AG] at S⊢;exact S.picked e
theorem AC.pk{C:Cx}{A:AL}{α:Type}{t:Sem α}{P Q G r:AN}{X:Type}{res:X->α}{led:X->AN}(h:AC C A t (Q++G) res led)(ix:Ay)(e:Fq ix P=some (Q,r)):AC C A t (P++G) res led:=h.pre λR s S=>S.pk e
abbrev Gw(k x i a:Nat)(v e:Value):BC:=[(Bg,.ref k),(Bh,J x),(Bz,J i),(Hq,J a),(Ds,v),(EN,e)]
abbrev Nd(k x i a:Nat)(v:Value):BC:=[(Bg,.ref k),(Bh,J x),(Bz,J i),(Hq,J a),(Ds,v)]
section
variable{B:Bx}
def L5(v:Value):Prop:=(∃a,v=.ref a)∨ ∃x t,v=.str x t
theorem oZ(O:B.C.Ok){A:AL}(U:AA 20 A)(L:Nat)(fv sv iv it v e:Value)(he:L5 e):AC B.C A (Bo LG (AR B.P 220 [] (L+323)) e) [AI L [(Bg,fv),(Bh,sv),(Bz,iv),(Hq,it),(Ds,v)]] (λYa:Unit=>())
 (λYa=>[AI L [(Bg,fv),(Bh,sv),(Bz,iv),(Hq,it),(Ds,v),(EN,e)]]):=by
 rcases he with⟨a,rfl⟩|⟨x,t,rfl⟩
 ·exact jN O U L fv sv iv it v a
 ·exact jO O U L fv sv iv it v x t
theorem oa(O:B.C.Ok){A:AL}(U:AA 20 A)(L:Nat)(fv sv iv it v e' e:Value)(he:L5 e):AC B.C A (Bo LG (AR B.P 220 [] (L+323)) e) [AI L [(Bg,fv),(Bh,sv),(Bz,iv),(Hq,it),(Ds,v),(EN,e')]] (λYa:Unit=>())
 (λYa=>[AI L [(Bg,fv),(Bh,sv),(Bz,iv),(Hq,it),(Ds,v),(EN,e)]]):=by
 rcases he with⟨a,rfl⟩|⟨x,t,rfl⟩
 ·exact jP O U L fv sv iv it v e' a
 ·exact jQ O U L fv sv iv it v e' x t
theorem IV{C:Cx}{A:AL}{id:Str}{p:Pos}{it v:Value}{L:AN}:AC C A (Fw (.Name id p) it v) L (λYa:Unit=>()) (λYa=>L):=λR s S=>AP ⟨(),rfl,S⟩
variable{L k x i a:Nat}{xs:Ak}{S:Nat->Type}{val: ∀j,S j->Value}{G: ∀j,S j->AN}
theorem Z4(O:B.C.Ok){A:AL}(U:AA 22 A){j:Nat}{e:Value}(hx:xs[j]? =some e)(he:L5 e){q q':BC}{X:Type}{G0:AN}{led:X->AN}{Z:Type}{res:Z->Result}{tX:Z->AN}
 (Gj:AC B.C (A.under (.forLoop LG (J a) LF [] (AR B.P 220 [] (L+323)))) (Bo LG (AR B.P 220 [] (L+323)) e) [AI L q] (λYa:Unit=>()) (λYa=>[AI L q']))
 (hb:AC B.C (A.under (.forLoop LG (J a) LF [] (AR B.P 220 [] (L+323)))) (Ac LF (AR B.P 220 [] (L+323))) ([AI L q']++G0) (λYa:X=>.next) led)
 (hn: ∀y,AT B.C A (.forLoop LG (J a) LF [] (AR B.P 220 [] (L+323))) (led y++[BQ a x (j+1),AE x xs]) res tX):
 AT B.C A (.forLoop LG (J a) LF [] (AR B.P 220 [] (L+323))) ([AI L q,BQ a x j,AE x xs]++G0) res tX:=by
 refine AT.P2 (fl:=.next) (.inl rfl) (X:=Unit) (v:=λYa=>e) (L1:=λYa=>[BQ a x (j+1),AE x xs,AI L q]++G0) (L2:=λYa=>[BQ a x (j+1),AE x xs,AI L q]++G0) (L3:=λYa=>[AI L q',BQ a x (j+1),AE x xs]++G0) (L4:=λYa y=>led y++[BQ a x (j+1),AE x xs]) ?_ (λYa=>IV) (λYa=>?_) (λYa=>?_) (λYa y=>hn y)
 ·exact((QH O (A:=A.under (.forLoop LG (J a) LF [] (AR B.P 220 [] (L+323)))) U.l.loop a x j xs e hx).frame ([AI L q]++G0)).pk (P:=[AI L q,BQ a x j,AE x xs]) (Q:=[BQ a x j,AE x xs,AI L q]) [1,1,0] rfl
 ·exact(Gj.frame ([BQ a x (j+1),AE x xs]++G0)).pk (P:=[BQ a x (j+1),AE x xs,AI L q]) (Q:=[AI L q,BQ a x (j+1),AE x xs]) [2,0,0] rfl
 ·refine(hb.frame [BQ a x (j+1),AE x xs]).pre λR s S=>S.perm ?_
  refine A8 R ?_
  show(AI L q'::([BQ a x (j+1),AE x xs]++G0)).Perm (AI L q'::(G0++[BQ a x (j+1),AE x xs]))
  exact BY _ A9
theorem V4(O:B.C.Ok){A:AL}(U:AA 22 A)(dQ: ∀e∈xs,L5 e)
 (PI: ∀j e,xs[j]? =some e-> ∀σ:S j,AC B.C (A.under (.forLoop LG (J a) LF [] (AR B.P 220 [] (L+323)))) (Ac LF (AR B.P 220 [] (L+323))) ([AI L (Gw k x i a (val j σ) e)]++G j σ) (λYa:S (j+1)=>.next) (λy=>[AI L (Gw k x i a (val (j+1) y) e)]++G (j+1) y)):
 ∀(r j:Nat) (σ:S j) (e':Value),j+r=xs.length->AT B.C A (.forLoop LG (J a) LF [] (AR B.P 220 [] (L+323))) ([AI L (Gw k x i a (val j σ) e'),BQ a x j,AE x xs]++G j σ)
  (λYa:S xs.length×Value=>.ok .next) (λy=>[AI L (Gw k x i a (val _ y.1) y.2),AE x xs]++G _ y.1)
 |0,j,σ,e',h=>by
  obtain rfl:j=xs.length:=by lia
  refine AT.SQ (X:=Unit) (L1:=λYa=>[AE x xs,AI L (Gw k x i a (val _ σ) e')]++G _ σ) ?_ λYa=>(AT.SN _).weaken λYa=>⟨(σ,e'),rfl,λR s S=>S.pk (P:=[_,_]) (ix:=[1,0]) rfl⟩
  exact((N_ O (A:=A.under (.forLoop LG (J a) LF [] (AR B.P 220 [] (L+323)))) U.l.loop a x xs.length xs (Am _)).frame ([AI L (Gw k x i a (val _ σ) e')]++G _ σ)).pk (P:=[AI L (Gw k x i a (val _ σ) e'),BQ a x xs.length,AE x xs]) (Q:=[BQ a x xs.length,AE x xs,AI L (Gw k x i a (val _ σ) e')]) [1,1,0] rfl
 |r+1,j,σ,e',h=>by
  have hj:j<xs.length:=by lia
  have hx:xs[j]? =some xs[j]:=AJ hj;have he:=dQ _ (Cn hj);have B8:AA 20 (A.under (.forLoop LG (J a) LF [] (AR B.P 220 [] (L+323)))):=(U.le (ADm:20+1<=22)).loop
  refine Z4 O U hx he (oa O B8 L _ _ _ _ (val j σ) e' _ he) (PI j _ hx σ) λy=>?_
  refine(V4 O U dQ PI r (j+1) y xs[j] ADj).pre λR s S=>S.perm (A8 R ?_)
  show(AI L _::(G _ y++[BQ a x (j+1),AE x xs])).Perm (AI L _::([BQ a x (j+1),AE x xs]++G _ y))
  exact BY _ A9
theorem jR(O:B.C.Ok){A:AL}(U:AA 22 A)(dQ: ∀e∈xs,L5 e)
 (PI: ∀j e,xs[j]? =some e-> ∀σ:S j,AC B.C (A.under (.forLoop LG (J a) LF [] (AR B.P 220 [] (L+323)))) (Ac LF (AR B.P 220 [] (L+323))) ([AI L (Gw k x i a (val j σ) e)]++G j σ) (λYa:S (j+1)=>.next) (λy=>[AI L (Gw k x i a (val (j+1) y) e)]++G (j+1) y))
 (σ:S 0) (CD:xs≠[]):AT B.C A (.forLoop LG (J a) LF [] (AR B.P 220 [] (L+323))) ([AI L (Nd k x i a (val 0 σ)),BQ a x 0,AE x xs]++G 0 σ)
  (λYa:S xs.length×Value=>.ok .next) (λy=>[AI L (Gw k x i a (val _ y.1) y.2),AE x xs]++G _ y.1):=by
 have hj:0<xs.length:=List.length_pos_iff.mpr CD;have hx:xs[0]? =some xs[0]:=AJ hj;have he:=dQ _ (Cn hj);have B8:AA 20 (A.under (.forLoop LG (J a) LF [] (AR B.P 220 [] (L+323)))):=(U.le (ADm:20+1<=22)).loop
 refine Z4 O U hx he (oZ O B8 L _ _ _ _ (val 0 σ) _ he) (PI 0 _ hx σ) λy=>?_
 refine(V4 O U dQ PI (xs.length-1) 1 y xs[0] ADj).pre λR s S=>S.perm (A8 R ?_)
 show(AI L _::(G _ y++[BQ a x 1,AE x xs])).Perm (AI L _::([BQ a x 1,AE x xs]++G _ y))
 exact BY _ A9
theorem L6(O:B.C.Ok){A:AL}{N:Nat}(U:AA (N+24) A)(dQ: ∀e∈xs,L5 e){ei:Bi}{vi:Value}
 (h1:AC B.C A (Ac ((A4 B.P 220).take 2) (AR B.P 220 [] (L+323))) [AI L [(Bg,.ref k),(Bh,J x),(Bz,J i)],AE x xs,ei] (λYa:Nat=>.next) (λa=>[AI L (Nd k x i a (J i)),BQ a x 0,AE x xs,ei]))
 {P:AL->Prop} (hP: ∀a,P (A.under (.forLoop LG (J a) LF [] (AR B.P 220 [] (L+323)))))
 (PI: ∀a A',AA (N+22) A'->P A'-> ∀j e,xs[j]? =some e-> ∀σ:S j,AC B.C A' (Ac LF (AR B.P 220 [] (L+323))) ([AI L (Gw k x i a (val j σ) e)]++G j σ) (λYa:S (j+1)=>.next) (λy=>[AI L (Gw k x i a (val (j+1) y) e)]++G (j+1) y))
 (σ:S 0) (hv:val 0 σ=J i) {G':AN} (hG:G 0 σ=ei::G') (CD:xs≠[]):
 AC B.C A (Ac (A4 B.P 220) (AR B.P 220 [] (L+323))) ([AI L [(Bg,.ref k),(Bh,J x),(Bz,J i)],AE x xs,ei]++G')
  (λy:S xs.length=>.ret (val _ y)) (λy=>[AE x xs]++G _ y):=by
 have B8:AA 22 A:=U.le ADj
 have tQ:=λfv sv iv it v e=>sD O (U.le (ADj:20<=N+24)) L fv sv iv it v e
 have hit:=λa fv sv iv v=>od O (U.le (ADj:20<=N+24)) L a 0 0 fv sv iv v
 have iF:=h1;rw[eL] at tQ iF;rw[eL];refine AC.seq (l1:=[_,_]) (led1:=λa=>[AI L (Nd k x i a (J i)),BQ a x 0,AE x xs,ei]++G') (iF.frame G') λa=>?_;refine AC.step (led1:=λy:S xs.length×Value=>[AI L (Gw k x i a (val _ y.1) y.2),AE x xs]++G _ y.1) (AC.one (AC.yj (X:=Unit) (Y:=Unit) (v:=λYa=>J a) (it:=λYa Ya=>J a)
  (L1:=λYa=>[AI L (Nd k x i a (J i)),BQ a x 0,AE x xs,ei]++G') (L2:=λYa Ya=>[AI L (Nd k x i a (val 0 σ)),BQ a x 0,AE x xs]++G 0 σ) (fl:=λYa=>.next) (λYa=>rfl) ((hit a _ _ _ _).frame ([BQ a x 0,AE x xs,ei]++G')) (λYa=>?_) λYa Ya=>?_)) λy=>?_
 ·have e0:=NO O (A:=A) (U.le (ADj:5<=N+24)) a x 0
  refine((e0.frame ([AI L (Nd k x i a (J i)),AE x xs,ei]++G')).pk (P:=[AI L (Nd k x i a (J i)),BQ a x 0,AE x xs,ei]) (Q:=[BQ a x 0,AI L (Nd k x i a (J i)),AE x xs,ei]) [1,0,0,0] rfl).post λYa R s S=>?_
  rw[hv,hG];exact S.perm (A8 R (Ae _ _ _))
 ·exact(jR O B8 dQ (λj e hx σ=>PI a _ ((U.le (ADj:N+22+1<=N+24)).loop) (hP a) j e hx σ) σ CD).call
 ·exact((tQ (.ref k) (J x) (J i) (J a) (val _ y.1) y.2).frame ([AE x xs]++G _ y.1)).weaken λYa=>⟨y.1,rfl,λR s S=>S⟩
end
include O
theorem fc(U:AA 62 A)(L x dx m u t3 t5 t4 l y dy o:Nat)(h:FX)(fr:Ay)(p:Str)(tf tp:Nat)(hS:B.Std)(hI:CY (h.AH++[It.mk 0 ⟨⟨32::fr⟩⟩ tf p tp]))(hn:h.n<=1000)(hr:h.rs.length<=900):
 AC B.C A (Ac (A4 B.P 265) (AR B.P 265 [] (L+323))) [AI L [(Jr,J x),(aP,J o)],AV o [.str ⟨⟨32::fr⟩⟩ tf,.str p tp],BO x dx,Bc dx m u t3 t5 t4 l y,BS y dy h.AH,A3 dy (.int (h.n:Int) h.t),Ai h.AH,AE l (h.rs.map rv)]
  (λq:X0 m h.ab (⟨⟨32::fr⟩⟩,p)=>.ret (J x))
  (λq=>[AV o [.str ⟨⟨32::fr⟩⟩ tf,.str p tp],BO x dx,Bc dx m u t3 t5 t4 l y,BS y dy q.g.AH,A3 dy (.int (q.g.n:Int) q.g.t),Ai q.g.AH,AE l (q.g.rs.map rv)]):=
 D7 O U (.g 5154840352023719010079088836801<|.fr λk0=>.g 270466<|.cc (PB O U.l o k0 (.str {cps:={toList:=32::fr}} tf) (.str p tp)) [1] λYa=>.g 66<|.fr λk2=>.g 266305<|.cc (PC O U.l o k2 (.str {cps:={toList:=32::fr}} tf) (.str p tp)) [0] λYa=>.g 64<|.cc (eR O hS U.l x dx m u t3 t5 t4 l y dy h fr p tf tp hI hn hr) [2,2,2,2,2,2] λy4=>.g 72<|.fi (y4) (6::BW 6))
def lB(hS:B.Std)(U:AA 64 A)(x dx m u t3 t5 t4 l y dy o:Nat)(h:FX)(fr:Ay)(p:Str)(tf tp:Nat)(hI:CY (h.AH++[It.mk 0 ⟨⟨32::fr⟩⟩ tf p tp]))(hn:h.n<=1000)(hr:h.rs.length<=900):Ag B.C A where
 c:=.call (.ref 265) ⟨[J x,J o],[]⟩
 F:=[AV o [.str ⟨⟨32::fr⟩⟩ tf,.str p tp],BO x dx,Bc dx m u t3 t5 t4 l y,BS y dy h.AH,A3 dy (.int (h.n:Int) h.t),Ai h.AH,AE l (h.rs.map rv)]
 X:=X0 m h.ab (⟨⟨32::fr⟩⟩,p)
 res:=λYa=>.ok (.ret (J x))
 led:=λq=>[AV o [.str ⟨⟨32::fr⟩⟩ tf,.str p tp],BO x dx,Bc dx m u t3 t5 t4 l y,BS y dy q.g.AH,A3 dy (.int (q.g.n:Int) q.g.t),Ai q.g.AH,AE l (q.g.rs.map rv)]
 ok:=EU O U [(Jr,J x),(aP,J o)]
  (λL=>BK (fl:=λYa:X0 m h.ab (⟨⟨32::fr⟩⟩,p)=>.ret (J x)) (fc O (AA.deeper U.l) L x dx m u t3 t5 t4 l y dy o h fr p tf tp hS hI hn hr))
theorem jS(U:AA 66 A)(L c i a x dx m u t3 t5 t4 l y dy o:Nat)(h:FX)(fr:Ay)(p:Str)(tf tp:Nat)(hS:B.Std)(hI:CY (h.AH++[It.mk 0 ⟨⟨32::fr⟩⟩ tf p tp]))(hn:h.n<=1000)(hr:h.rs.length<=900):
 AC B.C A (Ac LF (AR B.P 220 [] (L+323))) [AI L (Gw 265 c i a (J x) (J o)),AV o [.str ⟨⟨32::fr⟩⟩ tf,.str p tp],BO x dx,Bc dx m u t3 t5 t4 l y,BS y dy h.AH,A3 dy (.int (h.n:Int) h.t),Ai h.AH,AE l (h.rs.map rv)]
  (λq:X0 m h.ab (⟨⟨32::fr⟩⟩,p)=>.next)
  (λq=>[AI L (Gw 265 c i a (J x) (J o)),AV o [.str ⟨⟨32::fr⟩⟩ tf,.str p tp],BO x dx,Bc dx m u t3 t5 t4 l y,BS y dy q.g.AH,A3 dy (.int (q.g.n:Int) q.g.t),Ai q.g.AH,AE l (q.g.rs.map rv)]):=
 D7 O U (.g 16781377<|.cc (lB O hS U.l x dx m u t3 t5 t4 l y dy o h fr p tf tp hI hn hr) [1,1,1,1,1,1,1] λy0=>.fr λk1=>.g 6600<|.fi (y0) (7::BW 7))
def XN(m:Nat)(a:Ab)(cs:Ed):Ab:=cs.foldl (Ab.step m) a
def xw(m n:Nat)(cks:List It)(j:Nat):Type:={h:FX//h.ab=XN m (H7 n) ((cks.take j).map It.ab)}
omit O
theorem jx(cks:List It): ∀e∈cks.map It.v,L5 e:=λe he=>by
 obtain⟨i,_,rfl⟩:=List.mem_map.mp he;exact .inl ⟨_,rfl⟩
theorem ZZ{m n:Nat}(hn:n<=1000){cs:Ed}(h: ∀c∈cs,FL c):OJ cs.length (XN m (H7 n) cs):=by
 have:=(j3 n hn).fold (m:=m) cs h
 rwa [FH] at this
theorem Wg{B:Bx}(O:B.C.Ok)(hS:B.Std){A:AL}(U:AA 70 A)(L c x dx m u t3 t5 t4 l y dy n t:Nat)(cks:List It)(CD:cks≠[])(hW: ∀i∈cks,FL (i.f,i.p))(hlen:cks.length<=20)(hn:n<=1000):
 AC B.C A (Ac (A4 B.P 220) (AR B.P 220 [] (L+323))) ([AI L [(Bg,.ref 265),(Bh,J c),(Bz,J x)],AE c (cks.map It.v),BO x dx]++[Bc dx m u t3 t5 t4 l y,BS y dy [],A3 dy (.int (n:Int) t),Ai [],AE l [],Ai cks])
  (λq:xw m n cks (cks.map It.v).length=>.ret (J x)) (λq=>[AE c (cks.map It.v)]++(Iq x dx m u t3 t5 t4 l y dy q.1++[Ai cks])):=by
 refine L6 O (N:=46) U (k:=265) (x:=c) (i:=x) (xs:=cks.map It.v) (S:=xw m n cks) (val:=λYa Ya=>J x) (G:=λYa σ=>Iq x dx m u t3 t5 t4 l y dy σ.1++[Ai cks]) (jx cks) (ei:=BO x dx) (vi:=.none) ?_ (P:=λYa=>True) (λYa=>trivial) (λa A' B8 _ j e hx σ=>?_) ⟨⟨[],n,t,[]⟩,rfl⟩ rfl rfl (by simpa using CD)
 ·have e:=xR O U.l L c 265 x dx (cks.map It.v)
  exact e
 ·rw[AQ] at hx
  cases hi:cks[j]? with
  |none=>rw[hi] at hx;cases hx
  |some i=>
   rw[hi] at hx;cases hx;obtain⟨hjl,hji⟩:=List.getElem?_eq_some_iff.mp hi;obtain⟨l1,l2,rfl,rfl⟩: ∃l1 l2,cks=l1++i::l2/\j=l1.length:=⟨cks.take j,cks.drop (j+1),by rw[<-hji,H0,CQ],by rw[C5];lia⟩
   obtain⟨h,hh⟩:=σ;have u3:=hh;rw[H1] at u3;have hWl: ∀d∈l1.map It.ab,FL d:=λd hd=>by obtain⟨q,hq,rfl⟩:=List.mem_map.mp hd;exact hW q (Ar _ hq)
   have vI:=hW i (Ax _ (.head _));have hinv:=ZZ (m:=m) hn hWl;rw[<-u3] at hinv;obtain⟨fr,Hl⟩:=vI.fr
   dsimp only at Hl
   obtain⟨b1,b2,b3⟩:=hinv.bd.small (f:=i.f) (p:=i.p) (tf:=i.tf) (tp:=i.tp) (by rw[AD];simp at hlen;lia) ⟨AK vI.s1 ADm,AK vI.s2 ADm⟩
   obtain⟨ia,f,dS,p,dT⟩:=i
   dsimp only at Hl b1
   subst Hl;refine AC.pre (F:=[AI L (Gw 265 c x a (J x) (J ia)),AV ia [.str ⟨⟨32::fr⟩⟩ dS,.str p dT],BO x dx,Bc dx m u t3 t5 t4 l y,BS y dy h.AH,A3 dy (.int (h.n:Int) h.t),Ai h.AH,AE l (h.rs.map rv)]++[Ai (l1++l2)]) (AC.weaken ((jS O (B8.le (ADj:66<=46+22)) L c x a x dx m u t3 t5 t4 l y dy ia h fr p dS dT hS b1 b2 b3).frame [Ai (l1++l2)]) λq=>⟨⟨q.g,?_⟩,rfl,λR s S=>?_⟩) λR s S=>?_
   ·rw[q.ok,u3]
    rw[show l1++It.mk ia ⟨⟨32::fr⟩⟩ dS p dT::l2=(l1++[It.mk ia ⟨⟨32::fr⟩⟩ dS p dT])++l2 from by simp,show l1.length+1=(l1++[It.mk ia ⟨⟨32::fr⟩⟩ dS p dT]).length from by simp,H1,AZ]
    unfold XN;rw[QX]
    rfl
   ·have S1:=St.picked (L:=[_,_,_,_,_,_,_,_,_]) (ix:=(1::7::BW 7)) S rfl
    have S2:=St.Vr (i:=It.mk ia ⟨⟨32::fr⟩⟩ dS p dT) (l1:=l1) (l2:=l2) S1;exact St.picked (L:=[_,_,_,_,_,_,_,_]) (ix:=[1,1,1,1,1,1,1,0]) S2 rfl
   ·have S1:=St.picked (L:=[_,_,_,_,_,_,_,_]) (ix:=(7::BW 7)) S rfl
    exact St.picked (L:=[_,_,_,_,_,_,_,_,_]) (ix:=[2,0,1,1,1,1,1,1,0]) (St.Q1 (i:=It.mk ia ⟨⟨32::fr⟩⟩ dS p dT) (l1:=l1) (l2:=l2) S1) rfl
include O
def Yy(hS:B.Std)(U:AA 74 A)(c x dx m u t3 t5 t4 l y dy n t:Nat)(cks:List It)(CD:cks≠[])(hW: ∀i∈cks,FL (i.f,i.p))(hlen:cks.length<=20)(hn:n<=1000):Ag B.C A where
 c:=.call (.ref 220) ⟨[.ref 265,J c,J x],[]⟩
 F:=[AE c (cks.map It.v),BO x dx,Bc dx m u t3 t5 t4 l y,AY y dy [],A3 dy (.int (n:Int) t),AE l [],Ai cks]
 X:=OI m (H7 n) (cks.map It.ab)
 res:=λYa=>.ok (.ret (J x))
 led:=λq=>[AE c (cks.map It.v),BO x dx,Bc dx m u t3 t5 t4 l y,BS y dy q.g.AH,A3 dy (.int (q.g.n:Int) q.g.t),Ai q.g.AH,AE l (q.g.rs.map rv),Ai cks]
 ok:=EU O U [(Bg,.ref 265),(Bh,J c),(Bz,J x)] (sb:=.g 64<|.fi () [])
  (λL=>BK (fl:=λYa:OI m (H7 n) (cks.map It.ab)=>.ret (J x)) (AC.pre (AC.weaken (Wg O hS (AA.deeper U.l) L c x dx m u t3 t5 t4 l y dy n t cks CD hW hlen hn) λq=>⟨⟨q.1,by
   have h2:=q.2;simp only[AD,Gc] at h2;exact h2⟩,rfl,λR s S=>S⟩) λR s S=>by
    exact S.BV (EH _)))
def cI(hS:B.Std)(U:AA 32 A)(x dx m u t3 t5 t4 l y dy t6:Nat)(h:FX)(hI:OJ 20 h.ab)(CD:h.ab.cur≠[])(Fo:h.ab.all.length<=5000):Ag B.C A:=TJ O hS U x dx m u t3 t5 t4 l y dy t6 20 h hI ADm CD Fo
def C4(m n:Nat)(cs:Ed):List Str:=(cs.foldl (Ab.step m) (H7 n)).out
theorem bE(U:AA 120 A)(L c m u n t:Nat)(cks:List It)(hS:B.Std)(CD:cks≠[])(hW: ∀i∈cks,FL (i.f,i.p))(hlen:cks.length<=20)(hn:n<=1000)(hq: ∀q:OI m (H7 n) (cks.map It.ab),OJ 20 q.g.ab/\q.g.ab.cur≠[]/\q.g.ab.all.length<=5000/\q.g.ab.out≠[]/\(∀r∈q.g.ab.out,10∉r.cps.toList)/\(BB ⟨⟨[10]⟩⟩ q.g.ab.out).length<=1000000):
 AC B.C A (Ac (A4 B.P 272) (AR B.P 272 [] (L+323))) [AI L [(DK,J c),(ER,.int (m:Int) u),(QR,.int (n:Int) t)],AE c (cks.map It.v),Ai cks]
  (λq:R2 (C4 m n (cks.map It.ab))=>B6 (J q.a))
  (λq=>[AE q.a (q.ks.map rv),AE c (cks.map It.v),Ai cks]):=Ix O U (.g 69809999872<|.fr λk0=>.fr λk1=>.g 4096<|.cc (TC O U.l n t m u k0 k1) [] λ(y2:(Nat×Nat)×Nat×Nat×Nat×Nat)=>.g 64<|.cc (Yy O hS U.l c y2.fst.fst y2.fst.snd m u k0 y2.snd.fst k1 y2.snd.snd.fst y2.snd.snd.snd.fst y2.snd.snd.snd.snd n t cks CD hW hlen hn) [6,0,0,0,0,0,1] λ(y3:OI m (H7 n) (cks.map It.ab))=>.g 1296572941537252739859349506<|.fr λk4=>.g 64<|.cc (cI O hS U.l y2.fst.fst y2.fst.snd m u k0 y2.snd.fst k1 y2.snd.snd.fst y2.snd.snd.snd.fst y2.snd.snd.snd.snd k4 y3.g (by first|assumption|lia|exact(hq _).1|exact(hq _).2.1|exact(hq _).2.2.1|exact(hq _).2.2.2.1|exact(hq _).2.2.2.2.1|exact(hq _).2.2.2.2.2) (by first|assumption|lia|exact(hq _).1|exact(hq _).2.1|exact(hq _).2.2.1|exact(hq _).2.2.2.1|exact(hq _).2.2.2.2.1|exact(hq _).2.2.2.2.2) (by first|assumption|lia|exact(hq _).1|exact(hq _).2.1|exact(hq _).2.2.1|exact(hq _).2.2.2.1|exact(hq _).2.2.2.2.1|exact(hq _).2.2.2.2.2)) [1,1,1,1,1,1] λ(y5:Nat)=>.fr λk6=>.cc (RW O U.l y3.g.ab.out y5 k6 (by first|assumption|lia|exact(hq _).1|exact(hq _).2.1|exact(hq _).2.2.1|exact(hq _).2.2.2.1|exact(hq _).2.2.2.2.1|exact(hq _).2.2.2.2.2) (by first|assumption|lia|exact(hq _).1|exact(hq _).2.1|exact(hq _).2.2.1|exact(hq _).2.2.2.1|exact(hq _).2.2.2.2.1|exact(hq _).2.2.2.2.2) (by first|assumption|lia|exact(hq _).1|exact(hq _).2.1|exact(hq _).2.2.1|exact(hq _).2.2.2.1|exact(hq _).2.2.2.2.1|exact(hq _).2.2.2.2.2)) [] λ(y7:R2 y3.g.ab.out)=>.fi (⟨y7.a,y7.ks,y7.ok.trans (congrArg Ab.out y3.ok)⟩) [0,0,0])
omit O
theorem Ra{m n:Nat}(hn:n<=1000){cks:List It}(CD:cks≠[])(hW: ∀i∈cks,FL (i.f,i.p))(hlen:cks.length<=20){a:Ab}(ha:a=(cks.map It.ab).foldl (Ab.step m) (H7 n)):
 OJ 20 a/\a.cur≠[]/\a.all.length<=5000/\a.out≠[]/\(∀r∈a.out,10∉r.cps.toList)/\(BB ⟨⟨[10]⟩⟩ a.out).length<=1000000:=by
 have Rd: ∀d∈cks.map It.ab,FL d:=λd hd=>by obtain⟨i,hi,rfl⟩:=List.mem_map.mp hd;exact hW i hi
 have hi:=(j3 n hn).fold (m:=m) _ Rd;rw[<-ha,AD,FH] at hi;have hcl:(DI (cks.map It.ab)).length<=4000:=by
  have:=VP Rd
  rw[AD] at this
  lia
 have Fo:a.all=DI (cks.map It.ab):=by rw[ha,N3];simp[H7,Ph,DI]
 have dK:a.out.length<=100:=by
  have:=hi.rows
  unfold Ab.out;rw[AX,CF];lia
 exact⟨⟨hi.n,AK hi.rows hlen,AK hi.cur hlen,hi.parts⟩,by rw[ha];exact TQ m _ _ (by simpa using CD),by rw[Fo];lia,SV _,Tw (k:=0) Fo Rd,
  AK (QA (SV a) (n:=5000) (k:=100) (by show a.all.length<=_;rw[Fo];lia) dK) ADm⟩
include O
def gS(hS:B.Std)(U:AA 122 A)(c m u n t:Nat)(cks:List It)(CD:cks≠[])(hW: ∀i∈cks,FL (i.f,i.p))(hlen:cks.length<=20)(hn:n<=1000):Ag B.C A where
 c:=.call (.ref 272) ⟨[J c,.int (m:Int) u,.int (n:Int) t],[]⟩
 F:=[AE c (cks.map It.v),Ai cks]
 X:=R2 (C4 m n (cks.map It.ab))
 res:=λq=>.ok (.ret (J q.a))
 led:=λq=>[AE q.a (q.ks.map rv),AE c (cks.map It.v),Ai cks]
 ok:=EU O U [(DK,J c),(ER,.int (m:Int) u),(QR,.int (n:Int) t)]
  (λL=>BK (fl:=λq:R2 (C4 m n (cks.map It.ab))=>.ret (J q.a)) (bE O (AA.deeper U.l) L c m u n t cks hS CD hW hlen hn λq=>Ra hn CD hW hlen q.ok))
noncomputable abbrev iv(q:Nat×Nat):Value:=.int (q.1:Int) q.2
abbrev AF(x:Nat)(xs:Aa):Bi:=AE x (xs.map iv)
noncomputable abbrev ns(xs:Aa):Ay:=xs.map (·.1)
omit O
theorem Te{C:Cx}{s:Af}{L:AN}{x:Nat}{xs:Ak}(S:St C (AE x xs::L) s):s.heap.IsList (x+323) ⟨xs⟩:=by
 obtain⟨g,h⟩:=S.Dj;exact⟨_,h,rfl,_,rfl⟩
theorem St.grow{C:Cx}(O:C.Ok){s:Af}{L:AN}(S:St C L s){h':Heap}{tk:Nat}(hk: ∀b o,s.heap.get? b=some o->h'.get? b=some o)(ht:s.toks<=tk):St C L {s with heap:=h',toks:=tk}:=
 S.ext O hk (λh t q=>S.gens h t (AK ht q)) rfl
section
variable(B:Bx)(A:AL)(O:B.C.Ok)
noncomputable def lF(U:AA 3 A)(a b t u:Nat):Ag B.C A where
 c:=.call (.builtin "max") ⟨[.int (a:Int) t,.int (b:Int) u],[]⟩
 F:=[]
 X:=Nat
 res:=λk=>.ok (.ret (.int ((Mb a b:Nat):Int) k))
 led:=λYa=>[]
 ok:=G2 λR s S=>wpAny_with_toks (Am _) (max_two_ints U.1 λh' tk hk ht=>by
  by_cases c:(b:Int)>(a:Int)
  ·exact⟨u,by rw[if_pos c,show Mb a b=b from Nat.max_eq_right ADj],S.grow O hk ht⟩
  ·exact⟨t,by rw[if_neg c,show Mb a b=a from Nat.max_eq_left ADj],S.grow O hk ht⟩)
def Ve(U:AA 3 A)(x:Nat)(xs:Aa)(hx:xs.length<=1000)(hs:(ns xs).sum<=1000000):Ag B.C A where
 c:=.call (.builtin "sum") ⟨[.ref (x+323)],[]⟩
 F:=[AF x xs]
 X:=Nat
 res:=λk=>.ok (.ret (.int (((ns xs).sum:Nat):Int) k))
 led:=λYa=>[AF x xs]
 ok:=G2 λR s S=>wpAny_with_toks (Am _) (call_sum_walk (wpAny_pyIter_list (Te S) (by
  have hl:=Te S;have IP:x+323<s.heap.objs.size:=by obtain⟨o,ho,_⟩:=hl;exact Cf ho
  have Is:(s.heap.push {cls:=.type "list_iterator",data:=.fields #[.ref (x+323),.int 0 0]}).objs.size=s.heap.objs.size+1:=Heap.size_push ..;have hp:=λj hj=>GX (UP (α:=Nat) (β:=Nat)) xs j hj;refine⟨s.heap.objs.size,_,_,_,_,_,λj=>(((xs.getD j Au).1:Nat):Int),rfl,Walks.list (A:=A.in1) U.1 _ (x+323) (Nat.ne_of_lt IP) ⟨xs.map iv⟩,?_,?_,?_,?_,?_⟩
  ·refine⟨⟨_,FN _ rfl,rfl,rfl⟩,?_⟩
   obtain⟨o,ho,r⟩:=hl;exact⟨o,Cu _ ho,r⟩
  ·intro b hb
   rw[Is];simp only[CG,B_,or_false] at hb
   rcases hb with rfl|rfl
   ·exact IZ _
   ·exact Nat.lt_succ_of_lt IP
  ·intro i v hv
   have mh:(xs.map iv)[i]? =some v:=by simpa using hv
   rw[AQ] at mh;cases h:xs[i]? with
   |none=>rw[h] at mh;cases mh
   |some q=>rw[h] at mh;cases mh;exact⟨q.2,by show iv q=.int (((xs.getD i Au).1:Nat):Int) q.2;rw[Ad,h];rfl⟩
  ·intro j hj
   have u7:j<xs.length:=by simpa using hj
   have h1:=(MU (UP (α:=Nat) (β:=Nat)) xs) (j+1);have h3:=hp (j+1) ADj
   have h4:=hp j ADj
   rw[h3];have h5:=h3;rw[Ic,h4] at h5;unfold ns at hs;have P5:(B0 UP xs).sum<=1000000:=hs;show RG (((xs.getD j Au).1:Nat):Int)/\RG _
   constructor<;>constructor<;>lia
  ·intro h' tk t' hk ht
   refine⟨t',?_,S.grow O (λb o e=>hk b o (λhb=>?_) (Cu _ e)) ht⟩
   ·have e:(⟨xs.map iv⟩:Bs).size=xs.length:=by simp
    rw[e,hp _ (Am _),Gc]
   ·rw[List.mem_singleton.mp hb] at e
    exact Dl _ (Cf e))))
noncomputable def vN(k:Nat):Value->Bool:=λv=>match v with|.int i _=>i==(k:Int)|_=>false
theorem qL(xs:Aa)(k:Nat):((xs.map iv).toArray.any (vN k))=decide (k∈ns xs):=by
 rw[Bool.eq_iff_iff];simp only[List.any_toArray,List.any_map,List.any_eq_true,Il,vN,beq_iff_eq,decide_eq_true_eq,List.mem_map]
 constructor
 ·rintro⟨q,hq,e⟩;exact⟨q,hq,by lia⟩
 ·rintro⟨q,hq,e⟩;exact⟨q,hq,by lia⟩
def Yr(U:AA 3 A)(x k t:Nat)(xs:Aa):Ag B.C A where
 c:=.call (.builtin "list.__contains__") ⟨[.ref (x+323),.int (k:Int) t],[]⟩
 F:=[AF x xs]
 X:=Unit
 res:=λYa=>.ok (.ret (.bool (decide (k∈ns xs))))
 led:=λYa=>[AF x xs]
 ok:=Bu λR s S=>by
  obtain⟨g,h⟩:=S.Dj;refine EJ PySem.F.slot_list_contains.plain PySem.F.entry_list_contains (PySem.F.slot_list_contains.check _ _ _ _ _ _ _ _ ⟨_,h,rfl⟩ (PySem.F.args_list_contains_2 _ _) (MeetsSeq.list_contains (x+323) ⟨xs.map iv⟩ _ (.int (k:Int) t) (vN k) ?_ B.C.prog B.C.w A _ s ⟨h,(),?_,S⟩))
  ·intro y hy
   have mj:y∈xs.map iv:=by simpa using hy
   obtain⟨q,hq,rfl⟩:=List.mem_map.mp mj;exact MeetsSeq.EqGives.int _ _ _ _
  ·rw[<-qL]
def Ps(U:AA 3 A)(x k t:Nat)(xs:Aa)(h:k∈ns xs):Ag B.C A:=
 (Yr B A U x k t xs).re (λYa:Unit=>.ok (.ret (.bool true))) (λYa=>[AF x xs]) (λYa=>()) (λYa=>by show(Cs (B6 (.bool (decide (k∈ns xs)))):Result)=_;rw[decide_eq_true h]) (λYa=>rfl)
def ND(U:AA 3 A)(x k t:Nat)(xs:Aa)(h:k∉ns xs):Ag B.C A:=
 (Yr B A U x k t xs).re (λYa:Unit=>.ok (.ret (.bool false))) (λYa=>[AF x xs]) (λYa=>()) (λYa=>by show(Cs (B6 (.bool (decide (k∈ns xs)))):Result)=_;rw[decide_eq_false h]) (λYa=>rfl)
end
include O
theorem kZ(U:AA 1 A)(x sl:Nat)(xs:Ak)(u v:Value):
 AS B A (AU "list.__getitem__" ⟨[.ref (x+323),.ref (sl+323)],[]⟩) [AE x xs,F8 sl u v] () [AE x xs,F8 sl u v]:=
 by apply Hc O U (.g 65<|.fi () [0,0])
omit O
section
variable(B:Bx)(A:AL)(O:B.C.Ok)
def Kw(U:AA 3 A)(x y:Nat)(xs ys:Ak)(hx:xs.length<=1000)(hy:ys.length<=1000):Ag B.C A where
 c:=.call (.builtin "list.__add__") ⟨[.ref (x+323),.ref (y+323)],[]⟩
 F:=[AE x xs,AE y ys]
 X:=Nat
 res:=λa=>.ok (.ret (.ref (a+323)))
 led:=λa=>[AE a (xs++ys),AE x xs,AE y ys]
 ok:=Bu λR s S=>by
  obtain⟨g,h⟩:=S.Dj;obtain⟨g2,h2⟩:=S.swap.Dj;have he:=S.size_eq O;have hz:(⟨xs⟩:Bs).size+(⟨ys⟩:Bs).size<=sizeLine:=by rw[Br];simp;lia
  refine EJ PySem.F.slot_list_add.plain PySem.F.entry_list_add (PySem.F.slot_list_add.check _ _ _ _ _ _ _ _ ⟨_,h,rfl⟩ (PySem.F.args_list_add_2 _ _) ((list_addW (x+323) (y+323) ⟨xs⟩ ⟨ys⟩ g.ep g2.ep none none ⟨[]⟩ ⟨[]⟩ hz) B.C.prog B.C.w A (λr s'=> ∃a:Nat,r=.ok (.ret (.ref (a+323)))/\St B.C ([AE a (xs++ys),AE x xs,AE y ys]++R) s') s (And.intro h (And.intro h2 ?_))));refine⟨s.heap.objs.size-323,?_,?_⟩
  ·rw[<-he]
  ·have S1:=S.alloc (o:={cls:=.type "list",data:=.seq ((⟨xs⟩:Bs)++⟨ys⟩)}) (ao:=.ls (.type "list") none (xs++ys)) rfl ⟨G0,by simp[AO.obj,G0]⟩
   rw[he] at S1;exact S1
theorem XO(B:Bx)(A:AL)(O:B.C.Ok){x sl:Nat}{xs ys:Ak}{vl vu:Value}{lo hi:Option Int}(U:AA 3 A)(pl:PX vl lo)(pu:PX vu hi)(hx:xs.length<=1000)(hy:(RH ⟨xs⟩ lo hi none).toList=ys):
 Bv B.C A (.call (.builtin "list.__getitem__") ⟨[.ref (x+323),.ref (sl+323)],[]⟩) [AE x xs,F8 sl vl vu] (λa:Nat=>.ok (.ret (.ref (a+323)))) (λa=>[AE a ys,AE x xs,F8 sl vl vu]):=
 BF ADl Dq (kZ O U.l.in1 x sl xs vl vu) (JZ O pl pu hx hy)
def bZ(U:AA 3 A)(x sl u t u':Nat)(v:Nat)(xs:Ak)(hx:xs.length<=1000):Ag B.C A where
 c:=.call (.builtin "list.__getitem__") ⟨[.ref (x+323),.ref (sl+323)],[]⟩
 F:=[AE x xs,F8 sl (.int (u:Int) t) (.int (v:Int) u')]
 X:=Nat
 res:=λa=>.ok (.ret (.ref (a+323)))
 led:=λa=>[AE a ((xs.take v).drop u),AE x xs,F8 sl (.int (u:Int) t) (.int (v:Int) u')]
 ok:=XO B A O U (.int _ _) (.int _ _) hx (by
  rw[slicePick_plain];simp only[Option.elim_some,clipAt_nat];rw[Nr];show LU (min v xs.length-min u xs.length) (Cd (min u xs.length) xs)=_
  by_cases hu:u<=xs.length
  ·rw[Nat.min_eq_left hu]
   by_cases hv:v<=xs.length
   ·rw[Nat.min_eq_left hv]
   ·rw[Nat.min_eq_right (show xs.length<=v by lia),EX (by rw[A6];lia),EX (by rw[A6];lia)]
  ·rw[Nat.min_eq_right (show xs.length<=u by lia),MY (Am _),MY (ADj:xs.length<=u),List.take_nil,List.take_nil])
def VU(U:AA 3 A)(x sl:Nat)(u' v:Nat)(xs:Ak)(hx:xs.length<=1000):Ag B.C A where
 c:=.call (.builtin "list.__getitem__") ⟨[.ref (x+323),.ref (sl+323)],[]⟩
 F:=[AE x xs,F8 sl .none (.int (v:Int) u')]
 X:=Nat
 res:=λa=>.ok (.ret (.ref (a+323)))
 led:=λa=>[AE a (xs.take v),AE x xs,F8 sl .none (.int (v:Int) u')]
 ok:=XO B A O U .none (.int _ _) hx (by rw[slicePick_upto'])
def NC(U:AA 3 A)(x sl:Nat)(u t:Nat)(xs:Ak)(hx:xs.length<=1000):Ag B.C A where
 c:=.call (.builtin "list.__getitem__") ⟨[.ref (x+323),.ref (sl+323)],[]⟩
 F:=[AE x xs,F8 sl (.int (u:Int) t) .none]
 X:=Nat
 res:=λa=>.ok (.ret (.ref (a+323)))
 led:=λa=>[AE a (xs.drop u),AE x xs,F8 sl (.int (u:Int) t) .none]
 ok:=XO B A O U (.int _ _) .none hx (by rw[slicePick_from'])
theorem Ud{C:Cx}{A:AL}{l:Addr}{c:Value}{d:Option Addr}{xs:Ak}{t:Nat}{v:Value}(hx:xs.getLast?=some v)(hs:xs.length<=1000):
 AC C A (Builtin.«list.__getitem__» ⟨[.ref l,.int (-1) t],[]⟩) [.one l (.ls c d xs)] (λYa:Unit=>.done (.ret v)) (λYa=>[.one l (.ls c d xs)]):=by
 intro R s S;obtain⟨g,ho⟩:=S.Dj;have CD:xs≠[]:=λe=>by subst e;cases hx
 have hl:0<xs.length:=List.length_pos_iff.mpr CD;have zH:=seqIndex_neg (k:=Rw 0) (n:=(⟨xs⟩:Bs).size) ADm (by show-((xs.length:Nat):Int)<= -1;lia)
 have hi:(Rw 0+((⟨xs⟩:Bs).size:Int)).toNat=xs.length-1:=by
  show((-1:Int)+(xs.length:Int)).toNat=_
  lia
 have hv:(⟨xs⟩:Bs)[xs.length-1]? =some v:=by
  rw[List.getLast?_eq_getElem?] at hx;simpa using hx
 show BN _ _ (Bb (.int (-1) t)>>=_) _ _ s;refine AB (HZ (fitsIndex_neg ADm ADm) ?_)
 show BN _ _ ((A7 (.ref l)>>=λxs=>pure ((F4 (Rw 0) xs.size).bind λi=>xs[i]?.map (i, ·)))>>=_) _ _ s;refine AB (AB ?_);show BN _ _ (LY (.ref l)>>=_) _ _ s;refine AB (DG ho rfl (AP (AP ?_)));rw[zH,hi];simp only[Option.bind_some,hv,Option.map_some]
 first
  |exact AB (AP (AP ⟨(),rfl,S⟩))
  |exact AP ⟨(),rfl,S⟩
def JH(U:AA 3 A)(x t:Nat)(xs:Ak)(v:Value)(hx:xs.getLast?=some v)(hs:xs.length<=1000):Ag B.C A where
 c:=.call (.builtin "list.__getitem__") ⟨[.ref (x+323),.int (-1) t],[]⟩
 F:=[AE x xs]
 X:=Unit
 res:=λYa=>.ok (.ret v)
 led:=λYa=>[AE x xs]
 ok:=BF ADl Dq (Oe O U.l.in1 x _ xs) (Ud hx hs)
end
section
variable(B:Bx)(A:AL)(O:B.C.Ok)
theorem rR(xs:Aa)(u v:Nat):((xs.map iv).take v).drop u=((xs.take v).drop u).map iv:=by rw[Dk,F3]
def RN(U:AA 3 A)(x sl u t u':Nat)(v:Nat)(xs:Aa)(hx:xs.length<=1000):Ag B.C A:=
 (bZ B A O U x sl u t u' v (xs.map iv) (by rw[AD];exact hx)).re (λa:Nat=>.ok (.ret (J a))) (λa=>[AF a ((xs.take v).drop u),AF x xs,F8 sl (.int (u:Int) t) (.int (v:Int) u')]) (λa=>a) (λYa=>rfl) (λa=>by show [AE a (((xs.map iv).take v).drop u),_,_]=_;rw[rR])
def JP(U:AA 6 A)(x:Nat)(xs:Aa)(hx:xs.length<=1000):Ag B.C A:=
 (IL O U x (xs.map iv) (by rw[AD];exact hx)).re (λa:Nat=>.ok (.ret (.int (xs.length:Int) a))) (λa=>[AF x xs]) (λa=>a.2) (λYa=>by show(Cs (B6 (.int ((xs.map iv).length:Int) _)):Result)=_;rw[AD]) (λa=>rfl)
end
def VA:Expr:=vE (sN 23 1)
def U_:Dx:=nB (sN 23 1)
def aU:Expr:=vE (sN 24 1)
def aT:Dx:=nB (sN 24 1)
include O
theorem v6(U:AA 20 A)(L x u a k ka st:Nat)(rm:Int)(xs:Aa)(h1:a<xs.length)(hl:xs.length<=1000)(h3:((xs.take (a+1)).drop st).length<=1000)(h4:(ns ((xs.take (a+1)).drop st)).sum<=1000000)(h2:(((ns ((xs.take (a+1)).drop st)).sum:Nat):Int)<=rm):
 AC B.C A (BM (.whileLoop VA U_ [] (AR B.P 286 [] (L+323)))) [AI L [(Ej,J x),(Cr,.int (st:Int) k),(G3,.int rm u),(BA,.int (a:Int) ka)],AF x xs]
  (λq:Nat=>.again (.whileLoop VA U_ [] (AR B.P 286 [] (L+323))))
  (λq=>[AI L [(Ej,J x),(Cr,.int (st:Int) k),(G3,.int rm u),(BA,.int ((a+1:Nat):Int) q)],AF x xs]):=by
 obtain⟨_,_|_⟩:=B<;>exact rn O U (.g 17039361<|.cc (JP _ _ O U.l x xs hl) [1] λ(y0:Nat)=>.cc (IJ _ _ O U.l ↑a ↑xs.length ka y0 (by first|lia|assumption)) [] λYa=>.g 1107828736<|.fr λk2=>.cc (F_ _ _ O U.l a ka k2) [] λy3=>.al λa4=>.g 270466<|.cc (RN _ _ O U.l x a4 st k y3 (a+1) xs hl) [1,0] λy5=>.cc (Ve _ _ O U.l y5 (Cd st (LU (a+1) xs)) h3 h4) [0] λy6=>.g 68<|.cc (gO _ _ O U.l (↑(ns (Cd st (LU (a+1) xs))).sum) rm y6 u h2) [] λYa=>.g 68<|.fr λk8=>.cc (F_ _ _ O U.l a ka k8) [] λy9=>.fr λH9=>.g 6340<|.fi (y9) [3,1])
theorem n6(U:AA 20 A)(L x u a k ka st:Nat)(rm:Int)(xs:Aa)(h1:a<xs.length)(hl:xs.length<=1000)(h3:((xs.take (a+1)).drop st).length<=1000)(h4:(ns ((xs.take (a+1)).drop st)).sum<=1000000)(h2: ¬(((ns ((xs.take (a+1)).drop st)).sum:Nat):Int)<=rm):
 AS B A (BM (.whileLoop VA U_ [] (AR B.P 286 [] (L+323)))) [AI L [(Ej,J x),(Cr,.int (st:Int) k),(G3,.int rm u),(BA,.int (a:Int) ka)],AF x xs] (Az Dg) [AI L [(Ej,J x),(Cr,.int (st:Int) k),(G3,.int rm u),(BA,.int (a:Int) ka)],AF x xs]:=by
 obtain⟨_,_|_⟩:=B<;>exact rn O U (.g 17039361<|.cc (JP _ _ O U.l x xs hl) [1] λ(y0:Nat)=>.cc (IJ _ _ O U.l ↑a ↑xs.length ka y0 (by first|lia|assumption)) [] λYa=>.g 1107828736<|.fr λk2=>.cc (F_ _ _ O U.l a ka k2) [] λy3=>.al λa4=>.g 270466<|.cc (RN _ _ O U.l x a4 st k y3 (a+1) xs hl) [1,0] λy5=>.cc (Ve _ _ O U.l y5 (Cd st (LU (a+1) xs)) h3 h4) [0] λy6=>.g 68<|.cc (gN _ _ O U.l (↑(ns (Cd st (LU (a+1) xs))).sum) rm y6 u h2) [] λYa=>.fi () [3,1])
theorem n7(U:AA 20 A)(L x u a k ka st:Nat)(rm:Int)(xs:Aa)(h1: ¬(a:Int)<xs.length)(hl:xs.length<=1000):
 AS B A (BM (.whileLoop VA U_ [] (AR B.P 286 [] (L+323)))) [AI L [(Ej,J x),(Cr,.int (st:Int) k),(G3,.int rm u),(BA,.int (a:Int) ka)],AF x xs] (Az Dg) [AI L [(Ej,J x),(Cr,.int (st:Int) k),(G3,.int rm u),(BA,.int (a:Int) ka)],AF x xs]:=by
 obtain⟨_,_|_⟩:=B<;>exact rn O U (.g 17039361<|.cc (JP _ _ O U.l x xs hl) [1] λy0=>.cc (II _ _ O U.l ↑a ↑xs.length ka y0 h1) [] λYa=>.fi () [1,0])
theorem xm(U:AA 20 A)(L x y k st a q b bt:Nat)(xs:Aa)(ys:Aa)(hl:xs.length<=1000)(Mq:(xs.map iv).length<=1000)(mX:(ys.map iv).length<=1000)(hy:(ys.map iv).getLast?=some (.int (a:Int) k))(h1:(a:Int)<xs.length)(hx:(xs.map iv)[a]? =some (.int (b:Int) bt)):
 AS B A (BM (.whileLoop aU aT [] (AR B.P 293 [] (L+323)))) [AI L [(FQ,J x),(Cr,.int (st:Int) q),(Hr,J y)],AF x xs,AF y ys] (.again (.whileLoop aU aT [] (AR B.P 293 [] (L+323)))) [AI L [(FQ,J x),(Cr,.int (st:Int) q),(Hr,J y)],AF x xs,AE y (ys.map iv++[.int (b:Int) bt])]:=by
 obtain⟨_,_|_⟩:=B<;>exact rn O U (.g 65<|.fr λk0=>.cc (HB O U.l k0) [] λy1=>.g 274627<|.cc (JH _ _ O U.l y y1 (B0 iv ys) (.int (↑a) k) hy mX) [2] λYa=>.g 270336<|.cc (JP _ _ O U.l x xs hl) [2] λy3=>.cc (IJ _ _ O U.l ↑a ↑xs.length k y3 h1) [] λYa=>.g 4607460253827<|.fr λk5=>.cc (HB O U.l k5) [] λy6=>.g 270466<|.cc (JH _ _ O U.l y y6 (B0 iv ys) (.int (↑a) k) hy mX) [1] λYa=>.g 270466<|.cc (BZ O U.l x a k (B0 iv xs) (.int (↑b) bt) hx Mq) [1] λYa=>.cc (Do O U.l y (.int (↑b) bt) (B0 iv ys) mX) [1] λYa=>.fi () [2,1,0])
theorem sq(U:AA 20 A)(L x y k st a q:Nat)(xs:Aa)(ys:Aa)(hl:xs.length<=1000)(mX:(ys.map iv).length<=1000)(hy:(ys.map iv).getLast?=some (.int (a:Int) k))(h1: ¬(a:Int)<xs.length):
 AS B A (BM (.whileLoop aU aT [] (AR B.P 293 [] (L+323)))) [AI L [(FQ,J x),(Cr,.int (st:Int) q),(Hr,J y)],AF x xs,AF y ys] (Az Dg) [AI L [(FQ,J x),(Cr,.int (st:Int) q),(Hr,J y)],AF x xs,AF y ys]:=by
 obtain⟨_,_|_⟩:=B<;>exact rn O U (.g 65<|.fr λk0=>.cc (HB O U.l k0) [] λy1=>.g 274627<|.cc (JH _ _ O U.l y y1 (B0 iv ys) (.int (↑a) k) hy mX) [2] λYa=>.g 270336<|.cc (JP _ _ O U.l x xs hl) [2] λy3=>.cc (II _ _ O U.l ↑a ↑xs.length k y3 h1) [] λYa=>.fi () [2,0,0])
noncomputable def HT(sz:Ay)(st:Nat)(rm:Int):Nat->Nat->Nat
 |0,a=>a
 |r+1,a=>if((((sz.take (a+1)).drop st).sum:Nat):Int)<=rm then HT sz st rm r (a+1) else a
def Cq(sz:Ay)(st:Nat)(rm:Int):Nat:=HT sz st rm (sz.length-st) st
omit O
theorem Xf(xs:Aa)(u v:Nat):ns ((xs.take v).drop u)=((ns xs).take v).drop u:=by unfold ns;rw[Dk,F3]
theorem pQ(l:Ay)(u v:Nat):((l.take v).drop u).sum<=l.sum:=by
 have h1:(l.take v).sum<=l.sum:=by
  have:=congrArg List.sum (CQ v l)
  rw[G7] at this;lia
 have h2:((l.take v).drop u).sum<=(l.take v).sum:=by
  have:=congrArg List.sum (CQ u (l.take v))
  rw[G7] at this;lia
 lia
theorem Zy{B:Bx}(O:B.C.Ok){A:AL}(U:AA 21 A){L x u k st:Nat}{rm:Int}{xs:Aa}(hl:xs.length<=1000)(hs:(ns xs).sum<=1000000): ∀(r a ka:Nat),a+r=xs.length->
 AT B.C A (.whileLoop VA U_ [] (AR B.P 286 [] (L+323))) [AI L [(Ej,J x),(Cr,.int (st:Int) k),(G3,.int rm u),(BA,.int (a:Int) ka)],AF x xs]
  (λYa:Nat=>.ok .next) (λq=>[AI L [(Ej,J x),(Cr,.int (st:Int) k),(G3,.int rm u),(BA,.int ((HT (ns xs) st rm r a:Nat):Int) q)],AF x xs])
 |0,a,ka,h=>(AT.ends (n7 O (A:=A.under (.whileLoop VA U_ [] (AR B.P 286 [] (L+323)))) U.l.loop L x u a k ka st rm xs ADj hl)).weaken λYa=>⟨ka,rfl,λR s S=>S⟩
 |r+1,a,ka,h=>by
  have h3:((xs.take (a+1)).drop st).length<=1000:=by rw[A6,C5];lia
  have h4:(ns ((xs.take (a+1)).drop st)).sum<=1000000:=by rw[Xf];exact AK (pQ _ _ _) hs
  by_cases c:(((ns ((xs.take (a+1)).drop st)).sum:Nat):Int)<=rm
  ·have e:HT (ns xs) st rm (r+1) a=HT (ns xs) st rm r (a+1):=by rw[HT,<-Xf,if_pos c]
   rw[e];exact AT.NM (c':=λYa=>.whileLoop VA U_ [] (AR B.P 286 [] (L+323))) (v6 O (A:=A.under (.whileLoop VA U_ [] (AR B.P 286 [] (L+323)))) U.l.loop L x u a k ka st rm xs ADj hl h3 h4 c) (λYa=>rfl) λq=>Zy O U hl hs r (a+1) q ADj
  ·have e:HT (ns xs) st rm (r+1) a=a:=by rw[HT,<-Xf,if_neg c]
   rw[e]
   exact(AT.ends (n6 O (A:=A.under (.whileLoop VA U_ [] (AR B.P 286 [] (L+323)))) U.l.loop L x u a k ka st rm xs ADj hl h3 h4 c)).weaken λYa=>⟨ka,rfl,λR s S=>S⟩
include O
def Yu(U:AA 21 A)(L x u k st:Nat)(rm:Int)(xs:Aa)(hl:xs.length<=1000)(hs:(ns xs).sum<=1000000)(Mr:st<=xs.length):Ag B.C A where
 c:=.whileLoop VA U_ [] (AR B.P 286 [] (L+323))
 F:=[AI L [(Ej,J x),(Cr,.int (st:Int) k),(G3,.int rm u),(BA,.int (st:Int) k)],AF x xs]
 X:=Nat
 res:=λYa=>.ok .next
 led:=λq=>[AI L [(Ej,J x),(Cr,.int (st:Int) k),(G3,.int rm u),(BA,.int ((Cq (ns xs) st rm:Nat):Int) q)],AF x xs]
 ok:=by
  have:=Zy O U (L:=L) (x:=x) (u:=u) (k:=k) (st:=st) (rm:=rm) hl hs (xs.length-st) st k ADj
  unfold Cq;rw[show(ns xs).length=xs.length from AD _];exact this.call
structure UW(l:Ay) where
 ys:Aa
 ok:ns ys=l
noncomputable def GN(s:Ay):Nat->Nat->Ay
 |0,_=>[]
 |r+1,a=>if a<s.length then s.getD a 0::GN s r (s.getD a 0) else []
def BI(s:Ay)(a:Nat):Ay:=a::GN s (s.length-a) a
theorem qE(U:AA 21 A){L x y st q:Nat}{xs:Aa}(hl:xs.length<=500)(dN: ∀i,i<xs.length->i<(ns xs).getD i 0): ∀(r a k:Nat) (ys:Aa),xs.length<=a+r->ys.length+r<=900->(ys.map iv).getLast?=some (.int (a:Int) k)->
 AT B.C A (.whileLoop aU aT [] (AR B.P 293 [] (L+323))) [AI L [(FQ,J x),(Cr,.int (st:Int) q),(Hr,J y)],AF x xs,AF y ys]
  (λYa:UW (ns ys++GN (ns xs) r a)=>.ok .next) (λz=>[AI L [(FQ,J x),(Cr,.int (st:Int) q),(Hr,J y)],AF x xs,AF y z.ys]):=by
 intro r
 induction r using Nat.strongRecOn with
 |ind r ih=>
  intro a k ys h hy zL
  by_cases c:a<xs.length
  ·obtain⟨r,rfl⟩: ∃m,r=m+1:=⟨r-1,by lia⟩
   have hg:(ns xs).getD a 0=xs[a].1:=by unfold ns;rw[Ad,AQ,AJ c];rfl
   have hu:=dN a c;have e:GN (ns xs) (r+1) a=xs[a].1::GN (ns xs) r xs[a].1:=by
    rw[GN,if_pos (by unfold ns;rw[AD];exact c),hg]
   have hx:(xs.map iv)[a]? =some (.int (xs[a].1:Int) xs[a].2):=by rw[AQ,AJ c];rfl
   refine AT.NM (Y:=Unit) (c':=λYa=>.whileLoop aU aT [] (AR B.P 293 [] (L+323))) (xm O (A:=A.under (.whileLoop aU aT [] (AR B.P 293 [] (L+323)))) U.l.loop L x y k st a q xs[a].1 xs[a].2 xs ys ADj (by rw[AD];lia) (by rw[AD];lia) zL ADj hx) (λYa=>rfl) λYa=>?_
   have hp:ys.map iv++[Be (xs[a].1:Int) xs[a].2]=(ys++[xs[a]]).map iv:=by rw[AZ];rfl
   rw[hp]
   refine(ih r (IZ r) xs[a].1 xs[a].2 (ys++[xs[a]]) ADj (by rw[AX,CF];lia) (by rw[AZ,List.getLast?_append];rfl)).weaken λz=>⟨⟨z.ys,?_⟩,rfl,λR s S=>S⟩
   rw[z.ok,e];simp[ns]
  ·have e:GN (ns xs) r a=[]:=by
    cases r with
    |zero=>rfl
    |succ r=>rw[GN,if_neg (by unfold ns;rw[AD];exact c)]
   exact(AT.ends (sq O (A:=A.under (.whileLoop aU aT [] (AR B.P 293 [] (L+323)))) U.l.loop L x y k st a q xs ys ADj (by rw[AD];lia) zL ADj)).weaken λYa=>⟨⟨ys,by rw[e,Aj]⟩,rfl,λR s S=>S⟩
def Y9(U:AA 21 A)(L x y st q:Nat)(xs:Aa)(hl:xs.length<=500)(dN: ∀i,i<xs.length->i<(ns xs).getD i 0):Ag B.C A where
 c:=.whileLoop aU aT [] (AR B.P 293 [] (L+323))
 F:=[AI L [(FQ,J x),(Cr,.int (st:Int) q),(Hr,J y)],AF x xs,AE y [.int (st:Int) q]]
 X:=UW (BI (ns xs) st)
 res:=λYa=>.ok .next
 led:=λz=>[AI L [(FQ,J x),(Cr,.int (st:Int) q),(Hr,J y)],AF x xs,AF y z.ys]
 ok:=((qE O U (L:=L) (x:=x) (y:=y) (st:=st) (q:=q) hl dN (xs.length-st) st q [(st,q)] ADj (by simp;lia) rfl).weaken λz=>⟨⟨z.ys,by rw[z.ok];unfold BI;rw[show(ns xs).length=xs.length from AD _];rfl⟩,rfl,λR s S=>S⟩).call
theorem bI(U:AA 24 A)(L x st k u:Nat)(rm:Int)(xs:Aa)(hl:xs.length<=1000)(hs:(ns xs).sum<=1000000)(Mr:st<=xs.length):
 AC B.C A (Ac (A4 B.P 286) (AR B.P 286 [] (L+323))) [AI L [(Ej,J x),(Cr,.int (st:Int) k),(G3,.int rm u)],AF x xs]
  (λq:Nat=>.ret (.int ((Cq (ns xs) st rm:Nat):Int) q))
  (λq=>[AF x xs]):=Ix O U (.g 65<|.fr λk0=>.g 6145<|.cc (Yu O U.l L x u k st rm xs hl hs Mr) [0,0] λy1=>.g 65<|.fi (y1) [1])
def VY(U:AA 26 A)(x st k u:Nat)(rm:Int)(xs:Aa)(hl:xs.length<=1000)(hs:(ns xs).sum<=1000000)(Mr:st<=xs.length):Ag B.C A where
 c:=.call (.ref 286) ⟨[J x,.int (st:Int) k,.int rm u],[]⟩
 F:=[AF x xs]
 X:=Nat
 res:=λq=>.ok (.ret (.int ((Cq (ns xs) st rm:Nat):Int) q))
 led:=λq=>[AF x xs]
 ok:=EU O U [(Ej,J x),(Cr,.int (st:Int) k),(G3,.int rm u)]
  (λL=>BK (fl:=λq:Nat=>.ret (.int ((Cq (ns xs) st rm:Nat):Int) q)) (bI O (AA.deeper U.l) L x st k u rm xs hl hs Mr))
structure Gk(l:Ay) where
 a:Nat
 ys:Aa
 ok:ns ys=l
theorem fq(U:AA 24 A)(L x st k:Nat)(xs:Aa)(hl:xs.length<=500)(dN: ∀i,i<xs.length->i<(ns xs).getD i 0):
 AC B.C A (Ac (A4 B.P 293) (AR B.P 293 [] (L+323))) [AI L [(FQ,J x),(Cr,.int (st:Int) k)],AF x xs]
  (λq:Gk (BI (ns xs) st)=>B6 (J q.a))
  (λq=>[AF q.a q.ys,AF x xs]):=Ix O U (.g 65<|.al λa0=>.fr λk1=>.g 6210<|.cc (Y9 O U.l L x a0 st k xs hl dN) [1,1,0] λ(y2:UW (BI (ns xs) st))=>.g 65<|.fi (⟨a0,y2.ys,y2.ok⟩) [2,1])
def Y8(U:AA 26 A)(x st k:Nat)(xs:Aa)(hl:xs.length<=500)(dN: ∀i,i<xs.length->i<(ns xs).getD i 0):Ag B.C A where
 c:=.call (.ref 293) ⟨[J x,.int (st:Int) k],[]⟩
 F:=[AF x xs]
 X:=Gk (BI (ns xs) st)
 res:=λq=>.ok (.ret (J q.a))
 led:=λq=>[AF q.a q.ys,AF x xs]
 ok:=EU O U [(FQ,J x),(Cr,.int (st:Int) k)]
  (λL=>BK (fl:=λq:Gk (BI (ns xs) st)=>.ret (J q.a)) (fq O (AA.deeper U.l) L x st k xs hl dN))
noncomputable abbrev Hh(ifs:List Expr)(env:Env):Sem Bool:=
 ID ifs true λc r=>if r=true then do let ok<-isTrue c env (Bf c env);pure (DY ok) else pure (DY r)
omit O
section
variable{C:Cx}{A:AL}{F:AN}{env:Env}
theorem cW:AC C A (Hh [] env) F (λYa:Unit=>true) (λYa=>F):=λR s S=>AP ⟨(),rfl,S⟩
theorem Jc{c:Expr}{b:Bool}(h:AC C A (isTrue c env (Bf c env)) F (λYa:Unit=>b) (λYa=>F)):AC C A (Hh [c] env) F (λYa:Unit=>b) (λYa=>F):=λR s S=>by
 unfold Hh;rw[EP];refine AB ?_;refine iT rfl ?_;refine AB (AC.wp h S λYa s₁ S₁=>?_);exact AP (AP ⟨(),rfl,S₁⟩)
end
def Ep(C:Cx)(A:AL)(ifs:List Expr)(elt:Expr)(env:Env)(F:AN){Y:Type}(w:Y->DP)(led:Y->AN):Prop:=
 (AC C A (Hh ifs env) F (λYa:Unit=>true) (λYa=>F)/\ ∃u:Y->Value,(∀y,w y=some (u y))/\AC C A (Bf elt env) F u led)∨
 (AC C A (Hh ifs env) F (λYa:Unit=>false) (λYa=>F)/\ ∃y,w y=none/\led y=F)
section
variable{C:Cx}{A:AL}{env:Env}{ifs:List Expr}{elt:Expr}
theorem Ep.to{F F':AN}{Y:Type}{w:Y->DP}{led Cy:Y->AN}(h:Ep C A ifs elt env F w led)(G:AN)(p:(F++G).Perm F')(q: ∀y,(led y++G).Perm (Cy y))(hn: ∀y,led y=F->Cy y=F'):Ep C A ifs elt env F' w Cy:=by
 have cv: ∀b,AC C A (Hh ifs env) F (λYa:Unit=>b) (λYa=>F)->AC C A (Hh ifs env) F' (λYa:Unit=>b) (λYa=>F'):=λb hc=>
  ((hc.frame G).pre λR s S=>S.perm (p.symm.append_right R)).post λYa R s S=>S.perm (p.append_right R)
 rcases h with⟨hc,u,hu,he⟩|⟨hc,y,hw,hl⟩
 ·exact .inl ⟨cv _ hc,u,hu,((he.frame G).pre λR s S=>S.perm (p.symm.append_right R)).post λy R s S=>S.perm ((q y).append_right R)⟩
 ·exact .inr ⟨cv _ hc,y,hw,hn y hl⟩
theorem Ep.mid{d:Bi}{I G:AN}{Y:Type}{w:Y->DP}{led:Y->AN}(h:Ep C A ifs elt env ([d]++G) w (λy=>[d]++led y)):Ep C A ifs elt env ([d]++(I++G)) w (λy=>[d]++(I++led y)):=
 h.to I (by show(d::(G++I)).Perm (d::(I++G));exact .cons _ A9) (λy=>by show(d::(led y++I)).Perm (d::(I++led y));exact .cons _ A9) λy e=>by
  have e':led y=G:=(Ox e).2;rw[e']
theorem Ep.tY{d e:Bi}{i:Bi}{I G:AN}{Y:Type}{w:Y->DP}{led:Y->AN}(h:Ep C A ifs elt env ([d,e]++G) w (λy=>[d,e]++led y))(hI:I=[i]:=by rfl):Ep C A ifs elt env ([d]++([i,e]++G)) w (λy=>[d]++([i,e]++led y)):=
 h.to [i] (by show(d::e::(G++[i])).Perm (d::i::e::G);exact .cons _ ((BY _ A9).trans (.swap _ _ _)))
  (λy=>by show(d::e::(led y++[i])).Perm (d::i::e::led y);exact .cons _ ((BY _ A9).trans (.swap _ _ _))) λy q=>by
  have e':led y=G:=(Ox (Ox q).2).2;rw[e']
end
section
variable{B:Bx}{A:AL}{elt Dy iter:Expr}{ifs:List Expr}{sc:Scope}{pos:Pos}{it:Value}{env:Env}{acc:Nat}{dv:BC->Bi}{n:Nat}{V:Nat->Type}{v: ∀j,V j->Value}{It:Nat->AN}{Src:AN}{nm:Str}{S:Nat->Type}{G: ∀j,S j->AN}{out: ∀j,S j->Ak}
abbrev EF(elt Dy iter:Expr)(ifs:List Expr)(sc:Scope)(pos:Pos)(it:Value)(acc:Nat)(env:Env):Code:=.compLoop (.ListComp elt [⟨Dy,iter,ifs,0⟩] sc pos) 0 it (J acc) env
def tm(nm:Str)(V:Nat->Type)(v: ∀j,V j->Value)(l:BC):Prop:=l=[]∨ ∃i,∃y:V i,l=[(nm,v i y)]
theorem bV(O:B.C.Ok)(U:AA 3 A){j:Nat}{σ:S j}{l:BC}{Y:V j->Type}{nxt: ∀x,Y x->S (j+1)}{w: ∀x,Y x->DP}{Z:Type}{res:Z->Result}{led:Z->AN}
 (NL:AC B.C (A.under (EF elt Dy iter ifs sc pos it acc env)) (FK it) (It j) (λx:V j=>some (v j x)) (λYa=>It (j+1)))
 (iL: ∀x:V j,AC B.C (A.under (EF elt Dy iter ifs sc pos it acc env)) (Fw Dy it (v j x)) [] (λYa:Unit=>()) (λYa=>[]))
 (Gj: ∀x:V j,AC B.C (A.under (EF elt Dy iter ifs sc pos it acc env)) (Bo Dy env (v j x)) [dv l] (λYa:Unit=>()) (λYa=>[dv [(nm,v j x)]]))
 (FO: ∀x:V j,Ep B.C (A.under (EF elt Dy iter ifs sc pos it acc env)) ifs elt env ([dv [(nm,v j x)]]++(It (j+1)++G j σ)) (λy:Y x=>w x y) (λy=>[dv [(nm,v j x)]]++(It (j+1)++G (j+1) (nxt x y))))
 (hlen:(out j σ).length<=1000)
 (vD: ∀(x:V j) (y:Y x),AT B.C A (EF elt Dy iter ifs sc pos it acc env) ([dv [(nm,v j x)],AE acc (out j σ++(w x y).toList)]++(It (j+1)++G (j+1) (nxt x y))) res led):
 AT B.C A (EF elt Dy iter ifs sc pos it acc env) ([dv l,AE acc (out j σ)]++(It j++G j σ)) res led:=λR s S0=>by
 refine BL ?_;show BN _ _ ((J2 (.ListComp elt [⟨Dy,iter,ifs,0⟩] sc pos) 0 it (J acc) env).onRaise (λx=>do E0 x env;EQ x)) _ _ s;refine DT (Av ?_ (λYa Ya q=>q) (λYa Ya (q:False)=>q.elim));unfold J2
 dsimp only[List.getElem?_cons_zero]
 refine AB (m:=Ke _) (DU ?_);refine iN ADm ?_
 have S1:St B.C (It j++([dv l,AE acc (out j σ)]++G j σ++R)) s:=S0.perm (by
  show(dv l::AE acc (out j σ)::((It j++G j σ)++R)).Perm (It j++(dv l::AE acc (out j σ)::(G j σ++R)))
  refine .symm (List.perm_middle.trans (.cons _ (List.perm_middle.trans (.cons _ ?_))));rw[AG])
 refine AB (AC.wp NL S1 λx s₁ S₁=>?_)
 dsimp only
 refine AB (AC.wp (iL x) S₁ λYa s₂ S₂=>?_);have S2:St B.C ([dv l]++(AE acc (out j σ)::(It (j+1)++G j σ++R))) s₂:=S₂.perm (by
  show(It (j+1)++(dv l::AE acc (out j σ)::(G j σ++R))).Perm (dv l::AE acc (out j σ)::(It (j+1)++G j σ++R))
  refine List.perm_middle.trans (.cons _ (List.perm_middle.trans (.cons _ ?_)));rw[AG])
 refine AB (AC.wp (Gj x) S2 λYa s₃ S₃=>?_);have S3:St B.C (([dv [(nm,v j x)]]++(It (j+1)++G j σ))++(AE acc (out j σ)::R)) s₃:=S₃.perm (by
  show(dv [(nm,v j x)]::AE acc (out j σ)::((It (j+1)++G j σ)++R)).Perm (dv [(nm,v j x)]::((It (j+1)++G j σ)++(AE acc (out j σ)::R)))
  exact .cons _ List.perm_middle.symm)
 have s6: ∀(y:Y x) s',St B.C (([dv [(nm,v j x)]]++(It (j+1)++G (j+1) (nxt x y)))++(AE acc (out j σ++(w x y).toList)::R)) s'->BN B.C.M (A.under (EF elt Dy iter ifs sc pos it acc env)) (again (EF elt Dy iter ifs sc pos it acc env))
  (λr s'=>match r with|.done f=> ∃x,Cs f=res x/\St B.C (led x++R) s'|.again c'=>c'.quiet=true/\Kc B.C.M A c' (λr s'=> ∃x,r=res x/\St B.C (led x++R) s') s') (λYa Ya=>False) s':=λy s' S'=>by
  refine AP ⟨rfl,vD x y R s' (S'.perm ?_)⟩
  show(dv [(nm,v j x)]::((It (j+1)++G (j+1) (nxt x y))++(AE acc _::R))).Perm (dv [(nm,v j x)]::AE acc _::((It (j+1)++G (j+1) (nxt x y))++R))
  exact .cons _ BH
 rcases FO x with⟨hc,u,hu,he⟩|⟨hc,y,hw,hl⟩
 ·refine AB (AC.wp hc S3 λYa s₄ S₄=>?_)
  refine iT rfl ?_;refine AB (AB (AC.wp he S₄ λy s₅ S₅=>?_));have S5:St B.C ([AE acc (out j σ)]++(([dv [(nm,v j x)]]++(It (j+1)++G (j+1) (nxt x y)))++R)) s₅:=S₅.perm BH;refine AB (AC.wp (LH (Do O U.l.loop acc (u y) (out j σ) hlen).ok) S5 λYa s₆ S₆=>?_);refine AP ?_;refine s6 y s₆ ?_;rw[show w x y=some (u y) from hu y];exact St.perm S₆ (show(AE acc (out j σ++[u y])::(([dv [(nm,v j x)]]++(It (j+1)++G (j+1) (nxt x y)))++R)).Perm _ from List.perm_middle.symm)
 ·refine AB (AC.wp hc S3 λYa s₄ S₄=>?_)
  rw[if_neg BP];refine AB (m:=pure _) (AP ?_);refine s6 y s₄ ?_;rw[show w x y=none from hw,show [dv [(nm,v j x)]]++(It (j+1)++G (j+1) (nxt x y))=_ from hl];show St B.C (_++(AE acc (out j σ++[])::_)) _;rw[Aj];exact S₄
theorem Su(O:B.C.Ok)(U:AA 3 A){Y: ∀j,V j->S j->Type}{nxt: ∀j x σ,Y j x σ->S (j+1)}{w: ∀j x σ,Y j x σ->DP}
 (NL: ∀j,j<n->AC B.C (A.under (EF elt Dy iter ifs sc pos it acc env)) (FK it) (It j) (λx:V j=>some (v j x)) (λYa=>It (j+1)))
 (Vl:AC B.C (A.under (EF elt Dy iter ifs sc pos it acc env)) (FK it) (It n) (λYa:Unit=>none) (λYa=>Src))
 (iL: ∀j (x:V j),AC B.C (A.under (EF elt Dy iter ifs sc pos it acc env)) (Fw Dy it (v j x)) [] (λYa:Unit=>()) (λYa=>[]))
 (Gj: ∀j (x:V j) l,tm nm V v l->AC B.C (A.under (EF elt Dy iter ifs sc pos it acc env)) (Bo Dy env (v j x)) [dv l] (λYa:Unit=>()) (λYa=>[dv [(nm,v j x)]]))
 (FO: ∀j,j<n-> ∀(x:V j) (σ:S j),Ep B.C (A.under (EF elt Dy iter ifs sc pos it acc env)) ifs elt env ([dv [(nm,v j x)]]++(It (j+1)++G j σ)) (λy:Y j x σ=>w j x σ y) (λy=>[dv [(nm,v j x)]]++(It (j+1)++G (j+1) (nxt j x σ y))))
 (Mm: ∀j x σ y,out (j+1) (nxt j x σ y)=out j σ++(w j x σ y).toList) (hlen: ∀j σ,(out j σ).length<=1000):
 ∀(r j:Nat) (σ:S j) (l:BC),j+r=n->tm nm V v l->(r=0-> ∃i,∃y:V i,l=[(nm,v i y)])->
 AT B.C A (EF elt Dy iter ifs sc pos it acc env) ([dv l,AE acc (out j σ)]++(It j++G j σ)) (λYa:S n×(Σ i,V i)=>.ok .next) (λy=>[dv [(nm,v y.2.1 y.2.2)],AE acc (out n y.1)]++(Src++G n y.1))
 |0,j,σ,l,h,hl,hz=>by
  obtain rfl:j=n:=by lia
  obtain⟨i,y,rfl⟩:=hz rfl
  refine(AT.Ss (X:=Unit) (led:=λYa=>Src++(G j σ++[dv [(nm,v i y)],AE acc (out j σ)])) (g0:=⟨Dy,iter,ifs,0⟩) rfl rfl ?_).weaken λYa=>⟨(σ,⟨i,y⟩),rfl,λR s S=>?_⟩
  ·refine(Vl.frame (G j σ++[dv [(nm,v i y)],AE acc (out j σ)])).pre λR s S=>S.perm (A8 R ?_)
   refine List.perm_append_comm.trans ?_;rw[AG]
  ·refine S.perm ?_
   show((Src++(G j σ++[dv [(nm,v i y)],AE acc (out j σ)]))++R).Perm (([dv [(nm,v i y)],AE acc (out j σ)]++(Src++G j σ))++R)
   rw[<-AG];exact A8 R A9
 |r+1,j,σ,l,h,hl,_=>by
  refine bV O U (Y:=λx=>Y j x σ) (nxt:=λx=>nxt j x σ) (w:=λx=>w j x σ) (NL j ADj) (iL j) (λx=>Gj j x l hl) (λx=>FO j ADj x σ) (hlen j σ) λx y=>?_
  have:=Su O U NL Vl iL Gj FO Mm hlen r (j+1) (nxt j x σ y) [(nm,v j x)] ADj (.inr ⟨j,x,rfl⟩) λYa=>⟨j,x,rfl⟩
  rw[Mm] at this;exact this
theorem KC(O:B.C.Ok)(U:AA 3 A){Y: ∀j,V j->S j->Type}{nxt: ∀j x σ,Y j x σ->S (j+1)}{w: ∀j x σ,Y j x σ->DP}
 (u6:AC B.C (A.under (.compStart (.ListComp elt [⟨Dy,iter,ifs,0⟩] sc pos) 0 it (J acc) env)) (Mh it) (It 0) (λYa:Unit=>it) (λYa=>It 0))
 (NL: ∀j,j<n->AC B.C (A.under (EF elt Dy iter ifs sc pos it acc env)) (FK it) (It j) (λx:V j=>some (v j x)) (λYa=>It (j+1)))
 (Vl:AC B.C (A.under (EF elt Dy iter ifs sc pos it acc env)) (FK it) (It n) (λYa:Unit=>none) (λYa=>Src))
 (iL: ∀j (x:V j),AC B.C (A.under (EF elt Dy iter ifs sc pos it acc env)) (Fw Dy it (v j x)) [] (λYa:Unit=>()) (λYa=>[]))
 (Gj: ∀j (x:V j) l,tm nm V v l->AC B.C (A.under (EF elt Dy iter ifs sc pos it acc env)) (Bo Dy env (v j x)) [dv l] (λYa:Unit=>()) (λYa=>[dv [(nm,v j x)]]))
 (FO: ∀j,j<n-> ∀(x:V j) (σ:S j),Ep B.C (A.under (EF elt Dy iter ifs sc pos it acc env)) ifs elt env ([dv [(nm,v j x)]]++(It (j+1)++G j σ)) (λy:Y j x σ=>w j x σ y) (λy=>[dv [(nm,v j x)]]++(It (j+1)++G (j+1) (nxt j x σ y))))
 (Mm: ∀j x σ y,out (j+1) (nxt j x σ y)=out j σ++(w j x σ y).toList) (hlen: ∀j σ,(out j σ).length<=1000) (σ:S 0) (h0:out 0 σ=[]) (XT:n≠0):
 Bv B.C A (.compStart (.ListComp elt [⟨Dy,iter,ifs,0⟩] sc pos) 0 it (J acc) env) ([dv [],AE acc []]++(It 0++G 0 σ)) (λYa:S n×(Σ i,V i)=>.ok .next) (λy=>[dv [(nm,v y.2.1 y.2.2)],AE acc (out n y.1)]++(Src++G n y.1)):=by
 refine AT.call (AT.compStart (g0:=⟨Dy,iter,ifs,0⟩) rfl rfl ?_ ?_)
 ·refine((u6.frame ([dv [],AE acc []]++G 0 σ)).pre λR s S=>S.perm (A8 R ?_)).post λYa R s S=>S.perm (A8 R ?_)
  ·rw[<-AG,<-AG]
   exact A8 _ A9
  ·rw[<-AG,<-AG]
   exact A8 _ A9
 ·have:=Su O U NL Vl iL Gj FO Mm hlen n 0 σ [] ADj (.inl rfl) (λh=>absurd h XT)
  rw[h0] at this;exact this
end
section
variable{B:Bx}{A:AL}{elt iter:Expr}{x0:Str}{p0:Pos}{ifs:List Expr}{sc:Scope}{pos:Pos}{env:Env}{D acc a c:Nat}{S:Nat->Type}{G: ∀j,S j->AN}{out: ∀j,S j->Ak}
theorem Ye(O:B.C.Ok)(U:AA 7 A){n:Nat}{Y: ∀j,Nat->S j->Type}{nxt: ∀j x σ,Y j x σ->S (j+1)}{w: ∀j x σ,Y j x σ->DP}
 (Gj: ∀A',AA 6 A'-> ∀(j k:Nat) l,(l=[]∨ ∃i m:Nat,l=[(x0,Be (i:Int) m)])->AC B.C A' (Bo (.Name x0 p0) env (.int (j:Int) k)) [As D l] (λYa:Unit=>()) (λYa=>[As D [(x0,.int (j:Int) k)]]))
 (FO: ∀A',AA 6 A'-> ∀j,j<n-> ∀(x:Nat) (σ:S j),Ep B.C A' ifs elt env ([As D [(x0,.int (j:Int) x)]]++G j σ) (λy:Y j x σ=>w j x σ y) (λy=>[As D [(x0,.int (j:Int) x)]]++G (j+1) (nxt j x σ y)))
 (Mm: ∀j x σ y,out (j+1) (nxt j x σ y)=out j σ++(w j x σ y).toList) (hlen: ∀j σ,(out j σ).length<=1000) (σ:S 0) (h0:out 0 σ=[]) (XT:n≠0):
 Bv B.C A (.compStart (.ListComp elt [⟨.Name x0 p0,iter,ifs,0⟩] sc pos) 0 (J a) (J acc) env) ([As D [],AE acc [],Fj a ((0:Nat):Int) (n:Int) 1]++G 0 σ) (λYa:S n×Nat×Nat=>.ok .next) (λy=>[As D [(x0,.int (y.2.1:Int) y.2.2)],AE acc (out n y.1)]++G n y.1):=by
 have hL:AA 6 (A.under (EF elt (.Name x0 p0) iter ifs sc pos (J a) acc env)):=U.loop;refine AC.weaken (KC (n:=n) (V:=λYa=>Nat) (v:=λj k=>.int (j:Int) k) (It:=λj=>[Fj a (j:Int) ((n-j:Nat):Int) 1]) (Src:=[]) (nm:=x0) (dv:=As D) (S:=S) (G:=G) (out:=out) O U.l (Y:=Y) (nxt:=nxt) (w:=w)
  (by have e:=Z5 O (A:=A.under (.compStart (.ListComp elt [⟨.Name x0 p0,iter,ifs,0⟩] sc pos) 0 (J a) (J acc) env)) U.l.loop a ((0:Nat):Int) ((n-0:Nat):Int) 1
      exact e)
  (λj hj=>by
   have e:=T_ O hL.l a j (n-j-1);rw[show n-j-1+1=n-j from by lia,show n-j-1=n-(j+1) from by lia] at e;exact e)
  (by have e:=Xn O hL.l a n 1
      rw[show(n-n:Nat)=0 from Qb n];exact e)
  (λj x=>IV)
  (λj x l hl=>Gj _ hL j x l (hl.imp id λ⟨i,y,e⟩=>⟨i,y,e⟩))
  (λj hj x σ=>(FO _ hL j hj x σ).mid) Mm hlen σ h0 XT) λy=>⟨(y.1,y.2.1,y.2.2),rfl,λR s S=>S⟩
theorem bT(O:B.C.Ok)(U:AA 7 A){xs:Ak}{K:Value->Prop}(hK: ∀v∈xs,K v){Y: ∀j,Unit->S j->Type}{nxt: ∀j x σ,Y j x σ->S (j+1)}{w: ∀j x σ,Y j x σ->DP}
 (Gj: ∀A',AA 6 A'-> ∀v,K v-> ∀l,(l=[]∨ ∃u,K u/\l=[(x0,u)])->AC B.C A' (Bo (.Name x0 p0) env v) [As D l] (λYa:Unit=>()) (λYa=>[As D [(x0,v)]]))
 (FO: ∀A',AA 6 A'-> ∀j v,xs[j]? =some v-> ∀(σ:S j),Ep B.C A' ifs elt env ([As D [(x0,v)],AE c xs]++G j σ) (λy:Y j () σ=>w j () σ y) (λy=>[As D [(x0,v)],AE c xs]++G (j+1) (nxt j () σ y)))
 (Mm: ∀j x σ y,out (j+1) (nxt j x σ y)=out j σ++(w j x σ y).toList) (hlen: ∀j σ,(out j σ).length<=1000) (σ:S 0) (h0:out 0 σ=[]) (hx:xs≠[]):
 Bv B.C A (.compStart (.ListComp elt [⟨.Name x0 p0,iter,ifs,0⟩] sc pos) 0 (J a) (J acc) env) ([As D [],AE acc [],BQ a c 0,AE c xs]++G 0 σ) (λYa:S xs.length×{u:Value//K u}=>.ok .next) (λy=>[As D [(x0,y.2.1)],AE acc (out xs.length y.1),AE c xs]++G xs.length y.1):=by
 have hL:AA 6 (A.under (EF elt (.Name x0 p0) iter ifs sc pos (J a) acc env)):=U.loop;obtain⟨x,r,rfl⟩: ∃x r,xs=x::r:=by cases xs with|nil=>exact absurd rfl hx|cons x r=>exact⟨x,r,rfl⟩
 have hg: ∀j,j<(x::r).length->(x::r)[j]? =some ((x::r).getD j x):=λj hj=>by rw[Ad,AJ hj];rfl
 have dG: ∀j,K ((x::r).getD j x):=λj=>by
  by_cases hj:j<(x::r).length
  ·exact hK _ (B4 (hg j hj))
  ·rw[Ad,B7 ADj];exact hK _ (.head _)
 refine AC.pre (F:=[As D [],AE acc []]++([BQ a c 0,AE c (x::r)]++G 0 σ)) (AC.weaken (res:=λYa:S (x::r).length×(Σ _:Nat,Unit)=>.ok .next) (led:=λy=>[As D [(x0,(x::r).getD y.2.1 x)],AE acc (out (x::r).length y.1)]++([AE c (x::r)]++G (x::r).length y.1)) ?_ λy=>⟨(y.1,⟨_,dG y.2.1⟩),rfl,λR s S=>S⟩) λR s S=>S
 have:=KC (n:=(x::r).length) (V:=λYa=>Unit) (v:=λj _=>(x::r).getD j x) (It:=λj=>[BQ a c j,AE c (x::r)]) (Src:=[AE c (x::r)]) (nm:=x0) (dv:=As D) (S:=S) (G:=G) (out:=out) (elt:=elt) (Dy:=.Name x0 p0) (iter:=iter) (ifs:=ifs) (sc:=sc) (pos:=pos) (it:=J a) (env:=env) (acc:=acc) O U.l (Y:=Y) (nxt:=nxt) (w:=w)
  (by have e:=NO O (A:=A.under (.compStart (.ListComp elt [⟨.Name x0 p0,iter,ifs,0⟩] sc pos) 0 (J a) (J acc) env)) U.l.loop a c 0
      exact e.frame [AE c (x::r)])
  (λj hj=>by
   have e:=QH O hL.l a c j (x::r) _ (hg j hj);exact e)
  (by have e:=N_ O hL.l a c (x::r).length (x::r) (Am _)
      exact e)
  (λj x=>IV)
  (λj x l hl=>Gj _ hL _ (dG j) l (hl.imp id λ⟨i,y,e⟩=>⟨_,dG i,e⟩))
  (λj hj x σ=>(FO _ hL j _ (hg j hj) σ).tY (I:=[BQ a c (j+1)])) Mm hlen σ h0 ADn
 exact this
end
noncomputable def Hp{α:Type}(f:Nat->List α)(j:Nat):List α:=(Ah j).flatMap f
theorem FJ{α:Type}(f:Nat->List α)(j:Nat):Hp f (j+1)=Hp f j++f j:=by
 unfold Hp;rw[List.range_succ,JC];simp
theorem WM{α:Type}{f:Nat->List α}{n:Nat}(h1: ∀j,(f j).length<=1)(h2: ∀j,n<=j->f j=[]): ∀j,(Hp f j).length<=n:=by
 have: ∀j,(Hp f j).length<=min j n:=by
  intro j
  induction j with
  |zero=>simp[Hp]
  |succ j ih=>
   rw[FJ,AX]
   by_cases hj:n<=j
   ·rw[h2 j hj];simp;lia
   ·have:=h1 j;lia
 intro j;exact AK (this j) (Nat.min_le_right _ _)
def Sd(C:Cx)(A:AL)(ifs:List Expr)(elt:Expr)(env:Env)(F:AN)(l:Ay):Prop:=
 (∃v:Nat,l=[v]/\AC C A (Hh ifs env) F (λYa:Unit=>true) (λYa=>F)/\AC C A (Bf elt env) F (λk:Nat=>Be (v:Int) k) (λYa=>F))∨
 (l=[]/\AC C A (Hh ifs env) F (λYa:Unit=>false) (λYa=>F))
section
variable{B:Bx}{A:AL}{elt iter:Expr}{x0:Str}{p0:Pos}{ifs:List Expr}{sc:Scope}{pos:Pos}{env:Env}{D acc a c:Nat}{G:AN}
theorem eg{a b:Aa}{l m:Ay}(h:ns a=l)(h2:ns b=m):ns (a++b)=l++m:=by rw[<-h,<-h2];unfold ns;rw[AZ]
theorem lm{A':AL}{F:AN}{l:Ay}(h:Sd B.C A' ifs elt env F l):Ep B.C A' ifs elt env F (λy:UW l=>(y.ys.map iv).head?) (λYa=>F):=by
 rcases h with⟨v,rfl,hc,he⟩|⟨rfl,hc⟩
 ·refine .inl ⟨hc,λy=>((y.ys.map iv).head?).getD .none,λy=>?_,he.weaken λk=>⟨⟨[(v,k)],rfl⟩,rfl,λR s S=>S⟩⟩
  obtain⟨q,hq⟩:=y;cases q with
  |nil=>cases hq
  |cons a r=>rfl
 ·exact .inr ⟨hc,⟨[],rfl⟩,rfl,rfl⟩
theorem eX{l:Ay}(y:UW l){n:Nat}(h:l.length<=n):y.ys.length<=n:=by rw[<-y.ok] at h;unfold ns at h;rwa [AD] at h
theorem mO{l:Ay}(h1:l.length<=1)(y:UW l):y.ys.map iv=((y.ys.map iv).head?).toList:=by
 obtain⟨q,hq⟩:=y;have hl:q.length<=1:=by rw[<-hq] at h1;unfold ns at h1;rwa [AD] at h1
 match q,hl with
 |[],_=>rfl
 |[a],_=>rfl
structure Qj(l:Ay) where
 ys:Aa
 ok:ns ys=l
 k:Nat
 t:Nat
theorem Wo(O:B.C.Ok)(U:AA 7 A){n:Nat}{f:Nat->Ay}(dF: ∀j,(f j).length<=1)(ut: ∀j,n<=j->f j=[])(hn:n<=1000)(XT:n≠0)
 (Gj: ∀A',AA 6 A'-> ∀(j k:Nat) l,(l=[]∨ ∃i m:Nat,l=[(x0,Be (i:Int) m)])->AC B.C A' (Bo (.Name x0 p0) env (.int (j:Int) k)) [As D l] (λYa:Unit=>()) (λYa=>[As D [(x0,.int (j:Int) k)]]))
 (FO: ∀A',AA 6 A'-> ∀j,j<n-> ∀(x:Nat),Sd B.C A' ifs elt env ([As D [(x0,.int (j:Int) x)]]++G) (f j)):
 Bv B.C A (.compStart (.ListComp elt [⟨.Name x0 p0,iter,ifs,0⟩] sc pos) 0 (J a) (J acc) env) ([As D [],AE acc [],Fj a ((0:Nat):Int) (n:Int) 1]++G) (λYa:Qj (Hp f n)=>.ok .next) (λy=>[As D [(x0,.int (y.k:Int) y.t)],AF acc y.ys]++G):=by
 refine AC.weaken (Ye (S:=λj=>UW (Hp f j)) (G:=λYa Ya=>G) (out:=λYa σ=>σ.ys.map iv) (Y:=λj _ _=>UW (f j)) (nxt:=λj _ σ y=>⟨σ.ys++y.ys,?_⟩) (w:=λj _ _ y=>(y.ys.map iv).head?) O U Gj (λA' h j hj x σ=>lm (FO A' h j hj x)) (λj x σ y=>?_) (λj σ=>?_) ⟨[],rfl⟩ rfl XT) λy=>⟨⟨y.1.ys,y.1.ok,y.2.1,y.2.2⟩,rfl,λR s S=>S⟩
 ·rw[FJ];exact eg σ.ok y.ok
 ·show(σ.ys++y.ys).map iv=_
  rw[AZ];exact congrArg (σ.ys.map iv++ ·) (mO (dF j) y)
 ·rw[AD]
  exact AK (eX σ (WM dF ut j)) hn
theorem Io(O:B.C.Ok)(U:AA 7 A){xs:Aa}{f:Nat->Ay}(dF: ∀j,(f j).length<=1)(ut: ∀j,xs.length<=j->f j=[])(hn:xs.length<=1000)(hx:xs≠[])
 (Gj: ∀A',AA 6 A'-> ∀(j k:Nat) l,(l=[]∨ ∃i m:Nat,l=[(x0,Be (i:Int) m)])->AC B.C A' (Bo (.Name x0 p0) env (.int (j:Int) k)) [As D l] (λYa:Unit=>()) (λYa=>[As D [(x0,.int (j:Int) k)]]))
 (FO: ∀A',AA 6 A'-> ∀(j v k:Nat),xs[j]? =some (v,k)->Sd B.C A' ifs elt env ([As D [(x0,.int (v:Int) k)],AF c xs]++G) (f j)):
 Bv B.C A (.compStart (.ListComp elt [⟨.Name x0 p0,iter,ifs,0⟩] sc pos) 0 (J a) (J acc) env) ([As D [],AE acc [],BQ a c 0,AF c xs]++G) (λYa:Qj (Hp f xs.length)=>.ok .next) (λy=>[As D [(x0,.int (y.k:Int) y.t)],AF acc y.ys,AF c xs]++G):=by
 have:=bT (elt:=elt) (iter:=iter) (x0:=x0) (p0:=p0) (ifs:=ifs) (sc:=sc) (pos:=pos) (env:=env) (D:=D) (acc:=acc) (a:=a) (c:=c) (xs:=xs.map iv) (K:=λv=> ∃i k:Nat,v=.int (i:Int) k) (S:=λj=>UW (Hp f j)) (G:=λYa Ya=>G) (out:=λYa σ=>σ.ys.map iv) (Y:=λj _ _=>UW (f j)) (nxt:=λj _ σ y=>⟨σ.ys++y.ys,by rw[FJ];exact eg σ.ok y.ok⟩) (w:=λj _ _ y=>(y.ys.map iv).head?) O U
  (λv hv=>by obtain⟨q,_,rfl⟩:=List.mem_map.mp hv;exact⟨_,_,rfl⟩)
  (λA' h v ⟨i,k,e⟩ l hl=>by subst e;exact Gj A' h i k l (hl.imp id λ⟨u,⟨i,k,e⟩,e'⟩=>⟨i,k,by subst e;exact e'⟩))
  (λA' h j v hv σ=>by
   rw[AQ] at hv;cases hj:xs[j]? with
   |none=>rw[hj] at hv;cases hv
   |some q=>rw[hj] at hv;cases hv;exact lm (FO A' h j q.1 q.2 hj))
  (λj x σ y=>by
   show(σ.ys++y.ys).map iv=_
   rw[AZ];exact congrArg (σ.ys.map iv++ ·) (mO (dF j) y))
  (λj σ=>by
   rw[AD];exact AK (eX σ (WM dF ut j)) hn) ⟨[],rfl⟩ rfl (by simpa using hx)
 rw[AD] at this;refine AC.weaken this λy=>?_;obtain⟨y1,u,i,k,e⟩:=y;subst e;exact⟨⟨y1.ys,y1.ok,i,k⟩,rfl,λR s S=>S⟩
end
noncomputable abbrev AW(a:Nat)(v:Value):Bi:=.one (a+323) (.ex ⟨.type "cell",none,.cell (some v),⟨[]⟩⟩)
abbrev DL:Expr->Expr:=o0
noncomputable abbrev C9(e:Expr):Expr:=el e 3
noncomputable abbrev Cp(e:Expr):Expr:=el e 1
noncomputable abbrev Hf(e:Expr):Expr:=el e 2
noncomputable def qa(e:Expr):Scope:={Gh e with names:=(Gh e).names.map λn=>(n.1,match n.2 with|.free=>.cell|k=>k)}
section
variable(B:Bx)(A:AL)(O:B.C.Ok)
theorem vQ(xs:Aa)(v:Nat):(xs.map iv).take v=(xs.take v).map iv:=by rw[F3]
theorem Zo(xs:Aa)(v:Nat):(xs.map iv).drop v=(xs.drop v).map iv:=by rw[Dk]
def Sy(U:AA 3 A)(x sl u' v:Nat)(xs:Aa)(hx:xs.length<=1000):Ag B.C A:=
 (VU B A O U x sl u' v (xs.map iv) (by rw[AD];exact hx)).re (λa:Nat=>.ok (.ret (J a))) (λa=>[AF a (xs.take v),AF x xs,F8 sl .none (.int (v:Int) u')]) (λa=>a) (λYa=>rfl) (λa=>by show [AE a ((xs.map iv).take v),_,_]=_;rw[vQ])
def JI(U:AA 3 A)(x sl u t:Nat)(xs:Aa)(hx:xs.length<=1000):Ag B.C A:=
 (NC B A O U x sl u t (xs.map iv) (by rw[AD];exact hx)).re (λa:Nat=>.ok (.ret (J a))) (λa=>[AF a (xs.drop u),AF x xs,F8 sl (.int (u:Int) t) .none]) (λa=>a) (λYa=>rfl) (λa=>by show [AE a ((xs.map iv).drop u),_,_]=_;rw[Zo])
def Ci(U:AA 3 A)(x i t v k:Nat)(xs:Aa)(hx:xs[i]? =some (v,k))(hs:xs.length<=1000):Ag B.C A:=
 (BZ O U x i t (xs.map iv) (.int (v:Int) k) (by rw[AQ,hx];rfl) (by rw[AD];exact hs)).re (λYa:Unit=>.ok (.ret (.int (v:Int) k))) (λYa=>[AF x xs]) (λa=>a) (λYa=>rfl) (λYa=>rfl)
def gP(U:AA 3 A)(x k t j:Nat)(xs:Aa)(h:k∈ns (xs.take j)):Ag B.C A:=Ps B A U x k t (xs.take j) h
end
def MN:Expr:=vE (sN 25 0)
def lkQ:Str:=Bl [95,108,97,119,95,108,97,99,107,115,46,60,108,111,99,97,108,115,62,46]
abbrev I6(c1 c2 L D:Nat):Env:=FM (qa MN) lkQ 297 [(Dr,c2+323),(Ca,c1+323)] L D
include O
theorem nJ(U:AA 6 A)(c1 c2 L D j k:Nat):
 AS B A (Bo (Cp MN) (I6 c1 c2 L D) (.int (j:Int) k)) [As D []] () [As D [(BA,.int (j:Int) k)]]:=
 Ef O U (.fr λk0=>.g 6145<|.fi () [0])
theorem nK(U:AA 6 A)(c1 c2 L D j k i m:Nat):
 AS B A (Bo (Cp MN) (I6 c1 c2 L D) (.int (j:Int) k)) [As D [(BA,.int (i:Int) m)]] () [As D [(BA,.int (j:Int) k)]]:=
 Ef O U (.fr λk0=>.g 6145<|.fi () [0])
theorem rd(U:AA 6 A)(c1 c2 L D x y j k v t:Nat)(xs ys:Aa)(hx:xs[j]? =some (v,t))(hl:xs.length<=1000):
 AS B A (Bf (DL MN) (I6 c1 c2 L D)) [As D [(BA,.int (j:Int) k)],AW c1 (J x),AW c2 (J y),AF x xs,AF y ys] (Be (v:Int) t) [As D [(BA,.int (j:Int) k)],AW c1 (J x),AW c2 (J y),AF x xs,AF y ys]:=Jj O U (.g 1141915714<|.cc (Ci _ _ O U.l x j k v t xs hx hl) [3] λYa=>.fi () [1,1,1,0,0])
theorem vZ(U:AA 6 A)(c1 c2 L D x y j k v t:Nat)(xs ys:Aa)(hx:xs[j]? =some (v,t))(hl:xs.length<=1000)(h1:v∈ns ys):
 AS B A (isTrue (C9 MN) (I6 c1 c2 L D) (Bf (C9 MN) (I6 c1 c2 L D))) [As D [(BA,.int (j:Int) k)],AW c1 (J x),AW c2 (J y),AF x xs,AF y ys] false [As D [(BA,.int (j:Int) k)],AW c1 (J x),AW c2 (J y),AF x xs,AF y ys]:=Xk O U (.g 1141915714<|.cc (Ci _ _ O U.l x j k v t xs hx hl) [3] λYa=>.g 282948<|.cc (Ps _ _ U.l y v t ys h1) [4] λYa=>.fi () [2,2,2,1,0])
theorem vc(U:AA 6 A)(c1 c2 L D x y j k v t:Nat)(xs ys:Aa)(hx:xs[j]? =some (v,t))(hl:xs.length<=1000)(h1:v∉ns ys)(h2:v∈ns (xs.take j)):
 AS B A (isTrue (C9 MN) (I6 c1 c2 L D) (Bf (C9 MN) (I6 c1 c2 L D))) [As D [(BA,.int (j:Int) k)],AW c1 (J x),AW c2 (J y),AF x xs,AF y ys] false [As D [(BA,.int (j:Int) k)],AW c1 (J x),AW c2 (J y),AF x xs,AF y ys]:=Xk O U (.g 1141915714<|.cc (Ci _ _ O U.l x j k v t xs hx hl) [3] λYa=>.g 282948<|.cc (ND _ _ U.l y v t ys h1) [4] λYa=>.g 1107828932<|.cc (Ci _ _ O U.l x j k v t xs hx hl) [1] λYa=>.g 4292<|.al λa3=>.g 270466<|.cc (Sy _ _ O U.l x a3 k j xs hl) [1,0] λy4=>.g 4161<|.cc (gP _ _ U.l y4 v t j xs h2) [0] λYa=>.fi () [4,4,4,1,2])
theorem zt(U:AA 6 A)(c1 c2 L D x y j k v t:Nat)(xs ys:Aa)(hx:xs[j]? =some (v,t))(hl:xs.length<=1000)(h1:v∉ns ys)(h2:v∉ns (xs.take j)):
 AS B A (isTrue (C9 MN) (I6 c1 c2 L D) (Bf (C9 MN) (I6 c1 c2 L D))) [As D [(BA,.int (j:Int) k)],AW c1 (J x),AW c2 (J y),AF x xs,AF y ys] true [As D [(BA,.int (j:Int) k)],AW c1 (J x),AW c2 (J y),AF x xs,AF y ys]:=Xk O U (.g 1141915714<|.cc (Ci _ _ O U.l x j k v t xs hx hl) [3] λYa=>.g 282948<|.cc (ND _ _ U.l y v t ys h1) [4] λYa=>.g 1107828932<|.cc (Ci _ _ O U.l x j k v t xs hx hl) [1] λYa=>.g 4292<|.al λa3=>.g 270466<|.cc (Sy _ _ O U.l x a3 k j xs hl) [1,0] λy4=>.g 4161<|.cc (ND _ _ U.l y4 v t (LU j xs) h2) [0] λYa=>.fi () [4,4,4,1,2])
noncomputable def JB(one Nm:Ay)(j:Nat):Ay:=match one[j]? with
 |none=>[]
 |some v=>if v∈Nm∨v∈one.take j then [] else [v]
def D3(one Nm:Ay):Ay:=Hp (JB one Nm) one.length
theorem nL(U:AA 6 A){c1 c2 L D x y j k:Nat}{xs ys:Aa}(hl:xs.length<=1000)(hj:j<xs.length):
 Sd B.C A [C9 MN] (DL MN) (I6 c1 c2 L D) ([As D [(BA,.int (j:Int) k)]]++[AW c1 (J x),AW c2 (J y),AF x xs,AF y ys]) (JB (ns xs) (ns ys) j):=by
 have hx:xs[j]? =some (xs[j].1,xs[j].2):=AJ hj;have e:JB (ns xs) (ns ys) j=if xs[j].1∈ns ys∨xs[j].1∈(ns xs).take j then [] else [xs[j].1]:=by
  unfold JB;rw[show(ns xs)[j]? =some xs[j].1 from by unfold ns;rw[AQ,hx];rfl]
 have et:(ns xs).take j=ns (xs.take j):=by unfold ns;rw[F3]
 rw[et] at e
 by_cases h1:xs[j].1∈ns ys
 ·have h:=vZ O U c1 c2 L D x y j k _ _ xs ys hx hl h1
  exact .inr ⟨by rw[e,if_pos (.inl h1)],Jc h⟩
 ·by_cases h2:xs[j].1∈ns (xs.take j)
  ·have h:=vc O U c1 c2 L D x y j k _ _ xs ys hx hl h1 h2
   exact .inr ⟨by rw[e,if_pos (.inr h2)],Jc h⟩
  ·have h:=zt O U c1 c2 L D x y j k _ _ xs ys hx hl h1 h2
   exact .inl ⟨xs[j].1,by rw[e,if_neg (by rintro(h|h);exact h1 h;exact h2 h)],Jc h,(rd O U c1 c2 L D x y j k _ _ xs ys hx hl).weaken λk=>⟨xs[j].2,rfl,λR s S=>S⟩⟩
def Wz(U:AA 7 A)(L D c1 c2 a acc x y:Nat)(xs ys:Aa)(hl:xs.length<=1000)(Qx:xs.length≠0):Ag B.C A where
 c:=.compStart MN 0 (J a) (J acc) (I6 c1 c2 L D)
 F:=[As D [],AE acc [],Fj a ((0:Nat):Int) (xs.length:Int) 1,AW c1 (J x),AW c2 (J y),AF x xs,AF y ys]
 X:=Qj (D3 (ns xs) (ns ys))
 res:=λYa=>.ok .next
 led:=λq=>[As D [(BA,.int (q.k:Int) q.t)],AF acc q.ys,AW c1 (J x),AW c2 (J y),AF x xs,AF y ys]
 ok:=by
  have hlen:(ns xs).length=xs.length:=AD _;have h:=Wo (B:=B) (A:=A) (elt:=DL MN) (ifs:=[C9 MN]) (iter:=Hf MN) (x0:=BA) (p0:=(Cp MN).pos) (sc:=Gh MN) (pos:=MN.pos) (env:=I6 c1 c2 L D) (D:=D) (acc:=acc) (a:=a) (G:=[AW c1 (J x),AW c2 (J y),AF x xs,AF y ys]) (n:=xs.length) (f:=JB (ns xs) (ns ys)) O U
   (λj=>by unfold JB;split<;>(try split)<;>simp) (λj hj=>by unfold JB;rw[B7 (AK (Ge hlen) hj)]) hl Qx
   (λA' h j k l hl=>by
    rcases hl with rfl|⟨i,m,rfl⟩
    ·exact nJ O h c1 c2 L D j k
    ·exact nK O h c1 c2 L D j k i m)
   (λA' h j hj x=>nL O h hl hj)
  unfold D3;rw[hlen];exact h
theorem YC(U:AA 1 A)(x y:Nat):
 AS B A (Pk B 298 [J x,J y]) [] (([(Ca,J x),(Dr,J y)]:BC)) []:=
 rn O U (.fi () [])
theorem XH(U:AA 1 A)(x y:Nat):
 AC B.C A (OO B 298 [(Ca,J x),(Dr,J y)]) []
  (λq:Nat×Nat×Nat=>AR B.P 298 [(Dr,q.2.2+323),(Ca,q.2.1+323)] (q.1+323))
  (λq=>[AI q.1 [],AW (q.2.1) (J x),AW (q.2.2) (J y)]):=
 rn O U (.al λa0=>.al λa1=>.al λa2=>.g 25172034<|.fi (a0,a1,a2) [2,1,0])
theorem YG(U:AA 20 A)(L c1 c2 x y:Nat)(xs ys:Aa)(hl:xs.length<=1000)(Qx:xs.length≠0):
 AC B.C A (Ac (A4 B.P 298) (AR B.P 298 [(Dr,c2+323),(Ca,c1+323)] (L+323))) [AI L [],AW c1 (J x),AW c2 (J y),AF x xs,AF y ys]
  (λq:Gk (D3 (ns xs) (ns ys))=>B6 (J q.a))
  (λq=>[AF q.a q.ys,AF x xs,AF y ys]):=by
 obtain⟨_,_|_⟩:=B<;>exact D7 O U (.g 1107296256<|.cc (JP _ _ O U.l x xs hl) [3] λy0=>.cc (KD O U.l xs.length y0) [] λ(y1:Nat×Nat×Nat)=>.g 4161<|.cc (NG O U.l y1.fst xs.length y1.snd.fst y0 y1.snd.snd hl) [0] λy2=>.g 65<|.al λa3=>.al λa4=>.cc (Wz O U.l L a4 c1 c2 y2 a3 x y xs ys hl Qx) [0,0,0,3,3,1,2] λ(y5:Qj (D3 (ns xs) (ns ys)))=>.g 393281<|.fi (⟨a3,y5.ys,y5.ok⟩) [1,3,3])
def S9(U:AA 22 A)(x y:Nat)(xs ys:Aa)(hl:xs.length<=1000)(Qx:xs.length≠0):Ag B.C A where
 c:=.call (.ref 298) ⟨[J x,J y],[]⟩
 F:=[AF x xs,AF y ys]
 X:=Gk (D3 (ns xs) (ns ys))
 res:=λq=>.ok (.ret (J q.a))
 led:=λq=>[AF q.a q.ys,AF x xs,AF y ys]
 ok:=Dm O (n:=21) U ADk ((YC O U.l.in1 x y).frame _) (λR s S=>(XH O U.l.in1 x y).frame [AF x xs,AF y ys] R s S)
  (λq=>BK (fl:=λq:Gk (D3 (ns xs) (ns ys))=>.ret (J q.a)) (YG O (AA.deeper U.l) q.1 q.2.1 q.2.2 x y xs ys hl Qx))
structure Sc where
 a:Value
 b:Value
 c:Value
 d:Value
 e:Value
 f:Value
abbrev DD(e t:Nat)(tb cx:Value):Bi:=.one (e+323) (.ex ⟨.type "IndexError",none,.fields ⟨[J t,tb,cx,.none,.bool false,.none]⟩,⟨[]⟩⟩)
abbrev MV(b L:Nat)(fl:Value)(p:Sc):Bi:=.one (b+323) (.ex ⟨.type "traceback",none,.fields ⟨[.none,J L,.none,fl,.none,p.a,p.b,p.c,p.d,p.e,p.f]⟩,⟨[]⟩⟩)
def Sa(F:AN)(es:List Env):Prop:= ∀e∈es,e.scope.kind≠.module/\ ∃f cls al,e.frame=some f/\Bi.one f (.ns cls al)∈F
omit O
theorem Zv(g:G)(x:Array DP): ∀(i:Nat) (al:BC),Oq {g with sl:=x} i al=Oq g i al
 |_,[]=>rfl
 |i,(n,v)::r=>by rw[Oq,Oq,Zv g x (i+1) r]
theorem St.slots{C:Cx}{L:AN}{s:Af}(S:St C L s){f:Addr}{cls:Value}{al:BC}(hm:Bi.one f (.ns cls al)∈L)(fo:Obj->Obj)(zD: ∀o,fo o={o with slots:=(fo o).slots}):
 St C L {s with heap:=s.heap.update f fo}:=by
 obtain⟨pre,post,rfl⟩:=List.append_of_mem hm;have S1:St C (.one f (.ns cls al)::(pre++post)) s:=S.perm BH;obtain⟨g,hg⟩:=S1.Dj;have hf:(fo ((AO.ns cls al).obj g)).isFreed=false:=by rw[zD];rfl
 exact(St.No (ao':=.ns cls al) (t:=s.toks) S1 (B1 s.heap f fo) (CO _ hg hf) ⟨{g with sl:=(fo ((AO.ns cls al).obj g)).slots},(zD _).trans (by simp only[AO.obj,Zv])⟩).perm List.perm_middle.symm
theorem V5{C:Cx}{A:AL}{F:AN}{R:AN}: ∀(es:List Env),Sa F es-> ∀s,St C (F++R) s->BN C.M A (Rx es) (λYa s'=>St C (F++R) s') (λYa Ya=>False) s
 |[],_,s,S=>AP S
 |e::outer,h,s,S=>by
  obtain⟨hk,f,cls,al,hf,hm⟩:=h e (.head _);obtain⟨g,hg⟩:=S.c7 (Ar R hm) (p:=(f,.ns cls al)) (.head _);simp only[Rx,hf];refine AB (wpAny_load hg ?_)
  by_cases hr:(((AO.ns cls al).obj g).slots.getD 3 none).isSome=true
  ·rw[if_pos hr];exact AP S
  ·refine iN hr ?_
   refine AB (GR (a:=false) (by simp[behindIsImport,hk]) ?_)
   refine AB (wpAny_keptBack_false λv=>?_);refine AB (wpAny_update hg ?_);exact V5 outer (λe he=>h e (.tail _ he)) _ (S.slots (Ar R hm) _ λo=>rfl)
theorem d3{C:Cx}{A:AL}{F:AN}(es:List Env)(h:Sa F es):AC C A (Rx es) F (λYa:Unit=>()) (λYa=>F):=λR s S=>
 Av (V5 es h s S) (λYa Ya q=>⟨(),rfl,q⟩) λYa Ya q=>q
theorem r8{pl:Ak}(h:IsPlace pl): ∃p:Sc,(if pl.isEmpty then DE 6 CU else pl)=[p.a,p.b,p.c,p.d,p.e,p.f]:=by
 rcases h with rfl|⟨a,b,c,d,c9,b10,_,rfl⟩
 ·exact⟨⟨.none,.none,.none,.none,.none,.none⟩,rfl⟩
 ·exact⟨⟨_,_,_,_,_,_⟩,rfl⟩
theorem GY{C:Cx}(O:C.Ok){A:AL}{env:Env}{outer:List Env}{F:AN}{L e t:Nat}{cx:Value}(Hl:A.frames=some (env::outer))(hf:env.frame=some (L+323))(hF:Sa F (env::outer)):
 AC C A (E0 (J e) env) (DD e t .none cx::F) (λYa:Nat×Sc=>()) (λq=>DD e t (J q.1) cx::MV q.1 L (CL (L+323:Nat)) q.2::F):=λR s S=>by
 refine Av (Q:=λYa s'=> ∃q:Nat×Sc,St C ((DD e t (J q.1) cx::MV q.1 L (CL (L+323:Nat)) q.2::F)++R) s') (E:=λYa Ya=>False) ?_ (λYa Ya ⟨q,S⟩=>⟨q,rfl,S⟩) λYa Ya q=>q;unfold E0;simp only[hf];refine AB (B9 (DV S) rfl (x:=.none) rfl ?_);refine iN ADm ?_
 unfold PySem.frameOf;refine AB (AB (wpAny_frameEnvs Hl ?_));rw[show((env::outer).dropWhile λx=>x.frame != env.frame)=env::outer from by simp[List.dropWhile]]
 unfold frameObject;have S0:St C (F++(DD e t .none cx::R)) s:=S.perm (show(DD e t .none cx::(F++R)).Perm _ from List.perm_middle.symm);refine AB (AB (AC.wp (d3 (env::outer) hF) S0 λYa s₁ S₁=>?_));refine AP ?_;rw[hf];refine AP ?_;refine AB (wpAny_entryPlaceOf λpl zT=>?_);obtain⟨p,hp⟩:=r8 zT;have S2:St C (DD e t .none cx::(F++R)) s₁:=S₁.perm BH;unfold EntryCells.newEntry newFields;refine AB (DS ?_ (zT.sizeOk5 _ _ _ _ _));have he:=S2.size_eq O;have S4:=(S2.alloc (o:={cls:=.type "traceback",dict:=none,data:=.fields ([CU,J L,.none,CL (L+323:Nat),.none]++(if pl.isEmpty then DE 6 CU else pl)).toArray}) (ao:=.ex ⟨.type "traceback",none,.fields ⟨[.none,J L,.none,CL (L+323:Nat),.none,p.a,p.b,p.c,p.d,p.e,p.f]⟩,⟨[]⟩⟩) rfl ⟨G0,by rw[hp];rfl⟩).swap
 refine FU (DV S4) rfl (by show 1<6;decide) ?_
 refine⟨(s₁.heap.objs.size-323,p),?_⟩;show St C (DD e t (.ref (s₁.heap.objs.size-323+323)) cx::.one (s₁.heap.objs.size-323+323) _::(F++R)) _;rw[<-he];exact S4.UH (f:=λvs=>vs.setIfInBounds 1 (.ref s₁.heap.objs.size)) (ws:=[J t,.ref s₁.heap.objs.size,cx,.none,.bool false,.none]) rfl
theorem GZ{C:Cx}{A:AL}{env:Env}{L e t b:Nat}{cx:Value}{p:Sc}(hf:env.frame=some (L+323)):
 AC C A (E0 (J e) env) [DD e t (J b) cx,MV b L (CL (L+323:Nat)) p] (λYa:Unit=>()) (λYa=>[DD e t (J b) cx,MV b L (CL (L+323:Nat)) p]):=λR s S=>
 wpAny_noteFrame_inFlight hf (DV S) rfl rfl (DV S.swap) rfl rfl ⟨(),rfl,S⟩
theorem GH{C:Cx}{A:AL}{L e t b:Nat}{cx fl:Value}{p:Sc}(fr:Option Addr):
 AC C A (setFlight (J e) fr) [DD e t (J b) cx,MV b L fl p] (λYa:Unit=>()) (λYa=>[DD e t (J b) cx,MV b L (fr.elim .none λf=>CL f) p]):=λR s S=>by
 unfold setFlight;refine AB (B9 (DV S) rfl (x:=J b) rfl ?_);refine iT (show(J b != CU)=true from by simp) ?_
 refine FU (DV S.swap) rfl (by show 3<11;decide) ⟨(),rfl,?_⟩
 exact(S.swap.UH (f:=λvs=>vs.setIfInBounds 3 (fr.elim .none λf=>CL f)) (ws:=[.none,J L,.none,fr.elim .none λf=>CL f,.none,p.a,p.b,p.c,p.d,p.e,p.f]) rfl).swap
theorem Bj.under{n:Nat}{A:AL}{c:Code}(h:Bj (n+1) A)(hw:autoParam (c.weight<=1) kw)(hu:autoParam (c.cUnits<=12) kw):Bj n (A.under c):=by
 refine⟨?_,?_⟩
 ·have:=h.1
  show A.depth+c.weight+n<_
  lia
 ·have:=h.2
  show A.units+c.cUnits+_<_
  lia
theorem Bj.mark{n:Nat}{A:AL}(h:Bj n A)(x:DP):Bj n (A.mark x):=h
include O
theorem Kk(U:Bj 1 A)(x:Nat)(v:Value)(xs:Ak):
 AS B A (AU "list.__getitem__" ⟨[J x,v],[]⟩) [AE x xs] () [AE x xs]:=
 by apply Z7 O (.g 65<|.fi () [0])
theorem kX(U:Bj 1 A)(x sl:Nat)(xs:Ak)(u v:Value):
 AS B A (AU "list.__getitem__" ⟨[J x,J sl],[]⟩) [AE x xs,F8 sl u v] () [AE x xs,F8 sl u v]:=
 by apply Z7 O (.g 65<|.fi () [0,0])
theorem Wi(U:Bj 1 A)(x y:Nat)(xs ys:Ak):
 AS B A (AU "list.extend" ⟨[J x,J y],[]⟩) [AE x xs,AE y ys] () [AE x xs,AE y ys]:=
 by apply Z7 O (.g 65<|.fi () [0,0])
theorem fw(U:Bj 1 A)(i j:Int)(t u:Nat):
 AS B A (AU "int.__eq__" ⟨[.int i t,.int j u],[]⟩) [] () []:=
 by apply Z7 O (.fi () [])
theorem gy(U:Bj 1 A)(i j:Int)(t u:Nat):
 AS B A (BM (.builtin "int.__eq__" ⟨[.int i t,.int j u],[]⟩)) [] (.done (.ret (.bool (i==j)))) []:=
 Mt O (.fi () [])
noncomputable def VW(U:Bj 2 A)(i j:Int)(t u:Nat):Ag B.C A where
 c:=.call (.builtin "int.__eq__") ⟨[.int i t,.int j u],[]⟩
 F:=[]
 X:=Unit
 res:=λYa=>.ok (.ret (.bool (i==j)))
 led:=λYa=>[]
 ok:=HA ADl (fw O U.in1 i j t u) (gy O U.in1 i j t u)
theorem bN(U:Bj 1 A)(i j:Int)(t u:Nat):
 AS B A (AU "int.__add__" ⟨[.int i t,.int j u],[]⟩) [] () []:=
 by apply Z7 O (.fi () [])
theorem cY(U:Bj 1 A)(i j:Int)(t u:Nat):
 AC B.C A (BM (.builtin "int.__add__" ⟨[.int i t,.int j u],[]⟩)) []
  (λk:Nat=>.done (.ret (.int (i+j) k)))
  (λk=>[]):=
 Mt O (.fr λk0=>.fi (k0) [])
noncomputable def bg(U:Bj 2 A)(i j:Int)(t u:Nat):Ag B.C A where
 c:=.call (.builtin "int.__add__") ⟨[.int i t,.int j u],[]⟩
 F:=[]
 X:=Nat
 res:=λk=>.ok (.ret (.int (i+j) k))
 led:=λk=>[]
 ok:=HA ADl (bN O U.in1 i j t u) (cY O U.in1 i j t u)
omit O
section
variable(B:Bx)(A:AL)(O:B.C.Ok)
def GB(U:Bj 3 A)(x i t v k:Nat)(xs:Aa)(hx:xs[i]? =some (v,k))(hs:xs.length<=1000):Ag B.C A where
 c:=.call (.builtin "list.__getitem__") ⟨[J x,.int (i:Int) t],[]⟩
 F:=[AF x xs]
 X:=Unit
 res:=λYa=>.ok (.ret (.int (v:Int) k))
 led:=λYa=>[AF x xs]
 ok:=BF ADl Dq (Kk O U.l.in1 x _ _)
  (@Kj B.C A.in1 (x+323) (.type "list") none (xs.map iv) (i:Int) t _ (HH i) (nY (xs:=xs.map iv) (v:=.int (v:Int) k) (by rw[AQ,hx];rfl) (by rw[AD];exact hs)) (by rw[Dt,AQ,hx];rfl))
def MB(U:Bj 2 A)(i j:Int)(t u:Nat)(h:i=j):Ag B.C A:=(VW O U i j t u).re (λYa:Unit=>.ok (.ret (.bool true))) (λYa=>[]) (λYa=>()) (λYa=>by subst h;show(Cs (B6 (.bool (i==i))):Result)=_;simp) (λYa=>rfl)
def MA(U:Bj 2 A)(i j:Int)(t u:Nat)(h:i≠j):Ag B.C A:=(VW O U i j t u).re (λYa:Unit=>.ok (.ret (.bool false))) (λYa=>[]) (λYa=>()) (λYa=>by show(Cs (B6 (.bool (i==j))):Result)=_;rw[beq_eq_false_iff_ne.mpr h]) (λYa=>rfl)
def Ip(U:Bj 2 A)(a t u:Nat):Ag B.C A:=(bg O U (a:Int) 1 t u).re (λk:Nat=>.ok (.ret (.int ((a+1:Nat):Int) k))) (λYa=>[]) (λk=>k) (λk=>rfl) (λYa=>rfl)
def GU(U:Bj 3 A)(x sl u t:Nat)(xs:Aa)(hx:xs.length<=1000):Ag B.C A where
 c:=.call (.builtin "list.__getitem__") ⟨[J x,J sl],[]⟩
 F:=[AF x xs,F8 sl (.int (u:Int) t) .none]
 X:=Nat
 res:=λa=>.ok (.ret (J a))
 led:=λa=>[AF a (xs.drop u),AF x xs,F8 sl (.int (u:Int) t) .none]
 ok:=by
  have:=BF (C:=B.C) ADl Dq (kX O U.l.in1 x sl (xs.map iv) (.int (u:Int) t) .none) (JZ O (.int _ _) .none (xs:=xs.map iv) (ys:=(xs.drop u).map iv) (by rw[AD];exact hx) (by rw[slicePick_from',<-Zo]))
  exact this
def GS(U:Bj 3 A)(x y:Nat)(xs ys:Aa)(hx:xs.length<=1000)(hy:ys.length<=1000):Ag B.C A where
 c:=.call (.builtin "list.extend") ⟨[J x,J y],[]⟩
 F:=[AF x xs,AF y ys]
 X:=Unit
 res:=λYa=>.ok (.ret .none)
 led:=λYa=>[AF x (xs++ys),AF y ys]
 ok:=by
  have:=BF (C:=B.C) ADl ZM (Wi O U.l.in1 x y (xs.map iv) (ys.map iv)) (Mn (C:=B.C) (A:=A.in1) (res:=.none) (.inl rfl) (xs:=xs.map iv) (ys:=ys.map iv) (by rw[AD];exact hx) (by rw[AD];exact hy))
  rw[show(xs.map iv++ys.map iv)=(xs++ys).map iv from(AZ ..).symm] at this;exact this
end
include O
theorem nv(U:Bj 1 A)(m:Str)(t:Nat):
 AC B.C A (newExc (.type "IndexError") [.str m t]) []
  (λp:Nat×Nat=>J p.1)
  (λp=>[DD p.1 p.2 .none .none]):=
 Mt O (.al λa0=>.al λa1=>.fi (a1,a0) [0])
theorem XC(U:Bj 1 A)(a h th:Nat)(tb:Value):
 AS B A (BM (.builtin "proto.unchain" ⟨[J a,J h,J h,.bool false],[]⟩)) [DD h th tb .none] (.done (.ret (.none))) [DD h th tb .none]:=
 Mt O (.g 65<|.fi () [0])
def W9(U:Bj 2 A)(a h th:Nat)(tb:Value):Ag B.C A where
 c:=.builtin "proto.unchain" ⟨[J a,J h,J h,.bool false],[]⟩
 F:=[DD h th tb .none]
 X:=Unit
 res:=λYa=>.ok (.ret (.none))
 led:=λYa=>[DD h th tb .none]
 ok:=F9 ADl (XC O U.in1 a h th tb)
omit O
section
variable{C:Cx}{A:AL}{F:AN}
theorem ow{c:Code}{X:Type}{val:X->Value}{led:X->AN}(h:Bv C A c F (λx=>.ok (.ret (val x))) led):AC C A (runValue c) F val led:=λR s S Γ p hΓ=>by
 have q:=h R s S Γ p hΓ;unfold Ql at q;rw[HY] at q;rw[I9];refine I5 (λr s' hr=>?_) q;obtain⟨x,e,S'⟩: ∃x,r=_/\_:=hr;subst e;exact⟨x,rfl,S'⟩
theorem BG.pre{α:Type}{t:Sem α}{F':AN}{X:Type}{exc:X->Value}{led:X->AN}(h:BG C A t F exc led)(p: ∀R s,St C (F'++R) s->St C (F++R) s):BG C A t F' exc led:=λR s S=>h R s (p R s S)
theorem BG.weaken{α:Type}{t:Sem α}{X:Type}{exc:X->Value}{led:X->AN}(h:BG C A t F exc led){Y:Type}{sw:Y->Value}{Cy:Y->AN}(f: ∀x,∃y,exc x=sw y/\ ∀R s,St C (led x++R) s->St C (Cy y++R) s):BG C A t F sw Cy:=λR s S=>
 Av (h R s S) (λYa Ya q=>q.elim) λe s' ⟨x,ex,S'⟩=>let⟨y,e',g⟩:=f x;⟨y,ex.trans e',g R s' S'⟩
theorem BG.frame{α:Type}{t:Sem α}{X:Type}{exc:X->Value}{led:X->AN}(h:BG C A t F exc led)(G:AN):BG C A t (F++G) exc (λx=>led x++G):=λR s S=>by
 have:=h (G++R) s (by rw[<-AG];exact S)
 exact Av this (λYa Ya q=>q) λe s' ⟨x,ex,S'⟩=>⟨x,ex,by rw[AG];exact S'⟩
theorem BG.seq{l1 l2:Dx}{env:Env}{X Y:Type}{led1:X->AN}{exc:Y->Value}{led:Y->AN}(h1:AC C A (Ac l1 env) F (λYa:X=>.next) led1)(h2: ∀x,BG C A (Ac l2 env) (led1 x) exc led):BG C A (Ac (l1++l2) env) F exc led:=λR s S=>
 Se l1 (Av (h1 R s S) (λf s₁ ⟨x,e,S₁⟩=>by subst e;exact h2 x R s₁ S₁) λYa Ya q=>q.elim)
theorem BG.one{st:Stmt}{r:Dx}{env:Env}{X:Type}{exc:X->Value}{led:X->AN}(h:BG C A (Qe st env) F exc led):BG C A (Ac (st::r) env) F exc led:=λR s S=>
 Gg (Av (h R s S) (λYa Ya q=>q.elim) λYa Ya q=>q)
theorem BG.ML{test:Expr}{body orelse:Dx}{pos:Pos}{env:Env}{X Y:Type}{b:Bool}{led1:X->AN}{exc:Y->Value}{led:Y->AN}
 (h1:AC C A (isTrue test env (Bf test env)) F (λYa:X=>b) led1) (h2: ∀x,BG C A (Ac (if b then body else orelse) env) (led1 x) exc led):BG C A (Qe (.If test body orelse pos) env) F exc led:=λR s S=>by
 refine wpAny_If (Av (h1 R s S) (λf s' ⟨x,e,S'⟩=>?_) λYa Ya q=>q.elim);subst e
 have:=h2 x R s' S'
 cases f<;>exact this
theorem sC{α:Type}(hh:A.handled=none)(a t:Nat):BG C A (Qh (J a):Sem α) [DD a t .none .none] (λYa:Unit=>J a) (λYa=>[DD a t .none .none]):=λR s S=>
 wpAny_raiseNew_none hh ⟨(),rfl,S⟩
end
section
variable{B:Bx}{A:AL}
theorem oV{α:Type}(O:B.C.Ok)(U:Bj 3 A)(a t h th:Nat)(tb:Value)(hh:A.handled=some (J h)):BG B.C A (Qh (J a):Sem α) [DD a t .none .none,DD h th tb .none] (λYa:Unit=>J a) (λYa=>[DD a t .none (J h),DD h th tb .none]):=λR s S=>by
 have CD:a+323≠h+323:=S.ne;unfold Qh;refine AB (O2 ?_);rw[hh]
 dsimp only
 refine iT (show(J h != J a)=true from by simpa using λq:h=a=>CD (by rw[q])) ?_
 refine AB (Kv (AC.wp (ow (W9 O U.l a h th tb).ok) S.swap λYa s₁ S₁=>?_));refine AB ?_;refine FU (DV (St.swap S₁)) rfl (by show 2<6;decide) ?_
 exact R1 ⟨(),rfl,(St.swap S₁).UH rfl⟩
theorem ly(i:Nat)(h:i<=1000):GP (i:Int)=true:=fitsIndex_of (HH i) (PW (show(i:Int)<1001 by lia) ADm)
theorem RK{l:Addr}{k:Int}{i t:Nat}{xs:Ak}(mV:k=(i:Int))(hx:xs.length<=i)(hs:i<=1000){F:AN}{X:Type}{exc:X->Value}{led:X->AN}
 (hr: ∀(α:Type) m t',BG B.C A (newExc (.type "IndexError") [.str m t']>>=λe=>(Qh e:Sem α)) F exc led):
 BG B.C A (Builtin.«list.__getitem__» ⟨[.ref l,.int k t],[]⟩) ([.one l (.ls (.type "list") none xs)]++F) exc (λp=>led p++[.one l (.ls (.type "list") none xs)]):=by
 intro R s S;obtain⟨g,ho⟩:=S.Dj;have Qz:(⟨xs⟩:Bs)[i]? =none:=by simpa using hx
 have hE: ∀(α:Type) (m:String) (Q:α->Af->Prop),BN B.C.M A (raiseErrorWords "IndexError" m:Sem α) Q (λe s'=> ∃p,e=exc p/\St B.C ((led p++[.one l (.ls (.type "list") none xs)])++R) s') s:=λα m Q=>by
  unfold raiseErrorWords;refine AB (wpAny_mkText ?_);have S1:St B.C (F++(.one l (.ls (.type "list") none xs)::R)) {s with toks:=s.toks+1}:=(S.toks _ (Eb _)).perm (show(Bi.one l (.ls (.type "list") none xs)::(F++R)).Perm _ from List.perm_middle.symm)
  refine Av (hr α m s.toks _ _ S1) (λYa Ya q=>q.elim) λe s' ⟨p,ep,S'⟩=>⟨p,ep,?_⟩;rw[AG];exact S'
 show BN _ _ (Bb (.int k t)>>=_) _ _ s;refine AB (HZ (by rw[mV];exact ly i hs) ?_)
 subst mV;show BN _ _ ((seqItemAt l i>>=λr=>pure (r.map (i, ·)))>>=_) _ _ s;refine AB (AB (wpAny_seqItemAt ho rfl (AP ?_)));rw[Qz]
 first
  |exact AB (Eo (hE _ _ _))
  |exact AB (Eo (AB (hE _ _ _)))
  |exact AB (AB (Eo (hE _ _ _)))
  |exact Eo (hE _ _ _)
end
section
variable(B:Bx)(A:AL)(O:B.C.Ok)
def HR(U:AA 3 A)(x i t:Nat)(xs:Aa)(hx:xs.length<=i)(hs:i<=1000):Ag B.C A where
 c:=.call (.builtin "list.__getitem__") ⟨[J x,.int (i:Int) t],[]⟩
 F:=[AF x xs]
 X:=Nat×Nat
 res:=λp=>.error (J p.1)
 led:=λp=>[DD p.1 p.2 .none .none,AF x xs]
 ok:=IH ADl Dq (Kk O (U.h.le (ADj:1+1<=3)).in1 x _ _)
  (@RK B A.in1 (x+323) (i:Int) i t (xs.map iv) rfl (by rw[AD];exact hx) hs [] (Nat×Nat) (λp=>J p.1) (λp=>[DD p.1 p.2 .none .none]) λα m t' R s S=>AB (Av (nv O (U.h.le (ADj:1+1<=3)).in1 m t' R s S) (λYa s₁ ⟨p,e,S₁⟩=>by
   subst e;exact Av (sC (A:=A.in1) U.1 p.1 p.2 R s₁ S₁) (λYa Ya q=>q.elim) λe s₂ ⟨_,ee,S₂⟩=>⟨p,ee,S₂⟩) λYa Ya q=>q.elim))
def b4(U:Bj 5 A)(x i t h th:Nat)(tb:Value)(xs:Aa)(hh:A.handled=some (J h))(hx:xs.length<=i)(hs:i<=1000):Ag B.C A where
 c:=.call (.builtin "list.__getitem__") ⟨[J x,.int (i:Int) t],[]⟩
 F:=[AF x xs,DD h th tb .none]
 X:=Nat×Nat
 res:=λp=>.error (J p.1)
 led:=λp=>[DD p.1 p.2 .none (J h),DD h th tb .none,AF x xs]
 ok:=IH ADl Dq ((Kk O U.l.in1 x _ _).frame [DD h th tb .none])
  (@RK B A.in1 (x+323) (i:Int) i t (xs.map iv) rfl (by rw[AD];exact hx) hs [DD h th tb .none] (Nat×Nat) (λp=>J p.1) (λp=>[DD p.1 p.2 .none (J h),DD h th tb .none]) λα m t' R s S=>AB (Av (nv O U.l.in1 m t' (DD h th tb .none::R) s S) (λYa s₁ ⟨p,e,S₁⟩=>by
   subst e;exact Av (oV O (A:=A.in1) U.l.in1 p.1 p.2 h th tb hh R s₁ S₁) (λYa Ya q=>q.elim) λe s₂ ⟨_,ee,S₂⟩=>⟨p,ee,S₂⟩) λYa Ya q=>q.elim))
end
def Eh:Dx:=nB (hS (nB (sN 13 3)) 0)
def Rp:List ExceptHandler:=nH (hS (nB (sN 13 3)) 0)
def ja:Expr:=Ow (Const.bool Bool.true) 0 (pS 180 10 14)
def aF:Pos:=⟨181,8,206,17⟩
abbrev EO:Stmt->Expr:=vE
abbrev FR:Stmt->Dx:=nB
abbrev U5(l:Dx):Dx:=nB (hS l 0)
abbrev PK(l:Dx):Dx:=nO (hS l 0)
abbrev P7(l:Dx):Expr:=vE (hS l 0)
def Eg:Dx:=Eh.drop 2
def GI:Stmt:=((U5 Eg).drop 2).headD Au
def GJ:Stmt:=((U5 (PK Eg)).drop 2).headD Au
def Jm:Dx:=PK (PK Eg)
def Mo:Dx:=nO (hS Jm 1)
def FY:Stmt:=hS (nB (hS Jm 1)) 0
def D1:Stmt:=(Mo.drop 1).headD Au
abbrev Aq(B:Bx)(L:Nat):Env:=AR B.P 227 [] (L+323)
abbrev Ni(x y m u i ti j tj:Nat):BC:=[(HW,J x),(JT,J y),(VH,.int (i:Int) ti),(xl,.int (j:Int) tj),(PU,J m),(Ko,J u)]
abbrev V_(x y m u i ti j tj e te:Nat):BC:=[(HW,J x),(JT,J y),(VH,.int (i:Int) ti),(xl,.int (j:Int) tj),(PU,J m),(Ko,J u),(v_e,.int (e:Int) te)]
abbrev A_(x y m u i ti j tj e te a ta:Nat):BC:=[(HW,J x),(JT,J y),(VH,.int (i:Int) ti),(xl,.int (j:Int) tj),(PU,J m),(Ko,J u),(v_e,.int (e:Int) te),(v_a,.int (a:Int) ta)]
include O
theorem pp(U:Bj 8 A)(L x y m u i ti j tj e te a ta k:Nat)(xs:Aa)(hx:xs[i]? =some (e,k))(hl:xs.length<=1000)(he:(e:Int)=(e:Int)):
 AC B.C A (BM (.whileLoop (EO GI) (FR GI) [] (Aq B L))) [AI L (A_ x y m u i ti j tj e te a ta),AF x xs]
  (λq:Nat=>.again (.whileLoop (EO GI) (FR GI) [] (Aq B L)))
  (λq=>[AI L (A_ x y m u (i+1) q j tj e te a ta),AF x xs]):=by
 obtain⟨_,_|_⟩:=B<;>exact Mt O (.g 1107828801<|.cc (GB _ _ O U.l x i ti e k xs hx hl) [1] λYa=>.g 66<|.cc (MB _ _ O U.l ↑e ↑e k te he) [] λYa=>.g 66<|.fr λk2=>.cc (Ip _ _ O U.l i ti k2) [] λy3=>.fr λk4=>.g 6210<|.fi (y3) [1,0])
theorem pq(U:Bj 8 A)(L x y m u i ti j tj e te a ta v k:Nat)(xs:Aa)(hx:xs[i]? =some (v,k))(hl:xs.length<=1000)(he:(v:Int)≠(e:Int)):
 AS B A (BM (.whileLoop (EO GI) (FR GI) [] (Aq B L))) [AI L (A_ x y m u i ti j tj e te a ta),AF x xs] (Az Dg) [AI L (A_ x y m u i ti j tj e te a ta),AF x xs]:=by
 obtain⟨_,_|_⟩:=B<;>exact Mt O (.g 1107828801<|.cc (GB _ _ O U.l x i ti v k xs hx hl) [1] λYa=>.g 66<|.cc (MA _ _ O U.l ↑v ↑e k te he) [] λYa=>.fi () [1,0])
theorem sd(U:AA 8 A)(L x y m u i ti j tj e te a ta:Nat)(xs:Aa)(hx:xs.length<=i)(hl:i<=1000):
 BG B.C A (isTrue (EO GI) (Aq B L) (Bf (EO GI) (Aq B L))) [AI L (A_ x y m u i ti j tj e te a ta),AF x xs]
  (λp:Nat×Nat=>J p.1)
  (λp=>[DD p.1 p.2 .none .none,AI L (A_ x y m u i ti j tj e te a ta),AF x xs]):=by
 obtain⟨_,_|_⟩:=B<;>exact en O U (.g 1107828801<|.cc (HR _ _ O U.l x i ti xs hx hl) [1] λy0=>.fi (y0) [0,1,0])
theorem pr(U:Bj 8 A)(L x y m u i ti j tj e te a ta k:Nat)(xs:Aa)(hx:xs[j]? =some (a,k))(hl:xs.length<=1000)(he:(a:Int)=(a:Int)):
 AC B.C A (BM (.whileLoop (EO GJ) (FR GJ) [] (Aq B L))) [AI L (A_ x y m u i ti j tj e te a ta),AF y xs]
  (λq:Nat=>.again (.whileLoop (EO GJ) (FR GJ) [] (Aq B L)))
  (λq=>[AI L (A_ x y m u i ti (j+1) q e te a ta),AF y xs]):=by
 obtain⟨_,_|_⟩:=B<;>exact Mt O (.g 1107828801<|.cc (GB _ _ O U.l y j tj a k xs hx hl) [1] λYa=>.g 66<|.cc (MB _ _ O U.l ↑a ↑a k ta he) [] λYa=>.g 66<|.fr λk2=>.cc (Ip _ _ O U.l j tj k2) [] λy3=>.fr λk4=>.g 6210<|.fi (y3) [1,0])
theorem pw(U:Bj 8 A)(L x y m u i ti j tj e te a ta v k:Nat)(xs:Aa)(hx:xs[j]? =some (v,k))(hl:xs.length<=1000)(he:(v:Int)≠(a:Int)):
 AS B A (BM (.whileLoop (EO GJ) (FR GJ) [] (Aq B L))) [AI L (A_ x y m u i ti j tj e te a ta),AF y xs] (Az Dg) [AI L (A_ x y m u i ti j tj e te a ta),AF y xs]:=by
 obtain⟨_,_|_⟩:=B<;>exact Mt O (.g 1107828801<|.cc (GB _ _ O U.l y j tj v k xs hx hl) [1] λYa=>.g 66<|.cc (MA _ _ O U.l ↑v ↑a k ta he) [] λYa=>.fi () [1,0])
theorem sg(U:AA 8 A)(L x y m u i ti j tj e te a ta:Nat)(xs:Aa)(hx:xs.length<=j)(hl:j<=1000):
 BG B.C A (isTrue (EO GJ) (Aq B L) (Bf (EO GJ) (Aq B L))) [AI L (A_ x y m u i ti j tj e te a ta),AF y xs]
  (λp:Nat×Nat=>J p.1)
  (λp=>[DD p.1 p.2 .none .none,AI L (A_ x y m u i ti j tj e te a ta),AF y xs]):=by
 obtain⟨_,_|_⟩:=B<;>exact en O U (.g 1107828801<|.cc (HR _ _ O U.l y j tj xs hx hl) [1] λy0=>.fi (y0) [0,1,0])
theorem px(U:Bj 8 A)(L x y m u i ti j tj e te a ta k:Nat)(xs:Aa)(hx:xs[i]? =some (e,k))(hl:xs.length<=1000)(he:(e:Int)=(e:Int)):
 AC B.C A (BM (.whileLoop (EO FY) (FR FY) [] (Aq B L))) [AI L (A_ x y m u i ti j tj e te a ta),AF x xs]
  (λq:Nat=>.again (.whileLoop (EO FY) (FR FY) [] (Aq B L)))
  (λq=>[AI L (A_ x y m u (i+1) q j tj e te a ta),AF x xs]):=by
 obtain⟨_,_|_⟩:=B<;>exact Mt O (.g 1107828801<|.cc (GB _ _ O U.l x i ti e k xs hx hl) [1] λYa=>.g 66<|.cc (MB _ _ O U.l ↑e ↑e k te he) [] λYa=>.g 66<|.fr λk2=>.cc (Ip _ _ O U.l i ti k2) [] λy3=>.fr λk4=>.g 6210<|.fi (y3) [1,0])
theorem py(U:Bj 8 A)(L x y m u i ti j tj e te a ta v k:Nat)(xs:Aa)(hx:xs[i]? =some (v,k))(hl:xs.length<=1000)(he:(v:Int)≠(e:Int)):
 AS B A (BM (.whileLoop (EO FY) (FR FY) [] (Aq B L))) [AI L (A_ x y m u i ti j tj e te a ta),AF x xs] (Az Dg) [AI L (A_ x y m u i ti j tj e te a ta),AF x xs]:=by
 obtain⟨_,_|_⟩:=B<;>exact Mt O (.g 1107828801<|.cc (GB _ _ O U.l x i ti v k xs hx hl) [1] λYa=>.g 66<|.cc (MA _ _ O U.l ↑v ↑e k te he) [] λYa=>.fi () [1,0])
theorem sj(U:AA 8 A)(L x y m u i ti j tj e te a ta:Nat)(xs:Aa)(hx:xs.length<=i)(hl:i<=1000):
 BG B.C A (isTrue (EO FY) (Aq B L) (Bf (EO FY) (Aq B L))) [AI L (A_ x y m u i ti j tj e te a ta),AF x xs]
  (λp:Nat×Nat=>J p.1)
  (λp=>[DD p.1 p.2 .none .none,AI L (A_ x y m u i ti j tj e te a ta),AF x xs]):=by
 obtain⟨_,_|_⟩:=B<;>exact en O U (.g 1107828801<|.cc (HR _ _ O U.l x i ti xs hx hl) [1] λy0=>.fi (y0) [0,1,0])
theorem d9(U:Bj 8 A)(L x y m u i ti j tj e te a ta k:Nat)(xs:Aa)(hx:xs[j]? =some (a,k))(hl:xs.length<=1000)(he:(a:Int)=(a:Int)):
 AC B.C A (BM (.whileLoop (EO D1) (FR D1) [] (Aq B L))) [AI L (A_ x y m u i ti j tj e te a ta),AF y xs]
  (λq:Nat=>.again (.whileLoop (EO D1) (FR D1) [] (Aq B L)))
  (λq=>[AI L (A_ x y m u i ti (j+1) q e te a ta),AF y xs]):=by
 obtain⟨_,_|_⟩:=B<;>exact Mt O (.g 1107828801<|.cc (GB _ _ O U.l y j tj a k xs hx hl) [1] λYa=>.g 66<|.cc (MB _ _ O U.l ↑a ↑a k ta he) [] λYa=>.g 66<|.fr λk2=>.cc (Ip _ _ O U.l j tj k2) [] λy3=>.fr λk4=>.g 6210<|.fi (y3) [1,0])
theorem p9(U:Bj 8 A)(L x y m u i ti j tj e te a ta v k:Nat)(xs:Aa)(hx:xs[j]? =some (v,k))(hl:xs.length<=1000)(he:(v:Int)≠(a:Int)):
 AS B A (BM (.whileLoop (EO D1) (FR D1) [] (Aq B L))) [AI L (A_ x y m u i ti j tj e te a ta),AF y xs] (Az Dg) [AI L (A_ x y m u i ti j tj e te a ta),AF y xs]:=by
 obtain⟨_,_|_⟩:=B<;>exact Mt O (.g 1107828801<|.cc (GB _ _ O U.l y j tj v k xs hx hl) [1] λYa=>.g 66<|.cc (MA _ _ O U.l ↑v ↑a k ta he) [] λYa=>.fi () [1,0])
theorem sn(U:AA 8 A)(L x y m u i ti j tj e te a ta:Nat)(xs:Aa)(hx:xs.length<=j)(hl:j<=1000):
 BG B.C A (isTrue (EO D1) (Aq B L) (Bf (EO D1) (Aq B L))) [AI L (A_ x y m u i ti j tj e te a ta),AF y xs]
  (λp:Nat×Nat=>J p.1)
  (λp=>[DD p.1 p.2 .none .none,AI L (A_ x y m u i ti j tj e te a ta),AF y xs]):=by
 obtain⟨_,_|_⟩:=B<;>exact en O U (.g 1107828801<|.cc (HR _ _ O U.l y j tj xs hx hl) [1] λy0=>.fi (y0) [0,1,0])
theorem p8(U:Bj 8 A)(L x y m u i ti j tj e te a ta h th:Nat)(tb:Value)(xs:Aa)(hh:A.handled=some (J h))(hx:xs.length<=j)(hl:j<=1000):
 BG B.C A (isTrue (EO D1) (Aq B L) (Bf (EO D1) (Aq B L))) [AI L (A_ x y m u i ti j tj e te a ta),AF y xs,DD h th tb .none]
  (λp:Nat×Nat=>J p.1)
  (λp=>[DD p.1 p.2 .none (J h),AI L (A_ x y m u i ti j tj e te a ta),AF y xs,DD h th tb .none]):=by
 obtain⟨_,_|_⟩:=B<;>exact xT O (.g 1107828801<|.cc (b4 _ _ O U.l y j tj h th tb xs hh hx hl) [1,1] λy0=>.fi (y0) [0,2,1,0])
theorem sJ(U:AA 8 A)(L x y m u i ti j tj v k w q:Nat)(xs ys:Aa)(hx:xs[i]? =some (v,k))(hl:xs.length<=1000)(hy:ys[j]? =some (w,q))(hm:ys.length<=1000):
 AS B A (Ac (Eh.take 2) (Aq B L)) [AI L (Ni x y m u i ti j tj),AF x xs,AF y ys] .next [AI L (A_ x y m u i ti j tj v k w q),AF x xs,AF y ys]:=Ix O U (.g 1107828801<|.cc (Ci _ _ O U.l x i ti v k xs hx hl) [1] λYa=>.fr λk1=>.g 4607477033026<|.cc (Ci _ _ O U.l y j tj w q ys hy hm) [2] λYa=>.fr λk3=>.g 6275<|.fi () [2,1,0])
theorem xc(U:AA 8 A)(L x y m u i ti j tj:Nat)(xs ys:Aa)(hx:xs.length<=i)(hl:i<=1000):
 BG B.C A (Ac (Eh.take 2) (Aq B L)) [AI L (Ni x y m u i ti j tj),AF x xs,AF y ys]
  (λp:Nat×Nat=>J p.1)
  (λp=>[DD p.1 p.2 .none .none,AI L (Ni x y m u i ti j tj),AF x xs,AF y ys]):=by
 obtain⟨_,_|_⟩:=B<;>exact eo O U (.g 1107828801<|.cc (HR _ _ O U.l x i ti xs hx hl) [1] λy0=>.fi (y0) [0,1,0,0])
theorem xe(U:AA 8 A)(L x y m u i ti j tj v k:Nat)(xs ys:Aa)(hx:xs[i]? =some (v,k))(hl:xs.length<=1000)(hy:ys.length<=j)(hm:j<=1000):
 BG B.C A (Ac (Eh.take 2) (Aq B L)) [AI L (Ni x y m u i ti j tj),AF x xs,AF y ys]
  (λp:Nat×Nat=>J p.1)
  (λp=>[DD p.1 p.2 .none .none,AI L (V_ x y m u i ti j tj v k),AF x xs,AF y ys]):=by
 obtain⟨_,_|_⟩:=B<;>exact eo O U (.g 1107828801<|.cc (Ci _ _ O U.l x i ti v k xs hx hl) [1] λYa=>.fr λk1=>.g 4607477033026<|.cc (HR _ _ O U.l y j tj ys hy hm) [2] λy2=>.fi (y2) [0,2,1,0])
theorem sK(U:AA 8 A)(L x y m u i ti j tj e te a ta v k w q:Nat)(xs ys:Aa)(hx:xs[i]? =some (v,k))(hl:xs.length<=1000)(hy:ys[j]? =some (w,q))(hm:ys.length<=1000):
 AS B A (Ac (Eh.take 2) (Aq B L)) [AI L (A_ x y m u i ti j tj e te a ta),AF x xs,AF y ys] .next [AI L (A_ x y m u i ti j tj v k w q),AF x xs,AF y ys]:=Ix O U (.g 1107828801<|.cc (Ci _ _ O U.l x i ti v k xs hx hl) [1] λYa=>.fr λk1=>.g 4607477033026<|.cc (Ci _ _ O U.l y j tj w q ys hy hm) [2] λYa=>.fr λk3=>.g 6275<|.fi () [2,1,0])
theorem xd(U:AA 8 A)(L x y m u i ti j tj e te a ta:Nat)(xs ys:Aa)(hx:xs.length<=i)(hl:i<=1000):
 BG B.C A (Ac (Eh.take 2) (Aq B L)) [AI L (A_ x y m u i ti j tj e te a ta),AF x xs,AF y ys]
  (λp:Nat×Nat=>J p.1)
  (λp=>[DD p.1 p.2 .none .none,AI L (A_ x y m u i ti j tj e te a ta),AF x xs,AF y ys]):=by
 obtain⟨_,_|_⟩:=B<;>exact eo O U (.g 1107828801<|.cc (HR _ _ O U.l x i ti xs hx hl) [1] λy0=>.fi (y0) [0,1,0,0])
theorem xf(U:AA 8 A)(L x y m u i ti j tj e te a ta v k:Nat)(xs ys:Aa)(hx:xs[i]? =some (v,k))(hl:xs.length<=1000)(hy:ys.length<=j)(hm:j<=1000):
 BG B.C A (Ac (Eh.take 2) (Aq B L)) [AI L (A_ x y m u i ti j tj e te a ta),AF x xs,AF y ys]
  (λp:Nat×Nat=>J p.1)
  (λp=>[DD p.1 p.2 .none .none,AI L (A_ x y m u i ti j tj v k a ta),AF x xs,AF y ys]):=by
 obtain⟨_,_|_⟩:=B<;>exact eo O U (.g 1107828801<|.cc (Ci _ _ O U.l x i ti v k xs hx hl) [1] λYa=>.fr λk1=>.g 4607477033026<|.cc (HR _ _ O U.l y j tj ys hy hm) [2] λy2=>.fi (y2) [0,2,1,0])
theorem pA(U:AA 8 A)(L x y m u i ti j tj e te a ta:Nat)(h:(e:Int)<(a:Int)):
 AS B A (isTrue (P7 Eg) (Aq B L) (Bf (P7 Eg) (Aq B L))) [AI L (A_ x y m u i ti j tj e te a ta)] true [AI L (A_ x y m u i ti j tj e te a ta)]:=by
 obtain⟨_,_|_⟩:=B<;>exact Q6 O U (.g 4161<|.cc (IJ _ _ O U.l ↑e ↑a te ta h) [] λYa=>.fi () [0])
theorem e7(U:AA 8 A)(L x y m u i ti j tj e te a ta:Nat)(h: ¬(e:Int)<(a:Int)):
 AS B A (isTrue (P7 Eg) (Aq B L) (Bf (P7 Eg) (Aq B L))) [AI L (A_ x y m u i ti j tj e te a ta)] false [AI L (A_ x y m u i ti j tj e te a ta)]:=by
 obtain⟨_,_|_⟩:=B<;>exact Q6 O U (.g 4161<|.cc (II _ _ O U.l ↑e ↑a te ta h) [] λYa=>.fi () [0])
theorem o9(U:AA 8 A)(L x y m u i ti j tj e te a ta:Nat)(h:(e:Int)>(a:Int)):
 AS B A (isTrue (P7 (PK Eg)) (Aq B L) (Bf (P7 (PK Eg)) (Aq B L))) [AI L (A_ x y m u i ti j tj e te a ta)] true [AI L (A_ x y m u i ti j tj e te a ta)]:=by
 obtain⟨_,_|_⟩:=B<;>exact Q6 O U (.g 4161<|.cc (Ky _ _ O U.l ↑e ↑a te ta h) [] λYa=>.fi () [0])
theorem e5(U:AA 8 A)(L x y m u i ti j tj e te a ta:Nat)(h: ¬(e:Int)>(a:Int)):
 AS B A (isTrue (P7 (PK Eg)) (Aq B L) (Bf (P7 (PK Eg)) (Aq B L))) [AI L (A_ x y m u i ti j tj e te a ta)] false [AI L (A_ x y m u i ti j tj e te a ta)]:=by
 obtain⟨_,_|_⟩:=B<;>exact Q6 O U (.g 4161<|.cc (Qo _ _ O U.l ↑e ↑a te ta h) [] λYa=>.fi () [0])
theorem o4(U:AA 8 A)(L x y m u i ti j tj e te a ta:Nat)(zs:Ak)(hz:zs.length<=1000):
 AC B.C A (Ac ((U5 Eg).take 2) (Aq B L)) [AI L (A_ x y m u i ti j tj e te a ta),AE m zs]
  (λq:Nat=>.next)
  (λq=>[AI L (A_ x y m u (i+1) q j tj e te a ta),AE m (zs++[.int (e:Int) te])]):=Ix O U (.g 69827305601<|.cc (Do O U.l m (.int (↑e) te) zs hz) [1] λYa=>.g 66<|.fr λk1=>.cc (F_ _ _ O U.l i ti k1) [] λy2=>.fr λk3=>.g 6210<|.fi (y2) [1,0])
theorem o5(U:AA 8 A)(L x y m u i ti j tj e te a ta:Nat)(zs:Ak)(hz:zs.length<=1000):
 AC B.C A (Ac ((U5 (PK Eg)).take 2) (Aq B L)) [AI L (A_ x y m u i ti j tj e te a ta),AE u zs]
  (λq:Nat=>.next)
  (λq=>[AI L (A_ x y m u i ti (j+1) q e te a ta),AE u (zs++[.int (a:Int) ta])]):=Ix O U (.g 69827305601<|.cc (Do O U.l u (.int (↑a) ta) zs hz) [1] λYa=>.g 66<|.fr λk1=>.cc (F_ _ _ O U.l j tj k1) [] λy2=>.fr λk3=>.g 6210<|.fi (y2) [1,0])
theorem o7(U:AA 8 A)(L x y m u i ti j tj e te a ta:Nat):
 AC B.C A (Ac (Jm.take 1) (Aq B L)) [AI L (A_ x y m u i ti j tj e te a ta)]
  (λq:Nat=>.next)
  (λq=>[AI L (A_ x y m u (i+1) q j tj e te a ta)]):=Ix O U (.g 65<|.fr λk0=>.cc (F_ _ _ O U.l i ti k0) [] λy1=>.fr λk2=>.g 6145<|.fi (y1) [0])
theorem d5(U:Bj 8 A)(L x y m u i ti j tj e te a ta:Nat):
 AC B.C A (Ac (Mo.take 1) (Aq B L)) [AI L (A_ x y m u i ti j tj e te a ta)]
  (λq:Nat=>.next)
  (λq=>[AI L (A_ x y m u i ti (j+1) q e te a ta)]):=by
 obtain⟨_,_|_⟩:=B<;>exact AAN O (.g 65<|.fr λk0=>.cc (Ip _ _ O U.l j tj k0) [] λy1=>.fr λk2=>.g 6145<|.fi (y1) [0])
noncomputable def Gq(l:Ay)(v:Nat):Nat->Nat->Nat
 |0,i=>i
 |r+1,i=>if l[i]? =some v then Gq l v r (i+1) else i
def BJ(l:Ay)(v i:Nat):Nat:=Gq l v (l.length-i) i
omit O
theorem V9{l:Ay}{v:Nat}: ∀{r i:Nat},i+r<=l.length->Gq l v r i<=l.length
 |0,i,h=>by rw[Gq];lia
 |r+1,i,h=>by
  rw[Gq]
  split
  ·exact V9 ADj
  ·lia
section
variable{B:Bx}{A:AL}{c:Code}{l:Ay}{v:Nat}{Fr:Nat->Nat->AN}
theorem Nh(hq:c.quiet=true)(go: ∀i t,l[i]? =some v->AC B.C (A.under c) (BM c) (Fr i t) (λYa:Nat=>G8 c) (λq=>Fr (i+1) q))
 (stop: ∀i t w,l[i]? =some w->w≠v->AC B.C (A.under c) (BM c) (Fr i t) (λYa:Unit=>Az .next) (λYa=>Fr i t)):
 ∀(r i t:Nat),i+r=l.length->Gq l v r i<l.length->AT B.C A c (Fr i t) (λYa:Nat=>.ok .next) (λq=>Fr (Gq l v r i) q)
 |0,i,t,h,hk=>by rw[Gq] at hk;lia
 |r+1,i,t,h,hk=>by
  rw[Gq] at hk⊢
  by_cases e:l[i]? =some v
  ·rw[if_pos e] at hk⊢
   exact AT.NM (c':=λYa=>c) (go i t e) (λYa=>hq) λq=>Nh hq go stop r (i+1) q ADj hk
  ·rw[if_neg e] at hk⊢
   have hw:l[i]? =some l[i]:=AJ ADj
   exact(AT.ends (stop i t _ hw (λq=>e (by rw[hw,q])))).weaken λYa=>⟨t,rfl,λR s S=>S⟩
theorem JS(hq:c.quiet=true)(go: ∀i t,l[i]? =some v->AC B.C (A.under c) (BM c) (Fr i t) (λYa:Nat=>G8 c) (λq=>Fr (i+1) q)){Z:Type}{exc:Z->Value}{led:Z->AN}
 (out: ∀t,AT B.C A c (Fr l.length t) (λz:Z=>.error (exc z)) led):
 ∀(r i t:Nat),i+r=l.length->Gq l v r i=l.length->AT B.C A c (Fr i t) (λz:Z=>.error (exc z)) led
 |0,i,t,h,hk=>by
  obtain rfl:i=l.length:=by lia
  exact out t
 |r+1,i,t,h,hk=>by
  rw[Gq] at hk
  by_cases e:l[i]? =some v
  ·rw[if_pos e] at hk
   exact AT.NM (c':=λYa=>c) (go i t e) (λYa=>hq) λq=>JS hq go out r (i+1) q ADj hk
  ·rw[if_neg e] at hk;lia
end
section
variable{B:Bx}{A:AL}{F:AN}{test:Expr}{body orelse:Dx}{pos:Pos}{env:Env}
theorem AT.QT{X Y:Type}{ex:X->Nat}{led:X->AN}{led2:X->Y->AN}(h:BG B.C (A.under (.whileLoop test body orelse env)) (isTrue test env (Bf test env)) F (λx=>.ref (ex x+323)) led)
 (hn: ∀x,AC B.C (A.under (.whileLoop test body orelse env)) (E0 (.ref (ex x+323)) env) (led x) (λYa:Y=>()) (led2 x)):
 AT B.C A (.whileLoop test body orelse env) F (λq:X×Y=>.error (.ref (ex q.1+323))) (λq=>led2 q.1 q.2):=λR s S=>by
 refine BL ?_;show BN _ _ ((LZ test body orelse env).onRaise (λx=>do E0 x env;EQ x)) _ _ s;refine DT ?_;unfold LZ;refine AB (BG.wp h S λx s₁ S₁=>?_);refine AB (Av (hn x R s₁ S₁) (λYa s₂ ⟨y,_,S₂⟩=>wpAny_theTreesLotGoes ⟨(x,y),rfl,S₂⟩) λYa Ya q=>q.elim)
theorem AC.Ht{X:Type}{fl:X->OU}{led:X->AN}(h:Bv B.C A (.whileLoop test body orelse env) F (λx=>.ok (fl x)) led):AC B.C A (Qe (.While test body orelse pos) env) F fl led:=λR s S=>by
 rw[exec_While];exact AB (m:=Ke _) (DU (AC.runOwn h R s S))
structure XD where
 e:Nat
 t:Nat
 b:Nat
 p:Sc
 k:Nat
abbrev Fu(L:Nat)(fl cx:Value)(d:XD):AN:=[DD d.e d.t (J d.b) cx,MV d.b L fl d.p]
theorem BG.Ht{L:Nat}{fl cx:Value}{led:XD->AN}(hf:env.frame=some (L+323))(h:AT B.C A (.whileLoop test body orelse env) F (λd:XD=>.error (J d.e)) (λd=>Fu L fl cx d++led d)):
 BG B.C A (Qe (.While test body orelse pos) env) F (λd:XD=>J d.e) (λd=>Fu L (CL (L+323:Nat)) cx d++led d):=λR s S=>by
 rw[exec_While];refine AB (m:=Ke _) (DU (wpAny_runOwn ?_));rw[Around.mark_none];refine Fm (h R s S) λr s₁ ⟨d,e,S₁⟩=>?_;subst e;show BN _ _ _ _ _ _;have S2:St B.C (Fu L fl cx d++(led d++R)) s₁:=by rw[<-AG];exact S₁
 refine AB (B9 (DV S2) rfl (x:=J d.b) rfl ?_);refine iN (show¬((J d.b==CU)=true) from by simp) ?_
 rw[hf]
 first
  |exact AB (AP (Av (GH (C:=B.C) (A:=A) (L:=L) (e:=d.e) (t:=d.t) (b:=d.b) (cx:=cx) (fl:=fl) (p:=d.p) (some (L+323)) _ s₁ S2) (λYa s₂ ⟨_,_,S₂⟩=>⟨d,rfl,by rw[AG];exact S₂⟩) λYa Ya q=>q.elim))
  |exact Av (GH (C:=B.C) (A:=A) (L:=L) (e:=d.e) (t:=d.t) (b:=d.b) (cx:=cx) (fl:=fl) (p:=d.p) (some (L+323)) _ s₁ S2) (λYa s₂ ⟨_,_,S₂⟩=>⟨d,rfl,by rw[AG];exact S₂⟩) λYa Ya q=>q.elim
end
theorem GV{xs:Aa}{i v:Nat}(h:(ns xs)[i]? =some v): ∃k,xs[i]? =some (v,k):=by
 unfold ns at h;rw[AQ] at h;cases e:xs[i]? with
 |none=>rw[e] at h;cases h
 |some q=>rw[e] at h;cases h;exact⟨q.2,rfl⟩
theorem B3(xs:Aa):(ns xs).length=xs.length:=AD _
structure Fs(B:Bx)(A:AL)(L:Nat)(G:AN):Prop where
 fr: ∃outer,A.frames=some (Aq B L::outer)/\Sa G outer
theorem Fs.all{B:Bx}{A:AL}{L:Nat}{G:AN}(h:Fs B A L G)(al:BC)(F:AN)(hF: ∀e∈G,e∈F)(h0:AI L al∈F): ∃outer,A.frames=some (Aq B L::outer)/\Sa F (Aq B L::outer):=by
 obtain⟨outer,h1,h2⟩:=h.fr;refine⟨outer,h1,λe he=>?_⟩
 rcases List.mem_cons.mp he with rfl|he
 ·exact⟨by show(D4 B.P 227).scope.kind≠.module;exact(by kernel_rfl:(D4 B.P 227).scope.kind=.function)▸ADm,L+323,.type "frame",al,rfl,h0⟩
 ·obtain⟨k,f,c,a,e1,e2⟩:=h2 e he;exact⟨k,f,c,a,e1,hF _ e2⟩
include O
theorem se(U:Bj 9 A){L x y m u i ti j tj e te a ta:Nat}{xs:Aa}(hl:xs.length<=1000)(hi:i<=xs.length)(hk:BJ (ns xs) e i<xs.length):
 AC B.C A (Ac [GI] (Aq B L)) [AI L (A_ x y m u i ti j tj e te a ta),AF x xs] (λYa:Nat=>.next) (λq=>[AI L (A_ x y m u (BJ (ns xs) e i) q j tj e te a ta),AF x xs]):=by
 have h:=Nh (B:=B) (A:=A) (c:=(.whileLoop (EO GI) (FR GI) [] (Aq B L))) (l:=ns xs) (v:=e) (Fr:=λn t=>[AI L (A_ x y m u n t j tj e te a ta),AF x xs]) rfl
  (λn t h=>by obtain⟨k,hk⟩:=GV h;exact pp O U.under L x y m u n t j tj e te a ta k xs hk hl rfl)
  (λn t w h hw=>by obtain⟨k,hk⟩:=GV h;exact pq O U.under L x y m u n t j tj e te a ta w k xs hk hl ADj)
  ((ns xs).length-i) i ti (by rw[B3];lia) (by rw[B3];rw[BJ,B3] at hk;exact hk)
 exact AC.one (AC.Ht h.call)
theorem sa(U:AA 9 A){L x y m u i ti j tj e te a ta:Nat}{xs:Aa}{G:AN}(hF:Fs B A L G)(hl:xs.length<=1000)(hi:i<=xs.length)(hk:BJ (ns xs) e i=xs.length):
 BG B.C A (Ac [GI] (Aq B L)) ([AI L (A_ x y m u i ti j tj e te a ta),AF x xs]++G) (λd:XD=>J d.e) (λd=>Fu L (CL (L+323:Nat)) .none d++([AI L (A_ x y m u xs.length d.k j tj e te a ta),AF x xs]++G)):=by
 have B8:Bj 9 A:=U.h;have out: ∀t,AT B.C A (.whileLoop (EO GI) (FR GI) [] (Aq B L)) ([AI L (A_ x y m u xs.length t j tj e te a ta),AF x xs]++G) (λd:XD=>.error (J d.e)) (λd=>Fu L (CL (L+323:Nat)) .none d++([AI L (A_ x y m u xs.length d.k j tj e te a ta),AF x xs]++G)):=λt=>by
  obtain⟨outer,Hl,Qv⟩:=hF.all (A_ x y m u xs.length t j tj e te a ta) ([AI L (A_ x y m u xs.length t j tj e te a ta),AF x xs]++G) (λe he=>Ax _ he) (.head _)
  exact(AT.QT (ex:=λp:Nat×Nat=>p.1) ((sd O (A:=A.under (.whileLoop (EO GI) (FR GI) [] (Aq B L))) U.loop L x y m u xs.length t j tj e te a ta xs (Am _) ADj).frame G) λp=>GY O (A:=A.under (.whileLoop (EO GI) (FR GI) [] (Aq B L))) Hl rfl Qv).weaken λq=>⟨⟨q.1.1,q.1.2,q.2.1,q.2.2,t⟩,rfl,λR s S=>S⟩
 have h:=JS (B:=B) (A:=A) (c:=(.whileLoop (EO GI) (FR GI) [] (Aq B L))) (l:=ns xs) (v:=e) (Fr:=λn t=>[AI L (A_ x y m u n t j tj e te a ta),AF x xs]++G) rfl
  (λn t hq=>by obtain⟨k,hk⟩:=GV hq;exact(pp O (A:=A.under (.whileLoop (EO GI) (FR GI) [] (Aq B L))) B8.under L x y m u n t j tj e te a ta k xs hk hl rfl).frame ([]++G)) (by rw[B3];exact out)
  ((ns xs).length-i) i ti (by rw[B3];lia) (by rw[BJ] at hk;rw[hk,B3])
 exact BG.one (BG.Ht (env:=Aq B L) rfl h)
theorem si(U:Bj 9 A){L x y m u i ti j tj e te a ta:Nat}{xs:Aa}(hl:xs.length<=1000)(hi:j<=xs.length)(hk:BJ (ns xs) a j<xs.length):
 AC B.C A (Ac [GJ] (Aq B L)) [AI L (A_ x y m u i ti j tj e te a ta),AF y xs] (λYa:Nat=>.next) (λq=>[AI L (A_ x y m u i ti (BJ (ns xs) a j) q e te a ta),AF y xs]):=by
 have h:=Nh (B:=B) (A:=A) (c:=(.whileLoop (EO GJ) (FR GJ) [] (Aq B L))) (l:=ns xs) (v:=a) (Fr:=λn t=>[AI L (A_ x y m u i ti n t e te a ta),AF y xs]) rfl
  (λn t h=>by obtain⟨k,hk⟩:=GV h;exact pr O U.under L x y m u i ti n t e te a ta k xs hk hl rfl)
  (λn t w h hw=>by obtain⟨k,hk⟩:=GV h;exact pw O U.under L x y m u i ti n t e te a ta w k xs hk hl ADj)
  ((ns xs).length-j) j tj (by rw[B3];lia) (by rw[B3];rw[BJ,B3] at hk;exact hk)
 exact AC.one (AC.Ht h.call)
theorem sf(U:AA 9 A){L x y m u i ti j tj e te a ta:Nat}{xs:Aa}{G:AN}(hF:Fs B A L G)(hl:xs.length<=1000)(hi:j<=xs.length)(hk:BJ (ns xs) a j=xs.length):
 BG B.C A (Ac [GJ] (Aq B L)) ([AI L (A_ x y m u i ti j tj e te a ta),AF y xs]++G) (λd:XD=>J d.e) (λd=>Fu L (CL (L+323:Nat)) .none d++([AI L (A_ x y m u i ti xs.length d.k e te a ta),AF y xs]++G)):=by
 have B8:Bj 9 A:=U.h;have out: ∀t,AT B.C A (.whileLoop (EO GJ) (FR GJ) [] (Aq B L)) ([AI L (A_ x y m u i ti xs.length t e te a ta),AF y xs]++G) (λd:XD=>.error (J d.e)) (λd=>Fu L (CL (L+323:Nat)) .none d++([AI L (A_ x y m u i ti xs.length d.k e te a ta),AF y xs]++G)):=λt=>by
  obtain⟨outer,Hl,Qv⟩:=hF.all (A_ x y m u i ti xs.length t e te a ta) ([AI L (A_ x y m u i ti xs.length t e te a ta),AF y xs]++G) (λe he=>Ax _ he) (.head _)
  exact(AT.QT (ex:=λp:Nat×Nat=>p.1) ((sg O (A:=A.under (.whileLoop (EO GJ) (FR GJ) [] (Aq B L))) U.loop L x y m u i ti xs.length t e te a ta xs (Am _) ADj).frame G) λp=>GY O (A:=A.under (.whileLoop (EO GJ) (FR GJ) [] (Aq B L))) Hl rfl Qv).weaken λq=>⟨⟨q.1.1,q.1.2,q.2.1,q.2.2,t⟩,rfl,λR s S=>S⟩
 have h:=JS (B:=B) (A:=A) (c:=(.whileLoop (EO GJ) (FR GJ) [] (Aq B L))) (l:=ns xs) (v:=a) (Fr:=λn t=>[AI L (A_ x y m u i ti n t e te a ta),AF y xs]++G) rfl
  (λn t hq=>by obtain⟨k,hk⟩:=GV hq;exact(pr O (A:=A.under (.whileLoop (EO GJ) (FR GJ) [] (Aq B L))) B8.under L x y m u i ti n t e te a ta k xs hk hl rfl).frame ([]++G)) (by rw[B3];exact out)
  ((ns xs).length-j) j tj (by rw[B3];lia) (by rw[BJ] at hk;rw[hk,B3])
 exact BG.one (BG.Ht (env:=Aq B L) rfl h)
theorem fG(U:Bj 9 A){L x y m u i ti j tj e te a ta:Nat}{xs:Aa}(hl:xs.length<=1000)(hi:i<=xs.length)(hk:BJ (ns xs) e i<xs.length):
 AC B.C A (Ac [FY] (Aq B L)) [AI L (A_ x y m u i ti j tj e te a ta),AF x xs] (λYa:Nat=>.next) (λq=>[AI L (A_ x y m u (BJ (ns xs) e i) q j tj e te a ta),AF x xs]):=by
 have h:=Nh (B:=B) (A:=A) (c:=(.whileLoop (EO FY) (FR FY) [] (Aq B L))) (l:=ns xs) (v:=e) (Fr:=λn t=>[AI L (A_ x y m u n t j tj e te a ta),AF x xs]) rfl
  (λn t h=>by obtain⟨k,hk⟩:=GV h;exact px O U.under L x y m u n t j tj e te a ta k xs hk hl rfl)
  (λn t w h hw=>by obtain⟨k,hk⟩:=GV h;exact py O U.under L x y m u n t j tj e te a ta w k xs hk hl ADj)
  ((ns xs).length-i) i ti (by rw[B3];lia) (by rw[B3];rw[BJ,B3] at hk;exact hk)
 exact AC.one (AC.Ht h.call)
theorem fF(U:AA 9 A){L x y m u i ti j tj e te a ta:Nat}{xs:Aa}{G:AN}(hF:Fs B A L G)(hl:xs.length<=1000)(hi:i<=xs.length)(hk:BJ (ns xs) e i=xs.length):
 BG B.C A (Ac [FY] (Aq B L)) ([AI L (A_ x y m u i ti j tj e te a ta),AF x xs]++G) (λd:XD=>J d.e) (λd=>Fu L (CL (L+323:Nat)) .none d++([AI L (A_ x y m u xs.length d.k j tj e te a ta),AF x xs]++G)):=by
 have B8:Bj 9 A:=U.h;have out: ∀t,AT B.C A (.whileLoop (EO FY) (FR FY) [] (Aq B L)) ([AI L (A_ x y m u xs.length t j tj e te a ta),AF x xs]++G) (λd:XD=>.error (J d.e)) (λd=>Fu L (CL (L+323:Nat)) .none d++([AI L (A_ x y m u xs.length d.k j tj e te a ta),AF x xs]++G)):=λt=>by
  obtain⟨outer,Hl,Qv⟩:=hF.all (A_ x y m u xs.length t j tj e te a ta) ([AI L (A_ x y m u xs.length t j tj e te a ta),AF x xs]++G) (λe he=>Ax _ he) (.head _)
  exact(AT.QT (ex:=λp:Nat×Nat=>p.1) ((sj O (A:=A.under (.whileLoop (EO FY) (FR FY) [] (Aq B L))) U.loop L x y m u xs.length t j tj e te a ta xs (Am _) ADj).frame G) λp=>GY O (A:=A.under (.whileLoop (EO FY) (FR FY) [] (Aq B L))) Hl rfl Qv).weaken λq=>⟨⟨q.1.1,q.1.2,q.2.1,q.2.2,t⟩,rfl,λR s S=>S⟩
 have h:=JS (B:=B) (A:=A) (c:=(.whileLoop (EO FY) (FR FY) [] (Aq B L))) (l:=ns xs) (v:=e) (Fr:=λn t=>[AI L (A_ x y m u n t j tj e te a ta),AF x xs]++G) rfl
  (λn t hq=>by obtain⟨k,hk⟩:=GV hq;exact(px O (A:=A.under (.whileLoop (EO FY) (FR FY) [] (Aq B L))) B8.under L x y m u n t j tj e te a ta k xs hk hl rfl).frame ([]++G)) (by rw[B3];exact out)
  ((ns xs).length-i) i ti (by rw[B3];lia) (by rw[BJ] at hk;rw[hk,B3])
 exact BG.one (BG.Ht (env:=Aq B L) rfl h)
theorem sp(U:Bj 9 A){L x y m u i ti j tj e te a ta:Nat}{xs:Aa}(hl:xs.length<=1000)(hi:j<=xs.length)(hk:BJ (ns xs) a j<xs.length):
 AC B.C A (Ac [D1] (Aq B L)) [AI L (A_ x y m u i ti j tj e te a ta),AF y xs] (λYa:Nat=>.next) (λq=>[AI L (A_ x y m u i ti (BJ (ns xs) a j) q e te a ta),AF y xs]):=by
 have h:=Nh (B:=B) (A:=A) (c:=(.whileLoop (EO D1) (FR D1) [] (Aq B L))) (l:=ns xs) (v:=a) (Fr:=λn t=>[AI L (A_ x y m u i ti n t e te a ta),AF y xs]) rfl
  (λn t h=>by obtain⟨k,hk⟩:=GV h;exact d9 O U.under L x y m u i ti n t e te a ta k xs hk hl rfl)
  (λn t w h hw=>by obtain⟨k,hk⟩:=GV h;exact p9 O U.under L x y m u i ti n t e te a ta w k xs hk hl ADj)
  ((ns xs).length-j) j tj (by rw[B3];lia) (by rw[B3];rw[BJ,B3] at hk;exact hk)
 exact AC.one (AC.Ht h.call)
theorem sm(U:AA 9 A){L x y m u i ti j tj e te a ta:Nat}{xs:Aa}{G:AN}(hF:Fs B A L G)(hl:xs.length<=1000)(hi:j<=xs.length)(hk:BJ (ns xs) a j=xs.length):
 BG B.C A (Ac [D1] (Aq B L)) ([AI L (A_ x y m u i ti j tj e te a ta),AF y xs]++G) (λd:XD=>J d.e) (λd=>Fu L (CL (L+323:Nat)) .none d++([AI L (A_ x y m u i ti xs.length d.k e te a ta),AF y xs]++G)):=by
 have B8:Bj 9 A:=U.h;have out: ∀t,AT B.C A (.whileLoop (EO D1) (FR D1) [] (Aq B L)) ([AI L (A_ x y m u i ti xs.length t e te a ta),AF y xs]++G) (λd:XD=>.error (J d.e)) (λd=>Fu L (CL (L+323:Nat)) .none d++([AI L (A_ x y m u i ti xs.length d.k e te a ta),AF y xs]++G)):=λt=>by
  obtain⟨outer,Hl,Qv⟩:=hF.all (A_ x y m u i ti xs.length t e te a ta) ([AI L (A_ x y m u i ti xs.length t e te a ta),AF y xs]++G) (λe he=>Ax _ he) (.head _)
  exact(AT.QT (ex:=λp:Nat×Nat=>p.1) ((sn O (A:=A.under (.whileLoop (EO D1) (FR D1) [] (Aq B L))) U.loop L x y m u i ti xs.length t e te a ta xs (Am _) ADj).frame G) λp=>GY O (A:=A.under (.whileLoop (EO D1) (FR D1) [] (Aq B L))) Hl rfl Qv).weaken λq=>⟨⟨q.1.1,q.1.2,q.2.1,q.2.2,t⟩,rfl,λR s S=>S⟩
 have h:=JS (B:=B) (A:=A) (c:=(.whileLoop (EO D1) (FR D1) [] (Aq B L))) (l:=ns xs) (v:=a) (Fr:=λn t=>[AI L (A_ x y m u i ti n t e te a ta),AF y xs]++G) rfl
  (λn t hq=>by obtain⟨k,hk⟩:=GV hq;exact(d9 O (A:=A.under (.whileLoop (EO D1) (FR D1) [] (Aq B L))) B8.under L x y m u i ti n t e te a ta k xs hk hl rfl).frame ([]++G)) (by rw[B3];exact out)
  ((ns xs).length-j) j tj (by rw[B3];lia) (by rw[BJ] at hk;rw[hk,B3])
 exact BG.one (BG.Ht (env:=Aq B L) rfl h)
theorem pz(U:Bj 9 A){L x y m u i ti j tj e te a ta:Nat}{xs:Aa}{h th:Nat}{tb:Value}{G:AN}(hh:A.handled=some (J h))(hF:Fs B A L G)(hl:xs.length<=1000)(hi:j<=xs.length)(hk:BJ (ns xs) a j=xs.length):
 BG B.C A (Ac [D1] (Aq B L)) ([AI L (A_ x y m u i ti j tj e te a ta),AF y xs,DD h th tb .none]++G) (λd:XD=>J d.e) (λd=>Fu L (CL (L+323:Nat)) (J h) d++([AI L (A_ x y m u i ti xs.length d.k e te a ta),AF y xs,DD h th tb .none]++G)):=by
 have B8:Bj 9 A:=U;have out: ∀t,AT B.C A (.whileLoop (EO D1) (FR D1) [] (Aq B L)) ([AI L (A_ x y m u i ti xs.length t e te a ta),AF y xs,DD h th tb .none]++G) (λd:XD=>.error (J d.e)) (λd=>Fu L (CL (L+323:Nat)) (J h) d++([AI L (A_ x y m u i ti xs.length d.k e te a ta),AF y xs,DD h th tb .none]++G)):=λt=>by
  obtain⟨outer,Hl,Qv⟩:=hF.all (A_ x y m u i ti xs.length t e te a ta) ([AI L (A_ x y m u i ti xs.length t e te a ta),AF y xs,DD h th tb .none]++G) (λe he=>Ax _ he) (.head _)
  exact(AT.QT (ex:=λp:Nat×Nat=>p.1) ((p8 O (A:=A.under (.whileLoop (EO D1) (FR D1) [] (Aq B L))) U.under L x y m u i ti xs.length t e te a ta h th tb xs hh (Am _) ADj).frame G) λp=>GY O (A:=A.under (.whileLoop (EO D1) (FR D1) [] (Aq B L))) Hl rfl Qv).weaken λq=>⟨⟨q.1.1,q.1.2,q.2.1,q.2.2,t⟩,rfl,λR s S=>S⟩
 have h:=JS (B:=B) (A:=A) (c:=(.whileLoop (EO D1) (FR D1) [] (Aq B L))) (l:=ns xs) (v:=a) (Fr:=λn t=>[AI L (A_ x y m u i ti n t e te a ta),AF y xs,DD h th tb .none]++G) rfl
  (λn t hq=>by obtain⟨k,hk⟩:=GV hq;exact(d9 O (A:=A.under (.whileLoop (EO D1) (FR D1) [] (Aq B L))) B8.under L x y m u i ti n t e te a ta k xs hk hl rfl).frame ([DD h th tb .none]++G)) (by rw[B3];exact out)
  ((ns xs).length-j) j tj (by rw[B3];lia) (by rw[BJ] at hk;rw[hk,B3])
 exact BG.one (BG.Ht (env:=Aq B L) rfl h)
omit O
section
variable{B:Bx}{A:AL}
theorem aB{α:Type}{AAW:String}{L:Nat}{fl cx:Value}{env:Env}{d:XD}(hf:env.frame=some (L+323)):BG B.C A (PySem.passOn AAW (J d.e) env:Sem α) (Fu L fl cx d) (λYa:Unit=>J d.e) (λYa=>Fu L (CL (L+323:Nat)) cx d):=λR s S=>by
 unfold PySem.passOn;refine AB (B9 (DV S) rfl (x:=J d.b) rfl ?_);rw[if_neg (show¬((J d.b==CU)=true) from by simp),hf]
 have k:=Av (GH (C:=B.C) (A:=A) (L:=L) (e:=d.e) (t:=d.t) (b:=d.b) (cx:=cx) (fl:=fl) (p:=d.p) (some (L+323)) R s S) (Q':=λYa s₂=>BN B.C.M A (throw (J d.e):Sem α) (λYa Ya=>False) (λe s'=> ∃_:Unit,e=J d.e/\St B.C (Fu L (CL (L+323:Nat)) cx d++R) s') s₂) (E':=λe s'=> ∃_:Unit,e=J d.e/\St B.C (Fu L (CL (L+323:Nat)) cx d++R) s') (λYa s₂ ⟨_,_,S₂⟩=>R1 ⟨(),rfl,S₂⟩) λYa Ya q=>q.elim
 first
  |exact AB (AP (AB k))
  |exact AB k
theorem Rk{A1 A2:AL}{L:Nat}{cx:Value}{env:Env}{d:XD}{R:AN}{s:Af}{E:Value->Af->Prop}(hf:env.frame=some (L+323))(S:St B.C (Fu L (CL (L+323:Nat)) cx d++R) s)
 (h: ∀s',St B.C (Fu L (CL (L+323:Nat)) cx d++R) s'->E (J d.e) s'):notedBy B.C.M A1 env (cameBackBy B.C.M A2 env E) (J d.e) s:=by
 unfold notedBy;refine AC.wp (GZ hf) S λYa s₁ S₁=>?_;unfold cameBackBy;refine AB (B9 (DV S₁) rfl (x:=J d.b) rfl ?_);rw[if_neg (show¬((J d.b==CU)=true) from by simp),hf]
 have k:=Av (GH (C:=B.C) (A:=A2) (L:=L) (e:=d.e) (t:=d.t) (b:=d.b) (cx:=cx) (fl:=CL (L+323:Nat)) (p:=d.p) (some (L+323)) R s₁ S₁) (Q':=λYa xX=>E (J d.e) xX) (E':=E) (λYa s₂ ⟨_,_,S₂⟩=>h _ S₂) λYa Ya q=>q.elim
 first
  |exact AB (AP k)
  |exact k
end
abbrev OP(L x y m u i ti j tj e te a ta:Nat)(xs ys:Aa):AN:=[AI L (A_ x y m u i ti j tj e te a ta),AF x xs,AF y ys]
section
variable{B:Bx}{A:AL}{L x y m u i ti j tj e te a ta:Nat}{xs ys:Aa}{G:AN}
theorem eT(O:B.C.Ok)(U:Bj 9 A)(hm:ys.length<=1000)(hj:j<ys.length)(hk:BJ (ns ys) a (j+1)<ys.length):
 AC B.C A (Ac Mo (Aq B L)) [AI L (A_ x y m u i ti j tj e te a ta),AF y ys] (λYa:Nat=>.next) (λq=>[AI L (A_ x y m u i ti (BJ (ns ys) a (j+1)) q e te a ta),AF y ys]):=by
 exact AC.seq (l1:=Mo.take 1) (l2:=[D1]) ((d5 O U.l L x y m u i ti j tj e te a ta).frame [AF y ys]) λq=>sp O U hm (hj) hk
theorem lx(O:B.C.Ok)(U:AA 9 A)(hF:Fs B A L G)(hm:ys.length<=1000)(hj:j<ys.length)(hk:BJ (ns ys) a (j+1)=ys.length):
 BG B.C A (Ac Mo (Aq B L)) ([AI L (A_ x y m u i ti j tj e te a ta),AF y ys]++G) (λd:XD=>J d.e) (λd=>Fu L (CL (L+323:Nat)) .none d++([AI L (A_ x y m u i ti ys.length d.k e te a ta),AF y ys]++G)):=by
 exact BG.seq (l1:=Mo.take 1) (l2:=[D1]) ((d5 O (U.h.le (Fv _ _:8<=9)) L x y m u i ti j tj e te a ta).frame ([AF y ys]++G)) λq=>sm O U hF hm (hj) hk
theorem h9(O:B.C.Ok)(U:Bj 9 A){h th:Nat}{tb:Value}(hh:A.handled=some (J h))(hF:Fs B A L G)(hm:ys.length<=1000)(hj:j<ys.length)(hk:BJ (ns ys) a (j+1)=ys.length):
 BG B.C A (Ac Mo (Aq B L)) ([AI L (A_ x y m u i ti j tj e te a ta),AF y ys,DD h th tb .none]++G) (λd:XD=>J d.e) (λd=>Fu L (CL (L+323:Nat)) (J h) d++([AI L (A_ x y m u i ti ys.length d.k e te a ta),AF y ys,DD h th tb .none]++G)):=by
 exact BG.seq (l1:=Mo.take 1) (l2:=[D1]) ((d5 O U.l L x y m u i ti j tj e te a ta).frame ([AF y ys,DD h th tb .none]++G)) λq=>pz O U hh hF hm (hj) hk
theorem E5:(Aq B L).frame=some (L+323):=rfl
theorem sU(O:B.C.Ok)(U:AA 10 A)(hl:xs.length<=1000)(hm:ys.length<=1000)(hi:i<=xs.length)(hj:j<ys.length)(h3:BJ (ns xs) e i<xs.length)(h4:BJ (ns ys) a (j+1)<ys.length):
 AC B.C A (Ac (Jm.drop 1) (Aq B L)) (OP L x y m u i ti j tj e te a ta xs ys) (λYa:Nat×Nat=>.next) (λq=>OP L x y m u (BJ (ns xs) e i) q.1 (BJ (ns ys) a (j+1)) q.2 e te a ta xs ys):=by
 refine AC.one (st:=.Try [FY] [] [] Mo _) λR s S=>?_;refine H5 (AC.wp (fG O U.lh hl hi h3) S λq s₁ S₁=>?_);refine Fy ?_;refine AC.wp (eT O U.lh hm hj h4) (St.picked (L:=[_,_,_]) (ix:=[0,1,0]) S₁ (F:=[AI L (A_ x y m u (BJ (ns xs) e i) q j tj e te a ta),AF y ys,AF x xs]) rfl) λq2 s₂ S₂=>?_;exact⟨(q,q2),rfl,St.picked (L:=[_,_,_]) (ix:=[0,1,0]) S₂ rfl⟩
theorem xh(O:B.C.Ok)(U:AA 10 A)(hF:Fs B A L G)(hl:xs.length<=1000)(hm:ys.length<=1000)(hi:i<=xs.length)(hj:j<ys.length)(h3:BJ (ns xs) e i=xs.length)(h4:BJ (ns ys) a (j+1)<ys.length):
 BG B.C A (Ac (Jm.drop 1) (Aq B L)) (OP L x y m u i ti j tj e te a ta xs ys++G) (λd:XD×Nat=>J d.1.e) (λd=>Fu L (CL (L+323:Nat)) .none d.1++(OP L x y m u xs.length d.1.k (BJ (ns ys) a (j+1)) d.2 e te a ta xs ys++G)):=by
 refine BG.one (st:=.Try [FY] [] [] Mo _) λR s S=>?_;have S0:St B.C (([AI L (A_ x y m u i ti j tj e te a ta),AF x xs]++G)++(AF y ys::R)) s:=S.perm (by
  show(AI L _::AF x xs::AF y ys::(G++R)).Perm (AI L _::AF x xs::(G++(AF y ys::R)))
  exact .cons _ (.cons _ List.perm_middle.symm))
 refine H5 (BG.wp (fF O U.l hF hl hi h3) S0 λd s₁ S₁=>?_);have S1:St B.C (Fu L (CL (L+323:Nat)) .none d++([AI L (A_ x y m u xs.length d.k j tj e te a ta),AF y ys]++(AF x xs::(G++R)))) s₁:=S₁.perm (by
  show(_::_::AI L _::AF x xs::(G++(AF y ys::R))).Perm (_::_::AI L _::AF y ys::AF x xs::(G++R))
  exact .cons _ (.cons _ (.cons _ ((BY _ BH).trans (.swap _ _ _)))))
 refine AC.wp (GZ E5) S1 λYa s₂ S₂=>?_;refine⟨O0 _,?_⟩;refine AC.wp (GZ E5) S₂ λYa s₃ S₃=>?_;refine AC.wp (GH none) S₃ λYa s₄ S₄=>?_;have S4:St B.C ([AI L (A_ x y m u xs.length d.k j tj e te a ta),AF y ys]++(Fu L .none .none d++(AF x xs::(G++R)))) s₄:=S₄.perm (by
  show(_::_::AI L _::AF y ys::_).Perm (AI L _::AF y ys::_::_::_)
  exact(BY _ (.swap _ _ _)).trans ((Ae _ _ _).trans (.cons _ ((BY _ (.swap _ _ _)).trans (.swap _ _ _)))))
 refine AC.wp (eT O (A:=A.mark (some (J d.e))) U.lh hm hj h4) S4 λq2 s₅ S₅=>?_;have S5:St B.C (Fu L .none .none d++([AI L (A_ x y m u xs.length d.k (BJ (ns ys) a (j+1)) q2 e te a ta),AF y ys]++(AF x xs::(G++R)))) s₅:=S₅.perm (by
  show(AI L _::AF y ys::_::_::_).Perm (_::_::AI L _::AF y ys::_)
  exact((BY _ (.swap _ _ _)).trans (.swap _ _ _)).trans (.cons _ ((BY _ (.swap _ _ _)).trans (.swap _ _ _))))
 refine Av (aB E5 _ s₅ S5) (λYa Ya q=>q.elim) λex s₆ ⟨_,e6,S₆⟩=>?_;refine⟨(d,q2),e6,S₆.perm ?_⟩
 show(_::_::AI L _::AF y ys::AF x xs::(G++R)).Perm (_::_::AI L _::AF x xs::AF y ys::(G++R))
 exact .cons _ (.cons _ (.cons _ (.swap _ _ _)))
theorem xi(O:B.C.Ok)(U:AA 10 A)(hF:Fs B A L G)(hl:xs.length<=1000)(hm:ys.length<=1000)(hi:i<=xs.length)(hj:j<ys.length)(h3:BJ (ns xs) e i<xs.length)(h4:BJ (ns ys) a (j+1)=ys.length):
 BG B.C A (Ac (Jm.drop 1) (Aq B L)) (OP L x y m u i ti j tj e te a ta xs ys++G) (λd:XD×Nat=>J d.1.e) (λd=>Fu L (CL (L+323:Nat)) .none d.1++(OP L x y m u (BJ (ns xs) e i) d.2 ys.length d.1.k e te a ta xs ys++G)):=by
 refine BG.one (st:=.Try [FY] [] [] Mo _) λR s S=>?_;have S0:St B.C ([AI L (A_ x y m u i ti j tj e te a ta),AF x xs]++(AF y ys::(G++R))) s:=S;refine H5 (AC.wp (fG O U.lh hl hi h3) S0 λq s₁ S₁=>?_);refine Fy ?_;have S1:St B.C (([AI L (A_ x y m u (BJ (ns xs) e i) q j tj e te a ta),AF y ys]++G)++(AF x xs::R)) s₁:=S₁.perm (by
  show(AI L _::AF x xs::AF y ys::(G++R)).Perm (AI L _::AF y ys::(G++(AF x xs::R)))
  exact .cons _ ((Ae _ _ _).trans (.cons _ List.perm_middle.symm)))
 refine BG.wp (lx O U.l hF hm hj h4) S1 λd s₂ S₂=>?_;have S2:St B.C (Fu L (CL (L+323:Nat)) .none d++(([AI L (A_ x y m u (BJ (ns xs) e i) q ys.length d.k e te a ta),AF y ys]++G)++(AF x xs::R))) s₂:=by rw[<-AG];exact S₂
 refine Rk E5 S2 λs' S'=>⟨(d,q),rfl,S'.perm ?_⟩
 show(_::_::AI L _::AF y ys::(G++(AF x xs::R))).Perm (_::_::AI L _::AF x xs::AF y ys::(G++R))
 exact .cons _ (.cons _ (.cons _ ((BY _ BH).trans (.swap _ _ _))))
theorem xj(O:B.C.Ok)(U:AA 10 A)(hF:Fs B A L G)(hl:xs.length<=1000)(hm:ys.length<=1000)(hi:i<=xs.length)(hj:j<ys.length)(h3:BJ (ns xs) e i=xs.length)(h4:BJ (ns ys) a (j+1)=ys.length):
 BG B.C A (Ac (Jm.drop 1) (Aq B L)) (OP L x y m u i ti j tj e te a ta xs ys++G) (λd:XD×Nat×Value=>J d.1.e) (λd=>Fu L (CL (L+323:Nat)) d.2.2 d.1++(OP L x y m u xs.length d.2.1 ys.length d.1.k e te a ta xs ys++G)):=by
 refine BG.one (st:=.Try [FY] [] [] Mo _) λR s S=>?_;have S0:St B.C (([AI L (A_ x y m u i ti j tj e te a ta),AF x xs]++G)++(AF y ys::R)) s:=S.perm (by
  show(AI L _::AF x xs::AF y ys::(G++R)).Perm (AI L _::AF x xs::(G++(AF y ys::R)))
  exact .cons _ (.cons _ List.perm_middle.symm))
 refine H5 (BG.wp (fF O U.l hF hl hi h3) S0 λd s₁ S₁=>?_);have S1:St B.C (Fu L (CL (L+323:Nat)) .none d++([AI L (A_ x y m u xs.length d.k j tj e te a ta),AF y ys]++(AF x xs::(G++R)))) s₁:=S₁.perm (by
  show(_::_::AI L _::AF x xs::(G++(AF y ys::R))).Perm (_::_::AI L _::AF y ys::AF x xs::(G++R))
  exact .cons _ (.cons _ (.cons _ ((BY _ BH).trans (.swap _ _ _)))))
 refine AC.wp (GZ E5) S1 λYa s₂ S₂=>?_;refine⟨O0 _,?_⟩;refine AC.wp (GZ E5) S₂ λYa s₃ S₃=>?_;refine AC.wp (GH none) S₃ λYa s₄ S₄=>?_;have S4:St B.C (([AI L (A_ x y m u xs.length d.k j tj e te a ta),AF y ys,DD d.e d.t (J d.b) .none]++G)++(AF x xs::MV d.b L .none d.p::R)) s₄:=S₄.perm (by
  show(DD d.e d.t (J d.b) .none::MV d.b L .none d.p::AI L _::AF y ys::AF x xs::(G++R)).Perm (AI L _::AF y ys::DD d.e d.t (J d.b) .none::(G++(AF x xs::MV d.b L .none d.p::R)))
  refine .trans (.cons _ (.trans (.swap _ _ _) (.cons _ (.swap _ _ _)))) (.trans (.swap _ _ _) (.cons _ (.trans (.swap _ _ _) (.cons _ (.cons _ ?_)))));refine .trans (.swap _ _ _) (.trans (.cons _ List.perm_middle.symm) List.perm_middle.symm))
 have hh:(A.mark (some (J d.e))).handled=some (J d.e):=rfl;refine BG.wp (h9 O (A:=A.mark (some (J d.e))) U.lh hh (G:=G) ⟨hF.fr⟩ hm hj h4) S4 λd2 s₅ S₅=>?_;have S5:St B.C (Fu L (CL (L+323:Nat)) (J d.e) d2++(([AI L (A_ x y m u xs.length d.k ys.length d2.k e te a ta),AF y ys,DD d.e d.t (J d.b) .none]++G)++(AF x xs::MV d.b L .none d.p::R))) s₅:=by rw[<-AG];exact S₅
 refine Rk E5 S5 λs' S'=>⟨(d2,d.k,J d.e),rfl,?_⟩;have S6:St B.C ((Fu L (CL (L+323:Nat)) (J d.e) d2++(OP L x y m u xs.length d.k ys.length d2.k e te a ta xs ys++G))++(R++[DD d.e d.t (J d.b) .none,MV d.b L .none d.p])) s':=S'.perm (by
  show(_::_::AI L _::AF y ys::DD d.e d.t (J d.b) .none::(G++(AF x xs::MV d.b L .none d.p::R))).Perm (_::_::AI L _::AF x xs::AF y ys::(G++(R++[DD d.e d.t (J d.b) .none,MV d.b L .none d.p])))
  refine .cons _ (.cons _ (.cons _ ?_));refine .trans (.cons _ (.cons _ BH)) ?_;refine .trans (.cons _ (.swap _ _ _)) (.trans (.swap _ _ _) (.cons _ (.cons _ ?_)));refine .trans (.cons _ BH) ?_;rw[<-AG];exact A9 (l₁:=[DD d.e d.t (J d.b) .none,MV d.b L .none d.p]))
 rw[<-AG] at S6;exact S6.drop
end
noncomputable def uf:ExceptHandler->List ExceptHandler|.ExceptHandler t _ _ p=>[.ExceptHandler t none [] p]
noncomputable def mF:ExceptHandler->List ExceptHandler|.ExceptHandler _ n b p=>[.ExceptHandler none n b p]
def PS:ExceptHandler:=Rp.headD Au
include O
theorem iJ(U:Bj 8 A)(L e t:Nat)(tb cx:Value):
 AS B A (BM (.handlers (J e) (uf PS) (Aq B L))) [DD e t tb cx] (Az LP) [DD e t tb cx]:=by
 obtain⟨_,_|_⟩:=B<;>exact Mt O (.g 266240<|.fi () [0])
theorem uh(U:Bj 8 A)(L x y m u i ti j tj e t b:Nat)(fl cx:Value)(p:Sc)(xs ys ms us:Aa)(h1:xs.length<=1000)(h2:ys.length<=1000)(h3:ms.length<=1000)(h4:us.length<=1000)(h5:(xs.drop i).length<=1000)(h6:(ys.drop j).length<=1000):
 AS B A (BM (.handlers (J e) (mF PS) (Aq B L))) [DD e t (J b) cx,MV b L fl p,AI L (Ni x y m u i ti j tj),AF x xs,AF y ys,AF m ms,AF u us] (Az LP) [AI L (Ni x y m u i ti j tj),AF x xs,AF y ys,AF m (ms++xs.drop i),AF u (us++ys.drop j)]:=by
 obtain⟨_,_|_⟩:=B<;>exact Mt O (.g 1207835932205387905<|.al λa0=>.g 282949<|.cc (GU _ _ O U.l x a0 i ti xs h1) [4,0] λy1=>.cc (GS _ _ O U.l m y1 ms (Cd i xs) h3 h5) [7,0] λYa=>.g 4886752432711<|.al λa3=>.g 299593<|.cc (GU _ _ O U.l y a3 j tj ys h2) [8,0] λy4=>.cc (GS _ _ O U.l u y4 us (Cd j ys) h4 h6) [10,0] λYa=>.fi () [10,6,2,3,0])
theorem pB(U:AA 8 A)(L x y m u i ti j tj:Nat):
 AC B.C A (Ac ((A4 B.P 227).drop 4) (Aq B L)) [AI L (Ni x y m u i ti j tj)]
  (λa:Nat=>.ret (J a))
  (λa=>[AV a [J m,J u]]):=Ix O U (.g 4161<|.al λa0=>.fi (a0) [0])
theorem ui(U:Bj 8 A)(L x y m u i ti j tj v k e t b:Nat)(fl cx:Value)(p:Sc)(xs ys ms us:Aa)(h1:xs.length<=1000)(h2:ys.length<=1000)(h3:ms.length<=1000)(h4:us.length<=1000)(h5:(xs.drop i).length<=1000)(h6:(ys.drop j).length<=1000):
 AS B A (BM (.handlers (J e) (mF PS) (Aq B L))) [DD e t (J b) cx,MV b L fl p,AI L (V_ x y m u i ti j tj v k),AF x xs,AF y ys,AF m ms,AF u us] (Az LP) [AI L (V_ x y m u i ti j tj v k),AF x xs,AF y ys,AF m (ms++xs.drop i),AF u (us++ys.drop j)]:=by
 obtain⟨_,_|_⟩:=B<;>exact Mt O (.g 1207835932205387905<|.al λa0=>.g 282949<|.cc (GU _ _ O U.l x a0 i ti xs h1) [4,0] λy1=>.cc (GS _ _ O U.l m y1 ms (Cd i xs) h3 h5) [7,0] λYa=>.g 4886752432711<|.al λa3=>.g 299593<|.cc (GU _ _ O U.l y a3 j tj ys h2) [8,0] λy4=>.cc (GS _ _ O U.l u y4 us (Cd j ys) h4 h6) [10,0] λYa=>.fi () [10,6,2,3,0])
theorem pC(U:AA 8 A)(L x y m u i ti j tj v k:Nat):
 AC B.C A (Ac ((A4 B.P 227).drop 4) (Aq B L)) [AI L (V_ x y m u i ti j tj v k)]
  (λa:Nat=>.ret (J a))
  (λa=>[AV a [J m,J u]]):=Ix O U (.g 4161<|.al λa0=>.fi (a0) [0])
theorem uj(U:Bj 8 A)(L x y m u i ti j tj v k w q e t b:Nat)(fl cx:Value)(p:Sc)(xs ys ms us:Aa)(h1:xs.length<=1000)(h2:ys.length<=1000)(h3:ms.length<=1000)(h4:us.length<=1000)(h5:(xs.drop i).length<=1000)(h6:(ys.drop j).length<=1000):
 AS B A (BM (.handlers (J e) (mF PS) (Aq B L))) [DD e t (J b) cx,MV b L fl p,AI L (A_ x y m u i ti j tj v k w q),AF x xs,AF y ys,AF m ms,AF u us] (Az LP) [AI L (A_ x y m u i ti j tj v k w q),AF x xs,AF y ys,AF m (ms++xs.drop i),AF u (us++ys.drop j)]:=by
 obtain⟨_,_|_⟩:=B<;>exact Mt O (.g 1207835932205387905<|.al λa0=>.g 282949<|.cc (GU _ _ O U.l x a0 i ti xs h1) [4,0] λy1=>.cc (GS _ _ O U.l m y1 ms (Cd i xs) h3 h5) [7,0] λYa=>.g 4886752432711<|.al λa3=>.g 299593<|.cc (GU _ _ O U.l y a3 j tj ys h2) [8,0] λy4=>.cc (GS _ _ O U.l u y4 us (Cd j ys) h4 h6) [10,0] λYa=>.fi () [10,6,2,3,0])
theorem pD(U:AA 8 A)(L x y m u i ti j tj v k w q:Nat):
 AC B.C A (Ac ((A4 B.P 227).drop 4) (Aq B L)) [AI L (A_ x y m u i ti j tj v k w q)]
  (λa:Nat=>.ret (J a))
  (λa=>[AV a [J m,J u]]):=Ix O U (.g 4161<|.al λa0=>.fi (a0) [0])
theorem jc(U:AA 8 A)(L x y:Nat):
 AC B.C A (Ac ((A4 B.P 227).take 3) (Aq B L)) [AI L [(HW,J x),(JT,J y)]]
  (λq:Nat×Nat×Nat=>.next)
  (λq=>[AI L (Ni x y q.2.1 q.2.2 0 q.1 0 q.1),AE q.2.1 [],AE q.2.2 []]):=Ix O U (.fr λk0=>.fr λk1=>.g 6145<|.fr λk2=>.g 6145<|.al λa3=>.fr λk4=>.g 6210<|.al λa5=>.fr λk6=>.g 6275<|.fi (k0,a3,a5) [2,1,0])
structure TE where
 d:XD
 cx:Value
 ti:Nat
 tj:Nat
def tI(X:Ay)(i e a:Nat):Nat:=if e<a then BJ X e (i+1) else if a<e then i else BJ X e (i+1)
def tJ(Y:Ay)(j e a:Nat):Nat:=if e<a then j else BJ Y a (j+1)
noncomputable def tM{α:Type}(ms:List α)(q:α)(e a:Nat):List α:=if e<a then ms++[q] else ms
noncomputable def tU{α:Type}(us:List α)(q:α)(e a:Nat):List α:=if e<a then us else if a<e then us++[q] else us
def xY:Pos:=match Eg with|[.If _ _ _ p]=>p|_=>Au
def xZ:Pos:=match PK Eg with|[.If _ _ _ p]=>p|_=>Au
omit O
theorem aE:Eg=[.If (P7 Eg) (U5 Eg) (PK Eg) xY]:=by kernel_rfl
theorem aD:PK Eg=[.If (P7 (PK Eg)) (U5 (PK Eg)) Jm xZ]:=by kernel_rfl
theorem ey:(U5 Eg).take 2++[GI]=U5 Eg:=by kernel_rfl
theorem ez:(U5 (PK Eg)).take 2++[GJ]=U5 (PK Eg):=by kernel_rfl
theorem IW{l:Ay}{v i:Nat}(h:i<=l.length):BJ l v i<=l.length:=V9 ADj
section
variable{B:Bx}{A:AL}{L x y m u i ti j tj e te a ta:Nat}{xs ys ms us:Aa}{G:AN}
theorem lk(O:B.C.Ok)(U:AA 10 A)(hl:xs.length<=1000)(hm:ys.length<=1000)(hi:i<xs.length)(hj:j<ys.length)(h3:BJ (ns xs) e (i+1)<xs.length)(h4:BJ (ns ys) a (j+1)<ys.length):
 AC B.C A (Ac Jm (Aq B L)) (OP L x y m u i ti j tj e te a ta xs ys) (λYa:Nat×Nat=>.next) (λq=>OP L x y m u (BJ (ns xs) e (i+1)) q.1 (BJ (ns ys) a (j+1)) q.2 e te a ta xs ys):=by
 have:=AC.seq (l1:=Jm.take 1) (l2:=Jm.drop 1) ((o7 O U.l L x y m u i ti j tj e te a ta).frame [AF x xs,AF y ys]) λq=>sU O U hl hm ADj hj h3 h4
 rwa [CQ] at this
theorem hB(O:B.C.Ok)(U:AA 10 A)(hF:Fs B A L G)(hl:xs.length<=1000)(hm:ys.length<=1000)(hi:i<xs.length)(hj:j<ys.length)(h:BJ (ns xs) e (i+1)=xs.length∨BJ (ns ys) a (j+1)=ys.length):
 BG B.C A (Ac Jm (Aq B L)) (OP L x y m u i ti j tj e te a ta xs ys++G) (λq:TE=>J q.d.e) (λq=>Fu L (CL (L+323:Nat)) q.cx q.d++(OP L x y m u (BJ (ns xs) e (i+1)) q.ti (BJ (ns ys) a (j+1)) q.tj e te a ta xs ys++G)):=by
 have key: ∀q,BG B.C A (Ac (Jm.drop 1) (Aq B L)) (OP L x y m u (i+1) q j tj e te a ta xs ys++G) (λq:TE=>J q.d.e) (λq=>Fu L (CL (L+323:Nat)) q.cx q.d++(OP L x y m u (BJ (ns xs) e (i+1)) q.ti (BJ (ns ys) a (j+1)) q.tj e te a ta xs ys++G)):=λq=>by
  have l3:BJ (ns xs) e (i+1)<=xs.length:=by have:=IW (l:=ns xs) (v:=e) (i:=i+1) (by rw[B3];lia);rwa [B3] at this
  have l4:BJ (ns ys) a (j+1)<=ys.length:=by have:=IW (l:=ns ys) (v:=a) (i:=j+1) (by rw[B3];lia);rwa [B3] at this
  have Ta:i+1<=xs.length:=hi
  by_cases h3:BJ (ns xs) e (i+1)=xs.length
  ·by_cases h4:BJ (ns ys) a (j+1)=ys.length
   ·have z:=xj (B:=B) (A:=A) (L:=L) (x:=x) (y:=y) (m:=m) (u:=u) (i:=i+1) (ti:=q) (j:=j) (tj:=tj) (e:=e) (te:=te) (a:=a) (ta:=ta) (xs:=xs) (ys:=ys) (G:=G) O U hF hl hm Ta hj h3 h4
    rw[h3,h4];exact BG.weaken (Y:=TE) z λq=>⟨⟨q.1,q.2.2,q.2.1,q.1.k⟩,rfl,λR s S=>S⟩
   ·have z:=xh (B:=B) (A:=A) (L:=L) (x:=x) (y:=y) (m:=m) (u:=u) (i:=i+1) (ti:=q) (j:=j) (tj:=tj) (e:=e) (te:=te) (a:=a) (ta:=ta) (xs:=xs) (ys:=ys) (G:=G) O U hF hl hm Ta hj h3 (HK l4 h4)
    rw[h3];exact BG.weaken (Y:=TE) z λq=>⟨⟨q.1,.none,q.1.k,q.2⟩,rfl,λR s S=>S⟩
  ·have h4:BJ (ns ys) a (j+1)=ys.length:=h.resolve_left h3
   rw[h4];exact BG.weaken (Y:=TE) (xi (B:=B) (A:=A) (L:=L) (x:=x) (y:=y) (m:=m) (u:=u) (i:=i+1) (ti:=q) (j:=j) (tj:=tj) (e:=e) (te:=te) (a:=a) (ta:=ta) (xs:=xs) (ys:=ys) (G:=G) O U hF hl hm Ta hj (HK l3 h3) h4) λq=>⟨⟨q.1,.none,q.2,q.1.k⟩,rfl,λR s S=>S⟩
 have:=BG.seq (l1:=Jm.take 1) (l2:=Jm.drop 1) ((o7 O U.l L x y m u i ti j tj e te a ta).frame ([AF x xs,AF y ys]++G)) key
 rwa [CQ] at this
abbrev Q7(L x y m u i ti j tj e te a ta:Nat)(xs ys ms us:Aa):AN:=OP L x y m u i ti j tj e te a ta xs ys++[AF m ms,AF u us]
theorem P_(ms:Aa)(e te:Nat):ms.map iv++[Be (e:Int) te]=(ms++[(e,te)]).map iv:=by rw[AZ];rfl
theorem oj(O:B.C.Ok)(U:AA 10 A)(hl:xs.length<=1000)(hm:ys.length<=1000)(mY:ms.length<=1000)(mf:us.length<=1000)(hi:i<xs.length)(hj:j<ys.length)(hI:tI (ns xs) i e a<xs.length)(hJ:tJ (ns ys) j e a<ys.length):
 AC B.C A (Ac Eg (Aq B L)) (Q7 L x y m u i ti j tj e te a ta xs ys ms us) (λYa:Nat×Nat=>.next) (λq=>Q7 L x y m u (tI (ns xs) i e a) q.1 (tJ (ns ys) j e a) q.2 e te a ta xs ys (tM ms (e,te) e a) (tU us (a,ta) e a)):=by
 rw[aE]
 by_cases c1:e<a
 ·simp only[tI,tJ,tM,tU,if_pos c1] at hI hJ⊢
  have ht:=pA O U.l L x y m u i ti j tj e te a ta ADj
  have hb:=o4 O U.l L x y m u i ti j tj e te a ta (ms.map iv) (by rw[AD];exact mY)
  rw[P_] at hb;refine AC.one (AC.ML (b:=true) (led1:=λYa:Unit=>Q7 L x y m u i ti j tj e te a ta xs ys ms us) (ht.frame _) λYa=>?_);rw[if_pos rfl,<-ey];refine AC.seq (led1:=λq:Nat=>[AI L (A_ x y m u (i+1) q j tj e te a ta),AF x xs]++[AF y ys,AF m (ms++[(e,te)]),AF u us]) ?_ λq=>?_
  ·refine((hb.frame [AF x xs,AF y ys,AF u us]).ix [0,2,0,0,0] rfl).post λq R s S=>St.picked (L:=[_,_,_,_,_]) (ix:=[0,1,1,0,0]) S rfl
  ·exact((se O U.lh hl ADj hI).frame [AF y ys,AF m (ms++[(e,te)]),AF u us]).weaken λq=>⟨(q,tj),rfl,λR s S=>S⟩
 ·have ht:=e7 O U.l L x y m u i ti j tj e te a ta ADj
  refine AC.one (AC.ML (b:=false) (led1:=λYa:Unit=>Q7 L x y m u i ti j tj e te a ta xs ys ms us) (ht.frame _) λYa=>?_);rw[if_neg BP,aD]
  by_cases c2:a<e
  ·simp only[tI,tJ,tM,tU,if_neg c1,if_pos c2] at hI hJ⊢
   have hg:=o9 O U.l L x y m u i ti j tj e te a ta ADj
   have hb:=o5 O U.l L x y m u i ti j tj e te a ta (us.map iv) (by rw[AD];exact mf)
   rw[P_] at hb;refine AC.one (AC.ML (b:=true) (led1:=λYa:Unit=>Q7 L x y m u i ti j tj e te a ta xs ys ms us) (hg.frame _) λYa=>?_);rw[if_pos rfl,<-ez];refine AC.seq (led1:=λq:Nat=>[AI L (A_ x y m u i ti (j+1) q e te a ta),AF y ys]++[AF x xs,AF m ms,AF u (us++[(a,ta)])]) ?_ λq=>?_
   ·refine((hb.frame [AF x xs,AF y ys,AF m ms]).ix [0,3,0,0,0] rfl).post λq R s S=>St.picked (L:=[_,_,_,_,_]) (ix:=[0,2,1,1,0]) S rfl
   ·refine((si O U.lh hm ADj hJ).frame [AF x xs,AF m ms,AF u (us++[(a,ta)])]).weaken λq=>⟨(ti,q),rfl,pk [0,1,0,0,0] rfl⟩
  ·simp only[tI,tJ,tM,tU,if_neg c1,if_neg c2] at hI hJ⊢
   refine AC.one (AC.ML (b:=false) (led1:=λYa:Unit=>Q7 L x y m u i ti j tj e te a ta xs ys ms us) ((e5 O U.l L x y m u i ti j tj e te a ta ADj).frame _) λYa=>?_)
   rw[if_neg BP]
   exact(lk O U hl hm hi hj hI hJ).frame [AF m ms,AF u us]
theorem jT(O:B.C.Ok)(U:AA 10 A)(hF:Fs B A L G)(hl:xs.length<=1000)(hm:ys.length<=1000)(mY:ms.length<=1000)(mf:us.length<=1000)(hi:i<xs.length)(hj:j<ys.length)(h:tI (ns xs) i e a=xs.length∨tJ (ns ys) j e a=ys.length):
 BG B.C A (Ac Eg (Aq B L)) (Q7 L x y m u i ti j tj e te a ta xs ys ms us++G) (λq:TE=>J q.d.e) (λq=>Fu L (CL (L+323:Nat)) q.cx q.d++(Q7 L x y m u (tI (ns xs) i e a) q.ti (tJ (ns ys) j e a) q.tj e te a ta xs ys (tM ms (e,te) e a) (tU us (a,ta) e a)++G)):=by
 rw[aE]
 by_cases c1:e<a
 ·simp only[tI,tJ,tM,tU,if_pos c1] at h⊢
  have h':BJ (ns xs) e (i+1)=xs.length:=h.resolve_right ADj
  have ht:=pA O U.l L x y m u i ti j tj e te a ta ADj
  have hb:=o4 O U.l L x y m u i ti j tj e te a ta (ms.map iv) (by rw[AD];exact mY)
  rw[P_] at hb;refine BG.one (BG.ML (b:=true) (led1:=λYa:Unit=>Q7 L x y m u i ti j tj e te a ta xs ys ms us++G) (ht.frame ([AF x xs,AF y ys,AF m ms,AF u us]++G)) λYa=>?_);rw[if_pos rfl,<-ey];refine BG.seq (led1:=λq:Nat=>([AI L (A_ x y m u (i+1) q j tj e te a ta),AF x xs]++G)++[AF y ys,AF m (ms++[(e,te)]),AF u us]) ?_ λq=>?_
  ·refine((hb.frame ([AF x xs,AF y ys,AF u us]++G)).pre λR s S=>St.picked (L:=[_,_,_,_,_]) (R:=G++R) (ix:=[0,2,0,0,0]) S rfl).post λq R s S=>?_
   have S1:St B.C ([AI L (A_ x y m u (i+1) q j tj e te a ta),AF m (ms++[(e,te)]),AF x xs,AF y ys,AF u us]++(G++R)) s:=S;refine S1.perm ?_
   show(AI L _::AF m _::AF x xs::AF y ys::AF u us::(G++R)).Perm (AI L _::AF x xs::((G++[AF y ys,AF m (ms++[(e,te)]),AF u us])++R))
   refine .cons _ ((Ae _ _ _).trans (.cons _ ?_))
   refine(Ae _ _ _).trans ?_
   rw[AG];refine .trans ?_ (Ce _ _ _);exact EH _
  ·refine((sa O U.l hF hl ADj h').frame [AF y ys,AF m (ms++[(e,te)]),AF u us]).weaken λq=>⟨⟨q,.none,q.k,tj⟩,rfl,λR s S=>S.perm ?_⟩
   rw[h']
   show(_::_::AI L _::AF x xs::((G++[AF y ys,AF m (ms++[(e,te)]),AF u us])++R)).Perm (_::_::AI L _::AF x xs::AF y ys::AF m _::AF u us::(G++R))
   refine .cons _ (.cons _ (.cons _ (.cons _ ?_)));rw[AG];exact Ce _ _ _
 ·have ht:=e7 O U.l L x y m u i ti j tj e te a ta ADj
  refine BG.one (BG.ML (b:=false) (led1:=λYa:Unit=>Q7 L x y m u i ti j tj e te a ta xs ys ms us++G) (ht.frame ([AF x xs,AF y ys,AF m ms,AF u us]++G)) λYa=>?_);rw[if_neg BP,aD]
  by_cases c2:a<e
  ·simp only[tI,tJ,tM,tU,if_neg c1,if_pos c2] at h⊢
   have h':BJ (ns ys) a (j+1)=ys.length:=h.resolve_left ADj
   have hg:=o9 O U.l L x y m u i ti j tj e te a ta ADj
   have hb:=o5 O U.l L x y m u i ti j tj e te a ta (us.map iv) (by rw[AD];exact mf)
   rw[P_] at hb;refine BG.one (BG.ML (b:=true) (led1:=λYa:Unit=>Q7 L x y m u i ti j tj e te a ta xs ys ms us++G) (hg.frame ([AF x xs,AF y ys,AF m ms,AF u us]++G)) λYa=>?_);rw[if_pos rfl,<-ez];refine BG.seq (led1:=λq:Nat=>([AI L (A_ x y m u i ti (j+1) q e te a ta),AF y ys]++G)++[AF x xs,AF m ms,AF u (us++[(a,ta)])]) ?_ λq=>?_
   ·refine((hb.frame ([AF x xs,AF y ys,AF m ms]++G)).pre λR s S=>St.picked (L:=[_,_,_,_,_]) (R:=G++R) (ix:=[0,3,0,0,0]) S rfl).post λq R s S=>?_
    have S1:St B.C ([AI L (A_ x y m u i ti (j+1) q e te a ta),AF u (us++[(a,ta)]),AF x xs,AF y ys,AF m ms]++(G++R)) s:=S;refine S1.perm ?_
    show(AI L _::AF u _::AF x xs::AF y ys::AF m ms::(G++R)).Perm (AI L _::AF y ys::((G++[AF x xs,AF m ms,AF u (us++[(a,ta)])])++R))
    rw[AG];refine .cons _ (.trans ?_ (.cons _ (Ce [AF x xs,AF m ms,AF u (us++[(a,ta)])] G R)))
    exact(BY _ (.swap _ _ _)).trans ((Ae _ _ _).trans (.cons _ ((Ae _ _ _).trans (.cons _ (.swap _ _ _)))))
   ·refine((sf O U.l hF hm ADj h').frame [AF x xs,AF m ms,AF u (us++[(a,ta)])]).weaken λq=>⟨⟨q,.none,ti,q.k⟩,rfl,λR s S=>S.perm ?_⟩
    rw[h']
    show(_::_::AI L _::AF y ys::((G++[AF x xs,AF m ms,AF u (us++[(a,ta)])])++R)).Perm (_::_::AI L _::AF x xs::AF y ys::AF m _::AF u _::(G++R))
    refine .cons _ (.cons _ (.cons _ ?_));rw[AG]
    exact(BY _ (Ce G [AF x xs,AF m ms,AF u (us++[(a,ta)])] R)).trans (.swap _ _ _)
  ·simp only[tI,tJ,tM,tU,if_neg c1,if_neg c2] at h⊢
   refine BG.one (BG.ML (b:=false) (led1:=λYa:Unit=>Q7 L x y m u i ti j tj e te a ta xs ys ms us++G) ((e5 O U.l L x y m u i ti j tj e te a ta ADj).frame ([AF x xs,AF y ys,AF m ms,AF u us]++G)) λYa=>?_)
   rw[if_neg BP]
   refine(((hB (L:=L) (x:=x) (y:=y) (m:=m) (u:=u) (ti:=ti) (tj:=tj) (te:=te) (ta:=ta) O U hF hl hm hi hj h).frame [AF m ms,AF u us]).pre λR s S=>S.perm ?_).weaken λq=>⟨q,rfl,λR s S=>S.perm ?_⟩
   ·show(AI L _::AF x xs::AF y ys::AF m ms::AF u us::(G++R)).Perm (AI L _::AF x xs::AF y ys::((G++[AF m ms,AF u us])++R))
    rw[AG];exact .cons _ (.cons _ (.cons _ (Ce [AF m ms,AF u us] G R)))
   ·show(_::_::AI L _::AF x xs::AF y ys::((G++[AF m ms,AF u us])++R)).Perm (_::_::AI L _::AF x xs::AF y ys::AF m ms::AF u us::(G++R))
    rw[AG];exact .cons _ (.cons _ (.cons _ (.cons _ (.cons _ (Ce G [AF m ms,AF u us] R)))))
end
include O
theorem pE(U:AA 8 A)(L:Nat):
 AS B A (isTrue ja (Aq B L) (Bf ja (Aq B L))) [] true []:=
 Q6 O U (.fi () [])
noncomputable def zC:ExceptHandler->Expr|.ExceptHandler (some t) _ _ _=>t|_=>Au
def zB:ExceptHandler->Dx|.ExceptHandler _ _ b _=>b
def ug:ExceptHandler->Pos|.ExceptHandler _ _ _ p=>p
omit O
theorem LI:Rp=[.ExceptHandler (some (zC PS)) none (zB PS) (ug PS)]:=by kernel_rfl
theorem rB:uf PS=[.ExceptHandler (some (zC PS)) none [] (ug PS)]:=by kernel_rfl
theorem q9:mF PS=[.ExceptHandler none none (zB PS) (ug PS)]:=by kernel_rfl
def Sh(x y m u i j:Nat)(al:BC):Prop:=(∃ti tj,al=Ni x y m u i ti j tj)∨(∃ti tj v k,al=V_ x y m u i ti j tj v k)∨ ∃ti tj v k w q,al=A_ x y m u i ti j tj v k w q
abbrev LJ(L x y m u:Nat)(al:BC)(xs ys ms us:Aa):AN:=[AI L al,AF x xs,AF y ys,AF m ms,AF u us]
section
variable{B:Bx}{A:AL}{L x y m u i j:Nat}{al:BC}{xs ys ms us:Aa}{G:AN}
theorem o8(O:B.C.Ok)(U:Bj 9 A)(hs:Sh x y m u i j al){e t b:Nat}{fl cx:Value}{p:Sc}(h1:xs.length<=1000)(h2:ys.length<=1000)(h3:ms.length<=1000)(h4:us.length<=1000):
 AT B.C A (.handlers (J e) (mF PS) (Aq B L)) ([DD e t (J b) cx,MV b L fl p]++LJ L x y m u al xs ys ms us) (λYa:Unit=>.ok .brk) (λYa=>LJ L x y m u al xs ys (ms++xs.drop i) (us++ys.drop j)):=by
 have h5:(xs.drop i).length<=1000:=by rw[A6];lia
 have h6:(ys.drop j).length<=1000:=by rw[A6];lia
 rcases hs with⟨ti,tj,rfl⟩|⟨ti,tj,v,k,rfl⟩|⟨ti,tj,v,k,w,q,rfl⟩
 ·exact AT.ends (uh O U.under L x y m u i ti j tj e t b fl cx p xs ys ms us h1 h2 h3 h4 h5 h6)
 ·exact AT.ends (ui O U.under L x y m u i ti j tj v k e t b fl cx p xs ys ms us h1 h2 h3 h4 h5 h6)
 ·exact AT.ends (uj O U.under L x y m u i ti j tj v k w q e t b fl cx p xs ys ms us h1 h2 h3 h4 h5 h6)
theorem UA(O:B.C.Ok)(U:Bj 9 A)(hs:Sh x y m u i j al)(h1:xs.length<=1000)(h2:ys.length<=1000)(h3:ms.length<=1000)(h4:us.length<=1000){d:XD}{fl cx:Value}{R:AN}{s:Af}(S:St B.C ((Fu L fl cx d++LJ L x y m u al xs ys ms us)++R) s):
 BN B.C.M A (handleBy (J d.e) (Aq B L) Rp) (λf s'=>f=.brk/\St B.C (LJ L x y m u al xs ys (ms++xs.drop i) (us++ys.drop j)++R) s') (λYa Ya=>False) s:=by
 rw[LI];refine wpAny_handleBy_cons ?_ (O0 _);have c1:=AT.ends (iJ O (A:=(A.mark (some (J d.e))).under (.handlers (J d.e) (uf PS) (Aq B L))) (Bj.under (U.mark _)) L d.e d.t (J d.b) cx);rw[rB] at c1;refine Fm (c1 _ s S) λr s₁ ⟨_,er,S₁⟩=>?_;subst er;have c2:=o8 (B:=B) (A:=A.mark (some (J d.e))) (L:=L) O (U.mark _) hs (e:=d.e) (t:=d.t) (b:=d.b) (fl:=fl) (cx:=cx) (p:=d.p) h1 h2 h3 h4;rw[q9] at c2;exact Fm (c2 R s₁ S₁) λr s₂ ⟨_,er,S₂⟩=>by subst er;exact⟨rfl,S₂⟩
theorem jr{F:AN}{X:Type}{led:X->AN}(h:AC B.C A (Ac Eh (Aq B L)) F (λYa:X=>.next) led):AC B.C A (Qe (.Try Eh Rp [] [] aF) (Aq B L)) F (λYa:X=>.next) led:=λR s S=>by
 rw[Qd,LI];refine AB (DU (I4 (AC.wp h S λx s₁ S₁=>?_)));exact Fy ⟨x,rfl,S₁⟩
theorem jp(O:B.C.Ok)(U:AA 10 A){F:AN}{al:TE->BC}(hs: ∀q,Sh x y m u i j (al q))(h1:xs.length<=1000)(h2:ys.length<=1000)(h3:ms.length<=1000)(h4:us.length<=1000)
 (h:BG B.C A (Ac Eh (Aq B L)) F (λq:TE=>J q.d.e) (λq=>Fu L (CL (L+323:Nat)) q.cx q.d++(LJ L x y m u (al q) xs ys ms us++G))):
 AC B.C A (Qe (.Try Eh Rp [] [] aF) (Aq B L)) F (λYa:TE=>LP) (λq=>LJ L x y m u (al q) xs ys (ms++xs.drop i) (us++ys.drop j)++G):=λR s S=>by
 rw[Qd,LI];refine AB (DU (I4 (BG.wp h S λq s₁ S₁=>?_)));have S1:St B.C (Fu L (CL (L+323:Nat)) q.cx q.d++(LJ L x y m u (al q) xs ys ms us++(G++R))) s₁:=S₁;refine AC.wp (GZ E5) S1 λYa s₂ S₂=>?_;refine AC.wp (GH none) S₂ λYa s₃ S₃=>?_;have hh:=UA (B:=B) (A:=A) (L:=L) O U.lh (hs q) h1 h2 h3 h4 (d:=q.d) (fl:=.none) (cx:=q.cx) (R:=G++R) S₃;rw[LI] at hh;exact Av hh (λf s₄ ⟨e,S₄⟩=>⟨q,e,S₄⟩) λYa Ya q=>q.elim
theorem WJ(O:B.C.Ok)(U:AA 10 A)(hF:Fs B A L G){F:AN}(hs:Sh x y m u i j al)(h1:xs.length<=1000)(h2:ys.length<=1000)(h3:ms.length<=1000)(h4:us.length<=1000)
 (h:BG B.C A (Ac Eh (Aq B L)) F (λp:Nat×Nat=>J p.1) (λp=>DD p.1 p.2 .none .none::(LJ L x y m u al xs ys ms us++G))):
 AC B.C A (Qe (.Try Eh Rp [] [] aF) (Aq B L)) F (λYa:Unit=>LP) (λYa=>LJ L x y m u al xs ys (ms++xs.drop i) (us++ys.drop j)++G):=λR s S=>by
 rw[Qd,LI];refine AB (DU (I4 (BG.wp h S λp s₁ S₁=>?_)));obtain⟨outer,Hl,Qv⟩:=hF.all al (LJ L x y m u al xs ys ms us++G) (λe he=>Ax _ he) (.head _);refine AC.wp (GY O Hl E5 Qv) S₁ λq s₂ S₂=>?_;have S2:St B.C (Fu L (CL (L+323:Nat)) .none ⟨p.1,p.2,q.1,q.2,0⟩++(LJ L x y m u al xs ys ms us++(G++R))) s₂:=S₂;refine AC.wp (GH none) S2 λYa s₃ S₃=>?_;have hh:=UA (B:=B) (A:=A) (L:=L) O U.lh hs h1 h2 h3 h4 (d:=⟨p.1,p.2,q.1,q.2,0⟩) (fl:=.none) (cx:=.none) (R:=G++R) S₃;rw[LI] at hh;exact Av hh (λf s₄ ⟨e,S₄⟩=>⟨(),e,S₄⟩) λYa Ya q=>q.elim
end
section
variable{B:Bx}{A:AL}{F:AN}{test:Expr}{body orelse:Dx}{env:Env}
theorem AT.eB{Y Z:Type}{L1:Y->AN}{res:Z->Result}{led:Z->AN}(ht:AC B.C (A.under (.whileLoop test body orelse env)) (isTrue test env (Bf test env)) F (λYa:Unit=>true) (λYa=>F))
 (hb:AC B.C (A.under (.whileLoop test body orelse env)) (Ac body env) F (λYa:Y=>.next) L1) (hr: ∀y,AT B.C A (.whileLoop test body orelse env) (L1 y) res led):AT B.C A (.whileLoop test body orelse env) F res led:=λR s S=>by
 refine BL ?_;show BN _ _ ((LZ test body orelse env).onRaise (λx=>do E0 x env;EQ x)) _ _ s;refine DT (Av ?_ (λYa Ya q=>q) (λYa Ya (q:False)=>q.elim));unfold LZ;refine AB (AC.wp ht S λYa s₁ S₁=>?_);refine iT rfl ?_;refine AB (AC.wp hb S₁ λy s₂ S₂=>?_);exact AP ⟨rfl,hr y R s₂ S₂⟩
theorem AT.RE{Y:Type}{L1:Y->AN}(ht:AC B.C (A.under (.whileLoop test body orelse env)) (isTrue test env (Bf test env)) F (λYa:Unit=>true) (λYa=>F))
 (hb:AC B.C (A.under (.whileLoop test body orelse env)) (Ac body env) F (λYa:Y=>LP) L1):AT B.C A (.whileLoop test body orelse env) F (λYa:Y=>.ok .next) L1:=λR s S=>by
 refine BL ?_;show BN _ _ ((LZ test body orelse env).onRaise (λx=>do E0 x env;EQ x)) _ _ s;refine DT (Av ?_ (λYa Ya q=>q) (λYa Ya (q:False)=>q.elim));unfold LZ;refine AB (AC.wp ht S λYa s₁ S₁=>?_);refine iT rfl ?_;refine AB (AC.wp hb S₁ λy s₂ S₂=>?_);exact AP ⟨y,rfl,S₂⟩
end
noncomputable def Jn(X Y:Ay):Nat->Nat->Nat->Ay->Ay->Ay×Ay
 |0,i,j,m,u=>(m++X.drop i,u++Y.drop j)
 |r+1,i,j,m,u=>if i<X.length/\j<Y.length then
  Jn X Y r (tI X i (X.getD i 0) (Y.getD j 0)) (tJ Y j (X.getD i 0) (Y.getD j 0)) (tM m (X.getD i 0) (X.getD i 0) (Y.getD j 0)) (tU u (Y.getD j 0) (X.getD i 0) (Y.getD j 0))
  else(m++X.drop i,u++Y.drop j)
def E9(X Y:Ay):Ay×Ay:=Jn X Y (X.length+Y.length) 0 0 [] []
theorem Q8{X Y:Ay}{r i j:Nat}{m u:Ay}(h: ¬(i<X.length/\j<Y.length)):Jn X Y r i j m u=(m++X.drop i,u++Y.drop j):=by
 cases r with
 |zero=>rfl
 |succ r=>rw[Jn,if_neg h]
theorem V8{l:Ay}{v:Nat}: ∀{r i:Nat},i<=Gq l v r i
 |0,i=>Am i
 |r+1,i=>by
  rw[Gq]
  split
  ·exact AK (Eb i) V8
  ·exact Am i
theorem PR{l:Ay}{v i:Nat}:i<=BJ l v i:=V8
theorem v4(ms:Aa)(q:Nat×Nat)(e a:Nat):ns (tM ms q e a)=tM (ns ms) q.1 e a:=by
 unfold tM ns;split<;>simp
theorem v5(ms:Aa)(q:Nat×Nat)(e a:Nat):ns (tU ms q e a)=tU (ns ms) q.1 e a:=by
 unfold tU ns;split<;>(try split)<;>simp
theorem Ji(a b:Aa):ns (a++b)=ns a++ns b:=by unfold ns;rw[AZ]
theorem LA(a:Aa)(n:Nat):ns (a.drop n)=(ns a).drop n:=by unfold ns;rw[Dk]
structure xu(x y m u:Nat)(M:Ay×Ay) where
 al:BC
 ms:Aa
 us:Aa
 i5:ns ms=M.1
 Xg:ns us=M.2
 sh: ∃i j,Sh x y m u i j al
def j6(x y m u i j:Nat)(al:BC):Prop:=(∃ti tj,al=Ni x y m u i ti j tj)∨ ∃ti tj v k w q,al=A_ x y m u i ti j tj v k w q
section
variable{B:Bx}{A:AL}{L x y m u i j:Nat}{al:BC}{xs ys ms us:Aa}{G:AN}
theorem BG.left{C:Cx}{F:AN}{l1 l2:Dx}{env:Env}{X:Type}{exc:X->Value}{led:X->AN}(h:BG C A (Ac l1 env) F exc led):BG C A (Ac (l1++l2) env) F exc led:=λR s S=>
 Se l1 (Av (h R s S) (λYa Ya q=>q.elim) λYa Ya q=>q)
theorem OA:Eh.take 2++Eg=Eh:=CQ 2 Eh
theorem sV(O:B.C.Ok)(U:AA 10 A)(hs:j6 x y m u i j al)(hi:xs.length<=i)(u4:i<=1000):
 BG B.C A (Ac Eh (Aq B L)) (LJ L x y m u al xs ys ms us++G) (λp:Nat×Nat=>J p.1) (λp=>DD p.1 p.2 .none .none::(LJ L x y m u al xs ys ms us++G)):=by
 rw[<-OA];refine BG.left ?_
 rcases hs with⟨ti,tj,rfl⟩|⟨ti,tj,v,k,w,q,rfl⟩
 ·have h:=xc O U.l L x y m u i ti j tj xs ys hi u4
  exact h.frame ([AF m ms,AF u us]++G)
 ·have h:=xd O U.l L x y m u i ti j tj v k w q xs ys hi u4
  exact h.frame ([AF m ms,AF u us]++G)
theorem sW(O:B.C.Ok)(U:AA 10 A)(hs:j6 x y m u i j al)(hl:xs.length<=1000)(hi:i<xs.length)(hj:ys.length<=j)(mS:j<=1000):
 ∃qJ,Sh x y m u i j qJ/\BG B.C A (Ac Eh (Aq B L)) (LJ L x y m u al xs ys ms us++G) (λp:Nat×Nat=>J p.1) (λp=>DD p.1 p.2 .none .none::(LJ L x y m u qJ xs ys ms us++G)):=by
 have hx:xs[i]? =some (xs[i].1,xs[i].2):=AJ hi;rw[<-OA]
 rcases hs with⟨ti,tj,rfl⟩|⟨ti,tj,v,k,w,q,rfl⟩
 ·refine⟨V_ x y m u i ti j tj xs[i].1 xs[i].2,.inr (.inl ⟨_,_,_,_,rfl⟩),BG.left ?_⟩
  have h:=xe O U.l L x y m u i ti j tj _ _ xs ys hx hl hj mS;exact h.frame ([AF m ms,AF u us]++G)
 ·refine⟨A_ x y m u i ti j tj xs[i].1 xs[i].2 w q,.inr (.inr ⟨_,_,_,_,_,_,rfl⟩),BG.left ?_⟩
  exact(xf O U.l L x y m u i ti j tj v k w q _ _ xs ys hx hl hj mS).frame ([AF m ms,AF u us]++G)
theorem pg(O:B.C.Ok)(U:AA 10 A)(hs:j6 x y m u i j al)(hl:xs.length<=1000)(hm:ys.length<=1000)(hi:i<xs.length)(hj:j<ys.length):
 ∃ti tj,AC B.C A (Ac (Eh.take 2) (Aq B L)) (LJ L x y m u al xs ys ms us++G) (λYa:Unit=>.next) (λYa=>Q7 L x y m u i ti j tj xs[i].1 xs[i].2 ys[j].1 ys[j].2 xs ys ms us++G):=by
 have hx:xs[i]? =some (xs[i].1,xs[i].2):=AJ hi;have hy:ys[j]? =some (ys[j].1,ys[j].2):=AJ hj
 rcases hs with⟨ti,tj,rfl⟩|⟨ti,tj,v,k,w,q,rfl⟩
 ·refine⟨ti,tj,?_⟩
  have h:=sJ O U.l L x y m u i ti j tj _ _ _ _ xs ys hx hl hy hm;exact h.frame ([AF m ms,AF u us]++G)
 ·refine⟨ti,tj,?_⟩
  exact(sK O U.l L x y m u i ti j tj v k w q _ _ _ _ xs ys hx hl hy hm).frame ([AF m ms,AF u us]++G)
abbrev aG(B:Bx)(L:Nat):Code:=.whileLoop ja [.Try Eh Rp [] [] aF] [] (Aq B L)
theorem Xp(O:B.C.Ok)(U:AA 10 A)(F:AN):AC B.C A (isTrue ja (Aq B L) (Bf ja (Aq B L))) F (λYa:Unit=>true) (λYa=>F):=by
 exact(pE O U.l L).frame F
theorem o_(O:B.C.Ok)(U:AA 11 A)(hF:Fs B A L G)(hl:xs.length<=500)(hm:ys.length<=500): ∀(r i j:Nat) (al:BC) (ms us:Aa),j6 x y m u i j al->i<=xs.length->j<=ys.length->(xs.length-i)+(ys.length-j)<=r->ms.length<=i->us.length<=j->
 AT B.C A (aG B L) (LJ L x y m u al xs ys ms us++G) (λYa:xu x y m u (Jn (ns xs) (ns ys) r i j (ns ms) (ns us))=>.ok .next) (λz=>LJ L x y m u z.al xs ys z.ms z.us++G):=by
 intro r
 induction r using Nat.strongRecOn with
 |ind r ih=>
  intro i j al ms us hs hi hj hr mY mf;have B8:AA 10 (A.under (aG B L)):=U.loop;have uO:Fs B (A.under (aG B L)) L G:=⟨hF.fr⟩;have hx:=B3 xs;have hy:=B3 ys;have sh: ∀{al},j6 x y m u i j al->Sh x y m u i j al:=λh=>h.elim .inl λh=>.inr (.inr h)
  by_cases ci:i<xs.length
  ·by_cases cj:j<ys.length
   ·obtain⟨r,rfl⟩: ∃r',r=r'+1:=⟨r-1,by lia⟩
    obtain⟨ti,tj,ym⟩:=pg (B:=B) (A:=A.under (aG B L)) (L:=L) (ms:=ms) (us:=us) (G:=G) O B8 hs (AK hl ADm) (AK hm ADm) ci cj
    have ge:(ns xs).getD i 0=xs[i].1:=by unfold ns;rw[Ad,AQ,AJ ci];rfl
    have ga:(ns ys).getD j 0=ys[j].1:=by unfold ns;rw[Ad,AQ,AJ cj];rfl
    have eG:Jn (ns xs) (ns ys) (r+1) i j (ns ms) (ns us)=Jn (ns xs) (ns ys) r (tI (ns xs) i xs[i].1 ys[j].1) (tJ (ns ys) j xs[i].1 ys[j].1) (ns (tM ms (xs[i].1,xs[i].2) xs[i].1 ys[j].1)) (ns (tU us (ys[j].1,ys[j].2) xs[i].1 ys[j].1)):=by
     rw[Jn,if_pos ⟨by lia,by lia⟩,ge,ga,v4,v5]
    rw[eG];have lI:tI (ns xs) i xs[i].1 ys[j].1<=xs.length:=by
     unfold tI;split
     ·exact hx▸IW ADj
     ·split
      ·exact Cw ci
      ·exact hx▸IW ADj
    have lJ:tJ (ns ys) j xs[i].1 ys[j].1<=ys.length:=by
     unfold tJ;split
     ·exact Cw cj
     ·exact hy▸IW ADj
    have gI:i<=tI (ns xs) i xs[i].1 ys[j].1/\j<=tJ (ns ys) j xs[i].1 ys[j].1/\i+j+1<=tI (ns xs) i xs[i].1 ys[j].1+tJ (ns ys) j xs[i].1 ys[j].1/\(tM ms (xs[i].1,xs[i].2) xs[i].1 ys[j].1).length<=tI (ns xs) i xs[i].1 ys[j].1/\(tU us (ys[j].1,ys[j].2) xs[i].1 ys[j].1).length<=tJ (ns ys) j xs[i].1 ys[j].1:=by
     have s1:=PR (l:=ns xs) (v:=xs[i].1) (i:=i+1);have s2:=PR (l:=ns ys) (v:=ys[j].1) (i:=j+1);unfold tI tJ tM tU
     split
     ·refine⟨Cw s1,Am _,by lia,?_,mf⟩
      rw[AX,CF];lia
     ·split
      ·refine⟨Am _,Cw s2,by lia,mY,?_⟩
       rw[AX,CF];lia
      ·exact⟨Cw s1,Cw s2,by lia,by lia,by lia⟩
    by_cases ck:tI (ns xs) i xs[i].1 ys[j].1<xs.length/\tJ (ns ys) j xs[i].1 ys[j].1<ys.length
    ·have h2:=oj (B:=B) (A:=A.under (aG B L)) (L:=L) (x:=x) (y:=y) (m:=m) (u:=u) (ti:=ti) (tj:=tj) (te:=xs[i].2) (ta:=ys[j].2) (ms:=ms) (us:=us) O B8 (AK hl ADm) (AK hm ADm) ADj ADj ci cj ck.1 ck.2
     have h3:=AC.seq (l1:=Eh.take 2) (l2:=Eg) ym λYa=>h2.frame G;rw[OA] at h3;refine AT.eB (Xp O B8 _) (AC.one (jr h3)) λq=>?_;exact ih r (IZ r) _ _ _ _ _ (.inr ⟨_,_,_,_,_,_,rfl⟩) lI lJ ADj gI.2.2.2.1 gI.2.2.2.2
    ·have Vl:tI (ns xs) i xs[i].1 ys[j].1=xs.length∨tJ (ns ys) j xs[i].1 ys[j].1=ys.length:=by
      by_cases c:tI (ns xs) i xs[i].1 ys[j].1=xs.length
      ·exact .inl c
      ·right
       by_cases c2:tJ (ns ys) j xs[i].1 ys[j].1=ys.length
       ·exact c2
       ·exact absurd ⟨HK lI c,HK lJ c2⟩ ck
     have h3:=BG.seq (l1:=Eh.take 2) (l2:=Eg) ym λYa=>(jT (B:=B) (A:=A.under (aG B L)) (L:=L) (x:=x) (y:=y) (m:=m) (u:=u) (ti:=ti) (tj:=tj) (te:=xs[i].2) (ta:=ys[j].2) (ms:=ms) (us:=us) O B8 uO (AK hl ADm) (AK hm ADm) ADj ADj ci cj Vl)
     rw[OA] at h3;rw[Q8 (by rw[hx,hy];exact ck)]
     refine(AT.RE (Xp O B8 _) (AC.one (jp (al:=λq:TE=>A_ x y m u (tI (ns xs) i xs[i].1 ys[j].1) q.ti (tJ (ns ys) j xs[i].1 ys[j].1) q.tj xs[i].1 xs[i].2 ys[j].1 ys[j].2) O B8 (λq=>.inr (.inr ⟨_,_,_,_,_,_,rfl⟩)) (AK hl ADm) (AK hm ADm) ADj ADj h3))).weaken λq=>⟨⟨_,_,_,?_,?_,⟨_,_,.inr (.inr ⟨_,_,_,_,_,_,rfl⟩)⟩⟩,rfl,λR s S=>S⟩
     ·rw[Ji,LA]
     ·rw[Ji,LA]
   ·obtain⟨qJ,P5,h3⟩:=sW (B:=B) (A:=A.under (aG B L)) (L:=L) (xs:=xs) (ys:=ys) (ms:=ms) (us:=us) (G:=G) O B8 hs (AK hl ADm) ci (Ec cj) (AK (AK hj hm) ADm)
    rw[Q8 (by rw[hx,hy];exact λc=>cj c.2)]
    refine(AT.RE (Xp O B8 _) (AC.one (WJ O B8 uO P5 (AK hl ADm) (AK hm ADm) ADj ADj h3))).weaken λq=>⟨⟨_,_,_,?_,?_,⟨_,_,P5⟩⟩,rfl,λR s S=>S⟩
    ·rw[Ji,LA]
    ·rw[Ji,LA]
  ·have h3:=sV (B:=B) (A:=A.under (aG B L)) (L:=L) (xs:=xs) (ys:=ys) (ms:=ms) (us:=us) (G:=G) O B8 hs (Ec ci) (AK (AK hi hl) ADm)
   rw[Q8 (by rw[hx,hy];exact λc=>ci c.1)]
   refine(AT.RE (Xp O B8 _) (AC.one (WJ O B8 uO (sh hs) (AK hl ADm) (AK hm ADm) ADj ADj h3))).weaken λq=>⟨⟨_,_,_,?_,?_,⟨_,_,sh hs⟩⟩,rfl,λR s S=>S⟩
   ·rw[Ji,LA]
   ·rw[Ji,LA]
end
def AAO:Pos:=⟨180,4,206,17⟩
structure Mi(M:Ay×Ay) where
 t:Nat
 m:Nat
 u:Nat
 ms:Aa
 us:Aa
 i5:ns ms=M.1
 Xg:ns us=M.2
section
variable{B:Bx}
theorem jb:(A4 B.P 227).take 3++([.While ja [.Try Eh Rp [] [] aF] [] AAO]++(A4 B.P 227).drop 4)=A4 B.P 227:=by kernel_rfl
theorem fk(O:B.C.Ok){A:AL}(U:AA 12 A){L x y:Nat}{xs ys:Aa}{G:AN}(hF:Fs B A L G)(hl:xs.length<=500)(hm:ys.length<=500):
 AC B.C A (Ac (A4 B.P 227) (Aq B L)) ([AI L [(HW,J x),(JT,J y)]]++([AF x xs,AF y ys]++G)) (λz:Mi (E9 (ns xs) (ns ys))=>B6 (J z.t)) (λz=>[AV z.t [J z.m,J z.u],AF z.m z.ms,AF z.u z.us]++([AF x xs,AF y ys]++G)):=by
 have hx:=B3 xs;have hy:=B3 ys;rw[<-jb];refine AC.seq ((jc O U.l L x y).frame ([AF x xs,AF y ys]++G)) λq=>?_;refine AC.seq (led1:=λz:xu x y q.2.1 q.2.2 (Jn (ns xs) (ns ys) (xs.length+ys.length) 0 0 (ns []) (ns []))=>LJ L x y q.2.1 q.2.2 z.al xs ys z.ms z.us++G) (AC.one (AC.Ht (AC.pre (o_ (B:=B) (A:=A) (L:=L) (x:=x) (y:=y) (m:=q.2.1) (u:=q.2.2) (xs:=xs) (ys:=ys) O U.l hF hl hm (xs.length+ys.length) 0 0 (Ni x y q.2.1 q.2.2 0 q.1 0 q.1) [] [] (.inl ⟨_,_,rfl⟩) (By _) (By _) ADj (Am _) (Am _)).call λR s S=>?_))) λz=>?_
 ·exact St.picked (L:=[_,_,_,_,_]) (R:=G++R) (ix:=[0,2,2,0,0]) S rfl
 ·obtain⟨al,ms,us,i5,Xg,i,j,sh⟩:=z
  have e:Jn (ns xs) (ns ys) (xs.length+ys.length) 0 0 (ns []) (ns [])=E9 (ns xs) (ns ys):=by unfold E9;rw[hx,hy];rfl
  rw[e] at i5 Xg;have fin: ∀{al:BC},AC B.C A (Ac ((A4 B.P 227).drop 4) (Aq B L)) [AI L al] (λa:Nat=>.ret (J a)) (λa=>[AV a [J q.2.1,J q.2.2]])->
   AC B.C A (Ac ((A4 B.P 227).drop 4) (Aq B L)) (LJ L x y q.2.1 q.2.2 al xs ys ms us++G) (λz:Mi (E9 (ns xs) (ns ys))=>B6 (J z.t)) (λz=>[AV z.t [J z.m,J z.u],AF z.m z.ms,AF z.u z.us]++([AF x xs,AF y ys]++G)):=λh=>by
   refine(h.frame ([AF x xs,AF y ys,AF q.2.1 ms,AF q.2.2 us]++G)).weaken λa=>⟨⟨a,q.2.1,q.2.2,ms,us,i5,Xg⟩,rfl,λR s S=>?_⟩
   exact St.picked (L:=[_,_,_,_,_]) (R:=G++R) (ix:=[0,2,2,0,0]) S rfl
  rcases sh with⟨ti,tj,rfl⟩|⟨ti,tj,v,k,rfl⟩|⟨ti,tj,v,k,w,p,rfl⟩
  ·exact fin (pB O U.l L x y q.2.1 q.2.2 i ti j tj)
  ·exact fin (pC O U.l L x y q.2.1 q.2.2 i ti j tj v k)
  ·exact fin (pD O U.l L x y q.2.1 q.2.2 i ti j tj v k w p)
theorem WE(O:B.C.Ok){A:AL}(U:AA 15 A){x y:Nat}{xs ys:Aa}{G:AN}{outer:List Env}(Hl:A.frames=some outer)(Qv:Sa G outer)(hl:xs.length<=500)(hm:ys.length<=500):
 Bv B.C A (.call (.ref 227) ⟨[J x,J y],[]⟩) ([AF x xs,AF y ys]++G) (λz:Mi (E9 (ns xs) (ns ys))=>.ok (.ret (J z.t))) (λz=>[AV z.t [J z.m,J z.u],AF z.m z.ms,AF z.u z.us]++([AF x xs,AF y ys]++G)):=
 EU O U [(HW,J x),(JT,J y)]
  (λL=>BK (fl:=λz:Mi (E9 (ns xs) (ns ys))=>.ret (J z.t)) (fk O (AA.deeper U.l) ⟨⟨outer,by show(A.deeper (Aq B L)).frames=_;exact Nq Hl,Qv⟩⟩ hl hm))
end
def C8(A:AL)(Ls:Ay):Prop:= ∃outer,A.frames=some outer/\outer.map (·.frame)=Ls.map (λl=>some (l+323))/\ ∀e∈outer,e.scope.kind≠.module
theorem C8.all{A:AL}{Ls:Ay}{G:AN}(h:C8 A Ls)(hG: ∀l∈Ls,∃al,AI l al∈G): ∃outer,A.frames=some outer/\Sa G outer:=by
 obtain⟨outer,h1,h2,h3⟩:=h;refine⟨outer,h1,λe he=>⟨h3 e he,?_⟩⟩;have hm:e.frame∈Ls.map (λl=>some (l+323)):=h2▸CB he;obtain⟨l,hl,e1⟩:=List.mem_map.mp hm;obtain⟨al,ha⟩:=hG l hl;exact⟨l+323,_,al,e1.symm,ha⟩
theorem C8.deeper{A:AL}{Ls:Ay}{env:Env}{L:Nat}(h:C8 A Ls)(hf:env.frame=some (L+323))(hk:env.scope.kind≠.module):C8 (A.deeper env) (L::Ls):=by
 obtain⟨outer,h1,h2,h3⟩:=h;refine⟨env::outer,Nq h1,by rw[Aw,Aw,h2,hf],λe he=>?_⟩
 rcases List.mem_cons.mp he with rfl|he
 ·exact hk
 ·exact h3 e he
section
variable(B:Bx)(A:AL)(O:B.C.Ok)
def Vc(U:AA 15 A)(x y L1 L2:Nat)(a1 a2:BC)(xs ys:Aa)(hK:C8 A [L1,L2])(hl:xs.length<=500)(hm:ys.length<=500):Ag B.C A where
 c:=.call (.ref 227) ⟨[J x,J y],[]⟩
 F:=[AF x xs,AF y ys,AI L1 a1,AI L2 a2]
 X:=Mi (E9 (ns xs) (ns ys))
 res:=λz=>.ok (.ret (J z.t))
 led:=λz=>[AV z.t [J z.m,J z.u],AF z.m z.ms,AF z.u z.us,AF x xs,AF y ys,AI L1 a1,AI L2 a2]
 ok:=by
  obtain⟨outer,h1,h2⟩:=hK.all (G:=[AI L1 a1,AI L2 a2]) (List.forall_mem_cons.mpr ⟨⟨_,.head _⟩,List.forall_mem_singleton.mpr ⟨_,.tail _ (.head _)⟩⟩);exact WE O U h1 h2 hl hm
def Vd(U:AA 15 A)(x y L1 L2 L3:Nat)(a1 a2 a3:BC)(xs ys:Aa)(hK:C8 A [L1,L2,L3])(hl:xs.length<=500)(hm:ys.length<=500):Ag B.C A where
 c:=.call (.ref 227) ⟨[J x,J y],[]⟩
 F:=[AF x xs,AF y ys,AI L1 a1,AI L2 a2,AI L3 a3]
 X:=Mi (E9 (ns xs) (ns ys))
 res:=λz=>.ok (.ret (J z.t))
 led:=λz=>[AV z.t [J z.m,J z.u],AF z.m z.ms,AF z.u z.us,AF x xs,AF y ys,AI L1 a1,AI L2 a2,AI L3 a3]
 ok:=by
  obtain⟨outer,h1,h2⟩:=hK.all (G:=[AI L1 a1,AI L2 a2,AI L3 a3]) (List.forall_mem_cons.mpr ⟨⟨_,.head _⟩,List.forall_mem_cons.mpr ⟨⟨_,.tail _ (.head _)⟩,List.forall_mem_singleton.mpr ⟨_,.tail _ (.tail _ (.head _))⟩⟩⟩);exact WE O U h1 h2 hl hm
end
def EG(P W:Ay):Ay:=(E9 (E9 W P).2 P).2
include O
theorem bB(U:AA 20 A)(L p w L2 L3:Nat)(a2 a3:BC)(ps ws:Aa)(hK:C8 A [L,L2,L3])(h1:ps.length<=500)(h2:ws.length<=500)(h3: ∀q:Mi (E9 (ns ws) (ns ps)),q.us.length<=500):
 AC B.C A (Ac (A4 B.P 305) (AR B.P 305 [] (L+323))) [AI L [(OE,J p),(Hr,J w)],AF p ps,AF w ws,AI L2 a2,AI L3 a3]
  (λq:Gk (EG (ns ps) (ns ws))=>B6 (J q.a))
  (λq=>[AF q.a q.ys,AF p ps,AF w ws,AI L2 a2,AI L3 a3]):=
 D7 O U (.g 1074008064<|.cc (Vd _ _ O U.l w p L L2 L3 [(⟨⟨[112,108,97,99,101,115]⟩⟩,J p),(⟨⟨[119,97,121]⟩⟩,J w)] a2 a3 ws ps hK h2 h1) [2,1,0,0,0] λ(y0:Mi (E9 (ns ws) (ns ps)))=>.fr λk1=>.g 266305<|.cc (PC O U.l y0.t k1 (J y0.m) (J y0.u)) [0] λYa=>.cc (Dp O U.l) [] λYa=>.g 4102<|.cc (Vd _ _ O U.l y0.u p L L2 L3 [(⟨⟨[112,108,97,99,101,115]⟩⟩,J p),(⟨⟨[119,97,121]⟩⟩,J w)] a2 a3 y0.us ps hK (by first|assumption|exact h3 _|lia) h1) [2,3,3,3,3] λ(y4:Mi (E9 (ns y0.us) (ns ps)))=>.fr λk5=>.g 266305<|.cc (PC O U.l y4.t k5 (J y4.m) (J y4.u)) [0] λYa=>.cc (Dp O U.l) [] λYa=>.fi (⟨y4.u,y4.us,by rw[y4.Xg,y0.Xg];rfl⟩) [2,3,8,4,4])
omit O
theorem WA{X Y:Ay}: ∀{r i j:Nat} {m u:Ay},j<=Y.length->u.length<=j->(Jn X Y r i j m u).2.length<=Y.length
 |0,i,j,m,u,hj,hu=>by simp only[Jn,AX,A6];lia
 |r+1,i,j,m,u,hj,hu=>by
  rw[Jn]
  split
  ·rename_i h
   refine WA ?_ ?_
   ·unfold tJ;split
    ·exact hj
    ·exact IW ADj
   ·have s2:=PR (l:=Y) (v:=Y.getD j 0) (i:=j+1)
    unfold tU tJ
    split
    ·exact hu
    ·split
     ·rw[AX,CF];lia
     ·lia
  ·simp only[AX,A6];lia
theorem WD{X Y:Ay}:(E9 X Y).2.length<=Y.length:=WA (By _) (Am _)
include O
def gQ(U:AA 22 A)(p w L2 L3:Nat)(a2 a3:BC)(ps ws:Aa)(hK:C8 A [L2,L3])(h1:ps.length<=500)(h2:ws.length<=500):Ag B.C A where
 c:=.call (.ref 305) ⟨[J p,J w],[]⟩
 F:=[AF p ps,AF w ws,AI L2 a2,AI L3 a3]
 X:=Gk (EG (ns ps) (ns ws))
 res:=λq=>.ok (.ret (J q.a))
 led:=λq=>[AF q.a q.ys,AF p ps,AF w ws,AI L2 a2,AI L3 a3]
 ok:=EU O U [(OE,J p),(Hr,J w)]
  (λL=>BK (fl:=λq:Gk (EG (ns ps) (ns ws))=>.ret (J q.a)) (by
   refine bB O (AA.deeper U.l) L p w L2 L3 a2 a3 ps ws (hK.deeper rfl ?_) h1 h2 λq=>?_
   ·show(D4 B.P 305).scope.kind≠.module;exact(by kernel_rfl:(D4 B.P 305).scope.kind=.function)▸ADm
   ·have:=WD (X:=ns ws) (Y:=ns ps)
    rw[<-q.Xg] at this;rw[B3,B3] at this
    lia))
theorem Z6(U:AA 24 A)(L c i a p w L3:Nat)(a3:BC)(ps ws:Aa)(hK:C8 A [L,L3])(h1:ps.length<=500)(h2:ws.length<=500):
 AC B.C A (Ac LF (AR B.P 220 [] (L+323))) [AI L (Gw 305 c i a (J p) (J w)),AF p ps,AF w ws,AI L3 a3]
  (λq:Gk (EG (ns ps) (ns ws))=>Dg)
  (λq=>[AI L (Gw 305 c i a (J q.a) (J w)),AF q.a q.ys,AF p ps,AF w ws,AI L3 a3]):=
 D7 O U (.g 16781377<|.cc (gQ O U.l p w L L3 [(⟨⟨[102,117,110,99,116,105,111,110]⟩⟩,.ref 305),(⟨⟨[115,101,113,117,101,110,99,101]⟩⟩,J c),(⟨⟨[105,110,105,116,105,97,108]⟩⟩,J i),(⟨⟨[105,116]⟩⟩,J a),(⟨⟨[118,97,108,117,101]⟩⟩,J p),(⟨⟨[101,108,101,109,101,110,116]⟩⟩,J w)] a3 ps ws hK h1 h2) [1,1,0,0] λy0=>.fr λk1=>.g 6340<|.fi (y0) (3::BW 4))
inductive Sb(P W1 W2:Ay):Nat->Type where
 |s0:Sb P W1 W2 0
 |s1 (a:Nat) (ys:Aa) (ok:ns ys=EG P W1):Sb P W1 W2 1
 |s2 (a:Nat) (ys:Aa) (ok:ns ys=EG (EG P W1) W2):Sb P W1 W2 2
def Sb.val{P W1 W2:Ay}(p:Nat): ∀j,Sb P W1 W2 j->Value
 |_,.s0=>J p
 |_,.s1 a _ _=>J a
 |_,.s2 a _ _=>J a
def Sb.new{P W1 W2:Ay}: ∀{j},Sb P W1 W2 j->AN
 |_,.s0=>[]
 |_,.s1 a ys _=>[AF a ys]
 |_,.s2 a ys _=>[AF a ys]
omit O
theorem dY(P W:Ay):(EG P W).length<=P.length:=WD
include O
theorem Ug(U:AA 28 A)(L c p w1 w2 L3:Nat)(a3:BC)(ps x1 x2:Aa)(hK:C8 A [L,L3])(hp:ps.length<=500)(h1:x1.length<=500)(h2:x2.length<=500):
 AC B.C A (Ac (A4 B.P 220) (AR B.P 220 [] (L+323))) ([AI L [(Bg,.ref 305),(Bh,J c),(Bz,J p)],AE c [J w1,J w2],AF p ps]++[AF w1 x1,AF w2 x2,AI L3 a3])
  (λq:Sb (ns ps) (ns x1) (ns x2) 2=>.ret (Sb.val p 2 q)) (λq=>[AE c [J w1,J w2]]++(q.new++[AF p ps,AF w1 x1,AF w2 x2,AI L3 a3])):=by
 refine L6 O (N:=4) U (k:=305) (x:=c) (i:=p) (xs:=[J w1,J w2]) (S:=Sb (ns ps) (ns x1) (ns x2)) (val:=Sb.val p) (G:=λYa σ=>σ.new++[AF p ps,AF w1 x1,AF w2 x2,AI L3 a3]) (λe he=>?_) (ei:=AF p ps) (vi:=.none) ?_ (P:=λA'=>C8 A' [L,L3]) (λYa=>hK) (λa A' B8 U3 j e hx σ=>?_) .s0 rfl rfl ADn
 ·simp only[CG,B_,or_false] at he
  rcases he with rfl|rfl<;>exact .inl ⟨_,rfl⟩
 ·have e:=oY O U.l L c 305 p [J w1,J w2] (ps.map iv)
  exact e
 ·cases σ with
  |s0=>
   cases hx;have e:=Z6 O (B8.le (ADj:24<=4+22)) L c p a p w1 L3 a3 ps x1 U3 hp h1
   exact AC.weaken ((e.frame [AF w2 x2]).ix [0,0,0,1,0] rfl) λq=>⟨.s1 q.a q.ys q.ok,rfl,pk [0,0,0,0,1,0] rfl⟩
  |s1 b ys ok=>
   cases hx;have hy:ys.length<=500:=by
    have:=dY (ns ps) (ns x1)
    rw[<-ok,B3,B3] at this
    lia
   exact AC.weaken (((Z6 O (B8.le (ADj:24<=4+22)) L c p a b w2 L3 a3 ys x2 U3 hy h2).frame [AF p ps,AF w1 x1]).ix [0,0,2,2,0,0] rfl) λq=>⟨.s2 q.a q.ys (by rw[q.ok,ok]),rfl,pk [0,0,3,3,1,1] rfl⟩
  |s2 b ys ok=>cases hx
def W3(U:AA 32 A)(c p w1 w2 L3:Nat)(a3:BC)(ps x1 x2:Aa)(hK:C8 A [L3])(hp:ps.length<=500)(h1:x1.length<=500)(h2:x2.length<=500):Ag B.C A where
 c:=.call (.ref 220) ⟨[.ref 305,J c,J p],[]⟩
 F:=[AE c [J w1,J w2],AF p ps,AF w1 x1,AF w2 x2,AI L3 a3]
 X:=Gk (EG (EG (ns ps) (ns x1)) (ns x2))
 res:=λq=>.ok (.ret (J q.a))
 led:=λq=>[AF q.a q.ys,AE c [J w1,J w2],AF p ps,AF w1 x1,AF w2 x2,AI L3 a3]
 ok:=EU O U [(Bg,.ref 305),(Bh,J c),(Bz,J p)] (sb:=.g 64<|.fi () [])
  (λL=>BK (fl:=λq:Gk (EG (EG (ns ps) (ns x1)) (ns x2))=>.ret (J q.a)) (by
   refine AC.weaken (Ug O (AA.deeper U.l) L c p w1 w2 L3 a3 ps x1 x2 (hK.deeper rfl ?_) hp h1 h2) λq=>?_
   ·show(D4 B.P 220).scope.kind≠.module;exact(by kernel_rfl:(D4 B.P 220).scope.kind=.function)▸ADm
   ·cases q with
    |s2 a ys ok=>exact⟨⟨a,ys,ok⟩,rfl,pk (1::BW 5) rfl⟩))
def dX:Str:=Bl [95,95,112,114,101,112,97,114,101,95,95]
noncomputable abbrev T1(a:Nat):Bi:=.one (a+323) (.ex ⟨.type "builtin_function_or_method",none,.fields ⟨[.builtin "type.__prepare__",.type "type"]⟩,⟨[]⟩⟩)
def lP(U:AA 6 A):Ag B.C A:=
 DN O U "classmethod_descriptor.__get__" [.builtin "type.__prepare__",.none,.type "type"] [] (λq:Nat=>J q) (λq=>[T1 q]) (λU=>.fi () []) λU=>.al λa0=>.fi (a0) [0]
def cL(U:AA 7 A)(k:Nat):Ag B.C A:=
 DN O U "type.__getattribute__" [.type "type",.str dX k] [] (λq:Nat=>J q) (λq=>[T1 q]) (λU=>.fi () []) λU=>.cc (lP O U.l) [] λy0=>.fi (y0) [0]
theorem g8(U:AA 6 A)(t k:Nat):
 AC B.C A (BM (.builtin "type.__prepare__" ⟨[.type "type",.str ⟨⟨[75]⟩⟩ k,J t],[]⟩)) [AV t [.type "object"]]
  (λq:Nat=>.done (.ret (J q)))
  (λq=>[.one (q+323) (.ns (.type "dict") []),AV t [.type "object"]]):=
 rn O U (.al λa0=>.fi (a0) [0,0])
abbrev Qk:Stmt->Dx:=O5
noncomputable abbrev SO:Stmt->Scope:=ew
noncomputable def bL(s:Stmt):List Str:=(uS s).2.2.2.2.1
noncomputable abbrev eP:Stmt->Pos:=oI
def vK:Str:=Bl [75]
abbrev NP(B:Bx):Stmt:=match A4 B.P 211 with|s::_=>s|_=>Au
abbrev Of(c k:Nat):Bi:=.one (c+323) (.ex ⟨.type "cell",none,.cell (some (J k)),⟨[]⟩⟩)
noncomputable abbrev Yb(l:Ak):Bi:=.one 206 (.ex ⟨.none,none,.fields ⟨l⟩,⟨[]⟩⟩)
noncomputable abbrev Hi(a:Nat)(l:BC):Bi:=.one (a+323) (.ns (.type "dict") l)
abbrev Sn(B:Bx)(L c:Nat):Env:=AR B.P 211 [(CE,c+323)] (L+323)
def RA:Str:=Bl [47,99,108,97,105,109,47,99,117,116,46,112,121]
def qK:Str:=Bl [99,109,112,95,116,111,95,107,101,121,46,60,108,111,99,97,108,115,62,46,75]
abbrev eQ(a:Nat)(n q:Str)(k0 k1 k2 fl:Nat)(ac pc kc:Nat)(ft:Nat)(va:Bool)(tb:Nat)(k6 k7:Nat):Bi:=
 .one (a+323) (.ex ⟨.type "code",none,.fields ⟨[.str n k0,.str q k1,.str RA k2,.int (fl:Int) 0,.int (ac:Int) 0,.int (pc:Int) 0,.int (kc:Int) 0,.int 0 0,J ft,.bool va,.int 276 0,J tb,.none,.none,.none,.none,.int (k6:Int) 0,.int (fl:Int) 0,.str RA k7]⟩,⟨[]⟩⟩)
noncomputable abbrev fA(a:Nat)(l:Ak):Bi:=.one (a+323) (.ex ⟨.none,none,.fields ⟨l⟩,⟨[]⟩⟩)
abbrev Yc(a:Nat):Bi:=Yb [.int 139 0,.int 4 0,J a]
structure CdX where
 k0:Nat
 k1:Nat
 k2:Nat
 k3:Nat
 a4:Nat
 a5:Nat
 k6:Nat
 k7:Nat
 a8:Nat
abbrev yC(a code y:Nat):Bi:=.one (a+323) (.ex ⟨.type "frame",none,.plain,⟨[some (J code),some (.ref 3),some (J y),none,some (.str ⟨⟨[108,97,119,95,105,108,48,48,53,53,95,48,49]⟩⟩ 581),none,some (.ref 0)]⟩⟩)
abbrev tV(B:Bx)(y fr code c:Nat):Env:={scope:=SO (NP B),locals:=y+323,globals:=3,cells:=[(CE,c+323)],qual:=qK++⟨⟨[46]⟩⟩,code:=J code,frame:=some (fr+323),builtins:=0}
noncomputable abbrev K3:Str:=⟨⟨[95,95,109,111,100,117,108,101,95,95]⟩⟩
noncomputable abbrev KI:Str:=⟨⟨[95,95,113,117,97,108,110,97,109,101,95,95]⟩⟩
noncomputable abbrev GD:Str:=⟨⟨[95,95,102,105,114,115,116,108,105,110,101,110,111,95,95]⟩⟩
noncomputable abbrev Xx:Str:=⟨⟨[108,97,119,95,105,108,48,48,53,53,95,48,49]⟩⟩
def vV(B:Bx)(i:Nat)(cl:List (Str×Addr))(code:Nat)(ct:Value):FuncData:=match(Qk (NP B))[i]? with
 |some (.FunctionDef n args body _ _ _ sc _ _ _)=>{name:=n,qualname:=qK++⟨⟨[46]⟩⟩++n,params:=args,body:=.stmts body,scope:=sc,globals:=3,closure:=cl,defaults:=.none,kwdefaults:=.none,pyModule:=.str Xx 581,code:=J code,closureTuple:=ct}
 |_=>Au
abbrev Gu(B:Bx)(a i:Nat)(cl:List (Str×Addr))(code:Nat)(ct:Value):Bi:=.one (a+323) (.ex ⟨.type "function",none,.func (vV B i cl code ct),⟨[]⟩⟩)
noncomputable abbrev Ii:Str:=⟨⟨[95,95,105,110,105,116,95,95]⟩⟩
noncomputable abbrev KL:Str:=⟨⟨[95,95,108,116,95,95]⟩⟩
noncomputable abbrev ed:Str:=⟨⟨[95,95,103,116,95,95]⟩⟩
noncomputable abbrev nn:Str:=⟨⟨[95,95,101,113,95,95]⟩⟩
noncomputable abbrev np:Str:=⟨⟨[95,95,108,101,95,95]⟩⟩
noncomputable abbrev no:Str:=⟨⟨[95,95,103,101,95,95]⟩⟩
noncomputable abbrev Xe:Str:=⟨⟨[95,95,104,97,115,104,95,95]⟩⟩
noncomputable abbrev Tq:Str:=⟨⟨[95,95,115,108,111,116,115,95,95]⟩⟩
noncomputable abbrev ef:Str:=⟨⟨[95,95,115,116,97,116,105,99,95,97,116,116,114,105,98,117,116,101,115,95,95]⟩⟩
abbrev Km(y c t0 t1 t2 a3 f1 f2 f3 f4 f5 f6 st:Nat):BC:=[(K3,.str ⟨⟨[99,112,121,51,49,51,46,102,117,110,99,116,111,111,108,115]⟩⟩ t0),(KI,.str qK t1),(GD,.int 139 t2),(Tq,J a3),(Ii,J f1),(KL,J f2),(ed,J f3),(nn,J f4),(np,J f5),(no,J f6),(Xe,.none),(ef,J st)]
omit O
section
variable{C:Cx}{A:AL}
theorem AC.go{α β:Type}{t:Sem α}{k:α->Sem β}{F:AN}{Y:Type}{D0:Y->β}{Cy:Y->AN}(X:Type)(res:X->α)(led:X->AN)(sc:D5 C A X)(O:C.Ok)(U:A.handled=none)
 (h:H8 C A none res led t sc F) (g: ∀x,AC C A (k (res x)) (led x) D0 Cy):AC C A (t>>=k) F D0 Cy:=
 (Ga O U sc h).bind g
theorem AC.gl{α β:Type}{t:Sem α}{k:α->Sem β}{F:AN}{Y:Type}{D0:Y->β}{Cy:Y->AN}(v:α)(L':AN)(sc:D5 C A Unit)(O:C.Ok){n:Nat}(U:AA n A)(g:AC C A (k v) L' D0 Cy)
 (h:autoParam (H8 C A none (λYa:Unit=>v) (λYa=>L') t sc F) kq):AC C A (t>>=k) F D0 Cy:=(rn O U sc h).bind λYa=>g
theorem AC.gu{α β:Type}{t:Sem α}{k:α->Sem β}{F:AN}{Y:Type}{D0:Y->β}{Cy:Y->AN}(v:α)(sc:D5 C A Unit)(O:C.Ok){n:Nat}(U:AA n A)(g:AC C A (k v) F D0 Cy)
 (h:autoParam (H8 C A none (λYa:Unit=>v) (λYa=>F) t sc F) kq):AC C A (t>>=k) F D0 Cy:=AC.gl v F sc O U g h
theorem AC.hold{α:Type}{t:Sem α}{vs:Ak}{F:AN}{Y:Type}{D0:Y->α}{Cy:Y->AN}(h:AC C A t F D0 Cy):AC C A (holding vs t) F D0 Cy:=λR s S=>Kv (h R s S)
theorem AC.MK{α:Type}{c:Prop} [Decidable c]{t u:Sem α}{F:AN}{Y:Type}{D0:Y->α}{Cy:Y->AN}(h:decide c=false)(g:AC C A u F D0 Cy):AC C A (if c then t else u) F D0 Cy:=by
 rw[if_neg (of_decide_eq_false h)];exact g
theorem AC.ifT{α:Type}{c:Prop} [Decidable c]{t u:Sem α}{F:AN}{Y:Type}{D0:Y->α}{Cy:Y->AN}(h:decide c=true)(g:AC C A t F D0 Cy):AC C A (if c then t else u) F D0 Cy:=by
 rw[if_pos (of_decide_eq_true h)];exact g
theorem AC.ret{α:Type}{F:AN}{X:Type}{res:X->α}{led:X->AN}{v:α}(x:X)(e:v=res x)(e2:F=led x):AC C A (pure v) F res led:=λR s S=>AP ⟨x,e,e2▸S⟩
theorem AC.KN{α β:Type}{t:Sem α}{k:α->Sem β}{F:AN}{v:α}{Y:Type}{D0:Y->β}{Cy:Y->AN}(h:AC C A t F (λYa:Unit=>v) (λYa=>F))(g:AC C A (k v) F D0 Cy):AC C A (t>>=k) F D0 Cy:=h.bind λYa=>g
end
abbrev DW(a n t k1 t1:Nat):Bi:=.one (a+323) (.ex ⟨.type "type",none,.cls {name:=vK,bases:=[.type "object"],mro:=[J a,.type "object"],ns:=n+323,qualname:=qK,hasDict:=false,slotNames:=[EV]},⟨[some (J t),none,some (.str vK k1),some (.str qK t1),some (.builtin "object.__new__"),some (.bool false)]⟩⟩)
section
variable{B:Bx}{A:AL}
theorem Ng(O:B.C.Ok)(U:A.handled=none)(a n t k1 t1:Nat):AC B.C A (isSubtype (J a) (J a)) [DW a n t k1 t1] (λYa:Unit=>true) (λYa=>[DW a n t k1 t1]):=by
 unfold isSubtype;refine AC.go Unit (λYa=>[J a,.type "object"]) (λYa=>[DW a n t k1 t1]) (.g 65<|.fi () [0]) O U ADk λYa=>?_
 refine AC.MK ?_ ?_
 ·rfl
 refine AC.ret () ?_ rfl;simp
theorem T8(O:B.C.Ok)(U:A.handled=none)(s a n t k1 t1:Nat):
 AC B.C A (Builtin.«super.__init__» ⟨[J s,J a,J a],[]⟩) [EZ s .none .none .none,DW a n t k1 t1] (λYa:Unit=>.done (.ret .none)) (λYa=>[EZ s (J a) (J a) (J a),DW a n t k1 t1]):=by
 unfold Builtin.«super.__init__»;refine AC.go (t:=noKeywords _ _) Unit (λYa=>()) (λYa=>[EZ s .none .none .none,DW a n t k1 t1]) (.fi () [0,0]) O U ADk λYa=>?_
 refine AC.go (t:=pure _) Unit (λYa=>(J a,J a)) (λYa=>[EZ s .none .none .none,DW a n t k1 t1]) (.fi () [0,0]) O U ADk λYa=>?_
 refine AC.go (t:=isType _) Unit (λYa=>true) (λYa=>[EZ s .none .none .none,DW a n t k1 t1]) (.g 66<|.fi () [0,0]) O U ADk λYa=>?_
 refine AC.MK ?_ ?_
 ·rfl
 refine AC.MK ?_ ?_
 ·rfl
 refine AC.bind (res:=λYa:Unit=>J a) (led:=λYa=>[EZ s .none .none .none,DW a n t k1 t1]) ?_ λYa=>?_
 ·refine AC.go (t:=isType _) Unit (λYa=>true) (λYa=>[EZ s .none .none .none,DW a n t k1 t1]) (.g 66<|.fi () [0,0]) O U ADk λYa=>?_
  refine AC.ifT ?_ ?_
  ·rfl
  refine AC.KN (t:=isSubtype _ _) (v:=true) (((Ng O U a n t k1 t1).frame [EZ s .none .none .none]).pre (λR s S=>S.perm (Ae _ _ _))|>.post λYa R s S=>S.perm (Ae _ _ _)) ?_;refine AC.ifT ?_ ?_
  ·rfl
  exact AC.ret () rfl rfl
 exact Ga O U (.g 103104387073<|.fi () [0,0]) ADk
end
noncomputable abbrev QF:Str:=⟨⟨[95,95,105,110,105,116,95,115,117,98,99,108,97,115,115,95,95]⟩⟩
noncomputable abbrev Pl(a:Nat)(f self:Value):Bi:=.one (a+323) (.ex ⟨.type "builtin_function_or_method",none,.fields ⟨[f,self]⟩,⟨[]⟩⟩)
include O
def km(U:AA 6 A)(a n t k1 t1:Nat):Ag B.C A:=
 DN O U "classmethod_descriptor.__get__" [.builtin "object.__init_subclass__",.none,J a] [DW a n t k1 t1] (λq:Nat=>J q) (λq=>[Pl q (.builtin "object.__init_subclass__") (J a),DW a n t k1 t1]) (λU=>.fi () [0]) λU=>.g 4161<|.al λa0=>.fi (a0) [0,0]
theorem qw(U:AA 6 A)(m a n t k1 t1:Nat):
 AS B A (BM (.call (J m) ⟨[],[]⟩)) [Pl m (.builtin "object.__init_subclass__") (J a),DW a n t k1 t1] (.again (.builtin "object.__init_subclass__" ⟨[J a],[]⟩)) [Pl m (.builtin "object.__init_subclass__") (J a),DW a n t k1 t1]:=
 rn O U (.g 1107828865<|.fi () [0,0])
theorem lX(U:AA 6 A)(m a n t k1 t1:Nat):
 AS B A (BM (.builtin "object.__init_subclass__" ⟨[J a],[]⟩)) [Pl m (.builtin "object.__init_subclass__") (J a),DW a n t k1 t1] (Az (B6 .none)) [Pl m (.builtin "object.__init_subclass__") (J a),DW a n t k1 t1]:=
 rn O U (.fi () [0,0])
theorem l8(U:AA 6 A)(a n t k1 t1:Nat):
 AS B A (BM (.call (.type "super") ⟨[J a,J a],[]⟩)) [DW a n t k1 t1] (.again (.builtin "type.__call__" ⟨[.type "super",J a,J a],[]⟩)) [DW a n t k1 t1]:=
 rn O U (.fi () [0])
def cG(U:AA 6 A)(a n t k1 t1:Nat):Ag B.C A:=
 DN O U "super.__new__" [.type "super",J a,J a] [DW a n t k1 t1] (λq:Nat=>J q) (λq=>[EZ q .none .none .none,DW a n t k1 t1]) (λU=>.fi () [0]) λU=>.al λa0=>.fi (a0) [0,0]
theorem gB(U:AA 6 A)(s a n t k1 t1:Nat):
 AS B A (AU "super.__init__" ⟨[J s,J a,J a],[]⟩) [EZ s .none .none .none,DW a n t k1 t1] () [EZ s .none .none .none,DW a n t k1 t1]:=
 by apply Hc O U (.g 65<|.fi () [0,0])
omit O
section
variable{B:Bx}{A:AL}
theorem lq:C1 FZ "super.__init__"=some Builtin.«super.__init__»:=B2 ADk
theorem lp:C1 FZ "super.__getattribute__"=some Builtin.«super.__getattribute__»:=B2 ADk
def gp(B:Bx)(A:AL)(O:B.C.Ok)(U:AA 7 A)(s a n t k1 t1:Nat):Ag B.C A where
 c:=.call (.builtin "super.__init__") ⟨[J s,J a,J a],[]⟩
 F:=[EZ s .none .none .none,DW a n t k1 t1]
 X:=Unit
 res:=λYa=>.ok (.ret .none)
 led:=λYa=>[EZ s (J a) (J a) (J a),DW a n t k1 t1]
 ok:=BF ADl lq (gB O U.in1 s a n t k1 t1) (T8 O U.in1.1 s a n t k1 t1)
end
include O
theorem pn(U:AA 9 A)(a n t k1 t1:Nat):
 AC B.C A (BM (.builtin "type.__call__" ⟨[.type "super",J a,J a],[]⟩)) [DW a n t k1 t1]
  (λq:Nat=>.done (.ret (J q)))
  (λq=>[EZ q (J a) (J a) (J a),DW a n t k1 t1]):=
 rn O U (.g 65<|.cc (cG O U.l a n t k1 t1) [0] λy0=>.g 4161<|.cc (gp _ _ O U.l y0 a n t k1 t1) [0,0] λYa=>.fi (y0) [0,0])
theorem f_(U:AA 6 A)(s a n t k1 t1 k:Nat):
 AS B A (AU "super.__getattribute__" ⟨[J s,.str QF k],[]⟩) [EZ s (J a) (J a) (J a),DW a n t k1 t1] () [EZ s (J a) (J a) (J a),DW a n t k1 t1]:=
 by apply Hc O U (.g 65<|.fi () [0,0])
omit O
section
variable{B:Bx}{A:AL}
theorem dg(a:Nat):(([J a,.type "object"]).dropWhile (· != J a)).drop 1=[.type "object"]:=by simp
theorem VC(O:B.C.Ok)(U:AA 7 A)(s a n t k1 t1 k:Nat):
 AC B.C A (Builtin.«super.__getattribute__» ⟨[J s,.str QF k],[]⟩) [EZ s (J a) (J a) (J a),DW a n t k1 t1]
  (λq:Nat=>.done (.ret (J q))) (λq=>[Pl q (.builtin "object.__init_subclass__") (J a),DW a n t k1 t1]):=by
 unfold Builtin.«super.__getattribute__»;refine AC.gl (t:=asStr? _) (some QF) [EZ s (J a) (J a) (J a),DW a n t k1 t1] (.fi () [0,0]) O U ?_;refine AC.MK ?_ ?_
 ·rfl
 refine AC.gu (t:=asStr? _) (some QF) (.fi () [0,0]) O U ?_;refine AC.gu (t:=Oz _ _) (J a) (.g 65<|.fi () [0,0]) O U ?_;refine AC.gu (t:=Oz _ _) (J a) (.g 65<|.fi () [0,0]) O U ?_;refine AC.gu (t:=Oz _ _) (J a) (.g 65<|.fi () [0,0]) O U ?_;refine AC.MK ?_ ?_
 ·kernel_rfl
 refine AC.gu (t:=notOfAnOpaqueClass _ _ _) () (.g 64<|.fi () [0,0]) O U ?_;refine AC.MK ?_ ?_
 ·kernel_rfl
 refine AC.gu (t:=PySem.mroOf _) [J a,.type "object"] (.g 66<|.fi () [0,0]) O U ?_;rw[dg];simp only[beq_self_eq_true,if_true];exact rn O U (.cc (km O U.l a n t k1 t1) [1] λ(y:Nat)=>.fi y [0,0])
end
include O
def gm(U:AA 8 A)(s a n t k1 t1 k:Nat):Ag B.C A where
 c:=.call (.builtin "super.__getattribute__") ⟨[J s,.str QF k],[]⟩
 F:=[EZ s (J a) (J a) (J a),DW a n t k1 t1]
 X:=Nat
 res:=λq=>.ok (.ret (J q))
 led:=λq=>[Pl q (.builtin "object.__init_subclass__") (J a),DW a n t k1 t1]
 ok:=BF ADl lp (f_ O U.l.in1 s a n t k1 t1 k) (VC O U.l.in1 s a n t k1 t1 k)
def gv(U:AA 12 A)(a n t k1 t1:Nat):Ag B.C A where
 c:=.call (.type "super") ⟨[J a,J a],[]⟩
 F:=[DW a n t k1 t1]
 X:=Nat
 res:=λq=>.ok (.ret (J q))
 led:=λq=>[EZ q (J a) (J a) (J a),DW a n t k1 t1]
 ok:=Dn (l8 O (A:=A.under (.call (.type "super") ⟨[J a,J a],[]⟩)) (U.l.ca _ _) a n t k1 t1) (F0 _) (pn O (A:=A.under (.builtin "type.__call__" ⟨[.type "super",J a,J a],[]⟩)) (U.l.ty _) a n t k1 t1)
def kr(U:AA 8 A)(m a n t k1 t1:Nat):Ag B.C A where
 c:=.call (J m) ⟨[],[]⟩
 F:=[Pl m (.builtin "object.__init_subclass__") (J a),DW a n t k1 t1]
 X:=Unit
 res:=λYa=>.ok (.ret .none)
 led:=λYa=>[Pl m (.builtin "object.__init_subclass__") (J a),DW a n t k1 t1]
 ok:=Dn (qw O (A:=A.under (.call (J m) ⟨[],[]⟩)) (U.l.ca _ _) m a n t k1 t1) (DH ADl _) (by
  rw[BX ADl _]
  exact lX O U.l.in1 m a n t k1 t1)
abbrev m8(a n:Nat)(mro:Ak)(sl:List DP):Bi:=.one (a+323) (.ex ⟨.type "type",none,.cls {name:=vK,bases:=[.type "object"],mro:=mro,ns:=n+323,qualname:=qK},⟨sl⟩⟩)
abbrev Tj(y c t0 t2 a3 f1 f2 f3 f4 f5 f6 st:Nat):BC:=[(K3,.str ⟨⟨[99,112,121,51,49,51,46,102,117,110,99,116,111,111,108,115]⟩⟩ t0),(GD,.int 139 t2),(Tq,J a3),(Ii,J f1),(KL,J f2),(ed,J f3),(nn,J f4),(np,J f5),(no,J f6),(Xe,.none),(ef,J st)]
noncomputable abbrev ec:Str:=⟨⟨[95,95,100,111,99,95,95]⟩⟩
structure Kf where
 c1:Nat
 c2:Nat
 c3:Nat
 c4:Nat
 c5:Nat
 c6:Nat
 g2:Nat
 g3:Nat
 g4:Nat
 g5:Nat
 g6:Nat
abbrev zk(B:Bx)(g:G)(q:Kf)(y t c t0 t1 t2 a3 k3 f1 f2 f3 f4 f5 f6 st sk:Nat):AN:=[.one (y+323) (.ex (AO.obj g (.ns (.type "dict") (Km y c t0 t1 t2 a3 f1 f2 f3 f4 f5 f6 st)))),AE a3 [.str EV k3],AV t [.type "object"],Gu B f1 2 [] q.c1 (.none),Gu B f2 3 [(CE,c+323)] q.c2 (J q.g2),Gu B f3 4 [(CE,c+323)] q.c3 (J q.g3),Gu B f4 5 [(CE,c+323)] q.c4 (J q.g4),Gu B f5 6 [(CE,c+323)] q.c5 (J q.g5),Gu B f6 7 [(CE,c+323)] q.c6 (J q.g6),AV st [.str EV sk]]
abbrev dU(B:Bx)(g:G)(q:Kf)(y t c t0 t1 t2 a3 k3 f1 f2 f3 f4 f5 f6 st sk y0:Nat):AN:=[AE y0 [.str EV k3],AE a3 [.str EV k3],.one (y+323) (.ex (AO.obj g (.ns (.type "dict") (Km y c t0 t1 t2 a3 f1 f2 f3 f4 f5 f6 st)))),AV t [.type "object"],Gu B f1 2 [] q.c1 (.none),Gu B f2 3 [(CE,c+323)] q.c2 (J q.g2),Gu B f3 4 [(CE,c+323)] q.c3 (J q.g3),Gu B f4 5 [(CE,c+323)] q.c4 (J q.g4),Gu B f5 6 [(CE,c+323)] q.c5 (J q.g5),Gu B f6 7 [(CE,c+323)] q.c6 (J q.g6),AV st [.str EV sk]]
abbrev Iv(m a k:Nat):Bi:=.one (m+323) (.ex ⟨.type "member_descriptor",none,.fields ⟨[.str EV k,J a,.builtin "proto.slot",.builtin "proto.slot#set",.int 0 0]⟩,⟨[]⟩⟩)
omit O
theorem Rj(a:Nat):List.filter (λx=>x != J a) [J a,.type "object"]=[.type "object"]:=by simp
structure X1 where
 a:Nat
 n:Nat
 m:Nat
 k:Nat
include O
theorem vW(U:AA 30 A)(g:G)(q:Kf)(y t c t0 t1 t2 a3 k3 f1 f2 f3 f4 f5 f6 st sk k1:Nat):
 AC B.C A (Builtin.«type.__new__» ⟨[.type "type",.str vK k1,J t,J y],[]⟩) (zk B g q y t c t0 t1 t2 a3 k3 f1 f2 f3 f4 f5 f6 st sk)
  (λx:X1=>.done (.ret (J x.a))) (λx=>[DW x.a x.n t k1 t1,Hi x.n (Tj y c t0 t2 a3 f1 f2 f3 f4 f5 f6 st++[(EV,J x.m),(ec,.none)]),Iv x.m x.a x.k,Gu B f1 2 [] q.c1 (.none),Gu B f2 3 [(CE,c+323)] q.c2 (J q.g2)]):=by
 unfold Builtin.«type.__new__»;refine AC.gl (t:=asStr? _) (some vK) (zk B g q y t c t0 t1 t2 a3 k3 f1 f2 f3 f4 f5 f6 st sk) (.fi () (BW 10)) O U ?_;refine AC.gu (t:=J3 _ _) true (.g 67<|.fi () (BW 10)) O U ?_;refine AC.gu (t:=J3 _ _) true (.g 65<|.fi () (BW 10)) O U ?_;refine AC.gu (t:=LY _) (some #[.type "object"]) (.g 67<|.fi () (BW 10)) O U ?_;refine AC.gu (t:=ID _ _ _) () (.fi () (BW 10)) O U ?_;refine AC.gu (t:=ID _ _ _) (.type "type") (.fi () (BW 10)) O U ?_;refine AC.gu (t:=Builtin.notOverATurnedClass _) () (.fi () (BW 10)) O U ?_;refine AC.gu (t:=Builtin.extendedBase _) (.type "object") (.fi () (BW 10)) O U ?_;refine AC.gu (t:=dictEntries _) ⟨Oq g 0 (Km y c t0 t1 t2 a3 f1 f2 f3 f4 f5 f6 st)⟩ (.g 65<|.fi () (BW 10)) O U ?_;refine AC.gu (t:=specialOf _ _) (some (.builtin "dict.__iter__")) (.g 65<|.fi () (BW 10)) O U ?_;refine AC.gu (t:=pure _) (⟨Oq g 0 (Km y c t0 t1 t2 a3 f1 f2 f3 f4 f5 f6 st)⟩,[]) (.fi () (BW 10)) O U ?_;refine AC.go (t:=holding [] _) Nat (λz=>⟨[EV],false,false,[]⟩) (λz=>dU B g q y t c t0 t1 t2 a3 k3 f1 f2 f3 f4 f5 f6 st sk z) (.g 66<|.cc (Kl O U.l a3 [.str EV k3] ADn) [1] λy0=>.g 65<|.fi y0 (BW 11)) O U.1 ADk λy0=>?_
 refine AC.go (t:=newObj _ _) Nat (λn=>J n) (λn=>Hi n (Km y c t0 t1 t2 a3 f1 f2 f3 f4 f5 f6 st)::dU B g q y t c t0 t1 t2 a3 k3 f1 f2 f3 f4 f5 f6 st sk y0) (.al λn=>.fi n (BW 12)) O U.1 ADk λn=>?_
 refine AC.MK ?_ ?_
 ·kernel_rfl
 refine AC.gu (t:=_) () (.fi () (BW 12)) O U ?_;refine AC.MK ?_ ?_
 ·kernel_rfl
 refine AC.gu (t:=nsGet _ _) (some (.str qK t1)) (.g 65<|.fi () (BW 12)) O U ?_;refine AC.gu (t:=nsGet _ _) (some (.str qK t1)) (.g 65<|.fi () (BW 12)) O U ?_;refine AC.gu (t:=asStr? _) (some qK) (.fi () (BW 12)) O U ?_;refine AC.gu (t:=pure _) qK (.fi () (BW 12)) O U ?_;refine AC.gu (t:=nsGet _ _) none (.g 65<|.fi () (BW 12)) O U ?_;refine AC.go (t:=alloc _) Nat (λa=>(a+323)) (λa=>m8 a n [] []::Hi n (Km y c t0 t1 t2 a3 f1 f2 f3 f4 f5 f6 st)::dU B g q y t c t0 t1 t2 a3 k3 f1 f2 f3 f4 f5 f6 st sk y0) (.al λa=>.fi a (BW 13)) O U.1 ADk λa=>?_
 refine AC.ifT ?_ ?_
 ·kernel_rfl
 refine AC.gl (t:=setSlotAt _ _ _) () (m8 a n [] [some (J t)]::Hi n (Km y c t0 t1 t2 a3 f1 f2 f3 f4 f5 f6 st)::dU B g q y t c t0 t1 t2 a3 k3 f1 f2 f3 f4 f5 f6 st sk y0) (.g 96<|.fi () (BW 13)) O U ?_;refine AC.gl (t:=setSlotAt _ _ _) () (m8 a n [] [some (J t),none,some (.str vK k1)]::Hi n (Km y c t0 t1 t2 a3 f1 f2 f3 f4 f5 f6 st)::dU B g q y t c t0 t1 t2 a3 k3 f1 f2 f3 f4 f5 f6 st sk y0) (.g 96<|.fi () (BW 13)) O U ?_;refine AC.gl (t:=setSlotAt _ _ _) () (m8 a n [] [some (J t),none,some (.str vK k1),some (.str qK t1)]::Hi n (Km y c t0 t1 t2 a3 f1 f2 f3 f4 f5 f6 st)::dU B g q y t c t0 t1 t2 a3 k3 f1 f2 f3 f4 f5 f6 st sk y0) (.g 96<|.fi () (BW 13)) O U ?_;refine AC.gl (t:=nsDel _ _) true (m8 a n [] [some (J t),none,some (.str vK k1),some (.str qK t1)]::Hi n (Tj y c t0 t2 a3 f1 f2 f3 f4 f5 f6 st)::dU B g q y t c t0 t1 t2 a3 k3 f1 f2 f3 f4 f5 f6 st sk y0) (.g 6210<|.fi () (BW 13)) O U ?_;refine AC.gu (t:=nsGet _ _) none (.g 66<|.fi () (BW 13)) O U ?_;refine AC.gu (t:=ID _ _ _) () (.g 4226<|.fi () (BW 13)) O U ?_;refine AC.gu (t:=nsGet _ _) none (.g 66<|.fi () (BW 13)) O U ?_;refine AC.gu (t:=nsGet _ _) none (.g 66<|.fi () (BW 13)) O U ?_;refine AC.gu (t:=Builtin.mroHook? _) none (.fi () (BW 13)) O U ?_;refine AC.gu (t:=Builtin.linearize _ _) [.type "object"] (.fi () (BW 13)) O U ?_;refine AC.gu (t:=pure _) [J a,.type "object"] (.fi () (BW 13)) O U ?_
 dsimp only[Rj]
 rw[Rj];refine AC.gu (t:=List.anyM _ _) false (.fi () (BW 13)) O U ?_;exact rn O U (.g 18586214374316033<|.fr λk3'=>.al λm=>.g 67<|.fr λk5=>.g 4639680637059<|.fr λk6=>.g 1261576381840707729054513283<|.cc (gv O U.l a n t k1 t1) [1] λ(s:Nat)=>.fr λk8=>.g 65<|.cc (gm O U.l s a n t k1 t1 k8) [0,0] λ(b:Nat)=>.cc (kr O U.l b a n t k1 t1) [0,0] λ(_:Unit)=>.fi ⟨a,n,m,k3'⟩ [1,2,1,5,5])
omit O
theorem St.qm{C:Cx}{s:Af}{a:Addr}{cls:Value}{al:BC}{L:AN}(S:St C (.one a (.ns cls al)::L) s): ∃g,St C (.one a (.ex (AO.obj g (.ns cls al)))::L) s:=by
 obtain⟨g,hg⟩:=S.Dj;obtain⟨H,hH,XP⟩:=S.led;refine⟨g,S.old,⟨H,hH,λp hp=>?_,XP.nodup,λp hp=>?_⟩,S.gens,S.os,S.size⟩
 ·rcases List.mem_cons.mp (show p∈(a,AO.ex (AO.obj g (.ns cls al)))::(Ao L++H) from hp) with rfl|hp
  ·exact⟨_,hg,G0,rfl⟩
  ·exact XP.at_ p (.tail _ hp)
 ·rcases List.mem_cons.mp (show p∈(a,AO.ex (AO.obj g (.ns cls al)))::(Ao L++H) from hp) with rfl|hp
  ·exact XP.new (a,AO.ns cls al) (.head _)
  ·exact XP.new p (.tail _ hp)
theorem hZ:C1 FZ "type.__new__"=some Builtin.«type.__new__»:=B2 ADk
abbrev dW(B:Bx)(q:Kf)(y t c t0 t1 t2 a3 k3 f1 f2 f3 f4 f5 f6 st sk:Nat):AN:=[Hi y (Km y c t0 t1 t2 a3 f1 f2 f3 f4 f5 f6 st),AE a3 [.str EV k3],AV t [.type "object"],Gu B f1 2 [] q.c1 (.none),Gu B f2 3 [(CE,c+323)] q.c2 (J q.g2),Gu B f3 4 [(CE,c+323)] q.c3 (J q.g3),Gu B f4 5 [(CE,c+323)] q.c4 (J q.g4),Gu B f5 6 [(CE,c+323)] q.c5 (J q.g5),Gu B f6 7 [(CE,c+323)] q.c6 (J q.g6),AV st [.str EV sk]]
abbrev m5(B:Bx)(q:Kf)(x:X1)(t c t0 t1 t2 a3 f1 f2 f3 f4 f5 f6 st k1:Nat):AN:=[DW x.a x.n t k1 t1,Hi x.n (Tj 0 c t0 t2 a3 f1 f2 f3 f4 f5 f6 st++[(EV,J x.m),(ec,.none)]),Iv x.m x.a x.k,Gu B f1 2 [] q.c1 (.none),Gu B f2 3 [(CE,c+323)] q.c2 (J q.g2)]
include O
theorem f9(U:AA 10 A)(q:Kf)(y t c t0 t1 t2 a3 k3 f1 f2 f3 f4 f5 f6 st sk k1:Nat):
 AS B A (AU "type.__new__" ⟨[.type "type",.str vK k1,J t,J y],[]⟩) (dW B q y t c t0 t1 t2 a3 k3 f1 f2 f3 f4 f5 f6 st sk) () ((dW B q y t c t0 t1 t2 a3 k3 f1 f2 f3 f4 f5 f6 st sk)):=
 by apply Hc O U (.fi () (BW 10))
def gg(U:AA 32 A)(q:Kf)(y t c t0 t1 t2 a3 k3 f1 f2 f3 f4 f5 f6 st sk k1:Nat):Ag B.C A where
 c:=.call (.builtin "type.__new__") ⟨[.type "type",.str vK k1,J t,J y],[]⟩
 F:=dW B q y t c t0 t1 t2 a3 k3 f1 f2 f3 f4 f5 f6 st sk
 X:=X1
 res:=λx=>.ok (.ret (J x.a))
 led:=λx=>m5 B q x t c t0 t1 t2 a3 f1 f2 f3 f4 f5 f6 st k1
 ok:=BF ADl hZ (f9 O U.l.in1 q y t c t0 t1 t2 a3 k3 f1 f2 f3 f4 f5 f6 st sk k1) (λR s S=>by
  obtain⟨g,S'⟩:=S.qm;exact vW O U.l.in1 g q y t c t0 t1 t2 a3 k3 f1 f2 f3 f4 f5 f6 st sk k1 R s S')
def gw(U:AA 11 A)(a n t k1 t1 y:Nat):Ag B.C A:=
 DN O U "type.__init__" [J a,.str vK k1,J t,J y] [DW a n t k1 t1] (λYa:Unit=>.none) (λYa=>[DW a n t k1 t1]) (λU=>.g 65<|.fi () [0]) λU=>.fi () [0]
theorem iE(U:AA 10 A)(q:Kf)(y t c t0 t1 t2 a3 k3 f1 f2 f3 f4 f5 f6 st sk k1:Nat):
 AS B A (BM (.call (.type "type") ⟨[.str vK k1,J t,J y],[]⟩)) (dW B q y t c t0 t1 t2 a3 k3 f1 f2 f3 f4 f5 f6 st sk) (.again (.builtin "type.__call__" ⟨[.type "type",.str vK k1,J t,J y],[]⟩)) ((dW B q y t c t0 t1 t2 a3 k3 f1 f2 f3 f4 f5 f6 st sk)):=
 rn O U (.fi () (BW 10))
theorem jw(U:AA 36 A)(q:Kf)(y t c t0 t1 t2 a3 k3 f1 f2 f3 f4 f5 f6 st sk k1:Nat):
 AC B.C A (BM (.builtin "type.__call__" ⟨[.type "type",.str vK k1,J t,J y],[]⟩)) (dW B q y t c t0 t1 t2 a3 k3 f1 f2 f3 f4 f5 f6 st sk)
  (λx:X1=>.done (.ret (J x.a)))
  (λx=>(m5 B q x t c t0 t1 t2 a3 f1 f2 f3 f4 f5 f6 st k1)):=
 rn O U (.cc (gg O U.l q y t c t0 t1 t2 a3 k3 f1 f2 f3 f4 f5 f6 st sk k1) (BW 10) λ(y0:X1)=>.g 4161<|.cc (gw O U.l y0.a y0.n t k1 t1 y) [0] λYa=>.fi (y0) (BW 5))
def cM(U:AA 40 A)(q:Kf)(y t c t0 t1 t2 a3 k3 f1 f2 f3 f4 f5 f6 st sk k1:Nat):Ag B.C A where
 c:=.call (.type "type") ⟨[.str vK k1,J t,J y],[]⟩
 F:=dW B q y t c t0 t1 t2 a3 k3 f1 f2 f3 f4 f5 f6 st sk
 X:=X1
 res:=λx=>.ok (.ret (J x.a))
 led:=λx=>m5 B q x t c t0 t1 t2 a3 f1 f2 f3 f4 f5 f6 st k1
 ok:=Dn (iE O (A:=A.under (.call (.type "type") ⟨[.str vK k1,J t,J y],[]⟩)) (U.l.ca _ _) q y t c t0 t1 t2 a3 k3 f1 f2 f3 f4 f5 f6 st sk k1) (F0 _)
  (jw O (A:=A.under (.builtin "type.__call__" ⟨[.type "type",.str vK k1,J t,J y],[]⟩)) (U.l.ty _) q y t c t0 t1 t2 a3 k3 f1 f2 f3 f4 f5 f6 st sk k1)
structure Fc where
 k0:Nat
 k1:Nat
 r:Ak
noncomputable abbrev EA(a:Nat)(n q:Str)(x:Fc):Bi:=.one (a+323) (.ex ⟨.type "code",none,.fields ⟨.str n x.k0::.str q x.k1::x.r⟩,⟨[]⟩⟩)
abbrev cu(k2 fl fg ft tb x y z k6 k7:Nat):Ak:=[.str RA k2,.int (fl:Int) 0,.int 2 0,.int 0 0,.int 0 0,.int (fg:Int) 0,J ft,.bool true,.int 276 0,J tb,.none,J x,J y,J z,.int (k6:Int) 0,.int (fl:Int) 0,.str RA k7]
structure qG where
 t0:Nat
 a3:Nat
 k3:Nat
 f1:Nat
 f2:Nat
 f3:Nat
 f4:Nat
 f5:Nat
 f6:Nat
 q:Kf
 x1:Fc
 x2:Fc
abbrev T2:Str:=qK++⟨⟨[46]⟩⟩++Ii
abbrev jM:Str:=qK++⟨⟨[46]⟩⟩++KL
abbrev vU(y c t0 t1 t2 a3 f1 f2 f3 f4 f5 f6:Nat):BC:=[(K3,.str ⟨⟨[99,112,121,51,49,51,46,102,117,110,99,116,111,111,108,115]⟩⟩ t0),(KI,.str qK t1),(GD,.int 139 t2),(Tq,J a3),(Ii,J f1),(KL,J f2),(ed,J f3),(nn,J f4),(np,J f5),(no,J f6),(Xe,.none)]
abbrev zm(B:Bx)(y c t1 t2:Nat)(z:qG):AN:=[Hi y (vU y c z.t0 t1 t2 z.a3 z.f1 z.f2 z.f3 z.f4 z.f5 z.f6),AE z.a3 [.str EV z.k3],Gu B z.f1 2 [] z.q.c1 (.none),Gu B z.f2 3 [(CE,c+323)] z.q.c2 (J z.q.g2),Gu B z.f3 4 [(CE,c+323)] z.q.c3 (J z.q.g3),Gu B z.f4 5 [(CE,c+323)] z.q.c4 (J z.q.g4),Gu B z.f5 6 [(CE,c+323)] z.q.c5 (J z.q.g5),Gu B z.f6 7 [(CE,c+323)] z.q.c6 (J z.q.g6),EA z.q.c1 Ii T2 z.x1,EA z.q.c2 KL jM z.x2]
theorem rU(U:AA 40 A)(y fr code c k k0 k1 k2 ft tb k6 k7 t1 t2:Nat):
 AC B.C A (Ac (Qk (NP B)) (tV B y fr code c)) [eQ code vK qK k0 k1 k2 139 0 0 0 ft true tb k6 k7,fA tb [],Hi y [(K3,.str Xx 581),(KI,.str qK t1),(GD,.int 139 t2)],Of c k]
  (λz:qG=>.next)
  (λz=>(zm B y c t1 t2 z++[Of c k])):=
 D7 O U (.fr λk0=>.g 67<|.fr λk1=>.g 6275<|.fr λk2=>.al λa3=>.g 68<|.fr λk4=>.g 17574084<|.fr λk5=>.fr λk6=>.fr λk7=>.al λa8=>.al λa9=>.fr λH9=>.fr λQB=>.al λIF=>.al λOK=>.al λUY=>.fr λvR=>.fr λTi=>.al λj9=>.g 68719516169<|.al λa18=>.g 75<|.fr λvS=>.g 6795<|.al λtw=>.g 4810<|.fr λzi=>.fr λiW=>.fr λiX=>.fr λm4=>.al λtz=>.al λa26=>.fr λk27=>.fr λk28=>.al λa29=>.al λa30=>.al λa31=>.fr λk32=>.fr λk33=>.al λa34=>.g 68719549457<|.al λa35=>.g 83<|.fr λk36=>.g 7315<|.al λa37=>.g 5330<|.fr λk38=>.fr λk39=>.fr λk40=>.fr λk41=>.al λa42=>.al λa43=>.fr λk44=>.fr λk45=>.al λa46=>.al λa47=>.al λa48=>.fr λk49=>.fr λk50=>.al λa51=>.g 68719582745<|.al λa52=>.g 91<|.fr λk53=>.g 7835<|.al λa54=>.g 5850<|.fr λk55=>.fr λk56=>.fr λk57=>.fr λk58=>.al λa59=>.al λa60=>.fr λk61=>.fr λk62=>.al λa63=>.al λa64=>.al λa65=>.fr λk66=>.fr λk67=>.al λa68=>.go 33<|.up 32<|.go 33<|.g 262144<|.al λa69=>.go 35<|.fr λk70=>.go 35<|.up 34<|.al λa71=>.go 34<|.go 35<|.fr λk72=>.fr λk73=>.fr λk74=>.fr λk75=>.al λa76=>.al λa77=>.fr λk78=>.fr λk79=>.al λa80=>.al λa81=>.al λa82=>.fr λk83=>.fr λk84=>.al λa85=>.go 41<|.up 40<|.go 41<|.g 262144<|.al λa86=>.go 43<|.fr λk87=>.go 43<|.up 42<|.al λa88=>.go 42<|.go 43<|.fr λk89=>.fr λk90=>.fr λk91=>.fr λk92=>.al λa93=>.al λa94=>.fr λk95=>.fr λk96=>.al λa97=>.al λa98=>.al λa99=>.fr λACV=>.fr λACW=>.al λx5=>.go 49<|.up 48<|.go 49<|.g 262144<|.al λx6=>.go 51<|.fr λACX=>.go 51<|.up 50<|.go 51<|.fr λACY=>.go 51<|.up 50<|.fi (⟨k0,a3,k2,a18,a35,a52,a69,a86,x6,⟨j9,a34,a51,a68,a85,x5,tw,a37,a54,a71,a88⟩,⟨k5,k6,cu k7 143 19 a8 a9 IF OK UY vR Ti⟩,⟨zi,iW,cu iX 146 19 tz a26 a29 a30 a31 k32 k33⟩⟩) [50,47,40,32,24,16,8,0,35,28,41])
def cA(U:AA 8 A)(p t k:Nat):Ag B.C A where
 c:=.call (J p) ⟨[.str ⟨⟨[75]⟩⟩ k,J t],[]⟩
 F:=[T1 p,AV t [.type "object"]]
 X:=Nat
 res:=λq=>.ok (.ret (J q))
 led:=λq=>[.one (q+323) (.ns (.type "dict") []),AV t [.type "object"]]
 ok:=Dn (led:=λq=>[.one (q+323) (.ns (.type "dict") []),AV t [.type "object"]]) (Ga (X:=Unit) (res:=λYa=>Fin.again (.builtin "type.__prepare__" ⟨[.type "type",.str ⟨⟨[75]⟩⟩ k,J t],[]⟩)) (led:=λYa=>[T1 p,AV t [.type "object"]]) O (A:=A.under (.call (J p) ⟨[.str ⟨⟨[75]⟩⟩ k,J t],[]⟩)) (AA.ca (n:=7) U _ _).1 (.g 65<|.fi () [0,0]) ADk) (DH ADl _) (by
  rw[BX ADl _]
  exact(g8 O U.l.in1 t k).ix [1] rfl)
def bn(U:AA 41 A)(y fr code c k k0 k1 k2 ft tb k6 k7 t1 t2:Nat):Ag B.C A where
 c:=.body (Qk (NP B)) (tV B y fr code c)
 F:=[eQ code vK qK k0 k1 k2 139 0 0 0 ft true tb k6 k7,fA tb [],Hi y [(K3,.str Xx 581),(KI,.str qK t1),(GD,.int 139 t2)],Of c k]
 X:=qG
 res:=λYa=>.ok .next
 led:=λz=>zm B y c t1 t2 z++[Of c k]
 ok:=Bu λR s S=>codeAny_body ADk ADk (by
  exact Av (rU O (AA.deeper U) y fr code c k k0 k1 k2 ft tb k6 k7 t1 t2 R s S) (λf s' ⟨x,e,S'⟩=>⟨x,by rw[e],S'⟩) λYa Ya q=>q.elim)
theorem AC.enter{n:Nat}(U:AA n A){β:Type}{k:Unit->Sem β}{F:AN}{Y:Type}{D0:Y->β}{Cy:Y->AN}(g:AC B.C A (k ()) F D0 Cy):AC B.C A (enterFrame>>=k) F D0 Cy:=λR s S=>
 AB (wpAny_enterFrame (S.noLimit O) (by have:=U.2.1;lia) (g R s S))
structure KX where
 x:X1
 c1:Nat
 c2:Nat
 f1:Nat
 f2:Nat
 f3:Nat
 f4:Nat
 f5:Nat
 f6:Nat
 g2:Nat
 t:Nat
 t0:Nat
 t2:Nat
 a3:Nat
 st:Nat
 k1:Nat
 t1:Nat
 x1:Fc
 x2:Fc
 cc:Nat
abbrev QC(B:Bx)(c k:Nat)(z:KX):AN:=[DW z.x.a z.x.n z.t z.k1 z.t1,Hi z.x.n (Tj 0 c z.t0 z.t2 z.a3 z.f1 z.f2 z.f3 z.f4 z.f5 z.f6 z.st++[(EV,J z.x.m),(ec,.none)]),Iv z.x.m z.x.a z.x.k,Gu B z.f1 2 [] z.c1 (.none),Gu B z.f2 3 [(CE,c+323)] z.c2 (J z.g2),EA z.c1 Ii T2 z.x1,EA z.c2 KL jM z.x2,Of c k,Yc z.cc]
abbrev YZ(L c k:Nat):AN:=[AI L [],Of c k,Yb []]
theorem Z9(U:AA 60 A)(L c k:Nat):
 AC B.C A (buildClass ⟨⟨[75]⟩⟩ (qualnameIn (Sn B L c) ⟨⟨[75]⟩⟩ ⟨⟨[75]⟩⟩) [.type "object"] [] (Qk (NP B)) (SO (NP B)) (bL (NP B)) (firstLineOf [] (eP (NP B))) (Sn B L c) (eP (NP B)) none) (YZ L c k)
  (λz:KX=>J z.x.a) (λz=>QC B c k z++[AI L []]):=by
  unfold buildClass;refine AC.go Nat (λa=>J a) (λa=>[AV a [.type "object"]]++YZ L c k) (.al λa=>.fi a (BW 4)) O U.1 ADk λa0=>?_
  refine AC.gu ([.type "object"],false) (.fi () (BW 4)) O U ?_;refine AC.gu (t:=J5 (.type "object")) (.type "type") (.fi () (BW 4)) O U ?_;refine AC.gu true (.fi () (BW 4)) O U ?_;refine AC.gu (.type "type") (.fi () (BW 4)) O U ?_;refine AC.go Nat (λk=>.str ⟨⟨[75]⟩⟩ k) (λYa=>[AV a0 [.type "object"]]++YZ L c k) (.fr λk=>.fi k (BW 4)) O U.1 ADk λk1=>?_
  refine AC.gu (t:=pure _) (J a0) (.fi () (BW 4)) O U ?_;refine AC.hold ?_;refine AC.go Nat (λy=>some (J y)) (λy=>[T1 y,AV a0 [.type "object"]]++YZ L c k) (.fr λk2=>.cc (cL O U.l k2) [] λy3=>.fi y3 (BW 5)) O U.1 ADk λy3=>?_
  refine AC.go Nat (λy=>J y) (λy=>[.one (y+323) (.ns (.type "dict") []),AV a0 [.type "object"]]++YZ L c k) (.cc (cA O U.l y3 a0 k1) [0,0] λy3=>.fi y3 (BW 5)) O U.1 ADk λy=>?_
  refine AC.gu (t:=notTheModulesDict _ _) () (.fi () (BW 5)) O U ?_;refine AC.gu (t:=specialOf _ _) (some (.builtin "dict.__getitem__")) (.g 65<|.fi () (BW 5)) O U ?_;refine AC.MK ?_ ?_
  ·rfl
  refine AC.hold ?_;refine AC.gu (t:=pure none) none (.fi () (BW 5)) O U ?_;refine AC.gu (t:=pure none) none (.fi () (BW 5)) O U ?_;refine AC.go (t:=classCode _ _ _ _ _ _) CdX (λq=>(J q.a8:Value)) (λq=>[eQ q.a8 vK qK q.k0 q.k1 q.k2 139 0 0 0 q.a4 true q.a5 q.k6 q.k7,fA q.a5 [],AV q.a4 [.str CE q.k3],.one (y+323) (.ns (.type "dict") []),AV a0 [.type "object"],AI L [],Of c k,Yc q.a8]) (.g 4416<|.fr λk0=>.fr λk1=>.fr λk2=>.fr λk3=>.al λa4=>.al λa5=>.fr λk6=>.fr λk7=>.al λa8=>.g 297416<|.fi ⟨k0,k1,k2,k3,a4,a5,k6,k7,a8⟩ (BW 8)) O U.1 ADk λq=>?_
  refine AC.gu (t:=builtinsFor _ _) (0:Addr) (.g 4096<|.fi () (BW 8)) O U ?_;refine AC.go (t:=newBodyFrame _ _ _ _) Nat (λf=>f+323) (λf=>[yC f q.a8 y,eQ q.a8 vK qK q.k0 q.k1 q.k2 139 0 0 0 q.a4 true q.a5 q.k6 q.k7,fA q.a5 [],AV q.a4 [.str CE q.k3],.one (y+323) (.ns (.type "dict") []),AV a0 [.type "object"],AI L [],Of c k,Yc q.a8]) (.g 64<|.al λf=>.fi f (BW 9)) O U.1 ADk λf=>?_
  refine AC.gu (t:=closureFor _ _) [(CE,c+323)] (.fi () (BW 9)) O U ?_;refine AC.hold ?_;refine AC.enter O U ?_;exact Ga O U.1 (.g 18088261<|.fr λvR=>.g 6405<|.fr λTi=>.g 69<|.fr λk17=>.g 6405<|.fr λmz=>.g 69<|.fr λvS=>.g 6405<|
   .cc (bn O U.l y f q.a8 c k q.k0 q.k1 q.k2 q.a4 q.a5 q.k6 q.k7 Ti mz) [1,1,2,4] λ(z:qG)=>.fr λk20=>.al λst=>.g 66<|.fr λzi=>.g 6210<|
   .cc (cM O U.l z.q y a0 c z.t0 Ti mz z.a3 z.k3 z.f1 z.f2 z.f3 z.f4 z.f5 z.f6 st k20 k1) [1,1,12,1,1,1,1,1,1,0] λ(x:X1)=>
   .fi ⟨x,z.q.c1,z.q.c2,z.f1,z.f2,z.f3,z.f4,z.f5,z.f6,z.q.g2,a0,z.t0,mz,z.a3,st,k1,Ti,z.x1,z.x2,q.a8⟩ [0,0,0,0,0,0,0,0,3,2]) ADk
omit O
theorem qR(B:Bx):A4 B.P 211=.ClassDef vK [.Name ⟨⟨[111,98,106,101,99,116]⟩⟩ (pS 139 12 18)] [] (Qk (NP B)) [] [] (SO (NP B)) none vK (bL (NP B)) (eP (NP B))::(A4 B.P 211).drop 1:=by kernel_rfl
include O
theorem qn(U:AA 60 A)(L c k:Nat)(p2:Pos):
 AC B.C A (Qe (.ClassDef ⟨⟨[75]⟩⟩ [.Name ⟨⟨[111,98,106,101,99,116]⟩⟩ p2] [] (Qk (NP B)) [] [] (SO (NP B)) none ⟨⟨[75]⟩⟩ (bL (NP B)) (eP (NP B))) (Sn B L c)) (YZ L c k) (λz:KX=>.next) (λz=>QC B c k z++[AI L [(vK,J z.x.a)]]):=by
 rw[arm_exec_ClassDef];refine AC.gl [] (YZ L c k) (.fi () [0,0,0]) O U ?_;refine AC.gu () (.fi () [0,0,0]) O U ?_;refine AC.gu () (.g 64<|.fi () [0,0,0]) O U ?_;refine AC.bind (res:=λz:KX=>J z.x.a) (led:=λz=>QC B c k z++[AI L []]) (AC.hold ?_) λz=>?_
 ·refine AC.gu ⟨[.type "object"],[]⟩ (.g 4096<|.fi () [0,0,0]) O U ?_
  refine AC.gu () (.fi () [0,0,0]) O U ?_;refine AC.hold ?_;exact Z9 O U L c k
 ·exact rn O U (.fr λk1=>.g 6730<|.fi z (BW 10))
theorem qf(U:AA 40 A)(L c:Nat)(v:Value):
 AS B A (Ac ((A4 B.P 211).drop 1) (Sn B L c)) [AI L [(vK,v)]] (.ret v) []:=
 D7 O U (.g 65<|.fi () [])
abbrev Dd(x a d:Nat)(l:List DP):Bi:=.one (x+323) (.ex ⟨J a,some (d+323),.plain,⟨l⟩⟩)
omit O
section
variable{B:Bx}{A:AL}
theorem V6(O:B.C.Ok)(U:A.handled=none)(a n t k1 t1 m k o d:Nat)(l:List DP):AC B.C A (Cm (J m) (J o)) [Dd o a d l,Iv m a k,DW a n t k1 t1] (λYa:Unit=>()) (λYa=>[Dd o a d l,Iv m a k,DW a n t k1 t1]):=by
 unfold Cm;refine AC.go (t:=Builtin.Getset_descriptor.descrNameAndClass _) Unit (λYa=>(EV,J a)) (λYa=>[Dd o a d l,Iv m a k,DW a n t k1 t1]) (.g 4226<|.fi () [0,0,0]) O U ADk λYa=>?_
 refine AC.KN (t:=J3 _ _) (v:=true) ?_ ?_
 ·unfold J3
  refine AC.go (t:=J5 _) Unit (λYa=>J a) (λYa=>[Dd o a d l,Iv m a k,DW a n t k1 t1]) (.g 65<|.fi () [0,0,0]) O U ADk λYa=>?_
  exact(((Ng O U a n t k1 t1).frame [Dd o a d l,Iv m a k]).ix [2,0,0] rfl).ox [1,1,0] λYa=>rfl
 refine AC.MK ?_ ?_
 ·rfl
 exact AC.ret () rfl rfl
theorem hV:C1 FZ "member_descriptor.__set__"=some Builtin.«member_descriptor.__set__»:=B2 ADk
theorem hR:C1 FZ "member_descriptor.__get__"=some Builtin.«member_descriptor.__get__»:=B2 ADk
theorem jW(O:B.C.Ok)(U:A.handled=none)(a n t k1 t1 m k o d w:Nat):AC B.C A (Builtin.«member_descriptor.__set__» ⟨[J m,J o,J w],[]⟩) [Dd o a d [],Iv m a k,DW a n t k1 t1] (λYa:Unit=>.again (.builtin "proto.slot#set" ⟨[J o,J w,J m],[]⟩)) (λYa=>[Dd o a d [],Iv m a k,DW a n t k1 t1]):=by
 unfold Builtin.«member_descriptor.__set__» Builtin.Getset_descriptor.descrSet;refine AC.MK ?_ ?_
 ·rfl
 unfold Builtin.Getset_descriptor.descrStoreThrough;refine AC.KN (t:=Cm _ _) (v:=()) (V6 O U a n t k1 t1 m k o d []) ?_;exact Ga O U (.g 4226<|.fi () [0,0,0]) ADk
theorem jV(O:B.C.Ok)(U:A.handled=none)(a n t k1 t1 m k o d:Nat)(v:Value):AC B.C A (Builtin.«member_descriptor.__get__» ⟨[J m,J o,J a],[]⟩) [Dd o a d [some v],Iv m a k,DW a n t k1 t1] (λYa:Unit=>.again (.builtin "proto.slot" ⟨[J o,J m],[]⟩)) (λYa=>[Dd o a d [some v],Iv m a k,DW a n t k1 t1]):=by
 unfold Builtin.«member_descriptor.__get__» Builtin.Getset_descriptor.descrGet;refine AC.go (t:=Builtin.Getset_descriptor.descrGetArgs _) Unit (λYa=>(J m,some (J o),some (J a))) (λYa=>[Dd o a d [some v],Iv m a k,DW a n t k1 t1]) (.fi () [0,0,0]) O U ADk λYa=>?_
 unfold Builtin.Getset_descriptor.descrGetter;refine AC.KN (t:=Cm _ _) (v:=()) (V6 O U a n t k1 t1 m k o d [some v]) ?_;exact Ga O U (.g 4226<|.fi () [0,0,0]) ADk
theorem RL{C:Cx}{A:AL}{id vM:String}{b:KU}{args Di:LN}{F:AN}{X:Type}{val:X->Value}{led:X->AN}(hp:H4 id=true)(hb:C1 FZ id=some b)(iP:H4 vM=true)
 (hc:AC C A.in1 (AU id args) F (λYa:Unit=>()) (λYa=>F)) (h:AC C A.in1 (b args) F (λYa:Unit=>.again (.builtin vM Di)) (λYa=>F))
 (h2:AC C A.in1 (BM (.builtin vM Di)) F (λx=>Az (.ret (val x))) led):Bv C A (.call (.builtin id) args) F (λx=>.ok (.ret (val x))) led:=
 Bu λR s S=>EJ hp hb (by
  refine AC.wp hc S λYa s₁ S₁=>?_;refine AC.wp h S₁ λYa s₂ S₂=>?_;refine⟨DH iP _,BL ?_⟩;rw[BX iP Di,E4 C];exact AC.wp h2 S₂ λx s₂ S₂=>⟨x,rfl,S₂⟩)
end
include O
theorem f8(U:AA 10 A)(a n t k1 t1 m k o d w:Nat):
 AS B A (AU "member_descriptor.__set__" ⟨[J m,J o,J w],[]⟩) [Dd o a d [],Iv m a k,DW a n t k1 t1] () [Dd o a d [],Iv m a k,DW a n t k1 t1]:=
 by apply Hc O U (.g 66<|.fi () [0,0,0])
theorem f7(U:AA 10 A)(a n t k1 t1 m k o d:Nat)(v:Value):
 AS B A (AU "member_descriptor.__get__" ⟨[J m,J o,J a],[]⟩) [Dd o a d [some v],Iv m a k,DW a n t k1 t1] () [Dd o a d [some v],Iv m a k,DW a n t k1 t1]:=
 by apply Hc O U (.g 66<|.fi () [0,0,0])
theorem g_(U:AA 10 A)(a n t k1 t1 m k o d w:Nat):
 AS B A (BM (.builtin "proto.slot#set" ⟨[J o,J w,J m],[]⟩)) [Dd o a d [],Iv m a k,DW a n t k1 t1] (Az (B6 .none)) [Dd o a d [some (J w)],Iv m a k,DW a n t k1 t1]:=
 rn O U (.g 1611403394<|.fi () [0,0,0])
theorem g7(U:AA 10 A)(a n t k1 t1 m k o d:Nat)(v:Value):
 AS B A (BM (.builtin "proto.slot" ⟨[J o,J m],[]⟩)) [Dd o a d [some v],Iv m a k,DW a n t k1 t1] (Az (B6 v)) [Dd o a d [some v],Iv m a k,DW a n t k1 t1]:=
 rn O U (.g 1091309698<|.fi () [0,0,0])
def gc(U:AA 11 A)(a n t k1 t1 m k o d w:Nat):Ag B.C A where
 c:=.call (.builtin "member_descriptor.__set__") ⟨[J m,J o,J w],[]⟩
 F:=[Dd o a d [],Iv m a k,DW a n t k1 t1]
 X:=Unit
 res:=λYa=>.ok (.ret .none)
 led:=λYa=>[Dd o a d [some (J w)],Iv m a k,DW a n t k1 t1]
 ok:=RL ADl hV ADl (f8 O U.in1 a n t k1 t1 m k o d w) (jW O U.in1.1 a n t k1 t1 m k o d w) (g_ O U.in1 a n t k1 t1 m k o d w)
def gZ(U:AA 11 A)(a n t k1 t1 m k o d:Nat)(v:Value):Ag B.C A where
 c:=.call (.builtin "member_descriptor.__get__") ⟨[J m,J o,J a],[]⟩
 F:=[Dd o a d [some v],Iv m a k,DW a n t k1 t1]
 X:=Unit
 res:=λYa=>.ok (.ret v)
 led:=λYa=>[Dd o a d [some v],Iv m a k,DW a n t k1 t1]
 ok:=RL ADl hR ADl (f7 O U.in1 a n t k1 t1 m k o d v) (jV O U.in1.1 a n t k1 t1 m k o d v) (g7 O U.in1 a n t k1 t1 m k o d v)
noncomputable def E6(r:Bool):Ay->Ay->Bool
 |a::l,b::m=>if a=b then E6 r l m else(if r then decide (b<a) else decide (a<b))
 |l,m=>if r then decide (m.length<l.length) else decide (l.length<m.length)
def vY(r:Bool):Int:=if r then 4 else 0
omit O
theorem Vv(r:Bool)(l m:Ay)(h:l=[]∨m=[]):E6 r l m=if r then decide (m.length<l.length) else decide (l.length<m.length):=by
 cases l with
 |nil=>rfl
 |cons a l=>cases m with
  |nil=>rfl
  |cons b m=>rcases h with h|h<;>cases h
theorem VR{C:Cx}{A:AL}(x y:Nat)(xs ys:Aa)(r:Bool): ∀k i,xs.length-i=k->i<=xs.length->i<=ys.length->
 AT C A (.builtin "list.__eq__.loop" ⟨[J x,J y,CL (i:Int),CL (vY r)],[]⟩) [AF x xs,AF y ys] (λYa:Unit=>.ok (.ret (.bool (E6 r (ns (xs.drop i)) (ns (ys.drop i)))))) (λYa=>[AF x xs,AF y ys]):=by
 intro k
 induction k with
 |zero=>
  intro i hk hi hj R s S;obtain⟨g1,h1⟩:=S.Dj;obtain⟨g2,h2⟩:=S.swap.Dj;refine Ez I2 ?_;rw[BX DR _];have hx:(⟨xs.map iv⟩:Bs)[((i:Nat):Int).toNat]? =none:=by simp;lia
  have hd:xs.drop i=[]:=by simp;lia
  have hl:E6 r (ns (xs.drop i)) (ns (ys.drop i))=if r then decide (ys.length<xs.length) else decide (xs.length<ys.length):=by
   rw[hd,show ns ([]:Aa)=[] from rfl,Vv r _ _ (.inl rfl)];simp only[ns,EC,G5,AD,A6];cases r
   ·simp;lia
   ·simp;lia
  rw[hl];cases r<;>
  ·refine AB (CR h1 rfl ?_)
   refine AB (CR h2 rfl ?_);rw[hx];refine AB (CR h1 rfl ?_);refine AB (CR h2 rfl ?_);refine AP ⟨(),?_,S⟩;simp
   try rfl
 |succ k ih=>
  intro i hk hi hj R s S;obtain⟨g1,h1⟩:=S.Dj;obtain⟨g2,h2⟩:=S.swap.Dj;refine Ez I2 ?_;rw[BX DR _];have IP:i<xs.length:=by lia
  have hx:(⟨xs.map iv⟩:Bs)[((i:Nat):Int).toNat]? =some (iv xs[i]):=by simp[IP]
  by_cases tL:i<ys.length
  ·have hy:(⟨ys.map iv⟩:Bs)[((i:Nat):Int).toNat]? =some (iv ys[i]):=by simp[tL]
   have e1:xs.drop i=xs[i]::xs.drop (i+1):=BR IP;have e2:ys.drop i=ys[i]::ys.drop (i+1):=BR tL;have hl:E6 r (ns (xs.drop i)) (ns (ys.drop i))=if xs[i].1=ys[i].1 then E6 r (ns (xs.drop (i+1))) (ns (ys.drop (i+1))) else(if r then decide (ys[i].1<xs[i].1) else decide (xs[i].1<ys[i].1)):=by
    rw[e1,e2];rfl
   rw[hl];have hc:((i:Int)+1)=((i+1:Nat):Int):=by lia
   by_cases c:xs[i].1=ys[i].1
   ·rw[if_pos c]
    have hb:(((xs[i].1:Nat):Int)==((ys[i].1:Nat):Int))=true:=by rw[c];simp
    cases r<;>
    ·refine AB (CR h1 rfl ?_)
     refine AB (CR h2 rfl ?_);rw[hx,hy];refine AB (L0 ?_);rw[hb];refine AB (AP (AP ⟨DH DR _,?_⟩));rw[hc];exact ih (i+1) ADj ADj ADj R s S
   ·rw[if_neg c]
    have hb:(((xs[i].1:Nat):Int)==((ys[i].1:Nat):Int))=false:=by simp;lia
    cases r
    ·refine AB (CR h1 rfl ?_)
     refine AB (CR h2 rfl ?_);rw[hx,hy];refine AB (L0 ?_);rw[hb];refine AB (CR h1 rfl ?_);refine AB (CR h2 rfl ?_);rw[hx,hy];refine AB ?_;show BN _ _ (Gf .Lt (.int _ _) (.int _ _)) _ _ _;refine lt_int (AP ⟨(),?_,S⟩);simp
    ·refine AB (CR h1 rfl ?_)
     refine AB (CR h2 rfl ?_);rw[hx,hy];refine AB (L0 ?_);rw[hb];refine AB (CR h1 rfl ?_);refine AB (CR h2 rfl ?_);rw[hx,hy];refine AB ?_;show BN _ _ (Gf .Gt (.int _ _) (.int _ _)) _ _ _;refine gt_int (AP ⟨(),?_,S⟩);simp
  ·have hy:(⟨ys.map iv⟩:Bs)[((i:Nat):Int).toNat]? =none:=by simp;lia
   have hd:ys.drop i=[]:=by simp;lia
   have hl:E6 r (ns (xs.drop i)) (ns (ys.drop i))=if r then decide (ys.length<xs.length) else decide (xs.length<ys.length):=by
    rw[hd,show ns ([]:Aa)=[] from rfl,Vv r _ _ (.inr rfl)];simp only[ns,EC,G5,AD,A6];cases r
    ·simp;lia
    ·simp;lia
   rw[hl];cases r<;>
   ·refine AB (CR h1 rfl ?_)
    refine AB (CR h2 rfl ?_);rw[hx,hy];refine AB (CR h1 rfl ?_);refine AB (CR h2 rfl ?_);refine AP ⟨(),?_,S⟩;simp
    try rfl
include O
theorem ke(U:AA 4 A)(x y:Nat)(xs ys:Ak):
 AS B A (AU "list.__gt__" ⟨[J x,J y],[]⟩) [AE x xs,AE y ys] () [AE x xs,AE y ys]:=
 by apply Hc O U (.g 65<|.fi () [0,0])
theorem kf(U:AA 4 A)(x y:Nat)(xs ys:Ak):
 AS B A (AU "list.__lt__" ⟨[J x,J y],[]⟩) [AE x xs,AE y ys] () [AE x xs,AE y ys]:=
 by apply Hc O U (.g 65<|.fi () [0,0])
theorem lY(U:AA 4 A)(x y:Nat)(xs ys:Ak):
 AS B A (BM (.builtin "list.__gt__" ⟨[J x,J y],[]⟩)) [AE x xs,AE y ys] (.again (.builtin "list.__eq__.loop" ⟨[J x,J y,CL 0,CL 4],[]⟩)) [AE x xs,AE y ys]:=
 rn O U (.g 66<|.fi () [0,0])
theorem lZ(U:AA 4 A)(x y:Nat)(xs ys:Ak):
 AS B A (BM (.builtin "list.__lt__" ⟨[J x,J y],[]⟩)) [AE x xs,AE y ys] (.again (.builtin "list.__eq__.loop" ⟨[J x,J y,CL 0,CL 0],[]⟩)) [AE x xs,AE y ys]:=
 rn O U (.g 66<|.fi () [0,0])
omit O
theorem Oc{C:Cx}{A:AL}{id:String}{c':Code}{args:LN}{F:AN}{X:Type}{res:X->Result}{led:X->AN}(hp:H4 id=true)(hq:c'.quiet=true)
 (hc:AC C A.in1 (AU id args) F (λYa:Unit=>()) (λYa=>F)) (h:AC C A.in1 (BM (.builtin id args)) F (λYa:Unit=>G8 c') (λYa=>F))
 (h2:AT C A c' F res led):Bv C A (.call (.builtin id) args) F res led:=
 Bu λR s S=>Ew (DH hp args) (by
  refine AC.wp hc S λYa s₁ S₁=>?_;refine BL ?_;rw[BX hp args,E4 C];refine AC.wp h S₁ λYa s₂ S₂=>?_;exact⟨hq,h2 R s₂ S₂⟩)
include O
def lD(U:AA 5 A)(x y:Nat)(xs ys:Aa):Ag B.C A where
 c:=.call (.builtin "list.__gt__") ⟨[J x,J y],[]⟩
 F:=[AF x xs,AF y ys]
 X:=Unit
 res:=λYa=>.ok (.ret (.bool (E6 true (ns xs) (ns ys))))
 led:=λYa=>[AF x xs,AF y ys]
 ok:=Oc ADl (DH DR _) (ke O U.in1 x y _ _) (lY O U.in1 x y _ _) (by
  have:=VR (C:=B.C) (A:=A) x y xs ys true _ 0 rfl (By _) (By _)
  rw[Du,Du] at this;exact this)
def lE(U:AA 5 A)(x y:Nat)(xs ys:Aa):Ag B.C A where
 c:=.call (.builtin "list.__lt__") ⟨[J x,J y],[]⟩
 F:=[AF x xs,AF y ys]
 X:=Unit
 res:=λYa=>.ok (.ret (.bool (E6 false (ns xs) (ns ys))))
 led:=λYa=>[AF x xs,AF y ys]
 ok:=Oc ADl (DH DR _) (kf O U.in1 x y _ _) (lZ O U.in1 x y _ _) (by
  have:=VR (C:=B.C) (A:=A) x y xs ys false _ 0 rfl (By _) (By _)
  rw[Du,Du] at this;exact this)
omit O
theorem AC.room{C:Cx}{A:AL}(hu:A.units<cLine){β:Type}{w:String}{vs:Ak}{k:Unit->Sem β}{F:AN}{Y:Type}{D0:Y->β}{Cy:Y->AN}(g:AC C A (k ()) F D0 Cy):AC C A (cRoomFor w vs>>=k) F D0 Cy:=λR s S=>
 AB (wpAny_cRoomFor hu (g R s S))
include O
theorem pe(U:AA 6 A)(x y:Nat)(xs ys:Aa):
 AS B A (Pe (J x) ed (J y)) [AF x xs,AF y ys] (some (HM (E6 true (ns xs) (ns ys)))) [AF x xs,AF y ys]:=by
 obtain⟨_,_|_⟩:=B<;>exact rn O U (.g 65<|.cc (lD O U.l x y xs ys) [0,0] λYa=>.fi () [0,0])
theorem pf(U:AA 6 A)(x y:Nat)(xs ys:Aa):
 AS B A (Pe (J x) KL (J y)) [AF x xs,AF y ys] (some (HM (E6 false (ns xs) (ns ys)))) [AF x xs,AF y ys]:=by
 obtain⟨_,_|_⟩:=B<;>exact rn O U (.g 65<|.cc (lE O U.l x y xs ys) [0,0] λYa=>.fi () [0,0])
omit O
section
variable{B:Bx}{A:AL}
theorem oq(O:B.C.Ok)(U:AA 6 A)(x y:Nat)(xs ys:Aa):AC B.C A (Gf .Gt (J x) (J y)) [AF x xs,AF y ys] (λYa:Unit=>.bool (E6 true (ns xs) (ns ys))) (λYa=>[AF x xs,AF y ys]):=by
 show AC B.C A (N0 .Gt _ _) _ _ _;unfold N0;refine AC.hold (AC.room (AA.units U) ?_);refine AC.go (t:=J5 _) Unit (λYa=>.type "list") (λYa=>[AF x xs,AF y ys]) (.g 65<|.fi () [0,0]) O U.1 ADk λYa=>?_
 refine AC.go (t:=J5 _) Unit (λYa=>.type "list") (λYa=>[AF x xs,AF y ys]) (.g 66<|.fi () [0,0]) O U.1 ADk λYa=>?_
 refine AC.MK ?_ ?_
 ·kernel_rfl
 refine AC.KN (t:=pure false) (v:=false) (AC.ret () rfl rfl) ?_;refine AC.MK ?_ ?_
 ·kernel_rfl
 refine AC.KN (t:=Pe _ _ _) (v:=some (HM (E6 true (ns xs) (ns ys)))) (pe O U x y xs ys) ?_;exact AC.ret () rfl rfl
theorem or(O:B.C.Ok)(U:AA 6 A)(x y:Nat)(xs ys:Aa):AC B.C A (Gf .Lt (J x) (J y)) [AF x xs,AF y ys] (λYa:Unit=>.bool (E6 false (ns xs) (ns ys))) (λYa=>[AF x xs,AF y ys]):=by
 show AC B.C A (N0 .Lt _ _) _ _ _;unfold N0;refine AC.hold (AC.room (AA.units U) ?_);refine AC.go (t:=J5 _) Unit (λYa=>.type "list") (λYa=>[AF x xs,AF y ys]) (.g 65<|.fi () [0,0]) O U.1 ADk λYa=>?_
 refine AC.go (t:=J5 _) Unit (λYa=>.type "list") (λYa=>[AF x xs,AF y ys]) (.g 66<|.fi () [0,0]) O U.1 ADk λYa=>?_
 refine AC.MK ?_ ?_
 ·kernel_rfl
 refine AC.KN (t:=pure false) (v:=false) (AC.ret () rfl rfl) ?_;refine AC.MK ?_ ?_
 ·kernel_rfl
 refine AC.KN (t:=Pe _ _ _) (v:=some (HM (E6 false (ns xs) (ns ys)))) (pf O U x y xs ys) ?_;exact AC.ret () rfl rfl
theorem AC.lr{C:Cx}{A:AL}{L:AN}{l r:Expr}{op:Operator}{pos:Pos}{env:Env}{X Y Z:Type}{va:X->Value}{vb:X->Y->Value}{led1:X->AN}{led2:X->Y->AN}{v:Z->Value}{tW:Z->AN}
 (h1:AC C A (Bf l env) L va led1) (h2: ∀x,AC C A (Bf r env) (led1 x) (vb x) (led2 x)) (h3: ∀x y,AC C A (binaryOp op (va x) (vb x y)) (led2 x y) v tW):AC C A (Bf (.BinOp l op r pos) env) L v tW:=λR s S=>by
 refine wpAny_BinOp (AC.wp h1 S λx s₁ S₁=>?_);refine AC.wp (h2 x) S₁ λy s₂ S₂=>?_;exact h3 x y R s₂ S₂
end
theorem qS(B:Bx):A4 B.P 234=[.Return (some (vE (sN 14 0))) (pS 209 4 28)]:=by kernel_rfl
def EY(l m:Ay):Int:=(if E6 true l m=true then 1 else 0)-(if E6 false l m=true then 1 else 0)
include O
def gG(U:AA 6 A)(p q:Bool):Ag B.C A:=
 DN O U "int.__sub__" [.bool p,.bool q] [] (λk:Nat=>.int ((if p=true then 1 else 0)-(if q=true then 1 else 0)) k) (λk=>[]) (λU=>.fi () []) λU=>.fr λk0=>.fi (k0) []
theorem sS(U:AA 10 A)(p q:Bool):
 AC B.C A (binaryOp .Sub (.bool p) (.bool q)) []
  (λk:Nat=>Be ((if p=true then 1 else 0)-(if q=true then 1 else 0)) k)
  (λk=>[]):=rbb O U (.cc (gG O U.l p q) [] λy0=>.fi (y0) [])
theorem t1x(U:AA 10 A)(L:Nat)(x y:Value):
 AS B A (Bf (.Name LM (pS 209 12 13)) (AR B.P 234 [] (L+323))) [AI L [(LM,x),(Mw,y)]] x [AI L [(LM,x),(Mw,y)]]:=
 H_ O U (.g 65<|.fi () [0])
theorem t1y(U:AA 10 A)(L:Nat)(x y:Value):
 AS B A (Bf (.Name Mw (pS 209 16 17)) (AR B.P 234 [] (L+323))) [AI L [(LM,x),(Mw,y)]] y [AI L [(LM,x),(Mw,y)]]:=
 H_ O U (.g 65<|.fi () [0])
theorem t2x(U:AA 10 A)(L:Nat)(x y:Value):
 AS B A (Bf (.Name LM (pS 209 22 23)) (AR B.P 234 [] (L+323))) [AI L [(LM,x),(Mw,y)]] x [AI L [(LM,x),(Mw,y)]]:=
 H_ O U (.g 65<|.fi () [0])
theorem t2y(U:AA 10 A)(L:Nat)(x y:Value):
 AS B A (Bf (.Name Mw (pS 209 26 27)) (AR B.P 234 [] (L+323))) [AI L [(LM,x),(Mw,y)]] y [AI L [(LM,x),(Mw,y)]]:=
 H_ O U (.g 65<|.fi () [0])
theorem fn(U:AA 12 A)(L x y:Nat)(xs ys:Aa):
 AC B.C A (Ac (A4 B.P 234) (AR B.P 234 [] (L+323))) [AI L [(LM,J x),(Mw,J y)],AF x xs,AF y ys] (λk:Nat=>.ret (.int (EY (ns xs) (ns ys)) k)) (λYa=>[AF x xs,AF y ys]):=by
 have hn: ∀c q,(∀v w,AC B.C A (Bf (.Name c q) (AR B.P 234 [] (L+323))) [AI L [(LM,v),(Mw,w)]] (λYa:Unit=>if c=LM then v else w) (λYa=>[AI L [(LM,v),(Mw,w)]]))->
  AC B.C A (Bf (.Name c q) (AR B.P 234 [] (L+323))) [AI L [(LM,J x),(Mw,J y)],AF x xs,AF y ys] (λYa:Unit=>if c=LM then J x else J y) (λYa=>[AI L [(LM,J x),(Mw,J y)],AF x xs,AF y ys]):=λc q h=>by
  have:=h (J x) (J y)
  exact this.frame [AF x xs,AF y ys]
 rw[qS];refine AC.one (AC.retS (v:=λk:Nat=>Be (EY (ns xs) (ns ys)) k) (AC.lr (va:=λYa=>.bool (E6 true (ns xs) (ns ys))) (vb:=λYa Ya=>.bool (E6 false (ns xs) (ns ys))) (AC.TP (v:=.bool (E6 true (ns xs) (ns ys))) (hn _ _ λv w=>t1x O U.l L v w) (λYa=>hn _ _ λv w=>t1y O U.l L v w) (λYa Ya=>?_) rfl) (λYa=>AC.TP (v:=.bool (E6 false (ns xs) (ns ys))) (hn _ _ λv w=>t2x O U.l L v w) (λYa=>hn _ _ λv w=>t2y O U.l L v w) (λYa Ya=>?_) rfl) λYa Ya=>?_))
 ·exact((oq O U.l x y xs ys).frame [AI L [(LM,J x),(Mw,J y)]]).ix [1,1,0] rfl|>.ox [2,0,0] λYa=>rfl
 ·exact((or O U.l x y xs ys).frame [AI L [(LM,J x),(Mw,J y)]]).ix [1,1,0] rfl|>.ox [2,0,0] λYa=>rfl
 ·exact((sS O U.l (E6 true (ns xs) (ns ys)) (E6 false (ns xs) (ns ys))).frame [AF x xs,AF y ys]).ix [1,1] rfl
def Y7(U:AA 14 A)(x y:Nat)(xs ys:Aa):Ag B.C A where
 c:=.call (.ref 234) ⟨[J x,J y],[]⟩
 F:=[AF x xs,AF y ys]
 X:=Nat
 res:=λk=>.ok (.ret (.int (EY (ns xs) (ns ys)) k))
 led:=λYa=>[AF x xs,AF y ys]
 ok:=EU O U [(LM,J x),(Mw,J y)]
  (λL=>BK (fl:=λk:Nat=>.ret (.int (EY (ns xs) (ns ys)) k)) (fn O (AA.deeper U.l) L x y xs ys))
def M4(C:Cx)(F:AN)(f:Nat)(fd:FuncData):Prop:= ∀R s,St C (F++R) s-> ∃o,s.heap.get? (f+323)=some o/\o.data=.func fd/\s.heap.CodeRec fd.code fd.qualname
theorem Qm{n:Nat}(U:AA (n+1) A){f:Nat}{fd:FuncData}{body:Dx}(TW:fd.body=.stmts body)(XQ:fd.scope.isCoroutine=false)(Zh:fd.scope.isGenerator=false){args:LN}{F:AN}(hf:M4 B.C F f fd){binds:BC}
 (h1:AC B.C A.in1 (Dc fd args) F (λYa:Unit=>binds) (λYa=>F)) {Y:Type} {env:Y->Env} {NT:Y->AN}
 (h2:AC B.C A.in1 (FP fd.scope fd.globals fd.closure binds (fd.qualname++".<locals>.") (some (f+323)) fd.code none fd.builtins) F env NT)
 {X:Type} {val:X->Value} {led:X->AN}
 (hb: ∀y R s,St B.C (NT y++R) s->Kc B.C.M A (.func body (env y)) (λr s'=> ∃x,r=.ok (.ret (val x))/\St B.C (led x++R) s') s):
 AT B.C A (.call (J f) args) F (λx=>.ok (.ret (val x))) led:=λR s S=>by
 obtain⟨o,ho,hd,iH⟩:=hf R s S;refine M3 (fd:=fd) (body:=body) (by have:=U.2.1;lia) ho hd XQ Zh TW iH ?_
 rw[Ki,NW];refine AC.wp h1 S λYa s₁ S₁=>?_;refine AC.wp h2 S₁ λy s₂ S₂=>?_;exact⟨S₂.noLimit O,hb y R s₂ S₂⟩
theorem N4{n:Nat}(U:AA (n+1) A){f:Nat}{fd:FuncData}{body:Expr}(TW:fd.body=.expr body)(XQ:fd.scope.isCoroutine=false)(Zh:fd.scope.isGenerator=false){args:LN}{F:AN}(hf:M4 B.C F f fd){binds:BC}
 (h1:AC B.C A.in1 (Dc fd args) F (λYa:Unit=>binds) (λYa=>F)) {Y:Type} {env:Y->Env} {NT:Y->AN}
 (h2:AC B.C A.in1 (FP fd.scope fd.globals fd.closure binds (fd.qualname++".<locals>.") (some (f+323)) fd.code none fd.builtins) F env NT)
 {X:Type} {val:X->Value} {led:X->AN}
 (hb: ∀y,AC B.C (A.deeper (env y)) (Bf body (env y)) (NT y) val led):
 AT B.C A (.call (J f) args) F (λx=>.ok (.ret (val x))) led:=λR s S=>by
 obtain⟨o,ho,hd,iH⟩:=hf R s S;refine kla_callFunE (fd:=fd) (body:=body) (by have:=U.2.1;lia) ho hd XQ Zh TW iH ?_
 rw[Ki,NW];refine AC.wp h1 S λYa s₁ S₁=>?_;refine AC.wp h2 S₁ λy s₂ S₂=>?_;refine⟨S₂.noLimit O,kla_codeExpr ?_⟩;exact Av (hb y R s₂ S₂) (λv s' ⟨x,e,S'⟩=>⟨x,by rw[e],S'⟩) λYa Ya q=>q.elim
noncomputable def Oi(fd:FuncData)(f:Addr)(cells:List (Str×Addr))(L:Addr):Env:=
 {scope:=fd.scope,locals:=L,globals:=fd.globals,cells:=cells,qual:=fd.qualname++".<locals>.",func:=some f,code:=fd.code,frame:=some L,builtins:=fd.builtins}
def zq(e:Expr):Arguments:=(uE e).2.2.2
abbrev QD:Expr->Expr:=o0
abbrev zr:Expr->Scope:=Gh
abbrev AAY(e:Expr):Expr:=el e 0
abbrev qb(e:Expr):Expr:=el e 1
def EK(_:Bx):Expr:=el (vE (sN 29 16)) 0
def HS(_:Bx):Expr:=qb (el (vE (sN 29 17)) 1)
def CH:Str:=Bl [60,108,97,109,98,100,97,62]
def Bk:Str:=Bl [108,97,119,46,60,108,111,99,97,108,115,62,46,60,108,97,109,98,100,97,62]
def Cj(l:Expr)(q:Str)(code:Nat):FuncData:={name:=CH,qualname:=q,params:=zq l,body:=.expr (QD l),scope:=zr l,globals:=3,closure:=[],defaults:=.none,kwdefaults:=.none,pyModule:=.str Xx 581,code:=J code}
abbrev Hm(f:Nat)(l:Expr)(q:Str)(code:Nat):Bi:=.one (f+323) (.ex ⟨.type "function",none,.func (Cj l q code),⟨[]⟩⟩)
omit O
theorem M4.of{C:Cx}{F:AN}{f c:Nat}{fd:FuncData}{n q:Str}{x:Fc}{r1 r2:AN}{ix1 ix2:Ay}(h1:Fq ix1 F=some ([.one (f+323) (.ex ⟨.type "function",none,.func fd,⟨[]⟩⟩)],r1))(h2:Fq ix2 F=some ([EA c n q x],r2))(hc:fd.code=J c)(hq:fd.qualname=q):M4 C F f fd:=λR s S=>by
 obtain⟨g1,e1⟩:=(S.picked h1).Dj;obtain⟨g2,e2⟩:=(S.picked h2).Dj;exact⟨_,e1,rfl,c+323,_,_,x.k1,hc,e2,rfl,by rw[hq];rfl⟩
include O
theorem ak(U:AA 10 A)(cd v w:Nat):
 AS B A (Dc (Cj (EK B) Bk cd) ⟨[J v,J w],[]⟩) [] (([(Ca,J v),(Dr,J w)]:BC)) []:=
 rn O U (.fi () [])
theorem ZS(U:AA 10 A)(k cd v w:Nat):
 AC B.C A (FP (Cj (EK B) Bk cd).scope (Cj (EK B) Bk cd).globals (Cj (EK B) Bk cd).closure [(Ca,J v),(Dr,J w)] ((Cj (EK B) Bk cd).qualname++".<locals>.") (some (k+323)) (Cj (EK B) Bk cd).code none (Cj (EK B) Bk cd).builtins) []
  (λa:Nat=>Oi (Cj (EK B) Bk cd) (k+323) [] (a+323))
  (λa=>[AI a [(Ca,J v),(Dr,J w)]]):=
 rn O U (.al λa0=>.fr λk1=>.g 6145<|.fr λk2=>.g 6145<|.fi (a0) [0])
theorem bF(U:AA 20 A)(k cd v w L:Nat)(xs ys:Aa)(h1:xs.length<=1000)(h2:ys.length<=1000):
 AC B.C A (Bf (QD (EK B)) (Oi (Cj (EK B) Bk cd) (k+323) [] (L+323))) [AI L [(Ca,J v),(Dr,J w)],AF v xs,AF w ys]
  (λq:Nat=>Be (EY (ns (xs.drop 1)) (ns (ys.drop 1))) q)
  (λq=>[AF v xs,AF w ys]):=Jj O U (.g 4160<|.fr λk0=>.al λa1=>.g 274627<|.cc (JI _ _ O U.l v a1 1 k0 xs h1) [2,0] λy2=>.g 68<|.fr λk3=>.al λa4=>.g 287110<|.cc (JI _ _ O U.l w a4 1 k3 ys h2) [5,0] λy5=>.g 64<|.cc (Y7 O U.l y2 y5 (Cd 1 xs) (Cd 1 ys)) [3,0] λy6=>.fi (y6) [4,2])
def gT(U:AA 22 A)(k cd v w:Nat)(x:Fc)(xs ys:Aa)(h1:xs.length<=1000)(h2:ys.length<=1000):Ag B.C A where
 c:=.call (J k) ⟨[J v,J w],[]⟩
 F:=[Hm k (EK B) Bk cd,EA cd CH Bk x,AF v xs,AF w ys]
 X:=Nat
 res:=λq=>.ok (.ret (.int (EY (ns (xs.drop 1)) (ns (ys.drop 1))) q))
 led:=λYa=>[Hm k (EK B) Bk cd,EA cd CH Bk x,AF v xs,AF w ys]
 ok:=(N4 O (n:=21) U (fd:=Cj (EK B) Bk cd) (body:=QD (EK B)) rfl ADk ADk (M4.of (n:=CH) (x:=x) (ix1:=[0]) (ix2:=[1]) rfl rfl rfl rfl)
  ((ak O U.l.in1 cd v w).frame _) (λR s S=>(ZS O U.l.in1 k cd v w).frame [Hm k (EK B) Bk cd,EA cd CH Bk x,AF v xs,AF w ys] R s S)
  (λL=>((bF O (AA.deeper U.l) k cd v w L xs ys h1 h2).frame [Hm k (EK B) Bk cd,EA cd CH Bk x]).ix [0,2,2,0,0] rfl|>.ox [2,2,0,0] λYa=>rfl)).call
abbrev IC(B:Bx)(c c2 g2:Nat):FuncData:=vV B 3 [(CE,c+323)] c2 (J g2)
abbrev Oo(B:Bx)(c1:Nat):FuncData:=vV B 2 [] c1 .none
abbrev mm(B:Bx)(c1 f1 L:Nat):Env:=Oi (Oo B c1) (f1+323) [] (L+323)
abbrev Xc(B:Bx)(c c2 g2 f2 L:Nat):Env:=Oi (IC B c c2 g2) (f2+323) [(CE,c+323)] (L+323)
abbrev eY(B:Bx):Dx:=match(Oo B 0).body with|.stmts b=>b|_=>[]
abbrev SU(B:Bx):Dx:=match(IC B 0 0 0).body with|.stmts b=>b|_=>[]
abbrev U6(z:KX):Bi:=Hi z.x.n (Tj 0 0 z.t0 z.t2 z.a3 z.f1 z.f2 z.f3 z.f4 z.f5 z.f6 z.st++[(EV,J z.x.m),(ec,.none)])
abbrev XY(z:KX):Bi:=DW z.x.a z.x.n z.t z.k1 z.t1
abbrev Zp(z:KX):Bi:=Iv z.x.m z.x.a z.x.k
abbrev zj(B:Bx)(z:KX):Bi:=Gu B z.f1 2 [] z.c1 (.none)
abbrev zl(B:Bx)(c:Nat)(z:KX):Bi:=Gu B z.f2 3 [(CE,c+323)] z.c2 (J z.g2)
theorem lW(U:AA 14 A)(o k0 d:Nat)(z:KX)(v:Value):
 AS B A (BM (.builtin "proto.getattr_hooked" ⟨[J o,.str EV k0],[]⟩)) [Dd o z.x.a d [some v],XY z,U6 z,Zp z] (.done (.ret (v))) [Dd o z.x.a d [some v],XY z,U6 z,Zp z]:=
 rn O U (.g 18867761334460545<|.cc (gZ O U.l z.x.a z.x.n z.t z.k1 z.t1 z.x.m z.x.k o d v) [0,2,0] λYa=>.fi () [0,1,1,0])
def Pr(U:AA 15 A)(o k0 d:Nat)(z:KX)(v:Value):Ag B.C A where
 c:=.builtin "proto.getattr_hooked" ⟨[J o,.str EV k0],[]⟩
 F:=[Dd o z.x.a d [some v],XY z,U6 z,Zp z]
 X:=Unit
 res:=λYa=>.ok (.ret (v))
 led:=λYa=>[Dd o z.x.a d [some v],XY z,U6 z,Zp z]
 ok:=F9 ADl (lW O U.in1 o k0 d z v)
def gh(U:AA 15 A)(o k0 d w:Nat)(z:KX):Ag B.C A:=
 DN O U "object.__setattr__" [J o,.str EV k0,J w] [Dd o z.x.a d [],XY z,U6 z,Zp z] (λYa:Unit=>.none) (λYa=>[Dd o z.x.a d [some (J w)],XY z,U6 z,Zp z]) (λU=>.g 4225<|.fi () (BW 4)) λU=>.g 299345295970433<|.cc (gc O U.l z.x.a z.x.n z.t z.k1 z.t1 z.x.m z.x.k o d w) [0,2,0] λ(y0:PUnit)=>.fi () [0,1,1,0]
def VX(U:AA 6 A)(i:Int)(k t:Nat):Ag B.C A:=
 DN O U "int.__lt__" [.int i k,.int 0 t] [] (λYa:Unit=>.bool (decide (i<0))) (λYa=>[]) (λU=>.fi () []) λU=>.fi () []
structure KZ where
 z:KX
 c:Nat
 k:Nat
 cd:Nat
 x:Fc
abbrev CX(B:Bx)(q:KZ):AN:=[XY q.z,U6 q.z,Zp q.z,zj B q.z,zl B q.c q.z,EA q.z.c1 Ii T2 q.z.x1,EA q.z.c2 KL jM q.z.x2,Of q.c q.k,Hm q.k (EK B) Bk q.cd,EA q.cd CH Bk q.x]
theorem fb(U:AA 60 A)(L o p v w d e:Nat)(q:KZ)(xs ys:Aa)(h1:xs.length<=1000)(h2:ys.length<=1000):
 AS B A (Ac (SU B) (Xc B q.c q.z.c2 q.z.g2 q.z.f2 L)) (([AI L [(AM,J o),(DM,J p)],Dd o q.z.x.a d [some (J v)],Dd p q.z.x.a e [some (J w)],AF v xs,AF w ys]++CX B q)) (.ret (.bool (decide (EY (ns (xs.drop 1)) (ns (ys.drop 1))<0)))) ((([Dd o q.z.x.a d [some (J v)],Dd p q.z.x.a e [some (J w)],AF v xs,AF w ys]++CX B q))):=by
 obtain⟨_,_|_⟩:=B<;>exact D7 O U (.g 4173<|.fr λk0=>.g 18637186<|.cc (Pr O U.l o k0 d q.z (J v)) [1,4,4,4] λYa=>.g 69<|.fr λk2=>.g 17571974<|.cc (Pr O U.l p k2 e q.z (J w)) [5,1,1,1] λYa=>.g 78<|.cc (gT O U.l q.k q.cd v w q.x xs ys h1 h2) [13,13,6,6] λy4=>.fr λk5=>.cc (VX O U.l (EY (ns (Cd 1 xs)) (ns (Cd 1 ys))) y4 k5) [] λYa=>.fi () [8,4,2,2,2,2,2,3,3,3,3,3,0,0])
theorem fW(U:AA 10 A)(o p:Nat)(q:KZ):
 AS B A (Dc (IC B q.c q.z.c2 q.z.g2) ⟨[J o,J p],[]⟩) [] (([(AM,J o),(DM,J p)]:BC)) []:=
 rn O U (.fi () [])
theorem cq(U:AA 10 A)(o p:Nat)(q:KZ):
 AC B.C A (FP (IC B q.c q.z.c2 q.z.g2).scope (IC B q.c q.z.c2 q.z.g2).globals (IC B q.c q.z.c2 q.z.g2).closure [(AM,J o),(DM,J p)] ((IC B q.c q.z.c2 q.z.g2).qualname++".<locals>.") (some (q.z.f2+323)) (IC B q.c q.z.c2 q.z.g2).code none (IC B q.c q.z.c2 q.z.g2).builtins) []
  (λa:Nat=>Xc B q.c q.z.c2 q.z.g2 q.z.f2 a)
  (λa=>[AI a [(AM,J o),(DM,J p)]]):=
 rn O U (.al λa0=>.fr λk1=>.g 6145<|.fr λk2=>.g 6145<|.fi (a0) [0])
def k_(U:AA 62 A)(o p v w d e:Nat)(q:KZ)(xs ys:Aa)(h1:xs.length<=1000)(h2:ys.length<=1000):Ag B.C A where
 c:=.call (J q.z.f2) ⟨[J o,J p],[]⟩
 F:=[Dd o q.z.x.a d [some (J v)],Dd p q.z.x.a e [some (J w)],AF v xs,AF w ys]++CX B q
 X:=Unit
 res:=λYa=>.ok (.ret (.bool (decide (EY (ns (xs.drop 1)) (ns (ys.drop 1))<0))))
 led:=λYa=>[Dd o q.z.x.a d [some (J v)],Dd p q.z.x.a e [some (J w)],AF v xs,AF w ys]++CX B q
 ok:=(Qm O (n:=61) U (fd:=IC B q.c q.z.c2 q.z.g2) (body:=SU B) ADk ADk ADk (M4.of (n:=KL) (q:=jM) (x:=q.z.x2) (ix1:=[8]) (ix2:=[10]) rfl rfl rfl ADk)
  ((fW O U.l.in1 o p q).frame _) (λR s S=>(cq O U.l.in1 o p q).frame ([Dd o q.z.x.a d [some (J v)],Dd p q.z.x.a e [some (J w)],AF v xs,AF w ys]++CX B q) R s S)
  (λL=>BK (fl:=λYa:Unit=>.ret (.bool (decide (EY (ns (xs.drop 1)) (ns (ys.drop 1))<0)))) (fb O (AA.deeper U.l) L o p v w d e q xs ys h1 h2))).call
theorem pd(U:AA 64 A)(o p v w d e:Nat)(q:KZ)(xs ys:Aa)(h1:xs.length<=1000)(h2:ys.length<=1000):
 AS B A (Gs (J o) KL [J p]) (([Dd o q.z.x.a d [some (J v)],Dd p q.z.x.a e [some (J w)],AF v xs,AF w ys]++CX B q)) (some (HM (decide (EY (ns (xs.drop 1)) (ns (ys.drop 1))<0)))) ((([Dd o q.z.x.a d [some (J v)],Dd p q.z.x.a e [some (J w)],AF v xs,AF w ys]++CX B q))):=by
 obtain⟨_,_|_⟩:=B<;>exact rn O U (.g 1226330433<|.cc (k_ O U.l o p v w d e q xs ys h1 h2) (BW 14) λYa=>.fi () (BW 14))
theorem YD(U:AA 10 A)(cd v:Nat):
 AS B A (Dc (Cj (EK B) Bk cd) ⟨[J v,J v],[]⟩) [] (([(Ca,J v),(Dr,J v)]:BC)) []:=
 rn O U (.fi () [])
theorem XI(U:AA 10 A)(k cd v:Nat):
 AC B.C A (FP (Cj (EK B) Bk cd).scope (Cj (EK B) Bk cd).globals (Cj (EK B) Bk cd).closure [(Ca,J v),(Dr,J v)] ((Cj (EK B) Bk cd).qualname++".<locals>.") (some (k+323)) (Cj (EK B) Bk cd).code none (Cj (EK B) Bk cd).builtins) []
  (λa:Nat=>Oi (Cj (EK B) Bk cd) (k+323) [] (a+323))
  (λa=>[AI a [(Ca,J v),(Dr,J v)]]):=
 rn O U (.al λa0=>.fr λk1=>.g 6145<|.fr λk2=>.g 6145<|.fi (a0) [0])
theorem YH(U:AA 20 A)(k cd v L:Nat)(xs:Aa)(h1:xs.length<=1000):
 AC B.C A (Bf (QD (EK B)) (Oi (Cj (EK B) Bk cd) (k+323) [] (L+323))) [AI L [(Ca,J v),(Dr,J v)],AF v xs]
  (λq:Nat=>Be (EY (ns (xs.drop 1)) (ns (xs.drop 1))) q)
  (λq=>[AF v xs]):=Jj O U (.g 4160<|.fr λk0=>.al λa1=>.g 274627<|.cc (JI _ _ O U.l v a1 1 k0 xs h1) [2,0] λy2=>.g 68<|.fr λk3=>.al λa4=>.g 274627<|.cc (JI _ _ O U.l v a4 1 k3 xs h1) [2,0] λy5=>.g 64<|.cc (Y7 O U.l y2 y5 (Cd 1 xs) (Cd 1 xs)) [3,0] λy6=>.fi (y6) [2])
def bp(U:AA 22 A)(k cd v:Nat)(x:Fc)(xs:Aa)(h1:xs.length<=1000):Ag B.C A where
 c:=.call (J k) ⟨[J v,J v],[]⟩
 F:=[Hm k (EK B) Bk cd,EA cd CH Bk x,AF v xs]
 X:=Nat
 res:=λq=>.ok (.ret (.int (EY (ns (xs.drop 1)) (ns (xs.drop 1))) q))
 led:=λYa=>[Hm k (EK B) Bk cd,EA cd CH Bk x,AF v xs]
 ok:=(N4 O (n:=21) U (fd:=Cj (EK B) Bk cd) (body:=QD (EK B)) rfl ADk ADk (M4.of (n:=CH) (x:=x) (ix1:=[0]) (ix2:=[1]) rfl rfl rfl rfl)
  ((YD O U.l.in1 cd v).frame _) (λR s S=>(XI O U.l.in1 k cd v).frame [Hm k (EK B) Bk cd,EA cd CH Bk x,AF v xs] R s S)
  (λL=>((YH O (AA.deeper U.l) k cd v L xs h1).frame [Hm k (EK B) Bk cd,EA cd CH Bk x]).ix [0,2,0,0] rfl|>.ox [1,1,0] λYa=>rfl)).call
theorem bD(U:AA 60 A)(L o v d:Nat)(q:KZ)(xs:Aa)(h1:xs.length<=1000):
 AS B A (Ac (SU B) (Xc B q.c q.z.c2 q.z.g2 q.z.f2 L)) (([AI L [(AM,J o),(DM,J o)],Dd o q.z.x.a d [some (J v)],AF v xs]++CX B q)) (.ret (.bool (decide (EY (ns (xs.drop 1)) (ns (xs.drop 1))<0)))) ((([Dd o q.z.x.a d [some (J v)],AF v xs]++CX B q))):=by
 obtain⟨_,_|_⟩:=B<;>exact D7 O U (.g 4171<|.fr λk0=>.g 18104578<|.cc (Pr O U.l o k0 d q.z (J v)) [1,2,2,2] λYa=>.g 69<|.fr λk2=>.g 17571969<|.cc (Pr O U.l o k2 d q.z (J v)) (BW 4) λYa=>.g 76<|.cc (bp O U.l q.k q.cd v q.x xs h1) [11,11,5] λy4=>.fr λk5=>.cc (VX O U.l (EY (ns (Cd 1 xs)) (ns (Cd 1 xs))) y4 k5) [] λYa=>.fi () [3,2,2,2,2,3,3,3,3,3,0,0])
theorem aj(U:AA 10 A)(o:Nat)(q:KZ):
 AS B A (Dc (IC B q.c q.z.c2 q.z.g2) ⟨[J o,J o],[]⟩) [] (([(AM,J o),(DM,J o)]:BC)) []:=
 rn O U (.fi () [])
theorem ZR(U:AA 10 A)(o:Nat)(q:KZ):
 AC B.C A (FP (IC B q.c q.z.c2 q.z.g2).scope (IC B q.c q.z.c2 q.z.g2).globals (IC B q.c q.z.c2 q.z.g2).closure [(AM,J o),(DM,J o)] ((IC B q.c q.z.c2 q.z.g2).qualname++".<locals>.") (some (q.z.f2+323)) (IC B q.c q.z.c2 q.z.g2).code none (IC B q.c q.z.c2 q.z.g2).builtins) []
  (λa:Nat=>Xc B q.c q.z.c2 q.z.g2 q.z.f2 a)
  (λa=>[AI a [(AM,J o),(DM,J o)]]):=
 rn O U (.al λa0=>.fr λk1=>.g 6145<|.fr λk2=>.g 6145<|.fi (a0) [0])
def gR(U:AA 62 A)(o v d:Nat)(q:KZ)(xs:Aa)(h1:xs.length<=1000):Ag B.C A where
 c:=.call (J q.z.f2) ⟨[J o,J o],[]⟩
 F:=[Dd o q.z.x.a d [some (J v)],AF v xs]++CX B q
 X:=Unit
 res:=λYa=>.ok (.ret (.bool (decide (EY (ns (xs.drop 1)) (ns (xs.drop 1))<0))))
 led:=λYa=>[Dd o q.z.x.a d [some (J v)],AF v xs]++CX B q
 ok:=(Qm O (n:=61) U (fd:=IC B q.c q.z.c2 q.z.g2) (body:=SU B) ADk ADk ADk (M4.of (n:=KL) (q:=jM) (x:=q.z.x2) (ix1:=[6]) (ix2:=[8]) rfl rfl rfl ADk)
  ((aj O U.l.in1 o q).frame _) (λR s S=>(ZR O U.l.in1 o q).frame ([Dd o q.z.x.a d [some (J v)],AF v xs]++CX B q) R s S)
  (λL=>BK (fl:=λYa:Unit=>.ret (.bool (decide (EY (ns (xs.drop 1)) (ns (xs.drop 1))<0)))) (bD O (AA.deeper U.l) L o v d q xs h1))).call
theorem jq(U:AA 64 A)(o v d:Nat)(q:KZ)(xs:Aa)(h1:xs.length<=1000):
 AS B A (Gs (J o) KL [J o]) (([Dd o q.z.x.a d [some (J v)],AF v xs]++CX B q)) (some (HM (decide (EY (ns (xs.drop 1)) (ns (xs.drop 1))<0)))) ((([Dd o q.z.x.a d [some (J v)],AF v xs]++CX B q))):=by
 obtain⟨_,_|_⟩:=B<;>exact rn O U (.g 1192243393<|.cc (gR O U.l o v d q xs h1) (BW 12) λYa=>.fi () (BW 12))
def lL(U:AA 11 A)(w:Nat)(z:KX):Ag B.C A:=
 DN O U "object.__new__" [J z.x.a,J w] [XY z,U6 z] (λq:Nat×Nat=>J q.1) (λq=>[Dd q.1 z.x.a q.2 [],XY z,U6 z]) (λU=>.g 4467856773185<|.fi () [0,0]) λU=>.g 4798477602515040079937<|.al λa0=>.al λa1=>.g 67<|.fi (a1,a0) [0,1,1]
theorem bC(U:AA 40 A)(L o w d:Nat)(q:KZ):
 AS B A (Ac (eY B) (mm B q.z.c1 q.z.f1 L)) (([AI L [(AM,J o),(EV,J w)],Dd o q.z.x.a d []]++CX B q)) .next ((([Dd o q.z.x.a d [some (J w)]]++CX B q))):=
 D7 O U (.g 4161<|.fr λk0=>.g 17838274<|.cc (gh O U.l o k0 d w q.z) [1,1,1,1] λYa=>.fi () [0,0,0,0,1,1,1,1,1,1,1])
theorem fV(U:AA 10 A)(o w:Nat)(q:KZ):
 AS B A (Dc (Oo B q.z.c1) ⟨[J o,J w],[]⟩) [] (([(AM,J o),(EV,J w)]:BC)) []:=
 rn O U (.fi () [])
theorem cp(U:AA 10 A)(o w:Nat)(q:KZ):
 AC B.C A (FP (Oo B q.z.c1).scope (Oo B q.z.c1).globals (Oo B q.z.c1).closure [(AM,J o),(EV,J w)] ((Oo B q.z.c1).qualname++".<locals>.") (some (q.z.f1+323)) (Oo B q.z.c1).code none (Oo B q.z.c1).builtins) []
  (λa:Nat=>mm B q.z.c1 q.z.f1 a)
  (λa=>[AI a [(AM,J o),(EV,J w)]]):=
 rn O U (.al λa0=>.fr λk1=>.g 6145<|.fr λk2=>.g 6145<|.fi (a0) [0])
def kz(U:AA 42 A)(o w d:Nat)(q:KZ):Ag B.C A where
 c:=.call (J q.z.f1) ⟨[J o,J w],[]⟩
 F:=[Dd o q.z.x.a d []]++CX B q
 X:=Unit
 res:=λYa=>.ok (.ret .none)
 led:=λYa=>[Dd o q.z.x.a d [some (J w)]]++CX B q
 ok:=(Qm O (n:=41) U (fd:=Oo B q.z.c1) (body:=eY B) ADk ADk ADk (M4.of (n:=Ii) (q:=T2) (x:=q.z.x1) (ix1:=[4]) (ix2:=[6]) rfl rfl rfl ADk)
  ((fV O U.l.in1 o w q).frame _) (λR s S=>(cp O U.l.in1 o w q).frame ([Dd o q.z.x.a d []]++CX B q) R s S)
  (λL=>BK (fl:=λYa:Unit=>.next) (bC O (AA.deeper U.l) L o w d q))).call
omit O
theorem AC.second{C:Cx}{A:AL}{α:Type}{t:Sem α}{v:α}{e1 e2:Bi}{T:AN}(h:AC C A t [e1] (λYa:Unit=>v) (λYa=>[e1])):AC C A t (e2::e1::T) (λYa:Unit=>v) (λYa=>e2::e1::T):=
 ((h.frame (e2::T)).pre λR s S=>S.perm (Ae e1 e2 (T++R))).post λYa R s S=>S.perm (Ae e2 e1 (T++R))
abbrev vT(B:Bx)(q:KZ):AN:=[U6 q.z,Zp q.z,zj B q.z,zl B q.c q.z,EA q.z.c1 Ii T2 q.z.x1,EA q.z.c2 KL jM q.z.x2,Of q.c q.k,Hm q.k (EK B) Bk q.cd,EA q.cd CH Bk q.x]
include O
theorem pI(U:AA 44 A)(o w d:Nat)(q:KZ):
 AS B A (ED (J o) Ii [J w] []) (([Dd o q.z.x.a d []]++CX B q)) (some CU) ((([Dd o q.z.x.a d [some (J w)]]++CX B q))):=rb O U (.g 1158422657<|.cc (kz O U.l o w d q) (BW 11) λYa=>.fi () (BW 11))
theorem yl(U:AA 44 A)(w:Nat)(q:KZ):
 AS B A (BM (.call (J q.z.x.a) ⟨[J w],[]⟩)) (CX B q) (.again (.call (.builtin "type.__call__") ⟨[J q.z.x.a,J w],[]⟩)) ((CX B q)):=
 rn O U (.g 4161<|.fi () (BW 10))
theorem uL(U:AA 44 A)(w:Nat)(q:KZ):
 AS B A (BM (.call (.builtin "type.__call__") ⟨[J q.z.x.a,J w],[]⟩)) (CX B q) (.again (.builtin "type.__call__" ⟨[J q.z.x.a,J w],[]⟩)) ((CX B q)):=
 rn O U (.g 65<|.fi () (BW 10))
omit O
theorem cm:C1 FZ "type.__call__"=some Builtin.«type.__call__»:=B2 ADk
include O
theorem AAU(U:AA 46 A)(w:Nat)(q:KZ):AC B.C A (Builtin.«type.__call__» ⟨[J q.z.x.a,J w],[]⟩) (CX B q) (λp:Nat×Nat=>Az (.ret (J p.1))) (λp=>[Dd p.1 q.z.x.a p.2 [some (J w)]]++CX B q):=by
 unfold Builtin.«type.__call__»;refine AC.MK ?_ ?_
 ·kernel_rfl
 refine AC.go (t:=PySem.mroOf _) Unit (λYa=>[J q.z.x.a,.type "object"]) (λYa=>CX B q) (.g 65<|.fi () (BW 10)) O U.1 ADk λYa=>?_
 refine AC.MK ?_ ?_
 ·kernel_rfl
 refine AC.go (t:=Bind.madeBy _) Unit (λYa=>some "object.__new__") (λYa=>CX B q) (.g 4161<|.fi () (BW 10)) O U.1 ADk λYa=>?_
 refine AC.KN (t:=pure _) (v:=Value.builtin "object.__new__") (AC.ret () rfl rfl) ?_;refine AC.bind (res:=λp:Nat×Nat=>J p.1) (led:=λp=>[Dd p.1 q.z.x.a p.2 []]++CX B q) (AC.hold ?_) λp=>?_
 ·exact rn O U (.cc (lL O U.l w q.z) [0,0] λ(y:Nat×Nat)=>.fi y (BW 11))
 refine AC.KN (t:=J3 _ _) (v:=true) ?_ ?_
 ·unfold J3
  refine AC.go (t:=J5 _) Unit (λYa=>J q.z.x.a) (λYa=>[Dd p.1 q.z.x.a p.2 []]++CX B q) (.g 65<|.fi () (BW 11)) O U.1 ADk λYa=>?_
  exact AC.second (T:=vT B q) (Ng O U.1 q.z.x.a q.z.x.n q.z.t q.z.k1 q.z.t1)
 refine AC.MK ?_ ?_
 ·rfl
 refine AC.bind (res:=λYa:Unit=>some CU) (led:=λYa=>[Dd p.1 q.z.x.a p.2 [some (J w)]]++CX B q) (AC.hold (pI O U.l p.1 w p.2 q)) λYa=>?_;refine AC.MK ?_ ?_
 ·kernel_rfl
 exact AC.ret p rfl rfl
omit O
theorem Si{C:Cx}{A:AL}{F:AN}{X:Type}{f:Value}{args Di:LN}{id:String}{b:KU}{val:X->Value}{led:X->AN}(hb:C1 FZ id=some b)
 (h1:AC C (A.under (.call f args)) (BM (.call f args)) F (λYa:Unit=>.again (.call (.builtin id) Di)) (λYa=>F))
 (iF:AC C (A.under (.call (.builtin id) Di)) (BM (.call (.builtin id) Di)) F (λYa:Unit=>.again (.builtin id Di)) (λYa=>F)) (mc:(OF (.builtin id) Di).quiet=true) (hq:(FD id Di).quiet=true)
 (h2:AC C (A.under (.builtin id Di)) (b Di) F (λx=>Az (.ret (val x))) led):Bv C A (.call f args) F (λx=>.ok (.ret (val x))) led:=
 Bu λR s S=>by
  refine BL ?_;rw[E4 C];refine AC.wp h1 S λYa s₁ S₁=>?_;refine⟨mc,BL ?_⟩;rw[E4 C];refine AC.wp iF S₁ λYa s₁ S₁=>?_;refine⟨hq,Ez hb ?_⟩;exact AC.wp h2 S₁ λx s₂ S₂=>⟨x,rfl,S₂⟩
include O
def uB(U:AA 50 A)(w:Nat)(q:KZ):Ag B.C A where
 c:=.call (J q.z.x.a) ⟨[J w],[]⟩
 F:=CX B q
 X:=Nat×Nat
 res:=λp=>.ok (.ret (J p.1))
 led:=λp=>[Dd p.1 q.z.x.a p.2 [some (J w)]]++CX B q
 ok:=Si cm (yl O (A:=A.under (.call (J q.z.x.a) ⟨[J w],[]⟩)) (U.l.ca _ _) w q) (uL O (A:=A.under (.call (.builtin "type.__call__") ⟨[J q.z.x.a,J w],[]⟩)) (U.l.ca _ _) w q) rfl (F0 _)
  (AAU O (A:=A.under (.builtin "type.__call__" ⟨[J q.z.x.a,J w],[]⟩)) (U.l.ty _) w q)
noncomputable def Rh(lt:Nat->Nat->Bool){α:Type}:KasT α->α
 |.ret a=>a
 |.ask i j k=>Rh lt (k (lt i j))
def FI(n:Nat){α:Type}(P:α->Prop):KasT α->Prop
 |.ret a=>P a
 |.ask i j k=>i<n/\j<n/\ ∀b,FI n P (k b)
omit O
theorem FI.bind{n:Nat}{α β:Type}{P:α->Prop}{Q:β->Prop}{f:α->KasT β}: ∀{t:KasT α},FI n P t->(∀a,P a->FI n Q (f a))->FI n Q (t.bind f)
 |.ret a,h,g=>g a h
 |.ask i j k,h,g=>⟨h.1,h.2.1,λb=>FI.bind (h.2.2 b) g⟩
def Ha(n:Nat)(p:Array Nat):Prop:= ∀i,p.getD i 0<n
theorem Ha.eh{n:Nat}{p:Array Nat}(hn:0<n)(h: ∀x∈p.toList,x<n):Ha n p:=λi=>by
 by_cases hi:i<p.size
 ·have e:p.getD i 0=p[i]:=by simp[MX,hi]
  rw[e];exact h _ ADn
 ·have e:p.getD i 0=0:=by simp[MX,hi]
  rw[e];exact hn
theorem Ha.mem{n:Nat}{p:Array Nat}(h:Ha n p): ∀x∈p.toList,x<n:=λx hx=>by
 obtain⟨i,hi,e⟩:=List.mem_iff_getElem.mp hx;have Ta:i<p.size:=by simpa using hi
 have:=h i
 have e2:p.getD i 0=p[i]:=by simp[MX,Ta]
 rw[e2] at this;rw[<-e];simpa using this
theorem Ha.pos{n:Nat}{p:Array Nat}(h:Ha n p):0<n:=Em (By _) (h 0)
theorem Ha.perm{n:Nat}{p q:Array Nat}(h:Ha n p)(e:q.Perm p):Ha n q:=Ha.eh h.pos λx hx=>h.mem x ((Array.perm_iff_toList_perm.mp e).mem_iff.mp hx)
theorem Ha.rev{n i j:Nat}{p:Array Nat}(h:Ha n p):Ha n (kas_rev p i j):=h.perm (mirror_perm _ _ _ _)
theorem Ha.bub{n i j:Nat}{p:Array Nat}(h:Ha n p):Ha n (bubble p i j):=h.perm (bubble_perm _ _ _)
theorem XW{N:Nat}{p:Array Nat}(h:Ha N p): ∀f n,FI N (λYa=>True) (kas_asc p f n)
 |0,n=>trivial
 |f+1,n=>⟨h _,h _,λb=>by
  show FI N _ (if b=true then _ else _)
  split
  ·trivial
  ·exact XW h f (n+1)⟩
theorem P8{N:Nat}: ∀f {p:Array Nat} (_:Ha N p) n q,FI N (λr=>Ha N r.1) (kas_desc f p n q)
 |0,p,h,n,q=>h
 |f+1,p,h,n,q=>⟨h _,h _,λb=>by
  show FI N _ (if b=true then(if q>0 then _ else _) else _)
  split
  ·split
   ·exact P8 f h.rev _ _
   ·exact P8 f h _ _
  ·exact⟨h _,h _,λd=>by
    show FI N _ (if d=true then _ else _)
    split
    ·exact h
    ·exact P8 f h _ _⟩⟩
theorem Vq{N n Zx:Nat}{p:Array Nat}(h:Ha N p):FI N (λr=>Ha N r.2) (kas_tail3 n Zx p):=
 (XW h.rev _ _).bind λYa Ya=>h.rev
theorem P9{N n Zx:Nat}{p:Array Nat}(h:Ha N p):FI N (λr=>Ha N r.2) (kas_descPart n Zx p):=
 (P8 _ h _ _).bind λr hr=>by
  split
  ·exact Vq hr.rev
  ·exact Vq hr
theorem iR{N Zx:Nat}{p:Array Nat}(h:Ha N p):FI N (λr=>Ha N r.2) (kas_count Zx p):=
 (XW h _ _).bind λn _=>by
  split
  ·exact h
  ·split
   ·exact⟨h _,h _,λc=>by
     show FI N _ (if c=true then _ else _)
     split
     ·exact h
     ·exact P9 h.rev⟩
   ·exact P9 h
theorem Q0{N:Nat}{p:Array Nat}(h:Ha N p)(k:Nat): ∀f l r,FI N (λYa=>True) (kas_place p k f l r)
 |0,l,r=>trivial
 |f+1,l,r=>by
  unfold kas_place
  split
  ·trivial
  ·exact⟨h _,h _,λc=>by
    show FI N _ (if c=true then _ else _)
    split
    ·exact Q0 h k f _ _
    ·exact Q0 h k f _ _⟩
theorem eZ{N:Nat}: ∀f {p:Array Nat} (_:Ha N p) k,FI N (Ha N) (kas_bin f p k)
 |0,p,h,k=>h
 |f+1,p,h,k=>(Q0 h k _ _ _).bind λl _=>eZ f h.bub (k+1)
theorem Zl{n:Nat}(hn:0<n):FI n (Ha n) (kas_sort n):=
 (iR (N:=n) (Ha.eh hn ADn)).bind λr hr=>by
  split
  ·exact eZ _ hr _
  ·exact hr
theorem Ri{n:Nat}{de df:Nat->Nat->Bool}(h: ∀i j,i<n->j<n->de i j=df i j){α:Type}{P:α->Prop}: ∀{t:KasT α},FI n P t->Rh de t=Rh df t
 |.ret a,_=>rfl
 |.ask i j k,hk=>by
  show Rh de (k (de i j))=Rh df (k (df i j));rw[h i j hk.1 hk.2.1];exact Ri h (hk.2.2 _)
theorem Vt{n:Nat}{lt:Nat->Nat->Bool}{cmp:Nat->Nat->(Bool->Af->Prop)->Af->Prop}{I:Af->Prop}(hc: ∀i j,i<n->j<n-> ∀(C:Bool->Af->Prop) s,I s->(∀s',I s'->C (lt i j) s')->cmp i j C s)
 {α:Type} {P:α->Prop} {Q:α->Af->Prop}: ∀{t:KasT α},FI n P t-> ∀s,I s->(∀s',I s'->Q (Rh lt t) s')->t.kasWp cmp Q s
 |.ret a,_,s,hs,h=>h s hs
 |.ask i j k,hk,s,hs,h=>hc i j hk.1 hk.2.1 _ s hs λs' P5=>Vt hc (hk.2.2 _) s' P5 h
def pH(lt:Nat->Nat->Bool)(n:Nat):Ay:=(Rh lt (kas_sort n)).toList
def De(lt:Nat->Nat->Bool)(vs:Ak):Ak:=(pH lt vs.length).map λi=>vs.getD i .none
theorem Xr{de df:Nat->Nat->Bool}{vs:Ak}(hn:0<vs.length)(h: ∀i j,i<vs.length->j<vs.length->de i j=df i j):De de vs=De df vs:=by
 unfold De pH;rw[Ri h (Zl hn)]
theorem St.lu{C:Cx}{s:Af}{a:Addr}{cls:Value}{xs:Ak}{L:AN}(S:St C (.one a (.ls cls none xs)::L) s): ∃e,St C (.one a (.ex ⟨cls,none,.seq ⟨xs⟩ e,⟨[]⟩⟩)::L) s:=by
 obtain⟨g,hg⟩:=S.Dj;obtain⟨H,hH,XP⟩:=S.led;refine⟨g.ep,S.old,⟨H,hH,λp hp=>?_,XP.nodup,λp hp=>?_⟩,S.gens,S.os,S.size⟩
 ·rcases List.mem_cons.mp (show p∈(a,AO.ex ⟨cls,none,.seq ⟨xs⟩ g.ep,⟨[]⟩⟩)::(Ao L++H) from hp) with rfl|hp
  ·exact⟨_,hg,G0,rfl⟩
  ·exact XP.at_ p (.tail _ hp)
 ·rcases List.mem_cons.mp (show p∈(a,AO.ex ⟨cls,none,.seq ⟨xs⟩ g.ep,⟨[]⟩⟩)::(Ao L++H) from hp) with rfl|hp
  ·exact XP.new (a,AO.ls cls none xs) (.head _)
  ·exact XP.new p (.tail _ hp)
noncomputable abbrev Jg(l:Nat)(xs:Ak)(e:Nat):Bi:=.one (l+323) (.ex ⟨.type "list",none,.seq ⟨xs⟩ e,⟨[]⟩⟩)
section
variable{C:Cx}{A:AL}
theorem AC.yg{α:Type}{t:Sem α}{l:Nat}{xs:Ak}{L:AN}{X:Type}{res:X->α}{led:X->AN}(h: ∀e,AC C A t (Jg l xs e::L) res led):AC C A t (AE l xs::L) res led:=λR s S=>by
 obtain⟨e,S'⟩:=S.lu;exact h e R s S'
theorem aA{xs:Ak}(L:AN)(hx:xs.length<=1000):AC C A (newTuple xs) L (λt:Value=>t) (λYa=>L):=λR s S=>wpAny_newTuple ⟨_,rfl,by
 have S2:=(S.alloc (o:={cls:=.type "tuple",data:=.seq xs.toArray}) (ao:=.ls (.type "tuple") none xs) rfl ⟨G0,rfl⟩).perm (L':=(L++R)++[_]) (A9 (l₁:=[_]));exact S2.drop⟩ (by rw[Br];lia)
theorem T6{l:Nat}{xs ys:Ak}{f:Bs->Bs}(hx:xs.length<=1000)(hy:ys.length<=1000)(hf:f ⟨xs⟩=⟨ys⟩):AC C A (Df (J l) f) [AE l xs] (λYa:Unit=>()) (λYa=>[AE l ys]):=λR s S=>by
 obtain⟨g,h⟩:=S.Dj;refine listUpdate_at h rfl ?_ (by rw[Br];show xs.length<=_;lia) (by rw[hf,Br];show ys.length<=_;lia)
 obtain⟨e,he⟩: ∃e,(s.heap.update (l+323) (Mc f)).get? (l+323)=some (seqObj "list" (f ⟨xs⟩) e):=⟨_,get?_update_seq h f⟩;rw[hf] at he;exact⟨(),rfl,S.No (B1 ..) he ⟨⟨λYa=>0,λYa=>0,e,⟨[]⟩⟩,rfl⟩⟩
theorem jU{l e0:Nat}{xs ys:Ak}{f:Bs->Bs}(hx:xs.length<=1000)(hy:ys.length<=1000)(hf:f ⟨xs⟩=⟨ys⟩):AC C A (Df (J l) f) [Jg l xs e0] (λYa:Unit=>()) (λYa=>[AE l ys]):=λR s S=>by
 obtain⟨g,h⟩:=S.Dj;refine listUpdate_at h rfl ?_ (by rw[Br];show xs.length<=_;lia) (by rw[hf,Br];show ys.length<=_;lia)
 obtain⟨e,he⟩: ∃e,(s.heap.update (l+323) (Mc f)).get? (l+323)=some (seqObj "list" (f ⟨xs⟩) e):=⟨_,get?_update_seq h f⟩;rw[hf] at he;exact⟨(),rfl,S.No (B1 ..) he ⟨⟨λYa=>0,λYa=>0,e,⟨[]⟩⟩,rfl⟩⟩
theorem Z_{l:Nat}{xs:Ak}:AC C A (A7 (J l)) [AE l xs] (λYa:Unit=>⟨xs⟩) (λYa=>[AE l xs]):=λR s S=>by
 obtain⟨g,h⟩:=S.Dj;exact CR h rfl ⟨(),rfl,S⟩
end
section
variable{B:Bx}{A:AL}
structure X2(B:Bx)(A:AL)(vs:Ak)(q:Addr)(T:Value)(lt:Nat->Nat->Bool) where
 S:Nat->Type
 G: ∀j,S j->AN
 ks: ∀j,S j->Ak
 len: ∀j σ,(ks j σ).length=j
 call: ∀j v,vs[j]? =some v-> ∀σ:S j,AC B.C A (call (.ref q) [v]) (G j σ) (λp:{y:S (j+1)×Value//ks (j+1) y.1=ks j σ++[y.2]}=>p.1.2) (λp=>G (j+1) p.1.1)
 typ: ∀(σ:S vs.length) v,v∈ks _ σ-> ∀R s,St B.C (G _ σ++R) s->Looks B.C.M s.heap (J5 v) T
 t1:(T != HN "tuple")=true
 t2:(T==T)=true
 lt: ∀(σ:S vs.length) i j u v,(ks _ σ)[i]? =some u->(ks _ σ)[j]? =some v->AC B.C A (keyLt' Qg u v) (G _ σ) (λYa:Unit=>lt i j) (λYa=>G _ σ)
theorem aJ{keys vs:Ak}{p:Array Nat}(hk:keys.length=vs.length):(p.map (UT ((⟨keys⟩:Bs).zip ⟨vs⟩))).map (·.2)=⟨p.toList.map λi=>vs.getD i .none⟩:=by
 obtain⟨p⟩:=p;simp only[List.map_toArray,CK,Array.mk.injEq];refine CA λi _=>?_;simp only[Il,UT];have hz:((⟨keys⟩:Bs).zip ⟨vs⟩)=⟨keys.zip vs⟩:=by simp
 rw[hz]
 by_cases h:i<vs.length
 ·have h2:i<(keys.zip vs).length:=by rw[I8];lia
  have e1:(⟨keys.zip vs⟩:Array (Value×Value)).getD i (.none,.none)=(keys.zip vs)[i]:=by
   show(if h:i<(keys.zip vs).length then(keys.zip vs)[i] else _)=_
   rw[dif_pos h2]
  rw[e1,LR,Ad,AJ h]
  rfl
 ·have h2: ¬i<(keys.zip vs).length:=by rw[I8];lia
  have e1:(⟨keys.zip vs⟩:Array (Value×Value)).getD i (.none,.none)=(.none,.none):=by simp only[MX,List.size_toArray,h2,dite_false]
  rw[e1,Ad,B7 ADj]
  rfl
theorem jY(O:B.C.Ok)(U:A.handled=none){vs:Ak}(h2:2<=vs.length)(NK:vs.length<64){q:Addr}{T:Value}{lt:Nat->Nat->Bool}(Z:X2 B A vs q T lt)(l:Nat)(σ0:Z.S 0):
 AC B.C A (Builtin.«list.sort» ⟨[J l],[(JO "key",.ref q)]⟩) (AE l vs::Z.G 0 σ0) (λYa:Z.S vs.length=>Az (.ret .none)) (λσ=>AE l (De lt vs)::Z.G _ σ):=by
 rw[ksk_t1];unfold ksk_tree;refine AC.KN (v:=⟨vs⟩) (Z_.frame (Z.G 0 σ0)) ?_;refine AC.bind ((T6 (ys:=[]) ADj ADn rfl).frame (Z.G 0 σ0)) λYa=>?_
 refine AC.yg (l:=l) (xs:=[]) (L:=Z.G 0 σ0) λe=>?_;refine AC.bind (res:=λYa:Unit=>e) (led:=λYa=>Jg l [] e::Z.G 0 σ0) (λR s S=>?_) λYa=>?_
 ·obtain⟨g,h⟩:=S.Dj
  exact seqEpoch_at h rfl ⟨(),rfl,S⟩
 refine AC.bind (res:=λt:Value=>t) (led:=λYa=>Jg l [] e::Z.G 0 σ0) (aA (xs:=vs) _ ADj) λt=>?_
 refine AC.bind (res:=λk:Nat=>J k) (led:=λk=>AE k []::Jg l [] e::Z.G 0 σ0) ((Ga (L:=[]) (X:=Nat) (res:=λt:Nat=>J t) (led:=λk=>[AE k []]) O U (.al λt=>.fi t [0]) ADk).frame (Jg l [] e::Z.G 0 σ0)) λk=>?_
 refine AC.hold ?_;unfold ksk_rest;refine λR s S=>AB (Eo ?_);rw[<-Array.forIn_toList];refine AB (ksk_fold (λi s'=> ∃σ:Z.S i,St B.C ((AE k (Z.ks i σ)::Jg l [] e::Z.G i σ)++R) s') vs 0 s ⟨σ0,?_⟩ (λj x s' hx hI=>?_) λs' hI=>?_)
 ·have:Z.ks 0 σ0=[]:=List.length_eq_zero_iff.mp (Z.len 0 σ0)
  rw[this];exact S
 ·rw[FH] at hI⊢
  obtain⟨σ,S⟩:=hI;have hj:j<vs.length:=(List.getElem?_eq_some_iff.mp hx).1;have S1:St B.C (Z.G j σ++(AE k (Z.ks j σ)::Jg l [] e::R)) s':=S.perm (by
   show(AE k (Z.ks j σ)::Jg l [] e::(Z.G j σ++R)).Perm _
   exact(BY _ List.perm_middle.symm).trans List.perm_middle.symm)
  refine AB (O1 (Av (Z.call j x hx σ _ s' S1) (λv xX hv=>?_) λYa Ya hF=>hF.elim));obtain⟨⟨⟨σ',u⟩,hu⟩,rfl,S2⟩:=hv
  dsimp only at hu S2⊢
  have S3:St B.C ([AE k (Z.ks j σ)]++(Jg l [] e::Z.G (j+1) σ'++R)) xX:=S2.perm (by
   show(Z.G (j+1) σ'++(AE k (Z.ks j σ)::Jg l [] e::R)).Perm (AE k (Z.ks j σ)::Jg l [] e::(Z.G (j+1) σ'++R))
   exact List.perm_middle.trans (BY _ BH))
  have hlen:=Z.len j σ;refine AB (AC.wp (T6 (ys:=Z.ks j σ++[v]) (f:=(·.push v)) ADj (by rw[AX,CF];lia) ADn) S3 λYa s3 S4=>?_)
  refine AP ⟨rfl,σ',?_⟩;rw[hu];exact S4
 ·rw[FH] at hI
  obtain⟨σ,S⟩:=hI;refine AB (AC.wp Z_ S λYa s1 S1=>?_);have hlen:=Z.len _ σ;unfold ksk_end
  dsimp only
  rw[if_neg BP,if_neg (show¬(⟨vs⟩:Bs).size<2 by simp;lia),if_neg (show¬(⟨vs⟩:Bs).size<2 by simp;lia),if_neg BP]
  have x3:St B.C (Z.G _ σ++(AE k (Z.ks _ σ)::Jg l [] e::R)) s1:=S1.perm (by
   show(AE k (Z.ks _ σ)::Jg l [] e::(Z.G _ σ++R)).Perm _
   exact(BY _ List.perm_middle.symm).trans List.perm_middle.symm)
  refine AB (kas_kind (vs:=Z.ks _ σ) ADj (λv hv=>Z.typ σ v hv _ s1 x3) Z.t1 Z.t2 ?_)
  have XU:((⟨Z.ks _ σ⟩:Bs).zip ⟨vs⟩).size=vs.length:=by simp;lia
  have Mr:SortSt.mk' Qg ((⟨Z.ks _ σ⟩:Bs).zip ⟨vs⟩) #[] 7 none=kas_st Qg ((⟨Z.ks _ σ⟩:Bs).zip ⟨vs⟩) (List.toArray (Ah vs.length)):=by
   unfold kas_st
   have:=kas_range ((⟨Z.ks _ σ⟩:Bs).zip ⟨vs⟩)
   rw[XU] at this;rw[this]
  rw[Mr];have XT:0<vs.length:=by lia
  have zX:=kas_runs (prog:=B.C.prog) (w:=B.C.w) (A:=A) (E:=λYa Ya=>False) (κ:=Qg) (it:=(⟨Z.ks _ σ⟩:Bs).zip ⟨vs⟩) (n:=vs.length) (s:=s1)
   (Q:=λYa VE s'=>failedOf VE=none/\(arrOf VE).map (·.2)=⟨De lt vs⟩/\(arrOf VE).size=vs.length/\St B.C (Z.G _ σ++(AE k (Z.ks _ σ)::Jg l [] e::R)) s')
   (G:=λp s'=>p=Rh lt (kas_sort vs.length)/\St B.C (Z.G _ σ++(AE k (Z.ks _ σ)::Jg l [] e::R)) s') h2 NK
   (λp' VE s' hp ha hf ⟨hk,hS⟩=>⟨hf,by rw[ha,aJ hlen,hk];rfl,by rw[ha,Array.size_map,hp],hS⟩)
   (Vt (n:=vs.length) (lt:=lt) (I:=λs'=>St B.C (Z.G _ σ++(AE k (Z.ks _ σ)::Jg l [] e::R)) s') (λi j hi hj D s3 hS hD=>?_) (Zl XT) s1 x3 (λs' hS=>⟨rfl,hS⟩))
  ·refine AB (Av zX (λr s' hr=>?_) λYa Ya h=>h.elim)
   obtain⟨⟨⟩,VE⟩:=r;obtain⟨hf,hm,Is,hS⟩:=hr
   dsimp only at hf hm Is hS⊢
   unfold ksk_tail
   dsimp only
   have zK:(De lt vs).length=vs.length:=by
    have:((arrOf VE).map (·.2)).size=vs.length:=by rw[Array.size_map,Is]
    rw[hm] at this;exact this
   have S4:St B.C ([AE k (Z.ks _ σ)]++(Jg l [] e::Z.G _ σ++R)) s':=hS.perm (by
    show(Z.G _ σ++(AE k (Z.ks _ σ)::Jg l [] e::R)).Perm (AE k (Z.ks _ σ)::Jg l [] e::(Z.G _ σ++R))
    exact List.perm_middle.trans (BY _ BH))
   refine AB (AC.wp (T6 (ys:=[]) ADj ADn rfl) S4 λYa s5 S5=>?_)
   refine AB (Rz ?_);have S6:St B.C ([Jg l [] e]++(AE k []::Z.G _ σ++R)) s5:=S5.perm (by
    show(AE k []::Jg l [] e::(Z.G _ σ++R)).Perm (Jg l [] e::AE k []::(Z.G _ σ++R))
    exact Ae _ _ _)
   obtain⟨g6,h6⟩:=S6.Dj;refine AB (seqEpoch_at h6 rfl ?_);rw[hm];refine AB (AC.wp (jU (ys:=De lt vs) ADn ADj rfl) S6 λYa s7 S7=>?_)
   rw[hf];refine iN ADn ?_
   refine AP ⟨σ,rfl,?_⟩;have S8:St B.C ((AE l (De lt vs)::Z.G _ σ++R)++[AE k []]) s7:=S7.perm (by
    show(AE l (De lt vs)::AE k []::(Z.G _ σ++R)).Perm (AE l (De lt vs)::((Z.G _ σ++R)++[AE k []]))
    exact BY _ (A9 (l₁:=[AE k []])))
   exact S8.drop
  ·have Ta:i<(Z.ks _ σ).length:=by lia
   have u7:j<(Z.ks _ σ).length:=by lia
   have mV: ∀i (h:i<(Z.ks _ σ).length),(UT ((⟨Z.ks _ σ⟩:Bs).zip ⟨vs⟩) i).1=(Z.ks _ σ)[i]:=λi h=>by
    have hz:((⟨Z.ks _ σ⟩:Bs).zip ⟨vs⟩)=⟨(Z.ks _ σ).zip vs⟩:=by simp
    have h2:i<((Z.ks _ σ).zip vs).length:=by rw[I8];lia
    unfold UT;rw[hz];have e1:(⟨(Z.ks _ σ).zip vs⟩:Array (Value×Value)).getD i (.none,.none)=((Z.ks _ σ).zip vs)[i]:=by
     show(if h:i<((Z.ks _ σ).zip vs).length then((Z.ks _ σ).zip vs)[i] else _)=_
     rw[dif_pos h2]
    rw[e1,LR]
   unfold kas_cmp;rw[mV i Ta,mV j u7];refine AC.wp (Z.lt σ i j _ _ (AJ Ta) (AJ u7)) hS λYa s' hS'=>?_;exact hD s' hS'
end
def OB:Str:=Bl [107,101,121]
include O
theorem am(U:AA 10 A)(cd w:Nat):
 AS B A (Dc (Cj (HS B) Bk cd) ⟨[J w],[]⟩) [] (([(Hr,J w)]:BC)) []:=
 rn O U (.fi () [])
theorem ZT(U:AA 10 A)(k cd w:Nat):
 AC B.C A (FP (Cj (HS B) Bk cd).scope (Cj (HS B) Bk cd).globals (Cj (HS B) Bk cd).closure [(Hr,J w)] ((Cj (HS B) Bk cd).qualname++".<locals>.") (some (k+323)) (Cj (HS B) Bk cd).code none (Cj (HS B) Bk cd).builtins) []
  (λa:Nat=>Oi (Cj (HS B) Bk cd) (k+323) [] (a+323))
  (λa=>[AI a [(Hr,J w)]]):=
 rn O U (.al λa0=>.fr λk1=>.g 6145<|.fi (a0) [0])
theorem bG(U:AA 20 A)(k cd w L i u:Nat)(xs:Aa)(h1:xs.length<=1000)(hx:xs[1]? =some (i,u)):
 AS B A (Bf (QD (HS B)) (Oi (Cj (HS B) Bk cd) (k+323) [] (L+323))) [AI L [(Hr,J w)],AF w xs] (Be (i:Int) u) [AF w xs]:=Jj O U (.g 65<|.fr λk0=>.g 270466<|.cc (Ci _ _ O U.l w 1 k0 i u xs hx h1) [1] λYa=>.fi () [0])
def gU(U:AA 22 A)(k cd w i u:Nat)(x:Fc)(xs:Aa)(h1:xs.length<=1000)(hx:xs[1]? =some (i,u)):Ag B.C A where
 c:=.call (J k) ⟨[J w],[]⟩
 F:=[Hm k (HS B) Bk cd,EA cd CH Bk x,AF w xs]
 X:=Unit
 res:=λYa=>.ok (.ret (.int (i:Int) u))
 led:=λYa=>[Hm k (HS B) Bk cd,EA cd CH Bk x,AF w xs]
 ok:=(N4 O (n:=21) U (fd:=Cj (HS B) Bk cd) (body:=QD (HS B)) rfl ADk ADk (M4.of (n:=CH) (x:=x) (ix1:=[0]) (ix2:=[1]) rfl rfl rfl rfl)
  ((am O U.l.in1 cd w).frame _) (λR s S=>(ZT O U.l.in1 k cd w).frame [Hm k (HS B) Bk cd,EA cd CH Bk x,AF w xs] R s S)
  (λL=>((bG O (AA.deeper U.l) k cd w L i u xs h1 hx).frame [Hm k (HS B) Bk cd,EA cd CH Bk x]).ix [0,2,0,0] rfl|>.ox [1,1,0] λYa=>rfl)).call
structure IE where
 a:Nat
 ys:Aa
abbrev IE.v(e:IE):Value:=J e.a
abbrev IE.p(e:IE):Addr×AO:=(e.a+323,.ls (.type "list") none (e.ys.map iv))
abbrev K5(es:List IE):F6:=es.map IE.p
abbrev BU(es:List IE):Bi:=.many (K5 es)
omit O
theorem AC.flat{C:Cx}{A:AL}{α:Type}{t:Sem α}{F F':AN}{v:α}(h:AC C A t F (λYa:Unit=>v) (λYa=>F))(p:(Ao F).Perm (Ao F')):AC C A t F' (λYa:Unit=>v) (λYa=>F'):=λR s S=>
 Av (h R s (S.BV (by rw[An,An];exact p.symm.append_right _))) (λYa s' ⟨x,e,S'⟩=>⟨x,e,S'.BV (by rw[An,An];exact p.append_right _)⟩) λYa Ya q=>q
theorem IU{α:Type}{l:List α}{i:Nat}{a:α}(h:l[i]? =some a):l.Perm (a::(l.take i++l.drop (i+1))):=by
 obtain⟨hi,rfl⟩:=List.getElem?_eq_some_iff.mp h;have e:l=l.take i++l[i]::l.drop (i+1):=by rw[H0,CQ]
 exact(List.Perm.of_eq e).trans BH
theorem iy{α:Type}{l:List α}{i j:Nat}{b:α}(g:l[j]? =some b)(iM:i≠j):b∈l.take i++l.drop (i+1):=by
 refine List.mem_append.mpr ?_
 by_cases c:j<i
 ·exact .inl (B4 (i:=j) (by rw[List.getElem?_take_of_lt c];exact g))
 ·exact .inr (B4 (i:=j-(i+1)) (by rw[Jx,show i+1+(j-(i+1))=j by lia];exact g))
theorem PO{α:Type}{l:List α}{i j:Nat}{a b:α}(h:l[i]? =some a)(g:l[j]? =some b)(iM:i≠j): ∃r,l.Perm (a::b::r):=by
 obtain⟨k,hk⟩:=List.mem_iff_getElem?.mp (iy g iM);exact⟨_,(IU h).trans ((IU hk).cons _)⟩
noncomputable def IE.snd(e:IE):Nat:=(e.ys.getD 1 (0,0)).1
abbrev DO(ws:List IE)(i:Nat):Nat:=match ws[i]? with|some e=>e.snd|none=>0
abbrev Ft(ws:List IE)(i:Nat):Ay:=match ws[i]? with|some e=>ns (e.ys.drop 1)|none=>[]
theorem UF{α β:Type}(f:α->β){l:List α}{j:Nat}{a:α}(h:l[j]? =some a):(l.take (j+1)).map f=(l.take j).map f++[f a]:=by
 rw[FF,h];simp
theorem Vj{α:Type}{l:List α}{n i:Nat}{a:α}(h:(l.take n)[i]? =some a):l[i]? =some a:=by
 rw[List.getElem?_take] at h
 split at h
 ·exact h
 ·cases h
section
variable{B:Bx}{A:AL}
def nC(O:B.C.Ok)(U:AA 30 A)(k cd:Nat)(x:Fc)(ws:List IE)(hw: ∀e∈ws,e.ys.length<=1000/\2<=e.ys.length):
 X2 B A (ws.map IE.v) (k+323) (.type "int") (λi j=>decide (DO ws i<DO ws j)) where
 S j:={_u:Unit//j<=ws.length}
 G _ _:=[Hm k (HS B) Bk cd,EA cd CH Bk x,BU ws]
 ks j _:=(ws.take j).map λe=>iv (e.ys.getD 1 (0,0))
 len j σ:=by rw[AD,C5];have:=σ.2;lia
 call j v hv σ:=by
  rw[AQ] at hv;obtain⟨e,he,rfl⟩:=Option.map_eq_some_iff.mp hv;have hj:j<ws.length:=(List.getElem?_eq_some_iff.mp he).1;obtain⟨h1,h2⟩:=hw e (B4 he);have hx:e.ys[1]? =some ((e.ys.getD 1 (0,0)).1,(e.ys.getD 1 (0,0)).2):=by
   rw[Ad,AJ (ADj:1<e.ys.length)];rfl
  have hr:=(LH (gU O U.l k cd e.a _ _ x e.ys h1 hx).ok).frame [.many ((K5 ws).take j++(K5 ws).drop (j+1))];have dM:=AC.flat (F':=[Hm k (HS B) Bk cd,EA cd CH Bk x,BU ws]) hr (by
   show((k+323,_)::(cd+323,_)::e.p::((K5 ws).take j++(K5 ws).drop (j+1)++[])).Perm ((k+323,_)::(cd+323,_)::(K5 ws++[]))
   rw[Aj,Aj]
   exact((IU (l:=K5 ws) (i:=j) (a:=e.p) (by unfold K5;rw[AQ,he];rfl)).symm.cons _).cons _)
  exact dM.weaken λYa=>⟨⟨(⟨(),by lia⟩,iv (e.ys.getD 1 (0,0))),by show(ws.take (j+1)).map _=_;exact UF _ he⟩,rfl,λR s S=>S⟩
 typ σ v hv R s S:=by
  obtain⟨e,_,rfl⟩:=List.mem_map.mp hv;exact Looks.of_pure rfl
 t1:=by decide+kernel
 t2:=by decide+kernel
 lt σ i j u v hu hv:=by
  rw[AQ] at hu hv;obtain⟨e1,h1,rfl⟩:=Option.map_eq_some_iff.mp hu;obtain⟨e2,h2,rfl⟩:=Option.map_eq_some_iff.mp hv;have g1:ws[i]? =some e1:=Vj h1;have g2:ws[j]? =some e2:=Vj h2;have es:decide (DO ws i<DO ws j)=decide (((e1.snd:Nat):Int)<((e2.snd:Nat):Int)):=by
   unfold DO;rw[g1,g2];simp
  rw[es];intro R s S;rw[keyLt'_oneType];exact oneLt_int ⟨(),rfl,S⟩
abbrev ic(a:Nat)(p:Nat×Nat)(e:IE):Addr×AO:=(p.1+323,.ex ⟨J a,some (p.2+323),.plain,⟨[some e.v]⟩⟩)
abbrev Ms(a:Nat)(is:Aa)(ws:List IE):F6:=(is.zip ws).map λx=>ic a x.1 x.2
theorem ib{a:Nat}{is:Aa}{ws:List IE}{p:Nat×Nat}{e:IE}(h:ws[is.length]? =some e):Ms a (is++[p]) ws=Ms a is ws++[ic a p e]:=by
 obtain⟨hi,rfl⟩:=List.getElem?_eq_some_iff.mp h;have e1:ws=ws.take is.length++ws[is.length]::ws.drop (is.length+1):=by rw[H0,CQ]
 have e2:(is++[p]).zip ws=is.zip ws++[(p,ws[is.length])]:=by
  have l1:is.length=(ws.take is.length).length:=by rw[C5];lia
  have a1:is.zip ws=is.zip (ws.take is.length):=by
   conv=>lhs;rw[e1]
   have:=List.zip_append (l₁:=is) (r₁:=[]) (l₂:=ws.take is.length) (r₂:=ws[is.length]::ws.drop (is.length+1)) l1
   rw[Aj] at this;rw[this];simp
  rw[a1]
  conv=>lhs;rw[e1]
  have:=List.zip_append (l₁:=is) (r₁:=[p]) (l₂:=ws.take is.length) (r₂:=ws[is.length]::ws.drop (is.length+1)) l1
  rw[this];rfl
 unfold Ms;rw[e2,AZ];rfl
theorem T4(O:B.C.Ok)(U:AA 64 A){o p:Nat}{F:AN}{b:Bool}(h:AC B.C A (Gs (J o) KL [J p]) F (λYa:Unit=>some (HM b)) (λYa=>F)):
 AC B.C A (keyLt' Qg (J o) (J p)) F (λYa:Unit=>b) (λYa=>F):=by
 rw[keyLt'_oneType,oneLt'_eq];simp only[if_true];refine AC.room (AA.units U) ?_;refine AC.KN (t:=Gs _ _ _) (v:=some (HM b)) h ?_;exact λR s S=>Qi ⟨(),rfl,S⟩
theorem i7{α:Type}{K m l r1 r2:List α}{a b:α}(h1:m.Perm (a::r1))(h2:l.Perm (b::r2)):(a::b::(K++(r1++r2))).Perm (K++(l++m)):=by
 refine .symm (((h2.append h1).append_left K).trans ?_)
 refine((BH (l₁:=b::r2)).append_left K).trans ?_
 refine List.perm_middle.trans (.cons _ ?_);refine List.perm_middle.trans (.cons _ ?_);exact List.perm_append_comm.append_left K
theorem i8{α:Type}{K m l r1 r2:List α}{a b c d:α}(h1:m.Perm (a::b::r1))(h2:l.Perm (c::d::r2)):(a::b::c::d::(K++(r1++r2))).Perm (K++(l++m)):=by
 refine .symm (((h2.append h1).append_left K).trans ?_)
 refine(((BH (l₁:=c::d::r2)).trans (.cons _ (BH (l₁:=c::d::r2)))).append_left K).trans ?_
 refine List.perm_middle.trans (.cons _ ?_);refine List.perm_middle.trans (.cons _ ?_);refine List.perm_middle.trans (.cons _ ?_);refine List.perm_middle.trans (.cons _ ?_);exact List.perm_append_comm.append_left K
abbrev kkG(B:Bx)(q:KZ)(ws:List IE)(is:Aa):AN:=CX B q++[BU ws,.many (Ms q.z.x.a is ws)]
def vX(O:B.C.Ok)(U:AA 70 A)(q:KZ)(ws:List IE)(hw: ∀e∈ws,e.ys.length<=1000):
 X2 B A (ws.map IE.v) (q.z.x.a+323) (J q.z.x.a) (λi j=>decide (EY (Ft ws i) (Ft ws j)<0)) where
 S j:={is:Aa//is.length=j/\j<=ws.length}
 G _ σ:=kkG B q ws σ.1
 ks _ σ:=σ.1.map λp=>J p.1
 len j σ:=by rw[AD];exact σ.2.1
 call j v hv σ:=by
  rw[AQ] at hv;obtain⟨e,he,rfl⟩:=Option.map_eq_some_iff.mp hv;have hj:j<ws.length:=(List.getElem?_eq_some_iff.mp he).1;have hs:ws[σ.1.length]? =some e:=by rw[σ.2.1];exact he
  refine AC.weaken ((LH (uB O U.l e.a q).ok).frame [BU ws,.many (Ms q.z.x.a σ.1 ws)]) λ(p:Nat×Nat)=>⟨⟨(⟨σ.1++[p],by rw[AX,CF,σ.2.1],by lia⟩,J p.1),by rw[AZ];rfl⟩,rfl,λR s S=>?_⟩
  refine S.BV ?_
  show(Ao ((Dd p.1 q.z.x.a p.2 [some e.v]::CX B q++[BU ws,.many (Ms q.z.x.a σ.1 ws)])++R)).Perm (Ao ((CX B q++[BU ws,.many (Ms q.z.x.a (σ.1++[p]) ws)])++R))
  rw[ib hs]
  generalize CX B q=K
  simp only[An,Ao,Bi.flat,A5,Aj,AG,Al];refine List.perm_middle.symm.trans (CP _ ?_);refine List.perm_middle.symm.trans (CP _ ?_);exact List.perm_middle.symm
 typ σ v hv R s S:=by
  obtain⟨p,hp,rfl⟩:=List.mem_map.mp hv;obtain⟨i,hi,rfl⟩:=List.mem_iff_getElem.mp hp;have hlen:σ.1.length=ws.length:=σ.2.1.trans (AD _);have u4:i<ws.length:=by lia
  have hm:ic q.z.x.a σ.1[i] ws[i]∈Ms q.z.x.a σ.1 ws:=List.mem_map.mpr ⟨(σ.1[i],ws[i]),by
   refine List.mem_iff_getElem.mpr ⟨i,by rw[I8];lia,by rw[LR]⟩,rfl⟩
  obtain⟨g,hg⟩:=S.c7 (e:=.many (Ms q.z.x.a σ.1 ws)) (Ar _ (Ax _ (.tail _ (.head _)))) (p:=ic q.z.x.a σ.1[i] ws[i]) hm;exact looks_typeIn (K:=[(σ.1[i].1+323,_)]) (λa o ho=>by
   by_cases c:a=σ.1[i].1+323
   ·subst c;rw[M1] at ho;cases ho;exact hg
   ·have:(a==σ.1[i].1+323)=false:=by simpa using c
    simp only[List.lookup_cons,this] at ho;cases ho) (by show(List.lookup _ _).map _=_;rw[M1];rfl)
 t1:=rfl
 t2:=by simp
 lt σ i j u v hu hv:=by
  rw[AQ] at hu hv;obtain⟨⟨o,d⟩,h1,rfl⟩:=Option.map_eq_some_iff.mp hu;obtain⟨⟨p,d2⟩,h2,rfl⟩:=Option.map_eq_some_iff.mp hv;have l1:=(List.getElem?_eq_some_iff.mp h1).1;have l2:=(List.getElem?_eq_some_iff.mp h2).1;have hlen:σ.1.length=ws.length:=σ.2.1.trans (AD _);have g1:ws[i]? =some ws[i]:=AJ ADj
  have g2:ws[j]? =some ws[j]:=AJ ADj
  have es:decide (EY (Ft ws i) (Ft ws j)<0)=decide (EY (ns ((ws[i]'ADj).ys.drop 1)) (ns ((ws[j]'ADj).ys.drop 1))<0):=by
   unfold Ft;rw[g1,g2]
  rw[es];have b1:=hw _ (B4 g1);have m1:(Ms q.z.x.a σ.1 ws)[i]? =some (ic q.z.x.a (o,d) ws[i]):=by
   unfold Ms;rw[AQ,(J7 (z:=((o,d),ws[i]))).mpr ⟨h1,g1⟩];rfl
  have m2:(Ms q.z.x.a σ.1 ws)[j]? =some (ic q.z.x.a (p,d2) ws[j]):=by
   unfold Ms;rw[AQ,(J7 (z:=((p,d2),ws[j]))).mpr ⟨h2,g2⟩];rfl
  have n1:(K5 ws)[i]? =some (ws[i]'ADj).p:=by unfold K5;rw[AQ,g1];rfl
  have n2:(K5 ws)[j]? =some (ws[j]'ADj).p:=by unfold K5;rw[AQ,g2];rfl
  by_cases c:i=j
  ·subst c
   rw[h1] at h2;cases h2;have q1:=IU m1;have q2:=IU n1;refine AC.flat (T4 O U.l ((jq O U.l o (ws[i]'ADj).a d q (ws[i]'ADj).ys b1).frame [.many ((Ms q.z.x.a σ.1 ws).take i++(Ms q.z.x.a σ.1 ws).drop (i+1)),.many ((K5 ws).take i++(K5 ws).drop (i+1))])) ?_
   have:=i7 (K:=Ao (CX B q)) q1 q2
   simp only[An,Ao,Bi.flat,A5,Aj,AG,Al] at this⊢;exact this
  ·obtain⟨r1,q1⟩:=PO m1 m2 c
   obtain⟨r2,q2⟩:=PO n1 n2 c;refine AC.flat (T4 O U.l ((pd O U.l o p (ws[i]'ADj).a (ws[j]'ADj).a d d2 q (ws[i]'ADj).ys (ws[j]'ADj).ys b1 (hw _ (B4 g2))).frame [.many r1,.many r2])) ?_
   have:=i8 (K:=Ao (CX B q)) q1 q2
   simp only[An,Ao,Bi.flat,A5,Aj,AG,Al] at this⊢;exact this
end
include O
theorem bQ(U:AA 4 A)(l:Nat)(q:Addr)(vs:Ak):
 AS B A (AU "list.sort" ⟨[J l],[(OB,.ref q)]⟩) [AE l vs] () [AE l vs]:=
 by apply Hc O U (.g 65<|.fi () [0])
theorem YU(U:AA 4 A)(t:Nat)(q:Addr)(vs:Ak):
 AS B A (AU "sorted" ⟨[J t],[(OB,.ref q)]⟩) [AE t vs] () [AE t vs]:=
 by apply Hc O U (.fi () [0])
theorem r6(U:AA 8 A)(t:Nat)(vs:Ak)(hy:vs.length<=1000):
 AS B A (collect (J t)) [AE t vs] vs [AE t vs]:=
 rn O U (.cc (Kl O U.l t vs hy) [0] λYa=>.g 65<|.fi () [1])
omit O
theorem jX{C:Cx}(O:C.Ok){A:AL}(hz:323<=C.s₁.heap.objs.size)(vs:Ak)(hv:vs.length<=1000):AC C A (SY vs) [] (λl:Nat=>J l) (λl=>[AE l vs]):=λR s S=>wpAny_newList (by
 have S1:=S.alloc (o:={cls:=.type "list",data:=.seq vs.toArray}) (ao:=.ls (.type "list") none vs) rfl ⟨G0,rfl⟩;have e:s.heap.objs.size=(s.heap.objs.size-323)+323:=by have:=S.size;lia
 rw[e] at S1;exact⟨s.heap.objs.size-323,congrArg CC e,S1⟩) (by rw[Br];lia)
theorem cg:C1 FZ "list.sort"=some Builtin.«list.sort»:=B2 ADk
theorem ZO:C1 FZ "sorted"=some PV:=B2 ADk
section
variable{B:Bx}{A:AL}
theorem Uj(O:B.C.Ok)(U:AA 6 A){vs:Ak}(h2:2<=vs.length)(NK:vs.length<64){q:Addr}{T:Value}{lt:Nat->Nat->Bool}(Z:X2 B A.in1 vs q T lt)(l:Nat)(σ0:Z.S 0):
 Bv B.C A (.call (.builtin "list.sort") ⟨[J l],[(OB,.ref q)]⟩) (AE l vs::Z.G 0 σ0) (λYa:Z.S vs.length=>.ok (.ret .none)) (λσ=>AE l (De lt vs)::Z.G _ σ):=
 BF ADl cg ((bQ O U.l.in1 l q vs).frame (Z.G 0 σ0)) (jY O (U.le (ADm:4+1<=6)).in1.1 h2 NK Z l σ0)
theorem M_(O:B.C.Ok)(U:AA 20 A){vs:Ak}(h2:2<=vs.length)(NK:vs.length<64){q:Addr}{T:Value}{lt:Nat->Nat->Bool}(Z:X2 B A.in1.in1 vs q T lt)(t:Nat)(σ0:Z.S 0):
 Bv B.C A (.call (.builtin "sorted") ⟨[J t],[(OB,.ref q)]⟩) (AE t vs::Z.G 0 σ0) (λx:Nat×Z.S vs.length=>.ok (.ret (J x.1))) (λx=>AE x.1 (De lt vs)::AE t vs::Z.G _ x.2):=by
 refine BF ADl ZO ((YU O U.l.in1 t q vs).frame (Z.G 0 σ0)) ?_
 have yn:=(U.le (ADm:18+1<=20)).in1
 unfold PV;refine AC.KN (t:=checkCount _ _ _ _) (v:=()) (λR s S=>AP ⟨(),rfl,S⟩) ?_;refine AC.KN (t:=collect _) (v:=vs) ((r6 O (yn.le (ADj:8<=18)) t vs ADj).frame (Z.G 0 σ0)) ?_
 refine AC.bind (res:=λl:Nat=>J l) (led:=λl=>AE l vs::AE t vs::Z.G 0 σ0) ((jX O O.size vs ADj).frame (AE t vs::Z.G 0 σ0)) λl=>?_
 refine AC.bind (res:=λYa:Z.S vs.length=>CU) (led:=λσ=>AE l (De lt vs)::AE t vs::Z.G _ σ) (AC.hold ?_) λσ=>AC.ret (l,σ) rfl rfl
 refine((LH (Uj O (yn.le (ADj:6<=18)) h2 NK Z l σ0)).frame [AE t vs]).pre (λR s S=>?_)|>.post λσ R s S=>?_
 ·refine S.perm ?_
  show(AE l vs::AE t vs::(Z.G 0 σ0++R)).Perm (AE l vs::(Z.G 0 σ0++[AE t vs])++R)
  rw[A5,AG]
  exact(BY _ List.perm_middle.symm)
 ·refine S.perm ?_
  show(AE l (De lt vs)::(Z.G _ σ++[AE t vs])++R).Perm (AE l (De lt vs)::AE t vs::(Z.G _ σ++R))
  rw[A5,AG]
  exact(BY _ BH)
end
include O
theorem ah(U:AA 1 A)(k:Nat):
 AS B A (Pk B 211 [J k]) [] (([(CE,J k)]:BC)) []:=
 rn O U (.fi () [])
theorem ZP(U:AA 1 A)(k:Nat):
 AC B.C A (OO B 211 [(CE,J k)]) []
  (λq:Nat×Nat=>AR B.P 211 [(CE,q.2+323)] (q.1+323))
  (λq=>[AI q.1 [],AW (q.2) (J k)]):=
 rn O U (.al λa0=>.al λa1=>.g 6145<|.fi (a0,a1) [1,0])
theorem a_(U:AA 62 A)(L c k:Nat):AC B.C A (Ac (A4 B.P 211) (Sn B L c)) (YZ L c k) (λz:KX=>.ret (J z.x.a)) (λz=>QC B c k z):=by
 have hr:=λL c v=>qf O U.l L c v;rw[qR] at hr⊢;refine AC.step (AC.one (qn O U.l L c k _)) λz=>?_;exact AC.weaken (((hr L c (J z.x.a)).frame (QC B c k z)).pre λR s S=>S.perm (by
  show((QC B c k z++[AI L [(vK,J z.x.a)]])++R).Perm (([AI L [(vK,J z.x.a)]]++QC B c k z)++R)
  exact A8 R A9)) λYa=>⟨z,rfl,λR s S=>S⟩
def gH(U:AA 66 A)(k:Nat):Ag B.C A where
 c:=.call (.ref 211) ⟨[J k],[]⟩
 F:=[Yb []]
 X:=KX×Nat
 res:=λz=>.ok (.ret (J z.1.x.a))
 led:=λz=>QC B z.2 k z.1
 ok:=(Dm O (n:=65) U ADk ((ah O U.l.in1 k).frame _) (λR s S=>(ZP O U.l.in1 k).frame [Yb []] R s S)
  (val:=λz:KX×Nat=>J z.1.x.a) (led:=λz=>QC B z.2 k z.1)
  (λp=>BK (fl:=λz:KX×Nat=>.ret (J z.1.x.a)) (AC.weaken (a_ O (AA.deeper U.l) p.1 p.2 k) λz=>⟨(z,p.2),rfl,λR s S=>S⟩)))
def GF(_:Bx):Expr:=el (vE (sN 22 0)) 0
def Bw:Str:=Bl [95,108,97,119,95,98,101,103,105,110,115,46,60,108,111,99,97,108,115,62,46,60,108,97,109,98,100,97,62]
theorem ap(U:AA 10 A)(cd w tk:Nat)(x:Str):
 AS B A (Dc (Cj (GF B) Bw cd) ⟨[J w,.str x tk],[]⟩) [] (([(E_,J w),(Xy,.str x tk)]:BC)) []:=
 rn O U (.fi () [])
theorem ZU(U:AA 10 A)(k cd w tk:Nat)(x:Str):
 AC B.C A (FP (Cj (GF B) Bw cd).scope (Cj (GF B) Bw cd).globals (Cj (GF B) Bw cd).closure [(E_,J w),(Xy,.str x tk)] ((Cj (GF B) Bw cd).qualname++".<locals>.") (some (k+323)) (Cj (GF B) Bw cd).code none (Cj (GF B) Bw cd).builtins) []
  (λa:Nat=>Oi (Cj (GF B) Bw cd) (k+323) [] (a+323))
  (λa=>[AI a [(E_,J w),(Xy,.str x tk)]]):=
 rn O U (.al λa0=>.fr λk1=>.g 6145<|.fr λk2=>.g 6145<|.fi (a0) [0])
theorem bH(U:AA 20 A)(k cd w tk L i u:Nat)(x:Str)(xs:Aa)(h1:(xs.map iv).length<=1000)(hx:(xs.map iv).getLast?=some (.int (i:Int) u)):
 AC B.C A (Bf (QD (GF B)) (Oi (Cj (GF B) Bw cd) (k+323) [] (L+323))) [AI L [(E_,J w),(Xy,.str x tk)],AF w xs]
  (λq:Nat×Nat=>J q.1)
  (λq=>[AE q.1 (xs.map iv++[.int ((i+x.cps.toList.count 32:Nat):Int) q.2]),AF w xs]):=Jj O U (.g 4161<|.fr λk0=>.cc (HB O U.l k0) [] λ(y1:Nat)=>.g 270466<|.cc (JH _ _ O U.l w y1 (B0 iv xs) (.int (↑i) u) hx h1) [1] λYa=>.g 66<|.fr λk3=>.cc (Y4 O U.l x tk k3) [] λ(y4:Nat)=>.cc (GA _ _ O U.l i (List.count 32 x.cps.toList) u y4) [] λ(y5:Nat)=>.al λa6=>.g 270402<|.cc (Kw _ _ O U.l w a6 (B0 iv xs) [.int (↑(i+List.count 32 x.cps.toList)) y5] h1 (by first|lia|assumption|simp)) [1,0] λy7=>.fi (y7,y5) [0,0])
def gV(U:AA 22 A)(k cd w tk i u:Nat)(y:Fc)(x:Str)(xs:Aa)(h1:(xs.map iv).length<=1000)(hx:(xs.map iv).getLast?=some (.int (i:Int) u)):Ag B.C A where
 c:=.call (J k) ⟨[J w,.str x tk],[]⟩
 F:=[Hm k (GF B) Bw cd,EA cd CH Bw y,AF w xs]
 X:=Nat×Nat
 res:=λq=>.ok (.ret (J q.1))
 led:=λq=>[AE q.1 (xs.map iv++[Be ((i+x.cps.toList.count 32:Nat):Int) q.2]),Hm k (GF B) Bw cd,EA cd CH Bw y]
 ok:=(N4 O (n:=21) U (fd:=Cj (GF B) Bw cd) (body:=QD (GF B)) rfl ADk ADk (M4.of (n:=CH) (x:=y) (ix1:=[0]) (ix2:=[1]) rfl rfl rfl rfl)
  ((ap O U.l.in1 cd w tk x).frame _) (λR s S=>(ZU O U.l.in1 k cd w tk x).frame [Hm k (GF B) Bw cd,EA cd CH Bw y,AF w xs] R s S)
  (λL=>((bH O (AA.deeper U.l) k cd w tk L i u x xs h1 hx).frame [Hm k (GF B) Bw cd,EA cd CH Bw y]).ix [0,2,0,0] rfl|>.ox [0,1,1] λYa=>rfl)).call
theorem oW(U:AA 26 A)(L c i a f cd w tk n u:Nat)(y:Fc)(x:Str)(xs:Aa)(h1:(xs.map iv).length<=1000)(hx:(xs.map iv).getLast?=some (.int (n:Int) u)):
 AC B.C A (Ac LF (AR B.P 220 [] (L+323))) [AI L (Gw (f+323) c i a (J w) (.str x tk)),Hm f (GF B) Bw cd,EA cd CH Bw y,AF w xs]
  (λq:Nat×Nat=>.next)
  (λq=>[AI L (Gw (f+323) c i a (J q.1) (.str x tk)),AE q.1 (xs.map iv++[.int ((n+x.cps.toList.count 32:Nat):Int) q.2]),Hm f (GF B) Bw cd,EA cd CH Bw y]):=
 D7 O U (.g 17305665<|.cc (gV O U.l f cd w tk n u y x xs h1 hx) [1,1,1] λy0=>.fr λk1=>.g 6340<|.fi (y0) [3,0,0,0])
def EE(cs:Ay)(s:Nat):Ay:=cs.foldl (λl c=>l++[l.getLastD 0+c]) [s]
omit O
theorem ag(cs:Ay)(s c:Nat):EE (cs++[c]) s=EE cs s++[(EE cs s).getLastD 0+c]:=by unfold EE;rw[QX];rfl
theorem kL(cs:Ay): ∀l:Ay,(cs.foldl (λl c=>l++[l.getLastD 0+c]) l).length=l.length+cs.length:=by
 induction cs with
 |nil=>intro l;rfl
 |cons c cs ih=>intro l;rw[C0,ih,AX];simp;lia
theorem VM(cs:Ay)(s:Nat):(EE cs s).length=cs.length+1:=by unfold EE;rw[kL];simp;lia
noncomputable abbrev Fn(ks:Db):Ay:=ks.map λq=>q.1.cps.toList.count 32
structure xr(ks:Db)(s j:Nat) where
 a:Nat
 ys:Aa
 ok:ns ys=EE ((Fn ks).take j) s
theorem rc{ys:Aa}(h:ys≠[]): ∃u,(ys.map iv).getLast?=some (.int (((ns ys).getLastD 0:Nat):Int) u):=by
 refine⟨(ys.getLast h).2,?_⟩;rw[QY,I1 h];show some (Be _ _)=some (Be _ _)
 have:(ns ys).getLastD 0=(ys.getLast h).1:=by
  unfold ns;rw[J8,QY,I1 h];rfl
 rw[this]
include O
theorem Wf(U:AA 32 A)(L f cd x i s k:Nat)(y:Fc)(ks:Db)(CD:ks≠[])(hl:ks.length<=200):
 AC B.C A (Ac (A4 B.P 220) (AR B.P 220 [] (L+323))) ([AI L [(Bg,J f),(Bh,J x),(Bz,J i)],AE x (ks.map rv),AF i [(s,k)]]++[Hm f (GF B) Bw cd,EA cd CH Bw y])
  (λq:xr ks s (ks.map rv).length=>.ret (J q.a)) (λq=>[AE x (ks.map rv)]++[AF q.a q.ys,Hm f (GF B) Bw cd,EA cd CH Bw y]):=by
 refine L6 O (N:=8) U (k:=f+323) (x:=x) (i:=i) (xs:=ks.map rv) (S:=xr ks s) (val:=λYa σ=>.ref (σ.a+323)) (G:=λYa σ=>[AF σ.a σ.ys,Hm f (GF B) Bw cd,EA cd CH Bw y]) (λe he=>?_) (ei:=AF i [(s,k)]) (vi:=.none) ?_ (P:=λYa=>True) (λYa=>trivial) (λa A' B8 _ j e hx σ=>?_) ⟨i,[(s,k)],rfl⟩ rfl rfl (by simpa using CD)
 ·obtain⟨q,_,rfl⟩:=List.mem_map.mp he
  exact .inr ⟨_,_,rfl⟩
 ·have e:=oY O U.l L x (f+323) i (ks.map rv) [iv (s,k)]
  exact e
 ·rw[AQ] at hx
  obtain⟨r,hr,rfl⟩:=Option.map_eq_some_iff.mp hx;have hlen:σ.ys.length<=201:=by
   have:=congrArg C7 σ.ok
   rw[VM,B3,C5] at this;have h2:(Fn ks).length=ks.length:=AD _
   lia
  have hnz:σ.ys≠[]:=λe=>by
   have:=congrArg C7 σ.ok
   rw[VM,B3,e] at this;simp at this
  obtain⟨u,hu⟩:=rc hnz;refine AC.weaken ((oW O (B8.le (ADj:26<=8+22)) L x i a f cd σ.a r.2 _ u y r.1 σ.ys (by rw[AD];lia) hu).ix [0,1,1,0] rfl) λq=>⟨⟨q.1,σ.ys++[((ns σ.ys).getLastD 0+r.1.cps.toList.count 32,q.2)],?_⟩,rfl,λR s S=>?_⟩
  ·rw[Ji,σ.ok]
   have:(Fn ks).take (j+1)=(Fn ks).take j++[r.1.cps.toList.count 32]:=by
    rw[FF];unfold Fn;rw[AQ,hr];rfl
   rw[this,ag];rfl
  ·show St B.C ([AI _ _,AE q.1 ((σ.ys++[_]).map iv),_,_]++R) s
   rw[AZ];exact S
def NF(U:AA 36 A)(f cd x i s0 k:Nat)(y:Fc)(ks:Db)(CD:ks≠[])(hl:ks.length<=200):Ag B.C A where
 c:=.call (.ref 220) ⟨[J f,J x,J i],[]⟩
 F:=[Hm f (GF B) Bw cd,EA cd CH Bw y,AE x (ks.map rv),AE i [Be (s0:Int) k]]
 X:=Gk (EE (Fn ks) s0)
 res:=λq=>.ok (.ret (J q.a))
 led:=λq=>[AF q.a q.ys,AE x (ks.map rv),Hm f (GF B) Bw cd,EA cd CH Bw y]
 ok:=EU O U [(Bg,J f),(Bh,J x),(Bz,J i)] (sb:=.g 64<|.fi () [])
  (λL=>BK (fl:=λq:Gk (EE (Fn ks) s0)=>.ret (J q.a)) (AC.weaken ((Wf O (AA.deeper U.l) L f cd x i s0 k y ks CD hl).ix [0,2,2,0,0] rfl) λq=>⟨⟨q.a,q.ys,by
   refine q.ok.trans ?_;rw[EX (by rw[AD,AD];exact Am _)]⟩,rfl,pk [1,0,0,0] rfl⟩))
noncomputable abbrev pR:Bi:=.one 274 (.ex ⟨.none,none,.fields ⟨[]⟩,⟨[]⟩⟩)
abbrev OQ(cd:Nat):Bi:=.one 274 (.ex ⟨.none,none,.fields ⟨[.int 230 0,.int 18 0,J cd]⟩,⟨[]⟩⟩)
structure aV(l:Ay) where
 a:Nat
 ys:Aa
 ok:ns ys=l
 cd:Nat
 y:Fc
theorem ay(U:AA 40 A)(L x s k cd:Nat)(y:Fc)(ks:Db)(CD:ks≠[])(hl:ks.length<=200):
 AC B.C A (Ac (A4 B.P 279) (AR B.P 279 [] (L+323))) [AI L [(Er,J x),(Cr,.int (s:Int) k)],AE x (ks.map rv),OQ cd,EA cd CH Bw y]
  (λq:Gk (EE (Fn ks) s)=>B6 (J q.a))
  (λq=>[AF q.a q.ys,AE x (ks.map rv),OQ cd,EA cd CH Bw y]):=Ix O U (.g 68719489024<|.al λa0=>.g 4226<|.al λa1=>.g 64<|.cc (NF O U.l a0 cd x a1 s k y ks CD hl) [1,4,2,0] λy2=>.fi (y2) [0,0,3,1])
theorem aw(U:AA 40 A)(L x s k:Nat)(ks:Db)(CD:ks≠[])(hl:ks.length<=200):
 AC B.C A (Ac (A4 B.P 279) (AR B.P 279 [] (L+323))) [AI L [(Er,J x),(Cr,.int (s:Int) k)],AE x (ks.map rv),pR]
  (λ(q:aV (EE (Fn ks) s))=>B6 (J q.a)) (λq=>[AF q.a q.ys,AE x (ks.map rv),OQ q.cd,EA q.cd CH Bw q.y]):=by
 obtain⟨w9,b1,b2,s9,zG,mu9,gn9⟩:=B;cases b1
 ·exact Ga O U.1 (.g 274432<|.fr λk0=>.fr λk1=>.fr λk2=>.al λa3=>.al λa4=>.fr λk5=>.fr λk6=>.al λa7=>.al λa8=>.al λa9=>.fr λH9=>.fr λQB=>.al λIF=>.g 68719516169<|.al λOK=>.g 4616<|.al λUY=>.g 64<|
   .cc (NF O U.l OK IF x UY s k ⟨k0,k1,cu k2 230 19 a3 a4 a7 a8 a9 H9 QB⟩ ks CD hl) [1,1,7,0] λ(y2:Gk (EE (Fn ks) s))=>.fi (⟨y2.a,y2.ys,y2.ok,IF,⟨k0,k1,cu k2 230 19 a3 a4 a7 a8 a9 H9 QB⟩⟩) [0,0,8,1]) ADk
 ·exact Ga O U.1 (.g 274432<|.fr λk0=>.fr λk1=>.fr λk2=>.al λa3=>.al λa4=>.fr λk5=>.fr λk6=>.al λa7=>.al λa8=>.al λa9=>.fr λH9=>.fr λQB=>.al λIF=>.g 68719516169<|.al λOK=>.g 4616<|.al λUY=>.g 64<|
   .cc (NF O U.l OK IF x UY s k ⟨k0,k1,cu k2 230 19 a3 a4 a7 a8 a9 H9 QB⟩ ks CD hl) [1,1,7,0] λ(y2:Gk (EE (Fn ks) s))=>.fi (⟨y2.a,y2.ys,y2.ok,IF,⟨k0,k1,cu k2 230 19 a3 a4 a7 a8 a9 H9 QB⟩⟩) [0,0,8,1]) ADk
def VS(U:AA 44 A)(x s k:Nat)(ks:Db)(CD:ks≠[])(hl:ks.length<=200):Ag B.C A where
 c:=.call (.ref 279) ⟨[J x,.int (s:Int) k],[]⟩
 F:=[AE x (ks.map rv),pR]
 X:=aV (EE (Fn ks) s)
 res:=λq=>.ok (.ret (J q.a))
 led:=λq=>[AF q.a q.ys,AE x (ks.map rv),OQ q.cd,EA q.cd CH Bw q.y]
 ok:=EU O U [(Er,J x),(Cr,.int (s:Int) k)]
  (λL=>BK (fl:=λq:aV (EE (Fn ks) s)=>.ret (J q.a)) (by
   exact(aw O (A:=A.deeper (AR B.P 279 [] (L+323))) (AA.deeper U.l) L x s k ks CD hl)))
def VT(U:AA 44 A)(x s k cd:Nat)(y:Fc)(ks:Db)(CD:ks≠[])(hl:ks.length<=200):Ag B.C A where
 c:=.call (.ref 279) ⟨[J x,.int (s:Int) k],[]⟩
 F:=[AE x (ks.map rv),OQ cd,EA cd CH Bw y]
 X:=Gk (EE (Fn ks) s)
 res:=λq=>.ok (.ret (J q.a))
 led:=λq=>[AF q.a q.ys,AE x (ks.map rv),OQ cd,EA cd CH Bw y]
 ok:=EU O U [(Er,J x),(Cr,.int (s:Int) k)]
  (λL=>BK (fl:=λq:Gk (EE (Fn ks) s)=>.ret (J q.a)) (by
   exact(ay O (A:=A.deeper (AR B.P 279 [] (L+323))) (AA.deeper U.l) L x s k cd y ks CD hl)))
structure He(E:Type)(ok:Nat->E->Prop)(n:Nat) where
 es:List E
 len:es.length=n
 all: ∀j e,es[j]? =some e->ok j e
def He.nil{E:Type}{ok:Nat->E->Prop}:He E ok 0:=⟨[],rfl,λj e h=>by simp at h⟩
noncomputable def He.snoc{E:Type}{ok:Nat->E->Prop}{n:Nat}(t:He E ok n)(e:E)(h:ok n e):He E ok (n+1):=⟨t.es++[e],by rw[AX,t.len];rfl,λj e' h'=>by
 by_cases c:j<t.es.length
 ·rw[Ev c] at h';exact t.all j e' h'
 ·rw[El ADj] at h'
  have hj:j-t.es.length=0:=by
   by_cases c2:j-t.es.length=0
   ·exact c2
   ·rw[B7 (by simp;lia)] at h';cases h'
  rw[hj] at h';cases h'
  have:j=n:=by have:=t.len;lia
  subst this;exact h⟩
omit O
section
variable{B:Bx}{A:AL}{elt iter:Expr}{x0:Str}{p0:Pos}{sc:Scope}{pos:Pos}{env:Env}{acc a c:Nat}{dv:BC->Bi}
theorem ln{A':AL}{F:AN}{E T:Type}{v:E->Value}{fl:E->F6}{GT:T->AN}{P:E->Prop}{M:F6}{t:T}
 (h:AC B.C A' (Bf elt env) (F++GT t) (λy:{e:E//P e}×T=>v y.1.1) (λy=>F++(.many (fl y.1.1)::GT y.2))):
 Ep B.C A' [] elt env (F++(.many M::GT t)) (λy:{e:E//P e}×T=>some (v y.1.1)) (λy=>F++(.many (M++fl y.1.1)::GT y.2)):=by
 refine .inl ⟨cW,λy=>v y.1.1,λYa=>rfl,((h.frame [.many M]).pre λR s S=>S.BV ?_).post λy R s S=>S.BV ?_⟩
 ·simp only[An,Ao,Bi.flat,AG,Al,Aj]
  refine CP _ ?_;rw[<-AG,<-AG];exact A8 _ A9
 ·simp only[An,Ao,Bi.flat,AG,Al,Aj]
  refine CP _ ?_
  have: ∀a b m r:F6,(a++(b++(m++r))).Perm (m++(a++(b++r))):=λa b m r=>by
   rw[<-AG,<-AG (a++b),<-AG a b r,<-AG m (a++b) r];exact A8 _ A9
  exact this _ _ _ _
theorem O8(O:B.C.Ok){N:Nat}(hN:6<=N)(U:AA (N+1) A){E T:Type}(v:E->Value)(fl:E->F6)(ok:Nat->E->Prop)(GT:T->AN){xs:Ak}{K:Value->Prop}(hK: ∀v∈xs,K v)
 (Gj: ∀A',AA 6 A'-> ∀v,K v-> ∀l,(l=[]∨ ∃u,K u/\l=[(x0,u)])->AC B.C A' (Bo (.Name x0 p0) env v) [dv l] (λYa:Unit=>()) (λYa=>[dv [(x0,v)]]))
 (FO: ∀A',A'=A.under (EF elt (.Name x0 p0) iter [] sc pos (J a) acc env)->AA N A'-> ∀j v0,xs[j]? =some v0-> ∀t:T,
  AC B.C A' (Bf elt env) ([dv [(x0,v0)],AE c xs]++GT t) (λy:{e:E//ok j e}×T=>v y.1.1) (λy=>[dv [(x0,v0)],AE c xs]++(.many (fl y.1.1)::GT y.2)))
 (hlen:xs.length<=1000) (t0:T) (hx:xs≠[]):
 Bv B.C A (.compStart (.ListComp elt [⟨.Name x0 p0,iter,[],0⟩] sc pos) 0 (J a) (J acc) env) ([dv [],AE acc [],BQ a c 0,AE c xs]++GT t0)
  (λYa:(He E ok xs.length×T)×{u:Value//K u}=>.ok .next) (λy=>[dv [(x0,y.2.1)],AE acc (y.1.1.es.map v),AE c xs]++(.many (y.1.1.es.flatMap fl)::GT y.1.2)):=by
 have hL:AA N (A.under (EF elt (.Name x0 p0) iter [] sc pos (J a) acc env)):=U.loop;obtain⟨x,r,rfl⟩: ∃x r,xs=x::r:=by cases xs with|nil=>exact absurd rfl hx|cons x r=>exact⟨x,r,rfl⟩
 have hg: ∀j,j<(x::r).length->(x::r)[j]? =some ((x::r).getD j x):=λj hj=>by rw[Ad,AJ hj];rfl
 have dG: ∀j,K ((x::r).getD j x):=λj=>by
  by_cases hj:j<(x::r).length
  ·exact hK _ (B4 (hg j hj))
  ·rw[Ad,B7 ADj];exact hK _ (.head _)
 have:=KC (n:=(x::r).length) (V:=λj=>{_u:Unit//j<(x::r).length}) (v:=λj _=>(x::r).getD j x) (It:=λj=>[BQ a c j,AE c (x::r)]) (Src:=[AE c (x::r)]) (nm:=x0) (dv:=dv)
  (S:=λj=>{q:He E ok j×T//j<=(x::r).length}) (G:=λYa σ=>.many (σ.1.1.es.flatMap fl)::GT σ.1.2) (out:=λYa σ=>σ.1.1.es.map v) (elt:=elt) (Dy:=.Name x0 p0) (iter:=iter) (ifs:=[]) (sc:=sc) (pos:=pos) (it:=J a) (env:=env) (acc:=acc) O (U.le (ADj:3<=N+1))
  (Y:=λj _ _=>{e:E//ok j e}×T) (nxt:=λj x σ y=>⟨(σ.1.1.snoc y.1.1 y.1.2,y.2),x.2⟩) (w:=λj _ _ y=>some (v y.1.1))
  (by have e:=NO O (A:=A.under (.compStart (.ListComp elt [⟨.Name x0 p0,iter,[],0⟩] sc pos) 0 (J a) (J acc) env)) (U.le (ADj:5+1<=N+1)).loop a c 0
      exact e.frame [AE c (x::r)])
  (λj hj=>by
   have e:=QH O (hL.le (ADj:5<=N)) a c j (x::r) _ (hg j hj)
   exact e.weaken λYa=>⟨⟨(),hj⟩,rfl,λR s S=>S⟩)
  (by have e:=N_ O (hL.le (ADj:5<=N)) a c (x::r).length (x::r) (Am _)
      exact e)
  (λj x=>IV)
  (λj x l hl=>Gj _ (hL.le ADj) _ (dG j) l (hl.imp id λ⟨i,y,e⟩=>⟨_,dG i,e⟩))
  (λj hj x' σ=>by
   refine Ep.tY (I:=[BQ a c (j+1)]) ?_;have e: ∀y:{e:E//ok j e}×T,(σ.1.1.snoc y.1.1 y.1.2).es.flatMap fl=σ.1.1.es.flatMap fl++fl y.1.1:=λy=>by
    show(σ.1.1.es++[y.1.1]).flatMap fl=_
    rw[JC];simp
   simp only[e]
   exact(ln (M:=σ.1.1.es.flatMap fl) (FO _ rfl hL j _ (hg j hj) σ.1.2)))
  (λj x σ y=>by
   show(σ.1.1.es++[y.1.1]).map v=_
   rw[AZ];rfl)
  (λj σ=>by rw[AD,σ.1.1.len];exact AK σ.2 hlen) ⟨(He.nil,t0),By _⟩ rfl ADn
 exact AC.pre (F:=[dv [],AE acc []]++([BQ a c 0,AE c (x::r)]++(.many ((He.nil (ok:=ok)).es.flatMap fl)::GT t0))) (AC.weaken this λy=>⟨((y.1.1.1,y.1.1.2),⟨_,dG y.2.1⟩),rfl,λR s S=>S⟩) λR s S=>S.BV (by
  simp only[An,Ao,Bi.flat,He.nil,List.flatMap_nil,Al,Aj,AG];exact .refl _)
theorem bU(O:B.C.Ok){N:Nat}(hN:6<=N)(U:AA (N+1) A){E T:Type}(v:E->Value)(fl:E->F6)(ok:Nat->E->Prop)(GT:T->AN){n:Nat}
 (Gj: ∀A',AA 6 A'-> ∀(j k:Nat) l,(l=[]∨ ∃i m:Nat,l=[(x0,Be (i:Int) m)])->AC B.C A' (Bo (.Name x0 p0) env (.int (j:Int) k)) [dv l] (λYa:Unit=>()) (λYa=>[dv [(x0,.int (j:Int) k)]]))
 (FO: ∀A',A'=A.under (EF elt (.Name x0 p0) iter [] sc pos (J a) acc env)->AA N A'-> ∀j,j<n-> ∀(k:Nat) (t:T),
  AC B.C A' (Bf elt env) ([dv [(x0,.int (j:Int) k)]]++GT t) (λy:{e:E//ok j e}×T=>v y.1.1) (λy=>[dv [(x0,.int (j:Int) k)]]++(.many (fl y.1.1)::GT y.2)))
 (hlen:n<=1000) (t0:T) (hn:n≠0):
 Bv B.C A (.compStart (.ListComp elt [⟨.Name x0 p0,iter,[],0⟩] sc pos) 0 (J a) (J acc) env) ([dv [],AE acc [],Fj a ((0:Nat):Int) (n:Int) 1]++GT t0)
  (λYa:(He E ok n×T)×Nat×Nat=>.ok .next) (λy=>[dv [(x0,.int (y.2.1:Int) y.2.2)],AE acc (y.1.1.es.map v)]++(.many (y.1.1.es.flatMap fl)::GT y.1.2)):=by
 have hL:AA N (A.under (EF elt (.Name x0 p0) iter [] sc pos (J a) acc env)):=U.loop
 have:=KC (n:=n) (V:=λj=>{_k:Nat//j<n}) (v:=λj k=>.int (j:Int) k.1) (It:=λj=>[Fj a (j:Int) ((n-j:Nat):Int) 1]) (Src:=[]) (nm:=x0) (dv:=dv)
  (S:=λj=>{q:He E ok j×T//j<=n}) (G:=λYa σ=>.many (σ.1.1.es.flatMap fl)::GT σ.1.2) (out:=λYa σ=>σ.1.1.es.map v) (elt:=elt) (Dy:=.Name x0 p0) (iter:=iter) (ifs:=[]) (sc:=sc) (pos:=pos) (it:=J a) (env:=env) (acc:=acc) O (U.le (ADj:3<=N+1))
  (Y:=λj _ _=>{e:E//ok j e}×T) (nxt:=λj x σ y=>⟨(σ.1.1.snoc y.1.1 y.1.2,y.2),x.2⟩) (w:=λj _ _ y=>some (v y.1.1))
  (by have e:=Z5 O (A:=A.under (.compStart (.ListComp elt [⟨.Name x0 p0,iter,[],0⟩] sc pos) 0 (J a) (J acc) env)) (U.le (ADj:5+1<=N+1)).loop a ((0:Nat):Int) ((n-0:Nat):Int) 1
      exact e)
  (λj hj=>by
   have e:=T_ O (hL.le (ADj:5<=N)) a j (n-j-1)
   rw[show n-j-1+1=n-j from by lia,show n-j-1=n-(j+1) from by lia] at e;exact e.weaken λk=>⟨⟨k,hj⟩,rfl,λR s S=>S⟩)
  (by have e:=Xn O (hL.le (ADj:5<=N)) a n 1
      rw[show(n-n:Nat)=0 from Qb n];exact e)
  (λj x=>IV)
  (λj x l hl=>Gj _ (hL.le ADj) _ _ l (hl.imp id λ⟨i,y,e⟩=>⟨_,_,e⟩))
  (λj hj x' σ=>by
   refine Ep.mid ?_;have e: ∀y:{e:E//ok j e}×T,(σ.1.1.snoc y.1.1 y.1.2).es.flatMap fl=σ.1.1.es.flatMap fl++fl y.1.1:=λy=>by
    show(σ.1.1.es++[y.1.1]).flatMap fl=_
    rw[JC];simp
   simp only[e]
   exact(ln (M:=σ.1.1.es.flatMap fl) (FO _ rfl hL j hj x'.1 σ.1.2)))
  (λj x σ y=>by
   show(σ.1.1.es++[y.1.1]).map v=_
   rw[AZ];rfl)
  (λj σ=>by rw[AD,σ.1.1.len];exact AK σ.2 hlen) ⟨(He.nil,t0),By _⟩ rfl hn
 exact AC.pre (F:=[dv [],AE acc []]++([Fj a ((0:Nat):Int) ((n-0:Nat):Int) 1]++(.many ((He.nil (ok:=ok)).es.flatMap fl)::GT t0))) (AC.weaken this λy=>⟨((y.1.1.1,y.1.1.2),y.2.1,y.2.2.1),rfl,λR s S=>S⟩) λR s S=>S.BV (by
  simp only[An,Ao,Bi.flat,He.nil,List.flatMap_nil,Al,Aj,AG];exact .refl _)
theorem D_(O:B.C.Ok){N:Nat}(hN:6<=N)(U:AA (N+1) A){E T:Type}(v:E->Value)(fl:E->F6)(ok:Nat->E->Prop)(GT:T->AN){ss:Aa}{n:Nat}(hs:ns ss=Ah n)
 (Gj: ∀A',AA 6 A'-> ∀(j k:Nat) l,(l=[]∨ ∃i m:Nat,l=[(x0,Be (i:Int) m)])->AC B.C A' (Bo (.Name x0 p0) env (.int (j:Int) k)) [dv l] (λYa:Unit=>()) (λYa=>[dv [(x0,.int (j:Int) k)]]))
 (FO: ∀A',A'=A.under (EF elt (.Name x0 p0) iter [] sc pos (J a) acc env)->AA N A'-> ∀j,j<n-> ∀(k:Nat) (t:T),
  AC B.C A' (Bf elt env) ([dv [(x0,.int (j:Int) k)]]++GT t) (λy:{e:E//ok j e}×T=>v y.1.1) (λy=>[dv [(x0,.int (j:Int) k)]]++(.many (fl y.1.1)::GT y.2)))
 (hlen:n<=1000) (t0:T) (hn:n≠0):
 Bv B.C A (.compStart (.ListComp elt [⟨.Name x0 p0,iter,[],0⟩] sc pos) 0 (J a) (J acc) env) ([dv [],AE acc [],BQ a c 0,AF c ss]++GT t0)
  (λYa:(He E ok n×T)×Nat×Nat=>.ok .next) (λy=>[dv [(x0,.int (y.2.1:Int) y.2.2)],AE acc (y.1.1.es.map v),AF c ss]++(.many (y.1.1.es.flatMap fl)::GT y.1.2)):=by
 have hl:ss.length=n:=by have:=congrArg C7 hs;unfold ns at this;rw[AD,Dv] at this;exact this
 have Zi:(ss.map iv).length=n:=by rw[AD,hl]
 have:=O8 (elt:=elt) (iter:=iter) (x0:=x0) (p0:=p0) (sc:=sc) (pos:=pos) (env:=env) (dv:=dv) (acc:=acc) (a:=a) (c:=c) O hN U v fl ok GT (xs:=ss.map iv) (K:=λv=> ∃i k:Nat,v=.int (i:Int) k) (λv hv=>by obtain⟨q,_,rfl⟩:=List.mem_map.mp hv;exact⟨_,_,rfl⟩)
  (λA' h v ⟨i,k,e⟩ l hl=>by subst e;exact Gj A' h i k l (hl.imp id λ⟨u,⟨i,k,e⟩,e'⟩=>⟨i,k,by subst e;exact e'⟩))
  (λA' e h j v0 hv t=>by
   rw[AQ] at hv;obtain⟨q,hq,rfl⟩:=Option.map_eq_some_iff.mp hv;have h1:(ns ss)[j]? =some q.1:=by unfold ns;rw[AQ,hq];rfl
   rw[hs] at h1;obtain⟨h2,h3⟩:=List.getElem?_eq_some_iff.mp h1;rw[HI] at h3;rw[Dv] at h2;obtain⟨q1,q2⟩:=q;simp only at h3;subst h3
   refine((FO A' e h j h2 q2 t).frame [AF c ss]).pre (λR s S=>S.BV ?_)|>.post λy R s S=>S.BV ?_
   ·simp only[An,Ao,Bi.flat,AG,Al,Aj,A5]
    refine CP _ ?_
    exact(BH).symm
   ·simp only[An,Ao,Bi.flat,AG,Al,Aj,A5]
    refine CP _ ?_;rw[<-AG,<-AG];exact BH)
  ADj t0 (by intro e;rw[e] at Zi;simp at Zi;lia)
 rw[Zi] at this;refine AC.weaken this λy=>?_;obtain⟨y1,u,i,k,e⟩:=y;subst e;exact⟨((y1.1,y1.2),i,k),rfl,λR s S=>S⟩
end
abbrev zv(q:Int×Nat):Value:=.int q.1 q.2
def zn(zs:List (Int×Nat)):List Int:=zs.map (·.1)
noncomputable def C_(i:Int)(j:Nat):Nat:=(i.fmod ((j+1:Nat):Int)).toNat
theorem Vp(i:Int)(j:Nat):i.fmod ((j+1:Nat):Int)=(C_ i j:Int):=by
 unfold C_
 have:0<=i.fmod ((j+1:Nat):Int):=Int.fmod_nonneg_of_pos i (by omega)
 omega
theorem N8(i:Int)(j:Nat):C_ i j<j+1:=by
 have:=Int.fmod_lt_of_pos i (b:=((j+1:Nat):Int)) (by omega)
 rw[Vp] at this
 omega
section
variable(B:Bx)(A:AL)(O:B.C.Ok)
def IK(U:AA 3 A)(i:Int)(j t u:Nat):Ag B.C A where
 c:=.call (.builtin "int.__mod__") ⟨[.int i t,.int ((j+1:Nat):Int) u],[]⟩
 F:=[]
 X:=Nat
 res:=λk=>.ok (.ret (.int ((C_ i j:Nat):Int) k))
 led:=λYa=>[]
 ok:=by
  have h:=Hg (C:=B.C) (A:=A) F.slot_int_mod F.entry_int_mod (F.args_int_mod_2 (.int i t) (.int ((j+1:Nat):Int) u)) (IA i t ((j+1:Nat):Int) u (by rw[beq_iff_eq];omega)) (λs=>rfl)
  rw[Vp] at h;exact h
theorem ZY(i:Int){j:Nat}(hj:j<1000): ¬(I7 i ((j+1:Nat):Int))=true:=by
 unfold I7;have h:((j+1:Nat):Int).natAbs.log2<10:=by
  rw[Int.natAbs_natCast]
  exact(Nat.log2_lt ADj).mpr (by omega)
 have:(if(((j+1:Nat):Int)==0)=true then 0 else((j+1:Nat):Int).natAbs.log2/30+1)<=1:=by
  split
  ·omega
  ·lia
 simp only[FS,decide_eq_true_eq]
 omega
noncomputable def Qn(U:AA 3 A)(i:Int)(j t u:Nat)(hj:j<1000):Ag B.C A where
 c:=.call (.builtin "int.__floordiv__") ⟨[.int i t,.int ((j+1:Nat):Int) u],[]⟩
 F:=[]
 X:=Nat
 res:=λk=>.ok (.ret (.int (i.fdiv ((j+1:Nat):Int)) k))
 led:=λYa=>[]
 ok:=Hg (C:=B.C) (A:=A) F.slot_int_floordiv F.entry_int_floordiv (F.args_int_floordiv_2 (.int i t) (.int ((j+1:Nat):Int) u)) (AutoIntG4.int___floordiv___int_int_1 i t ((j+1:Nat):Int) u (by rw[beq_iff_eq];omega) (ZY i hj)) (λs=>rfl)
noncomputable abbrev PM(c n:Nat):Str:=⟨⟨DE n c⟩⟩
theorem Vi(c:Nat): ∀(n:Nat) (a:Array Nat),(DE n (#[c]:Array Nat)).foldl (· ++ ·) a=a++(⟨DE n c⟩:Array Nat)
 |0,a=>by simp
 |n+1,a=>by
  rw[OW,C0,Vi c n];apply Array.toList_inj.mp;simp[OW]
def cF(U:AA 3 A)(c n t u:Nat)(hn:n+1<1000):Ag B.C A where
 c:=.call (.builtin "str.__mul__") ⟨[.str ⟨⟨[c]⟩⟩ t,.int ((n+1:Nat):Int) u],[]⟩
 F:=[]
 X:=Nat
 res:=λk=>.ok (.ret (.str (PM c (n+1)) k))
 led:=λYa=>[]
 ok:=by
  have hr:(decide (((n+1:Nat):Int)< -(2^63:Int))||decide (((n+1:Nat):Int)≥2^63))=false:=by
   simp only[Iz,decide_eq_false_iff_not,show((2:Int)^63)=9223372036854775808 by decide];omega
  have g:=gives_str_mul ⟨⟨[c]⟩⟩ ((n+1:Nat):Int) t u hr (λYa Ya=>by
   show¬((1:Int)>_)
   have h1:(1:Int)<=(2^63-1)/((n+1:Nat):Int):=by
    rw[Int.le_ediv_iff_mul_le (by omega),show((2:Int)^63)=9223372036854775808 by decide]
    omega
   omega) (λYa Ya=>by
   show decide (1*(((n+1:Nat):Int)).toNat>sizeLine)=false;rw[decide_eq_false_iff_not,Br]
   omega)
  rw[if_neg (by omega)] at g
  refine D9 F.slot_str_mul F.entry_str_mul (F.args_str_mul_2 _ _) g.meets λR s S=>⟨rfl,?_⟩
  by_cases h:n=0
  ·subst h
   exact⟨t,rfl,S⟩
  ·have e:((((n+1:Nat):Int)==1||(⟨⟨[c]⟩⟩:Str).length==0)=true)=False:=by
    have:(((n+1:Nat):Int)==1)=false:=by rw[beq_eq_false_iff_ne];omega
    rw[this];simp[Str.length]
   simp only[e,if_false];have h2:(⟨(DE ((n+1:Nat):Int).toNat (⟨[c]⟩:Array Nat)).foldl (· ++ ·) #[]⟩:Str)=PM c (n+1):=by
    have:=Vi c (n+1) #[]
    rw[Dt]
    show(⟨_⟩:Str)=⟨_⟩
    congr 1
    refine this.trans ?_;simp
   rw[h2];exact⟨by show(DE (n+1) c).length<=sizeLine;rw[M0,Br];omega,s.toks,rfl,S.toks _ (Eb _)⟩
def TG(U:AA 3 A)(c n t u:Nat)(hn:n+1<1000):Ag B.C A where
 c:=.call (.builtin "str.__mul__") ⟨[.str ⟨⟨[c]⟩⟩ t,.int ((1+n:Nat):Int) u],[]⟩
 F:=[]
 X:=Nat
 res:=λk=>.ok (.ret (.str (PM c (n+1)) k))
 led:=λYa=>[]
 ok:=by rw[Nat.add_comm 1 n];exact(cF B A U c n t u hn).ok
def RO(U:AA 3 A)(j t u:Nat)(hj:j<6):Ag B.C A:=
 (TF O U ⟨⟨[97,98,99,100,101,102]⟩⟩ t u (97+j) (j:Int) ADj (by omega) (by
  have:j=0∨j=1∨j=2∨j=3∨j=4∨j=5:=by lia
  rcases this with rfl|rfl|rfl|rfl|rfl|rfl<;>rfl)).re (λk:Nat=>.ok (.ret (.str ⟨⟨[97+j]⟩⟩ k))) (λYa=>[]) (λk=>k) (λYa=>rfl) (λYa=>rfl)
end
include O
def TD(U:AA 3 A)(x:Str)(n:Nat)(t u:Nat):Ag B.C A:=
 DN O U "int.__rmul__" [.int (n:Int) u,.str x t] [] (λYa:Unit=>.notImplemented) (λYa=>[]) (λU=>.fi () []) λU=>.fi () []
def R8:Expr:=vE (sN 17 0)
def chQ:Str:=Bl [95,108,97,119,95,99,104,117,110,107,115,46,60,108,111,99,97,108,115,62,46]
abbrev O6(c1 L D:Nat):Env:=FM (qa R8) chQ 245 [(CZ,c1+323)] L D
theorem kS(U:AA 6 A)(c1 L D j k:Nat):
 AS B A (Bo (Cp R8) (O6 c1 L D) (.int (j:Int) k)) [As D []] () [As D [(BA,.int (j:Int) k)]]:=
 Ef O U (.fr λk0=>.g 6145<|.fi () [0])
theorem kT(U:AA 6 A)(c1 L D j k i m:Nat):
 AS B A (Bo (Cp R8) (O6 c1 L D) (.int (j:Int) k)) [As D [(BA,.int (i:Int) m)]] () [As D [(BA,.int (j:Int) k)]]:=
 Ef O U (.fr λk0=>.g 6145<|.fi () [0])
theorem kW(U:AA 6 A)(c1 L D x j k t:Nat)(v:Int)(zs:List (Int×Nat))(hl:(zs.map zv).length<=1000)(hx:(zs.map zv)[j]? =some (.int v t))(hj:j<6)(h1:((C_ v 1:Nat):Int)=1)(h2:C_ (v.fdiv ((2:Nat):Int)) 3+1<1000):
 AC B.C A (Bf (DL R8) (O6 c1 L D)) [As D [(BA,.int (j:Int) k)],AW c1 (J x),AE x (zs.map zv)]
  (λq:Nat×Nat×Nat=>J q.1)
  (λq=>[As D [(BA,.int (j:Int) k)],AV q.1 [.str ⟨⟨[32,9]⟩⟩ q.2.1,.str (PM (97+j) (C_ (v.fdiv ((2:Nat):Int)) 3+1)) q.2.2],AW c1 (J x),AE x (zs.map zv)]):=by
 obtain⟨_,_|_⟩:=B<;>exact H_ O U (.g 1124872258<|.cc (BZ O U.l x j k (B0 zv zs) (.int v t) hx hl) [2] λYa=>.fr λk1=>.cc (IK _ _ U.l v 1 t k1) [] λ(y2:Nat)=>.fr λk3=>.cc (gM _ _ O U.l (↑(C_ v 1)) 1 y2 k3 h1) [] λYa=>.fr λk5=>.fr λk6=>.g 66<|.cc (RO _ _ O U.l j k6 k hj) [] λ(y7:Nat)=>.fr λk8=>.g 1090785411<|.cc (BZ O U.l x j k (B0 zv zs) (.int v t) hx hl) [0] λYa=>.fr λH9=>.cc (Qn _ _ U.l v 1 t H9 (by first|omega|assumption|decide)) [] λNp=>.fr λiV=>.cc (IK _ _ U.l (v.fdiv ↑(1+1)) 3 Np iV) [] λUM=>.cc (GA _ _ O U.l 1 (C_ (v.fdiv ↑(1+1)) 3) k8 UM) [] λOS=>.cc (TD O U.l {cps:={toList:=[97+j]}} (1+C_ (v.fdiv ↑(1+1)) 3) y7 OS) [] λYa=>.cc (TG _ _ U.l (97+j) (C_ (v.fdiv ↑(1+1)) 3) y7 OS h2) [] λSM=>.al λj9=>.fi (j9,k5,SM) [2,0,1,0])
theorem kU(U:AA 6 A)(c1 L D x j k t:Nat)(v:Int)(zs:List (Int×Nat))(hl:(zs.map zv).length<=1000)(hx:(zs.map zv)[j]? =some (.int v t))(hj:j<6)(h1:((C_ v 1:Nat):Int)≠1)(h2:C_ (v.fdiv ((2:Nat):Int)) 3+1<1000):
 AC B.C A (Bf (DL R8) (O6 c1 L D)) [As D [(BA,.int (j:Int) k)],AW c1 (J x),AE x (zs.map zv)]
  (λq:Nat×Nat×Nat=>J q.1)
  (λq=>[As D [(BA,.int (j:Int) k)],AV q.1 [.str ⟨⟨[32]⟩⟩ q.2.1,.str (PM (97+j) (C_ (v.fdiv ((2:Nat):Int)) 3+1)) q.2.2],AW c1 (J x),AE x (zs.map zv)]):=by
 obtain⟨_,_|_⟩:=B<;>exact H_ O U (.g 1124872258<|.cc (BZ O U.l x j k (B0 zv zs) (.int v t) hx hl) [2] λYa=>.fr λk1=>.cc (IK _ _ U.l v 1 t k1) [] λ(y2:Nat)=>.fr λk3=>.cc (gL _ _ O U.l (↑(C_ v 1)) 1 y2 k3 h1) [] λYa=>.fr λk5=>.fr λk6=>.g 66<|.cc (RO _ _ O U.l j k6 k hj) [] λ(y7:Nat)=>.fr λk8=>.g 1090785411<|.cc (BZ O U.l x j k (B0 zv zs) (.int v t) hx hl) [0] λYa=>.fr λH9=>.cc (Qn _ _ U.l v 1 t H9 (by first|omega|assumption|decide)) [] λNp=>.fr λiV=>.cc (IK _ _ U.l (v.fdiv ↑(1+1)) 3 Np iV) [] λUM=>.cc (GA _ _ O U.l 1 (C_ (v.fdiv ↑(1+1)) 3) k8 UM) [] λOS=>.cc (TD O U.l {cps:={toList:=[97+j]}} (1+C_ (v.fdiv ↑(1+1)) 3) y7 OS) [] λYa=>.cc (TG _ _ U.l (97+j) (C_ (v.fdiv ↑(1+1)) 3) y7 OS h2) [] λSM=>.al λj9=>.fi (j9,k5,SM) [2,0,1,0])
def Sq(v:Int)(j:Nat):Str×Str:=(if C_ v 1=1 then⟨⟨[32,9]⟩⟩ else⟨⟨[32]⟩⟩,PM (97+j) (C_ (v.fdiv ((2:Nat):Int)) 3+1))
def Ja(vs:List Int):Ed:=vs.mapIdx λj v=>Sq v j
def VQ(vs:List Int)(j:Nat)(i:It):Prop:=vs[j]?.map (λv=>Sq v j)=some i.ab
theorem qd(U:AA 6 A)(c1 L D x j k:Nat)(zs:List (Int×Nat))(hl:zs.length<=6)(hj:j<zs.length):
 AC B.C A (Bf (DL R8) (O6 c1 L D)) ([As D [(BA,.int (j:Int) k)]]++[AW c1 (J x),AE x (zs.map zv)])
  (λy:{i:It//VQ (zn zs) j i}×Unit=>y.1.1.v) (λy=>[As D [(BA,.int (j:Int) k)]]++(.many [y.1.1.e]::[AW c1 (J x),AE x (zs.map zv)])):=by
 have hx:zs[j]? =some (zs[j].1,zs[j].2):=AJ hj;have Qz:(zs.map zv)[j]? =some (.int zs[j].1 zs[j].2):=by rw[AQ,hx];rfl
 have hv:(zn zs)[j]? =some zs[j].1:=by unfold zn;rw[AQ,hx];rfl
 have h2:C_ (zs[j].1.fdiv ((2:Nat):Int)) 3+1<1000:=by have:=N8 (zs[j].1.fdiv ((2:Nat):Int)) 3;omega
 by_cases h1:C_ zs[j].1 1=1
 ·have e:=kW O U c1 L D x j k _ _ zs (by rw[AD];omega) Qz (by omega) (by rw[h1];rfl) h2
  exact AC.weaken e λq=>⟨(⟨⟨q.1,_,q.2.1,_,q.2.2⟩,by unfold VQ;rw[hv];show some (Sq _ _)=some _;unfold Sq;rw[if_pos h1];rfl⟩,()),rfl,λR s S=>S.BV (.refl _)⟩
 ·have e:=kU O U c1 L D x j k _ _ zs (by rw[AD];omega) Qz (by omega) (by intro h;exact h1 ADj) h2
  exact AC.weaken e λq=>⟨(⟨⟨q.1,_,q.2.1,_,q.2.2⟩,by unfold VQ;rw[hv];show some (Sq _ _)=some _;unfold Sq;rw[if_neg h1];rfl⟩,()),rfl,λR s S=>S.BV (.refl _)⟩
structure fJ(vs:List Int) where
 AH:List It
 ok:AH.map It.ab=Ja vs
 k:Nat
 t:Nat
omit O
theorem pV{vs:List Int}{n:Nat}(h:n=vs.length)(t:He It (VQ vs) n):t.es.map It.ab=Ja vs:=by
 apply Hz;intro j;rw[AQ];unfold Ja;rw[List.getElem?_mapIdx];cases he:t.es[j]? with
 |some e=>
  have:=t.all j e he
  unfold VQ at this;exact this.symm
 |none=>
  have h1:=List.getElem?_eq_none_iff.mp he;rw[t.len] at h1;rw[B7 (by omega)];rfl
theorem h_(AH:List It):AH.flatMap (λi=>[i.e])=AH.map It.e:=by
 induction AH with
 |nil=>rfl
 |cons i r ih=>rw[KY,ih];rfl
include O
def Ws(U:AA 7 A)(L D c1 a acc x:Nat)(zs:List (Int×Nat))(hl:zs.length<=6)(Qx:zs.length≠0):Ag B.C A where
 c:=.compStart R8 0 (J a) (J acc) (O6 c1 L D)
 F:=[As D [],AE acc [],Fj a ((0:Nat):Int) ((zs.map zv).length:Int) 1,AW c1 (J x),AE x (zs.map zv)]
 X:=fJ (zn zs)
 res:=λYa=>.ok .next
 led:=λq=>[As D [(BA,.int (q.k:Int) q.t)],AE acc (q.AH.map It.v),Ai q.AH,AW c1 (J x),AE x (zs.map zv)]
 ok:=by
  have hlen:(zs.map zv).length=zs.length:=AD _;rw[hlen];have h:=bU (B:=B) (A:=A) (elt:=DL R8) (iter:=Hf R8) (x0:=BA) (p0:=(Cp R8).pos) (sc:=Gh R8) (pos:=R8.pos) (env:=O6 c1 L D) (dv:=As D) (acc:=acc) (a:=a) O (Am 6) U It.v (λi=>[i.e]) (VQ (zn zs)) (λYa:Unit=>[AW c1 (J x),AE x (zs.map zv)]) (n:=zs.length)
   (λA' h j k l hl=>by
    rcases hl with rfl|⟨i,m,rfl⟩
    ·exact kS O h c1 L D j k
    ·exact kT O h c1 L D j k i m)
   (λA' _ h j hj k _=>qd O h c1 L D x j k zs hl hj) (by omega) () Qx
  exact AC.weaken h λy=>⟨⟨y.1.1.es,pV (by unfold zn;rw[AD]) y.1.1,y.2.1,y.2.2⟩,rfl,λR s S=>by
   show St B.C ([As D [(BA,.int (y.2.1:Int) y.2.2)],AE acc (y.1.1.es.map It.v),Ai y.1.1.es,_,_]++R) s;rw[show Ai y.1.1.es=.many (y.1.1.es.flatMap λi=>[i.e]) from congrArg Bi.many (h_ _).symm];exact S⟩
theorem WW(U:AA 1 A)(x:Nat):
 AS B A (Pk B 246 [J x]) [] (([(CZ,J x)]:BC)) []:=
 rn O U (.fi () [])
theorem U0(U:AA 1 A)(x:Nat):
 AC B.C A (OO B 246 [(CZ,J x)]) []
  (λq:Nat×Nat=>AR B.P 246 [(CZ,q.2+323)] (q.1+323))
  (λq=>[AI q.1 [],AW (q.2) (J x)]):=
 rn O U (.al λa0=>.al λa1=>.g 6145<|.fi (a0,a1) [1,0])
theorem WZ(U:AA 20 A)(L c1 x:Nat)(zs:List (Int×Nat))(hl:zs.length<=6)(Qx:zs.length≠0)(Mq:(zs.map zv).length<=1000):
 AC B.C A (Ac (A4 B.P 246) (AR B.P 246 [(CZ,c1+323)] (L+323))) [AI L [],AW c1 (J x),AE x (zs.map zv)]
  (λq:Nat×fJ (zn zs)=>.ret (J q.1))
  (λq=>[AE q.1 (q.2.AH.map It.v),Ai q.2.AH,AE x (zs.map zv)]):=by
 obtain⟨_,_|_⟩:=B<;>exact D7 O U (.g 1107296256<|.cc (IL O U.l x (B0 zv zs) Mq) [2] λ(y0:Nat×Nat)=>.cc (KD O U.l ((B0 zv zs).length) y0.snd) [] λ(y1:Nat×Nat×Nat)=>.g 4161<|.cc (NG O U.l y1.fst ((B0 zv zs).length) y1.snd.fst y0.snd y1.snd.snd Mq) [0] λy2=>.g 65<|.al λa3=>.al λa4=>.cc (Ws O U.l L a4 c1 y2 a3 x zs hl Qx) [0,0,0,3,1] λy5=>.g 393281<|.fi (a3,y5) [1,1,2])
def Yj(U:AA 22 A)(x:Nat)(zs:List (Int×Nat))(hl:zs.length<=6)(Qx:zs.length≠0):Ag B.C A where
 c:=.call (.ref 246) ⟨[J x],[]⟩
 F:=[AE x (zs.map zv)]
 X:=Nat×fJ (zn zs)
 res:=λq=>.ok (.ret (J q.1))
 led:=λq=>[AE q.1 (q.2.AH.map It.v),Ai q.2.AH,AE x (zs.map zv)]
 ok:=Dm O (n:=21) U ADk ((WW O U.l.in1 x).frame _) (λR s S=>(U0 O U.l.in1 x).frame [AE x (zs.map zv)] R s S)
  (λq=>BK (fl:=λp:Nat×fJ (zn zs)=>.ret (J p.1)) (WZ O (AA.deeper U.l) q.1 q.2 x zs hl Qx (by rw[AD];omega)))
omit O
section
variable{C:Cx}{A:AL}{L:AN}
theorem AC.Tf{e:Expr}{pos:Pos}{env:Env}{whole:Sem Value}{X:Type}{b:Bool}{led:X->AN}(h:AC C A (isTrue e env (Bf e env)) L (λYa:X=>b) led):AC C A (isTrue (.UnaryOp .Not e pos) env whole) L (λYa:X=> !b) led:=λR s S=>
 wpAny_isTrue_Not (Av (h R s S) (λYa s' ⟨x,e,S'⟩=>⟨x,by rw[e],S'⟩) λYa Ya q=>q)
theorem AC.eF{op:BoolOp}{env:Env}:AC C A (SX op [] env) L (λYa:Unit=>op==.And) (λYa=>L):=λR s S=>AP ⟨(),rfl,S⟩
theorem AC.O4{op:BoolOp}{e:Expr}{rest:List Expr}{env:Env}{X Y:Type}{b:Bool}{led1:X->AN}{led:Y->AN}(h1:AC C A (isTrue e env (Bf e env)) L (λYa:X=>op==.And) led1)(h2: ∀x,AC C A (SX op rest env) (led1 x) (λYa:Y=>b) led):
 AC C A (SX op (e::rest) env) L (λYa:Y=>b) led:=λR s S=>by
 show BN _ _ (isTrue e env (Bf e env)>>=_) _ _ s;refine AB (AC.wp h1 S λx s₁ S₁=>?_);cases op<;>exact h2 x R s₁ S₁
theorem AC.WS{op:BoolOp}{e:Expr}{rest:List Expr}{env:Env}{X:Type}{led:X->AN}(h1:AC C A (isTrue e env (Bf e env)) L (λYa:X=>op==.Or) led):
 AC C A (SX op (e::rest) env) L (λYa:X=>op==.Or) led:=λR s S=>by
 show BN _ _ (isTrue e env (Bf e env)>>=_) _ _ s;refine AB (AC.wp h1 S λx s₁ S₁=>?_);cases op<;>exact AP ⟨x,rfl,S₁⟩
theorem AC.Iu{op:BoolOp}{es:List Expr}{pos:Pos}{env:Env}{whole:Sem Value}{X:Type}{b:Bool}{led:X->AN}(h:AC C A (SX op es env) L (λYa:X=>b) led):AC C A (isTrue (.BoolOp op es pos) env whole) L (λYa:X=>b) led:=λR s S=>
 wpAny_isTrue_BoolOp (h R s S)
theorem Jl{B:Bx}{a b:Value}{d:PyData}{L:AN}(hu:A.units+64<cLine)(hl:d.canLay0=true)(hd:d.depth<=64)
 (h: ∀R s,St B.C (L++R) s->(∃as,Qc s.heap a d as)/\ ∃bs,Qc s.heap b d bs):AC B.C A (Gf .NotEq a b) L (λYa:Unit=>.bool false) (λYa=>L):=
 T7 hu hl hl hd h (by rw[Nx d hl];rfl)
theorem on{B:Bx}{a b:Value}{d:PyData}{L:AN}(hu:A.units+64<cLine)(hl:d.canLay0=true)(hd:d.depth<=64)
 (h: ∀R s,St B.C (L++R) s->(∃as,Qc s.heap a d as)/\ ∃bs,Qc s.heap b d bs):AC B.C A (Gf .Eq a b) L (λYa:Unit=>.bool true) (λYa=>L):=
 om hu hl hl hd h (Nx d hl)
end
inductive Oa{α β:Type}(P:α->β->Prop):List α->List β->Prop
 |nil:Oa P [] []
 |cons {a b as bs}:P a b->Oa P as bs->Oa P (a::as) (b::bs)
abbrev Gl(h:Heap)(v:Value)(d:PyData):Prop:= ∃as,Qc h v d as
theorem QJ{h:Heap}{vs:Ak}{ds:List PyData}(q:Oa (Gl h) vs ds): ∃as,ReadsAll h vs ds as:=by
 induction q with
 |nil=>exact⟨_,.nil⟩
 |cons h1 _ ih=>obtain⟨as,r⟩:=ih;obtain⟨bs,r1⟩:=h1;exact⟨_,.cons r1 r⟩
theorem St.s8{C:Cx}{L:AN}{s:Af}(S:St C L s){p:Addr×AO}(hp:p∈Ao L): ∃g,s.heap.get? p.1=some (p.2.obj g):=by
 obtain⟨H,_,XP⟩:=S.led;obtain⟨o,ho,g,rfl⟩:=XP.at_ p (Ar _ hp);exact⟨g,ho⟩
theorem St.list{C:Cx}{L:AN}{s:Af}(S:St C L s){a:Addr}{vs:Ak}{ds:List PyData}(hp:(a,AO.ls (.type "list") none vs)∈Ao L)(q:Oa (Gl s.heap) vs ds):Gl s.heap (.ref a) (.list ds):=by
 obtain⟨g,hg⟩:=S.s8 hp;obtain⟨as,r⟩:=QJ q;exact⟨_,.list hg rfl rfl r⟩
theorem St.tuple{C:Cx}{L:AN}{s:Af}(S:St C L s){a:Addr}{vs:Ak}{ds:List PyData}(hp:(a,AO.ls (.type "tuple") none vs)∈Ao L)(q:Oa (Gl s.heap) vs ds):Gl s.heap (.ref a) (.tuple ds):=by
 obtain⟨g,hg⟩:=S.s8 hp;obtain⟨as,r⟩:=QJ q;exact⟨_,.tuple hg rfl rfl r⟩
noncomputable def iQ(n:Nat):PyData:=.int (n:Int)
def Jd(l:Ay):PyData:=.list (l.map iQ)
theorem eu(h:Heap): ∀ys:Aa,Oa (Gl h) (ys.map iv) ((ns ys).map iQ)
 |[]=>.nil
 |(n,t)::r=>.cons ⟨_,.int _ _⟩ (eu h r)
theorem ev(h:Heap): ∀ks:Db,Oa (Gl h) (ks.map rv) ((ks.map (·.1)).map HL)
 |[]=>.nil
 |(n,t)::r=>.cons ⟨_,.str _ _⟩ (ev h r)
theorem St.il{C:Cx}{L:AN}{s:Af}(S:St C L s){a:Nat}{ys:Aa}(hp:(a+323,AO.ls (.type "list") none (ys.map iv))∈Ao L):Gl s.heap (J a) (Jd (ns ys)):=S.list hp (eu _ _)
theorem St.Zk{C:Cx}{L:AN}{s:Af}(S:St C L s){a:Nat}{ys:Aa}{l:Ay}(e:ns ys=l)(hp:(a+323,AO.ls (.type "list") none (ys.map iv))∈Ao L):Gl s.heap (J a) (Jd l):=e▸S.il hp
theorem AC.nil{C:Cx}{A:AL}{L:AN}{env:Env}:AC C A (Ac [] env) L (λYa:Unit=>.next) (λYa=>L):=λR s S=>Fy ⟨(),rfl,S⟩
abbrev Jk(es:List IE)(i:Nat):F6:=K5 (es.take i++es.drop (i+1))
theorem Xb{es:List IE}{i:Nat}{e:IE}(h:es[i]? =some e):(K5 es).Perm (e.p::Jk es i):=by
 have:=(IU h).map IE.p
 rwa [Aw] at this
theorem Tn{P:AN}{es:List IE}{i:Nat}{e:IE}(he:es[i]? =some e):(Ao (P++[BU es])).Perm (Ao (P++[AF e.a e.ys]++[.many (Jk es i)])):=by
 simp only[An,Ao,Bi.flat,Aj,AG]
 exact(Xb he).append_left _
theorem To{P:AN}{es fs:List IE}{i j:Nat}{e f:IE}(he:es[i]? =some e)(hf:fs[j]? =some f):
 (Ao (P++[BU es,BU fs])).Perm (Ao (P++[AF e.a e.ys,AF f.a f.ys]++[.many (Jk es i),.many (Jk fs j)])):=by
 simp only[An,Ao,Bi.flat,Aj,AG];refine CP _ ?_
 refine((Xb he).append (Xb hf)).trans ?_
 show(e.p::(Jk es i++(f.p::Jk fs j))).Perm (e.p::(f.p::(Jk es i++Jk fs j)))
 exact .cons _ BH
theorem AC.ni{C:Cx}{A:AL}{α:Type}{t:Sem α}{P:AN}{X:Type}{res:X->α}{Q:X->AN}{es fs:List IE}{i j:Nat}{e f:IE}(he:es[i]? =some e)(hf:fs[j]? =some f)
 (h:AC C A t (P++[AF e.a e.ys,AF f.a f.ys]) res (λx=>Q x++[AF e.a e.ys,AF f.a f.ys])):AC C A t (P++[BU es,BU fs]) res (λx=>Q x++[BU es,BU fs]):=
 ((h.frame [.many (Jk es i),.many (Jk fs j)]).pre λR s S=>S.BV (by rw[An,An _ R];exact(To he hf).append_right _)).post λx R s S=>S.BV (by rw[An,An _ R];exact((To he hf).append_right _).symm)
theorem AC.z0{C:Cx}{A:AL}{α:Type}{t:Sem α}{P:AN}{X:Type}{res:X->α}{Q:X->AN}{es:List IE}{i:Nat}{e:IE}(he:es[i]? =some e)
 (h:AC C A t (P++[AF e.a e.ys]) res (λx=>Q x++[AF e.a e.ys])):AC C A t (P++[BU es]) res (λx=>Q x++[BU es]):=
 ((h.frame [.many (Jk es i)]).pre λR s S=>S.BV (by rw[An,An _ R];exact(Tn he).append_right _)).post λx R s S=>S.BV (by rw[An,An _ R];exact((Tn he).append_right _).symm)
theorem St.ll{C:Cx}{L:AN}{s:Af}(S:St C L s){a:Nat}{es:List IE}(hp:(a+323,AO.ls (.type "list") none (es.map IE.v))∈Ao L)(he: ∀e∈es,e.p∈Ao L):Gl s.heap (J a) (.list (es.map λe=>Jd (ns e.ys))):=by
 refine S.list hp ?_
 have: ∀es:List IE,(∀e∈es,e.p∈Ao L)->Oa (Gl s.heap) (es.map IE.v) (es.map λe=>Jd (ns e.ys)):=λes=>by
  induction es with
  |nil=>intro _;exact .nil
  |cons e r ih=>intro h;exact .cons (S.il (h e (.head _))) (ih λx hx=>h x (.tail _ hx))
 exact this es he
theorem Q2: ∀l:Ay,DQ (l.map iQ)=true/\D2 (l.map iQ)=0
 |[]=>⟨rfl,rfl⟩
 |n::r=>by
  obtain⟨h1,h2⟩:=Q2 r;exact⟨by simp only[Aw,DQ,h1,iQ,En,Kp],by simp only[Aw,D2,h2,iQ,Fl];rfl⟩
theorem SR(l:Ay):(Jd l).canLay0=true/\(Jd l).depth=1:=⟨by unfold Jd;simp only[En];exact(Q2 l).1,by unfold Jd;simp only[Fl,(Q2 l).2]⟩
theorem NS: ∀ls:List Ay,DQ (ls.map Jd)=true/\D2 (ls.map Jd)<=1
 |[]=>⟨rfl,By _⟩
 |l::r=>by
  obtain⟨h1,h2⟩:=NS r;refine⟨by simp only[Aw,DQ,h1,(SR l).1,Kp],?_⟩
  simp only[Aw,D2,(SR l).2];exact Nat.max_le.mpr ⟨Am _,h2⟩
theorem Xa(ls:List Ay):(Nw (ls.map Jd)).canLay0=true/\(Nw (ls.map Jd)).depth<=64:=⟨by simp only[En];exact(NS ls).1,by simp only[Fl];have:=(NS ls).2;lia⟩
theorem SS(ls:List Ay):(PyData.tuple (ls.map Jd)).canLay0=true/\(PyData.tuple (ls.map Jd)).depth<=64:=⟨by simp only[En];exact(NS ls).1,by simp only[Fl];have:=(NS ls).2;lia⟩
theorem Vu: ∀ks:List Str,(∀x∈ks,x.cps.all (· <0x110000)=true)->DQ (ks.map HL)=true/\D2 (ks.map HL)=0
 |[],_=>⟨rfl,rfl⟩
 |x::r,h=>by
  obtain⟨h1,h2⟩:=Vu r λy hy=>h y (.tail _ hy);have h0:PyData.strOk x=true:=h x (.head _);exact⟨by simp only[Aw,DQ,En,h1,h0,Kp],by simp only[Aw,D2,h2,Fl];rfl⟩
section
variable{B:Bx}{x0:Str}{p0:Pos}{body:Dx}{env:Env}{a c:Nat}{S:Type}{G:S->AN}
theorem TR(O:B.C.Ok){A:AL}{N:Nat}(hN:5<=N)(U:AA (N+1) A){n:Nat}{H:Nat->Nat->S->AN}
 (PJ: ∀A',A'=A.under (.forLoop (.Name x0 p0) (J a) body [] env)->AA N A'-> ∀j,j<n-> ∀(k:Nat) (σ:S),AC B.C A' (Bo (.Name x0 p0) env (.int (j:Int) k)) (G σ) (λYa:Unit=>()) (λYa=>H j k σ)/\
  AC B.C A' (Ac body env) (H j k σ) (λYa:S=>.next) G):
 ∀(r j:Nat) (σ:S),j+r=n->AT B.C A (.forLoop (.Name x0 p0) (J a) body [] env) (Fj a (j:Int) (r:Int) 1::G σ) (λYa:S=>.ok .next) G
 |0,j,σ,h=>by
  have e:=Xn O (A:=A.under (.forLoop (.Name x0 p0) (J a) body [] env)) (U.le (ADj:5+1<=N+1)).loop a j 1
  exact AT.SQ (X:=Unit) (L1:=λYa=>G σ) (e.frame (G σ)) λYa=>(AT.SN _).weaken λYa=>⟨σ,rfl,λR s S=>S⟩
 |r+1,j,σ,h=>by
  have B8:AA N (A.under (.forLoop (.Name x0 p0) (J a) body [] env)):=U.loop;have h1:=λk σ=>(PJ _ rfl B8 j ADj k σ).1
  have h2:=λk σ=>(PJ _ rfl B8 j ADj k σ).2
  refine AT.P2 (fl:=.next) (.inl rfl) (X:=Nat) (v:=λk=>.int (j:Int) k) (L1:=λYa=>Fj a ((j+1:Nat):Int) (r:Int) 1::G σ) (L2:=λYa=>Fj a ((j+1:Nat):Int) (r:Int) 1::G σ) (L3:=λk=>H j k σ++[Fj a ((j+1:Nat):Int) (r:Int) 1]) (L4:=λYa y=>G y++[Fj a ((j+1:Nat):Int) (r:Int) 1])
   ((T_ O (B8.le hN) a j r).frame (G σ)) (λYa=>IV) (λk=>?_) (λk=>(h2 k σ).frame _) λk y=>?_
  ·exact((h1 k σ).frame [Fj a ((j+1:Nat):Int) (r:Int) 1]).pre λR s S=>S.perm (A8 R (Bm _ _).symm)
  ·exact(TR O hN U PJ r (j+1) y ADj).pre λR s S=>S.perm (A8 R (Bm _ _))
theorem Qu(O:B.C.Ok){A:AL}{N:Nat}(hN:5<=N)(U:AA (N+1) A){xs:Ak}{H:Nat->Value->S->AN}
 (PJ: ∀A',A'=A.under (.forLoop (.Name x0 p0) (J a) body [] env)->AA N A'-> ∀j v,xs[j]? =some v-> ∀(σ:S),AC B.C A' (Bo (.Name x0 p0) env v) (G σ) (λYa:Unit=>()) (λYa=>H j v σ)/\
  AC B.C A' (Ac body env) (AE c xs::H j v σ) (λYa:S=>.next) (λσ'=>AE c xs::G σ')):
 ∀(r j:Nat) (σ:S),j+r=xs.length->AT B.C A (.forLoop (.Name x0 p0) (J a) body [] env) (BQ a c j::AE c xs::G σ) (λYa:S=>.ok .next) (λσ'=>AE c xs::G σ')
 |0,j,σ,h=>by
  have e:=N_ O (A:=A.under (.forLoop (.Name x0 p0) (J a) body [] env)) (U.le (ADj:5+1<=N+1)).loop a c j xs ADj
  exact AT.SQ (X:=Unit) (L1:=λYa=>AE c xs::G σ) (e.frame (G σ)) λYa=>(AT.SN _).weaken λYa=>⟨σ,rfl,λR s S=>S⟩
 |r+1,j,σ,h=>by
  have B8:AA N (A.under (.forLoop (.Name x0 p0) (J a) body [] env)):=U.loop;have hj:j<xs.length:=by lia
  have hx:xs[j]? =some xs[j]:=AJ hj;have h1:=λσ=>(PJ _ rfl B8 j _ hx σ).1;have h2:=λσ=>(PJ _ rfl B8 j _ hx σ).2;refine AT.P2 (fl:=.next) (.inl rfl) (X:=Unit) (v:=λYa=>xs[j]) (L1:=λYa=>BQ a c (j+1)::AE c xs::G σ) (L2:=λYa=>BQ a c (j+1)::AE c xs::G σ) (L3:=λYa=>AE c xs::H j xs[j] σ++[BQ a c (j+1)]) (L4:=λYa y=>AE c xs::G y++[BQ a c (j+1)])
   ((QH O (B8.le hN) a c j xs _ hx).frame (G σ)) (λYa=>IV) (λYa=>?_) (λk=>(h2 σ).frame _) λk y=>?_
  ·refine((h1 σ).frame [BQ a c (j+1),AE c xs]).pre (λR s S=>S.perm (A8 R ?_))|>.post λYa R s S=>S.perm (A8 R ?_)
   ·exact A9 (l₁:=[BQ a c (j+1),AE c xs])
   ·show(H j xs[j] σ++[BQ a c (j+1),AE c xs]).Perm (AE c xs::(H j xs[j] σ++[BQ a c (j+1)]))
    refine List.perm_append_comm.trans ?_
    show(BQ a c (j+1)::AE c xs::H j xs[j] σ).Perm _
    exact(Ae _ _ _).trans (.cons _ (Bm _ _).symm)
  ·exact(Qu O hN U PJ r (j+1) y ADj).pre λR s S=>S.perm (A8 R (Bm _ (AE c xs::G y)).symm.symm)
end
def YQ:Dx:=nB (sN 28 0)
def t_:Expr:=nM BA 254 8 10
def kO:Stmt:=(YQ.drop 1).headD Au
def yb:Expr:=el (vE kO) 0
def yc:Expr:=el (vE kO) 1
section
variable(B:Bx)(A:AL)(O:B.C.Ok)
noncomputable def Sz(U:AA 3 A)(a b t u:Nat)(hb:0<b):Ag B.C A where
 c:=.call (.builtin "int.__mod__") ⟨[.int (a:Int) t,.int (b:Int) u],[]⟩
 F:=[]
 X:=Nat
 res:=λk=>.ok (.ret (.int ((a % b:Nat):Int) k))
 led:=λYa=>[]
 ok:=by
  have h:=Hg (C:=B.C) (A:=A) F.slot_int_mod F.entry_int_mod (F.args_int_mod_2 (.int (a:Int) t) (.int (b:Int) u)) (IA (a:Int) t (b:Int) u (by rw[beq_iff_eq];lia)) (λs=>rfl)
  rw[show(a:Int).fmod (b:Int)=((a % b:Nat):Int) from by rw[Int.fmod_eq_emod_of_nonneg _ ADj];rfl] at h
  exact h
end
abbrev IB(w o:Nat)(t:BC):BC:=(CJ,J w)::(QS,J o)::t
include O
theorem kP(U:AA 6 A)(L w o j k:Nat):
 AS B A (Bo t_ (AR B.P 317 [] (L+323)) (.int (j:Int) k)) [AI L (IB w o [])] () [AI L (IB w o [(BA,.int (j:Int) k)])]:=
 Ef O U (.fr λk0=>.g 6145<|.fi () [0])
theorem kQ(U:AA 6 A)(L w o j k i m y:Nat):
 AS B A (Bo t_ (AR B.P 317 [] (L+323)) (.int (j:Int) k)) [AI L (IB w o [(BA,.int (i:Int) m),(DM,J y)])] () [AI L (IB w o [(BA,.int (j:Int) k),(DM,J y)])]:=
 Ef O U (.fr λk0=>.g 6145<|.fi () [0])
theorem qY(U:AA 10 A)(L w o j k y:Nat)(ws:Ak)(hl:ws.length<=1000)(h0:0<ws.length)(hy:ws[(j+1) % ws.length]? =some (J y)):
 AS B A (Ac (YQ.take 1) (AR B.P 317 [] (L+323))) [AI L (IB w o [(BA,.int (j:Int) k)]),AE w ws] .next [AI L (IB w o [(BA,.int (j:Int) k),(DM,J y)]),AE w ws]:=Ix O U (.g 4161<|.fr λk0=>.cc (F_ _ _ O U.l j k k0) [] λy1=>.g 266240<|.cc (IL O U.l w ws hl) [1] λ(y2:Nat×Nat)=>.cc (Sz _ _ U.l (j+1) ws.length y1 y2.snd h0) [] λy3=>.g 266305<|.cc (BZ O U.l w ((j+1) % ws.length) y3 ws (J y) hy hl) [0] λYa=>.fr λk5=>.g 6210<|.fi () [1,0])
theorem qZ(U:AA 10 A)(L w o j k y y':Nat)(ws:Ak)(hl:ws.length<=1000)(h0:0<ws.length)(hy:ws[(j+1) % ws.length]? =some (J y)):
 AS B A (Ac (YQ.take 1) (AR B.P 317 [] (L+323))) [AI L (IB w o [(BA,.int (j:Int) k),(DM,J y')]),AE w ws] .next [AI L (IB w o [(BA,.int (j:Int) k),(DM,J y)]),AE w ws]:=Ix O U (.g 4161<|.fr λk0=>.cc (F_ _ _ O U.l j k k0) [] λy1=>.g 266240<|.cc (IL O U.l w ws hl) [1] λ(y2:Nat×Nat)=>.cc (Sz _ _ U.l (j+1) ws.length y1 y2.snd h0) [] λy3=>.g 266305<|.cc (BZ O U.l w ((j+1) % ws.length) y3 ws (J y) hy hl) [0] λYa=>.fr λk5=>.g 6210<|.fi () [1,0])
theorem ye(U:AA 30 A)(L L2 w o j k x y:Nat)(a2:BC)(os:Ak)(xs ys:Aa)(hK:C8 A [L,L2])(hl:os.length<=1000)(hx:os[j]? =some (J x))(h1:xs.length<=500)(h2:ys.length<=500):
 AC B.C A (Bf yb (AR B.P 317 [] (L+323))) [AI L (IB w o [(BA,.int (j:Int) k),(DM,J y)]),AE o os,AF x xs,AF y ys,AI L2 a2]
  (λz:Mi (E9 (ns xs) (ns ys))=>J z.t)
  (λz=>[AV z.t [J z.m,J z.u],AF z.m z.ms,AF z.u z.us,AI L (IB w o [(BA,.int (j:Int) k),(DM,J y)]),AE o os,AF x xs,AF y ys,AI L2 a2]):=Jj O U (.g 70901043264<|.cc (BZ O U.l o j k os (J x) hx hl) [1] λYa=>.g 4098<|.cc (Vc _ _ O U.l x y L L2 [(⟨⟨[119,97,121,115]⟩⟩,J w),(⟨⟨[110,97,109,101,100]⟩⟩,J o),(⟨⟨[97,116]⟩⟩,.int (↑j) k),(⟨⟨[111,116,104,101,114]⟩⟩,J y)] a2 xs ys hK h1 h2) [2,2,1,1] λy1=>.fi (y1) [0,0,0,2,3,0,0,0])
theorem yf(U:AA 30 A)(L w o j k x y:Nat)(os:Ak)(xs ys:Aa)(hl:os.length<=1000)(hx:os[j]? =some (J x))(h1:xs.length<=1000)(h2:ys.length<=1000)(h3:xs.length≠0)(h4:ys.length≠0):
 AC B.C A (Bf yc (AR B.P 317 [] (L+323))) [AI L (IB w o [(BA,.int (j:Int) k),(DM,J y)]),AE o os,AF x xs,AF y ys]
  (λq:Gk (D3 (ns xs) (ns ys))×Gk (D3 (ns ys) (ns xs))×Nat=>J q.2.2)
  (λq=>[AV q.2.2 [J q.1.a,J q.2.1.a],AF q.1.a q.1.ys,AF q.2.1.a q.2.1.ys,AI L (IB w o [(BA,.int (j:Int) k),(DM,J y)]),AE o os,AF x xs,AF y ys]):=Jj O U (.g 70901043264<|.cc (BZ O U.l o j k os (J x) hx hl) [1] λYa=>.g 4098<|.cc (S9 O U.l x y xs ys h1 h3) [2,2] λy1=>.g 4677287825728<|.cc (BZ O U.l o j k os (J x) hx hl) [3] λYa=>.g 64<|.cc (S9 O U.l y x ys xs h2 h4) [3,2] λy3=>.al λa4=>.fi (y1,y3,a4) [0,4,0,3,2,1,0])
theorem kR(U:AA 36 A){L L2 w o j k x y:Nat}{a2:BC}{ws os:Ak}{xs ys:Aa}{al:BC}(Zf:al=[]∨ ∃y',al=[(DM,J y')])(hK:C8 A [L,L2])(zM:ws.length<=1000)(h0:0<ws.length)(vA:os.length<=1000)
 (hy:ws[(j+1) % ws.length]? =some (J y)) (hx:os[j]? =some (J x)) (h1:xs.length<=500) (h2:ys.length<=500) (h3:xs.length≠0) (h4:ys.length≠0) (hp:E9 (ns xs) (ns ys)=(D3 (ns xs) (ns ys),D3 (ns ys) (ns xs))):
 AC B.C A (Ac YQ (AR B.P 317 [] (L+323))) [AI L (IB w o ((BA,.int (j:Int) k)::al)),AE w ws,AE o os,AI L2 a2,AF x xs,AF y ys] (λYa:Unit=>.next)
  (λYa=>[AI L (IB w o [(BA,.int (j:Int) k),(DM,J y)]),AE w ws,AE o os,AI L2 a2,AF x xs,AF y ys]):=by
 have e1:AC B.C A (Ac (YQ.take 1) (AR B.P 317 [] (L+323))) [AI L (IB w o ((BA,.int (j:Int) k)::al)),AE w ws] (λYa:Unit=>.next) (λYa=>[AI L (IB w o [(BA,.int (j:Int) k),(DM,J y)]),AE w ws]):=by
  rcases Zf with rfl|⟨y',rfl⟩
  ·exact qY O U.l L w o j k y ws zM h0 hy
  ·exact qZ O U.l L w o j k y y' ws zM h0 hy
 show AC B.C A (Ac (YQ.take 1++[kO]) _) _ _ _;refine AC.seq (l1:=YQ.take 1) (e1.frame [AE o os,AI L2 a2,AF x xs,AF y ys]) λYa=>?_;refine AC.one ?_;show AC B.C A (Qe (.If (.Compare yb [.NotEq] [yc] _) _ [] _) _) _ _ _;refine AC.ML (b:=false) (AC.Fh ((((ye O U.l L L2 w o j k x y a2 os xs ys hK vA hx h1 h2).frame [AE w ws]).ix [0,1,2,2,1,0] rfl))
  (λz=>(((yf O U.l L w o j k x y os xs ys vA hx (AK h1 ADm) (AK h2 ADm) h3 h4).frame [AV z.t [J z.m,J z.u],AF z.m z.ms,AF z.u z.us,AE w ws,AI L2 a2]).ix [3,3,3,3,0,0,0,1,0] rfl))
  (λz q=>Jl (d:=.tuple ([D3 (ns xs) (ns ys),D3 (ns ys) (ns xs)].map Jd)) (AA.Ov (n:=20) U.l) (SS _).1 (SS _).2 λR s S=>⟨?_,?_⟩) rfl) λp=>(AC.nil.ox [3,9,3,8,3,3] λYa=>rfl)
 ·refine S.tuple (a:=z.t+323) (vs:=[J z.m,J z.u]) (IM 7 rfl) (.cons ?_ (.cons ?_ .nil))
  ·exact S.Zk (z.i5.trans (by rw[hp])) (IM 8 rfl)
  ·exact S.Zk (z.Xg.trans (by rw[hp])) (IM 9 rfl)
 ·refine S.tuple (a:=q.2.2+323) (vs:=[J q.1.a,J q.2.1.a]) (IM 0 rfl) (.cons ?_ (.cons ?_ .nil))
  ·exact S.Zk q.1.ok (IM 1 rfl)
  ·exact S.Zk q.2.1.ok (IM 2 rfl)
structure VI(es fs:List IE):Prop where
 len:fs.length=es.length
 n0:0<es.length
 n1:es.length<=100
 be: ∀e∈es,e.ys.length<=500/\e.ys.length≠0
 bf: ∀e∈fs,e.ys.length<=500/\e.ys.length≠0
 eq: ∀j e f,fs[j]? =some f->es[(j+1) % es.length]? =some e->E9 (ns f.ys) (ns e.ys)=(D3 (ns f.ys) (ns e.ys),D3 (ns e.ys) (ns f.ys))
abbrev qX(L L2 w o:Nat)(a2:BC)(es fs:List IE)(al:BC):AN:=[AI L (IB w o al),AE w (es.map IE.v),AE o (fs.map IE.v),AI L2 a2]++[BU fs,BU es]
abbrev yd:Option (Nat×Nat×Nat)->BC
 |none=>[]
 |some (i,m,y)=>[(BA,.int (i:Int) m),(DM,J y)]
abbrev bsH(j k:Nat):Option (Nat×Nat×Nat)->BC
 |none=>[(BA,.int (j:Int) k)]
 |some (i,m,y)=>[(BA,.int (j:Int) k),(DM,J y)]
def Yi(U:AA 40 A)(L L2 w o a n:Nat)(a2:BC)(es fs:List IE)(hK:C8 A [L,L2])(hn:(es.map IE.v).length=n)(h:VI es fs):Ag B.C A where
 c:=.forLoop t_ (J a) YQ [] (AR B.P 317 [] (L+323))
 F:=Fj a ((0:Nat):Int) (n:Int) 1::qX L L2 w o a2 es fs []
 X:=Option (Nat×Nat×Nat)
 res:=λYa=>.ok .next
 led:=λσ=>qX L L2 w o a2 es fs (yd σ)
 ok:=by
  have hl:(es.map IE.v).length=es.length:=AD _;have Mq:(fs.map IE.v).length=fs.length:=AD _
  have:=h.len
  have:=h.n0
  have:=h.n1
  refine AT.call (TR (N:=39) (S:=Option (Nat×Nat×Nat)) (G:=λσ=>qX L L2 w o a2 es fs (yd σ)) (H:=λj k σ=>qX L L2 w o a2 es fs (bsH j k σ)) O (Fv _ _) U (n:=n) (λA' eA B8 j hj k σ=>⟨?_,?_⟩) n 0 none (Nat.add_comm _ _))
  ·rcases σ with _|⟨i,m,y⟩
   ·have e:=kP O (B8.le (Fv _ _:6<=39)) L w o j k
    exact e.frame [AE w (es.map IE.v),AE o (fs.map IE.v),AI L2 a2,BU fs,BU es]
   ·have e:=kQ O (B8.le (Fv _ _:6<=39)) L w o j k i m y
    exact e.frame [AE w (es.map IE.v),AE o (fs.map IE.v),AI L2 a2,BU fs,BU es]
  ·have zJ:(j+1) % es.length<es.length:=Nat.mod_lt _ h.n0
   have mS:j<fs.length:=by lia
   have hy:es[(j+1) % es.length]? =some es[(j+1) % es.length]:=AJ zJ;have hx:fs[j]? =some fs[j]:=AJ mS;obtain⟨b1,b2⟩:=h.be _ (Cn zJ);obtain⟨c1,c2⟩:=h.bf _ (Cn mS);have U3:C8 A' [L,L2]:=by subst eA;exact hK
   have mj:(es.map IE.v)[(j+1) %(es.map IE.v).length]? =some (.ref (es[(j+1) % es.length].a+323)):=by rw[hl,AQ,hy];rfl
   have Qz:(fs.map IE.v)[j]? =some (.ref (fs[j].a+323)):=by rw[AQ,hx];rfl
   have g:=λal Zf=>(kR O (B8.le (Fv _ _:36<=39)) (L:=L) (L2:=L2) (w:=w) (o:=o) (j:=j) (k:=k) (a2:=a2) (al:=al) Zf U3 ADj ADj ADj mj Qz c1 b1 c2 b2 (h.eq j _ _ hx hy)).ni (P:=[_,_,_,_]) (Q:=λYa=>[_,_,_,_]) hx hy
   rcases σ with _|⟨i,m,y⟩
   ·exact(g [] (.inl rfl)).weaken λYa=>⟨some (j,k,_),rfl,λR s S=>S⟩
   ·exact(g _ (.inr ⟨y,rfl⟩)).weaken λYa=>⟨some (j,k,_),rfl,λR s S=>S⟩
theorem WY(U:AA 44 A)(L L2 w o:Nat)(a2:BC)(es fs:List IE)(hK:C8 A [L,L2])(h:VI es fs)(hl:(es.map IE.v).length<=1000):
 AS B A (Ac (A4 B.P 317) (AR B.P 317 [] (L+323))) ((AI L (IB w o [])::AE w (es.map IE.v)::AE o (fs.map IE.v)::AI L2 a2::[BU fs,BU es])) (.ret (.bool true)) (((AE w (es.map IE.v)::AE o (fs.map IE.v)::AI L2 a2::[BU fs,BU es]))):=by
 obtain⟨_,_|_⟩:=B<;>exact D7 O U (.g 1090519040<|.cc (IL O U.l w (B0 IE.v es) hl) [1] λ(y0:Nat×Nat)=>.cc (KD O U.l ((B0 IE.v es).length) y0.snd) [] λ(y1:Nat×Nat×Nat)=>.g 4161<|.cc (NG O U.l y1.fst ((B0 IE.v es).length) y1.snd.fst y0.snd y1.snd.snd hl) [0] λ(y2:Nat)=>.g 65<|.cc (Yi O U.l L L2 w o y2 ((B0 IE.v es).length) a2 es fs hK (by first|rfl|lia|assumption) h) [0,2,1,1,1,1,1] λYa=>.fi () [1,1,1,1,1])
def Yh(U:AA 46 A)(w o L2:Nat)(a2:BC)(es fs:List IE)(hK:C8 A [L2])(h:VI es fs):Ag B.C A where
 c:=.call (.ref 317) ⟨[J w,J o],[]⟩
 F:=[AE w (es.map IE.v),AE o (fs.map IE.v),AI L2 a2,BU fs,BU es]
 X:=Unit
 res:=λYa=>.ok (.ret (.bool true))
 led:=λYa=>[AE w (es.map IE.v),AE o (fs.map IE.v),AI L2 a2,BU fs,BU es]
 ok:=EU O U [(CJ,J w),(QS,J o)]
  (λL=>BK (fl:=λYa:Unit=>.ret (.bool true)) (by
   refine WY O (AA.deeper U.l) L L2 w o a2 es fs (hK.deeper rfl ?_) h (by rw[AD];have:=h.n1;exact AK this ADm)
   show(D4 B.P 317).scope.kind≠.module;exact(by kernel_rfl:(D4 B.P 317).scope.kind=.function)▸ADm))
def prB:Dx:=nB (sN 27 0)
def r9:Expr:=nM Ca 246 8 11
def PQ:Dx:=nB (hS (nB (sN 27 0)) 0)
def td:Expr:=nM Dr 247 12 15
def Dz:Expr:=o0 (vE (hS (nB (hS (nB (sN 27 0)) 0)) 0))
def E7:Expr:=el (vE (hS (nB (hS (nB (sN 27 0)) 0)) 1)) 0
def E8:Expr:=el (vE (hS (nB (hS (nB (sN 27 0)) 0)) 1)) 1
def prQ:Str:=Bl [95,108,97,119,95,112,97,105,114,115,46,60,108,111,99,97,108,115,62,46]
abbrev Cz(e:Expr)(cl:List (Str×Addr))(L D:Nat):Env:=FM (qa e) prQ 309 cl L D
theorem Vz(U:AA 6 A)(c1 c2 L D j k:Nat):
 AS B A (Bo (Cp Dz) (Cz Dz [(Dr,c1+323)] L D) (.int (j:Int) k)) [As D []] () [As D [(BD,.int (j:Int) k)]]:=
 Ef O U (.fr λk0=>.g 6145<|.fi () [0])
theorem V0(U:AA 6 A)(c1 c2 L D j k i m:Nat):
 AS B A (Bo (Cp Dz) (Cz Dz [(Dr,c1+323)] L D) (.int (j:Int) k)) [As D [(BD,.int (i:Int) m)]] () [As D [(BD,.int (j:Int) k)]]:=
 Ef O U (.fr λk0=>.g 6145<|.fi () [0])
theorem oJ(U:AA 6 A)(c1 c2 L D v k:Nat):
 AS B A (Bf (DL Dz) (Cz Dz [(Dr,c1+323)] L D)) [As D [(BD,.int (v:Int) k)]] (Be (v:Int) k) [As D [(BD,.int (v:Int) k)]]:=
 H_ O U (.g 65<|.fi () [0])
theorem i9(U:AA 6 A)(c1 c2 L D j k:Nat):
 AS B A (Bo (Cp E7) (Cz E7 [(DX,c2+323)] L D) (.int (j:Int) k)) [As D []] () [As D [(BD,.int (j:Int) k)]]:=
 Ef O U (.fr λk0=>.g 6145<|.fi () [0])
theorem i_(U:AA 6 A)(c1 c2 L D j k i m:Nat):
 AS B A (Bo (Cp E7) (Cz E7 [(DX,c2+323)] L D) (.int (j:Int) k)) [As D [(BD,.int (i:Int) m)]] () [As D [(BD,.int (j:Int) k)]]:=
 Ef O U (.fr λk0=>.g 6145<|.fi () [0])
theorem oK(U:AA 6 A)(c1 c2 L D v k:Nat):
 AS B A (Bf (DL E7) (Cz E7 [(DX,c2+323)] L D)) [As D [(BD,.int (v:Int) k)]] (Be (v:Int) k) [As D [(BD,.int (v:Int) k)]]:=
 H_ O U (.g 65<|.fi () [0])
theorem jC(U:AA 6 A)(c1 c2 L D j k:Nat):
 AS B A (Bo (Cp E8) (Cz E8 [(DX,c2+323)] L D) (.int (j:Int) k)) [As D []] () [As D [(BD,.int (j:Int) k)]]:=
 Ef O U (.fr λk0=>.g 6145<|.fi () [0])
theorem jD(U:AA 6 A)(c1 c2 L D j k i m:Nat):
 AS B A (Bo (Cp E8) (Cz E8 [(DX,c2+323)] L D) (.int (j:Int) k)) [As D [(BD,.int (i:Int) m)]] () [As D [(BD,.int (j:Int) k)]]:=
 Ef O U (.fr λk0=>.g 6145<|.fi () [0])
theorem oL(U:AA 6 A)(c1 c2 L D v k:Nat):
 AS B A (Bf (DL E8) (Cz E8 [(DX,c2+323)] L D)) [As D [(BD,.int (v:Int) k)]] (Be (v:Int) k) [As D [(BD,.int (v:Int) k)]]:=
 H_ O U (.g 65<|.fi () [0])
theorem xL(U:AA 6 A)(c1 c2 L D m t v k:Nat)(h1: ¬((v:Int)<(m:Int))):
 AS B A (isTrue (C9 E7) (Cz E7 [(DX,c2+323)] L D) (Bf (C9 E7) (Cz E7 [(DX,c2+323)] L D))) [As D [(BD,.int (v:Int) k)],AW c2 (.int (m:Int) t)] false [As D [(BD,.int (v:Int) k)],AW c2 (.int (m:Int) t)]:=by
 obtain⟨_,_|_⟩:=B<;>exact Q6 O U (.g 4225<|.cc (II _ _ O U.l ↑v ↑m k t h1) [] λYa=>.fi () [0,0])
theorem xM(U:AA 6 A)(c1 c2 L D m t v k:Nat)(h1:(v:Int)<(m:Int)):
 AS B A (isTrue (C9 E7) (Cz E7 [(DX,c2+323)] L D) (Bf (C9 E7) (Cz E7 [(DX,c2+323)] L D))) [As D [(BD,.int (v:Int) k)],AW c2 (.int (m:Int) t)] true [As D [(BD,.int (v:Int) k)],AW c2 (.int (m:Int) t)]:=by
 obtain⟨_,_|_⟩:=B<;>exact Q6 O U (.g 4225<|.cc (IJ _ _ O U.l ↑v ↑m k t h1) [] λYa=>.fi () [0,0])
theorem xN(U:AA 6 A)(c1 c2 L D m t v k:Nat)(h1: ¬((v:Int)<(m:Int))):
 AS B A (isTrue (C9 E8) (Cz E8 [(DX,c2+323)] L D) (Bf (C9 E8) (Cz E8 [(DX,c2+323)] L D))) [As D [(BD,.int (v:Int) k)],AW c2 (.int (m:Int) t)] false [As D [(BD,.int (v:Int) k)],AW c2 (.int (m:Int) t)]:=by
 obtain⟨_,_|_⟩:=B<;>exact Q6 O U (.g 4225<|.cc (II _ _ O U.l ↑v ↑m k t h1) [] λYa=>.fi () [0,0])
theorem xO(U:AA 6 A)(c1 c2 L D m t v k:Nat)(h1:(v:Int)<(m:Int)):
 AS B A (isTrue (C9 E8) (Cz E8 [(DX,c2+323)] L D) (Bf (C9 E8) (Cz E8 [(DX,c2+323)] L D))) [As D [(BD,.int (v:Int) k)],AW c2 (.int (m:Int) t)] true [As D [(BD,.int (v:Int) k)],AW c2 (.int (m:Int) t)]:=by
 obtain⟨_,_|_⟩:=B<;>exact Q6 O U (.g 4225<|.cc (IJ _ _ O U.l ↑v ↑m k t h1) [] λYa=>.fi () [0,0])
theorem xJ(U:AA 6 A)(c1 c2 L D y v k:Nat)(ys:Aa)(h1:v∉ns ys):
 AS B A (isTrue (C9 Dz) (Cz Dz [(Dr,c1+323)] L D) (Bf (C9 Dz) (Cz Dz [(Dr,c1+323)] L D))) [As D [(BD,.int (v:Int) k)],AW c1 (J y),AF y ys] false [As D [(BD,.int (v:Int) k)],AW c1 (J y),AF y ys]:=Xk O U (.g 17576065<|.cc (ND _ _ U.l y v k ys h1) [2] λYa=>.fi () [1,1,0])
theorem xK(U:AA 6 A)(c1 c2 L D y v k:Nat)(ys:Aa)(h1:v∈ns ys):
 AS B A (isTrue (C9 Dz) (Cz Dz [(Dr,c1+323)] L D) (Bf (C9 Dz) (Cz Dz [(Dr,c1+323)] L D))) [As D [(BD,.int (v:Int) k)],AW c1 (J y),AF y ys] true [As D [(BD,.int (v:Int) k)],AW c1 (J y),AF y ys]:=Xk O U (.g 17576065<|.cc (Ps _ _ U.l y v k ys h1) [2] λYa=>.fi () [1,1,0])
noncomputable def Je(l:Ay)(p:Nat->Bool)(j:Nat):Ay:=match l[j]? with
 |none=>[]
 |some v=>if p v then [v] else []
omit O
theorem WL(l:Ay)(p:Nat->Bool): ∀j,Hp (Je l p) j=(l.take j).filter p
 |0=>by simp[Hp]
 |j+1=>by
  rw[FJ,WL l p j,FF,PY]
  congr 1
  unfold Je;cases l[j]? with
  |none=>rfl
  |some v=>by_cases h:p v<;>simp[h]
theorem Nn(l:Ay)(p:Nat->Bool):Hp (Je l p) l.length=l.filter p:=by rw[WL,Gc]
theorem NN(l:Ay)(p:Nat->Bool)(j:Nat):(Je l p j).length<=1:=by unfold Je;split<;>(try split)<;>simp
theorem K2{l:Ay}{p:Nat->Bool}{j:Nat}(h:l.length<=j):Je l p j=[]:=by unfold Je;rw[B7 h]
theorem Nl{C:Cx}{A:AL}{cond elt:Expr}{env:Env}{F:AN}{xs:Aa}{p:Nat->Bool}{j v k:Nat}(hx:xs[j]? =some (v,k))(hc:AC C A (isTrue cond env (Bf cond env)) F (λYa:Unit=>p v) (λYa=>F))
 (he:AC C A (Bf elt env) F (λYa:Unit=>Be (v:Int) k) (λYa=>F)):Sd C A [cond] elt env F (Je (ns xs) p j):=by
 have e:Je (ns xs) p j=if p v then [v] else []:=by
  unfold Je;rw[show(ns xs)[j]? =some v from by unfold ns;rw[AQ,hx];rfl]
 by_cases h:p v=true
 ·rw[h] at hc
  exact .inl ⟨v,by rw[e,if_pos h],Jc hc,he.weaken λYa=>⟨k,rfl,λR s S=>S⟩⟩
 ·have h':p v=false:=by cases hp:p v with|true=>exact absurd hp h|false=>rfl
  rw[h'] at hc;exact .inr ⟨by rw[e,if_neg h],Jc hc⟩
abbrev GC(xs:Aa):Nat:=(xs.headD (0,0)).1
abbrev Ho(xs:Aa):Nat:=(xs.headD (0,0)).2
structure JW(m:Nat) where
 ys:Aa
 hd:GC ys=m
 n0:ys≠[]
 le:ys.length<=900
 k:Nat
 t:Nat
theorem oH{l:Ay}{m:Nat}(h:l.head?=some m){ys:Aa}(ok:ns ys=l):GC ys=m/\ys≠[]:=by
 subst ok;cases ys with
 |nil=>cases h
 |cons a r=>cases h;exact⟨rfl,by simp⟩
section
variable(B:Bx)(A:AL)(O:B.C.Ok)
def MC(U:AA 3 A)(x t:Nat)(xs:Aa)(h0:xs≠[])(h:xs.length<=900):Ag B.C A:=
 (Ci B A O U x 0 t (GC xs) (Ho xs) xs (by cases xs with|nil=>exact absurd rfl h0|cons a r=>rfl) ADj).re (λYa:Unit=>.ok (.ret (.int ((GC xs:Nat):Int) (Ho xs)))) (λYa=>[AF x xs]) (λa=>a) (λYa=>rfl) (λYa=>rfl)
theorem V1{B:Bx}(O:B.C.Ok){A:AL}(U:AA 6 A)(c1 c2 L D y v k:Nat)(ys:Aa):
 AC B.C A (isTrue (C9 Dz) (Cz Dz [(Dr,c1+323)] L D) (Bf (C9 Dz) (Cz Dz [(Dr,c1+323)] L D))) [As D [(BD,.int (v:Int) k)],AW c1 (J y),AF y ys] (λYa:Unit=>decide (v∈ns ys)) (λYa=>[As D [(BD,.int (v:Int) k)],AW c1 (J y),AF y ys]):=by
 by_cases h:v∈ns ys
 ·rw[decide_eq_true h]
  have e:=xK O U c1 c2 L D y v k ys h;exact e
 ·rw[decide_eq_false h]
  exact xJ O U c1 c2 L D y v k ys h
theorem V2{B:Bx}(O:B.C.Ok){A:AL}(U:AA 6 A)(c1 c2 L D v k:Nat)(F:AN):AC B.C A (Bf (DL Dz) (Cz Dz [(Dr,c1+323)] L D)) (As D [(BD,.int (v:Int) k)]::F) (λYa:Unit=>Be (v:Int) k) (λYa=>As D [(BD,.int (v:Int) k)]::F):=by
 exact(oJ O U c1 c2 L D v k).frame F
def Yx(U:AA 7 A)(L D c1 a acc x y m:Nat)(xs ys:Aa)(hl:xs.length<=900)(hm:((ns xs).filter λv=>decide (v∈ns ys)).head?=some m):Ag B.C A where
 c:=.compStart Dz 0 (J a) (J acc) (Cz Dz [(Dr,c1+323)] L D)
 F:=[As D [],AE acc [],BQ a x 0,AF x xs,AW c1 (J y),AF y ys]
 X:=JW m
 res:=λYa=>.ok .next
 led:=λq=>[As D [(BD,.int (q.k:Int) q.t)],AF acc q.ys,AF x xs,AW c1 (J y),AF y ys]
 ok:=by
  have hlen:(ns xs).length=xs.length:=AD _;have h0:xs≠[]:=λe=>by subst e;cases hm
  have h:=Io (B:=B) (A:=A) (elt:=DL Dz) (ifs:=[C9 Dz]) (iter:=Hf Dz) (x0:=BD) (p0:=(Cp Dz).pos) (sc:=Gh Dz) (pos:=Dz.pos) (env:=Cz Dz [(Dr,c1+323)] L D) (D:=D) (acc:=acc) (a:=a) (c:=x) (G:=[AW c1 (J y),AF y ys]) (xs:=xs) (f:=Je (ns xs) λv=>decide (v∈ns ys)) O U
   (NN _ _) (λj hj=>K2 ADj) ADj h0
   (λA' h j k l hl=>by
    rcases hl with rfl|⟨i,m,rfl⟩
    ·exact Vz O h c1 0 L D j k
    ·exact V0 O h c1 0 L D j k i m)
   (λA' h j v k hx=>Nl hx (((V1 O h c1 0 L D y v k ys).frame [AF x xs]).pre (pk [0,1,1,0] rfl)|>.ox [0,2,0,0] λYa=>rfl) (V2 O h c1 0 L D v k _))
  rw[<-hlen,Nn] at h;refine AC.weaken h λy=>?_;have hy:y.ys.length<=900:=by
   have:=congrArg C7 y.ok
   have h2:=Mz (λv=>decide (v∈ns ys)) (ns xs);unfold ns at this h2 hlen;rw[AD] at this
   lia
  obtain⟨e1,e2⟩:=oH hm y.ok;exact⟨⟨y.ys,e1,e2,hy,y.k,y.t⟩,rfl,λR s S=>S⟩
def Vb(U:AA 7 A)(L D c1 a acc x m:Nat)(xs:Aa)(hl:xs.length<=900)(hm:((ns xs).filter λv=>decide (v∈ns xs)).head?=some m):Ag B.C A where
 c:=.compStart Dz 0 (J a) (J acc) (Cz Dz [(Dr,c1+323)] L D)
 F:=[As D [],AE acc [],BQ a x 0,AF x xs,AW c1 (J x)]
 X:=JW m
 res:=λYa=>.ok .next
 led:=λq=>[As D [(BD,.int (q.k:Int) q.t)],AF acc q.ys,AF x xs,AW c1 (J x)]
 ok:=by
  have hlen:(ns xs).length=xs.length:=AD _;have h0:xs≠[]:=λe=>by subst e;cases hm
  have h:=Io (B:=B) (A:=A) (elt:=DL Dz) (ifs:=[C9 Dz]) (iter:=Hf Dz) (x0:=BD) (p0:=(Cp Dz).pos) (sc:=Gh Dz) (pos:=Dz.pos) (env:=Cz Dz [(Dr,c1+323)] L D) (D:=D) (acc:=acc) (a:=a) (c:=x) (G:=[AW c1 (J x)]) (xs:=xs) (f:=Je (ns xs) λv=>decide (v∈ns xs)) O U
   (NN _ _) (λj hj=>K2 ADj) ADj h0
   (λA' h j k l hl=>by
    rcases hl with rfl|⟨i,m,rfl⟩
    ·exact Vz O h c1 0 L D j k
    ·exact V0 O h c1 0 L D j k i m)
   (λA' h j v k hx=>Nl hx ((V1 O h c1 0 L D x v k xs).pre (pk [0,1,0] rfl)|>.ox [0,1,0] λYa=>rfl) (V2 O h c1 0 L D v k _))
  rw[<-hlen,Nn] at h;refine AC.weaken h λy=>?_;have hy:y.ys.length<=900:=by
   have:=congrArg C7 y.ok
   have h2:=Mz (λv=>decide (v∈ns xs)) (ns xs);unfold ns at this h2 hlen;rw[AD] at this
   lia
  obtain⟨e1,e2⟩:=oH hm y.ok;exact⟨⟨y.ys,e1,e2,hy,y.k,y.t⟩,rfl,λR s S=>S⟩
theorem jA{B:Bx}(O:B.C.Ok){A:AL}(U:AA 6 A)(c1 c2 L D m t v k:Nat):
 AC B.C A (isTrue (C9 E7) (Cz E7 [(DX,c2+323)] L D) (Bf (C9 E7) (Cz E7 [(DX,c2+323)] L D))) [As D [(BD,.int (v:Int) k)],AW c2 (.int (m:Int) t)] (λYa:Unit=>decide (v<m)) (λYa=>[As D [(BD,.int (v:Int) k)],AW c2 (.int (m:Int) t)]):=by
 by_cases h:v<m
 ·rw[decide_eq_true h]
  have e:=xM O U c1 c2 L D m t v k ADj
  exact e
 ·rw[decide_eq_false h]
  exact xL O U c1 c2 L D m t v k ADj
theorem jB{B:Bx}(O:B.C.Ok){A:AL}(U:AA 6 A)(c1 c2 L D v k:Nat)(F:AN):AC B.C A (Bf (DL E7) (Cz E7 [(DX,c2+323)] L D)) (As D [(BD,.int (v:Int) k)]::F) (λYa:Unit=>Be (v:Int) k) (λYa=>As D [(BD,.int (v:Int) k)]::F):=by
 exact(oK O U c1 c2 L D v k).frame F
def Pt(U:AA 7 A)(L D c2 a acc x m t:Nat)(xs:Aa)(hl:xs.length<=900)(h0:xs≠[]):Ag B.C A where
 c:=.compStart E7 0 (J a) (J acc) (Cz E7 [(DX,c2+323)] L D)
 F:=[As D [],AE acc [],BQ a x 0,AF x xs,AW c2 (.int (m:Int) t)]
 X:=Qj ((ns xs).filter λv=>decide (v<m))
 res:=λYa=>.ok .next
 led:=λq=>[As D [(BD,.int (q.k:Int) q.t)],AF acc q.ys,AF x xs,AW c2 (.int (m:Int) t)]
 ok:=by
  have hlen:(ns xs).length=xs.length:=AD _;have h:=Io (B:=B) (A:=A) (elt:=DL E7) (ifs:=[C9 E7]) (iter:=Hf E7) (x0:=BD) (p0:=(Cp E7).pos) (sc:=Gh E7) (pos:=E7.pos) (env:=Cz E7 [(DX,c2+323)] L D) (D:=D) (acc:=acc) (a:=a) (c:=x) (G:=[AW c2 (.int (m:Int) t)]) (xs:=xs) (f:=Je (ns xs) λv=>decide (v<m)) O U
   (NN _ _) (λj hj=>K2 ADj) ADj h0
   (λA' h j k l hl=>by
    rcases hl with rfl|⟨i,m,rfl⟩
    ·exact i9 O h 0 c2 L D j k
    ·exact i_ O h 0 c2 L D j k i m)
   (λA' h j v k hx=>Nl hx (((jA O h 0 c2 L D m t v k).frame [AF x xs]).pre (pk [0,1,0] rfl)|>.ox [0,1,0] λYa=>rfl) (jB O h 0 c2 L D v k _))
  rw[<-hlen,Nn] at h;exact h
theorem jE{B:Bx}(O:B.C.Ok){A:AL}(U:AA 6 A)(c1 c2 L D m t v k:Nat):
 AC B.C A (isTrue (C9 E8) (Cz E8 [(DX,c2+323)] L D) (Bf (C9 E8) (Cz E8 [(DX,c2+323)] L D))) [As D [(BD,.int (v:Int) k)],AW c2 (.int (m:Int) t)] (λYa:Unit=>decide (v<m)) (λYa=>[As D [(BD,.int (v:Int) k)],AW c2 (.int (m:Int) t)]):=by
 by_cases h:v<m
 ·rw[decide_eq_true h]
  have e:=xO O U c1 c2 L D m t v k ADj
  exact e
 ·rw[decide_eq_false h]
  exact xN O U c1 c2 L D m t v k ADj
theorem jF{B:Bx}(O:B.C.Ok){A:AL}(U:AA 6 A)(c1 c2 L D v k:Nat)(F:AN):AC B.C A (Bf (DL E8) (Cz E8 [(DX,c2+323)] L D)) (As D [(BD,.int (v:Int) k)]::F) (λYa:Unit=>Be (v:Int) k) (λYa=>As D [(BD,.int (v:Int) k)]::F):=by
 exact(oL O U c1 c2 L D v k).frame F
def Pu(U:AA 7 A)(L D c2 a acc x m t:Nat)(xs:Aa)(hl:xs.length<=900)(h0:xs≠[]):Ag B.C A where
 c:=.compStart E8 0 (J a) (J acc) (Cz E8 [(DX,c2+323)] L D)
 F:=[As D [],AE acc [],BQ a x 0,AF x xs,AW c2 (.int (m:Int) t)]
 X:=Qj ((ns xs).filter λv=>decide (v<m))
 res:=λYa=>.ok .next
 led:=λq=>[As D [(BD,.int (q.k:Int) q.t)],AF acc q.ys,AF x xs,AW c2 (.int (m:Int) t)]
 ok:=by
  have hlen:(ns xs).length=xs.length:=AD _;have h:=Io (B:=B) (A:=A) (elt:=DL E8) (ifs:=[C9 E8]) (iter:=Hf E8) (x0:=BD) (p0:=(Cp E8).pos) (sc:=Gh E8) (pos:=E8.pos) (env:=Cz E8 [(DX,c2+323)] L D) (D:=D) (acc:=acc) (a:=a) (c:=x) (G:=[AW c2 (.int (m:Int) t)]) (xs:=xs) (f:=Je (ns xs) λv=>decide (v<m)) O U
   (NN _ _) (λj hj=>K2 ADj) ADj h0
   (λA' h j k l hl=>by
    rcases hl with rfl|⟨i,m,rfl⟩
    ·exact jC O h 0 c2 L D j k
    ·exact jD O h 0 c2 L D j k i m)
   (λA' h j v k hx=>Nl hx (((jE O h 0 c2 L D m t v k).frame [AF x xs]).pre (pk [0,1,0] rfl)|>.ox [0,1,0] λYa=>rfl) (jF O h 0 c2 L D v k _))
  rw[<-hlen,Nn] at h;exact h
end
noncomputable abbrev C3(a:Nat)(o:DP):Bi:=.one (a+323) (.ex ⟨.type "cell",none,.cell o,⟨[]⟩⟩)
abbrev Hb(c1 c2:Nat):List (Str×Addr):=[(DX,c2+323),(Dr,c1+323)]
structure WQ(m:Nat)(l1 l2:Ay) where
 q:JW m
 y1:Qj (l1.filter λv=>decide (v<GC q.ys))
 y2:Qj (l2.filter λv=>decide (v<GC q.ys))
 t:Nat
 a:Nat
 b:Nat
abbrev HE(L c1 c2 w x y:Nat){m:Nat}{l1 l2:Ay}(z:WQ m l1 l2):AN:=[AI L [(CJ,J w),(Ca,J x),(E_,J z.t)],AW c1 (J y),AW c2 (.int ((GC z.q.ys:Nat):Int) (Ho z.q.ys)),AV z.t [J z.a,J z.b],AF z.a z.y1.ys,AF z.b z.y2.ys]
def ek:Stmt:=(PQ.drop 2).headD Au
def Rn:Expr:=el (vE ek) 0
def V3:Expr:=el (vE ek) 1
def prL:Expr:=el V3 0
def prR:Expr:=el V3 1
include O
theorem r_(U:AA 6 A)(L c1 c2 y:Nat)(o:DP):
 AS B A (Bo td (AR B.P 310 (Hb c1 c2) (L+323)) (J y)) [C3 c1 o] () [AW c1 (J y)]:=
 Ef O U (.g 6145<|.fi () [0])
theorem xP(U:AA 20 A)(L c1 c2 w x y m:Nat)(o:DP)(xs ys:Aa)(hl:xs.length<=900)(h0:xs≠[])(Mq:ys.length<=900)(uN:ys≠[])(hm:((ns xs).filter λv=>decide (v∈ns ys)).head?=some m):
 AC B.C A (Ac (PQ.take 2) (AR B.P 310 (Hb c1 c2) (L+323))) [AI L [(CJ,J w),(Ca,J x)],AW c1 (J y),C3 c2 o,AF x xs,AF y ys]
  (λz:WQ m (ns xs) (ns ys)=>.next)
  (λz=>((HE L c1 c2 w x y z++[AF x xs,AF y ys]))):=by
 obtain⟨_,_|_⟩:=B<;>exact D7 O U (.g 278785<|.cc (Bt O U.l x (xs.map iv)) [3] λ(y0:Nat)=>.g 65<|.al λa1=>.al λa2=>.cc (Yx _ _ O U.l L a2 c1 y0 a1 x y m xs ys hl hm) [0,0,0,0,1,2] λ(y3:JW m)=>.g 393281<|.fr λk4=>.g 270466<|.cc (MC _ _ O U.l a1 k4 y3.ys (by first|lia|assumption|exact JW.le _|exact JW.n0 _) (by first|lia|assumption|exact JW.le _|exact JW.n0 _)) [1] λYa=>.cc (Dp O U.l) [] λYa=>.g 1124886919<|.cc (Bt O U.l x (xs.map iv)) [2] λy7=>.g 65<|.al λa8=>.al λa9=>.cc (Pt _ _ O U.l L a9 c2 y7 a8 x (GC y3.ys) (Ho y3.ys) xs hl h0) [0,0,0,0,5] λRF=>.g 77445595201<|.cc (Bt O U.l y (ys.map iv)) [7] λNp=>.g 65<|.al λIF=>.al λOK=>.cc (Pu _ _ O U.l L OK c2 Np IF y (GC y3.ys) (Ho y3.ys) ys Mq uN) [0,0,0,0,3] λOS=>.g 393281<|.al λaZ=>.fr λTi=>.g 6860<|.fi (⟨y3,RF,OS,aZ,a8,IF⟩) [11,10,4,0,4,1,3,1])
theorem xQ(U:AA 20 A)(L c1 c2 w x y m t:Nat)(o:DP)(xs ys:Aa)(hl:xs.length<=900)(h0:xs≠[])(Mq:ys.length<=900)(uN:ys≠[])(hm:((ns xs).filter λv=>decide (v∈ns ys)).head?=some m):
 AC B.C A (Ac (PQ.take 2) (AR B.P 310 (Hb c1 c2) (L+323))) [AI L [(CJ,J w),(Ca,J x),(E_,J t)],AW c1 (J y),C3 c2 o,AF x xs,AF y ys]
  (λz:WQ m (ns xs) (ns ys)=>.next)
  (λz=>((HE L c1 c2 w x y z++[AF x xs,AF y ys]))):=by
 obtain⟨_,_|_⟩:=B<;>exact D7 O U (.g 278785<|.cc (Bt O U.l x (xs.map iv)) [3] λ(y0:Nat)=>.g 65<|.al λa1=>.al λa2=>.cc (Yx _ _ O U.l L a2 c1 y0 a1 x y m xs ys hl hm) [0,0,0,0,1,2] λ(y3:JW m)=>.g 393281<|.fr λk4=>.g 270466<|.cc (MC _ _ O U.l a1 k4 y3.ys (by first|lia|assumption|exact JW.le _|exact JW.n0 _) (by first|lia|assumption|exact JW.le _|exact JW.n0 _)) [1] λYa=>.cc (Dp O U.l) [] λYa=>.g 1124886919<|.cc (Bt O U.l x (xs.map iv)) [2] λy7=>.g 65<|.al λa8=>.al λa9=>.cc (Pt _ _ O U.l L a9 c2 y7 a8 x (GC y3.ys) (Ho y3.ys) xs hl h0) [0,0,0,0,5] λRF=>.g 77445595201<|.cc (Bt O U.l y (ys.map iv)) [7] λNp=>.g 65<|.al λIF=>.al λOK=>.cc (Pu _ _ O U.l L OK c2 Np IF y (GC y3.ys) (Ho y3.ys) ys Mq uN) [0,0,0,0,3] λOS=>.g 393281<|.al λaZ=>.fr λTi=>.g 6860<|.fi (⟨y3,RF,OS,aZ,a8,IF⟩) [11,10,4,0,4,1,3,1])
theorem sA(U:AA 20 A)(L c1 c2 w x m:Nat)(o:DP)(xs:Aa)(hl:xs.length<=900)(h0:xs≠[])(hm:((ns xs).filter λv=>decide (v∈ns xs)).head?=some m):
 AC B.C A (Ac (PQ.take 2) (AR B.P 310 (Hb c1 c2) (L+323))) [AI L [(CJ,J w),(Ca,J x)],AW c1 (J x),C3 c2 o,AF x xs]
  (λz:WQ m (ns xs) (ns xs)=>.next)
  (λz=>((HE L c1 c2 w x x z++[AF x xs]))):=by
 obtain⟨_,_|_⟩:=B<;>exact D7 O U (.g 278785<|.cc (Bt O U.l x (xs.map iv)) [3] λ(y0:Nat)=>.g 65<|.al λa1=>.al λa2=>.cc (Vb _ _ O U.l L a2 c1 y0 a1 x m xs hl hm) [0,0,0,0,1] λ(y3:JW m)=>.g 393281<|.fr λk4=>.g 270466<|.cc (MC _ _ O U.l a1 k4 y3.ys (by first|lia|assumption|exact JW.le _|exact JW.n0 _) (by first|lia|assumption|exact JW.le _|exact JW.n0 _)) [1] λYa=>.cc (Dp O U.l) [] λYa=>.g 1124882758<|.cc (Bt O U.l x (xs.map iv)) [2] λy7=>.g 65<|.al λa8=>.al λa9=>.cc (Pt _ _ O U.l L a9 c2 y7 a8 x (GC y3.ys) (Ho y3.ys) xs hl h0) [0,0,0,0,4] λRF=>.g 71993000001<|.cc (Bt O U.l x (xs.map iv)) [2] λNp=>.g 65<|.al λIF=>.al λOK=>.cc (Pu _ _ O U.l L OK c2 Np IF x (GC y3.ys) (Ho y3.ys) xs hl h0) [0,0,0,0,2] λOS=>.g 393281<|.al λaZ=>.fr λTi=>.g 6795<|.fi (⟨y3,RF,OS,aZ,a8,IF⟩) [10,9,4,0,4,1,1])
theorem sB(U:AA 20 A)(L c1 c2 w x m t:Nat)(o:DP)(xs:Aa)(hl:xs.length<=900)(h0:xs≠[])(hm:((ns xs).filter λv=>decide (v∈ns xs)).head?=some m):
 AC B.C A (Ac (PQ.take 2) (AR B.P 310 (Hb c1 c2) (L+323))) [AI L [(CJ,J w),(Ca,J x),(E_,J t)],AW c1 (J x),C3 c2 o,AF x xs]
  (λz:WQ m (ns xs) (ns xs)=>.next)
  (λz=>((HE L c1 c2 w x x z++[AF x xs]))):=by
 obtain⟨_,_|_⟩:=B<;>exact D7 O U (.g 278785<|.cc (Bt O U.l x (xs.map iv)) [3] λ(y0:Nat)=>.g 65<|.al λa1=>.al λa2=>.cc (Vb _ _ O U.l L a2 c1 y0 a1 x m xs hl hm) [0,0,0,0,1] λ(y3:JW m)=>.g 393281<|.fr λk4=>.g 270466<|.cc (MC _ _ O U.l a1 k4 y3.ys (by first|lia|assumption|exact JW.le _|exact JW.n0 _) (by first|lia|assumption|exact JW.le _|exact JW.n0 _)) [1] λYa=>.cc (Dp O U.l) [] λYa=>.g 1124882758<|.cc (Bt O U.l x (xs.map iv)) [2] λy7=>.g 65<|.al λa8=>.al λa9=>.cc (Pt _ _ O U.l L a9 c2 y7 a8 x (GC y3.ys) (Ho y3.ys) xs hl h0) [0,0,0,0,4] λRF=>.g 71993000001<|.cc (Bt O U.l x (xs.map iv)) [2] λNp=>.g 65<|.al λIF=>.al λOK=>.cc (Pu _ _ O U.l L OK c2 Np IF x (GC y3.ys) (Ho y3.ys) xs hl h0) [0,0,0,0,2] λOS=>.g 393281<|.al λaZ=>.fr λTi=>.g 6795<|.fi (⟨y3,RF,OS,aZ,a8,IF⟩) [10,9,4,0,4,1,1])
theorem oP(U:AA 10 A)(L c1 c2 w x y i j t u:Nat)(al:BC)(xs ys:Aa)(hx:xs[0]? =some (i,t))(hy:ys[0]? =some (j,u))(h1:xs.length<=1000)(h2:ys.length<=1000)(h:(i:Int)<(j:Int)):
 AS B A (isTrue Rn (AR B.P 310 (Hb c1 c2) (L+323)) (Bf Rn (AR B.P 310 (Hb c1 c2) (L+323)))) [AI L ((CJ,J w)::(Ca,J x)::al),AW c1 (J y),AF x xs,AF y ys] true [AI L ((CJ,J w)::(Ca,J x)::al),AW c1 (J y),AF x xs,AF y ys]:=by
 obtain⟨_,_|_⟩:=B<;>exact Q6 O U (.g 65<|.fr λk0=>.g 274627<|.cc (Ci _ _ O U.l x 0 k0 i t xs hx h1) [2] λYa=>.g 67<|.fr λk2=>.g 278788<|.cc (Ci _ _ O U.l y 0 k2 j u ys hy h2) [3] λYa=>.cc (IJ _ _ O U.l ↑i ↑j t u h) [] λYa=>.fi () [2,2,1,0])
theorem oN(U:AA 10 A)(L c1 c2 w x y i j t u:Nat)(al:BC)(xs ys:Aa)(hx:xs[0]? =some (i,t))(hy:ys[0]? =some (j,u))(h1:xs.length<=1000)(h2:ys.length<=1000)(h: ¬((i:Int)<(j:Int))):
 AS B A (isTrue Rn (AR B.P 310 (Hb c1 c2) (L+323)) (Bf Rn (AR B.P 310 (Hb c1 c2) (L+323)))) [AI L ((CJ,J w)::(Ca,J x)::al),AW c1 (J y),AF x xs,AF y ys] false [AI L ((CJ,J w)::(Ca,J x)::al),AW c1 (J y),AF x xs,AF y ys]:=by
 obtain⟨_,_|_⟩:=B<;>exact Q6 O U (.g 65<|.fr λk0=>.g 274627<|.cc (Ci _ _ O U.l x 0 k0 i t xs hx h1) [2] λYa=>.g 67<|.fr λk2=>.g 278788<|.cc (Ci _ _ O U.l y 0 k2 j u ys hy h2) [3] λYa=>.cc (II _ _ O U.l ↑i ↑j t u h) [] λYa=>.fi () [2,2,1,0])
theorem oM(U:AA 10 A)(L c1 c2 w x i t:Nat)(al:BC)(xs:Aa)(hx:xs[0]? =some (i,t))(h1:xs.length<=1000)(h: ¬((i:Int)<(i:Int))):
 AS B A (isTrue Rn (AR B.P 310 (Hb c1 c2) (L+323)) (Bf Rn (AR B.P 310 (Hb c1 c2) (L+323)))) [AI L ((CJ,J w)::(Ca,J x)::al),AW c1 (J x),AF x xs] false [AI L ((CJ,J w)::(Ca,J x)::al),AW c1 (J x),AF x xs]:=by
 obtain⟨_,_|_⟩:=B<;>exact Q6 O U (.g 65<|.fr λk0=>.g 274627<|.cc (Ci _ _ O U.l x 0 k0 i t xs hx h1) [2] λYa=>.g 67<|.fr λk2=>.g 266305<|.cc (Ci _ _ O U.l x 0 k2 i t xs hx h1) [0] λYa=>.cc (II _ _ O U.l ↑i ↑i t t h) [] λYa=>.fi () [1,1,0])
theorem AAJ(U:AA 20 A)(L L2 c1 c2 w x y:Nat)(al a2:BC)(xs ys:Aa)(hK:C8 A [L,L2])(h1:xs.length<=500)(h2:ys.length<=500):
 AC B.C A (Bf prL (AR B.P 310 (Hb c1 c2) (L+323))) [AI L ((CJ,J w)::(Ca,J x)::al),AW c1 (J y),AF x xs,AF y ys,AI L2 a2]
  (λz:Mi (E9 (ns xs) (ns ys))=>J z.t)
  (λz=>[AV z.t [J z.m,J z.u],AF z.m z.ms,AF z.u z.us,AI L ((CJ,J w)::(Ca,J x)::al),AW c1 (J y),AF x xs,AF y ys,AI L2 a2]):=Jj O U (.g 16785472<|.cc (Vc _ _ O U.l x y L L2 ((⟨⟨[119,97,121,115]⟩⟩,J w)::(⟨⟨[111,110,101]⟩⟩,J x)::al) a2 xs ys hK h1 h2) [2,2,0,1] λy0=>.fi (y0) [0,0,0,2,3,0,0,0])
theorem AAK(U:AA 10 A)(L c1 c2 w x t:Nat):
 AS B A (Bf prR (AR B.P 310 (Hb c1 c2) (L+323))) [AI L [(CJ,J w),(Ca,J x),(E_,J t)]] (J t) [AI L [(CJ,J w),(Ca,J x),(E_,J t)]]:=
 H_ O U (.g 65<|.fi () [0])
abbrev jG(L c1 c2 L2 w x:Nat)(a2:BC)(al:BC)(u o:DP):AN:=[AI L ((CJ,J w)::(Ca,J x)::al),C3 c1 u,C3 c2 o,AI L2 a2]
abbrev GW:Option Nat->BC
 |none=>[]
 |some t=>[(E_,J t)]
theorem oR(U:AA 30 A){L L2 c1 c2 w x y m i j t u:Nat}{a2:BC}{o:DP}{xs ys:Aa}(tl:Option Nat)(hK:C8 A [L,L2])
 (h1:xs.length<=500) (h2:ys.length<=500) (hx:xs[0]? =some (i,t)) (hy:ys[0]? =some (j,u)) (hm:((ns xs).filter λv=>decide (v∈ns ys)).head?=some m)
 (hp:i<j->E9 (ns xs) (ns ys)=((ns xs).filter λv=>decide (v<m),(ns ys).filter λv=>decide (v<m))):
 AC B.C A (Ac PQ (AR B.P 310 (Hb c1 c2) (L+323))) (jG L c1 c2 L2 w x a2 (GW tl) (some (J y)) o++[AF x xs,AF y ys]) (λYa:Nat×Value=>.next)
  (λσ=>jG L c1 c2 L2 w x a2 (GW (some σ.1)) (some (J y)) (some σ.2)++[AF x xs,AF y ys]):=by
 have n1:xs≠[]:=λe=>by subst e;cases hx
 have n2:ys≠[]:=λe=>by subst e;cases hy
 have e1:AC B.C A (Ac (PQ.take 2) (AR B.P 310 (Hb c1 c2) (L+323))) [AI L ((CJ,J w)::(Ca,J x)::GW tl),AW c1 (J y),C3 c2 o,AF x xs,AF y ys] (λYa:WQ m (ns xs) (ns ys)=>.next) (λz=>HE L c1 c2 w x y z++[AF x xs,AF y ys]):=by
  cases tl with
  |none=>exact xP O U.l L c1 c2 w x y m o xs ys (AK h1 ADm) n1 (AK h2 ADm) n2 hm
  |some tl=>exact xQ O U.l L c1 c2 w x y m tl o xs ys (AK h1 ADm) n1 (AK h2 ADm) n2 hm
 show AC B.C A (Ac (PQ.take 2++[ek]) _) _ _ _;refine AC.seq (l1:=PQ.take 2) (led1:=λz:WQ m (ns xs) (ns ys)=>HE L c1 c2 w x y z++[AF x xs,AF y ys,AI L2 a2]) ((e1.frame [AI L2 a2]).ix [0,0,0,1,1,0] rfl) λz=>?_;refine AC.one ?_;show AC B.C A (Qe (.If (.BoolOp .And [Rn,V3] _) _ [] _) _) _ _ _;have fin:AC B.C A (Ac [] (AR B.P 310 (Hb c1 c2) (L+323))) (HE L c1 c2 w x y z++[AF x xs,AF y ys,AI L2 a2]) (λYa:Nat×Value=>.next) (λσ=>jG L c1 c2 L2 w x a2 (GW (some σ.1)) (some (J y)) (some σ.2)++[AF x xs,AF y ys]):=
  AC.nil.weaken λYa=>⟨(z.t,.int ((GC z.q.ys:Nat):Int) (Ho z.q.ys)),rfl,pk [0,0,0,5,3,3] rfl⟩
 by_cases c:i<j
 ·have e2:=oP O U.l L c1 c2 w x y i j t u [(E_,J z.t)] xs ys hx hy (AK h1 ADm) (AK h2 ADm) (Int.ofNat_le.mpr c)
  have q2:AC B.C A (isTrue V3 (AR B.P 310 (Hb c1 c2) (L+323)) (Bf V3 (AR B.P 310 (Hb c1 c2) (L+323)))) (HE L c1 c2 w x y z++[AF x xs,AF y ys,AI L2 a2]) (λYa:Mi (E9 (ns xs) (ns ys))×Unit=>false) (λYa=>HE L c1 c2 w x y z++[AF x xs,AF y ys,AI L2 a2]):=by
   show AC B.C A (isTrue (.Compare prL [.NotEq] [prR] _) _ _) _ _ _
   refine(AC.Fh (led2:=λzz _=>[AI L [(CJ,J w),(Ca,J x),(E_,J z.t)],AV zz.t [J zz.m,J zz.u],AF zz.m zz.ms,AF zz.u zz.us,AW c1 (J y),AF x xs,AF y ys,AI L2 a2,AW c2 (.int ((GC z.q.ys:Nat):Int) (Ho z.q.ys)),AV z.t [J z.a,J z.b],AF z.a z.y1.ys,AF z.b z.y2.ys])
    (((AAJ O U.l L L2 c1 c2 w x y [(E_,J z.t)] a2 xs ys hK h1 h2).frame [AW c2 (.int ((GC z.q.ys:Nat):Int) (Ho z.q.ys)),AV z.t [J z.a,J z.b],AF z.a z.y1.ys,AF z.b z.y2.ys]).ix [0,0,4,4,4,0,0,0,0] rfl)
    (λzz=>(((AAK O U.l L c1 c2 w x z.t).frame [AV zz.t [J zz.m,J zz.u],AF zz.m zz.ms,AF zz.u zz.us,AW c1 (J y),AF x xs,AF y ys,AI L2 a2,AW c2 (.int ((GC z.q.ys:Nat):Int) (Ho z.q.ys)),AV z.t [J z.a,J z.b],AF z.a z.y1.ys,AF z.b z.y2.ys]).ix (3::BW 11) rfl))
    (λzz q=>Jl (d:=.tuple ([(ns xs).filter λv=>decide (v<m),(ns ys).filter λv=>decide (v<m)].map Jd)) (AA.Ov (n:=20) U.l) (SS _).1 (SS _).2 λR s S=>⟨?_,?_⟩) rfl).weaken λp=>⟨(p.1,()),rfl,pk [0,3,6,6,6,6,3,3,3] rfl⟩
   ·refine S.tuple (a:=zz.t+323) (vs:=[J zz.m,J zz.u]) (IM 1 rfl) (.cons ?_ (.cons ?_ .nil))
    ·exact S.Zk (zz.i5.trans (by rw[hp c])) (IM 2 rfl)
    ·exact S.Zk (zz.Xg.trans (by rw[hp c])) (IM 3 rfl)
   ·refine S.tuple (a:=z.t+323) (vs:=[J z.a,J z.b]) (IM 9 rfl) (.cons ?_ (.cons ?_ .nil))
    ·exact S.Zk (z.y1.ok.trans (by rw[z.q.hd])) (IM 10 rfl)
    ·exact S.Zk (z.y2.ok.trans (by rw[z.q.hd])) (IM 11 rfl)
  refine AC.ML (b:=false) (AC.Iu (AC.O4 (led1:=λYa:Unit=>HE L c1 c2 w x y z++[AF x xs,AF y ys,AI L2 a2]) ?_ λYa=>AC.WS q2)) λYa=>fin
  exact((e2.frame [AW c2 (.int ((GC z.q.ys:Nat):Int) (Ho z.q.ys)),AV z.t [J z.a,J z.b],AF z.a z.y1.ys,AF z.b z.y2.ys,AI L2 a2]).ix [0,0,4,4,0,0,0,0,0] rfl)|>.ox [0,0,2,2,2,2,0,0,0] λYa=>rfl
 ·have e2:=oN O U.l L c1 c2 w x y i j t u [(E_,J z.t)] xs ys hx hy (AK h1 ADm) (AK h2 ADm) ADj
  refine AC.ML (b:=false) (led1:=λYa:Unit=>HE L c1 c2 w x y z++[AF x xs,AF y ys,AI L2 a2]) (AC.Iu (AC.WS ?_)) λYa=>fin
  exact((e2.frame [AW c2 (.int ((GC z.q.ys:Nat):Int) (Ho z.q.ys)),AV z.t [J z.a,J z.b],AF z.a z.y1.ys,AF z.b z.y2.ys,AI L2 a2]).ix [0,0,4,4,0,0,0,0,0] rfl)|>.ox [0,0,2,2,2,2,0,0,0] λYa=>rfl
theorem jL(U:AA 30 A){L L2 c1 c2 w x m i t:Nat}{a2:BC}{o:DP}{xs:Aa}(tl:Option Nat)
 (h1:xs.length<=500) (hx:xs[0]? =some (i,t)) (hm:((ns xs).filter λv=>decide (v∈ns xs)).head?=some m):
 AC B.C A (Ac PQ (AR B.P 310 (Hb c1 c2) (L+323))) (jG L c1 c2 L2 w x a2 (GW tl) (some (J x)) o++[AF x xs]) (λYa:Nat×Value=>.next)
  (λσ=>jG L c1 c2 L2 w x a2 (GW (some σ.1)) (some (J x)) (some σ.2)++[AF x xs]):=by
 have n1:xs≠[]:=λe=>by subst e;cases hx
 have e1:AC B.C A (Ac (PQ.take 2) (AR B.P 310 (Hb c1 c2) (L+323))) [AI L ((CJ,J w)::(Ca,J x)::GW tl),AW c1 (J x),C3 c2 o,AF x xs] (λYa:WQ m (ns xs) (ns xs)=>.next) (λz=>HE L c1 c2 w x x z++[AF x xs]):=by
  cases tl with
  |none=>exact sA O U.l L c1 c2 w x m o xs (AK h1 ADm) n1 hm
  |some tl=>exact sB O U.l L c1 c2 w x m tl o xs (AK h1 ADm) n1 hm
 show AC B.C A (Ac (PQ.take 2++[ek]) _) _ _ _;refine AC.seq (l1:=PQ.take 2) (led1:=λz:WQ m (ns xs) (ns xs)=>HE L c1 c2 w x x z++[AF x xs,AI L2 a2]) ((e1.frame [AI L2 a2]).ix [0,0,0,1,0] rfl) λz=>?_;refine AC.one ?_;show AC B.C A (Qe (.If (.BoolOp .And [Rn,V3] _) _ [] _) _) _ _ _;have fin:AC B.C A (Ac [] (AR B.P 310 (Hb c1 c2) (L+323))) (HE L c1 c2 w x x z++[AF x xs,AI L2 a2]) (λYa:Nat×Value=>.next) (λσ=>jG L c1 c2 L2 w x a2 (GW (some σ.1)) (some (J x)) (some σ.2)++[AF x xs]):=
  AC.nil.weaken λYa=>⟨(z.t,.int ((GC z.q.ys:Nat):Int) (Ho z.q.ys)),rfl,pk [0,0,0,4,3] rfl⟩
 refine AC.ML (b:=false) (led1:=λYa:Unit=>HE L c1 c2 w x x z++[AF x xs,AI L2 a2]) (AC.Iu (AC.WS ?_)) λYa=>fin
 exact(((oM O U.l L c1 c2 w x i t [(E_,J z.t)] xs hx (AK h1 ADm) ADj).frame [AW c2 (.int ((GC z.q.ys:Nat):Int) (Ho z.q.ys)),AV z.t [J z.a,J z.b],AF z.a z.y1.ys,AF z.b z.y2.ys,AI L2 a2]).ix (0::0::4::BW 5) rfl)|>.ox [0,0,1,1,1,1,0,0] λYa=>rfl
omit O
theorem nN{es:List IE}{i j:Nat}{e f:IE}(he:es[i]? =some e)(hf:es[j]? =some f)(iM:i≠j): ∃r:F6,∀P:AN,(Ao (P++[BU es])).Perm (Ao (P++[AF e.a e.ys,AF f.a f.ys]++[.many r])):=by
 obtain⟨r,hr⟩:=PO he hf iM;refine⟨r.map IE.p,λP=>?_⟩;have hp:=hr.map IE.p;rw[Aw,Aw] at hp;simp only[An,Ao,Bi.flat,Aj,AG];exact CP _ hp
theorem AC.nj{C:Cx}{A:AL}{α:Type}{t:Sem α}{P:AN}{X:Type}{res:X->α}{Q:X->AN}{es:List IE}{i j:Nat}{e f:IE}(he:es[i]? =some e)(hf:es[j]? =some f)(iM:i≠j)
 (h:AC C A t (P++[AF e.a e.ys,AF f.a f.ys]) res (λx=>Q x++[AF e.a e.ys,AF f.a f.ys])):AC C A t (P++[BU es]) res (λx=>Q x++[BU es]):=by
 obtain⟨r,key⟩:=nN he hf iM
 exact((h.frame [.many r]).pre λR s S=>S.BV (by rw[An,An _ R];exact(key P).append_right _)).post λx R s S=>S.BV (by rw[An,An _ R];exact((key (Q x)).append_right _).symm)
structure RI(es:List IE):Prop where
 n0:0<es.length
 n1:es.length<=100
 be: ∀e∈es,e.ys.length<=500/\e.ys.length≠0
 eq: ∀(i j:Nat) (e f:IE),es[i]? =some e->es[j]? =some f-> ∃m,((ns e.ys).filter λv=>decide (v∈ns f.ys)).head?=some m/\E9 (ns e.ys) (ns f.ys)=((ns e.ys).filter λv=>decide (v<m),(ns f.ys).filter λv=>decide (v<m))
abbrev SI:=Option Nat×DP×DP
abbrev Zz(L c1 c2 L2 w:Nat)(v1:Value)(a2:BC)(es:List IE)(σ:SI):AN:=[AI L ((CJ,J w)::(Ca,v1)::GW σ.1),C3 c1 σ.2.1,C3 c2 σ.2.2,AI L2 a2]++[BU es]
theorem eU{ys:Aa}(h:ys.length≠0): ∃i t,ys[0]? =some (i,t):=by
 cases ys with
 |nil=>exact absurd rfl h
 |cons a r=>exact⟨a.1,a.2,rfl⟩
include O
def gj(U:AA 34 A)(L L2 c1 c2 w a i:Nat)(a2:BC)(tl:Option Nat)(u o:DP)(es:List IE)(e:IE)(he:es[i]? =some e)(hK:C8 A [L,L2])(h:RI es):Ag B.C A where
 c:=.forLoop td (J a) PQ [] (AR B.P 310 (Hb c1 c2) (L+323))
 F:=[BQ a w 0,AE w (es.map IE.v),AI L ((CJ,J w)::(Ca,J e.a)::GW tl),C3 c1 u,C3 c2 o,AI L2 a2,BU es]
 X:=SI
 res:=λYa=>.ok .next
 led:=λσ=>AE w (es.map IE.v)::Zz L c1 c2 L2 w (J e.a) a2 es σ
 ok:=by
  refine AT.call (Qu (N:=33) (S:=SI) (G:=λσ=>Zz L c1 c2 L2 w (J e.a) a2 es σ) (H:=λj v σ=>Zz L c1 c2 L2 w (J e.a) a2 es (σ.1,some v,σ.2.2)) O ADj U (xs:=es.map IE.v) (λA' eA B8 j v hv σ=>?_) _ 0 (tl,u,o) (by rw[FH]))
  rw[AQ] at hv;obtain⟨f,hf,rfl⟩:=Option.map_eq_some_iff.mp hv;refine⟨?_,?_⟩
  ·have e1:=r_ O (B8.le (ADj:6<=33)) L c1 c2 f.a σ.2.1
   exact((e1.frame [AI L ((CJ,J w)::(Ca,J e.a)::GW σ.1),C3 c2 σ.2.2,AI L2 a2,BU es]).ix (1::BW 4) rfl)|>.ox (1::BW 4) λYa=>rfl
  ·have U3:C8 A' [L,L2]:=by subst eA;exact hK
   obtain⟨b1,b2⟩:=h.be _ (B4 he);obtain⟨d1,d2⟩:=h.be _ (B4 hf);obtain⟨x0,t0,rN⟩:=eU b2;obtain⟨y0,u0,hy0⟩:=eU d2;obtain⟨m,hm,hp⟩:=h.eq i j e f he hf;have g:AC B.C A' (Ac PQ (AR B.P 310 (Hb c1 c2) (L+323))) (Zz L c1 c2 L2 w (J e.a) a2 es (σ.1,some (J f.a),σ.2.2)) (λYa:SI=>.next) (λσ'=>Zz L c1 c2 L2 w (J e.a) a2 es σ'):=by
    by_cases c:i=j
    ·subst c
     obtain rfl:e=f:=DZ (he.symm.trans hf)
     exact(AC.z0 (P:=[_,_,_,_]) (Q:=λq=>[_,_,_,_]) he (jL O (B8.le (ADj:30<=33)) (L2:=L2) (o:=σ.2.2) σ.1 b1 rN hm)).weaken λq=>⟨(some q.1,some (J e.a),some q.2),rfl,λR s S=>S⟩
    ·exact(AC.nj (P:=[_,_,_,_]) (Q:=λq=>[_,_,_,_]) he hf c (oR O (B8.le (ADj:30<=33)) (o:=σ.2.2) σ.1 U3 b1 d1 rN hy0 hm (λYa=>hp))).weaken λq=>⟨(some q.1,some (J f.a),some q.2),rfl,λR s S=>S⟩
   exact((g.frame [AE w (es.map IE.v)]).ix [1,1,1,1,1,0] rfl)|>.ox (5::BW 5) λYa=>rfl
theorem jH(U:AA 6 A)(L c1 c2 w x:Nat):
 AS B A (Bo r9 (AR B.P 310 (Hb c1 c2) (L+323)) (J x)) [AI L [(CJ,J w)]] () [AI L [(CJ,J w),(Ca,J x)]]:=
 Ef O U (.fr λk0=>.g 6145<|.fi () [0])
theorem jI(U:AA 6 A)(L c1 c2 w x:Nat)(v:Value):
 AS B A (Bo r9 (AR B.P 310 (Hb c1 c2) (L+323)) (J x)) [AI L [(CJ,J w),(Ca,v)]] () [AI L [(CJ,J w),(Ca,J x)]]:=
 Ef O U (.fr λk0=>.g 6145<|.fi () [0])
theorem jJ(U:AA 6 A)(L c1 c2 w x t:Nat)(v:Value):
 AS B A (Bo r9 (AR B.P 310 (Hb c1 c2) (L+323)) (J x)) [AI L [(CJ,J w),(Ca,v),(E_,J t)]] () [AI L [(CJ,J w),(Ca,J x),(E_,J t)]]:=
 Ef O U (.fr λk0=>.g 6145<|.fi () [0])
theorem jK(U:AA 38 A)(L L2 c1 c2 w i:Nat)(a2:BC)(tl:Option Nat)(u o:DP)(es:List IE)(e:IE)(he:es[i]? =some e)(hK:C8 A [L,L2])(h:RI es):
 AC B.C A (Ac prB (AR B.P 310 (Hb c1 c2) (L+323))) ((AE w (es.map IE.v)::AI L ((CJ,J w)::(Ca,J e.a)::GW tl)::C3 c1 u::C3 c2 o::AI L2 a2::[BU es]))
  (λσ:SI=>.next)
  (λσ=>((AE w (es.map IE.v)::Zz L c1 c2 L2 w (J e.a) a2 es σ))):=by
 obtain⟨_,_|_⟩:=B<;>exact D7 O U (.g 266306<|.cc (Bt O U.l w (es.map IE.v)) [0] λy0=>.g 65<|.cc (gj O U.l L L2 c1 c2 w y0 i a2 tl u o es e he hK h) (BW 7) λy1=>.fi (y1) (BW 6))
abbrev v7:Option (Value×SI)->BC
 |none=>[]
 |some (v,σ)=>(Ca,v)::GW σ.1
noncomputable abbrev oU:Option (Value×SI)->DP
 |none=>none
 |some (_,σ)=>σ.2.1
noncomputable abbrev oO:Option (Value×SI)->DP
 |none=>none
 |some (_,σ)=>σ.2.2
abbrev prO(L c1 c2 L2 w:Nat)(a2:BC)(es:List IE)(σ:Option (Value×SI)):AN:=[AI L ((CJ,J w)::v7 σ),C3 c1 (oU σ),C3 c2 (oO σ),AI L2 a2]++[BU es]
abbrev AAH(L c1 c2 L2 w:Nat)(a2:BC)(es:List IE)(v:Value):Option (Value×SI)->AN
 |none=>Zz L c1 c2 L2 w v a2 es (none,none,none)
 |some (_,σ)=>Zz L c1 c2 L2 w v a2 es σ
def b_(U:AA 44 A)(L L2 c1 c2 w a:Nat)(a2:BC)(es:List IE)(hK:C8 A [L,L2])(h:RI es):Ag B.C A where
 c:=.forLoop r9 (J a) prB [] (AR B.P 310 (Hb c1 c2) (L+323))
 F:=[BQ a w 0,AE w (es.map IE.v),AI L [(CJ,J w)],C3 c1 none,C3 c2 none,AI L2 a2,BU es]
 X:=Option (Value×SI)
 res:=λYa=>.ok .next
 led:=λσ=>AE w (es.map IE.v)::prO L c1 c2 L2 w a2 es σ
 ok:=by
  refine AT.call (Qu (N:=43) (S:=Option (Value×SI)) (G:=λσ=>prO L c1 c2 L2 w a2 es σ) (H:=λj v σ=>AAH L c1 c2 L2 w a2 es v σ) O ADj U (xs:=es.map IE.v) (λA' eA B8 j v hv σ=>?_) _ 0 none (by rw[FH]))
  rw[AQ] at hv;obtain⟨f,hf,rfl⟩:=Option.map_eq_some_iff.mp hv;have U3:C8 A' [L,L2]:=by subst eA;exact hK
  have g:=λtl u o=>jK O (B8.le (ADj:38<=43)) L L2 c1 c2 w j a2 tl u o es f hf U3 h
  refine⟨?_,?_⟩
  ·rcases σ with _|⟨v,σ⟩
   ·have e1:=jH O (B8.le (ADj:6<=43)) L c1 c2 w f.a
    exact e1.frame [C3 c1 none,C3 c2 none,AI L2 a2,BU es]
   ·obtain⟨tl,u,o⟩:=σ
    cases tl with
    |none=>
     have e1:=jI O (B8.le (ADj:6<=43)) L c1 c2 w f.a v
     exact e1.frame [C3 c1 u,C3 c2 o,AI L2 a2,BU es]
    |some tl=>
     exact(jJ O (B8.le (ADj:6<=43)) L c1 c2 w f.a tl v).frame [C3 c1 u,C3 c2 o,AI L2 a2,BU es]
  ·rcases σ with _|⟨v,σ⟩
   ·exact(g none none none).weaken λq=>⟨some (J f.a,q),rfl,λR s S=>S⟩
   ·exact(g σ.1 σ.2.1 σ.2.2).weaken λq=>⟨some (J f.a,q),rfl,λR s S=>S⟩
theorem YE(U:AA 10 A)(w:Nat):
 AS B A (Pk B 310 [J w]) [] (([(CJ,J w)]:BC)) []:=
 rn O U (.fi () [])
theorem XJ(U:AA 10 A)(w:Nat):
 AC B.C A (OO B 310 [(CJ,J w)]) []
  (λq:Nat×Nat×Nat=>AR B.P 310 (Hb q.2.1 q.2.2) (q.1+323))
  (λq=>[AI q.1 [(CJ,J w)],C3 q.2.1 none,C3 q.2.2 none]):=
 rn O U (.al λa0=>.al λa1=>.al λa2=>.fr λk3=>.g 6275<|.fi (a0,a1,a2) [2,1,0])
theorem YJ(U:AA 48 A)(L L2 c1 c2 w:Nat)(a2:BC)(es:List IE)(hK:C8 A [L,L2])(h:RI es):
 AS B A (Ac (A4 B.P 310) (AR B.P 310 (Hb c1 c2) (L+323))) ((AI L [(CJ,J w)]::C3 c1 none::C3 c2 none::AE w (es.map IE.v)::AI L2 a2::[BU es])) (.ret (.bool true)) (((AE w (es.map IE.v)::AI L2 a2::[BU es]))):=by
 obtain⟨_,_|_⟩:=B<;>exact D7 O U (.g 278785<|.cc (Bt O U.l w (es.map IE.v)) [3] λy0=>.g 65<|.cc (b_ O U.l L L2 c1 c2 w y0 a2 es hK h) (BW 7) λYa=>.fi () [0,3,3])
def b5(U:AA 52 A)(w L2:Nat)(a2:BC)(es:List IE)(hK:C8 A [L2])(h:RI es):Ag B.C A where
 c:=.call (.ref 310) ⟨[J w],[]⟩
 F:=[AE w (es.map IE.v),AI L2 a2,BU es]
 X:=Unit
 res:=λYa=>.ok (.ret (.bool true))
 led:=λYa=>[AE w (es.map IE.v),AI L2 a2,BU es]
 ok:=Dm O (n:=51) U ADk ((YE O U.l.in1 w).frame _) (λR s S=>(XJ O U.l.in1 w).frame [AE w (es.map IE.v),AI L2 a2,BU es] R s S)
  (λq=>BK (fl:=λYa:Unit=>.ret (.bool true)) (by
   refine YJ O (AA.deeper U.l) q.1 L2 q.2.1 q.2.2 w a2 es (hK.deeper rfl ?_) h
   show(D4 B.P 310).scope.kind≠.module;exact(by kernel_rfl:(D4 B.P 310).scope.kind=.function)▸ADm))
noncomputable def KO:Nat->Ay->Ay->Ay->Ay->Ay×Ay
 |0,X,Y,m,u=>(m++X,u++Y)
 |r+1,e::X,a::Y,m,u=>if e<a then KO r (X.dropWhile (· ==e)) (a::Y) (m++[e]) u else if a<e then KO r (e::X) (Y.dropWhile (· ==a)) m (u++[a]) else KO r (X.dropWhile (· ==e)) (Y.dropWhile (· ==a)) m u
 |_+1,[],Y,m,u=>(m++[],u++Y)
 |_+1,e::X,[],m,u=>(m++(e::X),u++[])
omit O
theorem RX{l:Ay}{v:Nat}: ∀{r i:Nat},l.length-i<=r->l.drop (Gq l v r i)=(l.drop i).dropWhile (· ==v)
 |0,i,h=>by
  have:l.drop i=[]:=EW ADj
  rw[Gq,this];rfl
 |r+1,i,h=>by
  rw[Gq]
  by_cases hi:i<l.length
  ·rw[AJ hi,BR hi]
   by_cases c:l[i]=v
   ·rw[if_pos (by rw[c]),Jv (by simpa using c)]
    exact RX ADj
   ·rw[if_neg (by simpa using c),Ju (by simpa using c),<-BR hi]
  ·rw[B7 (Ec hi),if_neg ADn]
   have:l.drop i=[]:=EW (Ec hi)
   rw[this];rfl
theorem ME{l:Ay}{v i:Nat}:l.drop (BJ l v i)=(l.drop i).dropWhile (· ==v):=RX (Am _)
theorem e8{X Y:Ay}: ∀{r i j:Nat} {m u:Ay},Jn X Y r i j m u=KO r (X.drop i) (Y.drop j) m u
 |0,i,j,m,u=>rfl
 |r+1,i,j,m,u=>by
  rw[Jn]
  by_cases hi:i<X.length
  ·by_cases hj:j<Y.length
   ·rw[if_pos ⟨hi,hj⟩,e8,BR hi,BR hj]
    have e1:X.getD i 0=X[i]:=by rw[Ad,AJ hi];rfl
    have e2:Y.getD j 0=Y[j]:=by rw[Ad,AJ hj];rfl
    rw[e1,e2,KO];unfold tI tJ tM tU
    by_cases c1:X[i]<Y[j]
    ·simp only[if_pos c1]
     rw[ME,<-BR hj]
    ·by_cases c2:Y[j]<X[i]
     ·simp only[if_neg c1,if_pos c2]
      rw[ME,<-BR hi]
     ·simp only[if_neg c1,if_neg c2]
      rw[ME,ME]
   ·rw[if_neg (λh=>hj h.2)]
    have e2:Y.drop j=[]:=EW (Ec hj);rw[e2,BR hi,KO]
  ·rw[if_neg (λh=>hi h.1)]
   have e1:X.drop i=[]:=EW (Ec hi);rw[e1,KO]
theorem e9(X Y:Ay):E9 X Y=KO (X.length+Y.length) X Y [] []:=by
 unfold E9;rw[e8,Du,Du]
abbrev Up(l:Ay):Prop:=l.Pairwise (· < ·)
theorem N7{e:Nat}{X:Ay}(h:Up (e::X)):X.dropWhile (· ==e)=X:=by
 cases X with
 |nil=>rfl
 |cons x X=>
  have:=(List.pairwise_cons.mp h).1 x (.head _)
  rw[Ju (by simp;exact Nat.ne_of_gt this)]
noncomputable abbrev sub(X Y:Ay):Ay:=X.filter λv=>decide (v∉Y)
theorem JK{e:Nat}{X Y:Ay}(h:e∈Y):sub (e::X) Y=sub X Y:=by
 unfold sub;rw[List.filter_cons_of_neg (by simpa using h)]
theorem Ik{e:Nat}{X Y:Ay}(h:e∉Y):sub (e::X) Y=e::sub X Y:=by
 unfold sub;rw[List.filter_cons_of_pos (by simpa using h)]
theorem GK{a:Nat}{X Y:Ay}(h:a∉X):sub X (a::Y)=sub X Y:=by
 unfold sub;refine FE λv hv=>?_
 have:v≠a:=λe=>h (e▸hv)
 simp[this]
theorem aM(X:Ay):sub X []=X:=by unfold sub;simp
theorem FW{e a:Nat}{Y:Ay}(h:e<a)(hY:Up (a::Y)):e∉a::Y:=λhm=>by
 rcases List.mem_cons.mp hm with rfl|hm
 ·lia
 ·have:=(List.pairwise_cons.mp hY).1 _ hm;lia
theorem LK: ∀(r:Nat) (X Y m u:Ay),X.length+Y.length<=r->Up X->Up Y->KO r X Y m u=(m++sub X Y,u++sub Y X)
 |0,X,Y,m,u,h,hX,hY=>by
  have e1:X=[]:=List.length_eq_zero_iff.mp ADj
  have e2:Y=[]:=List.length_eq_zero_iff.mp ADj
  subst e1;subst e2;rfl
 |r+1,[],Y,m,u,h,hX,hY=>by rw[KO,aM];rfl
 |r+1,e::X,[],m,u,h,hX,hY=>by rw[KO,aM];rfl
 |r+1,e::X,a::Y,m,u,h,hX,hY=>by
  simp only[Ap] at h;have mA:=(List.pairwise_cons.mp hX).2;have mB:=(List.pairwise_cons.mp hY).2;rw[KO,N7 hX,N7 hY]
  by_cases c1:e<a
  ·rw[if_pos c1,LK r X (a::Y) _ _ (by simp;lia) mA hY,Ik (FW c1 hY),GK (FW c1 hY),AG];rfl
  ·rw[if_neg c1]
   by_cases c2:a<e
   ·rw[if_pos c2,LK r (e::X) Y _ _ (by simp;exact FG h) hX mB,Ik (X:=Y) (FW c2 hX),GK (X:=e::X) (FW c2 hX),AG];rfl
   ·rw[if_neg c2]
    obtain rfl:e=a:=by lia
    rw[LK r X Y _ _ ADj mA mB,JK (.head _),JK (.head _)]
    have n1:e∉X:=λhm=>by have:=(List.pairwise_cons.mp hX).1 _ hm;exact absurd this c2
    have n2:e∉Y:=λhm=>by have:=(List.pairwise_cons.mp hY).1 _ hm;exact absurd this c2
    rw[GK n1,GK n2]
theorem Nj{X Y:Ay}(hX:Up X)(hY:Up Y):E9 X Y=(sub X Y,sub Y X):=by
 rw[e9,LK _ _ _ _ _ (Am _) hX hY];rfl
theorem WB: ∀(r:Nat) (a:Nat) (X Y m u:Ay),(a::X).length+Y.length<=r->Up (a::X)->Up Y->(∃y∈Y,a<=y)->KO (r+1) (a::a::X) Y m u=(m++sub (a::X) Y,u++sub Y (a::X))
 |r,a,X,[],m,u,h,hX,hY,⟨y,hy,_⟩=>nomatch hy
 |0,a,X,b::Y,m,u,h,hX,hY,_=>by simp at h
 |r+1,a,X,b::Y,m,u,h,hX,hY,⟨y,hy,yw⟩=>by
  simp only[Ap] at h;have mA:=(List.pairwise_cons.mp hX).2;have mB:=(List.pairwise_cons.mp hY).2;rw[KO,Jv ADn,N7 hX,N7 hY]
  by_cases c1:a<b
  ·rw[if_pos c1,LK _ X (b::Y) _ _ (by simp;lia) mA hY,Ik (FW c1 hY),GK (FW c1 hY),AG];rfl
  ·rw[if_neg c1]
   by_cases c2:b<a
   ·have mj:y∈Y:=by
     rcases List.mem_cons.mp hy with rfl|h
     ·exact absurd yw (Nat.not_le.mpr c2)
     ·exact h
    rw[if_pos c2,WB r a X Y _ _ (by simp;exact FG h) hX mB ⟨y,mj,yw⟩,Ik (X:=Y) (FW c2 hX),GK (X:=a::X) (FW c2 hX),AG];rfl
   ·rw[if_neg c2]
    obtain rfl:a=b:=by lia
    rw[LK _ X Y _ _ ADj mA mB,JK (.head _),JK (.head _)]
    have n1:a∉X:=λhm=>by have:=(List.pairwise_cons.mp hX).1 _ hm;exact absurd this c2
    have n2:a∉Y:=λhm=>by have:=(List.pairwise_cons.mp hY).1 _ hm;exact absurd this c2
    rw[GK n1,GK n2]
theorem WC{a:Nat}{X Y:Ay}(hX:Up (a::X))(hY:Up Y)(h: ∃y∈Y,a<=y):E9 (a::a::X) Y=(sub (a::X) Y,sub Y (a::X)):=by
 have e:(a::a::X).length+Y.length=(a::X).length+Y.length+1:=by simp;exact HJ _ _ _
 rw[e9,e,WB _ _ _ _ _ _ (Am _) hX hY h];rfl
theorem Tm(v:Nat)(X Y:Ay)(j:Nat):JB (v::X) Y (j+1)=match X[j]? with|none=>[]|some w=>if w∈Y∨w∈v::X.take j then [] else [w]:=by
 unfold JB;rw[LQ,JD]<;>cases X[j]? <;>rfl
theorem N9{X Y:Ay}(hX:X.Nodup):D3 X Y=sub X Y:=by
 have key: ∀j,j<=X.length->Hp (JB X Y) j=sub (X.take j) Y:=by
  intro j
  induction j with
  |zero=>intro _;simp[Hp,sub]
  |succ j ih=>
   intro hj;rw[FJ,ih (Cw hj)];have hx:X[j]? =some X[j]:=AJ (hj);have zP:X[j]∉X.take j:=λhm=>by
    obtain⟨i,hi,e⟩:=List.mem_iff_getElem.mp hm;rw[C5] at hi;rw[List.getElem_take] at e
    exact(List.pairwise_iff_getElem.mp hX) i j ADj (hj) ADj e
   rw[FF,hx];unfold JB;rw[hx];unfold sub;rw[PY]
   by_cases c:X[j]∈Y
   ·simp[c]
   ·simp[c,zP]
 have:=key X.length (Am _)
 rw[Gc] at this;exact this
theorem dZ{a:Nat}{X Y:Ay}:D3 (a::a::X) Y=D3 (a::X) Y:=by
 have key: ∀j,Hp (JB (a::a::X) Y) (j+2)=Hp (JB (a::X) Y) (j+1):=by
  intro j
  induction j with
  |zero=>
   rw[FJ,FJ,FJ];simp[Hp,JB]
  |succ j ih=>
   rw[FJ,ih,FJ (JB (a::X) Y) (j+1)]
   congr 1
   rw[Tm,Tm,LQ,JD];cases X[j]? with
   |none=>rfl
   |some w=>simp
 exact key X.length
theorem XZ{X Y Z:Ay}(h: ∀v,v∈Y↔v∈Z):D3 X Y=D3 X Z:=by
 unfold D3
 congr 1
 funext j
 unfold JB;cases X[j]? with
 |none=>rfl
 |some v=>simp only[h]
theorem Up.nodup{l:Ay}(h:Up l):l.Nodup:=h.imp λh=>Nat.ne_of_lt h
theorem Zq{P W:Ay}(hP:Up P)(hW:Up W):EG P W=P.filter (λv=>decide (v∈W)):=by
 unfold EG;rw[Nj hW hP]
 show(E9 (sub P W) P).2=_
 rw[Nj (hP.sublist Gr) hP];show sub P (sub P W)=_;unfold sub;refine FE λv hv=>?_;simp[hv]
theorem iY{P W:Ay}{a:Nat}(hP:Up P)(hW:Up (a::W))(h: ∃y∈P,a<=y):EG P (a::a::W)=P.filter (λv=>decide (v∈a::W)):=by
 unfold EG;rw[WC hW hP h]
 show(E9 (sub P (a::W)) P).2=_
 rw[Nj (hP.sublist Gr) hP];show sub P (sub P (a::W))=_;unfold sub;refine FE λv hv=>?_;simp[hv]
noncomputable abbrev LD(sz:Ay)(b j:Nat):Nat:=((sz.take j).drop b).sum
theorem dn{sz:Ay}{b j k:Nat}(h:j<=k):LD sz b j<=LD sz b k:=by
 unfold LD
 have:(sz.take j).drop b=((sz.take k).drop b).take (j-b):=by
  rw[Nr,Nr,List.take_take]
  congr 1;lia
 rw[this];have h2:=congrArg List.sum (CQ (j-b) ((sz.take k).drop b));rw[G7] at h2
 lia
theorem MP(sz:Ay)(st:Nat)(rm:Int): ∀(r a:Nat),a+r=sz.length->a<=HT sz st rm r a/\HT sz st rm r a<=sz.length/\(∀j,a<=j->j<HT sz st rm r a->((LD sz st (j+1):Nat):Int)<=rm)/\(HT sz st rm r a<sz.length-> ¬((LD sz st (HT sz st rm r a+1):Nat):Int)<=rm)
 |0,a,h=>⟨Am _,by rw[HT];lia,λj h1 h2=>by rw[HT] at h2;lia,λh2=>by rw[HT] at h2;lia⟩
 |r+1,a,h=>by
  rw[HT]
  split
  ·rename_i c
   obtain⟨h1,h2,h3,h4⟩:=MP sz st rm r (a+1) ADj
   refine⟨by lia,h2,λj j1 j2=>?_,h4⟩
   by_cases e:j=a
   ·subst e;exact c
   ·exact h3 j ADj j2
  ·rename_i c
   exact⟨Am _,by lia,λj j1 j2=>by lia,λYa=>c⟩
theorem Zw{sz:Ay}{st:Nat}{rm:Int}(h:st<=sz.length):st<=Cq sz st rm:=(MP sz st rm (sz.length-st) st ADj).1
theorem QG{sz:Ay}{st:Nat}{rm:Int}(h:st<=sz.length):Cq sz st rm<=sz.length:=(MP sz st rm (sz.length-st) st ADj).2.1
theorem IT{sz:Ay}{st j:Nat}{rm:Int}(h:st<j)(hj:j<=sz.length):j<=Cq sz st rm↔((LD sz st j:Nat):Int)<=rm:=by
 obtain⟨h1,h2,h3,h4⟩:=MP sz st rm (sz.length-st) st ADj
 constructor
 ·intro c
  have:=h3 (j-1) ADj (by have:Cq sz st rm=HT sz st rm (sz.length-st) st:=rfl;lia)
  rwa [show j-1+1=j by lia] at this
 ·intro c
  refine Decidable.byContradiction λn=>?_;have e:Cq sz st rm=HT sz st rm (sz.length-st) st:=rfl;rw[e] at n;have h5:=h4 ADj
  have h6:=dn (sz:=sz) (b:=st) (j:=HT sz st rm (sz.length-st) st+1) (k:=j) ADj
  lia
def Ct(sz:Ay)(m:Nat):Ay:=(Ah sz.length).map λat_=>Mb (at_+1) (Cq sz at_ (m:Int))
theorem Jp(sz:Ay)(m:Nat):(Ct sz m).length=sz.length:=by simp[Ct]
theorem PT{sz:Ay}{m a:Nat}(h:a<sz.length):(Ct sz m).getD a 0=Mb (a+1) (Cq sz a (m:Int)):=by
 rw[Ad,AJ (by rw[Jp];exact h)]
 simp[Ct]
theorem QE(a b:Nat):Mb a b=if a<=b then b else a:=by show max a b=_;exact Nat.max_def
theorem WG{sz:Ay}{m a:Nat}(h:a<sz.length):a<(Ct sz m).getD a 0/\(Ct sz m).getD a 0<=sz.length:=by
 rw[PT h,QE]
 have:=QG (sz:=sz) (st:=a) (rm:=(m:Int)) ADj
 split<;>lia
theorem Rv{S:Ay}(hS: ∀i,i<S.length->i<S.getD i 0): ∀(r q a:Nat),S.length<=a+r->S.length<=a+q->GN S r a=GN S q a
 |0,0,a,h1,h2=>rfl
 |0,q+1,a,h1,h2=>by rw[GN,GN,if_neg ADj]
 |r+1,0,a,h1,h2=>by rw[GN,GN,if_neg ADj]
 |r+1,q+1,a,h1,h2=>by
  rw[GN,GN]
  by_cases c:a<S.length
  ·rw[if_pos c,if_pos c]
   have:=hS a c
   rw[Rv hS r q _ ADj ADj]
  ·rw[if_neg c,if_neg c]
theorem IY{S:Ay}(hS: ∀i,i<S.length->i<S.getD i 0){a:Nat}(h:a<S.length):BI S a=a::BI S (S.getD a 0):=by
 unfold BI;obtain⟨r,hr⟩: ∃r,S.length-a=r+1:=⟨S.length-a-1,by lia⟩
 have:=hS a h
 rw[hr,GN,if_pos h,Rv hS r (S.length-S.getD a 0) _ ADj ADj]
theorem Js{S:Ay}{a:Nat}(h:S.length<=a):BI S a=[a]:=by
 unfold BI;rw[show S.length-a=0 by lia];rfl
theorem fH{S:Ay}(hS: ∀i,i<S.length->i<S.getD i 0/\S.getD i 0<=S.length): ∀(r a:Nat),S.length<=a+r->a<=S.length->Up (BI S a)/\(∀v∈BI S a,a<=v/\v<=S.length)/\S.length∈BI S a
 |0,a,h,h2=>by
  rw[Js ADj]
  refine⟨LS _ _,λv hv=>?_,?_⟩
  ·rw[List.mem_singleton.mp hv];lia
  ·rw[Cv];lia
 |r+1,a,h,h2=>by
  by_cases c:a<S.length
  ·obtain⟨u1,u2⟩:=hS a c
   obtain⟨i1,i2,i3⟩:=fH hS r (S.getD a 0) ADj u2
   rw[IY (λi hi=>(hS i hi).1) c];refine⟨List.pairwise_cons.mpr ⟨λv hv=>?_,i1⟩,λv hv=>?_,.tail _ i3⟩
   ·have:=i2 v hv;lia
   ·rcases List.mem_cons.mp hv with rfl|hv
    ·lia
    ·have:=i2 v hv;lia
  ·rw[Js ADj]
   refine⟨LS _ _,λv hv=>?_,?_⟩
   ·rw[List.mem_singleton.mp hv];lia
   ·rw[Cv];lia
noncomputable def Mk:Ay->Nat->Ay
 |[],s=>[s]
 |c::r,s=>s::Mk r (s+c)
abbrev CT(c:Str×Str):Nat:=c.1.length+c.2.length
def Fb(x:Str):Nat:=x.cps.toList.count 32
structure WP(c:Str×Str):Prop where
 one:(c.1.cps.toList++c.2.cps.toList).count 32=1
theorem JF: ∀{cur:Ed},(∀c∈cur,WP c)->Fb (Fa cur)=cur.length:=by
 intro cur h;unfold Fb;rw[J_]
 induction cur with
 |nil=>rfl
 |cons c r ih=>
  show((c.1.cps.toList++c.2.cps.toList)++DI r).count 32=_
  rw[QV,(h c (.head _)).one,ih λd hd=>h d (.tail _ hd),Ap];lia
theorem JY(cs:Ed)(b j:Nat):M5 ((cs.take j).drop b)=LD (cs.map CT) b j:=by
 unfold M5 LD;rw[<-F3,<-Dk]
section
variable{cs:Ed}{m:Nat}
theorem K_{b j:Nat}(hb:b<=j)(hj:j<cs.length):(cs.take j).drop b++[cs[j]]=(cs.take (j+1)).drop b:=by
 rw[FF,AJ hj,List.drop_append_of_le_length (by rw[C5];lia)];rfl
theorem Jh{j:Nat}(hj:j<cs.length):[cs[j]]=(cs.take (j+1)).drop j:=by
 rw[<-K_ (Am j) hj,EW (by rw[C5];lia)];rfl
theorem K9{b j:Nat}(hj:j<=cs.length):((cs.take j).drop b).length=j-b:=by rw[A6,C5];lia
theorem KJ(h1: ∀c∈cs,WP c)(b j:Nat): ∀c∈(cs.take j).drop b,WP c:=λc hc=>h1 c (List.mem_of_mem_take (EI hc))
theorem PF(h1: ∀c∈cs,WP c): ∀(r b j:Nat) (rows:List Str),j+r=cs.length->b<j->(j=b+1∨LD (cs.map CT) b j<=m)->
 ∃rs,((cs.drop j).foldl (Ab.step m) ⟨rows,(cs.take j).drop b,0⟩).out=rows++rs/\Mk (rs.map Fb) b=BI (Ct (cs.map CT) m) b:=by
 have hN:(cs.map CT).length=cs.length:=AD _;have hL:(Ct (cs.map CT) m).length=cs.length:=by rw[Jp,hN]
 have hS: ∀i,i<(Ct (cs.map CT) m).length->i<(Ct (cs.map CT) m).getD i 0:=λi hi=>(WG (m:=m) ADj).1
 intro r
 induction r with
 |zero=>
  intro b j rows h hb hc;have hj:j=cs.length:=by lia
  subst hj;refine⟨[Fa ((cs.take cs.length).drop b)],?_,?_⟩
  ·rw[List.drop_length];rfl
  ·have Mr:(Ct (cs.map CT) m).getD b 0=cs.length:=by
    rw[PT ADj,QE]
    have:=QG (sz:=cs.map CT) (st:=b) (rm:=(m:Int)) ADj
    rcases hc with hc|hc
    ·split<;>lia
    ·have:=(IT (sz:=cs.map CT) (st:=b) (j:=cs.length) (rm:=(m:Int)) ADj ADj).mpr ADj
     split<;>lia
   rw[IY hS ADj,Mr,Js ADj]
   simp only[Aw,EC,Mk];rw[JF (KJ h1 _ _),K9 (Am _)]
   congr 2;lia
 |succ r ih=>
  intro b j rows h hb hc;have hj:j<cs.length:=by lia
  rw[BR hj,C0]
  by_cases c:LD (cs.map CT) b (j+1)<=m
  ·have e:Ab.step m ⟨rows,(cs.take j).drop b,0⟩ cs[j]=⟨rows,(cs.take (j+1)).drop b,0⟩:=by
    unfold Ab.step
    dsimp only
    rw[K_ ADj hj,JY,if_pos ADj]
   rw[e];exact ih b (j+1) rows ADj ADj (.inr c)
  ·have CD:(cs.take j).drop b≠[]:=λe=>by
    have:=K9 (cs:=cs) (b:=b) (j:=j) ADj
    rw[e] at this;simp at this;lia
   have e:Ab.step m ⟨rows,(cs.take j).drop b,0⟩ cs[j]=⟨rows++[Fa ((cs.take j).drop b)],(cs.take (j+1)).drop j,0⟩:=by
    unfold Ab.step
    dsimp only
    rw[K_ ADj hj,JY,if_neg ADj,<-Jh hj]
    cases hq:(cs.take j).drop b with
    |nil=>exact absurd hq CD
    |cons _ _=>rfl
   rw[e];obtain⟨rs,h2,h3⟩:=ih j (j+1) (rows++[Fa ((cs.take j).drop b)]) ADj ADj (.inl rfl)
   refine⟨Fa ((cs.take j).drop b)::rs,by rw[h2,AG];rfl,?_⟩
   have Mr:(Ct (cs.map CT) m).getD b 0=j:=by
    rw[PT ADj,QE]
    have n1: ¬j+1<=Cq (cs.map CT) b (m:Int):=λq=>by
     have:=(IT (sz:=cs.map CT) (st:=b) (j:=j+1) (rm:=(m:Int)) ADj ADj).mp q
     lia
    rcases hc with hc|hc
    ·split<;>lia
    ·have:=(IT (sz:=cs.map CT) (st:=b) (j:=j) (rm:=(m:Int)) ADj ADj).mpr ADj
     split<;>lia
   rw[IY hS ADj,Mr,<-h3]
   simp only[Aw,Mk];rw[JF (KJ h1 _ _),K9 ADj,show b+(j-b)=j by lia]
theorem lv(h1: ∀c∈cs,WP c){b:Nat}(hb:b<cs.length):Mk ((Hk m (cs.drop b)).map Fb) b=BI (Ct (cs.map CT) m) b:=by
 unfold Hk;rw[BR hb,C0];have e:Ab.step m (H7 0) cs[b]=⟨[],(cs.take (b+1)).drop b,0⟩:=by
  unfold Ab.step H7
  dsimp only
  split
  ·rw[<-Jh hb];rfl
  ·rw[<-Jh hb];rfl
 rw[e];obtain⟨rs,h2,h3⟩:=PF (m:=m) h1 (cs.length-(b+1)) b (b+1) [] ADj ADj (.inl rfl)
 rw[h2];exact h3
theorem Za(h1: ∀c∈cs,WP c){h:Nat}: ∀(r b j:Nat),j+r=cs.length->b<j->h+LD (cs.map CT) b j<=m->
 Mk ((((cs.drop j).foldl (Ab.step m) ⟨[],(cs.take j).drop b,h⟩).out).map Fb) b=b::BI (Ct (cs.map CT) m) (Cq (cs.map CT) b ((m:Int)-(h:Int))):=by
 have hN:(cs.map CT).length=cs.length:=AD _;have hL:(Ct (cs.map CT) m).length=cs.length:=by rw[Jp,hN]
 intro r
 induction r with
 |zero=>
  intro b j hr hb hc;have hj:j=cs.length:=by lia
  subst hj;have Mr:Cq (cs.map CT) b ((m:Int)-(h:Int))=cs.length:=by
   have:=QG (sz:=cs.map CT) (st:=b) (rm:=(m:Int)-(h:Int)) ADj
   have:=(IT (sz:=cs.map CT) (st:=b) (j:=cs.length) (rm:=(m:Int)-(h:Int)) ADj ADj).mpr ADj
   lia
  rw[Mr,Js ADj,List.drop_length]
  show Mk ([Fa ((cs.take cs.length).drop b)].map Fb) b=_;simp only[Aw,EC,Mk];rw[JF (KJ h1 _ _),K9 (Am _)]
  congr 2;lia
 |succ r ih=>
  intro b j hr hb hc;have hj:j<cs.length:=by lia
  rw[BR hj,C0]
  by_cases c:h+LD (cs.map CT) b (j+1)<=m
  ·have e:Ab.step m ⟨[],(cs.take j).drop b,h⟩ cs[j]=⟨[],(cs.take (j+1)).drop b,h⟩:=by
    unfold Ab.step
    dsimp only
    rw[K_ ADj hj,JY,if_pos ADj]
   rw[e];exact ih b (j+1) ADj ADj c
  ·have CD:(cs.take j).drop b≠[]:=λe=>by
    have:=K9 (cs:=cs) (b:=b) (j:=j) ADj
    rw[e] at this;simp at this;lia
   have e:Ab.step m ⟨[],(cs.take j).drop b,h⟩ cs[j]=⟨[Fa ((cs.take j).drop b)],(cs.take (j+1)).drop j,0⟩:=by
    unfold Ab.step
    dsimp only
    rw[K_ ADj hj,JY,if_neg ADj,<-Jh hj]
    cases hq:(cs.take j).drop b with
    |nil=>exact absurd hq CD
    |cons _ _=>rfl
   rw[e];obtain⟨rs,h2,h3⟩:=PF (m:=m) h1 r j (j+1) [Fa ((cs.take j).drop b)] ADj ADj (.inl rfl)
   rw[h2];have Mr:Cq (cs.map CT) b ((m:Int)-(h:Int))=j:=by
    have n1: ¬j+1<=Cq (cs.map CT) b ((m:Int)-(h:Int)):=λq=>by
     have:=(IT (sz:=cs.map CT) (st:=b) (j:=j+1) (rm:=(m:Int)-(h:Int)) ADj ADj).mp q
     lia
    have:=(IT (sz:=cs.map CT) (st:=b) (j:=j) (rm:=(m:Int)-(h:Int)) ADj ADj).mpr ADj
    lia
   rw[Mr,<-h3];simp only[A5,Al,Aw,Mk];rw[JF (KJ h1 _ _),K9 ADj,show b+(j-b)=j by lia]
theorem ie(h1: ∀c∈cs,WP c){h b:Nat}(hh:0<h)(hb:b<cs.length):
 Mk ((C4 m h (cs.drop b)).map Fb) b=b::BI (Ct (cs.map CT) m) (Cq (cs.map CT) b ((m:Int)-(h:Int))):=by
 have hN:(cs.map CT).length=cs.length:=AD _;unfold C4;rw[BR hb,C0];have hp:LD (cs.map CT) b (b+1)=M5 [cs[b]]:=by rw[<-JY,<-Jh hb]
 by_cases c:h+M5 [cs[b]]<=m
 ·have e:Ab.step m (H7 h) cs[b]=⟨[],(cs.take (b+1)).drop b,h⟩:=by
   unfold Ab.step H7
   dsimp only
   rw[Al,if_pos c,<-Jh hb]
  rw[e];exact Za h1 (cs.length-(b+1)) b (b+1) ADj ADj ADj
 ·have e:Ab.step m (H7 h) cs[b]=⟨[eS],(cs.take (b+1)).drop b,0⟩:=by
   unfold Ab.step H7
   dsimp only
   rw[Al,if_neg c,if_neg ADj,<-Jh hb];rfl
  rw[e];obtain⟨rs,h2,h3⟩:=PF (m:=m) h1 (cs.length-(b+1)) b (b+1) [eS] ADj ADj (.inl rfl)
  rw[h2];have Mr:Cq (cs.map CT) b ((m:Int)-(h:Int))=b:=by
   have n1: ¬b+1<=Cq (cs.map CT) b ((m:Int)-(h:Int)):=λq=>by
    have:=(IT (sz:=cs.map CT) (st:=b) (j:=b+1) (rm:=(m:Int)-(h:Int)) ADj ADj).mp q
    lia
   have:=Zw (sz:=cs.map CT) (st:=b) (rm:=(m:Int)-(h:Int)) ADj
   lia
  rw[Mr,<-h3]
  rfl
end
def G_(S:Ay):Prop:= ∀i,i<S.length->i<S.getD i 0/\S.getD i 0<=S.length
theorem Xs(sz:Ay)(m:Nat):G_ (Ct sz m):=λi hi=>by
 rw[Jp] at hi⊢;exact WG hi
section
variable{S:Ay}
theorem G_.w(h:G_ S){a:Nat}(ha:a<=S.length):Up (BI S a)/\(∀v∈BI S a,a<=v/\v<=S.length)/\S.length∈BI S a:=fH h (S.length-a) a ADj ha
theorem G_.one(h:G_ S): ∀i,i<S.length->i<S.getD i 0:=λi hi=>(h i hi).1
theorem RD(h:G_ S){c:Nat}: ∀(r a:Nat),S.length<=a+r->a<=S.length->c∈BI S a-> ∀v,(v∈BI S a/\c<=v)↔v∈BI S c
 |0,a,hr,ha,hc,v=>by
  have e:a=S.length:=Nat.le_antisymm ha hr;subst e;rw[Js (Am _)] at hc⊢;rw[Cv] at hc;subst hc;rw[Js (Am _),Cv]
  constructor
  ·exact λh=>h.1
  ·exact λh=>⟨h,Ge (Eq.symm h)⟩
 |r+1,a,hr,ha,hc,v=>by
  by_cases ua:c=a
  ·subst ua
   exact⟨λh=>h.1,λhv=>⟨hv,((h.w ha).2.1 v hv).1⟩⟩
  ·by_cases IP:a<S.length
   ·rw[IY h.one IP] at hc⊢
    have yx:c∈BI S (S.getD a 0):=by
     rcases List.mem_cons.mp hc with e|e
     ·exact absurd e ua
     ·exact e
    obtain⟨u1,u2⟩:=h a IP;have hac:=((h.w u2).2.1 c yx).1;rw[<-RD h r (S.getD a 0) ADj u2 yx v]
    constructor
    ·rintro⟨hv,ue⟩
     rcases List.mem_cons.mp hv with e|e
     ·lia
     ·exact⟨e,ue⟩
    ·rintro⟨hv,ue⟩
     exact⟨.tail _ hv,ue⟩
   ·have e:a=S.length:=by lia
    subst e;rw[Js (Am _),Cv] at hc;exact absurd hc ua
theorem sZ{l m:Ay}(hl:Up l)(hm:Up m)(h: ∀v,v∈l↔v∈m):l=m:=by
 induction l generalizing m with
 |nil=>
  cases m with
  |nil=>rfl
  |cons b m=>exact absurd ((h b).mpr (.head _)) ADn
 |cons a l ih=>
  cases m with
  |nil=>exact absurd ((h a).mp (.head _)) ADn
  |cons b m=>
   obtain⟨l1,l2⟩:=List.pairwise_cons.mp hl;obtain⟨m1,m2⟩:=List.pairwise_cons.mp hm;have e:a=b:=by
    have ha:=(h a).mp (.head _);have hb:=(h b).mpr (.head _)
    rcases List.mem_cons.mp ha with e|ha
    ·exact e
    ·rcases List.mem_cons.mp hb with e|hb
     ·exact e.symm
     ·have:=m1 a ha;have:=l1 b hb;lia
   subst e;rw[ih l2 m2 λv=>?_]
   constructor
   ·intro hv
    rcases List.mem_cons.mp ((h v).mp (.tail _ hv)) with e|e
    ·subst e;have:=l1 v hv;lia
    ·exact e
   ·intro hv
    rcases List.mem_cons.mp ((h v).mpr (.tail _ hv)) with e|e
    ·subst e;have:=m1 v hv;lia
    ·exact e
def PN(X Y:Ay):Nat:=(X.filter λv=>decide (v∈Y)).headD 0
theorem XM{l:Ay}(hl:Up l)(p:Nat->Bool){x:Nat}(hx:x∈l)(hp:p x=true):(l.filter p).headD 0∈l/\p ((l.filter p).headD 0)=true/\ ∀v∈l,p v=true->(l.filter p).headD 0<=v:=by
 have hu:=hl.sublist (Gr (p:=p));have hm:x∈l.filter p:=List.mem_filter.mpr ⟨hx,hp⟩;cases h:l.filter p with
 |nil=>rw[h] at hm;cases hm
 |cons a r=>
  rw[h] at hu;have ha:a∈l.filter p:=by rw[h];exact .head _
  obtain⟨a1,a2⟩:=List.mem_filter.mp ha;refine⟨a1,a2,λv hv hpv=>?_⟩
  have:v∈l.filter p:=List.mem_filter.mpr ⟨hv,hpv⟩
  rw[h] at this
  rcases List.mem_cons.mp this with rfl|hv
  ·exact Am _
  ·exact Cw ((List.pairwise_cons.mp hu).1 v hv)
theorem dm(h:G_ S){a b:Nat}(ha:a<=S.length)(hb:b<=S.length):
 E9 (BI S a) (BI S b)=((BI S a).filter (λv=>decide (v<PN (BI S a) (BI S b))),(BI S b).filter (λv=>decide (v<PN (BI S a) (BI S b)))):=by
 obtain⟨a1,a2,a3⟩:=h.w ha;obtain⟨b1,b2,b3⟩:=h.w hb;obtain⟨m1,m2,m3⟩:=XM a1 (λv=>decide (v∈BI S b)) a3 (by simpa using b3)
 have m2:PN (BI S a) (BI S b)∈BI S b:=of_decide_eq_true m2;have m1:PN (BI S a) (BI S b)∈BI S a:=m1;have m3: ∀v∈BI S a,v∈BI S b->PN (BI S a) (BI S b)<=v:=λv hv hv2=>m3 v hv (by simpa using hv2)
 have ta:=RD h (S.length-a) a ADj ha m1
 have tb:=RD h (S.length-b) b ADj hb m2
 rw[Nj a1 b1];unfold sub
 congr 1
 ·refine FE λv hv=>?_
  rw[decide_eq_decide]
  constructor
  ·intro hn
   refine LV λhle=>hn ?_
   exact((tb v).mpr ((ta v).mp ⟨hv,hle⟩)).1
  ·intro IP hm
   have:=m3 v hv hm
   exact absurd IP (Nat.not_lt.mpr this)
 ·refine FE λv hv=>?_
  rw[decide_eq_decide]
  constructor
  ·intro hn
   refine LV λhle=>hn ?_
   exact((ta v).mpr ((tb v).mp ⟨hv,hle⟩)).1
  ·intro IP hm
   have:=m3 v hm hv
   exact absurd IP (Nat.not_lt.mpr this)
theorem YA(h:G_ S){a n o:Nat}(ha:a<S.length)(hn:a<=n)(mZ:n<=S.length)(ho:o<=S.length):
 E9 (a::BI S n) (BI S o)=(D3 (a::BI S n) (BI S o),D3 (BI S o) (a::BI S n)):=by
 obtain⟨o1,o2,o3⟩:=h.w ho;obtain⟨n1,n2,n3⟩:=h.w mZ
 by_cases c:a=n
 ·subst c
  have e:=IY h.one ha;obtain⟨W,hW⟩: ∃W,BI S a=a::W:=⟨_,e⟩;rw[hW] at n1⊢;rw[WC n1 o1 ⟨_,o3,mZ⟩,dZ,N9 n1.nodup,XZ (Y:=a::a::W) (Z:=a::W) ADn,N9 o1.nodup]
 ·have hu:Up (a::BI S n):=List.pairwise_cons.mpr ⟨λv hv=>by have:=(n2 v hv).1;lia,n1⟩
  rw[Nj hu o1,N9 hu.nodup,N9 o1.nodup]
theorem VB(h:G_ S){a:Nat}(ha:a<=S.length):(Ah (S.length+1)).filter (λv=>decide (v∈BI S a))=BI S a:=by
 obtain⟨a1,a2,a3⟩:=h.w ha;refine sZ ((Ma).sublist Gr) a1 λv=>?_;rw[List.mem_filter,Nv,decide_eq_true_iff];exact⟨λq=>q.2,λq=>⟨by have:=a2 v q;lia,q⟩⟩
theorem iZ(h:G_ S){a n:Nat}(ha:a<S.length)(hn:a<=n)(mZ:n<=S.length):
 EG (EG (Ah (S.length+1)) (BI S a)) (a::BI S n)=(BI S a).filter (λv=>decide (v∈a::BI S n)):=by
 obtain⟨a1,a2,a3⟩:=h.w (Cw ha);obtain⟨n1,n2,n3⟩:=h.w mZ;rw[Zq Ma a1,VB h (Cw ha)]
 by_cases c:a=n
 ·subst c
  obtain⟨W,hW⟩: ∃W,BI S a=a::W:=⟨_,IY h.one ha⟩;rw[hW] at a1 a3⊢;rw[iY a1 a1 ⟨_,a3,mZ⟩];refine FE λv hv=>?_;rw[decide_eq_decide];simp
 ·have hu:Up (a::BI S n):=List.pairwise_cons.mpr ⟨λv hv=>by have:=(n2 v hv).1;lia,n1⟩
  rw[Zq a1 hu]
theorem PL: ∀(r:Bool) (l:Ay),E6 r l l=false
 |r,[]=>by cases r<;>rfl
 |r,a::l=>by rw[E6,if_pos rfl];exact PL r l
theorem d_(p q:Nat):decide (EY (BI S p) (BI S q)<0)=decide (p<q):=by
 by_cases c:p=q
 ·subst c
  unfold EY;rw[PL,PL];simp
 ·have e1:E6 true (BI S p) (BI S q)=decide (q<p):=by
   unfold BI;rw[E6,if_neg c];rfl
  have e2:E6 false (BI S p) (BI S q)=decide (p<q):=by
   unfold BI;rw[E6,if_neg c];rfl
  unfold EY;rw[e1,e2,decide_eq_decide]
  by_cases d:p<q
  ·have: ¬q<p:=by lia
   simp[d,this]
  ·have:q<p:=by lia
   simp[d,this]
end
structure LC where
 wi:Nat
 hd:Nat
 ch:Nat
 sz:Nat
 st:Nat
 du:Nat
 be:Nat
 ba:Nat
 na:Nat
 wa:Nat
 ot:Nat
 pl:Nat
abbrev lwC(K:LC):List (Str×Addr):=[(OE,K.pl+323),(WN,K.ot+323),(CJ,K.wa+323),(QS,K.na+323),(fE,K.ba+323),(RB,K.be+323),(po,K.du+323),(FQ,K.st+323),(Ej,K.sz+323),(DK,K.ch+323),(QR,K.hd+323),(ER,K.wi+323)]
abbrev Fi(B:Bx)(K:LC)(L:Nat):Env:=AR B.P 322 (lwC K) (L+323)
noncomputable abbrev IS(a:Addr)(xs:Ak):Bi:=.one a (.ex ⟨.type "list",none,.seq ⟨xs⟩ 0,⟨[]⟩⟩)
include O
def bv(U:AA 3 A)(a:Addr)(xs:Ak):Ag B.C A:=
 DN O U "list.__len__" [.ref a] [IS a xs] (λk:Nat=>.int (xs.length:Int) k) (λk=>[IS a xs]) (λU=>.g 65<|.fi () [0]) λU=>.g 65<|.fr λk0=>.fi (k0) [0]
theorem gx(U:AA 4 A)(a:Addr)(xs:Ak):
 AC B.C A (ED (.ref a) "__len__") [IS a xs]
  (λk:Nat=>some (Be (xs.length:Int) k))
  (λk=>[IS a xs]):=
 rn O U (.g 65<|.cc (bv O U.l a xs) [0] λy0=>.fi (y0) [0])
theorem kY(U:AA 1 A)(a:Addr)(sl:Nat)(xs:Ak)(u v:Value):
 AS B A (AU "list.__getitem__" ⟨[.ref a,.ref (sl+323)],[]⟩) [IS a xs,F8 sl u v] () [IS a xs,F8 sl u v]:=
 by apply Hc O U (.g 65<|.fi () [0,0])
omit O
theorem R6{C:Cx}{A:AL}(O:C.Ok){l sl:Addr}{c:Value}{d:Option Addr}{xs:Ak}{n:Nat}{vl vu:Value}{lo hi:Option Int}(pl:PX vl lo)(pu:PX vu hi)(hx:xs.length<=1000){ys:Ak}
 (hy:(RH ⟨xs⟩ lo hi none).toList=ys):
 AC C A (Builtin.«list.__getitem__» ⟨[.ref l,.ref sl],[]⟩) [.one l (.ex ⟨c,d,.seq ⟨xs⟩ n,⟨[]⟩⟩),.one sl (.ex ⟨.type "slice",none,.fields ⟨[vl,vu,.none]⟩,⟨[]⟩⟩)]
  (λa:Nat=>.done (.ret (.ref (a+323)))) (λa=>[.one (a+323) (.ls (.type "list") none ys),.one l (.ex ⟨c,d,.seq ⟨xs⟩ n,⟨[]⟩⟩),.one sl (.ex ⟨.type "slice",none,.fields ⟨[vl,vu,.none]⟩,⟨[]⟩⟩)]):=by
 subst hy;intro R s S;obtain⟨g,ho⟩:=S.Dj;have MJ:=DV S.swap;have TV:s.TypeIs (.ref sl) "slice":=⟨_,MJ,rfl⟩;have Is:(⟨xs⟩:Bs).size<=sizeLine:=AK (show xs.length<=1000 from hx) ADm
 show BN _ _ (Bb (.ref sl)>>=_) _ _ s;refine AB ?_;unfold Bb;refine AB (I_ TV J4 ?_);simp only[J0,if_true];refine AP ?_;show BN _ _ (J5 (.ref sl)>>=_) _ _ s;refine AB (H6 TV ?_);refine iN ADm ?_
 rw[H3];refine AB (AB (B9 MJ rfl (x:=.none) rfl (AB (DF .none ?_))));refine iN ADm ?_
 refine AB (B9 MJ rfl (x:=vl) rfl (AB (DF pl ?_)));refine AB (B9 MJ rfl (x:=vu) rfl (AB (DF pu (AP ?_))));refine AB (m:=A7 (.ref l)) ?_;unfold A7;refine AB (DG ho rfl (AP ?_));refine AB (GR (Ie lo hi none xs.length ADn) ?_)
 refine AB (DS (AP ?_) (AK (Kd _ lo hi none) Is));refine⟨s.heap.objs.size-323,?_,?_⟩
 ·rw[<-S.size_eq O]
 ·rw[<-S.size_eq O]
  exact S.alloc rfl ⟨G0,rfl⟩
section
variable(B:Bx)(A:AL)(O:B.C.Ok)
def S_(U:AA 6 A)(a:Addr)(xs:Ak)(hx:xs.length<=1000):Ag B.C A where
 c:=.builtin "len" ⟨[.ref a],[]⟩
 F:=[IS a xs]
 X:=Nat×Nat
 res:=λp=>.ok (.ret (.int (xs.length:Int) p.2))
 led:=λp=>[IS a xs]
 ok:=L7 ADl Kz (IG ADj (gx O (A:=A.in1) U.l.in1 a xs))
def gY(U:AA 6 A)(a:Addr)(v:Value)(vs:Ak)(hx:vs.length<=900):Ag B.C A:=
 (S_ B A O U a (v::vs) (by simp;lia)).re (λp:Nat×Nat=>.ok (.ret (.int ((vs.length+1:Nat):Int) p.2))) (λYa=>[IS a (v::vs)]) (λp=>p) (λYa=>rfl) (λYa=>rfl)
def gW(U:AA 6 A)(a:Addr):Ag B.C A:=
 (S_ B A O U a [] ADn).re (λp:Nat×Nat=>.ok (.ret (.int 0 p.2))) (λYa=>[IS a []]) (λp=>p) (λYa=>rfl) (λYa=>rfl)
def bc(U:AA 3 A)(a:Addr)(sl:Nat)(u' v:Nat)(xs:Ak)(hx:xs.length<=1000):Ag B.C A where
 c:=.call (.builtin "list.__getitem__") ⟨[.ref a,.ref (sl+323)],[]⟩
 F:=[IS a xs,F8 sl .none (.int (v:Int) u')]
 X:=Nat
 res:=λx=>.ok (.ret (.ref (x+323)))
 led:=λx=>[AE x (xs.take v),IS a xs,F8 sl .none (.int (v:Int) u')]
 ok:=BF ADl Dq (kY O U.l.in1 a sl xs .none (.int (v:Int) u')) (R6 O .none (.int _ _) hx (by rw[slicePick_upto']))
end
include O
theorem vf(U:AA 20 A)(L:Nat)(K:LC)(ar:Addr)(v:Value)(vs:Ak)(hl:vs.length<=900):
 AC B.C A (Ac ((A4 B.P 322).take 1) (Fi B K L)) [AI L [(Cb,.ref ar)],IS ar (v::vs)]
  (λq:Nat=>.next)
  (λq=>[AI L [(Cb,.ref ar),(CZ,.ref (q+323))],AE q (v::vs.take 3),IS ar (v::vs)]):=Ix O U (.g 270465<|.cc (gY _ _ O U.l ar v vs hl) [1] λYa=>.fr λk1=>.al λa2=>.g 270466<|.cc (bc _ _ O U.l ar a2 k1 4 (v::vs) (by first|lia|assumption|(simp<;>lia))) [1,0] λy3=>.cc (Dp O U.l) [] λYa=>.fr λk5=>.g 6340<|.fi (y3) [3,0,0])
theorem ve(U:AA 20 A)(L:Nat)(K:LC)(ar:Addr):
 AC B.C A (Ac ((A4 B.P 322).take 1) (Fi B K L)) [AI L [(Cb,.ref ar)],IS ar []]
  (λq:Nat×Nat×Nat×Nat×Nat=>.next)
  (λq=>[AI L [(Cb,.ref ar),(CZ,.ref (q.1+323))],AE q.1 [.int 21 q.2.1,.int 6 q.2.2.1,.int 3 q.2.2.2.1,.int 0 q.2.2.2.2],IS ar []]):=Ix O U (.g 270465<|.cc (gW _ _ O U.l ar) [1] λYa=>.fr λk1=>.fr λk2=>.fr λk3=>.fr λk4=>.al λa5=>.fr λk6=>.al λa7=>.g 270466<|.cc (VU _ _ O U.l a5 a7 k6 4 [.int 21 k1,.int 6 k2,.int 3 k3,.int 0 k4] (by first|lia|assumption|(simp<;>lia)|decide)) [1,0] λy8=>.cc (Dp O U.l) [] λYa=>.fr λH9=>.g 6405<|.fi (y8,k1,k2,k3,k4) [4,0,2])
noncomputable def HD:List Int->List Int
 |[]=>[21,6,3,0]
 |v::vs=>v::vs.take 3
omit O
theorem Q4(l:List Int):1<=(HD l).length/\(HD l).length<=4:=by
 cases l with
 |nil=>exact⟨by decide,by decide⟩
 |cons v vs=>simp only[HD,Ap,C5];lia
structure xz(l:List Int) where
 n:Nat
 zs:List (Int×Nat)
 ok:zn zs=HD l
include O
theorem zw(U:AA 20 A)(L:Nat)(K:LC)(ar:Addr)(ss:List (Int×Nat))(hl:ss.length<=900):
 AC B.C A (Ac ((A4 B.P 322).take 1) (Fi B K L)) [AI L [(Cb,.ref ar)],IS ar (ss.map zv)] (λYa:xz (zn ss)=>.next) (λq=>[AI L [(Cb,.ref ar),(CZ,.ref (q.n+323))],AE q.n (q.zs.map zv),IS ar (ss.map zv)]):=by
 cases ss with
 |nil=>exact(ve O U L K ar).weaken λq=>⟨⟨q.1,[(21,q.2.1),(6,q.2.2.1),(3,q.2.2.2.1),(0,q.2.2.2.2)],rfl⟩,rfl,λR s S=>S⟩
 |cons v vs=>
  simp only[Ap] at hl
  exact(vf O U L K ar (zv v) (vs.map zv) (by rw[AD];lia)).weaken λq=>⟨⟨q,v::vs.take 3,by simp[zn,HD,F3]⟩,rfl,λR s S=>by
   have e:zv v::(vs.map zv).take 3=(v::vs.take 3).map zv:=by rw[Aw,F3]
   rw[<-e];exact S⟩
omit O
section
variable(B:Bx)(A:AL)(O:B.C.Ok)
def Wx(U:AA 3 A)(x sl u t:Nat)(xs:List (Int×Nat))(hx:xs.length<=1000):Ag B.C A:=
 (NC B A O U x sl u t (xs.map zv) (by rw[AD];exact hx)).re (λa:Nat=>.ok (.ret (.ref (a+323)))) (λa=>[AE a ((xs.drop u).map zv),AE x (xs.map zv),F8 sl (.int (u:Int) t) .none]) (λa=>a) (λYa=>rfl) (λa=>by show [AE a ((xs.map zv).drop u),_,_]=_;rw[Dk])
def gE(U:AA 3 A)(x y a b c:Nat)(xs:List (Int×Nat))(hx:xs.length<=1000):Ag B.C A:=
 (Kw B A O U x y (xs.map zv) [.int 0 a,.int 5 b,.int 2 c] (by rw[AD];exact hx) ADn).re (λr:Nat=>.ok (.ret (.ref (r+323)))) (λr=>[AE r ((xs++[(0,a),(5,b),(2,c)]).map zv),AE x (xs.map zv),AE y [.int 0 a,.int 5 b,.int 2 c]]) (λa=>a) (λYa=>rfl) (λr=>by rw[AZ];rfl)
end
structure xy(zs:List (Int×Nat)) where
 wt:Nat
 ht:Nat
 k1:Nat
 k2:Nat
 k3:Nat
 c:Nat
 ch:fJ (zn (zs.drop 1++[(0,k1),(5,k2),(2,k3)]))
include O
theorem zx(U:AA 30 A)(L n t:Nat)(K:LC)(ar:Addr)(v:Int)(zs:List (Int×Nat))(hl:(zs.map zv).length<=1000)(Mq:zs.length<=1000)(h3:(zs.drop 1).length<=3)(hx:(zs.map zv)[0]? =some (.int v t)):
 AC B.C A (Ac (((A4 B.P 322).drop 1).take 2) (Fi B K L)) [AI L [(Cb,.ref ar),(CZ,.ref (n+323))],AE n (zs.map zv),C3 K.wi none,C3 K.hd none,C3 K.ch none]
  (λq:xy zs=>.next)
  (λq=>[AI L [(Cb,.ref ar),(CZ,.ref (n+323))],AW K.wi (.int ((2+C_ v 7:Nat):Int) q.wt),AW K.hd (.int ((1+C_ (v.fdiv ((8:Nat):Int)) 8:Nat):Int) q.ht),AW K.ch (.ref (q.c+323)),AE q.c (q.ch.AH.map It.v),Ai q.ch.AH]):=by
 obtain⟨_,_|_⟩:=B<;>exact D7 O U (.fr λk0=>.g 65<|.fr λk1=>.g 270466<|.cc (BZ O U.l n 0 k1 (B0 zv zs) (.int v t) hx hl) [1] λYa=>.fr λk3=>.cc (IK _ _ U.l v 7 t k3) [] λ(y4:Nat)=>.cc (GA _ _ O U.l 2 (C_ v 7) k0 y4) [] λ(y5:Nat)=>.fr λk6=>.g 66<|.fr λk7=>.g 266305<|.cc (BZ O U.l n 0 k7 (B0 zv zs) (.int v t) hx hl) [0] λYa=>.fr λk9=>.cc (Qn _ _ U.l v 7 t k9 (by first|lia|assumption|decide|(simp at* <;>lia))) [] λ(RF:Nat)=>.fr λQB=>.cc (IK _ _ U.l (v.fdiv ↑(7+1)) 8 RF QB) [] λ(OR:Nat)=>.cc (GA _ _ O U.l 1 (C_ (v.fdiv ↑(7+1)) 8) k6 OR) [] λ(UM:Nat)=>.al λUY=>.g 266305<|.cc (Ff O U.l UY [.int (↑(2+C_ v 7)) y5,.int (↑(1+C_ (v.fdiv ↑(7+1)) 8)) UM]) [0] λ(xn:Nat)=>.g 4161<|.cc (E1 O U.l xn UY (.int (↑(2+C_ v 7)) y5) (.int (↑(1+C_ (v.fdiv ↑(7+1)) 8)) UM)) [0,0] λYa=>.g 65<|.cc (E2 O U.l xn UY (.int (↑(2+C_ v 7)) y5) (.int (↑(1+C_ (v.fdiv ↑(7+1)) 8)) UM)) [0,0] λYa=>.g 65<|.cc (E3 O U.l xn UY (.int (↑(2+C_ v 7)) y5) (.int (↑(1+C_ (v.fdiv ↑(7+1)) 8)) UM)) [0,0] λYa=>.g 4673546895681<|.fr λvS=>.al λtw=>.g 278788<|.cc (Wx _ _ O U.l n tw 1 vS zs Mq) [3,0] λ(y21:Nat)=>.fr λiW=>.fr λiX=>.fr λm4=>.al λtz=>.g 270402<|.cc (gE _ _ O U.l y21 tz iW iX m4 (Cd 1 zs) (by first|lia|assumption|decide|(simp at* <;>lia))) [1,0] λ(y26:Nat)=>.g 64<|.cc (Yj O U.l y26 (Cd 1 zs++[(0,iW),(5,iX),(2,m4)]) (by first|lia|assumption|decide|(simp at* <;>lia)) (by first|lia|assumption|decide|(simp at* <;>lia))) [0] λ(y27:Nat×fJ (zn (Cd 1 zs++[(0,iW),(5,iX),(2,m4)])))=>.g 6925<|.fi (⟨y5,UM,iW,iX,m4,y27.1,y27.2⟩) [9,9,9,9,0,0])
def DA(l:List Int):Ed:=Ja ((HD l).drop 1++[0,5,2])
def GG(l:List Int):Nat:=2+C_ ((HD l).headD 0) 7
def K6(l:List Int):Nat:=1+C_ (((HD l).headD 0).fdiv ((8:Nat):Int)) 8
structure xx(l:List Int) where
 n:Nat
 wt:Nat
 ht:Nat
 c:Nat
 AH:List It
 ok:AH.map It.ab=DA l
omit O
theorem sr(a b:List (Int×Nat)):zn (a++b)=zn a++zn b:=AZ
theorem qF(a:List (Int×Nat))(k:Nat):zn (a.drop k)=(zn a).drop k:=Dk
include O
theorem vd(U:AA 30 A)(L:Nat)(K:LC)(ar:Addr)(ss:List (Int×Nat))(hl:ss.length<=900):
 AC B.C A (Ac ((A4 B.P 322).take 3) (Fi B K L)) [AI L [(Cb,.ref ar)],IS ar (ss.map zv),C3 K.wi none,C3 K.hd none,C3 K.ch none] (λYa:xx (zn ss)=>.next)
  (λq=>[AI L [(Cb,.ref ar),(CZ,.ref (q.n+323))],AW K.wi (.int (GG (zn ss):Int) q.wt),AW K.hd (.int (K6 (zn ss):Int) q.ht),AW K.ch (.ref (q.c+323)),AE q.c (q.AH.map It.v),Ai q.AH,IS ar (ss.map zv)]):=by
 have e:(A4 B.P 322).take 3=(A4 B.P 322).take 1++((A4 B.P 322).drop 1).take 2:=by
  rw[show(3:Nat)=1+2 from rfl,List.take_add]
 rw[e];refine AC.seq ((zw O U.l L K ar ss hl).frame [C3 K.wi none,C3 K.hd none,C3 K.ch none]) λq=>?_;obtain⟨n,zs,hz⟩:=q;obtain⟨h1,h4⟩:=Q4 (zn ss);rw[<-hz] at h1 h4;unfold zn at h1 h4;rw[AD] at h1 h4;obtain⟨v,r,rfl⟩: ∃v r,zs=v::r:=by cases zs with|nil=>simp at h1|cons v r=>exact⟨v,r,rfl⟩
 have hv:(HD (zn ss)).headD 0=v.1:=by rw[<-hz];rfl
 unfold GG K6;rw[hv];refine AC.weaken (((zx O U.l L n v.2 K ar v.1 (v::r) (by rw[AD];lia) ADj (by rw[A6];lia) rfl).frame [IS ar (ss.map zv)]).ix [0,0,1,1,1,0] rfl) λq=>⟨⟨n,q.wt,q.ht,q.c,q.ch.AH,?_⟩,rfl,λR s S=>S⟩
 rw[q.ch.ok];unfold DA;rw[<-hz,sr,qF];rfl
def Iy:Expr:=vE (sN 29 3)
def lwQ:Str:=Bl [108,97,119,46,60,108,111,99,97,108,115,62,46]
abbrev Gm(e:Expr)(cl:List (Str×Addr))(L D:Nat):Env:=FM (qa e) lwQ 321 cl L D
theorem ji(U:AA 10 A)(L D c a acc i o:Nat)(xs vs:Ak)(f p:Str)(tf tp:Nat)(hx:xs[i]? =some (.ref (o+323)))(hf:f.length<=1000000)(hp:p.length<=1000000)(hv:vs.length<=1000):
 AC B.C A (BM (.compLoop Iy 0 (.ref (a+323)) (.ref (acc+323)) (Gm Iy [] L D))) [As D [],BQ a c i,AE c xs,AV o [.str f tf,.str p tp],AE acc vs]
  (λk:Nat=>.again (.compLoop Iy 0 (.ref (a+323)) (.ref (acc+323)) (Gm Iy [] L D)))
  (λk=>[As D [(DC,.str f tf),(Es,.str p tp)],BQ a c (i+1),AE c xs,AV o [.str f tf,.str p tp],AE acc (vs++[Be ((f.length+p.length:Nat):Int) k])]):=by
 obtain⟨_,_|_⟩:=B<;>exact rn O U (.g 66<|.cc (Fe O U.l a c i xs (.ref (o+323)) hx) [1,1] λYa=>.g 17842433<|.cc (Ff O U.l o [.str f tf,.str p tp]) [3] λy1=>.g 4161<|.cc (E1 O U.l y1 o (.str f tf) (.str p tp)) [0,0] λYa=>.g 65<|.cc (E2 O U.l y1 o (.str f tf) (.str p tp)) [0,0] λYa=>.g 65<|.cc (E3 O U.l y1 o (.str f tf) (.str p tp)) [0,0] λYa=>.g 65<|.fr λk5=>.g 6405<|.fr λk6=>.g 1157630213<|.cc (JQ O U.l f tf hf) [] λ(y7:Nat×Nat)=>.g 282624<|.cc (JQ O U.l p tp hp) [] λ(y8:Nat×Nat)=>.cc (GA _ _ O U.l f.length p.length y7.snd y8.snd) [] λy9=>.cc (Do O U.l acc (.int (↑(f.length+p.length)) y9) vs hv) [5] λYa=>.fi (y9) [5,3,3,2,0])
theorem jj(U:AA 10 A)(L D c a acc i o:Nat)(xs vs:Ak)(f p f' p':Str)(tf tp tf' tp':Nat)(hx:xs[i]? =some (.ref (o+323)))(hf:f.length<=1000000)(hp:p.length<=1000000)(hv:vs.length<=1000):
 AC B.C A (BM (.compLoop Iy 0 (.ref (a+323)) (.ref (acc+323)) (Gm Iy [] L D))) [As D [(DC,.str f' tf'),(Es,.str p' tp')],BQ a c i,AE c xs,AV o [.str f tf,.str p tp],AE acc vs]
  (λk:Nat=>.again (.compLoop Iy 0 (.ref (a+323)) (.ref (acc+323)) (Gm Iy [] L D)))
  (λk=>[As D [(DC,.str f tf),(Es,.str p tp)],BQ a c (i+1),AE c xs,AV o [.str f tf,.str p tp],AE acc (vs++[Be ((f.length+p.length:Nat):Int) k])]):=by
 obtain⟨_,_|_⟩:=B<;>exact rn O U (.g 66<|.cc (Fe O U.l a c i xs (.ref (o+323)) hx) [1,1] λYa=>.g 17842433<|.cc (Ff O U.l o [.str f tf,.str p tp]) [3] λy1=>.g 4161<|.cc (E1 O U.l y1 o (.str f tf) (.str p tp)) [0,0] λYa=>.g 65<|.cc (E2 O U.l y1 o (.str f tf) (.str p tp)) [0,0] λYa=>.g 65<|.cc (E3 O U.l y1 o (.str f tf) (.str p tp)) [0,0] λYa=>.g 65<|.fr λk5=>.g 6405<|.fr λk6=>.g 1157630213<|.cc (JQ O U.l f tf hf) [] λ(y7:Nat×Nat)=>.g 282624<|.cc (JQ O U.l p tp hp) [] λ(y8:Nat×Nat)=>.cc (GA _ _ O U.l f.length p.length y7.snd y8.snd) [] λy9=>.cc (Do O U.l acc (.int (↑(f.length+p.length)) y9) vs hv) [5] λYa=>.fi (y9) [5,3,3,2,0])
structure qI(ts:Ay) where
 f:Str
 p:Str
 tf:Nat
 tp:Nat
 ks:Aa
 ok:ns ks=ts
omit O
theorem mr(ks:Aa)(x k:Nat):ks.map iv++[Be (x:Int) k]=(ks++[(x,k)]).map iv:=by rw[AZ];rfl
def It.small(i:It):Prop:=i.f.length<=1000000/\i.p.length<=1000000
theorem WH{B:Bx}(O:B.C.Ok){A:AL}(U:AA 12 A){L D c a acc:Nat}: ∀(l1 l2:List It) (ks:Aa) (f' p':Str) (tf' tp':Nat),(∀i∈l2,It.small i)->ks.length+l2.length<=900->
 AT B.C A (.compLoop Iy 0 (.ref (a+323)) (.ref (acc+323)) (Gm Iy [] L D))
  [As D [(DC,.str f' tf'),(Es,.str p' tp')],BQ a c l1.length,AE c ((l1++l2).map It.v),Ai (l1++l2),AF acc ks]
  (λYa:qI (ns ks++l2.map It.len)=>.ok .next) (λq=>[As D [(DC,.str q.f q.tf),(Es,.str q.p q.tp)],AE c ((l1++l2).map It.v),Ai (l1++l2),AF acc q.ks])
 |l1,[],ks,f',p',tf',tp',FV,hlen=>by
  have e:=N_ O (A:=A.under (.compLoop Iy 0 (.ref (a+323)) (.ref (acc+323)) (Gm Iy [] L D))) U.l.loop a c l1.length ((l1++[]).map It.v) ADn
  refine(AT.Ss (X:=Unit) (led:=λYa=>[As D [(DC,.str f' tf'),(Es,.str p' tp')],AE c ((l1++[]).map It.v),Ai (l1++[]),AF acc ks]) (g0:=(OG Iy).head?.getD ⟨Au,Au,[],0⟩) rfl rfl ?_).weaken λYa=>⟨⟨f',p',tf',tp',ks,by simp⟩,rfl,λR s S=>S⟩
  exact((e.frame [As D [(DC,.str f' tf'),(Es,.str p' tp')],Ai (l1++[]),AF acc ks]).ix [1,1,0,0,0] rfl).ox [1,0,0,0] λYa=>rfl
 |l1,i::l2,ks,f',p',tf',tp',FV,hlen=>by
  obtain⟨h1,h2⟩:=FV i (.head _);simp only[Ap] at hlen;have ih:=λk=>WH O U (L:=L) (D:=D) (c:=c) (a:=a) (acc:=acc) (l1++[i]) l2 (ks++[(i.len,k)]) i.f i.p i.tf i.tp (λj hj=>FV j (.tail _ hj)) (by simp;lia)
  refine AT.pre (F:=[As D [(DC,.str f' tf'),(Es,.str p' tp')],BQ a c l1.length,AE c ((l1++i::l2).map It.v),AV i.a [.str i.f i.tf,.str i.p i.tp],AF acc ks]++[Ai (l1++l2)]) (AT.NM (Y:=Nat) (c':=λYa=>.compLoop Iy 0 (.ref (a+323)) (.ref (acc+323)) (Gm Iy [] L D)) ((jj O (A:=A.under (.compLoop Iy 0 (.ref (a+323)) (.ref (acc+323)) (Gm Iy [] L D))) U.l.loop L D c a acc l1.length i.a ((l1++i::l2).map It.v) (ks.map iv) i.f i.p f' p' i.tf i.tp tf' tp' (by simp[It.v]) h1 h2 (by rw[AD];lia)).frame [Ai (l1++l2)]) (λYa=>rfl) λk=>?_) λR s S=>?_
  ·refine((ih k).pre λR s S=>?_).weaken λq=>⟨⟨q.f,q.p,q.tf,q.tp,q.ks,by rw[q.ok];simp[ns]⟩,rfl,λR s S=>?_⟩
   ·have S1:=St.picked (L:=[_,_,_,_,_,_]) (ix:=(3::4::BW 4)) S rfl
    have S2:=S1.Vr;have S3:=St.picked (L:=[_,_,_,_,_]) (ix:=[1,1,1,0,0]) S2 rfl;rw[show l1++i::l2=l1++[i]++l2 from by simp,mr] at S3
    rw[show(l1++[i]).length=l1.length+1 from by simp]
    exact S3
   ·rw[show l1++i::l2=l1++[i]++l2 from by simp];exact S
  ·have S1:=St.picked (L:=[_,_,_,_,_]) (ix:=(3::BW 4)) S rfl
   have S2:=S1.Q1;exact St.picked (L:=[_,_,_,_,_,_]) (ix:=[2,2,2,0,1,0]) S2 rfl
include O
def W7(U:AA 13 A)(L D c a acc:Nat)(cks:List It)(CD:cks≠[])(FV: ∀i∈cks,It.small i)(hlen:cks.length<=900):Ag B.C A where
 c:=.compStart Iy 0 (.ref (a+323)) (.ref (acc+323)) (Gm Iy [] L D)
 F:=[As D [],BQ a c 0,AE c (cks.map It.v),Ai cks,AE acc []]
 X:=qI (cks.map It.len)
 res:=λYa=>.ok .next
 led:=λq=>[As D [(DC,.str q.f q.tf),(Es,.str q.p q.tp)],AE c (cks.map It.v),Ai cks,AF acc q.ks]
 ok:=by
  obtain⟨i,l2,rfl⟩: ∃i l,cks=i::l:=by cases cks with|nil=>exact absurd rfl CD|cons i l=>exact⟨i,l,rfl⟩
  obtain⟨h1,h2⟩:=FV i (.head _);simp only[Ap] at hlen;have ih:=λk=>WH O U.l (L:=L) (D:=D) (c:=c) (a:=a) (acc:=acc) [i] l2 [(i.len,k)] i.f i.p i.tf i.tp (λj hj=>FV j (.tail _ hj)) (by simp;lia)
  refine AT.call (AT.compStart (g0:=(OG Iy).head?.getD ⟨Au,Au,[],0⟩) rfl rfl ((((NO O (A:=A.under (.compStart Iy 0 (.ref (a+323)) (.ref (acc+323)) (Gm Iy [] L D))) U.l.loop a c 0).frame [As D [],AE c ((i::l2).map It.v),Ai (i::l2),AE acc []]).ix (1::BW 4) rfl).ox (1::BW 4) λYa=>rfl) ?_);refine AT.pre (F:=[As D [],BQ a c 0,AE c ((i::l2).map It.v),AV i.a [.str i.f i.tf,.str i.p i.tp],AE acc []]++[Ai l2]) (AT.NM (Y:=Nat) (c':=λYa=>.compLoop Iy 0 (.ref (a+323)) (.ref (acc+323)) (Gm Iy [] L D)) ((ji O (A:=A.under (.compLoop Iy 0 (.ref (a+323)) (.ref (acc+323)) (Gm Iy [] L D))) U.l.loop L D c a acc 0 i.a ((i::l2).map It.v) [] i.f i.p i.tf i.tp rfl h1 h2 ADn).frame [Ai l2]) (λYa=>rfl) λk=>?_) λR s S=>?_
  ·refine((ih k).pre λR s S=>?_).weaken λq=>⟨⟨q.f,q.p,q.tf,q.tp,q.ks,by rw[q.ok];simp[ns]⟩,rfl,λR s S=>S⟩
   have S1:=St.picked (L:=[_,_,_,_,_,_]) (ix:=(3::4::BW 4)) S rfl;have S2:=St.Vr (l1:=[]) S1;exact St.picked (L:=[_,_,_,_,_]) (ix:=[1,1,1,0,0]) S2 rfl
  ·have S1:=St.picked (L:=[_,_,_,_,_]) (ix:=(3::BW 4)) S rfl
   exact St.picked (L:=[_,_,_,_,_,_]) (ix:=[2,2,2,0,1,0]) (St.Q1 (l1:=[]) S1) rfl
omit O
theorem St.qo{C:Cx}(O:C.Ok){s s':Af}{L:AN}{o:Obj}{ao:AO}(S:St C L s)(hk: ∀b o,s.heap.get? b=some o->s'.heap.get? b=some o)(hg: ∀h t,s'.toks<=t->C.Gn {s' with heap:=h,toks:=t})(ho:s'.os=s.os)
 (hn:s'.heap.get? s.heap.objs.size=some o) (ha:ao.is o):St C (.one s.heap.objs.size ao::L) s':=by
 obtain⟨H,hH,XP⟩:=S.led;have hz:s.heap.objs.size<=s'.heap.objs.size:=Cw (Cf hn);refine⟨λb o h m=>hk b o (S.old b o h m),⟨H,hH,⟨λp hp=>?_,?_,λp hp=>?_⟩⟩,hg,ho.trans S.os,AK S.size hz⟩
 ·rcases List.mem_cons.mp (show p∈(s.heap.objs.size,ao)::(Ao L++H) from hp) with rfl|hp
  ·exact⟨o,hn,ha⟩
  ·obtain⟨op,Tc,hi⟩:=XP.at_ p hp
   exact⟨op,hk _ _ Tc,hi⟩
 ·show((s.heap.objs.size::(Ao L++H).map (·.1))).Nodup
  refine List.nodup_cons.mpr ⟨λhm=>?_,XP.nodup⟩;obtain⟨p,hp,e⟩:=List.mem_map.mp hm;obtain⟨op,Tc,_⟩:=XP.at_ p hp;exact Dl _ (e▸Cf Tc)
 ·rcases List.mem_cons.mp (show p∈(s.heap.objs.size,ao)::(Ao L++H) from hp) with rfl|hp
  ·right
   cases e:C.s₁.heap.get? s.heap.objs.size with
   |none=>rfl
   |some o'=>exact absurd (D8 (Cf e) S.size) (Dl _)
  ·exact XP.new p hp
theorem iU{n:Nat}: ∀{l:Ak} (b:Nat),l.length=n->(∀(j:Nat) v,l[j]? =some v-> ∃t,v=.int ((b+j:Nat):Int) t)-> ∃ys,ys.map iv=l/\ns ys=(Ah n).map (b+ ·):=by
 induction n with
 |zero=>
  intro l b hl _;cases l with
  |nil=>exact⟨[],rfl,rfl⟩
  |cons=>simp at hl
 |succ n ih=>
  intro l b hl h;cases l with
  |nil=>simp at hl
  |cons v l=>
   obtain⟨t,rfl⟩:=h 0 v rfl;obtain⟨ys,e1,e2⟩:=ih (l:=l) (b+1) (by simpa using hl) (λj v hv=>by
    obtain⟨t,e⟩:=h (j+1) v hv;exact⟨t,by rw[e];congr 1;lia⟩)
   refine⟨(b,t)::ys,by rw[Aw,e1];rfl,?_⟩
   show b::ns ys=_;rw[e2,List.range_succ_eq_map,Aw,CK]
   congr 1
   exact CA λj _=>by show b+1+j=b+(j+1);lia
include O
def br(hS:B.Std)(U:AA 3 A)(r n t u v:Nat)(hn:n<=1000):Ag B.C A where
 c:=.call (.type "list") ⟨[.ref (r+323)],[]⟩
 F:=[Nf r (.int 0 t) (.int (n:Int) u) (.int 1 v)]
 X:=Gk (Ah n)
 res:=λq=>.ok (.ret (.ref (q.a+323)))
 led:=λq=>[AF q.a q.ys]
 ok:=G2 λR s S=>by
  have he:=S.size_eq O;refine call_list_range (a:=0) (b:=(n:Int)) (c:=1) (t:=t) (u:=u) (v:=v) (n:=n) U.1 (DV S) (by
   have MG: ∀x:Int,0<=x->x<=2000->F7 x=true:=λx h0 h1=>by
    unfold F7;simp only[show((2:Int)^63)=9223372036854775808 by decide,FS,decide_eq_true_eq]
    lia
   have hz:CS 0 (n:Int) 1=(n:Int):=by
    unfold CS;rw[if_pos ADm]
    by_cases h:(0:Int)<(n:Int)
    ·rw[if_pos h];lia
    ·rw[if_neg h];lia
   unfold Dw;rw[hz,MG 0 ADm ADm,MG (n:Int) ADj ADj,MG 1 ADm ADm,if_pos ADm,MG ((n:Int)+(1-1)) ADj ADj,Bool.or_true]
   rfl) (by
   unfold CS;rw[if_pos ADm]
   by_cases h:(0:Int)<(n:Int)
   ·rw[if_pos h];lia
   ·rw[if_neg h];lia) ADj λh' tk x7 c' hk hn hi=>?_
  obtain⟨ys,e1,e2⟩:=iU (n:=n) (l:=x7.toList) 0 (by rw[Array.length_toList];exact hi.1) (λj v hv=>by
   obtain⟨t,e⟩:=hi.2 j v (by rw[<-Mx];exact hv)
   exact⟨t,by rw[e];congr 1;lia⟩)
  refine⟨⟨s.heap.objs.size-323,ys,by rw[e2];simp⟩,by rw[<-he],?_⟩
  have S1:=S.qo O (s':={s with heap:=h',toks:=tk}) (ao:=.ls (.type "list") none (ys.map iv)) hk (WV hS (S.bare hS)) rfl hn ⟨{G0 with ep:=c'},by rw[e1];rfl⟩
  rw[he] at S1;exact St.picked (L:=[_,_]) (ix:=[0]) S1 rfl
def VF:Expr:=vE (sN 29 5)
abbrev pJ(K:LC)(L D:Nat):Env:=Gm VF [(ER,K.wi+323),(Ej,K.sz+323)] L D
theorem pK(U:AA 6 A)(K:LC)(L D j k:Nat):
 AS B A (Bo (Cp VF) (pJ K L D) (.int (j:Int) k)) [As D []] () [As D [(BA,.int (j:Int) k)]]:=
 Ef O U (.fr λk0=>.g 6145<|.fi () [0])
theorem pL(U:AA 6 A)(K:LC)(L D j k i m:Nat):
 AS B A (Bo (Cp VF) (pJ K L D) (.int (j:Int) k)) [As D [(BA,.int (i:Int) m)]] () [As D [(BA,.int (j:Int) k)]]:=
 Ef O U (.fr λk0=>.g 6145<|.fi () [0])
def Uz:Expr:=vE (sN 29 6)
abbrev lg(K:LC)(L D:Nat):Env:=Gm Uz [(FQ,K.st+323)] L D
theorem li(U:AA 6 A)(K:LC)(L D j k:Nat):
 AS B A (Bo (Cp Uz) (lg K L D) (.int (j:Int) k)) [As D []] () [As D [(BA,.int (j:Int) k)]]:=
 Ef O U (.fr λk0=>.g 6145<|.fi () [0])
theorem lj(U:AA 6 A)(K:LC)(L D j k i m:Nat):
 AS B A (Bo (Cp Uz) (lg K L D) (.int (j:Int) k)) [As D [(BA,.int (i:Int) m)]] () [As D [(BA,.int (j:Int) k)]]:=
 Ef O U (.fr λk0=>.g 6145<|.fi () [0])
def Ua:Expr:=vE (sN 29 7)
abbrev kI(K:LC)(L D:Nat):Env:=Gm Ua [(ER,K.wi+323),(FQ,K.st+323),(Ej,K.sz+323),(QR,K.hd+323)] L D
theorem kJ(U:AA 6 A)(K:LC)(L D j k:Nat):
 AS B A (Bo (Cp Ua) (kI K L D) (.int (j:Int) k)) [As D []] () [As D [(BA,.int (j:Int) k)]]:=
 Ef O U (.fr λk0=>.g 6145<|.fi () [0])
theorem kK(U:AA 6 A)(K:LC)(L D j k i m:Nat):
 AS B A (Bo (Cp Ua) (kI K L D) (.int (j:Int) k)) [As D [(BA,.int (i:Int) m)]] () [As D [(BA,.int (j:Int) k)]]:=
 Ef O U (.fr λk0=>.g 6145<|.fi () [0])
def UZ:Expr:=vE (sN 29 8)
abbrev kF(K:LC)(L D:Nat):Env:=Gm UZ [(ER,K.wi+323),(DK,K.ch+323)] L D
theorem kG(U:AA 6 A)(K:LC)(L D j k:Nat):
 AS B A (Bo (Cp UZ) (kF K L D) (.int (j:Int) k)) [As D []] () [As D [(BA,.int (j:Int) k)]]:=
 Ef O U (.fr λk0=>.g 6145<|.fi () [0])
theorem kH(U:AA 6 A)(K:LC)(L D j k i m:Nat):
 AS B A (Bo (Cp UZ) (kF K L D) (.int (j:Int) k)) [As D [(BA,.int (i:Int) m)]] () [As D [(BA,.int (j:Int) k)]]:=
 Ef O U (.fr λk0=>.g 6145<|.fi () [0])
def U9:Expr:=vE (sN 29 9)
abbrev nq(K:LC)(L D:Nat):Env:=Gm U9 [(ER,K.wi+323),(QR,K.hd+323),(DK,K.ch+323)] L D
theorem nr(U:AA 6 A)(K:LC)(L D j k:Nat):
 AS B A (Bo (Cp U9) (nq K L D) (.int (j:Int) k)) [As D []] () [As D [(BA,.int (j:Int) k)]]:=
 Ef O U (.fr λk0=>.g 6145<|.fi () [0])
theorem nt(U:AA 6 A)(K:LC)(L D j k i m:Nat):
 AS B A (Bo (Cp U9) (nq K L D) (.int (j:Int) k)) [As D [(BA,.int (i:Int) m)]] () [As D [(BA,.int (j:Int) k)]]:=
 Ef O U (.fr λk0=>.g 6145<|.fi () [0])
def Ou:Expr:=vE (sN 29 10)
abbrev ph(K:LC)(L D:Nat):Env:=Gm Ou [(DK,K.ch+323)] L D
theorem pi(U:AA 6 A)(K:LC)(L D j k:Nat):
 AS B A (Bo (Cp Ou) (ph K L D) (.int (j:Int) k)) [As D []] () [As D [(BA,.int (j:Int) k)]]:=
 Ef O U (.fr λk0=>.g 6145<|.fi () [0])
theorem pj(U:AA 6 A)(K:LC)(L D j k i m:Nat):
 AS B A (Bo (Cp Ou) (ph K L D) (.int (j:Int) k)) [As D [(BA,.int (i:Int) m)]] () [As D [(BA,.int (j:Int) k)]]:=
 Ef O U (.fr λk0=>.g 6145<|.fi () [0])
def UJ:Expr:=vE (sN 29 12)
abbrev jy(K:LC)(L D:Nat):Env:=Gm UJ [(fE,K.ba+323)] L D
theorem qB(U:AA 6 A)(K:LC)(L D j k:Nat):
 AS B A (Bo (Cp UJ) (jy K L D) (.int (j:Int) k)) [As D []] () [As D [(BA,.int (j:Int) k)]]:=
 Ef O U (.fr λk0=>.g 6145<|.fi () [0])
theorem qC(U:AA 6 A)(K:LC)(L D j k i m:Nat):
 AS B A (Bo (Cp UJ) (jy K L D) (.int (j:Int) k)) [As D [(BA,.int (i:Int) m)]] () [As D [(BA,.int (j:Int) k)]]:=
 Ef O U (.fr λk0=>.g 6145<|.fi () [0])
def Tv:Expr:=vE (sN 29 13)
abbrev i6(K:LC)(L D:Nat):Env:=Gm Tv [(QS,K.na+323)] L D
theorem oD(U:AA 6 A)(K:LC)(L D j k:Nat):
 AS B A (Bo (Cp Tv) (i6 K L D) (.int (j:Int) k)) [As D []] () [As D [(BA,.int (j:Int) k)]]:=
 Ef O U (.fr λk0=>.g 6145<|.fi () [0])
theorem oE(U:AA 6 A)(K:LC)(L D j k i m:Nat):
 AS B A (Bo (Cp Tv) (i6 K L D) (.int (j:Int) k)) [As D [(BA,.int (i:Int) m)]] () [As D [(BA,.int (j:Int) k)]]:=
 Ef O U (.fr λk0=>.g 6145<|.fi () [0])
def U7:Expr:=vE (sN 29 19)
abbrev m9(K:LC)(L D:Nat):Env:=Gm U7 [(CJ,K.wa+323),(OE,K.pl+323),(WN,K.ot+323)] L D
theorem m_(U:AA 6 A)(K:LC)(L D j k:Nat):
 AS B A (Bo (Cp U7) (m9 K L D) (.int (j:Int) k)) [As D []] () [As D [(BA,.int (j:Int) k)]]:=
 Ef O U (.fr λk0=>.g 6145<|.fi () [0])
theorem nA(U:AA 6 A)(K:LC)(L D j k i m:Nat):
 AS B A (Bo (Cp U7) (m9 K L D) (.int (j:Int) k)) [As D [(BA,.int (i:Int) m)]] () [As D [(BA,.int (j:Int) k)]]:=
 Ef O U (.fr λk0=>.g 6145<|.fi () [0])
def HU(a b:Nat):Int:=(a:Int)-(b:Int)
omit O
section
variable(B:Bx)(A:AL)(O:B.C.Ok)
def bi(U:AA 3 A)(a b t u:Nat):Ag B.C A:=(Qp O U (a:Int) (b:Int) t u).re (λk:Nat=>.ok (.ret (.int (HU a b) k))) (λYa=>[]) (λk=>k) (λYa=>rfl) (λYa=>rfl)
def L_(U:AA 3 A)(x sl u t:Nat)(AH:List It)(hx:AH.length<=1000):Ag B.C A:=
 (NC B A O U x sl u t (AH.map It.v) (by rw[AD];exact hx)).re (λa:Nat=>.ok (.ret (J a))) (λa=>[AE a ((AH.drop u).map It.v),AE x (AH.map It.v),F8 sl (.int (u:Int) t) .none]) (λa=>a) (λYa=>rfl) (λa=>by show [AE a ((AH.map It.v).drop u),_,_]=_;rw[Dk])
end
include O
theorem sO(U:AA 40 A)(K:LC)(L D j k z w wt:Nat)(zs:Aa)(h1:zs.length<=1000)(h2:(ns zs).sum<=1000000)(h3:j<=zs.length):
 AC B.C A (Bf (DL VF) (pJ K L D)) [As D [(BA,.int (j:Int) k)],AW K.sz (J z),AW K.wi (.int (w:Int) wt),AF z zs]
  (λq:Nat=>Be ((Mb (j+1) (Cq (ns zs) j (w:Int)):Nat):Int) q)
  (λq=>[As D [(BA,.int (j:Int) k)],AW K.sz (J z),AW K.wi (.int (w:Int) wt),AF z zs]):=Jj O U (.g 266240<|.fr λk0=>.cc (GA _ _ O U.l j 1 k k0) [] λy1=>.g 1074532480<|.cc (VY O U.l z j k wt ↑w zs h1 h2 h3) [3] λy2=>.cc (lF _ _ O U.l (j+1) (Cq (ns zs) j ↑w) y1 y2) [] λy3=>.fi (y3) [1,1,1,0])
theorem qj(U:AA 40 A)(K:LC)(L D j k z:Nat)(zs:Aa)(h1:zs.length<=500)(h2: ∀i,i<zs.length->i<(ns zs).getD i 0):
 AC B.C A (Bf (DL Uz) (lg K L D)) [As D [(BA,.int (j:Int) k)],AW K.st (J z),AF z zs]
  (λq:Gk (BI (ns zs) j)=>J q.a)
  (λq=>[As D [(BA,.int (j:Int) k)],AF q.a q.ys,AW K.st (J z),AF z zs]):=Jj O U (.g 16781440<|.cc (Y8 O U.l z j k zs h1 h2) [2] λy0=>.fi (y0) [2,0,1,0])
theorem qV(U:AA 40 A)(K:LC)(L D j k z y w wt h ht:Nat)(zs ys:Aa)(h1:zs.length<=1000)(h2:(ns zs).sum<=1000000)(h3:j<=zs.length)(h4:ys.length<=500)(h5: ∀i,i<ys.length->i<(ns ys).getD i 0)(h6: ∀q:Gk (BI (ns ys) (Cq (ns zs) j (HU w h))),(q.ys.map iv).length<=1000):
 AC B.C A (Bf (DL Ua) (kI K L D)) [As D [(BA,.int (j:Int) k)],AW K.st (J y),AW K.sz (J z),AW K.hd (.int (h:Int) ht),AW K.wi (.int (w:Int) wt),AF z zs,AF y ys]
  (λq:Nat×Gk (BI (ns ys) (Cq (ns zs) j (HU w h)))=>J q.1)
  (λq=>[As D [(BA,.int (j:Int) k)],AF q.1 ((j,k)::q.2.ys),AW K.st (J y),AW K.sz (J z),AW K.hd (.int (h:Int) ht),AW K.wi (.int (w:Int) wt),AF z zs,AF y ys]):=Jj O U (.g 65<|.al λa0=>.g 4748120948928<|.cc (bi _ _ O U.l w h wt ht) [] λ(y1:Nat)=>.g 64<|.cc (VY O U.l z j k y1 (HU w h) zs h1 h2 h3) [6] λ(y2:Nat)=>.g 64<|.cc (Y8 O U.l y (Cq (ns zs) j (HU w h)) y2 ys h4 h5) [7] λ(y3:Gk (BI (ns ys) (Cq (ns zs) j (HU w h))))=>.g 278596<|.cc (Kw _ _ O U.l a0 y3.a [.int (↑j) k] (B0 iv y3.ys) (by first|lia|assumption|exact h6 _|decide|(simp<;>lia)) (by first|lia|assumption|exact h6 _|decide|(simp<;>lia))) [3,0] λy4=>.fi (y4,y3) [5,0,4,4,4,4,3,2])
theorem qT(U:AA 140 A)(K:LC)(L D j k c w wt:Nat)(AH:List It)(hS:B.Std)(h1:AH.length<=1000)(h2:AH.drop j≠[])(h3: ∀i∈AH.drop j,FL (i.f,i.p))(h4:(AH.drop j).length<=20):
 AC B.C A (Bf (DL UZ) (kF K L D)) [As D [(BA,.int (j:Int) k)],AW K.ch (J c),AW K.wi (.int (w:Int) wt),AE c (AH.map It.v),Ai (AH.drop j)]
  (λq:R2 (Hk w ((AH.drop j).map It.ab))=>J q.a)
  (λq=>[As D [(BA,.int (j:Int) k)],AE q.a (q.ks.map rv),AW K.ch (J c),AW K.wi (.int (w:Int) wt),AE c (AH.map It.v),Ai (AH.drop j)]):=Jj O U (.g 266368<|.al λa0=>.g 282949<|.cc (L_ _ _ O U.l c a0 j k AH h1) [4,0] λy1=>.g 4102<|.cc (ko O hS U.l y1 w wt (Cd j AH) h2 h3 h4) [0,5] λy2=>.fi (y2) [5,0,4,4,2,1])
theorem rl(U:AA 140 A)(K:LC)(L D j k c w wt h ht:Nat)(AH:List It)(hS:B.Std)(h1:AH.length<=1000)(h2:AH.drop j≠[])(h3: ∀i∈AH.drop j,FL (i.f,i.p))(h4:(AH.drop j).length<=20)(h5:h<=1000):
 AC B.C A (Bf (DL U9) (nq K L D)) [As D [(BA,.int (j:Int) k)],AW K.ch (J c),AW K.hd (.int (h:Int) ht),AW K.wi (.int (w:Int) wt),AE c (AH.map It.v),Ai (AH.drop j)]
  (λq:R2 (C4 w h ((AH.drop j).map It.ab))=>J q.a)
  (λq=>[As D [(BA,.int (j:Int) k)],AE q.a (q.ks.map rv),AW K.ch (J c),AW K.hd (.int (h:Int) ht),AW K.wi (.int (w:Int) wt),AE c (AH.map It.v),Ai (AH.drop j)]):=Jj O U (.g 266368<|.al λa0=>.g 287110<|.cc (L_ _ _ O U.l c a0 j k AH h1) [5,0] λy1=>.g 262535<|.cc (gS O hS U.l y1 w wt h ht (Cd j AH) h2 h3 h4 h5) [0,6] λy2=>.fi (y2) [5,0,4,4,4,2,1])
theorem sX(U:AA 140 A)(K:LC)(L D j k c:Nat)(AH:List It)(h1:AH.length<=1000)(h2:AH.drop j≠[])(h3: ∀i∈AH.drop j,It.MG i)(h4:(AH.drop j).length<=900)(h5:JE ((AH.drop j).map It.cat)):
 AC B.C A (Bf (DL Ou) (ph K L D)) [As D [(BA,.int (j:Int) k)],AW K.ch (J c),AE c (AH.map It.v),Ai (AH.drop j)]
  (λq:Nat=>Co (BB eS ((AH.drop j).map It.cat)) q)
  (λq=>[As D [(BA,.int (j:Int) k)],AW K.ch (J c),AE c (AH.map It.v),Ai (AH.drop j)]):=Jj O U (.g 266368<|.al λa0=>.g 278788<|.cc (L_ _ _ O U.l c a0 j k AH h1) [3,0] λy1=>.g 64<|.cc (Vf O U.l y1 (Cd j AH) h2 h3 h4 h5) [0,4] λy2=>.fi (y2) [4,4,2,1])
omit O
theorem F2{E α:Type}{g:E->α}{f:Nat->α}{n:Nat}(t:He E (λj e=>g e=f j) n):t.es.map g=(Ah n).map f:=by
 apply Hz;intro j;rw[AQ,AQ];cases he:t.es[j]? with
 |some e=>
  have h1:j<n:=by rw[<-t.len];exact(List.getElem?_eq_some_iff.mp he).1
  rw[AJ (by rw[Dv];exact h1),HI]
  show some (g e)=some (f j);rw[t.all j e he]
 |none=>
  have h1:=List.getElem?_eq_none_iff.mp he;rw[t.len] at h1;rw[B7 (by rw[Dv];exact h1)];rfl
structure SE where
 a:Nat
 ks:Db
abbrev SE.v(e:SE):Value:=J e.a
abbrev SE.p(e:SE):Addr×AO:=(e.a+323,.ls (.type "list") none (e.ks.map rv))
noncomputable abbrev SE.rows(e:SE):List Str:=e.ks.map (·.1)
abbrev aI(es:List SE):F6:=es.map SE.p
abbrev DB(es:List SE):Bi:=.many (aI es)
abbrev IE.ns(e:IE):Ay:=Mine.ns e.ys
structure WO(f:Nat->Ay)(n:Nat) where
 es:List IE
 ok:es.map IE.ns=(Ah n).map f
 k:Nat
 t:Nat
structure qH(f:Nat->List Str)(n:Nat) where
 es:List SE
 ok:es.map SE.rows=(Ah n).map f
 k:Nat
 t:Nat
structure x4(f:Nat->Str)(n:Nat) where
 ks:Db
 ok:ks.map (·.1)=(Ah n).map f
 k:Nat
 t:Nat
theorem Ey{α:Type}(f:α->Addr×AO)(es:List α):es.flatMap (λe=>[f e])=es.map f:=by
 induction es with
 |nil=>rfl
 |cons e r ih=>rw[KY,ih];rfl
theorem Ex{α:Type}(es:List α):es.flatMap (λYa=>([]:F6))=[]:=by
 induction es with
 |nil=>rfl
 |cons e r ih=>rw[KY,ih];rfl
theorem Tg(AH:List It)(j:Nat)(P Q:F6):(P++(AH.map It.e++Q)).Perm (P++((AH.drop j).map It.e++((AH.take j).map It.e++Q))):=by
 refine CP _ ?_;rw[<-AG];refine A8 _ ?_
 have:AH.map It.e=(AH.take j).map It.e++(AH.drop j).map It.e:=by rw[<-AZ,CQ]
 rw[this];exact A9
theorem AC.TS{C:Cx}{A:AL}{α:Type}{t:Sem α}{P:AN}{X:Type}{res:X->α}{Q:X->AN}{AH:List It}(j:Nat)(h:AC C A t (P++[Ai (AH.drop j)]) res (λx=>Q x++[Ai (AH.drop j)])):
 AC C A t (P++[Ai AH]) res (λx=>Q x++[Ai AH]):=
 ((h.frame [Ai (AH.take j)]).pre λR s S=>S.BV (by
  simp only[An,Mine.Ao,Bi.flat,Aj,AG];exact Tg AH j _ _)).post λx R s S=>S.BV (by
  simp only[An,Mine.Ao,Bi.flat,Aj,AG];exact(Tg AH j _ _).symm)
include O
def lN(U:AA 51 A)(K:LC)(L D c a acc z w wt:Nat)(zs:Aa)(ss:Aa)(m:Nat)(hs:ns ss=Ah m)(hm:m<=1000)(F5:m≠0)(h1:zs.length=m)(h2:(ns zs).sum<=1000000):Ag B.C A where
 c:=.compStart VF 0 (J a) (J acc) (pJ K L D)
 F:=[As D [],AE acc [],BQ a c 0,AF c ss,AW K.sz (J z),AW K.wi (.int (w:Int) wt),AF z zs]
 X:=Qj (Ct (ns zs) w)
 res:=λYa=>.ok .next
 led:=λq=>[As D [(BA,.int (q.k:Int) q.t)],AF acc q.ys,AF c ss,AW K.sz (J z),AW K.wi (.int (w:Int) wt),AF z zs]
 ok:=by
  have h:=D_ (B:=B) (A:=A) (elt:=DL VF) (iter:=Hf VF) (x0:=BA) (p0:=(Cp VF).pos) (sc:=Gh VF) (pos:=VF.pos) (env:=pJ K L D) (dv:=As D) (acc:=acc) (a:=a) (c:=c) O (ADj:6<=50) U (E:=Nat×Nat) (iv) (λYa=>[]) (λj e=>e.1=Mb (j+1) (Cq (ns zs) j (w:Int))) (λYa:Unit=>[AW K.sz (J z),AW K.wi (.int (w:Int) wt),AF z zs]) (ss:=ss) (n:=m) hs
   (λA' h j k l hl=>by
    rcases hl with rfl|⟨i,m,rfl⟩
    ·exact pK O h K L D j k
    ·exact pL O h K L D j k i m)
   (λA' SF B8 j hj k _=>by
    have e:=sO O (B8.le (ADj:40<=50)) K L D j k z w wt zs ADj h2 ADj
    exact e.weaken λq=>⟨(⟨(_,q),rfl⟩,()),rfl,λR s S=>S.BV (.refl _)⟩) hm () F5
  exact AC.weaken h λy=>⟨⟨y.1.1.es,(F2 (g:=λe:Nat×Nat=>e.1) y.1.1).trans (by unfold Ct ns;rw[AD,h1]),y.2.1,y.2.2⟩,rfl,λR s S=>S.BV (by
   simp only[An,Ao,Bi.flat,Ey,Ex,Aj,Al];exact .refl _)⟩
def kn(U:AA 51 A)(K:LC)(L D c a acc z:Nat)(zs:Aa)(ss:Aa)(m:Nat)(hs:ns ss=Ah m)(hm:m<=1000)(F5:m≠0)(h1:zs.length<=500)(h2: ∀i,i<zs.length->i<(ns zs).getD i 0):Ag B.C A where
 c:=.compStart Uz 0 (J a) (J acc) (lg K L D)
 F:=[As D [],AE acc [],BQ a c 0,AF c ss,AW K.st (J z),AF z zs]
 X:=WO (λj=>BI (ns zs) j) m
 res:=λYa=>.ok .next
 led:=λq=>[As D [(BA,.int (q.k:Int) q.t)],AE acc (q.es.map IE.v),AF c ss,BU q.es,AW K.st (J z),AF z zs]
 ok:=by
  have h:=D_ (B:=B) (A:=A) (elt:=DL Uz) (iter:=Hf Uz) (x0:=BA) (p0:=(Cp Uz).pos) (sc:=Gh Uz) (pos:=Uz.pos) (env:=lg K L D) (dv:=As D) (acc:=acc) (a:=a) (c:=c) O (ADj:6<=50) U (E:=IE) (IE.v) (λe=>[IE.p e]) (λj e=>IE.ns e=BI (ns zs) j) (λYa:Unit=>[AW K.st (J z),AF z zs]) (ss:=ss) (n:=m) hs
   (λA' h j k l hl=>by
    rcases hl with rfl|⟨i,m,rfl⟩
    ·exact li O h K L D j k
    ·exact lj O h K L D j k i m)
   (λA' SF B8 j hj k _=>by
    exact(qj O (B8.le (ADj:40<=50)) K L D j k z zs h1 h2).weaken λq=>⟨(⟨⟨q.a,q.ys⟩,q.ok⟩,()),rfl,λR s S=>S.BV (.refl _)⟩) hm () F5
  exact AC.weaken h λy=>⟨⟨y.1.1.es,F2 (g:=IE.ns) y.1.1,y.2.1,y.2.2⟩,rfl,λR s S=>S.BV (by
   simp only[An,Ao,Bi.flat,Ey,Ex,Aj,Al];exact .refl _)⟩
def kk(U:AA 51 A)(K:LC)(L D c a acc z y w wt h ht:Nat)(zs ys:Aa)(ss:Aa)(m:Nat)(hs:ns ss=Ah m)(hm:m<=1000)(F5:m≠0)(h1:zs.length=m)(h2:(ns zs).sum<=1000000)(h4:ys.length<=500)(h5: ∀i,i<ys.length->i<(ns ys).getD i 0)(h6: ∀j,j<m->(BI (ns ys) (Cq (ns zs) j (HU w h))).length<=900):Ag B.C A where
 c:=.compStart Ua 0 (J a) (J acc) (kI K L D)
 F:=[As D [],AE acc [],BQ a c 0,AF c ss,AW K.st (J y),AW K.sz (J z),AW K.hd (.int (h:Int) ht),AW K.wi (.int (w:Int) wt),AF z zs,AF y ys]
 X:=WO (λj=>j::BI (ns ys) (Cq (ns zs) j (HU w h))) m
 res:=λYa=>.ok .next
 led:=λq=>[As D [(BA,.int (q.k:Int) q.t)],AE acc (q.es.map IE.v),AF c ss,BU q.es,AW K.st (J y),AW K.sz (J z),AW K.hd (.int (h:Int) ht),AW K.wi (.int (w:Int) wt),AF z zs,AF y ys]
 ok:=by
  have h:=D_ (B:=B) (A:=A) (elt:=DL Ua) (iter:=Hf Ua) (x0:=BA) (p0:=(Cp Ua).pos) (sc:=Gh Ua) (pos:=Ua.pos) (env:=kI K L D) (dv:=As D) (acc:=acc) (a:=a) (c:=c) O (ADj:6<=50) U (E:=IE) (IE.v) (λe=>[IE.p e]) (λj e=>IE.ns e=j::BI (ns ys) (Cq (ns zs) j (HU w h))) (λYa:Unit=>[AW K.st (J y),AW K.sz (J z),AW K.hd (.int (h:Int) ht),AW K.wi (.int (w:Int) wt),AF z zs,AF y ys]) (ss:=ss) (n:=m) hs
   (λA' h j k l hl=>by
    rcases hl with rfl|⟨i,m,rfl⟩
    ·exact kJ O h K L D j k
    ·exact kK O h K L D j k i m)
   (λA' SF B8 j hj k _=>by
    have e:=qV O (B8.le (ADj:40<=50)) K L D j k z y w wt h ht zs ys ADj h2 ADj h4 h5 (λq=>by
     have:=h6 j hj
     rw[<-q.ok] at this;unfold ns at this;rw[AD] at this⊢
     lia)
    exact e.weaken λq=>⟨(⟨⟨q.1,(j,k)::q.2.ys⟩,congrArg (List.cons j) q.2.ok⟩,()),rfl,λR s S=>S.BV (.refl _)⟩) hm () F5
  exact AC.weaken h λy=>⟨⟨y.1.1.es,F2 (g:=IE.ns) y.1.1,y.2.1,y.2.2⟩,rfl,λR s S=>S.BV (by
   simp only[An,Ao,Bi.flat,Ey,Ex,Aj,Al];exact .refl _)⟩
def kj(hS:B.Std)(U:AA 151 A)(K:LC)(L D c a acc x w wt:Nat)(AH:List It)(ss:Aa)(m:Nat)(hs:ns ss=Ah m)(hm:m<=1000)(F5:m≠0)(hl:AH.length=m)(Vm:m<=20)(hW: ∀i∈AH,FL (i.f,i.p)):Ag B.C A where
 c:=.compStart UZ 0 (J a) (J acc) (kF K L D)
 F:=[As D [],AE acc [],BQ a c 0,AF c ss,AW K.ch (J x),AW K.wi (.int (w:Int) wt),AE x (AH.map It.v),Ai AH]
 X:=qH (λj=>Hk w ((AH.drop j).map It.ab)) m
 res:=λYa=>.ok .next
 led:=λq=>[As D [(BA,.int (q.k:Int) q.t)],AE acc (q.es.map SE.v),AF c ss,DB q.es,AW K.ch (J x),AW K.wi (.int (w:Int) wt),AE x (AH.map It.v),Ai AH]
 ok:=by
  have h:=D_ (B:=B) (A:=A) (elt:=DL UZ) (iter:=Hf UZ) (x0:=BA) (p0:=(Cp UZ).pos) (sc:=Gh UZ) (pos:=UZ.pos) (env:=kF K L D) (dv:=As D) (acc:=acc) (a:=a) (c:=c) O (ADj:6<=150) U (E:=SE) (SE.v) (λe=>[SE.p e]) (λj e=>SE.rows e=Hk w ((AH.drop j).map It.ab)) (λYa:Unit=>[AW K.ch (J x),AW K.wi (.int (w:Int) wt),AE x (AH.map It.v),Ai AH]) (ss:=ss) (n:=m) hs
   (λA' h j k l hl=>by
    rcases hl with rfl|⟨i,m,rfl⟩
    ·exact kG O h K L D j k
    ·exact kH O h K L D j k i m)
   (λA' SF B8 j hj k _=>by
    have hd:AH.drop j≠[]:=λe=>by have:=congrArg C7 e;rw[A6] at this;simp at this;lia
    refine(AC.TS (P:=[_,_,_,_]) (Q:=λq=>[_,_,_,_,_]) j (qT O (B8.le (ADj:140<=150)) K L D j k x w wt AH hS ADj hd (λi hi=>hW i (EI hi)) (by rw[A6];lia))).weaken λq=>⟨(⟨⟨q.a,q.ks⟩,q.ok⟩,()),rfl,λR s S=>S.BV (.refl _)⟩) hm () F5
  exact AC.weaken h λy=>⟨⟨y.1.1.es,F2 (g:=SE.rows) y.1.1,y.2.1,y.2.2⟩,rfl,λR s S=>S.BV (by
   simp only[An,Ao,Bi.flat,Ey,Ex,Aj,Al];exact .refl _)⟩
def lG(hS:B.Std)(U:AA 151 A)(K:LC)(L D c a acc x w wt h ht:Nat)(AH:List It)(ss:Aa)(m:Nat)(hs:ns ss=Ah m)(hm:m<=1000)(F5:m≠0)(hl:AH.length=m)(Vm:m<=20)(hh:h<=1000)(hW: ∀i∈AH,FL (i.f,i.p)):Ag B.C A where
 c:=.compStart U9 0 (J a) (J acc) (nq K L D)
 F:=[As D [],AE acc [],BQ a c 0,AF c ss,AW K.ch (J x),AW K.hd (.int (h:Int) ht),AW K.wi (.int (w:Int) wt),AE x (AH.map It.v),Ai AH]
 X:=qH (λj=>C4 w h ((AH.drop j).map It.ab)) m
 res:=λYa=>.ok .next
 led:=λq=>[As D [(BA,.int (q.k:Int) q.t)],AE acc (q.es.map SE.v),AF c ss,DB q.es,AW K.ch (J x),AW K.hd (.int (h:Int) ht),AW K.wi (.int (w:Int) wt),AE x (AH.map It.v),Ai AH]
 ok:=by
  have h:=D_ (B:=B) (A:=A) (elt:=DL U9) (iter:=Hf U9) (x0:=BA) (p0:=(Cp U9).pos) (sc:=Gh U9) (pos:=U9.pos) (env:=nq K L D) (dv:=As D) (acc:=acc) (a:=a) (c:=c) O (ADj:6<=150) U (E:=SE) (SE.v) (λe=>[SE.p e]) (λj e=>SE.rows e=C4 w h ((AH.drop j).map It.ab)) (λYa:Unit=>[AW K.ch (J x),AW K.hd (.int (h:Int) ht),AW K.wi (.int (w:Int) wt),AE x (AH.map It.v),Ai AH]) (ss:=ss) (n:=m) hs
   (λA' h j k l hl=>by
    rcases hl with rfl|⟨i,m,rfl⟩
    ·exact nr O h K L D j k
    ·exact nt O h K L D j k i m)
   (λA' SF B8 j hj k _=>by
    have hd:AH.drop j≠[]:=λe=>by have:=congrArg C7 e;rw[A6] at this;simp at this;lia
    refine(AC.TS (P:=[_,_,_,_,_]) (Q:=λq=>[_,_,_,_,_,_]) j (rl O (B8.le (ADj:140<=150)) K L D j k x w wt h ht AH hS ADj hd (λi hi=>hW i (EI hi)) (by rw[A6];lia) hh)).weaken λq=>⟨(⟨⟨q.a,q.ks⟩,q.ok⟩,()),rfl,λR s S=>S.BV (.refl _)⟩) hm () F5
  exact AC.weaken h λy=>⟨⟨y.1.1.es,F2 (g:=SE.rows) y.1.1,y.2.1,y.2.2⟩,rfl,λR s S=>S.BV (by
   simp only[An,Ao,Bi.flat,Ey,Ex,Aj,Al];exact .refl _)⟩
def lQ(U:AA 151 A)(K:LC)(L D c a acc x:Nat)(AH:List It)(ss:Aa)(m:Nat)(hs:ns ss=Ah m)(hm:m<=1000)(F5:m≠0)(hl:AH.length=m)(Vm:m<=20)(hF: ∀i∈AH,It.MG i)(hw:JE (AH.map It.cat)):Ag B.C A where
 c:=.compStart Ou 0 (J a) (J acc) (ph K L D)
 F:=[As D [],AE acc [],BQ a c 0,AF c ss,AW K.ch (J x),AE x (AH.map It.v),Ai AH]
 X:=x4 (λj=>BB eS ((AH.drop j).map It.cat)) m
 res:=λYa=>.ok .next
 led:=λq=>[As D [(BA,.int (q.k:Int) q.t)],AE acc (q.ks.map rv),AF c ss,AW K.ch (J x),AE x (AH.map It.v),Ai AH]
 ok:=by
  have h:=D_ (B:=B) (A:=A) (elt:=DL Ou) (iter:=Hf Ou) (x0:=BA) (p0:=(Cp Ou).pos) (sc:=Gh Ou) (pos:=Ou.pos) (env:=ph K L D) (dv:=As D) (acc:=acc) (a:=a) (c:=c) O (ADj:6<=150) U (E:=Str×Nat) (rv) (λYa=>[]) (λj e=>e.1=BB eS ((AH.drop j).map It.cat)) (λYa:Unit=>[AW K.ch (J x),AE x (AH.map It.v),Ai AH]) (ss:=ss) (n:=m) hs
   (λA' h j k l hl=>by
    rcases hl with rfl|⟨i,m,rfl⟩
    ·exact pi O h K L D j k
    ·exact pj O h K L D j k i m)
   (λA' SF B8 j hj k _=>by
    have hd:AH.drop j≠[]:=λe=>by have:=congrArg C7 e;rw[A6] at this;simp at this;lia
    have e:=sX O (B8.le (ADj:140<=150)) K L D j k x AH ADj hd (λi hi=>hF i (EI hi)) (by rw[A6];lia) ⟨by rw[AD,A6];lia,λy hy=>hw.2 y (by rw[Dk] at hy;exact EI hy)⟩
    refine(AC.TS (P:=[_,_,_]) (Q:=λq=>[_,_,_]) j e).weaken λq=>⟨(⟨(_,q),rfl⟩,()),rfl,λR s S=>S.BV (.refl _)⟩) hm () F5
  exact AC.weaken h λy=>⟨⟨y.1.1.es,F2 (g:=λe:Str×Nat=>e.1) y.1.1,y.2.1,y.2.2⟩,rfl,λR s S=>S.BV (by
   simp only[An,Ao,Bi.flat,Ey,Ex,Aj,Al];exact .refl _)⟩
abbrev Gv(B:Bx)(i n:Nat):Dx:=((A4 B.P 322).drop i).take n
theorem vq(U:AA 60 A)(L c n:Nat)(K:LC)(ar:Addr)(AH:List It)(hS:B.Std)(hl:(AH.map It.v).length<=900)(Mq:AH.length<=900)(CD:AH≠[])(me: ∀i∈AH,It.small i):
 AC B.C A (Ac (Gv B 3 2) (Fi B K L)) [AI L [(Cb,.ref ar),(CZ,J n)],AW K.ch (J c),AE c (AH.map It.v),Ai AH,C3 K.sz none]
  (λq:Nat×qI (AH.map It.len)×Gk (Ah (AH.map It.v).length)=>Dg)
  (λq=>[AI L [(Cb,.ref ar),(CZ,J n),(Gb,J q.2.2.a)],AF q.2.2.a q.2.2.ys,AW K.ch (J c),AE c (AH.map It.v),Ai AH,AW K.sz (J q.1),AF q.1 q.2.1.ks]):=by
 obtain⟨_,_|_⟩:=B<;>exact D7 O U (.g 274626<|.cc (Bt O U.l c (AH.map It.v)) [2] λ(y0:Nat)=>.g 65<|.al λa1=>.al λa2=>.cc (W7 O U.l L a2 c y0 a1 AH CD me Mq) [0,1,1,3,0] λ(y3:qI (AH.map It.len))=>.g 1353996917968552316851585089<|.cc (IL O U.l c (B0 It.v AH) (by first|lia|assumption)) [1] λ(y4:Nat×Nat)=>.cc (KD O U.l ((B0 It.v AH).length) y4.snd) [] λ(y5:Nat×Nat×Nat)=>.cc (br O hS U.l y5.fst ((B0 It.v AH).length) y5.snd.fst y4.snd y5.snd.snd (by first|lia|assumption)) [0] λy6=>.fr λk7=>.g 6470<|.fi (a1,y3,y6) [5,0,4,0,1,2,1])
theorem zy(U:AA 60 A)(L n s z w wt m:Nat)(K:LC)(ar:Addr)(ss zs:Aa)(hs:ns ss=Ah m)(hm:m<=1000)(F5:m≠0)(h1:zs.length=m)(h2:(ns zs).sum<=1000000):
 AC B.C A (Ac (Gv B 5 1) (Fi B K L)) [AI L [(Cb,.ref ar),(CZ,J n),(Gb,J s)],AF s ss,AW K.sz (J z),AW K.wi (.int (w:Int) wt),AF z zs,C3 K.st none]
  (λq:Nat×Qj (Ct (ns zs) w)=>Dg)
  (λq=>[AI L [(Cb,.ref ar),(CZ,J n),(Gb,J s)],AF s ss,AW K.sz (J z),AW K.wi (.int (w:Int) wt),AF z zs,AW K.st (J q.1),AF q.1 q.2.ys]):=by
 obtain⟨_,_|_⟩:=B<;>exact D7 O U (.g 270465<|.cc (Bt O U.l s (ss.map iv)) [1] λy0=>.g 65<|.al λa1=>.al λa2=>.cc (lN O U.l K L a2 s y0 a1 z w wt zs ss m hs hm F5 h1 h2) [0,0,0,0,1,1,1] λy3=>.g 1730281537<|.fi (a1,y3) [6,2,2,2,2,2,1])
theorem vr(U:AA 60 A)(L n s z y w wt h ht m:Nat)(K:LC)(ar:Addr)(ss zs ys:Aa)(hs:ns ss=Ah m)(hm:m<=1000)(F5:m≠0)(h1:zs.length=m)(h2:(ns zs).sum<=1000000)(h4:ys.length<=500)(h5: ∀i,i<ys.length->i<(ns ys).getD i 0)(h6: ∀j,j<m->(BI (ns ys) (Cq (ns zs) j (HU w h))).length<=900):
 AC B.C A (Ac (Gv B 6 2) (Fi B K L)) [AI L [(Cb,.ref ar),(CZ,J n),(Gb,J s)],AF s ss,AW K.sz (J z),AW K.hd (.int (h:Int) ht),AW K.wi (.int (w:Int) wt),AF z zs,AW K.st (J y),AF y ys,C3 K.du none,C3 K.be none]
  (λq:Nat×WO (λj=>BI (ns ys) j) m×Nat×WO (λj=>j::BI (ns ys) (Cq (ns zs) j (HU w h))) m=>Dg)
  (λq=>[AI L [(Cb,.ref ar),(CZ,J n),(Gb,J s)],AF s ss,AW K.sz (J z),AW K.hd (.int (h:Int) ht),AW K.wi (.int (w:Int) wt),AF z zs,AW K.st (J y),AF y ys,AW K.du (J q.1),AW K.be (J q.2.2.1),AE q.1 (q.2.1.es.map IE.v),BU q.2.1.es,AE q.2.2.1 (q.2.2.2.es.map IE.v),BU q.2.2.2.es]):=by
 obtain⟨_,_|_⟩:=B<;>exact D7 O U (.g 270465<|.cc (Bt O U.l s (ss.map iv)) [1] λy0=>.g 65<|.al λa1=>.al λa2=>.cc (kn O U.l K L a2 s y0 a1 y ys ss m hs hm F5 h4 h5) [0,0,0,0,5,5] λy3=>.g 294883515564097<|.cc (Bt O U.l s (ss.map iv)) [2] λy4=>.g 65<|.al λa5=>.al λa6=>.cc (kk O U.l K L a6 s y4 a5 z y w wt h ht zs ys ss m hs hm F5 h1 h2 h4 h5 h6) [0,0,0,0,3,5,5,5,5,3] λy7=>.g 1866596417<|.fi (a1,y3,a5,y7) [13,2,4,4,4,4,3,3,6,6,4,4,1,1])
theorem rk(U:AA 160 A)(L n s x w wt h ht m:Nat)(K:LC)(ar:Addr)(ss:Aa)(AH:List It)(hS:B.Std)(hs:ns ss=Ah m)(hm:m<=1000)(F5:m≠0)(hl:AH.length=m)(Vm:m<=20)(hh:h<=1000)(hW: ∀i∈AH,FL (i.f,i.p))(hF: ∀i∈AH,It.MG i)(hw:JE (AH.map It.cat)):
 AC B.C A (Ac (Gv B 8 3) (Fi B K L)) [AI L [(Cb,.ref ar),(CZ,J n),(Gb,J s)],AF s ss,AW K.ch (J x),AW K.hd (.int (h:Int) ht),AW K.wi (.int (w:Int) wt),AE x (AH.map It.v),Ai AH,C3 K.ba none,C3 K.na none]
  (λq:Nat×qH (λj=>Hk w ((AH.drop j).map It.ab)) m×Nat×qH (λj=>C4 w h ((AH.drop j).map It.ab)) m×Nat×x4 (λj=>BB eS ((AH.drop j).map It.cat)) m=>Dg)
  (λq=>[AI L [(Cb,.ref ar),(CZ,J n),(Gb,J s),(UI,J q.2.2.2.2.1)],AF s ss,AW K.ch (J x),AW K.hd (.int (h:Int) ht),AW K.wi (.int (w:Int) wt),AE x (AH.map It.v),Ai AH,AW K.ba (J q.1),AW K.na (J q.2.2.1),AE q.1 (q.2.1.es.map SE.v),DB q.2.1.es,AE q.2.2.1 (q.2.2.2.1.es.map SE.v),DB q.2.2.2.1.es,AE q.2.2.2.2.1 (q.2.2.2.2.2.ks.map rv)]):=by
 obtain⟨_,_|_⟩:=B<;>exact D7 O U (.g 270465<|.cc (Bt O U.l s (ss.map iv)) [1] λy0=>.g 65<|.al λa1=>.al λa2=>.cc (kj O hS U.l K L a2 s y0 a1 x w wt AH ss m hs hm F5 hl Vm hW) [0,0,0,0,1,2,2,2] λy3=>.g 294885646008385<|.cc (Bt O U.l s (ss.map iv)) [2] λy4=>.g 65<|.al λa5=>.al λa6=>.cc (lG O hS U.l K L a6 s y4 a5 x w wt h ht AH ss m hs hm F5 hl Vm hh hW) [0,0,0,0,3,7,3,3,3] λy7=>.g 294890009133121<|.cc (Bt O U.l s (ss.map iv)) [2] λy8=>.g 65<|.al λa9=>.al λtv=>.cc (lQ O U.l K L tv s y8 a9 x AH ss m hs hm F5 hl Vm hF hw) [0,0,0,0,3,5,5] λNp=>.fr λiV=>.g 1610881935<|.fi (a1,y3,a5,y7,a9,Np) [14,2,2,7,7,2,2,8,8,6,6,3,3,1])
def OM:Expr:=el (el (vE (sN 29 11)) 0) 0
def ON:Expr:=el (el (vE (sN 29 11)) 1) 0
theorem mv(U:AA 6 A)(L D j:Nat):
 AS B A (Bo (Cp OM) (Gm OM [] L D) (J j)) [As D []] () [As D [(Er,J j)]]:=
 Ef O U (.fr λk0=>.g 6145<|.fi () [0])
theorem mw(U:AA 6 A)(L D j i:Nat):
 AS B A (Bo (Cp OM) (Gm OM [] L D) (J j)) [As D [(Er,J i)]] () [As D [(Er,J j)]]:=
 Ef O U (.fr λk0=>.g 6145<|.fi () [0])
theorem rS(U:AA 20 A)(L D x:Nat)(ks:Db)(h1:JE (ks.map (·.1))):
 AC B.C A (Bf (DL OM) (Gm OM [] L D)) [As D [(Er,J x)],AE x (ks.map rv)]
  (λq:Nat=>Co (BB eS (ks.map (·.1))) q)
  (λq=>[As D [(Er,J x)],AE x (ks.map rv)]):=Jj O U (.fr λk0=>.g 65<|.cc (N5 O U.l x ⟨⟨[]⟩⟩ k0 ks h1 (by first|lia|assumption|exact(ADm:(0:Nat)<=10))) [1] λy1=>.fi (y1) [1,0])
theorem mx(U:AA 6 A)(L D j:Nat):
 AS B A (Bo (Cp ON) (Gm ON [] L D) (J j)) [As D []] () [As D [(Er,J j)]]:=
 Ef O U (.fr λk0=>.g 6145<|.fi () [0])
theorem my(U:AA 6 A)(L D j i:Nat):
 AS B A (Bo (Cp ON) (Gm ON [] L D) (J j)) [As D [(Er,J i)]] () [As D [(Er,J j)]]:=
 Ef O U (.fr λk0=>.g 6145<|.fi () [0])
theorem rT(U:AA 20 A)(L D x:Nat)(ks:Db)(h1:JE (ks.map (·.1))):
 AC B.C A (Bf (DL ON) (Gm ON [] L D)) [As D [(Er,J x)],AE x (ks.map rv)]
  (λq:Nat=>Co (BB eS (ks.map (·.1))) q)
  (λq=>[As D [(Er,J x)],AE x (ks.map rv)]):=Jj O U (.fr λk0=>.g 65<|.cc (N5 O U.l x ⟨⟨[]⟩⟩ k0 ks h1 (by first|lia|assumption|exact(ADm:(0:Nat)<=10))) [1] λy1=>.fi (y1) [1,0])
theorem p_(U:AA 60 A)(K:LC)(L D j k b x:Nat)(bs:Ak)(ks:Db)(hl:bs.length<=1000)(hx:bs[j]? =some (J x))(CD:ks≠[])(hk:ks.length<=200):
 AC B.C A (Bf (DL UJ) (jy K L D)) [As D [(BA,.int (j:Int) k)],AW K.ba (J b),AE b bs,pR,AE x (ks.map rv)]
  (λq:aV (EE (Fn ks) j)=>J q.a)
  (λq=>[As D [(BA,.int (j:Int) k)],AF q.a q.ys,AW K.ba (J b),AE b bs,OQ q.cd,EA q.cd CH Bw q.y,AE x (ks.map rv)]):=Jj O U (.g 71991824512<|.cc (BZ O U.l b j k bs (J x) hx hl) [2] λYa=>.g 4098<|.cc (VS O U.l x j k ks CD hk) [4,3] λy1=>.fi (y1) [5,0,4,3,1,1,0])
theorem qA(U:AA 60 A)(K:LC)(L D j k b x cd:Nat)(y:Fc)(bs:Ak)(ks:Db)(hl:bs.length<=1000)(hx:bs[j]? =some (J x))(CD:ks≠[])(hk:ks.length<=200):
 AC B.C A (Bf (DL UJ) (jy K L D)) [As D [(BA,.int (j:Int) k)],AW K.ba (J b),AE b bs,OQ cd,EA cd CH Bw y,AE x (ks.map rv)]
  (λq:Gk (EE (Fn ks) j)=>J q.a)
  (λq=>[As D [(BA,.int (j:Int) k)],AF q.a q.ys,AW K.ba (J b),AE b bs,OQ cd,EA cd CH Bw y,AE x (ks.map rv)]):=Jj O U (.g 71991824512<|.cc (BZ O U.l b j k bs (J x) hx hl) [2] λYa=>.g 4098<|.cc (VT O U.l x j k cd y ks CD hk) [5,3,3] λy1=>.fi (y1) [5,0,4,3,1,1,0])
theorem oC(U:AA 60 A)(K:LC)(L D j k b x cd:Nat)(y:Fc)(bs:Ak)(ks:Db)(hl:bs.length<=1000)(hx:bs[j]? =some (J x))(CD:ks≠[])(hk:ks.length<=200):
 AC B.C A (Bf (DL Tv) (i6 K L D)) [As D [(BA,.int (j:Int) k)],AW K.na (J b),AE b bs,OQ cd,EA cd CH Bw y,AE x (ks.map rv)]
  (λq:Gk (EE (Fn ks) j)=>J q.a)
  (λq=>[As D [(BA,.int (j:Int) k)],AF q.a q.ys,AW K.na (J b),AE b bs,OQ cd,EA cd CH Bw y,AE x (ks.map rv)]):=Jj O U (.g 71991824512<|.cc (BZ O U.l b j k bs (J x) hx hl) [2] λYa=>.g 4098<|.cc (VT O U.l x j k cd y ks CD hk) [5,3,3] λy1=>.fi (y1) [5,0,4,3,1,1,0])
theorem oB(U:AA 60 A)(K:LC)(L D j k b x:Nat)(bs:Ak)(ks:Db)(hl:bs.length<=1000)(hx:bs[j]? =some (J x))(CD:ks≠[])(hk:ks.length<=200):
 AC B.C A (Bf (DL Tv) (i6 K L D)) [As D [(BA,.int (j:Int) k)],AW K.na (J b),AE b bs,pR,AE x (ks.map rv)]
  (λq:aV (EE (Fn ks) j)=>J q.a)
  (λq=>[As D [(BA,.int (j:Int) k)],AF q.a q.ys,AW K.na (J b),AE b bs,OQ q.cd,EA q.cd CH Bw q.y,AE x (ks.map rv)]):=Jj O U (.g 71991824512<|.cc (BZ O U.l b j k bs (J x) hx hl) [2] λYa=>.g 4098<|.cc (VS O U.l x j k ks CD hk) [4,3] λy1=>.fi (y1) [5,0,4,3,1,1,0])
theorem rV(U:AA 60 A)(K:LC)(L D j k w o p x y:Nat)(al:BC)(ws os:Ak)(ps x1 x2:Aa)(hK:C8 A [L])(hw:ws.length<=1000)(ho:os.length<=1000)(hx:ws[j]? =some (J x))(hy:os[j]? =some (J y))(hp:ps.length<=500)(h1:x1.length<=500)(h2:x2.length<=500):
 AC B.C A (Bf (DL U7) (m9 K L D)) [As D [(BA,.int (j:Int) k)],AW K.wa (J w),AW K.pl (J p),AW K.ot (J o),AE w ws,AE o os,AF p ps,AI L al,AF x x1,AF y x2]
  (λq:Gk (EG (EG (ns ps) (ns x1)) (ns x2))=>J q.a)
  (λq=>[As D [(BA,.int (j:Int) k)],AF q.a q.ys,AW K.wa (J w),AW K.pl (J p),AW K.ot (J o),AE w ws,AE o os,AF p ps,AI L al,AF x x1,AF y x2]):=Jj O U (.g 4747096760320<|.cc (BZ O U.l w j k ws (J x) hx hw) [4] λYa=>.g 1176002693<|.cc (BZ O U.l o j k os (J y) hy ho) [5] λYa=>.al λa2=>.g 4102<|.cc (W3 O U.l a2 p x y L al ps x1 x2 hK hp h1 h2) [0,6,7,7,6] λy3=>.fi (y3) [8,0,7,7,7,6,5,1,3,1,1])
omit O
theorem pG{es:List SE}{i:Nat}{e:SE}(h:es[i]? =some e):(aI es).Perm (SE.p e::aI (es.take i++es.drop (i+1))):=by
 have:=(IU h).map SE.p
 rwa [Aw] at this
theorem UB{P:AN}{es:List SE}{i:Nat}{e:SE}(he:es[i]? =some e):(Ao (P++[DB es])).Perm (Ao (P++[AE e.a (e.ks.map rv)]++[.many (aI (es.take i++es.drop (i+1)))])):=by
 simp only[An,Ao,Bi.flat,Aj,AG]
 exact(pG he).append_left _
theorem AC.Vx{C:Cx}{A:AL}{α:Type}{t:Sem α}{P:AN}{X:Type}{res:X->α}{Q:X->AN}{es:List SE}{i:Nat}{e:SE}(he:es[i]? =some e)
 (h:AC C A t (P++[AE e.a (e.ks.map rv)]) res (λx=>Q x++[AE e.a (e.ks.map rv)])):AC C A t (P++[DB es]) res (λx=>Q x++[DB es]):=
 ((h.frame [.many (aI (es.take i++es.drop (i+1)))]).pre λR s S=>S.BV (by rw[An,An _ R];exact(UB he).append_right _)).post λx R s S=>S.BV (by rw[An,An _ R];exact((UB he).append_right _).symm)
theorem Hn{α β:Type}{es:List α}{g:α->β}{f:Nat->β}{m j:Nat}{e:α}(h:es.map g=(Ah m).map f)(he:es[j]? =some e):g e=f j:=by
 have h1:(es.map g)[j]? =some (g e):=by rw[AQ,he];rfl
 rw[h,AQ] at h1;obtain⟨q,hq,e1⟩:=Option.map_eq_some_iff.mp h1;obtain⟨h2,h3⟩:=List.getElem?_eq_some_iff.mp hq;rw[HI] at h3;subst h3;exact e1.symm
theorem Ee{α β:Type}{es:List α}{g:α->β}{f:Nat->β}{m:Nat}(h:es.map g=(Ah m).map f):es.length=m:=by
 have:=congrArg C7 h
 rwa [AD,AD,Dv] at this
def xg:Option (Nat×Fc)->AN
 |none=>[pR]
 |some (cd,y)=>[OQ cd,EA cd CH Bw y]
def Jq(t:Option (Nat×Fc)):F6:=Ao (xg t)
structure j4(f:Nat->Ay)(n:Nat) where
 es:List IE
 ok:es.map IE.ns=(Ah n).map f
 k:Nat
 t:Nat
 tb:Option (Nat×Fc)
structure X3(es:List SE) where
 ks:Db
 ok:ks.map (·.1)=es.map λe=>BB eS (SE.rows e)
 r:Nat
theorem aN{E:Type}{es:List SE}{g:E->Str}{f:SE->Str}{n:Nat}(hn:n=es.length)(t:He E (λj e=> ∀x,es[j]? =some x->g e=f x) n):t.es.map g=es.map f:=by
 apply Hz;intro j;rw[AQ,AQ];cases he:t.es[j]? with
 |some e=>
  have h1:j<n:=by rw[<-t.len];exact(List.getElem?_eq_some_iff.mp he).1
  have h2:es[j]? =some es[j]:=AJ ADj
  rw[h2];show some (g e)=some (f _);rw[t.all j e he _ h2]
 |none=>
  have h1:=List.getElem?_eq_none_iff.mp he;rw[t.len] at h1;rw[B7 ADj];rfl
theorem eO(e:SE)(j:Nat){r:List Str}(h:SE.rows e=r):EE (Fn e.ks) j=EE (r.map Fb) j:=by
 subst h;unfold Fn SE.rows;rw[CK];rfl
include O
def ku(U:AA 31 A)(L D c a acc:Nat)(es:List SE)(h0:es≠[])(hl:es.length<=1000)(hf: ∀e∈es,JE (SE.rows e)):Ag B.C A where
 c:=.compStart OM 0 (J a) (J acc) (Gm OM [] L D)
 F:=[As D [],AE acc [],BQ a c 0,AE c (es.map SE.v),DB es]
 X:=X3 es
 res:=λYa=>.ok .next
 led:=λq=>[As D [(Er,J q.r)],AE acc (q.ks.map rv),AE c (es.map SE.v),DB es]
 ok:=by
  have hlen:(es.map SE.v).length=es.length:=AD _;have h:=O8 (B:=B) (A:=A) (elt:=DL OM) (iter:=Hf OM) (x0:=Er) (p0:=(Cp OM).pos) (sc:=Gh OM) (pos:=OM.pos) (env:=Gm OM [] L D) (dv:=As D) (acc:=acc) (a:=a) (c:=c) O (ADj:6<=30) U (E:=Str×Nat) rv (λYa=>[]) (λj e=> ∀x,es[j]? =some x->e.1=BB eS (SE.rows x)) (λYa:Unit=>[DB es]) (xs:=es.map SE.v) (K:=λv=> ∃r:Nat,v=J r)
   (λv hv=>by obtain⟨q,_,rfl⟩:=List.mem_map.mp hv;exact⟨_,rfl⟩)
   (λA' h v ⟨r,e⟩ l hl=>by
    subst e
    rcases hl with rfl|⟨u,⟨i,rfl⟩,rfl⟩
    ·exact mv O h L D r
    ·exact mw O h L D r i)
   (λA' SF B8 j v0 hv _=>by
    rw[AQ] at hv;obtain⟨e,he,rfl⟩:=Option.map_eq_some_iff.mp hv;have g:=rS O (B8.le (ADj:20<=30)) L D e.a e.ks (hf e (B4 he))
    refine AC.weaken (((AC.Vx (P:=[_]) (Q:=λYa=>[_]) he g).frame [AE c (es.map SE.v)]).ix [0,1,0] rfl) λq=>⟨(⟨(_,q),λx hx=>by rw[he] at hx;cases hx;rfl⟩,()),rfl,λR s S=>?_⟩
    exact(St.picked (L:=[_,_,_]) (ix:=[0,1,0]) S rfl).BV (.refl _))
   ADj () (by intro e;rw[e] at hlen;simp at hlen;exact h0 (by cases es with|nil=>rfl|cons=>simp at hlen))
  refine AC.weaken h λy=>?_;obtain⟨y1,u,r,e⟩:=y;subst e;exact⟨⟨y1.1.es,aN (g:=λe:Str×Nat=>e.1) (f:=λx=>BB eS (SE.rows x)) hlen y1.1,r⟩,rfl,λR s S=>S.BV (by
   simp only[An,Ao,Bi.flat,Ey,Ex,Aj,Al];exact .refl _)⟩
def kv(U:AA 31 A)(L D c a acc:Nat)(es:List SE)(h0:es≠[])(hl:es.length<=1000)(hf: ∀e∈es,JE (SE.rows e)):Ag B.C A where
 c:=.compStart ON 0 (J a) (J acc) (Gm ON [] L D)
 F:=[As D [],AE acc [],BQ a c 0,AE c (es.map SE.v),DB es]
 X:=X3 es
 res:=λYa=>.ok .next
 led:=λq=>[As D [(Er,J q.r)],AE acc (q.ks.map rv),AE c (es.map SE.v),DB es]
 ok:=by
  have hlen:(es.map SE.v).length=es.length:=AD _;have h:=O8 (B:=B) (A:=A) (elt:=DL ON) (iter:=Hf ON) (x0:=Er) (p0:=(Cp ON).pos) (sc:=Gh ON) (pos:=ON.pos) (env:=Gm ON [] L D) (dv:=As D) (acc:=acc) (a:=a) (c:=c) O (ADj:6<=30) U (E:=Str×Nat) rv (λYa=>[]) (λj e=> ∀x,es[j]? =some x->e.1=BB eS (SE.rows x)) (λYa:Unit=>[DB es]) (xs:=es.map SE.v) (K:=λv=> ∃r:Nat,v=J r)
   (λv hv=>by obtain⟨q,_,rfl⟩:=List.mem_map.mp hv;exact⟨_,rfl⟩)
   (λA' h v ⟨r,e⟩ l hl=>by
    subst e
    rcases hl with rfl|⟨u,⟨i,rfl⟩,rfl⟩
    ·exact mx O h L D r
    ·exact my O h L D r i)
   (λA' SF B8 j v0 hv _=>by
    rw[AQ] at hv;obtain⟨e,he,rfl⟩:=Option.map_eq_some_iff.mp hv;have g:=rT O (B8.le (ADj:20<=30)) L D e.a e.ks (hf e (B4 he))
    refine AC.weaken (((AC.Vx (P:=[_]) (Q:=λYa=>[_]) he g).frame [AE c (es.map SE.v)]).ix [0,1,0] rfl) λq=>⟨(⟨(_,q),λx hx=>by rw[he] at hx;cases hx;rfl⟩,()),rfl,λR s S=>?_⟩
    exact(St.picked (L:=[_,_,_]) (ix:=[0,1,0]) S rfl).BV (.refl _))
   ADj () (by intro e;rw[e] at hlen;simp at hlen;exact h0 (by cases es with|nil=>rfl|cons=>simp at hlen))
  refine AC.weaken h λy=>?_;obtain⟨y1,u,r,e⟩:=y;subst e;exact⟨⟨y1.1.es,aN (g:=λe:Str×Nat=>e.1) (f:=λx=>BB eS (SE.rows x)) hlen y1.1,r⟩,rfl,λR s S=>S.BV (by
   simp only[An,Ao,Bi.flat,Ey,Ex,Aj,Al];exact .refl _)⟩
def lR(U:AA 81 A)(K:LC)(L D c a acc b:Nat)(T9:Nat->List Str)(es:List SE)(t0:Option (Nat×Fc))(ss:Aa)(m:Nat)(hs:ns ss=Ah m)(hm:m<=1000)(F5:m≠0)(hb:es.map SE.rows=(Ah m).map T9)(hr: ∀j,j<m->T9 j≠[]/\(T9 j).length<=200):Ag B.C A where
 c:=.compStart UJ 0 (J a) (J acc) (jy K L D)
 F:=[As D [],AE acc [],BQ a c 0,AF c ss,AW K.ba (J b),AE b (es.map SE.v),DB es,.many (Jq t0)]
 X:=j4 (λj=>EE ((T9 j).map Fb) j) m
 res:=λYa=>.ok .next
 led:=λq=>[As D [(BA,.int (q.k:Int) q.t)],AE acc (q.es.map IE.v),AF c ss,BU q.es,AW K.ba (J b),AE b (es.map SE.v),DB es,.many (Jq q.tb)]
 ok:=by
  have hlen:=Ee hb;have Zi:(es.map SE.v).length=es.length:=AD _;have h:=D_ (B:=B) (A:=A) (elt:=DL UJ) (iter:=Hf UJ) (x0:=BA) (p0:=(Cp UJ).pos) (sc:=Gh UJ) (pos:=UJ.pos) (env:=jy K L D) (dv:=As D) (acc:=acc) (a:=a) (c:=c) O (ADj:6<=80) U (E:=IE) IE.v (λe=>[IE.p e]) (λj e=>IE.ns e=EE ((T9 j).map Fb) j) (λt:Option (Nat×Fc)=>[AW K.ba (J b),AE b (es.map SE.v),DB es,.many (Jq t)]) (ss:=ss) (n:=m) hs
   (λA' h j k l hl=>by
    rcases hl with rfl|⟨i,m,rfl⟩
    ·exact qB O h K L D j k
    ·exact qC O h K L D j k i m)
   (λA' SF B8 j hj k t=>by
    have he:es[j]? =some es[j]:=AJ ADj
    have JA:=Hn hb he;obtain⟨r1,r2⟩:=hr j hj;have mT:es[j].ks≠[]:=λe=>r1 (by rw[<-JA];unfold SE.rows;rw[e];rfl)
    have mU:es[j].ks.length<=200:=by rw[<-JA] at r2;unfold SE.rows at r2;rwa [AD] at r2
    have hx:(es.map SE.v)[j]? =some (.ref (es[j].a+323)):=by rw[AQ,he];rfl
    have Zg:=eO es[j] j JA;cases t with
    |none=>
     have g:=p_ O (B8.le (ADj:60<=80)) K L D j k b es[j].a (es.map SE.v) es[j].ks ADj hx mT mU
     refine AC.weaken ((AC.Vx (P:=[_,_,_,_]) (Q:=λq:aV (EE (Fn es[j].ks) j)=>[_,_,_,_,_,_]) he g).pre λR s S=>?_) λq=>⟨(⟨⟨q.a,q.ys⟩,q.ok.trans Zg⟩,some (q.cd,q.y)),rfl,λR s S=>?_⟩
     ·exact(St.picked (L:=[_,_,_,_,_]) (ix:=[0,0,0,1,0]) S rfl).BV (.refl _)
     ·have S1:=St.picked (L:=[_,_,_,_,_,_,_]) (ix:=[0,0,0,0,2,0,0]) S rfl
      exact S1.BV (.refl _)
    |some t=>
     obtain⟨cd,y⟩:=t;have g:=qA O (B8.le (ADj:60<=80)) K L D j k b es[j].a cd y (es.map SE.v) es[j].ks ADj hx mT mU
     refine AC.weaken ((AC.Vx (P:=[_,_,_,_,_]) (Q:=λq:Gk (EE (Fn es[j].ks) j)=>[_,_,_,_,_,_]) he g).pre λR s S=>?_) λq=>⟨(⟨⟨q.a,q.ys⟩,q.ok.trans Zg⟩,some (cd,y)),rfl,λR s S=>?_⟩
     ·have S1:St B.C ([As D [(BA,.int (j:Int) k)],AW K.ba (J b),AE b (es.map SE.v),DB es,OQ cd,EA cd CH Bw y]++R) s:=S.BV (.refl _)
      exact St.picked (L:=[_,_,_,_,_,_]) (ix:=[0,0,0,1,1,0]) S1 rfl
     ·have S1:=St.picked (L:=[_,_,_,_,_,_,_]) (ix:=[0,0,0,0,2,0,0]) S rfl
      exact S1.BV (.refl _)) hm t0 F5
  exact AC.weaken h λy=>⟨⟨y.1.1.es,F2 (g:=IE.ns) y.1.1,y.2.1,y.2.2,y.1.2⟩,rfl,λR s S=>S.BV (by
   simp only[An,Ao,Bi.flat,Ey,Ex,Aj,Al];exact .refl _)⟩
def lM(U:AA 81 A)(K:LC)(L D c a acc b:Nat)(T9:Nat->List Str)(es:List SE)(t0:Option (Nat×Fc))(ss:Aa)(m:Nat)(hs:ns ss=Ah m)(hm:m<=1000)(F5:m≠0)(hb:es.map SE.rows=(Ah m).map T9)(hr: ∀j,j<m->T9 j≠[]/\(T9 j).length<=200):Ag B.C A where
 c:=.compStart Tv 0 (J a) (J acc) (i6 K L D)
 F:=[As D [],AE acc [],BQ a c 0,AF c ss,AW K.na (J b),AE b (es.map SE.v),DB es,.many (Jq t0)]
 X:=j4 (λj=>EE ((T9 j).map Fb) j) m
 res:=λYa=>.ok .next
 led:=λq=>[As D [(BA,.int (q.k:Int) q.t)],AE acc (q.es.map IE.v),AF c ss,BU q.es,AW K.na (J b),AE b (es.map SE.v),DB es,.many (Jq q.tb)]
 ok:=by
  have hlen:=Ee hb;have Zi:(es.map SE.v).length=es.length:=AD _;have h:=D_ (B:=B) (A:=A) (elt:=DL Tv) (iter:=Hf Tv) (x0:=BA) (p0:=(Cp Tv).pos) (sc:=Gh Tv) (pos:=Tv.pos) (env:=i6 K L D) (dv:=As D) (acc:=acc) (a:=a) (c:=c) O (ADj:6<=80) U (E:=IE) IE.v (λe=>[IE.p e]) (λj e=>IE.ns e=EE ((T9 j).map Fb) j) (λt:Option (Nat×Fc)=>[AW K.na (J b),AE b (es.map SE.v),DB es,.many (Jq t)]) (ss:=ss) (n:=m) hs
   (λA' h j k l hl=>by
    rcases hl with rfl|⟨i,m,rfl⟩
    ·exact oD O h K L D j k
    ·exact oE O h K L D j k i m)
   (λA' SF B8 j hj k t=>by
    have he:es[j]? =some es[j]:=AJ ADj
    have JA:=Hn hb he;obtain⟨r1,r2⟩:=hr j hj;have mT:es[j].ks≠[]:=λe=>r1 (by rw[<-JA];unfold SE.rows;rw[e];rfl)
    have mU:es[j].ks.length<=200:=by rw[<-JA] at r2;unfold SE.rows at r2;rwa [AD] at r2
    have hx:(es.map SE.v)[j]? =some (.ref (es[j].a+323)):=by rw[AQ,he];rfl
    have Zg:=eO es[j] j JA;cases t with
    |none=>
     have g:=oB O (B8.le (ADj:60<=80)) K L D j k b es[j].a (es.map SE.v) es[j].ks ADj hx mT mU
     refine AC.weaken ((AC.Vx (P:=[_,_,_,_]) (Q:=λq:aV (EE (Fn es[j].ks) j)=>[_,_,_,_,_,_]) he g).pre λR s S=>?_) λq=>⟨(⟨⟨q.a,q.ys⟩,q.ok.trans Zg⟩,some (q.cd,q.y)),rfl,λR s S=>?_⟩
     ·exact(St.picked (L:=[_,_,_,_,_]) (ix:=[0,0,0,1,0]) S rfl).BV (.refl _)
     ·have S1:=St.picked (L:=[_,_,_,_,_,_,_]) (ix:=[0,0,0,0,2,0,0]) S rfl
      exact S1.BV (.refl _)
    |some t=>
     obtain⟨cd,y⟩:=t;have g:=oC O (B8.le (ADj:60<=80)) K L D j k b es[j].a cd y (es.map SE.v) es[j].ks ADj hx mT mU
     refine AC.weaken ((AC.Vx (P:=[_,_,_,_,_]) (Q:=λq:Gk (EE (Fn es[j].ks) j)=>[_,_,_,_,_,_]) he g).pre λR s S=>?_) λq=>⟨(⟨⟨q.a,q.ys⟩,q.ok.trans Zg⟩,some (cd,y)),rfl,λR s S=>?_⟩
     ·have S1:St B.C ([As D [(BA,.int (j:Int) k)],AW K.na (J b),AE b (es.map SE.v),DB es,OQ cd,EA cd CH Bw y]++R) s:=S.BV (.refl _)
      exact St.picked (L:=[_,_,_,_,_,_]) (ix:=[0,0,0,1,1,0]) S1 rfl
     ·have S1:=St.picked (L:=[_,_,_,_,_,_,_]) (ix:=[0,0,0,0,2,0,0]) S rfl
      exact S1.BV (.refl _)) hm t0 F5
  exact AC.weaken h λy=>⟨⟨y.1.1.es,F2 (g:=IE.ns) y.1.1,y.2.1,y.2.2,y.1.2⟩,rfl,λR s S=>S.BV (by
   simp only[An,Ao,Bi.flat,Ey,Ex,Aj,Al];exact .refl _)⟩
def kx(U:AA 81 A)(K:LC)(L D c a acc w o p:Nat)(al:BC)(f1 f2:Nat->Ay)(es fs:List IE)(ps ss:Aa)(m:Nat)(hK:C8 A [L])(hs:ns ss=Ah m)(hm:m<=1000)(F5:m≠0)(hp:ps.length<=500)(TY:es.map IE.ns=(Ah m).map f1)(TZ:fs.map IE.ns=(Ah m).map f2)(Td: ∀j,j<m->(f1 j).length<=500)(dM: ∀j,j<m->(f2 j).length<=500):Ag B.C A where
 c:=.compStart U7 0 (J a) (J acc) (m9 K L D)
 F:=[As D [],AE acc [],BQ a c 0,AF c ss,AW K.wa (J w),AW K.pl (J p),AW K.ot (J o),AE w (es.map IE.v),AE o (fs.map IE.v),AF p ps,AI L al,BU es,BU fs]
 X:=WO (λj=>EG (EG (ns ps) (f1 j)) (f2 j)) m
 res:=λYa=>.ok .next
 led:=λq=>[As D [(BA,.int (q.k:Int) q.t)],AE acc (q.es.map IE.v),AF c ss,BU q.es,AW K.wa (J w),AW K.pl (J p),AW K.ot (J o),AE w (es.map IE.v),AE o (fs.map IE.v),AF p ps,AI L al,BU es,BU fs]
 ok:=by
  have u9:=Ee TY;have XS:=Ee TZ;have hl1:(es.map IE.v).length=es.length:=AD _;have Mq:(fs.map IE.v).length=fs.length:=AD _;have h:=D_ (B:=B) (A:=A) (elt:=DL U7) (iter:=Hf U7) (x0:=BA) (p0:=(Cp U7).pos) (sc:=Gh U7) (pos:=U7.pos) (env:=m9 K L D) (dv:=As D) (acc:=acc) (a:=a) (c:=c) O (ADj:6<=80) U (E:=IE) IE.v (λe=>[IE.p e]) (λj e=>IE.ns e=EG (EG (ns ps) (f1 j)) (f2 j)) (λYa:Unit=>[AW K.wa (J w),AW K.pl (J p),AW K.ot (J o),AE w (es.map IE.v),AE o (fs.map IE.v),AF p ps,AI L al,BU es,BU fs]) (ss:=ss) (n:=m) hs
   (λA' h j k l hl=>by
    rcases hl with rfl|⟨i,m,rfl⟩
    ·exact m_ O h K L D j k
    ·exact nA O h K L D j k i m)
   (λA' SF B8 j hj k _=>by
    have hx:es[j]? =some es[j]:=AJ ADj
    have hy:fs[j]? =some fs[j]:=AJ ADj
    have q1:=Hn TY hx;have q2:=Hn TZ hy;have U3:C8 A' [L]:=by subst SF;exact hK
    have l1:es[j].ys.length<=500:=by have:=Td j hj;rw[<-q1] at this;unfold IE.ns Mine.ns at this;rwa [AD] at this
    have l2:fs[j].ys.length<=500:=by have:=dM j hj;rw[<-q2] at this;unfold IE.ns Mine.ns at this;rwa [AD] at this
    have g:=rV O (B8.le (ADj:60<=80)) K L D j k w o p es[j].a fs[j].a al (es.map IE.v) (fs.map IE.v) ps es[j].ys fs[j].ys U3 ADj ADj (by rw[AQ,hx];rfl) (by rw[AQ,hy];rfl) hp l1 l2
    refine(AC.ni (P:=[_,_,_,_,_,_,_,_]) (Q:=λq:Gk _=>[_,_,_,_,_,_,_,_,_]) hx hy g).weaken λq=>⟨(⟨⟨q.a,q.ys⟩,q.ok.trans (by rw[<-q1,<-q2])⟩,()),rfl,λR s S=>S.BV (.refl _)⟩) hm () F5
  exact AC.weaken h λy=>⟨⟨y.1.1.es,F2 (g:=IE.ns) y.1.1,y.2.1,y.2.2⟩,rfl,λR s S=>S.BV (by
   simp only[An,Ao,Bi.flat,Ey,Ex,Aj,Al];exact .refl _)⟩
noncomputable abbrev sI(a t:Nat):Bi:=.one (a+323) (.ex ⟨.type "slice",none,.fields ⟨[.none,.none,.int (-1) t]⟩,⟨[]⟩⟩)
omit O
section
variable{C:Cx}{A:AL}
theorem Wa(O:C.Ok){l sl:Addr}{t:Nat}{c:Value}{d:Option Addr}{xs:Ak}(hx:xs.length<=1000):
 AC C A (Builtin.«list.__getitem__» ⟨[.ref l,.ref sl],[]⟩) [.one l (.ls c d xs),.one sl (.ex ⟨.type "slice",none,.fields ⟨[.none,.none,.int (-1) t]⟩,⟨[]⟩⟩)]
  (λa:Nat=>.done (.ret (.ref (a+323)))) (λa=>[.one (a+323) (.ls (.type "list") none xs.reverse),.one l (.ls c d xs),.one sl (.ex ⟨.type "slice",none,.fields ⟨[.none,.none,.int (-1) t]⟩,⟨[]⟩⟩)]):=by
 intro R s S;have hy:(RH ⟨xs⟩ none none (some (-1))).toList=xs.reverse:=by rw[krv_pick]
 obtain⟨g,ho⟩:=S.Dj;have MJ:=DV S.swap;have TV:s.TypeIs (.ref sl) "slice":=⟨_,MJ,rfl⟩;have Is:(⟨xs⟩:Bs).size<=sizeLine:=AK (show xs.length<=1000 from hx) ADm
 show BN _ _ (Bb (.ref sl)>>=_) _ _ s;refine AB ?_;unfold Bb;refine AB (I_ TV J4 ?_);simp only[J0,if_true];refine AP ?_;show BN _ _ (J5 (.ref sl)>>=_) _ _ s;refine AB (H6 TV ?_);refine iN ADm ?_
 rw[H3];refine AB (AB (B9 MJ rfl (x:=.int (-1) t) rfl (AB (DF (.int (-1) t) ?_))));refine iN ADm ?_
 refine AB (B9 MJ rfl (x:=.none) rfl (AB (DF .none ?_)));refine AB (B9 MJ rfl (x:=.none) rfl (AB (DF .none (AP ?_))));refine AB (m:=A7 (.ref l)) ?_;unfold A7;refine AB (DG ho rfl (AP ?_));refine AB (GR (Ie none none (some (-1)) xs.length ADm) ?_)
 refine AB (DS (AP ?_) (AK (Kd _ none none (some (-1))) Is));refine⟨s.heap.objs.size-323,?_,?_⟩
 ·rw[<-S.size_eq O]
 ·rw[<-S.size_eq O]
  exact S.alloc rfl ⟨G0,by rw[<-hy];rfl⟩
end
include O
theorem kd(U:AA 1 A)(x sl t:Nat)(xs:Ak):
 AS B A (AU "list.__getitem__" ⟨[.ref (x+323),.ref (sl+323)],[]⟩) [AE x xs,sI sl t] () [AE x xs,sI sl t]:=
 by apply Hc O U (.g 65<|.fi () [0,0])
def bb(U:AA 3 A)(x sl t:Nat)(xs:Ak)(hx:xs.length<=1000):Ag B.C A where
 c:=.call (.builtin "list.__getitem__") ⟨[.ref (x+323),.ref (sl+323)],[]⟩
 F:=[AE x xs,sI sl t]
 X:=Nat
 res:=λa=>.ok (.ret (.ref (a+323)))
 led:=λa=>[AE a xs.reverse,AE x xs,sI sl t]
 ok:=BF ADl Dq (kd O U.l.in1 x sl t xs) (Wa O hx)
abbrev Fg(ar:Addr)(n s t:Nat):BC:=[(Cb,.ref ar),(CZ,J n),(Gb,J s),(UI,J t)]
theorem uD(U:AA 40 A)(L b:Nat)(K:LC)(es:List SE)(h0:es≠[])(hl:es.length<=1000)(hf: ∀e∈es,JE (SE.rows e)):
 AC B.C A (Bf OM (Fi B K L)) [AW K.ba (J b),AE b (es.map SE.v),DB es]
  (λq:Nat×X3 es=>J q.1)
  (λq=>[AE q.1 (q.2.ks.map rv),AW K.ba (J b),AE b (es.map SE.v),DB es]):=by
 obtain⟨_,_|_⟩:=B<;>exact H_ O U (.g 270465<|.cc (Bt O U.l b (es.map SE.v)) [1] λy0=>.g 65<|.al λa1=>.al λa2=>.cc (ku O U.l L a2 b y0 a1 es h0 hl hf) [0,0,0,0,1] λy3=>.g 393281<|.fi (a1,y3) [1,3,1,1])
theorem uF(U:AA 40 A)(L b:Nat)(K:LC)(es:List SE)(h0:es≠[])(hl:es.length<=1000)(hf: ∀e∈es,JE (SE.rows e)):
 AC B.C A (Bf ON (Fi B K L)) [AW K.na (J b),AE b (es.map SE.v),DB es]
  (λq:Nat×X3 es=>J q.1)
  (λq=>[AE q.1 (q.2.ks.map rv),AW K.na (J b),AE b (es.map SE.v),DB es]):=by
 obtain⟨_,_|_⟩:=B<;>exact H_ O U (.g 270465<|.cc (Bt O U.l b (es.map SE.v)) [1] λy0=>.g 65<|.al λa1=>.al λa2=>.cc (kv O U.l L a2 b y0 a1 es h0 hl hf) [0,0,0,0,1] λy3=>.g 393281<|.fi (a1,y3) [1,3,1,1])
theorem nh(U:AA 90 A)(L n s t b c m:Nat)(K:LC)(ar:Addr)(ss:Aa)(r1 r2:Nat->List Str)(es fs:List SE)(tb:Option (Nat×Fc))(hs:ns ss=Ah m)(hm:m<=1000)(F5:m≠0)(hb1:es.map SE.rows=(Ah m).map r1)(Td: ∀j,j<m->r1 j≠[]/\(r1 j).length<=200)(hb2:fs.map SE.rows=(Ah m).map r2)(dM: ∀j,j<m->r2 j≠[]/\(r2 j).length<=200):
 AC B.C A (Ac (Gv B 12 2) (Fi B K L)) [AI L (Fg ar n s t),AF s ss,AW K.ba (J b),AE b (es.map SE.v),DB es,AW K.na (J c),AE c (fs.map SE.v),DB fs,C3 K.wa none,C3 K.ot none,.many (Jq tb)]
  (λq:Nat×j4 (λj=>EE ((r1 j).map Fb) j) m×Nat×j4 (λj=>EE ((r2 j).map Fb) j) m=>Dg)
  (λq=>[AI L (Fg ar n s t),AF s ss,AW K.ba (J b),AE b (es.map SE.v),DB es,AW K.na (J c),AE c (fs.map SE.v),DB fs,AW K.wa (J q.1),AW K.ot (J q.2.2.1),AE q.1 (q.2.1.es.map IE.v),BU q.2.1.es,AE q.2.2.1 (q.2.2.2.es.map IE.v),BU q.2.2.2.es,.many (Jq q.2.2.2.tb)]):=by
 obtain⟨_,_|_⟩:=B<;>exact D7 O U (.g 270465<|.cc (Bt O U.l s (ss.map iv)) [1] λy0=>.g 65<|.al λa1=>.al λa2=>.cc (lR O U.l K L a2 s y0 a1 b r1 es tb ss m hs hm F5 hb1 Td) [0,0,0,0,1,1,1,6] λ(y3:j4 (λj=>EE (B0 Fb (r1 j)) j) m)=>.g 294885680087105<|.cc (Bt O U.l s (ss.map iv)) [2] λy4=>.g 65<|.al λa5=>.al λa6=>.cc (lM O U.l K L a6 s y4 a5 c r2 fs y3.tb ss m hs hm F5 hb2 dM) [0,0,0,0,8,8,8,6] λy7=>.g 1883635777<|.fi (a1,y3,a5,y7) [14,2,10,10,10,3,3,3,7,7,5,5,1,1,1])
theorem vj(U:AA 90 A)(L n s t w o:Nat)(K:LC)(ar:Addr)(ws os:Ak)(hw:ws.length<=500)(ho:os.length<=500):
 AC B.C A (Ac (Gv B 15 1) (Fi B K L)) [AI L (Fg ar n s t),AW K.wa (J w),AW K.ot (J o),AE w ws,AE o os]
  (λq:Nat=>.next)
  (λq=>[AI L (Fg ar n s t++[(Cc,J q)]),AE q (ws++os).reverse,AW K.wa (J w),AW K.ot (J o),AE w ws,AE o os]):=Ix O U (.g 1142177986<|.cc (Kw _ _ O U.l w o ws os (by first|lia|assumption|(rw[AX];lia)) (by first|lia|assumption|(rw[AX];lia))) [3,3] λ(y0:Nat)=>.fr λk1=>.cc (HB O U.l k1) [] λ(y2:Nat)=>.al λa3=>.g 270466<|.cc (bb O U.l y0 a3 y2 (ws++os) (by first|lia|assumption|(rw[AX];lia))) [1,0] λy4=>.cc (Dp O U.l) [] λYa=>.fr λk6=>.g 6470<|.fi (y4) [5,0,4,4,2,2])
abbrev VG(cd:Nat):Bi:=.one 319 (.ex ⟨.none,none,.fields ⟨[.int 278 0,.int 21 0,J cd]⟩,⟨[]⟩⟩)
abbrev WI(cd c2:Nat):Bi:=.one 319 (.ex ⟨.none,none,.fields ⟨[.int 278 0,.int 21 0,J cd,.int 279 0,.int 53 0,J c2]⟩,⟨[]⟩⟩)
theorem vk(U:AA 90 A)(L n s t u:Nat)(K:LC)(ar:Addr):
 AC B.C A (Ac (Gv B 16 1) (Fi B K L)) [AI L (Fg ar n s t++[(Cc,J u)]),Yb [],.one 319 (.ex ⟨.none,none,.fields ⟨[]⟩,⟨[]⟩⟩)]
  (λq:KZ=>.next)
  (λq=>((AI L (Fg ar n s t++[(Cc,J u),(Eu,J q.z.x.a)])::VG q.cd::Yc q.z.cc::CX B q))):=Ix O U (.g 274432<|.fr λk0=>.fr λk1=>.fr λk2=>.al λa3=>.al λa4=>.fr λk5=>.fr λk6=>.al λa7=>.al λa8=>.al λa9=>.fr λH9=>.fr λQB=>.al λIF=>.g 68719516169<|.al λOK=>.g 64<|.cc (gH O U.l OK) [8] λ(OS:KX×Nat)=>.fr λvR=>.g 7185<|.fi (⟨OS.fst,OS.snd,OK,IF,⟨k0,k1,cu k2 278 19 a3 a4 a7 a8 a9 H9 QB⟩⟩) (16::16::8::BW 10))
theorem vn(U:AA 90 A)(L n s t u k c:Nat)(K:LC)(ar:Addr)(ss:Aa)(AH:List It)(h1:(ss.map iv).length<=1000)(h2:(AH.map It.v).length<=1000):
 AC B.C A (Ac (Gv B 18 1) (Fi B K L)) [AI L (Fg ar n s t++[(Cc,J u),(Eu,J k)]),AF s ss,AW K.ch (J c),AE c (AH.map It.v),C3 K.pl none]
  (λq:Nat×Nat=>.next)
  (λq=>[AI L (Fg ar n s t++[(Cc,J u),(Eu,J k)]),AE q.1 (ss.map iv++[.int (((AH.map It.v).length:Nat):Int) q.2]),AF s ss,AW K.ch (J c),AE c (AH.map It.v),AW K.pl (J q.1)]):=Ix O U (.g 17563649<|.cc (IL O U.l c (B0 It.v AH) h2) [3] λ(y0:Nat×Nat)=>.al λa1=>.g 278596<|.cc (Kw _ _ O U.l s a1 (B0 iv ss) [.int (↑(B0 It.v AH).length) y0.snd] h1 (by first|lia|assumption|decide|(simp<;>lia))) [3,0] λy2=>.g 6535<|.fi (y2,y0.snd) [4,0,0,2,1,1])
theorem vo(U:AA 90 A)(L n s t u k w o p m:Nat)(K:LC)(ar:Addr)(f1 f2:Nat->Ay)(es fs:List IE)(ps ss:Aa)(hK:C8 A [L])(hs:ns ss=Ah m)(hm:m<=1000)(F5:m≠0)(hp:ps.length<=500)(TY:es.map IE.ns=(Ah m).map f1)(TZ:fs.map IE.ns=(Ah m).map f2)(Td: ∀j,j<m->(f1 j).length<=500)(dM: ∀j,j<m->(f2 j).length<=500):
 AC B.C A (Ac (Gv B 19 1) (Fi B K L)) [AI L (Fg ar n s t++[(Cc,J u),(Eu,J k)]),AF s ss,AW K.wa (J w),AW K.pl (J p),AW K.ot (J o),AE w (es.map IE.v),AE o (fs.map IE.v),AF p ps,BU es,BU fs]
  (λq:Nat×WO (λj=>EG (EG (ns ps) (f1 j)) (f2 j)) m=>Dg)
  (λq=>[AI L (Fg ar n s t++[(Cc,J u),(Eu,J k),(Xw,J q.1)]),AF s ss,AE q.1 (q.2.es.map IE.v),BU q.2.es]):=by
 obtain⟨_,_|_⟩:=B<;>exact D7 O U (.g 270465<|.cc (Bt O U.l s (ss.map iv)) [1] λy0=>.g 65<|.al λa1=>.al λa2=>.cc (kx O U.l K L a2 s y0 a1 w o p [(⟨⟨[115,99,114,105,112,116]⟩⟩,.ref ar),(⟨⟨[110,117,109,98,101,114,115]⟩⟩,J n),(⟨⟨[115,116,97,114,116,115]⟩⟩,J s),(⟨⟨[116,101,120,116,115]⟩⟩,J t),(⟨⟨[116,117,114,110,101,100]⟩⟩,J u),(⟨⟨[107,101,121]⟩⟩,J k)] f1 f2 es fs ps ss m hK hs hm F5 hp TY TZ Td dM) [0,0,0,0,1,1,1,1,1,1,0,0,0] λy3=>.fr λk4=>.g 1610881675<|.fi (a1,y3) [10,2,1,1])
def cH(U:AA 74 A)(u:Nat)(q:KZ)(ws:List IE)(hw: ∀e∈ws,e.ys.length<=1000)(h2:2<=ws.length)(NK:ws.length<64):Ag B.C A where
 c:=.call (.builtin "sorted") ⟨[J u],[(OB,J q.z.x.a)]⟩
 F:=AE u (ws.map IE.v)::BU ws::CX B q
 X:=Nat
 res:=λx=>.ok (.ret (J x))
 led:=λx=>AE x (De (λi j=>decide (EY (Ft ws i) (Ft ws j)<0)) (ws.map IE.v))::AE u (ws.map IE.v)::BU ws::CX B q
 ok:=by
  have hl:(ws.map IE.v).length=ws.length:=AD _;refine AC.weaken (AC.pre (M_ (A:=A) O U.l ADj ADj (vX (A:=A.in1.in1) O (U.le (ADm:70+1+1<=74)).in1.in1 q ws hw) u ⟨[],rfl,By _⟩) λR s S=>S.BV ?_) λx=>⟨x.1,rfl,λR s S=>?_⟩
  ·show(Ao ((AE u (ws.map IE.v)::BU ws::CX B q)++R)).Perm (Ao ((AE u (ws.map IE.v)::(CX B q++[BU ws,.many []]))++R))
   generalize CX B q=K
   simp only[An,Ao,Bi.flat,A5,Aj,AG,Al];refine BY _ ?_;rw[<-AG,<-AG];exact A8 _ A9
  ·have S1:St B.C ([AE x.1 (De (λi j=>decide (EY (Ft ws i) (Ft ws j)<0)) (ws.map IE.v)),AE u (ws.map IE.v),BU ws]++CX B q++(.many (Ms q.z.x.a x.2.1 ws)::R)) s:=S.BV (by
    show(Ao ((AE x.1 _::AE u (ws.map IE.v)::(CX B q++[BU ws,.many (Ms q.z.x.a x.2.1 ws)]))++R)).Perm _
    generalize CX B q=K
    simp only[An,Ao,Bi.flat,A5,Aj,AG,Al];exact BY _ (BY _ (Ce _ _ _)))
   show St B.C (([AE x.1 (De (λi j=>decide (EY (Ft ws i) (Ft ws j)<0)) (ws.map IE.v)),AE u (ws.map IE.v),BU ws]++CX B q)++R) s
   revert S1
   generalize CX B q=K
   intro S1;exact St.drop (L':=[.many (Ms q.z.x.a x.2.1 ws)]) (S1.perm (by
    rw[AG _ R];exact CP _ (A9 (l₁:=[_]))))
def TH(U:AA 74 A)(u k cd:Nat)(x:Fc)(ws:List IE)(hw: ∀e∈ws,e.ys.length<=1000/\2<=e.ys.length)(h2:2<=ws.length)(NK:ws.length<64):Ag B.C A where
 c:=.call (.builtin "sorted") ⟨[J u],[(OB,J k)]⟩
 F:=[AE u (ws.map IE.v),Hm k (HS B) Bk cd,EA cd CH Bk x,BU ws]
 X:=Nat
 res:=λr=>.ok (.ret (J r))
 led:=λr=>[AE r (De (λi j=>decide (DO ws i<DO ws j)) (ws.map IE.v)),AE u (ws.map IE.v),Hm k (HS B) Bk cd,EA cd CH Bk x,BU ws]
 ok:=by
  have hl:(ws.map IE.v).length=ws.length:=AD _;exact AC.weaken (M_ (A:=A) O U.l ADj ADj (nC (A:=A.in1.in1) O (U.le (ADm:30+1+1<=74)).in1.in1 k cd x ws hw) u ⟨(),By _⟩) λr=>⟨r.1,rfl,λR s S=>S⟩
def Iw(B:Bx)(i:Nat):Stmt:=((A4 B.P 322).drop i).headD Au
def so1(B:Bx):Expr:=el (vE (Iw B 17)) 0
def so2(B:Bx):Expr:=el (vE (Iw B 17)) 1
theorem qk(U:AA 90 A)(L n s t u:Nat)(K:LC)(ar:Addr)(q:KZ)(ws:List IE)(hw: ∀e∈ws,e.ys.length<=1000)(h2:2<=ws.length)(NK:ws.length<64):
 AC B.C A (Bf (so1 B) (Fi B K L)) ((AI L (Fg ar n s t++[(Cc,J u),(Eu,J q.z.x.a)])::AE u (ws.map IE.v)::BU ws::CX B q))
  (λr:Nat=>J r)
  (λr=>((AE r (De (λi j=>decide (EY (Ft ws i) (Ft ws j)<0)) (ws.map IE.v))::AI L (Fg ar n s t++[(Cc,J u),(Eu,J q.z.x.a)])::AE u (ws.map IE.v)::[BU ws]))):=Jj O U (.g 17043456<|.cc (cH O U.l u q ws hw h2 NK) [1,1,1,1,1,1,1,1,1,1,1,1] λy0=>.fi (y0) [0,12,0,0])
abbrev sx(k2 fl fg ft tb x y z k6 k7:Nat):Ak:=[.str RA k2,.int (fl:Int) 0,.int 1 0,.int 0 0,.int 0 0,.int (fg:Int) 0,J ft,.bool true,.int 276 0,J tb,.none,J x,J y,J z,.int (k6:Int) 0,.int (fl:Int) 0,.str RA k7]
theorem ql(U:AA 90 A)(L n s t u k cd:Nat)(K:LC)(ar:Addr)(ws:List IE)(hw: ∀e∈ws,e.ys.length<=1000/\2<=e.ys.length)(h2:2<=ws.length)(NK:ws.length<64):
 AC B.C A (Bf (so2 B) (Fi B K L)) [AI L (Fg ar n s t++[(Cc,J u),(Eu,J k)]),AE u (ws.map IE.v),BU ws,VG cd] (λr:Nat×Nat=>J r.1)
  (λr=>[AE r.1 (De (λi j=>decide (DO ws i<DO ws j)) (ws.map IE.v)),AI L (Fg ar n s t++[(Cc,J u),(Eu,J k)]),AE u (ws.map IE.v),BU ws,WI cd r.2]):=by
 obtain⟨w9,b1,b2,s9,zG,mu9,gn9⟩:=B;cases b1
 ·exact Ga O U.1 (.g 1140854784<|.fr λk0=>.fr λk1=>.fr λk2=>.al λa3=>.al λa4=>.fr λk5=>.al λa6=>.al λa7=>.al λa8=>.fr λk9=>.fr λH9=>.al λaY=>.g 68719520330<|.al λIF=>
  .cc (TH O U.l u IF aY ⟨k0,k1,sx k2 279 19 a3 a4 a6 a7 a8 k9 H9⟩ ws hw h2 NK) [8,0,0,6] λ(y:Nat)=>.fi (y,aY) [0,9,0,2,7]) ADk
 ·exact Ga O U.1 (.g 1140854784<|.fr λk0=>.fr λk1=>.fr λk2=>.al λa3=>.al λa4=>.fr λk5=>.al λa6=>.al λa7=>.al λa8=>.fr λk9=>.fr λH9=>.al λaY=>.g 68719520330<|.al λIF=>
  .cc (TH O U.l u IF aY ⟨k0,k1,sx k2 279 19 a3 a4 a6 a7 a8 k9 H9⟩ ws hw h2 NK) [8,0,0,6] λ(y:Nat)=>.fi (y,aY) [0,9,0,2,7]) ADk
abbrev lw:Stmt->Expr:=vE
abbrev uI:Stmt->Dx:=O5
abbrev uJ:Stmt->Pos:=oI
abbrev Yd(e:Expr):Expr:=el e 1
abbrev gC(e:Expr):Expr:=el e 0
abbrev i4:Expr->Expr:=o0
abbrev ya:Expr->Nat->Expr:=el
abbrev jk(B:Bx)(i:Nat):Expr:=ya (lw (Iw B 11)) i
abbrev Mv(B:Bx)(i:Nat):Expr:=ya (lw (Iw B 14)) i
omit O
theorem nZ(B:Bx):Gv B 11 1=[.If (.BoolOp .Or [.Compare OM [.NotEq] [Yd (jk B 0)] (U2 (jk B 0)),.Compare ON [.NotEq] [Yd (jk B 1)] (U2 (jk B 1))] (U2 (lw (Iw B 11)))) (uI (Iw B 11)) [] (uJ (Iw B 11))]:=by kernel_rfl
theorem nb(B:Bx):Gv B 14 1=[.If (.BoolOp .Or [.Compare (gC (Mv B 0)) [.NotEq] [Yd (Mv B 0)] (U2 (Mv B 0)),.Compare (gC (Mv B 1)) [.NotEq] [Yd (Mv B 1)] (U2 (Mv B 1)),.UnaryOp .Not (i4 (Mv B 2)) (U2 (Mv B 2)),.UnaryOp .Not (i4 (Mv B 3)) (U2 (Mv B 3))] (U2 (lw (Iw B 14)))) (uI (Iw B 14)) [] (uJ (Iw B 14))]:=by kernel_rfl
theorem nc(B:Bx):Gv B 17 1=[.If (.Compare (so1 B) [.NotEq] [so2 B] (U2 (lw (Iw B 17)))) (uI (Iw B 17)) [] (uJ (Iw B 17))]:=by kernel_rfl
include O
theorem rq(U:AA 10 A)(L n s t:Nat)(K:LC)(ar:Addr):
 AS B A (Bf (Yd (jk B 0)) (Fi B K L)) [AI L (Fg ar n s t)] (J t) [AI L (Fg ar n s t)]:=
 H_ O U (.g 65<|.fi () [0])
theorem rr(U:AA 10 A)(L n s t:Nat)(K:LC)(ar:Addr):
 AS B A (Bf (Yd (jk B 1)) (Fi B K L)) [AI L (Fg ar n s t)] (J t) [AI L (Fg ar n s t)]:=
 H_ O U (.g 65<|.fi () [0])
theorem v3(U:AA 10 A)(L w:Nat)(K:LC):
 AS B A (Bf (gC (Mv B 0)) (Fi B K L)) [AW K.wa (J w)] (J w) [AW K.wa (J w)]:=
 H_ O U (.g 65<|.fi () [0])
theorem vz(U:AA 10 A)(L w:Nat)(K:LC):
 AS B A (Bf (Yd (Mv B 0)) (Fi B K L)) [AW K.du (J w)] (J w) [AW K.du (J w)]:=
 H_ O U (.g 65<|.fi () [0])
theorem v2(U:AA 10 A)(L w:Nat)(K:LC):
 AS B A (Bf (gC (Mv B 1)) (Fi B K L)) [AW K.ot (J w)] (J w) [AW K.ot (J w)]:=
 H_ O U (.g 65<|.fi () [0])
theorem vy(U:AA 10 A)(L w:Nat)(K:LC):
 AS B A (Bf (Yd (Mv B 1)) (Fi B K L)) [AW K.be (J w)] (J w) [AW K.be (J w)]:=
 H_ O U (.g 65<|.fi () [0])
theorem iS(U:AA 70 A)(L w:Nat)(K:LC)(al:BC)(es:List IE)(hK:C8 A [L])(h:RI es):
 AS B A (isTrue (i4 (Mv B 2)) (Fi B K L) (Bf (i4 (Mv B 2)) (Fi B K L))) [AW K.wa (J w),AE w (es.map IE.v),AI L al,BU es] true [AW K.wa (J w),AE w (es.map IE.v),AI L al,BU es]:=Xk O U (.g 262208<|.cc (b5 O U.l w L al es hK h) [1,1,1] λYa=>.fi () [3,0,0,0])
theorem dR(U:AA 70 A)(L w o:Nat)(K:LC)(al:BC)(es fs:List IE)(hK:C8 A [L])(h:VI es fs):
 AS B A (isTrue (i4 (Mv B 3)) (Fi B K L) (Bf (i4 (Mv B 3)) (Fi B K L))) [AW K.wa (J w),AW K.ot (J o),AE w (es.map IE.v),AE o (fs.map IE.v),AI L al,BU fs,BU es] true [AW K.wa (J w),AW K.ot (J o),AE w (es.map IE.v),AE o (fs.map IE.v),AI L al,BU fs,BU es]:=Xk O U (.g 16785472<|.cc (Yh O U.l w o L al es fs hK h) [2,2,2,2,2] λYa=>.fi () (5::5::BW 5))
omit O
theorem ij(ks:List Str)(h: ∀x∈ks,x.cps.all (· <0x110000)=true):(Nw (ks.map HL)).canLay0=true/\(Nw (ks.map HL)).depth<=64:=by
 obtain⟨h1,h2⟩:=Vu ks h;exact⟨by simp only[En];exact h1,by simp only[Fl];lia⟩
theorem St.sG{C:Cx}{L:AN}{s:Af}(S:St C L s){a:Nat}{ks:Db}{l:List Str}(e:ks.map (·.1)=l)(hp:(a+323,AO.ls (.type "list") none (ks.map rv))∈Ao L):Gl s.heap (J a) (.list (l.map HL)):=e▸S.list hp (ev _ _)
theorem St.io{C:Cx}{L:AN}{s:Af}(S:St C L s){a:Nat}{es:List IE}{l:List Ay}(e:es.map IE.ns=l)(hp:(a+323,AO.ls (.type "list") none (es.map IE.v))∈Ao L)(he: ∀e∈es,e.p∈Ao L):Gl s.heap (J a) (.list (l.map Jd)):=by
 have:=S.ll hp he
 rw[<-e,CK];exact this
theorem iw{L:AN}{e:Bi}(h:e∈L){p:Addr×AO}(hp:p∈e.flat):p∈Ao L:=by
 induction L with
 |nil=>cases h
 |cons x r ih=>
  rcases List.mem_cons.mp h with rfl|h
  ·exact Ar _ hp
  ·exact Ax _ (ih h)
theorem nk{L:AN}{es:List IE}(h:BU es∈L): ∀e∈es,e.p∈Ao L:=λe he=>iw h (CB he)
theorem Zt{L:AN}{es:List IE}(i:Nat)(h:L[i]? =some (BU es)): ∀e∈es,e.p∈Ao L:=nk (B4 h)
include O
theorem vg(U:AA 60 A){L n s t b c:Nat}{K:LC}{ar:Addr}{es fs:List SE}{ts:Db}(h0:es≠[])(g0:fs≠[])(hl:es.length<=1000)(gl:fs.length<=1000)(hf: ∀e∈es,JE (SE.rows e))(gf: ∀e∈fs,JE (SE.rows e))
 (h1:es.map (λe=>BB eS (SE.rows e))=ts.map (·.1)) (h2:fs.map (λe=>BB eS (SE.rows e))=ts.map (·.1)) (hx: ∀x∈ts.map (·.1),x.cps.all (· <0x110000)=true):
 AC B.C A (Ac (Gv B 11 1) (Fi B K L)) [AI L (Fg ar n s t),AE t (ts.map rv),AW K.ba (J b),AE b (es.map SE.v),DB es,AW K.na (J c),AE c (fs.map SE.v),DB fs] (λYa:Unit=>.next)
  (λYa=>[AI L (Fg ar n s t),AE t (ts.map rv),AW K.ba (J b),AE b (es.map SE.v),DB es,AW K.na (J c),AE c (fs.map SE.v),DB fs]):=by
 obtain⟨l1,l2⟩:=ij (ts.map (·.1)) hx;rw[nZ];refine AC.one (AC.ML (b:=false) (AC.Iu (AC.O4 (led1:=λYa:X3 es×Nat=>[AI L (Fg ar n s t),AE t (ts.map rv),AW K.ba (J b),AE b (es.map SE.v),DB es,AW K.na (J c),AE c (fs.map SE.v),DB fs]) ?_ λYa=>
  AC.O4 (led1:=λYa:X3 fs×Nat=>[AI L (Fg ar n s t),AE t (ts.map rv),AW K.ba (J b),AE b (es.map SE.v),DB es,AW K.na (J c),AE c (fs.map SE.v),DB fs]) ?_ λYa=>AC.eF)) λYa=>AC.nil)
 ·refine(AC.Fh (led2:=λ(q:Nat×X3 es) (_:Unit)=>[AI L (Fg ar n s t),AE q.1 (q.2.ks.map rv),AW K.ba (J b),AE b (es.map SE.v),DB es,AE t (ts.map rv),AW K.na (J c),AE c (fs.map SE.v),DB fs])
   (((uD O U.l L b K es h0 hl hf).frame [AI L (Fg ar n s t),AE t (ts.map rv),AW K.na (J c),AE c (fs.map SE.v),DB fs]).ix (2::2::2::BW 5) rfl)
   (λq=>(((rq O U.l L n s t K ar).frame [AE q.1 (q.2.ks.map rv),AW K.ba (J b),AE b (es.map SE.v),DB es,AE t (ts.map rv),AW K.na (J c),AE c (fs.map SE.v),DB fs]).ix (4::BW 8) rfl))
   (λq _=>Jl (d:=.list ((ts.map (·.1)).map HL)) (AA.Ov (n:=20) U.l) l1 l2 λR s S=>⟨S.sG (q.2.ok.trans h1) (IM 1 rfl),S.sG rfl (IM 5 rfl)⟩) rfl).weaken λp=>⟨(p.1.2,p.1.1),rfl,pk [0,4,1,1,1,1,1,1] rfl⟩
 ·refine(AC.Fh (led2:=λ(q:Nat×X3 fs) (_:Unit)=>[AI L (Fg ar n s t),AE q.1 (q.2.ks.map rv),AW K.na (J c),AE c (fs.map SE.v),DB fs,AE t (ts.map rv),AW K.ba (J b),AE b (es.map SE.v),DB es])
   (((uF O U.l L c K fs g0 gl gf).frame [AI L (Fg ar n s t),AE t (ts.map rv),AW K.ba (J b),AE b (es.map SE.v),DB es]).ix (5::5::5::BW 5) rfl)
   (λq=>(((rr O U.l L n s t K ar).frame [AE q.1 (q.2.ks.map rv),AW K.na (J c),AE c (fs.map SE.v),DB fs,AE t (ts.map rv),AW K.ba (J b),AE b (es.map SE.v),DB es]).ix (4::BW 8) rfl))
   (λq _=>Jl (d:=.list ((ts.map (·.1)).map HL)) (AA.Ov (n:=20) U.l) l1 l2 λR s S=>⟨S.sG (q.2.ok.trans h2) (IM 1 rfl),S.sG rfl (IM 5 rfl)⟩) rfl).weaken λp=>⟨(p.1.2,p.1.1),rfl,pk [0,4,4,4,4,1,1,1] rfl⟩
abbrev NV(L w o du be:Nat)(K:LC)(al:BC)(es fs ds bs:List IE):AN:=[AW K.wa (J w),AW K.ot (J o),AE w (es.map IE.v),AE o (fs.map IE.v),AI L al,BU fs,BU es,AW K.du (J du),AE du (ds.map IE.v),BU ds,AW K.be (J be),AE be (bs.map IE.v),BU bs]
theorem vh(U:AA 80 A){L w o du be:Nat}{K:LC}{al:BC}{es fs ds bs:List IE}(hK:C8 A [L])(hp:RI es)(hb:VI es fs)(h1:es.map IE.ns=ds.map IE.ns)(h2:fs.map IE.ns=bs.map IE.ns):
 AC B.C A (Ac (Gv B 14 1) (Fi B K L)) (NV L w o du be K al es fs ds bs) (λYa:Unit=>.next) (λYa=>NV L w o du be K al es fs ds bs):=by
 rw[nb];obtain⟨l1,l2⟩:=Xa (ds.map IE.ns);obtain⟨l3,l4⟩:=Xa (bs.map IE.ns);refine AC.one (AC.ML (b:=false) (AC.Iu (AC.O4 (led1:=λYa:Unit=>NV L w o du be K al es fs ds bs) ?_ λYa=>
  AC.O4 (led1:=λYa:Unit=>NV L w o du be K al es fs ds bs) ?_ λYa=>AC.O4 (led1:=λYa:Unit=>NV L w o du be K al es fs ds bs) ?_ λYa=>AC.O4 (led1:=λYa:Unit=>NV L w o du be K al es fs ds bs) ?_ λYa=>AC.eF)) λYa=>AC.nil)
 ·refine(AC.Fh (led2:=λ(_:Unit) (_:Unit)=>NV L w o du be K al es fs ds bs)
   ((v3 O U.l L w K).frame [AW K.ot (J o),AE w (es.map IE.v),AE o (fs.map IE.v),AI L al,BU fs,BU es,AW K.du (J du),AE du (ds.map IE.v),BU ds,AW K.be (J be),AE be (bs.map IE.v),BU bs])
   (λYa=>(((vz O U.l L du K).frame [AW K.wa (J w),AW K.ot (J o),AE w (es.map IE.v),AE o (fs.map IE.v),AI L al,BU fs,BU es,AE du (ds.map IE.v),BU ds,AW K.be (J be),AE be (bs.map IE.v),BU bs]).ix (7::BW 12) rfl).ox [1,1,1,1,1,1,1,0,0,0,0,0,0] λYa=>rfl)
   (λYa Ya=>Jl (d:=.list ((ds.map IE.ns).map Jd)) (AA.Ov (n:=20) U.l) l1 l2 λR s S=>⟨S.io h1 (IM 2 rfl) (Zt 6 rfl),S.io rfl (IM 8 rfl) (Zt 9 rfl)⟩) rfl).weaken λp=>⟨(),rfl,λR s S=>S⟩
 ·refine(AC.Fh (led2:=λ(_:Unit) (_:Unit)=>NV L w o du be K al es fs ds bs)
   ((((v2 O U.l L o K).frame [AW K.wa (J w),AE w (es.map IE.v),AE o (fs.map IE.v),AI L al,BU fs,BU es,AW K.du (J du),AE du (ds.map IE.v),BU ds,AW K.be (J be),AE be (bs.map IE.v),BU bs])).ix (1::BW 12) rfl)
   (λYa=>(((vy O U.l L be K).frame [AW K.wa (J w),AW K.ot (J o),AE w (es.map IE.v),AE o (fs.map IE.v),AI L al,BU fs,BU es,AW K.du (J du),AE du (ds.map IE.v),BU ds,AE be (bs.map IE.v),BU bs]).ix (10::1::BW 11) rfl).ox [1,1,1,1,1,1,1,1,1,1,0,0,0] λYa=>rfl)
   (λYa Ya=>Jl (d:=.list ((bs.map IE.ns).map Jd)) (AA.Ov (n:=20) U.l) l3 l4 λR s S=>⟨S.io h2 (IM 3 rfl) (Zt 5 rfl),S.io rfl (IM 11 rfl) (Zt 12 rfl)⟩) rfl).weaken λp=>⟨(),rfl,λR s S=>S⟩
 ·refine AC.Tf (b:=true) ((((iS O U.l L w K al es hK hp).frame [AW K.ot (J o),AE o (fs.map IE.v),BU fs,AW K.du (J du),AE du (ds.map IE.v),BU ds,AW K.be (J be),AE be (bs.map IE.v),BU bs]).ix [0,1,2,3,0,0,0,0,0,0,0,0,0] rfl).ox [0,3,0,2,0,1,0,0,0,0,0,0,0] λYa=>rfl)
 ·exact AC.Tf (b:=true) ((dR O U.l L w o K al es fs hK hb).frame [AW K.du (J du),AE du (ds.map IE.v),BU ds,AW K.be (J be),AE be (bs.map IE.v),BU bs])
def cX(ws:List IE):Value->PyData
 |.ref a=>(match ws.find? (λe=>e.a+323==a) with|some e=>Jd (ns e.ys)|none=>.none)
 |_=>.none
omit O
theorem Xo{C:Cx}{L:AN}{s:Af}(S:St C L s){ws:List IE}(hw: ∀e∈ws,e.p∈Ao L): ∀l:Ak,(∀v∈l,v=.none∨ ∃e∈ws,v=e.v)->Oa (Gl s.heap) l (l.map (cX ws))
 |[],_=>.nil
 |v::l,h=>by
  refine .cons ?_ (Xo S hw l λu hu=>h u (.tail _ hu))
  rcases h v (.head _) with rfl|⟨e,he,rfl⟩
  ·exact⟨_,.none⟩
  ·show Gl _ (.ref (e.a+323)) (match ws.find? (λx=>x.a+323==e.a+323) with|some e=>Jd (ns e.ys)|none=>.none)
   cases hf:ws.find? (λx=>x.a+323==e.a+323) with
   |none=>
    have:=List.find?_eq_none.mp hf e he
    simp at this
   |some x=>
    have hx:=List.mem_of_find?_eq_some hf;have dP:=List.find?_some hf;have zc:x.a+323=e.a+323:=by simpa using dP
    show Gl _ (.ref (e.a+323)) (Jd (ns x.ys));rw[<-zc];exact S.il (hw x hx)
theorem Zs(ws:List IE): ∀l:Ak,DQ (l.map (cX ws))=true/\D2 (l.map (cX ws))<=1
 |[]=>⟨rfl,By _⟩
 |v::l=>by
  obtain⟨h1,h2⟩:=Zs ws l;have h:(cX ws v).canLay0=true/\(cX ws v).depth<=1:=by
   unfold cX
   split
   ·split
    ·exact⟨(SR _).1,Ge (SR _).2⟩
    ·exact⟨rfl,By _⟩
   ·exact⟨rfl,By _⟩
  refine⟨by simp only[Aw,DQ,h1,h.1,Kp],?_⟩
  simp only[Aw,D2];exact Nat.max_le.mpr ⟨h.2,h2⟩
theorem UC{lt:Nat->Nat->Bool}{ws:List IE}: ∀v∈De lt (ws.map IE.v),v=.none∨ ∃e∈ws,v=e.v:=λv hv=>by
 unfold De at hv;obtain⟨i,_,rfl⟩:=List.mem_map.mp hv;rw[Ad,AQ];cases h:ws[i]? with
 |none=>exact .inl rfl
 |some e=>exact .inr ⟨e,B4 h,rfl⟩
include O
theorem vm(U:AA 96 A){L n s t u:Nat}{K:LC}{ar:Addr}{q:KZ}{ws:List IE}(hw: ∀e∈ws,e.ys.length<=1000/\2<=e.ys.length)(h2:2<=ws.length)(NK:ws.length<64)
 (IP: ∀i j,i<ws.length->j<ws.length->decide (EY (Ft ws i) (Ft ws j)<0)=decide (DO ws i<DO ws j)):
 AC B.C A (Ac (Gv B 17 1) (Fi B K L)) (AI L (Fg ar n s t++[(Cc,.ref (u+323)),(Eu,.ref (q.z.x.a+323))])::AE u (ws.map IE.v)::BU ws::VG q.cd::CX B q) (λYa:Nat=>.next)
  (λc:Nat=>[AI L (Fg ar n s t++[(Cc,.ref (u+323)),(Eu,.ref (q.z.x.a+323))]),BU ws,WI q.cd c]):=by
 have hl:(ws.map IE.v).length=ws.length:=AD _;have e1:=qk O U.l L n s t u K ar q ws (λe he=>(hw e he).1) h2 NK;have heq:De (λi j=>decide (EY (Ft ws i) (Ft ws j)<0)) (ws.map IE.v)=De (λi j=>decide (DO ws i<DO ws j)) (ws.map IE.v):=
  Xr ADj λi j hi hj=>IP i j ADj ADj
 rw[heq] at e1;obtain⟨l1,l2⟩:=Zs ws (De (λi j=>decide (DO ws i<DO ws j)) (ws.map IE.v));rw[nc];refine AC.one (AC.ML (b:=false) (led1:=λc:Nat=>[AI L (Fg ar n s t++[(Cc,.ref (u+323)),(Eu,.ref (q.z.x.a+323))]),BU ws,WI q.cd c]) ?_ λc=>AC.weaken AC.nil λYa=>⟨c,rfl,λR s S=>S⟩);refine AC.weaken (AC.Fh (led1:=λr:Nat=>[AE r (De (λi j=>decide (DO ws i<DO ws j)) (ws.map IE.v)),AI L (Fg ar n s t++[(Cc,.ref (u+323)),(Eu,.ref (q.z.x.a+323))]),AE u (ws.map IE.v),BU ws,VG q.cd])
  (led2:=λ(r:Nat) (r':Nat×Nat)=>[AE r'.1 (De (λi j=>decide (DO ws i<DO ws j)) (ws.map IE.v)),AI L (Fg ar n s t++[(Cc,.ref (u+323)),(Eu,.ref (q.z.x.a+323))]),AE u (ws.map IE.v),BU ws,WI q.cd r'.2,AE r (De (λi j=>decide (DO ws i<DO ws j)) (ws.map IE.v))])
  (((e1.frame [VG q.cd]).pre λR s' S=>S.perm ?_))
  (λr=>(((ql O U.l L n s t u q.z.x.a q.cd K ar ws hw h2 NK).frame [AE r (De (λi j=>decide (DO ws i<DO ws j)) (ws.map IE.v))]).ix [1,1,1,1,0] rfl))
  (λr r'=>Jl (d:=.list ((De (λi j=>decide (DO ws i<DO ws j)) (ws.map IE.v)).map (cX ws))) (AA.Ov (n:=20) U.l) (by simp only[En];exact l1) (by simp only[Fl];lia) λR s S=>
   ⟨S.list (IM 5 rfl) (Xo S (Zt 3 rfl) _ UC),S.list (IM 0 rfl) (Xo S (Zt 3 rfl) _ UC)⟩) rfl) λp=>⟨p.2.2,rfl,pk [1,2,2] rfl⟩
 show(AI L (Fg ar n s t++[(Cc,.ref (u+323)),(Eu,.ref (q.z.x.a+323))])::AE u (ws.map IE.v)::BU ws::VG q.cd::(CX B q++R)).Perm (AI L (Fg ar n s t++[(Cc,.ref (u+323)),(Eu,.ref (q.z.x.a+323))])::AE u (ws.map IE.v)::BU ws::(CX B q++[VG q.cd])++R)
 generalize CX B q=Z
 refine .cons _ (.cons _ (.cons _ ?_))
 show(VG q.cd::(Z++R)).Perm ((Z++[VG q.cd])++R)
 rw[AG];exact List.perm_middle.symm
abbrev xS:Stmt->Expr:=vE
abbrev reP:Stmt->Pos:=oI
def Tl:Expr:=el (vE (sN 29 20)) 1
def NR:Expr:=o0 (el (vE (sN 29 20)) 1)
abbrev rX(K:LC)(c L D:Nat):Env:=Gm Tl [(BA,c+323),(po,K.du+323),(RB,K.be+323)] L D
abbrev Tk(K:LC)(c L D:Nat):Env:=Gm NR [(RB,K.be+323),(BA,c+323)] L D
theorem rY(U:AA 6 A)(K:LC)(c L D j k:Nat)(o:DP):
 AS B A (Bo (Cp Tl) (rX K c L D) (.int (j:Int) k)) [C3 c o] () [AW c (.int (j:Int) k)]:=
 Ef O U (.g 6145<|.fi () [0])
theorem nD(U:AA 6 A)(K:LC)(c L D j k:Nat):
 AS B A (Bo (Cp NR) (Tk K c L D) (.int (j:Int) k)) [As D []] () [As D [(BD,.int (j:Int) k)]]:=
 Ef O U (.fr λk0=>.g 6145<|.fi () [0])
theorem nE(U:AA 6 A)(K:LC)(c L D j k i m:Nat):
 AS B A (Bo (Cp NR) (Tk K c L D) (.int (j:Int) k)) [As D [(BD,.int (i:Int) m)]] () [As D [(BD,.int (j:Int) k)]]:=
 Ef O U (.fr λk0=>.g 6145<|.fi () [0])
theorem rW(U:AA 6 A)(K:LC)(c L D v k:Nat):
 AS B A (Bf (DL NR) (Tk K c L D)) [As D [(BD,.int (v:Int) k)]] (Be (v:Int) k) [As D [(BD,.int (v:Int) k)]]:=
 H_ O U (.g 65<|.fi () [0])
theorem zo(U:AA 6 A)(K:LC)(c L D v k j t b y:Nat)(bs:Ak)(ys:Aa)(hl:bs.length<=1000)(hx:bs[j]? =some (J y))(h1:v∉ns ys):
 AS B A (isTrue (C9 NR) (Tk K c L D) (Bf (C9 NR) (Tk K c L D))) [As D [(BD,.int (v:Int) k)],AW c (.int (j:Int) t),AW K.be (J b),AE b bs,AF y ys] false [As D [(BD,.int (v:Int) k)],AW c (.int (j:Int) t),AW K.be (J b),AE b bs,AF y ys]:=Xk O U (.g 73082609857<|.cc (BZ O U.l b j t bs (J y) hx hl) [3] λYa=>.g 4421<|.cc (ND _ _ U.l y v k ys h1) [4] λYa=>.fi () [2,2,2,1,0])
theorem zp(U:AA 6 A)(K:LC)(c L D v k j t b y:Nat)(bs:Ak)(ys:Aa)(hl:bs.length<=1000)(hx:bs[j]? =some (J y))(h1:v∈ns ys):
 AS B A (isTrue (C9 NR) (Tk K c L D) (Bf (C9 NR) (Tk K c L D))) [As D [(BD,.int (v:Int) k)],AW c (.int (j:Int) t),AW K.be (J b),AE b bs,AF y ys] true [As D [(BD,.int (v:Int) k)],AW c (.int (j:Int) t),AW K.be (J b),AE b bs,AF y ys]:=Xk O U (.g 73082609857<|.cc (BZ O U.l b j t bs (J y) hx hl) [3] λYa=>.g 4421<|.cc (Ps _ _ U.l y v k ys h1) [4] λYa=>.fi () [2,2,2,1,0])
theorem nF(U:AA 6 A)(K:LC)(c L D v k j t b y:Nat)(bs:Ak)(ys:Aa)(hl:bs.length<=1000)(hx:bs[j]? =some (J y)):
 AC B.C A (isTrue (C9 NR) (Tk K c L D) (Bf (C9 NR) (Tk K c L D))) [As D [(BD,.int (v:Int) k)],AW c (.int (j:Int) t),AW K.be (J b),AE b bs,AF y ys] (λYa:Unit=>decide (v∈ns ys)) (λYa=>[As D [(BD,.int (v:Int) k)],AW c (.int (j:Int) t),AW K.be (J b),AE b bs,AF y ys]):=by
 by_cases h:v∈ns ys
 ·rw[decide_eq_true h]
  have e:=zp O U K c L D v k j t b y bs ys hl hx h;exact e
 ·rw[decide_eq_false h]
  exact zo O U K c L D v k j t b y bs ys hl hx h
structure eE(bs:Ak)(j y:Nat):Prop where
 get:bs[j]? =some (J y)
def ky(U:AA 7 A)(K:LC)(L D c a acc x y j t b:Nat)(bs:Ak)(xs ys:Aa)(hl:xs.length<=900)(h0:xs≠[])(uZ:bs.length<=1000)(hy:eE bs j y):Ag B.C A where
 c:=.compStart NR 0 (J a) (J acc) (Tk K c L D)
 F:=[As D [],AE acc [],BQ a x 0,AF x xs,AW c (.int (j:Int) t),AW K.be (J b),AE b bs,AF y ys]
 X:=Qj ((ns xs).filter λv=>decide (v∈ns ys))
 res:=λYa=>.ok .next
 led:=λq=>[As D [(BD,.int (q.k:Int) q.t)],AF acc q.ys,AF x xs,AW c (.int (j:Int) t),AW K.be (J b),AE b bs,AF y ys]
 ok:=by
  have hlen:(ns xs).length=xs.length:=AD _;have h:=Io (B:=B) (A:=A) (elt:=DL NR) (ifs:=[C9 NR]) (iter:=Hf NR) (x0:=BD) (p0:=(Cp NR).pos) (sc:=Gh NR) (pos:=NR.pos) (env:=Tk K c L D) (D:=D) (acc:=acc) (a:=a) (c:=x) (G:=[AW c (.int (j:Int) t),AW K.be (J b),AE b bs,AF y ys]) (xs:=xs) (f:=Je (ns xs) λv=>decide (v∈ns ys)) O U
   (NN _ _) (λj hj=>K2 ADj) ADj h0
   (λA' h j k l hl=>by
    rcases hl with rfl|⟨i,m,rfl⟩
    ·exact nD O h K c L D j k
    ·exact nE O h K c L D j k i m)
   (λA' h i v k hx=>Nl hx (((nF O h K c L D v k j t b y bs ys uZ hy.get).frame [AF x xs]).pre (pk [0,1,1,1,1,0] rfl)|>.ox (0::4::BW 4) λYa=>rfl) (by
    exact(rW O h K c L D v k).frame _))
  rw[<-hlen,Nn] at h;exact h
theorem rZ(U:AA 20 A)(K:LC)(c L D j t d b x y:Nat)(ds bs:Ak)(xs ys:Aa)(hl:ds.length<=1000)(hx:ds[j]? =some (J x))(hxl:xs.length<=900)(h0:xs≠[])(uZ:bs.length<=1000)(hy:eE bs j y):
 AC B.C A (Bf (DL Tl) (rX K c L D)) [AW c (.int (j:Int) t),AW K.du (J d),AW K.be (J b),AE d ds,AE b bs,AF x xs,AF y ys]
  (λq:Nat×Qj ((ns xs).filter λv=>decide (v∈ns ys))=>J q.1)
  (λq=>[AW c (.int (j:Int) t),AF q.1 q.2.ys,AW K.du (J d),AW K.be (J b),AE d ds,AE b bs,AF x xs,AF y ys]):=by
 obtain⟨_,_|_⟩:=B<;>exact H_ O U (.g 1141915714<|.cc (BZ O U.l d j t ds (J x) hx hl) [3] λYa=>.g 4486<|.cc (Bt O U.l x (xs.map iv)) [5] λy1=>.g 65<|.al λa2=>.al λa3=>.cc (ky O U.l K L a3 c y1 a2 x y j t b bs xs ys hxl h0 uZ hy) [0,0,0,0,1,2,2,2] λy4=>.g 393281<|.fi (a2,y4) [3,1,6,2,4,2,1,1])
def lA(U:AA 31 A)(K:LC)(L D s c a acc d b:Nat)(f1 f2:Nat->Ay)(es fs:List IE)(ss:Aa)(m:Nat)(hs:ns ss=Ah m)(hm:m<=1000)(F5:m≠0)(TY:es.map IE.ns=(Ah m).map f1)(TZ:fs.map IE.ns=(Ah m).map f2)(Td: ∀j,j<m->f1 j≠[]/\(f1 j).length<=900):Ag B.C A where
 c:=.compStart Tl 0 (J a) (J acc) (rX K c L D)
 F:=[C3 c none,AE acc [],BQ a s 0,AF s ss,AW K.du (J d),AW K.be (J b),AE d (es.map IE.v),AE b (fs.map IE.v),BU es,BU fs]
 X:=WO (λj=>(f1 j).filter λv=>decide (v∈f2 j)) m
 res:=λYa=>.ok .next
 led:=λq=>[AW c (.int (q.k:Int) q.t),AE acc (q.es.map IE.v),AF s ss,BU q.es,AW K.du (J d),AW K.be (J b),AE d (es.map IE.v),AE b (fs.map IE.v),BU es,BU fs]
 ok:=by
  have u9:=Ee TY;have XS:=Ee TZ;have hl1:(es.map IE.v).length=es.length:=AD _;have Mq:(fs.map IE.v).length=fs.length:=AD _;have h:=D_ (B:=B) (A:=A) (elt:=DL Tl) (iter:=Hf Tl) (x0:=BA) (p0:=(Cp Tl).pos) (sc:=Gh Tl) (pos:=Tl.pos) (env:=rX K c L D) (dv:=λl=>C3 c (l.head?.map (·.2))) (acc:=acc) (a:=a) (c:=s) O (ADj:6<=30) U (E:=IE) IE.v (λe=>[IE.p e]) (λj e=>IE.ns e=(f1 j).filter λv=>decide (v∈f2 j)) (λYa:Unit=>[AW K.du (J d),AW K.be (J b),AE d (es.map IE.v),AE b (fs.map IE.v),BU es,BU fs]) (ss:=ss) (n:=m) hs
   (λA' h j k l hl=>by
    exact rY O h K c L D j k (l.head?.map (·.2)))
   (λA' SF B8 j hj k _=>by
    have hx:es[j]? =some es[j]:=AJ ADj
    have hy:fs[j]? =some fs[j]:=AJ ADj
    have q1:=Hn TY hx;have q2:=Hn TZ hy;obtain⟨r1,r2⟩:=Td j hj;have l1:es[j].ys.length<=900:=by rw[<-q1] at r2;unfold IE.ns Mine.ns at r2;rwa [AD] at r2
    have l0:es[j].ys≠[]:=λe=>r1 (by rw[<-q1];unfold IE.ns;rw[e];rfl)
    have g:=rZ O (B8.le (ADj:20<=30)) K c L D j k d b es[j].a fs[j].a (es.map IE.v) (fs.map IE.v) es[j].ys fs[j].ys ADj (by rw[AQ,hx];rfl) l1 l0 ADj ⟨by rw[AQ,hy];rfl⟩
    refine AC.weaken (AC.ni (P:=[_,_,_,_,_]) (Q:=λq:Nat×Qj _=>[_,_,_,_,_,_]) hx hy g) λq=>⟨(⟨⟨q.1,q.2.ys⟩,q.2.ok.trans (by rw[<-q1,<-q2])⟩,()),rfl,λR s S=>S.BV (.refl _)⟩) hm () F5
  exact AC.weaken h λy=>⟨⟨y.1.1.es,F2 (g:=IE.ns) y.1.1,y.2.1,y.2.2⟩,rfl,λR s S=>S.BV (by
   simp only[An,Ao,Bi.flat,Ey,Ex,Aj,Al];exact .refl _)⟩
theorem uG(U:AA 60 A)(L s du be m:Nat)(K:LC)(al:BC)(ar:Addr)(n:Nat)(f1 f2:Nat->Ay)(es fs:List IE)(ss:Aa)(hs:ns ss=Ah m)(hm:m<=1000)(F5:m≠0)(TY:es.map IE.ns=(Ah m).map f1)(TZ:fs.map IE.ns=(Ah m).map f2)(Td: ∀j,j<m->f1 j≠[]/\(f1 j).length<=900):
 AC B.C A (Bf Tl (Fi B K L)) ((AI L ([(Cb,.ref ar),(CZ,J n),(Gb,J s)]++al)::AF s ss::AW K.du (J du)::AW K.be (J be)::AE du (es.map IE.v)::AE be (fs.map IE.v)::[BU es,BU fs]))
  (λq:Nat×WO (λj=>(f1 j).filter λv=>decide (v∈f2 j)) m=>J q.1)
  (λq=>((AE q.1 (q.2.es.map IE.v)::[BU q.2.es]))):=by
 obtain⟨_,_|_⟩:=B<;>exact H_ O U (.g 270465<|.cc (Bt O U.l s (ss.map iv)) [1] λy0=>.g 65<|.al λa1=>.al λa2=>.al λa3=>.cc (lA O U.l K L a2 s a3 y0 a1 du be f1 f2 es fs ss m hs hm F5 TY TZ Td) [0,1,1,1,2,2,2,2,2,2] λy4=>.fi (a1,y4) [1,2])
omit O
theorem nf(B:Bx):Gv B 20 1=[.Return (some (.Compare (gC (xS (Iw B 20))) [.Eq] [Tl] (U2 (xS (Iw B 20))))) (reP (Iw B 20))]:=by kernel_rfl
abbrev qr(ar:Addr)(n s t u k q:Nat):BC:=Fg ar n s t++[(Cc,J u),(Eu,J k),(Xw,J q)]
include O
theorem nz(U:AA 10 A)(L n s t u k q:Nat)(K:LC)(ar:Addr):
 AS B A (Bf (gC (xS (Iw B 20))) (Fi B K L)) [AI L (qr ar n s t u k q)] (J q) [AI L (qr ar n s t u k q)]:=
 H_ O U (.g 65<|.fi () [0])
theorem vp(U:AA 70 A){L n s t u k kp du be m:Nat}{K:LC}{ar:Addr}{f1 f2:Nat->Ay}{ks es fs:List IE}{ss:Aa}(hs:ns ss=Ah m)(hm:m<=1000)(F5:m≠0)(TY:es.map IE.ns=(Ah m).map f1)(TZ:fs.map IE.ns=(Ah m).map f2)(Td: ∀j,j<m->f1 j≠[]/\(f1 j).length<=900)
 (hk:ks.map IE.ns=(Ah m).map λj=>(f1 j).filter λv=>decide (v∈f2 j)):
 AC B.C A (Ac (Gv B 20 1) (Fi B K L)) [AI L (qr ar n s t u k kp),AF s ss,AW K.du (J du),AW K.be (J be),AE du (es.map IE.v),AE be (fs.map IE.v),BU es,BU fs,AE kp (ks.map IE.v),BU ks] (λYa:Unit=>.ret (.bool true)) (λYa=>[]):=by
 obtain⟨l1,l2⟩:=Xa (ks.map IE.ns);rw[nf];refine AC.one (AC.retS (v:=λYa:Unit=>.bool true) ?_);refine AC.weaken (AC.TP (led1:=λYa:Unit=>[AI L (qr ar n s t u k kp),AF s ss,AW K.du (J du),AW K.be (J be),AE du (es.map IE.v),AE be (fs.map IE.v),BU es,BU fs,AE kp (ks.map IE.v),BU ks])
  (led2:=λ(_:Unit) (q:Nat×WO (λj=>(f1 j).filter λv=>decide (v∈f2 j)) m)=>[AE q.1 (q.2.es.map IE.v),BU q.2.es,AE kp (ks.map IE.v),BU ks])
  ((nz O U.l L n s t u k kp K ar).frame [AF s ss,AW K.du (J du),AW K.be (J be),AE du (es.map IE.v),AE be (fs.map IE.v),BU es,BU fs,AE kp (ks.map IE.v),BU ks])
  (λYa=>(uG O U.l L s du be m K [(UI,J t),(Cc,J u),(Eu,J k),(Xw,J kp)] ar n f1 f2 es fs ss hs hm F5 TY TZ Td).frame [AE kp (ks.map IE.v),BU ks])
  (λYa q=>on (d:=.list ((ks.map IE.ns).map Jd)) (AA.Ov (n:=20) U.l) l1 l2 λR s S=>⟨S.io rfl (IM 2 rfl) (Zt 3 rfl),S.io (q.2.ok.trans hk.symm) (IM 0 rfl) (Zt 1 rfl)⟩) rfl) λp=>⟨(),rfl,pk [] rfl⟩
omit O
theorem dd(B:Bx):(A4 B.P 322).take 3++(Gv B 3 2++(Gv B 5 1++(Gv B 6 2++(Gv B 8 3++(Gv B 11 1++(Gv B 12 2++(Gv B 14 1++(Gv B 15 1++(Gv B 16 1++(Gv B 17 1++(Gv B 18 1++(Gv B 19 1++Gv B 20 1))))))))))))=A4 B.P 322:=by kernel_rfl
theorem qW(cs:Ay): ∀(p:Ay) (s:Nat),cs.foldl (λl c=>l++[l.getLastD 0+c]) (p++[s])=p++Mk cs s:=by
 induction cs with
 |nil=>intro p s;rfl
 |cons c r ih=>
  intro p s;rw[C0];have e:(p++[s]).getLastD 0=s:=by rw[J8];simp
  rw[e,ih (p++[s]) (s+c),AG]
  rfl
theorem VN(cs:Ay)(s:Nat):EE cs s=Mk cs s:=qW cs [] s
theorem qg(v:Int)(j:Nat)(hj:j<6):FL (Sq v j):=by
 unfold Sq;refine⟨?_,?_,?_,?_,?_,?_⟩
 ·split
  ·exact⟨[9],rfl⟩
  ·exact⟨[],rfl⟩
 ·intro x hx
  split at hx
  ·simp at hx;lia
  ·simp at hx;lia
 ·show DE _ _≠[]
  simp
 ·intro x hx
  have:=Ks (show x∈DE _ _ from hx)
  lia
 ·split
  ·exact(ADm:(2:Nat)<=100)
  ·exact(ADm:(1:Nat)<=100)
 ·show(DE _ _).length<=100
  rw[M0];exact AK (N8 (v.fdiv ((2:Nat):Int)) 3) ADm
theorem qe(v:Int)(j:Nat):WP (Sq v j):=by
 refine⟨?_⟩;unfold Sq;rw[QV];have h2:((PM (97+j) (C_ (v.fdiv ((2:Nat):Int)) 3+1)).cps.toList).count 32=0:=by
  show(DE _ _).count 32=0
  rw[List.count_eq_zero];intro hx
  have:=Ks hx
  lia
 rw[h2]
 split<;>rfl
theorem RM{vs:List Int}{c:Str×Str}(h:c∈Ja vs)(hl:vs.length<=6): ∃v j,j<6/\c=Sq v j:=by
 unfold Ja at h;obtain⟨j,hj,rfl⟩:=List.mem_iff_getElem.mp h;rw[PZ] at hj;exact⟨vs[j],j,AK hj hl,by rw[List.getElem_mapIdx]⟩
theorem ip(l:List Int):3<=(DA l).length/\(DA l).length<=6:=by
 obtain⟨h1,h2⟩:=Q4 l;unfold DA Ja;rw[PZ,AX,A6];show 3<=(HD l).length-1+3/\(HD l).length-1+3<=6
 lia
theorem ng(l:List Int):(∀c∈DA l,FL c)/\ ∀c∈DA l,WP c:=by
 have hlen:((HD l).drop 1++[0,5,2]).length<=6:=by
  obtain⟨h1,h2⟩:=Q4 l;rw[AX,A6]
  show(HD l).length-1+3<=6
  lia
 refine⟨λc hc=>?_,λc hc=>?_⟩
 ·obtain⟨v,j,hj,rfl⟩:=RM hc hlen
  exact qg v j hj
 ·obtain⟨v,j,hj,rfl⟩:=RM hc hlen
  exact qe v j
theorem rh(l:List Int):2<=GG l/\GG l<=9:=by unfold GG;have:=N8 ((HD l).headD 0) 7;lia
theorem rg(l:List Int):1<=K6 l/\K6 l<=9:=by unfold K6;have:=N8 (((HD l).headD 0).fdiv ((8:Nat):Int)) 8;lia
def mo(c:Str×Str):It:=⟨0,c.1,0,c.2,0⟩
theorem mq(cs:Ed):(cs.map mo).map It.ab=cs:=by
 rw[CK]
 exact(CA λc _=>rfl).trans (List.map_id cs)
theorem Ro{m n:Nat}(hn:n<=1000){cs:Ed}(CD:cs≠[])(hW: ∀c∈cs,FL c)(hlen:cs.length<=20):
 C4 m n cs≠[]/\(C4 m n cs).length<=100/\JE (C4 m n cs)/\(BB eS (C4 m n cs)).cps.toList=DI cs:=by
 have Ze: ∀i∈cs.map mo,FL (i.f,i.p):=λi hi=>by obtain⟨c,hc,rfl⟩:=List.mem_map.mp hi;exact hW c hc
 obtain⟨h1,h2,h3,h4,h5,h6⟩:=Ra (m:=m) hn (cks:=cs.map mo) (by simpa using CD) Ze (by rw[AD];exact hlen) (a:=cs.foldl (Ab.step m) (H7 n)) (by rw[mq])
 have Fo:(cs.foldl (Ab.step m) (H7 n)).all=DI cs:=by rw[N3];simp[H7,Ph,DI]
 have XS:(C4 m n cs).length<=100:=by
  unfold C4 Ab.out;rw[AX,CF]
  have:=h1.rows
  exact Em this ADm
 refine⟨h4,XS,⟨AK XS ADm,λr hr=>?_⟩,?_⟩
 ·have hm:r.cps.toList∈((C4 m n cs).map λr=>r.cps.toList):=List.mem_map.mpr ⟨r,hr,rfl⟩
  have hs:=(List.sublist_flatten_of_mem hm).length_le;have e:((C4 m n cs).map λr=>r.cps.toList).flatten=(cs.foldl (Ab.step m) (H7 n)).all:=rfl;rw[e] at hs;exact AK hs h3
 ·rw[MM]
  exact Fo
theorem pN{x y:Str}(h:x.cps.toList=y.cps.toList):x=y:=by
 obtain⟨⟨x⟩⟩:=x;obtain⟨⟨y⟩⟩:=y;simp only at h;subst h;rfl
theorem T3{m n:Nat}(hn:n<=1000){cks:List It}(CD:cks≠[])(hW: ∀i∈cks,FL (i.f,i.p))(hlen:cks.length<=20):BB eS (C4 m n (cks.map It.ab))=BB eS (cks.map It.cat):=
 pN (by
  rw[Sk]
  exact(Ro (m:=m) hn (cs:=cks.map It.ab) (by simpa using CD) (λc hc=>by obtain⟨i,hi,rfl⟩:=List.mem_map.mp hc;exact hW i hi) (by rw[AD];exact hlen)).2.2.2)
theorem pU{cks:List It}(hW: ∀i∈cks,FL (i.f,i.p)):(BB eS (cks.map It.cat)).cps.all (· <0x110000)=true:=by
 rw[<-Array.all_toList,Sk,List.all_eq_true];intro x hx;unfold DI at hx;obtain⟨c,hc,hx⟩:=List.mem_flatMap.mp hx;obtain⟨i,hi,rfl⟩:=List.mem_map.mp hc;have w:=hW i hi
 rcases List.mem_append.mp hx with h|h
 ·have:=w.ws x h
  simp;lia
 ·have:=w.az x h
  simp;lia
theorem fD: ∀{l:Ay} {a k:Nat},Up l->(∀v∈l,a<=v/\v<=k)->l.length+a<=k+1∨l=[]
 |[],_,_,_,_=>.inr rfl
 |x::r,a,k,hu,h=>by
  left
  have hx:=h x (.head _)
  rcases fD (l:=r) (a:=x+1) (k:=k) (List.pairwise_cons.mp hu).2 (λv hv=>⟨(List.pairwise_cons.mp hu).1 v hv,(h v (.tail _ hv)).2⟩) with h1|h1
  ·rw[Ap];lia
  ·subst h1;simp;lia
theorem Hs{S:Ay}(h:G_ S){a:Nat}(ha:a<=S.length):BI S a≠[]/\(BI S a).length<=S.length+1:=by
 obtain⟨h1,h2,h3⟩:=h.w ha;have CD:BI S a≠[]:=λe=>by rw[e] at h3;cases h3
 refine⟨CD,?_⟩
 rcases fD h1 h2 with h|h
 ·lia
 ·exact absurd h CD
theorem IE.ns_len(e:IE):(IE.ns e).length=e.ys.length:=AD _
theorem K8{α β:Type}{es:List α}{g:α->β}{f:Nat->β}{m:Nat}(h:es.map g=(Ah m).map f){e:α}(he:e∈es): ∃j,j<m/\g e=f j:=by
 obtain⟨j,hj,rfl⟩:=List.mem_iff_getElem.mp he;exact⟨j,by have:=Ee h;lia,Hn h (AJ hj)⟩
theorem oQ{S:Ay}(h:G_ S)(h0:0<S.length)(h1:S.length<=90){es:List IE}(he:es.map IE.ns=(Ah S.length).map (BI S)):RI es:=by
 have hl:=Ee he;refine⟨by lia,by lia,λe hm=>?_,λi j e f h1 h2=>?_⟩
 ·obtain⟨j,hj,ej⟩:=K8 he hm
  obtain⟨w1,w2⟩:=Hs h (Cw hj)
  have:=IE.ns_len e
  rw[ej] at this;refine⟨by lia,λz=>w1 (List.length_eq_zero_iff.mp ADj)⟩
 ·have hi:i<es.length:=(List.getElem?_eq_some_iff.mp h1).1
  have hj:j<es.length:=(List.getElem?_eq_some_iff.mp h2).1;have q1:ns e.ys=BI S i:=Hn (g:=IE.ns) he h1;have q2:ns f.ys=BI S j:=Hn (g:=IE.ns) he h2;rw[q1,q2];refine⟨PN (BI S i) (BI S j),?_,dm h ADj ADj⟩
  obtain⟨a1,a2,a3⟩:=h.w (show i<=S.length by lia)
  obtain⟨b1,b2,b3⟩:=h.w (show j<=S.length by lia)
  unfold PN;have hm:S.length∈(BI S i).filter λv=>decide (v∈BI S j):=List.mem_filter.mpr ⟨a3,by simpa using b3⟩
  cases hf:(BI S i).filter λv=>decide (v∈BI S j) with
  |nil=>rw[hf] at hm;cases hm
  |cons x r=>rfl
theorem uA{S:Ay}(h:G_ S)(h0:0<S.length)(h1:S.length<=90){N:Nat->Nat}(hN: ∀j,j<S.length->j<=N j/\N j<=S.length){es fs:List IE}(he:es.map IE.ns=(Ah S.length).map (BI S))(hf:fs.map IE.ns=(Ah S.length).map λj=>j::BI S (N j)):VI es fs:=by
 have hl:=Ee he;have Mq:=Ee hf;refine⟨by lia,by lia,by lia,(oQ h h0 h1 he).be,λe hm=>?_,λj e f q1 q2=>?_⟩
 ·obtain⟨j,hj,ej⟩:=K8 hf hm
  obtain⟨w1,w2⟩:=Hs h (hN j hj).2
  have:=IE.ns_len e
  rw[ej,Ap] at this
  lia
 ·have hj:j<fs.length:=(List.getElem?_eq_some_iff.mp q1).1
  have hk:(j+1) % es.length<es.length:=Nat.mod_lt _ ADj
  have e1:ns f.ys=j::BI S (N j):=Hn (g:=IE.ns) hf q1;have e2:ns e.ys=BI S ((j+1) % es.length):=Hn (g:=IE.ns) he q2;rw[e1,e2];obtain⟨n1,n2⟩:=hN j ADj
  exact YA h ADj n1 n2 ADj
theorem RC(S:Ay)(q:Nat): ∃r,BI S q=q::r:=⟨_,rfl⟩
def UX(S:Ay)(e:IE):Prop:= ∃p q,IE.ns e=p::BI S q
theorem UX.tl{S:Ay}{e:IE}{p q:Nat}(h:IE.ns e=p::BI S q):ns (e.ys.drop 1)=BI S q:=by
 have:ns (e.ys.drop 1)=(ns e.ys).drop 1:=by unfold ns;rw[Dk]
 rw[this,show ns e.ys=p::BI S q from h];rfl
theorem UX.snd{S:Ay}{e:IE}{p q:Nat}(h:IE.ns e=p::BI S q):e.snd=q:=by
 obtain⟨r,hr⟩:=RC S q;have h':ns e.ys=p::q::r:=by rw[<-hr];exact h
 unfold IE.snd
 match hy:e.ys with
 |[]=>rw[hy] at h';cases h'
 |[a]=>rw[hy] at h';cases h'
 |a::b::t=>
  rw[hy] at h';have h2:b.1=q:=by
   unfold ns at h';simp only[Aw,G4] at h';exact h'.2.1
  exact h2
theorem sH{S:Ay}{ws:List IE}(h: ∀e∈ws,UX S e)(i j:Nat)(hi:i<ws.length)(hj:j<ws.length):decide (EY (Ft ws i) (Ft ws j)<0)=decide (DO ws i<DO ws j):=by
 have g1:ws[i]? =some ws[i]:=AJ hi;have g2:ws[j]? =some ws[j]:=AJ hj;obtain⟨p1,q1,e1⟩:=h _ (Cn hi);obtain⟨p2,q2,e2⟩:=h _ (Cn hj);have t1:Ft ws i=BI S q1:=by unfold Ft;rw[g1];exact UX.tl e1
 have t2:Ft ws j=BI S q2:=by unfold Ft;rw[g2];exact UX.tl e2
 have s1:DO ws i=q1:=by unfold DO;rw[g1];exact UX.snd e1
 have s2:DO ws j=q2:=by unfold DO;rw[g2];exact UX.snd e2
 rw[t1,t2,s1,s2];exact d_ q1 q2
theorem jZ{S:Ay}(h:G_ S){es:List IE}(he:es.map IE.ns=(Ah S.length).map (BI S)): ∀e∈es,UX S e/\2<=e.ys.length/\e.ys.length<=S.length+1:=λe hm=>by
 obtain⟨j,hj,ej⟩:=K8 he hm;have e2:=IY h.one hj;have w:=(Hs h (Cw hj)).2;have hl:=IE.ns_len e;obtain⟨r,hr⟩:=RC S (S.getD j 0);refine⟨⟨j,S.getD j 0,by rw[ej,e2]⟩,?_,?_⟩
 ·rw[ej,e2,hr] at hl
  simp at hl;lia
 ·rw[ej] at hl;exact AK (Ge (Eq.symm hl)) w
theorem aC{S:Ay}(h:G_ S){N:Nat->Nat}(hN: ∀j,j<S.length->j<=N j/\N j<=S.length){fs:List IE}(hf:fs.map IE.ns=(Ah S.length).map λj=>j::BI S (N j)): ∀e∈fs,UX S e/\2<=e.ys.length/\e.ys.length<=S.length+2:=λe hm=>by
 obtain⟨j,hj,ej⟩:=K8 hf hm;have w:=(Hs h (hN j hj).2).2;have hl:=IE.ns_len e;obtain⟨r,hr⟩:=RC S (N j);refine⟨⟨j,N j,ej⟩,?_,?_⟩
 ·rw[ej,hr] at hl
  simp at hl;lia
 ·rw[ej,Ap] at hl;lia
theorem QO(es fs:List IE):(K5 (es++fs).reverse).Perm (K5 es++K5 fs):=by
 unfold K5;rw[<-AZ]
 exact(List.reverse_perm _).map _
theorem AC.part{C:Cx}{A:AL}{L F1 r:AN}{l1 l2:Dx}{env:Env}{X Y:Type}{led1:X->AN}{fl:Y->OU}{led2:Y->AN}(ix:Ay)(e:Fq ix L=some (F1,r))(h1:AC C A (Ac l1 env) F1 (λYa:X=>.next) led1)
 (h2: ∀x,AC C A (Ac l2 env) (led1 x++r) fl led2):AC C A (Ac (l1++l2) env) L fl led2:=
 AC.seq (AC.pre (h1.frame r) λR s S=>S.perm ((PP e).symm.append_right R)) h2
noncomputable abbrev UD(P:Addr)(l:Ak):Bi:=.one P (.ex ⟨.none,none,.fields ⟨l⟩,⟨[]⟩⟩)
noncomputable abbrev pT:Bi:=.one 319 (.ex ⟨.none,none,.fields ⟨[]⟩,⟨[]⟩⟩)
abbrev zu(K:LC)(L:Nat)(ar:Addr)(ss:List (Int×Nat)):AN:=[AI L [(Cb,.ref ar)],IS ar (ss.map zv),C3 K.wi none,C3 K.hd none,C3 K.ch none,C3 K.sz none,C3 K.st none,C3 K.du none,C3 K.be none,C3 K.ba none,C3 K.na none,C3 K.wa none,C3 K.ot none,C3 K.pl none,.many (Jq none),Yb [],pT]
theorem jm(tb:Option (Nat×Fc)): ∃l,∀{C:Cx} {a b c:Bi} {R:AN} {s:Af},St C ([a,b,c,.many (Jq tb)]++R) s->St C ([a,b,c,UD 274 l]++R) s:=by
 cases tb with
 |none=>exact⟨_,λS=>S.BV (by simp only[Jq,xg,Ao,An,Bi.flat,Aj,A5,Al];exact .refl _)⟩
 |some q=>
  obtain⟨cd,y⟩:=q;refine⟨[.int 230 0,.int 18 0,J cd],λ{C a b c R s} S=>?_⟩;have S1:St C ([a,b,c,OQ cd,EA cd CH Bw y]++R) s:=S.BV (by simp only[Jq,xg,Ao,An,Bi.flat,Aj,A5,Al];exact .refl _)
  exact S1.picked (ix:=(BW 4)) rfl
include O
theorem ri(U:AA 96 A){L n s t u:Nat}{K:LC}{ar:Addr}{q:KZ}{es fs:List IE}(hw: ∀e∈(es++fs).reverse,e.ys.length<=1000/\2<=e.ys.length)(h2:2<=(es++fs).reverse.length)(NK:(es++fs).reverse.length<64)
 (IP: ∀i j,i<(es++fs).reverse.length->j<(es++fs).reverse.length->decide (EY (Ft (es++fs).reverse i) (Ft (es++fs).reverse j)<0)=decide (DO (es++fs).reverse i<DO (es++fs).reverse j)):
 AC B.C A (Ac (Gv B 17 1) (Fi B K L)) (AI L (Fg ar n s t++[(Cc,J u),(Eu,J q.z.x.a)])::AE u (es.map IE.v++fs.map IE.v).reverse::BU es::BU fs::VG q.cd::CX B q) (λYa:Nat=>.next)
  (λc=>[AI L (Fg ar n s t++[(Cc,J u),(Eu,J q.z.x.a)]),BU es,BU fs,WI q.cd c]):=by
 have e:(es.map IE.v++fs.map IE.v).reverse=(es++fs).reverse.map IE.v:=by rw[<-AZ,List.map_reverse]
 rw[e]
 refine((vm O U (L:=L) (n:=n) (s:=s) (t:=t) (u:=u) (K:=K) (ar:=ar) (q:=q) hw h2 NK IP).pre λR s' S=>S.BV ?_).post λYa R s' S=>S.BV ?_
 ·generalize CX B q=Z
  simp only[Ao,An,Bi.flat,AG,A5,Al,Aj];refine .cons _ (.cons _ ?_);rw[<-AG]
  exact(QO es fs).symm.append_right _
 ·simp only[Ao,An,Bi.flat,AG,A5,Al,Aj]
  refine .cons _ ?_;rw[<-AG]
  exact(QO es fs).append_right _
theorem rj(U:AA 90 A)(L n s t u k c m:Nat)(K:LC)(ar:Addr)(ss:Aa)(AH:List It)(h1:ss.length<=1000)(h2:AH.length<=1000)(hm:AH.length=m):
 AC B.C A (Ac (Gv B 18 1) (Fi B K L)) [AI L (Fg ar n s t++[(Cc,J u),(Eu,J k)]),AF s ss,AW K.ch (J c),AE c (AH.map It.v),C3 K.pl none] (λYa:Nat×Nat=>.next)
  (λq=>[AI L (Fg ar n s t++[(Cc,J u),(Eu,J k)]),AF q.1 (ss++[(m,q.2)]),AF s ss,AW K.ch (J c),AE c (AH.map It.v),AW K.pl (J q.1)]):=by
 refine(vn O U L n s t u k c K ar ss AH (by rw[AD];exact h1) (by rw[AD];exact h2)).post λq R s' S=>?_
 have e:ss.map iv++[Be (((AH.map It.v).length:Nat):Int) q.2]=(ss++[(m,q.2)]).map iv:=by rw[AZ,AD,hm];rfl
 rw[e] at S;exact S
omit O
theorem e_: ∀cs:Ed,(∀c∈cs,FL c)->(cs.map CT).sum<=cs.length*200
 |[],_=>Am _
 |c::r,h=>by
  have h1:=(h c (.head _)).s1;have h2:=(h c (.head _)).s2;have h3:=e_ r λd hd=>h d (.tail _ hd);rw[Aw,Ea,Ap];show c.1.length+c.2.length+_<=_
  lia
theorem qc{i:It}(h:FL (i.f,i.p)):(It.cat i).length<=5000:=by
 have h1:i.f.length<=100:=h.s1;have h2:i.p.length<=100:=h.s2
 show(i.f.cps++i.p.cps).size<=5000
 rw[Hv];have e1:i.f.cps.size=i.f.length:=rfl;have e2:i.p.cps.size=i.p.length:=rfl
 lia
theorem nG{B:Bx}(O:B.C.Ok)(hS:B.Std){A:AL}(U:AA 170 A)(L:Nat)(K:LC)(ar:Addr)(hK:C8 A [L])(ss:List (Int×Nat))(hl:ss.length<=900):
 AC B.C A (Ac (A4 B.P 322) (Fi B K L)) (zu K L ar ss) (λYa:Ak×Ak×Ak=>.ret (.bool true)) (λq=>[IS ar (ss.map zv),UD 206 q.1,UD 319 q.2.1,UD 274 q.2.2]):=by
 rw[<-dd];refine AC.part (BW 5) rfl (vd O U.l L K ar ss hl) λq1=>?_;obtain⟨n,wt,ht,c,AH,hits⟩:=q1;refine AC.ix [0,0,0,0,0,0,1,1,1,1,1,1,1,1,1,1,1,1,0] ?_ rfl
 generalize zn ss=l at hits⊢
 obtain⟨m3,m6⟩:=ip l;obtain⟨yu,s_⟩:=ng l;have iO:AH.length=(DA l).length:=by rw[<-hits,AD]
 have Ze: ∀i∈AH,FL (i.f,i.p):=λi hi=>yu _ (hits▸CB (f:=It.ab) hi);have CD:AH≠[]:=λe=>by rw[e] at iO;simp at iO;lia
 have me: ∀i∈AH,It.small i:=λi hi=>⟨AK (Ze i hi).s1 ADm,AK (Ze i hi).s2 ADm⟩
 refine AC.part [0,2,2,2,2] rfl (vq O U.l L c n K ar AH hS (by rw[AD];lia) ADj CD me) λq2=>?_
 let z:=q2.1
 let zs:=q2.2.1.ks
 have XU:ns zs=_:=q2.2.1.ok
 let s:=q2.2.2.a
 let sv:=q2.2.2.ys
 have hs:ns sv=_:=q2.2.2.ok;rw[AD,iO] at hs;have XU:ns zs=(DA l).map CT:=by rw[XU,<-hits,CK];rfl
 have ACU:sv.length=(DA l).length:=by have:=congrArg C7 hs;unfold ns at this;rwa [AD,Dv] at this
 have zd:zs.length=(DA l).length:=by have:=congrArg C7 XU;unfold ns at this;rwa [AD,AD] at this
 obtain⟨w2,w9⟩:=rh l;obtain⟨g1,g9⟩:=rg l;have zZ:((DA l).map CT).length=(DA l).length:=AD _;have hG:=Xs ((DA l).map CT) (GG l);have Zd:(Ct ((DA l).map CT) (GG l)).length=(DA l).length:=by rw[Jp,zZ]
 have Vn:(ns zs).sum<=1000000:=by
  rw[XU]
  have:=e_ (DA l) yu
  lia
 refine AC.part [0,0,3,4,3,4] rfl (zy O U.l L n s z (GG l) wt _ K ar sv zs hs ADj ADj zd Vn) λq3=>?_
 let y:=q3.1
 let ys:=q3.2.ys
 have ml:ns ys=_:=q3.2.ok;rw[XU] at ml;have hyl:ys.length=(DA l).length:=by have:=congrArg C7 ml;unfold ns at this;rw[AD] at this;lia
 have hN: ∀j,j<(DA l).length->j<=Cq ((DA l).map CT) j (HU (GG l) (K6 l))/\Cq ((DA l).map CT) j (HU (GG l) (K6 l))<=(DA l).length:=λj hj=>⟨Zw ADj,by have:=QG (sz:=(DA l).map CT) (st:=j) (rm:=HU (GG l) (K6 l)) ADj;lia⟩
 refine AC.part [0,0,0,7,0,0,0,0,3,3] rfl (vr O U.l L n s z y (GG l) wt (K6 l) ht _ K ar sv zs ys hs ADj ADj zd Vn ADj (by rw[ml,hyl,<-Zd];exact hG.one) (λj hj=>by
  rw[ml,XU]
  have:=(Hs hG (a:=Cq ((DA l).map CT) j (HU (GG l) (K6 l))) (by have:=(hN j hj).2;lia)).2
  lia)) λq4=>?_
 let du:=q4.1
 let ds:=q4.2.1.es
 have uq:ds.map IE.ns=_:=q4.2.1.ok
 let be:=q4.2.2.1
 let bs:=q4.2.2.2.es
 have q7:bs.map IE.ns=_:=q4.2.2.2.ok;refine AC.part [0,0,12,1,1,10,10,10,10] rfl (rk O U.l L n s c (GG l) wt (K6 l) ht _ K ar sv AH hS hs ADj ADj iO ADj ADj Ze (λi hi=>(Ze i hi).MG) ⟨by rw[AD];lia,λx hx=>by
  obtain⟨i,hi,rfl⟩:=List.mem_map.mp hx;exact qc (Ze i hi)⟩) λq5=>?_
 let ba:=q5.1
 let qU:=q5.2.1.es
 have q0:qU.map SE.rows=_:=q5.2.1.ok
 let na:=q5.2.2.1
 let ro:=q5.2.2.2.1.es
 have rK:ro.map SE.rows=_:=q5.2.2.2.1.ok
 let t:=q5.2.2.2.2.1
 let ts:=q5.2.2.2.2.2.ks
 have rM:ts.map (·.1)=_:=q5.2.2.2.2.2.ok;have tK: ∀j,(AH.drop j).map It.ab=(DA l).drop j:=λj=>by rw[Dk,hits]
 have mL: ∀j,j<(DA l).length->AH.drop j≠[]:=λj hj e=>by have:=congrArg C7 e;rw[A6] at this;simp at this;lia
 have rC: ∀j,∀i∈AH.drop j,FL (i.f,i.p):=λj i hi=>Ze i (EI hi);have dE: ∀j,(AH.drop j).length<=20:=λj=>by rw[A6];lia
 have JA: ∀h,h<=1000-> ∀j,j<(DA l).length->C4 (GG l) h ((AH.drop j).map It.ab)≠[]/\(C4 (GG l) h ((AH.drop j).map It.ab)).length<=100/\JE (C4 (GG l) h ((AH.drop j).map It.ab)):=λh hh j hj=>by
  obtain⟨a1,a2,a3,_⟩:=Ro (m:=GG l) hh (cs:=(AH.drop j).map It.ab) (by simpa using mL j hj) (λc hc=>by obtain⟨i,hi,rfl⟩:=List.mem_map.mp hc;exact rC j i hi) (by rw[AD];exact dE j)
  exact⟨a1,a2,a3⟩
 have tD:=Ee q0;have tN:=Ee rK;have vG:=Ee rM;have j1:qU.map (λe=>BB eS (SE.rows e))=ts.map (·.1):=by
  rw[rM,show(λe=>BB eS (SE.rows e))=(λr=>BB eS r)∘SE.rows from rfl,<-CK,q0,CK];exact CA λj hj=>T3 (m:=GG l) (n:=0) ADj (mL j (List.mem_range.mp hj)) (rC j) (dE j)
 have j2:ro.map (λe=>BB eS (SE.rows e))=ts.map (·.1):=by
  rw[rM,show(λe=>BB eS (SE.rows e))=(λr=>BB eS r)∘SE.rows from rfl,<-CK,rK,CK];exact CA λj hj=>T3 (m:=GG l) (n:=K6 l) ADj (mL j (List.mem_range.mp hj)) (rC j) (dE j)
 refine AC.part [0,12,6,7,7,6,6,6] rfl (vg O U.l (L:=L) (n:=n) (s:=s) (t:=t) (b:=ba) (c:=na) (K:=K) (ar:=ar) (es:=qU) (fs:=ro) (ts:=ts) (λe=>by rw[e] at tD;simp at tD;lia) (λe=>by rw[e] at tN;simp at tN;lia) ADj ADj
  (λe he=>by obtain⟨j,hj,ej⟩:=K8 q0 he;rw[ej];exact(JA 0 ADj j hj).2.2) (λe he=>by obtain⟨j,hj,ej⟩:=K8 rK he;rw[ej];exact(JA (K6 l) ADj j hj).2.2) j1 j2
  (λx hx=>by rw[rM] at hx;obtain⟨j,hj,rfl⟩:=List.mem_map.mp hx;exact pU (rC j))) λYa=>?_
 refine AC.part [0,7,1,1,1,1,1,1,16,16,17] rfl (nh O U.l L n s t ba na _ K ar sv _ _ qU ro none hs ADj ADj q0 (λj hj=>⟨(JA 0 ADj j hj).1,AK (JA 0 ADj j hj).2.1 ADm⟩) rK (λj hj=>⟨(JA (K6 l) ADj j hj).1,AK (JA (K6 l) ADj j hj).2.1 ADm⟩)) λq6=>?_
 let w:=q6.1
 let es:=q6.2.1.es
 have hes:es.map IE.ns=_:=q6.2.1.ok
 let o:=q6.2.2.1
 let fs:=q6.2.2.2.es
 have zE:fs.map IE.ns=_:=q6.2.2.2.ok
 let tb:=q6.2.2.2.tb
 refine AC.ix [0,0,0,0,0,0,0,0,0,0,0,0,0,0,1,1,1,1,1,1,1,1,1,1,1,1,1,1,1,1,1,1,1,1,0] ?_ rfl;have he:es.map IE.ns=(Ah (Ct ((DA l).map CT) (GG l)).length).map (BI (Ct ((DA l).map CT) (GG l))):=by
  rw[hes,Zd];refine CA λj hj=>?_;rw[VN,tK];exact lv s_ (List.mem_range.mp hj)
 have hf:fs.map IE.ns=(Ah (Ct ((DA l).map CT) (GG l)).length).map λj=>j::BI (Ct ((DA l).map CT) (GG l)) (Cq ((DA l).map CT) j (HU (GG l) (K6 l))):=by
  rw[zE,Zd];refine CA λj hj=>?_;rw[VN,tK];exact ie s_ ADj (List.mem_range.mp hj)
 rw[ml] at uq q7;rw[XU] at q7;have yr: ∀j,j<(Ct ((DA l).map CT) (GG l)).length->j<=Cq ((DA l).map CT) j (HU (GG l) (K6 l))/\Cq ((DA l).map CT) j (HU (GG l) (K6 l))<=(Ct ((DA l).map CT) (GG l)).length:=λj hj=>by rw[Zd] at hj⊢;exact hN j hj
 have hed:es.map IE.ns=ds.map IE.ns:=by rw[he,uq,Zd]
 have hfb:fs.map IE.ns=bs.map IE.ns:=by rw[hf,q7,Zd]
 refine AC.part [8,8,8,9,0,8,7,17,18,18,17,17,17] rfl (vh O U.l (L:=L) (w:=w) (o:=o) (du:=du) (be:=be) (K:=K) (al:=Fg ar n s t) (es:=es) (fs:=fs) (ds:=ds) (bs:=bs) hK (oQ hG ADj ADj he) (uA hG ADj ADj yr he hf) hed hfb) λYa=>?_
 have hel:=Ee he;have uv:=Ee hf;refine AC.part (4::BW 4) rfl (vj O U.l L n s t w o K ar (es.map IE.v) (fs.map IE.v) (by rw[AD];lia) (by rw[AD];lia)) λu=>?_
 refine AC.part [0,31,31] rfl (vk O U.l L n s t u K ar) λq=>?_;refine AC.ix [0,0,1,1,1,1,1,1,1,1,1,1,1,1,1,1,1,1,1,1,1,1,1,1,1,1,1,1,1,1,1,1,1,1,1,1,1,1,1,1,1,1,1,1,1,0] ?_ rfl;have md: ∀e∈(es++fs).reverse,UX (Ct ((DA l).map CT) (GG l)) e/\2<=e.ys.length/\e.ys.length<=1000:=λe hm=>by
  rcases List.mem_append.mp (List.mem_reverse.mp hm) with hm|hm
  ·obtain⟨a1,a2,a3⟩:=jZ hG he e hm
   exact⟨a1,a2,by lia⟩
  ·obtain⟨a1,a2,a3⟩:=aC hG yr hf e hm
   exact⟨a1,a2,by lia⟩
 refine AC.part [0,11,16,15,0,0,0,0,0,0,0,0,0,0,0] rfl (ri O U.l (L:=L) (n:=n) (s:=s) (t:=t) (u:=u) (K:=K) (ar:=ar) (q:=q) (es:=es) (fs:=fs) (λe hm=>⟨(md e hm).2.2,(md e hm).2.1⟩) (by rw[OV,AX];lia) (by rw[OV,AX];lia) (sH λe hm=>(md e hm).1)) λc9=>?_
 refine AC.ix [0,0,0,1,1,1,1,1,1,1,1,1,1,1,1,1,1,1,1,1,1,1,1,1,1,1,1,1,1,1,1,1,1,1,0] ?_ rfl;refine AC.part [0,12,19,21,26] rfl (rj O U.l L n s t u q.z.x.a c (DA l).length K ar sv AH ADj ADj iO) λp=>?_
 obtain⟨p,pk⟩:=p;have rI:=he;have rJ:=hf;rw[Zd] at rI rJ;have hps:ns (sv++[((DA l).length,pk)])=Ah ((Ct ((DA l).map CT) (GG l)).length+1):=by
  rw[Zd,List.range_succ,<-hs];unfold ns;rw[AZ];rfl
 refine AC.part [0,1,6,3,5,5,5,0,2,2] rfl (vo O U.l L n s t u q.z.x.a w o p (DA l).length K ar _ _ es fs (sv++[((DA l).length,pk)]) sv hK hs ADj ADj (by rw[AX];show sv.length+1<=500;lia) rI rJ
  (λj hj=>by have:=(Hs hG (a:=j) ADj).2;lia) (λj hj=>by have:=(Hs hG (a:=Cq ((DA l).map CT) j (HU (GG l) (K6 l))) (by have:=(hN j hj).2;lia)).2;rw[Ap];lia)) λq8=>?_
 let kp:=q8.1
 let ks:=q8.2.es
 have u8:ks.map IE.ns=_:=q8.2.ok;have hk:ks.map IE.ns=(Ah (DA l).length).map λj=>(BI (Ct ((DA l).map CT) (GG l)) j).filter λv=>decide (v∈j::BI (Ct ((DA l).map CT) (GG l)) (Cq ((DA l).map CT) j (HU (GG l) (K6 l)))):=by
  rw[u8];refine CA λj hj=>?_;have hj:=List.mem_range.mp hj;rw[hps];exact iZ hG ADj (hN j hj).1 (by have:=(hN j hj).2;lia)
 obtain⟨lt,IP⟩:=jm tb
 exact(((vp O U.l (L:=L) (n:=n) (s:=s) (t:=t) (u:=u) (k:=q.z.x.a) (kp:=kp) (du:=du) (be:=be) (K:=K) (ar:=ar) (ks:=ks) (es:=ds) (fs:=bs) (ss:=sv) hs ADj ADj uq q7
  (λj hj=>⟨(Hs hG (a:=j) ADj).1,by have:=(Hs hG (a:=j) ADj).2;lia⟩) hk).frame [IS ar (ss.map zv),Yc q.z.cc,WI q.cd c9,.many (Jq tb)]).ix [0,0,4,6,4,5,4,4,0,0,16,17,17,16] rfl).weaken λYa=>⟨(_,_,lt),rfl,λR s' S=>IP S⟩
include O
theorem fX(U:AA 10 A)(ar:Addr):
 AS B A (Pk B 322 [.ref ar]) [] (([(Cb,.ref ar)]:BC)) []:=
 rn O U (.fi () [])
theorem cr(U:AA 10 A)(ar:Addr):
 AC B.C A (OO B 322 [(Cb,.ref ar)]) []
  (λq:Nat×LC=>Fi B q.2 q.1)
  (λq=>[AI q.1 [(Cb,.ref ar)],C3 q.2.wi none,C3 q.2.hd none,C3 q.2.ch none,C3 q.2.sz none,C3 q.2.st none,C3 q.2.du none,C3 q.2.be none,C3 q.2.ba none,C3 q.2.na none,C3 q.2.wa none,C3 q.2.ot none,C3 q.2.pl none]):=
 rn O U (.al λa0=>.al λa1=>.al λa2=>.al λa3=>.al λa4=>.al λa5=>.al λa6=>.al λa7=>.al λa8=>.al λa9=>.al λtv=>.al λaY=>.al λIF=>.fr λzh=>.g 6925<|.fi (a0,⟨a1,a2,a3,a4,a5,a6,a7,a8,a9,tv,aY,IF⟩) [12,11,10,9,8,7,6,5,4,3,2,1,0])
omit O
theorem fu{B:Bx}(O:B.C.Ok)(hS:B.Std){A:AL}(U:AA 174 A)(hK:C8 A [])(ar:Addr)(ss:List (Int×Nat))(hl:ss.length<=900):
 Bv B.C A (.call (.ref 322) ⟨[.ref ar],[]⟩) [IS ar (ss.map zv),.many (Jq none),Yb [],pT] (λYa:Ak×Ak×Ak=>.ok (.ret (.bool true))) (λq=>[IS ar (ss.map zv),UD 206 q.1,UD 319 q.2.1,UD 274 q.2.2]):=
 Dm O (n:=173) U ADk ((fX O U.l.in1 ar).frame _) (λR s S=>(cr O U.l.in1 ar).frame [IS ar (ss.map zv),.many (Jq none),Yb [],pT] R s S)
  (λq=>BK (fl:=λYa:Ak×Ak×Ak=>.ret (.bool true)) (by
   have h:=nG O hS (A:=A.deeper (Fi B q.2 q.1)) (AA.deeper U.l) q.1 q.2 ar (hK.deeper rfl (by
    show(D4 B.P 322).scope.kind≠.module;exact(by kernel_rfl:(D4 B.P 322).scope.kind=.function)▸ADm)) ss hl
   exact h.ix (0::12::BW 15) rfl))
end
def mE:List Addr:=QN++[162,169,206,274,319]
def m7(P:Params)(a:Addr):Option Obj:=match GL P a with
 |some o=>some o
 |none=>some (N1 #[])
def KE:Program:=view p [0,29]
noncomputable def Vk:List Str:=["_wall","_twin_re_1","NL","EMPTYSTRING","_ValueFormatter","_Accumulator","cmp_to_key","_initial_missing","reduce","sorted_list_difference","three_way_cmp","_law_plain","_law_chunks","_law_text","_law_fed","_law_lay","_law_laid","_law_begins","_law_next","_law_way","_law_lacks","_law_kept","_law_pairs","_law_beside"]
noncomputable def mG(v:Program)(s:Af):Bool:=xlAt v [] s&&recOk [] s
abbrev tH:Af->Bool:=mG KE
def XR(s:Af):List (Option Obj):=mE.map s.heap.get?
def TX(w:World):List (Option Obj):=mE.map (m7 w.params)
def K1(w:World)(h:Heap):Prop:= ∀a∈mE,h.get? a=m7 w.params a
def hdLhs(ls:List Str)(xq:Program->Af->Bool)(q:Program)(w:World):=(openEnds treeTable q w 3600).map λs=>(openSeen (view q [0,29]) ls (importedModules q.main.body) (xq (view q [0,29])) true s,XR s)
def hdGood(ls:List Str)(v:Program):=openGood v ls
lay_quick Mine.hdLhs Mine.hdGood
abbrev tG:=PySem.W.Fast.tw17194539320767164699
abbrev tF:=PySem.W.Fast.tw731727335646702260
theorem rA:hdLhs=tG:=PySem.W.Fast.te17194539320767164699
theorem q_:hdGood=tF:=PySem.W.Fast.te731727335646702260
theorem rF(w:World):tG Vk mG p w=some (tF Vk KE,TX w):=by kernel_rfl
theorem mI:LeftO p KE Vk tH XR TX 3600:=λw=>by
 show hdLhs Vk mG p w=some (hdGood Vk KE,TX w);rw[rA,q_];exact rF w
theorem mK(w:World)(s:Af)(e:XR s=TX w):K1 w s.heap:=λa ha=>List.map_inj_left.mp e a ha
theorem iI(w:World)(h h':Heap)(y:K1 w h)(k: ∀b o,h.get? b=some o->h'.get? b=some o):K1 w h':=λa ha=>by
 have e:=y a ha
 have: ∃o,m7 w.params a=some o:=by
  unfold m7;cases GL w.params a with
  |none=>exact⟨_,rfl⟩
  |some o=>exact⟨o,rfl⟩
 obtain⟨o,ho⟩:=this;rw[ho] at e⊢;exact k a o e
def PH:DefRec:=((defOf KE "law").get ADk).1
theorem rD:defOf KE "law"=some (PH,[]):=by kernel_rfl
theorem rH:p.theDef "law"=some (PH.params,PH.body,PH.scope):=by kernel_rfl
theorem uk:kwWritten? PH.params.kwonlyargs PH.params.kw_defaults=some []:=by kernel_rfl
theorem mJ:PH.name="law":=by kernel_rfl
theorem pX(P:Params):(Ah 323).all (λa=>(GL P a).isNone||QN.contains a)=true:=by kernel_rfl
theorem jn(P:Params)(k:Nat):GL P (k+323)=none:=by kernel_rfl
theorem aO{P:Params}{a:Addr}{o:Obj}(h:GL P a=some o):a∈QN:=by
 have ha:(a:Nat)<323:=LV λq=>by
  have:=jn P (a-323)
  rw[Nat.sub_add_cancel q,h] at this;cases this
 have:=List.all_eq_true.mp (pX P) a (List.mem_range.mpr ha)
 rw[h] at this;simpa using this
theorem Q9(P:Params)(a:Addr)(h:a∈QN):(GL P a).isSome=true:=List.all_eq_true.mp (show QN.all (λa=>(GL P a).isSome)=true by kernel_rfl) a h
theorem Gx{w:World}{h:Heap}(Y:K1 w h){a:Addr}{o:Obj}(e:GL w.params a=some o):h.get? a=some o:=by
 rw[Y a (Ar _ (aO e))];unfold m7;rw[e]
theorem UE{w:World}{h:Heap}(Y:K1 w h): ∀a∈T5,h.get? a=some (N1 #[]):=λa ha=>by
 rw[Y a (Ax _ ha)];simp only[T5,CG,B_,or_false] at ha
 rcases ha with rfl|rfl|rfl|rfl|rfl<;>kernel_rfl
theorem pY: ∀a∈QN,a∉T5:=by decide+kernel
noncomputable def vP:Option Obj->Bool
 |some ⟨.type n,none,.seq _ _,_⟩=>n=="list"
 |_=>false
theorem rt(P:Params):QN.all (λa=> !vP (GL P a))=true:=by kernel_rfl
theorem eH{w:World}{h:Heap}(Y:K1 w h){ar:Addr}{xs:Bs}{n:Nat}{sl:Array DP}(e:h.get? ar=some ⟨.type "list",none,.seq xs n,sl⟩):ar∉T5/\ar∉QN:=by
 refine⟨λhm=>?_,λhm=>?_⟩
 ·rw[UE Y ar hm] at e
  exact absurd (congrArg Obj.cls (DZ e)) (by simp[N1])
 ·have h1:=List.all_eq_true.mp (rt w.params) ar hm
  have h2:=Q9 w.params ar hm;obtain⟨o,ho⟩:=Option.isSome_iff_exists.mp h2;have h3:=Gx Y ho;rw[e] at h3;rw[ho,<-DZ h3] at h1;exact absurd (show false=true from h1) BP
noncomputable def NH(h:Heap)(n:Nat):Heap:=⟨h.objs.extract 0 (n+1),h.life⟩
theorem Py(h:Heap)(n b:Nat):(NH h n).get? b=if b<=n then h.get? b else none:=by
 unfold NH Heap.get?;simp only[Array.getElem?_extract]
 by_cases hb:b<=n
 ·rw[if_pos hb]
  simp only[FH];have e:(if b<min (n+1) h.objs.size-0 then h.objs[b]? else none)=h.objs[b]? :=by
   split
   ·rfl
   ·rw[Array.getElem?_eq_none ADj]
  rw[e]
 ·rw[if_neg hb,if_neg ADj]
theorem dc{h:Heap}{mu:List Addr}{a₀:Addr}{o₀:Obj}(ha:h.get? a₀=some o₀)(hm:a₀∉mu): ∃n o,h.get? n=some o/\n∉mu/\ ∀b o,h.get? b=some o->b∉mu->b<=n:=by
 have key: ∀k:Nat,(∀b o,h.get? b=some o->b∉mu->b<k)-> ∃n o,h.get? n=some o/\n∉mu/\ ∀b o,h.get? b=some o->b∉mu->b<=n:=by
  intro k
  induction k with
  |zero=>exact λq=>absurd (q a₀ o₀ ha hm) (Nat.not_lt_zero _)
  |succ k ih=>
   intro q
   by_cases hk: ∃o,h.get? k=some o/\k∉mu
   ·obtain⟨o,h1,h2⟩:=hk
    exact⟨k,o,h1,h2,λb o e m=>FG (q b o e m)⟩
   ·refine ih λb o e m=>?_
    have:=q b o e m
    rcases Nat.lt_or_eq_of_le (FG this) with h'|rfl
    ·exact h'
    ·exact absurd ⟨o,e,m⟩ hk
 exact key h.objs.size λb o e _=>Cf e
theorem Qr{h:Heap}{n:Nat}{o:Obj}(e:h.get? n=some o):(NH h n).objs.size=n+1:=by
 have:(n:Nat)<h.objs.size:=Cf e
 show(h.objs.extract 0 (n+1)).size=_
 rw[Array.size_extract];lia
noncomputable abbrev HF(P:Addr)(l:Ak):Bi:=.one P (.ex ⟨.none,none,.fields ⟨l⟩,⟨[]⟩⟩)
noncomputable abbrev Zu(a:Addr)(xs:Ak):Bi:=.one a (.ex ⟨.type "list",none,.seq ⟨xs⟩ 0,⟨[]⟩⟩)
theorem Bv.run{C:Cx}{A:AL}{f:Value}{pos:Ak}{kw:BC}{F:AN}{X:Type}{val:X->Value}{led:X->AN}
 (h:Bv C A (.call f ⟨pos,kw⟩) F (λx=>.ok (.ret (val x))) led):AC C A (call f pos kw) F val led:=λR s S Γ p hΓ=>by
 have q:=h R s S Γ p hΓ;unfold Ql at q;rw[HY] at q;unfold UQ;rw[I9];refine I5 (λr s' hr=>?_) q;obtain⟨x,rfl,S'⟩:=hr;exact⟨x,rfl,S'⟩
def Rf(w:World)(s₁:Af)(ar:Addr)(n:Nat):Bx:=⟨w,w.params.followText "special-get-raises",w.params.followText "comprehension-iter-twice",{s₁ with heap:=NH s₁.heap n},Pf,ar::T5,λs=>Hu s.gens⟩
theorem uo(w:World)(s₁:Af)(ar:Addr)(n:Nat):(Rf w s₁ ar n).C.w=w:=qD w
theorem rG(w:World)(s₁:Af)(ar:Addr)(n:Nat):(Rf w s₁ ar n).Std:=⟨rfl,λa h=>.tail _ h,rfl⟩
theorem um{w:World}{s₁:Af}{ar n:Nat}{o:Obj}(Y:K1 w s₁.heap)(hn:s₁.heap.get? n=some o)(hm:n∉ar::T5)(Fo: ∀b o,s₁.heap.get? b=some o->b∉ar::T5->b<=n)(P4:ar∉QN):(Rf w s₁ ar n).C.Ok:=by
 have e:(wf w (w.params.followText "special-get-raises") (w.params.followText "comprehension-iter-twice"))=w:=qD w;have top: ∀a o,GL w.params a=some o->(NH s₁.heap n).get? a=some o/\a∉ar::T5:=λa o h=>by
  have m:=aO h;have m':a∉ar::T5:=λq=>by
   rcases List.mem_cons.mp q with rfl|q
   ·exact P4 m
   ·exact pY a m q
  have g:=Gx Y h;exact⟨by rw[Py,if_pos (Fo a o g m')];exact g,m'⟩
 refine⟨λa o h=>?_,?_,n,o,?_,hm,?_⟩
 ·refine top a o ?_
  rw[<-e];exact h
 ·show 323<=(NH s₁.heap n).objs.size
  rw[Qr hn];obtain⟨o3,h3⟩:=Option.isSome_iff_exists.mp (Q9 w.params 322 ADl)
  have:=Fo 322 o3 (Gx Y h3) (top 322 o3 h3).2
  have:(322:Nat)<=n:=this
  lia
 ·show(NH s₁.heap n).get? n=some o
  rw[Py,if_pos (Am n)];exact hn
 ·show(NH s₁.heap n).objs.size<=n+1
  rw[Qr hn];exact Am _
abbrev dD(ar:Addr)(xs:Ak):AN:=[Zu ar xs,HF 274 [],HF 206 [],HF 319 []]
theorem un{w:World}{s₁:Af}{ar n:Nat}{o:Obj}{xs:Ak}(Y:K1 w s₁.heap)(hn:s₁.heap.get? n=some o)(P4:s₁.heap.get? ar=some ⟨.type "list",none,.seq ⟨xs⟩ 0,⟨[]⟩⟩)(hg:s₁.gens=#[]):
 St (Rf w s₁ ar n).C (dD ar xs++[]) s₁:=by
 have T:=UE Y;obtain⟨hT,_⟩:=eH Y P4;refine⟨λb o h _=>?_,⟨[(162,.ex (N1 #[])),(169,.ex (N1 #[]))],⟨rfl,λp hp=>?_⟩,⟨λp hp=>?_,?_,λp hp=>?_⟩⟩,λh t _=>?_,rfl,?_⟩
 ·have h:(NH s₁.heap n).get? b=some o:=h
  rw[Py] at h
  split at h
  ·exact h
  ·cases h
 ·simp only[CG,B_,or_false] at hp
  rcases hp with rfl|rfl<;>exact⟨_,rfl,#[],rfl,trivial⟩
 ·simp only[Ao,Bi.flat,A5,Al,CG,B_,or_false] at hp
  rcases hp with rfl|rfl|rfl|rfl|rfl|rfl
  ·exact⟨_,P4,G0,rfl⟩
  ·exact⟨_,T 274 ADm,G0,rfl⟩
  ·exact⟨_,T 206 ADm,G0,rfl⟩
  ·exact⟨_,T 319 ADm,G0,rfl⟩
  ·exact⟨_,T 162 ADm,G0,rfl⟩
  ·exact⟨_,T 169 ADm,G0,rfl⟩
 ·show(ar::[274,206,319,162,169]).Nodup
  refine List.nodup_cons.mpr ⟨λh=>hT ?_,by decide⟩
  have: ∀x∈([274,206,319,162,169]:List Addr),x∈T5:=by decide
  exact this ar h
 ·refine .inl ?_
  have: ∀x∈([274,206,319,162,169]:List Addr),x∈T5:=by decide
  show p.1∈ar::T5;simp only[Ao,Bi.flat,A5,Al,CG,B_,or_false] at hp
  rcases hp with rfl|rfl|rfl|rfl|rfl|rfl
  ·exact .head _
  all_goals exact .tail _ (this _ ADm)
 ·show Hu s₁.gens
  rw[hg];exact AllBare.empty
 ·show(NH s₁.heap n).objs.size<=s₁.heap.objs.size
  rw[Qr hn];exact Cf hn
theorem jl{w:World}{h:Heap}(Y:K1 w h): ∀a∈T5,isCodeTable h a:=λa ha=>by
 simp only[T5,CG,B_,or_false] at ha
 rcases ha with rfl|rfl|rfl|rfl|rfl
 ·exact⟨166,Tt w.params,_,Gx Y ((show KP w.params 166=some (Tt w.params) from rfl)),rfl,rfl,rfl⟩
 ·exact⟨173,Tu w.params,_,Gx Y ((show KP w.params 173=some (Tu w.params) from rfl)),rfl,rfl,rfl⟩
 ·exact⟨210,di w.params,_,Gx Y ((show KP w.params 210=some (di w.params) from rfl)),rfl,rfl,rfl⟩
 ·exact⟨278,dj w.params,_,Gx Y ((show KP w.params 278=some (dj w.params) from rfl)),rfl,rfl,rfl⟩
 ·exact⟨321,dk w.params,_,Gx Y ((show KP w.params 321=some (dk w.params) from rfl)),rfl,rfl,rfl⟩
theorem rE{w:World}{s₁ s':Af}{ar n:Nat}{o:Obj}{xs la lb lc:Ak}(Y:K1 w s₁.heap)(hn:s₁.heap.get? n=some o)(Fo: ∀b o,s₁.heap.get? b=some o->b∉ar::T5->b<=n)
 (P4:s₁.heap.get? ar=some ⟨.type "list",none,.seq ⟨xs⟩ 0,⟨[]⟩⟩) (S:St (Rf w s₁ ar n).C ([Zu ar xs,HF 206 la,HF 319 lb,HF 274 lc]++[]) s'):OldK s₁.heap s'.heap/\s'.os=s₁.os/\Hu s'.gens:=by
 have T:=UE Y;obtain⟨H,hH,XP⟩:=S.led;have hH:Pf H:=hH;have one: ∀a o',(a,AO.ex o')∈Ao ([Zu ar xs,HF 206 la,HF 319 lb,HF 274 lc]++[])++H->s'.heap.get? a=some o':=λa o' h=>by
  obtain⟨o2,h2,g,e⟩:=XP.at_ _ h;rw[h2,e];rfl
 have tab: ∀a∈T5,∃l,s'.heap.get? a=some ⟨.none,none,.fields ⟨l⟩,⟨[]⟩⟩:=λa ha=>by
  have SG:a=162∨a=169-> ∃l,s'.heap.get? a=some ⟨.none,none,.fields ⟨l⟩,⟨[]⟩⟩:=λq=>by
   have:a∈H.map (·.1):=by rw[hH.1];rcases q with rfl|rfl<;>simp
   obtain⟨p,hp,rfl⟩:=List.mem_map.mp this;obtain⟨o',e,ps,rfl,_⟩:=hH.2 p hp;exact⟨ps.toList,one _ _ (Ax _ (by rw[<-e];exact hp))⟩
  simp only[T5,CG,B_,or_false] at ha
  rcases ha with rfl|rfl|rfl|rfl|rfl
  ·exact SG (.inl rfl)
  ·exact SG (.inr rfl)
  ·exact⟨la,one _ _ (.tail _ (.head _))⟩
  ·exact⟨lc,one _ _ (.tail _ (.tail _ (.tail _ (.head _))))⟩
  ·exact⟨lb,one _ _ (.tail _ (.tail _ (.head _)))⟩
 have key: ∀b o,s₁.heap.get? b=some o->(s'.heap.get? b=some o∨b∈T5):=λb o e=>by
  by_cases hb:b∈ar::T5
  ·rcases List.mem_cons.mp hb with rfl|hb
   ·rw[P4] at e;cases e
    exact .inl (one _ _ (.head _))
   ·exact .inr hb
  ·refine .inl (S.old b o ?_ hb)
   show(NH s₁.heap n).get? b=some o
   rw[Py,if_pos (Fo b o e hb)];exact e
 refine⟨⟨λb o e=>?_,λb o e=>?_⟩,S.os,S.gens s'.heap s'.toks (Am _)⟩
 ·rcases key b o e with h|h
  ·exact .inl h
  ·obtain⟨l,hl⟩:=tab b h
   rw[T b h] at e;cases e;exact .inr (.inl ⟨jl Y b h,rfl,#[],⟨l⟩,rfl,by rw[hl];simp[N1]⟩)
 ·rcases key b o e with h|h
  ·exact⟨o,h⟩
  ·obtain⟨l,hl⟩:=tab b h
   exact⟨_,hl⟩
theorem mH{w:World}{s₁:Af}{ar:Nat}{xs:Ak}(Y:K1 w s₁.heap)(P4:s₁.heap.get? ar=some ⟨.type "list",none,.seq ⟨xs⟩ 0,⟨[]⟩⟩)(hg:s₁.gens=#[])
 (h: ∀B:Bx,B.C.Ok->B.Std->Bv B.C callerA (.call (.ref 322) ⟨[.ref ar],[]⟩) (dD ar xs) (λYa:Ak×Ak×Ak=>.ok (.ret (.bool true))) (λq=>[Zu ar xs,HF 206 q.1,HF 319 q.2.1,HF 274 q.2.2])):
 BN (Qf p w) callerA (call (.ref 322) [.ref ar] []) (λv s'=>v=.bool true/\OldK s₁.heap s'.heap/\s'.os=s₁.os/\Hu s'.gens) (λYa Ya=>False) s₁:=by
 obtain⟨hT,U⟩:=eH Y P4;obtain⟨o3,h3⟩:=Option.isSome_iff_exists.mp (Q9 w.params 322 ADl)
 obtain⟨n,o,hn,hm,Fo⟩:=dc (mu:=ar::T5) (Gx Y h3) (λq=>by
  rcases List.mem_cons.mp q with rfl|q
  ·exact U ADl
  ·exact absurd q ADm)
 have q:=Bv.run (h (Rf w s₁ ar n) (um Y hn hm Fo U) (rG ..)) [] s₁ (un Y hn P4 hg);have eM:(Rf w s₁ ar n).C.M=Qf p w:=by
  show Qf pF (Rf w s₁ ar n).C.w=_;rw[<-xI,uo]
 rw[eM] at q;exact Av q (λv s' ⟨x,e,S'⟩=>⟨e,rE Y hn Fo P4 S'⟩) λYa Ya q=>q
abbrev xp(p:Int×Nat):Value:=.int p.1 p.2
theorem UL{P:Params}{h:Heap}{R:WRecords}: ∀{xs:List WData} {vs:Ak},WellAll P h vs xs->WShape.hasItems R xs .int=true-> ∃ss:List (Int×Nat),vs=ss.map xp/\ss.length=xs.length
 |[],vs,w,_=>by cases w;exact⟨[],rfl,rfl⟩
 |x::xs,vs,w,hx=>by
  obtain⟨v,r,rfl,wv,wr⟩:=wellAll_cons_inv w;simp only[WShape.hasItems,FS] at hx;obtain⟨i,rfl⟩:=hasW_int hx.1;obtain⟨ss,rfl,hl⟩:=UL wr hx.2;cases wv with
  |int _ t=>exact⟨(i,t)::ss,rfl,by simp[hl]⟩
theorem oS{R:WRecords}{xs:List WData}{t:WTm}(h:(WTm.and (.not (.lt (.lit (.int 63)) (.len (.arg 0)))) t).holds R {args:=[.list xs]}=true):xs.length<=63:=by
 have h1:=(holds_andW h).1;unfold WTm.holds at h1;refine Ec λq=>?_;have q':(63:Int)<(xs.length:Int):=by lia
 simp[WTm.value,less?,Num.less?,q'] at h1
theorem ul{w:World}{h:Heap}{mg:Str->DP}(Y:K1 w h)(hN:h.Ns mainGlobals mg){fa:Addr}(e:mg "law"=some (.ref fa)):fa=322:=by
 obtain⟨o,es,ep,ho,hd,_,hm⟩:=hN;obtain⟨o3,uC,n,h0,h1,h2⟩: ∃o uC n,GL w.params 3=some o/\o.data=.dict ⟨uC⟩ n/\Nz ⟨uC⟩ "law"=some (.ref 322):=⟨r3 w.params,_,_,by rw[<-pW];exact(show KP w.params 3=some (r3 w.params) from rfl),rfl,by kernel_rfl⟩
 have:o=o3:=DZ (ho.symm.trans (Gx Y h0))
 subst this;rw[<-hm] at e;rw[h1] at hd;cases hd;rw[h2] at e;cases e;rfl
theorem Zr(ar:Addr)(ss:List (Int×Nat))(hl:ss.length<=63): ∀B:Bx,B.C.Ok->B.Std->Bv B.C callerA (.call (.ref 322) ⟨[.ref ar],[]⟩) (dD ar (ss.map xp)) (λYa:Ak×Ak×Ak=>.ok (.ret (.bool true))) (λq=>[Zu ar (ss.map xp),HF 206 q.1,HF 319 q.2.1,HF 274 q.2.2]):=λB O hS=>
 AC.pre (fu O hS (A:=callerA) ⟨rfl,by decide,by decide⟩ ⟨[],rfl,rfl,λYa h=>nomatch h⟩ ar ss ADj) λR s S=>S.BV (.refl _)
theorem ii:PySem.Challenge.rw_il0055_01.wellSaid=true:=by kernel_rfl
end
end Mine
theorem PySem.Challenge.cw_il0055_01_holds : PySem.Challenge.rw_il0055_01.Holds := by
 refine holds_law Mine.ii fun ACZ=>?_
 refine PySem.W.holds_open (q:=Mine.KE) (loose:=Mine.Vk) (Xt:=Mine.tH) (XP:=XL Mine.KE []) (Yf:=Mine.XR) (Ya:=Mine.TX) (YP:=Mine.K1) (N:=3600) Mine.mI Mine.mK Mine.iI (fun s e=>xl_of s (Bool.and_eq_true_iff.mp e).1) XL.keeps Mine.rD Mine.rH Mine.uk (fun s e=>recFacts_of (Bool.and_eq_true_iff.mp e).2) rfl (by assumption) (by decide+kernel) ⟨rfl,rfl,rfl,rfl,rfl,by decide+kernel⟩ ?hw ?hc
 (case hw=>w_witness2)
 intro w s₀ s₁ mg mb G Y fa o pm cd doc dV kV ho hd iH hD zO hg args vals as zU ACT hrd hwl vA
 clear hd hD
 rw[Mine.mJ] at zO
 have hfa:=Mine.ul Y G.T.g zO
 subst hfa
 obtain⟨h1,h2⟩:=pre_splitW zU
 obtain⟨d,r,rfl,h3,h4⟩:=hasAllW_cons h1
 obtain rfl:=hasAllW_nil h4
 obtain⟨xs,rfl,h5⟩:=hasW_list h3
 have h6:=Mine.oS h2
 obtain⟨v,vs,rfl,hv,dO⟩:=wellAll_cons_inv hwl
 cases dO
 cases hv
 rename_i ar ws P4 hws
 obtain⟨ss,rfl,h7⟩:=Mine.UL hws h5
 refine wpAny_mono (Mine.mH Y P4 hg (Mine.Zr ar ss (by lia))) (fun v s' ⟨e,K,os,ab⟩=>?_) fun _ _ q=>q.elim
 subst e
 refine⟨.inl ⟨.bool true,.bool true,[],rfl,fun _=>rfl,.bool true,?_,fun _=>⟨List.nodup_nil,fun _ hm=>nomatch hm⟩⟩,K,os,ab⟩
 first|rfl|wrow_post
