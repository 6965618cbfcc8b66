import PyProof.Rows.All
import Wide.All
import OpenK.AllK
import Wide.FinOn
import PySem.Challenge.RW_tc0058_02
set_option Elab.async false
set_option linter.all false
set_option linter.unusedVariables false
set_option genSizeOf false
set_option maxHeartbeats 0
set_option backward.match.sparseCases false
set_option compiler.extract_closed false
open PySem.Str renaming ofString->OO,join->S7
open List renaming range->OP,mem_singleton->OS,getElem?_eq_some_iff->OW,append_assoc->OY,mem_of_getElem?->O1,length_append->O2,append_nil->O4,mem_range->O5,all_eq_true->O6,getElem?_append_left->O7,getD_eq_getElem?_getD->O9,mem_cons_of_mem->Pa,length_map->Pc,mem_cons_self->Pe,getElem?_eq_getElem->Pf,getElem?_append_right->Pi,mem_append->Pk,getElem?_map->Pn,contains_iff_mem->Po,map_cons->Ps,prefix_append->Pv,replicate->Px,length_cons->Py,map_map->PH,set_cons_zero->PI,set_cons_succ->PJ,prefix_refl->PK,not_mem_nil->PL,mem_cons->PW,map_congr_left->PX,mem_map->PY,size_toArray->P1,getElem?_eq_none->P6,length_range->Qg,exists_cons_of_length_eq_add_one->Qk,take_append_drop->Qm,mapM_cons->Qn,mem_flatMap->Qq,getElem?_set_ne->Qr,idxOf_lt_length_of_mem->Qu,getElem?_set_self->Qx,set_append_right->QC,length_filter_lt_length_iff_exists->QG,getElem?_range->QR,idxOf_cons->QV,flatten_cons->QY,take_succ_eq_append_getElem->QZ,forIn_nil->Q4,filter_cons_of_neg->Q7,filter_cons_of_pos->Q8,getElem_idxOf->Q9,toArray->Ra,forIn_cons->Rf,nodup_cons->Rg,of_mem_zip->Rh,map_append->Ri,getElem?_concat_length->Rl,count_append->Rm,getElem?_of_mem->Ro,lookup_cons->Ru,getElem_mem->Rv,length_take->Rx,getElem?_eq_none_iff->Rz,drop_eq_getElem_cons->RA,replicate_succ->RD,map_eq_nil_iff->RE,length_nil->RK,length_eq_zero_iff->RM,length->RQ,head_eq_of_cons_eq->RU,nodup_append->RY,getElem?_set->RZ,getElem?_inj->R8,length_drop->Sn,drop_eq_nil_iff->Sp,mem_of_mem_drop->Sr,length_set->Su,count_cons->Sv,flatten_append->Sy,set_set->SG,nodup_nil->SK,mem_filterMap->SL,mem_of_find?_eq_some->SR,exists_mem_of_ne_nil->SS,take_length->S6,nil_append->Te,range_succ->Tf,mem_filter->Th,mapM->Tp
open PySem renaming Expr->OQ,wpAny_bind->OR,Value->OT,Shared->OX,wpAny_pure->O3,starEach->Pb,wpAny->Ph,World->Pt,mainGlobals->Pz,FuncData->PF,DictEntry->Qj,Pos->Q6,storeName_local->Si,call->Tt
open Nat renaming le_trans->OZ,lt_of_lt_of_le->O0,le_refl->O8,ne_of_lt->Pg,not_lt_zero->Pm,lt_of_succ_lt_succ->Pp,le_of_lt->Pq,lt_of_le_of_lt->Pr,ne_of_gt->PE,le_add_left->PN,zero_le->PQ,lt_succ_self->PR,le_add_right->PT,not_lt->P9,le_of_eq->Qc,lt_trans->Qd,lt_succ_of_lt->Ql,add_sub_cancel_left->Qs,succ_le_succ->Qt,add_le_add_left->Qz,le_succ->QK,le_of_lt_succ->Q0,zero_add->Rw,mul_le_mul_left->RC,lt_irrefl->RF,lt_add_of_pos_right->RT,le_succ_of_le->RV,lt_or_ge->Sa,lt_of_succ_lt->Sd,le_of_ble_eq_true->Sk,add_le_add_right->Sq,le_antisymm->Sw,add_zero->SD,lt_of_le_of_ne->SN,mul_le_mul->SP,mod_lt->SQ,ctorIdx->SV,blt->S9,sub_self->Tb
open PySem.Heap renaming get?_push_size->Pd,get?_push_of_some->Pj,lt_size->Pu,size_push->PP,size_after_update->Qw,SameBut->Rt,get?_update_other->Sc,get?_push_ne->Se,get?_update_self->Sh,size_update->S5
open Option.some renaming inj->Pw,injEq->QX
open Bool renaming false_ne_true->PA,and_eq_true->PD,and_eq_true_iff->P0,eq_false_iff->P4,false_eq_true->P5,ctorIdx->QH,not_eq_true'->Q2,not_eq_true->Q5
open Int renaming toNat_natCast->PB,natCast_nonneg->PM,eq_ofNat_of_zero_le->QL,fmod_eq_emod_of_nonneg->QS,ofNat_lt->Rb,add_zero->Re,toNat_of_nonneg->Sx,ofNat_le->SF,natCast_add->Ti,natCast_mul->Tj
open PySem.Builtin.Str renaming strSliceIndices->PC,occurrences->RP
open PySem.Obj renaming mapSeq->PG,putName->Tn
open PySem.F renaming plainAttrs_list->PS,plainAttrs_str->Qe,slot_list_append->Qh,type_list_append->QE,slot_str_join->QN,type_str_join->QO,slot_list_index->Rj,type_list_index->Sf,slot_list_pop->Tc,slot_dict_get->Td
open PySem.PyData renaming canLayAll0->PV,canLay0->P3,depthAll->P8,eqvAll->Qb,int->Qp,eqv->QD,str->QF,depth->Rc,keyHash->Sb,list->SW
open Prod.mk renaming inj->PZ,injEq->Tq
open Array renaming length_toList->P7,getElem?_eq_some_iff->Rp,getElem?_toList->Sj,toList_inj->Sl,toArray_toList->So,getElem?_eq_none_iff->SJ,mk->Tv
open Nat.succ renaming inj->Qf
open PySem.Value renaming builtin->Qi,isInt->Rs,none->Sm,ref->S4,ctorIdx->Tr
open PySem.Value.ref renaming inj->Qv
open PySem.Builtin.SmallTypes renaming stopIteration->Qy
open Ne renaming symm->QA
open Option renaming isSome_iff_exists->QJ,map->Q3,bind_some->Ry
open ForInStep renaming yield->QM
open PySem.Heap.SameBut renaming update->QP
open PyProof.Rows renaming tail_any->QT,get?_update_seq->Ss,room_in_shaped->Sz,callWith_type1->SA,Attribute_any_->SE,Subscript_->S1,len_list->Tk,count_is->Tl,StrsAre->Tm,neg_int->To
open PySem.Calls renaming call_function_entry->QU
open PySem.Data renaming ctorIdx->QW
open PySem.SeqAt renaming shaped->Q1
open PySem.Builtin.List renaming listFitsIndex->Rn
open PySem.W.BT renaming set_node->Rq
open Classical renaming byContradiction->RB
open PySem.W.Fast renaming tw10994771534591457954->RG,te15722548840688424386->RH,te14491516231548247274->RI,te10077548348588599076->RJ
open PySem.AutoListH renaming list_append_list_val_0->R9
open PySem.Builtin renaming bitAnd->SH,bitOr->SZ
open PUnit renaming unit->SM
open PySem.W.WShape renaming has->SO,hasItems->Tg
open List.Pairwise renaming nil->ST
open PySem.NameKind renaming cell->SX
open List.cons renaming inj->SY
open PySem.Sem renaming wrap_wrap->S0
open PySem.Builtin.Range renaming rangeSize->S3
open PySem.W renaming getL->S8
open LawfulMonad renaming bind_assoc->Ta
open PySem.Heap.IsSliceOf renaming new->Ts
open Iff renaming rfl->Tu
namespace Mine
noncomputable def q1:=@PySem.W.Fast.te14364793385576792824
noncomputable def q2:=@PySem.W.Fast.te10295753902157049106
noncomputable def q3:=@PySem.W.Fast.te11913375310210876947
noncomputable def q4:=@PySem.W.Fast.te10110043849684766642
end Mine
section
open PySem PySem.Calls
namespace Mine
theorem nc{α:Type}{P:Prop}{a b:α}(f:α->Nat)(e:a=b)(h:(f a).beq (f b)=false):P:=by
 subst e;rw[Nat.beq_refl]at h;cases h
theorem sj{α:Type}{a b:α}(e:some a=some b):a=b:=Pw e
theorem nO{α:Type}{P:Prop}{a:α}(e:none=some a):P:=nc Option.ctorIdx e rfl
theorem nS{α:Type}{P:Prop}{a:α}(e:some a=none):P:=nc Option.ctorIdx e rfl
theorem pj{α β:Type}{a c:α}{b d:β}(e:some (a,b)=some (c,d)):a=c/\b=d:=PZ (Pw e)
noncomputable abbrev sz(s:OX):Nat:=s.heap.objs.size
theorem MQ(s:OX)(a:Addr)(f:Obj->Obj):sz { s with heap:=s.heap.update a f }=sz s:=Qw _ _ _
theorem Hh(s:OX)(o:Obj):sz { s with heap:=s.heap.push o }=sz s+1:=PP _ _
theorem sY{M:Model}{Γ:Ctx}{p:Pos}{t:Sem Fin}{fs:List Frame}{s s':OX}{e:End}(h:Runs M Γ p t fs s e s'):sz s<=sz s':=by
 induction h<;>(try simp only[sz,PP,Qw,Shared.setGen]at *)<;>lia
theorem Et{M:Model}{Γ:Ctx}{p:Pos}{g:Nat}{r:Resume}{s s':OX}{res:GenResult}(h:Wakes M Γ p g r s res s'):sz s<=sz s':=by
 unfold Wakes at h
 split at h
 ·exact h.elim
 ·split at h
  ·obtain⟨e1,s₁,hr,_,_,rfl⟩:=h;exact(sY hr:sz (s.setGen g .running)<=sz s₁)
  ·rw[h.2];exact O8 _
  ·rw[h.2];exact O8 _
 ·obtain⟨e1,s₁,hr,_,_,rfl⟩:=h;exact(sY hr:sz (s.setGen g .running)<=sz s₁)
 ·rw[h.2];exact O8 _
 ·rw[h.2];exact O8 _
open Sem in
theorem M5{α:Type}(M:Model)(Γ:Ctx)(n:Nat)(t:Sem α):∀(Q:α->Pos->OX->Prop)(E:OT->Pos->OX->Prop)(p:Pos)(s:OX),n<=sz s->wp M Γ t Q E p s ->
  wp M Γ t (λa p' s'=>n<=sz s'/\Q a p' s') (λe p' s'=>n<=sz s'/\E e p' s') p s:=by
 induction t with
 | pure a=>intro Q E p s hn h;exact⟨hn,h⟩
 | raise e=>intro Q E p s hn h;exact⟨hn,h⟩
 | unsupported _=>intro Q E p s _ h;exact h
 | finish _=>intro Q E p s _ h;exact h
 | rule _ k ih=>intro Q E p s hn h;exact ih () Q E p s hn h
 | «at» p' k ih=>intro Q E p s hn h;exact ih () Q E p' s hn h
 | load a _ k ih=>intro Q E p s hn h;obtain⟨o,ho,h⟩:=h;exact⟨o,ho,ih o Q E p s hn h⟩
 | update a _ f k ih=>intro Q E p s hn h;exact⟨h.1,ih () Q E p _ (by rw[MQ];exact hn) h.2⟩
 | loadIfAlive a k ih=>intro Q E p s hn h;exact ih _ Q E p s hn h
 | point _ k ih=>intro Q E p s hn h;exact ih () Q E p s hn h
 | register _ _=>intro Q E p s _ h;exact h
 | alloc o k ih=>intro Q E p s hn h;exact ih _ Q E p _ (by rw[Hh];exact RV hn) h
 | fresh k ih=>intro Q E p s hn h;exact ih _ Q E p _ hn h
 | ask k ih=>intro Q E p s hn h;exact ih _ Q E p s hn h
 | choose src m k ih=>intro Q E p s hn h;exact⟨h.1,ih _ Q E p _ hn h.2⟩
 | os q _ k ih=>intro Q E p s hn h;exact ih _ Q E p _ hn h
 | call c hd _ _ k ih=>intro Q E p s hn h;obtain⟨r,s',hr,h⟩:=h;exact⟨r,s',hr,ih r Q E p s' (OZ hn (sY hr)) h⟩
 | handled own k ih=>intro Q E p s hn h;exact ih _ Q E p s hn h
 | genState g k ih=>intro Q E p s hn h;obtain⟨st,hs,h⟩:=h;exact⟨st,hs,ih _ Q E p s hn h⟩
 | newGen c k ih=>intro Q E p s hn h;exact ih _ Q E p _ hn h
 | resume g r _ k ih=>intro Q E p s hn h;obtain⟨res,s',hw,h⟩:=h;exact⟨res,s',hw,ih res Q E p s' (OZ hn (Et hw)) h⟩
 | yield _ _ _ _=>intro Q E p s _ h;exact h
 | stack k ih=>intro Q E p s hn h;exact ih _ Q E p s hn h
 | fork _ _=>intro Q E p s _ h;exact h
 | thread k ih=>intro Q E p s hn h;exact ih _ Q E p s hn h
 | await _ _ _ _ _=>intro Q E p s _ h;exact h
theorem bQ{α:Type}{M:Model}{A:Around}{s:OX}{t:Sem α}{Q:α->OX->Prop}{E:OT->OX->Prop}{n:Nat}(hn:n<=sz s)
  (h:Ph M A t (λa s'=>n<=sz s'->Q a s') (λe s'=>n<=sz s'->E e s') s):Ph M A t Q E s :=
 wpAny_mono (Q:=λa s'=>n<=sz s'/\(n<=sz s'->Q a s')) (E:=λe s'=>n<=sz s'/\(n<=sz s'->E e s'))
  (λΓ p hΓ=>M5 M Γ n t _ _ p s hn (h Γ p hΓ)) (λu u x=>x.2 x.1) (λu u x=>x.2 x.1)
inductive V where
 | none | bool (b:Bool) | int (i:Int) | str (x:Str) | ref (k:Nat) | glob (v:OT)
 deriving DecidableEq,Inhabited
inductive O where
 | list (xs:List V)
 | tup (xs:List V)
 | dict (es:List (Str×V))
 | inst (c:Addr) (d:Nat)
 | attrs (fs:List (Str×V))
 | bound (self:V) (f:Addr)
 | cell (v:V)
 | clo (params:Arguments) (body:FuncBody) (scope:Scope) (qual:Str) (cs:List (Str×Nat))
 | callIter (f:V) (sentinel:V) (ended:Bool)
 | listIter (l:Nat) (i:Nat)
 | dead
structure St where
 σ:List O
 L:List (Option V)
noncomputable abbrev M(α:Type):=St->Option (α×St)
noncomputable def aU(ρ:List Addr):V->OT->Prop
 | .none,v=>v=.none
 | .bool b,v=>v=.bool b
 | .int i,v=>∃t,v=.int i t
 | .str x,v=>∃t,v=.str x t
 | .ref k,v=>∃a,ρ[k]?=some a/\v=.ref a
 | .glob g,v=>v=g
noncomputable def aL(ρ:List Addr):List V->List OT->Prop
 | [],[]=>True
 | x::xs,v::vs=>aU ρ x v/\aL ρ xs vs
 | _,_=>False
theorem bP{α:Type}{ρ ρ':List α}(h:ρ<+: ρ'){k:Nat}{a:α}(e:ρ[k]?=some a):ρ'[k]?=some a:=by
 obtain⟨t,rfl⟩:=h
 rw[O7 (OW.mp e).1];exact e
theorem aU.mono{ρ ρ':List Addr}(h:ρ<+: ρ'){x:V}{v:OT}(r:aU ρ x v):aU ρ' x v:=by
 cases x<;>try exact r
 obtain⟨a,h1,h2⟩:=r
 exact⟨a,bP h h1,h2⟩
theorem aL.mono{ρ ρ':List Addr}(h:ρ<+: ρ'):∀{xs:List V}{vs:List OT},aL ρ xs vs->aL ρ' xs vs:=by
 intro xs
 induction xs with
 | nil=>intro vs r;cases vs<;>exact r
 | cons x xs ih =>
  intro vs r
  cases vs with
  | nil=>exact r
  | cons v vs=>exact⟨r.1.mono h,ih r.2⟩
theorem aL.length{ρ:List Addr}:∀{xs:List V}{vs:List OT},aL ρ xs vs->xs.length=vs.length:=by
 intro xs
 induction xs with
 | nil=>intro vs r;cases vs<;>first | rfl | exact r.elim
 | cons x xs ih =>
  intro vs r
  cases vs with
  | nil=>exact r.elim
  | cons v vs=>exact congrArg Nat.succ (ih r.2)
theorem aL.append{ρ:List Addr}:∀{xs ys:List V}{vs us:List OT},aL ρ xs vs->aL ρ ys us->aL ρ (xs++ys) (vs++us):=by
 intro xs
 induction xs with
 | nil=>intro ys vs us r q;cases vs<;>first | exact q | exact r.elim
 | cons x xs ih =>
  intro ys vs us r q
  cases vs with
  | nil=>exact r.elim
  | cons v vs=>exact⟨r.1,ih r.2 q⟩
theorem aL.get{ρ:List Addr}:∀{xs:List V}{vs:List OT}{i:Nat}{x:V},aL ρ xs vs->xs[i]?=some x->∃v,vs[i]?=some v/\aU ρ x v:=by
 intro xs
 induction xs with
 | nil=>intro vs i x r e;exact nO e
 | cons y xs ih =>
  intro vs i x r e
  cases vs with
  | nil=>exact r.elim
  | cons v vs =>
   cases i with
   | zero=>exact⟨v,rfl,Pw e▸r.1⟩
   | succ i=>exact ih (vs:=vs) (i:=i) r.2 e
theorem aL.take{ρ:List Addr}:∀{xs:List V}{vs:List OT}(n:Nat),aL ρ xs vs->aL ρ (xs.take n) (vs.take n):=by
 intro xs
 induction xs with
 | nil=>intro vs n r;cases vs<;>first | exact r.elim | (simp;trivial)
 | cons y xs ih =>
  intro vs n r
  cases vs with
  | nil=>exact r.elim
  | cons v vs =>
   cases n with
   | zero=>trivial
   | succ n=>exact⟨r.1,ih n r.2⟩
theorem aL.drop{ρ:List Addr}:∀{xs:List V}{vs:List OT}(n:Nat),aL ρ xs vs->aL ρ (xs.drop n) (vs.drop n):=by
 intro xs
 induction xs with
 | nil=>intro vs n r;cases vs<;>first | exact r.elim | (simp;trivial)
 | cons y xs ih =>
  intro vs n r
  cases vs with
  | nil=>exact r.elim
  | cons v vs =>
   cases n with
   | zero=>exact r
   | succ n=>exact ih n r.2
noncomputable def lb(ρ:List Addr):List (Str×V)->List Qj->Prop
 | [],[]=>True
 | (n,x)::fs,e::es=>(∃t,e.key=.str n t)/\aU ρ x e.val/\lb ρ fs es
 | _,_=>False
theorem lb.mono{ρ ρ':List Addr}(h:ρ<+: ρ'):∀{xs:List (Str×V)}{vs:List Qj},lb ρ xs vs->lb ρ' xs vs:=by
 intro xs
 induction xs with
 | nil=>intro vs r;cases vs<;>exact r
 | cons x xs ih =>
  obtain⟨n,x⟩:=x
  intro vs r
  cases vs with
  | nil=>exact r
  | cons v vs=>exact⟨r.1,r.2.1.mono h,ih r.2.2⟩
noncomputable def i6(ρ:List Addr):Option V->Option OT->Prop
 | some x,some v=>aU ρ x v
 | none,none=>True
 | _,_=>False
theorem i6.mono{ρ ρ':List Addr}(h:ρ<+: ρ'){x:Option V}{v:Option OT}(r:i6 ρ x v):i6 ρ' x v:=by
 cases x<;>cases v<;>first | exact r | exact aU.mono h r
noncomputable def cD(o:Obj):Prop:=(∀vs,o.data≠.fields vs)\/(o.cls≠.type "code"/\o.cls≠.none)
structure KR(ρ:List Addr)(h:Heap)(a:Addr)(params:Arguments)(body:FuncBody)(scope:Scope)(qual:Str)(cs:List (Str×Nat))(o:Obj)(fd:PF)(c:Addr):Prop where
 at_:h.get? a=some o
 data:o.data=.func fd
 params_:fd.params=params
 body_:fd.body=body
 scope_:fd.scope=scope
 qual_:fd.qualname=qual
 globals:fd.globals=Pz
 builtins:fd.builtins=builtinsNs
 defaults:fd.defaults=.none
 kwdefaults:fd.kwdefaults=.none
 code:fd.code=.ref c
 crec:h.CodeRec (.ref c) qual
 cobj:∃oc,h.get? c=some oc/\¬cD oc/\oc.cls≠.type "frame"
 out:c∉ρ
 names:fd.closure.map (·.1)=cs.map (·.1)
 cells:∀(i:Nat)(n:Str)(k:Nat),cs[i]?=some (n,k)->∃b:Addr,fd.closure[i]?=some (n,b)/\ρ[k]?=some b
noncomputable def i5(prog:Program)(w:Pt)(ρ:List Addr)(h:Heap)(a:Addr):O->Prop
 | .list xs=>∃vs n,h.get? a=some { cls:=.type "list",data:=.seq vs n }/\aL ρ xs vs.toList
 | .tup xs=>∃vs n,h.get? a=some { cls:=.type "tuple",data:=.seq vs n }/\aL ρ xs vs.toList
 | .dict es=>∃m,h.MapOf (strKind prog w) a m/\∀k,i6 ρ (es.lookup k) (m k)
 | .inst c d=>∃b,ρ[d]?=some b/\h.get? a=some (PySem.W.instObj c b)
 | .attrs fs=>∃es n,h.get? a=some (PySem.W.dictOf es n)/\lb ρ fs es
 | .bound self f=>∃v,h.get? a=some (PySem.W.methodObj (.ref f) v)/\aU ρ self v
 | .cell v=>∃u,h.IsCell a (some u)/\aU ρ v u
 | .clo params body scope qual cs=>∃o fd c,KR ρ h a params body scope qual cs o fd c
 | .callIter f z e=>∃v u,h.get? a=some { cls:=.type "callable_iterator",data:=.fields #[v,u,.bool e] }/\(e=false->aU ρ f v/\aU ρ z u)
 | .listIter l i=>∃b,ρ[l]?=some b/\h.get? a=some { cls:=.type "list_iterator",data:=.fields #[.ref b,.int i 0] }
 | .dead=>∃o,h.get? a=some o
noncomputable def cu(n₀:Nat)(h:Heap)(b:Addr)(o:Obj):Prop:=∃sl,h.get? b=some { o with slots:=sl }/\(sl=o.slots\/(o.cls=.type "frame"/\n₀<=b))
section
variable {n₀:Nat}{h h':Heap}{b:Addr}{o:Obj}
theorem cu.of(e:h.get? b=some o):cu n₀ h b o:=⟨o.slots,e,.inl rfl⟩
theorem cu.exact(x:cu n₀ h b o)(hc:o.cls≠.type "frame"):h.get? b=some o:=by
 obtain⟨sl,e,hs | hs⟩:=x
 ·rw[hs]at e;exact e
 ·exact absurd hs.1 hc
theorem cu.low(x:cu n₀ h b o)(hb:b<n₀):h.get? b=some o:=by
 obtain⟨sl,e,hs | hs⟩:=x
 ·rw[hs]at e;exact e
 ·exact absurd hb (P9.mpr hs.2)
theorem cu.trans(x:cu n₀ h b o)(y:∀o,h.get? b=some o->cu n₀ h' b o):cu n₀ h' b o:=by
 obtain⟨sl,e,hs⟩:=x
 obtain⟨sl',e',hs'⟩:=y _ e
 refine⟨sl',e',?_⟩
 rcases hs' with q | q
 ·rcases hs with p | p
  ·exact .inl (q.trans p)
  ·exact .inr p
 ·exact .inr q
theorem cu.data(x:cu n₀ h b o):∃o',h.get? b=some o'/\o'.data=o.data/\o'.cls=o.cls:=let ⟨_,e,_⟩:=x;⟨_,e,rfl,rfl⟩
theorem cu.ns{m:Str->Option OT}(hn:h.Ns b m)(y:∀o,h.get? b=some o->cu n₀ h' b o):h'.Ns b m:=by
 obtain⟨o,es,ep,ho,hd,hs⟩:=hn
 obtain⟨o',e,d,_⟩:=(y o ho).data
 exact⟨o',es,ep,e,d.trans hd,hs⟩
theorem cu.cell{u:Option OT}(hn:h.IsCell b u)(y:∀o,h.get? b=some o->cu n₀ h' b o):h'.IsCell b u:=by
 obtain⟨o,ho,hd⟩:=hn
 obtain⟨o',e,d,_⟩:=(y o ho).data
 exact⟨o',e,d.trans hd⟩
end
inductive dc where
 | name (d:Addr) (n:Str)
 | cell (c:Addr)
 | store (k:Nat) (c:Addr)
 | dead
noncomputable def dc.addr:dc->List Addr
 | .name d _=>[d]
 | .cell c=>[c]
 | .store _ _=>[]
 | .dead=>[]
set_option genInjectivity false in
structure Fc where
 env:Env
 stk:List Env
 names:List (Option Str)
 locs:List dc
noncomputable def mY(env:Env)(n:Str):dc->Prop
 | .name d n'=>n'=n/\d=env.locals/\env.kindOf n=some .local
 | .cell c=>(env.kindOf n=some .cell\/(env.kindOf n=some .free/\(n==("__classdict__":Str))=false))/\env.cells.lookup n=some c
 | .store _ c=>env.kindOf n=some .free/\(n==("__classdict__":Str))=false/\env.cells.lookup n=some c
 | .dead=>False
set_option genInjectivity false in
structure Fc.Ok(P:Fc):Prop where
 fn:P.env.scope.kind=.function
 at_:∀(i:Nat)(n:Str),P.names[i]?=some (some n)->∃l:dc,P.locs[i]?=some l/\mY P.env n l
 len:P.names.length=P.locs.length
 uniq:∀(i j:Nat)(l:dc),P.locs[i]?=some l->P.locs[j]?=some l->l.addr≠[]->i=j
noncomputable def Fc.wr(P:Fc):List Addr:=P.locs.flatMap dc.addr
noncomputable def mX(σ:List O)(ρ:List Addr)(h:Heap)(x:Option V):dc->Prop
 | .name d n=>∃m,h.Ns d m/\i6 ρ x (m n)
 | .cell c=>∃u,h.IsCell c u/\i6 ρ x u
 | .store k c=>ρ[k]?=some c/\∃v,σ[k]?=some (.cell v)/\x=some v
 | .dead=>True
noncomputable def HD(o:Obj):Prop:=o.cls≠.type "frame"\/∀es m,o.data≠.dict es m
set_option genInjectivity false in
structure bc where
 prog:Program
 w:Pt
 h₀:Heap
 tabs:List Addr
 os:OsState
 tab:List Addr->Heap->Prop
noncomputable abbrev bc.n₀(B:bc):Nat:=B.h₀.objs.size
set_option genInjectivity false in
structure bc.Ok(B:bc):Prop where
 tab_step:∀ρ ρ' h h',B.tab ρ h->(∀b o,h.get? b=some o->¬cD o->o.cls≠.type "frame"->b∉ρ->h'.get? b=some o)->(∀a∈ρ',a∈ρ\/∀o,h.get? a=some o->cD o)->B.tab ρ' h'
 top:∃o,B.h₀.get? (B.h₀.objs.size - 1)=some o
 tab_live:∀ρ h,B.tab ρ h->∀a∈B.tabs,∃o,h.get? a=some o
noncomputable def gY(B:bc)(ρ:List Addr)(h:Heap)(e:Env):Prop :=
 e.scope.kind≠.module/\∃L o,e.frame=some L/\B.n₀<=L/\L∉ρ/\h.get? L=some o/\o.cls=.type "frame"/\∃es n,o.data=.dict es n
structure Rel0(B:bc)(P:Fc)(ρ:List Addr)(st:St)(s:OX):Prop where
 len:ρ.length=st.σ.length
 nodup:ρ.Nodup
 obj:∀(k:Nat)(a:Addr)(o:O),ρ[k]?=some a->st.σ[k]?=some o->i5 B.prog B.w ρ s.heap a o
 live:∀a∈ρ,∃o,s.heap.get? a=some o/\HD o
 llen:st.L.length=P.locs.length
 loc:∀(i:Nat)(l:dc)(x:Option V),P.locs[i]?=some l->st.L[i]?=some x->mX st.σ ρ s.heap x l
 kept:∀b o,B.h₀.get? b=some o->s.heap.get? b=some o
 tab:B.tab ρ s.heap
 fresh:∀a∈ρ,B.n₀<=a
 wfresh:∀a∈P.wr,B.n₀<=a
 apart:∀a∈P.wr,a∉ρ
 wlive:∀a∈P.wr,∃o,s.heap.get? a=some o/\cD o
 stk:∀e∈P.stk,gY B ρ s.heap e
 ns:∃m,s.heap.Ns P.env.locals m
 nsfresh:B.n₀<=P.env.locals
 nsapart:P.env.locals∉ρ
 gens:s.gens= #[]
 os:s.os=B.os
structure bk(B:bc)(P:Fc)(ρ:List Addr)(s:OX)(ρ':List Addr)(s':OX):Prop where
 pre:ρ<+: ρ'
 keep:∀b o,s.heap.get? b=some o->b∉ρ->b∉P.wr->b∉B.tabs->cu B.n₀ s'.heap b o
 new:∀a∈ρ',a∈ρ\/sz s<=a
structure aW(B:bc)(P:Fc)(ρ:List Addr)(s:OX)(ρ':List Addr)(s':OX):Prop extends bk B P ρ s ρ' s' where
 size:sz s<=sz s'
section
variable {B:bc}{P:Fc}{ρ ρ' ρ'':List Addr}{st st':St}{s s' s'':OX}
theorem bk.refl:bk B P ρ s ρ s:=⟨PK _,λu u e u u u=>.of e,λu h=>.inl h⟩
theorem aW.refl:aW B P ρ s ρ s:=⟨bk.refl,O8 _⟩
theorem bo{h:Heap}{a:Addr}{o:Obj}{p:Prop}(e:h.get? a=some o)(q:h.objs.size<=a):p:=absurd (Pu e) (P9.mpr q)
theorem aW.trans(x:aW B P ρ s ρ' s')(y:aW B P ρ' s' ρ'' s''):aW B P ρ s ρ'' s'':=by
 refine⟨⟨x.pre.trans y.pre,λb o e h1 h2 h3=>?_,λa ha=>?_⟩,OZ x.size y.size⟩
 ·refine(x.keep b o e h1 h2 h3).trans λo' e'=>y.keep b o' e' (λhb=>?_) h2 h3
  rcases x.new b hb with q | q
  ·exact h1 q
  ·exact bo e q
 ·rcases y.new a ha with q | q
  ·exact x.new a q
  ·exact .inr (OZ x.size q)
structure zG(B:bc)(ρ:List Addr)(ch:List Addr)(h:Heap)(ρ':List Addr)(h':Heap):Prop where
 pre:ρ<+: ρ'
 keep:∀b o,h.get? b=some o->b∉ch->cu B.n₀ h' b o
 only:∀b∈ch,b∈ρ\/∃o,h.get? b=some o/\cD o
 new:∀a∈ρ',a∈ρ\/∀o,h.get? a=some o->cD o/\HD o
 nodup:ρ'.Nodup
theorem i5.keep{prog:Program}{w:Pt}{h h':Heap}{a:Addr}{o:O}(pre:ρ<+: ρ')(kd:∀o',h.get? a=some o'->∃o'',h'.get? a=some o''/\o''.data=o'.data/\(o'.cls≠.type "frame"->o''=o'))
  (kc:∀c oc vs x t,c∉ρ->h.get? c=some oc->¬cD oc->oc.cls≠.type "frame"->oc.data=.fields vs->vs[1]?=some (.str x t)->h'.get? c=some oc/\c∉ρ') (r:i5 prog w ρ h a o):i5 prog w ρ' h' a o:=by
 have k:∀o',h.get? a=some o'->o'.cls≠.type "frame"->h'.get? a=some o':=λo' e hc=>let ⟨_,e',_,hq⟩:=kd o' e;hq hc▸e'
 cases o with
 | list xs=>obtain⟨vs,n,e,q⟩:=r;exact⟨vs,n,k _ e (by simp),q.mono pre⟩
 | tup xs=>obtain⟨vs,n,e,q⟩:=r;exact⟨vs,n,k _ e (by simp),q.mono pre⟩
 | dict es =>
  obtain⟨m,⟨ob,des,ep,e,hx,r⟩,q⟩:=r
  exact⟨m,⟨ob,des,ep,k _ e (by rw[hx.1];simp),hx,r⟩,λkey=>(q key).mono pre⟩
 | inst c d=>obtain⟨b,e1,e2⟩:=r;exact⟨b,bP pre e1,k _ e2 (by simp)⟩
 | attrs fs=>obtain⟨es,n,e,q⟩:=r;exact⟨es,n,k _ e (by simp),q.mono pre⟩
 | bound self f=>obtain⟨v,e,q⟩:=r;exact⟨v,k _ e (by simp),q.mono pre⟩
 | cell v =>
  obtain⟨u,⟨oc,e,hd⟩,q⟩:=r
  obtain⟨o2,e2,d2,_⟩:=kd _ e
  exact⟨u,⟨o2,e2,d2.trans hd⟩,q.mono pre⟩
 | clo params body scope qual cs =>
  obtain⟨ob,fd,c,r⟩:=r
  obtain⟨ob',eb,hdb,_⟩:=kd ob r.at_
  obtain⟨c',oc,vs,t,q1,q2,q3,q4⟩:=r.crec
  obtain rfl:=Qv q1
  obtain⟨oc',q2',hnp,hnf⟩:=r.cobj
  cases q2.symm.trans q2'
  obtain⟨ec,hn⟩:=kc c oc vs _ t r.out q2 hnp hnf q3 q4
  exact⟨ob',fd,c,{ r with at_:=eb,data:=hdb.trans r.data,crec:=⟨c,oc,vs,t,rfl,ec,q3,q4⟩,cobj:=⟨oc,ec,hnp,hnf⟩,out:=hn,cells:=λi n kk hi=>let ⟨b,h1,h2⟩:=r.cells i n kk hi;⟨b,h1,bP pre h2⟩ }⟩
 | callIter f z en=>obtain⟨v,u,e,q⟩:=r;exact⟨v,u,k _ e (by simp),λhe=>⟨(q he).1.mono pre,(q he).2.mono pre⟩⟩
 | listIter l i=>obtain⟨b,e1,e⟩:=r;exact⟨b,bP pre e1,k _ e (by simp)⟩
 | dead=>obtain⟨o',e⟩:=r;obtain⟨o'',e',_⟩:=kd o' e;exact⟨o'',e'⟩
theorem i5.step{ch:List Addr}{h h':Heap}{a:Addr}{o:O}(S:zG B ρ ch h ρ' h')(ha:a∉ch)(r:i5 B.prog B.w ρ h a o):i5 B.prog B.w ρ' h' a o:=by
 refine r.keep S.pre (λo' e=>?_) λc oc vs x t hc e np nf u u=>?_
 ·have x:=S.keep a o' e ha
  obtain⟨o2,e2,d2,_⟩:=x.data
  exact⟨o2,e2,d2,λhc=>Pw (e2.symm.trans (x.exact hc))⟩
 ·refine⟨(S.keep c oc e λhm=>?_).exact nf,λhm=>?_⟩
  ·rcases S.only c hm with q | ⟨o',q,qf⟩
   ·exact hc q
   ·rw[e]at q;obtain rfl:=sj q;exact np qf
  ·rcases S.new c hm with q | q
   ·exact hc q
   ·exact np (q _ e).1
theorem mX.step{σ σ':List O}{ch:List Addr}{h h':Heap}{l:dc}{x:Option V}(S:zG B ρ ch h ρ' h')(ha:∀a∈l.addr,a∉ch)(hst:∀(k:Nat)(v:V),σ[k]?=some (.cell v)->σ'[k]?=some (.cell v))(r:mX σ ρ h x l):mX σ' ρ' h' x l:=by
 cases l with
 | name d n=>obtain⟨m,hn,q⟩:=r;exact⟨m,cu.ns hn λo e=>S.keep d o e (ha d (by simp[dc.addr])),q.mono S.pre⟩
 | cell c=>obtain⟨u,hn,q⟩:=r;exact⟨u,cu.cell hn λo e=>S.keep c o e (ha c (by simp[dc.addr])),q.mono S.pre⟩
 | store k c=>obtain⟨h1,v,h2,h3⟩:=r;exact⟨bP S.pre h1,v,hst k v h2,h3⟩
 | dead=>trivial
theorem gY.step{ch:List Addr}{h h':Heap}{e:Env}(S:zG B ρ ch h ρ' h')(hch:∀b∈ch,b∈ρ\/∀o,h.get? b=some o->o.cls=.type "frame"->(∃es n,o.data=.dict es n)->∃o',h'.get? b=some o'/\o'.cls=.type "frame"/\∃es n,o'.data=.dict es n)(r:gY B ρ h e):gY B ρ' h' e:=by
 obtain⟨hk,L,o,hf,h0,hL,ho,hc,hd⟩:=r
 refine⟨hk,L,?_⟩
 have hL':L∉ρ':=λhm=>by
  rcases S.new L hm with q | q
  ·exact hL q
  ·obtain⟨es,m,hd⟩:=hd
   rcases(q _ ho).2 with h | h
   ·exact h hc
   ·exact h _ _ hd
 by_cases hm:L∈ch
 ·rcases hch L hm with q | q
  ·exact absurd q hL
  ·obtain⟨o',h1,h2,h3⟩:=q o ho hc hd
   exact⟨o',hf,h0,hL',h1,h2,h3⟩
 ·obtain⟨o',e',hd',hc'⟩:=(S.keep L o ho hm).data
  exact⟨o',hf,h0,hL',e',hc'.trans hc,by rw[hd'];exact hd⟩
theorem Rel0.size(OK:B.Ok)(R:Rel0 B P ρ st s):B.n₀<=s.heap.objs.size:=by
 obtain⟨o,e⟩:=OK.top
 have h1:=Pu e
 have h2:B.h₀.objs.size - 1<s.heap.objs.size:=Pu (R.kept _ o e)
 show B.h₀.objs.size<=_
 omega
theorem Rel0.stepF{ch:List Addr}(OK:B.Ok)(R:Rel0 B P ρ st s)(S:zG B ρ ch s.heap ρ' s'.heap)(hch:∀b∈ch,B.h₀.get? b=none)(hlen:ρ'.length=st'.σ.length)(hst:∀(k:Nat)(v:V),st.σ[k]?=some (.cell v)->st'.σ[k]?=some (.cell v))(hll:st'.L.length=st.L.length)
  (hobj:∀(k:Nat)(a:Addr)(o:O),ρ'[k]?=some a->st'.σ[k]?=some o->(a∉ch/\ρ[k]?=some a/\st.σ[k]?=some o)\/i5 B.prog B.w ρ' s'.heap a o)
  (hloc:∀(i:Nat)(l:dc)(x:Option V),P.locs[i]?=some l->st'.L[i]?=some x->((∀a∈l.addr,a∉ch)/\st.L[i]?=some x)\/mX st'.σ ρ' s'.heap x l)
  (hlive:∀a∈ρ',(a∈ρ/\a∉ch)\/∃o,s'.heap.get? a=some o/\HD o)
  (hwl:∀a∈P.wr,a∉ch\/∃o,s'.heap.get? a=some o/\cD o)
  (hfr:∀e∈P.stk,gY B ρ s.heap e->gY B ρ' s'.heap e) (hnew:∀a∈ρ',a∈ρ\/(B.n₀<=a/\a∉P.wr/\a≠P.env.locals))
  (hns:P.env.locals∉ch\/∃m,s'.heap.Ns P.env.locals m) (hg:s'.gens=s.gens) (ho:s'.os=s.os):Rel0 B P ρ' st' s':=by
 refine⟨hlen,S.nodup,λk a o h1 h2=>?_,λa ha=>?_,hll.trans R.llen,λi l x h1 h2=>?_,λb o e=>?_,?_,λa ha=>?_,R.wfresh,λa ha hm=>?_,λa ha=>?_,λe he=>hfr e he (R.stk e he),?_,R.nsfresh,λhm=>?_,hg.trans R.gens,ho.trans R.os⟩
 ·rcases hobj k a o h1 h2 with⟨q1,q2,q3⟩ | q
  ·exact(R.obj k a o q2 q3).step S q1
  ·exact q
 ·rcases hlive a ha with⟨q1,q2⟩ | q
  ·obtain⟨o,e,hc⟩:=R.live a q1
   obtain⟨o',e',hd,hcl⟩:=(S.keep a o e q2).data
   exact⟨o',e',by unfold HD;rw[hd,hcl];exact hc⟩
  ·exact q
 ·rcases hloc i l x h1 h2 with⟨q1,q2⟩ | q
  ·exact(R.loc i l x h1 q2).step S q1 hst
  ·exact q
 ·exact(S.keep b o (R.kept b o e) λhm=>by have:=hch b hm;rw[e]at this;exact nS this).low (Pu e)
 ·refine OK.tab_step ρ ρ' s.heap s'.heap R.tab (λb o e hd hcl hb=>?_) λa ha=>(S.new a ha).imp id λq o e=>(q o e).1
  have hbc:b∉ch:=λhm=>by
   rcases S.only b hm with q | ⟨o',q,qf⟩
   ·exact hb q
   ·rw[e]at q;obtain rfl:=sj q;exact hd qf
  exact(S.keep b o e hbc).exact hcl
 ·rcases hnew a ha with q | q
  ·exact R.fresh a q
  ·exact q.1
 ·rcases hnew a hm with q | q
  ·exact R.apart a ha q
  ·exact q.2.1 ha
 ·rcases hwl a ha with q | q
  ·obtain⟨o,e,hd⟩:=R.wlive a ha
   obtain⟨o',e',hd',hc'⟩:=(S.keep a o e q).data
   exact⟨o',e',by unfold cD;rw[hd',hc'];exact hd⟩
  ·exact q
 ·rcases hns with q | q
  ·obtain⟨m,hm⟩:=R.ns
   exact⟨m,cu.ns hm λo e=>S.keep _ o e q⟩
  ·exact q
 ·rcases hnew _ hm with q | q
  ·exact R.nsapart q
  ·exact q.2.2 rfl
theorem Rel0.step{ch:List Addr}(OK:B.Ok)(R:Rel0 B P ρ st s)(S:zG B ρ ch s.heap ρ' s'.heap)(hch:∀b∈ch,B.n₀<=b)(hlen:ρ'.length=st'.σ.length)(hst:∀(k:Nat)(v:V),st.σ[k]?=some (.cell v)->st'.σ[k]?=some (.cell v))(hll:st'.L.length=st.L.length)
  (hobj:∀(k:Nat)(a:Addr)(o:O),ρ'[k]?=some a->st'.σ[k]?=some o->(a∉ch/\ρ[k]?=some a/\st.σ[k]?=some o)\/i5 B.prog B.w ρ' s'.heap a o)
  (hloc:∀(i:Nat)(l:dc)(x:Option V),P.locs[i]?=some l->st'.L[i]?=some x->((∀a∈l.addr,a∉ch)/\st.L[i]?=some x)\/mX st'.σ ρ' s'.heap x l)
  (hlive:∀a∈ρ',(a∈ρ/\a∉ch)\/∃o,s'.heap.get? a=some o/\HD o)
  (hwl:∀a∈P.wr,a∉ch\/∃o,s'.heap.get? a=some o/\cD o)
  (hfr:∀b∈ch,b∈ρ\/∀o,s.heap.get? b=some o->o.cls=.type "frame"->(∃es n,o.data=.dict es n)->∃o',s'.heap.get? b=some o'/\o'.cls=.type "frame"/\∃es n,o'.data=.dict es n)
  (hnw:∀a∈ρ',a∈ρ\/sz s<=a) (hns:P.env.locals∉ch\/∃m,s'.heap.Ns P.env.locals m) (hg:s'.gens=s.gens) (ho:s'.os=s.os):Rel0 B P ρ' st' s' :=
 R.stepF OK S (λb hb=>Heap.get?_none_of_le (hch b hb)) hlen hst hll hobj hloc hlive hwl (λe u h=>h.step S hfr) (λa ha=>(hnw a ha).imp id λq=>⟨OZ (R.size OK) q,λhm=>by
  obtain⟨o,e,_⟩:=R.wlive a hm;exact bo e q,λhm=>by obtain⟨m,o,es,ep,e,_⟩:=R.ns;rw[<- hm]at e;exact bo e q⟩) hns hg ho
theorem JB{h:Heap}{a:Addr}(q:h.objs.size<=a):∀o,h.get? a=some o->cD o/\HD o:=λo e=>bo e q
theorem Rel0.ext(OK:B.Ok)(R:Rel0 B P ρ st s)(hk:∀b o,s.heap.get? b=some o->s'.heap.get? b=some o)(hg:s'.gens=s.gens)(ho:s'.os=s.os):Rel0 B P ρ st s' :=
 R.step (ch := []) OK ⟨PK _,λb o e u=>.of (hk b o e),λu h=>((nomatch h)),λu h=>.inl h,R.nodup⟩ (λu h=>(nomatch h)) R.len (λu u h=>h) rfl (λk a o h1 h2=>.inl ⟨PL,h1,h2⟩)
  (λi l x h1 h2=>.inl ⟨λu u=>PL,h2⟩) (λa h=>.inl ⟨h,PL⟩) (λa u=>.inl PL) (λu h=>(nomatch h)) (λu h=>.inl h) (.inl PL) hg ho
theorem bk.ext(hk:∀b o,s.heap.get? b=some o->s'.heap.get? b=some o):bk B P ρ s ρ s' :=
 ⟨PK _,λb o e u u u=>.of (hk b o e),λu h=>.inl h⟩
theorem aW.toks(tk:Nat):aW B P ρ s ρ { s with toks:=tk }:=⟨bk.ext λu u e=>e,O8 _⟩
theorem Rel0.toks(OK:B.Ok)(R:Rel0 B P ρ st s)(tk:Nat):Rel0 B P ρ st { s with toks:=tk }:=R.ext OK (λu u e=>e) rfl rfl
theorem iW{α:Type}{l:List α}{x y:α}{k:Nat}(h:(l++[x])[k]?=some y):l[k]?=some y\/(k=l.length/\y=x):=by
 rcases Nat.lt_trichotomy k l.length with q | q | q
 ·rw[O7 q]at h;exact .inl h
 ·subst q;simp at h;exact .inr ⟨rfl,h.symm⟩
 ·rw[Pi (by lia)]at h
  rw[P6 (by simp;lia)]at h;exact nO h
theorem Rel0.push{a:Addr}{o:O}(OK:B.Ok)(R:Rel0 B P ρ st s)(hk:∀b o,s.heap.get? b=some o->s'.heap.get? b=some o)(hn:sz s<=a)
  (hr:i5 B.prog B.w (ρ++[a]) s'.heap a o) (hl:∃ob,s'.heap.get? a=some ob/\ob.cls≠.type "frame") (hg:s'.gens=s.gens) (ho:s'.os=s.os):Rel0 B P (ρ++[a]) ⟨st.σ++[o],st.L⟩ s':=by
 have hna:a∉ρ:=λhm=>by obtain⟨ob,e,_⟩:=R.live a hm;exact bo e hn
 have hnw:∀x∈ρ++[a],x∈ρ\/sz s<=x:=λx h=>by
  rcases Pk.mp h with q | q
  ·exact .inl q
  ·rw[OS.mp q];exact .inr hn
 refine R.step (ch := []) OK ⟨Pv ..,λb o e u=>.of (hk b o e),λu h=>((nomatch h)),λx h=>?_,?_⟩ (λu h=>(nomatch h)) (by simp[R.len]) (λk v h=>bP (Pv ..) h) rfl (λk x y h1 h2=>?_)
  (λi l x h1 h2=>.inl ⟨λu u=>PL,h2⟩) (λx h=>?_) (λa u=>.inl PL) (λu h=>(nomatch h)) hnw (.inl PL) hg ho
 ·rcases Pk.mp h with q | q
  ·exact .inl q
  ·rw[OS.mp q];exact .inr (JB hn)
 ·rw[RY]
  exact⟨R.nodup,by simp,λx hx y hy=>by rw[OS.mp hy];rintro rfl;exact hna hx⟩
 ·rcases iW h1 with q | ⟨q1,rfl⟩
  ·rcases iW h2 with p | ⟨p1,_⟩
   ·exact .inl ⟨PL,q,p⟩
   ·have:=(OW.mp q).1;rw[R.len]at this;lia
  ·rcases iW h2 with p | ⟨_,rfl⟩
   ·have:=(OW.mp p).1;rw[<- R.len]at this;lia
   ·exact .inr hr
 ·rcases Pk.mp h with q | q
  ·exact .inl ⟨q,PL⟩
  ·rw[OS.mp q];obtain⟨ob,e,hc⟩:=hl;exact .inr ⟨ob,e,.inl hc⟩
theorem bk.push{a:Addr}(hk:∀b o,s.heap.get? b=some o->s'.heap.get? b=some o)(hn:sz s<=a):bk B P ρ s (ρ++[a]) s' :=
 ⟨Pv ..,λb o e u u u=>.of (hk b o e),λx h=>by
  rcases Pk.mp h with q | q
  ·exact .inl q
  ·rw[OS.mp q];exact .inr hn⟩
theorem Rel0.set{a:Addr}{k:Nat}{o:O}(OK:B.Ok)(R:Rel0 B P ρ st s)(ha:ρ[k]?=some a)(hnc:∀v,st.σ[k]?≠some (.cell v))(hk:∀b o,b≠a->s.heap.get? b=some o->s'.heap.get? b=some o)
  (hr:i5 B.prog B.w ρ s'.heap a o) (hl:∃ob,s'.heap.get? a=some ob/\ob.cls≠.type "frame") (hg:s'.gens=s.gens) (ho:s'.os=s.os):Rel0 B P ρ ⟨st.σ.set k o,st.L⟩ s':=by
 have hm:a∈ρ:=O1 ha
 refine R.step (ch := [a]) OK ⟨PK _,λb o e hb=>.of (hk b o (by simpa using hb) e),λb hb=>.inl (by rw[OS.mp hb];exact hm),λx h=>.inl h,R.nodup⟩
  (λb hb=>by rw[OS.mp hb];exact R.fresh a hm) (by simp[R.len]) (λj v h=>by
   rw[RZ]
   by_cases e:k=j
   ·subst e;exact absurd h (hnc v)
   ·rw[if_neg e];exact h) rfl (λj x y h1 h2=>?_) (λi l x h1 h2=>.inl ⟨λb hb hc=>?_,h2⟩) (λx h=>?_) (λb hb=>.inl λhc=>?_)
  (λb hb=>.inl (by rw[OS.mp hb];exact hm)) (λu h=>.inl h) (.inl λhc=>?_) hg ho
 ·rw[RZ]at h2
  by_cases e:k=j
  ·subst e
   rw[ha]at h1;obtain rfl:=sj h1
   have:=(OW.mp ha).1
   rw[R.len]at this
   simp only[if_true,this]at h2
   obtain rfl:=sj h2
   exact .inr hr
  ·rw[if_neg e]at h2
   refine .inl ⟨λhc=>e ?_,h1,h2⟩
   rw[OS.mp hc]at h1
   exact((R8 (OW.mp ha).1 R.nodup).mp (ha.trans h1.symm))
 ·rw[OS.mp hc]at hb
  exact R.apart a (by
   unfold Fc.wr;rw[Qq];exact⟨l,O1 h1,hb⟩) hm
 ·by_cases e:x=a
  ·subst e;obtain⟨ob,e,hc⟩:=hl;exact .inr ⟨ob,e,.inl hc⟩
  ·exact .inl ⟨h,by simpa using e⟩
 ·rw[OS.mp hc]at hb;exact R.apart a hb hm
 ·rw[OS]at hc
  rw[<- hc]at hm
  exact R.nsapart hm
theorem bk.set{a:Addr}{k:Nat}(ha:ρ[k]?=some a)(hk:∀b o,b≠a->s.heap.get? b=some o->s'.heap.get? b=some o):bk B P ρ s ρ s' :=
 ⟨PK _,λb o e hb u u=>.of (hk b o (λq=>hb (q▸O1 ha)) e),λu h=>.inl h⟩
theorem cN{l:dc}{a:Addr}{i:Nat}(hl:P.locs[i]?=some l)(ha:a∈l.addr):a∈P.wr:=by
 unfold Fc.wr;rw[Qq];exact⟨l,O1 hl,ha⟩
theorem lI{l:dc}{a:Addr}(h:a∈l.addr):(∃n,l=.name a n)\/l=.cell a:=by
 cases l with
 | name d n=>simp[dc.addr]at h;subst h;exact .inl ⟨n,rfl⟩
 | cell c=>simp[dc.addr]at h;subst h;exact .inr rfl
 | store k c=>simp[dc.addr]at h
 | dead=>simp[dc.addr]at h
theorem Rel0.storeName{d:Addr}{n:Str}{i:Nat}{x:V}{v:OT}(OK:B.Ok)(R:Rel0 B P ρ st s)(hl:P.locs[i]?=some (.name d n))(hu:∀(j:Nat),P.locs[j]?=some (.name d n)->j=i)(hr:aU ρ x v)
  {m:Str->Option OT} (hm:s.heap.Ns d m) (hn:s'.heap.Ns d (λy=>if y=n then some v else m y)) (hs:Rt d s.heap s'.heap) (hc:∀o,s.heap.get? d=some o->∃o',s'.heap.get? d=some o'/\o'.cls=o.cls)
  (hg:s'.gens=s.gens) (ho:s'.os=s.os):Rel0 B P ρ ⟨st.σ,st.L.set i (some x)⟩ s':=by
 have hmw:d∈P.wr:=cN hl (by simp[dc.addr])
 have hna:d∉ρ:=R.apart d hmw
 have hk:∀b o,b≠d->s.heap.get? b=some o->s'.heap.get? b=some o:=λb o hb e=>(hs.2 b hb).trans e
 have hd':∃o,s'.heap.get? d=some o/\∃es n,o.data=.dict es n:=by obtain⟨o,es,ep,e,q,_⟩:=hn;exact⟨o,e,es,ep,q⟩
 have hfr:∀o,s.heap.get? d=some o->o.cls=.type "frame"->(∃es n,o.data=.dict es n)->∃o',s'.heap.get? d=some o'/\o'.cls=.type "frame"/\∃es n,o'.data=.dict es n:=λo e hcl g=>by
  obtain⟨o',e',q⟩:=hc o e
  obtain⟨o'',e'',es,ep,q'⟩:=hd'
  rw[e']at e'';obtain rfl:=sj e''
  exact⟨o',e',q.trans hcl,es,ep,q'⟩
 refine R.step (ch := [d]) OK ⟨PK _,λb o e hb=>.of (hk b o (by simpa using hb) e),λb hb=>.inr (by rw[OS.mp hb];exact R.wlive d hmw),λx h=>.inl h,R.nodup⟩
  (λb hb=>by rw[OS.mp hb];exact R.wfresh _ hmw) R.len (λg g h=>h) (by simp) (λj y z h1 h2=>.inl ⟨λhc=>hna ?_,h1,h2⟩) (λj l y h1 h2=>?_) (λy h=>.inl ⟨h,λhc=>hna ?_⟩) (λb hb=>?_)
  (λb hb=>.inr ?_) (λg h=>.inl h) ?_ hg ho
 ·rw[<- OS.mp hc];exact O1 h1
 ·by_cases e:i=j
  ·subst e
   rw[hl]at h1;obtain rfl:=sj h1
   have:=(OW.mp hl).1
   rw[<- R.llen]at this
   rw[Qx this]at h2
   obtain rfl:=sj h2
   exact .inr ⟨_,hn,by rw[if_pos rfl];exact hr⟩
  ·rw[Qr e]at h2
   by_cases hdl:d∈l.addr
   ·rcases lI hdl with⟨n',rfl⟩ | rfl
    ·have hne:n'≠n:=λq=>e (hu j (q▸h1)).symm
     obtain⟨m',hm',hr'⟩:=R.loc j _ _ h1 h2
     refine .inr ⟨_,hn,?_⟩
     simp only[hne,if_false]
     rw[hm.agree hm'];exact hr'
    ·obtain⟨u,⟨o,e1,e2⟩,_⟩:=R.loc j _ _ h1 h2
     obtain⟨o',es,ep,e3,e4,_⟩:=hm
     rw[e1]at e3;obtain rfl:=sj e3;rw[e2]at e4;exact nc QW e4 rfl
   ·exact .inl ⟨λa ha hc=>hdl (by rw[OS.mp hc]at ha;exact ha),h2⟩
 ·rw[<- OS.mp hc];exact h
 ·by_cases e:b=d
  ·subst e
   obtain⟨o,e,es,ep,q⟩:=hd'
   exact .inr ⟨o,e,.inl λvs=>by rw[q];simp⟩
  ·exact .inl (by simpa using e)
 ·rw[OS.mp hb];exact hfr
 ·by_cases e:P.env.locals=d
  ·exact .inr ⟨_,e▸hn⟩
  ·exact .inl (by simpa using e)
theorem bk.wr{d:Addr}(hd:d∈P.wr)(hk:∀b o,b≠d->s.heap.get? b=some o->s'.heap.get? b=some o):bk B P ρ s ρ s' :=
 ⟨PK _,λb o e u hb u=>.of (hk b o (λq=>hb (q▸hd)) e),λu h=>.inl h⟩
theorem Rel0.storeCell{c:Addr}{i:Nat}{x:V}{v:OT}(OK:B.Ok)(R:Rel0 B P ρ st s)(hl:P.locs[i]?=some (.cell c))(hu:∀(j:Nat),P.locs[j]?=some (.cell c)->j=i)(hr:aU ρ x v)
  {u:Option OT} (hm:s.heap.IsCell c u) (hn:s'.heap.IsCell c (some v)) (hs:Rt c s.heap s'.heap)
  (hg:s'.gens=s.gens) (ho:s'.os=s.os):Rel0 B P ρ ⟨st.σ,st.L.set i (some x)⟩ s':=by
 have hmw:c∈P.wr:=cN hl (by simp[dc.addr])
 have hna:c∉ρ:=R.apart c hmw
 have hk:∀b o,b≠c->s.heap.get? b=some o->s'.heap.get? b=some o:=λb o hb e=>(hs.2 b hb).trans e
 refine R.step (ch := [c]) OK ⟨PK _,λb o e hb=>.of (hk b o (by simpa using hb) e),λb hb=>.inr (by rw[OS.mp hb];exact R.wlive c hmw),λx h=>.inl h,R.nodup⟩
  (λb hb=>by rw[OS.mp hb];exact R.wfresh _ hmw) R.len (λg g h=>h) (by simp) (λj y z h1 h2=>.inl ⟨λhc=>hna ?_,h1,h2⟩) (λj l y h1 h2=>?_) (λy h=>.inl ⟨h,λhc=>hna ?_⟩) (λb hb=>?_)
  (λb hb=>.inr ?_) (λg h=>.inl h) ?_ hg ho
 ·rw[<- OS.mp hc];exact O1 h1
 ·by_cases e:i=j
  ·subst e
   rw[hl]at h1;obtain rfl:=sj h1
   have:=(OW.mp hl).1
   rw[<- R.llen]at this
   rw[Qx this]at h2
   obtain rfl:=sj h2
   exact .inr ⟨_,hn,hr⟩
  ·rw[Qr e]at h2
   by_cases hdl:c∈l.addr
   ·rcases lI hdl with⟨n',rfl⟩ | rfl
    ·obtain⟨m',⟨o',es,ep,e3,e4,_⟩,_⟩:=R.loc j _ _ h1 h2
     obtain⟨o,e1,e2⟩:=hm
     rw[e1]at e3;obtain rfl:=sj e3;rw[e2]at e4;exact nc QW e4 rfl
    ·exact absurd (hu j h1).symm e
   ·exact .inl ⟨λa ha hc=>hdl (by rw[OS.mp hc]at ha;exact ha),h2⟩
 ·rw[<- OS.mp hc];exact h
 ·by_cases e:b=c
  ·subst e
   obtain⟨o,e,q⟩:=hn
   exact .inr ⟨o,e,.inl λvs=>by rw[q];simp⟩
  ·exact .inl (by simpa using e)
 ·rw[OS.mp hb]
  intro o e _ ⟨es,n,hd⟩
  obtain⟨o',e3,e4⟩:=hm
  rw[e]at e3;obtain rfl:=sj e3;rw[hd]at e4;exact nc QW e4 rfl
 ·by_cases e:P.env.locals=c
  ·obtain⟨m,o,es,ep,e1,e2,_⟩:=R.ns
   obtain⟨o',e3,e4⟩:=hm
   rw[e,e3]at e1;obtain rfl:=sj e1;rw[e4]at e2;exact nc QW e2 rfl
  ·exact .inl (by simpa using e)
theorem Rel0.other{I:Addr}{o:Obj}(OK:B.Ok)(R:Rel0 B P ρ st s)(hI:I∉ρ/\I∉P.wr/\B.n₀<=I)(e:s.heap.get? I=some o)(hp:cD o)(hf:o.cls≠.type "frame")(hd:∀es m,o.data≠.dict es m)
  (hk:∀b o,b≠I->s.heap.get? b=some o->s'.heap.get? b=some o) (hg:s'.gens=s.gens) (ho:s'.os=s.os):Rel0 B P ρ st s':=by
 refine R.step (ch := [I]) OK ⟨PK _,λb o eb hb=>.of (hk b o (by simpa using hb) eb),λb hb=>.inr (by rw[OS.mp hb];exact⟨o,e,hp⟩),λx h=>.inl h,R.nodup⟩
  (λb hb=>by rw[OS.mp hb];exact hI.2.2) R.len (λu u h=>h) rfl (λj x y h1 h2=>.inl ⟨λhc=>hI.1 ?_,h1,h2⟩) (λj l y h1 h2=>.inl ⟨λa ha hc=>hI.2.1 ?_,h2⟩) (λx h=>.inl ⟨h,λhc=>hI.1 ?_⟩) (λb hb=>.inl λhc=>hI.2.1 ?_)
  (λb hb=>.inr ?_) (λu h=>.inl h) (.inl λhc=>?_) hg ho
 ·rw[<- OS.mp hc];exact O1 h1
 ·rw[<- OS.mp hc];exact cN h1 ha
 ·rw[<- OS.mp hc];exact h
 ·rw[<- OS.mp hc];exact hb
 ·rw[OS.mp hb]
  intro o1 e1 hc _
  rw[e]at e1;obtain rfl:=sj e1
  exact absurd hc hf
 ·rw[<- OS.mp hc]at hI e
  obtain⟨m,o1,es,ep,e1,e2,_⟩:=R.ns
  rw[e]at e1;obtain rfl:=sj e1
  exact hd _ _ e2
theorem Rel0.otherF{I:Addr}{o:Obj}(OK:B.Ok)(R:Rel0 B P ρ st s)(hI:I∉ρ/\I∉P.wr/\B.n₀<=I)(e:s.heap.get? I=some o)(hp:cD o)(hne:P.env.locals≠I)(hf:∀e∈P.stk,∀L,e.frame=some L->L≠I)
  (hk:∀b o,b≠I->s.heap.get? b=some o->s'.heap.get? b=some o) (hg:s'.gens=s.gens) (ho:s'.os=s.os):Rel0 B P ρ st s':=by
 refine R.stepF (ch := [I]) OK ⟨PK _,λb o eb hb=>.of (hk b o (by simpa using hb) eb),λb hb=>.inr (by rw[OS.mp hb];exact⟨o,e,hp⟩),λx h=>.inl h,R.nodup⟩
  (λb hb=>by rw[OS.mp hb];exact Heap.get?_none_of_le hI.2.2) R.len (λu u h=>h) rfl (λj x y h1 h2=>.inl ⟨λhc=>hI.1 ?_,h1,h2⟩) (λj l y h1 h2=>.inl ⟨λa ha hc=>hI.2.1 ?_,h2⟩) (λx h=>.inl ⟨h,λhc=>hI.1 ?_⟩) (λb hb=>.inl λhc=>hI.2.1 ?_)
  (λe he w=>by obtain⟨hm,L,o,h1,h2,h3,h4,h5⟩:=w;exact⟨hm,L,o,h1,h2,h3,hk L o (hf e he L h1) h4,h5⟩) (λu h=>.inl h) (.inl λhc=>hne ?_) hg ho
 ·rw[<- OS.mp hc];exact O1 h1
 ·rw[<- OS.mp hc];exact cN h1 ha
 ·rw[<- OS.mp hc];exact h
 ·rw[<- OS.mp hc];exact hb
 ·exact OS.mp hc
theorem Rel0.adopt{D:Addr}{ob:Obj}{o:O}(OK:B.Ok)(R:Rel0 B P ρ st s)(hD:D∉ρ/\D∉P.wr/\B.n₀<=D/\D≠P.env.locals)(e:s.heap.get? D=some ob)(hp:cD ob)(hc:HD ob)(hr:i5 B.prog B.w (ρ++[D]) s.heap D o) :
  Rel0 B P (ρ++[D]) ⟨st.σ++[o],st.L⟩ s:=by
 refine R.stepF (ch := []) OK ⟨Pv ..,λb o e u=>.of e,λu h=>((nomatch h)),λx h=>?_,?_⟩ (λu h=>(nomatch h)) (by simp[R.len]) (λk v h=>bP (Pv ..) h) rfl (λk x y h1 h2=>?_)
  (λi l x h1 h2=>.inl ⟨λu u=>PL,h2⟩) (λx h=>?_) (λa u=>.inl PL) (λenv he q=>?_) (λx h=>?_) (.inl PL) rfl rfl
 ·rcases Pk.mp h with q | q
  ·exact .inl q
  ·rw[OS.mp q];exact .inr λo' e'=>by rw[e]at e';obtain rfl:=sj e';exact⟨hp,hc⟩
 ·rw[RY]
  exact⟨R.nodup,by simp,λx hx y hy=>by rw[OS.mp hy];rintro rfl;exact hD.1 hx⟩
 ·rcases iW h1 with q | ⟨q1,rfl⟩
  ·rcases iW h2 with p | ⟨p1,_⟩
   ·exact .inl ⟨PL,q,p⟩
   ·have:=(OW.mp q).1;rw[R.len]at this;lia
  ·rcases iW h2 with p | ⟨_,rfl⟩
   ·have:=(OW.mp p).1;rw[<- R.len]at this;lia
   ·exact .inr hr
 ·rcases Pk.mp h with q | q
  ·exact .inl ⟨q,PL⟩
  ·rw[OS.mp q];exact .inr ⟨ob,e,hc⟩
 ·obtain⟨hm,L,o,h1,h2,h3,h4,h5,h6⟩:=q
  refine⟨hm,L,o,h1,h2,λhm=>?_,h4,h5,h6⟩
  rcases Pk.mp hm with q | q
  ·exact h3 q
  ·rw[OS.mp q,e]at h4;obtain rfl:=sj h4
   obtain⟨es,m,hd⟩:=h6
   rcases hc with h | h
   ·exact h h5
   ·exact h _ _ hd
 ·rcases Pk.mp h with q | q
  ·exact .inl q
  ·rw[OS.mp q];exact .inr ⟨hD.2.2.1,hD.2.1,hD.2.2.2⟩
theorem Rel0.loose{X:List Addr}{h':Heap}(OK:B.Ok)(R:Rel0 B P ρ st s)(hX:∀x∈X,x∉ρ/\x∉P.wr/\B.h₀.get? x=none/\∃o vs,s.heap.get? x=some o/\o.data=.fields vs/\cD o)(hk:∀b o,b∉X->s.heap.get? b=some o->cu B.n₀ h' b o) :
  Rel0 B P ρ st { s with heap:=h' }:=by
 refine R.stepF (s':={ s with heap:=h' }) (ch:=X) OK ⟨PK _,λb o e hb=>hk b o hb e,λb hb=>.inr (by obtain⟨_,_,_,o,vs,e,_,hp⟩:=hX b hb;exact⟨o,e,hp⟩),λx h=>.inl h,R.nodup⟩
  (λb hb=>(hX b hb).2.2.1) R.len (λu u h=>h) rfl (λj x y h1 h2=>.inl ⟨λhc=>(hX _ hc).1 (O1 h1),h1,h2⟩) (λj l y h1 h2=>.inl ⟨λa ha hc=>(hX _ hc).2.1 (cN h1 ha),h2⟩) (λx h=>.inl ⟨h,λhc=>(hX _ hc).1 h⟩) (λb hb=>.inl λhc=>(hX _ hc).2.1 hb)
  (λe he q=>?_) (λu h=>.inl h) (.inl λhc=>?_) rfl rfl
 ·obtain⟨hm,L,o,h1,h2,h3,h4,h5,es,m,h6⟩:=q
  have hL:L∉X:=λhc=>by
   obtain⟨_,_,_,o',vs,e',hd,_⟩:=hX L hc
   rw[h4]at e';obtain rfl:=sj e';rw[h6]at hd;exact nc QW hd rfl
  obtain⟨o',e',hd,hc⟩:=(hk L o hL h4).data
  exact⟨hm,L,o',h1,h2,h3,e',hc.trans h5,es,m,hd.trans h6⟩
 ·obtain⟨_,_,_,o',vs,e',hd,_⟩:=hX _ hc
  obtain⟨m,o,es,ep,e,hd',_⟩:=R.ns
  rw[e]at e';obtain rfl:=sj e';rw[hd']at hd;exact nc QW hd rfl
end
structure iZ(P:Fc)(n:Nat)(A:Around):Prop where
 frames:A.frames=some P.stk
 handled:A.handled=none
 depth:A.depth+n<=800
 units:A.units+10*n<=9000
noncomputable def aa{α:Type}(x:α):M α:=λst=>some (x,st)
noncomputable def ao{α β:Type}(m:M α)(f:α->M β):M β:=λst=>match m st with
 | none=>none
 | some (a,st')=>f a st'
noncomputable def av{α:Type}:M α:=λu=>none
theorem fK{α β:Type}{m:M α}{f:α->M β}{st st':St}{y:β}(h:ao m f st=some (y,st')):∃a st1,m st=some (a,st1)/\f a st1=some (y,st'):=by
 unfold ao at h
 split at h
 ·exact nO h
 ·rename_i a st1 e;exact⟨a,st1,e,h⟩
theorem ae{α β:Type}{m:M α}{f:α->M β}{st st':St}{y:β}{C:Prop}(h:ao m f st=some (y,st'))(k:∀a st1,m st=some (a,st1)->f a st1=some (y,st')->C):C :=
 let ⟨a,st1,e1,e2⟩:=fK h;k a st1 e1 e2
theorem ai{α:Type}{x y:α}{st st':St}(h:aa x st=some (y,st')):y=x/\st'=st:=by
 simp only[aa,QX,Tq]at h;exact⟨h.1.symm,h.2.symm⟩
structure bB(B:bc)(P:Fc)(ρ:List Addr)(st:St)(s:OX):Prop extends Rel0 B P ρ st s where
 tpos:1<=s.toks
section
variable (B:bc)(P:Fc)
noncomputable def Kn{α:Type}(ρ:List Addr)(s:OX)(R:List Addr->α->Prop)(st':St)(Q:α->OX->Prop):Prop :=
 ∀a ρ' s',R ρ' a->bB B P ρ' st' s'->aW B P ρ s ρ' s'->Q a s'
noncomputable def Oo{α:Type}(ρ:List Addr)(s:OX)(R:List Addr->α->Prop)(st':St)(Q:α->OX->Prop):Prop :=
 ∀a ρ' s',R ρ' a->Rel0 B P ρ' st' s'->bk B P ρ s ρ' s'->Q a s'
noncomputable def At{α β:Type}(A:Around)(ρ:List Addr)(st:St)(s:OX)(t:Sem α)(R:List Addr->β->α->Prop)(m:M β):Prop :=
 ∀y st',m st=some (y,st')->∀(Q:α->OX->Prop)(E:OT->OX->Prop),Kn B P ρ s (λρ'=>R ρ' y) st' Q->Ph (model B.prog B.w) A t Q E s
noncomputable def oi{α β:Type}(n:Nat)(t:Sem α)(R:List Addr->β->α->Prop)(m:M β):Prop :=
 ∀A,iZ P n A->∀ρ st s,bB B P ρ st s->At B P A ρ st s t R m
noncomputable abbrev aR(n:Nat)(e:OQ)(m:M V):Prop:=oi B P n (eval e P.env) aU m
end
section
variable {B:bc}{P:Fc}{A:Around}{n:Nat}{ρ ρ':List Addr}{st st':St}{s s':OX}
theorem tk{α:Type}{t:Sem α}{Rr:List Addr->α->Prop}{Q:α->OX->Prop}{E:OT->OX->Prop}(R:bB B P ρ st s)
  (h:Kn B P ρ s Rr st' Q) (k:∀(Q':α->OX->Prop)(E':OT->OX->Prop),Oo B P ρ s Rr st' Q'->Ph (model B.prog B.w) A t Q' E' s):Ph (model B.prog B.w) A t Q E s :=
 wpAny_with_toks R.tpos (bQ (O8 (sz s)) (k _ _ λa ρ' s' r R' G hz tp=>h a ρ' s' r ⟨R',tp⟩ ⟨G,hz⟩))
theorem Rel0.done(OK:B.Ok){Q:OT->OX->Prop}{x:V}{v:OT}{tk:Nat}(R:Rel0 B P ρ st s)
  (k:∀a ρ' s',aU ρ' x a->Rel0 B P ρ' st s'->bk B P ρ s ρ' s'->Q a s') (h:aU ρ x v):Q v { s with toks:=tk } :=
 k v ρ _ h (R.toks OK tk) (bk.ext λu u e=>e)
theorem Rel0.fr(R:Rel0 B P ρ st s):∃m,PyProof.Rows.Fr B.h₀ P.env.locals s.heap m:=let ⟨m,h⟩:=R.ns;⟨m,h,R.kept,R.nsfresh⟩
theorem Kc(OK:B.Ok){i:Int}{k:Nat}{pos:Pos}:aR B P n (.Constant (.int i) k pos) (aa (.int i)):=by
 intro A hA ρ st s R y st' hm Q E h
 obtain⟨rfl,rfl⟩:=ai hm
 refine tk R h ?_;clear h;intro Q E h
 exact wpAny_Constant_int (R.done OK h ⟨_,rfl⟩)
theorem Kh(OK:B.Ok){x:Str}{k:Nat}{pos:Pos}:aR B P n (.Constant (.str x) k pos) (aa (.str x)):=by
 intro A hA ρ st s R y st' hm Q E h
 obtain⟨rfl,rfl⟩:=ai hm
 refine tk R h ?_;clear h;intro Q E h
 exact wpAny_Constant_str (R.done OK h ⟨_,rfl⟩)
theorem GS(OK:B.Ok){b:Bool}{k:Nat}{pos:Pos}:aR B P n (.Constant (.bool b) k pos) (aa (.bool b)):=by
 intro A hA ρ st s R y st' hm Q E h
 obtain⟨rfl,rfl⟩:=ai hm
 exact wpAny_Constant_bool (h _ ρ _ rfl R aW.refl)
theorem G9(OK:B.Ok){k:Nat}{pos:Pos}:aR B P n (.Constant .none k pos) (aa .none):=by
 intro A hA ρ st s R y st' hm Q E h
 obtain⟨rfl,rfl⟩:=ai hm
 exact wpAny_Constant_none (h _ ρ _ rfl R aW.refl)
section
variable {β:Type}{C:Prop}{x:V}{v:OT}{xs:List V}{vs:List OT}{k:Nat}{a:Addr}{r:β×St}
noncomputable def bI(x:V)(f:Int->M β):M β:=match x with | .int i=>f i | _=>av
noncomputable def gw(x:V)(f:Str->M β):M β:=match x with | .str i=>f i | _=>av
noncomputable def eA(x:V)(f:Nat->M β):M β:=match x with | .ref i=>f i | _=>av
noncomputable def A7(xs:List V)(f:V->M β):M β:=match xs with | [x]=>f x | _=>av
noncomputable def H7(xs:List V)(f:V->V->M β):M β:=match xs with | [x,y]=>f x y | _=>av
noncomputable def oO(k:Nat)(f:O->M β):M β:=λst=>match st.σ[k]? with | some o=>f o st | none=>none
noncomputable def dz{α:Type}(x:Option α)(f:α->M β):M β:=match x with | some y=>f y | none=>av
noncomputable def IN(f:List V->M β)(o:O):M β:=match o with | .list xs=>f xs | _=>av
noncomputable def Bz(f:Addr->Nat->M β)(o:O):M β:=match o with | .inst c d=>f c d | _=>av
noncomputable def xg(f:List (Str×V)->M β)(o:O):M β:=match o with | .attrs fs=>f fs | _=>av
noncomputable abbrev cj(k:Nat)(f:List V->M β):M β:=oO k (IN f)
theorem bG{f:Int->M β}(q:aU ρ x v)(h:bI x f st=some r)(c:∀i t,v=.int i t->f i st=some r->C):C:=by
 cases x with
 | int i=>obtain⟨t,e⟩:=q;exact c i t e h
 | _=>exact nO h
theorem cy{f:Str->M β}(q:aU ρ x v)(h:gw x f st=some r)(c:∀i t,v=.str i t->f i st=some r->C):C:=by
 cases x with
 | str i=>obtain⟨t,e⟩:=q;exact c i t e h
 | _=>exact nO h
theorem bH{f:Nat->M β}(q:aU ρ x v)(h:eA x f st=some r)(c:∀k a,v=.ref a->ρ[k]?=some a->f k st=some r->C):C:=by
 cases x with
 | ref k=>obtain⟨a,ha,e⟩:=q;exact c k a e ha h
 | _=>exact nO h
theorem bS{f:O->M β}(h:oO k f st=some r)(c:∀o,st.σ[k]?=some o->f o st=some r->C):C:=by
 unfold oO at h
 cases e:st.σ[k]? with
 | none=>rw[e]at h;exact nO h
 | some o=>rw[e]at h;exact c o e h
theorem aX{α:Type}{x:Option α}{f:α->M β}(h:dz x f st=some r)(c:∀y,x=some y->f y st=some r->C):C:=by
 cases x with
 | none=>exact nO h
 | some y=>exact c y rfl h
theorem aG{p:Prop}[Decidable p]{m:M β}(h:(if p then m else av) st=some r)(c:p->m st=some r->C):C:=by
 by_cases q:p
 ·rw[if_pos q]at h;exact c q h
 ·rw[if_neg q]at h;exact nO h
theorem uz{f:List V->M β}(h:cj k f st=some r)(c:∀xs,st.σ[k]?=some (.list xs)->f xs st=some r->C):C:=bS h λo e h=>by
 cases o with
 | list xs=>exact c xs e h
 | _=>exact nO h
theorem a5{f:List V->M β}(R:bB B P ρ st s)(ha:ρ[k]?=some a)(h:cj k f st=some r)
  (c:∀xs vs m,st.σ[k]?=some (.list xs)->s.heap.get? a=some { cls:=.type "list",data:=.seq vs m }->aL ρ xs vs.toList->xs.length=vs.size->f xs st=some r->C):C:=uz h λxs e h=>by
 obtain⟨vs,m,e1,q⟩:=R.obj k a _ ha e
 exact c xs vs m e e1 q q.length h
theorem tH{f:Addr->Nat->M β}{o:O}(h:Bz f o st=some r)(c:∀a d,o=.inst a d->f a d st=some r->C):C:=by
 cases o with
 | inst a d=>exact c a d rfl h
 | _=>exact nO h
theorem sr{f:List (Str×V)->M β}{o:O}(h:xg f o st=some r)(c:∀fs,o=.attrs fs->f fs st=some r->C):C:=by
 cases o with
 | attrs fs=>exact c fs rfl h
 | _=>exact nO h
theorem eQ{f:V->M β}(q:aL ρ xs vs)(h:A7 xs f st=some r)(c:∀x v,vs=[v]->aU ρ x v->f x st=some r->C):C:=by
 cases xs with
 | nil=>exact nO h
 | cons x xs=>cases xs with
  | cons y ys=>exact nO h
  | nil=>cases vs with
   | nil=>exact q.elim
   | cons v vs=>cases vs with
    | nil=>exact c x v rfl q.1 h
    | cons _ _=>exact q.2.elim
theorem ie{f:V->V->M β}(q:aL ρ xs vs)(h:H7 xs f st=some r)(c:∀x y v u,vs=[v,u]->aU ρ x v->aU ρ y u->f x y st=some r->C):C:=by
 cases xs with
 | nil=>exact nO h
 | cons x xs=>cases vs with
  | nil=>exact q.elim
  | cons v vs=>exact eQ (f:=f x) q.2 (by cases xs with
   | nil=>exact nO h
   | cons y ys=>cases ys with
    | nil=>exact h
    | cons _ _=>exact nO h) λy u e r h=>c x y v u (e▸rfl) q.1 r h
end
noncomputable def getL(i:Nat):M V:=λst=>match st.L[i]? with
 | some x=>dz x aa st
 | none=>none
theorem iO{C:Prop}{i:Nat}{r:V×St}(h:getL i st=some r)(c:∀x,st.L[i]?=some (some x)->r=(x,st)->C):C:=by
 unfold getL at h
 cases e:st.L[i]? with
 | none=>rw[e]at h;exact nO h
 | some x=>rw[e]at h;exact aX h λy e1 h=>c y (e1▸e) (Pw h).symm
theorem pW{i:Nat}{nm:Str}{x:V}{Q:OT->OX->Prop}{E:OT->OX->Prop}(hP:P.Ok)(R:bB B P ρ st s)(hn:P.names[i]?=some (some nm))(hx:st.L[i]?=some (some x))
  (h:∀v,aU ρ x v->Q v s):Ph (model B.prog B.w) A (loadName P.env nm) Q E s:=by
 obtain⟨l,hl,hat⟩:=hP.at_ i nm hn
 have hr:=R.loc i l _ hl hx
 cases l with
 | name d n' =>
  obtain⟨rfl,rfl,hk⟩:=hat
  obtain⟨m,hm,q⟩:=hr
  cases hv:m n' with
  | none=>rw[hv]at q;exact q.elim
  | some v=>rw[hv]at q;exact wpAny_loadName_local hP.fn hk hm hv (h v q)
 | cell c =>
  obtain⟨hk,hc⟩:=hat
  obtain⟨u,hu,q⟩:=hr
  cases u with
  | none=>exact q.elim
  | some v =>
   rcases hk with hk | ⟨hk,hn⟩
   ·exact wpAny_loadName_cell hP.fn hk hc hu (h v q)
   ·exact wpAny_loadName_free hP.fn hk hc hu (h v q) hn
 | store k c =>
  obtain⟨hk,hn,hc⟩:=hat
  obtain⟨h1,v,h2,h3⟩:=hr
  obtain rfl:=sj h3
  obtain⟨u,hu,q⟩:=R.obj k c _ h1 h2
  exact wpAny_loadName_free hP.fn hk hc hu (h u q) hn
 | dead=>exact hat.elim
theorem G8{i:Nat}{nm:Str}{pos:Pos}(hP:P.Ok)(hn:P.names[i]?=some (some nm))(hd:(nm==("__debug__":Str))=false):aR B P n (.Name nm pos) (getL i):=by
 intro A hA ρ st s R y st' hm Q E h
 refine iO hm λx hx e=>?_
 obtain⟨rfl,rfl⟩:=PZ e
 exact wpAny_Name (pW hP R hn hx λv r=>h v ρ s r R aW.refl) hd
structure cJ(B:bc)(nm:Str)(v:OT):Prop where
 is:∃mg,B.h₀.Ns Pz mg/\(mg nm=some v\/(mg nm=none/\∃mb,B.h₀.Ns builtinsNs mb/\mb nm=some v))
theorem GX{nm:Str}{pos:Pos}{v:OT}(hP:P.Ok)(hg:cJ B nm v)(he:P.env.globals=Pz/\P.env.builtins=builtinsNs)(hk:P.env.kindOf nm=some .globalImplicit)(hd:(nm==("__debug__":Str))=false) :
  aR B P n (.Name nm pos) (aa (.glob v)):=by
 intro A hA ρ st s R y st' hm Q E h
 obtain⟨rfl,rfl⟩:=ai hm
 obtain⟨mg,h1,h2⟩:=hg.is
 refine Name_function_global hP.fn hk ?_ hd
 have hq:Q v s:=h v ρ s rfl R aW.refl
 rcases h2 with h2 | ⟨h2,mb,h3,h4⟩
 ·exact loadGlobal_global (by rw[he.1];exact h1.keeps R.kept) h2 hq
 ·exact loadGlobal_builtin (by rw[he.1];exact h1.keeps R.kept) h2 (by rw[he.2];exact h3.keeps R.kept) h4 hq
noncomputable def aj(f:V->V->M V)(a b:M V):M V:=ao a λx=>ao b λy=>f x y
noncomputable def cQ(B:bc)(P:Fc)(n:Nat)(t:OT->OT->Sem OT)(f:V->V->M V):Prop :=
 ∀A,iZ P n A->∀ρ st s a b x y,bB B P ρ st s->aU ρ x a->aU ρ y b->At B P A ρ st s (t a b) aU (f x y)
theorem J6{op:Operator}{l r:OQ}{pos:Pos}{ml mr:M V}{f:V->V->M V}(hf:cQ B P n (binaryOp op) f)(hl:aR B P n l ml)(hr:aR B P n r mr):aR B P n (.BinOp l op r pos) (aj f ml mr):=by
 intro A hA ρ st s R y st' hm Q E h
 refine ae hm λx st1 e1 e2=>?_
 refine ae e2 λz st2 e3 e4=>?_
 refine wpAny_BinOp (hl A hA ρ st s R x st1 e1 _ _ λa ρ1 s₁ r1 R1 G₁=>hr A hA ρ1 st1 s₁ R1 z st2 e3 _ _ λb ρ2 s2 r2 R2 G₂=>?_)
 exact hf A hA ρ2 st2 s2 a b x z R2 (r1.mono G₂.pre) r2 y st' e4 Q E λc ρ3 s3 r3 R3 G₃=>h c ρ3 s3 r3 R3 (G₁.trans (G₂.trans G₃))
theorem J8{op:CmpOp}{l r:OQ}{pos:Pos}{ml mr:M V}{f:V->V->M V}(hf:cQ B P n (compareOp op) f)(hl:aR B P n l ml)(hr:aR B P n r mr)(hmk:behindInMarks op r=false) :
  aR B P n (.Compare l [op] [r] pos) (aj f ml mr):=by
 intro A hA ρ st s R y st' hm Q E h
 refine ae hm λx st1 e1 e2=>?_
 refine ae e2 λz st2 e3 e4=>?_
 refine wpAny_Compare1 (hl A hA ρ st s R x st1 e1 _ _ λa ρ1 s₁ r1 R1 G₁=>hr A hA ρ1 st1 s₁ R1 z st2 e3 _ _ λb ρ2 s2 r2 R2 G₂=>?_) hmk
 exact hf A hA ρ2 st2 s2 a b x z R2 (r1.mono G₂.pre) r2 y st' e4 Q E λc ρ3 s3 r3 R3 G₃=>h c ρ3 s3 r3 R3 (G₁.trans (G₂.trans G₃))
noncomputable def gU(o:O):M V:=λst=>some (.ref st.σ.length,⟨st.σ++[o],st.L⟩)
noncomputable def small:Nat:=4096
noncomputable def bf(x y:V):M V:=match x with
 | .int a=>bI y λb=>aa (.int (a+b))
 | .str a=>gw y λb=>if a.length+b.length<=sizeLine then aa (.str (a++b))else av
 | .ref i=>eA y λj=>cj i λxs=>cj j λys=>if xs.length+ys.length<=sizeLine then gU (.list (xs++ys))else av
 | _=>av
theorem oz{h:Heap}{a:Addr}{vs:Array OT}{m:Nat}(e:h.get? a=some { cls:=.type "list",data:=.seq vs m }):h.IsList a vs:=⟨_,e,rfl,m,rfl⟩
theorem Rel0.newSeq(OK:B.Ok){Q:OT->OX->Prop}{o:O}{ob:Obj}{a:Addr}(R:Rel0 B P ρ st s)(h:∀v ρ' s',aU ρ' (.ref st.σ.length) v->Rel0 B P ρ' ⟨st.σ++[o],st.L⟩ s'->bk B P ρ s ρ' s'->Q v s')
  (hk:∀b o,s.heap.get? b=some o->s'.heap.get? b=some o) (hn:sz s<=a) (e:s'.heap.get? a=some ob) (hc:ob.cls≠.type "frame")
  (hr:i5 B.prog B.w (ρ++[a]) s'.heap a o) (hg:s'.gens=s.gens:=by rfl) (ho:s'.os=s.os:=by rfl):Q (.ref a) s' :=
 h _ (ρ++[a]) _ ⟨_,by rw[<- R.len];simp,rfl⟩ (R.push OK hk hn hr ⟨_,e,hc⟩ hg ho) (bk.push hk hn)
theorem Rel0.newAlloc(OK:B.Ok){Q:OT->OX->Prop}{o:O}{ob:Obj}{tk:Nat}(R:Rel0 B P ρ st s)(h:∀v ρ' s',aU ρ' (.ref st.σ.length) v->Rel0 B P ρ' ⟨st.σ++[o],st.L⟩ s'->bk B P ρ s ρ' s'->Q v s')
  (hf:ob.isFreed=false) (hc:ob.cls≠.type "frame")
  (hr:∀ρ',ρ<+: ρ'->ρ'=ρ++[s.heap.objs.size]->i5 B.prog B.w ρ' (s.heap.push ob) s.heap.objs.size o):Q (.ref s.heap.objs.size) { s with heap:=s.heap.push ob,toks:=tk } :=
 R.newSeq (s':={ s with heap:=s.heap.push ob,toks:=tk }) OK h (λb o e=>Pj _ e) (O8 _) (Pd _ hf) hc (hr _ (Pv ..) rfl)
theorem vd{s:OX}{ob:Obj}{tk:Nat}:sz { s with heap:=s.heap.push ob,toks:=tk }=sz s+1:=PP _ _
theorem bB.newAllocT(OK:B.Ok){Q:OT->OX->Prop}{o:O}{ob:Obj}(R:bB B P ρ st s)(h:∀v ρ' s',aU ρ' (.ref st.σ.length) v->bB B P ρ' ⟨st.σ++[o],st.L⟩ s'->aW B P ρ s ρ' s'->Q v s')
  (hf:ob.isFreed=false) (hc:ob.cls≠.type "frame")
  (hr:∀ρ',ρ<+: ρ'->ρ'=ρ++[s.heap.objs.size]->i5 B.prog B.w ρ' (s.heap.push ob) s.heap.objs.size o):Q (.ref s.heap.objs.size) { s with heap:=s.heap.push ob } :=
 R.newAlloc (tk:=s.toks) (Q:=λv s'=>1<=s'.toks->sz s<=sz s'->Q v s') OK (λv ρ' s' r R' G tp hz=>h v ρ' s' r ⟨R',tp⟩ ⟨G,hz⟩) hf hc hr R.tpos (by rw[vd];exact QK _)
theorem bD(OK:B.Ok):cQ B P n (binaryOp .Add) bf:=by
 intro A hA ρ st s a b x y R ra rb z st' hm Q E h
 refine tk R h ?_;clear h;intro Q E h
 cases x with
 | int i=>refine bG rb hm λj u e hm=>?_;obtain⟨t,rfl⟩:=ra;subst e;obtain⟨rfl,rfl⟩:=pj hm;exact PyProof.Rows.add_int (R.done OK h ⟨_,rfl⟩)
 | str i =>
  refine cy rb hm λj u e hm=>aG hm λhs hm=>?_
  obtain⟨t,rfl⟩:=ra;subst e;obtain⟨rfl,rfl⟩:=pj hm
  exact PyProof.Rows.add_str (λt' tk=>R.done OK h ⟨_,rfl⟩) hs
 | ref i =>
  obtain⟨a,ha,rfl⟩:=ra
  refine bH rb hm λj b e hb hm=>a5 R ha hm λxs vs m1 hx e1 q₁ l1 hm=>a5 R hb hm λys us m2 hy e2 q₂ l2 hm=>aG hm λhsz hm=>?_
  subst e;obtain⟨rfl,rfl⟩:=pj hm
  refine PySem.P.add_list (n:=m1) (n2:=m2) (items:=vs) (items2:=us) e1 e2 ?_ (by omega)
  exact R.newAlloc OK h rfl (by simp) λρ' hp m=>⟨_,_,Pd _ rfl,by rw[Array.toList_append];exact(q₁.append q₂).mono hp⟩
 | _=>exact nO hm
end
section
variable {B:bc}{P:Fc}{A:Around}{n:Nat}{ρ ρ':List Addr}{st st':St}{s s':OX}
theorem lu{t:OT->OT->Sem OT}{g:Int->Int->M V}(c:∀A ρ st s i j ti tj z st',bB B P ρ st s->g i j st=some (z,st')->∀Q E,Oo B P ρ s (λρ'=>aU ρ' z) st' Q->Ph (model B.prog B.w) A (t (.int i ti) (.int j tj)) Q E s) :
  cQ B P n t λx y=>bI x λa=>bI y (g a):=by
 intro A hA ρ st s a b x y R ra rb z st' hm Q E h
 refine tk R h ?_;clear h;intro Q E h
 refine bG ra hm λu u e hm=>bG rb hm λu u e2 hm=>?_
 subst e;subst e2
 exact c A ρ st s _ _ _ _ z st' R hm Q E h
noncomputable def s9(x y:V):M V:=bI x λa=>bI y λb=>aa (.int (a - b))
theorem za(OK:B.Ok):cQ B P n (binaryOp .Sub) s9:=by
 refine lu λA ρ st s i j ti tj z st' R hm Q E h=>?_
 obtain⟨rfl,rfl⟩:=pj hm
 exact PyProof.Rows.sub_int (R.done OK h ⟨_,rfl⟩)
theorem CX{a b:Int}(h:b.natAbs<2^64):IntMulOk a b:=by
 refine IntMulOk.of_right ?_
 unfold Builtin.Int.intBits
 by_cases h0:b.natAbs=0
 ·have:b=0:=by lia
  subst this;decide
 ·have:=(Nat.log2_lt h0).mpr h
  first | lia | (split<;>lia)
noncomputable def jI(x y:V):M V:=match x with
 | .int a=>bI y λb=>if b.natAbs<2^64 then aa (.int (a*b))else av
 | .str x=>bI y λk=>if x.length*k.toNat<=1000000 /\ -1000<=k/\k<=1000 then aa (.str (Txt.mul x k))else av
 | .ref i=>bI y λk=>cj i λxs=>if xs.length*k.toNat<=1000000 /\ -1000<=k/\k<=1000 then gU (.list (Px k.toNat xs).flatten)else av
 | _=>av
theorem Ei{x:Str}{k:Int}(h:x.length*k.toNat<=1000000 /\ -1000<=k/\k<=1000):MulOk x k:=by
 obtain⟨h1,h2,h3⟩:=h
 refine⟨?_,λh4 h5 h6=>?_,λh4 h5=>?_⟩
 ·rw[decide_eq_false (by lia),decide_eq_false (by lia)];rfl
 ·have hx:x.length<=1000000:=by
   have:1<=k.toNat:=by lia
   calc x.length=x.length*1:=by lia
    _<=x.length*k.toNat:=RC _ this
    _<=_:=h1
  have:(2^63 - 1:Int)/1000<=(2^63 - 1)/k:=by
   rw[Int.le_ediv_iff_mul_le (by lia)]
   have:(2^63 - 1:Int)/1000*k<=(2^63 - 1:Int)/1000*1000:=Int.mul_le_mul_of_nonneg_left h3 (by decide)
   exact Int.le_trans this (by decide)
  have h7:(1000000:Int)<=(2^63 - 1)/1000:=by decide
  lia
 ·unfold Builtin.Str.tooLong
  rw[decide_eq_false]
  have:sizeLine=16777216:=sizeLine_eq
  lia
theorem B2(xs:Array OT)(k:Nat):(List.foldl (λx1 x2=>x1++x2) #[] (Px k xs)).toList=(Px k xs.toList).flatten:=by
 have:∀(acc:Array OT),(List.foldl (λx1 x2=>x1++x2) acc (Px k xs)).toList=acc.toList++(Px k xs.toList).flatten:=by
  induction k with
  | zero=>intro acc;simp
  | succ k ih=>intro acc;rw[RD,List.foldl_cons,ih];simp[RD]
 simpa using this #[]
theorem rO{xs:List V}{vs:List OT}(q:aL ρ xs vs):∀k,aL ρ (Px k xs).flatten (Px k vs).flatten
 | 0=>trivial
 | k+1=>by rw[RD,RD,QY,QY];exact q.append (rO q k)
theorem p9(OK:B.Ok):cQ B P n (binaryOp .Mult) jI:=by
 intro A hA ρ st s a b x y R ra rb z st' hm Q E h
 refine tk R h ?_;clear h;intro Q E h
 cases x with
 | int i =>
  refine bG rb hm λj u e hm=>aG hm λhs hm=>?_
  obtain⟨t,rfl⟩:=ra;subst e;obtain⟨rfl,rfl⟩:=pj hm
  exact PyProof.Rows.mul_int (R.done OK h ⟨_,rfl⟩) (CX hs)
 | str i =>
  refine bG rb hm λj u e hm=>aG hm λhs hm=>?_
  obtain⟨t,rfl⟩:=ra;subst e;obtain⟨rfl,rfl⟩:=pj hm
  exact SB.mul (Ei hs) λt' k=>R.done OK h ⟨_,rfl⟩
 | ref i =>
  obtain⟨a,ha,rfl⟩:=ra
  refine bG rb hm λk u e hm=>a5 R ha hm λxs vs m1 hx e1 q₁ hlen hm=>aG hm λhs hm=>?_
  subst e;obtain⟨rfl,rfl⟩:=pj hm
  have hs2:vs.size*k.toNat<=1000000:=hlen▸hs.1
  refine wpAny_binaryOp_repeat_ref (T:="list") (U:="int") (by decide) ⟨_,e1,rfl⟩ (λs'=>typeIs_int s' k u) noFill_list_mul F.fills_int_mul F.slot_int_rmul repeat_list F.slot_int_index.lookup
   (call_meets F.slot_int_rmul (typeIs_int s k u) F.entry_int_rmul (F.args_int_rmul_2 _ _) (int___rmul___int_list k u a vs m1)
    ⟨e1,rfl,⟨_,e1,rfl⟩,call_meets F.slot_list_mul ⟨_,e1,rfl⟩ F.entry_list_mul (F.args_list_mul_2 _ _)
     (AutoListH.list___mul___list_int_3 a vs m1 k u (by simp[Rn];omega) (by omega) (by simp[Builtin.List.listTooLong,sizeLine];omega))
     ⟨e1,?_⟩⟩)
  refine R.newAlloc OK h rfl (by simp) λρ' hp m=>⟨_,_,Pd _ rfl,?_⟩
  rw[B2]
  by_cases hv:vs.isEmpty=true
  ·have h1:xs=[]:=RM.mp (hlen.trans (by simpa using hv))
   subst h1
   rw[if_pos hv,show(Px k.toNat ([]:List V)).flatten=[] by simp]
   trivial
  ·rw[if_neg hv]
   exact(rO q₁ _).mono hp
 | _=>exact nO hm
noncomputable def ez(x y:V):M V:=bI x λa=>bI y λb=>if b≠0/\b.natAbs<1000000000 then aa (.int (a.fdiv b))else av
theorem iC(OK:B.Ok):cQ B P n (binaryOp .FloorDiv) ez:=by
 refine lu λA ρ st s i j ti tj z st' R hm Q E h=>aG hm λhs hm=>?_
 obtain⟨rfl,rfl⟩:=pj hm
 exact PyProof.Rows.floordiv_int hs.1 (R.done OK h ⟨_,rfl⟩) (.inl (PyProof.noPylong_small (by lia)))
noncomputable def c5(x y:V):M V:=bI x λa=>bI y λb=>if b≠0 then aa (.int (a.fmod b))else av
theorem eV(OK:B.Ok):cQ B P n (binaryOp .Mod) c5:=by
 refine lu λA ρ st s i j ti tj z st' R hm Q E h=>aG hm λhs hm=>?_
 obtain⟨rfl,rfl⟩:=pj hm
 exact PyProof.Rows.mod_int' hs (R.done OK h ⟨_,rfl⟩)
noncomputable def tF(x y:V):M V:=bI x λa=>bI y λb=>aa (.int (SH a b))
theorem p8(OK:B.Ok):cQ B P n (binaryOp .BitAnd) tF:=by
 refine lu λA ρ st s i j ti tj z st' R hm Q E h=>?_
 obtain⟨rfl,rfl⟩:=pj hm
 exact PyProof.Rows.and_int (R.done OK h ⟨_,rfl⟩)
noncomputable def An(x y:V):M V:=bI x λa=>bI y λk=>if 0<=k/\k<=1000/\a.natAbs<2^64 then aa (.int (a^k.toNat))else av
theorem LZ(OK:B.Ok):cQ B P n (binaryOp .Pow) An:=by
 refine lu λA ρ st s i j ti tj z st' R hm Q E h=>aG hm λhs hm=>?_
 obtain⟨rfl,rfl⟩:=pj hm
 exact PyProof.Rows.pow_int_small hs.1 (by lia) hs.2.2 (R.done OK h ⟨_,rfl⟩)
theorem Rel0.bool{Q:OT->OX->Prop}{b:Bool}(R:Rel0 B P ρ st s)
  (k:∀a ρ' s',aU ρ' (.bool b) a->Rel0 B P ρ' st s'->bk B P ρ s ρ' s'->Q a s'):Q (.bool b) s:=k _ ρ s rfl R bk.refl
noncomputable def EH(x y:V):M V:=bI x λa=>bI y λb=>aa (.bool (decide (a<b)))
theorem GB:cQ B P n (compareOp .Lt) EH:=by
 refine lu λA ρ st s i j ti tj z st' R hm Q E h=>?_
 obtain⟨rfl,rfl⟩:=pj hm
 exact PyProof.Rows.lt_int (R.bool h)
noncomputable def Ll(x y:V):M V:=bI x λa=>bI y λb=>aa (.bool (decide (b<a)))
theorem NW:cQ B P n (compareOp .Gt) Ll:=by
 refine lu λA ρ st s i j ti tj z st' R hm Q E h=>?_
 obtain⟨rfl,rfl⟩:=pj hm
 exact PyProof.Rows.gt_int (R.bool h)
noncomputable def Lj(x y:V):M V:=bI x λa=>bI y λb=>aa (.bool (decide (b<=a)))
theorem NV:cQ B P n (compareOp .GtE) Lj:=by
 refine lu λA ρ st s i j ti tj z st' R hm Q E h=>?_
 obtain⟨rfl,rfl⟩:=pj hm
 exact PyProof.Rows.ge_int (R.bool h)
end
end Mine
end
section
open PySem PySem.Calls PySem.SeqAt
namespace Mine
noncomputable def B1(x:V):Option PyData:=match x with
 | .none=>some .none
 | .bool b=>some (.bool b)
 | .int i=>some (.int i)
 | .str x=>some (.str x)
 | _=>none
noncomputable def gm(o:Option O):Option (List V):=match o with
 | some (.list xs)=>some xs
 | _=>none
noncomputable def qd(x:V):Option Nat:=match x with
 | .ref k=>some k
 | _=>none
noncomputable def bF:Nat->List O->V->Option PyData
 | 0,_,x=>B1 x
 | f+1,σ,x=>match qd x with
  | some k=>(gm σ[k]?).bind λxs=>(xs.mapM (bF f σ)).map .list
  | none=>B1 x
section
variable {B:bc}{P:Fc}{A:Around}{n:Nat}{ρ ρ':List Addr}{st st':St}{s s':OX}
theorem gO{x:V}{d:PyData}{v:OT}{h:Heap}(e:B1 x=some d)(r:aU ρ x v):∃as,Reads h v d as:=by
 cases x with
 | none=>obtain rfl:=sj e;obtain rfl:v=_:=r;exact⟨_,.none⟩
 | bool b=>obtain rfl:=sj e;obtain rfl:v=_:=r;exact⟨_,.bool _⟩
 | int i=>obtain rfl:=sj e;obtain⟨t,rfl⟩:=r;exact⟨_,.int _ _⟩
 | str x=>obtain rfl:=sj e;obtain⟨t,rfl⟩:=r;exact⟨_,.str _ _⟩
 | _=>exact nO e
theorem kj{o:Option O}{xs:List V}(h:gm o=some xs):o=some (.list xs):=by
 cases o with
 | none=>exact nO h
 | some o=>cases o with
  | list ys=>obtain rfl:=sj h;rfl
  | _=>exact nO h
theorem aV{α β:Type}{C:Prop}{x:Option α}{f:α->Option β}{y:β}(h:x.bind f=some y)(c:∀a,x=some a->f a=some y->C):C:=by
 cases x with
 | none=>exact nO h
 | some a=>exact c a rfl h
theorem dy{α β:Type}{C:Prop}{x:Option α}{f:α->β}{y:β}(h:x.map f=some y)(c:∀a,x=some a->y=f a->C):C:=by
 cases x with
 | none=>exact nO h
 | some a=>exact c a rfl (Pw h).symm
theorem Ao{h:Heap}{g:V->Option PyData}(ih:∀x d v,g x=some d->aU ρ x v->∃as,Reads h v d as):∀(xs:List V)(vs:List OT)(ds:List PyData),aL ρ xs vs->xs.mapM g=some ds->∃as,ReadsAll h vs ds as:=by
 intro xs
 induction xs with
 | nil =>
  intro vs ds q e
  cases vs with
  | nil=>obtain rfl:=sj e;exact⟨_,.nil⟩
  | cons _ _=>exact q.elim
 | cons x xs ih2 =>
  intro vs ds q e
  cases vs with
  | nil=>exact q.elim
  | cons v vs =>
   rw[Qn]at e
   refine aV e λd1 h1 e=>aV e λds2 h2 e=>?_
   obtain rfl:=sj e
   obtain⟨a1,r1⟩:=ih x d1 v h1 q.1
   obtain⟨a2,r2⟩:=ih2 vs ds2 q.2 h2
   exact⟨_,.cons r1 r2⟩
theorem iV(R:Rel0 B P ρ st s)(f:Nat):∀(x:V)(d:PyData)(v:OT),bF f st.σ x=some d->aU ρ x v->∃as,Reads s.heap v d as:=by
 induction f with
 | zero=>intro x d v e r;exact gO e r
 | succ f ih =>
  intro x d v e r
  cases x with
  | ref k =>
   refine aV e λxs hx e=>dy e λds hm e=>?_
   obtain⟨a,ha,rfl⟩:=r
   obtain⟨vs,m,e1,q⟩:=R.obj k a _ ha (kj hx)
   obtain⟨as,hr⟩:=Ao ih xs vs.toList ds q hm
   subst e
   exact⟨_,.list e1 rfl rfl hr⟩
  | none=>exact gO (x:=.none) e r
  | bool b=>exact gO (x:=.bool b) e r
  | int i=>exact gO (x:=.int i) e r
  | str y=>exact gO (x:=.str y) e r
  | glob g=>exact nO e
noncomputable def mc:Nat:=8
noncomputable def EF(σ:List O)(x y:V):Option Bool:=(bF mc σ x).bind λd=>(bF mc σ y).bind λe=>if shaped d=true/\shaped e=true then some (QD d e)else none
noncomputable def IY(σ:List O)(x y:V):Option Bool:=match x with
 | .int a=>(match y with | .int b=>some (a==b) | y=>EF σ (.int a) y)
 | .str a=>(match y with | .str b=>some (a==b) | y=>EF σ (.str a) y)
 | x=>EF σ x y
theorem eL{α:Type}{C p:Prop}[Decidable p]{x:Option α}{y:α}(h:(if p then x else none)=some y)(c:p->x=some y->C):C:=by
 by_cases q:p
 ·rw[if_pos q]at h;exact c q h
 ·rw[if_neg q]at h;exact nO h
theorem tR{C:Prop}{x y:V}{a b:OT}{c:Bool}(R:Rel0 B P ρ st s)(ra:aU ρ x a)(rb:aU ρ y b)(h:IY st.σ x y=some c)(k1:∀i j t u,a=.int i t->b=.int j u->c=(i==j)->C)(k2:∀i j t u,a=.str i t->b=.str j u->c=(i==j)->C)
  (k3:∀d e as bs,Reads s.heap a d as->Reads s.heap b e bs->shaped d=true/\shaped e=true->c=QD d e->C):C:=by
 have g:EF st.σ x y=some c->C:=λh=>aV h λd h1 h=>aV h λe h2 h=>eL h λhs h=>by
  obtain⟨as,r1⟩:=iV R _ _ _ _ h1 ra
  obtain⟨bs,r2⟩:=iV R _ _ _ _ h2 rb
  exact k3 d e as bs r1 r2 hs (Pw h).symm
 cases x with
 | int i=>cases y with
  | int j=>obtain⟨t,e1⟩:=ra;obtain⟨u,e2⟩:=rb;exact k1 i j t u e1 e2 (Pw h).symm
  | _=>exact g h
 | str i=>cases y with
  | str j=>obtain⟨t,e1⟩:=ra;obtain⟨u,e2⟩:=rb;exact k2 i j t u e1 e2 (Pw h).symm
  | _=>exact g h
 | _=>exact g h
noncomputable def iM(x y:V):M V:=λst=>(IY st.σ x y).map λb=>(.bool b,st)
noncomputable def tA(x y:V):M V:=λst=>(IY st.σ x y).map λb=>(.bool (!b),st)
theorem iZ.units64(hA:iZ P n A):A.units+65<cLine:=by
 have:=hA.units
 have h:cLine=9900:=rfl
 lia
theorem km:cQ B P n (compareOp .Eq) iM:=by
 intro A hA ρ st s a b x y R ra rb z st' hm Q E h
 refine tk R h ?_;clear h;intro Q E h
 refine dy hm λc e hm=>?_
 obtain⟨rfl,rfl⟩:=PZ hm
 refine tR R.toRel0 ra rb e (λi j t u e1 e2 e3=>?_) (λi j t u e1 e2 e3=>?_) λd e as bs r1 r2 hs e3=>?_
 ·subst e1;subst e2;subst e3;exact PyProof.Rows.eq_int (R.bool h)
 ·subst e1;subst e2;subst e3;exact PyProof.Rows.eq_str (R.bool h)
 ·subst e3;exact PyProof.Rows.eq_dataH r1 r2 hs.1 hs.2 (by have:=hA.units64;lia) (R.bool h)
theorem Da:cQ B P n (compareOp .NotEq) tA:=by
 intro A hA ρ st s a b x y R ra rb z st' hm Q E h
 refine tk R h ?_;clear h;intro Q E h
 refine dy hm λc e hm=>?_
 obtain⟨rfl,rfl⟩:=PZ hm
 refine tR R.toRel0 ra rb e (λi j t u e1 e2 e3=>?_) (λi j t u e1 e2 e3=>?_) λd e as bs r1 r2 hs e3=>?_
 ·subst e1;subst e2;subst e3;exact PyProof.Rows.ne_int (R.bool h)
 ·subst e1;subst e2;subst e3;exact PyProof.Rows.ne_str (R.bool h)
 ·subst e3;exact PyProof.Rows.ne_dataH r1 r2 hs.1 hs.2 (by have:=hA.units64;lia) (R.bool h)
noncomputable def HY(d:PyData):Option (List PyData):=match d with | .list ds=>some ds | _=>none
theorem pU{d:PyData}{ds:List PyData}(h:HY d=some ds):d=.list ds:=by
 cases d with
 | list xs=>obtain rfl:=sj h;rfl
 | _=>exact nO h
noncomputable def Lo(σ:List O)(x y:V):Option Bool:=(bF mc σ x).bind λd=>((bF mc σ y).bind HY).bind λds=>if shaped d=true/\shaped (.list ds)=true then some (ds.any λy=>QD y d)else none
noncomputable def Ln(σ:List O)(x y:V):Option Bool:=match x with
 | .str a=>(match y with | .str b=>some (!(RP b a 0 b.length 1).isEmpty) | y=>Lo σ (.str a) y)
 | x=>Lo σ x y
noncomputable def iA(x y:V):M V:=λst=>(Ln st.σ x y).map λb=>(.bool b,st)
theorem tY{C:Prop}{σ:List O}{x y:V}{a b:OT}{c:Bool}(ra:aU ρ x a)(rb:aU ρ y b)(h:Ln σ x y=some c)(k1:∀i j t u,a=.str i t->b=.str j u->c=(!(RP j i 0 j.length 1).isEmpty)->C)(k2:Lo σ x y=some c->C):C:=by
 cases x with
 | str i=>cases y with
  | str j=>obtain⟨t,e1⟩:=ra;obtain⟨u,e2⟩:=rb;exact k1 i j t u e1 e2 (Pw h).symm
  | _=>exact k2 h
 | _=>exact k2 h
theorem fB:cQ B P n (compareOp .In) iA:=by
 intro A hA ρ st s a b x y R ra rb z st' hm Q E h
 refine tk R h ?_;clear h;intro Q E h
 refine dy hm λc e hm=>tY ra rb e (λi j t u e1 e2 e3=>?_) λh1=>aV h1 λd g1 h2=>aV h2 λds g2 h3=>aV g2 λe g3 g4=>eL h3 λhs h3=>?_
 ·obtain⟨rfl,rfl⟩:=PZ hm;subst e1;subst e2;subst e3;exact PyProof.Rows.in_str (R.bool h)
 ·obtain⟨rfl,rfl⟩:=PZ hm
  obtain rfl:=sj h3
  cases pU g4
  obtain⟨as,r1⟩:=iV R.toRel0 _ _ _ _ g1 ra
  obtain⟨bs,r2⟩:=iV R.toRel0 _ _ _ _ g3 rb
  exact SeqAt.in_list_reads r2 r1 (canLay_of_shaped hs.2) (canLay_of_shaped hs.1) (Sz hs.1 hA.units64) (R.bool h)
noncomputable def c8:V->M Bool
 | .none=>aa false
 | .bool b=>aa b
 | .int i=>aa (i != 0)
 | .str x=>if x.length<2^62 then aa ((x.length:Int) != 0)else av
 | .ref k=>cj k λxs=>if xs.length<2^62 then aa (!xs.isEmpty)else av
 | .glob _=>av
noncomputable def HC(_:List Addr)(b b':Bool):Prop:=b'=b
noncomputable abbrev lH(B:bc)(P:Fc)(n:Nat)(e:OQ)(m:M Bool):Prop:=oi B P n (isTrue e P.env (eval e P.env)) HC m
theorem Rel0.isB{Q:Bool->OX->Prop}{b:Bool}{tk:Nat}(OK:B.Ok)(R:Rel0 B P ρ st s)
  (k:∀a ρ' s',HC ρ' b a->Rel0 B P ρ' st s'->bk B P ρ s ρ' s'->Q a s'):Q b { s with toks:=tk }:=k _ ρ _ rfl (R.toks OK tk) (bk.ext λu u e=>e)
theorem uX(OK:B.Ok){x:V}{v:OT}(hA:iZ P n A)(R:bB B P ρ st s)(r:aU ρ x v):At B P A ρ st s (truthy v) HC (c8 x):=by
 intro y st' hm Q E h
 refine tk R h ?_;clear h;intro Q E h
 cases x with
 | none=>obtain⟨rfl,rfl⟩:=pj hm;obtain rfl:v=_:=r;exact PyProof.Rows.truthy_none (h _ ρ s rfl R.toRel0 bk.refl)
 | bool b=>obtain⟨rfl,rfl⟩:=pj hm;obtain rfl:v=_:=r;exact wpAny_truthy_bool (h _ ρ s rfl R.toRel0 bk.refl)
 | int i=>obtain⟨rfl,rfl⟩:=pj hm;obtain⟨t,rfl⟩:=r;exact PyProof.Rows.truthy_int (h _ ρ s rfl R.toRel0 bk.refl)
 | str i=>refine aG hm λhs hm=>?_;obtain⟨rfl,rfl⟩:=pj hm;obtain⟨t,rfl⟩:=r;exact PySem.P.truthy_str (by lia) (R.isB OK h)
 | ref k =>
  obtain⟨a,ha,rfl⟩:=r
  refine a5 R ha hm λxs vs m hx e1 q hl hm=>aG hm λhs hm=>?_
  obtain⟨rfl,rfl⟩:=pj hm
  refine wpAny_truthy_list (oz e1) (by lia) ?_
  rw[show(!vs.isEmpty)= !xs.isEmpty by rw[Array.isEmpty,<- hl];cases xs<;>rfl]
  exact R.isB OK h
 | glob g=>exact nO hm
theorem Hb(OK:B.Ok){e:OQ}{m:M V}(he:aR B P n e m)(hi:isTrue e P.env (eval e P.env)=(do let v <- eval e P.env;standAt e.pos;holding [v] (truthy v))):lH B P n e (ao m c8):=by
 intro A hA ρ st s R y st' hm Q E h
 refine ae hm λx st1 e1 e2=>?_
 refine wpAny_isTrue_value (he A hA ρ st s R x st1 e1 _ _ λv ρ1 s₁ r1 R1 G₁=>?_) hi
 exact uX OK hA R1 r1 y st' e2 Q E λc ρ2 s2 r2 R2 G₂=>h c ρ2 s2 r2 R2 (G₁.trans G₂)
noncomputable def aT(f:V->V->M V)(a b:M V):M Bool:=ao (aj f a b) c8
theorem wG(OK:B.Ok){op:CmpOp}{l r:OQ}{pos:Pos}{ml mr:M V}{f:V->V->M V}(hf:cQ B P n (compareOp op) f)(hl:aR B P n l ml)(hr:aR B P n r mr)(hmk:behindInMarks op r=false) :
  lH B P n (.Compare l [op] [r] pos) (aT f ml mr):=by
 intro A hA ρ st s R y st' hm Q E h
 refine ae hm λc st3 e5 e6=>?_
 refine ae e5 λx st1 e1 e2=>?_
 refine ae e2 λz st2 e3 e4=>?_
 refine wpAny_isTrue_Compare1 (hl A hA ρ st s R x st1 e1 _ _ λa ρ1 s₁ r1 R1 G₁=>hr A hA ρ1 st1 s₁ R1 z st2 e3 _ _ λb ρ2 s2 r2 R2 G₂=>?_) hmk
 refine hf A hA ρ2 st2 s2 a b x z R2 (r1.mono G₂.pre) r2 c st3 e4 _ _ λd ρ3 s3 r3 R3 G₃=>?_
 exact uX OK hA R3 r3 y st' e6 Q E λc ρ4 s4 r4 R4 G₄=>h c ρ4 s4 r4 R4 (G₁.trans (G₂.trans (G₃.trans G₄)))
noncomputable def we(m:M Bool):M Bool:=ao m λb=>aa (!b)
theorem wI{e:OQ}{pos:Pos}{m:M Bool}(he:lH B P n e m):lH B P n (.UnaryOp .Not e pos) (we m):=by
 intro A hA ρ st s R y st' hm Q E h
 refine ae hm λb st1 e1 e2=>?_
 obtain⟨rfl,rfl⟩:=ai e2
 refine wpAny_isTrue_Not (he A hA ρ st s R b st' e1 _ _ λa ρ1 s₁ r1 R1 G₁=>?_)
 obtain rfl:a=b:=r1
 exact h _ ρ1 s₁ rfl R1 G₁
noncomputable abbrev lG(B:bc)(P:Fc)(n:Nat)(op:BoolOp)(es:List OQ)(m:M Bool):Prop:=oi B P n (allTrue op es P.env) HC m
theorem As:lG B P n .And [] (aa true):=by
 intro A hA ρ st s R y st' hm Q E h
 obtain⟨rfl,rfl⟩:=ai hm
 exact wpAny_allTrue_And_nil (h _ ρ s rfl R aW.refl)
theorem DW:lG B P n .Or [] (aa false):=by
 intro A hA ρ st s R y st' hm Q E h
 obtain⟨rfl,rfl⟩:=ai hm
 exact wpAny_allTrue_Or_nil (h _ ρ s rfl R aW.refl)
noncomputable def vF(a b:M Bool):M Bool:=ao a λx=>if x=true then b else aa false
noncomputable def Ak(a b:M Bool):M Bool:=ao a λx=>if x=true then aa true else b
theorem ww{e:OQ}{es:List OQ}{m ms:M Bool}(he:lH B P n e m)(hs:lG B P n .And es ms):lG B P n .And (e::es) (vF m ms):=by
 intro A hA ρ st s R y st' hm Q E h
 refine ae hm λb st1 e1 e2=>?_
 refine wpAny_allTrue_And_cons (he A hA ρ st s R b st1 e1 _ _ λa ρ1 s₁ r1 R1 G₁=>?_)
 obtain rfl:a=b:=r1
 cases a with
 | true=>simp only[if_true]at e2 ⊢;exact hs A hA ρ1 st1 s₁ R1 y st' e2 Q E λc ρ2 s2 r2 R2 G₂=>h c ρ2 s2 r2 R2 (G₁.trans G₂)
 | false =>
  simp only[P5,if_false]at e2 ⊢
  obtain⟨rfl,rfl⟩:=ai e2
  exact h _ ρ1 s₁ rfl R1 G₁
theorem Ay{e:OQ}{es:List OQ}{m ms:M Bool}(he:lH B P n e m)(hs:lG B P n .Or es ms):lG B P n .Or (e::es) (Ak m ms):=by
 intro A hA ρ st s R y st' hm Q E h
 refine ae hm λb st1 e1 e2=>?_
 refine wpAny_allTrue_Or_cons (he A hA ρ st s R b st1 e1 _ _ λa ρ1 s₁ r1 R1 G₁=>?_)
 obtain rfl:a=b:=r1
 cases a with
 | false=>simp only[P5,if_false]at e2 ⊢;exact hs A hA ρ1 st1 s₁ R1 y st' e2 Q E λc ρ2 s2 r2 R2 G₂=>h c ρ2 s2 r2 R2 (G₁.trans G₂)
 | true =>
  simp only[if_true]at e2 ⊢
  obtain⟨rfl,rfl⟩:=ai e2
  exact h _ ρ1 s₁ rfl R1 G₁
theorem uW{op:BoolOp}{es:List OQ}{pos:Pos}{m:M Bool}(he:lG B P n op es m):lH B P n (.BoolOp op es pos) m:=by
 intro A hA ρ st s R y st' hm Q E h
 exact wpAny_isTrue_BoolOp (he A hA ρ st s R y st' hm Q E h)
noncomputable def a8{α:Type}(c:M Bool)(a b:M α):M α:=ao c λx=>if x=true then a else b
theorem DO{t a b:OQ}{pos:Pos}{mt:M Bool}{ma mb:M V}(ht:lH B P n t mt)(ha:aR B P n a ma)(hb:aR B P n b mb):aR B P n (.IfExp t a b pos) (a8 mt ma mb):=by
 intro A hA ρ st s R y st' hm Q E h
 refine ae hm λc st1 e1 e2=>?_
 refine wpAny_IfExp (ht A hA ρ st s R c st1 e1 _ _ λd ρ1 s₁ r1 R1 G₁=>?_)
 obtain rfl:d=c:=r1
 cases d with
 | true=>simp only[if_true]at e2 ⊢;exact ha A hA ρ1 st1 s₁ R1 y st' e2 Q E λc ρ2 s2 r2 R2 G₂=>h c ρ2 s2 r2 R2 (G₁.trans G₂)
 | false=>simp only[P5,if_false]at e2 ⊢;exact hb A hA ρ1 st1 s₁ R1 y st' e2 Q E λc ρ2 s2 r2 R2 G₂=>h c ρ2 s2 r2 R2 (G₁.trans G₂)
theorem s5{e:OQ}{pos p2:Pos}{k:Nat}{m:M V}(OK:B.Ok)(he:aR B P n e m):lH B P n (.Compare e [.IsNot] [.Constant .none k p2] pos) (ao m λx=>match x with | .glob _=>av | x=>aa (x != .none)):=by
 intro A hA ρ st s R y st' hm Q E h
 refine ae hm λx st1 e1 e2=>?_
 refine wpAny_isTrue_Compare1 (he A hA ρ st s R x st1 e1 _ _ λv ρ1 s₁ r1 R1 G₁=>wpAny_Constant_none (isNot_none (wpAny_truthy_bool ?_)))
 cases x with
 | glob g=>exact nO e2
 | none=>obtain⟨rfl,rfl⟩:=ai e2;obtain rfl:v=_:=r1;exact h _ ρ1 s₁ rfl R1 G₁
 | bool b=>obtain⟨rfl,rfl⟩:=ai e2;obtain rfl:v=_:=r1;exact h _ ρ1 s₁ rfl R1 G₁
 | int b=>obtain⟨rfl,rfl⟩:=ai e2;obtain⟨t,rfl⟩:=r1;exact h _ ρ1 s₁ rfl R1 G₁
 | str b=>obtain⟨rfl,rfl⟩:=ai e2;obtain⟨t,rfl⟩:=r1;exact h _ ρ1 s₁ rfl R1 G₁
 | ref b=>obtain⟨rfl,rfl⟩:=ai e2;obtain⟨t,_,rfl⟩:=r1;exact h _ ρ1 s₁ rfl R1 G₁
noncomputable abbrev mZ(B:bc)(P:Fc)(n:Nat)(pos:Pos)(es:List OQ)(m:M (List V)):Prop:=oi B P n (spliced (backTo pos (Pb es P.env))) aL m
noncomputable def am:M (List V):=aa []
noncomputable def ab(m:M V)(ms:M (List V)):M (List V):=ao m λx=>ao ms λxs=>aa (x::xs)
theorem Kf{pos:Pos}:mZ B P n pos [] am:=by
 intro A hA ρ st s R y st' hm Q E h
 obtain⟨rfl,rfl⟩:=ai hm
 exact spliced_nil (h [] ρ s trivial R aW.refl)
theorem GU{pos:Pos}{e:OQ}{es:List OQ}{m:M V}{ms:M (List V)}(he:aR B P n e m)(hs:mZ B P n pos es ms)(hst:Pb (e::es) P.env=(false,eval e P.env)::Pb es P.env):mZ B P n pos (e::es) (ab m ms):=by
 intro A hA ρ st s R y st' hm Q E h
 refine ae hm λx st1 e1 e2=>?_
 refine ae e2 λxs st2 e3 e4=>?_
 obtain⟨rfl,rfl⟩:=ai e4
 rw[hst]
 refine spliced_cons (he A hA ρ st s R x st1 e1 _ _ λa ρ1 s₁ r1 R1 G₁=>hs A hA ρ1 st1 s₁ R1 xs st' e3 _ _ λas ρ2 s2 r2 R2 G₂=>?_)
 exact h _ ρ2 s2 ⟨r1.mono G₂.pre,r2⟩ R2 (G₁.trans G₂)
noncomputable def aP(ms:M (List V)):M V:=ao ms λxs=>if xs.length<=1000000 then gU (.list xs)else av
theorem G6(OK:B.Ok){es:List OQ}{pos:Pos}{ms:M (List V)}(hs:mZ B P n pos es ms):aR B P n (.List es pos) (aP ms):=by
 intro A hA ρ st s R y st' hm Q E h
 refine ae hm λxs st1 e1 e2=>?_
 refine aG e2 λhsz e2=>?_
 obtain⟨rfl,rfl⟩:=pj e2
 refine wpAny_List_spliced (hs A hA ρ st s R xs st1 e1 _ _ λvs ρ1 s₁ r1 R1 G₁=>?_)
 have hl:=r1.length
 have hz:sizeLine=16777216:=sizeLine_eq
 refine⟨by lia,?_⟩
 refine R1.newAllocT (o:=.list xs) OK (λv ρ' s' r' R' G'=>h v ρ' s' r' R' (G₁.trans G')) (by rfl) (by simp) λρ' hp u=>?_
 exact⟨_,_,Pd _ rfl,by simpa using r1.mono hp⟩
noncomputable def IM{β:Type}(f:List (Str×V)->M β)(o:O):M β:=match o with | .dict es=>f es | _=>av
noncomputable def K3(k:Int)(o:O):M V:=match o with
 | .list xs=>if -1000000<=k/\k<=1000000/\xs.length<=1000000 then(if 0<=k then dz xs[k.toNat]? aa else if -(xs.length:Int)<=k then dz xs[(k+xs.length).toNat]? aa else av)else av
 | .tup xs=>if 0<=k/\k<=1000000 then dz xs[k.toNat]? aa else av
 | _=>av
noncomputable def aA(o i:V):M V:=match o with
 | .str x=>bI i λk=>if -1000000<=k/\k<=1000000 then dz ((seqIndex? k x.length).bind (x.cps[·]?)) λc=>aa (.str ⟨#[c]⟩)else av
 | .ref j=>(match i with
  | .int k=>oO j (K3 k)
  | .str x=>oO j (IM λes=>dz (es.lookup x) aa)
  | _=>av)
 | _=>av
theorem pR{C:Prop}{o i y:V}(h:aA o i st=some (y,st'))(k1:∀x k c,o=.str x->i=.int k -> -1000000<=k/\k<=1000000->(seqIndex? k x.length).bind (x.cps[·]?)=some c->y=.str ⟨#[c]⟩->st'=st->C)
  (k2:∀j k xs p,o=.ref j->i=.int k->st.σ[j]?=some (.list xs) -> -1000000<=k/\k<=1000000/\xs.length<=1000000->xs[p]?=some y->(0<=k/\p=k.toNat)\/(k<0 /\ -(xs.length:Int)<=k/\p=(k+xs.length).toNat)->st'=st->C)
  (k3:∀j k xs,o=.ref j->i=.int k->st.σ[j]?=some (.tup xs)->0<=k/\k<=1000000->xs[k.toNat]?=some y->st'=st->C)
  (k4:∀j x es,o=.ref j->i=.str x->st.σ[j]?=some (.dict es)->es.lookup x=some y->st'=st->C):C:=by
 cases o with
 | str x=>cases i with
  | int k=>exact aG h λhk h=>aX h λc hc h=>k1 x k c rfl rfl hk hc (ai h).1 (ai h).2
  | _=>exact nO h
 | ref j=>cases i with
  | int k =>
    refine bS h λo ho h=>?_
    cases o with
    | list xs =>
     refine aG h λhk h=>?_
     by_cases h0:0<=k
     ·rw[if_pos h0]at h
      exact aX h λc hc h=>k2 j k xs _ rfl rfl ho hk ((ai h).1▸hc) (.inl ⟨h0,rfl⟩) (ai h).2
     ·rw[if_neg h0]at h
      exact aG h λh1 h=>aX h λc hc h=>k2 j k xs _ rfl rfl ho hk ((ai h).1▸hc) (.inr ⟨Int.not_le.mp h0,h1,rfl⟩) (ai h).2
    | tup xs=>exact aG h λhk h=>aX h λc hc h=>k3 j k xs rfl rfl ho hk ((ai h).1▸hc) (ai h).2
    | _=>exact nO h
  | str x =>
    refine bS h λo ho h=>?_
    cases o with
    | dict es=>exact aX h λc hc h=>k4 j x es rfl rfl ho ((ai h).1▸hc) (ai h).2
    | _=>exact nO h
  | _=>exact nO h
 | _=>exact nO h
theorem G5(OK:B.Ok){value slice:OQ}{pos:Pos}{mv ms:M V}(hv:aR B P n value mv)(hs:aR B P n slice ms)
  (hsub:∀o i,subscripted slice false o i=operate [o,i] (getItem o i)):aR B P n (.Subscript value slice pos) (aj aA mv ms):=by
 intro A hA ρ st s R y st' hm Q E h
 refine ae hm λx st1 e₁ e₂=>?_
 refine ae e₂ λz st2 e₃ e₄=>?_
 refine S1 (hv A hA ρ st s R x st1 e₁ _ _ λa ρ1 s₁ r1 R1 G₁=>hs A hA ρ1 st1 s₁ R1 z st2 e₃ _ _ λb ρ2 s2 r2 R2 G₂=>?_)
 have ra:=r1.mono G₂.pre
 have h':∀v ρ3 s3,aU ρ3 y v->bB B P ρ3 st' s3->aW B P ρ2 s2 ρ3 s3->Q v s3:=λv ρ3 s3 r3 R3 G₃=>h v ρ3 s3 r3 R3 (G₁.trans (G₂.trans G₃))
 refine tk R2 h' ?_;clear h';intro Q E h'
 clear r1 e₁ e₂ e₃
 refine pR e₄ (λx k c e1 e2 hk hc e3 e4=>?_) (λj k xs p e1 e2 hx hk hg hp e4=>?_) (λj k xs e1 e2 hx hk hg e4=>?_) λj x es e1 e2 hx hg e4=>?_
 ·subst e1;subst e2;subst e3;subst e4
  obtain⟨t,rfl⟩:=ra;obtain⟨u,rfl⟩:=r2
  refine QT (typeIs_str _ _ _) F.slot_str_getitem.lookup (PyProof.Rows.getItem_str ?_ hc (R2.done OK h' ⟨_,rfl⟩)) (hsub _ _)
  rw[decide_eq_false (by lia),decide_eq_false (by lia)];rfl
 ·subst e1;subst e2;subst e4
  obtain⟨a,ha,rfl⟩:=ra;obtain⟨u,rfl⟩:=r2
  obtain⟨vs,m,e5,q⟩:=R2.obj _ a _ ha hx
  have hl:xs.length=vs.size:=q.length
  obtain⟨v,hv1,rv⟩:=q.get hg
  have hv1:vs[p]?=some v:=by simpa using hv1
  have hq:Q v s2:=h' v ρ2 s2 rv R2.toRel0 bk.refl
  refine QT (oz e5).typeIs F.slot_list_getitem.lookup ?_ (hsub _ _)
  rcases hp with⟨h0,e⟩ | ⟨h0,h1,e⟩
  ·exact wpAny_getItem_list (oz e5) h0 (by lia) (e▸hv1) hq
  ·exact wpAny_getItem_list_neg (oz e5) h0 (by lia) (by lia) (by rw[<- hl];exact e▸hv1) hq
 ·subst e1;subst e2;subst e4
  obtain⟨a,ha,rfl⟩:=ra;obtain⟨u,rfl⟩:=r2
  obtain⟨vs,m,e5,q⟩:=R2.obj _ a _ ha hx
  have hl:xs.length=vs.size:=q.length
  obtain⟨v,hv1,rv⟩:=q.get hg
  have hlt:=(OW.mp hg).1
  refine QT (T:="tuple") ⟨_,e5,rfl⟩ F.slot_tuple_getitem.lookup (PyProof.Rows.getItem_tuple (j:=k.toNat) ⟨_,e5,rfl,m,rfl⟩ (by lia) (by lia) ?_ (by simpa using hv1) (h' v ρ2 s2 rv R2.toRel0 bk.refl)) (hsub _ _)
  unfold seqIndex?
  rw[if_neg (show ¬k<0 by lia)]
  dsimp only
  rw[if_pos (by rw[PD];exact⟨decide_eq_true (by lia),decide_eq_true (by lia)⟩)]
 ·subst e1;subst e2;subst e4
  obtain⟨a,ha,rfl⟩:=ra;obtain⟨u,rfl⟩:=r2
  obtain⟨m,hm1,q⟩:=R2.obj _ a _ ha hx
  have q':=q x
  rw[hg]at q'
  cases hv1:m x with
  | none=>rw[hv1]at q';exact q'.elim
  | some v =>
   rw[hv1]at q'
   exact QT hm1.typeIs F.slot_dict_getitem.lookup (wpAny_getItem_of (strKind_is B.prog B.w x u) hm1 hv1 (R2.done OK h' q')) (hsub _ _)
noncomputable def bL(B:bc)(P:Fc)(n:Nat)(g:OT)(f:List V->M V):Prop :=
 ∀A,iZ P n A->∀ρ st s vs xs,bB B P ρ st s->aL ρ xs vs->At B P A ρ st s (call g vs) aU (f xs)
noncomputable def bO(ms:M (List V))(f:List V->M V):M V:=ao ms f
theorem j0{M:Model}{E:OT->OX->Prop}{env:Env}{pos:Pos}{f:OT}{e:OQ}{es:List OQ}{Q:Args->OX->Prop}
  (hst:Pb (e::es) env=(false,eval e env)::Pb es env) (h:Ph M A (spliced (backTo pos (Pb (e::es) env))) (λvs s'=>Q ⟨vs,[]⟩ s') E s) :
  Ph M A (evalArgs f true (backTo pos (Pb (e::es) env)) []) Q E s:=by
 rw[hst]at h ⊢
 exact evalArgs_plain h
theorem DI{id:String}{nm:Str}{p pos:Pos}{e:OQ}{es:List OQ}{ms:M (List V)}{f:List V->M V}(hn:aR B P n (.Name nm p) (aa (.glob (.builtin id))))(hs:mZ B P n pos (e::es) ms)(hf:bL B P n (.builtin id) f)
  (hst:Pb (e::es) P.env=(false,eval e P.env)::Pb es P.env) (hpl:(backTo pos (Pb (e::es) P.env)).any (·.1)=false):aR B P n (.Call (.Name nm p) (e::es) [] pos) (bO ms f):=by
 intro A hA ρ st s R y st' hm Q E h
 refine ae hm λxs st1 e1 e2=>?_
 refine wpAny_Call_NameR (hn A hA ρ st s R _ _ rfl _ _ λv ρ0 s₀ r0 R0 G₀=>?_)
 obtain rfl:v=_:=r0
 refine callWith_builtin hpl (j0 hst (hs A hA ρ0 st s₀ R0 xs st1 e1 _ _ λvs ρ1 s₁ r1 R1 G₁=>?_))
 exact hf A hA ρ1 st1 s₁ vs xs R1 r1 y st' e2 Q E λc ρ2 s2 r2 R2 G₂=>h c ρ2 s2 r2 R2 (G₀.trans (G₁.trans G₂))
theorem DK{T:String}{nm:Str}{p pos:Pos}{e:OQ}{es:List OQ}{ms:M (List V)}{f:List V->M V}(hn:aR B P n (.Name nm p) (aa (.glob (.type T))))(hs:mZ B P n pos (e::es) ms)(hf:bL B P n (.type T) f)
  (hst:Pb (e::es) P.env=(false,eval e P.env)::Pb es P.env) (hpl:(backTo pos (Pb es P.env)).any (·.1)=false):aR B P n (.Call (.Name nm p) (e::es) [] pos) (bO ms f):=by
 intro A hA ρ st s R y st' hm Q E h
 refine ae hm λxs st1 e1 e2=>?_
 refine wpAny_Call_NameR (hn A hA ρ st s R _ _ rfl _ _ λv ρ0 s₀ r0 R0 G₀=>?_)
 obtain rfl:v=_:=r0
 refine SA (hs A hA ρ0 st s₀ R0 xs st1 e1 _ _ λvs ρ1 s₁ r1 R1 G₁=>?_) hst hpl
 exact hf A hA ρ1 st1 s₁ vs xs R1 r1 y st' e2 Q E λc ρ2 s2 r2 R2 G₂=>h c ρ2 s2 r2 R2 (G₀.trans (G₁.trans G₂))
theorem Aq{x:V}{vs:List OT}(r:aL ρ [x] vs):∃v,vs=[v]/\aU ρ x v:=by
 cases vs with
 | nil=>exact r.elim
 | cons v vs=>cases vs with
  | nil=>exact⟨v,rfl,r.1⟩
  | cons _ _=>exact r.2.elim
theorem kJ{vs:List OT}(r:aL ρ [] vs):vs=[]:=by
 cases vs with
 | nil=>rfl
 | cons _ _=>exact r.elim
noncomputable def sv(xs:List V):M V:=A7 xs λx=>bI x λi=>if 0<=i/\i<=0x10FFFF then aa (.str ⟨#[i.toNat]⟩)else av
theorem pe(OK:B.Ok):bL B P n (.builtin "chr") sv:=by
 intro A hA ρ st s vs xs R r y st' hm Q E h
 refine tk R h ?_;clear h;intro Q E h
 refine eQ r hm λx v e r1 hm1=>bG r1 hm1 λi t e2 hm2=>aG hm2 λhs hm3=>?_
 clear hm hm1 hm2 r
 subst e;subst e2;obtain⟨rfl,rfl⟩:=pj hm3
 exact PySem.P.chr_of_int (by rw[decide_eq_false (by lia),decide_eq_false (by lia)];rfl) (R.done OK h ⟨_,rfl⟩)
noncomputable def only(l:List Nat):Option Nat:=match l with | [c]=>some c | _=>none
noncomputable def mI(xs:List V):M V:=A7 xs λx=>gw x λx=>dz (only x.cps.toList) λc=>aa (.int c)
theorem lM(OK:B.Ok):bL B P n (.builtin "ord") mI:=by
 intro A hA ρ st s vs xs R r y st' hm Q E h
 refine tk R h ?_;clear h;intro Q E h
 refine eQ r hm λx v e r1 hm1=>cy r1 hm1 λx t e2 hm2=>aX hm2 λc hc hm3=>?_
 clear hm hm1 hm2 r
 subst e;subst e2;obtain⟨rfl,rfl⟩:=pj hm3
 obtain⟨⟨l⟩⟩:=x
 cases l with
 | nil=>exact nO hc
 | cons d l=>cases l with
  | nil=>obtain rfl:=(sj hc).symm;exact PySem.P.ord_of_char (R.done OK h ⟨_,rfl⟩)
  | cons _ _=>exact nO hc
noncomputable def ki(xs:List V):M V:=A7 xs λx=>match x with
 | .str x=>if x.length<2^62 then aa (.int x.length)else av
 | .ref k=>cj k λxs=>if xs.length<2^62 then aa (.int xs.length)else av
 | _=>av
theorem lL(OK:B.Ok):bL B P n (.builtin "len") ki:=by
 intro A hA ρ st s vs xs R r y st' hm Q E h
 refine tk R h ?_;clear h;intro Q E h
 refine eQ r hm λx v e r1 hm1=>?_
 clear hm r
 subst e
 cases x with
 | str x=>refine aG hm1 λhs hm1=>?_;obtain⟨rfl,rfl⟩:=pj hm1;obtain⟨t,rfl⟩:=r1;exact PyProof.Rows.len_str (by lia) (R.done OK h ⟨_,rfl⟩)
 | ref k =>
  obtain⟨a,ha,rfl⟩:=r1
  refine a5 R ha hm1 λys us m hx e5 q hl hm1=>aG hm1 λhs hm1=>?_
  obtain⟨rfl,rfl⟩:=pj hm1
  refine Tk (oz e5) (by lia) ?_
  rw[<- hl]
  exact R.done OK h ⟨_,rfl⟩
 | _=>exact nO hm1
noncomputable def Jl(x:V):Option Int:=match x with | .int i=>some i | _=>none
noncomputable def dj:List V->Option (List Int)
 | []=>some []
 | x::r=>(Jl x).bind λi=>(dj r).map (i :: ·)
theorem jl{xs:List V}:∀{vs:List OT}{is:List Int},dj xs=some is->aL ρ xs vs->∃ts:List (Int×Tok),vs=ts.map (λp=>Value.int p.1 p.2)/\ts.map (·.1)=is:=by
 induction xs with
 | nil=>intro vs is h r;obtain rfl:=sj h;exact⟨[],by rw[kJ r];rfl,rfl⟩
 | cons x xs ih =>
  intro vs is h r
  cases vs with
  | nil=>exact r.elim
  | cons v vs =>
   refine aV h λi hi h=>dy h λjs hj e=>?_
   obtain⟨ts,e1,e2⟩:=ih hj r.2
   have r1:aU ρ x v:=r.1
   cases x with
   | int j=>obtain rfl:=(sj hi).symm;obtain⟨t,rfl⟩:=r1;exact⟨(i,t)::ts,by rw[e1];rfl,by rw[e,<- e2];rfl⟩
   | _=>exact nO hi
noncomputable def Hg(xs:List V):M V:=A7 xs λx=>eA x λk=>cj k λxs=>dz (dj xs) λis=>if is.length<=1000/\∀i∈is,-(2^50)<=i/\i<=2^50 then aa (.int is.sum)else av
theorem qr(is:List Int):∀j,(∀i∈is,-(2^50)<=i/\i<=2^50) -> -(2^50*(is.length:Int))<=(is.take j).sum/\(is.take j).sum<=2^50*(is.length:Int):=by
 induction is with
 | nil=>intro j _;rw[List.take_nil];decide
 | cons i is ih =>
  intro j h
  cases j with
  | zero=>rw[List.take_zero,List.sum_nil,Py];lia
  | succ j =>
   have h1:=h i (Pe ..)
   have h2:=ih j λx hx=>h x (Pa _ hx)
   rw[List.take_succ_cons,List.sum_cons,Py]
   lia
theorem IK(OK:B.Ok):bL B P n (.builtin "sum") Hg:=by
 intro A hA ρ st s vs xs R r y st' hm Q E h
 refine tk R h ?_;clear h;intro Q E h
 refine eQ r hm λx v e r1 hm1=>bH r1 hm1 λk a e3 ha hm2=>a5 R ha hm2 λys us m hx e5 q u hm3=>aX hm3 λis hi hm4=>aG hm4 λhs hm5=>?_
 clear hm hm1 hm2 hm3 hm4 r
 subst e;subst e3;obtain⟨rfl,rfl⟩:=pj hm5
 obtain⟨ts,e1,e2⟩:=jl hi q
 have hus:us=intItems ts.toArray:=by
  apply Sl.mp
  rw[e1];simp[intItems]
 rw[hus]at e5
 have hnum:∀j,numAt ts.toArray j=is.getD j 0:=λj=>by rw[numAt_eq,<- e2]
 have hpre:∀j,preSum (numAt ts.toArray) j=(is.take j).sum:=λj=>by rw[preSum_eq,<- e2]
 have hlen:is.length=ts.length:=by rw[<- e2];simp
 refine sum_intList hA.handled (oz e5) (λj hj=>?_) λh' tk t' hk=>?_
 ·rw[hnum,hpre]
  have b:=qr is (j+1) hs.2
  have hj':j<is.length:=by rw[hlen];simpa using hj
  have c:=hs.2 (is.getD j 0) (by simp[O9,hj'])
  unfold InLong
  lia
 ·rw[hpre,List.take_of_length_le (by rw[hlen];simp)]
  exact h _ ρ _ ⟨_,rfl⟩ (R.ext OK hk rfl rfl) (bk.ext hk)
noncomputable def DG(x:Str):List V:=x.cps.toList.map λc=>.str ⟨#[c]⟩
noncomputable def xY(xs:List V):M V:=A7 xs λx=>gw x λx=>if x.length<=1000000 then gU (.list (DG x))else av
theorem Du{x:Str}{acc:Array OT}(h:ItemsOf (SignAt x) acc x.cps.size):aL ρ (DG x) acc.toList:=by
 obtain⟨h1,h2⟩:=h
 have gen:∀(cs:List Nat)(vs:List OT),vs.length=cs.length->(∀(j:Nat)(v:OT),vs[j]?=some v->∃(c:Nat)(u:Tok),cs[j]?=some c/\v=Value.str ⟨#[c]⟩ u)->aL ρ (cs.map λc=>V.str ⟨#[c]⟩) vs:=by
  intro cs
  induction cs with
  | nil=>intro vs hl _;rw[RM.mp hl];trivial
  | cons c cs ih =>
   intro vs hl hv
   cases vs with
   | nil=>simp at hl
   | cons v vs =>
    refine⟨?_,ih vs (by simpa using hl) λj v' hj=>?_⟩
    ·obtain⟨c',u,e1,e2⟩:=hv 0 v rfl
     simp at e1;subst e1
     exact⟨u,e2⟩
    ·obtain⟨c',u,e1,e2⟩:=hv (j+1) v' (by simpa using hj)
     exact⟨c',u,by simpa using e1,e2⟩
 refine gen _ _ (by simpa using h1) λj v hj=>?_
 obtain⟨c,u,e1,e2⟩:=h2 j v (by simpa using hj)
 exact⟨c,u,by simpa using e1,e2⟩
theorem E5(OK:B.Ok):bL B P n (.type "list") xY:=by
 intro A hA ρ st s vs xs R r y st' hm Q E h
 refine tk R h ?_;clear h;intro Q E h
 refine eQ r hm λx v e r1 hm1=>cy r1 hm1 λx t e2 hm2=>aG hm2 λhs hm3=>?_
 clear hm hm1 hm2 r
 subst e;subst e2;obtain⟨rfl,rfl⟩:=pj hm3
 have hz:sizeLine=16777216:=sizeLine_eq
 refine call_list_str hA.handled x t (λh' tk acc' c' hk e hit=>?_) (by have:x.cps.size=x.length:=rfl;lia)
 exact R.newSeq (s':={ s with heap:=h',toks:=tk }) OK h hk (O8 _) e (by simp) ⟨_,_,e,Du hit⟩
noncomputable def fG(_:List O)(x:V):Bool:=match x with
 | .str _=>true
 | _=>false
noncomputable def bE(σ:List O)(x:V):Bool:=((qd x).bind λk=>gm σ[k]?).isSome
structure tC(B:bc)(kd:List O->V->Bool)(T:String):Prop where
 is:∀P ρ st s x v,bB B P ρ st s->aU ρ x v->kd st.σ x=true->s.TypeIs v T/\∀a,v=.ref a->∃ob,s.heap.get? a=some ob/\ob.dict=none
theorem fZ:tC B fG "str":=⟨λP ρ st s x v R r h=>by
 cases x with
 | str x=>obtain⟨t,rfl⟩:=r;exact⟨typeIs_str _ _ _,λa e=>nomatch e⟩
 | _=>exact nc QH h rfl⟩
theorem cF:tC B bE "list":=⟨λP ρ st s x v R r h=>by
 cases x with
 | ref k =>
  obtain⟨xs,hx⟩:=QJ.mp h
  obtain⟨a,ha,rfl⟩:=r
  obtain⟨vs,m,e,q⟩:=R.obj _ a _ ha (kj hx)
  exact⟨(oz e).typeIs,λb eb=>by obtain rfl:=Qv eb;exact⟨_,e,rfl⟩⟩
 | _=>exact nc QH h rfl⟩
noncomputable def bn(kd:List O->V->Bool)(mo:M V)(ms:M (List V))(f:List V->M V):M V:=ao mo λx st=>if kd st.σ x=true then ao ms (λxs=>f (x::xs)) st else none
theorem G7{T id:String}{kd:List O->V->Bool}{o e:OQ}{es:List OQ}{name:Str}{apos pos:Pos}{mo:M V}{ms:M (List V)}{f:List V->M V}(ho:aR B P n o mo)(hk:tC B kd T)(hs:mZ B P n pos (e::es) ms)(hf:bL B P n (.builtin id) f)
  (pa:PlainAttrs T) (slot:Slot T name id) (hty:typeOf (.builtin id)=pure (.type "method_descriptor"))
  (hbase:attributeBase o name P.env (eval o P.env)=eval o P.env)
  (hfew:((backTo pos (Pb (e::es) P.env)).all (λx=> !x.1)&&(backToKw pos (keywordEach [] P.env)).all (λx=>x.1.isSome)
   &&decide ((e::es).length+([]:List Keyword).length+(if ([]:List Keyword).isEmpty then 0 else 1)<30))=true)
  (hline:(apos.endLine==pos.line)=true)
  (hst:Pb (e::es) P.env=(false,eval e P.env)::Pb es P.env) (hpl:(backTo pos (Pb (e::es) P.env)).any (·.1)=false) :
  aR B P n (.Call (.Attribute o name apos) (e::es) [] pos) (bn kd mo ms f):=by
 intro A hA ρ st s R y st' hm Q E h
 refine ae hm λx st1 e1 e2=>?_
 split at e2
 ·rename_i hx
  refine ae e2 λxs st2 e3 e4=>?_
  refine wpAny_Call_method hbase hfew hline pa slot hty (ho A hA ρ st s R x st1 e1 _ _ λv ρ1 s₁ r1 R1 G₁=>?_)
  obtain⟨h1,h2⟩:=hk.is P ρ1 st1 s₁ x v R1 r1 hx
  refine⟨h1,h2,callWith_builtin hpl (j0 hst (hs A hA ρ1 st1 s₁ R1 xs st2 e3 _ _ λvs ρ2 s2 r2 R2 G₂=>?_))⟩
  exact hf A hA ρ2 st2 s2 (v::vs) (x::xs) R2 ⟨r1.mono G₂.pre,r2⟩ y st' e4 Q E λc ρ3 s3 r3 R3 G₃=>h c ρ3 s3 r3 R3 (G₁.trans (G₂.trans G₃))
 ·exact nO e2
theorem DT{T id:String}{kd:List O->V->Bool}{o:OQ}{name:Str}{apos pos:Pos}{mo:M V}{f:List V->M V}(ho:aR B P n o mo)(hk:tC B kd T)(hf:bL B P n (.builtin id) f)
  (pa:PlainAttrs T) (slot:Slot T name id) (hty:typeOf (.builtin id)=pure (.type "method_descriptor"))
  (hbase:attributeBase o name P.env (eval o P.env)=eval o P.env)
  (hline:(apos.endLine==pos.line)=true) :
  aR B P n (.Call (.Attribute o name apos) [] [] pos) (bn kd mo am f):=by
 intro A hA ρ st s R y st' hm Q E h
 refine ae hm λx st1 e1 e2=>?_
 split at e2
 ·rename_i hx
  refine ae e2 λxs st2 e3 e4=>?_
  obtain⟨rfl,rfl⟩:=ai e3
  refine wpAny_Call_method hbase rfl hline pa slot hty (ho A hA ρ st s R x st2 e1 _ _ λv ρ1 s₁ r1 R1 G₁=>?_)
  obtain⟨h1,h2⟩:=hk.is P ρ1 st2 s₁ x v R1 r1 hx
  refine⟨h1,h2,callWith_builtin rfl (evalArgs_none ?_)⟩
  exact hf A hA ρ1 st2 s₁ [v] [x] R1 ⟨r1,trivial⟩ y st' e4 Q E λc ρ3 s3 r3 R3 G₃=>h c ρ3 s3 r3 R3 (G₁.trans G₃)
 ·exact nO e2
noncomputable def wa(xs:List V):M V:=A7 xs λx=>gw x λx=>if x.length<=1000000 then aa (.str (Txt.lower x))else av
theorem Bx(OK:B.Ok):bL B P n (.builtin "str.lower") wa:=by
 intro A hA ρ st s vs xs R r y st' hm Q E h
 refine tk R h ?_;clear h;intro Q E h
 refine eQ r hm λx v e r1 hm1=>cy r1 hm1 λx t e2 hm2=>aG hm2 λhs hm3=>?_
 clear hm hm1 hm2 r
 subst e;subst e2;obtain⟨rfl,rfl⟩:=pj hm3
 exact PyProof.Rows.SCL.lower (by lia) λu=>R.done OK h ⟨_,rfl⟩
noncomputable def nh(xs:List V):M V:=H7 xs λx y=>gw x λx=>gw y λy=>aa (.int (Txt.count x y))
theorem tG(OK:B.Ok):bL B P n (.builtin "str.count") nh:=by
 intro A hA ρ st s vs xs R r y st' hm Q E h
 refine tk R h ?_;clear h;intro Q E h
 refine ie r hm λx y v u e r1 q hm1=>cy r1 hm1 λx t e2 hm2=>cy q hm2 λy t' e3 hm3=>?_
 clear hm hm1 hm2 r
 subst e;subst e2;subst e3;obtain⟨rfl,rfl⟩:=pj hm3
 exact SC.count (R.done OK h ⟨_,rfl⟩)
noncomputable def Kq(x:V):Option Str:=match x with | .str i=>some i | _=>none
noncomputable def nH:List V->Option (List Str)
 | []=>some []
 | x::r=>(Kq x).bind λi=>(nH r).map (i :: ·)
theorem qo{xs:List V}:∀{vs:List OT}{is:List Str},nH xs=some is->aL ρ xs vs->Tm vs is:=by
 induction xs with
 | nil=>intro vs is h r;obtain rfl:=sj h;rw[kJ r];exact .nil
 | cons x xs ih =>
  intro vs is h r
  cases vs with
  | nil=>exact r.elim
  | cons v vs =>
   refine aV h λi hi h=>dy h λjs hj e=>?_
   have r1:aU ρ x v:=r.1
   cases x with
   | str j=>obtain rfl:=(sj hi).symm;obtain⟨t,rfl⟩:=r1;exact e▸ .cons _ _ (ih hj r.2)
   | _=>exact nO hi
noncomputable def gu(xs:List V):M V:=H7 xs λx y=>gw x λx=>eA y λk=>cj k λxs=>dz (nH xs) λys=>if (ys.map (·.length)).sum+ys.length*x.length<=1000000 then aa (.str (Txt.join x ys))else av
theorem hB(OK:B.Ok):bL B P n (.builtin "str.join") gu:=by
 intro A hA ρ st s vs xs R r y st' hm Q E h
 refine tk R h ?_;clear h;intro Q E h
 refine ie r hm λx y v u e r1 q hm1=>cy r1 hm1 λx t e2 hm2=>bH q hm2 λk a e3 ha hm3=>a5 R ha hm3 λxs us m hx e5 q2 l hm4=>aX hm4 λys hy hm5=>aG hm5 λhs hm6=>?_
 clear hm hm1 hm2 hm3 hm4 hm5 r
 subst e;subst e2;subst e3;obtain⟨rfl,rfl⟩:=pj hm6
 exact PyProof.Rows.join_list (oz e5) (qo hy q2) (by lia) λt' k=>R.done OK h ⟨_,rfl⟩
noncomputable def wv{α:Type}(k:Nat)(o:O)(x:α):M α:=λst=>some (x,⟨st.σ.set k o,st.L⟩)
noncomputable def cb(xs:List V):M V:=H7 xs λr x=>eA r λk=>cj k λxs=>if xs.length<=1000000 then wv k (.list (xs++[x])) .none else av
theorem Rel0.setList{a:Addr}{k:Nat}{vs:Array OT}{m:Nat}{xs:List V}{tk:Nat}(OK:B.Ok)(R:Rel0 B P ρ st s)(ha:ρ[k]?=some a)(hnc:∀v,st.σ[k]?≠some (.cell v))(e:s.heap.get? a=some { cls:=.type "list",data:=.seq vs m })(g:Array OT->Array OT)
  (hr:aL ρ xs (g vs).toList):Rel0 B P ρ ⟨st.σ.set k (.list xs),st.L⟩ { s with heap:=s.heap.update a (PG g),toks:=tk }/\bk B P ρ s ρ { s with heap:=s.heap.update a (PG g),toks:=tk }:=by
 have e':=Ss e g
 have hk:∀b o,b≠a->s.heap.get? b=some o->(s.heap.update a (PG g)).get? b=some o:=λb o hb eb=>((QP s.heap a _).2 b hb).trans eb
 exact⟨R.set OK ha hnc hk ⟨_,_,e',hr⟩ ⟨_,e',by simp⟩ rfl rfl,bk.set ha hk⟩
theorem fJ(OK:B.Ok):bL B P n (.builtin "list.append") cb:=by
 intro A hA ρ st s vs xs R r y st' hm Q E h
 refine tk R h ?_;clear h;intro Q E h
 refine ie r hm λx y v u e r1 ru hm1=>bH r1 hm1 λk a e3 ha hm2=>a5 R ha hm2 λxs us m hx e5 q hl hm3=>aG hm3 λhs hm4=>?_
 clear hm hm1 hm2 hm3 r
 subst e;subst e3;obtain⟨rfl,rfl⟩:=pj hm4
 have hz:sizeLine=16777216:=sizeLine_eq
 obtain⟨R',G'⟩:=R.setList (tk:=s.toks) OK ha (λv=>by rw[hx];simp) e5 (λx_1=>x_1.push u) (xs:=xs++[_]) (by rw[Array.toList_push];exact q.append ⟨ru,trivial⟩)
 exact call_meets Qh (oz e5).typeIs F.entry_list_append (F.args_list_append_2 _ _) (R9 a us m u (by lia)) ⟨e5,h _ ρ _ rfl R' G'⟩
noncomputable def GG(xs:List V):M V:=H7 xs λr i=>eA r λk=>bI i λi=>cj k λxs=>if i=0/\xs.length<=1000000 then dz xs.head? (wv k (.list xs.tail))else av
theorem By(OK:B.Ok):bL B P n (.builtin "list.pop") GG:=by
 intro A hA ρ st s vs xs R r y st' hm Q E h
 refine tk R h ?_;clear h;intro Q E h
 refine ie r hm λx w v u e r1 ru hm1=>bH r1 hm1 λk a e3 ha hm2=>bG ru hm2 λi t e4 hm3=>a5 R ha hm3 λxs us m hx e5 q hl hm4=>aG hm4 λhi hm5=>aX hm5 λy1 hy hm6=>?_
 clear hm hm1 hm2 hm3 hm4 hm5 r
 subst e;subst e3;subst e4;obtain⟨j1,rfl⟩:=pj hm6;obtain rfl:=j1.symm
 have hz:sizeLine=16777216:=sizeLine_eq
 obtain⟨xs,rfl⟩:∃r1,xs=y::r1:=List.head?_eq_some_iff.mp hy
 obtain⟨v,hv1,rv⟩:=q.get (i:=0) rfl
 obtain⟨rfl,hi2⟩:=hi
 have hr:aL ρ xs (us.eraseIdxIfInBounds 0).toList:=by
  cases us with
  | mk l=>cases l with
   | nil=>exact q.elim
   | cons u0 l=>simpa[Array.eraseIdxIfInBounds]using q.2
 obtain⟨R',G'⟩:=R.setList (tk:=s.toks) OK ha (λv=>by rw[hx];simp) e5 (λxs=>xs.eraseIdxIfInBounds 0) hr
 rw[Py]at hl hi2
 refine call_meets Tc (oz e5).typeIs F.entry_list_pop (F.args_list_pop_2 _ _) (MeetsSeq.list_pop_at a us m 0 t 0 v (by decide) ?_ (by simpa using hv1) (by lia)) ⟨e5,h _ ρ _ rv R' G'⟩
 have h0:0<us.size:=by lia
 simp[seqIndex?,h0]
noncomputable def cR(mo:M V)(a b:Str):M V:=ao mo λx=>gw x λx=>if x.length<=1000000/\b.length<=14/\(a==b)=false then aa (.str (Txt.replace x a b))else av
theorem wE(OK:B.Ok){o:OQ}{a b:Str}{k1 k2:Nat}{p1 p2 apos pos:Pos}{mo:M V}(ho:aR B P n o mo)
  (hbase:attributeBase o "replace" P.env (eval o P.env)=eval o P.env)
  (hfew:((backTo pos (Pb [.Constant (.str a) k1 p1,.Constant (.str b) k2 p2] P.env)).all (λx=> !x.1)&&(backToKw pos (keywordEach [] P.env)).all (λx=>x.1.isSome)
   &&decide (([.Constant (.str a) k1 p1,.Constant (.str b) k2 p2]:List OQ).length+([]:List Keyword).length+(if ([]:List Keyword).isEmpty then 0 else 1)<30))=true)
  (hline:(apos.endLine==pos.line)=true)
  (hst:backTo pos (Pb [.Constant (.str a) k1 p1,.Constant (.str b) k2 p2] P.env)=[(false,eval (.Constant (.str a) k1 p1) P.env),(false,eval (.Constant (.str b) k2 p2) P.env)]) :
  aR B P n (.Call (.Attribute o "replace" apos) [.Constant (.str a) k1 p1,.Constant (.str b) k2 p2] [] pos) (cR mo a b):=by
 intro A hA ρ st s R y st' hm Q E h
 refine ae hm λx st1 e1 e2=>?_
 refine wpAny_Call_method hbase hfew hline Qe F.slot_str_replace F.type_str_replace (ho A hA ρ st s R x st1 e1 _ _ λv ρ1 s₁ r1 R1 G₁=>?_)
 refine cy r1 e2 λx t e e3=>aG e3 λhs e4=>?_
 clear e1 e2 e3 hm r1
 subst e;obtain⟨rfl,j1⟩:=pj e4;obtain rfl:=j1.symm
 refine⟨typeIs_str _ _ _,(λa e=>nomatch e),callWith_builtin (by rw[hst];rfl) ?_⟩
 rw[hst]
 refine evalArgs_plain (spliced_cons (wpAny_Constant_str (spliced_cons (wpAny_Constant_str (spliced_nil ?_)))))
 have ht:=R1.tpos
 refine wpAny_with_toks (n:=1) (by show 1<=s₁.toks+1+1;lia) ?_
 have hb:x.length+(x.length+1)*b.length<=16777216:=by
  have h1:(x.length+1)*b.length<=(x.length+1)*14:=RC _ hs.2.1
  lia
 have h1:s₁.toks≠0:=by lia
 have h2:s₁.toks+1≠0:=by lia
 have h3:s₁.toks≠s₁.toks+1:=by lia
 exact SC.replace h1 h2 h3 hs.2.2 hb λt' k tp=>h _ ρ1 _ ⟨_,rfl⟩ ⟨R1.toks OK k,tp⟩ (G₁.trans (aW.toks _))
structure r6(B:bc)(d:Addr)(f:Int->Option Str):Prop where
 is:∃m,B.h₀.MapOf (intKind B.prog B.w) d m/\(d==sysModules)=false/\∀k,match f k with | none=>m k=none | some x=>∃t,m k=some (.str x t)
theorem pZ{K:Type}[DecidableEq K]{prog:Program}{w:Pt}{knd:KeyKind prog w K}{h h':Heap}{d:Addr}{m:K->Option OT}(hk:∀b o,h.get? b=some o->h'.get? b=some o)(x:h.MapOf knd d m):h'.MapOf knd d m:=by
 obtain⟨ob,des,ep,e,r⟩:=x
 exact⟨ob,des,ep,hk _ _ e,r⟩
noncomputable def JU(x:Option Str):V:=match x with
 | some y=>.str y
 | none=>.none
noncomputable def mw(f:Int->Option Str)(mi:M V):M V:=ao mi λx=>bI x λi=>aa (JU (f i))
theorem Aw(OK:B.Ok){o e:OQ}{d:Addr}{f:Int->Option Str}{apos pos:Pos}{mi:M V}(ho:aR B P n o (aa (.glob (.ref d))))(hd:r6 B d f)(he:aR B P n e mi)
  (hbase:attributeBase o "get" P.env (eval o P.env)=eval o P.env)
  (hfew:((backTo pos (Pb [e] P.env)).all (λx=> !x.1)&&(backToKw pos (keywordEach [] P.env)).all (λx=>x.1.isSome)
   &&decide (([e]:List OQ).length+([]:List Keyword).length+(if ([]:List Keyword).isEmpty then 0 else 1)<30))=true)
  (hline:(apos.endLine==pos.line)=true)
  (hst:backTo pos (Pb [e] P.env)=[(false,eval e P.env)]) :
  aR B P n (.Call (.Attribute o "get" apos) [e] [] pos) (mw f mi):=by
 intro A hA ρ st s R y st' hm Q E h
 obtain⟨m,hm1,hsys,hm2⟩:=hd.is
 refine ae hm λx st1 e1 e2=>?_
 refine wpAny_Call_method hbase hfew hline F.plainAttrs_dict Td F.type_dict_get (ho A hA ρ st s R _ st rfl _ _ λv ρ0 s₀ r0 R0 G₀=>?_)
 obtain rfl:v=_:=r0
 have hk:=pZ R0.kept hm1
 refine⟨hk.typeIs,λb eb=>?_,?_⟩
 ·obtain rfl:=Qv eb
  obtain⟨ob,des,ep,e,hx,_⟩:=hk
  exact⟨ob,e,hx.2.1⟩
 ·rw[hst]
  refine wpAny_dict_get1 (knd:=intKind B.prog B.w) hsys (he A hA ρ0 st s₀ R0 x st1 e1 _ _ λv ρ1 s₁ r1 R1 G₁=>?_)
  refine bG r1 e2 λi t e e3=>?_
  clear e1 e2 hm r1
  subst e;obtain⟨rfl,j1⟩:=pj e3;obtain rfl:=j1.symm
  refine⟨i,m,intKind_is _ _ _ _,pZ R1.kept hm1,?_⟩
  have R':bB B P ρ1 st' { s₁ with toks:=s₁.toks+1 }:=⟨R1.toks OK _,PN 1 _⟩
  have G':aW B P ρ s ρ1 { s₁ with toks:=s₁.toks+1 }:=G₀.trans (G₁.trans (aW.toks _))
  have hv:∃v,(m i).getD .none=v/\aU ρ1 (JU (f i)) v:=by
   have hmi:=hm2 i
   cases hz:f i with
   | some z=>rw[hz]at hmi;obtain⟨t',ht'⟩:=hmi;exact⟨_,by rw[ht'];rfl,_,rfl⟩
   | none=>rw[hz]at hmi;dsimp only at hmi;exact⟨_,by rw[hmi];rfl,rfl⟩
  obtain⟨v,e,hv⟩:=hv
  have hQ:Q v { s₁ with toks:=s₁.toks+1 }:=h _ ρ1 _ hv R' G'
  subst e
  exact hQ
structure vx(B:bc)(a:Addr)(S:Int->Bool):Prop where
 is:∃k,B.h₀.SetOf (intKind B.prog B.w) a S k
noncomputable def pP(S:Int->Bool)(me:M V):M V:=ao me λx=>bI x λi=>aa (.bool (S i))
theorem DP(OK:B.Ok){e r:OQ}{pos:Pos}{a:Addr}{S:Int->Bool}{me:M V}(he:aR B P n e me)(hr:aR B P n r (aa (.glob (.ref a))))(hS:vx B a S)(hmk:behindInMarks .In r=false) :
  aR B P n (.Compare e [.In] [r] pos) (pP S me):=by
 intro A hA ρ st s R y st' hm Q E h
 refine ae hm λx st1 e1 e2=>?_
 refine wpAny_Compare1 (he A hA ρ st s R x st1 e1 _ _ λv ρ1 s₁ r1 R1 G₁=>hr A hA ρ1 st1 s₁ R1 _ st1 rfl _ _ λb ρ2 s2 r2 R2 G₂=>?_) hmk
 obtain rfl:b=_:=r2
 obtain⟨k,o,es,ep,t,eo,rest⟩:=hS.is
 refine bG r1 e2 λi u e e3=>?_
 clear e1 e2 hm r1
 subst e;obtain⟨rfl,j1⟩:=pj e3;obtain rfl:=j1.symm
 exact wpAny_inSet_of (knd:=intKind B.prog B.w) (intKind_is _ _ _ _) rfl ⟨o,es,ep,t,R2.kept _ _ eo,rest⟩ (h _ ρ2 _ rfl ⟨R2.toks OK _,PN 1 _⟩ (G₁.trans (G₂.trans (aW.toks _))))
end
end Mine
namespace Mine
open Sem in
theorem nv{M:Model}{A:Around}{E:OT->OX->Prop}{s:OX}{a:Addr}{m:Str->Option OT}{name:Str}{v:OT}{Q:Unit->OX->Prop}(hn:s.heap.Ns a m)
  (h:∀h',h'.Ns a (λx=>if x=name then some v else m x)->Rt a s.heap h'->(∀o,s.heap.get? a=some o->∃o',h'.get? a=some o'/\o'.cls=o.cls)->Q () { s with heap:=h',toks:=s.toks+1 }) :
  Ph M A (nsSet a name v) Q E s:=λΓ p u=>by
 have key:=wp_nsSet M Γ (λe u s'=>E e s') p s hn name v (λu u s'=>s'.heap.Ns a (λx=>if x=name then some v else m x)/\Rt a s.heap s'.heap) (λh' a b=>⟨a,b⟩)
 obtain⟨o,es,ep,ho,hd,hk,hm⟩:=id hn
 have hany:es.any (·.refKey)=false:=by
  rw[Array.any_eq_false'];intro e he;obtain⟨n,t,h⟩:=hk e he;simp[DictEntry.refKey,h]
 simp only[nsSet,strHash,wp_bind',wp_cmd_ask,wp_pure',wp_cmd_mkText]at key ⊢
 rw[wp_loadPart_of M Γ _ p { s with toks:=s.toks+1 } (o:=o) _ ho]at key ⊢
 simp only[hd,aRefKeyMayBeTheName_eq,aRefKeyMayBeTheNameByArray,hany,Bool.and_false,P5,if_false,wp_cmd_updatePart]at key ⊢
 refine⟨key.1,h _ key.2.1 key.2.2 λo' ho'=>?_⟩
 rw[ho]at ho';obtain rfl:=sj ho'
 obtain⟨c,d,dt,sl⟩:=o
 subst hd
 refine⟨_,Sh _ ho ?_,?_⟩
 ·simp only[Obj.putName_eq,Obj.putNameByArray]
  split<;>rfl
 ·simp only[Obj.putName_eq,Obj.putNameByArray]
  split<;>rfl
section
variable {B:bc}{P:Fc}{A:Around}{n:Nat}{ρ ρ':List Addr}{st st':St}{s s':OX}
noncomputable def setL(i:Nat)(x:V):M Unit:=λst=>some ((),⟨st.σ,st.L.set i (some x)⟩)
theorem eu(OK:B.Ok)(hP:P.Ok){i:Nat}{nm:Str}{x:V}{v:OT}{Q:Unit->OX->Prop}{E:OT->OX->Prop}(R:bB B P ρ st s)(hn:P.names[i]?=some (some nm))(hf:(P.env.kindOf nm==some .free)=false)(r:aU ρ x v)
  (h:∀s',bB B P ρ ⟨st.σ,st.L.set i (some x)⟩ s'->aW B P ρ s ρ s'->Q () s'):Ph (model B.prog B.w) A (storeName P.env nm v) Q E s:=by
 obtain⟨l,hl,hat⟩:=hP.at_ i nm hn
 have hi:i<st.L.length:=by rw[R.llen];exact(OW.mp hl).1
 have hr:=R.loc i l _ hl (Pf hi)
 cases l with
 | name d n' =>
  obtain⟨rfl,rfl,hk⟩:=hat
  obtain⟨m,hm,q⟩:=hr
  rw[Si hk (by rw[hP.fn];rfl)]
  refine nv hm λh' hn' hs hc=>?_
  have R':=R.toRel0.storeName (s':={ s with heap:=h',toks:=s.toks+1 }) OK hl (λj hj=>hP.uniq j i _ hj hl (by simp[dc.addr])) r hm hn' hs hc rfl rfl
  exact h _ ⟨R',PN 1 _⟩ ⟨bk.wr (cN hl (by simp[dc.addr])) (λb o hb e=>(hs.2 b hb).trans e),Qc hs.1.symm⟩
 | cell c =>
  obtain⟨hk,hc⟩:=hat
  obtain⟨u,hu,q⟩:=hr
  rcases hk with hk | ⟨hk,_⟩
  ·refine wpAny_storeName_cell hP.fn hk hc hu λh' hn' hs=>?_
   have R':=R.toRel0.storeCell (s':={ s with heap:=h' }) OK hl (λj hj=>hP.uniq j i _ hj hl (by simp[dc.addr])) r hu hn' hs rfl rfl
   exact h _ ⟨R',R.tpos⟩ ⟨bk.wr (cN hl (by simp[dc.addr])) (λb o hb e=>(hs.2 b hb).trans e),Qc hs.1.symm⟩
  ·rw[hk]at hf;exact absurd hf (by decide)
 | store k c=>rw[hat.1]at hf;exact absurd hf (by decide)
 | dead=>exact hat.elim
inductive Fl where
 | next | cont | brk
 | ret (x:V)
noncomputable def dW(ρ:List Addr):Fl->Flow->Prop
 | .next,f=>f=.next
 | .cont,f=>f=.cont
 | .brk,f=>f=.brk
 | .ret x,f=>∃v,f=.ret v/\aU ρ x v
noncomputable abbrev i7(B:bc)(P:Fc)(n:Nat)(t:Stmt)(m:M Fl):Prop:=oi B P n (exec t P.env) dW m
noncomputable abbrev gZ(B:bc)(P:Fc)(n:Nat)(ts:List Stmt)(m:M Fl):Prop:=oi B P n (execs ts P.env) dW m
noncomputable def aw(a b:M Fl):M Fl:=ao a λf=>match f with
 | .next=>b
 | f=>aa f
theorem uR:gZ B P n [] (aa .next):=by
 intro A hA ρ st s R y st' hm Q E h
 obtain⟨rfl,rfl⟩:=ai hm
 exact wpAny_execs_nil (h _ ρ s rfl R aW.refl)
theorem DM{t:Stmt}{ts:List Stmt}{m ms:M Fl}(ht:i7 B P n t m)(hs:gZ B P n ts ms):gZ B P n (t::ts) (aw m ms):=by
 intro A hA ρ st s R y st' hm Q E h
 refine ae hm λf st1 e1 e2=>?_
 refine wpAny_execs_cons (ht A hA ρ st s R f st1 e1 _ _ λg ρ1 s₁ r1 R1 G₁=>?_)
 cases f with
 | next =>
  obtain rfl:g=_:=r1
  exact hs A hA ρ1 st1 s₁ R1 y st' e2 Q E λc ρ2 s2 r2 R2 G₂=>h c ρ2 s2 r2 R2 (G₁.trans G₂)
 | cont=>obtain⟨rfl,rfl⟩:=ai e2;obtain rfl:g=_:=r1;exact h _ ρ1 s₁ rfl R1 G₁
 | brk=>obtain⟨rfl,rfl⟩:=ai e2;obtain rfl:g=_:=r1;exact h _ ρ1 s₁ rfl R1 G₁
 | ret x=>obtain⟨rfl,rfl⟩:=ai e2;obtain⟨v,rfl,hv⟩:=r1;exact h _ ρ1 s₁ ⟨v,rfl,hv⟩ R1 G₁
theorem Av{t:Stmt}{m:M Fl}(ht:i7 B P n t m):gZ B P n [t] m:=by
 intro A hA ρ st s R y st' hm Q E h
 refine wpAny_execs_cons (ht A hA ρ st s R y st' hm _ _ λg ρ1 s₁ r1 R1 G₁=>?_)
 cases y with
 | next=>obtain rfl:g=_:=r1;exact wpAny_execs_nil (h _ ρ1 s₁ rfl R1 G₁)
 | cont=>obtain rfl:g=_:=r1;exact h _ ρ1 s₁ rfl R1 G₁
 | brk=>obtain rfl:g=_:=r1;exact h _ ρ1 s₁ rfl R1 G₁
 | ret x=>obtain⟨v,rfl,hv⟩:=r1;exact h _ ρ1 s₁ ⟨v,rfl,hv⟩ R1 G₁
noncomputable def eT(m:M V):M Fl:=ao m λu=>aa .next
theorem GW{e:OQ}{pos:Pos}{m:M V}(he:aR B P n e m)(hi:interactive P.env=false)(hs:swapsWith e none pos.line P.env=pure false):i7 B P n (.Expr e pos) (eT m):=by
 intro A hA ρ st s R y st' hm Q E h
 refine ae hm λx st1 e1 e2=>?_
 obtain⟨rfl,rfl⟩:=ai e2
 exact wpAny_Expr_any (he A hA ρ st s R x st' e1 _ _ λv ρ1 s₁ r1 R1 G₁=>h _ ρ1 s₁ rfl R1 G₁) hi hs
noncomputable def b8(m:M V):M Fl:=ao m λx=>aa (.ret x)
theorem AB{e:OQ}{pos:Pos}{m:M V}(he:aR B P n e m):i7 B P n (.Return (some e) pos) (b8 m):=by
 intro A hA ρ st s R y st' hm Q E h
 refine ae hm λx st1 e1 e2=>?_
 obtain⟨rfl,rfl⟩:=ai e2
 exact wpAny_Return_some (he A hA ρ st s R x st' e1 _ _ λv ρ1 s₁ r1 R1 G₁=>h _ ρ1 s₁ ⟨v,rfl,r1⟩ R1 G₁)
theorem uQ{pos:Pos}:i7 B P n (.Continue pos) (aa .cont):=by
 intro A hA ρ st s R y st' hm Q E h
 obtain⟨rfl,rfl⟩:=ai hm
 exact wpAny_Continue (h _ ρ s rfl R aW.refl)
theorem Me{t:OQ}{a b:List Stmt}{pos:Pos}{mt:M Bool}{ma mb:M Fl}(ht:lH B P n t mt)(ha:gZ B P n a ma)(hb:gZ B P n b mb):i7 B P n (.If t a b pos) (a8 mt ma mb):=by
 intro A hA ρ st s R y st' hm Q E h
 refine ae hm λc st1 e1 e2=>?_
 refine wpAny_If (ht A hA ρ st s R c st1 e1 _ _ λd ρ1 s₁ r1 R1 G₁=>?_)
 obtain rfl:d=c:=r1
 cases d with
 | true=>simp only[if_true]at e2 ⊢;exact ha A hA ρ1 st1 s₁ R1 y st' e2 Q E λc ρ2 s2 r2 R2 G₂=>h c ρ2 s2 r2 R2 (G₁.trans G₂)
 | false=>simp only[P5,if_false]at e2 ⊢;exact hb A hA ρ1 st1 s₁ R1 y st' e2 Q E λc ρ2 s2 r2 R2 G₂=>h c ρ2 s2 r2 R2 (G₁.trans G₂)
noncomputable def af(i:Nat)(m:M V):M Fl:=ao m λx=>ao (setL i x) λu=>aa .next
theorem Au(OK:B.Ok)(hP:P.Ok){i:Nat}{nm:Str}{e:OQ}{p pos:Pos}{m:M V}(hn:P.names[i]?=some (some nm))(he:aR B P n e m)(hf:(P.env.kindOf nm==some .free)=false)(hs:swapsWith e (some (.Name nm p)) pos.line P.env=pure false) :
  i7 B P n (.Assign [.Name nm p] e pos) (af i m):=by
 intro A hA ρ st s R y st' hm Q E h
 refine ae hm λx st1 e1 e2=>?_
 obtain⟨rfl,rfl⟩:=pj e2
 refine wpAny_Assign_Name (he A hA ρ st s R x st1 e1 _ _ λv ρ1 s₁ r1 R1 G₁=>?_) hs
 exact eu OK hP R1 hn hf r1 λs2 R2 G₂=>h _ ρ1 s2 rfl R2 (G₁.trans G₂)
noncomputable def dr(t:M Bool)(b:M Fl):Nat->M Fl
 | 0=>av
 | f+1=>ao t λc=>if c=true then ao b λr=>match r with
   | .next=>dr t b f
   | .cont=>dr t b f
   | .brk=>aa .next
   | .ret x=>aa (.ret x)
  else aa .next
theorem lX{M:Model}{test:OQ}{body:List Stmt}{env:Env}{R:Result->OX->Prop}(I:Nat->OX->Prop)(f:Nat)
  (turn:∀n s (E:OT->OX->Prop)(J:OX->Prop),(∀e s,notedBy M A env (λe s'=>R (.error e) s') e s->E e s)->(∀s,I n s->J s)->I (n+1) s->Ph M A (isTrue test env (eval test env)) (λb s2=>if b then Ph M A (execs body env) (λf s3=>match f with
   | .next | .cont=>J s3
   | .brk=>R (.ok .next) s3
   | .ret v=>R (.ok (.ret v)) s3) E s2 else R (.ok .next) s2) E s) (h0:∀s,¬I 0 s) (h:I f s) (hM:∃prog w,M=model prog w):codeAny M A (.whileLoop test body [] env) R s:=by
 obtain⟨prog,w,rfl⟩:=hM
 refine codeAny_whileLoop I (λn s hI=>?_) f h
 cases n with
 | zero=>exact(h0 s hI).elim
 | succ n =>
  refine wpAny_mono (turn n s _ (λs=>∃m,m<n+1/\I m s) (λu u h=>h) (λs h=>⟨n,PR n,h⟩) hI) (λb s h=>?_) λu u e=>e
  cases b with
  | true=>exact h
  | false=>exact wpAny_execs_nil h
theorem zy{C:Prop}{fl y:Fl}{g:Flow}{next:M Fl}(e:(match fl with | .next=>next | .cont=>next | .brk=>aa .next | .ret x=>aa (.ret x):M Fl) st=some (y,st'))(r:dW ρ fl g)
  (hJ:g=.next\/g=.cont->next st=some (y,st')->C) (hb:g=.brk->y=.next->st'=st->C) (hr:∀x v,g=.ret v->aU ρ x v->y=.ret x->st'=st->C):C:=by
 cases fl with
 | next=>exact hJ (.inl r) e
 | cont=>exact hJ (.inr r) e
 | brk=>exact hb r (ai e).1 (ai e).2
 | ret x=>obtain⟨v,e1,hv⟩:=r;exact hr x v e1 hv (ai e).1 (ai e).2
theorem DZ(fuel:Nat){t:OQ}{b:List Stmt}{pos:Pos}{mt:M Bool}{mb:M Fl}(ht:lH B P n t mt)(hb:gZ B P n b mb):i7 B P n (.While t b [] pos) (dr mt mb fuel):=by
 intro A hA ρ st s R y st' hm Q E h
 refine wpAny_While ?_
 obtain⟨I,hI⟩:∃I:Nat->OX->Prop,∀f s₁,I f s₁↔∃ρ1 st1,bB B P ρ1 st1 s₁/\aW B P ρ s ρ1 s₁/\dr mt mb f st1=some (y,st'):=⟨_,λu u=>Tu⟩
 refine lX I fuel (λf s₁ E' J u hJ h1=>?_) (λs h=>?_) ((hI _ _).mpr ⟨ρ,st,R,aW.refl,hm⟩) ⟨_,_,rfl⟩
 ·obtain⟨ρ1,st1,R1,G₁,hm1⟩:=(hI _ _).mp h1
  replace hJ:=λρ2 st2 s2 R2 G₂ m2=>hJ s2 ((hI _ _).mpr ⟨ρ2,st2,R2,G₂,m2⟩)
  clear hI h1 hm R
  refine ae hm1 λc st2 e₁ e₂=>ht A hA ρ1 st1 s₁ R1 c st2 e₁ _ _ λd ρ2 s2 r2 R2 G₂=>?_
  obtain rfl:d=c:=r2
  replace G₁:=G₁.trans G₂
  clear hm1 e₁ R1 G₂
  cases d with
  | false=>obtain⟨rfl,rfl⟩:=pj e₂;exact h _ ρ2 s2 rfl R2 G₁
  | true =>
   refine ae e₂ λr st3 e3 e4=>hb A hA ρ2 st2 s2 R2 r st3 e3 _ _ λg ρ3 s3 r3 R3 G₃=>?_
   replace G₁:=G₁.trans G₃
   clear e₂ e3 R2 G₃
   refine zy e4 r3 (λhg e=>?_) (λhg e1 e2=>?_) λx v hg hv e1 e2=>?_
   ·rcases hg with e | e<;>subst e<;>exact hJ ρ3 st3 s3 R3 G₁ ‹_›
   ·subst hg;exact h _ ρ3 s3 (e1▸rfl) (e2▸R3) G₁
   ·subst hg;exact h _ ρ3 s3 (e1▸⟨v,rfl,hv⟩) (e2▸R3) G₁
 ·obtain⟨_,_,_,_,q⟩:=(hI _ _).mp h
  exact nO q
end
inductive It where
 | list (k i:Nat)
 | range (x left step:Int)
 | str (x:Str) (i:Nat)
 | call (k:Nat)
noncomputable def jP(B:bc)(P:Fc)(z:Addr->Prop)(ρ:List Addr)(I:Addr):Prop:=I∉ρ/\I∉P.wr/\B.n₀<=I/\¬z I
noncomputable def cO(B:bc)(P:Fc)(z:Addr->Prop)(ρ:List Addr)(h:Heap):It->OT->Prop
 | .list k i,v=>∃I a,v=.ref I/\jP B P z ρ I/\ρ[k]?=some a/\h.IsListIter I a i
 | .range x l st,v=>∃I,v=.ref I/\jP B P z ρ I/\IsRangeIter h I x l st
 | .str x i,v=>∃I t,v=.ref I/\jP B P z ρ I/\h.IsStrIter I (strIterType x) x t i
 | .call k,v=>∃a,v=.ref a/\ρ[k]?=some a
structure CF where
 on:Bool
 g:Addr
 fm:V->M V
noncomputable def d4:CF:=⟨false,0,λu=>av⟩
noncomputable def IL{β:Type}(f:V->V->Bool->M β)(o:O):M β:=match o with | .callIter x y e=>f x y e | _=>av
noncomputable def i8{β:Type}(f:V->Addr->M β)(o:O):M β:=match o with | .bound x g=>f x g | _=>av
theorem qV{β:Type}{C:Prop}{f:V->V->Bool->M β}{o:O}{st:St}{r:β×St}(h:IL f o st=some r)(c:∀x y e,o=.callIter x y e->f x y e st=some r->C):C:=by
 cases o with
 | callIter x y e=>exact c x y e rfl h
 | _=>exact nO h
theorem i9{β:Type}{C:Prop}{f:V->Addr->M β}{o:O}{st:St}{r:β×St}(h:i8 f o st=some r)(c:∀x g,o=.bound x g->f x g st=some r->C):C:=by
 cases o with
 | bound x g=>exact c x g rfl h
 | _=>exact nO h
noncomputable def tI(k kb:Nat)(y x:Str):M (Option (V×It)):=if (y==x)=true then wv k (.callIter (.ref kb) (.str y) true) none else aa (some (.str x,.call k))
noncomputable abbrev tB(cf:CF)(kb:Nat)(y:Str)(f z:V)(e:Bool)(g:Addr):Prop:=f=.ref kb/\z=.str y/\e=false/\g=cf.g
noncomputable def Nk(cf:CF)(k kb:Nat)(y x:Str)(f z:V)(e:Bool):M (Option (V×It)):=oO kb (i8 λu g=>if tB cf kb y f z e g then tI k kb y x else av)
noncomputable def IP(cf:CF)(k kb:Nat)(y:Str)(v:V):M (Option (V×It)):=gw v λx=>oO k (IL (Nk cf k kb y x))
noncomputable def IO(cf:CF)(k kb:Nat)(y:Str)(self:V)(g:Addr):M (Option (V×It)):=if g=cf.g then ao (cf.fm self) (IP cf k kb y)else av
noncomputable def Nj(cf:CF)(k:Nat)(f z:V)(e:Bool):M (Option (V×It)):=if e=true then aa none else eA f λkb=>gw z λy=>oO kb (i8 (IO cf k kb y))
noncomputable def BA(cf:CF)(k:Nat):M (Option (V×It)):=oO k (IL (Nj cf k))
theorem lT{β:Type}{C:Prop}{x:V}{f:Nat->M β}{st:St}{r:β×St}(h:eA x f st=some r)(c:∀k,x=.ref k->f k st=some r->C):C:=by
 cases x with
 | ref k=>exact c k rfl h
 | _=>exact nO h
theorem p7{β:Type}{C:Prop}{x:V}{f:Str->M β}{st:St}{r:β×St}(h:gw x f st=some r)(c:∀k,x=.str k->f k st=some r->C):C:=by
 cases x with
 | str k=>exact c k rfl h
 | _=>exact nO h
theorem zL{C:Prop}{cf:CF}{k:Nat}{r:Option (V×It)}{st st':St}(h:BA cf k st=some (r,st'))(h1:∀f z,st.σ[k]?=some (.callIter f z true)->r=none->st'=st->C)
  (h2:∀kb y x self self' st1,st.σ[k]?=some (.callIter (.ref kb) (.str y) false)->st.σ[kb]?=some (.bound self cf.g)->cf.fm self st=some (.str x,st1)->st1.σ[k]?=some (.callIter (.ref kb) (.str y) false)->st1.σ[kb]?=some (.bound self' cf.g)->tI k kb y x st1=some (r,st')->C):C:=by
 refine bS h λo hx h=>qV h λf z e eo h=>?_
 subst eo
 cases e with
 | true=>exact h1 f z hx (ai h).1 (ai h).2
 | false =>
  refine lT h λkb e1 h=>p7 h λy e2 h=>bS h λob hb h=>i9 h λself g e3 h=>aG h λe4 h=>ae h λv st1 hf h=>p7 h λx e5 h =>
   bS h λo' hx' h=>qV h λf' z' e' e6 h=>bS h λob' hb' h=>i9 h λself' g' e7 h=>aG h λe8 h=>?_
  obtain⟨e8,e9,e10,e11⟩:=e8
  exact h2 kb y x self self' st1 (by rw[hx,e1,e2]) (by rw[hb,e3,e4]) (by rw[hf,e5]) (by rw[hx',e6,e8,e9,e10]) (by rw[hb',e7,e11]) h
noncomputable def lS(cf:CF)(it:It):M (Option (V×It)):=match it with
 | .list k i=>cj k λxs=>aa (xs[i]?.map λx=>(x,.list k (i+1)))
 | .range x l st=>if 0<l then aa (some (.int x,.range (x+st) (l - 1) st))else aa none
 | .str x i=>aa (x.cps[i]?.map λc=>(.str ⟨#[c]⟩,.str x (i+1)))
 | .call k=>if cf.on=true then BA cf k else av
section
variable {B:bc}{P P':Fc}{A:Around}{n:Nat}{ρ ρ' ρ'':List Addr}{st st':St}{s s' s'':OX}{z:Addr->Prop}
theorem jP.grow{I:Addr}{o:Obj}(OK:B.Ok)(G:aW B P ρ s ρ' s')(h:jP B P z ρ I)(e:s.heap.get? I=some o)(hc:o.cls≠.type "frame")(hl:∀a∈B.tabs,a<B.n₀):jP B P z ρ' I/\s'.heap.get? I=some o:=by
 refine⟨⟨λhm=>?_,h.2⟩,(G.keep I o e h.1 h.2.1 λht=>absurd (hl I ht) (P9.mpr h.2.2.1)).exact hc⟩
 rcases G.new I hm with q | q
 ·exact h.1 q
 ·exact bo e q
theorem cO.grow{it:It}{v:OT}(OK:B.Ok)(hl:∀a∈B.tabs,a<B.n₀)(G:aW B P ρ s ρ' s')(h:cO B P z ρ s.heap it v):cO B P z ρ' s'.heap it v:=by
 cases it with
 | list k i =>
  obtain⟨I,a,rfl,ha,hk,o,e,hc,hd⟩:=h
  obtain⟨h1,h2⟩:=ha.grow OK G e (by rw[hc];simp) hl
  exact⟨I,a,rfl,h1,bP G.pre hk,o,h2,hc,hd⟩
 | range x l st =>
  obtain⟨I,rfl,ha,e⟩:=h
  obtain⟨h1,h2⟩:=ha.grow OK G e (by simp) hl
  exact⟨I,rfl,h1,h2⟩
 | str x i =>
  obtain⟨I,t,rfl,ha,o,e,hc,hd⟩:=h
  obtain⟨h1,h2⟩:=ha.grow OK G e (by rw[hc];unfold strIterType;split<;>simp) hl
  exact⟨I,t,rfl,h1,o,h2,hc,hd⟩
 | call k=>obtain⟨a,rfl,hk⟩:=h;exact⟨a,rfl,bP G.pre hk⟩
structure b6(B:bc)(P:Fc)(z:Addr->Prop)(ρ:List Addr)(s:OX)(ρ':List Addr)(s':OX):Prop where
 pre:ρ<+: ρ'
 keep:∀b o,z b->s.heap.get? b=some o->b∉ρ->b∉P.wr->b∉B.tabs->cu B.n₀ s'.heap b o
 new:∀a∈ρ',a∈ρ\/sz s<=a
 size:sz s<=sz s'
theorem aW.toZ(G:aW B P ρ s ρ' s'):b6 B P z ρ s ρ' s':=⟨G.pre,λb o u=>G.keep b o,G.new,G.size⟩
theorem aW.transZ(x:aW B P ρ s ρ' s')(y:b6 B P (· <sz s) ρ' s' ρ'' s''):aW B P ρ s ρ'' s'':=by
 refine⟨⟨x.pre.trans y.pre,λb o e h1 h2 h3=>?_,λa ha=>?_⟩,OZ x.size y.size⟩
 ·obtain⟨sl,e1,e2⟩:=x.keep b o e h1 h2 h3
  exact cu.trans ⟨sl,e1,e2⟩ λo' e'=>y.keep b o' (Pu e) e' (λhb=>by
   rcases x.new b hb with q | q
   ·exact h1 q
   ·exact bo e q) h2 h3
 ·rcases y.new a ha with q | q
  ·exact x.new a q
  ·exact .inr (OZ x.size q)
noncomputable def Bb(B:bc)(P:Fc)(z:Addr->Prop)(ρ:List Addr)(st':St)(s:OX)(v:OT)(Q:Option OT->OX->Prop):Option (V×It)->Prop
 | none=>∀ρ' s',bB B P ρ' st' s'->b6 B P z ρ s ρ' s'->Q none s'
 | some (x,it)=>∀u ρ' s',aU ρ' x u->bB B P ρ' st' s'->b6 B P z ρ s ρ' s'->cO B P z ρ' s'.heap it v->Q (some u) s'
noncomputable def gG(B:bc)(P:Fc)(n:Nat)(cf:CF):Prop :=
 ∀A,iZ P n A->∀z ρ st s k v r st',bB B P ρ st s->cO B P z ρ s.heap (.call k) v->lS cf (.call k) st=some (r,st')->∀Q E,Bb B P z ρ st' s v Q r->Ph (model B.prog B.w) A (pyNext v) Q E s
theorem iB:gG B P n d4:=λA hA z ρ st s k v r st' R hi hm=>nomatch (show(none:Option (Option (V×It)×St))=some (r,st')from hm)
theorem Rel0.iter{I:Addr}{o:Obj}{tk:Nat}{h':Heap}(OK:B.Ok)(R:bB B P ρ st s)(ha:jP B P z ρ I)(e:s.heap.get? I=some o){T:String}(hc:o.cls=.type T)(hT:T≠"frame"/\T≠"code")(hd:∀es m,o.data≠.dict es m)
  (hk:Heap.ExtBut I s.heap h') (ht:1<=tk) (hz:sz s<=h'.objs.size):bB B P ρ st { s with heap:=h',toks:=tk }/\b6 B P z ρ s ρ { s with heap:=h',toks:=tk }:=by
 have R':=R.toRel0.other (s':={ s with heap:=h',toks:=tk }) (I:=I) OK ⟨ha.1,ha.2.1,ha.2.2.1⟩ e (.inr (by rw[hc];exact⟨λq=>hT.2 (by injection q),λq=>nc Tr q rfl⟩)) (by rw[hc];exact λq=>hT.1 (by injection q)) hd hk rfl rfl
 exact⟨⟨R',ht⟩,PK _,λb o hb eb u u u=>.of (hk b o (by rintro rfl;exact ha.2.2.2 hb) eb),λu h=>.inl h,hz⟩
section
variable {prog:Program}{w:Pt}{E:OT->OX->Prop}{Q:Option OT->OX->Prop}{I:Addr}{x:Str}{t:Tok}{i:Nat}
theorem lC{C:String->Prop}(h1:C "str_ascii_iterator")(h2:C "str_iterator"):C (strIterType x):=by
 unfold strIterType
 split
 ·exact h1
 ·exact h2
theorem He{c:Nat}{T:String}(hT:T="str_ascii_iterator"\/T="str_iterator")(hi:s.heap.IsStrIter I T x t i)(hg:x.cps[i]?=some c)
  (hQ:∀h',h'.IsStrIter I T x t (i+1)->Rt I s.heap h'->sz s<=h'.objs.size->Q (some (.str ⟨#[c]⟩ s.toks)) { s with heap:=h',toks:=s.toks+1 }):Ph (model prog w) A (pyNext (.ref I)) Q E s:=by
 refine bQ (O8 (sz s)) ?_
 rcases hT with rfl | rfl
 ·exact wpAny_pyNext_ascii_item hi hg hQ
 ·exact wpAny_pyNext_wide_item hi hg hQ
theorem Km{T:String}(hT:T="str_ascii_iterator"\/T="str_iterator")(hh:A.handled=none)(hi:s.heap.IsStrIter I T x t i)(hg:x.cps[i]?=none)
  (hQ:∀h',Heap.ExtBut I s.heap h'->sz s<=h'.objs.size->Q none { s with heap:=h' }):Ph (model prog w) A (pyNext (.ref I)) Q E s:=by
 refine bQ (O8 (sz s)) ?_
 rcases hT with rfl | rfl
 ·exact wpAny_pyNext_ascii_end hh hi hg hQ
 ·exact wpAny_pyNext_wide_end hh hi hg hQ
end
theorem s6{cf:CF}{it:It}{v:OT}{r:Option (V×It)}{Q:Option OT->OX->Prop}{E:OT->OX->Prop}(OK:B.Ok)(hcf:gG B P n cf)(hA:iZ P n A)(R:bB B P ρ st s)(hi:cO B P z ρ s.heap it v)
  (hm:lS cf it st=some (r,st')) (h:Bb B P z ρ st' s v Q r):Ph (model B.prog B.w) A (pyNext v) Q E s:=by
 cases it with
 | list k i =>
  obtain⟨I,a,rfl,ha,hk,o,e,hc,hd⟩:=hi
  refine a5 R hk hm λxs vs m hx e1 q hl hm1=>bQ (O8 (sz s)) ?_
  clear hm
  have hd':∀es m,o.data≠.dict es m:=λes m=>by rw[hd];simp
  cases hg:xs[i]? with
  | some x =>
   rw[hg]at hm1
   obtain⟨rfl,rfl⟩:=pj hm1
   obtain⟨u,hu,ru⟩:=q.get hg
   refine wpAny_pyNext_list_item (l:=a) ⟨o,e,hc,hd⟩ (oz e1) (by simpa using hu) λh' hit hs hz=>?_
   obtain⟨R',G'⟩:=Rel0.iter OK R ha e hc ⟨by decide,by decide⟩ hd' hs.extBut R.tpos hz
   exact h u ρ _ ru R' G' ⟨I,a,rfl,ha,hk,hit⟩
  | none =>
   rw[hg]at hm1
   obtain⟨rfl,rfl⟩:=pj hm1
   refine wpAny_pyNext_list_end hA.handled (l:=a) ⟨o,e,hc,hd⟩ (oz e1) (SJ.mpr (hl▸Rz.mp hg)) λh' hs hz=>?_
   obtain⟨R',G'⟩:=Rel0.iter OK R ha e hc ⟨by decide,by decide⟩ hd' hs R.tpos hz
   exact h ρ _ R' G'
 | range x l stp =>
  obtain⟨I,rfl,ha,e⟩:=hi
  refine bQ (O8 (sz s)) ?_
  by_cases hl:0<l
  ·rw[lS,if_pos hl]at hm
   obtain⟨rfl,rfl⟩:=pj hm
   refine wpAny_pyNext_range_item e hl λh' hit hs hz=>?_
   obtain⟨R',G'⟩:=Rel0.iter (tk:=s.toks+1) OK R ha e rfl ⟨by decide,by decide⟩ (by simp) hs.extBut (PN 1 _) hz
   exact h _ ρ _ ⟨_,rfl⟩ R' G' ⟨I,rfl,ha,hit⟩
  ·rw[lS,if_neg hl]at hm
   obtain⟨rfl,rfl⟩:=pj hm
   refine wpAny_pyNext_range_end hA.handled e (by omega) λh' hs hz=>?_
   obtain⟨R',G'⟩:=Rel0.iter OK R ha e rfl ⟨by decide,by decide⟩ (by simp) hs R.tpos hz
   exact h ρ _ R' G'
 | str x i =>
  obtain⟨I,t,rfl,ha,hs⟩:=hi
  obtain⟨o,e,hc,hd⟩:=id hs
  have hd':∀es m,o.data≠.dict es m:=λes m=>by rw[hd];simp
  have hT:strIterType x="str_ascii_iterator"\/strIterType x="str_iterator":=lC (C:=λT=>T=_\/T=_) (.inl rfl) (.inr rfl)
  have hT':strIterType x≠"frame"/\strIterType x≠"code":=lC (C:=λT=>T≠_/\T≠_) (by decide) (by decide)
  cases hg:x.cps[i]? with
  | some c =>
   rw[lS,hg]at hm
   obtain⟨rfl,rfl⟩:=pj hm
   refine He hT hs hg λh' hit hs hz=>?_
   obtain⟨R',G'⟩:=Rel0.iter (tk:=s.toks+1) OK R ha e hc hT' hd' hs.extBut (PN 1 _) hz
   exact h _ ρ _ ⟨_,rfl⟩ R' G' ⟨I,t,rfl,ha,hit⟩
  | none =>
   rw[lS,hg]at hm
   obtain⟨rfl,rfl⟩:=pj hm
   refine Km hT hA.handled hs hg λh' hs hz=>?_
   obtain⟨R',G'⟩:=Rel0.iter OK R ha e hc hT' hd' hs R.tpos hz
   exact h ρ _ R' G'
 | call k=>exact hcf A hA z ρ st s k v r st' R hi hm Q E h
noncomputable def jQ(B:bc)(P:Fc)(n:Nat)(e:OQ)(m:M It):Prop :=
 ∀A,iZ P n A->∀ρ st s,bB B P ρ st s->∀y st',m st=some (y,st')->∀(Q:OT->OX->Prop)(E:OT->OX->Prop),
  (∀v ρ' s',cO B P (· <sz s) ρ' s'.heap y v->bB B P ρ' st' s'->aW B P ρ s ρ' s'->Q v s')->Ph (model B.prog B.w) A (eval e P.env) (λx s₁=>Ph (model B.prog B.w) A (pyIter x) Q E s₁) E s
theorem gE(R:bB B P ρ st s)(OK:B.Ok){a:Addr}(h:sz s<=a)(hz:¬z a):jP B P z ρ a:=by
 refine⟨λhm=>?_,λhm=>?_,OZ (R.size OK) h,hz⟩
 ·obtain⟨o,e,_⟩:=R.live a hm;exact bo e h
 ·obtain⟨o,e,_⟩:=R.wlive a hm;exact bo e h
theorem d5(OK:B.Ok)(R:bB B P ρ st s){ob:Obj}{tk:Nat}(ht:1<=tk):bB B P ρ st { s with heap:=s.heap.push ob,toks:=tk }/\aW B P ρ s ρ { s with heap:=s.heap.push ob,toks:=tk } :=
 ⟨⟨R.ext OK (λb o e=>Pj _ e) rfl rfl,ht⟩,bk.ext λb o e=>Pj _ e,by rw[vd];exact QK _⟩
noncomputable def OE(k:Nat)(o:O):M It:=match o with
 | .list _=>aa (.list k 0)
 | .callIter _ _ _=>aa (.call k)
 | _=>av
noncomputable def fj(m:M V):M It:=ao m λx=>match x with
 | .ref k=>oO k (OE k)
 | .str x=>aa (.str x 0)
 | _=>av
noncomputable def bq(ms:M (List V)):M It:=ao ms λxs=>A7 xs λx=>bI x λb=>if -(2^40)<=b/\b<=2^40 then aa (.range 0 (if 0<b then b else 0) 1)else av
end
section
variable {B:bc}{P P':Fc}{A:Around}{n:Nat}{ρ ρ' ρ'':List Addr}{st st':St}{s s' s'':OX}{z:Addr->Prop}
theorem jw:Slot "callable_iterator" "__next__" "callable_iterator.__next__" :=
 .of (owner:="callable_iterator") (n:="__next__") (by rw[typeLookup_type,builtinLookup_eq_fast];kernel_rfl) (by decide+kernel) (by decide+kernel) (by decide+kernel)
  (by first | exact .inl (by decide+kernel) | exact .inr (by decide+kernel)) (by rw[isSubtype_type];kernel_rfl)
theorem mN:Slot "callable_iterator" "__iter__" "callable_iterator.__iter__" :=
 .of (owner:="callable_iterator") (n:="__iter__") (by rw[typeLookup_type,builtinLookup_eq_fast];kernel_rfl) (by decide+kernel) (by decide+kernel) (by decide+kernel)
  (by first | exact .inl (by decide+kernel) | exact .inr (by decide+kernel)) (by rw[isSubtype_type];kernel_rfl)
theorem qB:entryFor table "callable_iterator.__iter__"=some Builtin.«dict_keyiterator.__iter__» :=
 entryFor_alias (id':="dict_keyiterator.__iter__") (by kernel_rfl) (by first | rfl | decide+kernel | (unfold String.splitOn;simp+decide [String.splitOnAux])) (by decide+kernel) (by kernel_rfl)
theorem qC:entryFor table "callable_iterator.__next__"=some Builtin.«callable_iterator.__next__» := entryFor_of_tree (by kernel_rfl)
theorem so(a:OT):argsOk "callable_iterator.__iter__" ⟨[a],[]⟩:=by unfold argsOk;kernel_rfl
theorem sq(a:OT):argsOk "callable_iterator.__next__" ⟨[a],[]⟩:=by unfold argsOk;kernel_rfl
variable {prog:Program}{w:Pt}{E:OT->OX->Prop}
theorem jD{a:Addr}{o:Obj}{Q:OT->OX->Prop}(e:s.heap.get? a=some o)(hc:o.cls=.type "callable_iterator")(h:Q (.ref a) s):Ph (model prog w) A (pyIter (.ref a)) Q E s:=by
 have hT:s.TypeIs (.ref a) "callable_iterator":=⟨o,e,hc⟩
 refine wpAny_pyIter_slot hT mN (wpAny_call_entry mN hT qB ?_ (so _))
 show Ph _ _ (ret (.ref a)) _ _ s
 exact O3 ⟨_,rfl,"callable_iterator",_,hT,jw.lookup,h⟩
theorem oq{M:Model}{s:OX}{f:OT}{pos:List OT}{Q:OT->OX->Prop}(h:Ph M A (call f pos) Q E s):Ph M A (callBorrowed f pos) Q E s:=λΓ p hΓ=>by
 have:=h Γ p hΓ
 unfold call at this
 rw[Sem.wp_runValue]at this
 unfold callBorrowed
 rw[Sem.wp]
 refine wpCode_mono (λr s' hr=>?_) this
 cases r with
 | ok f=>cases f<;>simp_all [Sem.wp]
 | error e=>simp_all [Sem.wp]
noncomputable def w8(prog:Program)(w:Pt)(A:Around)(Q:Option OT->OX->Prop)(E:OT->OX->Prop)(e:OT)(s:OX):Prop :=
 Ph (model prog w) A (do if <- isInstance e (.type "StopIteration")then pure none else throw e) Q E s
theorem rT{α:Type}{Qa:α->OX->Prop}(hh:A.handled=none)(hq:∀h' e,(∀b o,s.heap.get? b=some o->h'.get? b=some o)->s.heap.objs.size<=e->(∃oe vs,h'.get? e=some oe/\oe.cls=.type "StopIteration"/\oe.data=.fields vs/\vs[1]?=some .none) ->
   s.heap.objs.size<=h'.objs.size->E (.ref e) { s with heap:=h' }):Ph (model prog w) A (Qy:Sem α) Qa E s:=by
 unfold Qy
 refine OR ?_
 simp only[newExc,newTuple]
 refine OR (wpAny_newObj_type (OR (m:=firstArgMember _ _) (wpAny_of_eq (a:=Sm) (by first | rfl | (simp only[firstArgMember];rfl)) (wpAny_newObj_type ?_ (by size_fits)))) (by size_fits))
 simp only[raiseNew]
 refine OR (wpAny_handled ?_)
 rw[hh]
 refine OR (O3 (wpAny_throw (hq _ _ (λb o e=>Pj _ (Pj _ e)) (by rw[PP];exact QK _) ⟨_,_,Pd _ rfl,rfl,rfl,?_⟩ ?_)))
 ·rw[Array.getElem?_append_left (by simp)];rfl
 ·rw[PP,PP];lia
theorem D5{α:Type}{Qa:α->OX->Prop}{Q:Option OT->OX->Prop}(hh:A.handled=none)(hq:∀h',(∀b o,s.heap.get? b=some o->h'.get? b=some o)->s.heap.objs.size<=h'.objs.size->Q none { s with heap:=h' }) :
  Ph (model prog w) A.in1 (Qy:Sem α) Qa (w8 prog w A Q E) s :=
 rT hh λh' e hk u q hz=>by obtain⟨oe,_,eo,hc,_⟩:=q;exact OR (wpAny_isInstance (T:="StopIteration") (b:=true) ⟨oe,eo,hc⟩ isSubtype_stop (O3 (hq h' hk hz)))
theorem qW{a:Addr}{o:Obj}{Q:Option OT->OX->Prop}(e:s.heap.get? a=some o)(hc:o.cls=.type "callable_iterator")
  (hw:∀Q',(∀v s',Q (some v) s'->Q' (.done (.ret v)) s')->Ph (model prog w) A.in1 (Builtin.«callable_iterator.__next__» ⟨[.ref a],[]⟩) Q' (w8 prog w A Q E) s):Ph (model prog w) A (pyNext (.ref a)) Q E s:=by
 have hT:s.TypeIs (.ref a) "callable_iterator":=⟨o,e,hc⟩
 unfold pyNext
 exact OR (wpAny_attempt (wpAny_callSpecial?_slot (name:=OO "__next__") hT jw
  (wpAny_call_entry jw hT qC (hw _ λv s' h=>⟨v,rfl,O3 h⟩) (sq _))))
theorem xm{b g:Addr}{v:OT}{og:Obj}{fd:PF}{Q:Bool->OX->Prop}(h1:s.heap.get? b=some (PySem.W.methodObj (.ref g) v))(h2:s.heap.get? g=some og)(hgd:og.data=.func fd)(hq:Q true s) :
  Ph (model prog w) A (borrowsExactly (.ref b)) Q E s:=by
 unfold borrowsExactly
 refine OR (wpAny_load h1 ?_)
 show Ph _ _ (load g>>=_) _ _ s
 refine OR (wpAny_load h2 ?_)
 rw[hgd]
 exact O3 hq
theorem uT(OK:B.Ok)(cf:CF)(hg:∃o fd,B.h₀.get? cf.g=some o/\o.data=.func fd)
  (hcf:∀A,iZ P n A->∀ρ st s k v self,bB B P ρ st s->aU ρ (.ref k) v->st.σ[k]?=some (.bound self cf.g)->At B P A ρ st s (call v []) aU (cf.fm self)):gG B P (n+1) cf:=by
 intro A hA z ρ st s k v r st' R hi hm Q E h
 obtain⟨a,rfl,ha⟩:=hi
 refine aG (p:=cf.on=true) hm λm hm=>zL hm (λf y hx e1 e2=>?_) λkb y x self self' st1 hx hb hfm hx' hb' hr=>?_
 ·subst e1;subst e2
  obtain⟨v,u,ea,q⟩:=R.obj _ a _ ha hx
  refine qW ea rfl λQ' hQ=>?_
  show Ph _ _ (field (.ref a) 2>>=_) _ _ s
  exact OR (wpAny_field ea rfl (x:=.bool true) rfl (OR (wpAny_rule (OR (D5 hA.handled λh' hk hz=>h ρ _ ⟨R.ext OK hk rfl rfl,R.tpos⟩ (aW.toZ ⟨bk.ext hk,hz⟩))))))
 ·obtain⟨v,u,ea,q⟩:=R.obj _ a _ ha hx
  obtain⟨⟨b,hbρ,rfl⟩,⟨tu,rfl⟩⟩:=q rfl
  obtain⟨og,fd,eg,hgd⟩:=hg
  obtain⟨vself,eb,_⟩:=R.obj _ b _ hbρ hb
  have hA':iZ P n A.in1:=⟨hA.frames,hA.handled,by have:=hA.depth;show A.depth+n<=800;lia,by have:=hA.units;show A.units+1+10*n<=9000;lia⟩
  refine qW ea rfl λQ' hQ=>?_
  have hE:∀{α:Type}{Qa:α->OX->Prop}{s:OX},_->Ph (model B.prog B.w) A.in1 (Qy:Sem α) Qa (w8 B.prog B.w A Q E) s:=λhq=>D5 hA.handled hq
  generalize w8 B.prog B.w A Q E=E' at *
  show Ph _ _ (field (.ref a) 2>>=_) _ _ s
  refine OR (wpAny_field ea rfl (x:=.bool false) rfl (OR (wpAny_field ea rfl (x:=.ref b) rfl (OR (wpAny_attempt ?_)))))
  unfold callOutOfASlot
  refine OR (xm eb (R.kept _ _ eg) hgd (oq (hcf A.in1 hA' ρ st s _ (.ref b) _ R ⟨b,hbρ,rfl⟩ hb _ _ hfm _ _ λr1 ρ1 s₁ rr R1 G₁=>?_)))
  obtain⟨tr,rfl⟩:=rr
  have ha1:=bP G₁.pre ha
  have hb₁:=bP G₁.pre hbρ
  obtain⟨v1,u1,e1,q1⟩:=R1.obj _ a _ ha1 hx'
  obtain⟨⟨b1,hb1,e2⟩,⟨tu1,e3⟩⟩:=q1 rfl
  rw[e2,e3,<- Pw (hb₁.symm.trans hb1)]at e1
  refine OR (wpAny_field e1 rfl (x:=.bool false) rfl (OR (wpAny_field e1 rfl (x:=.str y tu1) rfl (OR (wpAny_holding (PyProof.Rows.eqBool_str ?_))))))
  cases hxy:(y==x)with
  | false =>
   rw[tI,hxy]at hr
   obtain⟨rfl,rfl⟩:=pj hr
   exact O3 (hQ _ _ (h _ ρ1 s₁ ⟨_,rfl⟩ R1 G₁.toZ ⟨a,rfl,ha1⟩))
  | true =>
   rw[tI,hxy]at hr
   obtain⟨rfl,rfl⟩:=pj hr
   obtain⟨vself1,eb1,_⟩:=R1.obj _ b _ hb₁ hb'
   refine OR (wpAny_rule (OR ?_))
   show Ph _ _ (field (.ref a) 0>>=_) _ _ s₁
   refine OR (wpAny_field e1 rfl (x:=.ref b) rfl (OR ?_))
   unfold slotLetsGo
   refine OR (xm eb1 (R1.kept _ _ eg) hgd (O3 ?_))
   refine OR (wpAny_setField_rec e1 (by simp) λh1 g1 k1=>OR (wpAny_setField_rec g1 (by simp) λh2 g2 k2=>wpAny_setField_rec g2 (by simp) λh3 g3 k3=>hE λh' hk hz=>?_))
   have k123:Rt a s₁.heap h3:=(k1.trans k2).trans k3
   have hka:∀c o,c≠a->s₁.heap.get? c=some o->h'.get? c=some o:=λc o hc ec=>hk c o ((k123.2 c hc).trans ec)
   refine h ρ1 _ ⟨R1.toRel0.set OK ha1 (λv=>by rw[hx'];simp) hka ⟨_,_,hk _ _ g3,λq=>nc QH q rfl⟩ ⟨_,hk _ _ g3,by simp⟩ rfl rfl,R1.tpos⟩ ?_
   exact(aW.trans G₁ ⟨bk.set ha1 hka,OZ (Qc k123.1.symm) hz⟩).toZ
theorem Ax(OK:B.Ok){e:OQ}{m:M V}(he:aR B P n e m):jQ B P n e (fj m):=by
 intro A hA ρ st s R y st' hm Q E h
 refine ae hm λx st1 e1 e2=>he A hA ρ st s R x st1 e1 _ _ λv ρ1 s₁ r1 R1 G₁=>?_
 clear hm e1
 cases x with
 | ref k =>
  obtain⟨a,ha,rfl⟩:=r1
  refine bS e2 λo hx e3=>?_
  clear e2
  cases o with
  | list xs =>
   obtain⟨rfl,rfl⟩:=pj e3
   obtain⟨vs,m,e5,q⟩:=R1.obj _ a _ ha hx
   obtain⟨R',G'⟩:=d5 (ob:={ cls:=.type "list_iterator",data:=.fields #[.ref a,.int 0 0] }) OK R1 R1.tpos
   refine wpAny_pyIter_list (oz e5) (h _ ρ1 _ ?_ R' (G₁.trans G'))
   exact⟨_,a,rfl,gE R1 OK (O8 _) (P9.mpr G₁.size),ha,_,Pd _ rfl,rfl,rfl⟩
  | callIter f z e =>
   obtain⟨rfl,rfl⟩:=pj e3
   obtain⟨v,u,e5,q⟩:=R1.obj _ a _ ha hx
   exact jD e5 rfl (h _ ρ1 _ ⟨a,rfl,ha⟩ R1 G₁)
  | _=>exact nO e3
 | str x =>
  obtain⟨rfl,rfl⟩:=pj e2
  obtain⟨t,rfl⟩:=r1
  obtain⟨R',G'⟩:=d5 (ob:={ cls:=.type (strIterType x),data:=.fields #[.str x t,.int 0 0] }) OK R1 R1.tpos
  refine wpAny_pyIter_strU (h _ ρ1 _ ?_ R' (G₁.trans G'))
  exact⟨_,t,rfl,gE R1 OK (O8 _) (P9.mpr G₁.size),_,Pd _ rfl,rfl,rfl⟩
 | _=>exact nO e2
theorem wA(OK:B.Ok){nm:Str}{p pos:Pos}{e:OQ}{ms:M (List V)}(hn:aR B P n (.Name nm p) (aa (.glob (.type "range"))))(hs:mZ B P n pos [e] ms)
  (hst:Pb (e :: []) P.env=(false,eval e P.env)::Pb [] P.env) (hpl:(backTo pos (Pb [] P.env)).any (·.1)=false):jQ B P n (.Call (.Name nm p) [e] [] pos) (bq ms):=by
 intro A hA ρ st s R y st' hm Q E h
 refine ae hm λxs st1 e1 e2=>?_
 refine wpAny_Call_NameR (hn A hA ρ st s R _ _ rfl _ _ λv ρ0 s₀ r0 R0 G₀=>?_)
 obtain rfl:v=_:=r0
 refine SA (hs A hA ρ0 st s₀ R0 xs st1 e1 _ _ λvs ρ1 s₁ r1 R1 G₁=>?_) hst hpl
 refine eQ r1 e2 λx v e r2 e3=>bG r2 e3 λb t e' e4=>aG e4 λhb e5=>?_
 clear hm e1 e2 e3 e4 r1
 subst e;subst e';obtain⟨rfl,rfl⟩:=pj e5
 obtain⟨R2,G₂⟩:=d5 (ob:={ cls:=.type "range",data:=.fields #[.int 0 s₁.toks,.int b t,.int 1 (s₁.toks+1)] }) (tk:=s₁.toks+1+1) OK R1 (PN 1 _)
 refine call_range_1 (wpAny_pyIter_range (IsRange.new ..) (small_one (by lia) (by lia) (by lia) (by lia)) ?_)
 obtain⟨R3,G₃⟩:=d5 (ob:={ cls:=.type "range_iterator",data:=.fields #[rawInt 0,rawInt (S3 0 b 1),rawInt 1] }) OK R2 R2.tpos
 have hg:=G₀.trans (G₁.trans G₂)
 refine h _ ρ1 _ ⟨_,rfl,gE R2 OK (O8 _) (P9.mpr hg.size),?_⟩ R3 (hg.trans G₃)
 have he:S3 0 b 1=if 0<b then b else 0:=by rw[rangeSize_one];simp
 rw[<- he];exact Pd _ rfl
noncomputable def b4(cf:CF)(i:Nat)(body:M Fl):Nat->It->M Fl
 | 0,_=>av
 | f+1,it=>ao (lS cf it) λr=>match r with
  | none=>aa .next
  | some (x,it')=>ao (setL i x) λu=>ao body λfl=>match fl with
   | .next=>b4 cf i body f it'
   | .cont=>b4 cf i body f it'
   | .brk=>aa .next
   | .ret x=>aa (.ret x)
theorem B5{M:Model}{nm:Str}{px:Pos}{it:OT}{body:List Stmt}{env:Env}{R:Result->OX->Prop}(I:Nat->OX->Prop)(f:Nat)
  (turn:∀n s (E:OT->OX->Prop)(J:OX->Prop),(∀s,I n s->J s)->I (n+1) s->Ph M A (pyNext it) (λr s₁=>match r with
   | none=>R (.ok .next) s₁
   | some v=>Ph M A (assign (.Name nm px) env v) (λu s2=>Ph M A (execs body env) (λf s3=>match f with
    | .next | .cont=>J s3
    | .brk=>R (.ok .next) s3
    | .ret v=>R (.ok (.ret v)) s3) E s2) E s₁) E s) (h0:∀s,¬I 0 s) (h:I f s) (hM:∃prog w,M=model prog w):codeAny M A (.forLoop (.Name nm px) it body [] env) R s:=by
 obtain⟨prog,w,rfl⟩:=hM
 refine codeAny_forLoop_any I (λn s hI=>?_) f h
 cases n with
 | zero=>exact(h0 s hI).elim
 | succ n =>
  refine wpAny_mono (turn n s _ (λs=>∃m,m<n+1/\I m s) (λs h=>⟨n,PR n,h⟩) hI) (λb s h=>?_) λu u e=>e
  cases b with
  | none=>exact wpAny_execs_nil h
  | some v=>exact O3 h
theorem Kb(OK:B.Ok)(hlow:∀a∈B.tabs,a<B.n₀)(hP:P.Ok)(fuel:Nat){cf:CF}(hcf:gG B P n cf){i:Nat}{nm:Str}{e:OQ}{px pos:Pos}{body:List Stmt}{mi:M It}{mb:M Fl}(hn:P.names[i]?=some (some nm))(hf:(P.env.kindOf nm==some .free)=false)
  (hi:jQ B P n e mi) (hb:gZ B P n body mb) (hs:∀x,foldedSetIterable e P.env x=pure x):i7 B P n (.For (.Name nm px) e body [] pos) (ao mi λit=>b4 cf i mb fuel it):=by
 intro A hA ρ st s R y st' hm Q E h
 refine ae hm λit st1 e₁ e₂=>wpAny_For (hi A hA ρ st s R it st1 e₁ _ _ λv ρ1 s₁ r1 R1 G₁=>?_) hs
 obtain⟨I,hI⟩:∃I:Nat->OX->Prop,∀f s2,I f s2↔∃ρ2 st2 it2,bB B P ρ2 st2 s2/\aW B P ρ s ρ2 s2/\cO B P (· <sz s) ρ2 s2.heap it2 v/\b4 cf i mb f it2 st2=some (y,st'):=⟨_,λm m=>Tu⟩
 refine B5 I fuel (λf s2 E' J hJ h2=>?_) (λs h=>?_) ((hI _ _).mpr ⟨ρ1,st1,it,R1,G₁,r1,e₂⟩) ⟨_,_,rfl⟩
 ·obtain⟨ρ2,st2,it2,R2,G₂,hit,hm2⟩:=(hI _ _).mp h2
  replace hJ:=λρ3 st3 it3 s3 R3 G₃ h3 m₃=>hJ s3 ((hI _ _).mpr ⟨ρ3,st3,it3,R3,G₃,h3,m₃⟩)
  clear hI h2 hm e₁ e₂ R R1 G₁ r1
  refine ae hm2 λr st3 e3 e4=>s6 OK hcf hA R2 hit e3 ?_
  cases r with
  | none=>obtain⟨rfl,rfl⟩:=pj e4;exact λρ3 s3 R3 G₃=>h _ ρ3 s3 rfl R3 (G₂.transZ G₃)
  | some xi =>
   intro u ρ3 s3 ru R3 G₃ hit3
   replace G₃:=G₂.transZ G₃
   refine ae e4 λm st4 e5 e6=>ae e6 λfl st5 e7 e8=>?_
   obtain⟨rfl,rfl⟩:=pj e5
   refine wpAny_assign_Name (eu OK hP R3 hn hf ru λs4 R4 G₄=>hb A hA ρ3 _ s4 R4 fl st5 e7 _ _ λg ρ5 s₅ r₅ R5 G₅=>?_)
   have G₆:=G₄.trans G₅
   have G:=G₃.trans G₆
   clear hm2 e3 e4 e6 e7 R2 R3 G₂ hit R4 G₄ G₅
   refine zy e8 r₅ (λhg e=>?_) (λhg e1 e2=>?_) λx v hg hv e1 e2=>?_
   ·have:=hJ ρ5 st5 _ s₅ R5 G (hit3.grow OK hlow G₆) e
    rcases hg with e | e<;>subst e<;>exact this
   ·subst hg;exact h _ ρ5 s₅ (e1▸rfl) (e2▸R5) G
   ·subst hg;exact h _ ρ5 s₅ (e1▸⟨v,rfl,hv⟩) (e2▸R5) G
 ·obtain⟨_,_,_,_,_,_,q⟩:=(hI _ _).mp h
  exact nO q
end
noncomputable def Er(v:Option Str)(l:dc):dc:=match v with | some _=>l | none=>.dead
noncomputable def b7(vis:List (Option Str))(ls:List dc):List dc:=List.zipWith Er vis ls
theorem lm{vis:List (Option Str)}{ls:List dc}{i:Nat}{v:Option Str}{l:dc}(h1:vis[i]?=some v)(h2:ls[i]?=some l):(b7 vis ls)[i]?=some (Er v l):=by
 rw[b7,List.getElem?_zipWith,h1,h2]
theorem gy{C:Prop}{vis:List (Option Str)}{ls:List dc}{i:Nat}{l:dc}(h:(b7 vis ls)[i]?=some l)(c1:∀nm,vis[i]?=some (some nm)->ls[i]?=some l->C)(c2:l=.dead->C):C:=by
 obtain⟨v,l',h1,h2,e⟩:=List.getElem?_zipWith_eq_some.mp h
 cases v with
 | some nm=>exact c1 nm h1 (h2.trans (congrArg some e))
 | none=>exact c2 e.symm
theorem gf{vis:List (Option Str)}{ls:List dc}(h:vis.length=ls.length):(b7 vis ls).length=ls.length:=by
 rw[b7,List.length_zipWith,h,Nat.min_self]
noncomputable abbrev zE:=List (Str×dc)
noncomputable def gK(scope:Scope)(cl:List (Str×Addr))(C:Addr)(env:Env):Env:={ compEnvC scope cl C env with cells:=cellsFrom (C+1) scope.names cl }
noncomputable def au(P:Fc)(scope:Scope)(cl:List (Str×Addr))(C:Addr)(vis:List (Option Str))(own:zE):Fc :=
 { env:=gK scope cl C P.env,stk:=P.stk,names:=vis++own.map λp=>some p.1,locs:=b7 vis P.locs++own.map (·.2) }
noncomputable def fD(x:Str)(C:Addr):zE := [(x,.name C x)]
structure eB(P:Fc)(scope:Scope)(cl:List (Str×Addr))(vis:List (Option Str))(own:Addr->zE):Prop where
 kind:scope.kind=.function
 names:∀y∈scope.names,y.2=.local->scope.names.lookup y.1=some .local
 at_:∀C,∀p∈own C,mY (gK scope cl C P.env) p.1 p.2/\((∃n,p.2=.name C n)\/∃c n,p.2=.cell c/\(n,c)∈cellsFrom (C+1) scope.names [])
 uniq:∀C (i j:Nat)(l:dc),((own C).map (·.2))[i]?=some l->((own C).map (·.2))[j]?=some l->i=j
 len:vis.length=P.locs.length
 vis:∀(i:Nat)(n:Str),vis[i]?=some (some n)->∃c,P.locs[i]?=some (.cell c)/\∀C,mY (gK scope cl C P.env) n (.cell c)
 clos:closureFor scope P.env=pure cl
 nost:∀(i k:Nat)(c:Addr),P.locs[i]?≠some (.store k c)
theorem dS{x:Str}:∀C (i j:Nat)(l:dc),((fD x C).map (·.2))[i]?=some l->((fD x C).map (·.2))[j]?=some l->i=j:=λC i j l h1 h2=>by
 have hi:=(OW.mp h1).1
 have hj:=(OW.mp h2).1
 have hi:i<1:=hi
 have hj:j<1:=hj
 lia
theorem oL{scope:Scope}{cl:List (Str×Addr)}{env:Env}{x:Str}(h:scope.names.lookup x=some .local):∀C,∀p∈fD x C,mY (gK scope cl C env) p.1 p.2/\((∃n,p.2=.name C n)\/∃c n,p.2=.cell c/\(n,c)∈cellsFrom (C+1) scope.names []):=λC p hp=>by
 rw[OS.mp hp]
 exact⟨⟨rfl,rfl,lookup_relabel_local h⟩,.inl ⟨_,rfl⟩⟩
section
variable {B:bc}{P P':Fc}{A:Around}{n:Nat}{ρ ρ' ρ'':List Addr}{st st':St}{s s' s'':OX}{z:Addr->Prop}{scope:Scope}{cl:List (Str×Addr)}{C D:Addr}{vis:List (Option Str)}{own:Addr->zE}
noncomputable def wh(C:Addr)(scope:Scope)(a:Addr):Prop:=a=C\/∃n,(n,a)∈cellsFrom (C+1) scope.names []
theorem uB(K:eB P scope cl vis own){l:dc}(h:l∈(own C).map (·.2)){a:Addr}(ha:a∈l.addr):wh C scope a:=by
 obtain⟨p,hp,rfl⟩:=PY.mp h
 rcases(K.at_ C p hp).2 with⟨n,e⟩ | ⟨c,n,e,hm⟩
 ·rw[e]at ha;exact .inl (OS.mp ha)
 ·rw[e]at ha;rw[OS.mp ha];exact .inr ⟨n,hm⟩
theorem jV{α:Type}{l r:List α}{i:Nat}{x:α}(h:(l++r)[i]?=some x):(i<l.length/\l[i]?=some x)\/(l.length<=i/\r[i - l.length]?=some x):=by
 rcases Sa i l.length with q | q
 ·rw[O7 q]at h;exact .inl ⟨q,h⟩
 ·rw[Pi q]at h;exact .inr ⟨q,h⟩
theorem zQ(hP:P.Ok)(K:eB P scope cl vis own)(hap:∀(i:Nat)(a:Addr),P.locs[i]?=some (.cell a)->¬wh C scope a):(au P scope cl C vis (own C)).Ok:=by
 have hl:(b7 vis P.locs).length=vis.length:=by rw[gf K.len,K.len]
 refine⟨K.kind,λi nm h=>?_,by simp[au,hl],λi j l h1 h2 h3=>?_⟩
 ·show ∃l:dc,(b7 vis P.locs++(own C).map (·.2))[i]?=some l/\_
  rcases jV (show(vis++(own C).map λp=>some p.1)[i]?=_ from h)with⟨q,h'⟩ | ⟨q,h'⟩
  ·obtain⟨c,h1,h2⟩:=K.vis i nm h'
   refine⟨.cell c,?_,h2 C⟩
   rw[O7 (by lia),lm h' h1];rfl
  ·rw[Pn]at h'
   cases hp:(own C)[i - vis.length]? with
   | none=>rw[hp]at h';exact nO h'
   | some p =>
    rw[hp]at h';obtain rfl:=sj (sj h')
    refine⟨p.2,?_,(K.at_ C p (O1 hp)).1⟩
    rw[Pi (by lia),hl,Pn,hp];rfl
 ·have inner:∀{k:Nat},(b7 vis P.locs)[k]?=some l->P.locs[k]?=some l/\∃c,l=.cell c:=λ{k} hk=>gy hk (λnm e1 e2=>by
   obtain⟨c,h1,_⟩:=K.vis k _ e1
   exact⟨e2,c,Pw (e2.symm.trans h1)⟩) λe=>absurd (e▸rfl) h3
  have mixed:∀{k k':Nat},(b7 vis P.locs)[k]?=some l->((own C).map (·.2))[k']?=some l->False:=λ{k k'} a b=>by
   obtain⟨e1,c,e2⟩:=inner a
   refine hap k c (e2▸e1) (uB K (O1 b) ?_)
   rw[e2];exact OS.mpr rfl
  rcases jV h1 with⟨q1,p⟩ | ⟨q1,p⟩<;>rcases jV h2 with⟨q2,q⟩ | ⟨q2,q⟩
  ·exact hP.uniq i j l (inner p).1 (inner q).1 h3
  ·exact(mixed p q).elim
  ·exact(mixed q p).elim
  ·have:=K.uniq C _ _ l p q
   lia
theorem jd(K:eB P scope cl vis own){a:Addr}(h:a∈(au P scope cl C vis (own C)).wr):(∃(i:Nat)(nm:Str),vis[i]?=some (some nm)/\P.locs[i]?=some (.cell a))\/wh C scope a:=by
 unfold Fc.wr at h
 rw[Qq]at h
 obtain⟨l,hl,ha⟩:=h
 rcases Pk.mp (show l∈b7 vis P.locs++(own C).map (·.2)from hl)with hl | hl
 ·obtain⟨i,p⟩:=Ro hl
  refine gy p (λnm e1 e2=>?_) λe=>?_
  ·obtain⟨c,h1,_⟩:=K.vis i _ e1
   cases e2.symm.trans h1
   exact .inl ⟨i,nm,e1,(OS.mp ha)▸e2⟩
  ·subst e;exact nomatch ha
 ·exact .inr (uB K hl ha)
structure Bd(B:bc)(P:Fc)(scope:Scope)(C:Addr)(ρ:List Addr)(s:OX):Prop where
 apart:∀a,wh C scope a->a∉ρ/\a∉P.wr/\B.n₀<=a
 ns:s.heap.Ns C λu=>none
 cell:∀n c,(n,c)∈cellsFrom (C+1) scope.names []->s.heap.IsCell c none
theorem bB.enter(K:eB P scope cl vis own)(R:bB B P ρ st s)(X:Bd B P scope C ρ s):bB B (au P scope cl C vis (own C)) ρ ⟨st.σ,st.L++(own C).map λu=>none⟩ s:=by
 have hl:(b7 vis P.locs).length=P.locs.length:=gf K.len
 refine⟨⟨R.len,R.nodup,R.obj,R.live,by simp[au,hl,R.llen],λi l y h1 h2=>?_,R.kept,R.tab,R.fresh,λa ha=>?_,λa ha=>?_,λa ha=>?_,R.stk,⟨_,X.ns⟩,(X.apart C (.inl rfl)).2.2,(X.apart C (.inl rfl)).1,R.gens,R.os⟩,R.tpos⟩
 ·rcases jV (show(b7 vis P.locs++(own C).map (·.2))[i]?=some l from h1)with⟨q,p⟩ | ⟨q,p⟩
  ·rw[O7 (by rw[R.llen];lia)]at h2
   exact gy p (λnm e1 e2=>R.loc i _ _ e2 h2) λe=>e▸trivial
  ·rw[Pi (by rw[R.llen];lia),Pn]at h2
   have hy:y=none:=by
    cases hq:(own C)[i - st.L.length]? with
    | none=>rw[hq]at h2;exact nO h2
    | some p=>rw[hq]at h2;exact(Pw h2).symm
   subst hy
   obtain⟨p',hp',rfl⟩:=PY.mp (O1 p)
   rcases(K.at_ C p' hp').2 with⟨n,e⟩ | ⟨c,n,e,hm⟩
   ·rw[e];exact⟨_,X.ns,trivial⟩
   ·rw[e];exact⟨_,X.cell n c hm,trivial⟩
 ·rcases jd K ha with⟨i,nm,_,e⟩ | h
  ·exact R.wfresh a (cN e (by simp[dc.addr]))
  ·exact(X.apart a h).2.2
 ·rcases jd K ha with⟨i,nm,_,e⟩ | h
  ·exact R.apart a (cN e (by simp[dc.addr]))
  ·exact(X.apart a h).1
 ·rcases jd K ha with⟨i,nm,_,e⟩ | rfl | ⟨n,h⟩
  ·exact R.wlive a (cN e (by simp[dc.addr]))
  ·obtain⟨o,es,ep,e,hd,_⟩:=X.ns
   exact⟨o,e,.inl λvs=>by rw[hd];simp⟩
  ·obtain⟨o,e,hd⟩:=X.cell n a h
   exact⟨o,e,.inl λvs=>by rw[hd];simp⟩
theorem b6.trans(x:b6 B P z ρ s ρ' s')(y:b6 B P z ρ' s' ρ'' s''):b6 B P z ρ s ρ'' s'':=by
 refine⟨x.pre.trans y.pre,λb o hb e h1 h2 h3=>?_,λa ha=>?_,OZ x.size y.size⟩
 ·refine(x.keep b o hb e h1 h2 h3).trans λo' e'=>y.keep b o' hb e' (λhm=>?_) h2 h3
  rcases x.new b hm with q | q
  ·exact h1 q
  ·exact bo e q
 ·rcases y.new a ha with q | q
  ·exact x.new a q
  ·exact .inr (OZ x.size q)
theorem bB.exit(hP:P.Ok)(hlow:∀a∈B.tabs,a<B.n₀)(K:eB P scope cl vis own)(R:bB B P ρ st s){σ':List O}{ys:List (Option V)}(R':bB B (au P scope cl C vis (own C)) ρ' ⟨σ',st.L++ys⟩ s')(G:b6 B (au P scope cl C vis (own C)) z ρ s ρ' s')
  (hC:∀a,wh C scope a->¬z a) (hz:∀a o,(a∈P.wr\/a=P.env.locals)->s.heap.get? a=some o->z a):bB B P ρ' ⟨σ',st.L⟩ s'/\b6 B P z ρ s ρ' s':=by
 have hl:(b7 vis P.locs).length=P.locs.length:=gf K.len
 have notin:∀{a o},(a∈P.wr\/a=P.env.locals)->s.heap.get? a=some o->(∀u,o.data≠.cell u)->a∉(au P scope cl C vis (own C)).wr:=λ{a o} h1 h2 h3 hm=>by
  rcases jd K hm with⟨i,nm,_,e⟩ | hw
  ·have hi:=(OW.mp e).1
   obtain⟨u,⟨o',e1,e2⟩,_⟩:=R.loc i _ _ e (Pf (by rw[R.llen];exact hi))
   rw[h2]at e1;obtain rfl:=sj e1
   exact h3 _ e2
  ·exact hC _ hw (hz _ _ h1 h2)
 have tabs:∀{a},B.n₀<=a->a∉B.tabs:=λh1 h2=>absurd (hlow _ h2) (P9.mpr h1)
 have keep:∀{a o},(a∈P.wr\/a=P.env.locals)->s.heap.get? a=some o->a∉(au P scope cl C vis (own C)).wr->cu B.n₀ s'.heap a o:=λ{a o} h1 h2 h3=>by
  have hf:B.n₀<=a/\a∉ρ:=by
   rcases h1 with h | rfl
   ·exact⟨R.wfresh a h,R.apart a h⟩
   ·exact⟨R.nsfresh,R.nsapart⟩
  exact G.keep a o (hz a o h1 h2) h2 hf.2 h3 (tabs hf.1)
 refine⟨⟨⟨R'.len,R'.nodup,R'.obj,R'.live,R.llen,λi l v h1 h2=>?_,R'.kept,R'.tab,R'.fresh,R.wfresh,λa ha hm=>?_,λa ha=>?_,R'.stk,?_,R.nsfresh,λhm=>?_,R'.gens,R'.os⟩,R'.tpos⟩,G.pre,λb o hb e h1 h2 h3=>G.keep b o hb e h1 (λhm=>?_) h3,G.new,G.size⟩
 ·have hi:=(OW.mp h1).1
  have hv:i<vis.length:=by rw[K.len];exact hi
  cases hvi:vis[i]with
  | some nm =>
   have e1:vis[i]?=some (some nm):=by rw[Pf hv,hvi]
   refine R'.loc i l v ?_ ?_
   ·show(b7 vis P.locs++(own C).map (·.2))[i]?=some l
    rw[O7 (by lia),lm e1 h1];rfl
   ·show(st.L++ys)[i]?=some v
    rw[O7 (by rw[R.llen];exact hi)];exact h2
  | none =>
   have e1:vis[i]?=some none:=by rw[Pf hv,hvi]
   have hr:=R.loc i l v h1 h2
   cases l with
   | name d nm =>
    obtain⟨m,hm,q⟩:=hr
    have hd:d∈P.wr:=cN h1 (by simp[dc.addr])
    obtain⟨o,es,ep,e,hdt,_⟩:=id hm
    refine⟨m,cu.ns (h:=s.heap) hm λo' e'=>keep (.inl hd) e' (notin (.inl hd) e (λu=>by rw[hdt];simp)),q.mono G.pre⟩
   | cell c =>
    obtain⟨u,hu,q⟩:=hr
    have hd:c∈P.wr:=cN h1 (by simp[dc.addr])
    have hnot:c∉(au P scope cl C vis (own C)).wr:=λhm=>by
     obtain⟨o,e,_⟩:=hu
     rcases jd K hm with⟨j,nm,ej,ec⟩ | hw
     ·have:=hP.uniq i j _ h1 ec (by simp[dc.addr])
      subst this
      rw[e1]at ej;exact nO (sj ej)
     ·exact hC _ hw (hz _ _ (.inl hd) e)
    exact⟨u,cu.cell (h:=s.heap) hu λo' e'=>keep (.inl hd) e' hnot,q.mono G.pre⟩
   | store k c=>exact absurd h1 (K.nost i k c)
   | dead=>trivial
 ·rcases G.new a hm with q | q
  ·exact R.apart a ha q
  ·obtain⟨o,e,_⟩:=R.wlive a ha;exact bo e q
 ·by_cases hm:a∈(au P scope cl C vis (own C)).wr
  ·exact R'.wlive a hm
  ·obtain⟨o,e,hp⟩:=R.wlive a ha
   obtain⟨o',e',hd,hc⟩:=(keep (.inl ha) e hm).data
   exact⟨o',e',by unfold cD;rw[hd,hc];exact hp⟩
 ·obtain⟨m,hm⟩:=R.ns
  obtain⟨o,es,ep,e,hdt,_⟩:=id hm
  exact⟨m,cu.ns hm λo' e'=>keep (.inr rfl) e' (notin (.inr rfl) e (λu=>by rw[hdt];simp))⟩
 ·rcases G.new _ hm with q | q
  ·exact R.nsapart q
  ·obtain⟨m,o,es,ep,e,_⟩:=R.ns;exact bo e q
 ·rcases jd K hm with⟨i,nm,_,e'⟩ | hw
  ·exact h2 (cN e' (by simp[dc.addr]))
  ·exact hC _ hw hb
end
noncomputable def compLoop(cf:CF)(i:Nat)(t:M Bool)(e:M V):Nat->It->List V->M (List V)
 | 0,_,_=>av
 | f+1,it,acc=>ao (lS cf it) λr=>match r with
  | none=>aa acc
  | some (x,it')=>ao (setL i x) λu=>ao t λok=>if ok=true then ao e λy=>if acc.length<=1000000 then compLoop cf i t e f it' (acc++[y])else av
   else compLoop cf i t e f it' acc
noncomputable def shut(k:Nat)(L:List (Option V))(p:List V×St):Option (List V×St):=if p.2.L.take k=L/\p.2.L.length=k+1 then some (p.1,⟨p.2.σ,L⟩)else none
noncomputable def HL(cf:CF)(k:Nat)(mi:M It)(t:M Bool)(e:M V)(fuel:Nat):M (List V):=ao mi λit st=>(compLoop cf k t e fuel it [] ⟨st.σ,st.L++[none]⟩).bind (shut k st.L)
noncomputable abbrev lc(B:bc)(P:Fc)(n:Nat)(ifs:List OQ)(m:M Bool):Prop :=
 oi B P n (forIn ifs true λc r=>if r=true then do let ok <- isTrue c P.env (eval c P.env);pure (QM ok)else pure (QM r)) HC m
section
variable {B:bc}{P P':Fc}{A:Around}{n:Nat}{ρ ρ' ρ'':List Addr}{st st':St}{s s' s'':OX}{z:Addr->Prop}{scope:Scope}{cl:List (Str×Addr)}{C D:Addr}{vis:List (Option Str)}{x:Str}
theorem AD:lc B P n [] (aa true):=by
 intro A hA ρ st s R y st' hm Q E h
 obtain⟨rfl,rfl⟩:=ai hm
 rw[Q4]
 exact O3 (h _ ρ s rfl R aW.refl)
theorem AE{c:OQ}{m:M Bool}(hc:lH B P n c m):lc B P n [c] m:=by
 intro A hA ρ st s R y st' hm Q E h
 rw[Rf]
 simp only[if_true]
 refine OR (OR (hc A hA ρ st s R y st' hm _ _ λa ρ1 s₁ r1 R1 G₁=>?_))
 refine O3 ?_
 dsimp only
 rw[Q4]
 exact O3 (h _ ρ1 s₁ r1 R1 G₁)
theorem b6.weak{z':Addr->Prop}(G:b6 B P z ρ s ρ' s')(h:∀b,z' b->z b):b6 B P z' ρ s ρ' s':=⟨G.pre,λb o hb=>G.keep b o (h b hb),G.new,G.size⟩
theorem cO.keeps{it:It}{v:OT}{h h':Heap}(r:cO B P z ρ h it v)(hk:∀b o,¬z b->h.get? b=some o->h'.get? b=some o):cO B P z ρ h' it v:=by
 cases it with
 | list k i=>obtain⟨I,a,rfl,ha,hk',o,e,hc,hd⟩:=r;exact⟨I,a,rfl,ha,hk',o,hk _ _ ha.2.2.2 e,hc,hd⟩
 | range x l st=>obtain⟨I,rfl,ha,e⟩:=r;exact⟨I,rfl,ha,hk _ _ ha.2.2.2 e⟩
 | str x i=>obtain⟨I,t,rfl,ha,o,e,hc,hd⟩:=r;exact⟨I,t,rfl,ha,o,hk _ _ ha.2.2.2 e,hc,hd⟩
 | call k=>exact r
noncomputable def mW(M:Model)(A:Around)(c:Code)(elt:OQ)(x:Str)(px:Pos)(ifs:List OQ)(it acc:OT)(env:Env):Prop:=∀(R:Result->OX->Prop)(I:Nat->OX->Prop)(f:Nat)(s:OX),
  (∀n s (E:OT->OX->Prop)(J:OX->Prop),(∀s,I n s->J s)->I (n+1) s->Ph M A (pyNext it) (λr s₁=>match r with
   | none=>R (.ok .next) s₁
   | some v=>Ph M A (assign (.Name x px) env v) (λu s2 =>
     Ph M A (forIn ifs true λc r=>if r=true then do let ok <- isTrue c env (eval c env);pure (QM ok)else pure (QM r)) (λok s3 =>
      if ok=true then Ph M A (eval elt env) (λx s4=>Ph M A (call (.builtin "list.append") [acc,x]) (λu=>J) E s4) E s3
      else J s3) E s2) E s₁) E s)->(∀s,¬I 0 s)->I f s->codeAny M A c R s
theorem zR{prog:Program}{w:Pt}{elt iter:OQ}{x:Str}{px pos:Pos}{ifs:List OQ}{it acc:OT}{env:Env} :
  mW (model prog w) A (.compLoop (.ListComp elt [⟨.Name x px,iter,ifs,0⟩] scope pos) 0 it acc env) elt x px ifs it acc env:=λR I f s turn h0 h=>by
 refine codeAny_compLoop_tests I (λn s hI=>?_) f h (λu=>rfl)
 cases n with
 | zero=>exact(h0 s hI).elim
 | succ n=>exact turn n s _ _ (λs h=>⟨n,PR n,h⟩) hI
theorem JX(OK:B.Ok)(R:bB B P ρ st s)(hD:D∉ρ/\D∉P.wr/\B.n₀<=D){z₀:Addr->Prop}(h0D:¬z₀ D){vs:Array OT}{m:Nat}{w:OT}(eD:s.heap.get? D=some { cls:=.type "list",data:=.seq vs m })(hw:vs.size<sizeLine){J:OX->Prop}{E:OT->OX->Prop}
  (h:∀s',bB B P ρ st s'->b6 B P z₀ ρ s ρ s'->(∃m,s'.heap.get? D=some { cls:=.type "list",data:=.seq (vs.push w) m })->(∀b o,b≠D->s.heap.get? b=some o->s'.heap.get? b=some o)->J s') :
  Ph (model B.prog B.w) A (call (.builtin "list.append") [.ref D,w]) (λu=>J) E s:=by
 refine call_meets Qh (oz eD).typeIs F.entry_list_append (F.args_list_append_2 _ _) (R9 D vs m w (by lia)) ⟨eD,?_⟩
 have hk:∀b o,b≠D->s.heap.get? b=some o->(s.heap.update D (PG λx_1=>x_1.push w)).get? b=some o:=λb o hb eb=>((QP s.heap D _).2 b hb).trans eb
 exact h _ ⟨R.toRel0.other (I:=D) OK hD eD (.inl λvs=>by simp) (by simp) (λes m=>by simp) hk rfl rfl,R.tpos⟩
  ⟨PK _,λb o hb eb u u u=>.of (hk b o (λq=>h0D (q▸hb)) eb),λu h=>.inl h,Qc (Qw _ _ _).symm⟩ ⟨_,Ss eD λx_1=>x_1.push w⟩ hk
structure r7(B:bc)(P:Fc)(D:Addr)(z:Addr->Prop)(ρ:List Addr)(s:OX)(ys:List V):Prop where
 at_:∃vs m,s.heap.get? D=some { cls:=.type "list",data:=.seq vs m }/\aL ρ ys vs.toList
 out:D∉ρ
theorem r7.grow{ys:List V}(k:r7 B P D z ρ s ys)(hzD:z D)(hw:D∉P.wr)(hDt:D∉B.tabs)(G:b6 B P z ρ s ρ' s'):r7 B P D z ρ' s' ys:=by
 obtain⟨vs,m,e,r⟩:=k.at_
 refine⟨⟨vs,m,(G.keep D _ hzD e k.out hw hDt).exact (by simp),r.mono G.pre⟩,λhm=>?_⟩
 rcases G.new D hm with q | q
 ·exact k.out q
 ·exact bo e q
theorem tL(OK:B.Ok)(hlow:∀a∈B.tabs,a<B.n₀)(hP':P'.Ok){cf:CF}(hcf:gG B P' n cf){i:Nat}(hA:iZ P' n A){elt:OQ}{px:Pos}{ifs:List OQ}{mt:M Bool}{me:M V}(hx:P'.names[i]?=some (some x))(hf:(P'.env.kindOf x==some .free)=false)
  (ht:lc B P' n ifs mt) (he:aR B P' n elt me) {it:It} {v:OT} {ys:List V} {fuel:Nat} {z₀:Addr->Prop} (R:bB B P' ρ st s) (hit:cO B P' z ρ s.heap it v) {acc0:List V} (hm:compLoop cf i mt me fuel it acc0 st=some (ys,st'))
  (hD:D∉ρ/\D∉P'.wr/\B.n₀<=D) (hz:∀b,z₀ b->z b) (hzD:z D) (h0D:¬z₀ D) {vs0:Array OT} {m₀:Nat} (hacc:s.heap.get? D=some { cls:=.type "list",data:=.seq vs0 m₀ }) (ra0:aL ρ acc0 vs0.toList) {c:Code} (T:mW (model B.prog B.w) A c elt x px ifs v (.ref D) P'.env) {RR:Result->OX->Prop}
  (h:∀ρ' s' vs m,bB B P' ρ' st' s'->b6 B P' z₀ ρ s ρ' s'->s'.heap.get? D=some { cls:=.type "list",data:=.seq vs m }->aL ρ' ys vs.toList->D∉ρ'->RR (.ok .next) s') :
  codeAny (model B.prog B.w) A c RR s:=by
 have hDt:D∉B.tabs:=λht=>absurd (hlow D ht) (P9.mpr hD.2.2)
 have kg:∀{ρ ρ' s s' ys},r7 B P' D z ρ s ys->b6 B P' z ρ s ρ' s'->r7 B P' D z ρ' s' ys:=λk G=>k.grow hzD hD.2.1 hDt G
 obtain⟨I,hI⟩:∃I:Nat->OX->Prop,∀f s₁,I f s₁↔∃ρ1 st1 it1 acc1,bB B P' ρ1 st1 s₁/\b6 B P' z₀ ρ s ρ1 s₁/\cO B P' z ρ1 s₁.heap it1 v/\r7 B P' D z ρ1 s₁ acc1/\compLoop cf i mt me f it1 acc1 st1=some (ys,st'):=⟨_,λl l=>Tu⟩
 refine T RR I fuel s ?_ (λs h=>?_) ((hI _ _).mpr ⟨ρ,st,it,acc0,R,aW.refl.toZ,hit,⟨⟨_,_,hacc,ra0⟩,hD.1⟩,hm⟩)
 ·intro f s₁ E J hJ h1
  obtain⟨ρ1,st1,it1,acc1,R1,G₁,hit1,k₁,hm1⟩:=(hI _ _).mp h1
  replace hJ:=λρ2 st2 it2 acc2 s2 R2 G₂ h2 k2 m2=>hJ s2 ((hI _ _).mpr ⟨ρ2,st2,it2,acc2,R2,G₂,h2,k2,m2⟩)
  clear hI h1
  refine ae hm1 λr st2 e1 e2=>?_
  refine s6 OK hcf hA R1 hit1 e1 ?_
  cases r with
  | none =>
   obtain⟨rfl,rfl⟩:=ai e2
   intro ρ2 s2 R2 G₂
   have k2:=kg k₁ G₂
   obtain⟨vs,m,eD,ra⟩:=k2.at_
   exact h ρ2 s2 vs m R2 (G₁.trans (G₂.weak hz)) eD ra k2.out
  | some xi =>
   intro u ρ2 s2 ru R2 G₂ hit2
   have k2:=kg k₁ G₂
   replace G₂:=G₁.trans (G₂.weak hz)
   clear G₁ R1 k₁ hm1 e1 hit1
   refine ae e2 λl st3 e3 e4=>ae e4 λok st4 e5 e6=>?_
   obtain⟨rfl,rfl⟩:=pj e3
   clear e2 e4
   refine wpAny_assign_Name (eu OK hP' R2 hx hf ru λs3 R3 G₃=>?_)
   refine ht A hA ρ2 _ s3 R3 ok st4 e5 _ _ λb ρ4 s4 rb R4 G₄=>?_
   obtain rfl:b=ok:=rb
   replace G₃:=G₃.trans G₄
   have hit4:=hit2.grow OK hlow G₃
   have k₄:=kg k2 G₃.toZ
   replace G₂:=G₂.trans G₃.toZ
   cases b with
   | false=>exact hJ ρ4 st4 _ acc1 s4 R4 G₂ hit4 k₄ e6
   | true =>
    refine ae e6 λy st5 e7 e8=>he A hA ρ4 st4 s4 R4 y st5 e7 _ _ λw ρ5 s₅ rw R5 G₅=>?_
    have hit5:=hit4.grow OK hlow G₅
    have k5:=kg k₄ G₅.toZ
    replace G₂:=G₂.trans G₅.toZ
    clear e6 e7 G₅ G₃ G₄ hit4 k₄ k2 R4 R3 hit2 R2
    refine aG e8 λhsz e8=>?_
    obtain⟨vs,m,eD,ra⟩:=k5.at_
    have hl:=ra.length
    simp only[P7]at hl
    refine JX OK R5 ⟨k5.out,hD.2⟩ h0D eD (by rw[sizeLine_eq];lia) λs₆ R6 G₆ e6 hk=>?_
    obtain⟨m',e6⟩:=e6
    refine hJ ρ5 st5 _ (acc1++[y]) s₆ R6 (G₂.trans G₆) (hit5.keeps λb o hb eb=>hk b o (λq=>hb (q▸hzD)) eb) ⟨⟨_,_,e6,?_⟩,k5.out⟩ e8
    rw[Array.toList_push];exact ra.append ⟨rw,trivial⟩
 ·obtain⟨_,_,_,_,_,_,_,_,q⟩:=(hI _ _).mp h
  exact nO q
variable {own:Addr->zE}
theorem zp{it:It}{v:OT}{Q:OT->OX->Prop}{E:OT->OX->Prop}(R:bB B P ρ st s)(r:cO B P z ρ s.heap it v)(hk:∀k,it=.call k->∃f z e,st.σ[k]?=some (.callIter f z e))(h:Q v s):Ph (model B.prog B.w) A (pyIter v) Q E s:=by
 cases it with
 | list k i=>obtain⟨I,a,rfl,ha,hk',hi⟩:=r;exact wpAny_pyIter_listiter hi h
 | range x l st=>obtain⟨I,rfl,ha,e⟩:=r;exact wpAny_pyIter_rangeiter e h
 | str x i =>
  obtain⟨I,t,rfl,ha,hi⟩:=r
  cases hx:x.cps.all (· <128)with
  | true=>rw[show strIterType x="str_ascii_iterator" by unfold strIterType;rw[if_pos hx]]at hi;exact wpAny_pyIter_striter_ascii hi h
  | false=>rw[show strIterType x="str_iterator" by unfold strIterType;rw[if_neg (by rw[hx];decide)]]at hi;exact wpAny_pyIter_striter_wide hi h
 | call k =>
  obtain⟨a,rfl,ha⟩:=r
  obtain⟨f,z,e,hf⟩:=hk k rfl
  obtain⟨v,u,eo,_⟩:=R.obj _ a _ ha hf
  exact jD eo rfl h
theorem cO.to{it:It}{v:OT}{h h':Heap}{z':Addr->Prop}(r:cO B P z ρ h it v)(hk:∀b o,h.get? b=some o->h'.get? b=some o)(hz:∀I o,v=.ref I->h.get? I=some o->¬z I->¬z' I)(hw:∀I,I∉P.wr->∀o,h.get? I=some o->I∉P'.wr):cO B P' z' ρ h' it v:=by
 cases it with
 | list k i=>obtain⟨I,a,rfl,ha,hk',o,e,hc,hd⟩:=r;exact⟨I,a,rfl,⟨ha.1,hw I ha.2.1 o e,ha.2.2.1,hz I o rfl e ha.2.2.2⟩,hk',o,hk _ _ e,hc,hd⟩
 | range x l st=>obtain⟨I,rfl,ha,e⟩:=r;exact⟨I,rfl,⟨ha.1,hw I ha.2.1 _ e,ha.2.2.1,hz I _ rfl e ha.2.2.2⟩,hk _ _ e⟩
 | str x i=>obtain⟨I,t,rfl,ha,o,e,hc,hd⟩:=r;exact⟨I,t,rfl,⟨ha.1,hw I ha.2.1 o e,ha.2.2.1,hz I o rfl e ha.2.2.2⟩,o,hk _ _ e,hc,hd⟩
 | call k=>exact r
structure A9(B:bc)(P:Fc)(z:Addr->Prop)(ρ:List Addr)(s:OX)(C:Addr):Prop where
 ns:∃m,s.heap.Ns C m
 apart:C∉ρ/\C∉P.wr/\B.n₀<=C
 notz:¬z C
 locals:P.env.locals≠C
 frames:∀e∈P.stk,∀L,e.frame=some L->L≠C
theorem A9.rel(OK:B.Ok)(X:A9 B P z ρ s C)(R:bB B P ρ st s){h':Heap}(hs:Rt C s.heap h'):bB B P ρ st { s with heap:=h' }/\b6 B P z ρ s ρ { s with heap:=h' }:=by
 obtain⟨m,o,es,ep,e,hd,_⟩:=X.ns
 have hk:∀b o,b≠C->s.heap.get? b=some o->h'.get? b=some o:=hs.extBut
 exact⟨⟨R.toRel0.otherF OK X.apart e (.inl λvs=>by rw[hd];simp) X.locals X.frames hk rfl rfl,R.tpos⟩,PK _,λb o hb eb u u u=>.of (hk b o (by rintro rfl;exact X.notz hb) eb),λu h=>.inl h,Qc hs.1.symm⟩
theorem wd{M:Model}{E:OT->OX->Prop}{env:Env}{Q:Env->OX->Prop}
  (h:∀h',h'.Ns s.heap.objs.size (λu=>none)->(∀n c,(n,c)∈cellsFrom (s.heap.objs.size+1) scope.names []->h'.IsCell c none/\s.heap.objs.size+1<=c)->(∀b o,s.heap.get? b=some o->h'.get? b=some o)->s.heap.objs.size<h'.objs.size ->
   Q (newEnv scope s.heap.objs.size env.globals (cellsFrom (s.heap.objs.size+1) scope.names cl) env.qual none .none (some env) builtinsNs) { s with heap:=h' }):Ph M A (newFunctionEnv scope env.globals cl [] env.qual none .none (some env)) Q E s:=by
 simp only[newFunctionEnv,Option.isSome_some,if_true]
 refine OR (wpAny_alloc ?_)
 refine OR (wpAny_layCells _ (λname kind cells=>by cases hkc:kind==SX<;>simp[hkc]) _ _ _ _ ?_)
 have ok:=cellsFrom_ok scope.names (s.heap.push { cls:=.type "dict",data:=.dict #[] }) (s.heap.objs.size+1) [] ⟨λu u hm=>(nomatch hm),ST⟩ (by rw[PP];exact O8 _)
 rw[PP]at ok
 rw[show({ s with heap:=s.heap.push { cls:=.type "dict",data:=.dict #[] } }:OX).heap.objs.size=s.heap.objs.size+1 from PP ..]
 have hns:(pushCells (s.heap.push { cls:=.type "dict",data:=.dict #[] }) scope.names).Ns s.heap.objs.size λu=>none:=(Heap.Ns.new s.heap (.type "dict")).keeps (pushCells_keeps _ _)
 rw[Q4]
 refine OR (O3 (O3 (h _ hns ok.empty (λb o e=>pushCells_keeps _ _ b o (Pj _ e)) ?_)))
 obtain⟨o,_,_,e,_⟩:=hns
 exact Pu e
theorem ng(OK:B.Ok)(hlow:∀a∈B.tabs,a<B.n₀)(hP:P.Ok)(K:eB P scope cl vis own)(hA:iZ P n A){elt:OQ}{g:Comprehension}{gs:List Comprehension}{pos:Pos}(hsync:g.is_async=0){it:It}{v:OT}{ys:List V}{s₀:OX}{ρ0:List Addr}(R0:bB B P ρ0 st' s₀)(G₀:aW B P ρ0 s₀ ρ s)
  (R:bB B P ρ st s) (hit:cO B P (· <sz s₀) ρ s.heap it v) (hcall:∀k,it=.call k->∃f z e,st.σ[k]?=some (.callIter f z e)) {σ':List O}
  (go:∀(C D:Addr)(s₁:OX)(RR:Result->OX->Prop),(au P scope cl C vis (own C)).Ok->iZ (au P scope cl C vis (own C)) n A->bB B (au P scope cl C vis (own C)) ρ ⟨st.σ,st.L++(own C).map λu=>none⟩ s₁->cO B (au P scope cl C vis (own C)) (λb=>b<sz s₀\/b=D) ρ s₁.heap it v ->
   D∉ρ/\D∉(au P scope cl C vis (own C)).wr/\B.n₀<=D->¬D<sz s₀->s₁.heap.get? D=some { cls:=.type "list",data:=.seq #[] 0 } ->
   (∀ρ' s' vs m L',bB B (au P scope cl C vis (own C)) ρ' ⟨σ',st.L++L'⟩ s'->b6 B (au P scope cl C vis (own C)) (· <sz s₀) ρ s₁ ρ' s'->s'.heap.get? D=some { cls:=.type "list",data:=.seq vs m }->aL ρ' ys vs.toList->D∉ρ'->RR (.ok .next) s') ->
   codeAny (model B.prog B.w) A (.compLoop (.ListComp elt (g::gs) scope pos) 0 v (.ref D) (au P scope cl C vis (own C)).env) RR s₁) {E:OT->OX->Prop} {RR:OT->Addr->Result->OX->Prop}
  (hRR:∀D C ρ' s',bB B P (ρ'++[D]) ⟨σ'++[.list ys],st.L⟩ s'->aW B P ρ0 s₀ (ρ'++[D]) s'->ρ'.length=σ'.length->A9 B P (· <sz s₀) (ρ'++[D]) s' C->RR (.ref D) C (.ok .next) s') :
  Ph (model B.prog B.w) A (newList []) (λacc s3=>Ph (model B.prog B.w) A (newFunctionEnv scope P.env.globals cl [] P.env.qual none .none (some P.env)) (λcenv s4 =>
   codeAny (model B.prog B.w) A (.compStart (.ListComp elt (g::gs) scope pos) 0 v acc { cenv with scope:=relabel scope P.env }) (RR acc cenv.locals) s4) E s3) E s:=by
 refine wpAny_newObj_type (wd λh₁ hns1 hcell hkp hsz1=>?_)
 dsimp only at hns1 hcell hkp hsz1 ⊢
 generalize hH2:s.heap.push { cls:=.type "list",dict:=none,data:=.seq ([]:List OT).toArray }=H2 at hns1 hcell hkp hsz1 ⊢
 have hC:H2.objs.size=s.heap.objs.size+1:=by rw[<- hH2,PP]
 have hDC:s.heap.objs.size≠H2.objs.size:=by rw[hC];exact Pg (Nat.lt_succ_of_le (O8 _))
 have ltH:∀b o,s.heap.get? b=some o->b<s.heap.objs.size:=λb o e=>Pu e
 have old:∀b o,s.heap.get? b=some o->h₁.get? b=some o:=λb o e=>hkp b o (hH2▸Pj _ e)
 have hacc:h₁.get? s.heap.objs.size=some { cls:=.type "list",data:=.seq #[] 0 }:=hkp _ _ (hH2▸Pd _ rfl)
 have hsz0:sz s₀<=sz s:=G₀.size
 have hss:sz s=s.heap.objs.size:=rfl
 have hge:∀a,wh H2.objs.size scope a->s.heap.objs.size<a:=λa ha=>by
  rcases ha with rfl | ⟨n,hm⟩
  ·rw[hC];exact PR _
  ·have:=(hcell n a hm).2;lia
 have loop:∀s3:OX,s3={ s with heap:=h₁ } ->
   codeAny (model B.prog B.w) A (.compLoop (.ListComp elt (g::gs) scope pos) 0 v (.ref s.heap.objs.size) (au P scope cl H2.objs.size vis (own H2.objs.size)).env) (RR (.ref s.heap.objs.size) H2.objs.size) s3 /\
   Ph (model B.prog B.w) A (pyIter v) (λit' s'=>codeAny (model B.prog B.w) A (.compLoop (.ListComp elt (g::gs) scope pos) 0 it' (.ref s.heap.objs.size) (au P scope cl H2.objs.size vis (own H2.objs.size)).env) (RR (.ref s.heap.objs.size) H2.objs.size) s')
    (notedBy (model B.prog B.w) A (au P scope cl H2.objs.size vis (own H2.objs.size)).env λx s'=>RR (.ref s.heap.objs.size) H2.objs.size (.error x) s') s3:=by
  rintro s3 rfl
  have R1:bB B P ρ st { s with heap:=h₁ }:=⟨R.ext OK old rfl rfl,R.tpos⟩
  have fresh:∀a,s.heap.objs.size<=a->a∉ρ/\a∉P.wr/\B.n₀<=a:=λa ha=>by
   have:=gE (z:=λu=>False) R OK (a:=a) ha (λh=>h)
   exact⟨this.1,this.2.1,this.2.2.1⟩
  have hDa:=fresh _ (O8 s.heap.objs.size)
  have X:Bd B P scope H2.objs.size ρ { s with heap:=h₁ }:=⟨λa ha=>fresh a (Pq (hge a ha)),hns1,λn c hm=>(hcell n c hm).1⟩
  have R2:=bB.enter K R1 X
  have hok:(au P scope cl H2.objs.size vis (own H2.objs.size)).Ok:=zQ hP K λi a e ha=>(X.apart a ha).2.1 (cN e (by simp[dc.addr]))
  have wr':∀I,I∉P.wr->I<=s.heap.objs.size->I∉(au P scope cl H2.objs.size vis (own H2.objs.size)).wr:=λI h1 h2 hm=>by
   rcases jd K hm with⟨i,nm,_,e⟩ | hw
   ·exact h1 (cN e (by simp[dc.addr]))
   ·exact absurd h2 (Nat.not_le.mpr (hge _ hw))
  have hit':cO B (au P scope cl H2.objs.size vis (own H2.objs.size)) (λb=>b<sz s₀\/b=s.heap.objs.size) ρ h₁ it v :=
   hit.to old (λI o u e h1=>by
    rintro (h | h)
    ·exact h1 h
    ·exact absurd (ltH _ _ e) (by rw[h];exact RF _)) (λI h1 o e=>wr' I h1 (Pq (ltH _ _ e)))
  have go:codeAny (model B.prog B.w) A (.compLoop (.ListComp elt (g::gs) scope pos) 0 v (.ref s.heap.objs.size) (au P scope cl H2.objs.size vis (own H2.objs.size)).env) (RR (.ref s.heap.objs.size) H2.objs.size) { s with heap:=h₁ }:=by
   refine go _ _ _ _ hok ⟨hA.frames,hA.handled,hA.depth,hA.units⟩ R2 hit' ⟨hDa.1,wr' _ hDa.2.1 (O8 _),hDa.2.2⟩ (by show ¬_<_;exact P9.mpr hsz0) hacc λρ' s' vs m L' R' G' eD ra hD'=>?_
   have hCz:∀a,wh H2.objs.size scope a->¬(a<sz s₀):=λa ha=>by have:=hge a ha;show ¬a<sz s₀;lia
   have hz:∀a o,(a∈P.wr\/a=P.env.locals)->h₁.get? a=some o->a<sz s₀:=λa o h1 u=>by
    rcases h1 with h1 | rfl
    ·obtain⟨o,e,_⟩:=R0.wlive a h1;exact Pu e
    ·obtain⟨m,o,_,_,e,_⟩:=R0.ns;exact Pu e
   obtain⟨R3,G₃⟩:=bB.exit hP hlow K R1 R' G' hCz hz
   have hDw:s.heap.objs.size≠P.env.locals:=by obtain⟨m,o,_,_,e,_⟩:=R.ns;exact PE (Pu e)
   have R4:bB B P (ρ'++[s.heap.objs.size]) ⟨σ'++[.list ys],st.L⟩ s':=⟨R3.toRel0.adopt OK ⟨hD',hDa.2.1,hDa.2.2,hDw⟩ eD (.inl λvs=>by simp) (.inl (by simp)) ⟨vs,m,eD,ra.mono (Pv ..)⟩,R3.tpos⟩
   have Gs:aW B P ρ0 s₀ ρ { s with heap:=h₁ }:=G₀.trans ⟨bk.ext old,by show s.heap.objs.size<=h₁.objs.size;lia⟩
   have G₄:aW B P ρ0 s₀ ρ' s':=Gs.transZ G₃
   have G₅:aW B P ρ0 s₀ (ρ'++[s.heap.objs.size]) s':=⟨⟨G₄.pre.trans (Pv ..),G₄.keep,λa ha=>by
    rcases Pk.mp ha with h | h
    ·exact G₄.new a h
    ·rw[OS.mp h];exact .inr hsz0⟩,G₄.size⟩
   refine hRR _ _ ρ' s' R4 G₅ R3.len ⟨R'.ns,⟨λhm=>?_,(X.apart _ (.inl rfl)).2⟩,hCz _ (.inl rfl),λh=>?_,λe he L hL h=>?_⟩
   ·rcases Pk.mp hm with h | h
    ·exact R'.nsapart h
    ·exact hDC (OS.mp h).symm
   ·obtain⟨m,o,_,_,e,_⟩:=R.ns
    have:=ltH _ _ e
    rw[h,hC]at this
    exact absurd this (P9.mpr (QK _))
   ·obtain⟨_,L',o,h1,_,_,h4,_⟩:=R.stk e he
    rw[hL]at h1;obtain rfl:=sj h1
    have:=ltH _ _ h4
    rw[h,hC]at this
    exact absurd this (P9.mpr (QK _))
  exact⟨go,zp (P:=au P scope cl H2.objs.size vis (own H2.objs.size)) R2 hit' hcall go⟩
 obtain⟨tg,ite,ifs,asy⟩:=g
 obtain rfl:=hsync
 exact codeAny_compStart_list (loop _ rfl).1 (loop _ rfl).2
noncomputable def dY(k:Nat)(mi:M It)(mt:M Bool)(me:M V)(fuel:Nat):M V:=ao (HL d4 k mi mt me fuel) λys=>gU (.list ys)
theorem uf{k:Nat}{mi:M It}{mt:M Bool}{me:M V}{fuel:Nat}{y:V}(h:dY k mi mt me fuel st=some (y,st'))(hk:k=st.L.length):∃it st1 σ' z ys,mi st=some (it,st1)/\(k=st1.L.length->compLoop d4 k mt me fuel it [] ⟨st1.σ,st1.L++[none]⟩=some (ys,⟨σ',st1.L++[z]⟩)) /\
  (k=st1.L.length->y=.ref σ'.length/\st'=⟨σ'++[.list ys],st1.L⟩):=by
 refine ae h λys st2 e1 e2=>ae e1 λit st1 e3 e4=>aV e4 λp e5 e6=>eL e6 λhc e7=>?_
 clear h e1 e4 e6
 obtain⟨ys1,σ3,L₃⟩:=p
 obtain⟨rfl,rfl⟩:=pj e7
 refine⟨it,st1,σ3,(L₃[k]?).getD none,ys1,e3,λhk1=>?_,λhk1=>?_⟩
 ·obtain⟨c1,c2⟩:=hc
  dsimp only at c1 c2
  obtain⟨a,ha⟩:=List.length_eq_one_iff.mp (show(L₃.drop k).length=1 by rw[Sn,c2,Qs])
  have h1:L₃[k]?=some a:=by
   have h0:(L₃.drop k)[0]?=some a:=by rw[ha];rfl
   rwa [List.getElem?_drop,SD]at h0
  rw[e5,h1,<- c1]
  show some (ys1,(⟨σ3,L₃⟩:St))=some (ys1,⟨σ3,L₃.take k++[a]⟩)
  rw[<- ha,Qm]
 ·obtain⟨rfl,rfl⟩:=pj e2;exact⟨rfl,rfl⟩
structure EL(P:Fc)(scope:Scope)(cl:List (Str×Addr))(own:Addr->zE)(x:Str):Prop where
 is:∀C,∃l,own C=[(x,l)]
 bound:∀C,((gK scope cl C P.env).kindOf x==some .free)=false
theorem EL.of1{x:Str}(h:scope.names.lookup x=some .local):EL P scope cl (fD x) x:=⟨λC=>⟨_,rfl⟩,λC=>by rw[show(gK scope cl C P.env).kindOf x=some .local from lookup_relabel_local h];decide⟩
theorem BL(OK:B.Ok)(hlow:∀a∈B.tabs,a<B.n₀){k:Nat}(K:eB P scope cl vis own)(On:EL P scope cl own x)(hk:k=P.locs.length)(hok:(au P scope cl C vis (own C)).Ok)(hA:iZ (au P scope cl C vis (own C)) n A){elt iter:OQ}{px pos:Pos}{ifs:List OQ}{mt:M Bool}{me:M V}
  (ht:lc B (au P scope cl C vis (own C)) n ifs mt) (he:aR B (au P scope cl C vis (own C)) n elt me) {it:It} {v:OT} {ys:List V} {fuel:Nat} {s₀ s₁:OX} (R:bB B (au P scope cl C vis (own C)) ρ ⟨st.σ,st.L++(own C).map λu=>none⟩ s₁)
  (hit:cO B (au P scope cl C vis (own C)) (λb=>b<sz s₀\/b=D) ρ s₁.heap it v) {σ':List O} {y:Option V} (hm:compLoop d4 k mt me fuel it [] ⟨st.σ,st.L++[none]⟩=some (ys,⟨σ',st.L++[y]⟩))
  (hD:D∉ρ/\D∉(au P scope cl C vis (own C)).wr/\B.n₀<=D) (h0:¬D<sz s₀) (hacc:s₁.heap.get? D=some { cls:=.type "list",data:=.seq #[] 0 }) {RR:Result->OX->Prop}
  (h:∀ρ' s' vs m L',bB B (au P scope cl C vis (own C)) ρ' ⟨σ',st.L++L'⟩ s'->b6 B (au P scope cl C vis (own C)) (· <sz s₀) ρ s₁ ρ' s'->s'.heap.get? D=some { cls:=.type "list",data:=.seq vs m }->aL ρ' ys vs.toList->D∉ρ'->RR (.ok .next) s') :
  codeAny (model B.prog B.w) A (.compLoop (.ListComp elt [⟨.Name x px,iter,ifs,0⟩] scope pos) 0 v (.ref D) (au P scope cl C vis (own C)).env) RR s₁:=by
 obtain⟨l,e⟩:=On.is C
 have hx':(au P scope cl C vis (own C)).names[k]?=some (some x):=by
  show(vis++(own C).map λp=>some p.1)[k]?=_
  rw[hk,<- K.len,e];simp
 rw[show((own C).map λu=>(none:Option V))=[none] by rw[e];rfl]at R
 exact tL (P':=au P scope cl C vis (own C)) (z:=λb=>b<sz s₀\/b=D) (z₀:=(· <sz s₀)) OK hlow hok iB hA hx' (On.bound C) ht he R hit hm hD (λb h=>.inl h) (.inr rfl) h0 hacc trivial zR λρ' s' vs m R' G' eD ra hD'=>h ρ' s' vs m _ R' G' eD ra hD'
theorem uS(OK:B.Ok)(hlow:∀a∈B.tabs,a<B.n₀)(hP:P.Ok){k:Nat}(hk:k=P.locs.length)(fuel:Nat){elt iter:OQ}{px pos:Pos}{ifs:List OQ}{mi:M It}{mt:M Bool}{me:M V}
  (K:eB P scope cl vis own) (On:EL P scope cl own x) (hi:jQ B P n iter mi) (ht:∀C,(au P scope cl C vis (own C)).Ok->lc B (au P scope cl C vis (own C)) n ifs mt) (he:∀C,(au P scope cl C vis (own C)).Ok->aR B (au P scope cl C vis (own C)) n elt me) (hs:∀x,foldedSetIterable iter P.env x=pure x) :
  aR B P n (.ListComp elt [⟨.Name x px,iter,ifs,0⟩] scope pos) (dY k mi mt me fuel):=by
 intro A hA ρ st s R y st' hm Q E h
 obtain⟨it,st1,σ',z,ys,e1,e2,e3⟩:=uf hm (by rw[hk,R.llen])
 rw[eval_ListComp]
 refine wpAny_comprehension_free (use:=none) rfl hs K.clos K.kind K.names (hi A hA ρ st s R it st1 e1 _ _ λv ρ1 s₁ hit R1 G₁=>?_)
 have hk1:k=st1.L.length:=by rw[hk,R1.llen]
 obtain⟨rfl,rfl⟩:=e3 hk1
 have hloop:=e2 hk1
 refine ng (RR:=λacc C=>compPost (model B.prog B.w) A E none Q acc C) (σ':=σ') (ys:=ys) OK hlow hP K hA rfl R G₁ R1 hit (λk hk=>?_) (λC D s₁ RR hok hA' R2 hit' hD h0 hacc hRR=>BL OK hlow K On hk hok hA' (ht C hok) (he C hok) R2 hit' hloop hD h0 hacc hRR) λD C ρ' s' R' G' hl X=>?_
 ·subst hk
  cases fuel with
  | zero=>exact nO hloop
  | succ f=>obtain⟨r,_,q,_⟩:=fK hloop;exact nO q
 ·obtain⟨m,hm⟩:=X.ns
  refine⟨m,hm,λh' hs=>?_⟩
  obtain⟨R2,G₂⟩:=X.rel OK R' hs
  exact h _ _ _ ⟨D,by rw[<- hl];simp,rfl⟩ R2 (G'.transZ G₂)
theorem qL(OK:B.Ok)(hlow:∀a∈B.tabs,a<B.n₀)(hP:P.Ok){k:Nat}(hk:k=P.locs.length)(fuel:Nat){elt iter:OQ}{px pos py spos:Pos}{ifs:List OQ}{mi:M It}{mt:M Bool}{me:M V}{i:Nat}{nm:Str}
  (hn:P.names[i]?=some (some nm)) (hf:(P.env.kindOf nm==some .free)=false)
  (hsw:swapsWith (.ListComp elt [⟨.Name x px,iter,ifs,0⟩] scope pos) (some (.Name nm py)) spos.line P.env=pure true)
  (K:eB P scope cl vis own) (On:EL P scope cl own x) (hi:jQ B P n iter mi) (ht:∀C,(au P scope cl C vis (own C)).Ok->lc B (au P scope cl C vis (own C)) n ifs mt) (he:∀C,(au P scope cl C vis (own C)).Ok->aR B (au P scope cl C vis (own C)) n elt me) (hs:∀x,foldedSetIterable iter P.env x=pure x) :
  i7 B P n (.Assign [.Name nm py] (.ListComp elt [⟨.Name x px,iter,ifs,0⟩] scope pos) spos) (af i (dY k mi mt me fuel)):=by
 intro A hA ρ st s R y st' hm Q E h
 refine ae hm λxv st2 hm' e4=>?_
 obtain⟨rfl,rfl⟩:=pj e4
 obtain⟨it,st1,σ',z,ys,e1,e2,e3⟩:=uf hm' (by rw[hk,R.llen])
 rw[exec_Assign_Name_used _ _ _ _ hsw]
 refine OR (wpAny_standAt (OR ?_))
 show Ph _ A (do let _ <- comprehension (.ListComp elt [⟨.Name x px,iter,ifs,0⟩] scope pos) scope P.env _ (newList []) false (eval iter P.env) (some (assign (.Name nm py) P.env))) _ _ s
 refine OR (wpAny_mono (wpAny_comprehension_free (use:=some (assign (.Name nm py) P.env)) (Q:=λu s'=>Q .next s') rfl hs K.clos K.kind K.names
  (hi A hA ρ st s R it st1 e1 _ _ λv ρ1 s₁ hit R1 G₁=>?_)) (λu s' hq=>O3 (O3 hq)) λu u e=>e)
 have hk1:k=st1.L.length:=by rw[hk,R1.llen]
 obtain⟨rfl,rfl⟩:=e3 hk1
 have hloop:=e2 hk1
 refine ng (RR:=λacc C=>compPost (model B.prog B.w) A E (some (assign (.Name nm py) P.env)) (λu s'=>Q .next s') acc C) (σ':=σ') (ys:=ys) OK hlow hP K hA rfl R G₁ R1 hit (λk hk=>?_) (λC D s₁ RR hok hA' R2 hit' hD h0 hacc hRR=>BL OK hlow K On hk hok hA' (ht C hok) (he C hok) R2 hit' hloop hD h0 hacc hRR) λD C ρ' s' R' G' hl X=>?_
 ·subst hk
  cases fuel with
  | zero=>exact nO hloop
  | succ f=>obtain⟨r,_,q,_⟩:=fK hloop;exact nO q
 ·show Ph _ A (assign (.Name nm py) P.env (.ref D)) _ _ _
  refine wpAny_assign_Name (eu OK hP R' hn hf (x:=.ref σ'.length) ⟨D,by rw[<- hl];simp,rfl⟩ λs2 R2 G₂=>?_)
  obtain⟨m,hm⟩:=X.ns
  have hm2:s2.heap.Ns C m:=cu.ns (n₀:=B.n₀) hm λo e=>G₂.keep C o e X.apart.1 X.apart.2.1 λht=>absurd (hlow _ ht) (P9.mpr X.apart.2.2)
  refine⟨m,hm2,λh' hs=>?_⟩
  have X2:A9 B P (· <sz s) (ρ'++[D]) s2 C:=⟨⟨m,hm2⟩,X.apart,X.notz,X.locals,X.frames⟩
  obtain⟨R3,G₃⟩:=X2.rel OK R2 hs
  exact h _ _ _ rfl R3 ((G'.trans G₂).transZ G₃)
end
noncomputable def lY(L:Addr)(s:OX):Prop:=∃o,s.heap.get? L=some o/\o.cls=.type "frame"
section
variable {M:Model}{A:Around}{E:OT->OX->Prop}{s₀ s:OX}{env:Env}
theorem BD(f:Str×OT->PUnit->Sem (ForInStep PUnit))(hf:∀n v u,f (n,v) u=(do storeName env n v;pure (.yield ⟨⟩)))(hk:env.scope.kind=.function) :
  ∀(binds:List (Str×OT))(m cm:Str->Option OT)(s:OX)(Q:PUnit->OX->Prop),InCallC s₀ env.locals m env.cells cm s->lY env.locals s ->
   (∀x∈binds,env.kindOf x.1=some .local\/(env.kindOf x.1=some .cell/\(env.cells.lookup x.1).isSome=true)) ->
   (∀s',InCallC s₀ env.locals (bindL env.kindOf binds m) env.cells (bindC env.kindOf binds cm) s'->lY env.locals s'->Q ⟨⟩ s')->Ph M A (forIn binds ⟨⟩ f) Q E s
 | [],m,cm,s,Q,x,fr,_,h=>by rw[Q4];exact O3 (h s x fr)
 | (n,v)::r,m,cm,s,Q,x,fr,hkind,h=>by
  rw[Rf,hf]
  have hr:∀y∈r,env.kindOf y.1=some .local\/(env.kindOf y.1=some .cell/\(env.cells.lookup y.1).isSome=true):=λy hy=>hkind y (Pa _ hy)
  obtain⟨o,eo,hc⟩:=fr
  rcases hkind (n,v) Pe with hl | ⟨hl,hc'⟩
  ·refine OR (OR ?_)
   rw[Si hl (by rw[hk];rfl)]
   refine nv x.toInCall.ns λh' hn' hs' hcl=>O3 ?_
   obtain⟨o',eo',hc'⟩:=hcl o eo
   have x':InCallC s₀ env.locals (λy=>if y=n then some v else m y) env.cells cm { s with heap:=h',toks:=s.toks+1 }:=by
    refine⟨⟨?_,hn',λb o e=>?_,x.toInCall.fresh⟩,λk c hc=>?_,x.apart,x.above⟩
    ·obtain⟨h1,tk,rfl⟩:=x.toInCall.same
     exact⟨h',_,rfl⟩
    ·exact hs'.extBut b o (Pg (O0 (Pu e) x.toInCall.fresh)) (x.toInCall.keep b o e)
    ·exact(x.cell k c hc).sameBut hs' (PE (x.above k c (mem_of_lookup hc)))
   refine BD f hf hk r _ _ _ Q x' ⟨o',eo',hc'.trans hc⟩ hr λs'' x''=>h s'' ?_
   unfold bindL bindC;rw[if_pos hl,if_pos hl];exact x''
  ·obtain⟨c,hc''⟩:=QJ.mp hc'
   have hnl:¬env.kindOf n=some .local:=by rw[hl];decide
   have hLc:=x.above n c (mem_of_lookup hc'')
   refine OR (OR (wpAny_storeName_cell hk hl hc'' (x.cell n c hc'') λh' hcc hs'=>O3 ?_))
   have x':InCallC s₀ env.locals m env.cells (λy=>if y=n then some v else cm y) { s with heap:=h' }:=by
    refine⟨⟨?_,x.toInCall.ns.sameBut hs' (Pg hLc),λb o e=>?_,x.toInCall.fresh⟩,λk c' hk'=>?_,x.apart,x.above⟩
    ·obtain⟨h1,tk,rfl⟩:=x.toInCall.same
     exact⟨h',_,rfl⟩
    ·exact hs'.extBut b o (Pg (Qd (O0 (Pu e) x.toInCall.fresh) hLc)) (x.toInCall.keep b o e)
    ·by_cases hkn:k=n
     ·subst hkn
      rw[hc'']at hk';obtain rfl:=sj hk'
      simpa using hcc
     ·rw[if_neg hkn]
      exact(x.cell k c' hk').sameBut hs' λe=>hkn (name_of_addr x.apart (mem_of_lookup hk') (e▸mem_of_lookup hc''))
   refine BD f hf hk r _ _ _ Q x' ⟨o,(hs'.2 _ (Pg hLc)).trans eo,hc⟩ hr λs'' x''=>h s'' ?_
   unfold bindL bindC;rw[if_neg hnl,if_neg hnl];exact x''
theorem sM{scope:Scope}{globals:Addr}{binds:List (Str×OT)}{qual:Str}{func:Option Addr}{code:OT}{builtins:Addr}{Q:Env->OX->Prop}
  (hk:scope.kind=.function)
  (hkind:∀x∈binds,scope.names.lookup x.1=some .local\/(scope.names.lookup x.1=some .cell/\((cellsFrom (s.heap.objs.size+1) scope.names []).lookup x.1).isSome=true))
  (hQ:∀env,env=newEnv scope s.heap.objs.size globals (cellsFrom (s.heap.objs.size+1) scope.names []) qual func code none builtins ->
   ∀s',InCallC s env.locals (bindL env.kindOf binds λu=>none) env.cells (bindC env.kindOf binds λu=>none) s'->lY env.locals s'->Q env s') :
  Ph M A (newFunctionEnv scope globals [] binds qual func code none builtins) Q E s:=by
 simp only[newFunctionEnv,Option.isSome_none,P5,if_false]
 refine OR (wpAny_alloc ?_)
 refine OR (wpAny_layCells _ (λname kind cells=>by cases hkc:kind==SX<;>simp[hkc]) _ _ _ _ ?_)
 have ok:=cellsFrom_ok scope.names (s.heap.push { cls:=.type "frame",data:=.dict #[] }) (s.heap.objs.size+1) [] ⟨λu u hm=>(nomatch hm),ST⟩ (by rw[PP];exact O8 _)
 rw[PP]at ok
 rw[show({ s with heap:=s.heap.push { cls:=.type "frame",data:=.dict #[] } }:OX).heap.objs.size=s.heap.objs.size+1 from PP ..]
 refine OR (BD (s₀:=s) (env:=newEnv scope s.heap.objs.size globals (cellsFrom (s.heap.objs.size+1) scope.names []) qual func code none builtins)
  _ (λu u u=>rfl) hk binds (λu=>none) (λu=>none) _ _
  ⟨⟨⟨_,_,rfl⟩,(Heap.Ns.new s.heap (.type "frame")).keeps (pushCells_keeps _ _),λb o e=>pushCells_keeps _ _ b o (Pj _ e),O8 _⟩,
   λn c hc=>(ok.empty n c (mem_of_lookup hc)).1,ok.apart,λn c hm=>(ok.empty n c hm).2⟩ ⟨_,pushCells_keeps _ _ _ _ (Pd _ rfl),rfl⟩
  hkind λs' x fr=>O3 (hQ _ rfl s' x fr))
end
noncomputable def jC(env:Env)(n:Str):dc:=match env.kindOf n with
 | some .local=>.name env.locals n
 | some .cell=>match env.cells.lookup n with
  | some c=>.cell c
  | none=>.dead
 | _=>.dead
noncomputable def bC(fd:PF)(L a:Addr)(stk:List Env)(nms:List Str):Fc :=
 { env:=callEnvC fd L a,stk:=callEnvC fd L a::stk,names:=nms.map some,locs:=nms.map (jC (callEnvC fd L a)) }
structure dw(fd:PF)(body:List Stmt)(ps nms:List Str):Prop where
 clo:fd.closure=[]
 body:fd.body=.stmts body
 kind:fd.scope.kind=.function
 co:fd.scope.isCoroutine=false
 gen:fd.scope.isGenerator=false
 nodup:nms.Nodup
 pre:ps<+: nms
 kinds:∀n∈nms,fd.scope.names.lookup n=some .local\/fd.scope.names.lookup n=some .cell
 bind:∀vals:List OT,vals.length=ps.length->bindArgs fd ⟨vals,[]⟩=pure (ps.zip vals)
theorem cW:∀(names:List (Str×NameKind))(k:Nat)(acc:List (Str×Addr))(n:Str),((n,SX)∈names\/(acc.lookup n).isSome=true)->((cellsFrom k names acc).lookup n).isSome=true
 | [],k,acc,n,h=>by
  rcases h with h | h
  ·cases h
  ·exact h
 | (m,kind)::r,k,acc,n,h=>by
  unfold cellsFrom
  split
  ·rename_i hk
   refine cW r _ _ n ?_
   rcases h with h | h
   ·rcases PW.mp h with e | h
    ·obtain⟨rfl,rfl⟩:=PZ e;exact .inr (by simp)
    ·exact .inl h
   ·refine .inr ?_
    rw[Ru]
    split
    ·rfl
    ·exact h
  ·rename_i hk
   refine cW r _ _ n ?_
   rcases h with h | h
   ·rcases PW.mp h with e | h
    ·obtain⟨rfl,rfl⟩:=PZ e;exact absurd rfl hk
    ·exact .inl h
   ·exact .inr h
theorem m8(kindOf:Str->Option NameKind)(n:Str):∀(bs:List (Str×OT))(m:Str->Option OT),(∀b∈bs,b.1≠n)->bindL kindOf bs m n=m n
 | [],m,_=>rfl
 | (k,v)::r,m,h=>by
  unfold bindL
  rw[m8 kindOf n r _ λb hb=>h b (Pa _ hb)]
  split
  ·have:=h (k,v) Pe
   exact if_neg λe:n=k=>this e.symm
  ·rfl
theorem m7(kindOf:Str->Option NameKind)(n:Str):∀(bs:List (Str×OT))(m:Str->Option OT),(∀b∈bs,b.1≠n)->bindC kindOf bs m n=m n
 | [],m,_=>rfl
 | (k,v)::r,m,h=>by
  unfold bindC
  rw[m7 kindOf n r _ λb hb=>h b (Pa _ hb)]
  split
  ·rfl
  ·have:=h (k,v) Pe
   exact if_neg λe:n=k=>this e.symm
theorem qY(kindOf:Str->Option NameKind)(n:Str)(hk:kindOf n=some .local):∀(ps:List Str)(vs:List OT)(m:Str->Option OT)(i:Nat),ps.Nodup->ps.length=vs.length->ps[i]?=some n->bindL kindOf (ps.zip vs) m n=vs[i]?
 | p::ps,v::vs,m,0,hd,hl,h=>by
  simp at h;subst h
  show bindL kindOf ((p,v)::ps.zip vs) m p=_
  unfold bindL
  rw[m8 kindOf p,if_pos hk]
  ·simp
  ·intro b hb e
   have:=(Rg.mp hd).1
   exact this (e▸(Rh hb).1)
 | p::ps,v::vs,m,i+1,hd,hl,h=>by
  show bindL kindOf ((p,v)::ps.zip vs) m n=_
  unfold bindL
  rw[qY kindOf n hk ps vs _ i (Rg.mp hd).2 (by simpa using hl) (by simpa using h)]
  simp
theorem qX(kindOf:Str->Option NameKind)(n:Str)(hk:kindOf n=some .cell):∀(ps:List Str)(vs:List OT)(m:Str->Option OT)(i:Nat),ps.Nodup->ps.length=vs.length->ps[i]?=some n->bindC kindOf (ps.zip vs) m n=vs[i]?
 | p::ps,v::vs,m,0,hd,hl,h=>by
  simp at h;subst h
  show bindC kindOf ((p,v)::ps.zip vs) m p=_
  unfold bindC
  rw[m7 kindOf p,if_neg (by rw[hk];decide)]
  ·simp
  ·intro b hb e
   have:=(Rg.mp hd).1
   exact this (e▸(Rh hb).1)
 | p::ps,v::vs,m,i+1,hd,hl,h=>by
  show bindC kindOf ((p,v)::ps.zip vs) m n=_
  unfold bindC
  rw[qX kindOf n hk ps vs _ i (Rg.mp hd).2 (by simpa using hl) (by simpa using h)]
  simp
section
variable {B:bc}{P P':Fc}{A:Around}{n:Nat}{ρ ρ' ρ'':List Addr}{st st':St}{s s' s'':OX}{fd:PF}{body:List Stmt}{ps nms:List Str}{L a:Addr}{stk:List Env}
theorem sV{cs:List (Str×Addr)}(hp:cs.Pairwise λx y=>x.2≠y.2){n n':Str}{c:Addr}(h:cs.lookup n=some c)(h':cs.lookup n'=some c):n=n':=name_of_addr hp (mem_of_lookup h) (mem_of_lookup h')
theorem eU(F:dw fd body ps nms){nm:Str}(hm:nm∈nms):(jC (callEnvC fd L a) nm=.name L nm/\(callEnvC fd L a).kindOf nm=some .local)\/∃c,jC (callEnvC fd L a) nm=.cell c/\(callEnvC fd L a).kindOf nm=some .cell/\(callEnvC fd L a).cells.lookup nm=some c:=by
 rcases F.kinds nm hm with h | h
 ·have hk:(callEnvC fd L a).kindOf nm=some .local:=h
  exact .inl ⟨by delta jC;rw[hk];rfl,hk⟩
 ·have hk:(callEnvC fd L a).kindOf nm=some .cell:=h
  have hs:((callEnvC fd L a).cells.lookup nm).isSome=true:=cW fd.scope.names (L+1) [] nm (.inl (mem_of_lookup h))
  obtain⟨c,hc⟩:=QJ.mp hs
  exact .inr ⟨c,by delta jC;rw[hk];dsimp only;rw[hc],hk,hc⟩
theorem sE(F:dw fd body ps nms)(hap:(callEnvC fd L a).cells.Pairwise λx y=>x.2≠y.2):(bC fd L a stk nms).Ok:=by
 refine⟨F.kind,λi nm h=>?_,by simp[bC],λi j l h1 h2 h3=>?_⟩
 ·have h':(nms.map some)[i]?=some (some nm):=h
  rw[Pn]at h'
  cases hi:nms[i]? with
  | none=>rw[hi]at h';exact nO h'
  | some x =>
   rw[hi]at h';obtain rfl:=(sj (sj h')).symm
   have hm:=O1 hi
   refine⟨jC (callEnvC fd L a) nm,by show(nms.map _)[i]?=_;rw[Pn,hi];rfl,?_⟩
   rcases eU (L:=L) (a:=a) F hm with⟨e,hk⟩ | ⟨c,e,hk,hc⟩
   ·rw[e];exact⟨rfl,rfl,hk⟩
   ·rw[e];exact⟨.inl hk,hc⟩
 ·have g1:(nms.map (jC (callEnvC fd L a)))[i]?=some l:=h1
  have g2:(nms.map (jC (callEnvC fd L a)))[j]?=some l:=h2
  rw[Pn]at g1 g2
  cases hi:nms[i]? with
  | none=>rw[hi]at g1;exact nO g1
  | some x =>
   cases hj:nms[j]? with
   | none=>rw[hj]at g2;exact nO g2
   | some y =>
    rw[hi]at g1;rw[hj]at g2
    simp only[Option.map_some,QX]at g1 g2
    have hxy:x=y:=by
     rcases eU (L:=L) (a:=a) F (O1 hi)with⟨e,hk⟩ | ⟨c,e,hk,hc⟩<;>rcases eU (L:=L) (a:=a) F (O1 hj)with⟨e',hk'⟩ | ⟨c',e',hk',hc'⟩
     ·rw[<- g1,e,e']at g2;injection g2 with _ q;exact q.symm
     ·rw[<- g1,e,e']at g2;exact nc dc.ctorIdx g2 rfl
     ·rw[<- g1,e,e']at g2;exact nc dc.ctorIdx g2 rfl
     ·rw[<- g1,e,e']at g2
      injection g2 with q
      subst q
      exact sV hap hc hc'
    subst hxy
    have hi':=(OW.mp hi).1
    exact(R8 hi' F.nodup).mp (hi.trans hj.symm)
noncomputable def fS(k:Nat)(xs:List V):List (Option V):=xs.map some++Px (k - xs.length) none
structure o0(B:bc)(ρ:List Addr)(σ:List O)(stk:List Env)(s:OX):Prop where
 len:ρ.length=σ.length
 nodup:ρ.Nodup
 obj:∀(k:Nat)(a:Addr)(o:O),ρ[k]?=some a->σ[k]?=some o->i5 B.prog B.w ρ s.heap a o
 live:∀a∈ρ,∃o,s.heap.get? a=some o/\HD o
 kept:∀b o,B.h₀.get? b=some o->s.heap.get? b=some o
 tab:B.tab ρ s.heap
 fresh:∀a∈ρ,B.n₀<=a
 stk:∀e∈stk,gY B ρ s.heap e
 gens:s.gens= #[]
 os:s.os=B.os
 size:B.n₀<=sz s
theorem Rel0.toN(OK:B.Ok)(R:Rel0 B P ρ st s):o0 B ρ st.σ P.stk s:=⟨R.len,R.nodup,R.obj,R.live,R.kept,R.tab,R.fresh,R.stk,R.gens,R.os,R.size OK⟩
theorem o0.ext(OK:B.Ok){σ:List O}(R:o0 B ρ σ stk s){h₁:Heap}{tk:Nat}(hk:∀b o,s.heap.get? b=some o->h₁.get? b=some o)(hz:sz s<=h₁.objs.size):o0 B ρ σ stk { s with heap:=h₁,toks:=tk }:=by
 have S:zG B ρ [] s.heap ρ h₁:=⟨PK _,λb o e u=>.of (hk b o e),λb hb=>by(exact nomatch hb),λa ha=>.inl ha,R.nodup⟩
 refine⟨R.len,R.nodup,λk a o h1 h2=>(R.obj k a o h1 h2).step S (by simp),λa ha=>?_,λb o e=>hk b o (R.kept b o e),?_,R.fresh,λe he=>(R.stk e he).step S (λb hb=>by(exact nomatch hb)),R.gens,R.os,OZ R.size hz⟩
 ·obtain⟨o,e,h⟩:=R.live a ha
  exact⟨o,hk _ _ e,h⟩
 ·exact OK.tab_step ρ ρ s.heap h₁ R.tab (λb o e u u u=>hk b o e) λa ha=>.inl ha
theorem o0.call(OK:B.Ok)(F:dw fd body ps nms){σ:List O}{xs:List V}{vs:List OT}(R:o0 B ρ σ stk s)(rx:aL ρ xs vs)(hl:xs.length=ps.length){s₁:OX}(ht:1<=s₁.toks)
  (x:InCallC s L (bindL (callEnvC fd L a).kindOf (ps.zip vs) λu=>none) (callEnvC fd L a).cells (bindC (callEnvC fd L a).kindOf (ps.zip vs) λu=>none) s₁) (fr:lY L s₁) :
  bB B (bC fd L a stk nms) ρ ⟨σ,fS nms.length xs⟩ s₁/\(∀b o,s.heap.get? b=some o->s₁.heap.get? b=some o):=by
 obtain⟨h₁,tk,rfl⟩:=x.toInCall.same
 have hf:=x.toInCall.fresh
 have hz:sz s<=h₁.objs.size:=by
  obtain⟨o,e,_⟩:=fr
  exact OZ hf (Pq (Pu e))
 have R1:o0 B ρ σ stk { s with heap:=h₁,toks:=tk }:=R.ext OK x.toInCall.keep hz
 have hpl:ps.length<=nms.length:=F.pre.length_le
 have hvl:ps.length=vs.length:=by rw[<- hl];exact rx.length
 have hpd:ps.Nodup:=F.pre.sublist.nodup F.nodup
 have new:∀l∈(bC fd L a stk nms).locs,∀b∈l.addr,(b=L\/∃nm,(callEnvC fd L a).cells.lookup nm=some b):=λl hl b hb=>by
  obtain⟨nm,hm,rfl⟩:=PY.mp hl
  rcases eU (L:=L) (a:=a) F hm with⟨e,hk⟩ | ⟨c,e,hk,hc⟩
  ·rw[e]at hb;simp[dc.addr]at hb;exact .inl hb
  ·rw[e]at hb;simp[dc.addr]at hb;subst hb;exact .inr ⟨nm,hc⟩
 have newwr:∀b∈(bC fd L a stk nms).wr,sz s<=b/\∃o,h₁.get? b=some o/\cD o:=λb hb=>by
  obtain⟨l,hl,hb'⟩:=Qq.mp hb
  rcases new l hl b hb' with rfl | ⟨nm,hc⟩
  ·obtain⟨o,es,ep,e,hd,_⟩:=x.toInCall.ns
   exact⟨hf,o,e,.inl λvs=>by rw[hd];simp⟩
  ·obtain⟨o,e,hd⟩:=x.cell nm b hc
   exact⟨OZ hf (Pq (x.above nm b (mem_of_lookup hc))),o,e,.inl λvs=>by rw[hd];simp⟩
 have notρ:∀b,sz s<=b->b∉ρ:=λb hb hm=>by obtain⟨o,e,_⟩:=R.live b hm;exact bo e hb
 refine⟨⟨⟨R1.len,R1.nodup,R1.obj,R1.live,?_,λi l y h1 h2=>?_,R1.kept,R1.tab,R1.fresh,λb hb=>OZ R.size (newwr b hb).1,λb hb=>notρ b (newwr b hb).1,λb hb=>(newwr b hb).2,λe he=>?_,⟨_,x.toInCall.ns⟩,OZ R.size hf,notρ _ hf,R1.gens,R1.os⟩,ht⟩,x.toInCall.keep⟩
 ·simp[fS,bC];lia
 ·have g1:(nms.map (jC (callEnvC fd L a)))[i]?=some l:=h1
  rw[Pn]at g1
  cases hi:nms[i]? with
  | none=>rw[hi]at g1;exact nO g1
  | some nm =>
   rw[hi]at g1
   simp only[Option.map_some,QX]at g1
   have hm:=O1 hi
   have hin:=(OW.mp hi).1
   have key:∀w:Option OT,(∀v,ps[i]?=some nm->vs[i]?=some v->w=some v)->((∀b∈ps.zip vs,b.1≠nm)->w=none)->i6 ρ y w:=λw hw1 hw2=>by
    rcases Sa i ps.length with q | q
    ·have hpi:ps[i]?=some nm:=by
      obtain⟨t,ht⟩:=F.pre
      rw[<- ht,O7 q]at hi;exact hi
     have h2':(xs.map some++Px (nms.length - xs.length) none)[i]?=some y:=h2
     rw[O7 (by simp;lia),Pn]at h2'
     cases hx:xs[i]? with
     | none=>rw[hx]at h2';exact nO h2'
     | some xi =>
      rw[hx]at h2'
      obtain rfl:=sj h2'
      obtain⟨v,hv,rv⟩:=rx.get hx
      rw[hw1 v hpi hv];exact rv
    ·have hn:w=none:=hw2 λb hb e=>by
      obtain⟨j,hj⟩:=Ro (Rh hb).1
      have hjl:=(OW.mp hj).1
      rw[e]at hj
      have hj':nms[j]?=some nm:=by
       obtain⟨t,ht⟩:=F.pre
       rw[<- ht,O7 hjl];exact hj
      have:=(R8 hin F.nodup).mp (hi.trans hj'.symm)
      lia
     have h2':(xs.map some++Px (nms.length - xs.length) none)[i]?=some y:=h2
     rw[Pi (by simp;lia)]at h2'
     rw[List.getElem?_replicate]at h2'
     split at h2'
     ·obtain rfl:=sj h2';rw[hn];trivial
     ·exact nO h2'
   rcases eU (L:=L) (a:=a) F hm with⟨e,hk⟩ | ⟨c,e,hk,hc⟩
   ·rw[e]at g1;subst g1
    exact⟨_,x.toInCall.ns,key _ (λv h1 h2=>by rw[qY _ nm hk ps vs _ i hpd hvl h1,h2]) (λh=>m8 _ nm _ _ h)⟩
   ·rw[e]at g1;subst g1
    exact⟨_,x.cell nm c hc,key _ (λv h1 h2=>by rw[qX _ nm hk ps vs _ i hpd hvl h1,h2]) (λh=>m7 _ nm _ _ h)⟩
 ·rcases PW.mp he with rfl | he
  ·obtain⟨o,e,hc⟩:=fr
   obtain⟨o',es,ep,e',hd,_⟩:=x.toInCall.ns
   rw[e]at e';obtain rfl:=sj e'
   exact⟨by show fd.scope.kind≠_;rw[F.kind];decide,_,o,rfl,OZ R.size hf,notρ _ hf,e,hc,es,ep,hd⟩
  ·exact R1.stk e he
theorem bB.call(OK:B.Ok)(F:dw fd body ps nms){xs:List V}{vs:List OT}(R:bB B P ρ st s)(rx:aL ρ xs vs)(hl:xs.length=ps.length){s₁:OX}(ht:1<=s₁.toks)
  (x:InCallC s L (bindL (callEnvC fd L a).kindOf (ps.zip vs) λu=>none) (callEnvC fd L a).cells (bindC (callEnvC fd L a).kindOf (ps.zip vs) λu=>none) s₁) (fr:lY L s₁) :
  bB B (bC fd L a P.stk nms) ρ ⟨st.σ,fS nms.length xs⟩ s₁/\(∀b o,s.heap.get? b=some o->s₁.heap.get? b=some o):=o0.call OK F (R.toRel0.toN OK) rx hl ht x fr
noncomputable def Fc.NoStore(P:Fc):Prop:=∀(i k:Nat)(c:Addr),P.locs[i]?≠some (.store k c)
theorem bB.back(hlow:∀a∈B.tabs,a<B.n₀)(hns:P.NoStore)(R:bB B P ρ st s)(R':bB B P' ρ' st' s')(G:aW B P' ρ s ρ' s')(hw:∀b∈P'.wr,sz s<=b)(hs:∀e∈P.stk,e∈P'.stk) :
  bB B P ρ' ⟨st'.σ,st.L⟩ s'/\aW B P ρ s ρ' s':=by
 have notw:∀{b o},s.heap.get? b=some o->b∉P'.wr:=λe hm=>bo e (hw _ hm)
 have tabs:∀{a},B.n₀<=a->a∉B.tabs:=λh1 h2=>absurd (hlow _ h2) (P9.mpr h1)
 have keep:∀{b o},b∈P.wr->s.heap.get? b=some o->cu B.n₀ s'.heap b o:=λ{b o} hb e=>G.keep b o e (R.apart b hb) (notw e) (tabs (R.wfresh b hb))
 refine⟨⟨⟨R'.len,R'.nodup,R'.obj,R'.live,R.llen,λi l x h1 h2=>?_,R'.kept,R'.tab,R'.fresh,R.wfresh,λa ha hm=>?_,λa ha=>?_,λe he=>R'.stk e (hs e he),?_,R.nsfresh,λhm=>?_,R'.gens,R'.os⟩,R'.tpos⟩,⟨G.pre,λb o e h1 h2 h3=>G.keep b o e h1 (notw e) h3,G.new⟩,G.size⟩
 ·have hr:=R.loc i l x h1 h2
  cases l with
  | name d nm=>obtain⟨m,hm,q⟩:=hr;exact⟨m,cu.ns hm λo e=>keep (cN h1 (by simp[dc.addr])) e,q.mono G.pre⟩
  | cell c=>obtain⟨u,hu,q⟩:=hr;exact⟨u,cu.cell hu λo e=>keep (cN h1 (by simp[dc.addr])) e,q.mono G.pre⟩
  | store k c=>exact absurd h1 (hns i k c)
  | dead=>trivial
 ·rcases G.new a hm with q | q
  ·exact R.apart a ha q
  ·obtain⟨o,e,_⟩:=R.wlive a ha;exact bo e q
 ·obtain⟨o,e,hp⟩:=R.wlive a ha
  obtain⟨o',e',hd,hc⟩:=(keep ha e).data
  exact⟨o',e',by unfold cD;rw[hd,hc];exact hp⟩
 ·obtain⟨m,hm⟩:=R.ns
  exact⟨m,cu.ns hm λo e=>G.keep _ o e R.nsapart (notw e) (tabs R.nsfresh)⟩
 ·rcases G.new _ hm with q | q
  ·exact R.nsapart q
  ·obtain⟨m,o,es,ep,e,_⟩:=R.ns;exact bo e q
theorem pF{m cm:Str->Option OT}(F:dw fd body ps nms)(x:InCallC s s.heap.objs.size m (callEnvC fd s.heap.objs.size a).cells cm s'):∀b∈(bC fd s.heap.objs.size a stk nms).wr,sz s<=b:=λb hb=>by
 obtain⟨l,hl,hb'⟩:=Qq.mp hb
 obtain⟨nm,hm,rfl⟩:=PY.mp hl
 rcases eU (L:=s.heap.objs.size) (a:=a) F hm with⟨e,hk⟩ | ⟨c,e,hk,hc⟩
 ·rw[e]at hb';rw[OS.mp hb'];exact O8 _
 ·rw[e]at hb';rw[OS.mp hb'];exact Pq (x.above nm _ (mem_of_lookup hc))
noncomputable def Ep(f:Fl):Option V:=match f with
 | .ret x=>some x
 | .next=>some .none
 | _=>none
noncomputable def GN(L₀:List (Option V))(mb:M Fl):M V:=λst=>(mb ⟨st.σ,L₀⟩).bind λp=>(Ep p.1).map (·,⟨p.2.σ,st.L⟩)
noncomputable def kV(k:Nat)(mb:M Fl)(xs:List V):M V:=GN (fS k xs) mb
theorem rQ{C:Prop}{L₀:List (Option V)}{mb:M Fl}{y:V}(h:GN L₀ mb st=some (y,st'))(c:∀f st1,mb ⟨st.σ,L₀⟩=some (f,st1)->Ep f=some y->st'=⟨st1.σ,st.L⟩->C):C :=
 aV h λp e1 h=>dy h λv e2 e=>c p.1 p.2 e1 (e2.trans (congrArg some (PZ e).1.symm)) (PZ e).2
theorem rZ{f:Fl}{g:Flow}{y:V}(h:Ep f=some y)(r:dW ρ f g):(∃v,g=.ret v/\aU ρ y v)\/(g=.next/\y=.none):=by
 cases f with
 | ret x=>obtain rfl:=sj h;exact .inl r
 | next=>obtain rfl:=sj h;exact .inr ⟨r,rfl⟩
 | _=>exact nO h
noncomputable def kB(B:bc)(n:Nat)(g:OT)(f:List V->M V):Prop :=
 ∀P,P.NoStore->bL B P n g f
noncomputable def aQ(B:bc)(n:Nat)(g:OT)(f:List V->M V):Prop :=
 ∀P,P.NoStore->∀A,iZ P n A->∀ρ st s vs xs,bB B P ρ st s->aL ρ xs vs->∀y st',f xs st=some (y,st')->∀RR:Result->OX->Prop,
  (∀v ρ' s',aU ρ' y v->bB B P ρ' st' s'->aW B P ρ s ρ' s'->RR (.ok (.ret v)) s')->codeAny (model B.prog B.w) A (.call g ⟨vs,[]⟩) RR s
theorem aQ.call{g:OT}{f:List V->M V}(h:aQ B n g f):kB B n g f:=λP hns A hA ρ st s vs xs R r y st' hm Q E k=>wpAny_call (h P hns A hA ρ st s vs xs R r y st' hm _ k)
structure cB(B:bc)(a:Addr)(fd:PF):Prop where
 obj:∃o,B.h₀.get? a=some o/\o.data=.func fd
 crec:B.h₀.CodeRec fd.code fd.qualname
end
end Mine
end
section
open PySem PySem.Calls PySem.SeqAt PySem.W
namespace Mine
section
variable {B:bc}{P P':Fc}{A:Around}{n:Nat}{ρ ρ' ρ'':List Addr}{st st':St}{s s' s'':OX}
noncomputable def wg{β:Type}(x:V)(f:OT->M β):M β:=match x with | .glob v=>f v | _=>av
theorem p5{β:Type}{C:Prop}{x:V}{v:OT}{f:OT->M β}{r:β×St}(q:aU ρ x v)(h:wg x f st=some r)(c:x=.glob v->f v st=some r->C):C:=by
 cases x with
 | glob g=>obtain rfl:v=g:=q;exact c rfl h
 | _=>exact nO h
noncomputable def nQ(mf:M V)(ms:M (List V))(tbl:OT->List V->M V):M V:=ao mf λg=>ao ms λxs=>wg g λv=>tbl v xs
structure vB(B:bc)(n:Nat)(tbl:OT->List V->M V):Prop where
 ok:∀v xs st r,tbl v xs st=some r->(∃a fd,v=.ref a/\cB B a fd)/\kB B n v (tbl v)
theorem uP(hns:P.NoStore){nm:Str}{p pos:Pos}{e:OQ}{es:List OQ}{mf:M V}{ms:M (List V)}{tbl:OT->List V->M V}(hn:aR B P n (.Name nm p) mf)(hs:mZ B P n pos (e::es) ms)(T:vB B n tbl)
  (hst:Pb (e::es) P.env=(false,eval e P.env)::Pb es P.env):aR B P n (.Call (.Name nm p) (e::es) [] pos) (nQ mf ms tbl):=by
 intro A hA ρ st s R y st' hm Q E h
 refine ae hm λg st1 e1 e2=>?_
 refine ae e2 λxs st2 e3 e4=>?_
 refine wpAny_Call_NameR (hn A hA ρ st s R g st1 e1 _ _ λv ρ1 s₁ r1 R1 G₁=>?_)
 refine p5 r1 e4 λu e5=>?_
 obtain⟨⟨a,fd,ev,O⟩,hc⟩:=T.ok _ _ _ _ e5
 subst ev
 obtain⟨o,eo,hd⟩:=O.obj
 refine callWith_function (j0 hst (hs A hA ρ1 st1 s₁ R1 xs st2 e3 _ _ λvs ρ2 s2 r2 R2 G₂=>⟨⟨R2.kept _ _ eo,hd⟩,?_⟩))
 exact hc P hns A hA ρ2 st2 s2 vs xs R2 r2 y st' e5 Q E λc ρ3 s3 r3 R3 G₃=>h c ρ3 s3 r3 R3 (G₁.trans (G₂.trans G₃))
noncomputable def qe(v:V):Bool:=match v with
 | .glob _=>false
 | _=>true
theorem vY{x:V}{v:OT}(h:qe x=true)(r:aU ρ x v):handedIn v=true:=by
 cases x with
 | glob g=>exact nc QH h rfl
 | none=>obtain rfl:v=_:=r;rfl
 | bool b=>obtain rfl:v=_:=r;rfl
 | int i=>obtain⟨t,rfl⟩:=r;rfl
 | str i=>obtain⟨t,rfl⟩:=r;rfl
 | ref k=>obtain⟨a,_,rfl⟩:=r;rfl
theorem mx{fs:List (Str×V)}:∀{es:List Qj}(nm:Str),lb ρ fs es->∃r,S8 nm es=some r/\i6 ρ (fs.lookup nm) r:=by
 induction fs with
 | nil =>
  intro es nm r
  cases es with
  | nil=>exact⟨none,rfl,trivial⟩
  | cons _ _=>exact r.elim
 | cons f fs ih =>
  intro es nm r
  obtain⟨k,x⟩:=f
  cases es with
  | nil=>exact r.elim
  | cons e es =>
   obtain⟨⟨t,hk⟩,hv,hr⟩:=r
   obtain⟨r,h1,h2⟩:=ih nm hr
   unfold S8 at h1 ⊢
   rw[List.find?_cons,Ru,show e.key.isStr nm=(k==nm) by rw[hk];rfl]
   by_cases q:k=nm
   ·subst q
    rw[beq_self_eq_true]
    exact⟨_,rfl,hv⟩
   ·rw[beq_false_of_ne q,beq_false_of_ne λe=>q e.symm]
    dsimp only
    rw[show(e::es).any (·.refKey)=es.any (·.refKey) by rw[List.any_cons];simp[DictEntry.refKey,hk]]
    exact⟨r,h1,h2⟩
theorem pQ(R:Rel0 B P ρ st s){k d:Nat}{C x:Addr}{fs:List (Str×V)}(hk:ρ[k]?=some x)(h1:st.σ[k]?=some (.inst C d))(h2:st.σ[d]?=some (.attrs fs)) :
  ∃dx es n,ρ[d]?=some dx/\s.heap.get? dx=some (dictOf es n)/\lb ρ fs es/\InstAt s.heap x (instObj C dx) C (some (dictOf es n)):=by
 obtain⟨dx,hd,e⟩:=R.obj k x _ hk h1
 obtain⟨es,n,e',q⟩:=R.obj d dx _ hd h2
 exact⟨dx,es,n,hd,e',q,e,rfl,rfl,e'⟩
noncomputable def mG{β:Type}(C:Addr)(x:V)(f:Nat->Nat->List (Str×V)->M β):M β:=eA x λk=>oO k (Bz λc d=>if c=C then oO d (xg (f k d))else av)
theorem p6{β:Type}{D:Prop}{C:Addr}{x:V}{f:Nat->Nat->List (Str×V)->M β}{r:β×St}(h:mG C x f st=some r)(c:∀k d fs,x=.ref k->st.σ[k]?=some (.inst C d)->st.σ[d]?=some (.attrs fs)->f k d fs st=some r->D):D :=
 lT h λk e1 h=>bS h λo ho h=>tH h λC' d e2 h=>aG h λe3 h=>bS h λo' ho' h=>sr h λfs e4 h=>c k d fs e1 (by rw[ho,e2,e3]) (by rw[ho',e4]) h
theorem fR{β:Type}{D:Prop}{C:Addr}{x:V}{v:OT}{f:Nat->Nat->List (Str×V)->M β}{r:β×St}(q:aU ρ x v)(h:mG C x f st=some r)(c:∀k d fs a,x=.ref k->v=.ref a->ρ[k]?=some a->st.σ[k]?=some (.inst C d)->st.σ[d]?=some (.attrs fs)->f k d fs st=some r->D):D :=
 p6 h λk d fs e1 h1 h2 h3=>by subst e1;obtain⟨a,ha,e⟩:=q;exact c k d fs a rfl e ha h1 h2 h3
noncomputable def cE(C:Addr)(nm:Str)(m:M V):M V:=ao m λx=>mG C x λu u fs=>dz (fs.lookup nm) λv=>if qe v=true then aa v else av
structure gT(B:bc)(K:Frag)(C:Addr):Prop where
 inn:K.In B.h₀
 get:findIn K (.ref C) "__getattribute__"=some (some (.builtin "object.__getattribute__"))/\findIn K (.ref C) "__getattr__"=some none
 set:findIn K (.ref C) "__setattr__"=some (some (.builtin "object.__setattr__"))
 dict:hasDictIn K C=true
 over:plainOver K C=true
theorem gT.plain{K:Frag}{C:Addr}(X:gT B K C)(nm:Str):plainGet K C nm=true:=by
 unfold plainGet;rw[X.get.1,X.get.2];rfl
theorem ka{K:Frag}{C x:Addr}{k d:Nat}{fs:List (Str×V)}{nm:Str}{v:V}{Q:OT->OX->Prop}{E:OT->OX->Prop}{expr:Bool}(OK:B.Ok)(X:gT B K C)(hf:findIn K (.ref C) nm=some none)(R:bB B P ρ st s)(hk:ρ[k]?=some x)
  (h1:st.σ[k]?=some (.inst C d)) (h2:st.σ[d]?=some (.attrs fs)) (hl:fs.lookup nm=some v) (hr:qe v=true)
  (h:∀u,aU ρ v u->Q u { s with toks:=s.toks+1 }):Ph (model B.prog B.w) A (getAttr (.ref x) nm expr) Q E s:=by
 obtain⟨dx,es,n,hd,e,q,I⟩:=pQ R.toRel0 hk h1 h2
 obtain⟨m,F⟩:=R.fr
 obtain⟨r,g1,g2⟩:=mx nm q
 rw[hl]at g2
 cases r with
 | none=>exact g2.elim
 | some u=>exact get_own F X.inn I (X.plain nm) X.dict hf (by rfl) g1 (vY hr g2) (h u g2)
theorem GR(OK:B.Ok){K:Frag}{C:Addr}(X:gT B K C){o:OQ}{nm:Str}{pos:Pos}{m:M V}(hf:findIn K (.ref C) nm=some none)(ho:aR B P n o m)
  (he:eval (.Attribute o nm pos) P.env=(do
   let ov <- eval o P.env
   standAt pos.atName
   let r <- holding [ov] (getAttr ov nm true)
   letTemporaryGo o ov r
   pure r)):aR B P n (.Attribute o nm pos) (cE C nm m):=by
 intro A hA ρ st s R y st' hm Q E h
 refine ae hm λx st1 e1 e2=>?_
 refine SE (ho A hA ρ st s R x st1 e1 _ _ λv ρ1 s₁ r1 R1 G₁=>?_) he
 refine fR r1 e2 λk d fs a l e ha h1 h2 e3=>aX e3 λz hz e4=>aG e4 λhr e5=>?_
 clear hm e1 e2 e3 e4 r1
 subst e;obtain⟨rfl,rfl⟩:=pj e5
 exact ka OK X hf R1 ha h1 h2 hz hr λu ru=>h u ρ1 _ ru ⟨R1.toks OK _,PN 1 _⟩ (G₁.trans (aW.toks _))
theorem lN{o:OQ}{name:Str}{apos pos:Pos}{args:List OQ}{env:Env}{Q:OT->OX->Prop}{E:OT->OX->Prop}
  (hbase:attributeBase o name env (eval o env)=eval o env)
  (hfew:((backTo pos (Pb args env)).all (λx=> !x.1)&&(backToKw pos (keywordEach [] env)).all (λx=>x.1.isSome)
   &&decide (args.length+([]:List Keyword).length+(if ([]:List Keyword).isEmpty then 0 else 1)<30))=true)
  (hline:(apos.endLine==pos.line)=true)
  (h:Ph (model B.prog B.w) A (eval o env) (λov s₁=>∀pl,Ph (model B.prog B.w) A (getMethod ov name pl) (λfa s2=>Ph (model B.prog B.w) A (callWith pos fa.1 fa.2 (backTo pos (Pb args env)) []) Q E s2) E s₁) E s) :
  Ph (model B.prog B.w) A (eval (.Call (.Attribute o name apos) args [] pos) env) Q E s:=by
 rw[arm_eval_Call,hbase]
 refine OR (wpAny_mono h (λov s₁ h1=>?_) λu u e=>e)
 refine OR (wpAny_standAt ?_)
 have hform:methodCallForm (args.length+([]:List Keyword).length) (backTo pos (Pb args env)) (backToKw pos (keywordEach [] env))=true:=hfew
 have hpos:methodCallPos true o env apos pos=pure pos:=by unfold methodCallPos;simp[hline]
 unfold methodCall
 rw[hform]
 refine OR (wpAny_holding (wpAny_mono (h1 _) (λfa s2 h2=>?_) λu u e=>e))
 exact OR (wpAny_of_eq hpos h2)
noncomputable def c9(C:Addr)(nm:Str)(mo:M V)(ms:M (List V))(f:List V->M V):M V:=ao mo λx=>mG C x λu u fs=>if fs.lookup nm=none then ao ms (λxs=>f (x::xs))else av
theorem uo{K:Frag}{C g:Addr}{nm:Str}{k d:Nat}{a:Addr}{fs:List (Str×V)}{pl:Sem Bool}{Q:OT×List OT->OX->Prop}{E:OT->OX->Prop}(X:gT B K C)(hf:findIn K (.ref C) nm=some (some (.ref g)))(hfn:isFn K (.ref g)=true)(R:bB B P ρ st s)(ha:ρ[k]?=some a)
  (h1:st.σ[k]?=some (.inst C d)) (h2:st.σ[d]?=some (.attrs fs)) (hl:fs.lookup nm=none) (h:Q (.ref g,[.ref a]) s):Ph (model B.prog B.w) A (getMethod (.ref a) nm pl) Q E s:=by
 obtain⟨dx,des,dn,hd,ed,q,I⟩:=pQ R.toRel0 ha h1 h2
 obtain⟨m,F⟩:=R.fr
 obtain⟨r,g1,g2⟩:=mx nm q
 rw[hl]at g2
 cases r with
 | some u=>exact g2.elim
 | none=>exact method_inst F X.inn I (X.plain nm) hf hfn g1 h
theorem GY(OK:B.Ok)(hns:P.NoStore){K:Frag}{C g:Addr}{fd:PF}(X:gT B K C){o e:OQ}{es:List OQ}{nm:Str}{apos pos:Pos}{mo:M V}{ms:M (List V)}{f:List V->M V}(hf:findIn K (.ref C) nm=some (some (.ref g)))(hfn:isFn K (.ref g)=true)
  (O:cB B g fd) (hc:kB B n (.ref g) f) (ho:aR B P n o mo) (hs:mZ B P n pos (e::es) ms)
  (hbase:attributeBase o nm P.env (eval o P.env)=eval o P.env)
  (hfew:((backTo pos (Pb (e::es) P.env)).all (λx=> !x.1)&&(backToKw pos (keywordEach [] P.env)).all (λx=>x.1.isSome)
   &&decide ((e::es).length+([]:List Keyword).length+(if ([]:List Keyword).isEmpty then 0 else 1)<30))=true)
  (hline:(apos.endLine==pos.line)=true)
  (hst:Pb (e::es) P.env=(false,eval e P.env)::Pb es P.env):aR B P n (.Call (.Attribute o nm apos) (e::es) [] pos) (c9 C nm mo ms f):=by
 intro A hA ρ st s R y st' hm Q E h
 refine ae hm λx st1 e1 e2=>?_
 refine lN hbase hfew hline (ho A hA ρ st s R x st1 e1 _ _ λv ρ1 s₁ r1 R1 G₁ pl=>?_)
 refine fR r1 e2 λk d fs a u ev ha h1 h2 e3=>aG e3 λhl e4=>ae e4 λxs st2 e5 e6=>?_
 clear hm e1 e2 e3 e4
 obtain⟨og,eo,hdg⟩:=O.obj
 rw[ev]at r1 ⊢
 refine uo X hf hfn R1 ha h1 h2 hl (callWith_function (j0 hst (hs A hA ρ1 st1 s₁ R1 xs st2 e5 _ _ λvs ρ2 s2 r2 R2 G₂=>⟨⟨R2.kept _ _ eo,hdg⟩,?_⟩)))
 exact hc P hns A hA ρ2 st2 s2 (.ref a::vs) (x::xs) R2 ⟨r1.mono G₂.pre,r2⟩ y st' e6 Q E λc ρ3 s3 r3 R3 G₃=>h c ρ3 s3 r3 R3 (G₁.trans (G₂.trans G₃))
theorem DQ(OK:B.Ok)(hns:P.NoStore){K:Frag}{C g:Addr}{fd:PF}(X:gT B K C){o:OQ}{nm:Str}{apos pos:Pos}{mo:M V}{f:List V->M V}(hf:findIn K (.ref C) nm=some (some (.ref g)))(hfn:isFn K (.ref g)=true)
  (O:cB B g fd) (hc:kB B n (.ref g) f) (ho:aR B P n o mo)
  (hbase:attributeBase o nm P.env (eval o P.env)=eval o P.env)
  (hline:(apos.endLine==pos.line)=true):aR B P n (.Call (.Attribute o nm apos) [] [] pos) (c9 C nm mo am f):=by
 intro A hA ρ st s R y st' hm Q E h
 refine ae hm λx st1 e1 e2=>?_
 refine lN hbase rfl hline (ho A hA ρ st s R x st1 e1 _ _ λv ρ1 s₁ r1 R1 G₁ pl=>?_)
 refine fR r1 e2 λk d fs a u ev ha h1 h2 e3=>aG e3 λhl e4=>ae e4 λxs st2 e5 e6=>?_
 obtain⟨rfl,rfl⟩:=pj e5
 clear hm e1 e2 e3 e4
 obtain⟨og,eo,hdg⟩:=O.obj
 rw[ev]at r1 ⊢
 refine uo X hf hfn R1 ha h1 h2 hl (callWith_function (evalArgs_none ⟨⟨R1.kept _ _ eo,hdg⟩,?_⟩))
 exact hc P hns A hA ρ1 st1 s₁ [.ref a] [x] R1 ⟨r1,trivial⟩ y st' e6 Q E λc ρ3 s3 r3 R3 G₃=>h c ρ3 s3 r3 R3 (G₁.trans G₃)
theorem Dc{prog:Program}{w:Pt}{K:Frag}{x C dx:Addr}{ox:Obj}{es:List Qj}{dn:Nat}{name:Str}{t:Tok}{v:OT}{R:Result->OX->Prop}(X:K.In s.heap)(I:InstAt s.heap x ox C (some (dictOf es dn)))(hd:ox.dict=some dx)
  (hp:plainOver K C=true) (ht:takerIn K C name=some none) (hh:hasDictIn K C=true) (hl:(S8 name es).isSome=true) (D:s.heap.get? dx=some (dictOf es dn)) {hsh:Int} (ehsh:hsh=Sb w.params name)
  (hz:(putL name hsh (.str name s.toks) v es).length<=1000)
  (h:R (.ok (.ret .none)) { s with heap:=s.heap.update dx (Tn name hsh (.str name s.toks) v),toks:=s.toks+1 }) :
  codeAny (model prog w) A (.call (.builtin "object.__setattr__") ⟨[.ref x,.str name t,v],[]⟩) R s:=by
 refine osa_open X I hp ht λb=>?_
 obtain⟨cd,hc,hd'⟩:=any_some hh
 have D':(s.heap.update dx (Tn name hsh (.str name s.toks) v)).get? dx=some (dictOf (putL name hsh (.str name s.toks) v es) (putN name es dn)):=by
  rw[Sh _ D (by rw[putName_dict];rfl),putName_dict]
 obtain⟨hx,hcl,hn,-⟩:=I
 obtain⟨oc,odi,oda,osl⟩:=ox
 dsimp only at hcl hd
 subst hcl hd ehsh
 refine OR (O3 (OR (OR (wpAny_loadPart hx (OR ((looks_clsIn X hc).here ?_))))))
 rw[hd']
 refine O3 (a:=some dx) (OR (O3 (OR ?_)))
 unfold nsSet
 refine OR (OR (wpAny_askSetting (O3 (OR (wpAny_mkText (OR (wpAny_loadPart D ?_)))))))
 dsimp only
 have c:(!es.toArray.any (·.key.isStr name)&&es.toArray.any (·.refKey))=false:=by
  rw[<- Array.any_toList,<- Array.any_toList]
  unfold S8 at hl
  split at hl
  ·rename_i en he
   rw[List.any_eq_true.mpr ⟨en,SR he,List.find?_some he⟩];rfl
  ·split at hl
   ·exact nc QH hl rfl
   ·rename_i z
    rw[Q5]at z
    have z':es.toArray.toList.any (·.refKey)=false:=by simpa using z
    rw[z',Bool.and_false]
 rw[aRefKeyMayBeTheName_at,c]
 refine wpAny_updatePart D ?_
 refine OR (wpAny_lookBehind D' (pastItsLine_dict (by rw[P1,sizeLine_eq];lia)) ?_)
 exact O3 h
noncomputable def nB(nm:Str)(v:V):List (Str×V)->List (Str×V)
 | []=>[(nm,v)]
 | (k,x)::r=>if k=nm then(k,v)::r else(k,x)::nB nm v r
theorem uH{nm:Str}{x:V}{v:OT}{hsh:Int}{t:Tok}(rv:aU ρ x v):∀{fs:List (Str×V)}{es:List Qj},lb ρ fs es->lb ρ (nB nm x fs) (putL nm hsh (.str nm t) v es)
 | [],[],_=>⟨⟨t,rfl⟩,rv,trivial⟩
 | [],_::_,h=>h.elim
 | _::_,[],h=>h.elim
 | (k,y)::fs,e::es,⟨⟨u,hk⟩,hv,hr⟩=>by
  unfold nB putL
  have hb:e.key.isStr nm=(k==nm):=by rw[hk];rfl
  rw[hb]
  by_cases q:k=nm
  ·rw[if_pos q,if_pos (by simpa using q)]
   exact⟨⟨u,hk⟩,rv,hr⟩
  ·rw[if_neg q,if_neg (by simpa using q)]
   exact⟨⟨u,hk⟩,hv,uH rv hr⟩
theorem Ap:∀{fs:List (Str×V)}{es:List Qj},lb ρ fs es->fs.length=es.length:=by
 intro fs
 induction fs with
 | nil=>intro es r;cases es<;>first | rfl | exact r.elim
 | cons x fs ih =>
  obtain⟨n,x⟩:=x
  intro es r
  cases es with
  | nil=>exact r.elim
  | cons e es=>exact congrArg Nat.succ (ih r.2.2)
theorem n9{K:Frag}{C x:Addr}{k d:Nat}{fs:List (Str×V)}{nm:Str}{y:V}{v:OT}{Q:Unit->OX->Prop}{E:OT->OX->Prop}(OK:B.Ok)(X:gT B K C)(hf:findIn K (.ref C) nm=some none)(R:bB B P ρ st s)(hk:ρ[k]?=some x)
  (h1:st.σ[k]?=some (.inst C d)) (h2:st.σ[d]?=some (.attrs fs)) (hlen:fs.length<=100) (rv:aU ρ y v)
  (h:∀s',bB B P ρ ⟨st.σ.set d (.attrs (nB nm y fs)),st.L⟩ s'->aW B P ρ s ρ s'->Q () s'):Ph (model B.prog B.w) A (setAttr (.ref x) nm v) Q E s:=by
 obtain⟨dx,es,dn,hd,e,q,I⟩:=pQ R.toRel0 hk h1 h2
 obtain⟨r,g1,g2⟩:=mx nm q
 have hin:K.In s.heap:=X.inn.keeps R.kept
 have hes:es.length<=100:=by rw[<- Ap q];exact hlen
 have hput:∀(hsh:Int)(key v:OT),(putL nm hsh key v es).length<=1000:=λhsh key v=>by
  have:∀es:List Qj,(putL nm hsh key v es).length<=es.length+1:=λes=>by
   induction es with
   | nil=>exact O8 _
   | cons a r ih =>
    unfold putL
    split
    ·exact QK _
    ·exact Qt ih
  have:=this es;lia
 refine set_plain (K:=K) hin I X.set (Dc (s:={ s with toks:=s.toks+1 }) hin I rfl X.over (by unfold takerIn;rw[hf];rfl) X.dict (by rw[g1];rfl) e rfl (hput _ _ _) ?_)
 have D':(s.heap.update dx (Tn nm (Sb B.w.params nm) (.str nm (s.toks+1)) v)).get? dx=some (dictOf (putL nm (Sb B.w.params nm) (.str nm (s.toks+1)) v es) (putN nm es dn)):=by
  rw[Sh _ e (by rw[putName_dict];rfl),putName_dict]
 have hkk:∀b o,b≠dx->s.heap.get? b=some o->(s.heap.update dx (Tn nm (Sb B.w.params nm) (.str nm (s.toks+1)) v)).get? b=some o:=λb o hb eb=>((QP s.heap dx _).2 b hb).trans eb
 exact h _ ⟨R.toRel0.set OK hd (λv=>by rw[h2];simp) hkk ⟨_,_,D',uH rv q⟩ ⟨_,D',by simp⟩ rfl rfl,PN 1 _⟩ ⟨bk.set hd hkk,Qc (Qw _ _ _).symm⟩
noncomputable def L4(C:Addr)(nm:Str)(x v:V):M Fl:=mG C x λu d fs=>if fs.length<=100 then wv d (.attrs (nB nm v fs)) .next else av
noncomputable def gb(C:Addr)(nm:Str)(mv mo:M V):M Fl:=ao mv λv=>ao mo λx=>L4 C nm x v
theorem wF(OK:B.Ok){K:Frag}{C:Addr}(X:gT B K C){o e:OQ}{nm:Str}{p pos:Pos}{mv mo:M V}(hf:findIn K (.ref C) nm=some none)(hv:aR B P n e mv)(ho:aR B P n o mo)
  (hs:swapsWith e (some (.Attribute o nm p)) pos.line P.env=pure false):i7 B P n (.Assign [.Attribute o nm p] e pos) (gb C nm mv mo):=by
 intro A hA ρ st s R y st' hm Q E h
 refine ae hm λv st1 e1 e2=>?_
 refine ae e2 λx st2 e3 e4=>?_
 refine plainObj_wpAny_Assign_Attribute (hv A hA ρ st s R v st1 e1 _ _ λa ρ1 s₁ r1 R1 G₁=>ho A hA ρ1 st1 s₁ R1 x st2 e3 _ _ λb ρ2 s2 r2 R2 G₂=>?_) hs
 refine fR r2 e4 λk d fs x u e hx h1 h2 e5=>aG e5 λhl e6=>?_
 clear hm e1 e2 e3 e4 e5 r2
 subst e;obtain⟨rfl,rfl⟩:=pj e6
 exact n9 OK X hf R2 hx h1 h2 hl (r1.mono G₂.pre) λs3 R3 G₃=>h _ ρ2 s3 rfl R3 (G₁.trans (G₂.trans G₃))
noncomputable def mz(x y:V):M V:=match x with
 | .int a=>bI y λb=>aa (.int (a+b))
 | .str a=>gw y λb=>if a.length+b.length<=1000000 then aa (.str (a++b))else av
 | _=>av
theorem sU(OK:B.Ok):cQ B P n (inplaceOp .Add) mz:=by
 intro A hA ρ st s a b x y R ra rb z st' hm Q E h
 refine tk R h ?_;clear h;intro Q E h
 cases x with
 | int i=>refine bG rb hm λj u e hm=>?_;obtain⟨t,rfl⟩:=ra;subst e;obtain⟨rfl,rfl⟩:=pj hm;exact PyProof.Rows.iadd_int (R.done OK h ⟨_,rfl⟩)
 | str i =>
  refine cy rb hm λj u e hm1=>aG hm1 λhs hm2=>?_
  clear hm hm1
  obtain⟨t,rfl⟩:=ra;subst e;obtain⟨rfl,rfl⟩:=pj hm2
  have hz:sizeLine=16777216:=sizeLine_eq
  exact PyProof.Rows.iadd_str (λt' tk=>R.done OK h ⟨_,rfl⟩) (by omega)
 | _=>exact nO hm
noncomputable def ol(i:Nat)(f:V->V->M V)(m:M V):M Fl:=ao (getL i) λx=>ao m λy=>ao (f x y) λz=>ao (setL i z) λu=>aa .next
theorem J5(OK:B.Ok)(hP:P.Ok){i:Nat}{nm:Str}{op:Operator}{e:OQ}{p pos:Pos}{m:M V}{f:V->V->M V}(hop:cQ B P n (inplaceOp op) f)(hn:P.names[i]?=some (some nm))(he:aR B P n e m)
  (hf:(P.env.kindOf nm==some .free)=false):i7 B P n (.AugAssign (.Name nm p) op e pos) (ol i f m):=by
 intro A hA ρ st s R y st' hm Q E h
 refine ae hm λx st1 e1 e2=>?_
 refine ae e2 λz st2 e3 e4=>?_
 refine ae e4 λr st3 e5 e6=>?_
 obtain⟨rfl,rfl⟩:=pj e6
 refine iO e1 λx' hx e=>?_
 obtain⟨rfl,rfl⟩:=PZ e
 refine wpAny_AugAssign_Name (pW hP R hn hx λv r=>he A hA ρ _ s R z st2 e3 _ _ λu ρ1 s₁ r1 R1 G₁=>?_)
 refine hop A hA ρ1 st2 s₁ v u _ z R1 (r.mono G₁.pre) r1 _ st3 e5 _ _ λw ρ2 s2 r2 R2 G₂=>?_
 exact eu OK hP R2 hn hf r2 λs3 R3 G₃=>h _ ρ2 s3 rfl R3 (G₁.trans (G₂.trans G₃))
noncomputable def pi(C:Addr)(nm:Str)(f:V->V->M V)(mo mv:M V):M Fl:=ao mo λx=>mG C x λk u fs=>dz (fs.lookup nm) λv=>if qe v=true then ao (ao mv λy=>f v y) (L4 C nm (.ref k))else av
theorem wz(OK:B.Ok){K:Frag}{C:Addr}(X:gT B K C){o e:OQ}{nm:Str}{op:Operator}{p pos:Pos}{mv mo:M V}{f:V->V->M V}(hop:cQ B P n (inplaceOp op) f)(hf:findIn K (.ref C) nm=some none)(ho:aR B P n o mo)(hv:aR B P n e mv) :
  i7 B P n (.AugAssign (.Attribute o nm p) op e pos) (pi C nm f mo mv):=by
 intro A hA ρ st s R y st' hm Q E h
 refine ae hm λx st1 e1 e2=>?_
 refine wpAny_AugAssign_AttributeAny (ho A hA ρ st s R x st1 e1 _ _ λa ρ1 s₁ r1 R1 G₁=>?_)
 refine fR r1 e2 λk d fs xa m e hx h1 h2 e3=>aX e3 λv0 hz e4=>aG e4 λhr e5=>ae e5 λz st2 e6 e7=>ae e6 λy' st3 e8 e9=>?_
 clear hm e1 e2 e3 e4 e5 e6 r1
 subst e
 refine ka OK X hf R1 hx h1 h2 hz hr λu ru=>?_
 have R2:bB B P ρ1 st1 { s₁ with toks:=s₁.toks+1 }:=⟨R1.toks OK _,PN 1 _⟩
 refine hv A hA ρ1 st1 _ R2 y' st3 e8 _ _ λw ρ2 s2 r2 R2 G₂=>hop A hA ρ2 st3 s2 u w _ y' R2 (ru.mono G₂.pre) r2 z st2 e9 _ _ λt ρ3 s3 r3 R3 G₃=>?_
 refine p6 e7 λk' d₁ fs1 ek g1 g2 f1=>aG f1 λhl f2=>?_
 obtain rfl:=V.ref.inj ek;obtain⟨rfl,rfl⟩:=pj f2
 exact n9 OK X hf R3 (bP G₃.pre (bP G₂.pre hx)) g1 g2 hl r3 λs4 R4 G₄=>h _ ρ3 s4 rfl R4 (G₁.trans ((aW.toks _).trans (G₂.trans (G₃.trans G₄))))
noncomputable def vJ(C:Addr)(nm:Str)(g:Addr)(mo:M V):M V:=ao mo λx=>mG C x λk u fs=>if fs.lookup nm=none then gU (.bound (.ref k) g)else av
theorem DH(OK:B.Ok){K:Frag}{C g:Addr}(X:gT B K C){o:OQ}{nm:Str}{pos:Pos}{m:M V}(hf:findIn K (.ref C) nm=some (some (.ref g)))(hty:typeIn K (.ref g)=some (.type "function"))
  (hget:specialIn K (.ref g) "__get__"=some (some (.builtin "function.__get__"))) (htk:takesIn K (.ref g)=some false) (hcn:copiedNames.contains nm=false) (ho:aR B P n o m)
  (he:eval (.Attribute o nm pos) P.env=(do
   let ov <- eval o P.env
   standAt pos.atName
   let r <- holding [ov] (getAttr ov nm true)
   letTemporaryGo o ov r
   pure r)):aR B P n (.Attribute o nm pos) (vJ C nm g m):=by
 intro A hA ρ st s R y st' hm Q E h
 refine ae hm λx st1 e1 e2=>?_
 refine SE (ho A hA ρ st s R x st1 e1 _ _ λv ρ1 s₁ r1 R1 G₁=>?_) he
 refine fR r1 e2 λk d fs a l e ha h1 h2 e3=>aG e3 λhl e4=>?_
 clear hm e1 e2 e3 r1
 subst e;obtain⟨rfl,rfl⟩:=pj e4
 obtain⟨dx,es,dn,hd,e,q,I⟩:=pQ R1.toRel0 ha h1 h2
 obtain⟨r,g1,g2⟩:=mx nm q
 rw[hl]at g2
 cases r with
 | some u=>exact g2.elim
 | none =>
  have hin:K.In s₁.heap:=X.inn.keeps R1.kept
  obtain⟨cd,hcd,hdd⟩:=any_some X.dict
  refine get_bind hin I X.get.1 (g:=.builtin "function.__get__") (a:=.ref g) ?_ X.get.2 ?_
  ·have go:ownOf cd (some (dictOf es dn)) nm=some none:=by delta ownOf;rw[if_pos hdd];exact g1
   show(clsIn K C).bind _=_
   rw[hcd]
   show(findIn K (.ref C) nm).bind _=_
   rw[hf]
   show(specialIn K (.ref g) "__get__").bind _=_
   rw[hget]
   show(takesIn K (.ref g)).bind _=_
   rw[htk]
   show(ownOf cd (some (dictOf es dn)) nm).bind _=_
   rw[go]
   show(if (copiedNames.contains nm&&_)=true then none else _)=_
   rw[hcn]
   rfl
  ·refine wpAny_call (fn_get (s:={ s₁ with toks:=s₁.toks+1 }) hin hty (handed_on rfl ?_))
   have R2:bB B P ρ1 st1 { s₁ with toks:=s₁.toks+1 }:=⟨R1.toks OK _,PN 1 _⟩
   refine R2.newAllocT (o:=.bound (.ref _) g) OK (λv ρ' s' r' R' G'=>h v ρ' s' r' R' (G₁.trans ((aW.toks _).trans G'))) rfl (by simp) λρ' hp l=>?_
   exact⟨_,Pd _ rfl,a,bP hp ha,rfl⟩
theorem rg:entryFor table "iter"=some Builtin.«iter» := entryFor_of_tree (by kernel_rfl)
theorem uc:builtinKind "iter"=none:=by decide+kernel
theorem rM:plainId "iter"=true:=by decide+kernel
theorem zH(a:OT):argsOk "iter" ⟨[a],[]⟩:=by unfold argsOk;kernel_rfl
theorem zI(a b:OT):argsOk "iter" ⟨[a,b],[]⟩:=by unfold argsOk;kernel_rfl
theorem un:∃v,typeLookup (.type "method") "__call__"=pure (some v):=by
 refine⟨.builtin "method.__call__",?_⟩
 rw[typeLookup_type,builtinLookup_eq_fast];kernel_rfl
noncomputable def ua(xs:List V):M V:=if xs.length=1 then A7 xs λx=>eA x λk=>cj k λu=>gU (.listIter k 0)else H7 xs λx y=>eA x λk=>gw y λy=>oO k (i8 λu u=>gU (.callIter (.ref k) (.str y) false))
theorem xf(OK:B.Ok):bL B P n (.builtin "iter") ua:=by
 intro A hA ρ st s vs xs R r y st' hm Q E h
 unfold ua at hm
 by_cases hl:xs.length=1
 ·rw[if_pos hl]at hm
  refine eQ r hm λx v e r1 hm1=>bH r1 hm1 λk a e2 ha hm2=>a5 R ha hm2 λys us m hx e5 q l hm3=>?_
  clear hm hm1 hm2 r hl
  subst e;subst e2;obtain⟨rfl,rfl⟩:=pj hm3
  refine QU uc rM rg (zH _) ?_
  unfold Builtin.«iter»
  refine OR (m:=someArgs "iter" 1 2 _) (O3 (OR (wpAny_pyIter_list (oz e5) (O3 ⟨_,rfl,?_⟩))))
  exact R.newAllocT (o:=.listIter _ 0) OK h rfl (by simp) λρ' hp l=>⟨a,bP hp ha,Pd _ rfl⟩
 ·rw[if_neg hl]at hm
  refine ie r hm λx y v u e r1 r2 hm1=>bH r1 hm1 λk a e2 ha hm2=>cy r2 hm2 λg t e3 hm3=>bS hm3 λo hx hm4=>i9 hm4 λsf f e4 hm5=>?_
  clear hm hm1 hm2 hm3 hm4 r hl
  subst e;subst e2;subst e3;subst e4;obtain⟨rfl,rfl⟩:=pj hm5
  obtain⟨vs,e5,q⟩:=R.obj _ a _ ha hx
  obtain⟨c,hc⟩:=un
  refine QU uc rM rg (zI _ _) ?_
  unfold Builtin.«iter»
  refine OR (m:=someArgs "iter" 1 2 _) (O3 (OR (wpAny_specialOf (T:="method") ⟨_,e5,rfl⟩ hc (OR (wpAny_rule (OR (wpAny_newObj_type (O3 ⟨_,rfl,?_⟩) (by size_fits))))))))
  exact R.newAllocT (o:=.callIter (.ref _) (.str _) false) OK h rfl (by simp) λρ' hp l=>⟨_,_,Pd _ rfl,λl=>⟨⟨a,bP hp ha,rfl⟩,⟨t,rfl⟩⟩⟩
noncomputable def Af(C:Addr)(f:List V->M V)(xs:List V):M V:=λst=>(f (.ref (st.σ.length+1)::xs) ⟨st.σ++[.attrs []]++[.inst C st.σ.length],st.L⟩).bind λp=>if p.1=.none then some (.ref (st.σ.length+1),p.2)else none
theorem Ke(OK:B.Ok)(hns:P.NoStore){K:Frag}{C g:Addr}(X:gT B K C)(hm:makesIn K C=true)(hk:keepIn K (.ref C)=true)(hi:findIn K (.ref C) "__init__"=some (some (.ref g)))(hfn:typeIn K (.ref g)=some (.type "function"))
  {nm:Str} {p pos:Pos} {e:OQ} {es:List OQ} {ms:M (List V)} {f:List V->M V} (hn:aR B P (n+1) (.Name nm p) (aa (.glob (.ref C)))) (hs:mZ B P (n+1) pos (e::es) ms) (hc:aQ B n (.ref g) f)
  (hst:Pb (e::es) P.env=(false,eval e P.env)::Pb es P.env) (hpl:(backTo pos (Pb es P.env)).any (·.1)=false):aR B P (n+1) (.Call (.Name nm p) (e::es) [] pos) (bO ms (Af C f)):=by
 intro A hA ρ st s R y st' hm' Q E h
 refine ae hm' λxs st1 e1 e2=>?_
 have hd0:=hA.depth
 have hu0:=hA.units
 refine wpAny_Call_NameR (hn A hA ρ st s R _ _ rfl _ _ λv ρ0 s₀ r0 R0 G₀=>?_)
 obtain rfl:v=_:=r0
 refine callWith_K (h₀:=B.h₀) X.inn hk (hs A hA ρ0 st s₀ R0 xs st1 e1 _ _ λvs ρ1 s₁ r1 R1 G₁=>⟨X.inn.keeps R1.kept,?_⟩) hst hpl
 have hin:K.In s₁.heap:=X.inn.keeps R1.kept
 refine aV e2 λp e3 e4=>eL e4 λep e5=>?_
 clear hm' e1 e2 e4
 obtain⟨pv,st2⟩:=p
 obtain rfl:=ep;obtain⟨rfl,rfl⟩:=pj e5
 show Ph _ A (call (.ref C) ([]++vs)) Q E s₁
 rw[Te]
 obtain⟨hh,gg,dd,tk,os⟩:=s₁
 refine wpAny_call (make_core (makes_of hin hm) (looks_findIn hin hi) (λself=>bind_fn hin self hfn) (.inl rfl) ?_)
 have R2:bB B P (ρ1++[hh.objs.size]) ⟨st1.σ++[.attrs []],st1.L⟩ ⟨hh.push emptyDict,gg,dd,tk,os⟩ :=
  ⟨R1.toRel0.push OK (λb o e=>Pj _ e) (O8 _) ⟨[],0,Pd _ rfl,trivial⟩ ⟨_,Pd _ rfl,by simp⟩ rfl rfl,R1.tpos⟩
 have hsz:(hh.push emptyDict).objs.size=hh.objs.size+1:=PP _ _
 have R3:bB B P (ρ1++[hh.objs.size]++[(hh.push emptyDict).objs.size]) ⟨st1.σ++[.attrs []]++[.inst C st1.σ.length],st1.L⟩ ⟨(hh.push emptyDict).push (instObj C hh.objs.size),gg,dd,tk,os⟩ :=
  ⟨R2.toRel0.push OK (λb o e=>Pj _ e) (O8 _) ⟨_,by rw[<- R1.len];simp,Pd _ rfl⟩ ⟨_,Pd _ rfl,by simp⟩ rfl rfl,R1.tpos⟩
 have G₃:aW B P ρ1 ⟨hh,gg,dd,tk,os⟩ (ρ1++[hh.objs.size]++[(hh.push emptyDict).objs.size]) ⟨(hh.push emptyDict).push (instObj C hh.objs.size),gg,dd,tk,os⟩ :=
  aW.trans (ρ':=ρ1++[hh.objs.size]) (s':=⟨hh.push emptyDict,gg,dd,tk,os⟩) ⟨bk.push (λb o e=>Pj _ e) (O8 _),by show hh.objs.size<=(hh.push emptyDict).objs.size;lia⟩
   ⟨bk.push (λb o e=>Pj _ e) (O8 _),Pq (by show _<((hh.push emptyDict).push (instObj C hh.objs.size)).objs.size;rw[PP (hh.push emptyDict)];exact PR _)⟩
 have hA':iZ P n (A.under (.builtin "type.__call__" ⟨.ref C::vs,[]⟩)) :=
  ⟨by unfold Around.under;dsimp only;rw[hA.frames];rfl,hA.handled,by show A.depth+1+n<=800;lia,by show A.units+1+10*n<=9000;lia⟩
 have hk1:(ρ1++[hh.objs.size]++[(hh.push emptyDict).objs.size])[st1.σ.length+1]?=some (hh.objs.size+1):=by
  rw[Pi (by simp[R1.len])]
  simp[R1.len,hsz]
 refine hc P hns _ hA' _ _ _ (.ref (hh.objs.size+1)::vs) (.ref (st1.σ.length+1)::xs) R3 ⟨⟨_,hk1,rfl⟩,r1.mono G₃.pre⟩ _ _ e3 _ λv ρ4 s4 rv R4 G₄=>?_
 obtain rfl:v=_:=rv
 exact⟨rfl,h _ ρ4 s4 ⟨_,bP G₄.pre hk1,rfl⟩ R4 (G₀.trans (G₁.trans (G₃.trans G₄)))⟩
noncomputable def Ow{β:Type}(xs:List V)(f:V->V->V->M β):M β:=match xs with | [a,b,c]=>f a b c | _=>av
theorem GA{β:Type}{C:Prop}{xs:List V}{vs:List OT}{f:V->V->V->M β}{r:β×St}(q:aL ρ xs vs)(h:Ow xs f st=some r)(c:∀x y z u v w,vs=[u,v,w]->aU ρ x u->aU ρ y v->aU ρ z w->f x y z st=some r->C):C:=by
 cases xs with
 | nil=>exact nO h
 | cons x xs=>cases vs with
  | nil=>exact q.elim
  | cons v vs=>exact ie (f:=f x) q.2 (by cases xs with
   | nil=>exact nO h
   | cons y ys=>cases ys with
    | nil=>exact nO h
    | cons z zs=>cases zs with
     | nil=>exact h
     | cons _ _=>exact nO h) λy z u w e r1 r2 h=>c x y z v u w (e▸rfl) q.1 r1 r2 h
noncomputable def mM(lo hi:Option Int)(xs:List V):Option (List V):=match lo,hi with
 | some a,none=>if 0<=a/\a<=xs.length then some (xs.drop a.toNat)else none
 | none,some b=>if 0<=b/\b<=xs.length then some (xs.take b.toNat)else none
 | some a,some b=>if 0<=a/\a<=b/\b<=xs.length then some ((xs.drop a.toNat).take (b - a).toNat)else none
 | none,none=>none
noncomputable def cr:M (Option Int):=aa none
noncomputable def bU(m:M V):M (Option Int):=ao m λx=>bI x λi=>aa (some i)
noncomputable def xc(_:List Addr)(x:Option Int)(v:OT):Prop:=IsPart v x
noncomputable abbrev kD(B:bc)(P:Fc)(n:Nat)(e:Option OQ)(m:M (Option Int)):Prop:=oi B P n (evalPart e P.env) xc m
theorem uU:kD B P n none cr:=by
 intro A hA ρ st s R y st' hm Q E h
 obtain⟨rfl,rfl⟩:=ai hm
 exact O3 (h _ ρ s .none R aW.refl)
theorem uV{e:OQ}{m:M V}(he:aR B P n e m):kD B P n (some e) (bU m):=by
 intro A hA ρ st s R y st' hm Q E h
 refine ae hm λx st1 e1 e2=>?_
 refine he A hA ρ st s R x st1 e1 _ _ λv ρ1 s₁ r1 R1 G₁=>bG r1 e2 λi t e e3=>?_
 clear hm e1 e2 r1
 subst e;obtain⟨rfl,rfl⟩:=pj e3
 exact h _ ρ1 s₁ (.int _ _) R1 G₁
noncomputable def eG(m:M V)(lo hi:M (Option Int)):M V:=ao m λx=>ao lo λa=>ao hi λb=>eA x λk=>cj k λxs=>if xs.length<=1000000 then dz (mM a b xs) λys=>gU (.list ys)else av
theorem uZ{lo hi:Option Int}{xs ys:List V}{vs:Array OT}(h:mM lo hi xs=some ys)(r:aL ρ xs vs.toList):aL ρ ys (slicePick vs lo hi none).toList:=by
 have hl:xs.length=vs.size:=r.length
 cases lo with
 | none=>cases hi with
  | none=>exact nO h
  | some b =>
   refine eL h λhb h=>?_
   obtain rfl:=sj h
   obtain⟨k,rfl⟩:=QL hb.1
   rw[slicePick_upto vs k (by lia)]
   exact r.take k
 | some a=>cases hi with
  | none =>
   refine eL h λhb h=>?_
   obtain rfl:=sj h
   obtain⟨k,rfl⟩:=QL hb.1
   rw[slicePick_from vs k (by lia)]
   exact r.drop k
  | some b =>
   refine eL h λhb h=>?_
   obtain rfl:=sj h
   obtain⟨k,rfl⟩:=QL hb.1
   obtain⟨j,rfl⟩:=QL (Int.le_trans hb.1 hb.2.1)
   rw[slicePick_run vs k j (by lia) (by lia),show((k:Nat):Int).toNat=k from rfl,show(((j:Nat):Int) - (k:Nat)).toNat=j - k by lia]
   exact(r.drop k).take _
theorem rU{value:OQ}{lower upper:Option OQ}{p pos:Pos}{T id:String}{prog:Program}{w:Pt}{env:Env}{s:OX}{E:OT->OX->Prop}{Q:OT->OX->Prop}(hl:typeLookup (.type T) "__getitem__"=pure (some (.builtin id)))
  (h:Ph (model prog w) A (eval value env) (λo s₁=>Ph (model prog w) A (evalPart lower env) (λvl s2=>Ph (model prog w) A (evalPart upper env) (λvu s3=>(s3.heap.push { cls:=.type "slice",data:=.fields #[vl,vu,.none] } |> λH=>({ s3 with heap:=H }:OX).TypeIs o T/\Ph (model prog w) A (getItem o (.ref s3.heap.objs.size)) Q E { s3 with heap:=H })) E s2) E s₁) E s) :
  Ph (model prog w) A (eval (.Subscript value (.Slice lower upper none p) pos) env) Q E s:=by
 rw[eval_Subscript]
 refine OR (wpAny_mono h (λo s₁ h1=>OR (wpAny_holding (wpAny_mono (Q:=λi s2=>s2.TypeIs o T/\Ph (model prog w) A (getItem o i) Q E s2) (wpAny_Slice (wpAny_mono h1 (λvl s2 h2=>wpAny_mono h2 (λvu s3 h3=>?_) λu u e=>e) λu u e=>e)) (λi s2 h2=>OR (wpAny_standAt ?_)) λu u x=>x))) λu u x=>x)
 ·rw[evalPart_none]
  exact O3 h3
 ·have fin:Ph (model prog w) A (operate [i,o] (getItem o i)) (λr s3=>Ph (model prog w) A (letTemporaryGo value o r>>=λu=>pure r) Q E s3) E s2 :=
   wpAny_operating (wpAny_mono h2.2 (λr s3 h3=>OR (wpAny_letTemporaryGo (O3 h3))) λu u x=>x)
  refine OR ?_
  rw[getitemInPython_of_ne h2.1.not_modules]
  refine OR (wpAny_specialOf h2.1 hl ?_)
  first
   | exact O3 (OR fin)
   | exact OR (O3 (OR fin))
   | exact OR fin
theorem DY(OK:B.Ok){value:OQ}{lower upper:Option OQ}{p pos:Pos}{m:M V}{lo hi:M (Option Int)}(hv:aR B P n value m)(hlo:kD B P n lower lo)(hhi:kD B P n upper hi):aR B P n (.Subscript value (.Slice lower upper none p) pos) (eG m lo hi):=by
 intro A hA ρ st s R y st' hm Q E h
 refine ae hm λx st1 e1 e2=>?_
 refine ae e2 λa st2 e3 e4=>?_
 refine ae e4 λb st3 e₅ e6=>?_
 refine rU (T:="list") list_getitem_lookup (hv A hA ρ st s R x st1 e1 _ _ λv ρ1 s₁ r1 R1 G₁=>hlo A hA ρ1 st1 s₁ R1 a st2 e3 _ _ λva ρ2 s2 ra R2 G₂=>hhi A hA ρ2 st2 s2 R2 b st3 e₅ _ _ λvb ρ3 s3 rb R3 G₃=>?_)
 refine bH r1 e6 λk l ev hl e7=>a5 R3 (bP G₃.pre (bP G₂.pre hl)) e7 λxs vs q hx e5 rq hlen e8=>aG e8 λhsz e9=>aX e9 λys hy e10=>?_
 clear hm e1 e2 e3 e4 e₅ e6 e7 e8 e9 r1
 subst ev;obtain⟨rfl,rfl⟩:=pj e10
 have hz:sizeLine=16777216:=sizeLine_eq
 refine⟨((oz e5).push _).typeIs,wpAny_getItem_list_slice ((oz e5).push _) (Ts ..) ra rb .none (by simp) ?_ (by lia)⟩
 obtain⟨R4,G₄⟩:=d5 (ob:={ cls:=.type "slice",data:=.fields #[va,vb,.none] }) OK R3 R3.tpos
 have G:=G₁.trans (G₂.trans (G₃.trans G₄))
 exact R4.newAllocT (o:=.list ys) OK (λv ρ' s' r' R' G'=>h v ρ' s' r' R' (G.trans G')) rfl (by simp) λρ' hp u=>⟨_,_,Pd _ rfl,(uZ hy rq).mono hp⟩
noncomputable def EN(ρ:List Addr):List (Str×V)->List (OT×OT)->Prop
 | [],[]=>True
 | (k,x)::es,(kv,v)::vs=>(∃t,kv=.str k t)/\aU ρ x v/\EN ρ es vs
 | _,_=>False
noncomputable abbrev lZ(B:bc)(P:Fc)(n:Nat)(ks:List (Option OQ))(vs:List OQ)(pos:Pos)(m:M (List (Str×V))):Prop:=oi B P n (evalPairs (pairTrees ks vs P.env pos)) EN m
noncomputable def db(k:Str)(m:M V)(ms:M (List (Str×V))):M (List (Str×V)):=ao m λx=>ao ms λxs=>aa ((k,x)::xs)
theorem Az{pos:Pos}:lZ B P n [] [] pos (aa []):=by
 intro A hA ρ st s R y st' hm Q E h
 obtain⟨rfl,rfl⟩:=ai hm
 exact O3 (h _ ρ s trivial R aW.refl)
theorem AA(OK:B.Ok){k:Str}{u:Nat}{kp pos:Pos}{ks:List (Option OQ)}{e:OQ}{vs:List OQ}{m:M V}{ms:M (List (Str×V))}(he:aR B P n e m)(hs:lZ B P n ks vs pos ms) :
  lZ B P n (some (.Constant (.str k) u kp)::ks) (e::vs) pos (db k m ms):=by
 intro A hA ρ st s R y st' hm Q E h
 refine ae hm λx st1 e1 e2=>?_
 refine ae e2 λxs st2 e3 e4=>?_
 obtain⟨rfl,rfl⟩:=ai e4
 show Ph _ A (evalPairs ((eval (.Constant (.str k) u kp) P.env,do let x <- eval e P.env;standAt pos;pure x)::pairTrees ks vs P.env pos)) Q E s
 unfold evalPairs
 refine OR (wpAny_Constant_str ?_)
 have R':bB B P ρ st { s with toks:=s.toks+1 }:=⟨R.toks OK _,PN 1 _⟩
 refine OR (wpAny_holding (OR (he A hA ρ st _ R' x st1 e1 _ _ λv ρ1 s₁ r1 R1 G₁=>OR (wpAny_standAt (O3 ?_)))))
 refine OR (wpAny_holding (hs A hA ρ1 st1 s₁ R1 xs st' e3 _ _ λw ρ2 s2 r2 R2 G₂=>O3 ?_))
 exact h _ ρ2 s2 ⟨⟨_,rfl⟩,r1.mono G₂.pre,r2⟩ R2 ((aW.toks _).trans (G₁.trans G₂))
noncomputable def nR(ms:M (List (Str×V))):M V:=ao ms λes=>if (es.map (·.1)).Nodup then gU (.dict es)else av
theorem tJ{es:List (Str×V)}:∀{vs:List (OT×OT)},EN ρ es vs->∃kvs:List (Str×OT),Carries (strKind B.prog B.w) vs kvs/\kvs.map (·.1)=es.map (·.1)/\∀k,i6 ρ (es.lookup k) (valueAt kvs k):=by
 induction es with
 | nil =>
  intro vs r
  cases vs with
  | nil=>exact⟨[],trivial,rfl,λk=>trivial⟩
  | cons _ _=>exact r.elim
 | cons e es ih =>
  intro vs r
  obtain⟨k,x⟩:=e
  cases vs with
  | nil=>exact r.elim
  | cons v vs =>
   obtain⟨kv,v⟩:=v
   obtain⟨⟨t,hk⟩,hv,hr⟩:=r
   obtain⟨kvs,h1,h2,h3⟩:=ih hr
   refine⟨(k,v)::kvs,⟨by rw[hk];exact strKind_is _ _ _ _,rfl,h1⟩,by rw[Ps,h2];rfl,λk'=>?_⟩
   rw[Ru]
   unfold valueAt
   rw[List.find?_cons]
   by_cases q:k=k'
   ·subst q
    simp only[beq_self_eq_true,decide_true]
    exact hv
   ·simp only[beq_false_of_ne λe=>q e.symm,q,decide_false]
    exact h3 k'
theorem GV(OK:B.Ok)(hlow:∀a∈B.tabs,a<B.n₀){keys:List (Option OQ)}{values:List OQ}{pos:Pos}{ms:M (List (Str×V))}(hs:lZ B P n keys values pos ms)
  (hall:keys.all (·.isSome)=true) (hl:keys.length=values.length) (h0:keys≠[]) (hlen:keys.length<=15):aR B P n (.Dict keys values pos) (nR ms):=by
 intro A hA ρ st s R y st' hm Q E h
 refine ae hm λes st1 e1 e2=>?_
 refine aG e2 λhnd e2=>?_
 obtain⟨rfl,rfl⟩:=pj e2
 obtain⟨R1,G₁⟩:=d5 (ob:={ cls:=.type "dict",data:=.dict #[] }) OK R R.tpos
 have aD:=gE (z:=λu=>False) R OK (a:=s.heap.objs.size) (O8 _) (λh=>h)
 have hDl:s.heap.objs.size≠P.env.locals:=by obtain⟨m,o,_,_,e,_⟩:=R.ns;exact PE (Pu e)
 have hDf:∀e∈P.stk,∀L,e.frame=some L->L≠s.heap.objs.size:=λe he L hL=>by
  obtain⟨_,L',o,h1,_,_,h4,_⟩:=R.stk e he
  rw[hL]at h1;obtain rfl:=sj h1
  exact Pg (Pu h4)
 refine wpAny_with_toks R.tpos (wpAny_Dict_walk (knd:=strKind B.prog B.w) hall hl h0 hlen (hs A hA ρ st _ R1 es st1 e1 _ _ λvs ρ2 s2 r2 R2 G₂=>?_))
 obtain⟨kvs,h1,h2,h3⟩:=tJ (B:=B) r2
 have hD0:(s.heap.push { cls:=.type "dict",data:=.dict #[] }).get? s.heap.objs.size=some { cls:=.type "dict",data:=.dict #[] }:=Pd _ rfl
 have hD2:s2.heap.get? s.heap.objs.size=some { cls:=.type "dict",data:=.dict #[] } :=
  (G₂.keep _ _ hD0 aD.1 aD.2.1 λht=>absurd (hlow _ ht) (P9.mpr aD.2.2.1)).exact (by simp)
 have hDρ:s.heap.objs.size∉ρ2:=λhm=>by
  rcases G₂.new _ hm with q | q
  ·exact aD.1 q
  ·exact bo hD0 q
 refine⟨kvs,h1,⟨_,#[],0,hD2,⟨rfl,rfl,rfl⟩,rfl,λe he=>by simp at he,.nil,SK⟩,λh' hd' hs' tp=>?_⟩
 rw[merged_nil_of_nodup kvs (by rw[h2];exact hnd)]at hd'
 have hk:∀b o,b≠s.heap.objs.size->s2.heap.get? b=some o->h'.get? b=some o:=hs'.extBut
 have R3:Rel0 B P ρ2 st1 { s2 with heap:=h',toks:=s2.toks+vs.length }:=R2.toRel0.otherF OK ⟨hDρ,aD.2.1,aD.2.2.1⟩ hD2 (.inl λvs=>by simp) (λh=>hDl h.symm) hDf hk rfl rfl
 obtain⟨o',des,ep,eo,hx,hdat,hko,hp,hn⟩:=id hd'
 have R4:Rel0 B P (ρ2++[s.heap.objs.size]) ⟨st1.σ++[.dict es],st1.L⟩ { s2 with heap:=h',toks:=s2.toks+vs.length } :=
  R3.adopt OK ⟨hDρ,aD.2.1,aD.2.2.1,hDl⟩ eo (.inl λvs=>by rw[hdat];simp) (.inl (by rw[hx.1];simp)) ⟨_,hd'.mapOf,λk=>(h3 k).mono (Pv ..)⟩
 refine h _ _ _ ⟨s.heap.objs.size,by rw[<- R2.len];simp,rfl⟩ ⟨R4,tp⟩ ⟨⟨G₂.pre.trans (Pv ..),λb o eb h1 h2 h3=>?_,λa ha=>?_⟩,?_⟩
 ·refine((G₁.trans G₂).keep b o eb h1 h2 h3).trans λo' e'=>.of (hk b o' (Pg (Pu eb)) e')
 ·rcases Pk.mp ha with q | q
  ·exact(G₁.trans G₂).new a q
  ·rw[OS.mp q];exact .inr (O8 _)
 ·show s.heap.objs.size<=h'.objs.size
  rw[hs'.1];exact(G₁.trans G₂).size
theorem Ki{body:List Stmt}{h₀:ExceptHandler}{hs:List ExceptHandler}{pos:Pos}{m:M Fl}(hb:gZ B P n body m):i7 B P n (.Try body (h₀::hs) [] [] pos) m:=by
 intro A hA ρ st s R y st' hm Q E h
 refine wpAny_Try_except (hb A hA ρ st s R y st' hm _ _ λg ρ1 s₁ r1 R1 G₁=>?_)
 cases y with
 | next=>obtain rfl:g=_:=r1;exact wpAny_execs_nil (h _ ρ1 s₁ rfl R1 G₁)
 | cont=>obtain rfl:g=_:=r1;exact h _ ρ1 s₁ rfl R1 G₁
 | brk=>obtain rfl:g=_:=r1;exact h _ ρ1 s₁ rfl R1 G₁
 | ret x=>obtain⟨v,rfl,hv⟩:=r1;exact h _ ρ1 s₁ ⟨v,rfl,hv⟩ R1 G₁
end
structure d8(cc Pl:Addr)(pos:Pos)(qual:Str)(ρ:List Addr)(h:Heap):Prop where
 is:∃ps,h.IsCode cc Pl ps/\h.TableAt cc Pl ps/\cc∉ρ/\Pl∉ρ/\(ps= #[]\/∃c',ps= #[rawInt pos.line,rawInt pos.col,.ref c']/\h.CodeRec (.ref c') qual/\(∃oc,h.get? c'=some oc/\¬cD oc/\oc.cls≠.type "frame")/\c'∉ρ/\c'≠Pl)
theorem kF{o:Obj}{vs:Array OT}(hd:o.data=.fields vs)(hc:o.cls=.type "code"\/o.cls=.none):¬cD o:=by
 rintro (h | ⟨h1,h2⟩)
 ·exact h vs hd
 ·rcases hc with h | h
  ·exact h1 h
  ·exact h2 h
theorem z6{h h':Heap}{c P:Addr}{ps:Array OT}(e1:h'.get? c=h.get? c)(e2:h'.get? P=h.get? P)(x:h.IsCode c P ps):h'.IsCode c P ps:=by
 unfold Heap.IsCode at *
 rw[e1,e2];exact x
theorem wS{h h':Heap}{c P:Addr}{ps:Array OT}(e1:h'.get? c=h.get? c)(e2:h'.get? P=h.get? P)(x:h.TableAt c P ps):h'.TableAt c P ps:=by
 unfold Heap.TableAt at *
 rw[e1,e2];exact x
theorem vK{h h':Heap}{c:Addr}{q:Str}(e:h'.get? c=h.get? c)(x:h.CodeRec (.ref c) q):h'.CodeRec (.ref c) q:=by
 obtain⟨_,o,vs,t,q1,q2,q3⟩:=x
 obtain rfl:=Qv q1
 exact⟨c,o,vs,t,rfl,e.trans q2,q3⟩
theorem d8.at_{cc Pl:Addr}{pos:Pos}{qual:Str}{ρ:List Addr}{h:Heap}(T:d8 cc Pl pos qual ρ h):(∃o,h.get? cc=some o/\¬cD o/\o.cls=.type "code"/\cc∉ρ)/\∃o,h.get? Pl=some o/\¬cD o/\o.cls=.none/\Pl∉ρ:=by
 obtain⟨ps,_,ht,h1,h2,_⟩:=T.is
 obtain⟨⟨o,vs,eo,hcl,hd,_⟩,hP⟩:=ht
 exact⟨⟨o,eo,kF hd (.inl hcl),hcl,h1⟩,_,hP,kF rfl (.inr rfl),rfl,h2⟩
theorem d8.keep{cc Pl:Addr}{pos:Pos}{qual:Str}{ρ ρ':List Addr}{h h':Heap}(T:d8 cc Pl pos qual ρ h)(e1:h'.get? cc=h.get? cc)(e2:h'.get? Pl=h.get? Pl)(n1:cc∉ρ')(n2:Pl∉ρ')
  (hc:∀c' oc,h.CodeRec (.ref c') qual->h.get? c'=some oc->¬cD oc->oc.cls≠.type "frame"->c'∉ρ->h'.get? c'=some oc/\c'∉ρ'):d8 cc Pl pos qual ρ' h':=by
 obtain⟨ps,hi,ht,_,_,h3⟩:=T.is
 refine⟨ps,z6 e1 e2 hi,wS e1 e2 ht,n1,n2,h3.imp id λq=>?_⟩
 obtain⟨c',q1,q2,⟨oc,e,np,nf⟩,q4,q5⟩:=q
 obtain⟨k1,k2⟩:=hc c' oc q2 e np nf q4
 exact⟨c',q1,vK (k1.trans e.symm) q2,⟨oc,k1,np,nf⟩,k2,q5⟩
theorem d8.step{cc Pl:Addr}{pos:Pos}{qual:Str}{ρ ρ':List Addr}{h h':Heap}(T:d8 cc Pl pos qual ρ h)(hk:∀b o,h.get? b=some o->¬cD o->o.cls≠.type "frame"->b∉ρ->h'.get? b=some o)
  (hn:∀a∈ρ',a∈ρ\/∀o,h.get? a=some o->cD o):d8 cc Pl pos qual ρ' h':=by
 obtain⟨⟨o,eo,np,hcl,h1⟩,oP,eP,nP,hclP,h2⟩:=T.at_
 have stay:∀{b o},h.get? b=some o->¬cD o->b∉ρ->b∉ρ':=λe hp hb hm=>(hn _ hm).elim hb λq=>hp (q _ e)
 exact T.keep ((hk _ _ eo np (by rw[hcl];decide) h1).trans eo.symm) ((hk _ _ eP nP (by rw[hclP];simp) h2).trans eP.symm) (stay eo np h1) (stay eP nP h2) λc' oc u e np nf q=>⟨hk _ _ e np nf q,stay e np q⟩
theorem i5.but{prog:Program}{w:Pt}{ρ:List Addr}{h h':Heap}{a Pl:Addr}{o:O}(hk:∀b o,b≠Pl->h.get? b=some o->h'.get? b=some o)(ha:a≠Pl)
  (hP:∀o vs x t,h.get? Pl=some o->o.data=.fields vs->vs[1]?≠some (.str x t)) (r:i5 prog w ρ h a o):i5 prog w ρ h' a o:=by
 exact r.keep (PK _) (λo' e=>⟨o',hk a o' ha e,rfl,λu=>rfl⟩) λc oc vs x t hc e u u hd hv=>⟨hk c oc (λq=>hP _ _ _ _ (q▸e) hd hv) e,hc⟩
section
variable {B:bc}{P P':Fc}{A:Around}{n:Nat}{ρ ρ' ρ'':List Addr}{st st':St}{s s' s'':OX}
theorem Rel0.table{Pl:Addr}(R:Rel0 B P ρ st s)(hlow:Pl<B.n₀)(hh:B.h₀.get? Pl=none)(hP:∀o vs x t,s.heap.get? Pl=some o->o.data=.fields vs->vs[1]?≠some (.str x t))
  (hk:∀b o,b≠Pl->s.heap.get? b=some o->s'.heap.get? b=some o) (ht:B.tab ρ s'.heap) (hg:s'.gens=s.gens) (ho:s'.os=s.os):Rel0 B P ρ st s':=by
 have hi:∀{b},B.n₀<=b->b≠Pl:=λh1=>PE (O0 hlow h1)
 refine⟨R.len,R.nodup,λk a o h1 h2=>(R.obj k a o h1 h2).but hk (hi (R.fresh a (O1 h1))) hP,λa ha=>?_,R.llen,λi l x h1 h2=>?_,λb o e=>hk b o (by rintro rfl;rw[hh]at e;exact nO e) (R.kept b o e),ht,R.fresh,R.wfresh,R.apart,λa ha=>?_,λe he=>?_,?_,R.nsfresh,R.nsapart,hg.trans R.gens,ho.trans R.os⟩
 ·obtain⟨o,e,hc⟩:=R.live a ha;exact⟨o,hk _ _ (hi (R.fresh a ha)) e,hc⟩
 ·have hr:=R.loc i l x h1 h2
  cases l with
  | name d nm=>obtain⟨m,⟨o,es,ep,e,r⟩,q⟩:=hr;exact⟨m,⟨o,es,ep,hk _ _ (hi (R.wfresh d (cN h1 (by simp[dc.addr])))) e,r⟩,q⟩
  | cell c=>obtain⟨u,⟨o,e,r⟩,q⟩:=hr;exact⟨u,⟨o,hk _ _ (hi (R.wfresh c (cN h1 (by simp[dc.addr])))) e,r⟩,q⟩
  | store k c=>exact hr
  | dead=>trivial
 ·obtain⟨o,e,hp⟩:=R.wlive a ha;exact⟨o,hk _ _ (hi (R.wfresh a ha)) e,hp⟩
 ·obtain⟨hm,L,o,h1,h2,h3,h4,h5⟩:=R.stk e he
  exact⟨hm,L,o,h1,h2,h3,hk _ _ (hi h2) h4,h5⟩
 ·obtain⟨m,o,es,ep,e,r⟩:=R.ns
  exact⟨m,o,es,ep,hk _ _ (hi R.nsfresh) e,r⟩
noncomputable def HK(name qual:Str)(params:Arguments)(body:FuncBody)(scope:Scope)(globals:Addr)(cl:List (Str×Addr))(ct pm code:OT):PF :=
 { name,qualname:=qual,params,body:=body,scope,globals,closure:=cl,closureTuple:=ct,defaults:=.none,kwdefaults:=.none,pyModule:=pm,code:=code,builtins:=builtinsNs }
theorem CU{env:Env}{name qual nm:Str}{params:Arguments}{body:FuncBody}{scope:Scope}{pos:Pos}{l:Nat}{c:Addr}(hclos:closureFor scope env=pure [(nm,c)])(hdoc:∀b,body=.stmts b->docOf b=none)(hkw:params.kwonlyargs=[]) :
  makeFunction name qual params body scope env [] [] [] pos l=(do
   let ct <- newTextTuple (([(nm,c)].mergeSort λa b=>decide (a.fst.cps.toList<=b.fst.cps.toList)).map λx=>S4 x.snd)
   let cv <- functionCode env pos l name qual params scope body
   let b <- builtinsFor env.globals env.builtins
   let m <- nsGet env.globals (OO "__name__")
   newObj (.type "function") (.func { name:=name,qualname:=qual,params:=params,body:=body,scope:=scope,globals:=env.globals,closure := [(nm,c)],defaults:=.none,kwdefaults:=.none,pyModule:=m.getD .none,code:=cv,closureTuple:=ct,builtins:=b })):=by
 unfold makeFunction
 generalize closureFor scope env=m at hclos ⊢
 generalize params.kwonlyargs=kw at hkw ⊢
 subst hclos
 subst hkw
 cases body with
 | stmts b =>
  have hd:=hdoc b rfl
  dsimp only
  generalize docOf b=d at hd ⊢
  subst hd
  rfl
 | expr e=>rfl
theorem FI{M:Model}{E:OT->OX->Prop}{env:Env}{name qual nm:Str}{params:Arguments}{body:FuncBody}{scope:Scope}{pos:Pos}{c cc Pl:Addr}{mg:Str->Option OT}{Q:OT->OX->Prop}
  (hclos:closureFor scope env=pure [(nm,c)]) (hdoc:∀b,body=.stmts b->docOf b=none) (hkw:params.kwonlyargs=[]) (hg:s.heap.Ns env.globals mg) (hcode:env.code=.ref cc) (hb:s.heap.BuiltinsAt mg Pl) (hgP:env.globals≠Pl)
  (T:d8 cc Pl pos qual ρ s.heap) (hρ:∀a∈ρ,a<sz s)
  (h:∀c' h' tk ct pm,(∀b o,b≠Pl->s.heap.get? b=some o->h'.get? b=some o)->sz s<=h'.objs.size->d8 cc Pl pos qual ρ h'->h'.CodeRec (.ref c') qual->(∃oc,h'.get? c'=some oc/\¬cD oc/\oc.cls≠.type "frame")->c'∉ρ->c'<h'.objs.size ->
   Q (.ref h'.objs.size) { s with heap:=h'.push { cls:=.type "function",data:=.func (HK name qual params body scope env.globals [(nm,c)] ct pm (.ref c')) },toks:=tk }) :
  Ph M A (makeFunction name qual params body scope env [] [] [] pos pos.line) Q E s:=by
 obtain⟨ps,hi,ht,n1,n2,h3⟩:=T.is
 rw[CU hclos hdoc hkw]
 refine OR (wpAny_newObjAsIs_type ?_)
 generalize (List.map (λx:Str×Addr=>S4 x.snd) ([(nm,c)].mergeSort λa b=>decide (a.fst.cps.toList<=b.fst.cps.toList))).toArray=items
 generalize hH:s.heap.push { cls:=.type "tuple",dict:=none,data:=.seq items }=H
 have push:∀b o,s.heap.get? b=some o->H.get? b=some o:=λb o e=>hH▸Pj _ e
 have hsp:H.objs.size=s.heap.objs.size+1:=hH▸PP _ _
 have tail:∀(c':Addr)(h':Heap)(tk:Nat),Heap.ExtBut Pl H h'->s.heap.objs.size+1<=h'.objs.size->d8 cc Pl pos qual ρ h'->h'.CodeRec (.ref c') qual ->
   (∃oc,h'.get? c'=some oc/\¬cD oc/\oc.cls≠.type "frame")->c'∉ρ ->
   Ph M A (do
    let b <- builtinsFor env.globals env.builtins
    let m <- nsGet env.globals (OO "__name__")
    newObj (.type "function") (.func { name:=name,qualname:=qual,params:=params,body:=body,scope:=scope,globals:=env.globals,closure := [(nm,c)],defaults:=.none,kwdefaults:=.none,pyModule:=m.getD .none,code:=.ref c',closureTuple:=.ref s.heap.objs.size,builtins:=b })) Q E { s with heap:=h',toks:=tk }:=λc' h' tk hx hsz hT hrec hnp hc'=>by
  have hx':∀b o,b≠Pl->s.heap.get? b=some o->h'.get? b=some o:=λb o hb e=>hx b o hb (push b o e)
  have hg':h'.Ns env.globals mg:=by
   obtain⟨o,es,ep,e,r⟩:=hg
   exact⟨o,es,ep,hx' _ _ hgP e,r⟩
  obtain⟨bm,o,hbm,hne0,_,hneP,hbo,hcls,hdict,hdata⟩:=hb
  refine OR (wpAny_builtinsFor hg' hbm hne0 (hx' _ _ hneP hbo) hcls hdict hdata ?_)
  refine OR (wpAny_nsGet hg' ?_)
  simp only[newObj]
  refine OR (wpAny_alloc (O3 (h c' h' tk (.ref s.heap.objs.size) ((mg "__name__").getD .none) hx' (by show s.heap.objs.size<=_;lia) hT hrec hnp hc' ?_)))
  obtain⟨oc,e,_⟩:=hnp
  exact Pu e
 have hiH:H.IsCode cc Pl ps:=hi.keeps push
 have htH:H.TableAt cc Pl ps:=ht.keeps push
 rcases h3 with rfl | ⟨c',rfl,hrec,hnp,hcρ,hcP⟩
 ·refine OR (wpAny_functionCodeX (s:={ s with heap:=H }) hcode hiH htH rfl λc' h' tk hx hge hlt hok' hrec' htab' htb=>?_)
  obtain⟨P',hP',hi',⟨⟨oc,vc,eoc,hcl,hdc,_⟩,_⟩⟩:=htb
  have hge':s.heap.objs.size+1<=c':=by rw[<- hsp];exact hge
  have hcρ:c'∉ρ:=λhm=>RF _ (O0 (hρ c' hm) (Nat.le_of_succ_le hge'))
  have hPlt:Pl<s.heap.objs.size:=by obtain⟨_,hP⟩:=ht;exact Pu hP
  refine tail c' h' tk hx (Pq (Pr hge' hlt)) ⟨_,hok',htab',n1,n2,.inr ⟨c',by simp,hrec',⟨oc,eoc,kF hdc (.inl hcl),by rw[hcl];decide⟩,hcρ,PE (O0 hPlt (Nat.le_of_succ_le hge'))⟩⟩ hrec' ⟨oc,eoc,kF hdc (.inl hcl),by rw[hcl];decide⟩ hcρ
 ·refine OR (wpAny_functionCode_hit (s:={ s with heap:=H }) hcode hiH (c':=.ref c') (by simp[codeAmong,rawInt]) ?_)
  obtain⟨oc,e,np,nf⟩:=hnp
  refine tail c' H s.toks (λu u u e=>e) (by lia) ⟨_,hiH,htH,n1,n2,.inr ⟨c',rfl,hrec.keeps push,⟨oc,push _ _ e,np,nf⟩,hcρ,hcP⟩⟩ (hrec.keeps push) ⟨oc,push _ _ e,np,nf⟩ hcρ
end
noncomputable def Fc.kill(P:Fc)(i:Nat):Fc:={ P with names:=P.names.set i none,locs:=P.locs.set i .dead }
theorem iQ{P:Fc}{i j:Nat}{l:dc}(h:(P.kill i).locs[j]?=some l)(hl:l≠.dead):P.locs[j]?=some l/\j≠i:=by
 have h':(P.locs.set i .dead)[j]?=some l:=h
 rw[RZ]at h'
 split at h'
 ·rename_i e
  subst e
  split at h'
  ·obtain rfl:=sj h';exact absurd rfl hl
  ·exact nO h'
 ·rename_i e;exact⟨h',λq=>e q.symm⟩
theorem xV{P:Fc}{i:Nat}(hP:P.Ok):(P.kill i).Ok:=by
 refine⟨hP.fn,λj n h=>?_,by simp[Fc.kill,hP.len],λj k l h1 h2 h3=>?_⟩
 ·have h':(P.names.set i none)[j]?=some (some n):=h
  rw[RZ]at h'
  split at h'
  ·split at h'<;>cases h'
  ·rename_i e
   obtain⟨l,hl,hat⟩:=hP.at_ j n h'
   refine⟨l,?_,hat⟩
   show(P.locs.set i .dead)[j]?=some l
   rw[Qr e];exact hl
 ·have hl:l≠.dead:=by rintro rfl;exact h3 rfl
  exact hP.uniq j k l (iQ h1 hl).1 (iQ h2 hl).1 h3
theorem mC{P:Fc}{i:Nat}{a:Addr}(h:a∈(P.kill i).wr):a∈P.wr:=by
 unfold Fc.wr at h
 obtain⟨l,hl,ha⟩:=Qq.mp h
 obtain⟨j,hj⟩:=Ro hl
 exact cN (iQ hj (by rintro rfl;simp[dc.addr]at ha)).1 ha
theorem mB{P:Fc}{i:Nat}(h:P.NoStore):(P.kill i).NoStore:=λj k c hj=>h j k c (iQ hj (by simp)).1
section
variable {B:bc}{P P':Fc}{A:Around}{n:Nat}{ρ ρ' ρ'':List Addr}{st st':St}{s s' s'':OX}
theorem Rel0.kill(R:Rel0 B P ρ st s)(i:Nat):Rel0 B (P.kill i) ρ st s:=by
 refine⟨R.len,R.nodup,R.obj,R.live,by simp[Fc.kill,R.llen],λj l x h1 h2=>?_,R.kept,R.tab,R.fresh,λa h=>R.wfresh a (mC h),λa h=>R.apart a (mC h),λa h=>R.wlive a (mC h),R.stk,R.ns,R.nsfresh,R.nsapart,R.gens,R.os⟩
 by_cases hl:l=.dead
 ·subst hl;trivial
 ·exact R.loc j l x (iQ h1 hl).1 h2
noncomputable def gt(B:bc)(P:Fc)(n:Nat)(ts:List Stmt)(m:M Fl):Prop :=
 ∀A,iZ P n A->∀ρ0 s₀ ρ st s,bB B P ρ st s->aW B P ρ0 s₀ ρ s->(∀b∈P.wr,sz s₀<=b)->∀y st',m st=some (y,st')->∀(Q:Flow->OX->Prop)(E:OT->OX->Prop),
  (∀f ρ' s' P',dW ρ' y f->bB B P' ρ' st' s'->aW B P' ρ0 s₀ ρ' s'->(∀b∈P'.wr,sz s₀<=b)->P'.stk=P.stk->Q f s')->Ph (model B.prog B.w) A (execs ts P.env) Q E s
theorem gt.of{ts:List Stmt}{m:M Fl}(h:gZ B P n ts m):gt B P n ts m:=λA hA ρ0 s₀ ρ st s R G hw y st' hm Q E k =>
 h A hA ρ st s R y st' hm Q E λf ρ' s' rf R' G'=>k f ρ' s' P rf R' (G.trans G') hw rfl
theorem gt.cons{t:Stmt}{ts:List Stmt}{m ms:M Fl}(ht:i7 B P n t m)(hs:gt B P n ts ms):gt B P n (t::ts) (aw m ms):=by
 intro A hA ρ0 s₀ ρ st s R G hw y st' hm Q E h
 refine ae hm λf st1 e1 e2=>?_
 refine wpAny_execs_cons (ht A hA ρ st s R f st1 e1 _ _ λg ρ1 s₁ r1 R1 G₁=>?_)
 cases f with
 | next =>
  obtain rfl:g=_:=r1
  exact hs A hA ρ0 s₀ ρ1 st1 s₁ R1 (G.trans G₁) hw y st' e2 Q E h
 | cont=>obtain⟨rfl,rfl⟩:=ai e2;obtain rfl:g=_:=r1;exact h _ ρ1 s₁ P rfl R1 (G.trans G₁) hw rfl
 | brk=>obtain⟨rfl,rfl⟩:=ai e2;obtain rfl:g=_:=r1;exact h _ ρ1 s₁ P rfl R1 (G.trans G₁) hw rfl
 | ret x=>obtain⟨rfl,rfl⟩:=ai e2;obtain⟨v,rfl,hv⟩:=r1;exact h _ ρ1 s₁ P ⟨v,rfl,hv⟩ R1 (G.trans G₁) hw rfl
noncomputable def rm(i j:Nat)(params:Arguments)(body:FuncBody)(scope:Scope)(qual nm:Str):M Unit:=λst=>match st.L[i]? with
 | some (some x)=>some ((),⟨st.σ++[.cell x]++[.clo params body scope qual [(nm,st.σ.length)]],st.L.set j (some (.ref (st.σ.length+1)))⟩)
 | _=>none
theorem CV(OK:B.Ok)(hlow:∀a∈B.tabs,a<B.n₀)(hP:P.Ok){i:Nat}{x:V}{name qual nm:Str}{params:Arguments}{fb:FuncBody}{scope:Scope}{pos:Pos}{c cc Pl:Addr}{mg:Str->Option OT}{ρ0:List Addr}{s₀:OX}{Q:OT->OX->Prop}{E:OT->OX->Prop}
  (hi:P.locs[i]?=some (.cell c)) (hclos:closureFor scope P.env=pure [(nm,c)]) (hdoc:∀b,fb=.stmts b->docOf b=none) (hkw:params.kwonlyargs=[]) (hg:P.env.globals=Pz)
  (hmg:B.h₀.Ns Pz mg) (hcode:P.env.code=.ref cc) (hb:B.h₀.BuiltinsAt mg Pl) (hgP:Pz≠Pl) (hPl:Pl∈B.tabs) (hh:B.h₀.get? Pl=none) (ht1:∀ρ h,B.tab ρ h->d8 cc Pl pos qual ρ h)
  (ht2:∀ρ h h',B.tab ρ h->(∀b o,b≠Pl->h.get? b=some o->h'.get? b=some o)->d8 cc Pl pos qual ρ h'->B.tab ρ h') (R:bB B P ρ st s) (hx:st.L[i]?=some (some x)) (G:aW B P ρ0 s₀ ρ s) (hw:∀b∈P.wr,sz s₀<=b)
  (k:∀f s',bB B (P.kill i) (ρ++[c]++[f]) ⟨st.σ++[.cell x]++[.clo params fb scope qual [(nm,st.σ.length)]],st.L⟩ s'->aW B (P.kill i) ρ0 s₀ (ρ++[c]++[f]) s'->Q (.ref f) s') :
  Ph (model B.prog B.w) A (makeFunction name qual params fb scope P.env [] [] [] pos pos.line) Q E s:=by
 have T:d8 cc Pl pos qual ρ s.heap:=ht1 _ _ R.tab
 obtain⟨ps,hic,hta,n1,n2,h3⟩:=id T.is
 have hPlow:=hlow Pl hPl
 refine wpAny_with_toks R.tpos (FI hclos hdoc hkw (by rw[hg];exact hmg.keeps R.kept) hcode (hb.keeps R.kept) (by rw[hg];exact hgP) T (λa ha=>by obtain⟨o,e,_⟩:=R.live a ha;exact Pu e)
  λc' h' tk ct pm hk hsz hT hrec hnp hcρ hc'lt tp=>?_)
 have hcw:c∈P.wr:=cN hi (by simp[dc.addr])
 have hcn:=R.wfresh c hcw
 have hcP:c≠Pl:=PE (O0 hPlow hcn)
 obtain⟨u,hu,ru⟩:=R.loc i _ _ hi hx
 cases u with
 | none=>exact ru.elim
 | some v =>
  have R1:Rel0 B P ρ st { s with heap:=h',toks:=tk }:=R.toRel0.table (Pl:=Pl) hPlow hh (λo vs x t e hd=>by
   obtain⟨_,eP⟩:=hta
   rw[eP]at e;obtain rfl:=sj e
   obtain rfl:=Data.fields.inj hd
   rcases h3 with rfl | ⟨c2,rfl,_⟩
   ·simp
   ·simp[rawInt]) hk (ht2 _ _ _ R.tab hk hT) rfl rfl
  have R2:=R1.kill i
  obtain⟨o,eo,hdo⟩:=id hu
  have eo':h'.get? c=some o:=hk c o hcP eo
  have hcl:c≠P.env.locals:=by
   rintro rfl
   obtain⟨m,o',es,ep,e',hd',_⟩:=R.ns
   rw[eo]at e';obtain rfl:=sj e';rw[hdo]at hd';exact nc QW hd' rfl
  have hck:c∉(P.kill i).wr:=λhm=>by
   unfold Fc.wr at hm
   obtain⟨l,hl,ha⟩:=Qq.mp hm
   obtain⟨k,hk'⟩:=Ro hl
   obtain⟨h1,h2⟩:=iQ hk' (by rintro rfl;simp[dc.addr]at ha)
   rcases lI ha with⟨n',rfl⟩ | rfl
   ·have hkl:=(OW.mp h1).1
    obtain⟨m',⟨o',es,ep,e3,e4,_⟩,_⟩:=R.loc k _ _ h1 (Pf (by rw[R.llen];exact hkl))
    rw[eo]at e3;obtain rfl:=sj e3;rw[hdo]at e4;exact nc QW e4 rfl
   ·exact h2 (hP.uniq k i _ h1 hi (by simp[dc.addr]))
  have R3:Rel0 B (P.kill i) (ρ++[c]) ⟨st.σ++[.cell x],st.L⟩ { s with heap:=h',toks:=tk } :=
   R2.adopt OK ⟨R.apart c hcw,hck,hcn,hcl⟩ eo' (.inl λvs=>by rw[hdo];simp) (.inr λes m=>by rw[hdo];simp) ⟨v,⟨o,eo',hdo⟩,ru.mono (Pv ..)⟩
  obtain⟨oc,eoc,np,nf⟩:=hnp
  generalize hfd:HK name qual params fb scope P.env.globals [(nm,c)] ct pm (.ref c')=fd
  have hfree:({ cls:=.type "function",data:=.func fd }:Obj).isFreed=false:=rfl
  have hkp:∀b o,h'.get? b=some o->(h'.push { cls:=.type "function",data:=.func fd }).get? b=some o:=λb o e=>Pj _ e
  have hc'':c'∉ρ++[c]++[h'.objs.size]:=λhm=>by
   rcases Pk.mp hm with hm | hm
   ·rcases Pk.mp hm with hm | hm
    ·exact hcρ hm
    ·rw[OS.mp hm,eo']at eoc;obtain rfl:=sj eoc
     exact np (.inl λvs=>by rw[hdo];simp)
   ·rw[OS.mp hm]at hc'lt;exact RF _ hc'lt
  have R4:Rel0 B (P.kill i) (ρ++[c]++[h'.objs.size]) ⟨st.σ++[.cell x]++[.clo params fb scope qual [(nm,st.σ.length)]],st.L⟩ { s with heap:=h'.push { cls:=.type "function",data:=.func fd },toks:=tk } :=
   R3.push OK hkp (O8 _) ⟨_,fd,c',Pd _ rfl,rfl,by rw[<- hfd];rfl,by rw[<- hfd];rfl,by rw[<- hfd];rfl,by rw[<- hfd];rfl,by rw[<- hfd];exact hg,by rw[<- hfd];rfl,by rw[<- hfd];rfl,by rw[<- hfd];rfl,by rw[<- hfd];rfl,
    hrec.push _,⟨oc,hkp _ _ eoc,np,nf⟩,hc'',by rw[<- hfd];rfl,λk n' kk hkk=>by
     cases k with
     | zero =>
      simp at hkk
      obtain⟨rfl,rfl⟩:=hkk
      refine⟨c,by rw[<- hfd];rfl,?_⟩
      rw[<- R.len];simp
     | succ k=>simp at hkk⟩ ⟨_,Pd _ rfl,by simp⟩ rfl rfl
  refine k h'.objs.size _ ⟨R4,tp⟩ ⟨⟨?_,λb o e h1 h2 h3=>?_,λa ha=>?_⟩,?_⟩
  ·exact(G.pre.trans (Pv ..)).trans (Pv ..)
  ·have hbP:b∉P.wr:=λhm=>bo e (hw b hm)
   have hbPl:b≠Pl:=λq=>h3 (q▸hPl)
   exact(G.keep b o e h1 hbP h3).trans λo' e'=>cu.of (hkp b o' (hk b o' hbPl e'))
  ·rcases Pk.mp ha with hm | hm
   ·rcases Pk.mp hm with hm | hm
    ·exact G.new a hm
    ·rw[OS.mp hm];exact .inr (hw c hcw)
   ·rw[OS.mp hm];exact .inr (OZ G.size hsz)
  ·refine OZ (OZ G.size hsz) ?_
   show h'.objs.size<=(h'.push _).objs.size
   rw[PP];exact QK _
theorem vU{i j:Nat}{params:Arguments}{body:FuncBody}{scope:Scope}{qual nm:Str}{r:Unit×St}(h:rm i j params body scope qual nm st=some r) :
  ∃x,st.L[i]?=some (some x)/\r=((),⟨st.σ++[.cell x]++[.clo params body scope qual [(nm,st.σ.length)]],st.L.set j (some (.ref (st.σ.length+1)))⟩):=by
 delta rm at h
 revert h
 rcases st.L[i]? with _ | _ | x<;>intro h
 ·exact nO h
 ·exact nO h
 ·exact⟨x,rfl,(sj h).symm⟩
theorem gt.give(OK:B.Ok)(hlow:∀a∈B.tabs,a<B.n₀)(hP:P.Ok){i j:Nat}{name nm:Str}{params:Arguments}{body:List Stmt}{scope:Scope}{pos:Pos}{c cc Pl:Addr}{ts:List Stmt}{ms:M Fl}{mg:Str->Option OT}(hne:j≠i)
  (htree:PlainDefTree name params body scope pos) (hi:P.locs[i]?=some (.cell c)) (hnj:P.names[j]?=some (some name)) (hfj:(P.env.kindOf name==some .free)=false)
  (hclos:closureFor scope P.env=pure [(nm,c)]) (hdoc:docOf body=none) (hkw:params.kwonlyargs=[]) (hg:P.env.globals=Pz) (hmg:B.h₀.Ns Pz mg) (hcode:P.env.code=.ref cc) (hb:B.h₀.BuiltinsAt mg Pl) (hgP:Pz≠Pl)
  (hPl:Pl∈B.tabs) (hh:B.h₀.get? Pl=none) (ht1:∀ρ h,B.tab ρ h->d8 cc Pl pos (qualnameIn P.env name name) ρ h)
  (ht2:∀ρ h h',B.tab ρ h->(∀b o,b≠Pl->h.get? b=some o->h'.get? b=some o)->d8 cc Pl pos (qualnameIn P.env name name) ρ h'->B.tab ρ h') (hs:gt B (P.kill i) n ts ms) :
  gt B P n (.FunctionDef name params body [] none [] scope none name pos::ts) (ao (rm i j params (.stmts body) scope (qualnameIn P.env name name) nm) λu=>ms):=by
 intro A hA ρ0 s₀ ρ st s R G hw y st' hm Q E h
 refine ae hm λu st1 e1 e2=>?_
 obtain⟨x,hx,e1⟩:=vU e1
 ·obtain⟨rfl,rfl⟩:=PZ e1
  refine wpAny_execs_cons ?_
  rw[htree]
  refine OR (wpAny_standAt (OR (wpAny_holding (CV OK hlow hP hi hclos (λb e=>by obtain rfl:=FuncBody.stmts.inj e;exact hdoc) hkw hg hmg hcode hb hgP hPl hh ht1 ht2 R hx G hw
   λf s4 R4 G₄=>OR (wpAny_standAt (OR (wpAny_bindName ?_)))))))
  have hnj':(P.kill i).names[j]?=some (some name):=by
   show(P.names.set i none)[j]?=_
   rw[Qr (λq=>hne q.symm)];exact hnj
  refine eu (P:=P.kill i) OK (xV hP) R4 hnj' hfj (x:=.ref (st.σ.length+1)) ⟨f,by rw[<- R.len];simp,rfl⟩ λs₅ R5 G₅=>O3 ?_
  exact hs A ⟨hA.frames,hA.handled,hA.depth,hA.units⟩ ρ0 s₀ _ _ s₅ R5 (G₄.trans G₅) (λb hb=>hw b (mC hb)) y st' e2 Q E λf ρ' s' P' rf R' G' hw' hs'=>h f ρ' s' P' rf R' G' hw' hs'
variable {fd:PF}{body:List Stmt}{ps nms:List Str}{L a:Addr}{stk:List Env}
theorem DN(OK:B.Ok)(hlow:∀a∈B.tabs,a<B.n₀)(hlim:B.h₀.NoLimit)(F:dw fd body ps nms)(O:cB B a fd){mb:M Fl}
  (hb:∀L stk,(bC fd L a stk nms).Ok->gt B (bC fd L a stk nms) n body mb):aQ B (n+1) (.ref a) λxs=>if xs.length=ps.length then kV nms.length mb xs else av:=by
 intro P hns A hA ρ st s vs xs R rx y st' hm RR h
 refine aG (p:=xs.length=ps.length) hm λhl hm1=>rQ hm1 λf' st2 e2 hv e3=>?_
 subst e3
 clear hm hm1
 obtain⟨o,eo,hd⟩:=O.obj
 have hd0:=hA.depth
 have hu0:=hA.units
 refine codeAny_call_function (by show A.depth<1000;lia) (R.kept _ _ eo) hd F.co F.gen F.body (O.crec.keeps R.kept) ?_
 rw[F.bind vs (by rw[<- hl];exact rx.length.symm),F.clo]
 refine O3 (wpAny_with_toks R.tpos (sM F.kind (λb hb=>?_) λenv he s₁ x fr ht=>?_))
 ·have hm:b.1∈nms:=F.pre.subset (Rh hb).1
  rcases F.kinds _ hm with h | h
  ·exact .inl h
  ·exact .inr ⟨h,cW _ _ _ _ (.inl (mem_of_lookup h))⟩
 ·subst he
  refine⟨hlim.keeps λb o e=>x.toInCall.keep b o (R.kept b o e),codeAny_func ?_⟩
  obtain⟨R1,hk⟩:=bB.call OK F R rx hl ht x fr
  have hw:=pF (stk:=P.stk) F x
  have hsz:sz s<=sz s₁:=by obtain⟨o,e,_⟩:=fr;exact Pq (Pu e)
  have hok:=sE (stk:=P.stk) F x.apart
  have hA':iZ (bC fd s.heap.objs.size a P.stk nms) n (A.deeper (callEnvC fd s.heap.objs.size a)) :=
   ⟨by show A.frames.map _=_;rw[hA.frames];rfl,hA.handled,by show A.depth+1+n<=800;lia,by show A.units+3+10*n<=9000;lia⟩
  have hs:∀e∈P.stk,e∈(bC fd s.heap.objs.size a P.stk nms).stk:=λe he=>Pa _ he
  have G₁:aW (B:=B) (bC fd s.heap.objs.size a P.stk nms) ρ s ρ s₁:=⟨bk.ext hk,hsz⟩
  have hb:=hb s.heap.objs.size P.stk hok _ hA' ρ s ρ _ s₁ R1 G₁ hw _ st2 e2
  clear hA' R1 G₁ hok x fr ht hd0 hu0 e2 hk hsz hw
  refine hb _ _ λg ρ2 s2 P2 rf R2 G₂ hw2 hs2=>?_
  clear hb
  obtain⟨R3,G₃⟩:=bB.back hlow hns R R2 G₂ hw2 λe he=>hs2▸hs e he
  rcases rZ hv rf with⟨v,e,rv⟩ | ⟨e,e'⟩
  ·subst e;exact h v ρ2 s2 rv R3 G₃
  ·subst e;exact h .none ρ2 s2 (e'▸rfl) R3 G₃
theorem J9(OK:B.Ok)(hlow:∀a∈B.tabs,a<B.n₀)(hlim:B.h₀.NoLimit)(F:dw fd body ps nms)(O:cB B a fd){mb:M Fl}
  (hb:∀L stk,(bC fd L a stk nms).Ok->gZ B (bC fd L a stk nms) n body mb):aQ B (n+1) (.ref a) λxs=>if xs.length=ps.length then kV nms.length mb xs else av :=
 DN OK hlow hlim F O λL stk hok=>.of (hb L stk hok)
theorem yf{M:Model}{E:OT->OX->Prop}{scope:Scope}{globals:Addr}{cl:List (Str×Addr)}{pn:Str}{v:OT}{qual:Str}{func:Option Addr}{code:OT}{builtins:Addr}{Q:Env->OX->Prop}
  (hk:scope.kind=.function) (hnc:∀x∈scope.names,x.2≠.cell) (hp:scope.names.lookup pn=some .local)
  (hQ:∀h',h'.Ns s.heap.objs.size (λy=>if y=pn then some v else none)->(∀b o,s.heap.get? b=some o->h'.get? b=some o)->(∃o,h'.get? s.heap.objs.size=some o/\o.cls=.type "frame")->s.heap.objs.size<h'.objs.size ->
   Q (newEnv scope s.heap.objs.size globals cl qual func code none builtins) { s with heap:=h',toks:=s.toks+1 }) :
  Ph M A (newFunctionEnv scope globals cl [(pn,v)] qual func code none builtins) Q E s:=by
 simp only[newFunctionEnv,Option.isSome_none,P5,if_false]
 refine OR (wpAny_alloc ?_)
 rw[forIn_yield_id cl (λx hx c=>by
  obtain⟨name,kind⟩:=x
  have:(kind==SX)=false:=by simpa using hnc _ hx
  simp only[this,P5,if_false])]
 refine OR (O3 (OR ?_))
 rw[Rf]
 refine OR (OR ?_)
 have hl:(newEnv scope s.heap.objs.size globals cl qual func code none builtins).kindOf pn=some .local:=hp
 show Ph M A (storeName (newEnv scope s.heap.objs.size globals cl qual func code none builtins) pn v) _ _ _
 rw[Si hl (by show(scope.kind==.class || (scope.kind==.module&&_))=false;rw[hk];rfl)]
 have hns:=Heap.Ns.new s.heap (.type "frame")
 refine nv hns λh' hn' hs' hc=>O3 ?_
 dsimp only
 rw[Q4]
 refine O3 (O3 (hQ h' hn' (λb o e=>hs'.extBut b o (Pg (Pu e)) (Pj _ e)) ?_ ?_))
 ·obtain⟨o',e',hc'⟩:=hc _ (Pd _ rfl)
  exact⟨o',e',hc'⟩
 ·rw[hs'.1];show s.heap.objs.size<(s.heap.push _).objs.size;rw[PP];exact PR _
noncomputable def dP(fd:PF)(L a:Addr)(stk:List Env)(pn nm:Str)(k:Nat)(c:Addr):Fc :=
 { env:=callEnv fd L a,stk:=callEnv fd L a::stk,names := [some pn,some nm],locs := [.name L pn,.store k c] }
structure qP(params:Arguments)(body:List Stmt)(scope:Scope)(pn nm:Str):Prop where
 kind:scope.kind=.function
 co:scope.isCoroutine=false
 gen:scope.isGenerator=false
 nocell:∀x∈scope.names,x.2≠.cell
 p:scope.names.lookup pn=some .local
 f:scope.names.lookup nm=some .free
 cd:(nm==("__classdict__":Str))=false
 bind:∀fd:PF,fd.params=params->fd.defaults=.none->fd.kwdefaults=.none->∀v,bindArgs fd ⟨[v],[]⟩=pure [(pn,v)]
noncomputable def vG{β:Type}(f:V->M β)(o:O):M β:=match o with | .cell v=>f v | _=>av
theorem jW{β:Type}{C:Prop}{f:V->M β}{o:O}{r:β×St}(h:vG f o st=some r)(c:∀v,o=.cell v->f v st=some r->C):C:=by
 cases o with
 | cell v=>exact c v rfl h
 | _=>exact nO h
noncomputable def BJ(mb:M Fl)(k:Nat)(x:V):M V:=oO k (vG λv=>GN [some x,some v] mb)
section
variable {params:Arguments}{scope:Scope}{pn nm:Str}{k:Nat}{c:Addr}
theorem tK(C:qP params body scope pn nm)(e3:fd.scope=scope)(hcl1:fd.closure=[(nm,c)]):(dP fd L a stk pn nm k c).Ok:=by
 subst e3
 refine⟨C.kind,λi n' h1=>?_,rfl,λi i' l h1 h2 h3=>?_⟩
 ·cases i with
  | zero=>obtain rfl:=sj (sj h1);exact⟨_,rfl,rfl,rfl,C.p⟩
  | succ i=>cases i with
   | zero=>obtain rfl:=sj (sj h1);exact⟨_,rfl,C.f,C.cd,by show fd.closure.lookup _=_;rw[hcl1];simp⟩
   | succ i=>exact nomatch h1
 ·cases i with
  | zero=>cases i' with
   | zero=>rfl
   | succ i'=>obtain rfl:=sj h1;cases i' with
    | zero=>exact nomatch h2
    | succ i'=>exact nomatch h2
  | succ i=>cases i with
   | zero=>obtain rfl:=sj h1;cases i' with
    | zero=>exact nomatch h2
    | succ i'=>cases i' with
     | zero=>rfl
     | succ i'=>exact nomatch h2
   | succ i=>exact nomatch h1
theorem j5{b:Addr}(h:b∈(dP fd L a stk pn nm k c).wr):b=L:=by
 simpa[Fc.wr,dP,dc.addr]using h
theorem bB.clo{x w:V}{v:OT}{s₁:OX}(OK:B.Ok)(R:bB B P ρ st s)(hkind:fd.scope.kind=.function)(hk:∀b o,s.heap.get? b=some o->s₁.heap.get? b=some o)(hg:s₁.gens=s.gens)(ho:s₁.os=s.os)(ht:1<=s₁.toks)(hL:sz s<=L)
  (hns:s₁.heap.Ns L (λy=>if y=pn then some v else none)) (fr:∃o,s₁.heap.get? L=some o/\o.cls=.type "frame") (rx:aU ρ x v) (hkc:ρ[k]?=some c) (hw:st.σ[k]?=some (.cell w)):bB B (dP fd L a P.stk pn nm k c) ρ ⟨st.σ,[some x,some w]⟩ s₁:=by
 have R1:Rel0 B P ρ st s₁:=R.toRel0.ext OK hk hg ho
 have notρ:L∉ρ:=λhm=>by obtain⟨o,e,_⟩:=R.live _ hm;exact bo e hL
 have hn:B.n₀<=L:=OZ (R.size OK) hL
 obtain⟨of,ef,hcf⟩:=fr
 obtain⟨of',es,ep,ef',hdf,_⟩:=id hns
 cases ef.symm.trans ef'
 refine⟨⟨R1.len,R1.nodup,R1.obj,R1.live,rfl,λi l y h1 h2=>?_,R1.kept,R1.tab,R1.fresh,λb hb=>j5 hb▸hn,λb hb=>j5 hb▸notρ,λb hb=>j5 hb▸⟨of,ef,.inl λvs=>by rw[hdf];simp⟩,λe he=>?_,⟨_,hns⟩,hn,notρ,R1.gens,R1.os⟩,ht⟩
 ·cases i with
  | zero=>obtain rfl:=sj h1;obtain rfl:=sj h2;exact⟨_,hns,by rw[if_pos rfl];exact rx⟩
  | succ i=>cases i with
   | zero=>obtain rfl:=sj h1;obtain rfl:=sj h2;exact⟨hkc,w,hw,rfl⟩
   | succ i=>exact nomatch h1
 ·rcases PW.mp he with rfl | he
  ·exact⟨by show fd.scope.kind≠_;rw[hkind];decide,_,of,rfl,hn,notρ,ef,hcf,es,ep,hdf⟩
  ·exact R1.stk e he
end
theorem J7(OK:B.Ok)(hlow:∀a∈B.tabs,a<B.n₀)(hlim:B.h₀.NoLimit){params:Arguments}{scope:Scope}{qual pn nm:Str}{k j:Nat}{x y:V}{v:OT}(C:qP params body scope pn nm)(hns:P.NoStore){mb:M Fl}
  (hb:∀fd L a stk k c,fd.params=params->fd.scope=scope->fd.globals=Pz->fd.builtins=builtinsNs->(dP fd L a stk pn nm k c).Ok->gZ B (dP fd L a stk pn nm k c) n body mb) (hA:iZ P (n+1) A)
  (R:bB B P ρ st s) (hj:ρ[j]?=some a) (hσ:st.σ[j]?=some (.clo params (.stmts body) scope qual [(nm,k)])) (rx:aU ρ x v) (hm:BJ mb k x st=some (y,st')) {Q:OT->OX->Prop} {E:OT->OX->Prop}
  (h:∀v ρ' s',aU ρ' y v->bB B P ρ' st' s'->aW B P ρ s ρ' s'->Q v s'):Ph (model B.prog B.w) A (call (.ref a) [v]) Q E s:=by
 refine bS hm λoc hw h1=>jW h1 λw eo h2=>rQ h2 λf st2 e hv e'=>?_
 subst eo;subst e'
 clear hm h1 h2
 obtain⟨o,fd,cc,r⟩:=R.obj j a _ hj hσ
 obtain⟨c,hc1,hkc⟩:=r.cells 0 nm k rfl
 have hcl1:fd.closure=[(nm,c)]:=by
  have hn:=r.names
  cases hf:fd.closure with
  | nil=>rw[hf]at hc1;exact nO hc1
  | cons p q =>
   rw[hf]at hc1 hn
   cases Pw hc1
   rw[RE.mp (SY hn).2]
 have hd0:=hA.depth
 have hu0:=hA.units
 have e3:=r.scope_
 refine wpAny_call (codeAny_call_function (by show A.depth<1000;lia) r.at_ r.data (by rw[e3];exact C.co) (by rw[e3];exact C.gen) r.body_ (by rw[r.qual_,r.code];exact r.crec) ?_)
 rw[C.bind fd r.params_ r.defaults r.kwdefaults v,hcl1]
 refine O3 (yf (by rw[e3];exact C.kind) (by rw[e3];exact C.nocell) (by rw[e3];exact C.p) λh' hns' hk fr hlt=>?_)
 refine⟨(hlim.keeps R.kept).keeps hk,codeAny_func ?_⟩
 rw[<- hcl1]
 have R2:=bB.clo (nm:=nm) (fd:=fd) (a:=a) (s₁:={ s with heap:=h',toks:=s.toks+1 }) OK R (by rw[e3];exact C.kind) hk rfl rfl (PN 1 _) (O8 _) hns' fr rx hkc hw
 have G₂:aW (B:=B) (dP fd s.heap.objs.size a P.stk pn nm k c) ρ s ρ { s with heap:=h',toks:=s.toks+1 }:=⟨bk.ext hk,Pq hlt⟩
 have hA':iZ (dP fd s.heap.objs.size a P.stk pn nm k c) n (A.deeper (callEnv fd s.heap.objs.size a)) :=
  ⟨by show A.frames.map _=_;rw[hA.frames];rfl,hA.handled,by show A.depth+1+n<=800;lia,by show A.units+3+10*n<=9000;lia⟩
 have hbody:=hb fd s.heap.objs.size a P.stk k c r.params_ e3 r.globals r.builtins (tK C e3 hcl1) _ hA' ρ _ _ R2 _ st2 e
 clear R2 hA' hns' fr hk hlt hd0 hu0 hcl1 hc1 r hw hkc rx hσ hj hb C
 refine hbody _ _ λg ρ2 s2 rf R3 G₃=>?_
 obtain⟨R4,G₄⟩:=bB.back hlow hns R R3 (G₂.trans G₃) (λb hb=>Qc (j5 hb).symm) λe he=>Pa _ he
 rcases rZ hv rf with⟨u,e,ru⟩ | ⟨e,e'⟩
 ·subst e;exact h u ρ2 s2 ru R4 G₄
 ·subst e;exact h .none ρ2 s2 (e'▸rfl) R4 G₄
end
section
variable {B:bc}{P P':Fc}{A:Around}{n:Nat}{ρ ρ' ρ'':List Addr}{st st':St}{s s' s'':OX}
set_option genInjectivity false in
structure KI where
 params:Arguments
 body:List Stmt
 scope:Scope
 qual:Str
 pn:Str
 nm:Str
open Classical in
noncomputable def HI{β:Type}(c:KI)(f:Nat->M β)(o:O):M β:=match o with
 | .clo p b sc q cs=>if p=c.params/\b=.stmts c.body/\sc=c.scope/\q=c.qual/\cs.map (·.1)=[c.nm]then dz cs.head? λx=>f x.2 else av
 | _=>av
open Classical in
theorem vH{β:Type}{C:Prop}{c:KI}{f:Nat->M β}{o:O}{r:β×St}(h:HI c f o st=some r)(k:∀k1,o=.clo c.params (.stmts c.body) c.scope c.qual [(c.nm,k1)]->f k1 st=some r->C):C:=by
 cases o with
 | clo p b sc q cs =>
  refine aG h λe h1=>aX h1 λx hx h2=>?_
  obtain⟨e1,e2,e3,e4,e5⟩:=e
  refine k x.2 ?_ h2
  rw[e1,e2,e3,e4]
  cases cs with
  | nil=>exact nO hx
  | cons y cs =>
   obtain rfl:=sj hx
   obtain⟨e1,e2⟩:=SY e5
   rw[RE.mp e2,<- e1]
 | _=>exact nO h
noncomputable def mJ(C:Addr)(nm:Str)(mo:M V)(c:KI)(mb:M Fl)(i:Int):M V:=ao mo λx=>mG C x λu u fs=>dz (fs.lookup nm) λv=>eA v λj=>oO j (HI c λk1=>BJ mb k1 (.int i))
theorem wB(OK:B.Ok)(hlow:∀a∈B.tabs,a<B.n₀)(hlim:B.h₀.NoLimit)(hns:P.NoStore){K:Frag}{C:Addr}(X:gT B K C){o:OQ}{nm:Str}{apos pos cp:Pos}{u:Nat}{i:Int}{mo:M V}{c:KI}{mb:M Fl}
  (hf:findIn K (.ref C) nm=some none) (CO:qP c.params c.body c.scope c.pn c.nm) (ho:aR B P (n+1) o mo)
  (hb:∀fd L a stk k a',fd.params=c.params->fd.scope=c.scope->fd.globals=Pz->fd.builtins=builtinsNs->(dP fd L a stk c.pn c.nm k a').Ok->gZ B (dP fd L a stk c.pn c.nm k a') n c.body mb)
  (hbase:attributeBase o nm P.env (eval o P.env)=eval o P.env)
  (hfew:((backTo pos (Pb [.Constant (.int i) u cp] P.env)).all (λx=> !x.1)&&(backToKw pos (keywordEach [] P.env)).all (λx=>x.1.isSome)
   &&decide (([.Constant (.int i) u cp]:List OQ).length+([]:List Keyword).length+(if ([]:List Keyword).isEmpty then 0 else 1)<30))=true)
  (hline:(apos.endLine==pos.line)=true)
  (hst:backTo pos (Pb [.Constant (.int i) u cp] P.env)=[(false,eval (.Constant (.int i) u cp) P.env)]) :
  aR B P (n+1) (.Call (.Attribute o nm apos) [.Constant (.int i) u cp] [] pos) (mJ C nm mo c mb i):=by
 intro A hA ρ st s R y st' hm Q E h
 refine ae hm λx st1 e1 e2=>?_
 refine lN hbase hfew hline (ho A hA ρ st s R x st1 e1 _ _ λv ρ1 s₁ r1 R1 G₁ pl=>?_)
 refine fR r1 e2 λk d fs a m ev ha h1 hfs e3=>aX e3 λvj hl e4=>lT e4 λj ej e5=>bS e5 λoc hj e6=>vH e6 λk1 eo e7=>?_
 clear hm e1 e2 e3 e4 e5 e6 r1
 subst ev;subst ej;subst eo
 have hin:K.In s₁.heap:=X.inn.keeps R1.kept
 obtain⟨dx,es,dn,hd,e,rq,I⟩:=pQ R1.toRel0 ha h1 hfs
 refine method_usual hin I X.get.1 X.get.2 hf rfl (ka OK X hf R1 ha h1 hfs hl rfl λw rw'=>?_)
 clear e rq I hin
 obtain⟨ja,hja,rfl⟩:=rw'
 obtain⟨oo,fd,cc,r⟩:=R1.obj j ja _ hja hj
 rw[hst]
 refine callWith_function (evalArgs_plain (spliced_cons (wpAny_Constant_int (spliced_nil ⟨⟨r.at_,r.data⟩,?_⟩))))
 have R3:bB B P ρ1 st1 { s₁ with toks:=s₁.toks+1+1 }:=⟨R1.toks OK _,PN 1 _⟩
 exact J7 (x:=.int i) OK hlow hlim CO hns hb hA R3 hja hj ⟨s₁.toks+1,rfl⟩ e7 λv ρ' s' r' R' G'=>h v ρ' s' r' R' (G₁.trans ((aW.toks _).trans G'))
end
noncomputable def di(h:Heap):List Addr->Heap
 | []=>h
 | x::X=>(di h X).update x λo=>{ o with data:=.freed }
theorem z1(h:Heap)(x:Addr):(h.update x λo=>{ o with data:=.freed }).get? x=none:=by
 delta Heap.get? Heap.update
 dsimp only
 rw[Array.getElem?_modify,if_pos rfl]
 cases h.objs[x]? <;>rfl
theorem bR(h:Heap):∀(X:List Addr)(b:Addr),(di h X).get? b=if b∈X then none else h.get? b
 | [],b=>by simp[di]
 | x::X,b=>by
  unfold di
  by_cases e:x=b
  ·subst e;rw[z1];simp
  ·rw[Sc _ _ e,bR h X b]
   have e':¬b=x:=λq=>e q.symm
   simp[e']
theorem jj{h:Heap}{X:List Addr}{b:Addr}{o:Obj}(e:(di h X).get? b=some o):b∉X/\h.get? b=some o:=by
 rw[bR]at e
 split at e
 ·exact nO e
 ·rename_i hn;exact⟨hn,e⟩
section
variable {B:bc}{P P':Fc}{A:Around}{n:Nat}{ρ ρ' ρ'':List Addr}{st st':St}{s s' s'':OX}{env:Env}{outer:List Env}{e T L:Addr}
noncomputable def oZ(h:Heap)(e:Addr)(cls:OT):Prop:=∃oe vs,h.get? e=some oe/\oe.cls=cls/\oe.data=.fields vs/\vs[1]?=some .none
noncomputable def k9(h:Heap)(e T:Addr)(cls:OT):Prop:=∃oe vs oT ts,h.get? e=some oe/\oe.cls=cls/\oe.data=.fields vs/\vs[1]?=some (.ref T)/\T≠e/\h.get? T=some oT/\oT.data=.fields ts/\ts[3]?=some .none
noncomputable abbrev Io(B:bc)(P:Fc)(ρ:List Addr)(h:Heap):Prop:=∀x∈P.stk,gY B ρ h x
theorem lP{base:Heap}(hb:∀env∈P.stk,∀L,env.frame=some L->base.get? L=none)(R:Io B P ρ s.heap):∀l:List Env,(∀x∈l,x∈P.stk)->s.heap.FunFrames base l
 | [],_=>trivial
 | x::l,h=>by
  obtain⟨hk,L,o,h1,h2,h3,h4,h5,es,m,h6⟩:=R x (h x Pe)
  exact⟨hk,⟨L,o,h1,hb x (h x Pe) L h1,h4,λvs=>by rw[h6];simp⟩,lP hb R l λy hy=>h y (Pa _ hy)⟩
theorem rA{x:Addr}(h:x∈P.stk.filterMap (·.frame))(R:Io B P ρ s.heap):B.n₀<=x/\∃o,s.heap.get? x=some o/\o.cls=.type "frame"/\∀vs,o.data≠.fields vs:=by
 obtain⟨env,he,hf⟩:=SL.mp h
 obtain⟨hk,L,o,h1,h2,h3,h4,h5,es,m,h6⟩:=R env he
 rw[hf]at h1;obtain rfl:=sj h1
 exact⟨h2,o,h4,h5,λvs=>by rw[h6];simp⟩
theorem rF{l:List Env}{X:List Addr}{cls:OT}{h':Heap}(R:Io B P ρ s.heap)(hX:∀x∈X,∃o vs,s.heap.get? x=some o/\o.data=.fields vs)(hl:Heap.Left (di s.heap (X++P.stk.filterMap (·.frame))) l e cls s.heap h')(he:e∈X) :
  (∀b o,b∉X->s.heap.get? b=some o->cu B.n₀ h' b o)/\∃T,k9 h' e T cls/\(T∈X\/s.heap.get? T=none):=by
 obtain⟨k1,k2,⟨oe,vs,T,oT,ts,t1,t2,t3,t4,t5,t6,t7,t8,t9⟩,k4⟩:=hl
 refine⟨λb o hb eo=>?_,T,⟨oe,vs,oT,ts,t1,t2,t3,t4,t6,t7,t8,t9⟩,?_⟩
 ·by_cases hf:b∈P.stk.filterMap (·.frame)
  ·obtain⟨hn,o',e',hc,hd⟩:=rA hf R
   rw[eo]at e';obtain rfl:=sj e'
   obtain⟨sl,q⟩:=k4 b o eo hd
   exact⟨sl,q,.inr ⟨hc,hn⟩⟩
  ·refine cu.of (k1 b o ?_)
   rw[bR,if_neg (by simp only[Pk];rintro (q | q);exact hb q;exact hf q)]
   exact eo
 ·rw[bR]at t5
  split at t5
  ·rename_i hm
   rcases Pk.mp hm with q | q
   ·exact .inl q
   ·obtain⟨hn,o',e',hc,hd⟩:=rA q R
    obtain⟨sl,q'⟩:=k4 T o' e' hd
    rw[t7]at q';obtain rfl:=sj q'
    exact absurd t8 (hd ts)
  ·exact .inr t5
theorem v6{cls:OT}{Q:Unit->OX->Prop}{E:OT->OX->Prop}(R:Io B P ρ s.heap)(hstk:P.stk=env::outer)(hfr:A.frames=some P.stk)(hf:env.frame=some L)(hx:oZ s.heap e cls)
  (h:∀h' T,(∀b o,b≠e->s.heap.get? b=some o->cu B.n₀ h' b o)->k9 h' e T cls->s.heap.get? T=none->Q () { s with heap:=h' }):Ph (model B.prog B.w) A (leaving env (.ref e)) Q E s:=by
 obtain⟨oe,vs,he,hc,hd,h1⟩:=hx
 have base0:∀x∈P.stk,∀L,x.frame=some L->(di s.heap ([e]++P.stk.filterMap (·.frame))).get? L=none:=λx hx L hL=>by
  rw[bR,if_pos (List.mem_append_right _ (SL.mpr ⟨x,hx,hL⟩))]
 have hff:=lP base0 R P.stk λu h=>h
 subst hc
 refine wpAny_leaving_first (base:=di s.heap ([e]++P.stk.filterMap (·.frame))) (hstk▸hfr) (hstk▸hff) hf he (λb o eb=>(jj eb).2) (by rw[bR];simp) hd h1 λh' hl=>?_
 obtain⟨q1,T,q2,q3⟩:=rF (X := [e]) R (λx hx=>by rw[OS.mp hx];exact⟨oe,vs,he,hd⟩) hl (by simp)
 refine h h' T (λb o hb=>q1 b o (by simpa using hb)) q2 ?_
 rcases q3 with q | q
 ·obtain⟨_,_,_,_,_,_,_,_,ne,_⟩:=q2;exact absurd (OS.mp q) ne
 ·exact q
end
inductive dC(β:Type) where
 | ok (y:β)
 | stop
noncomputable def li{α β:Type}(m:M (dC α))(f:α->M (dC β)):M (dC β):=ao m λr=>match r with
 | .ok y=>f y
 | .stop=>aa .stop
noncomputable def Aj{β:Type}(m:M β):M (dC β):=ao m λy=>aa (.ok y)
noncomputable abbrev lB:OT:=.type "StopIteration"
section
variable {B:bc}{P P':Fc}{A:Around}{n:Nat}{ρ ρ' ρ'':List Addr}{st st':St}{s s' s'':OX}
noncomputable def K0{α β:Type}(B:bc)(P:Fc)(ρ:List Addr)(st':St)(s:OX)(Rr:List Addr->β->α->Prop)(Q:α->OX->Prop)(E:OT->OX->Prop):dC β->Prop
 | .ok y=>∀a ρ' s',Rr ρ' y a->bB B P ρ' st' s'->aW B P ρ s ρ' s'->Q a s'
 | .stop=>∀e ρ' s',bB B P ρ' st' s'->aW B P ρ s ρ' s'->sz s<=e->e∉ρ'->oZ s'.heap e lB->E (.ref e) s'
noncomputable def jR{α β:Type}(B:bc)(P:Fc)(n:Nat)(t:Sem α)(Rr:List Addr->β->α->Prop)(m:M (dC β)):Prop :=
 ∀A,iZ P n A->∀ρ st s,bB B P ρ st s->∀r st',m st=some (r,st')->∀Q E,K0 B P ρ st' s Rr Q E r->Ph (model B.prog B.w) A t Q E s
noncomputable def vz{α β:Type}(B:bc)(P:Fc)(n:Nat)(t:Sem α)(Rr:List Addr->β->α->Prop)(m:M (dC β)):Prop :=
 ∀A,iZ P n A->∀ρ st s,bB B P ρ st s->∀r st',m st=some (r,st')->∀Q E,PassesOwn (model B.prog B.w) A P.env E->K0 B P ρ st' s Rr Q E r->Ph (model B.prog B.w) A t Q E s
theorem jR.x{α β:Type}{t:Sem α}{Rr:List Addr->β->α->Prop}{m:M (dC β)}(h:jR B P n t Rr m):vz B P n t Rr m:=λA hA ρ st s R r st' hm Q E u k=>h A hA ρ st s R r st' hm Q E k
theorem oi.x0{α β:Type}{t:Sem α}{Rr:List Addr->β->α->Prop}{m:M β}(h:oi B P n t Rr m):jR B P n t Rr (Aj m):=λA hA ρ st s R r st' hm Q E k=>by
 refine ae hm λy st1 e1 e2=>?_
 obtain⟨rfl,rfl⟩:=ai e2
 exact h A hA ρ st s R y st' e1 Q E k
theorem K0.grow{α β:Type}{Rr:List Addr->β->α->Prop}{Q:α->OX->Prop}{E:OT->OX->Prop}{r:dC β}(G:aW B P ρ s ρ' s')(h:K0 B P ρ st' s Rr Q E r):K0 B P ρ' st' s' Rr Q E r:=by
 cases r with
 | ok y=>exact λa ρ2 s2 ra R2 G₂=>h a ρ2 s2 ra R2 (G.trans G₂)
 | stop=>exact λe ρ2 s2 R2 G₂ h1 h2 h3=>h e ρ2 s2 R2 (G.trans G₂) (OZ G.size h1) h2 h3
theorem zT:entryFor table "next"=some Builtin.«next» := entryFor_of_tree (by kernel_rfl)
theorem CA:builtinKind "next"=none:=by decide+kernel
theorem Am:plainId "next"=true:=by decide+kernel
theorem zJ(a:OT):argsOk "next" ⟨[a],[]⟩:=by unfold argsOk;kernel_rfl
noncomputable def K1{β:Type}(f:Nat->Nat->M β)(o:O):M β:=match o with | .listIter l i=>f l i | _=>av
theorem zK{β:Type}{C:Prop}{f:Nat->Nat->M β}{o:O}{r:β×St}(h:K1 f o st=some r)(c:∀l i,o=.listIter l i->f l i st=some r->C):C:=by
 cases o with
 | listIter l i=>exact c l i rfl h
 | _=>exact nO h
noncomputable def Mg(k l i:Nat)(v:Option V):M (dC V):=match v with
 | some v=>wv k (.listIter l (i+1)) (.ok v)
 | none=>wv k .dead .stop
noncomputable def rI(me:M V):M (dC V):=ao me λx=>eA x λk=>oO k (K1 λl i=>cj l λxs=>Mg k l i xs[i]?)
theorem DV(OK:B.Ok){nm:Str}{p pos:Pos}{e:OQ}{me:M V}(hn:aR B P n (.Name nm p) (aa (.glob (.builtin "next"))))(he:aR B P n e me)
  (hst:backTo pos (Pb [e] P.env)=[(false,eval e P.env)]):jR B P n (eval (.Call (.Name nm p) [e] [] pos) P.env) aU (rI me):=by
 intro A hA ρ st s R r st' hm Q E h
 refine ae hm λx st1 e1 e2=>?_
 refine wpAny_Call_NameR (hn A hA ρ st s R _ _ rfl _ _ λv ρ0 s₀ r0 R0 G₀=>?_)
 obtain rfl:v=_:=r0
 rw[hst]
 refine callWith_builtin rfl (evalArgs_plain (spliced_cons (he A hA ρ0 st s₀ R0 x st1 e1 _ _ λv ρ1 s₁ r1 R1 G₁=>spliced_nil ?_)))
 have h:=h.grow (G₀.trans G₁)
 refine bH r1 e2 λk it ev hit e3=>bS e3 λo hk e4=>zK e4 λl i eo e5=>?_
 subst ev;subst eo
 clear hm e1 e2 e3 e4 r1
 obtain⟨la,hla,eit⟩:=R1.obj k it _ hit hk
 refine a5 R1 hla e5 λxs vs q hl el rq hlen e6=>?_
 clear e5
 have hT:s₁.TypeIs (.ref it) "list_iterator":=⟨_,eit,rfl⟩
 refine wpAny_with_toks R1.tpos (bQ (O8 (sz s₁)) (QU CA Am zT (zJ _) ?_))
 unfold Builtin.«next»
 refine OR (m:=someArgs "next" 1 2 _) (O3 (OR (wpAny_specialOf (name:=OO "__next__") hT slot_listiter_next.lookup
  (OR (wpAny_callSpecial?_slot (name:=OO "__next__") hT slot_listiter_next (wpAny_call_entry slot_listiter_next hT entry_listiter_next ?_ (args_listiter_next _)))))))
 show Ph _ _ (field (.ref it) 0>>=_) _ _ s₁
 refine OR (wpAny_field eit rfl (x:=.ref la) rfl ?_)
 show Ph _ _ (if (S4 la==Sm)=true then _ else _) _ _ s₁
 rw[if_neg (show ¬((S4 la==Sm)=true)from PA)]
 show Ph _ _ (field (.ref it) 1>>=_) _ _ s₁
 refine OR (wpAny_field eit rfl (x:=.int i 0) rfl ?_)
 show Ph _ _ (seqItems? (.ref la)>>=_) _ _ s₁
 refine OR (wpAny_seqItems el rfl ?_)
 have hnc:∀v,st1.σ[k]?≠some (.cell v):=λv=>by rw[hk];simp
 cases hx:xs[i]? with
 | some v =>
  rw[hx]at e6
  obtain⟨rfl,rfl⟩:=pj e6
  obtain⟨u,hu,ru⟩:=rq.get hx
  simp only[PB,show vs[i]?=some u by simpa using hu]
  refine OR (wpAny_setField_rec eit (by simp) λh1 g₁ k₁=>O3 ⟨u,rfl,O3 ⟨_,rfl,λhz tp=>?_⟩⟩)
  have hkk:∀b o,b≠it->s₁.heap.get? b=some o->h1.get? b=some o:=k₁.extBut
  exact h u ρ1 _ ru ⟨R1.toRel0.set OK hit hnc hkk ⟨la,hla,by rw[g₁];rfl⟩ ⟨_,g₁,by simp⟩ rfl rfl,tp⟩ ⟨bk.set hit hkk,hz⟩
 | none =>
  rw[hx]at e6
  obtain⟨rfl,rfl⟩:=pj e6
  simp only[PB,show vs[i]?=none from SJ.mpr (hlen▸Rz.mp hx)]
  refine OR (wpAny_rule (OR (wpAny_setField_rec eit (by simp) λh1 g₁ k₁=>rT (A:=A.in1.in1) hA.handled λh' e hk' hge hx' hz' hz tp=>?_)))
  have hkk:∀b o,b≠it->s₁.heap.get? b=some o->h'.get? b=some o:=λb o hb e=>hk' b o (k₁.extBut b o hb e)
  have hge:sz s₁<=e:=OZ (Qc k₁.1.symm) hge
  exact h e ρ1 _ ⟨R1.toRel0.set OK hit hnc hkk ⟨_,hk' _ _ g₁⟩ ⟨_,hk' _ _ g₁,by simp⟩ rfl rfl,tp⟩ ⟨bk.set hit hkk,hz⟩ hge (λhm=>by obtain⟨o,e,_⟩:=R1.live _ hm;exact bo e hge) hx'
noncomputable def tW(x y:V):M V:=bI x λa=>bI y λk=>if 0<=k/\k<=64/\a.natAbs<2^64 then aa (.int (a*2^k.toNat))else av
theorem JT(OK:B.Ok):cQ B P n (inplaceOp .LShift) tW:=by
 refine lu λA ρ st s i j ti tj z st' R hm Q E h=>aG hm λhs hm=>?_
 obtain⟨rfl,rfl⟩:=pj hm
 exact PyProof.Rows.ilshift_int_small hs.1 (by omega) hs.2.2 (R.done OK h ⟨_,rfl⟩)
noncomputable def Cv(x y:V):M V:=bI x λa=>bI y λb=>aa (.int (SZ a b))
theorem LV(OK:B.Ok):cQ B P n (inplaceOp .BitOr) Cv:=by
 refine lu λA ρ st s i j ti tj z st' R hm Q E h=>?_
 obtain⟨rfl,rfl⟩:=pj hm
 exact PyProof.Rows.ior_int (R.done OK h ⟨_,rfl⟩)
noncomputable def l8(i:Nat)(m:M (dC V)):M (dC Fl):=li m λx=>ao (setL i x) λu=>aa (.ok .next)
theorem wy(OK:B.Ok)(hP:P.Ok){i:Nat}{nm:Str}{e:OQ}{p pos:Pos}{m:M (dC V)}(hn:P.names[i]?=some (some nm))(he:jR B P n (eval e P.env) aU m)(hf:(P.env.kindOf nm==some .free)=false)(hs:swapsWith e (some (.Name nm p)) pos.line P.env=pure false) :
  jR B P n (exec (.Assign [.Name nm p] e pos) P.env) dW (l8 i m):=by
 intro A hA ρ st s R r st' hm Q E h
 refine ae hm λo st1 e1 e2=>?_
 cases o with
 | ok x =>
  obtain⟨rfl,rfl⟩:=pj e2
  exact wpAny_Assign_Name (he A hA ρ st s R _ st1 e1 _ E λv ρ1 s₁ r1 R1 G₁=>eu OK hP R1 hn hf r1 λs2 R2 G₂=>h _ ρ1 s2 rfl R2 (G₁.trans G₂)) hs
 | stop =>
  obtain⟨rfl,rfl⟩:=ai e2
  exact wpAny_Assign_Name (he A hA ρ st s R _ st' e1 _ E h) hs
noncomputable def k8(a b:M (dC Fl)):M (dC Fl):=li a λf=>match f with
 | .next=>b
 | f=>aa (.ok f)
theorem DX{t:Stmt}{ts:List Stmt}{m ms:M (dC Fl)}(ht:jR B P n (exec t P.env) dW m)(hs:jR B P n (execs ts P.env) dW ms):jR B P n (execs (t::ts) P.env) dW (k8 m ms):=by
 intro A hA ρ st s R r st' hm Q E h
 refine ae hm λo st1 e1 e2=>?_
 refine wpAny_execs_cons (ht A hA ρ st s R o st1 e1 _ _ ?_)
 cases o with
 | stop=>obtain⟨rfl,rfl⟩:=ai e2;exact h
 | ok f =>
  intro g ρ1 s₁ r1 R1 G₁
  cases f with
  | next=>obtain rfl:g=_:=r1;exact hs A hA ρ1 st1 s₁ R1 r st' e2 Q E (h.grow G₁)
  | cont=>obtain⟨rfl,rfl⟩:=ai e2;obtain rfl:g=_:=r1;exact h _ ρ1 s₁ rfl R1 G₁
  | brk=>obtain⟨rfl,rfl⟩:=ai e2;obtain rfl:g=_:=r1;exact h _ ρ1 s₁ rfl R1 G₁
  | ret x=>obtain⟨rfl,rfl⟩:=ai e2;obtain⟨v,rfl,hv⟩:=r1;exact h _ ρ1 s₁ ⟨v,rfl,hv⟩ R1 G₁
theorem Ha{t:Stmt}{ts:List Stmt}{m ms:M (dC Fl)}(ht:vz B P n (exec t P.env) dW m)(hs:vz B P n (execs ts P.env) dW ms):vz B P n (execs (t::ts) P.env) dW (k8 m ms):=by
 intro A hA ρ st s R r st' hm Q E hE h
 refine ae hm λo st1 e1 e2=>?_
 refine wpAny_execs_cons (ht A hA ρ st s R o st1 e1 _ _ hE ?_)
 cases o with
 | stop=>obtain⟨rfl,rfl⟩:=ai e2;exact h
 | ok f =>
  intro g ρ1 s₁ r1 R1 G₁
  cases f with
  | next=>obtain rfl:g=_:=r1;exact hs A hA ρ1 st1 s₁ R1 r st' e2 Q E hE (h.grow G₁)
  | cont=>obtain⟨rfl,rfl⟩:=ai e2;obtain rfl:g=_:=r1;exact h _ ρ1 s₁ rfl R1 G₁
  | brk=>obtain⟨rfl,rfl⟩:=ai e2;obtain rfl:g=_:=r1;exact h _ ρ1 s₁ rfl R1 G₁
  | ret x=>obtain⟨rfl,rfl⟩:=ai e2;obtain⟨v,rfl,hv⟩:=r1;exact h _ ρ1 s₁ ⟨v,rfl,hv⟩ R1 G₁
noncomputable def du(t:M Bool)(b:M (dC Fl)):Nat->M (dC Fl)
 | 0=>av
 | f+1=>ao t λc=>if c=true then li b λr=>match r with
   | .next=>du t b f
   | .cont=>du t b f
   | .brk=>aa (.ok .next)
   | .ret x=>aa (.ok (.ret x))
  else aa (.ok .next)
theorem vk{C:Prop}{fl:Fl}{y:dC Fl}{g:Flow}{next:M (dC Fl)}(e:(match fl with | .next=>next | .cont=>next | .brk=>aa (.ok .next) | .ret x=>aa (.ok (.ret x)):M (dC Fl)) st=some (y,st'))(r:dW ρ fl g)
  (hJ:g=.next\/g=.cont->next st=some (y,st')->C) (hb:g=.brk->y=.ok .next->st'=st->C) (hr:∀x v,g=.ret v->aU ρ x v->y=.ok (.ret x)->st'=st->C):C:=by
 cases fl with
 | next=>exact hJ (.inl r) e
 | cont=>exact hJ (.inr r) e
 | brk=>exact hb r (ai e).1 (ai e).2
 | ret x=>obtain⟨v,e1,hv⟩:=r;exact hr x v e1 hv (ai e).1 (ai e).2
theorem AG(fuel:Nat){t:OQ}{b:List Stmt}{pos:Pos}{mt:M Bool}{mb:M (dC Fl)}(ht:lH B P n t mt)(hb:jR B P n (execs b P.env) dW mb):vz B P n (exec (.While t b [] pos) P.env) dW (du mt mb fuel):=by
 intro A hA ρ st s R r st' hm Q E hE h
 refine wpAny_While ?_
 obtain⟨I,hI⟩:∃I:Nat->OX->Prop,∀f s₁,I f s₁↔∃ρ1 st1,bB B P ρ1 st1 s₁/\aW B P ρ s ρ1 s₁/\du mt mb f st1=some (r,st'):=⟨_,λu u=>Tu⟩
 refine lX I fuel (λf s₁ E' J hE' hJ h₁=>?_) (λs h=>?_) ((hI _ _).mpr ⟨ρ,st,R,aW.refl,hm⟩) ⟨_,_,rfl⟩
 ·obtain⟨ρ1,st1,R1,G₁,hm1⟩:=(hI _ _).mp h₁
  replace hJ:=λρ2 st2 s2 R2 G₂ m2=>hJ s2 ((hI _ _).mpr ⟨ρ2,st2,R2,G₂,m2⟩)
  replace hE':=λe s h=>hE' e s (hE e s h)
  clear hI h₁ hm R hE
  refine ae hm1 λc st2 e₁ e₂=>ht A hA ρ1 st1 s₁ R1 c st2 e₁ _ _ λd ρ2 s2 r2 R2 G₂=>?_
  obtain rfl:d=c:=r2
  replace G₁:=G₁.trans G₂
  clear hm1 e₁ R1 G₂
  cases d with
  | false=>obtain⟨rfl,rfl⟩:=pj e₂;exact h _ ρ2 s2 rfl R2 G₁
  | true =>
   refine ae e₂ λo st3 e3 e4=>hb A hA ρ2 st2 s2 R2 o st3 e3 _ _ ?_
   cases o with
   | stop =>
    obtain⟨rfl,rfl⟩:=pj e4
    exact λx ρ3 s3 R3 G₃ h1 h2 h3=>hE' _ _ (h x ρ3 s3 R3 (G₁.trans G₃) (OZ G₁.size h1) h2 h3)
   | ok fl =>
    intro g ρ3 s3 r3 R3 G₃
    replace G₁:=G₁.trans G₃
    clear e₂ e3 R2 G₃ hE'
    refine vk e4 r3 (λhg e=>?_) (λhg e1 e2=>?_) λx v hg hv e1 e2=>?_
    ·have:=hJ ρ3 st3 s3 R3 G₁ e
     rcases hg with e | e<;>subst e<;>exact this
    ·subst hg;subst e1;exact h _ ρ3 s3 rfl (e2▸R3) G₁
    ·subst hg;subst e1;exact h _ ρ3 s3 ⟨v,rfl,hv⟩ (e2▸R3) G₁
 ·obtain⟨_,_,_,_,q⟩:=(hI _ _).mp h
  exact nO q
variable {fd:PF}{body:List Stmt}{ps nms:List Str}{L a:Addr}{stk:List Env}
noncomputable def KK{β:Type}(B:bc)(P:Fc)(ρ:List Addr)(st':St)(s:OX)(Qo:β->List Addr->OX->Prop)(E:OT->OX->Prop):dC β->Prop
 | .ok y=>∀ρ' s',bB B P ρ' st' s'->aW B P ρ s ρ' s'->Qo y ρ' s'
 | .stop=>∀e T ρ' sp h',bB B P ρ' st' sp->aW B P ρ s ρ' sp->sz s<=e->e∉ρ'->oZ sp.heap e lB->sp.heap.get? T=none->(∀b o,b≠e->sp.heap.get? b=some o->cu B.n₀ h' b o)->k9 h' e T lB->sz sp<=h'.objs.size->E (.ref e) { sp with heap:=h' }
noncomputable def H8(o:dC Fl):Option (dC V):=match o with
 | .ok (.ret x)=>some (.ok x)
 | .stop=>some .stop
 | _=>none
noncomputable def Jb(k:Nat)(mb:M (dC Fl))(xs:List V):M (dC V):=λst=>(mb ⟨st.σ,fS k xs⟩).bind λp=>(H8 p.1).map (·,⟨p.2.σ,st.L⟩)
theorem B4{C:Prop}{k:Nat}{mb:M (dC Fl)}{xs:List V}{y:dC V}(h:Jb k mb xs st=some (y,st'))(c:∀f st1,mb ⟨st.σ,fS k xs⟩=some (f,st1)->H8 f=some y->st'=⟨st1.σ,st.L⟩->C):C :=
 aV h λp e1 h=>dy h λv e2 e=>c p.1 p.2 e1 (e2.trans (congrArg some (PZ e).1.symm)) (PZ e).2
noncomputable def eJ(B:bc)(n:Nat)(g:OT)(f:List V->M (dC V)):Prop :=
 ∀P,P.NoStore->∀A,iZ P n A->∀ρ st s vs xs,bB B P ρ st s->aL ρ xs vs->∀r st',f xs st=some (r,st')->∀RR:Result->OX->Prop,
  KK B P ρ st' s (λy ρ' s'=>∀v,aU ρ' y v->RR (.ok (.ret v)) s') (λe s'=>RR (.error e) s') r->codeAny (model B.prog B.w) A (.call g ⟨vs,[]⟩) RR s
theorem Ka(OK:B.Ok)(hlow:∀a∈B.tabs,a<B.n₀)(hlim:B.h₀.NoLimit)(F:dw fd body ps nms)(O:cB B a fd){mb:M (dC Fl)}
  (hb:∀L stk,(bC fd L a stk nms).Ok->vz B (bC fd L a stk nms) n (execs body (bC fd L a stk nms).env) dW mb):eJ B (n+1) (.ref a) λxs=>if xs.length=ps.length then Jb nms.length mb xs else av:=by
 intro P hns A hA ρ st s vs xs R rx r st' hm RR h
 refine aG (p:=xs.length=ps.length) hm λhl hm1=>B4 hm1 λo' st2 e2 hv e3=>?_
 subst e3
 clear hm hm1
 obtain⟨o,eo,hd⟩:=O.obj
 have hd0:=hA.depth
 have hu0:=hA.units
 refine codeAny_call_function (by show A.depth<1000;lia) (R.kept _ _ eo) hd F.co F.gen F.body (O.crec.keeps R.kept) ?_
 rw[F.bind vs (by rw[<- hl];exact rx.length.symm),F.clo]
 refine O3 (wpAny_with_toks R.tpos (sM F.kind (λb hb=>?_) λenv he s₁ x fr ht=>?_))
 ·have hm:b.1∈nms:=F.pre.subset (Rh hb).1
  rcases F.kinds _ hm with h | h
  ·exact .inl h
  ·exact .inr ⟨h,cW _ _ _ _ (.inl (mem_of_lookup h))⟩
 ·subst he
  refine⟨hlim.keeps λb o e=>x.toInCall.keep b o (R.kept b o e),codeAny_func ?_⟩
  obtain⟨R1,hk⟩:=bB.call OK F R rx hl ht x fr
  have hw:=pF (stk:=P.stk) F x
  have hsz:sz s<=sz s₁:=by obtain⟨o,e,_⟩:=fr;exact Pq (Pu e)
  have hA':iZ (bC fd s.heap.objs.size a P.stk nms) n (A.deeper (callEnvC fd s.heap.objs.size a)) :=
   ⟨by show A.frames.map _=_;rw[hA.frames];rfl,hA.handled,by show A.depth+1+n<=800;lia,by show A.units+3+10*n<=9000;lia⟩
  have G₀:aW (B:=B) (bC fd s.heap.objs.size a P.stk nms) ρ s ρ s₁:=⟨bk.ext hk,hsz⟩
  have hs:∀e∈P.stk,e∈(bC fd s.heap.objs.size a P.stk nms).stk:=λe he=>Pa _ he
  have hb:=hb s.heap.objs.size P.stk (sE F x.apart) _ hA' ρ _ s₁ R1 _ st2 e2
  clear R1 x fr ht hd0 hu0 e2 hk
  refine hb _ _ PassesOwn.leaving ?_
  clear hb
  cases o' with
  | ok f=>cases f with
   | ret y =>
    obtain rfl:=sj hv
    intro g ρ2 s2 rf R2 G₂
    obtain⟨v,rfl,rv⟩:=rf
    obtain⟨R3,G₃⟩:=bB.back hlow hns R R2 (G₀.trans G₂) hw hs
    exact h ρ2 s2 R3 G₃ v rv
   | _=>exact nO hv
  | stop =>
   obtain rfl:=sj hv
   intro e ρ2 s2 R2 G₂ h1 h2 h3
   obtain⟨R4,G₄⟩:=bB.back hlow hns R R2 (G₀.trans G₂) hw hs
   exact bQ (O8 (sz s2)) (v6 (L:=s.heap.objs.size) R2.stk rfl hA'.frames rfl h3 λh' T hk' hT hTn hz=>h e T ρ2 s2 h' R4 G₄ (OZ hsz h1) h2 h3 hTn hk' hT hz)
variable {env:Env}{outer:List Env}{e T:Addr}
theorem CZ{M:Model}{E:OT->OX->Prop}{base:Heap}{cls:OT}{Q:Unit->OX->Prop}(hfr:A.frames=some (env::outer))(hl:s.heap.FunFrames base (env::outer))(hf:env.frame=some L)(ht:s.heap.Traced base e cls)(hkb:base.StaysIn s.heap)(hen:base.get? e=none)
  (h:∀h',Heap.Left base (env::outer) e cls s.heap h'->Q () { s with heap:=h' }):Ph M A (noteFrame (.ref e) env) (λu s'=>Ph M A (setFlight (.ref e) none) Q E s') E s:=by
 obtain⟨oe,vs,T,oT,ts,he,hcls,hd,h1,hnT,hTe,hT,hdT,h3⟩:=ht
 subst hcls
 unfold noteFrame
 simp only[hf]
 refine OR (wpAny_field he hd h1 ?_)
 rw[if_pos (show(S4 T != Sm)=true from by simp)]
 refine OR (wpAny_field hT hdT h3 ?_)
 rw[if_neg (show ¬((Sm==rawInt L)=true)from by simp[rawInt])]
 refine OR (wpAny_setField hT hdT (Rp.mp h3).1 ?_)
 have other:∀b,b≠T->(s.heap.update T (Obj.mapFields (·.setIfInBounds 3 Sm))).get? b=s.heap.get? b:=λb hb=>Sc _ _ (QA hb)
 have noRecord:∀b o,s.heap.get? b=some o->(∀vs,o.data≠.fields vs)->b≠T:=λb o hb hnf q=>by
  rw[q,hT]at hb;injection hb with hb;subst hb;exact hnf ts hdT
 exact wpAny_newEntry hfr (hl.of_keeps λb o hb hnf=>⟨o,(other b (noRecord b o hb hnf)).trans hb,rfl⟩) hf ((other e (QA hTe)).trans he)
  (λb o hbo=>(other b λq=>by rw[q,hnT]at hbo;exact nO hbo).trans (hkb b o hbo)) hen hd (Rp.mp h1).1
  λh' q=>by obtain⟨x1,x2,x3,x4⟩:=q;exact h h' ⟨x1,x2,x3,λb o hb hnf=>x4 b o ((other b (noRecord b o hb hnf)).trans hb) hnf⟩
theorem Ag{cls:OT}{Q:Unit->OX->Prop}{E:OT->OX->Prop}(R:Io B P ρ s.heap)(hstk:P.stk=env::outer)(hfr:A.frames=some P.stk)(hf:env.frame=some L)(hx:k9 s.heap e T cls)
  (h:∀h' T',(∀b o,b∉[e,T]->s.heap.get? b=some o->cu B.n₀ h' b o)->k9 h' e T' cls->(T'∈[e,T]\/s.heap.get? T'=none)->Q () { s with heap:=h' }):Ph (model B.prog B.w) A (noteFrame (.ref e) env) (λu s'=>Ph (model B.prog B.w) A (setFlight (.ref e) none) Q E s') E s:=by
 obtain⟨oe,vs,oT,ts,he,hc,hd,h1,hTe,hT,hdT,h3⟩:=hx
 have base0:∀x∈P.stk,∀L,x.frame=some L->(di s.heap ([e,T]++P.stk.filterMap (·.frame))).get? L=none:=λx hx L hL=>by
  rw[bR,if_pos (List.mem_append_right _ (SL.mpr ⟨x,hx,hL⟩))]
 have hff:=lP base0 R P.stk λu h=>h
 refine CZ (base:=di s.heap ([e,T]++P.stk.filterMap (·.frame))) (cls:=cls) (hstk▸hfr) (hstk▸hff) hf ⟨oe,vs,T,oT,ts,he,hc,hd,h1,by rw[bR];simp,hTe,hT,hdT,h3⟩ (λb o eb=>(jj eb).2) (by rw[bR];simp) λh' hl=>?_
 obtain⟨q1,T',q2,q3⟩:=rF (X := [e,T]) R (λx hx=>by
  rcases PW.mp hx with rfl | hx
  ·exact⟨oe,vs,he,hd⟩
  ·rw[OS.mp hx];exact⟨oT,ts,hT,hdT⟩) hl (by simp)
 exact h h' T' q1 q2 q3
theorem Ah{cls:OT}{Q:Unit->OX->Prop}{E:OT->OX->Prop}(R:Io B P ρ s.heap)(hstk:P.stk=env::outer)(hfr:A.frames=some P.stk)(hf:env.frame=some L)(hx:k9 s.heap e T cls)
  (h:∀h' T',(∀b o,b∉[e,T]->s.heap.get? b=some o->cu B.n₀ h' b o)->k9 h' e T' cls->(T'∈[e,T]\/s.heap.get? T'=none)->sz s<=h'.objs.size->Q () { s with heap:=h' }):Ph (model B.prog B.w) A (noteFrame (.ref e) env) (λu s'=>Ph (model B.prog B.w) A (setFlight (.ref e) none) Q E s') E s :=
 bQ (O8 _) (wpAny_mono (Ag (Q:=λa s'=>sz s<=sz s'->Q a s') (E:=λx s'=>sz s<=sz s'->E x s') R hstk hfr hf hx λh' T' q1 q2 q3 hle=>h h' T' q1 q2 q3 hle) (λu u q hle=>bQ hle q) λu u q=>q)
theorem zZ{cls:OT}{Q:Unit->OX->Prop}{E:OT->OX->Prop}(hx:k9 s.heap e T cls)(h:∀h',(∀b o,b≠T->s.heap.get? b=some o->h'.get? b=some o)->h'.objs.size=s.heap.objs.size->Q () { s with heap:=h' }):Ph (model B.prog B.w) A (setFlight (.ref e) none) Q E s:=by
 obtain⟨oe,vs,oT,ts,he,hc,hd,h1,hTe,hT,hdT,h3⟩:=hx
 unfold setFlight
 refine OR (wpAny_field he hd h1 ?_)
 rw[if_pos (show(S4 T != Sm)=true from by simp)]
 refine wpAny_setField hT hdT (Rp.mp h3).1 (h _ (λb o hb eb=>?_) (Qw _ _ _))
 rw[Sc _ _ (QA hb)];exact eb
theorem AN:isSubtype (.type "StopIteration") (.type "BaseException")=pure true:=by rw[isSubtype_type];kernel_rfl
theorem wM:isSubtype (.type ((Manifest.find? "StopIteration").elim "type" λx=>x.metatype)) (.type "tuple")=pure false:=by rw[isSubtype_type];kernel_rfl
theorem vZ(OK:B.Ok)(hP:P.Ok)(hstk:P.stk=P.env::outer)(hfr:P.env.frame=some L)(hA:iZ P n A){i:Nat}{nm:Str}{np rp sp' hp:Pos}{x:V}(hn:P.names[i]?=some (some nm))(hd:(nm==("__debug__":Str))=false)(hg:cJ B "StopIteration" lB)
  (he:P.env.globals=Pz/\P.env.builtins=builtinsNs) (hk:P.env.kindOf "StopIteration"=some .globalImplicit) {sp:OX} {h₁:Heap} (R:bB B P ρ st sp) (hxi:st.L[i]?=some (some x)) {s₀:OX} {ρ0:List Addr} (G:aW B P ρ0 s₀ ρ sp)
  (h1:sz s₀<=e) (h2:e∉ρ) (hxn:oZ sp.heap e lB) (hTn:sp.heap.get? T=none) (hS0:∀b o,b≠e->sp.heap.get? b=some o->cu B.n₀ h₁ b o) (hx:k9 h₁ e T lB) (hsz:sz sp<=h₁.objs.size) {Q:Flow->OX->Prop} {E:OT->OX->Prop}
  (hew:e∉P.wr) (hen:B.h₀.get? e=none)
  (h:∀v s',aU ρ x v->bB B P ρ st s'->aW B P ρ0 s₀ ρ s'->Q (.ret v) s') :
  Ph (model B.prog B.w) A (noteFrame (.ref e) P.env) (λu s2=>Ph (model B.prog B.w) A (setFlight (.ref e) none) (λu s3=>Ph (model B.prog B.w) A (handleBy (.ref e) P.env [.ExceptHandler (some (.Name "StopIteration" sp')) none [.Return (some (.Name nm np)) rp] hp]) Q E s3) E s2) E { sp with heap:=h₁ }:=by
 obtain⟨oe,vs,xe1,xe2,xe3,xe4⟩:=id hxn
 have hF:Io B P ρ h₁:=λy hy=>by
  obtain⟨hm,L,o,q1,q2,q3,q4,q5,es,m,q6⟩:=R.stk y hy
  have hLe:L≠e:=by rintro rfl;rw[q4]at xe1;obtain rfl:=sj xe1;rw[q6]at xe3;exact nc QW xe3 rfl
  obtain⟨o',e',hdd,hcc⟩:=(hS0 L o hLe q4).data
  exact⟨hm,L,o',q1,q2,q3,e',hcc.trans q5,es,m,hdd.trans q6⟩
 have hX:∀y∈[e],y∉ρ/\y∉P.wr/\B.h₀.get? y=none/\∃o vs,sp.heap.get? y=some o/\o.data=.fields vs/\cD o:=λy hy=>by
  rw[OS.mp hy]
  exact⟨h2,hew,hen,oe,vs,xe1,xe3,.inr (by rw[xe2];exact⟨by decide,by simp⟩)⟩
 have later:∀h₂:Heap,(∀b o,b≠e->sp.heap.get? b=some o->cu B.n₀ h₂ b o)->sz sp<=h₂.objs.size->bB B P ρ st { sp with heap:=h₂ }/\aW B P ρ0 s₀ ρ { sp with heap:=h₂ }:=λh₂ hS hz =>
  ⟨⟨R.toRel0.loose OK hX λb o hb eb=>hS b o (by simpa using hb) eb,R.tpos⟩,⟨G.pre,λb o eb q1 q2 q3=>(G.keep b o eb q1 q2 q3).trans λo' e'=>hS b o' (by rintro rfl;exact bo eb h1) e',G.new⟩,OZ G.size hz⟩
 refine Ah (s:={ sp with heap:=h₁ }) hF hstk hA.frames hfr hx λh' T' hS hT' hT'or hsz'=>?_
 have hS':∀b o,b≠e->sp.heap.get? b=some o->cu B.n₀ h' b o:=λb o hb eb=>(hS0 b o hb eb).trans λo' e'=>hS b o' (by
  simp only[PW,PL,or_false]
  rintro (q | q)
  ·exact hb q
  ·subst q;rw[hTn]at eb;exact nO eb) e'
 obtain⟨mg,g1,g2⟩:=hg.is
 have R':=(later h' hS' (OZ hsz hsz')).1
 have hT'n:∀b o,b≠e->sp.heap.get? b=some o->b≠T':=λb o hb eb q=>by
  subst q
  rcases hT'or with q | q
  ·rcases PW.mp q with q | q
   ·exact hb q
   ·rw[OS.mp q,hTn]at eb;exact nO eb
  ·obtain⟨o',e',_⟩:=(hS0 b o hb eb).data
   rw[q]at e';exact nO e'
 refine wpAny_handleBy_builtin (X:="StopIteration") (T:="StopIteration") (b:=true) AN wM isSubtype_stop ?_
 have hev:∀{Q:OT->OX->Prop}{E:OT->OX->Prop}{A:Around},Q (.type "StopIteration") { sp with heap:=h' }->Ph (model B.prog B.w) A (eval (.Name "StopIteration" sp') P.env) Q E { sp with heap:=h' }:=λhq=>by
  refine Name_function_global hP.fn hk ?_ (by decide)
  rcases g2 with g2 | ⟨g2,mb,g3,g4⟩
  ·exact loadGlobal_global (by rw[he.1];exact g1.keeps R'.kept) g2 hq
  ·exact loadGlobal_builtin (by rw[he.1];exact g1.keeps R'.kept) g2 (by rw[he.2];exact g3.keeps R'.kept) g4 hq
 refine hev ⟨rfl,?_,?_⟩
 ·obtain⟨oe,vs,oT,ts,he,hc,hd,h1,hTe,hT,hdT,h3⟩:=hT'
  exact⟨oe,he,hc⟩
 ·rw[if_pos rfl]
  refine zZ hT' λh₂ q1 q2=>?_
  obtain⟨R2,G₂⟩:=later h₂ (λb o hb eb=>(hS' b o hb eb).trans λo' e'=>cu.of (q1 b o' (hT'n b o hb eb) e')) (by rw[q2];exact OZ hsz hsz')
  exact wpAny_execs_cons (wpAny_Return_some (wpAny_Name (pW hP R2 hn hxi λv r=>h v _ r R2 G₂) hd))
noncomputable def zF{α β:Type}(B:bc)(P:Fc)(n:Nat)(t:Sem α)(Rr:List Addr->β->α->Prop)(m:M (dC β)):Prop :=
 ∀A,iZ P n A->∀ρ st s,bB B P ρ st s->∀r st',m st=some (r,st')->∀Q E,KK B P ρ st' s (λy ρ' s'=>∀a,Rr ρ' y a->Q a s') E r->Ph (model B.prog B.w) A t Q E s
theorem KK.grow{β:Type}{Qo:β->List Addr->OX->Prop}{E:OT->OX->Prop}{r:dC β}(G:aW B P ρ s ρ' s')(h:KK B P ρ st' s Qo E r):KK B P ρ' st' s' Qo E r:=by
 cases r with
 | ok y=>exact λρ2 s2 R2 G₂=>h ρ2 s2 R2 (G.trans G₂)
 | stop=>exact λe T ρ2 s2 h' R2 G₂ h1 h2=>h e T ρ2 s2 h' R2 (G.trans G₂) (OZ G.size h1) h2
theorem eJ.call{a:Addr}{f:List V->M (dC V)}(h:eJ B n (.ref a) f)(hns:P.NoStore){vs:List OT}{xs:List V}(hA:iZ P n A)(R:bB B P ρ st s)(rx:aL ρ xs vs){r:dC V}(hm:f xs st=some (r,st')){Q:OT->OX->Prop}{E:OT->OX->Prop}
  (k:KK B P ρ st' s (λy ρ' s'=>∀a,aU ρ' y a->Q a s') E r):Ph (model B.prog B.w) A (call (.ref a) vs) Q E s:=by
 refine wpAny_call (h P hns A hA ρ st s vs xs R rx r st' hm _ ?_)
 cases r with
 | ok y=>exact k
 | stop=>exact k
theorem DL(hns:P.NoStore){a:Addr}{fd:PF}{nm:Str}{p pos:Pos}{e:OQ}{es:List OQ}{ms:M (List V)}{f:List V->M (dC V)}(hn:aR B P n (.Name nm p) (aa (.glob (.ref a))))(O:cB B a fd)(hs:mZ B P n pos (e::es) ms)(hf:eJ B n (.ref a) f)
  (hst:Pb (e::es) P.env=(false,eval e P.env)::Pb es P.env):zF B P n (eval (.Call (.Name nm p) (e::es) [] pos) P.env) aU (ao ms f):=by
 intro A hA ρ st s R r st' hm Q E h
 refine ae hm λxs st2 e3 e4=>?_
 refine wpAny_Call_NameR (hn A hA ρ st s R _ _ rfl _ _ λv ρ1 s₁ r1 R1 G₁=>?_)
 obtain rfl:v=_:=r1
 obtain⟨o,eo,hd⟩:=O.obj
 refine callWith_function (j0 hst (hs A hA ρ1 st s₁ R1 xs st2 e3 _ _ λvs ρ2 s2 r2 R2 G₂=>⟨⟨R2.kept _ _ eo,hd⟩,?_⟩))
 exact hf.call hns hA R2 r2 e4 (h.grow (G₁.trans G₂))
theorem DU{T id:String}{kd:List O->V->Bool}{o e:OQ}{name:Str}{apos pos xp:Pos}{mo:M V}{me:M (dC V)}{f:List V->M V}(ho:aR B P n o mo)(hk:tC B kd T)(he:zF B P n (eval e P.env) aU me)(hf:bL B P n (.builtin id) f)
  (pa:PlainAttrs T) (slot:Slot T name id) (hty:typeOf (.builtin id)=pure (.type "method_descriptor"))
  (hbase:attributeBase o name P.env (eval o P.env)=eval o P.env)
  (hfew:((backTo pos (Pb [e] P.env)).all (λx=> !x.1)&&(backToKw pos (keywordEach [] P.env)).all (λx=>x.1.isSome)
   &&decide ([e].length+([]:List Keyword).length+(if ([]:List Keyword).isEmpty then 0 else 1)<30))=true)
  (hline:(apos.endLine==pos.line)=true)
  (hst:backTo pos (Pb [e] P.env)=[(false,eval e P.env)]) (hpl:(backTo pos (Pb [e] P.env)).any (·.1)=false)
  (hi:interactive P.env=false) (hsw:swapsWith (.Call (.Attribute o name apos) [e] [] pos) none xp.line P.env=pure false) :
  zF B P n (exec (.Expr (.Call (.Attribute o name apos) [e] [] pos) xp) P.env) dW (ao mo λx st=>if kd st.σ x=true then li me (λy=>ao (f [x,y]) λm=>aa (.ok .next)) st else none):=by
 intro A hA ρ st s R r st' hm Q E h
 refine ae hm λx st1 e1 e2=>?_
 split at e2
 ·rename_i hx
  refine ae e2 λq st2 e3 e4=>?_
  refine wpAny_Expr_any (wpAny_Call_method hbase hfew hline pa slot hty (ho A hA ρ st s R x st1 e1 _ _ λv ρ1 s₁ r1 R1 G₁=>?_)) hi hsw
  obtain⟨h1,h2⟩:=hk.is P ρ1 st1 s₁ x v R1 r1 hx
  refine⟨h1,h2,callWith_builtin hpl ?_⟩
  rw[hst]
  refine evalArgs_plain (spliced_cons (he A hA ρ1 st1 s₁ R1 q st2 e3 _ _ ?_))
  cases q with
  | stop =>
   obtain⟨rfl,rfl⟩:=ai e4
   exact h.grow G₁
  | ok y =>
   intro ρ2 s2 R2 G₂ u ru
   refine ae e4 λz st3 e5 e6=>?_
   obtain⟨rfl,rfl⟩:=ai e6
   refine spliced_nil ?_
   exact hf A hA ρ2 st2 s2 [v,u] [x,y] R2 ⟨r1.mono G₂.pre,ru,trivial⟩ z _ e5 _ E λc ρ3 s3 r3 R3 G₃=>h ρ3 s3 R3 (G₁.trans (G₂.trans G₃)) _ rfl
 ·exact nO e2
noncomputable def Ee(i:Nat)(r:dC Fl):M Fl:=match r with
 | .ok f=>aa f
 | .stop=>b8 (getL i)
noncomputable def th(i:Nat)(m:M (dC Fl)):M Fl:=ao m (Ee i)
theorem Hr(fuel:Nat){i:Nat}{t x:OQ}{xp:Pos}{mt:M Bool}{mb:M (dC Fl)}(hA:iZ P n A)(ht:lH B P n t mt)(hb:zF B P n (exec (.Expr x xp) P.env) dW mb){RR:Result->OX->Prop}{Q:Flow->OX->Prop}{H:OT->OX->Prop}{r:dC Fl}{st0:St}{y:Fl}
  (R:bB B P ρ st s) (e0:du mt mb fuel st=some (r,st0)) (e₁:Ee i r st0=some (y,st')) (h:Kn B P ρ s (λρ'=>dW ρ' y) st' Q) (hn:∀s,Q .next s->RR (.ok .next) s) (hr:∀v s,Q (.ret v) s->RR (.ok (.ret v)) s)
  (hE:∀e s,H e s->notedBy (model B.prog B.w) A P.env (λe s'=>RR (.error e) s') e s)
  (hstop:∀e T ρ3 st3 s3 h' x1,bB B P ρ3 st3 s3->aW B P ρ s ρ3 s3->st3.L[i]?=some (some x1)->sz s<=e->e∉ρ3->oZ s3.heap e lB->s3.heap.get? T=none->(∀b o,b≠e->s3.heap.get? b=some o->cu B.n₀ h' b o)->k9 h' e T lB->sz s3<=h'.objs.size ->
   (∀v s',aU ρ3 x1 v->bB B P ρ3 st3 s'->aW B P ρ s ρ3 s'->Q (.ret v) s')->H (.ref e) { s3 with heap:=h' }) :
  codeAny (model B.prog B.w) A (.whileLoop t [.Expr x xp] [] P.env) RR s:=by
 obtain⟨I,hI⟩:∃I:Nat->OX->Prop,∀f s₁,I f s₁↔∃ρ1 st1,bB B P ρ1 st1 s₁/\aW B P ρ s ρ1 s₁/\du mt mb f st1=some (r,st0):=⟨_,λu u=>Tu⟩
 refine lX I fuel (λf s₁ E' J hE' hJ h₁=>?_) (λs h=>?_) ((hI _ _).mpr ⟨ρ,st,R,aW.refl,e0⟩) ⟨_,_,rfl⟩
 ·obtain⟨ρ1,st1,R1,G₁,hm1⟩:=(hI _ _).mp h₁
  replace hJ:=λρ2 st2 s2 R2 G₂ m2=>hJ s2 ((hI _ _).mpr ⟨ρ2,st2,R2,G₂,m2⟩)
  replace hE':=λe s h=>hE' e s (hE e s h)
  clear hI h₁ e0 hE R
  refine ae hm1 λc st2 e3 e₂=>ht A hA ρ1 st1 s₁ R1 c st2 e3 _ _ λd ρ2 s2 r2 R2 G₂=>?_
  obtain rfl:d=c:=r2
  replace G₁:=G₁.trans G₂
  clear hm1 e3 R1 G₂
  cases d with
  | false=>obtain⟨rfl,rfl⟩:=pj e₂;obtain⟨rfl,rfl⟩:=pj e₁;exact hn _ (h _ ρ2 s2 rfl R2 G₁)
  | true =>
   refine ae e₂ λo st3 e5 e4=>wpAny_execs_cons (hb A hA ρ2 st2 s2 R2 o st3 e5 _ _ ?_)
   cases o with
   | stop =>
    obtain⟨rfl,rfl⟩:=pj e4
    intro e T ρ3 s3 h' R3 G₃ h1 h2 h3 h4 h5 h6 h7
    refine ae e₁ λx' st4 e6 e7=>iO e6 λx1 hx1 e8=>?_
    obtain⟨rfl,rfl⟩:=pj e7;obtain⟨rfl,rfl⟩:=PZ e8
    exact hE' _ _ (hstop e T ρ3 _ s3 h' _ R3 (G₁.trans G₃) hx1 (OZ G₁.size h1) h2 h3 h4 h5 h6 h7 λv s4 rv R4 G₄=>h _ ρ3 s4 ⟨v,rfl,rv⟩ R4 G₄)
   | ok fl =>
    intro ρ3 s3 R3 G₃ g r3
    replace G₁:=G₁.trans G₃
    clear e₂ e5 R2 G₃ hE'
    refine vk e4 r3 (λhg e=>?_) (λhg e1 e2=>?_) λx v hg hv e1 e2=>?_
    ·have:=hJ ρ3 st3 s3 R3 G₁ e
     rcases hg with e | e<;>subst e
     ·exact wpAny_execs_nil this
     ·exact this
    ·subst hg;subst e1;obtain⟨rfl,rfl⟩:=pj e₁;exact hn _ (h _ ρ3 s3 rfl (e2▸R3) G₁)
    ·subst hg;subst e1;obtain⟨rfl,rfl⟩:=pj e₁;exact hr _ _ (h _ ρ3 s3 ⟨v,rfl,hv⟩ (e2▸R3) G₁)
 ·obtain⟨_,_,_,_,q⟩:=(hI _ _).mp h
  exact nO q
theorem wJ(OK:B.Ok)(hP:P.Ok)(hstk:P.stk=P.env::outer)(hfr:P.env.frame=some L)(fuel:Nat){i:Nat}{nm:Str}{np rp sp' hp wp tp:Pos}{t x:OQ}{xp:Pos}{mt:M Bool}{mb:M (dC Fl)}
  (hn:P.names[i]?=some (some nm)) (hd:(nm==("__debug__":Str))=false) (hg:cJ B "StopIteration" lB)
  (he:P.env.globals=Pz/\P.env.builtins=builtinsNs) (hk:P.env.kindOf "StopIteration"=some .globalImplicit) (ht:lH B P n t mt) (hb:zF B P n (exec (.Expr x xp) P.env) dW mb) :
  i7 B P n (.Try [.While t [.Expr x xp] [] wp] [.ExceptHandler (some (.Name "StopIteration" sp')) none [.Return (some (.Name nm np)) rp] hp] [] [] tp) (th i (du mt mb fuel)):=by
 intro A hA ρ st s R y st' hm Q E h
 refine ae hm λr st0 e0 e1=>wpAny_Try_except (wpAny_execs_cons (wpAny_While ?_))
 exact Hr fuel hA ht hb R e0 e1 h (λs h=>wpAny_execs_nil (wpAny_execs_nil h)) (λv s h=>h) (λe s h=>PassesOwn.looking _ _ h) λe T ρ3 st3 s3 h' x1 R3 G₃ hx1 h1 h2 h3 h4 h5 h6 h7 k =>
  vZ OK hP hstk hfr hA hn hd hg he hk R3 hx1 G₃ h1 h2 h3 h4 h5 h6 h7 (λhm=>by obtain⟨o,eo,_⟩:=R.wlive _ hm;exact bo eo h1)
   (by cases hq:B.h₀.get? e with
    | none=>rfl
    | some o=>exact bo (R.kept _ _ hq) h1) k
structure xb(B:bc)(l:Addr)(js:List Int):Prop where
 is:∃vs:Array OT,B.h₀.IsList l vs/\aL [] (js.map .int) vs.toList
 short:js.length<=1000
noncomputable def tZ(l:Addr)(is:List Int)(o i:V):M V:=wg o λv=>bI i λk=>if v=.ref l/\0<=k/\k<=1000000 then dz is[k.toNat]? λx=>aa (.int x)else av
theorem DR(OK:B.Ok){l:Addr}{is:List Int}(G:xb B l is){value slice:OQ}{pos:Pos}{mv ms:M V}(hv:aR B P n value mv)(hs:aR B P n slice ms)
  (hsub:∀o i,subscripted slice false o i=operate [o,i] (getItem o i)):aR B P n (.Subscript value slice pos) (aj (tZ l is) mv ms):=by
 intro A hA ρ st s R y st' hm Q E h
 refine ae hm λx st1 e1 e2=>?_
 refine ae e2 λz st2 e3 e4=>?_
 refine S1 (hv A hA ρ st s R x st1 e1 _ _ λa ρ1 s₁ r1 R1 G₁=>hs A hA ρ1 st1 s₁ R1 z st2 e3 _ _ λb ρ2 s2 r2 R2 G₂=>?_)
 have ra:=r1.mono G₂.pre
 have h':∀v ρ3 s3,aU ρ3 y v->bB B P ρ3 st' s3->aW B P ρ2 s2 ρ3 s3->Q v s3:=λv ρ3 s3 r3 R3 G₃=>h v ρ3 s3 r3 R3 (G₁.trans (G₂.trans G₃))
 refine p5 ra e4 λg e5=>bG r2 e5 λkk u eb e6=>aG e6 λhk e7=>aX e7 λxi hg e8=>?_
 clear hm e1 e2 e3 e4 e5 e6 e7 r1 r2 ra
 obtain⟨rfl,rfl⟩:=pj e8
 obtain⟨ea,h0,h1⟩:=hk
 subst ea;subst eb
 obtain⟨vs,hl,q⟩:=G.is
 have hlk:s2.heap.IsList l vs:=by
  obtain⟨o,e,hc,m,hd⟩:=hl
  exact⟨o,R2.kept _ _ e,hc,m,hd⟩
 have hll:(is.map V.int).length=vs.size:=q.length
 rw[Pc]at hll
 have hsh:=G.short
 obtain⟨v,hv1,rv⟩:=q.get (i:=kk.toNat) (x:=.int xi) (by rw[Pn,hg];rfl)
 exact QT hlk.typeIs F.slot_list_getitem.lookup (wpAny_getItem_list hlk h0 (by lia) (by simpa using hv1) (h' v ρ2 s2 (rv.mono (List.nil_prefix ..)) R2 aW.refl)) (hsub _ _)
noncomputable def CI(l:Addr)(is:List Int)(xs:List V):M V:=if xs=[.glob (.ref l)]then aa (.int is.length)else ki xs
theorem E4(OK:B.Ok){l:Addr}{is:List Int}(G:xb B l is):bL B P n (.builtin "len") (CI l is):=by
 intro A hA ρ st s vs xs R r y st' hm Q E h
 unfold CI at hm
 by_cases hx:xs=[.glob (.ref l)]
 ·rw[if_pos hx]at hm
  subst hx
  obtain⟨rfl,rfl⟩:=pj hm
  obtain⟨v,rfl,rv⟩:=Aq r
  obtain rfl:v=_:=rv
  obtain⟨us,hl,q⟩:=G.is
  have hlk:s.heap.IsList l us:=by
   obtain⟨o,e,hc,m,hd⟩:=hl
   exact⟨o,R.kept _ _ e,hc,m,hd⟩
  have hll:(is.map V.int).length=us.size:=q.length
  rw[Pc]at hll
  have hsh:=G.short
  refine tk R h ?_;clear h;intro Q E h
  refine Tk hlk (by lia) ?_
  rw[<- hll]
  exact R.done OK h ⟨_,rfl⟩
 ·rw[if_neg hx]at hm
  exact lL OK A hA ρ st s vs _ R r y st' hm Q E h
theorem Dz(OK:B.Ok)(hlow:∀a∈B.tabs,a<B.n₀)(hlim:B.h₀.NoLimit)(F:dw fd body ps nms)(O:cB B a fd){mb:M Fl}
  (hb:∀L stk,(bC fd L a stk nms).Ok->gZ B (bC fd L a stk nms) n body mb) {xs:List V} {vs:List OT} (RN:o0 B [] [] [] s) (hz:sz s=B.n₀) (ht:1<=s.toks) (rx:aL [] xs vs) (hl:xs.length=ps.length)
  (hf:A.frames=some []) (hh:A.handled=none) (hd0:A.depth+(n+1)<=800) (hu0:A.units+10*(n+1)<=9000)
  {y:V} {st2:St} (hm:mb ⟨[],fS nms.length xs⟩=some (.ret y,st2)) {Q:OT->OX->Prop} {E:OT->OX->Prop}
  (h:∀v ρ2 s2,aU ρ2 y v->(∀b o,s.heap.get? b=some o->b∉B.tabs->s2.heap.get? b=some o)->B.tab ρ2 s2.heap->s2.gens= #[]->s2.os=s.os->Q v s2) :
  Ph (model B.prog B.w) A (call (.ref a) vs) Q E s:=by
 obtain⟨o,eo,hd⟩:=O.obj
 refine wpAny_call (codeAny_call_function (by show A.depth<1000;lia) (RN.kept _ _ eo) hd F.co F.gen F.body (O.crec.keeps RN.kept) ?_)
 rw[F.bind vs (by rw[<- hl];exact rx.length.symm),F.clo]
 refine O3 (wpAny_with_toks ht (sM F.kind (λb hb=>?_) λenv he s₁ x fr ht=>?_))
 ·have hm:b.1∈nms:=F.pre.subset (Rh hb).1
  rcases F.kinds _ hm with h | h
  ·exact .inl h
  ·exact .inr ⟨h,cW _ _ _ _ (.inl (mem_of_lookup h))⟩
 ·subst he
  refine⟨hlim.keeps λb o e=>x.toInCall.keep b o (RN.kept b o e),codeAny_func ?_⟩
  obtain⟨R1,hk⟩:=o0.call OK F RN rx hl ht x fr
  have hA':iZ (bC fd s.heap.objs.size a [] nms) n (A.deeper (callEnvC fd s.heap.objs.size a)) :=
   ⟨by show A.frames.map _=_;rw[hf];rfl,hh,by show A.depth+1+n<=800;lia,by show A.units+3+10*n<=9000;lia⟩
  have hw:=pF (stk := []) F x
  refine hb _ _ (sE F x.apart) _ hA' [] _ s₁ R1 _ st2 hm _ _ λf ρ2 s2 rf R2 G₂=>?_
  obtain⟨v,rfl,rv⟩:=rf
  refine h v ρ2 s2 rv (λb o e hb=>?_) R2.tab R2.gens (R2.os.trans RN.os.symm)
  refine(G₂.keep b o (hk b o e) (by simp) (λhm=>?_) hb).low (by rw[<- hz];exact Pu e)
  exact bo e (hw b hm)
variable {n':Nat}
theorem iZ.mono(h:iZ P n' A)(le:n<=n'):iZ P n A:=⟨h.frames,h.handled,by have:=h.depth;lia,by have:=h.units;lia⟩
theorem aQ.mono{g:OT}{f:List V->M V}(h:aQ B n g f)(le:n<=n'):aQ B n' g f:=λP hns A hA=>h P hns A (hA.mono le)
theorem eJ.mono{g:OT}{f:List V->M (dC V)}(h:eJ B n g f)(le:n<=n'):eJ B n' g f:=λP hns A hA=>h P hns A (hA.mono le)
theorem CQ{env:Env}{nm:Str}{k:Nat}{c:Addr}(h:jC env nm=.store k c):False:=by
 delta jC at h
 generalize env.kindOf nm=q at h
 rcases q with _ | q
 ·exact nc dc.ctorIdx h rfl
 ·generalize env.cells.lookup nm=r at h
  cases q<;>cases r<;>exact nc dc.ctorIdx h rfl
theorem bl:(bC fd L a stk nms).NoStore:=λi k c h=>by
 have g1:(nms.map (jC (callEnvC fd L a)))[i]?=some (.store k c):=h
 rw[Pn]at g1
 cases hi:nms[i]? with
 | none=>rw[hi]at g1;exact nO g1
 | some nm =>
  rw[hi]at g1
  exact CQ (sj g1)
theorem iJ{scope:Scope}{cl:List (Str×Addr)}{C:Addr}{vis:List (Option Str)}{own:Addr->zE}(K:eB P scope cl vis own):(au P scope cl C vis (own C)).NoStore:=λi k c h=>by
 rcases jV (show(b7 vis P.locs++(own C).map (·.2))[i]?=some (.store k c)from h)with⟨q,p⟩ | ⟨q,p⟩
 ·exact gy p (λnm u e=>K.nost _ _ _ e) λe=>nomatch e
 ·obtain⟨x,hx,e⟩:=PY.mp (O1 p)
  rcases(K.at_ C x hx).2 with⟨n,e'⟩ | ⟨c,n,e',_⟩
  ·rw[e']at e;exact nc dc.ctorIdx e rfl
  ·rw[e']at e;exact nc dc.ctorIdx e rfl
inductive eC(env:Addr->Env):List (Option Str)->List dc->Prop
 | rest {vs:List (Option Str)} {ls:List dc} (h:vs.all (·.isNone)=true):eC env vs ls
 | hid {vs:List (Option Str)} {l:dc} {ls:List dc} (h:eC env vs ls):eC env (none::vs) (l::ls)
 | see {n:Str} {c:Addr} {vs:List (Option Str)} {ls:List dc} (a:∀C,(env C).kindOf n=some .cell\/((env C).kindOf n=some .free/\(n==("__classdict__":Str))=false)) (b:∀C,(env C).cells.lookup n=some c) (h:eC env vs ls):eC env (some n::vs) (.cell c::ls)
theorem eC.get{env:Addr->Env}{vis:List (Option Str)}{ls:List dc}(v:eC env vis ls):∀(i:Nat)(n:Str),vis[i]?=some (some n)->∃c,ls[i]?=some (.cell c)/\∀C,mY (env C) n (.cell c):=by
 induction v with
 | rest h=>intro i n e;exact nomatch (show(some n).isNone=true from O6.mp h _ (O1 e))
 | hid v ih =>
  intro i n e
  cases i with
  | zero=>exact nO (sj e)
  | succ i=>exact ih i n e
 | see a b v ih =>
  intro i n e
  cases i with
  | zero=>obtain rfl:=sj (sj e);exact⟨_,rfl,λC=>⟨a C,b C⟩⟩
  | succ i=>exact ih i n e
noncomputable def CY:OT->List V->M V:=λu u=>av
noncomputable def oI(a:Addr)(f:List V->M V)(r:OT->List V->M V):OT->List V->M V:=λv xs=>if v=.ref a then f xs else r v xs
theorem vB.none:vB B n CY:=⟨λv xs st r h=>nomatch h⟩
theorem vB.cons{r:OT->List V->M V}{f:List V->M V}(O:cB B a fd)(hc:aQ B n' (.ref a) f)(le:n'<=n)(T:vB B n r):vB B n (oI a f r) where
 ok:=λv xs st q h=>by
  unfold oI at h
  by_cases e:v=.ref a
  ·subst e
   refine⟨⟨a,fd,rfl,O⟩,?_⟩
   have:oI a f r (.ref a)=f:=by funext xs;simp[oI]
   rw[this]
   exact(hc.mono le).call
  ·rw[if_neg e]at h
   obtain⟨h1,h2⟩:=T.ok v xs st q h
   refine⟨h1,?_⟩
   have:oI a f r v=r v:=by funext xs;simp[oI,e]
   rw[this]
   exact h2
noncomputable def bz(ms:M (List V))(f:List V->M V):M V:=ao ms f
theorem DJ(hns:P.NoStore){nm:Str}{p pos:Pos}{e:OQ}{es:List OQ}{ms:M (List V)}{f:List V->M V}(hn:aR B P n (.Name nm p) (aa (.glob (.ref a))))(hs:mZ B P n pos (e::es) ms)(O:cB B a fd)(hc:aQ B n' (.ref a) f)(le:n'<=n)
  (hst:Pb (e::es) P.env=(false,eval e P.env)::Pb es P.env):aR B P n (.Call (.Name nm p) (e::es) [] pos) (bz ms f):=by
 have h:=uP hns hn hs (vB.cons O hc le vB.none) hst
 have e:nQ (aa (.glob (.ref a))) ms (oI a f CY)=bz ms f:=by
  funext st
  unfold nQ bz ao aa
  dsimp only
  split
  ·rfl
  ·exact congrFun (if_pos rfl) _
 rw[e]at h
 exact h
theorem zM(hns:P.NoStore){g:Addr}{f:List V->M V}(hc:aQ B n (.ref g) f)(hA:iZ P n A){k:Nat}{v:OT}{self:V}(R:bB B P ρ st s)(rv:aU ρ (.ref k) v)(hσ:st.σ[k]?=some (.bound self g)):At B P A ρ st s (call v []) aU (f [self]):=by
 intro y st' hm Q E h
 obtain⟨x,hx,rfl⟩:=rv
 obtain⟨u,e,ru⟩:=R.obj k x _ hx hσ
 exact wpAny_call (method_call e (hc P hns A hA ρ st s [u] [self] R ⟨ru,trivial⟩ y st' hm _ h))
theorem nu(OK:B.Ok)(hns:P.NoStore){g:Addr}{f:List V->M V}(O:cB B g fd)(hc:aQ B n' (.ref g) f)(le:n'<=n):gG B P (n+1) ⟨true,g,λself=>f [self]⟩ :=
 uT OK ⟨true,g,λself=>f [self]⟩ (by obtain⟨o,e,h⟩:=O.obj;exact⟨o,fd,e,h⟩) λA hA ρ st s k v self R rv hσ=>zM hns (hc.mono le) hA R rv hσ
noncomputable def aK(scope:Scope)(env:Env):List (Str×Addr):=((scope.names.filter λy=>y.2==.free).filterMap λy=>(env.cells.lookup y.1).map λc=>(y.1,c)).reverse
theorem DS(OK:B.Ok)(hlow:∀a∈B.tabs,a<B.n₀)(hP:P.Ok){k:Nat}(fuel:Nat){elt iter:OQ}{px pos:Pos}{ifs:List OQ}{mi:M It}{mt:M Bool}{me:M V}{scope:Scope}{x:Str}{own:Addr->zE}(vis:List (Option Str))
  (hk:k=P.locs.length) (K:eB P scope (aK scope P.env) vis own) (On:EL P scope (aK scope P.env) own x) (hi:jQ B P n iter mi)
  (ht:∀C,(au P scope (aK scope P.env) C vis (own C)).Ok->(au P scope (aK scope P.env) C vis (own C)).NoStore->lc B (au P scope (aK scope P.env) C vis (own C)) n ifs mt)
  (he:∀C,(au P scope (aK scope P.env) C vis (own C)).Ok->(au P scope (aK scope P.env) C vis (own C)).NoStore->aR B (au P scope (aK scope P.env) C vis (own C)) n elt me) (hs:∀x,foldedSetIterable iter P.env x=pure x) :
  aR B P n (.ListComp elt [⟨.Name x px,iter,ifs,0⟩] scope pos) (dY k mi mt me fuel) :=
 uS OK hlow hP hk fuel K On hi (λC h=>ht C h (iJ K)) (λC h=>he C h (iJ K)) hs
theorem wx(OK:B.Ok)(hlow:∀a∈B.tabs,a<B.n₀)(hP:P.Ok){k:Nat}(fuel:Nat){elt iter:OQ}{px pos py spos:Pos}{ifs:List OQ}{mi:M It}{mt:M Bool}{me:M V}{scope:Scope}{x:Str}{own:Addr->zE}(vis:List (Option Str)){i:Nat}{nm:Str}
  (hk:k=P.locs.length) (hn:P.names[i]?=some (some nm)) (hf:(P.env.kindOf nm==some .free)=false)
  (hsw:swapsWith (.ListComp elt [⟨.Name x px,iter,ifs,0⟩] scope pos) (some (.Name nm py)) spos.line P.env=pure true) (K:eB P scope (aK scope P.env) vis own) (On:EL P scope (aK scope P.env) own x) (hi:jQ B P n iter mi)
  (ht:∀C,(au P scope (aK scope P.env) C vis (own C)).Ok->(au P scope (aK scope P.env) C vis (own C)).NoStore->lc B (au P scope (aK scope P.env) C vis (own C)) n ifs mt)
  (he:∀C,(au P scope (aK scope P.env) C vis (own C)).Ok->(au P scope (aK scope P.env) C vis (own C)).NoStore->aR B (au P scope (aK scope P.env) C vis (own C)) n elt me) (hs:∀x,foldedSetIterable iter P.env x=pure x) :
  i7 B P n (.Assign [.Name nm py] (.ListComp elt [⟨.Name x px,iter,ifs,0⟩] scope pos) spos) (af i (dY k mi mt me fuel)) :=
 qL OK hlow hP hk fuel hn hf hsw K On hi (λC h=>ht C h (iJ K)) (λC h=>he C h (iJ K)) hs
end
structure TT{α β:Type}(B:bc)(P:Fc)(n:Nat)(t:Sem α)(R:List Addr->β->α->Prop)(m:M β):Prop where
 h:oi B P n t R m
structure Iq(B:bc)(P:Fc)(n:Nat)(e:OQ)(m:M It):Prop where
 h:jQ B P n e m
section
variable (B:bc)(P:Fc)(n:Nat)
noncomputable abbrev TE(e:OQ)(m:M V):Prop:=TT B P n (eval e P.env) aU m
noncomputable abbrev TB(e:OQ)(m:M Bool):Prop:=TT B P n (isTrue e P.env (eval e P.env)) HC m
noncomputable abbrev vA(op:BoolOp)(es:List OQ)(m:M Bool):Prop:=TT B P n (allTrue op es P.env) HC m
noncomputable abbrev TL(pos:Pos)(es:List OQ)(m:M (List V)):Prop:=TT B P n (spliced (backTo pos (Pb es P.env))) aL m
noncomputable abbrev TS(t:Stmt)(m:M Fl):Prop:=TT B P n (exec t P.env) dW m
noncomputable abbrev jO(ts:List Stmt)(m:M Fl):Prop:=TT B P n (execs ts P.env) dW m
noncomputable abbrev KU(ifs:List OQ)(m:M Bool):Prop:=TT B P n (forIn ifs true λc r=>if r=true then do let ok <- isTrue c P.env (eval c P.env);pure (QM ok)else pure (QM r)) HC m
noncomputable abbrev qQ(e:Option OQ)(m:M (Option Int)):Prop:=TT B P n (evalPart e P.env) xc m
noncomputable abbrev sa(ks:List (Option OQ))(vs:List OQ)(pos:Pos)(m:M (List (Str×V))):Prop:=TT B P n (evalPairs (pairTrees ks vs P.env pos)) EN m
end
section
variable {B:bc}{P:Fc}{n n':Nat}{fd:PF}{a L:Addr}{outer:List Env}{env:Env}
theorem ay(OK:B.Ok){i:Int}{k:Nat}{pos:Pos}:TE B P n (.Constant (.int i) k pos) (aa (.int i)):=⟨Kc (OK:=OK)⟩
theorem aY(OK:B.Ok){x:Str}{k:Nat}{pos:Pos}:TE B P n (.Constant (.str x) k pos) (aa (.str x)):=⟨Kh (OK:=OK)⟩
theorem rV(OK:B.Ok){b:Bool}{k:Nat}{pos:Pos}:TE B P n (.Constant (.bool b) k pos) (aa (.bool b)):=⟨GS (OK:=OK)⟩
theorem MU(OK:B.Ok){k:Nat}{pos:Pos}:TE B P n (.Constant .none k pos) (aa .none):=⟨G9 (OK:=OK)⟩
theorem ac{i:Nat}{nm:Str}{pos:Pos}(hP:P.Ok)(hn:P.names[i]?=some (some nm))(hd:(nm==("__debug__":Str))=false:=by decide):TE B P n (.Name nm pos) (getL i):=⟨G8 (hP:=hP) (hn:=hn) (hd:=hd)⟩
theorem aM{nm:Str}{pos:Pos}{v:OT}(hP:P.Ok)(hg:cJ B nm v)(he:P.env.globals=Pz/\P.env.builtins=builtinsNs)(hk:P.env.kindOf nm=some .globalImplicit)(hd:(nm==("__debug__":Str))=false:=by decide):TE B P n (.Name nm pos) (aa (.glob v)):=⟨GX (hP:=hP) (hg:=hg) (he:=he) (hk:=hk) (hd:=hd)⟩
theorem a6{op:Operator}{l r:OQ}{pos:Pos}{ml mr:M V}{f:V->V->M V}(hf:cQ B P n (binaryOp op) f)(hl:TE B P n l ml)(hr:TE B P n r mr):TE B P n (.BinOp l op r pos) (aj f ml mr):=⟨J6 (hf:=hf) (hl:=hl.h) (hr:=hr.h)⟩
theorem Oc{op:CmpOp}{l r:OQ}{pos:Pos}{ml mr:M V}{f:V->V->M V}(hf:cQ B P n (compareOp op) f)(hl:TE B P n l ml)(hr:TE B P n r mr)(hmk:behindInMarks op r=false:=by with_unfolding_all rfl):TE B P n (.Compare l [op] [r] pos) (aj f ml mr):=⟨J8 (hf:=hf) (hl:=hl.h) (hr:=hr.h) (hmk:=hmk)⟩
theorem rW(OK:B.Ok){e:OQ}{m:M V}(he:TE B P n e m)(hi:isTrue e P.env (eval e P.env)=(do let v <- eval e P.env;standAt e.pos;holding [v] (truthy v)):=by rfl):TB B P n e (ao m c8):=⟨Hb (OK:=OK) (he:=he.h) (hi:=hi)⟩
theorem ax(OK:B.Ok){op:CmpOp}{l r:OQ}{pos:Pos}{ml mr:M V}{f:V->V->M V}(hf:cQ B P n (compareOp op) f)(hl:TE B P n l ml)(hr:TE B P n r mr)(hmk:behindInMarks op r=false:=by with_unfolding_all rfl):TB B P n (.Compare l [op] [r] pos) (aT f ml mr):=⟨wG (OK:=OK) (hf:=hf) (hl:=hl.h) (hr:=hr.h) (hmk:=hmk)⟩
theorem vh{e:OQ}{pos:Pos}{m:M Bool}(he:TB B P n e m):TB B P n (.UnaryOp .Not e pos) (we m):=⟨wI (he:=he.h)⟩
theorem Hi:vA B P n .And [] (aa true):=⟨As ⟩
theorem wO:vA B P n .Or [] (aa false):=⟨DW ⟩
theorem ve{e:OQ}{es:List OQ}{m ms:M Bool}(he:TB B P n e m)(hs:vA B P n .And es ms):vA B P n .And (e::es) (vF m ms):=⟨ww (he:=he.h) (hs:=hs.h)⟩
theorem kQ{e:OQ}{es:List OQ}{m ms:M Bool}(he:TB B P n e m)(hs:vA B P n .Or es ms):vA B P n .Or (e::es) (Ak m ms):=⟨Ay (he:=he.h) (hs:=hs.h)⟩
theorem kU{op:BoolOp}{es:List OQ}{pos:Pos}{m:M Bool}(he:vA B P n op es m):TB B P n (.BoolOp op es pos) m:=⟨uW (he:=he.h)⟩
theorem nI{t a b:OQ}{pos:Pos}{mt:M Bool}{ma mb:M V}(ht:TB B P n t mt)(ha:TE B P n a ma)(hb:TE B P n b mb):TE B P n (.IfExp t a b pos) (a8 mt ma mb):=⟨DO (ht:=ht.h) (ha:=ha.h) (hb:=hb.h)⟩
theorem wN{e:OQ}{pos p2:Pos}{k:Nat}{m:M V}(OK:B.Ok)(he:TE B P n e m):TB B P n (.Compare e [.IsNot] [.Constant .none k p2] pos) (ao m λx=>match x with | .glob _=>av | x=>aa (x != .none)):=⟨s5 (OK:=OK) (he:=he.h)⟩
theorem aI{pos:Pos}:TL B P n pos [] am:=⟨Kf ⟩
theorem ag{pos:Pos}{e:OQ}{es:List OQ}{m:M V}{ms:M (List V)}(he:TE B P n e m)(hs:TL B P n pos es ms)(hst:Pb (e::es) P.env=(false,eval e P.env)::Pb es P.env:=by rfl):TL B P n pos (e::es) (ab m ms):=⟨GU (he:=he.h) (hs:=hs.h) (hst:=hst)⟩
theorem bY(OK:B.Ok){es:List OQ}{pos:Pos}{ms:M (List V)}(hs:TL B P n pos es ms):TE B P n (.List es pos) (aP ms):=⟨G6 (OK:=OK) (hs:=hs.h)⟩
theorem bj(OK:B.Ok){value slice:OQ}{pos:Pos}{mv ms:M V}(hv:TE B P n value mv)(hs:TE B P n slice ms)(hsub:∀o i,subscripted slice false o i=operate [o,i] (getItem o i):=by intro _ _;with_unfolding_all rfl):TE B P n (.Subscript value slice pos) (aj aA mv ms):=⟨G5 (OK:=OK) (hv:=hv.h) (hs:=hs.h) (hsub:=hsub)⟩
theorem Kw(OK:B.Ok){l:Addr}{is:List Int}(G:xb B l is){value slice:OQ}{pos:Pos}{mv ms:M V}(hv:TE B P n value mv)(hs:TE B P n slice ms)(hsub:∀o i,subscripted slice false o i=operate [o,i] (getItem o i):=by intro _ _;with_unfolding_all rfl):TE B P n (.Subscript value slice pos) (aj (tZ l is) mv ms):=⟨DR (OK:=OK) (G:=G) (hv:=hv.h) (hs:=hs.h) (hsub:=hsub)⟩
theorem bV{id:String}{nm:Str}{p pos:Pos}{e:OQ}{es:List OQ}{ms:M (List V)}{f:List V->M V}(hn:TE B P n (.Name nm p) (aa (.glob (.builtin id))))(hs:TL B P n pos (e::es) ms)(hf:bL B P n (.builtin id) f)(hst:Pb (e::es) P.env=(false,eval e P.env)::Pb es P.env:=by rfl)(hpl:(backTo pos (Pb (e::es) P.env)).any (·.1)=false:=by rfl):TE B P n (.Call (.Name nm p) (e::es) [] pos) (bO ms f):=⟨DI (hn:=hn.h) (hs:=hs.h) (hf:=hf) (hst:=hst) (hpl:=hpl)⟩
theorem Kt{T:String}{nm:Str}{p pos:Pos}{e:OQ}{es:List OQ}{ms:M (List V)}{f:List V->M V}(hn:TE B P n (.Name nm p) (aa (.glob (.type T))))(hs:TL B P n pos (e::es) ms)(hf:bL B P n (.type T) f)(hst:Pb (e::es) P.env=(false,eval e P.env)::Pb es P.env:=by rfl)(hpl:(backTo pos (Pb es P.env)).any (·.1)=false:=by rfl):TE B P n (.Call (.Name nm p) (e::es) [] pos) (bO ms f):=⟨DK (hn:=hn.h) (hs:=hs.h) (hf:=hf) (hst:=hst) (hpl:=hpl)⟩
theorem d6{T id:String}{kd:List O->V->Bool}{o e:OQ}{es:List OQ}{name:Str}{apos pos:Pos}{mo:M V}{ms:M (List V)}{f:List V->M V}(ho:TE B P n o mo)(hk:tC B kd T)(hs:TL B P n pos (e::es) ms)(hf:bL B P n (.builtin id) f)(pa:PlainAttrs T)(slot:Slot T name id)(hty:typeOf (.builtin id)=pure (.type "method_descriptor"))(hbase:attributeBase o name P.env (eval o P.env)=eval o P.env:=by rfl)(hfew:((backTo pos (Pb (e::es) P.env)).all (λx=> !x.1)&&(backToKw pos (keywordEach [] P.env)).all (λx=>x.1.isSome)
   &&decide ((e::es).length+([]:List Keyword).length+(if ([]:List Keyword).isEmpty then 0 else 1)<30))=true:=by rfl)(hline:(apos.endLine==pos.line)=true:=by rfl)(hst:Pb (e::es) P.env=(false,eval e P.env)::Pb es P.env:=by rfl)(hpl:(backTo pos (Pb (e::es) P.env)).any (·.1)=false:=by rfl):TE B P n (.Call (.Attribute o name apos) (e::es) [] pos) (bn kd mo ms f):=⟨G7 (ho:=ho.h) (hk:=hk) (hs:=hs.h) (hf:=hf) (pa:=pa) (slot:=slot) (hty:=hty) (hbase:=hbase) (hfew:=hfew) (hline:=hline) (hst:=hst) (hpl:=hpl)⟩
theorem Kx{T id:String}{kd:List O->V->Bool}{o:OQ}{name:Str}{apos pos:Pos}{mo:M V}{f:List V->M V}(ho:TE B P n o mo)(hk:tC B kd T)(hf:bL B P n (.builtin id) f)(pa:PlainAttrs T)(slot:Slot T name id)(hty:typeOf (.builtin id)=pure (.type "method_descriptor"))(hbase:attributeBase o name P.env (eval o P.env)=eval o P.env:=by rfl)(hline:(apos.endLine==pos.line)=true:=by rfl):TE B P n (.Call (.Attribute o name apos) [] [] pos) (bn kd mo am f):=⟨DT (ho:=ho.h) (hk:=hk) (hf:=hf) (pa:=pa) (slot:=slot) (hty:=hty) (hbase:=hbase) (hline:=hline)⟩
theorem bt(OK:B.Ok){o:OQ}{a b:Str}{k1 k2:Nat}{p1 p2 apos pos:Pos}{mo:M V}(ho:TE B P n o mo)(hbase:attributeBase o "replace" P.env (eval o P.env)=eval o P.env:=by rfl)(hfew:((backTo pos (Pb [.Constant (.str a) k1 p1,.Constant (.str b) k2 p2] P.env)).all (λx=> !x.1)&&(backToKw pos (keywordEach [] P.env)).all (λx=>x.1.isSome)
   &&decide (([.Constant (.str a) k1 p1,.Constant (.str b) k2 p2]:List OQ).length+([]:List Keyword).length+(if ([]:List Keyword).isEmpty then 0 else 1)<30))=true:=by rfl)(hline:(apos.endLine==pos.line)=true:=by rfl)(hst:backTo pos (Pb [.Constant (.str a) k1 p1,.Constant (.str b) k2 p2] P.env)=[(false,eval (.Constant (.str a) k1 p1) P.env),(false,eval (.Constant (.str b) k2 p2) P.env)]:=by rfl):TE B P n (.Call (.Attribute o "replace" apos) [.Constant (.str a) k1 p1,.Constant (.str b) k2 p2] [] pos) (cR mo a b):=⟨wE (OK:=OK) (ho:=ho.h) (hbase:=hbase) (hfew:=hfew) (hline:=hline) (hst:=hst)⟩
theorem Hl(OK:B.Ok){o e:OQ}{d:Addr}{f:Int->Option Str}{apos pos:Pos}{mi:M V}(ho:TE B P n o (aa (.glob (.ref d))))(hd:r6 B d f)(he:TE B P n e mi)(hbase:attributeBase o "get" P.env (eval o P.env)=eval o P.env:=by rfl)(hfew:((backTo pos (Pb [e] P.env)).all (λx=> !x.1)&&(backToKw pos (keywordEach [] P.env)).all (λx=>x.1.isSome)
   &&decide (([e]:List OQ).length+([]:List Keyword).length+(if ([]:List Keyword).isEmpty then 0 else 1)<30))=true:=by rfl)(hline:(apos.endLine==pos.line)=true:=by rfl)(hst:backTo pos (Pb [e] P.env)=[(false,eval e P.env)]:=by rfl):TE B P n (.Call (.Attribute o "get" apos) [e] [] pos) (mw f mi):=⟨Aw (OK:=OK) (ho:=ho.h) (hd:=hd) (he:=he.h) (hbase:=hbase) (hfew:=hfew) (hline:=hline) (hst:=hst)⟩
theorem Kv(OK:B.Ok){e r:OQ}{pos:Pos}{a:Addr}{S:Int->Bool}{me:M V}(he:TE B P n e me)(hr:TE B P n r (aa (.glob (.ref a))))(hS:vx B a S)(hmk:behindInMarks .In r=false:=by with_unfolding_all rfl):TE B P n (.Compare e [.In] [r] pos) (pP S me):=⟨DP (OK:=OK) (he:=he.h) (hr:=hr.h) (hS:=hS) (hmk:=hmk)⟩
theorem aB:jO B P n [] (aa .next):=⟨uR ⟩
theorem ap{t:Stmt}{ts:List Stmt}{m ms:M Fl}(ht:TS B P n t m)(hs:jO B P n ts ms):jO B P n (t::ts) (aw m ms):=⟨DM (ht:=ht.h) (hs:=hs.h)⟩
theorem an{t:Stmt}{m:M Fl}(ht:TS B P n t m):jO B P n [t] m:=⟨Av (ht:=ht.h)⟩
theorem mQ{e:OQ}{pos:Pos}{m:M V}(he:TE B P n e m)(hi:interactive P.env=false:=by rfl)(hs:swapsWith e none pos.line P.env=pure false:=by rfl):TS B P n (.Expr e pos) (eT m):=⟨GW (he:=he.h) (hi:=hi) (hs:=hs)⟩
theorem a9{e:OQ}{pos:Pos}{m:M V}(he:TE B P n e m):TS B P n (.Return (some e) pos) (b8 m):=⟨AB (he:=he.h)⟩
theorem AO{pos:Pos}:TS B P n (.Continue pos) (aa .cont):=⟨uQ ⟩
theorem gS{t:OQ}{a b:List Stmt}{pos:Pos}{mt:M Bool}{ma mb:M Fl}(ht:TB B P n t mt)(ha:jO B P n a ma)(hb:jO B P n b mb):TS B P n (.If t a b pos) (a8 mt ma mb):=⟨Me (ht:=ht.h) (ha:=ha.h) (hb:=hb.h)⟩
theorem aq(OK:B.Ok)(hP:P.Ok){i:Nat}{nm:Str}{e:OQ}{p pos:Pos}{m:M V}(hn:P.names[i]?=some (some nm))(he:TE B P n e m)(hf:(P.env.kindOf nm==some .free)=false:=by rfl)(hs:swapsWith e (some (.Name nm p)) pos.line P.env=pure false:=by rfl):TS B P n (.Assign [.Name nm p] e pos) (af i m):=⟨Au (OK:=OK) (hP:=hP) (hn:=hn) (he:=he.h) (hf:=hf) (hs:=hs)⟩
theorem wR(fuel:Nat){t:OQ}{b:List Stmt}{pos:Pos}{mt:M Bool}{mb:M Fl}(ht:TB B P n t mt)(hb:jO B P n b mb):TS B P n (.While t b [] pos) (dr mt mb fuel):=⟨DZ (fuel:=fuel) (ht:=ht.h) (hb:=hb.h)⟩
theorem bJ(OK:B.Ok){e:OQ}{m:M V}(he:TE B P n e m):Iq B P n e (fj m):=⟨Ax (OK:=OK) (he:=he.h)⟩
theorem cI(OK:B.Ok){nm:Str}{p pos:Pos}{e:OQ}{ms:M (List V)}(hn:TE B P n (.Name nm p) (aa (.glob (.type "range"))))(hs:TL B P n pos [e] ms)(hst:Pb (e :: []) P.env=(false,eval e P.env)::Pb [] P.env:=by rfl)(hpl:(backTo pos (Pb [] P.env)).any (·.1)=false:=by rfl):Iq B P n (.Call (.Name nm p) [e] [] pos) (bq ms):=⟨wA (OK:=OK) (hn:=hn.h) (hs:=hs.h) (hst:=hst) (hpl:=hpl)⟩
theorem qN(OK:B.Ok)(hlow:∀a∈B.tabs,a<B.n₀)(hP:P.Ok)(fuel:Nat){cf:CF}(hcf:gG B P n cf){i:Nat}{nm:Str}{e:OQ}{px pos:Pos}{body:List Stmt}{mi:M It}{mb:M Fl}(hn:P.names[i]?=some (some nm))(hf:(P.env.kindOf nm==some .free)=false)(hi:Iq B P n e mi)(hb:jO B P n body mb)(hs:∀x,foldedSetIterable e P.env x=pure x:=by intro _;rfl):TS B P n (.For (.Name nm px) e body [] pos) (ao mi λit=>b4 cf i mb fuel it):=⟨Kb (OK:=OK) (hlow:=hlow) (hP:=hP) (fuel:=fuel) (hcf:=hcf) (hn:=hn) (hf:=hf) (hi:=hi.h) (hb:=hb.h) (hs:=hs)⟩
theorem bM:KU B P n [] (aa true):=⟨AD ⟩
theorem oV{c:OQ}{m:M Bool}(hc:TB B P n c m):KU B P n [c] m:=⟨AE (hc:=hc.h)⟩
theorem dN(OK:B.Ok)(hlow:∀a∈B.tabs,a<B.n₀)(hP:P.Ok){k:Nat}(fuel:Nat){elt iter:OQ}{px pos:Pos}{ifs:List OQ}{mi:M It}{mt:M Bool}{me:M V}{scope:Scope}{x:Str}{own:Addr->zE}(vis:List (Option Str))(hk:k=P.locs.length)(K:eB P scope (aK scope P.env) vis own)(On:EL P scope (aK scope P.env) own x)(hi:Iq B P n iter mi)(ht:∀C,(au P scope (aK scope P.env) C vis (own C)).Ok->(au P scope (aK scope P.env) C vis (own C)).NoStore->KU B (au P scope (aK scope P.env) C vis (own C)) n ifs mt)(he:∀C,(au P scope (aK scope P.env) C vis (own C)).Ok->(au P scope (aK scope P.env) C vis (own C)).NoStore->TE B (au P scope (aK scope P.env) C vis (own C)) n elt me)(hs:∀x,foldedSetIterable iter P.env x=pure x:=by intro _;rfl):TE B P n (.ListComp elt [⟨.Name x px,iter,ifs,0⟩] scope pos) (dY k mi mt me fuel):=⟨DS (OK:=OK) (hlow:=hlow) (hP:=hP) (fuel:=fuel) (vis:=vis) (hk:=hk) (K:=K) (On:=On) (hi:=hi.h) (ht:=λC u0 u1=>(ht C u0 u1).h) (he:=λC u0 u1=>(he C u0 u1).h) (hs:=hs)⟩
theorem gR(OK:B.Ok)(hlow:∀a∈B.tabs,a<B.n₀)(hP:P.Ok){k:Nat}(fuel:Nat){elt iter:OQ}{px pos py spos:Pos}{ifs:List OQ}{mi:M It}{mt:M Bool}{me:M V}{scope:Scope}{x:Str}{own:Addr->zE}(vis:List (Option Str)){i:Nat}{nm:Str}(hk:k=P.locs.length)(hn:P.names[i]?=some (some nm))(hf:(P.env.kindOf nm==some .free)=false)(hsw:swapsWith (.ListComp elt [⟨.Name x px,iter,ifs,0⟩] scope pos) (some (.Name nm py)) spos.line P.env=pure true)(K:eB P scope (aK scope P.env) vis own)(On:EL P scope (aK scope P.env) own x)(hi:Iq B P n iter mi)(ht:∀C,(au P scope (aK scope P.env) C vis (own C)).Ok->(au P scope (aK scope P.env) C vis (own C)).NoStore->KU B (au P scope (aK scope P.env) C vis (own C)) n ifs mt)(he:∀C,(au P scope (aK scope P.env) C vis (own C)).Ok->(au P scope (aK scope P.env) C vis (own C)).NoStore->TE B (au P scope (aK scope P.env) C vis (own C)) n elt me)(hs:∀x,foldedSetIterable iter P.env x=pure x:=by intro _;rfl):TS B P n (.Assign [.Name nm py] (.ListComp elt [⟨.Name x px,iter,ifs,0⟩] scope pos) spos) (af i (dY k mi mt me fuel)):=⟨wx (OK:=OK) (hlow:=hlow) (hP:=hP) (fuel:=fuel) (vis:=vis) (hk:=hk) (hn:=hn) (hf:=hf) (hsw:=hsw) (K:=K) (On:=On) (hi:=hi.h) (ht:=λC u0 u1=>(ht C u0 u1).h) (he:=λC u0 u1=>(he C u0 u1).h) (hs:=hs)⟩
theorem Ks(hns:P.NoStore){nm:Str}{p pos:Pos}{e:OQ}{es:List OQ}{mf:M V}{ms:M (List V)}{tbl:OT->List V->M V}(hn:TE B P n (.Name nm p) mf)(hs:TL B P n pos (e::es) ms)(T:vB B n tbl)(hst:Pb (e::es) P.env=(false,eval e P.env)::Pb es P.env:=by rfl):TE B P n (.Call (.Name nm p) (e::es) [] pos) (nQ mf ms tbl):=⟨uP (hns:=hns) (hn:=hn.h) (hs:=hs.h) (T:=T) (hst:=hst)⟩
theorem c7(hns:P.NoStore){nm:Str}{p pos:Pos}{e:OQ}{es:List OQ}{ms:M (List V)}{f:List V->M V}(hn:TE B P n (.Name nm p) (aa (.glob (.ref a))))(hs:TL B P n pos (e::es) ms)(O:cB B a fd)(hc:aQ B n' (.ref a) f)(le:n'<=n)(hst:Pb (e::es) P.env=(false,eval e P.env)::Pb es P.env:=by rfl):TE B P n (.Call (.Name nm p) (e::es) [] pos) (bz ms f):=⟨DJ (hns:=hns) (hn:=hn.h) (hs:=hs.h) (O:=O) (hc:=hc) (le:=le) (hst:=hst)⟩
theorem qp(OK:B.Ok){K:Frag}{C:Addr}(X:gT B K C){o:OQ}{nm:Str}{pos:Pos}{m:M V}(hf:findIn K (.ref C) nm=some none)(ho:TE B P n o m)(he:eval (.Attribute o nm pos) P.env=(do
   let ov <- eval o P.env
   standAt pos.atName
   let r <- holding [ov] (getAttr ov nm true)
   letTemporaryGo o ov r
   pure r):=by with_unfolding_all rfl):TE B P n (.Attribute o nm pos) (cE C nm m):=⟨GR (OK:=OK) (X:=X) (hf:=hf) (ho:=ho.h) (he:=he)⟩
theorem D9(OK:B.Ok)(hns:P.NoStore){K:Frag}{C g:Addr}{fd:PF}(X:gT B K C){o e:OQ}{es:List OQ}{nm:Str}{apos pos:Pos}{mo:M V}{ms:M (List V)}{f:List V->M V}(hf:findIn K (.ref C) nm=some (some (.ref g)))(hfn:isFn K (.ref g)=true)(O:cB B g fd)(hc:kB B n (.ref g) f)(ho:TE B P n o mo)(hs:TL B P n pos (e::es) ms)(hbase:attributeBase o nm P.env (eval o P.env)=eval o P.env:=by rfl)(hfew:((backTo pos (Pb (e::es) P.env)).all (λx=> !x.1)&&(backToKw pos (keywordEach [] P.env)).all (λx=>x.1.isSome)
   &&decide ((e::es).length+([]:List Keyword).length+(if ([]:List Keyword).isEmpty then 0 else 1)<30))=true:=by rfl)(hline:(apos.endLine==pos.line)=true:=by rfl)(hst:Pb (e::es) P.env=(false,eval e P.env)::Pb es P.env:=by rfl):TE B P n (.Call (.Attribute o nm apos) (e::es) [] pos) (c9 C nm mo ms f):=⟨GY (OK:=OK) (hns:=hns) (X:=X) (hf:=hf) (hfn:=hfn) (O:=O) (hc:=hc) (ho:=ho.h) (hs:=hs.h) (hbase:=hbase) (hfew:=hfew) (hline:=hline) (hst:=hst)⟩
theorem nJ(OK:B.Ok)(hns:P.NoStore){K:Frag}{C g:Addr}{fd:PF}(X:gT B K C){o:OQ}{nm:Str}{apos pos:Pos}{mo:M V}{f:List V->M V}(hf:findIn K (.ref C) nm=some (some (.ref g)))(hfn:isFn K (.ref g)=true)(O:cB B g fd)(hc:kB B n (.ref g) f)(ho:TE B P n o mo)(hbase:attributeBase o nm P.env (eval o P.env)=eval o P.env:=by rfl)(hline:(apos.endLine==pos.line)=true:=by rfl):TE B P n (.Call (.Attribute o nm apos) [] [] pos) (c9 C nm mo am f):=⟨DQ (OK:=OK) (hns:=hns) (X:=X) (hf:=hf) (hfn:=hfn) (O:=O) (hc:=hc) (ho:=ho.h) (hbase:=hbase) (hline:=hline)⟩
theorem ky(OK:B.Ok){K:Frag}{C:Addr}(X:gT B K C){o e:OQ}{nm:Str}{p pos:Pos}{mv mo:M V}(hf:findIn K (.ref C) nm=some none)(hv:TE B P n e mv)(ho:TE B P n o mo)(hs:swapsWith e (some (.Attribute o nm p)) pos.line P.env=pure false:=by rfl):TS B P n (.Assign [.Attribute o nm p] e pos) (gb C nm mv mo):=⟨wF (OK:=OK) (X:=X) (hf:=hf) (hv:=hv.h) (ho:=ho.h) (hs:=hs)⟩
theorem D7(OK:B.Ok)(hP:P.Ok){i:Nat}{nm:Str}{op:Operator}{e:OQ}{p pos:Pos}{m:M V}{f:V->V->M V}(hop:cQ B P n (inplaceOp op) f)(hn:P.names[i]?=some (some nm))(he:TE B P n e m)(hf:(P.env.kindOf nm==some .free)=false:=by rfl):TS B P n (.AugAssign (.Name nm p) op e pos) (ol i f m):=⟨J5 (OK:=OK) (hP:=hP) (hop:=hop) (hn:=hn) (he:=he.h) (hf:=hf)⟩
theorem D8(OK:B.Ok){K:Frag}{C:Addr}(X:gT B K C){o e:OQ}{nm:Str}{op:Operator}{p pos:Pos}{mv mo:M V}{f:V->V->M V}(hop:cQ B P n (inplaceOp op) f)(hf:findIn K (.ref C) nm=some none)(ho:TE B P n o mo)(hv:TE B P n e mv):TS B P n (.AugAssign (.Attribute o nm p) op e pos) (pi C nm f mo mv):=⟨wz (OK:=OK) (X:=X) (hop:=hop) (hf:=hf) (ho:=ho.h) (hv:=hv.h)⟩
theorem Kr(OK:B.Ok){K:Frag}{C g:Addr}(X:gT B K C){o:OQ}{nm:Str}{pos:Pos}{m:M V}(hf:findIn K (.ref C) nm=some (some (.ref g)))(hty:typeIn K (.ref g)=some (.type "function"))(hget:specialIn K (.ref g) "__get__"=some (some (.builtin "function.__get__")))(htk:takesIn K (.ref g)=some false)(hcn:copiedNames.contains nm=false)(ho:TE B P n o m)(he:eval (.Attribute o nm pos) P.env=(do
   let ov <- eval o P.env
   standAt pos.atName
   let r <- holding [ov] (getAttr ov nm true)
   letTemporaryGo o ov r
   pure r):=by with_unfolding_all rfl):TE B P n (.Attribute o nm pos) (vJ C nm g m):=⟨DH (OK:=OK) (X:=X) (hf:=hf) (hty:=hty) (hget:=hget) (htk:=htk) (hcn:=hcn) (ho:=ho.h) (he:=he)⟩
theorem MT(OK:B.Ok)(hns:P.NoStore){K:Frag}{C g:Addr}(X:gT B K C)(hm:makesIn K C=true)(hk:keepIn K (.ref C)=true)(hi:findIn K (.ref C) "__init__"=some (some (.ref g)))(hfn:typeIn K (.ref g)=some (.type "function")){nm:Str}{p pos:Pos}{e:OQ}{es:List OQ}{ms:M (List V)}{f:List V->M V}(hn:TE B P (n+1) (.Name nm p) (aa (.glob (.ref C))))(hs:TL B P (n+1) pos (e::es) ms)(hc:aQ B n (.ref g) f)(hst:Pb (e::es) P.env=(false,eval e P.env)::Pb es P.env:=by rfl)(hpl:(backTo pos (Pb es P.env)).any (·.1)=false:=by rfl):TE B P (n+1) (.Call (.Name nm p) (e::es) [] pos) (bO ms (Af C f)):=⟨Ke (OK:=OK) (hns:=hns) (X:=X) (hm:=hm) (hk:=hk) (hi:=hi) (hfn:=hfn) (hn:=hn.h) (hs:=hs.h) (hc:=hc) (hst:=hst) (hpl:=hpl)⟩
theorem iX:qQ B P n none cr:=⟨uU ⟩
theorem fT{e:OQ}{m:M V}(he:TE B P n e m):qQ B P n (some e) (bU m):=⟨uV (he:=he.h)⟩
theorem qq(OK:B.Ok){value:OQ}{lower upper:Option OQ}{p pos:Pos}{m:M V}{lo hi:M (Option Int)}(hv:TE B P n value m)(hlo:qQ B P n lower lo)(hhi:qQ B P n upper hi):TE B P n (.Subscript value (.Slice lower upper none p) pos) (eG m lo hi):=⟨DY (OK:=OK) (hv:=hv.h) (hlo:=hlo.h) (hhi:=hhi.h)⟩
theorem mR{pos:Pos}:sa B P n [] [] pos (aa []):=⟨Az ⟩
theorem bK(OK:B.Ok){k:Str}{u:Nat}{kp pos:Pos}{ks:List (Option OQ)}{e:OQ}{vs:List OQ}{m:M V}{ms:M (List (Str×V))}(he:TE B P n e m)(hs:sa B P n ks vs pos ms):sa B P n (some (.Constant (.str k) u kp)::ks) (e::vs) pos (db k m ms):=⟨AA (OK:=OK) (he:=he.h) (hs:=hs.h)⟩
theorem vg(OK:B.Ok)(hlow:∀a∈B.tabs,a<B.n₀){keys:List (Option OQ)}{values:List OQ}{pos:Pos}{ms:M (List (Str×V))}(hs:sa B P n keys values pos ms)(hall:keys.all (·.isSome)=true:=by rfl)(hl:keys.length=values.length:=by rfl)(h0:keys≠[]:=by exact List.cons_ne_nil _ _)(hlen:keys.length<=15:=by decide):TE B P n (.Dict keys values pos) (nR ms):=⟨GV (OK:=OK) (hlow:=hlow) (hs:=hs.h) (hall:=hall) (hl:=hl) (h0:=h0) (hlen:=hlen)⟩
theorem Ed{body:List Stmt}{h₀:ExceptHandler}{hs:List ExceptHandler}{pos:Pos}{m:M Fl}(hb:jO B P n body m):TS B P n (.Try body (h₀::hs) [] [] pos) m:=⟨Ki (hb:=hb.h)⟩
theorem Eb(OK:B.Ok)(hlow:∀a∈B.tabs,a<B.n₀)(hlim:B.h₀.NoLimit)(hns:P.NoStore){K:Frag}{C:Addr}(X:gT B K C){o:OQ}{nm:Str}{apos pos cp:Pos}{u:Nat}{i:Int}{mo:M V}{c:KI}{mb:M Fl}(hf:findIn K (.ref C) nm=some none)(CO:qP c.params c.body c.scope c.pn c.nm)(ho:TE B P (n+1) o mo)(hb:∀fd L a stk k a',fd.params=c.params->fd.scope=c.scope->fd.globals=Pz->fd.builtins=builtinsNs->(dP fd L a stk c.pn c.nm k a').Ok->jO B (dP fd L a stk c.pn c.nm k a') n c.body mb)(hbase:attributeBase o nm P.env (eval o P.env)=eval o P.env:=by rfl)(hfew:((backTo pos (Pb [.Constant (.int i) u cp] P.env)).all (λx=> !x.1)&&(backToKw pos (keywordEach [] P.env)).all (λx=>x.1.isSome)
   &&decide (([.Constant (.int i) u cp]:List OQ).length+([]:List Keyword).length+(if ([]:List Keyword).isEmpty then 0 else 1)<30))=true:=by rfl)(hline:(apos.endLine==pos.line)=true:=by rfl)(hst:backTo pos (Pb [.Constant (.int i) u cp] P.env)=[(false,eval (.Constant (.int i) u cp) P.env)]:=by rfl):TE B P (n+1) (.Call (.Attribute o nm apos) [.Constant (.int i) u cp] [] pos) (mJ C nm mo c mb i):=⟨wB (OK:=OK) (hlow:=hlow) (hlim:=hlim) (hns:=hns) (X:=X) (hf:=hf) (CO:=CO) (ho:=ho.h) (hb:=λfd L a stk k a' u0 u1 u2 u3 u4=>(hb fd L a stk k a' u0 u1 u2 u3 u4).h) (hbase:=hbase) (hfew:=hfew) (hline:=hline) (hst:=hst)⟩
theorem gV{body:List Stmt}{ps nms:List Str}(OK:B.Ok)(hlow:∀a∈B.tabs,a<B.n₀)(hlim:B.h₀.NoLimit)(F:dw fd body ps nms)(O:cB B a fd){mb:M Fl}
  (hb:∀L stk,(bC fd L a stk nms).Ok->(bC fd L a stk nms).NoStore->jO B (bC fd L a stk nms) n body mb):aQ B (n+1) (.ref a) λxs=>if xs.length=ps.length then kV nms.length mb xs else av :=
 J9 OK hlow hlim F O λL stk hP=>(hb L stk hP bl).h
structure EO(B:bc)(P:Fc)(n:Nat)(ts:List Stmt)(m:M Fl):Prop where
 h:gt B P n ts m
theorem MR{ts:List Stmt}{m:M Fl}(h:jO B P n ts m):EO B P n ts m:=⟨gt.of h.h⟩
theorem kN{t:Stmt}{ts:List Stmt}{m ms:M Fl}(ht:TS B P n t m)(hs:EO B P n ts ms):EO B P n (t::ts) (aw m ms):=⟨gt.cons ht.h hs.h⟩
theorem Hj(OK:B.Ok)(hlow:∀a∈B.tabs,a<B.n₀)(hP:P.Ok){i j:Nat}{name nm qual:Str}{params:Arguments}{body:List Stmt}{scope:Scope}{pos:Pos}{c cc Pl:Addr}{ts:List Stmt}{ms:M Fl}{mg:Str->Option OT}(hmg:B.h₀.Ns Pz mg)(hb:B.h₀.BuiltinsAt mg Pl)(hh:B.h₀.get? Pl=none)
  (hne:j≠i) (htree:PlainDefTree name params body scope pos) (hi:P.locs[i]?=some (.cell c)) (hnj:P.names[j]?=some (some name)) (hfj:(P.env.kindOf name==some .free)=false)
  (hclos:closureFor scope P.env=pure [(nm,c)]) (hdoc:docOf body=none) (hkw:params.kwonlyargs=[]) (hg:P.env.globals=Pz) (hcode:P.env.code=.ref cc) (hgP:Pz≠Pl)
  (hPl:Pl∈B.tabs) (hq:qualnameIn P.env name name=qual) (ht1:∀ρ h,B.tab ρ h->d8 cc Pl pos qual ρ h) (ht2:∀ρ h h',B.tab ρ h->(∀b o,b≠Pl->h.get? b=some o->h'.get? b=some o)->d8 cc Pl pos qual ρ h'->B.tab ρ h') (hs:(P.kill i).Ok->((P.kill i).NoStore)->EO B (P.kill i) n ts ms) (hN:P.NoStore) :
  EO B P n (.FunctionDef name params body [] none [] scope none name pos::ts) (ao (rm i j params (.stmts body) scope qual nm) λu=>ms):=by
 subst hq
 exact⟨gt.give OK hlow hP hne htree hi hnj hfj hclos hdoc hkw hg hmg hcode hb hgP hPl hh ht1 ht2 (hs (xV hP) (mB hN)).h⟩
theorem MS{body:List Stmt}{ps nms:List Str}(OK:B.Ok)(hlow:∀a∈B.tabs,a<B.n₀)(hlim:B.h₀.NoLimit)(F:dw fd body ps nms)(O:cB B a fd){mb:M Fl}
  (hb:∀L stk,(bC fd L a stk nms).Ok->(bC fd L a stk nms).NoStore->EO B (bC fd L a stk nms) n body mb):aQ B (n+1) (.ref a) λxs=>if xs.length=ps.length then kV nms.length mb xs else av :=
 DN OK hlow hlim F O λL stk hP=>(hb L stk hP bl).h
structure EP{α β:Type}(B:bc)(P:Fc)(n:Nat)(t:Sem α)(Rr:List Addr->β->α->Prop)(m:M (dC β)):Prop where
 h:jR B P n t Rr m
structure TX{α β:Type}(B:bc)(P:Fc)(n:Nat)(t:Sem α)(Rr:List Addr->β->α->Prop)(m:M (dC β)):Prop where
 h:vz B P n t Rr m
structure TY{α β:Type}(B:bc)(P:Fc)(n:Nat)(t:Sem α)(Rr:List Addr->β->α->Prop)(m:M (dC β)):Prop where
 h:zF B P n t Rr m
theorem KN{α β:Type}{t:Sem α}{Rr:List Addr->β->α->Prop}{m:M β}(h:TT B P n t Rr m):EP B P n t Rr (Aj m):=⟨h.h.x0⟩
theorem tX{α β:Type}{t:Sem α}{Rr:List Addr->β->α->Prop}{m:M (dC β)}(h:EP B P n t Rr m):TX B P n t Rr m:=⟨h.h.x⟩
theorem Ea(OK:B.Ok){nm:Str}{p pos:Pos}{e:OQ}{me:M V}(hn:TE B P n (.Name nm p) (aa (.glob (.builtin "next"))))(he:TE B P n e me)(hst:backTo pos (Pb [e] P.env)=[(false,eval e P.env)]:=by rfl):EP B P n (eval (.Call (.Name nm p) [e] [] pos) P.env) aU (rI me):=⟨DV OK hn.h he.h hst⟩
theorem vf(OK:B.Ok)(hP:P.Ok){i:Nat}{nm:Str}{e:OQ}{p pos:Pos}{m:M (dC V)}(hn:P.names[i]?=some (some nm))(he:EP B P n (eval e P.env) aU m)(hf:(P.env.kindOf nm==some .free)=false:=by rfl)(hs:swapsWith e (some (.Name nm p)) pos.line P.env=pure false:=by rfl):EP B P n (exec (.Assign [.Name nm p] e pos) P.env) dW (l8 i m):=⟨wy OK hP hn he.h hf hs⟩
theorem wQ{t:Stmt}{ts:List Stmt}{m ms:M (dC Fl)}(ht:EP B P n (exec t P.env) dW m)(hs:EP B P n (execs ts P.env) dW ms):EP B P n (execs (t::ts) P.env) dW (k8 m ms):=⟨DX ht.h hs.h⟩
theorem zv{t:Stmt}{ts:List Stmt}{m ms:M (dC Fl)}(ht:TX B P n (exec t P.env) dW m)(hs:TX B P n (execs ts P.env) dW ms):TX B P n (execs (t::ts) P.env) dW (k8 m ms):=⟨Ha ht.h hs.h⟩
theorem Hn(fuel:Nat){t:OQ}{b:List Stmt}{pos:Pos}{mt:M Bool}{mb:M (dC Fl)}(ht:TB B P n t mt)(hb:EP B P n (execs b P.env) dW mb):TX B P n (exec (.While t b [] pos) P.env) dW (du mt mb fuel):=⟨AG fuel ht.h hb.h⟩
theorem Od{body:List Stmt}{ps nms:List Str}(OK:B.Ok)(hlow:∀a∈B.tabs,a<B.n₀)(hlim:B.h₀.NoLimit)(F:dw fd body ps nms)(O:cB B a fd){mb:M (dC Fl)}
  (hb:∀L stk,(bC fd L a stk nms).Ok->(bC fd L a stk nms).NoStore->TX B (bC fd L a stk nms) n (execs body (bC fd L a stk nms).env) dW mb):eJ B (n+1) (.ref a) λxs=>if xs.length=ps.length then Jb nms.length mb xs else av :=
 Ka OK hlow hlim F O λL stk hP=>(hb L stk hP bl).h
theorem Ku(hns:P.NoStore){a:Addr}{fd:PF}{nm:Str}{p pos:Pos}{e:OQ}{es:List OQ}{ms:M (List V)}{f:List V->M (dC V)}(hn:TE B P n (.Name nm p) (aa (.glob (.ref a))))(O:cB B a fd)(hs:TL B P n pos (e::es) ms)(hf:eJ B n (.ref a) f)
  (hst:Pb (e::es) P.env=(false,eval e P.env)::Pb es P.env:=by rfl):TY B P n (eval (.Call (.Name nm p) (e::es) [] pos) P.env) aU (ao ms f):=⟨DL hns hn.h O hs.h hf hst⟩
theorem D6(OK:B.Ok){o e:OQ}{apos pos xp:Pos}{mo:M V}{me:M (dC V)}(ho:TE B P n o mo)(he:TY B P n (eval e P.env) aU me)
  (hbase:attributeBase o "append" P.env (eval o P.env)=eval o P.env:=by rfl)
  (hfew:((backTo pos (Pb [e] P.env)).all (λx=> !x.1)&&(backToKw pos (keywordEach [] P.env)).all (λx=>x.1.isSome)&&decide ([e].length+([]:List Keyword).length+(if ([]:List Keyword).isEmpty then 0 else 1)<30))=true:=by rfl)
  (hline:(apos.endLine==pos.line)=true:=by rfl) (hst:backTo pos (Pb [e] P.env)=[(false,eval e P.env)]:=by rfl) (hpl:(backTo pos (Pb [e] P.env)).any (·.1)=false:=by rfl) (hi:interactive P.env=false:=by rfl)
  (hsw:swapsWith (.Call (.Attribute o "append" apos) [e] [] pos) none xp.line P.env=pure false:=by rfl):TY B P n (exec (.Expr (.Call (.Attribute o "append" apos) [e] [] pos) xp) P.env) dW (ao mo λx st=>if bE st.σ x=true then li me (λy=>ao (cb [x,y]) λu=>aa (.ok .next)) st else none) :=
 ⟨DU ho.h cF he.h (fJ OK) PS Qh QE hbase hfew hline hst hpl hi hsw⟩
theorem MW(OK:B.Ok)(hP:P.Ok)(hstk:P.stk=P.env::outer)(hfr:P.env.frame=some L)(fuel:Nat){i:Nat}{nm:Str}{np rp sp' hp wp tp:Pos}{t x:OQ}{xp:Pos}{mt:M Bool}{mb:M (dC Fl)}
  (hn:P.names[i]?=some (some nm)) (hd:(nm==("__debug__":Str))=false) (hg:cJ B "StopIteration" lB)
  (he:P.env.globals=Pz/\P.env.builtins=builtinsNs) (hk:P.env.kindOf "StopIteration"=some .globalImplicit) (ht:TB B P n t mt) (hb:TY B P n (exec (.Expr x xp) P.env) dW mb) :
  TS B P n (.Try [.While t [.Expr x xp] [] wp] [.ExceptHandler (some (.Name "StopIteration" sp')) none [.Return (some (.Name nm np)) rp] hp] [] [] tp) (th i (du mt mb fuel)):=⟨wJ OK hP hstk hfr fuel hn hd hg he hk ht.h hb.h⟩
variable {P':Fc}{A:Around}{ρ ρ' ρ'':List Addr}{st st':St}{s s' s'':OX}
noncomputable def qF(m:M V):M V:=ao m λx=>bI x λi=>aa (.int (-i))
theorem Kd(OK:B.Ok){e:OQ}{pos:Pos}{m:M V}(he:aR B P n e m):aR B P n (.UnaryOp .USub e pos) (qF m):=by
 intro A hA ρ st s R y st' hm Q E h
 refine ae hm λx st1 e1 e2=>wpAny_UnaryOp (he A hA ρ st s R x st1 e1 _ _ λv ρ1 s₁ r1 R1 G₁=>?_)
 refine bG r1 e2 λi t e e3=>?_
 clear hm e1 e2 r1
 subst e;obtain⟨rfl,rfl⟩:=pj e3
 exact To (h _ ρ1 _ ⟨_,rfl⟩ ⟨R1.toks OK _,PN 1 _⟩ (G₁.trans (aW.toks _)))
theorem jk{xs:List V}{vs:List OT}{is:List Int}(h:dj xs=some is)(r:aL ρ xs vs):PyProof.Rows.IntsAre vs is:=by
 obtain⟨ts,e1,e2⟩:=jl h r
 subst e1;subst e2
 clear h r
 induction ts with
 | nil=>exact .nil
 | cons p ts ih=>exact .cons _ _ ih
noncomputable def fM(xs:List V):M V:=H7 xs λr x=>eA r λk=>cj k λys=>match x with
 | .int i=>dz (dj ys) λis=>if is.length<=1000/\i∈is then aa (.int (is.idxOf i:Nat))else av
 | .str z=>dz (nH ys) λzs=>if zs.length<=1000/\z∈zs then aa (.int (zs.idxOf z:Nat))else av
 | _=>av
theorem Cw(k:Str):∀{vs:List OT}{ns:List Str},Tm vs ns->∀(j:Nat)(h1:j<vs.length)(h2:j<ns.length),PyProof.Rows.isStrOf k vs[j]=(ns[j]==k)
 := λh=>by
 induction h with
 | nil=>intro j h1;exact absurd h1 (Pm _)
 | cons n t _ ih=>intro j h1 h2;cases j with
  | zero=>rfl
  | succ j=>exact ih j (Pp h1) (Pp h2)
theorem pk{α:Type}[BEq α][LawfulBEq α]{k:α}:∀{ns:List α}{j:Nat},j<ns.idxOf k->∀(h2:j<ns.length),(ns[j]==k)=false
 | n::r,0,h,_=>by
  cases e:n==k with
  | true=>rw[QV,e]at h;exact absurd h (RF _)
  | false=>exact e
 | n::r,j+1,h,h2=>by
  cases e:n==k with
  | true=>rw[QV,e]at h;exact absurd h (Pm _)
  | false=>rw[QV,e]at h;exact pk (Pp h) _
theorem xM{α:Type}[BEq α][LawfulBEq α]{l:Addr}{vs:Array OT}{m:Nat}{x:OT}{k:α}{ns:List α}{e:OT->Bool}{Q:OT->OX->Prop}{E:OT->OX->Prop}{prog:Program}{w:Pt}(hl:s.heap.get? l=some { cls:=.type "list",data:=.seq vs m })
  (hlen:ns.length=vs.size) (hb:ns.length<=1000) (hk:k∈ns) (he:∀y,y∈vs.toList->MeetsSeq.EqGives y x (e y)) (hat:∀(j:Nat)(h1:j<vs.toList.length)(h2:j<ns.length),e vs.toList[j]=(ns[j]==k))
  (h:Q (.int (ns.idxOf k:Nat) s.toks) { s with toks:=s.toks+1 }):Ph (model prog w) A (call (.builtin "list.index") [.ref l,x]) Q E s:=by
 have hj:ns.idxOf k<ns.length:=List.idxOf_lt_length_iff.mpr hk
 refine call_meets Rj (oz hl).typeIs F.entry_list_index (F.args_list_index_2 _ _) (MeetsSeq.list_index l vs m x e (λy hy=>he y (by simpa using hy)) (ns.idxOf k) (by lia) (by lia) ?_ λj hj1 hj2=>?_) ⟨hl,h⟩
 ·have:=hat (ns.idxOf k) (by rw[P7];lia) hj
  rw[Array.getElem_toList]at this
  rw[this]
  exact beq_iff_eq.mpr (Q9 hj)
 ·have:=hat j (by rw[P7];exact hj1) (by lia)
  rw[Array.getElem_toList]at this
  rw[this]
  exact pk hj2 _
theorem l7(OK:B.Ok):bL B P n (.builtin "list.index") fM:=by
 intro A hA ρ st s vs xs R r y st' hm Q E h
 refine tk R h ?_;clear h;intro Q E h
 refine ie r hm λx w v u e r1 ru hm1=>bH r1 hm1 λk a e3 ha hm2=>a5 R ha hm2 λys us m hx e5 q hl hm3=>?_
 clear hm hm1 hm2 r r1
 subst e;subst e3
 cases w with
 | int i =>
  refine aX hm3 λis hi hm4=>aG hm4 λhs hm5=>?_
  clear hm3 hm4
  obtain⟨rfl,rfl⟩:=pj hm5
  obtain⟨t,rfl⟩:=ru
  have ia:=jk hi q
  have hln:is.length=us.size:=(ia.length).symm
  exact xM e5 hln hs.1 hs.2 (PyProof.Rows.eq_isInt i t ia) (PyProof.Rows.isInt_at i ia) (R.done OK h ⟨_,rfl⟩)
 | str z =>
  refine aX hm3 λis hi hm4=>aG hm4 λhs hm5=>?_
  clear hm3 hm4
  obtain⟨rfl,rfl⟩:=pj hm5
  obtain⟨t,rfl⟩:=ru
  have ia:=qo hi q
  have hln:is.length=us.size:=(ia.length).symm
  exact xM e5 hln hs.1 hs.2 (PyProof.Rows.eq_isStrOf z t ia) (Cw z ia) (R.done OK h ⟨_,rfl⟩)
 | _=>exact nO hm3
noncomputable def sw(xs:List V):M V:=H7 xs λr x=>eA r λk=>bI x λi=>cj k λys=>dz (dj ys) λis=>aa (.int (is.count i:Nat))
theorem Bw(OK:B.Ok):bL B P n (.builtin "list.count") sw:=by
 intro A hA ρ st s vs xs R r y st' hm Q E h
 refine tk R h ?_;clear h;intro Q E h
 refine ie r hm λx w v u e r1 ru hm1=>bH r1 hm1 λk a e3 ha hm2=>bG ru hm2 λi t e4 hm3=>a5 R ha hm3 λys us m hx e5 q hl hm4=>aX hm4 λis hi hm5=>?_
 clear hm hm1 hm2 hm3 hm4 r r1
 subst e;subst e3;subst e4;obtain⟨rfl,rfl⟩:=pj hm5
 have ia:=jk hi q
 exact PyProof.Rows.count_list_ints (vs:=us.toList) (by rw[So];exact oz e5) ia (R.done OK h ⟨_,rfl⟩)
noncomputable def JA(xs:List V):M V:=A7 xs λx=>eA x λk=>cj k λys=>dz (dj ys) λis=>dz is.min? λi=>aa (.int i)
noncomputable def Jz(xs:List V):M V:=A7 xs λx=>eA x λk=>cj k λys=>dz (dj ys) λis=>dz is.max? λi=>aa (.int i)
theorem rD{xs:List V}{us:Array OT}{is:List Int}(hi:dj xs=some is)(q:aL ρ xs us.toList):∃ts:Array (Int×Tok),us=intItems ts/\is=ts.toList.map (·.1):=by
 obtain⟨ts,e1,e2⟩:=jl hi q
 refine⟨ts.toArray,?_,by simpa using e2.symm⟩
 apply Sl.mp
 rw[e1];simp[intItems]
theorem xj{ts:Array (Int×Tok)}{j:Nat}{v:OT}(h:(intItems ts)[j]?=some v):∃t,v=.int (numAt ts j) t:=PySem.intItems_at h
theorem xJ{is:List Int}{i:Int}(h:i∈is):∃j,j<is.length/\is.getD j 0=i:=by
 obtain⟨j,hj,e⟩:=List.getElem_of_mem h
 exact⟨j,hj,by rw[O9,Pf hj,e];rfl⟩
theorem xz{is:List Int}{j:Nat}(h:j<is.length):is.getD j 0∈is:=by
 rw[O9,Pf h];exact Rv h
theorem IJ(OK:B.Ok):bL B P n (.builtin "min") JA:=by
 intro A hA ρ st s vs xs R r y st' hm Q E h
 refine tk R h ?_;clear h;intro Q E h
 refine eQ r hm λx v e r1 hm1=>bH r1 hm1 λk a e3 ha hm2=>a5 R ha hm2 λys us m hx e5 q u hm3=>aX hm3 λis hi hm4=>aX hm4 λi hmin hm5=>?_
 clear hm hm1 hm2 hm3 hm4 r
 subst e;subst e3;obtain⟨rfl,rfl⟩:=pj hm5
 obtain⟨ts,e1,e2⟩:=rD hi q
 obtain⟨hmem,hle⟩:=List.min?_eq_some_iff.mp hmin
 have hpos:0<ts.size:=by
  cases is with
  | nil=>cases hmem
  | cons a b=>have:=congrArg RQ e2;simp at this;lia
 subst e1
 refine min_intList hA.handled (oz e5) hpos λv h' tk hv hk=>?_
 obtain⟨t,rfl⟩:=xj hv
 obtain⟨h1,h2⟩:=argBest_lt (numAt ts) (ts.size - 1)
 have e:numAt ts (argBest (λi j=>decide (numAt ts i<numAt ts j)) (ts.size - 1))=i:=by
  apply Int.le_antisymm
  ·rw[e2]at hmem
   obtain⟨j,hj,e⟩:=xJ hmem
   rw[Pc,P7]at hj
   have:=h2 j (by lia)
   rw[numAt_eq ts j,e]at this
   exact this
  ·refine hle _ ?_
   rw[e2,numAt_eq]
   exact xz (by rw[Pc,P7];lia)
 exact h _ ρ _ ⟨t,by rw[e]⟩ (R.ext OK hk rfl rfl) (bk.ext hk)
theorem II(OK:B.Ok):bL B P n (.builtin "max") Jz:=by
 intro A hA ρ st s vs xs R r y st' hm Q E h
 refine tk R h ?_;clear h;intro Q E h
 refine eQ r hm λx v e r1 hm1=>bH r1 hm1 λk a e3 ha hm2=>a5 R ha hm2 λys us m hx e5 q u hm3=>aX hm3 λis hi hm4=>aX hm4 λi hmax hm5=>?_
 clear hm hm1 hm2 hm3 hm4 r
 subst e;subst e3;obtain⟨rfl,rfl⟩:=pj hm5
 obtain⟨ts,e1,e2⟩:=rD hi q
 obtain⟨hmem,hle⟩:=List.max?_eq_some_iff.mp hmax
 have hpos:0<ts.size:=by
  cases is with
  | nil=>cases hmem
  | cons a b=>have:=congrArg RQ e2;simp at this;lia
 subst e1
 refine max_intList hA.handled (oz e5) hpos λv h' tk hv hk=>?_
 obtain⟨t,rfl⟩:=xj hv
 obtain⟨h1,h2⟩:=argBest_gt (numAt ts) (ts.size - 1)
 have e:numAt ts (argBest (λi j=>decide (numAt ts i>numAt ts j)) (ts.size - 1))=i:=by
  apply Int.le_antisymm
  ·refine hle _ ?_
   rw[e2,numAt_eq]
   exact xz (by rw[Pc,P7];lia)
  ·rw[e2]at hmem
   obtain⟨j,hj,e⟩:=xJ hmem
   rw[Pc,P7]at hj
   have:=h2 j (by lia)
   rw[numAt_eq ts j,e]at this
   exact this
 exact h _ ρ _ ⟨t,by rw[e]⟩ (R.ext OK hk rfl rfl) (bk.ext hk)
noncomputable def kq(mv mo mi:M V):M Fl:=ao mv λv=>ao mo λo=>ao mi λi=>eA o λk=>bI i λj=>cj k λxs=>if 0<=j/\j<xs.length/\xs.length<=1000000 then wv k (.list (xs.set j.toNat v)) .next else av
theorem aL.set{x:V}{v:OT}(hr:aU ρ x v):∀{xs:List V}{vs:List OT}(j:Nat),aL ρ xs vs->aL ρ (xs.set j x) (vs.set j v):=by
 intro xs
 induction xs with
 | nil=>intro vs j r;cases vs<;>first | exact r.elim | trivial
 | cons y xs ih =>
  intro vs j r
  cases vs with
  | nil=>exact r.elim
  | cons u vs =>
   cases j with
   | zero=>exact⟨hr,r.2⟩
   | succ j=>exact⟨r.1,ih j r.2⟩
theorem uN{prog:Program}{w:Pt}{E:OT->OX->Prop}{l:Addr}{vs:Array OT}{m j:Nat}{t:Tok}{v:OT}{Q:Unit->OX->Prop}(hl:s.heap.get? l=some { cls:=.type "list",data:=.seq vs m })(hj:j<vs.size)(hb:j<1000000)
  (h:Q () { s with heap:=s.heap.update l (PG (·.setIfInBounds j v)) }):Ph (model prog w) A (setItem (.ref l) (.int j t) v) Q E s:=by
 have hT:s.TypeIs (.ref l) "list":=(oz hl).typeIs
 unfold setItem
 try with_reducible refine wpAny_holding ?_
 first | refine OR (O3 ?_) | skip
 refine OR (wpAny_sequenceKey hT (by decide) ?_)
 have fits:Rn (j:Int)=true:=by simp[Rn];lia
 have hx:vs[j]?=some vs[j]:=Array.getElem?_eq_getElem hj
 obtain⟨k,hk⟩:∃k:Int,k=j:=⟨_,rfl⟩
 rw[<- hk]at fits ⊢
 refine OR (wpAny_callSpecial?_slot (name:=OO "__setitem__") hT F.slot_list_setitem (wpAny_call_entry F.slot_list_setitem hT F.entry_list_setitem ?_ (F.args_list_setitem_3 _ _ _)))
 show Ph _ _ (Builtin.List.listSubscript? (.int k t)>>=_) _ _ s
 refine OR (wpAny_listSubscript_int fits ?_)
 subst hk
 show Ph _ _ ((seqItemAt l j>>=λr=>pure (r.map (j,·)))>>=_) _ _ s
 refine OR (OR (wpAny_seqItemAt hl rfl (O3 ?_)))
 rw[hx]
 show Ph _ _ (setSeqItemAt l j v>>=_) _ _ s
 refine OR (wpAny_setSeqItemAt hl rfl ?_)
 exact O3 ⟨.none,rfl,O3 h⟩
theorem wD(OK:B.Ok){o i value:OQ}{p pos:Pos}{mv mo mi:M V}(hv:aR B P n value mv)(ho:aR B P n o mo)(hi:aR B P n i mi)(hs:swapsWith value (some (.Subscript o i p)) pos.line P.env=pure false) :
  i7 B P n (.Assign [.Subscript o i p] value pos) (kq mv mo mi):=by
 intro A hA ρ st s R y st' hm Q E h
 refine ae hm λx st1 e1 e2=>ae e2 λxo st2 e3 e4=>ae e4 λxi st3 e₅ e6=>?_
 refine wpAny_Assign_Subscript (hv A hA ρ st s R x st1 e1 _ _ λv ρ1 s₁ r1 R1 G₁=>ho A hA ρ1 st1 s₁ R1 xo st2 e3 _ _ λov ρ2 s2 r2 R2 G₂=>hi A hA ρ2 st2 s2 R2 xi st3 e₅ _ _ λiv ρ3 s3 r3 R3 G₃=>?_) hs
 refine bH (r2.mono G₃.pre) e6 λk l el hl e7=>bG r3 e7 λj t ei e8=>a5 R3 hl e8 λxs vs m hx e5 q hlen e9=>aG e9 λhj e10=>?_
 clear hm e1 e2 e3 e4 e₅ e6 e7 e8 e9
 subst el;subst ei;obtain⟨rfl,rfl⟩:=pj e10
 have rv:=(r1.mono G₂.pre).mono G₃.pre
 obtain⟨hj0,hj1,hj2⟩:=hj
 obtain⟨j,rfl⟩:=QL hj0
 obtain⟨R',G'⟩:=R3.toRel0.setList (tk:=s3.toks) OK hl (λv=>by rw[hx];simp) e5 (·.setIfInBounds j v) (xs:=xs.set j x) (by rw[Array.toList_setIfInBounds];exact q.set rv j)
 exact uN e5 (by lia) (by lia) (h _ ρ3 _ rfl ⟨R',R3.tpos⟩ (G₁.trans (G₂.trans (G₃.trans ⟨G',Qc (Qw _ _ _).symm⟩))))
noncomputable def pS(σ:List O)(x:V):Bool:=match (qd x).bind λk=>σ[k]? with
 | some (.dict _)=>true
 | _=>false
theorem Cz:tC B pS "dict":=⟨λP ρ st s x v R r h=>by
 cases x with
 | ref k =>
  unfold pS at h
  obtain⟨a,ha,rfl⟩:=r
  cases e:st.σ[k]? with
  | none=>simp[qd,e]at h
  | some o=>cases o with
   | dict es =>
    obtain⟨m,hm,q⟩:=R.obj _ a _ ha e
    refine⟨hm.typeIs,λb eb=>?_⟩
    obtain rfl:=Qv eb
    obtain⟨ob,des,ep,eo,hx,_⟩:=hm
    exact⟨ob,eo,hx.2.1⟩
   | _=>simp[qd,e]at h
 | _=>exact nc QH h rfl⟩
noncomputable def E6{β:Type}(f:List (Str×V)->M β)(o:O):M β:=match o with | .dict es=>f es | _=>av
noncomputable def Cc(xs:List V):M V:=Ow xs λr k d=>eA r λj=>gw k λx=>oO j (E6 λes=>aa ((es.lookup x).getD d))
theorem E3(OK:B.Ok)(hlow:∀a∈PySem.sysModules::B.tabs,a<B.n₀):bL B P n (.builtin "dict.get") Cc:=by
 intro A hA ρ st s vs xs R r y st' hm Q E h
 refine tk R h ?_;clear h;intro Q E h
 refine GA r hm λr0 k0 d0 v1 v2 v3 e0 q1 q2 q3 hm0=>bH q1 hm0 λj a e1 ha hm1=>cy q2 hm1 λx t e2 hm2=>bS hm2 λo ho hm3=>?_
 clear hm hm0 hm1 hm2 r q1 q2
 subst e0;subst e1;subst e2
 cases o with
 | dict es =>
  obtain⟨rfl,rfl⟩:=pj hm3
  obtain⟨m,hm1,q⟩:=R.obj _ a _ ha ho
  have hs:(a==sysModules)=false:=beq_false_of_ne λe=>by
   have h1:=R.fresh a (O1 ha)
   have h2:=hlow sysModules (Pe ..)
   rw[e]at h1
   exact RF _ (O0 h2 h1)
  have hv:aU ρ ((es.lookup x).getD d0) ((m x).getD v3):=by
   have q':=q x
   cases h1:es.lookup x with
   | none=>cases h2:m x with
    | none=>exact q3
    | some u=>rw[h1,h2]at q';exact q'.elim
   | some y=>cases h2:m x with
    | none=>rw[h1,h2]at q';exact q'.elim
    | some u=>rw[h1,h2]at q';exact q'
  exact call_meetsIn Td hm1.typeIs F.entry_dict_get (F.args_dict_get_3 _ _ _) (meets_dict_get_default (strKind B.prog B.w) a (strKind_is _ _ _ _) hs v3) ⟨m,hm1,R.done OK h hv⟩
 | _=>exact nO hm3
noncomputable def pick{α:Type}(idx:List Nat)(xs:List α):List α:=idx.filterMap (xs[·]?)
noncomputable def oU(m:M V)(lo hi:M (Option Int)):M V:=ao m λx=>ao lo λa=>ao hi λb=>gw x λx=>if (PC a b 1 x.length).length<x.length/\x.length<=1000000 then aa (.str ⟨(pick (PC a b 1 x.length) x.cps.toList).toArray⟩)else av
theorem uC{v:OT}{x:Option Int}(h:IsPart v x):∃l,v=partValue l/\l.map (·.1)=x:=by
 cases h with
 | none=>exact⟨none,rfl,rfl⟩
 | int i t=>exact⟨some (i,t),rfl,rfl⟩
theorem uD{α:Type}(idx:List Nat)(xs:List α):(pick idx xs).length<=idx.length:=List.length_filterMap_le _ _
theorem AC(OK:B.Ok){value:OQ}{lower upper:Option OQ}{p pos:Pos}{m:M V}{lo hi:M (Option Int)}(hv:aR B P n value m)(hlo:kD B P n lower lo)(hhi:kD B P n upper hi):aR B P n (.Subscript value (.Slice lower upper none p) pos) (oU m lo hi):=by
 intro A hA ρ st s R y st' hm Q E h
 refine ae hm λx st1 e1 e2=>ae e2 λa st2 e3 e4=>ae e4 λb st3 e5 e6=>?_
 refine rU (T:="str") F.slot_str_getitem.lookup (hv A hA ρ st s R x st1 e1 _ _ λv ρ1 s₁ r1 R1 G₁=>hlo A hA ρ1 st1 s₁ R1 a st2 e3 _ _ λva ρ2 s2 ra R2 G₂=>hhi A hA ρ2 st2 s2 R2 b st3 e5 _ _ λvb ρ3 s3 rb R3 G₃=>?_)
 refine cy r1 e6 λz t ev e7=>aG e7 λhl e8=>?_
 clear hm e1 e2 e3 e4 e5 e6 e7 r1
 subst ev;obtain⟨rfl,rfl⟩:=pj e8
 obtain⟨l,el1,el2⟩:=uC ra
 obtain⟨u,eu1,eu2⟩:=uC rb
 refine⟨typeIs_str _ z t,wpAny_getItem_str_slice (l:=l) (u:=u) (st:=none) ⟨_,Pd _ rfl,rfl,by rw[el1,eu1];rfl⟩ rfl ?_⟩
 have hp:slicePicked z l u none=PC a b 1 z.length:=by unfold slicePicked;rw[el2,eu2];rfl
 unfold sliceMade
 rw[hp,if_neg (by rw[PD,not_and,beq_iff_eq,beq_iff_eq];exact λg=>Pg hl.1)]
 have hpl:=uD (PC a b 1 z.length) z.cps.toList
 obtain⟨R4,G₄⟩:=d5 (ob:={ cls:=.type "slice",data:=.fields #[va,vb,.none] }) (tk:=s3.toks+1) OK R3 (PN 1 _)
 have e:(PC a b 1 z.length).filterMap (z.cps[·]?)=pick (PC a b 1 z.length) z.cps.toList:=by
  unfold pick
  congr 1
  funext i
  exact(Sj).symm
 rw[e]
 have hz:sizeLine=16777216:=sizeLine_eq
 refine⟨?_,h _ ρ3 _ ⟨_,rfl⟩ R4 (G₁.trans (G₂.trans (G₃.trans G₄)))⟩
 show(pick _ _).toArray.size<=_
 rw[P1]
 lia
noncomputable def eF(n:Nat):List Nat:=sliceRange ((n:Int) - 1) (-1) (-1)
theorem wm(n:Nat):(eF n).length<=n:=sliceRange_length_le _ _ _ _ (λh=>absurd h (by decide)) λu=>⟨Int.le_refl _,by decide⟩
noncomputable def uI(m:M V):M V:=ao m λx=>match x with
 | .str x=>if x.length<=1000000 then aa (.str ⟨(pick (eF x.length) x.cps.toList).toArray⟩)else av
 | .ref k=>cj k λxs=>if xs.length<=1000000 then gU (.list (pick (eF xs.length) xs))else av
 | _=>av
theorem aL.pick{xs:List V}{vs:List OT}(q:aL ρ xs vs):∀idx:List Nat,aL ρ (pick idx xs) (Mine.pick idx vs)
 | []=>trivial
 | i::idx=>by
  have ih:=aL.pick q idx
  unfold Mine.pick at ih ⊢
  rw[List.filterMap_cons,List.filterMap_cons]
  cases hx:xs[i]? with
  | none =>
   have:vs[i]?=none:=by rw[Rz]at hx ⊢;rw[<- q.length];exact hx
   rw[this];exact ih
  | some x =>
   obtain⟨v,hv,r⟩:=q.get hx
   rw[hv];exact⟨r,ih⟩
theorem Kg(OK:B.Ok){value:OQ}{u:Nat}{cp up p pos:Pos}{m:M V}(hv:aR B P n value m)
  (ht:∀o r,letTemporaryGo value o r=pure ()):aR B P n (.Subscript value (.Slice none none (some (.UnaryOp .USub (.Constant (.int 1) u cp) up)) p) pos) (uI m):=by
 intro A hA ρ st s R y st' hm Q E h
 refine ae hm λx st1 e1 e2=>?_
 have go:∀(v:OT)(s₁:OX)(QQ:OT->OX->Prop)(EE:OT->OX->Prop),(∀a s2,(∃tk t,s2={ s₁ with heap:=s₁.heap.push { cls:=.type "slice",data:=.fields #[.none,.none,.int (-1) t] },toks:=tk }/\1<=tk)->a=s₁.heap.objs.size->QQ (.ref a) s2) ->
   Ph (model B.prog B.w) A (eval (.Slice none none (some (.UnaryOp .USub (.Constant (.int 1) u cp) up)) p) P.env) QQ EE s₁:=λv s₁ QQ EE k=>by
  refine wpAny_Slice (O3 (O3 ?_))
  rw[evalPart_some]
  exact wpAny_UnaryOp (wpAny_Constant_int (To (k _ _ ⟨_,_,rfl,PN 1 _⟩ rfl)))
 cases x with
 | str x =>
  refine aG e2 λhl e3=>?_
  obtain⟨rfl,rfl⟩:=pj e3
  refine wpAny_Subscript_Slice_step (T:="str") F.slot_str_getitem.lookup (hv A hA ρ st s R _ _ e1 _ _ λv ρ1 s₁ r1 R1 G₁=>?_) ht
  obtain⟨t,rfl⟩:=r1
  refine go (.str x t) s₁ _ _ λa s2 q ea=>?_
  obtain⟨tk',t',rfl,htk⟩:=q;subst ea
  obtain⟨R2,G₂⟩:=d5 (ob:={ cls:=.type "slice",data:=.fields #[.none,.none,.int (-1) t'] }) (tk:=tk') OK R1 htk
  refine⟨typeIs_str _ x t,wpAny_getItem_str_slice (l:=none) (u:=none) (st:=some (-1,t')) ⟨_,Pd _ rfl,rfl,rfl⟩ rfl ?_⟩
  have hp:slicePicked x none none (some (-1,t'))=eF x.length:=rfl
  unfold sliceMade
  rw[hp,if_neg (by rw[PD,not_and];intro h;exact absurd h (by decide:¬((-1:Int)==1)=true))]
  have hpl:=uD (eF x.length) x.cps.toList
  have hrl:=wm x.length
  have e:(eF x.length).filterMap (x.cps[·]?)=pick (eF x.length) x.cps.toList:=by
   unfold pick
   congr 1
   funext i
   exact(Sj).symm
  rw[e]
  have hz:sizeLine=16777216:=sizeLine_eq
  refine⟨?_,h _ ρ1 _ ⟨_,rfl⟩ ⟨R2.toks OK _,PN 1 _⟩ (G₁.trans (G₂.trans (aW.toks _)))⟩
  show(pick _ _).toArray.size<=_
  rw[P1]
  lia
 | ref k =>
  refine wpAny_Subscript_Slice_step (T:="list") list_getitem_lookup (hv A hA ρ st s R _ _ e1 _ _ λv ρ1 s₁ r1 R1 G₁=>?_) ht
  obtain⟨a,ha,rfl⟩:=r1
  refine a5 R1 ha e2 λxs vs q hx e5 rq hlen e8=>aG e8 λhsz e9=>?_
  clear hm e1 e2 e8
  obtain⟨rfl,rfl⟩:=pj e9
  refine go (.ref a) s₁ _ _ λb s2 q' eb=>?_
  obtain⟨tk',t',rfl,htk⟩:=q';subst eb
  obtain⟨R2,G₂⟩:=d5 (ob:={ cls:=.type "slice",data:=.fields #[.none,.none,.int (-1) t'] }) (tk:=tk') OK R1 htk
  have hl:=(oz e5).push { cls:=.type "slice",data:=.fields #[.none,.none,.int (-1) t'] }
  have hz:sizeLine=16777216:=sizeLine_eq
  refine⟨hl.typeIs,wpAny_getItem_list_slice (lo:=none) (hi:=none) (st:=some (-1)) hl (Ts ..) .none .none (.int _ _) (by simp) ?_ (by lia)⟩
  have e:slicePick vs none none (some (-1))=(pick (eF xs.length) vs.toList).toArray:=by
   unfold slicePick pick eF
   rw[hlen]
   congr 1
   show List.filterMap _ (sliceRange ((vs.size:Int) - 1) (-1) (-1))=_
   congr 1
   funext i
   exact(Sj).symm
  rw[e]
  have G:=G₁.trans G₂
  exact R2.newAllocT (o:=.list (pick (eF xs.length) xs)) OK (λv ρ' s' r' R' G'=>h v ρ' s' r' R' (G.trans G')) rfl (by simp) λρ' hp g=>⟨_,_,Pd _ rfl,(rq.pick _).mono hp⟩
 | _=>exact nO e2
end
end Mine
end
section
open PySem PySem.Calls PySem.SeqAt PySem.W PyProof.Rows PySem.MeetsSeq PySem.MeetsSeq2 PySem.MeetsSeq3 PySem.SeqRoads2
open PySem.AutoSeq1 (wpAny_loadPart')
namespace Mine
noncomputable def lK{α:Type}(c:Nat->Nat->Bool):KasT α->α
 | .ret a=>a
 | .ask i j k=>lK c (k (c i j))
noncomputable def bA(c:Nat->Nat->Bool)(n:Nat):List Nat:=(lK c (kas_sort n)).toList
section
variable {prog:Program}{w:Pt}{A:Around}{E:OT->OX->Prop}{s:OX}
noncomputable def EG(p q:Int×Int):Bool:=if p.1=q.1 then decide (p.2<q.2)else decide (p.1<q.1)
noncomputable def zb(p:Int×Int)(t u:Tok)(m:Nat):Obj:={ cls:=.type "list",data:=.seq #[.int p.1 t,.int p.2 u] m }
structure lF(h:Heap)(v:OT)(p:Int×Int):Prop where
 is:∃a t u m,v=.ref a/\h.get? a=some (zb p t u m)
theorem ya{x y:Addr}{items items2:Array OT}{m m':Nat}(i:Nat){a b:Int}{t u:Tok}(h1:items[i]?=some (.int a t))(h2:items2[i]?=some (.int b u))(hne:a≠b):Meets (Builtin.«list.__eq__.loop» ⟨[.ref x,.ref y,rawInt i,rawInt 0],[]⟩)
  (λA R s=>s.heap.get? x=some { cls:=.type "list",data:=.seq items m }/\s.heap.get? y=some { cls:=.type "list",data:=.seq items2 m' }/\R (.ok (.ret (.bool (decide (a<b))))) s):=by
 intro prog w A R s h
 obtain⟨hp,g,d,tk,os⟩:=s;obtain⟨hl,hb,h⟩:=h
 have i1:items[((i:Nat):Int).toNat]?=some (.int a t):=h1
 have j1:items2[((i:Nat):Int).toNat]?=some (.int b u):=h2
 wp_walk using wpAny_loadPart' hl,wpAny_loadPart' hb
 rw[i1,j1]
 refine OR (wpAny_eqBool_int ?_)
 rw[beq_false_of_ne hne]
 wp_walk using wpAny_loadPart' hl,wpAny_loadPart' hb
 rw[i1,j1]
 refine OR (wpAny_lt_int ?_)
 wp_walk
 exact h
theorem LH{x y:Addr}{items items2:Array OT}{m m':Nat}(i:Nat){a:Int}{t u:Tok}{r:Bool}(h1:items[i]?=some (.int a t))(h2:items2[i]?=some (.int a u))
  (hn:Meets (Builtin.«list.__eq__.loop» ⟨[.ref x,.ref y,rawInt (i+1:Nat),rawInt 0],[]⟩) (λA R s=>s.heap.get? x=some { cls:=.type "list",data:=.seq items m }/\s.heap.get? y=some { cls:=.type "list",data:=.seq items2 m' }/\R (.ok (.ret (.bool r))) s)) :
  Meets (Builtin.«list.__eq__.loop» ⟨[.ref x,.ref y,rawInt i,rawInt 0],[]⟩)
  (λA R s=>s.heap.get? x=some { cls:=.type "list",data:=.seq items m }/\s.heap.get? y=some { cls:=.type "list",data:=.seq items2 m' }/\R (.ok (.ret (.bool r))) s):=by
 intro prog w A R s h
 obtain⟨hp,g,d,tk,os⟩:=s;obtain⟨hl,hb,h⟩:=h
 have i1:items[((i:Nat):Int).toNat]?=some (.int a t):=h1
 have j1:items2[((i:Nat):Int).toNat]?=some (.int a u):=h2
 have hc:((i:Int)+1)=((i+1:Nat):Int):=by push_cast;rfl
 wp_walk using wpAny_loadPart' hl,wpAny_loadPart' hb
 rw[i1,j1]
 refine OR (wpAny_eqBool_int ?_)
 rw[beq_self_eq_true]
 wp_walk
 rw[hc]
 exact⟨plainId_quiet plain_eq_loop _,codeAny_builtin entry_eq_loop (by
  rw[Around.under_plainId plain_eq_loop _]
  exact hn prog w A R _ ⟨hl,hb,h⟩)⟩
theorem CR{x y:Addr}{items items2:Array OT}{m m':Nat}{r:Bool}
  (hn:Meets (Builtin.«list.__eq__.loop» ⟨[.ref x,.ref y,rawInt (0:Nat),rawInt 0],[]⟩) (λA R s=>s.heap.get? x=some { cls:=.type "list",data:=.seq items m }/\s.heap.get? y=some { cls:=.type "list",data:=.seq items2 m' }/\R (.ok (.ret (.bool r))) s)) :
  Meets (Builtin.«list.__lt__» ⟨[.ref x,.ref y],[]⟩)
  (λA R s=>s.heap.get? x=some { cls:=.type "list",data:=.seq items m }/\s.heap.get? y=some { cls:=.type "list",data:=.seq items2 m' }/\R (.ok (.ret (.bool r))) s):=by
 intro prog w A R s h
 obtain⟨hp,g,d,tk,os⟩:=s;obtain⟨hl,hb,h⟩:=h
 have f3:=AutoSeq1.sub_list_list
 wp_walk using wpAny_loadPart' hl,wpAny_loadPart' hb
 exact⟨plainId_quiet plain_eq_loop _,codeAny_builtin entry_eq_loop (by
  rw[Around.under_plainId plain_eq_loop _]
  exact hn prog w A R _ ⟨hl,hb,h⟩)⟩
theorem CN{x y:Addr}{p q:Int×Int}{t1 t2 t3 t4:Tok}{m m':Nat}(hne:p.2≠q.2):Meets (Builtin.«list.__lt__» ⟨[.ref x,.ref y],[]⟩)
  (λA R s=>s.heap.get? x=some (zb p t1 t2 m)/\s.heap.get? y=some (zb q t3 t4 m')/\R (.ok (.ret (.bool (EG p q)))) s):=by
 refine CR ?_
 unfold EG
 by_cases e:p.1=q.1
 ·rw[if_pos e]
  exact LH (a:=p.1) (u:=t3) 0 rfl (by rw[e];rfl) (ya 1 rfl rfl hne)
 ·rw[if_neg e]
  exact ya 0 rfl rfl e
theorem De{v u:OT}{p q:Int×Int}{C:Bool->OX->Prop}(hu:A.units+1<cLine)(hv:lF s.heap v p)(hw:lF s.heap u q)(hne:p.2≠q.2)(h:C (EG p q) s):Ph (model prog w) A (keyLt' oneType' v u) C E s:=by
 obtain⟨x,t1,t2,m,rfl,ex⟩:=hv.is
 obtain⟨y,t3,t4,m',rfl,ey⟩:=hw.is
 rw[keyLt'_oneType,oneLt'_eq]
 simp only[if_true]
 refine OR (wpAny_cRoomFor (Sd hu) ?_)
 refine OR (wpAny_callSpecialIfBound?_slot ⟨_,ex,rfl⟩ F.slot_list_lt (call_meets F.slot_list_lt ⟨_,ex,rfl⟩ F.entry_list_lt (F.args_list_lt_2 _ _) (CN hne) ⟨ex,ey,?_⟩))
 exact wpAny_truthy_bool h
end
end Mine
end
section
open PySem PySem.Calls PySem.SeqAt PySem.W PyProof.Rows
namespace Mine
noncomputable def iG{α:Type}(c p:Nat->Nat->Bool):KasT α->Bool
 | .ret _=>true
 | .ask i j k=>p i j&&iG c p (k (c i j))
theorem pg{α:Type}{cmp:Nat->Nat->(Bool->OX->Prop)->OX->Prop}{c p:Nat->Nat->Bool}{Q:α->OX->Prop}{s:OX}(hc:∀i j C,p i j=true->C (c i j) s->cmp i j C s):∀t:KasT α,iG c p t=true->Q (lK c t) s->t.kasWp cmp Q s
 | .ret a,_,h=>h
 | .ask i j k,ha,h=>by
  obtain⟨h1,h2⟩:=P0.mp ha
  exact hc i j _ h1 (pg hc (k (c i j)) h2 h)
noncomputable def within(n i j:Nat):Bool:=decide (i<n)&&(decide (j<n)&&decide (i≠j))
theorem fV{n i j:Nat}(h:within n i j=true):i<n/\j<n/\i≠j:=by
 simpa[within,P0]using h
noncomputable def listed(vs:List OT)(p:List Nat):List OT:=p.map λi=>vs.getD i .none
section
variable {prog:Program}{w:Pt}{A:Around}{E:OT->OX->Prop}{s:OX}
theorem Hc{a:Addr}{vs:List OT}{n:Nat}{P:PySem.Fin->OX->Prop}{c:Nat->Nat->Bool}(ho:s.heap.get? a=some (seqObj "list" vs.toArray n))(h2:2<=vs.length)(h64:vs.length<64)
  (hT:∀h',(∀b o,b≠a->s.heap.get? b=some o->h'.get? b=some o)->∀v∈vs,Looks (model prog w) h' (typeOf v) (.type "list"))
  (hc:∀h',(∀b o,b≠a->s.heap.get? b=some o->h'.get? b=some o)->∀i j C,within vs.length i j=true->C (c i j) { s with heap:=h' }->kas_ask prog w A oneType' vs i j C { s with heap:=h' })
  (hk:iG c (within vs.length) (kas_sort vs.length)=true)
  (h:P (.done (.ret .none)) { s with heap:=sortedHeap s.heap a vs (Ra (listed vs (bA c vs.length))) }):Ph (model prog w) A (Builtin.«list.sort» ⟨[.ref a],[]⟩) P E s:=by
 have ha:a<s.heap.objs.size:=Pu ho
 obtain⟨e1,ho1⟩:∃e1,(s.heap.update a (PG λu=>(#[]:Array OT))).get? a=some (seqObj "list" #[] e1):=⟨_,get?_update_seq ho λu=> #[]⟩
 have ho6:(((s.heap.update a (PG λu=>(#[]:Array OT))).push (seqObj "tuple" vs.toArray 0)).push (seqObj "list" #[] 0)).get? a=some (seqObj "list" #[] e1):=Pj _ (Pj _ ho1)
 have hkeep:∀b o,b≠a->s.heap.get? b=some o->(((s.heap.update a (PG λu=>(#[]:Array OT))).push (seqObj "tuple" vs.toArray 0)).push (seqObj "list" #[] 0)).get? b=some o:=λb o hb e =>
  Pj _ (Pj _ (((QP s.heap a _).2 b hb).trans e))
 rw[list_sort_plain]
 refine OR (listItems_at ho rfl ?_)
 refine OR (listUpdate_at ho rfl ?_ (by rw[P1,sizeLine_eq];lia) (PQ _))
 refine OR (seqEpoch_at ho1 rfl ?_)
 refine OR (wpAny_newTuple ?_ (by show vs.length<=_;rw[sizeLine_eq];lia))
 refine OR (wpAny_newList ?_ (PQ _))
 refine wpAny_holding ?_
 unfold sortedHeap at h
 show Ph (model prog w) A _ P E { s with heap:=((s.heap.update a (PG λu=>(#[]:Array OT))).push (seqObj "tuple" vs.toArray 0)).push (seqObj "list" #[] 0) }
 generalize ((s.heap.update a (PG λu=>(#[]:Array OT))).push (seqObj "tuple" vs.toArray 0)).push (seqObj "list" #[] 0)=H at *
 dsimp only
 have hn2:¬vs.toArray.size<2:=by rw[P1];lia
 rw[if_neg hn2,if_neg hn2]
 refine OR (kas_kind h2 (hT H hkeep) (by decide) (by decide) ?_)
 have ask:(kas_sort vs.length).kasWp (kas_ask prog w A oneType' vs) (λp s'=>s'={ s with heap:=H }/\p.toList=bA c vs.length) { s with heap:=H } :=
  pg (hc H hkeep) _ hk ⟨rfl,rfl⟩
 rw[kas_ask_eq]at ask
 have est:SortSt.mk' oneType' (vs.toArray.zip vs.toArray) #[] 7 none=kas_st oneType' (pairsOf vs) (Ra (OP vs.length)):=by
  have e:=kas_range (pairsOf vs)
  rw[pairsOf_size]at e
  show SortSt.mk' oneType' (pairsOf vs) #[] 7 none=SortSt.mk' oneType' ((Ra (OP vs.length)).map (kas_item (pairsOf vs))) #[] 7 none
  rw[e]
 have run:=kas_runs (E:=E) (Q:=λu st' s'=>s'={ s with heap:=H }/\failedOf st'=none/\(arrOf st').map (·.2)=Ra (listed vs (bA c vs.length))/\(listed vs (bA c vs.length)).length=vs.length)
  h2 h64 (λp' st' s' a1 a2 a3 a4=>⟨a4.1,a3,by
   apply Sl.mp
   rw[a2,Array.map_map,Array.toList_map,a4.2]
   exact PX λi u=>by show(kas_item (pairsOf vs) i).2=_;rw[kas_item_eq],by rw[listed,Pc,<- a4.2,P7,a1]⟩) ask
 rw[<- est]at run
 refine OR (wpAny_mono run ?_ λu u e=>e)
 rintro ⟨⟨⟩,st'⟩ s' ⟨rfl,hf,hout,hlen⟩
 dsimp only
 rw[hout]
 refine OR (seqEpoch_at ho6 rfl ?_)
 refine OR (listUpdate_at ho6 rfl ?_ (PQ _) (by rw[P1,hlen,sizeLine_eq];lia))
 rw[hf]
 simp only[bne_self_eq_false,P5,if_false]
 exact O3 h
theorem AL{l:Addr}{vs:List OT}{Q:OT->OX->Prop}{c:Nat->Nat->Bool}(hl:s.heap.IsList l vs.toArray)(h2:2<=vs.length)(h64:vs.length<64)
  (hT:∀h',(∀b o,s.heap.get? b=some o->h'.get? b=some o)->∀v∈vs,Looks (model prog w) h' (typeOf v) (.type "list"))
  (hc:∀h',(∀b o,s.heap.get? b=some o->h'.get? b=some o)->∀i j C,within vs.length i j=true->C (c i j) { s with heap:=h' }->kas_ask prog w A.in1.in1 oneType' vs i j C { s with heap:=h' })
  (hk:iG c (within vs.length) (kas_sort vs.length)=true)
  (h:Q (.ref (s.heap.objs.size+1)) { s with heap:=sortedAll s.heap vs (Ra (listed vs (bA c vs.length))) }):Ph (model prog w) A (call (.builtin "sorted") [.ref l]) Q E s:=by
 refine QU kind_sorted plain_sorted entry_sorted (args_sorted1 _) ?_
 unfold Builtin.«sorted»
 refine OR (m:=checkCount "sorted" 1 1 _) (O3 ?_)
 refine OR (collect_list hl ?_ (by rw[sizeLine_eq];lia))
 refine OR (wpAny_newList ?_ (by rw[sizeLine_eq];lia))
 have hsz:((s.heap.push (seqObj "list" #[] 0)).update s.heap.objs.size (PG (· ++vs.toArray))).objs.size=s.heap.objs.size+1:=by
  rw[S5,size_push']
 have hoL:(((s.heap.push (seqObj "list" #[] 0)).update s.heap.objs.size (PG (· ++vs.toArray))).push (seqObj "list" vs.toArray 0)).get? (s.heap.objs.size+1)=some (seqObj "list" vs.toArray 0):=by
  rw[<- hsz];exact Pd _ rfl
 have keep:∀b o,s.heap.get? b=some o->b≠s.heap.objs.size+1/\(((s.heap.push (seqObj "list" #[] 0)).update s.heap.objs.size (PG (· ++vs.toArray))).push (seqObj "list" vs.toArray 0)).get? b=some o:=λb o q=>by
  have hlt:b<s.heap.objs.size:=Pu q
  refine⟨Pg (Ql hlt),?_⟩
  rw[Se _ _ _ (by rw[hsz];exact Pg (Ql hlt)),Heap.get?_update_ne _ _ _ _ (Pg hlt),Se _ _ _ (Pg hlt)]
  exact q
 show Ph _ _ _ _ _ { s with heap:=((s.heap.push (seqObj "list" #[] 0)).update s.heap.objs.size (PG (· ++vs.toArray))).push (seqObj "list" vs.toArray 0) }
 rw[hsz]
 unfold sortedAll at h
 generalize ((s.heap.push (seqObj "list" #[] 0)).update s.heap.objs.size (PG (· ++vs.toArray))).push (seqObj "list" vs.toArray 0)=H at *
 refine OR (wpAny_holding (wpAny_call_entry slot_list_sort ⟨_,hoL,rfl⟩ entry_list_sort (Hc (s:={ s with heap:=H }) hoL h2 h64 (λh' k=>hT h' λb o e=>k b o (keep b o e).1 (keep b o e).2)
  (λh' k=>hc h' λb o e=>k b o (keep b o e).1 (keep b o e).2) hk ⟨_,rfl,?_⟩) (args_list_sort _)))
 exact O3 ⟨_,rfl,h⟩
end
theorem d8.other{cc cc2 Pl Pl2:Addr}{pos pos2:Pos}{qual qual2:Str}{ρ:List Addr}{h h':Heap}(T:d8 cc Pl pos qual ρ h)(T2:d8 cc2 Pl2 pos2 qual2 ρ h)(hne:Pl2≠Pl)(hk:∀b o,b≠Pl->h.get? b=some o->h'.get? b=some o):d8 cc2 Pl2 pos2 qual2 ρ h':=by
 obtain⟨⟨o,eo,_,hcl,h1⟩,o2,e2,_,_,h2⟩:=T2.at_
 obtain⟨ps,_,⟨_,eP⟩,_,_,hps⟩:=T.is
 refine T2.keep ((hk _ _ (λq=>by subst q;rw[eP]at eo;obtain rfl:=sj eo;exact nc Tr hcl rfl) eo).trans eo.symm) ((hk _ _ hne e2).trans e2.symm) h1 h2 λc' oc r e np nf q=>⟨hk _ _ (λq=>?_) e,q⟩
 obtain⟨_,o',vs,t,q1,q2,q3,q4⟩:=r
 obtain rfl:=Qv q1
 rw[q,eP]at q2
 obtain rfl:=sj q2
 obtain rfl:=Data.fields.inj q3
 rcases hps with rfl | ⟨c3,rfl,_⟩
 ·exact nO q4
 ·exact nc Tr (sj q4) rfl
section
variable {B:bc}{P P':Fc}{A:Around}{n:Nat}{ρ ρ' ρ'':List Addr}{st st':St}{s s' s'':OX}
noncomputable def Ox(is:List Int):Option (Int×Int):=match is with | [a,b]=>some (a,b) | _=>none
noncomputable def ko(σ:List O)(x:V):Option (Int×Int):=(qd x).bind λk=>(gm σ[k]?).bind λys=>(dj ys).bind Ox
noncomputable def zO(ps:List (Int×Int))(i j:Nat):Bool:=EG (ps.getD i (0,0)) (ps.getD j (0,0))
noncomputable def u5(is:List Int):M V:=if is.length<64 then gU (.list ((is.mergeSort λa b=>decide (a<=b)).map .int))else av
noncomputable def nF(ys:List V)(ps:List (Int×Int)):M V:=if 2<=ps.length/\ps.length<64/\(ps.map (·.2)).Nodup/\iG (zO ps) (within ps.length) (kas_sort ps.length)=true then gU (.list ((bA (zO ps) ps.length).map λi=>ys.getD i .none))else av
noncomputable def zt(ys:List V):M V:=λst=>match dj ys with
 | some is=>u5 is st
 | none=>(ys.mapM (ko st.σ)).bind λps=>nF ys ps st
noncomputable def kK(xs:List V):M V:=A7 xs λx=>eA x λk=>cj k zt
theorem Eg{is:List Int}{p:Int×Int}(h:Ox is=some p):is=[p.1,p.2]:=by
 rcases is with _ | ⟨a,_ | ⟨b,_ | ⟨c,r⟩⟩⟩
 ·exact nO h
 ·exact nO h
 ·obtain rfl:=sj h;rfl
 ·exact nO h
theorem Dd(R:Rel0 B P ρ st s){x:V}{v:OT}{p:Int×Int}(h:ko st.σ x=some p)(r:aU ρ x v):lF s.heap v p:=by
 refine aV h λk hk h1=>aV h1 λys hy h2=>aV h2 λis hi h3=>?_
 clear h h1 h2
 cases x with
 | ref j =>
  obtain rfl:=sj hk
  obtain⟨a,ha,rfl⟩:=r
  obtain⟨vs,m,e,q⟩:=R.obj _ a _ ha (kj hy)
  obtain⟨ts,e1,e2⟩:=jl hi q
  rw[Eg h3]at e2
  obtain⟨⟨a1,t1⟩,⟨a2,t2⟩,rfl⟩:∃x y,ts=[x,y]:=by
   have hz:ts.length=2:=by have:=congrArg RQ e2;rwa [Pc]at this
   cases ts with
   | nil=>exact nc SV hz rfl
   | cons x ts=>cases ts with
    | nil=>obtain⟨⟩:=Qf hz
    | cons y ts=>cases ts with
     | nil=>exact⟨x,y,rfl⟩
     | cons _ _=>cases hz
  obtain⟨e3,e4⟩:a1=p.1/\a2=p.2:=by simpa using e2
  subst e3;subst e4
  refine⟨a,t1,t2,m,rfl,?_⟩
  rw[e]
  unfold zb
  congr 2
  congr 1
  apply Sl.mp
  rw[e1];rfl
 | _=>exact nO hk
theorem Al(R:Rel0 B P ρ st s):∀{ys:List V}{vs:List OT}{ps:List (Int×Int)},aL ρ ys vs->ys.mapM (ko st.σ)=some ps->ps.length=vs.length/\∀i,i<vs.length->lF s.heap (vs.getD i .none) (ps.getD i (0,0)):=by
 intro ys
 induction ys with
 | nil=>intro vs ps r h;obtain rfl:=sj h;rw[kJ r];exact⟨rfl,λi hi=>absurd hi (Pm _)⟩
 | cons y ys ih =>
  intro vs ps r h
  cases vs with
  | nil=>exact r.elim
  | cons v vs =>
   rw[Qn]at h
   refine aV h λp hp h=>aV h λqs hq h=>?_
   obtain rfl:=sj h
   obtain⟨h1,h2⟩:=ih r.2 hq
   refine⟨by rw[Py,Py,h1],λi hi=>?_⟩
   cases i with
   | zero=>exact Dd R hp r.1
   | succ i=>exact h2 i (Pp hi)
theorem aL.getD{ρ:List Addr}:∀{xs:List V}{vs:List OT}(i:Nat),aL ρ xs vs->aU ρ (xs.getD i .none) (vs.getD i .none)
 | [],[],i,_=>rfl
 | [],_::_,_,r=>r.elim
 | _::_,[],_,r=>r.elim
 | x::xs,v::vs,0,r=>r.1
 | x::xs,v::vs,i+1,r=>aL.getD (xs:=xs) (vs:=vs) i r.2
theorem aL.listed{xs:List V}{vs:List OT}(r:aL ρ xs vs):∀p:List Nat,aL ρ (p.map λi=>xs.getD i .none) (listed vs p)
 | []=>trivial
 | i::p=>⟨r.getD i,aL.listed r p⟩
theorem GL{vs:List OT}{is:List Int}(h:IntsAre vs is):aL ρ (is.map V.int) vs:=by
 induction h with
 | nil=>trivial
 | cons n t _ ih=>exact⟨⟨t,rfl⟩,ih⟩
theorem lF.keeps{h h':Heap}{v:OT}{p:Int×Int}(x:lF h v p)(hk:∀b o,h.get? b=some o->h'.get? b=some o):lF h' v p:=by
 obtain⟨a,t,u,m,e,e2⟩:=x.is
 exact⟨a,t,u,m,e,hk _ _ e2⟩
theorem qU(OK:B.Ok):bL B P n (.builtin "sorted") kK:=by
 intro A hA ρ st s vs xs R r y st' hm Q E h
 refine tk R h ?_;clear h;intro Q E h
 refine eQ r hm λx v e r1 hm1=>bH r1 hm1 λk a e3 ha hm2=>a5 R ha hm2 λys us m hx e5 q hl hm3=>?_
 clear hm hm1 hm2 r r1
 subst e;subst e3
 have hu64:=hA.units64
 have hls:s.heap.IsList a us.toList.toArray:=by rw[So];exact oz e5
 have hul:us.toList.length=ys.length:=by rw[P7,hl]
 have new:∀(out:List OT)(zs:List V),aL ρ zs out->y=.ref st.σ.length->st'=⟨st.σ++[.list zs],st.L⟩->Q (.ref (s.heap.objs.size+1)) { s with heap:=sortedAll s.heap us.toList out.toArray }:=λout zs hz e1 e2=>by
  subst e1;subst e2
  obtain⟨e6,he⟩:=sortedAll_at s.heap us.toList out.toArray
  exact R.newSeq (s':={ s with heap:=sortedAll s.heap us.toList out.toArray }) OK h (λb o e=>sortedAll_old e) (QK _) he (by simp) ⟨_,_,he,by simpa using hz.mono (Pv ..)⟩
 unfold zt at hm3
 cases hi:dj ys with
 | some is =>
  rw[hi]at hm3
  refine aG hm3 λhs hm4=>?_
  obtain⟨rfl,rfl⟩:=pj hm4
  have ia:=jk hi q
  refine sorted_ints hls ia (by have:=ia.length;lia) λout ns' a1 a2 a3=>?_
  have e:ns'=is.mergeSort λa b=>decide (a<=b):=ksm_same (a2.trans (List.mergeSort_perm _ _).symm) a3 (by
   have:=List.pairwise_mergeSort (le:=λ(a b:Int)=>decide (a<=b)) (λa b c h1 h2=>by simp at h1 h2 ⊢;lia) (λa b=>by simp;lia) is
   exact this.imp λh=>by simpa using h)
  have:=new out.toList _ (GL a1) (by rfl) (by rw[e])
  simpa using this
 | none =>
  rw[hi]at hm3
  refine aV hm3 λps hp hm4=>aG hm4 λhs hm5=>?_
  obtain⟨rfl,rfl⟩:=pj hm5
  obtain⟨h2,h64,hnd,hask⟩:=hs
  obtain⟨hlen,hpr⟩:=Al R.toRel0 q hp
  refine AL (c:=zO ps) hls (hlen▸h2) (hlen▸h64) (λh' hk v hv=>?_) (λh' hk i j C hij hC=>?_) (hlen▸hask) (new _ _ (q.listed (bA (zO ps) us.toList.length)) rfl (by rw[hlen]))
  ·obtain⟨i,hi,rfl⟩:=List.getElem_of_mem hv
   have:=hpr i hi
   rw[O9,Pf hi]at this
   obtain⟨b,t,u,m',e,e2⟩:=(this.keeps hk).is
   have e:us.toList[i]=.ref b:=e
   rw[e]
   exact(Looks.ld e2).andThen .now
  ·obtain⟨hi,hj,hne⟩:=fV hij
   refine De (by show A.units+1+1+1<_;lia) ((hpr i hi).keeps hk) ((hpr j hj).keeps hk) (λe=>hne ?_) hC
   have hi':i<(ps.map (·.2)).length:=by rw[Pc,hlen];exact hi
   refine(R8 hi' hnd).mp ?_
   rw[Pn,Pn]
   have g:∀k,k<ps.length->ps[k]?=some (ps.getD k (0,0)):=λk hk=>by rw[O9,Pf hk];rfl
   rw[g i (by rw[hlen];exact hi),g j (by rw[hlen];exact hj)]
   exact congrArg some e
variable {fd:PF}{a L D:Addr}{stk:List Env}{z:Addr->Prop}
structure f5(B:bc)(P:Fc)(ρ:List Addr)(s:OX)(D:Addr)(xs:Array OT)(m:Nat):Prop where
 apart:D∉ρ/\D∉P.wr/\B.n₀<=D
 locals:P.env.locals≠D
 frames:∀e∈P.stk,∀L,e.frame=some L->L≠D
 at_:s.heap.get? D=some (seqObj "list" xs m)
theorem f5.new(OK:B.Ok)(R:bB B P ρ st s)(h:sz s<=D){xs:Array OT}{m:Nat}{s₁:OX}(e:s₁.heap.get? D=some (seqObj "list" xs m)):f5 B P ρ s₁ D xs m:=by
 have x:=gE (z:=λu=>False) R OK h id
 refine⟨⟨x.1,x.2.1,x.2.2.1⟩,λq=>?_,λe he L hL q=>?_,e⟩
 ·obtain⟨_,o,_,_,e,_⟩:=R.ns
  rw[q]at e;exact bo e h
 ·obtain⟨_,L',o,h1,_,_,h4,_⟩:=R.stk e he
  rw[hL]at h1;obtain rfl:=sj h1
  rw[q]at h4;exact bo h4 h
theorem f5.grow(hlow:∀a∈B.tabs,a<B.n₀){xs:Array OT}{m:Nat}(X:f5 B P ρ s D xs m)(G:aW B P ρ s ρ' s'):f5 B P ρ' s' D xs m:=by
 have e:=X.at_
 refine⟨⟨λhm=>?_,X.apart.2⟩,X.locals,X.frames,(G.keep D _ e X.apart.1 X.apart.2.1 λht=>absurd (hlow _ ht) (P9.mpr X.apart.2.2)).exact (by simp)⟩
 rcases G.new D hm with q | q
 ·exact X.apart.1 q
 ·exact bo e q
theorem f5.put(OK:B.Ok){xs:Array OT}{m:Nat}(X:f5 B P ρ s D xs m)(R:bB B P ρ st s)(hz:¬z D)(f:Array OT->Array OT) :
  bB B P ρ st { s with heap:=s.heap.update D (PG f) }/\b6 B P z ρ s ρ { s with heap:=s.heap.update D (PG f) }/\∃m',f5 B P ρ { s with heap:=s.heap.update D (PG f) } D (f xs) m':=by
 have e:=X.at_
 have hs:=QP s.heap D (PG f)
 have hk:∀b o,b≠D->s.heap.get? b=some o->(s.heap.update D (PG f)).get? b=some o:=λb o hb e=>(hs.2 b hb).trans e
 refine⟨⟨R.toRel0.otherF OK X.apart e (.inl λvs=>by simp) X.locals X.frames hk rfl rfl,R.tpos⟩,⟨PK _,λb o hb eb u u u=>.of (hk b o (by rintro rfl;exact hz hb) eb),λu h=>.inl h,Qc hs.1.symm⟩,_,X.apart,X.locals,X.frames,get?_update_seq e f⟩
theorem f5.other{xs:Array OT}{m:Nat}{D':Addr}(X:f5 B P ρ s D xs m)(hne:D≠D')(f:Array OT->Array OT):f5 B P ρ { s with heap:=s.heap.update D' (PG f) } D xs m :=
 ⟨X.apart,X.locals,X.frames,((QP s.heap D' (PG f)).2 D hne).trans X.at_⟩
theorem b6.grow(G:b6 B P z ρ s ρ' s')(G':aW B P ρ' s' ρ'' s''):b6 B P z ρ s ρ'' s'':=G.trans G'.toZ
noncomputable def pt(mb:M V)(k:Nat)(x:V):M V:=oO k (vG λv st=>(mb ⟨st.σ,[some x,some v]⟩).map λp=>(p.1,⟨p.2.σ,st.L⟩))
structure mV(params:Arguments)(scope:Scope)(pn nm:Str):Prop where
 kind:scope.kind=.function
 co:scope.isCoroutine=false
 gen:scope.isGenerator=false
 nocell:∀x∈scope.names,x.2≠.cell
 p:scope.names.lookup pn=some .local
 f:scope.names.lookup nm=some .free
 cd:(nm==("__classdict__":Str))=false
 bind:∀fd:PF,fd.params=params->fd.defaults=.none->fd.kwdefaults=.none->∀v,bindArgs fd ⟨[v],[]⟩=pure [(pn,v)]
theorem mV.ok{params:Arguments}{scope:Scope}{pn nm:Str}(C:mV params scope pn nm):qP params [] scope pn nm:=⟨C.kind,C.co,C.gen,C.nocell,C.p,C.f,C.cd,C.bind⟩
theorem GT(OK:B.Ok)(hlow:∀a∈B.tabs,a<B.n₀)(hlim:B.h₀.NoLimit){params:Arguments}{body:OQ}{scope:Scope}{qual pn nm:Str}{k j:Nat}{x y:V}{v:OT}(C:mV params scope pn nm)(hns:P.NoStore){mb:M V}
  (hb:∀fd L a stk k c,fd.params=params->fd.scope=scope->fd.globals=Pz->fd.builtins=builtinsNs->(dP fd L a stk pn nm k c).Ok->aR B (dP fd L a stk pn nm k c) n body mb) (hA:iZ P (n+1) A)
  (R:bB B P ρ st s) (hj:ρ[j]?=some a) (hσ:st.σ[j]?=some (.clo params (.expr body) scope qual [(nm,k)])) (rx:aU ρ x v) (hm:pt mb k x st=some (y,st')) {Q:OT->OX->Prop} {E:OT->OX->Prop}
  (h:∀v ρ' s',aU ρ' y v->bB B P ρ' st' s'->aW B P ρ s ρ' s'->Q v s'):Ph (model B.prog B.w) A (call (.ref a) [v]) Q E s:=by
 refine bS hm λoc hw h1=>jW h1 λw eo h2=>dy h2 λp e ep=>?_
 obtain⟨y',st2⟩:=p
 obtain⟨rfl,rfl⟩:=PZ ep
 subst eo
 clear hm h1 h2
 obtain⟨o,fd,cc,r⟩:=R.obj j a _ hj hσ
 obtain⟨c,hc1,hkc⟩:=r.cells 0 nm k rfl
 have hcl1:fd.closure=[(nm,c)]:=by
  have hn:=r.names
  cases hf:fd.closure with
  | nil=>rw[hf]at hc1;exact nO hc1
  | cons p q =>
   rw[hf]at hc1 hn
   cases Pw hc1
   rw[RE.mp (SY hn).2]
 have hd0:=hA.depth
 have hu0:=hA.units
 have e3:=r.scope_
 refine wpAny_call (kla_callFunE (by show A.depth<1000;lia) r.at_ r.data (by rw[e3];exact C.co) (by rw[e3];exact C.gen) r.body_ (by rw[r.qual_,r.code];exact r.crec) ?_)
 rw[C.bind fd r.params_ r.defaults r.kwdefaults v,hcl1]
 refine O3 (yf (by rw[e3];exact C.kind) (by rw[e3];exact C.nocell) (by rw[e3];exact C.p) λh' hns' hk fr hlt=>?_)
 refine⟨(hlim.keeps R.kept).keeps hk,kla_codeExpr ?_⟩
 rw[<- hcl1]
 have R2:=bB.clo (nm:=nm) (fd:=fd) (a:=a) (s₁:={ s with heap:=h',toks:=s.toks+1 }) OK R (by rw[e3];exact C.kind) hk rfl rfl (PN 1 _) (O8 _) hns' fr rx hkc hw
 have G₂:aW (B:=B) (dP fd s.heap.objs.size a P.stk pn nm k c) ρ s ρ { s with heap:=h',toks:=s.toks+1 }:=⟨bk.ext hk,Pq hlt⟩
 have hA':iZ (dP fd s.heap.objs.size a P.stk pn nm k c) n (A.deeper (callEnv fd s.heap.objs.size a)) :=
  ⟨by show A.frames.map _=_;rw[hA.frames];rfl,hA.handled,by show A.depth+1+n<=800;lia,by show A.units+3+10*n<=9000;lia⟩
 have hbody:=hb fd s.heap.objs.size a P.stk k c r.params_ e3 r.globals r.builtins (tK C.ok e3 hcl1) _ hA' ρ _ _ R2 _ st2 e
 clear R2 hA' hns' fr hk hlt hd0 hu0 hcl1 hc1 r hw hkc rx hσ hj hb C
 refine hbody _ _ λg ρ2 s2 rf R3 G₃=>?_
 obtain⟨R4,G₄⟩:=bB.back hlow hns R R3 (G₂.trans G₃) (λb hb=>Qc (j5 hb).symm) λe he=>Pa _ he
 exact h g ρ2 s2 rf R4 G₄
end
noncomputable def pT(F:V->M V)(st:St):List V->Option (List V)
 | []=>some []
 | x::xs=>(F x st).bind λp=>(pT F st xs).map (p.1 :: ·)
section
variable {B:bc}{P P':Fc}{A:Around}{n:Nat}{ρ ρ' ρ'':List Addr}{st st':St}{s s' s'':OX}{D kS:Addr}{z:Addr->Prop}{f:OT}{F:V->M V}{j:Nat}
structure r8(B:bc)(P:Fc)(A:Around)(st:St)(f:OT)(j:Nat)(F:V->M V):Prop where
 call:∀ρ s x v y st',bB B P ρ st s->aU ρ (.ref j) f->aU ρ x v->F x st=some (y,st')->∀(Q E:OT->OX->Prop),(∀u ρ' s',aU ρ' y u->bB B P ρ' st s'->aW B P ρ s ρ' s'->Q u s')->Ph (model B.prog B.w) A (Tt f [v]) Q E s
structure Ba(B:bc)(P:Fc)(D kS:Addr)(e1:Nat)(st:St)(ρ:List Addr)(s:OX)(ks:List V)(kv:List OT):Prop where
 rel:bB B P ρ st s
 keys:aL ρ ks kv
 out:f5 B P ρ s D #[] e1
 store:∃m,f5 B P ρ s kS kv.toArray m
theorem ub{e1:Nat}(OK:B.Ok)(hlow:∀a∈B.tabs,a<B.n₀)(hne:D≠kS)(hz:¬z kS)(K:r8 B P A st f j F){body:OT->PUnit->Sem (ForInStep PUnit)}{E:OT->OX->Prop}
  (hb:∀x s (R':ForInStep PUnit->OX->Prop),Ph (model B.prog B.w) A (Tt f [x]) (λk s'=>Ph (model B.prog B.w) A (Builtin.List.listUpdate (.ref kS) (·.push k)) (λl s''=>R' (.yield ⟨⟩) s'') E s') (λl l=>False) s->Ph (model B.prog B.w) A (body x ⟨⟩) R' E s) :
  ∀(r:List V)(rv:List OT)(ks:List V)(kv:List OT)(ys:List V)(ρ:List Addr)(s:OX)(Q:PUnit->OX->Prop),aL ρ r rv->aU ρ (.ref j) f->Ba B P D kS e1 st ρ s ks kv->kv.length+r.length<64->pT F st r=some ys ->
   (∀ρ' s' kv',Ba B P D kS e1 st ρ' s' (ks++ys) kv'->b6 B P z ρ s ρ' s'->Q ⟨⟩ s')->Ph (model B.prog B.w) A (forIn rv SM body) Q E s
 | [],rv,ks,kv,ys,ρ,s,Q,rr,rf,X,hl,hk,h=>by
  obtain rfl:=sj hk
  rw[kJ rr,Q4]
  exact O3 (h ρ s kv (by rw[O4];exact X) aW.refl.toZ)
 | x::r,[],ks,kv,ys,ρ,s,Q,rr,rf,X,hl,hk,h=>rr.elim
 | x::r,v::rv,ks,kv,ys,ρ,s,Q,rr,rf,X,hl,hk,h=>by
  refine aV hk λp hp hk=>dy hk λys' hy e=>?_
  obtain⟨y,st1⟩:=p
  subst e
  rw[Rf]
  rw[Py]at hl
  refine OR (hb v s _ (K.call ρ s x v y st1 X.rel rf rr.1 hp _ _ λu ρ1 s₁ ru R1 G₁=>?_))
  obtain⟨m,Y⟩:=X.store
  replace Y:=Y.grow hlow G₁
  have ek:=Y.at_
  have hz2:kv.toArray.size<=sizeLine:=by rw[P1,sizeLine_eq];lia
  refine listUpdate_at ek rfl ?_ hz2 (by rw[Array.size_push];exact Qt hz2)
  obtain⟨R2,G₂,m',Y2⟩:=Y.put OK R1 hz (·.push u)
  have ep:kv.toArray.push u=(kv++[u]).toArray:=by simp
  rw[ep]at Y2
  refine ub OK hlow hne hz K hb r rv (ks++[y]) (kv++[u]) ys' ρ1 _ Q (rr.2.mono G₁.pre) (rf.mono G₁.pre) ⟨R2,(X.keys.mono G₁.pre).append ⟨ru,trivial⟩,(X.out.grow hlow G₁).other hne _,m',Y2⟩ (by rw[O2,List.length_singleton];lia) hy λρ' s' kv' X' G'=>?_
  rw[OY]at X'
  exact h ρ' s' kv' X' ((G₁.toZ.trans G₂).trans G')
noncomputable def s8(F:V->M V)(xs:List V):M V:=λst=>(pT F st xs).bind λks=>(dj ks).bind λis =>
 if 2<=xs.length/\xs.length<64/\is.length=xs.length/\iG (λi j=>decide (is.getD i 0<is.getD j 0)) (within xs.length) (kas_sort xs.length)=true then
  gU (.list ((bA (λi j=>decide (is.getD i 0<is.getD j 0)) xs.length).map λi=>xs.getD i .none)) st else none
theorem xQ{vs:List OT}{is:List Int}(h:IntsAre vs is)(i:Nat)(hi:i<vs.length):∃t,vs.getD i .none=.int (is.getD i 0) t:=by
 induction h generalizing i with
 | nil=>exact absurd hi (Pm _)
 | cons n t _ ih =>
  cases i with
  | zero=>exact⟨t,rfl⟩
  | succ i=>exact ih i (Pp hi)
theorem AJ(OK:B.Ok)(hlow:∀a∈B.tabs,a<B.n₀)(hA:iZ P n A.in1.in1){q l:Addr}(K:r8 B P A.in1.in1 st (.ref q) j F){xs:List V}{vs:List OT}{y:V}{Q E:OT->OX->Prop}(R:bB B P ρ st s)(rq:aU ρ (.ref j) (.ref q))(hl:s.heap.IsList l vs.toArray)(rx:aL ρ xs vs)
  (hm:s8 F xs st=some (y,st')) (h:∀v ρ' s',aU ρ' y v->bB B P ρ' st' s'->aW B P ρ s ρ' s'->Q v s') :
  Ph (model B.prog B.w) A (Tt (.builtin "sorted") [.ref l] [(OO "key",.ref q)]) Q E s:=by
 refine aV hm λks hks hm=>aV hm λis hi hm=>eL hm λhs hm=>?_
 obtain⟨h2,h64,hlen,hask⟩:=hs
 have hxl:=rx.length
 obtain⟨rfl,rfl⟩:=pj hm
 refine call_function_entry_kw kind_sorted plain_sorted entry_sorted (ksk_s1 _ _) ?_
 unfold Builtin.«sorted»
 refine OR (m:=checkCount "sorted" 1 1 _) (O3 ?_)
 refine OR (collect_list hl ?_ (by rw[sizeLine_eq];lia))
 refine OR (wpAny_newList ?_ (by rw[sizeLine_eq];lia))
 have hsz:((s.heap.push (seqObj "list" #[] 0)).update s.heap.objs.size (PG (· ++vs.toArray))).objs.size=s.heap.objs.size+1:=by
  rw[S5,size_push']
 have hoL:(((s.heap.push (seqObj "list" #[] 0)).update s.heap.objs.size (PG (· ++vs.toArray))).push (seqObj "list" vs.toArray 0)).get? (s.heap.objs.size+1)=some (seqObj "list" vs.toArray 0):=by
  rw[<- hsz];exact Pd _ rfl
 have keep:∀b o,s.heap.get? b=some o->(((s.heap.push (seqObj "list" #[] 0)).update s.heap.objs.size (PG (· ++vs.toArray))).push (seqObj "list" vs.toArray 0)).get? b=some o:=λb o q=>by
  have hlt:b<s.heap.objs.size:=Pu q
  rw[Se _ _ _ (by rw[hsz];exact Pg (Ql hlt)),Heap.get?_update_ne _ _ _ _ (Pg hlt),Se _ _ _ (Pg hlt)]
  exact q
 show Ph _ _ _ _ _ { s with heap:=((s.heap.push (seqObj "list" #[] 0)).update s.heap.objs.size (PG (· ++vs.toArray))).push (seqObj "list" vs.toArray 0) }
 rw[hsz]
 have hsz1:s.heap.objs.size<=(((s.heap.push (seqObj "list" #[] 0)).update s.heap.objs.size (PG (· ++vs.toArray))).push (seqObj "list" vs.toArray 0)).objs.size:=by rw[size_push',hsz];lia
 generalize ((s.heap.push (seqObj "list" #[] 0)).update s.heap.objs.size (PG (· ++vs.toArray))).push (seqObj "list" vs.toArray 0)=H at *
 generalize hD:s.heap.objs.size+1=D at *
 have hDs:sz s<=D:=by rw[<- hD];exact QK _
 have hzD:¬D<sz s:=P9.mpr hDs
 have R1:bB B P ρ st { s with heap:=H }:=⟨R.ext OK keep rfl rfl,R.tpos⟩
 have G₁:aW B P ρ s ρ { s with heap:=H }:=⟨bk.ext keep,hsz1⟩
 have X1:f5 B P ρ { s with heap:=H } D vs.toArray 0:=f5.new OK R hDs hoL
 refine OR (wpAny_holding (wpAny_call_entry_kw slot_list_sort ⟨_,hoL,rfl⟩ entry_list_sort ?_ (ksk_l1 _ _)))
 rw[ksk_t1]
 unfold ksk_tree
 refine OR (listItems_at hoL rfl ?_)
 refine OR (listUpdate_at hoL rfl ?_ (by rw[P1,sizeLine_eq];lia) (PQ _))
 obtain⟨R2,G₂,e1,X2⟩:=X1.put (z:=(· <sz s)) OK R1 hzD λg=> #[]
 have hD1:=X2.at_
 refine OR (seqEpoch_at hD1 rfl ?_)
 refine OR (wpAny_newTuple ?_ (by show vs.length<=_;rw[sizeLine_eq];lia))
 refine OR (wpAny_newList ?_ (PQ _))
 refine wpAny_holding ?_
 obtain⟨R3,G₃⟩:=d5 (ob:=seqObj "tuple" vs.toArray 0) OK R2 R2.tpos
 obtain⟨R4,G₄⟩:=d5 (ob:=seqObj "list" #[] 0) OK R3 R3.tpos
 have X4:=(X2.grow hlow G₃).grow hlow G₄
 have hkS:((H.update D (PG λg=>(#[]:Array OT))).push (seqObj "tuple" vs.toArray 0)).objs.size=H.objs.size+1:=by rw[size_push',S5]
 have hDH:D<H.objs.size:=Pu hoL
 have Y4:f5 B P ρ { s with heap:=((H.update D (PG λg=>(#[]:Array OT))).push (seqObj "tuple" vs.toArray 0)).push (seqObj "list" #[] 0) } (H.objs.size+1) ([]:List OT).toArray 0 :=
  f5.new (D:=H.objs.size+1) OK R (RV hsz1) (m:=0) (by rw[<- hkS];exact Pd _ rfl)
 have hzk:¬H.objs.size+1<sz s:=P9.mpr (RV hsz1)
 have GZ:b6 B P (· <sz s) ρ { s with heap:=H } ρ { s with heap:=((H.update D (PG λg=>(#[]:Array OT))).push (seqObj "tuple" vs.toArray 0)).push (seqObj "list" #[] 0) }:=(G₂.grow G₃).grow G₄
 show Ph _ _ (ksk_rest D (.ref q) false vs.toArray e1 (.ref ((H.update D (PG λg=>(#[]:Array OT))).push (seqObj "tuple" vs.toArray 0)).objs.size)) _ _ { s with heap:=((H.update D (PG λg=>(#[]:Array OT))).push (seqObj "tuple" vs.toArray 0)).push (seqObj "list" #[] 0) }
 rw[hkS]
 have hne:D≠H.objs.size+1:=Pg (Ql hDH)
 unfold ksk_rest
 refine OR (wpAny_rule ?_)
 rw[List.forIn_toArray]
 have G₀:=G₁.transZ GZ
 clear X1 X2 G₁ G₂ G₃ G₄ R1 R2 R3 GZ hD1
 have hu:=hA.units64
 refine OR (ub (z:=(· <sz s)) OK hlow hne hzk K (λx s R' hx=>?_) xs vs [] [] ks ρ _ _ rx rq ⟨R4,trivial,X4,0,Y4⟩ (by show 0+_<_;lia) hks λρ' s' kv' X' G'=>?_)
 ·refine OR (wpAny_attempt (wpAny_mono hx (λk s' hk=>?_) λg g hF=>hF.elim))
  exact OR (wpAny_mono hk (λg g h=>O3 h) λg g e=>e)
 have G:=G₀.transZ G'
 clear G₀ G' R4 X4 Y4 K hoL keep hks
 obtain⟨R',hkeys,XD,m,XS⟩:=X'
 rw[Te]at hkeys
 have ia:=jk hi hkeys
 have hkl:kv'.length=vs.length:=by rw[ia.length,hlen,hxl]
 refine OR (listItems_at XS.at_ rfl ?_)
 show Ph _ _ (ksk_end D false vs.toArray e1 (.ref (H.objs.size+1)) kv'.toArray) _ _ s'
 unfold ksk_end
 dsimp only
 have hn2:¬vs.toArray.size<2:=by rw[P1];lia
 rw[if_neg PA,if_neg hn2,if_neg hn2]
 rw[ksk_kind (keys:=kv'.toArray) ia (by rw[P1];lia)]
 refine OR (O3 ?_)
 have hx2:=xs.length
 have ask:(kas_sort vs.length).kasWp (kas_ask B.prog B.w A.in1.in1 oneType' kv') (λp s''=>s''=s'/\p.toList=bA (λi j=>decide (is.getD i 0<is.getD j 0)) xs.length) s':=by
  rw[<- hxl]
  refine pg (λi j C hij hC=>?_) _ hask ⟨rfl,rfl⟩
  obtain⟨hi,hj,_⟩:=fV hij
  obtain⟨t,e1⟩:=xQ ia i (by lia)
  obtain⟨u,e2⟩:=xQ ia j (by lia)
  unfold kas_ask
  rw[e1,e2]
  exact kat_lt_int hC
 rw[if_neg PA]
 refine OR (wpAny_mono (kat_run (Q:=λst' s''=>s''=s'/\failedOf st'=none/\(arrOf st').map (·.2)=Ra (listed vs (bA (λi j=>decide (is.getD i 0<is.getD j 0)) xs.length))/\(listed vs (bA (λi j=>decide (is.getD i 0<is.getD j 0)) xs.length)).length=vs.length)
  hkl (by lia) (by lia) (λp st' s'' a1 a2 a3 a4=>⟨a4.1,a3,by rw[kat_snds hkl a2,a4.2];rfl,by rw[listed,Pc,<- a4.2,P7,a1]⟩) ask) ?_ λg g e=>e)
 rintro ⟨⟨⟩,st2⟩ s'' ⟨rfl,hf,hout,hol⟩
 dsimp only
 unfold ksk_tail
 dsimp only
 rw[hout]
 have hks2:kv'.toArray.size<=sizeLine:=by rw[P1,sizeLine_eq];lia
 refine OR (listUpdate_at XS.at_ rfl ?_ hks2 (PQ _))
 obtain⟨R5,G₅,m5,X5⟩:=XS.put (z:=(· <sz s)) OK R' hzk λg=> #[]
 have XD5:=XD.other hne λg=> #[]
 refine OR (wpAny_letGo ?_)
 refine OR (seqEpoch_at XD5.at_ rfl ?_)
 refine OR (listUpdate_at XD5.at_ rfl ?_ (PQ _) (by rw[if_neg PA,P1,hol,sizeLine_eq];lia))
 obtain⟨R6,G₆,m6,X6⟩:=XD5.put (z:=(· <sz s)) OK R5 hzD λg=>if false=true then(Ra (listed vs (bA (λi j=>decide (is.getD i 0<is.getD j 0)) xs.length))).reverse else Ra (listed vs (bA (λi j=>decide (is.getD i 0<is.getD j 0)) xs.length))
 rw[hf]
 simp only[bne_self_eq_false,P5,if_false]
 refine O3 ⟨_,rfl,O3 ⟨_,rfl,?_⟩⟩
 simp only[P5,if_false]at R6 G₆ X6
 have G₇:=(G.transZ G₅).transZ G₆
 have R7:bB B P (ρ'++[D]) ⟨st.σ++[.list ((bA (λi j=>decide (is.getD i 0<is.getD j 0)) xs.length).map λi=>xs.getD i .none)],st.L⟩ _ :=
  ⟨R6.toRel0.adopt OK ⟨X6.apart.1,X6.apart.2.1,X6.apart.2.2,X6.locals.symm⟩ X6.at_ (.inl λvs=>by simp) (.inl (by simp)) ⟨_,_,X6.at_,((rx.mono G.pre).listed _).mono (Pv ..)⟩,R6.tpos⟩
 refine h _ _ _ ⟨D,by rw[<- R6.len];simp,rfl⟩ R7 ⟨⟨G₇.pre.trans (Pv ..),G₇.keep,λa ha=>?_⟩,G₇.size⟩
 rcases Pk.mp ha with hm | hm
 ·exact G₇.new a hm
 ·rw[OS.mp hm];exact .inr hDs
noncomputable def CB(i:Nat)(params:Arguments)(fb:FuncBody)(scope:Scope)(qual nm:Str):M Nat:=λst=>match st.L[i]? with
 | some (some x)=>some (st.σ.length,⟨st.σ++[.cell x]++[.clo params fb scope qual [(nm,st.σ.length)]],st.L⟩)
 | _=>none
noncomputable def kx(i:Nat)(ml:M V)(params:Arguments)(e:OQ)(scope:Scope)(qual nm:Str)(mb:M V):M V:=ao ml λx=>ao (CB i params (.expr e) scope qual nm) λc=>eA x λk=>cj k (s8 (pt mb c))
theorem z9{i:Nat}{params:Arguments}{fb:FuncBody}{scope:Scope}{qual nm:Str}{r:Nat×St}(h:CB i params fb scope qual nm st=some r) :
  ∃x,st.L[i]?=some (some x)/\r=(st.σ.length,⟨st.σ++[.cell x]++[.clo params fb scope qual [(nm,st.σ.length)]],st.L⟩):=by
 delta CB at h
 revert h
 rcases st.L[i]? with _ | _ | x<;>intro h
 ·exact nO h
 ·exact nO h
 ·exact⟨x,rfl,(sj h).symm⟩
theorem gt.sortRet(OK:B.Ok)(hlow:∀a∈B.tabs,a<B.n₀)(hlim:B.h₀.NoLimit)(hP:P.Ok)(hns:P.NoStore){i:Nat}{sn nm qual pn:Str}{e body:OQ}{params:Arguments}{scope:Scope}{np lp kp pos rp:Pos}{c cc Pl:Addr}{ml mb:M V}{mg:Str->Option OT}
  (hn:aR B P (n+2) (.Name sn np) (aa (.glob (.builtin "sorted")))) (hl:aR B P (n+2) e ml) (C:mV params scope pn nm)
  (hb:∀fd L a stk k a',fd.params=params->fd.scope=scope->fd.globals=Pz->fd.builtins=builtinsNs->(dP fd L a stk pn nm k a').Ok->aR B (dP fd L a stk pn nm k a') n body mb) (hpure:∀st y st',mb st=some (y,st')->st'=st)
  (hi:P.locs[i]?=some (.cell c)) (hclos:closureFor scope P.env=pure [(nm,c)]) (hdef:defaultsOf params P.env=([],[])) (hkw:params.kwonlyargs=[]) (hg:P.env.globals=Pz) (hmg:B.h₀.Ns Pz mg) (hcode:P.env.code=.ref cc) (hbm:B.h₀.BuiltinsAt mg Pl) (hgP:Pz≠Pl)
  (hPl:Pl∈B.tabs) (hh:B.h₀.get? Pl=none) (ht1:∀ρ h,B.tab ρ h->d8 cc Pl lp qual ρ h) (ht2:∀ρ h h',B.tab ρ h->(∀b o,b≠Pl->h.get? b=some o->h'.get? b=some o)->d8 cc Pl lp qual ρ h'->B.tab ρ h')
  (hq:P.env.qual++"<lambda>"=qual) (hst:backTo pos (Pb [e] P.env)=[(false,eval e P.env)]) :
  gt B P (n+2) [.Return (some (.Call (.Name sn np) [e] [⟨some (OO "key"),.Lambda params body scope lp,kp⟩] pos)) rp] (b8 (kx i ml params body scope qual nm mb)):=by
 intro A hA ρ0 s₀ ρ st s R G hw y st' hm Q E h
 refine ae hm λyv st1 e1 e2=>ae e1 λx st2 e3 e4=>ae e4 λci st3 e₅ e6=>?_
 obtain⟨rfl,rfl⟩:=ai e2
 clear hm e1 e2 e4
 obtain⟨w,hx,e₅⟩:=z9 e₅
 ·obtain⟨rfl,rfl⟩:=PZ e₅
  refine wpAny_execs_cons (wpAny_Return_some ?_)
  show Ph _ _ (do callWith pos (<- eval (.Name sn np) P.env) [] (backTo pos (Pb [e] P.env)) (backToKw pos (keywordEach [⟨some (OO "key"),.Lambda params body scope lp,kp⟩] P.env))) _ _ s
  refine OR (hn A hA ρ st s R _ _ rfl _ _ λv ρ1 s₁ r1 R1 G₁=>?_)
  obtain rfl:v=_:=r1
  refine callWith_kw ?_ hst (by rw[hst];rfl) (by rfl) (by rfl)
  rw[hst]
  refine spliced_cons (hl A hA ρ1 st s₁ R1 x st2 e3 _ _ λv ρ2 s2 r2 R2 G₂=>spliced_nil ?_)
  show Ph _ _ (evalAll [do let v <- eval (.Lambda params body scope lp) P.env;standAt pos;pure v]) _ _ s2
  refine evalAll_cons (OR ?_)
  rw[arm_eval_Lambda,hdef]
  refine OR (O3 (OR (wpAny_holding (O3 ?_))))
  rw[hq]
  refine CV OK hlow hP hi hclos (λb e=>nomatch e) hkw hg hmg hcode hbm hgP hPl hh ht1 ht2 R2 hx ((G.trans G₁).trans G₂) hw λf s3 R3 G₃=>OR (wpAny_standAt (O3 (evalAll_nil ?_)))
  have hA2:iZ (P.kill i) (n+1) A.in1.in1:=⟨hA.frames,hA.handled,by have:=hA.depth;show A.depth+_<=800;lia,by have:=hA.units;show A.units+1+1+_<=9000;lia⟩
  have rf:aU (ρ2++[c]++[f]) (.ref (st2.σ.length+1)) (.ref f):=⟨f,by rw[<- R2.len];simp,rfl⟩
  have K:r8 B (P.kill i) A.in1.in1 ⟨st2.σ++[.cell w]++[.clo params (.expr body) scope qual [(nm,st2.σ.length)]],st2.L⟩ (.ref f) (st2.σ.length+1) (pt mb st2.σ.length):=⟨λρ' s' x v y st' R' rj rv hF Q E h'=>by
   have hs:st'=⟨st2.σ++[.cell w]++[.clo params (.expr body) scope qual [(nm,st2.σ.length)]],st2.L⟩:=by
    refine bS hF λoc hw h1=>jW h1 λw eo h2=>dy h2 λp e ep=>?_
    have:=hpure _ _ _ e
    rw[(PZ ep).2,this]
   subst hs
   obtain⟨g,hg1,hg2⟩:=rj
   obtain rfl:=Qv hg2
   exact GT (qual:=qual) (k:=st2.σ.length) OK hlow hlim C (mB hns) hb hA2 R' hg1 (by simp) rv hF h'⟩
  refine bH ((r2.mono (Pv ..)).mono (Pv ..)) e6 λk l el hlρ e7=>a5 R3 hlρ e7 λxs vs m hxs e5 q hlen e8=>?_
  subst el
  refine AJ OK hlow hA2 K R3 rf (by rw[So];exact oz e5) q e8 λu ρ4 s4 ru R4 G₄=>?_
  exact h _ ρ4 s4 (P.kill i) ⟨u,rfl,ru⟩ R4 (G₃.trans G₄) (λb hb=>hw b (mC hb)) rfl
end
end Mine
end
section
open PySem PySem.Calls PySem.SeqAt PySem.W
namespace Mine
theorem wW(elt:OQ)(g:Comprehension)(target iter:OQ)(ifs:List OQ)(scope:Scope)(pos:Pos)(it acc:OT)(env:Env) :
  compTurn (.ListComp elt [g,⟨target,iter,ifs,0⟩] scope pos) 1 it acc env=(do
   standAt iter.pos
   match <- pyNext it with
   | none=>pure (.done .next)
   | some v =>
    letOwnedTupleGo target it v
    assign target env v
    let mut ok:=true
    for c in ifs do
     if ok then ok <- isTrue c env (eval c env)
    if ok then
     (do let _ <- call (.builtin "list.append") [acc,<- eval elt env])
    again (.compLoop (.ListComp elt [g,⟨target,iter,ifs,0⟩] scope pos) 1 it acc env)):=by rfl
theorem wY(elt target iter t2 i2:OQ)(ifs:List OQ)(scope:Scope)(pos:Pos)(it acc:OT)(env:Env) :
  compTurn (.ListComp elt [⟨target,iter,[],0⟩,⟨t2,i2,ifs,0⟩] scope pos) 0 it acc env=(do
   standAt iter.pos
   match <- pyNext it with
   | none=>pure (.done .next)
   | some v =>
    letOwnedTupleGo target it v
    assign target env v
    let x <- eval i2 env
    standAt i2.pos
    let x <- foldedSetIterable i2 env x
    let _ <- runOwn (.compStart (.ListComp elt [⟨target,iter,[],0⟩,⟨t2,i2,ifs,0⟩] scope pos) 1 (<- holding [x] (pyIter x)) acc env) env
    again (.compLoop (.ListComp elt [⟨target,iter,[],0⟩,⟨t2,i2,ifs,0⟩] scope pos) 0 it acc env)):=by rfl
section
variable {prog:Program}{w:Pt}{A:Around}{s:OX}{scope:Scope}
theorem v8{elt target iter:OQ}{g:Comprehension}{ifs:List OQ}{pos:Pos}{it acc:OT}{env:Env}{R:Result->OX->Prop}(I:Nat->OX->Prop)
  (turn:∀n s,I n s->Ph (model prog w) A (pyNext it) (λr s₁=>match r with
   | none=>R (.ok .next) s₁
   | some v=>Ph (model prog w) A (assign target env v) (λu s2 =>
     Ph (model prog w) A (forIn ifs true λc r=>if r=true then do let ok <- isTrue c env (eval c env);pure (QM ok)else pure (QM r)) (λok s3 =>
      if ok=true then Ph (model prog w) A (eval elt env) (λx s4 =>
       Ph (model prog w) A (call (.builtin "list.append") [acc,x]) (λu s₅=>∃m,m<n/\I m s₅) (notedBy (model prog w) A env λe s'=>R (.error e) s') s4) (notedBy (model prog w) A env λe s'=>R (.error e) s') s3
      else ∃m,m<n/\I m s3) (notedBy (model prog w) A env λe s'=>R (.error e) s') s2) (notedBy (model prog w) A env λe s'=>R (.error e) s') s₁) (notedBy (model prog w) A env λe s'=>R (.error e) s') s)
  (n:Nat) (h:I n s) (ht:∀v,letOwnedTupleGo target it v=pure ()) :
  codeAny (model prog w) A (.compLoop (.ListComp elt [g,⟨target,iter,ifs,0⟩] scope pos) 1 it acc env) R s:=by
 refine codeAny_loop rfl I (λn s hI=>?_) n h
 show Ph _ A ((compTurn (.ListComp elt [g,⟨target,iter,ifs,0⟩] scope pos) 1 it acc env).onRaise (λx=>do noteFrame x env;theTreesLotGoes x)) _ _ s
 refine wpAny_noted ?_
 rw[wW]
 refine OR (wpAny_standAt (OR (wpAny_mono (turn n s hI) (λr s₁ h1=>?_) λu u h'=>h')))
 cases r with
 | none=>exact O3 h1
 | some v =>
  refine OR (wpAny_of_eq (ht v) ?_)
  refine OR (wpAny_mono h1 (λu s2 h2=>OR (wpAny_mono h2 (λok s3 h3=>?_) λu u h'=>h')) λu u h'=>h')
  cases ok with
  | false=>exact O3 ⟨rfl,h3⟩
  | true =>
   exact OR (OR (wpAny_mono h3 (λx s4 h4=>OR (wpAny_mono h4 (λu s₅ h5=>O3 (O3 ⟨rfl,h5⟩)) λu u h'=>h')) λu u h'=>h'))
theorem vm{elt iter:OQ}{g:Comprehension}{x:Str}{px pos:Pos}{ifs:List OQ}{it acc:OT}{env:Env} :
  mW (model prog w) A (.compLoop (.ListComp elt [g,⟨.Name x px,iter,ifs,0⟩] scope pos) 1 it acc env) elt x px ifs it acc env:=λR I f s turn h0 h=>by
 refine v8 I (λn s hI=>?_) f h (λu=>rfl)
 cases n with
 | zero=>exact(h0 s hI).elim
 | succ n=>exact turn n s _ _ (λs h=>⟨n,PR n,h⟩) hI
theorem u6{elt target iter:OQ}{g:Comprehension}{ifs:List OQ}{pos:Pos}{it acc:OT}{env:Env}{R:Result->OX->Prop}
  (h0:codeAny (model prog w) A (.compLoop (.ListComp elt [g,⟨target,iter,ifs,0⟩] scope pos) 1 it acc env) R s)
  (h:Ph (model prog w) A (pyIter it) (λit' s'=>codeAny (model prog w) A (.compLoop (.ListComp elt [g,⟨target,iter,ifs,0⟩] scope pos) 1 it' acc env) R s') (notedBy (model prog w) A env λx s'=>R (.error x) s') s) :
  codeAny (model prog w) A (.compStart (.ListComp elt [g,⟨target,iter,ifs,0⟩] scope pos) 1 it acc env) R s:=by
 refine codeAny_of_tree ?_
 show Ph _ _ ((compStart (.ListComp elt [g,⟨target,iter,ifs,0⟩] scope pos) 1 it acc env).onRaise (λx=>do noteFrame x env;standAt theWindowsPlace)) _ _ s
 refine wpAny_notedAt ?_
 unfold compStart
 show Ph _ _ (ask>>=_) _ _ s
 refine OR (wpAny_askSetting (wpAny_ite ?_))
 split
 ·first
   | exact OR (O3 (O3 (And.intro rfl h0)))
   | exact O3 (And.intro rfl h0)
 ·first
   | exact OR (wpAny_rule (OR (wpAny_standAt (OR (wpAny_mono h (λit' s' h'=>O3 (And.intro rfl h')) λu u x=>x)))))
   | (refine OR (wpAny_rule ?_);show Ph _ _ (standAt iter.pos>>=_) _ _ s;exact OR (wpAny_standAt (OR (wpAny_mono h (λit' s' h'=>O3 (And.intro rfl h')) λu u x=>x))))
theorem v9{elt iter t2 i2:OQ}{x:Str}{px pos:Pos}{ifs:List OQ}{it acc:OT}{env:Env}{R:Result->OX->Prop}(I:Nat->OX->Prop)(f:Nat)
  (turn:∀n s (E:OT->OX->Prop)(J:OX->Prop),(∀s,I n s->J s)->I (n+1) s->Ph (model prog w) A (pyNext it) (λr s₁=>match r with
   | none=>R (.ok .next) s₁
   | some v=>Ph (model prog w) A (assign (.Name x px) env v) (λu s2=>Ph (model prog w) A (eval i2 env) (λy s3=>Ph (model prog w) A (pyIter y) (λit2 s4 =>
     ∃RR:Result->OX->Prop,(∀s',RR (.ok .next) s'->J s')/\(∀r s',RR r s'->r=.ok .next)/\codeAny (model prog w) A (.compStart (.ListComp elt [⟨.Name x px,iter,[],0⟩,⟨t2,i2,ifs,0⟩] scope pos) 1 it2 acc env) RR s4) E s3) E s2) E s₁) E s)
  (h0:∀s,¬I 0 s) (h:I f s) (hfold:∀y,foldedSetIterable i2 env y=pure y) :
  codeAny (model prog w) A (.compLoop (.ListComp elt [⟨.Name x px,iter,[],0⟩,⟨t2,i2,ifs,0⟩] scope pos) 0 it acc env) R s:=by
 refine codeAny_loop rfl I (λn s hI=>?_) f h
 cases n with
 | zero=>exact(h0 s hI).elim
 | succ n =>
  show Ph _ A ((compTurn (.ListComp elt [⟨.Name x px,iter,[],0⟩,⟨t2,i2,ifs,0⟩] scope pos) 0 it acc env).onRaise (λx=>do noteFrame x env;theTreesLotGoes x)) _ _ s
  refine wpAny_noted ?_
  rw[wY]
  refine OR (wpAny_standAt (OR (wpAny_mono (turn n s _ (λs=>∃m,m<n+1/\I m s) (λs h=>⟨n,PR n,h⟩) hI) (λr s₁ h1=>?_) λu u h'=>h')))
  cases r with
  | none=>exact O3 h1
  | some v =>
   refine OR (m:=letOwnedTupleGo (.Name x px) it v) (O3 ?_)
   refine OR (wpAny_mono h1 (λu s2 h2=>OR (wpAny_mono h2 (λy s3 h3=>?_) λu u h'=>h')) λu u h'=>h')
   refine OR (wpAny_standAt (OR (wpAny_of_eq (hfold y) ?_)))
   refine OR (wpAny_holding (wpAny_mono h3 (λit2 s4 h4=>?_) λu u h'=>h'))
   obtain⟨RR,hJ,hR,hc⟩:=h4
   refine OR (wpAny_runOwn (codeAny_mono hc λr s' hr=>?_))
   have e:=hR r s' hr
   subst e
   exact O3 ⟨rfl,hJ s' hr⟩
end
noncomputable def gF(k:Nat)(mi2:M It)(t:M Bool)(e:M V)(fuel2:Nat):Nat->It->List V->M (List V)
 | 0,_,_=>av
 | f+1,it,acc=>ao (lS d4 it) λr=>match r with
  | none=>aa acc
  | some (x,it')=>ao (setL k x) λu=>ao mi2 λit2=>ao (compLoop d4 (k+1) t e fuel2 it2 acc) λacc'=>if acc'.length<=1000000 then gF k mi2 t e fuel2 f it' acc' else av
noncomputable def Id(k:Nat)(L:List (Option V))(p:List V×St):Option (List V×St):=if p.2.L.take k=L then some (p.1,⟨p.2.σ,L⟩)else none
noncomputable def BK(k:Nat)(mi mi2:M It)(t:M Bool)(e:M V)(fuel fuel2:Nat):M (List V):=ao mi λit st=>(gF k mi2 t e fuel2 fuel it [] ⟨st.σ,st.L++[none,none]⟩).bind (Id k st.L)
noncomputable def v5(k:Nat)(mi mi2:M It)(t:M Bool)(e:M V)(fuel fuel2:Nat):M V:=ao (BK k mi mi2 t e fuel fuel2) λys=>gU (.list ys)
noncomputable def fx(x y:Str)(C:Addr):zE := [(x,.name C x),(y,.name C y)]
section
variable {B:bc}{P P':Fc}{A:Around}{n:Nat}{ρ ρ' ρ'':List Addr}{st st':St}{s s' s'':OX}{z z₁:Addr->Prop}{scope:Scope}{cl:List (Str×Addr)}{C D:Addr}{vis:List (Option Str)}{x y:Str}{own:Addr->zE}
theorem M2(h:x≠y):∀C (i j:Nat)(l:dc),((fx x y C).map (·.2))[i]?=some l->((fx x y C).map (·.2))[j]?=some l->i=j:=λC i j l h1 h2=>by
 have hne:dc.name C x≠.name C y:=λe=>h (dc.name.inj e).2
 match i,j,h1,h2 with
 | 0,0,_,_=>rfl
 | 1,1,_,_=>rfl
 | 0,1,h1,h2=>exact absurd ((Pw h1).trans (Pw h2).symm) hne
 | 1,0,h1,h2=>exact absurd ((Pw h2).trans (Pw h1).symm) hne
 | i+2,_,h1,_=>exact nomatch h1
 | _,j+2,_,h2=>exact nomatch h2
theorem Oz{env:Env}(hx:scope.names.lookup x=some .local)(hy:scope.names.lookup y=some .local):∀C,∀p∈fx x y C,mY (gK scope cl C env) p.1 p.2/\((∃n,p.2=.name C n)\/∃c n,p.2=.cell c/\(n,c)∈cellsFrom (C+1) scope.names []):=λC p hp=>by
 rcases PW.mp hp with rfl | hp
 ·exact⟨⟨rfl,rfl,lookup_relabel_local hx⟩,.inl ⟨_,rfl⟩⟩
 ·rw[OS.mp hp];exact⟨⟨rfl,rfl,lookup_relabel_local hy⟩,.inl ⟨_,rfl⟩⟩
theorem jP.growZ{I:Addr}{o:Obj}(G:b6 B P z₁ ρ s ρ' s')(h:jP B P z ρ I)(hI:z₁ I)(e:s.heap.get? I=some o)(hc:o.cls≠.type "frame")(hl:∀a∈B.tabs,a<B.n₀):jP B P z ρ' I/\s'.heap.get? I=some o:=by
 refine⟨⟨λhm=>?_,h.2⟩,(G.keep I o hI e h.1 h.2.1 λht=>absurd (hl I ht) (P9.mpr h.2.2.1)).exact hc⟩
 rcases G.new I hm with q | q
 ·exact h.1 q
 ·exact bo e q
theorem cO.lt{it:It}{v:OT}(h:cO B P z ρ s.heap it v):∀I,v=.ref I->(∀k,it≠.call k)->I<sz s:=λI e hc=>by
 cases it with
 | list k i=>obtain⟨I',a,e',ha,hk,o,eo,_⟩:=h;rw[e]at e';obtain rfl:=Qv e';exact Pu eo
 | range x l st=>obtain⟨I',e',ha,eo⟩:=h;rw[e]at e';obtain rfl:=Qv e';exact Pu eo
 | str x i=>obtain⟨I',t,e',ha,o,eo,_⟩:=h;rw[e]at e';obtain rfl:=Qv e';exact Pu eo
 | call k=>exact absurd rfl (hc k)
theorem cO.growZ{it:It}{v:OT}(hl:∀a∈B.tabs,a<B.n₀)(G:b6 B P z₁ ρ s ρ' s')(hI:∀I,v=.ref I->¬z I->(∀k,it≠.call k)->z₁ I)(h:cO B P z ρ s.heap it v):cO B P z ρ' s'.heap it v:=by
 cases it with
 | list k i =>
  obtain⟨I,a,rfl,ha,hk,o,e,hc,hd⟩:=h
  obtain⟨h1,h2⟩:=ha.growZ G (hI I rfl ha.2.2.2 (by simp)) e (by rw[hc];simp) hl
  exact⟨I,a,rfl,h1,bP G.pre hk,o,h2,hc,hd⟩
 | range x l st =>
  obtain⟨I,rfl,ha,e⟩:=h
  obtain⟨h1,h2⟩:=ha.growZ G (hI I rfl ha.2.2.2 (by simp)) e (by simp) hl
  exact⟨I,rfl,h1,h2⟩
 | str x i =>
  obtain⟨I,t,rfl,ha,o,e,hc,hd⟩:=h
  obtain⟨h1,h2⟩:=ha.growZ G (hI I rfl ha.2.2.2 (by simp)) e (by rw[hc];unfold strIterType;split<;>simp) hl
  exact⟨I,t,rfl,h1,o,h2,hc,hd⟩
 | call k=>obtain⟨a,rfl,hk⟩:=h;exact⟨a,rfl,bP G.pre hk⟩
theorem zP(OK:B.Ok)(hlow:∀a∈B.tabs,a<B.n₀)(hP':P'.Ok){k:Nat}(hA:iZ P' n A){elt iter i2:OQ}{px py pos:Pos}{ifs:List OQ}{mi2:M It}{mt:M Bool}{me:M V}(hx:P'.names[k]?=some (some x))(hf:(P'.env.kindOf x==some .free)=false)(hy:P'.names[k+1]?=some (some y))(hfy:(P'.env.kindOf y==some .free)=false)
  (h2:jQ B P' n i2 mi2) (hfold:∀y,foldedSetIterable i2 P'.env y=pure y) (ht:lc B P' n ifs mt) (he:aR B P' n elt me) {it:It} {v:OT} {ys:List V} {fuel fuel2:Nat} {z₀:Addr->Prop} (R:bB B P' ρ st s) (hit:cO B P' z ρ s.heap it v) (hm:gF k mi2 mt me fuel2 fuel it [] st=some (ys,st'))
  (hD:D∉ρ/\D∉P'.wr/\B.n₀<=D) (hz:∀b,z₀ b->z b) (hz0:∀b,z₀ b->b<sz s) (hzD:z D) (h0D:¬z₀ D) (hacc:s.heap.get? D=some { cls:=.type "list",data:=.seq #[] 0 }) {RR:Result->OX->Prop}
  (h:∀ρ' s' vs m,bB B P' ρ' st' s'->b6 B P' z₀ ρ s ρ' s'->s'.heap.get? D=some { cls:=.type "list",data:=.seq vs m }->aL ρ' ys vs.toList->D∉ρ'->RR (.ok .next) s') :
  codeAny (model B.prog B.w) A (.compLoop (.ListComp elt [⟨.Name x px,iter,[],0⟩,⟨.Name y py,i2,ifs,0⟩] scope pos) 0 v (.ref D) P'.env) RR s:=by
 have hDt:D∉B.tabs:=λht=>absurd (hlow D ht) (P9.mpr hD.2.2)
 have kg:∀{ρ ρ' s s' ys},r7 B P' D z ρ s ys->b6 B P' z ρ s ρ' s'->r7 B P' D z ρ' s' ys:=λk G=>k.grow hzD hD.2.1 hDt G
 obtain⟨I,hI⟩:∃I:Nat->OX->Prop,∀f s₁,I f s₁↔∃ρ1 st1 it1 acc1,bB B P' ρ1 st1 s₁/\b6 B P' z₀ ρ s ρ1 s₁/\cO B P' z ρ1 s₁.heap it1 v/\r7 B P' D z ρ1 s₁ acc1/\gF k mi2 mt me fuel2 f it1 acc1 st1=some (ys,st'):=⟨_,λl l=>Tu⟩
 refine v9 I fuel ?_ (λs h=>?_) ((hI _ _).mpr ⟨ρ,st,it,[],R,aW.refl.toZ,hit,⟨⟨_,_,hacc,trivial⟩,hD.1⟩,hm⟩) hfold
 ·intro f s₁ E J hJ h1
  obtain⟨ρ1,st1,it1,acc1,R1,G₁,hit1,k₁,hm1⟩:=(hI _ _).mp h1
  replace hJ:=λρ2 st2 it₂ acc2 s2 R2 G₂ h₂ k2 m2=>hJ s2 ((hI _ _).mpr ⟨ρ2,st2,it₂,acc2,R2,G₂,h₂,k2,m2⟩)
  clear hI h1 hacc hit hm
  refine ae hm1 λr st2 e1 e2=>s6 OK iB hA R1 hit1 e1 ?_
  cases r with
  | none =>
   obtain⟨rfl,rfl⟩:=ai e2
   intro ρ2 s2 R2 G₂
   have k2:=kg k₁ G₂
   obtain⟨vs,m,eD,ra⟩:=k2.at_
   exact h ρ2 s2 vs m R2 (G₁.trans (G₂.weak hz)) eD ra k2.out
  | some xi =>
   intro u ρ2 s2 ru R2 G₂ hit₂
   have k2:=kg k₁ G₂
   replace G₂:=G₁.trans (G₂.weak hz)
   clear G₁ R1 k₁ hm1 e1 hit1 h
   refine ae e2 λl st3 e3 e4=>ae e4 λit2 st4 e5 e6=>ae e6 λacc' st5 e7 e8=>aG e8 λhsz e9=>?_
   obtain⟨rfl,rfl⟩:=pj e3
   clear e2 e4 e6 e8
   refine wpAny_assign_Name (eu OK hP' R2 hx hf ru λs3 R3 G₃=>?_)
   have hit3:=hit₂.grow OK hlow G₃
   have k3:=kg k2 G₃.toZ
   replace G₂:=G₂.trans G₃.toZ
   clear hit₂ k2 G₃ R2
   refine h2 A hA ρ2 _ s3 R3 it2 st4 e5 _ _ λv2 ρ4 s4 hit2 R4 G₄=>?_
   have hit4:=hit3.grow OK hlow G₄
   have k₄:=kg k3 G₄.toZ
   have hD3:D<sz s3:=by obtain⟨vs,m,e,_⟩:=k3.at_;exact Pu e
   have hI3:=hit3.lt
   have hss:=G₂.size
   replace G₂:=G₂.trans G₄.toZ
   obtain⟨vs0,m₀,eD,ra⟩:=k₄.at_
   have hcall:∀k,it2=.call k->∃f z e,st4.σ[k]?=some (.callIter f z e):=λk hk=>by
    subst hk
    cases fuel2 with
    | zero=>exact nO e7
    | succ f=>obtain⟨r,_,q,_⟩:=fK e7;exact nO q
   refine⟨λr s'=>r=.ok .next/\J s',λs' h=>h.2,λr s' h=>h.1,?_⟩
   have go:codeAny (model B.prog B.w) A (.compLoop (.ListComp elt [⟨.Name x px,iter,[],0⟩,⟨.Name y py,i2,ifs,0⟩] scope pos) 1 v2 (.ref D) P'.env) (λr s'=>r=.ok .next/\J s') s4:=by
    refine tL (P':=P') (z:=(· <sz s3)) (z₀:=λb=>b<sz s3/\b≠D) OK hlow hP' iB hA hy hfy ht he R4 hit2 e7 ⟨k₄.out,hD.2⟩ (λb h=>h.1) hD3 (λh=>h.2 rfl) eD ra vm λρ5 s₅ vs m R5 G₅ eD5 ra5 hD5=>⟨rfl,?_⟩
    refine hJ ρ5 st5 xi.2 acc' s₅ R5 (G₂.trans ⟨G₅.pre,λb o hb=>G₅.keep b o ⟨?_,λq=>h0D (q▸hb)⟩,G₅.new,G₅.size⟩) ?_ ⟨⟨vs,m,eD5,ra5⟩,hD5⟩ e9
    ·exact O0 (hz0 b hb) hss
    ·exact hit4.growZ hlow G₅ λI e hn hc=>⟨hI3 I e hc,λq=>hn (q▸hzD)⟩
   exact u6 go (zp (P:=P') R4 hit2 hcall go)
 ·obtain⟨_,_,_,_,_,_,_,_,q⟩:=(hI _ _).mp h
  exact nO q
theorem Aa{k:Nat}{mi mi2:M It}{mt:M Bool}{me:M V}{fuel fuel2:Nat}{y:V}(h:v5 k mi mi2 mt me fuel fuel2 st=some (y,st'))(hk:k=st.L.length):∃it st1 σ' L' ys,mi st=some (it,st1)/\(k=st1.L.length->gF k mi2 mt me fuel2 fuel it [] ⟨st1.σ,st1.L++[none,none]⟩=some (ys,⟨σ',st1.L++L'⟩)) /\
  (k=st1.L.length->y=.ref σ'.length/\st'=⟨σ'++[.list ys],st1.L⟩):=by
 refine ae h λys st2 e1 e2=>ae e1 λit st1 e3 e4=>aV e4 λp e5 e6=>eL e6 λhc e7=>?_
 clear h e1 e4 e6
 obtain⟨ys1,σ3,L₃⟩:=p
 obtain⟨rfl,rfl⟩:=pj e7
 refine⟨it,st1,σ3,L₃.drop k,ys1,e3,λhk1=>?_,λhk1=>?_⟩
 ·dsimp only at hc
  rw[e5,<- hc,Qm]
 ·obtain⟨rfl,rfl⟩:=pj e2;exact⟨rfl,rfl⟩
theorem qn(OK:B.Ok)(hlow:∀a∈B.tabs,a<B.n₀)(hP:P.Ok){k:Nat}(fuel fuel2:Nat){elt iter i2:OQ}{px px2 pos py spos:Pos}{ifs:List OQ}{mi mi2:M It}{mt:M Bool}{me:M V}{i:Nat}{nm:Str}(vis:List (Option Str))(hk:k=P.locs.length)
  (hn:P.names[i]?=some (some nm)) (hf:(P.env.kindOf nm==some .free)=false)
  (hsw:swapsWith (.ListComp elt [⟨.Name x px,iter,[],0⟩,⟨.Name y px2,i2,ifs,0⟩] scope pos) (some (.Name nm py)) spos.line P.env=pure true)
  (K:eB P scope (aK scope P.env) vis (fx x y)) (hx:scope.names.lookup x=some .local) (hy:scope.names.lookup y=some .local) (hi:jQ B P n iter mi)
  (h2:∀C,(au P scope (aK scope P.env) C vis (fx x y C)).Ok->(au P scope (aK scope P.env) C vis (fx x y C)).NoStore->jQ B (au P scope (aK scope P.env) C vis (fx x y C)) n i2 mi2)
  (ht:∀C,(au P scope (aK scope P.env) C vis (fx x y C)).Ok->(au P scope (aK scope P.env) C vis (fx x y C)).NoStore->lc B (au P scope (aK scope P.env) C vis (fx x y C)) n ifs mt)
  (he:∀C,(au P scope (aK scope P.env) C vis (fx x y C)).Ok->(au P scope (aK scope P.env) C vis (fx x y C)).NoStore->aR B (au P scope (aK scope P.env) C vis (fx x y C)) n elt me) (hs:∀x,foldedSetIterable iter P.env x=pure x)
  (hs2:∀C v,foldedSetIterable i2 (au P scope (aK scope P.env) C vis (fx x y C)).env v=pure v) :
  i7 B P n (.Assign [.Name nm py] (.ListComp elt [⟨.Name x px,iter,[],0⟩,⟨.Name y px2,i2,ifs,0⟩] scope pos) spos) (af i (v5 k mi mi2 mt me fuel fuel2)):=by
 intro A hA ρ st s R yv st' hm Q E h
 refine ae hm λxv st2 hm' e4=>?_
 obtain⟨rfl,rfl⟩:=pj e4
 obtain⟨it,st1,σ',L',ys,e1,e2,e3⟩:=Aa hm' (by rw[hk,R.llen])
 rw[exec_Assign_Name_used _ _ _ _ hsw]
 refine OR (wpAny_standAt (OR ?_))
 show Ph _ A (do let _ <- comprehension (.ListComp elt [⟨.Name x px,iter,[],0⟩,⟨.Name y px2,i2,ifs,0⟩] scope pos) scope P.env _ (newList []) false (eval iter P.env) (some (assign (.Name nm py) P.env))) _ _ s
 refine OR (wpAny_mono (wpAny_comprehension_free (use:=some (assign (.Name nm py) P.env)) (Q:=λu s'=>Q .next s') rfl hs K.clos K.kind K.names
  (hi A hA ρ st s R it st1 e1 _ _ λv ρ1 s₁ hit R1 G₁=>?_)) (λu s' hq=>O3 (O3 hq)) λu u e=>e)
 have hk1:k=st1.L.length:=by rw[hk,R1.llen]
 obtain⟨rfl,rfl⟩:=e3 hk1
 have hloop:=e2 hk1
 refine ng (RR:=λacc C=>compPost (model B.prog B.w) A E (some (assign (.Name nm py) P.env)) (λu s'=>Q .next s') acc C) (σ':=σ') (ys:=ys) OK hlow hP K hA rfl R G₁ R1 hit (λk hk=>?_) (λC D s₁ RR hok hA' R2 hit' hD h0 hacc hRR=>?_) λD C ρ' s' R' G' hl X=>?_
 ·subst hk
  cases fuel with
  | zero=>exact nO hloop
  | succ f=>obtain⟨r,_,q,_⟩:=fK hloop;exact nO q
 ·have hxn:(au P scope (aK scope P.env) C vis (fx x y C)).names[k]?=some (some x):=by
   show(vis++[some x,some y])[k]?=_
   rw[hk,<- K.len];simp
  have hyn:(au P scope (aK scope P.env) C vis (fx x y C)).names[k+1]?=some (some y):=by
   show(vis++[some x,some y])[k+1]?=_
   rw[hk,<- K.len,Pi (PT _ 1),Qs];rfl
  have fr:∀{n:Str},scope.names.lookup n=some .local->((au P scope (aK scope P.env) C vis (fx x y C)).env.kindOf n==some .free)=false:=λh=>by rw[show(au P scope (aK scope P.env) C vis (fx x y C)).env.kindOf _=some .local from lookup_relabel_local h];decide
  have nst:=iJ (C:=C) K
  exact zP (z:=λb=>b<sz s\/b=D) (z₀:=(· <sz s)) OK hlow hok hA' hxn (fr hx) hyn (fr hy) (h2 C hok nst) (hs2 C) (ht C hok nst) (he C hok nst) R2 hit' hloop hD (λb h=>.inl h) (λb hb=>O0 hb (Pq (Pr (P9.mp h0) (Pu hacc)))) (.inr rfl) h0 hacc λρ' s' vs m R' G' eD ra hD'=>hRR ρ' s' vs m _ R' G' eD ra hD'
 ·show Ph _ A (assign (.Name nm py) P.env (.ref D)) _ _ _
  refine wpAny_assign_Name (eu OK hP R' hn hf (x:=.ref σ'.length) ⟨D,by rw[<- hl];simp,rfl⟩ λs2 R2 G₂=>?_)
  obtain⟨m,hm⟩:=X.ns
  have hm2:s2.heap.Ns C m:=cu.ns (n₀:=B.n₀) hm λo e=>G₂.keep C o e X.apart.1 X.apart.2.1 λht=>absurd (hlow _ ht) (P9.mpr X.apart.2.2)
  refine⟨m,hm2,λh' hs=>?_⟩
  have X2:A9 B P (· <sz s) (ρ'++[D]) s2 C:=⟨⟨m,hm2⟩,X.apart,X.notz,X.locals,X.frames⟩
  obtain⟨R3,G₃⟩:=X2.rel OK R2 hs
  exact h _ _ _ rfl R3 ((G'.trans G₂).transZ G₃)
variable {n':Nat}{fd:PF}{a L:Addr}{outer:List Env}{env:Env}
theorem Ky(OK:B.Ok){e:OQ}{pos:Pos}{m:M V}(he:TE B P n e m):TE B P n (.UnaryOp .USub e pos) (qF m):=⟨Kd (OK:=OK) (he:=he.h)⟩
theorem Ec(OK:B.Ok){o i value:OQ}{p pos:Pos}{mv mo mi:M V}(hv:TE B P n value mv)(ho:TE B P n o mo)(hi:TE B P n i mi)(hs:swapsWith value (some (.Subscript o i p)) pos.line P.env=pure false:=by rfl):TS B P n (.Assign [.Subscript o i p] value pos) (kq mv mo mi):=⟨wD (OK:=OK) (hv:=hv.h) (ho:=ho.h) (hi:=hi.h) (hs:=hs)⟩
theorem Hm(OK:B.Ok){value:OQ}{lower upper:Option OQ}{p pos:Pos}{m:M V}{lo hi:M (Option Int)}(hv:TE B P n value m)(hlo:qQ B P n lower lo)(hhi:qQ B P n upper hi):TE B P n (.Subscript value (.Slice lower upper none p) pos) (oU m lo hi):=⟨AC (OK:=OK) (hv:=hv.h) (hlo:=hlo.h) (hhi:=hhi.h)⟩
theorem MV(OK:B.Ok){value:OQ}{u:Nat}{cp up p pos:Pos}{m:M V}(hv:TE B P n value m)(ht:∀o r,letTemporaryGo value o r=pure ():=by intro _ _;rfl):TE B P n (.Subscript value (.Slice none none (some (.UnaryOp .USub (.Constant (.int 1) u cp) up)) p) pos) (uI m):=⟨Kg (OK:=OK) (hv:=hv.h) (ht:=ht)⟩
theorem td(OK:B.Ok)(hlow:∀a∈B.tabs,a<B.n₀)(hP:P.Ok){k:Nat}(fuel fuel2:Nat){elt iter i2:OQ}{px px2 pos py spos:Pos}{ifs:List OQ}{mi mi2:M It}{mt:M Bool}{me:M V}{i:Nat}{nm:Str}(vis:List (Option Str))(hk:k=P.locs.length)(hn:P.names[i]?=some (some nm))(hf:(P.env.kindOf nm==some .free)=false)(hsw:swapsWith (.ListComp elt [⟨.Name x px,iter,[],0⟩,⟨.Name y px2,i2,ifs,0⟩] scope pos) (some (.Name nm py)) spos.line P.env=pure true)(K:eB P scope (aK scope P.env) vis (fx x y))(hx:scope.names.lookup x=some .local)(hy:scope.names.lookup y=some .local)(hi:Iq B P n iter mi)(h2:∀C,(au P scope (aK scope P.env) C vis (fx x y C)).Ok->(au P scope (aK scope P.env) C vis (fx x y C)).NoStore->Iq B (au P scope (aK scope P.env) C vis (fx x y C)) n i2 mi2)(ht:∀C,(au P scope (aK scope P.env) C vis (fx x y C)).Ok->(au P scope (aK scope P.env) C vis (fx x y C)).NoStore->KU B (au P scope (aK scope P.env) C vis (fx x y C)) n ifs mt)(he:∀C,(au P scope (aK scope P.env) C vis (fx x y C)).Ok->(au P scope (aK scope P.env) C vis (fx x y C)).NoStore->TE B (au P scope (aK scope P.env) C vis (fx x y C)) n elt me)(hs:∀x,foldedSetIterable iter P.env x=pure x:=by intro _;rfl)(hs2:∀C v,foldedSetIterable i2 (au P scope (aK scope P.env) C vis (fx x y C)).env v=pure v:=by intro _ _;rfl):TS B P n (.Assign [.Name nm py] (.ListComp elt [⟨.Name x px,iter,[],0⟩,⟨.Name y px2,i2,ifs,0⟩] scope pos) spos) (af i (v5 k mi mi2 mt me fuel fuel2)):=⟨qn (OK:=OK) (hlow:=hlow) (hP:=hP) (fuel:=fuel) (fuel2:=fuel2) (vis:=vis) (hk:=hk) (hn:=hn) (hf:=hf) (hsw:=hsw) (K:=K) (hx:=hx) (hy:=hy) (hi:=hi.h) (h2:=λC u0 u1=>(h2 C u0 u1).h) (ht:=λC u0 u1=>(ht C u0 u1).h) (he:=λC u0 u1=>(he C u0 u1).h) (hs:=hs) (hs2:=hs2)⟩
theorem Hk(OK:B.Ok)(hlow:∀a∈B.tabs,a<B.n₀)(hlim:B.h₀.NoLimit)(hP:P.Ok)(hns:P.NoStore){i:Nat}{sn nm qual pn:Str}{e body:OQ}{params:Arguments}{scope:Scope}{np lp kp pos rp:Pos}{c cc Pl:Addr}{ml mb:M V}{mg:Str->Option OT}
  (hn:TE B P (n+2) (.Name sn np) (aa (.glob (.builtin "sorted")))) (hl:TE B P (n+2) e ml) (C:mV params scope pn nm)
  (hb:∀fd L a stk k a',fd.params=params->fd.scope=scope->fd.globals=Pz->fd.builtins=builtinsNs->(dP fd L a stk pn nm k a').Ok->TE B (dP fd L a stk pn nm k a') n body mb) (hpure:∀st y st',mb st=some (y,st')->st'=st)
  (hi:P.locs[i]?=some (.cell c)) (hclos:closureFor scope P.env=pure [(nm,c)]) (hdef:defaultsOf params P.env=([],[])) (hkw:params.kwonlyargs=[]) (hg:P.env.globals=Pz) (hmg:B.h₀.Ns Pz mg) (hcode:P.env.code=.ref cc) (hbm:B.h₀.BuiltinsAt mg Pl) (hgP:Pz≠Pl)
  (hPl:Pl∈B.tabs) (hh:B.h₀.get? Pl=none) (ht1:∀ρ h,B.tab ρ h->d8 cc Pl lp qual ρ h) (ht2:∀ρ h h',B.tab ρ h->(∀b o,b≠Pl->h.get? b=some o->h'.get? b=some o)->d8 cc Pl lp qual ρ h'->B.tab ρ h')
  (hq:P.env.qual++"<lambda>"=qual) (hst:backTo pos (Pb [e] P.env)=[(false,eval e P.env)]) :
  EO B P (n+2) [.Return (some (.Call (.Name sn np) [e] [⟨some (OO "key"),.Lambda params body scope lp,kp⟩] pos)) rp] (b8 (kx i ml params body scope qual nm mb)) :=
 ⟨gt.sortRet OK hlow hlim hP hns hn.h hl.h C (λfd L a stk k a' h1 h2 h3 h4 h5=>(hb fd L a stk k a' h1 h2 h3 h4 h5).h) hpure hi hclos hdef hkw hg hmg hcode hbm hgP hPl hh ht1 ht2 hq hst⟩
noncomputable def fv(x y:V):M V:=λst=>(Ln st.σ x y).map λb=>(.bool (!b),st)
theorem oQ:cQ B P n (compareOp .NotIn) fv:=by
 intro A hA ρ st s a b x y R ra rb z st' hm Q E h
 refine tk R h ?_;clear h;intro Q E h
 refine dy hm λc e hm=>tY ra rb e (λi j t u e1 e2 e3=>?_) λh1=>aV h1 λd g1 h2=>aV h2 λds g2 h3=>aV g2 λe g3 g4=>eL h3 λhs h3=>?_
 ·obtain⟨rfl,rfl⟩:=PZ hm;subst e1;subst e2;subst e3;exact PyProof.Rows.notIn_str (R.bool h)
 ·obtain⟨rfl,rfl⟩:=PZ hm
  obtain rfl:=sj h3
  cases pU g4
  obtain⟨as,r1⟩:=iV R.toRel0 _ _ _ _ g1 ra
  obtain⟨bs,r2⟩:=iV R.toRel0 _ _ _ _ g3 rb
  exact SeqAt.notIn_list_reads r2 r1 (canLay_of_shaped hs.2) (canLay_of_shaped hs.1) (Sz hs.1 hA.units64) (R.bool h)
end
end Mine
end
section
open PySem PySem.Calls PySem.SeqAt PySem.W
set_option maxRecDepth 100000
namespace Mine.H1
noncomputable section
noncomputable abbrev pr:Program:=PySem.Challenge.pw_tc0058_02
noncomputable def S(s:String)(t:Nat):OT:=.str (OO s) t
noncomputable def E(P:Params)(k:String)(t:Nat)(v:OT):Qj:={ hash:=Sb P (OO k),key:=.str (OO k) t,val:=v }
noncomputable def ah(i:Nat):Stmt:=(pr.main.body[i]?).getD (.Pass default)
noncomputable def c4(i j:Nat):Stmt:=match ah i with
 | .ClassDef _ _ _ b _ _ _ _ _ _ _=>(b[j]?).getD (.Pass default)
 | _=>.Pass default
noncomputable def fY(cls:OT)(st:Stmt)(qual:String)(g:Addr)(mod code:OT):Obj:=match st with
 | .FunctionDef name args body _ _ _ scope _ _ _=>{ cls:=cls,data:=.func { name:=name,qualname:=OO qual,params:=args,body:=.stmts body,scope:=scope,globals:=g,closure := [],defaults:=.none,kwdefaults:=.none,pyModule:=mod,code:=code } }
 | _=>default
noncomputable def IX(st:Stmt):List (Option Expr×Expr):=match st with
 | .Assign _ (.Dict ks vs _) _=>ks.zip vs
 | _=>[]
noncomputable def HU:Const->Int
 | .int k=>k
 | _=>0
noncomputable def Ko:Const->Str
 | .str v=>v
 | _=>default
noncomputable def BM:Expr->Const
 | .Constant c _ _=>c
 | _=>.none
noncomputable def mh(d:Nat):List (Option Expr×Expr)->Nat->List Qj
 | [],_=>[]
 | p::r,t=>{ hash:=HU (BM (p.1.getD p.2)),key:=.int (HU (BM (p.1.getD p.2))) t,val:=.str (Ko (BM p.2)) (t+1) }::mh d r (t+d)
noncomputable def fg(c:Nat):List Qj:=mh (if c<38 then 3 else 2) (((IX (ah 3)).drop (17*c)).take 17) (256+51*c)
noncomputable def az(c:Nat):Obj:={ cls:=.type "dict",data:=.dict (fg c).toArray (fg c).length }
noncomputable def l6:List Qj:=(OP 39).flatMap fg
noncomputable def na(n q:String)(t l a p:Nat)(x y:Addr)(v1 v2 v3 v4:OT)(u v:Nat):Obj:={ cls:=.type "code",data:=.fields #[S n t,S q (t+1),S "/claim/cut.py" (t+2),.int l 0,.int a 0,.int p 0,.int 0 0,.int 3 0,.ref x,.bool true,.int 181 0,.ref y,v1,v2,v3,v4,.int u 0,.int l 0,S "/claim/cut.py" v] }
noncomputable def tE:Obj:={ cls:=.type "tuple",data:=.seq #[] }
noncomputable def fE:Obj:={ cls:=.none,data:=.fields #[] }
noncomputable def rK:Obj:={ cls:=.type "code",data:=.fields #[S "<module>" 182,S "<module>" 183,S "/claim/cut.py" 184,.int 1 0,.int 0 0,.int 0 0,.int 0 0,.int 0 0,.ref 11,.bool false,.int 181 0,.ref 12,.none,.none,.none,.none,.int 185 0,.int 1 0,S "/claim/cut.py" 186] }
noncomputable def rL:Obj:={ cls:=.type "frame",slots := #[some (.ref 13),some (.ref 3),some (.ref 3),none,some (S "__main__" 164),none,some (.ref 0)] }
noncomputable def t1(P:Params):BT:=(.node (boot_o_0 P) (.node (boot_o_1 P) (.node (boot_o_3 P) (.node (boot_o_7 P) .nil .nil) (.node tE .nil .nil)) (.node (boot_o_5 P) (.node (boot_o_9 P) .nil .nil) (.node rK .nil .nil))) (.node (boot_o_2 P) (.node (boot_o_4 P) (.node (boot_o_8 P) .nil .nil) (.node fE .nil .nil)) (.node (boot_o_6 P) (.node (boot_o_10 P) .nil .nil) (.node rL .nil .nil))))
noncomputable def env:Env:={ scope:=pr.main.scope,locals:=mainNs,globals:=mainNs,cells := [],code:=.ref 13,frame:=some 14 }
noncomputable abbrev bd:List Stmt:=behindTheImports pr
noncomputable abbrev cd:Code:=.body bd env
noncomputable def NR(P:Params):Obj:={ cls:=.type "dict",data:=.dict #[E P "__name__" 165 (S "cpy313.stringprep" 187),E P "__doc__" 166 (.none),E P "__package__" 167 (.none),E P "__loader__" 168 (Qi "__main__.__loader__#opaque"),E P "__spec__" 169 (.none),E P "__annotations__" 170 (.ref 6),E P "__builtins__" 171 (.ref 4),E P "__file__" 173 (S "/claim/cut.py" 172),E P "__cached__" 174 (.none)] 9 }
noncomputable def t2(P:Params):BT:=(.node (boot_o_0 P) (.node (boot_o_1 P) (.node (NR P) (.node (boot_o_7 P) .nil .nil) (.node tE .nil .nil)) (.node (boot_o_5 P) (.node (boot_o_9 P) .nil .nil) (.node rK .nil .nil))) (.node (boot_o_2 P) (.node (boot_o_4 P) (.node (boot_o_8 P) .nil .nil) (.node fE .nil .nil)) (.node (boot_o_6 P) (.node (boot_o_10 P) .nil .nil) (.node rL .nil .nil))))
noncomputable def Mh:List Stmt := [ah 0]
noncomputable def G0(w:Pt):Prop:=(λos=>segRunT treeTable pr w 11 (some (.ref 6)) 1 10 ⟨t1 w.params,15,({}:Life),#[],{},187,os⟩ (piecesOf Mh env cd ⟨0,0,0,0⟩ [topFrame ⟨0,0,0,0⟩]))=λos=>some (.next,⟨t2 w.params,15,({}:Life),#[],{},189,os⟩,cd,⟨1,0,1,8⟩)
theorem g0(w:Pt):G0 w:=(λw=>by unfold G0;rw[Mine.q1,Mine.q4];kernel_rfl) w
noncomputable def NS(P:Params):Obj:={ cls:=.type "dict",data:=.dict #[E P "__name__" 165 (S "cpy313.stringprep" 187),E P "__doc__" 166 (.none),E P "__package__" 167 (.none),E P "__loader__" 168 (Qi "__main__.__loader__#opaque"),E P "__spec__" 169 (.none),E P "__annotations__" 170 (.ref 6),E P "__builtins__" 171 (.ref 4),E P "__file__" 173 (S "/claim/cut.py" 172),E P "__cached__" 174 (.none),E P "b1_set" 248 (.ref 22)] 10 }
noncomputable def yr:Obj:={ cls:=.type "list",data:=.seq #[.int 173 189,.int 847 190,.int 6150 191,.int 6155 192,.int 6156 193,.int 6157 194,.int 8203 195,.int 8204 196,.int 8205 197,.int 8288 198,.int 65279 199] }
noncomputable def yy:Obj:={ cls:=.type "range",data:=.fields #[.int 65024 200,.int 65040 201,.int 1 202] }
noncomputable def yB:Obj:={ cls:=.type "list",data:=.seq #[.int 65024 205,.int 65025 206,.int 65026 207,.int 65027 208,.int 65028 209,.int 65029 210,.int 65030 211,.int 65031 212,.int 65032 213,.int 65033 214,.int 65034 215,.int 65035 216,.int 65036 217,.int 65037 218,.int 65038 219,.int 65039 220] 18 }
noncomputable def yG:Obj:={ cls:=.type "range_iterator",data:=.fields #[.int 65040 0,.int 0 0,.int 1 0] }
noncomputable def yO:Obj:={ cls:=.type "StopIteration",data:=.fields #[.ref 19,.none,.none,.none,.bool false,.none] }
noncomputable def yS:Obj:={ cls:=.type "list",data:=.seq #[.int 173 189,.int 847 190,.int 6150 191,.int 6155 192,.int 6156 193,.int 6157 194,.int 8203 195,.int 8204 196,.int 8205 197,.int 8288 198,.int 65279 199,.int 65024 205,.int 65025 206,.int 65026 207,.int 65027 208,.int 65028 209,.int 65029 210,.int 65030 211,.int 65031 212,.int 65032 213,.int 65033 214,.int 65034 215,.int 65035 216,.int 65036 217,.int 65037 218,.int 65038 219,.int 65039 220] }
noncomputable def n5(P:Params):Obj:={ cls:=.type "set",data:=.set #[(65024,.int 65024 205),(65025,.int 65025 206),(65026,.int 65026 207),(65027,.int 65027 208),(65028,.int 65028 209),(65029,.int 65029 210),(6150,.int 6150 191),(65030,.int 65030 211),(65031,.int 65031 212),(65032,.int 65032 213),(65033,.int 65033 214),(6155,.int 6155 192),(6156,.int 6156 193),(6157,.int 6157 194),(8203,.int 8203 195),(8204,.int 8204 196),(8205,.int 8205 197),(65034,.int 65034 215),(65035,.int 65035 216),(65036,.int 65036 217),(65037,.int 65037 218),(65038,.int 65038 219),(65039,.int 65039 220),(173,.int 173 189),(847,.int 847 190),(8288,.int 8288 198),(65279,.int 65279 199)] 29 { mask:=127,place := #[0,1,2,3,4,5,6,7,8,9,10,11,12,13,14,15,16,17,18,19,20,21,22,45,79,96,127],dummies := #[],finger:=0,led := !(P.followText "set-order"),moves:=2,plain:=true } }
noncomputable def y0:Obj:={ cls:=.type "list_iterator",data:=.fields #[.none,.int 27 0] }
noncomputable def y7:Obj:={ cls:=.type "StopIteration",data:=.fields #[.ref 24,.none,.none,.none,.bool false,.none] }
noncomputable def t3(P:Params):BT:=(.node (boot_o_0 P) (.node (boot_o_1 P) (.node (NS P) (.node (boot_o_7 P) (.node yr .nil .nil) (.node y0 .nil .nil)) (.node tE (.node tE .nil .nil) .nil)) (.node (boot_o_5 P) (.node (boot_o_9 P) (.node yB .nil .nil) (.node y7 .nil .nil)) (.node rK (.node yS .nil .nil) .nil))) (.node (boot_o_2 P) (.node (boot_o_4 P) (.node (boot_o_8 P) (.node yy .nil .nil) (.node tE .nil .nil)) (.node fE (.node yO .nil .nil) .nil)) (.node (boot_o_6 P) (.node (boot_o_10 P) (.node yG .nil .nil) .nil) (.node rL (.node (n5 P) .nil .nil) .nil))))
noncomputable def Mi:List Stmt := [ah 1]
noncomputable def G1(w:Pt):Prop:=(λos=>segRunT treeTable pr w 11 (some (.ref 6)) 1 999 ⟨t2 w.params,15,({}:Life),#[],{},189,os⟩ (piecesOf Mi env cd ⟨1,0,1,8⟩ [topFrame ⟨0,0,0,0⟩]))=λos=>some (.next,⟨t3 w.params,26,({}:Life),#[],{},249,os⟩,cd,⟨2,0,2,6⟩)
theorem g1(w:Pt):G1 w:=(λw=>byRow2 "set-order" (P:=λw=>G1 w) (λw=>byRow2 "special-get-raises" (P:=λw=>G1 (World.withFollow w "set-order" false)) (λw=>by unfold G1;rw[Mine.q1,Mine.q4];kernel_rfl) (λw=>by unfold G1;rw[Mine.q1,Mine.q4];kernel_rfl) w) (λw=>byRow2 "special-get-raises" (P:=λw=>G1 (World.withFollow w "set-order" true)) (λw=>by unfold G1;rw[Mine.q1,Mine.q4];kernel_rfl) (λw=>by unfold G1;rw[Mine.q1,Mine.q4];kernel_rfl) w) w) w
noncomputable def NT(P:Params):Obj:={ cls:=.type "dict",data:=.dict #[E P "__name__" 165 (S "cpy313.stringprep" 187),E P "__doc__" 166 (.none),E P "__package__" 167 (.none),E P "__loader__" 168 (Qi "__main__.__loader__#opaque"),E P "__spec__" 169 (.none),E P "__annotations__" 170 (.ref 6),E P "__builtins__" 171 (.ref 4),E P "__file__" 173 (S "/claim/cut.py" 172),E P "__cached__" 174 (.none),E P "b1_set" 248 (.ref 22),E P "in_table_b1" 255 (.ref 32)] 11 }
noncomputable def H5:Obj:={ cls:=.none,data:=.fields #[.int 3 0,.int 0 0,.ref 31] }
noncomputable def C1:Obj:={ cls:=.type "tuple",data:=.seq #[S "code" 252] }
noncomputable def C2:Obj:=fY (.none) (ah 2) "in_table_b1" 0 (.none) (.none)
noncomputable def y8:Obj:=na "in_table_b1" "in_table_b1" 249 3 1 0 26 27 .none (.ref 28) (.ref 29) (.ref 30) 253 254
noncomputable def y9:Obj:=fY (.type "function") (ah 2) "in_table_b1" 3 (S "cpy313.stringprep" 187) (.ref 31)
noncomputable def t4(P:Params):BT:=(.node (boot_o_0 P) (.node (boot_o_1 P) (.node (NT P) (.node (boot_o_7 P) (.node yr (.node y8 .nil .nil) .nil) (.node y0 .nil .nil)) (.node tE (.node tE .nil .nil) (.node fE .nil .nil))) (.node (boot_o_5 P) (.node (boot_o_9 P) (.node yB .nil .nil) (.node y7 .nil .nil)) (.node rK (.node yS .nil .nil) (.node tE .nil .nil)))) (.node (boot_o_2 P) (.node (boot_o_4 P) (.node (boot_o_8 P) (.node yy (.node y9 .nil .nil) .nil) (.node tE .nil .nil)) (.node H5 (.node yO .nil .nil) (.node C1 .nil .nil))) (.node (boot_o_6 P) (.node (boot_o_10 P) (.node yG .nil .nil) (.node tE .nil .nil)) (.node rL (.node (n5 P) .nil .nil) (.node C2 .nil .nil)))))
noncomputable def Mj:List Stmt := [ah 2]
noncomputable def G2(w:Pt):Prop:=(λos=>segRunT treeTable pr w 11 (some (.ref 6)) 1 30 ⟨t3 w.params,26,({}:Life),#[],{},249,os⟩ (piecesOf Mj env cd ⟨2,0,2,6⟩ [topFrame ⟨0,0,0,0⟩]))=λos=>some (.next,⟨t4 w.params,33,({}:Life),#[],{},256,os⟩,cd,⟨3,0,4,30⟩)
theorem g2(w:Pt):G2 w:=(λw=>by unfold G2;rw[Mine.q1,Mine.q4];kernel_rfl) w
noncomputable def NU(P:Params):Obj:={ cls:=.type "dict",data:=.dict #[E P "__name__" 165 (S "cpy313.stringprep" 187),E P "__doc__" 166 (.none),E P "__package__" 167 (.none),E P "__loader__" 168 (Qi "__main__.__loader__#opaque"),E P "__spec__" 169 (.none),E P "__annotations__" 170 (.ref 6),E P "__builtins__" 171 (.ref 4),E P "__file__" 173 (S "/claim/cut.py" 172),E P "__cached__" 174 (.none),E P "b1_set" 248 (.ref 22),E P "in_table_b1" 255 (.ref 32),E P "b3_exceptions" 2206 (.ref 33)] 12 }
noncomputable def H6:Obj:={ cls:=.type "dict",data:=.dict l6.toArray l6.length }
noncomputable def t5(P:Params):BT:=(.node (boot_o_0 P) (.node (boot_o_1 P) (.node (NU P) (.node (boot_o_7 P) (.node yr (.node y8 (.node (az 30) .nil .nil) .nil) (.node (az 14) .nil .nil)) (.node y0 (.node (az 6) (.node (az 38) .nil .nil) .nil) (.node (az 22) .nil .nil))) (.node tE (.node tE (.node (az 2) (.node (az 34) .nil .nil) .nil) (.node (az 18) .nil .nil)) (.node fE (.node (az 10) .nil .nil) (.node (az 26) .nil .nil)))) (.node (boot_o_5 P) (.node (boot_o_9 P) (.node yB (.node H6 (.node (az 32) .nil .nil) .nil) (.node (az 16) .nil .nil)) (.node y7 (.node (az 8) .nil .nil) (.node (az 24) .nil .nil))) (.node rK (.node yS (.node (az 4) (.node (az 36) .nil .nil) .nil) (.node (az 20) .nil .nil)) (.node tE (.node (az 12) .nil .nil) (.node (az 28) .nil .nil))))) (.node (boot_o_2 P) (.node (boot_o_4 P) (.node (boot_o_8 P) (.node yy (.node y9 (.node (az 31) .nil .nil) .nil) (.node (az 15) .nil .nil)) (.node tE (.node (az 7) .nil .nil) (.node (az 23) .nil .nil))) (.node H5 (.node yO (.node (az 3) (.node (az 35) .nil .nil) .nil) (.node (az 19) .nil .nil)) (.node C1 (.node (az 11) .nil .nil) (.node (az 27) .nil .nil)))) (.node (boot_o_6 P) (.node (boot_o_10 P) (.node yG (.node (az 1) (.node (az 33) .nil .nil) .nil) (.node (az 17) .nil .nil)) (.node tE (.node (az 9) .nil .nil) (.node (az 25) .nil .nil))) (.node rL (.node (n5 P) (.node (az 5) (.node (az 37) .nil .nil) .nil) (.node (az 21) .nil .nil)) (.node C2 (.node (az 13) .nil .nil) (.node (az 29) .nil .nil))))))
noncomputable def Hf:List Stmt := [ah 3]
noncomputable def G3(w:Pt):Prop:=(λos=>segRunT treeTable pr w 11 (some (.ref 6)) 1 12525 ⟨t4 w.params,33,({}:Life),#[],{},256,os⟩ (piecesOf Hf env cd ⟨3,0,4,30⟩ [topFrame ⟨0,0,0,0⟩]))=λos=>some (.next,⟨t5 w.params,72,({}:Life),#[],{},2207,os⟩,cd,⟨5,0,5,13⟩)
noncomputable def uv(P:Params):Obj:={ cls:=.type "dict",data:=.dict #[E P "__name__" 165 (S "law_tc0058_02" 2330),E P "__doc__" 166 (.none),E P "__package__" 167 (.none),E P "__loader__" 168 (Qi "__main__.__loader__#opaque"),E P "__spec__" 169 (.none),E P "__annotations__" 170 (.ref 6),E P "__builtins__" 171 (.ref 4),E P "__file__" 173 (S "/claim/cut.py" 172),E P "__cached__" 174 (.none),E P "b1_set" 248 (.ref 22),E P "in_table_b1" 255 (.ref 32),E P "b3_exceptions" 2206 (.ref 33),E P "map_table_b3" 2214 (.ref 78),E P "_parse_varint" 2225 (.ref 85),E P "_netrclex" 2285 (.ref 123),E P "_raise_serialization_error" 2294 (.ref 134),E P "_escape_cdata" 2301 (.ref 141),E P "_escape_attrib" 2308 (.ref 148),E P "_escape_attrib_html" 2315 (.ref 155),E P "_escape_cdata_c14n" 2322 (.ref 162),E P "_escape_attrib_c14n" 2329 (.ref 169),E P "_law_hidden" 2339 (.ref 176),E P "_law_stay" 2347 (.ref 183),E P "_law_letter" 2356 (.ref 190),E P "_law_typed" 2362 (.ref 195),E P "_law_raw" 2368 (.ref 200),E P "_law_list" 2380 (.ref 207),E P "_law_lexer" 2390 (.ref 214),E P "_law_numbers" 2396 (.ref 219),E P "_law_row" 2402 (.ref 224),E P "_law_spelled" 2408 (.ref 229),E P "_law_order" 2414 (.ref 234),E P "_law_run" 2420 (.ref 239),E P "_law_rest" 2426 (.ref 244),E P "law" 2432 (.ref 249)] 35 }
noncomputable def JF:Obj:={ cls:=.none,data:=.fields #[.int 3 0,.int 0 0,.ref 31,.int 6 0,.int 0 0,.ref 77,.int 12 0,.int 0 0,.ref 84,.int 21 0,.int 0 0,.ref 91,.int 65 0,.int 0 0,.ref 133,.int 67 0,.int 0 0,.ref 140,.int 78 0,.int 0 0,.ref 147,.int 97 0,.int 0 0,.ref 154,.int 108 0,.int 0 0,.ref 161,.int 121 0,.int 0 0,.ref 168,.int 139 0,.int 0 0,.ref 175,.int 142 0,.int 0 0,.ref 182,.int 145 0,.int 0 0,.ref 189,.int 150 0,.int 0 0,.ref 194,.int 158 0,.int 0 0,.ref 199,.int 164 0,.int 0 0,.ref 206,.int 170 0,.int 0 0,.ref 213,.int 180 0,.int 0 0,.ref 218,.int 188 0,.int 0 0,.ref 223,.int 196 0,.int 0 0,.ref 228,.int 199 0,.int 0 0,.ref 233,.int 215 0,.int 0 0,.ref 238,.int 246 0,.int 0 0,.ref 243,.int 249 0,.int 0 0,.ref 248] }
noncomputable def JG:Obj:={ cls:=.type "tuple",data:=.seq #[S "code" 2210,S "r" 2211] }
noncomputable def JH:Obj:=fY (.none) (ah 4) "map_table_b3" 0 (.none) (.none)
noncomputable def C3:Obj:=na "map_table_b3" "map_table_b3" 2207 6 1 0 72 73 .none (.ref 74) (.ref 75) (.ref 76) 2212 2213
noncomputable def C4:Obj:=fY (.type "function") (ah 4) "map_table_b3" 3 (S "cpy313.stringprep" 187) (.ref 77)
noncomputable def JI:Obj:={ cls:=.type "tuple",data:=.seq #[S "iterator" 2220,S "b" 2221,S "val" 2222] }
noncomputable def JJ:Obj:=fY (.none) (ah 6) "_parse_varint" 0 (.none) (.none)
noncomputable def C5:Obj:=na "_parse_varint" "_parse_varint" 2217 12 1 0 79 80 .none (.ref 81) (.ref 82) (.ref 83) 2223 2224
noncomputable def C6:Obj:=fY (.type "function") (ah 6) "_parse_varint" 3 (S "cpy313.dis" 2215) (.ref 84)
noncomputable def JK:Obj:={ cls:=.type "builtin_function_or_method",data:=.fields #[Qi "type.__prepare__",.type "type"] }
noncomputable def JL(P:Params):Obj:={ cls:=.type "dict",data:=.dict #[E P "__module__" 2235 (S "cpy313.netrc" 2226),E P "__qualname__" 2237 (S "_netrclex" 2236),E P "__firstlineno__" 2239 (.int 21 2238),E P "__init__" 2247 (.ref 99),E P "_read_char" 2255 (.ref 106),E P "get_token" 2265 (.ref 113),E P "push_token" 2273 (.ref 120),E P "__static_attributes__" 2278 (.ref 121)] 8 }
noncomputable def JM:Obj:={ cls:=.none,data:=.fields #[.int 23 0,.int 4 0,.ref 98,.int 29 0,.int 4 0,.ref 105,.int 35 0,.int 4 0,.ref 112,.int 62 0,.int 4 0,.ref 119] }
noncomputable def JN:Obj:={ cls:=.type "code",data:=.fields #[S "_netrclex" 2230,S "_netrclex" 2231,S "/claim/cut.py" 2232,.int 21 0,.int 0 0,.int 0 0,.int 0 0,.int 0 0,.ref 89,.bool false,.int 181 0,.ref 90,.none,.none,.none,.none,.int 2233 0,.int 21 0,S "/claim/cut.py" 2234] }
noncomputable def JO:Obj:={ cls:=.type "frame",slots := #[some (.ref 91),some (.ref 3),some (.ref 88),none,some (S "cpy313.netrc" 2226),none,some (.ref 0)] }
noncomputable def JP:Obj:={ cls:=.type "tuple",data:=.seq #[S "self" 2243,S "fp" 2244] }
noncomputable def JQ:Obj:=fY (.none) (c4 8 0) "_netrclex.__init__" 0 (.none) (.none)
noncomputable def C7:Obj:=na "__init__" "_netrclex.__init__" 2240 23 2 0 93 94 .none (.ref 95) (.ref 96) (.ref 97) 2245 2246
noncomputable def wf:Obj:=fY (.type "function") (c4 8 0) "_netrclex.__init__" 3 (S "cpy313.netrc" 2226) (.ref 98)
noncomputable def FN:Obj:={ cls:=.type "tuple",data:=.seq #[S "self" 2251,S "ch" 2252] }
noncomputable def FO:Obj:=fY (.none) (c4 8 1) "_netrclex._read_char" 0 (.none) (.none)
noncomputable def yg:Obj:=na "_read_char" "_netrclex._read_char" 2248 29 1 0 100 101 .none (.ref 102) (.ref 103) (.ref 104) 2253 2254
noncomputable def sN:Obj:=fY (.type "function") (c4 8 1) "_netrclex._read_char" 3 (S "cpy313.netrc" 2226) (.ref 105)
noncomputable def FP:Obj:={ cls:=.type "tuple",data:=.seq #[S "self" 2259,S "token" 2260,S "fiter" 2261,S "ch" 2262] }
noncomputable def FQ:Obj:=fY (.none) (c4 8 2) "_netrclex.get_token" 0 (.none) (.none)
noncomputable def yh:Obj:=na "get_token" "_netrclex.get_token" 2256 35 1 0 107 108 .none (.ref 109) (.ref 110) (.ref 111) 2263 2264
noncomputable def sO:Obj:=fY (.type "function") (c4 8 2) "_netrclex.get_token" 3 (S "cpy313.netrc" 2226) (.ref 112)
noncomputable def FS:Obj:={ cls:=.type "tuple",data:=.seq #[S "self" 2269,S "token" 2270] }
noncomputable def FT:Obj:=fY (.none) (c4 8 3) "_netrclex.push_token" 0 (.none) (.none)
noncomputable def yi:Obj:=na "push_token" "_netrclex.push_token" 2266 62 2 0 114 115 .none (.ref 116) (.ref 117) (.ref 118) 2271 2272
noncomputable def sP:Obj:=fY (.type "function") (c4 8 3) "_netrclex.push_token" 3 (S "cpy313.netrc" 2226) (.ref 119)
noncomputable def FU:Obj:={ cls:=.type "tuple",data:=.seq #[S "instream" 2274,S "lineno" 2275,S "pushback" 2276,S "whitespace" 2277] }
noncomputable def yj(P:Params):Obj:={ cls:=.type "dict",data:=.dict #[E P "__module__" 2235 (S "cpy313.netrc" 2226),E P "__firstlineno__" 2239 (.int 21 2238),E P "__init__" 2247 (.ref 99),E P "_read_char" 2255 (.ref 106),E P "get_token" 2265 (.ref 113),E P "push_token" 2273 (.ref 120),E P "__static_attributes__" 2278 (.ref 121),E P "__dict__" 2280 (.ref 124),E P "__weakref__" 2282 (.ref 125),E P "__doc__" 2283 (.none)] 4 }
noncomputable def yk:Obj:={ cls:=.type "type",data:=.cls { name:=OO "_netrclex",bases := [.type "object"],mro := [.ref 123,.type "object"],ns:=122,qualname:=OO "_netrclex" },slots := #[none,none,some (S "_netrclex" 2228),some (S "_netrclex" 2236),some (Qi "object.__new__"),some (.bool true)] }
noncomputable def FV:Obj:={ cls:=.type "getset_descriptor",data:=.fields #[S "__dict__" 2279,.ref 123,Qi "function.__dict__",Qi "function.__dict__#set"] }
noncomputable def FW:Obj:={ cls:=.type "getset_descriptor",data:=.fields #[S "__weakref__" 2281,.ref 123,Qi "ExceptionGroup.__weakref__",.none] }
noncomputable def FX:Obj:={ cls:=.type "super",data:=.fields #[.ref 123,.ref 123,.ref 123] }
noncomputable def FY:Obj:={ cls:=.type "builtin_function_or_method",data:=.fields #[Qi "object.__init_subclass__",.ref 123] }
noncomputable def FZ:Obj:={ cls:=.type "tuple",data:=.seq #[S "text" 2291] }
noncomputable def F0:Obj:=fY (.none) (ah 10) "_raise_serialization_error" 0 (.none) (.none)
noncomputable def F1:Obj:=na "_raise_serialization_error" "_raise_serialization_error" 2288 65 1 0 128 129 .none (.ref 130) (.ref 131) (.ref 132) 2292 2293
noncomputable def F2:Obj:=fY (.type "function") (ah 10) "_raise_serialization_error" 3 (S "cpy313.xml.etree.ElementTree" 2286) (.ref 133)
noncomputable def F3:Obj:={ cls:=.type "tuple",data:=.seq #[S "text" 2298] }
noncomputable def F4:Obj:=fY (.none) (ah 11) "_escape_cdata" 0 (.none) (.none)
noncomputable def yl:Obj:=na "_escape_cdata" "_escape_cdata" 2295 67 1 0 135 136 .none (.ref 137) (.ref 138) (.ref 139) 2299 2300
noncomputable def ym:Obj:=fY (.type "function") (ah 11) "_escape_cdata" 3 (S "cpy313.xml.etree.ElementTree" 2286) (.ref 140)
noncomputable def F5:Obj:={ cls:=.type "tuple",data:=.seq #[S "text" 2305] }
noncomputable def F6:Obj:=fY (.none) (ah 12) "_escape_attrib" 0 (.none) (.none)
noncomputable def yn:Obj:=na "_escape_attrib" "_escape_attrib" 2302 78 1 0 142 143 .none (.ref 144) (.ref 145) (.ref 146) 2306 2307
noncomputable def yo:Obj:=fY (.type "function") (ah 12) "_escape_attrib" 3 (S "cpy313.xml.etree.ElementTree" 2286) (.ref 147)
noncomputable def F7:Obj:={ cls:=.type "tuple",data:=.seq #[S "text" 2312] }
noncomputable def F8:Obj:=fY (.none) (ah 13) "_escape_attrib_html" 0 (.none) (.none)
noncomputable def yp:Obj:=na "_escape_attrib_html" "_escape_attrib_html" 2309 97 1 0 149 150 .none (.ref 151) (.ref 152) (.ref 153) 2313 2314
noncomputable def yq:Obj:=fY (.type "function") (ah 13) "_escape_attrib_html" 3 (S "cpy313.xml.etree.ElementTree" 2286) (.ref 154)
noncomputable def F9:Obj:={ cls:=.type "tuple",data:=.seq #[S "text" 2319] }
noncomputable def Ga:Obj:=fY (.none) (ah 14) "_escape_cdata_c14n" 0 (.none) (.none)
noncomputable def yt:Obj:=na "_escape_cdata_c14n" "_escape_cdata_c14n" 2316 108 1 0 156 157 .none (.ref 158) (.ref 159) (.ref 160) 2320 2321
noncomputable def yu:Obj:=fY (.type "function") (ah 14) "_escape_cdata_c14n" 3 (S "cpy313.xml.etree.ElementTree" 2286) (.ref 161)
noncomputable def Gb:Obj:={ cls:=.type "tuple",data:=.seq #[S "text" 2326] }
noncomputable def Gc:Obj:=fY (.none) (ah 15) "_escape_attrib_c14n" 0 (.none) (.none)
noncomputable def yw:Obj:=na "_escape_attrib_c14n" "_escape_attrib_c14n" 2323 121 1 0 163 164 .none (.ref 165) (.ref 166) (.ref 167) 2327 2328
noncomputable def yx:Obj:=fY (.type "function") (ah 15) "_escape_attrib_c14n" 3 (S "cpy313.xml.etree.ElementTree" 2286) (.ref 168)
noncomputable def Gd:Obj:={ cls:=.type "tuple",data:=.seq #[S "place" 2335,S "k" 2336] }
noncomputable def Ge:Obj:=fY (.none) (ah 17) "_law_hidden" 0 (.none) (.none)
noncomputable def yz:Obj:=na "_law_hidden" "_law_hidden" 2332 139 1 0 170 171 .none (.ref 172) (.ref 173) (.ref 174) 2337 2338
noncomputable def yA:Obj:=fY (.type "function") (ah 17) "_law_hidden" 3 (S "law_tc0058_02" 2330) (.ref 175)
noncomputable def Gf:Obj:={ cls:=.type "tuple",data:=.seq #[S "place" 2343,S "signs" 2344] }
noncomputable def Gg:Obj:=fY (.none) (ah 18) "_law_stay" 0 (.none) (.none)
noncomputable def yC:Obj:=na "_law_stay" "_law_stay" 2340 142 1 0 177 178 .none (.ref 179) (.ref 180) (.ref 181) 2345 2346
noncomputable def yD:Obj:=fY (.type "function") (ah 18) "_law_stay" 3 (S "law_tc0058_02" 2330) (.ref 182)
noncomputable def Gh:Obj:={ cls:=.type "tuple",data:=.seq #[S "letter" 2351,S "form" 2352,S "great" 2353] }
noncomputable def Gi:Obj:=fY (.none) (ah 19) "_law_letter" 0 (.none) (.none)
noncomputable def yE:Obj:=na "_law_letter" "_law_letter" 2348 145 2 0 184 185 .none (.ref 186) (.ref 187) (.ref 188) 2354 2355
noncomputable def yH:Obj:=fY (.type "function") (ah 19) "_law_letter" 3 (S "law_tc0058_02" 2330) (.ref 189)
noncomputable def Gj:Obj:=fY (.none) (ah 20) "_law_typed" 0 (.none) (.none)
noncomputable def yI:Obj:=na "_law_typed" "_law_typed" 2357 150 3 0 191 192 .none .none .none (.ref 193) 2360 2361
noncomputable def yJ:Obj:=fY (.type "function") (ah 20) "_law_typed" 3 (S "law_tc0058_02" 2330) (.ref 194)
noncomputable def Gk:Obj:=fY (.none) (ah 21) "_law_raw" 0 (.none) (.none)
noncomputable def yK:Obj:=na "_law_raw" "_law_raw" 2363 158 3 0 196 197 .none .none .none (.ref 198) 2366 2367
noncomputable def yL:Obj:=fY (.type "function") (ah 21) "_law_raw" 3 (S "law_tc0058_02" 2330) (.ref 199)
noncomputable def Gl:Obj:={ cls:=.type "tuple",data:=.seq #[S "row" 2372,S "stay" 2373,S "seed" 2374,S "pieces" 2375,S "j" 2376,S "x" 2377] }
noncomputable def Gm:Obj:=fY (.none) (ah 22) "_law_list" 0 (.none) (.none)
noncomputable def yM:Obj:=na "_law_list" "_law_list" 2369 164 3 0 201 202 .none (.ref 203) (.ref 204) (.ref 205) 2378 2379
noncomputable def yN:Obj:=fY (.type "function") (ah 22) "_law_list" 3 (S "law_tc0058_02" 2330) (.ref 206)
noncomputable def Gn:Obj:={ cls:=.type "tuple",data:=.seq #[S "signs" 2384,S "stream" 2385,S "give" 2386] }
noncomputable def Go:Obj:={ cls:=.type "tuple",data:=.seq #[S "signs" 2387] }
noncomputable def Gp:Obj:=fY (.none) (ah 23) "_law_lexer" 0 (.none) (.none)
noncomputable def kG:Obj:=na "_law_lexer" "_law_lexer" 2381 170 1 0 208 209 .none (.ref 210) (.ref 211) (.ref 212) 2388 2389
noncomputable def yP:Obj:=fY (.type "function") (ah 23) "_law_lexer" 3 (S "law_tc0058_02" 2330) (.ref 213)
noncomputable def Gq:Obj:=fY (.none) (ah 24) "_law_numbers" 0 (.none) (.none)
noncomputable def yQ:Obj:=na "_law_numbers" "_law_numbers" 2391 180 1 0 215 216 .none .none .none (.ref 217) 2394 2395
noncomputable def yR:Obj:=fY (.type "function") (ah 24) "_law_numbers" 3 (S "law_tc0058_02" 2330) (.ref 218)
noncomputable def Gr:Obj:=fY (.none) (ah 25) "_law_row" 0 (.none) (.none)
noncomputable def kI:Obj:=na "_law_row" "_law_row" 2397 188 2 0 220 221 .none .none .none (.ref 222) 2400 2401
noncomputable def yT:Obj:=fY (.type "function") (ah 25) "_law_row" 3 (S "law_tc0058_02" 2330) (.ref 223)
noncomputable def Gu:Obj:=fY (.none) (ah 26) "_law_spelled" 0 (.none) (.none)
noncomputable def yU:Obj:=na "_law_spelled" "_law_spelled" 2403 196 2 0 225 226 .none .none .none (.ref 227) 2406 2407
noncomputable def yV:Obj:=fY (.type "function") (ah 26) "_law_spelled" 3 (S "law_tc0058_02" 2330) (.ref 228)
noncomputable def Gv:Obj:=fY (.none) (ah 27) "_law_order" 0 (.none) (.none)
noncomputable def yW:Obj:=na "_law_order" "_law_order" 2409 199 2 0 230 231 .none .none .none (.ref 232) 2412 2413
noncomputable def yX:Obj:=fY (.type "function") (ah 27) "_law_order" 3 (S "law_tc0058_02" 2330) (.ref 233)
noncomputable def Gw:Obj:=fY (.none) (ah 28) "_law_run" 0 (.none) (.none)
noncomputable def yY:Obj:=na "_law_run" "_law_run" 2415 215 4 0 235 236 .none .none .none (.ref 237) 2418 2419
noncomputable def yZ:Obj:=fY (.type "function") (ah 28) "_law_run" 3 (S "law_tc0058_02" 2330) (.ref 238)
noncomputable def Gx:Obj:=fY (.none) (ah 29) "_law_rest" 0 (.none) (.none)
noncomputable def y3:Obj:=na "_law_rest" "_law_rest" 2421 246 2 0 240 241 .none .none .none (.ref 242) 2424 2425
noncomputable def y4:Obj:=fY (.type "function") (ah 29) "_law_rest" 3 (S "law_tc0058_02" 2330) (.ref 243)
noncomputable def Gy:Obj:=fY (.none) (ah 30) "law" 0 (.none) (.none)
noncomputable def y5:Obj:=na "law" "law" 2427 249 1 0 245 246 .none .none .none (.ref 247) 2430 2431
noncomputable def y6:Obj:=fY (.type "function") (ah 30) "law" 3 (S "law_tc0058_02" 2330) (.ref 248)
noncomputable def Ii(P:Params):BT:=(.node (boot_o_0 P) (.node (boot_o_1 P) (.node (uv P) (.node (boot_o_7 P) (.node yr (.node y8 (.node (az 30) (.node FY .nil .nil) (.node tE .nil .nil)) (.node JP (.node tE .nil .nil) (.node kI .nil .nil))) (.node (az 14) (.node tE (.node fE .nil .nil) (.node yN .nil .nil)) (.node FQ (.node yz .nil .nil) (.node yZ .nil .nil)))) (.node y0 (.node (az 6) (.node (az 38) (.node tE .nil .nil) (.node yK .nil .nil)) (.node tE (.node Gc .nil .nil) (.node fE .nil .nil))) (.node (az 22) (.node JK (.node F7 .nil .nil) (.node tE .nil .nil)) (.node yi (.node yD .nil .nil) (.node Gy .nil .nil))))) (.node tE (.node tE (.node (az 2) (.node (az 34) (.node tE .nil .nil) (.node yJ .nil .nil)) (.node wf (.node tE .nil .nil) (.node Gu .nil .nil))) (.node (az 18) (.node JJ (.node yn .nil .nil) (.node Go .nil .nil)) (.node fE (.node Gf .nil .nil) (.node y3 .nil .nil)))) (.node fE (.node (az 10) (.node tE (.node F4 .nil .nil) (.node Gl .nil .nil)) (.node tE (.node fE .nil .nil) (.node tE .nil .nil))) (.node (az 26) (.node JN (.node yq .nil .nil) (.node yR .nil .nil)) (.node yk (.node tE .nil .nil) .nil))))) (.node (boot_o_5 P) (.node (boot_o_9 P) (.node yB (.node H6 (.node (az 32) (.node fE .nil .nil) (.node Gj .nil .nil)) (.node JQ (.node yt .nil .nil) (.node tE .nil .nil))) (.node (az 16) (.node JI (.node tE .nil .nil) (.node fE .nil .nil)) (.node sO (.node tE .nil .nil) (.node fE .nil .nil)))) (.node y7 (.node (az 8) (.node fE (.node F3 .nil .nil) (.node tE .nil .nil)) (.node yg (.node yx .nil .nil) (.node yW .nil .nil))) (.node (az 24) (.node tE (.node F8 .nil .nil) (.node Gq .nil .nil)) (.node FU (.node fE .nil .nil) (.node y6 .nil .nil))))) (.node rK (.node yS (.node (az 4) (.node (az 36) (.node F1 .nil .nil) (.node fE .nil .nil)) (.node fE (.node Gb .nil .nil) (.node yV .nil .nil))) (.node (az 20) (.node C6 (.node tE .nil .nil) (.node kG .nil .nil)) (.node tE (.node Gg .nil .nil) (.node tE .nil .nil)))) (.node tE (.node (az 12) (.node C3 (.node ym .nil .nil) (.node Gm .nil .nil)) (.node FP (.node tE .nil .nil) (.node Gw .nil .nil))) (.node (az 28) (.node tE (.node fE .nil .nil) (.node fE .nil .nil)) (.node FW (.node yE .nil .nil) .nil)))))) (.node (boot_o_2 P) (.node (boot_o_4 P) (.node (boot_o_8 P) (.node yy (.node y9 (.node (az 31) (.node tE .nil .nil) (.node fE .nil .nil)) (.node tE (.node Ga .nil .nil) (.node yT .nil .nil))) (.node (az 15) (.node fE (.node F5 .nil .nil) (.node tE .nil .nil)) (.node yh (.node yA .nil .nil) (.node tE .nil .nil)))) (.node tE (.node (az 7) (.node tE (.node fE .nil .nil) (.node yL .nil .nil)) (.node FO (.node yw .nil .nil) (.node Gv .nil .nil))) (.node (az 23) (.node (JL P) (.node tE .nil .nil) (.node fE .nil .nil)) (.node sP (.node tE .nil .nil) (.node y5 .nil .nil))))) (.node JF (.node yO (.node (az 3) (.node (az 35) (.node F0 .nil .nil) (.node tE .nil .nil)) (.node tE (.node fE .nil .nil) (.node yU .nil .nil))) (.node (az 19) (.node C5 (.node yo .nil .nil) (.node Gp .nil .nil)) (.node FS (.node tE .nil .nil) (.node y4 .nil .nil)))) (.node C1 (.node (az 11) (.node JH (.node yl .nil .nil) (.node tE .nil .nil)) (.node fE (.node Gd .nil .nil) (.node fE .nil .nil))) (.node (az 27) (.node JO (.node tE .nil .nil) (.node tE .nil .nil)) (.node FV (.node Gi .nil .nil) .nil))))) (.node (boot_o_6 P) (.node (boot_o_10 P) (.node yG (.node (az 1) (.node (az 33) (.node FZ .nil .nil) (.node yI .nil .nil)) (.node C7 (.node yu .nil .nil) (.node fE .nil .nil))) (.node (az 17) (.node tE (.node F6 .nil .nil) (.node Gn .nil .nil)) (.node tE (.node fE .nil .nil) (.node Gx .nil .nil)))) (.node tE (.node (az 9) (.node JG (.node tE .nil .nil) (.node fE .nil .nil)) (.node sN (.node tE .nil .nil) (.node yX .nil .nil))) (.node (az 25) (.node JM (.node yp .nil .nil) (.node yQ .nil .nil)) (.node (yj P) (.node Gh .nil .nil) .nil)))) (.node rL (.node (n5 P) (.node (az 5) (.node (az 37) (.node F2 .nil .nil) (.node Gk .nil .nil)) (.node FN (.node tE .nil .nil) (.node tE .nil .nil))) (.node (az 21) (.node tE (.node fE .nil .nil) (.node yP .nil .nil)) (.node FT (.node yC .nil .nil) (.node fE .nil .nil)))) (.node C2 (.node (az 13) (.node C4 (.node tE .nil .nil) (.node yM .nil .nil)) (.node tE (.node Ge .nil .nil) (.node yY .nil .nil))) (.node (az 29) (.node fE (.node F9 .nil .nil) (.node Gr .nil .nil)) (.node FX (.node yH .nil .nil) .nil)))))))
noncomputable def Mk:List Stmt := [ah 4,ah 5,ah 6,ah 7,ah 8,ah 9,ah 10,ah 11,ah 12,ah 13,ah 14,ah 15,ah 16,ah 17,ah 18,ah 19,ah 20,ah 21,ah 22,ah 23,ah 24,ah 25,ah 26,ah 27,ah 28,ah 29,ah 30]
noncomputable def G4(w:Pt):Prop:=(λos=>segRunT treeTable pr w 11 (some (.ref 6)) 1 986 ⟨t5 w.params,72,({}:Life),#[],{},2207,os⟩ (piecesOf Mk env cd ⟨5,0,5,13⟩ [topFrame ⟨0,0,0,0⟩]))=λos=>some (.next,⟨Ii w.params,250,({}:Life),#[],{},2433,os⟩,cd,⟨249,0,274,100⟩)
theorem g4(w:Pt):G4 w:=(λw=>by unfold G4;rw[Mine.q1,Mine.q4];kernel_rfl) w
end
end Mine.H1
end
section
open PySem PySem.Calls PySem.SeqAt PySem.W PyProof.Rows
set_option maxRecDepth 100000
namespace Mine.H1
noncomputable abbrev BB:List Frame := [topFrame ⟨0,0,0,0⟩]
theorem lU{tb:String->Option Builtin}{p:Program}{w:Pt}{n₀:Nat}{ann:Option OT}{b:Nat}:∀{n m:Nat}{s s' s'':SharedT}{t t' t'':Thread},
  segGoT tb p w n₀ ann b n s t=some (s',t')->segGoT tb p w n₀ ann b m s' t'=some (s'',t'')->segGoT tb p w n₀ ann b (n+m) s t=some (s'',t'')
 | 0,m,_,_,_,_,_,_,h,h'=>by
  obtain⟨rfl,rfl⟩:=by simpa[segGoT]using h
  rw[Rw];exact h'
 | n+1,m,s,s',s'',t,t',t'',h,h'=>by
  rw[Nat.add_right_comm]
  unfold segGoT at h ⊢
  cases he:endAt b t with
  | some x=>rw[he]at h;exact nO h
  | none =>
   rw[he]at h
   cases hk:stepOk n₀ ann t with
   | false=>rw[hk]at h;exact nO h
   | true =>
    rw[hk]at h
    cases hs:stepT (denote tb) p w s t with
    | none=>rw[hs]at h;exact nO h
    | some x =>
     obtain⟨s₁,t₁⟩:=x
     rw[hs]at h
     exact lU (n:=n) h h'
theorem nD{f:Obj->Obj}:∀{T:BT}{a:Nat}{o:Obj},T.get a=some o->∀g:Obj->Obj,g o=f o->T.set a g=T.set a f
 | .nil,_,_,h,_,_=>by simp[BT.get]at h
 | .node v l r,a,o,h,g,e=>by
  rw[BT.get_node]at h
  rw[Rq,Rq]
  by_cases h0:a=0
  ·rw[if_pos h0]at h ⊢
   rw[if_pos h0]
   obtain rfl:=sj h;rw[e]
  ·rw[if_neg h0]at h ⊢
   rw[if_neg h0]
   by_cases h1:a%2=1
   ·rw[if_pos h1]at h ⊢
    rw[if_pos h1,nD h g e]
   ·rw[if_neg h1]at h ⊢
    rw[if_neg h1,nD h g e]
theorem set_set{f g:Obj->Obj}:∀{T:BT}{a:Nat},(T.set a f).set a g=T.set a λo=>g (f o)
 | .nil,_=>rfl
 | .node v l r,a=>by
  rw[Rq,Rq]
  by_cases h0:a=0
  ·rw[if_pos h0,if_pos h0,Rq,if_pos h0]
  ·rw[if_neg h0,if_neg h0]
   by_cases h1:a%2=1
   ·rw[if_pos h1,if_pos h1,Rq,if_neg h0,if_pos h1,set_set]
   ·rw[if_neg h1,if_neg h1,Rq,if_neg h0,if_neg h1,set_set]
noncomputable abbrev vq(N:Nat)(life:Life)(gens:Array GenState)(drawn:Drawn)(toks:Nat)(os:OsState)(T:BT):SharedT:=⟨T,N,life,gens,drawn,toks,os⟩
noncomputable def jH(pr:Program)(cd:Code)(pos:Q6)(w:Pt){α:Type}(n:Nat)(S:SharedT)(m:Sem α)(x:α)(S':SharedT):Prop :=
 ∀(k:α->Sem Fin)(H:OT->Sem Fin)(g:Bool->Bool)(lv:List OT->List OT),
  segGoT treeTable pr w 11 (some (.ref 6)) 1 n S ⟨m.wrap k H g lv,cd,pos,BB⟩=some (S',⟨k x,cd,pos,BB⟩)
section
variable {pr:Program}{pos:Q6}{bd:List Stmt}{env:Env}{w:Pt}{α β:Type}{n n':Nat}{S S' S'':SharedT}
theorem c0(x:α):jH pr (.body bd env) pos w 0 S (pure x) x S:=λu u u u=>rfl
theorem a7{m:Sem α}{f:α->Sem β}{a:α}{b:β}(h:jH pr (.body bd env) pos w n S m a S')(h':jH pr (.body bd env) pos w n' S' (f a) b S''):jH pr (.body bd env) pos w (n+n') S (m>>=f) b S'':=λk H g lv=>by
 rw[Sem.bind_eq_wrap',S0]
 exact lU (h _ _ _ _) (h' _ _ _ _)
theorem Ck{vs:List OT}{m:Sem α}{a:α}(h:jH pr (.body bd env) pos w n S m a S'):jH pr (.body bd env) pos w n S (m.keep vs) a S':=λk H g lv=>by
 rw[Sem.keep_eq_wrap,S0]
 exact h _ _ _ _
theorem hY{vs:List OT}{m:Sem α}{a:α}(h:jH pr (.body bd env) pos w n S m a S'):jH pr (.body bd env) pos w n S (holding vs m) a S':=by
 unfold holding
 split
 ·exact h
 ·exact Ck h
theorem tU{m:Sem α}{f:OT->Sem Unit}{a:α}(h:jH pr (.body bd env) pos w n S m a S'):jH pr (.body bd env) pos w n S (m.onRaise f) a S':=λk H g lv=>by
 rw[Sem.onRaise_eq_wrap,S0]
 exact h _ _ _ _
theorem iP{T:BT}{N:Nat}{life:Life}{gens:Array GenState}{drawn:Drawn}{toks:Nat}{os:OsState}{a:Addr}{q:Option OT}{o:Obj}
  (hn:S9 a N=true) (h:T.get a=some o) (ho:alive o=some o):jH pr (.body bd env) pos w 1 ⟨T,N,life,gens,drawn,toks,os⟩ (loadPart a q) o ⟨T,N,life,gens,drawn,toks,os⟩:=λk H g lv=>by
 show(match stepT (denote treeTable) pr w _ ⟨.load a q λx=>k x,.body bd env,pos,BB⟩with | some (s',t')=>segGoT treeTable pr w 11 (some (.ref 6)) 1 0 s' t' | none=>none)=_
 simp only[stepT,hn,h,ho]
 rfl
theorem vX{T:BT}{N:Nat}{life:Life}{gens:Array GenState}{drawn:Drawn}{toks:Nat}{os:OsState}{a:Addr}{q:Option OT}{o:Obj}{f:Obj->Obj}
  (hl:Nat.ble 11 a=true) (hn:S9 a N=true) (h:T.get a=some o) (ho:alive o=some o):jH pr (.body bd env) pos w 1 ⟨T,N,life,gens,drawn,toks,os⟩ (updatePart a q f) () ⟨T.set a f,N,life,gens,drawn,toks,os⟩:=λk H g lv=>by
 have e:stepOk 11 (some (.ref 6)) ⟨.update a q f λx=>k x,.body bd env,pos,BB⟩=true:=by
  unfold stepOk
  have hc:Thread.calm ⟨.update a q f λx=>k x,.body bd env,pos,BB⟩=true:=rfl
  rw[hc]
  simp only[hl,Bool.true_or,Bool.and_self]
 show(match stepOk 11 (some (.ref 6)) ⟨.update a q f λx=>k x,.body bd env,pos,BB⟩with | false=>none | true=>match stepT (denote treeTable) pr w _ ⟨.update a q f λx=>k x,.body bd env,pos,BB⟩with | some (s',t')=>segGoT treeTable pr w 11 (some (.ref 6)) 1 0 s' t' | none=>none)=_
 rw[e]
 simp only[stepT,hn,h,ho]
 rfl
noncomputable abbrev dO(es:Array Qj)(ep:Nat):Obj:={ cls:=.type "dict",data:=.dict es ep }
theorem gI(es:Array Qj)(ep:Nat):alive (dO es ep)=some (dO es ep):=rfl
section
variable {T:BT}{N:Nat}{life:Life}{gens:Array GenState}{drawn:Drawn}{toks:Nat}{os:OsState}{d:Addr}{es:Array Qj}{ep:Nat}
theorem hV{q:Option OT}(hn:S9 d N=true)(hg:T.get d=some (dO es ep)):jH pr (.body bd env) pos w 1 (vq N life gens drawn toks os T) (dictEntries d q) es (vq N life gens drawn toks os T) :=
 a7 (n:=1) (n':=0) (iP hn hg (gI es ep)) (c0 es)
theorem rt{q:Option OT}(hn:S9 d N=true)(hg:T.get d=some (dO es ep)):jH pr (.body bd env) pos w 1 (vq N life gens drawn toks os T) (dictEpoch d q) ep (vq N life gens drawn toks os T) :=
 a7 (n:=1) (n':=0) (iP hn hg (gI es ep)) (c0 ep)
theorem uE(h:Int)(hno:∀e∈es,e.hash≠h):placesWithHash es.size (λi=>es[i]?.map (·.hash)) h=[]:=by
 unfold placesWithHash
 rw[List.filter_eq_nil_iff]
 intro i hi
 cases he:es[i]? with
 | none=>simp[he]
 | some e=>simpa[he]using hno e (Array.mem_of_getElem? he)
theorem Cj{k:Int}{t:Tok}{h:Int}(hn:S9 d N=true)(hg:T.get d=some (dO es ep))(hno:∀e∈es,e.hash≠h) :
  jH pr (.body bd env) pos w 1 (vq N life gens drawn toks os T) (dictFind d (.int k t) h) none (vq N life gens drawn toks os T):=by
 unfold dictFind
 refine hY (a7 (n:=1) (n':=0) (hV hn hg) ?_)
 dsimp only
 rw[uE h hno]
 exact c0 none
theorem Fk{k:Int}{t:Tok}{h:Int}{v:OT}(hl:Nat.ble 11 d=true)(hn:S9 d N=true)(hg:T.get d=some (dO es ep))(hno:∀e∈es,e.hash≠h)(hs:es.size<10000) :
  jH pr (.body bd env) pos w 4 (vq N life gens drawn toks os T) (dictPut d h (.int k t) v) () (vq N life gens drawn toks os (T.set d λu=>dO (es.push ⟨h,.int k t,v⟩) (ep+1))):=by
 unfold dictPut
 refine a7 (n:=1) (n':=3) (Cj hn hg hno) ?_
 dsimp only
 unfold updateDictKeys
 refine a7 (n:=1) (n':=2) (iP hn hg (gI es ep)) ?_
 dsimp only
 have hset:(T.set d (Obj.mapDictKeys (·.push ⟨h,.int k t,v⟩)))=T.set d λu=>dO (es.push ⟨h,.int k t,v⟩) (ep+1):=nD hg _ rfl
 refine a7 (n:=1) (n':=1) (vX hl hn hg (gI es ep)) ?_
 rw[hset]
 unfold lookBehind
 refine a7 (n:=1) (n':=0) (iP hn (by rw[BT.get_set,if_pos rfl,hg];rfl) (gI _ _)) ?_
 dsimp only
 have:(dO (es.push ⟨h,.int k t,v⟩) (ep+1)).data.pastItsLine=none:=by
  show(if (es.push _).size>sizeLine+1 then some "dict:memory" else none)=none
  rw[if_neg]
  rw[Array.size_push]
  show ¬_>2^24+1
  lia
 rw[this]
 exact c0 ()
theorem qm{o:Obj}:∀{T:BT}{a:Nat},T.get a=some o->(T.set a λu=>o)=T
 | .nil,_,h=>by simp[BT.get]at h
 | .node v l r,a,h=>by
  rw[BT.get_node]at h
  rw[Rq]
  by_cases h0:a=0
  ·rw[if_pos h0]at h ⊢
   obtain rfl:=(sj h).symm;rfl
  ·rw[if_neg h0]at h ⊢
   by_cases h1:a%2=1
   ·rw[if_pos h1]at h ⊢
    rw[qm h]
   ·rw[if_neg h1]at h ⊢
    rw[qm h]
theorem ry{ι:Type}{f:ι->PUnit->Sem (ForInStep PUnit)}{n:Nat}:∀{l:List ι}{St:Nat->SharedT},(∀i (hi:i<l.length),jH pr (.body bd env) pos w n (St i) (f l[i] ⟨⟩) (.yield ⟨⟩) (St (i+1))) ->
  jH pr (.body bd env) pos w (n*l.length) (St 0) (forIn l SM f) SM (St l.length)
 | [],St,_=>c0 _
 | x::l,St,h=>by
  rw[Rf,Py,Nat.mul_succ,Nat.add_comm]
  refine a7 (n:=n) (h 0 (Nat.zero_lt_succ _)) ?_
  exact ry (St:=λi=>St (i+1)) λi hi=>h (i+1) (Nat.succ_lt_succ hi)
theorem vW{ι:Type}{f:ι->PUnit->Sem (ForInStep PUnit)}{n:Nat}{l:List ι}{S S':SharedT}{St:Nat->SharedT}(e:St 0=S)(e':St l.length=S')(h:∀i (hi:i<l.length),jH pr (.body bd env) pos w n (St i) (f l[i] ⟨⟩) (.yield ⟨⟩) (St (i+1))) :
  jH pr (.body bd env) pos w (n*l.length) S (forIn l SM f) SM S':=e▸e'▸ry h
theorem dD{m:Sem α}{x:α}{k:Nat}(e:k=n)(h:jH pr (.body bd env) pos w k S m x S'):jH pr (.body bd env) pos w n S m x S':=e▸h
theorem z3{a:Addr}{L M:List Qj}{ep':Nat}(hl:Nat.ble 11 d=true)(hn:S9 d N=true)(hna:S9 a N=true)(hda:a≠d)(hsys:(a==sysModules)=false)
  (hg:T.get d=some (dO L.toArray ep)) (ha:T.get a=some (dO M.toArray ep')) (hL:L≠[]) (hint:∀e∈M,∃k t,e.key=.int k t) (hno:(L++M).Pairwise λx y=>x.hash≠y.hash) (hs:(L++M).length<10000) :
  jH pr (.body bd env) pos w (5+6*M.length) (vq N life gens drawn toks os T) (mergeMapping d (.ref a) false) () (vq N life gens drawn toks os (T.set d λu=>dO (L++M).toArray (ep+M.length))):=by
 unfold mergeMapping
 have hI:jH pr (.body bd env) pos w 1 (vq N life gens drawn toks os T) (isInstance (.ref a) (.type "dict")) true (vq N life gens drawn toks os T) :=
  a7 (n:=1) (n':=0) (a:=.type "dict") (a7 (n:=1) (n':=0) (iP hna ha (gI _ _)) (c0 _)) (λk H g lv=>by kernel_rfl)
 have hS:jH pr (.body bd env) pos w 1 (vq N life gens drawn toks os T) (specialOf (.ref a) "__iter__") (some (.builtin "dict.__iter__")) (vq N life gens drawn toks os T) :=
  a7 (n:=1) (n':=0) (a:=.type "dict") (a7 (n:=1) (n':=0) (iP hna ha (gI _ _)) (c0 _)) (λk H g lv=>by kernel_rfl)
 refine dD (k:=1+(4+6*M.length)) (by lia) (a7 hI ?_)
 dsimp only
 rw[if_pos rfl]
 refine dD (k:=1+(3+6*M.length)) (by lia) (a7 hS ?_)
 refine dD (k:=0+(3+6*M.length)) (by lia) (a7 (n:=0) (c0 _) ?_)
 have e1:(some (Qi "dict.__iter__")==some (Qi "dict.__iter__"))=true:=by decide
 rw[e1]
 dsimp only
 rw[hsys,if_neg PA]
 refine dD (k:=1+(2+6*M.length)) (by lia) (a7 (hV hn hg) ?_)
 have e2:L.toArray.isEmpty=false:=by
  cases L with
  | nil=>exact absurd rfl hL
  | cons x l=>rfl
 rw[e2,if_neg PA]
 refine dD (k:=1+(1+6*M.length)) (by lia) (a7 (hV hna ha) ?_)
 refine a7 (rt hna ha) ?_
 refine dD (k:=6*M.length+0) (by lia) (a7 (n:=6*M.length) (a:=SM) ?_ (c0 _))
 have size:M.toArray.size=(OP M.length).length:=by simp
 have hlen:M.toArray.size=M.length:=by simp
 rw[hlen]
 refine dD (k:=6*(OP M.length).length) (by rw[Qg]) ?_
 refine vW (St:=λi=>vq N life gens drawn toks os (T.set d λu=>dO (L++M.take i).toArray (ep+i))) ?_ ?_ ?_
 ·simp only[List.take_zero,O4,SD]
  rw[qm hg]
 ·simp only[Qg,S6]
 ·intro i hi
  rw[Qg]at hi
  rw[List.getElem_range]
  have gd:(T.set d λu=>dO (L++M.take i).toArray (ep+i)).get d=some (dO (L++M.take i).toArray (ep+i)):=by rw[BT.get_set,if_pos rfl,hg];rfl
  have ga:∀x:Obj,(T.set d λu=>x).get a=some (dO M.toArray ep'):=λx=>by rw[BT.get_set,if_neg hda,ha]
  refine a7 (n:=1) (n':=5) (hV hna (ga _)) ?_
  have e3:M.toArray[i]?=some M[i]:=by simp[hi]
  rw[e3]
  dsimp only
  obtain⟨k,t,hk⟩:=hint M[i] (Rv hi)
  rw[if_neg PA,hk]
  have hpw:∀e∈(L++M.take i).toArray,e.hash≠M[i].hash:=by
   intro e he
   rw[List.mem_toArray]at he
   have:M=M.take i++M[i]::M.drop (i+1):=by rw[<- RA hi,Qm]
   have h2:=hno
   rw[this,<- OY,List.pairwise_append]at h2
   exact h2.2.2 e he _ (Pe ..)
  refine a7 (n:=4) (n':=1) (hY (Fk hl hn gd hpw ?_)) ?_
  ·simp only[P1,O2,Rx]at hs ⊢
   lia
  rw[set_set]
  have e4:(L++M.take i).toArray.push ⟨M[i].hash,.int k t,M[i].val⟩=(L++M.take (i+1)).toArray:=by
   rw[<- hk,List.push_toArray,OY,QZ hi]
  rw[e4]
  refine a7 (n:=1) (n':=0) (rt hna (ga _)) ?_
  rw[show(ep' != ep')=false by simp,if_neg PA]
  exact c0 _
end
noncomputable def Cg(pr:Program)(cd:Code)(p p':Q6)(w:Pt){α:Type}(n:Nat)(S:SharedT)(m:Sem α)(x:α)(S':SharedT):Prop :=
 ∀(k:α->Sem Fin)(H:OT->Sem Fin)(g:Bool->Bool)(lv:List OT->List OT),
  segGoT treeTable pr w 11 (some (.ref 6)) 1 n S ⟨m.wrap k H g lv,cd,p,BB⟩=some (S',⟨k x,cd,p',BB⟩)
theorem Ci{m:Sem α}{x:α}(h:jH pr (.body bd env) pos w n S m x S'):Cg pr (.body bd env) pos pos w n S m x S':=h
theorem ke{p p' p'':Q6}{m:Sem α}{f:α->Sem β}{a:α}{b:β}(h:Cg pr (.body bd env) p p' w n S m a S')(h':Cg pr (.body bd env) p' p'' w n' S' (f a) b S''):Cg pr (.body bd env) p p'' w (n+n') S (m>>=f) b S'':=λk H g lv=>by
 rw[Sem.bind_eq_wrap',S0]
 exact lU (h _ _ _ _) (h' _ _ _ _)
theorem Ch{p p':Q6}:Cg pr (.body bd env) p p' w 1 S (standAt p') () S:=λu u u u=>rfl
theorem rn{p p':Q6}{m:Sem α}{x:α}{k:Nat}(e:k=n)(h:Cg pr (.body bd env) p p' w k S m x S'):Cg pr (.body bd env) p p' w n S m x S':=e▸h
theorem lA{tb:String->Option Builtin}{ann:Option OT}{b n₀:Nat}:∀{n:Nat}{s s':SharedT}{t t':Thread}{f:Flow},segGoT tb pr w n₀ ann b n s t=some (s',t')->endAt b t'=some f ->
  segRunT tb pr w n₀ ann b (n+1) s t=some (f,s',t'.code,t'.pos)
 | 0,s,s',t,t',f,h,e=>by
  obtain⟨rfl,rfl⟩:=by simpa[segGoT]using h
  unfold segRunT
  rw[e]
 | n+1,s,s',t,t',f,h,e=>by
  unfold segGoT at h
  unfold segRunT
  cases he:endAt b t with
  | some x=>rw[he]at h;exact nO h
  | none =>
   rw[he]at h
   cases hk:stepOk n₀ ann t with
   | false=>rw[hk]at h;exact nO h
   | true =>
    rw[hk]at h
    cases hs:stepT (denote tb) pr w s t with
    | none=>rw[hs]at h;exact nO h
    | some x =>
     obtain⟨s₁,t₁⟩:=x
     rw[hs]at h
     exact lA (n:=n) h e
noncomputable def gl(run:List (Sem OT×Sem OT))(main:Option Addr):Sem (Option Addr):=do
 if run.isEmpty=true then return main
 match main with
 | none=>return some (<- subDict run)
 | some d =>
  let sub <- holding [.ref d] (subDict run)
  (holding [.ref d,.ref sub] (mergeMapping d (.ref sub) false)).onRaise λx=>do let _ <- holding [.ref d,x] (runValue (.builtin "proto.let_go" {}))
  return some d
theorem vV{run:List (Sem OT×Sem OT)}{d:Addr}(hr:run.isEmpty=false)(h:jH pr (.body bd env) pos w n S (subDict run) d S'):jH pr (.body bd env) pos w n S (gl run none) (some d) S':=by
 unfold gl
 rw[hr,if_neg PA]
 exact a7 (n':=0) h (c0 _)
theorem z2{run:List (Sem OT×Sem OT)}{d a:Addr}(hr:run.isEmpty=false)(h:jH pr (.body bd env) pos w n S (subDict run) a S')(h':jH pr (.body bd env) pos w n' S' (mergeMapping d (.ref a) false) () S'') :
  jH pr (.body bd env) pos w (n+n') S (gl run (some d)) (some d) S'':=by
 unfold gl
 rw[hr,if_neg PA]
 exact a7 (hY h) (a7 (n':=0) (tU (hY h')) (c0 _))
noncomputable def iK:List (Sem OT×Sem OT)->Option Addr->List (Sem OT×Sem OT)->Sem OT
 | [],main,run=>do match <- gl run main with | some d=>pure (.ref d) | none=>newDict
 | kv::r,main,run=>if (run++[kv]).length=17 then do let m <- gl (run++[kv]) main;iK r m []else iK r main (run++[kv])
theorem pA{F:Option (Sem OT)×Sem OT->Option Addr×List (Sem OT×Sem OT)->Sem (ForInStep (Option Addr×List (Sem OT×Sem OT)))}{G:Option Addr×List (Sem OT×Sem OT)->Sem OT}
  (hF:∀k v m r,F (some k,v) (m,r)=if ((r++[(k,v)]).length==17)=true then(do let m' <- gl (r++[(k,v)]) m;pure (.yield (m',[])))else pure (.yield (m,r++[(k,v)])))
  (hG:∀m r,G (m,r)=do match <- gl r m with | some d=>pure (.ref d) | none=>newDict) :
  ∀(items:List (Sem OT×Sem OT)) main run,forIn (items.map λkv=>(some kv.1,kv.2)) (main,run) F>>=G=iK items main run
 | [],main,run=>by rw[List.map_nil,Q4];exact hG main run
 | kv::r,main,run=>by
  rw[Ps,Rf,hF]
  unfold iK
  by_cases h:(run++[(kv.1,kv.2)]).length=17
  ·rw[if_pos (by simpa using h),if_pos h]
   rw[Ta,Ta]
   congr 1
   funext m
   exact pA hF hG r m []
  ·rw[if_neg (by simpa using h),if_neg h]
   exact pA hF hG r main _
theorem Fd(items:List (Sem OT×Sem OT)):dictDisplay (items.map λkv=>(some kv.1,kv.2))=iK items none []:=by
 unfold dictDisplay
 exact pA (λu u u u=>rfl) (λu u=>rfl) items none []
theorem nj:∀(l rest:List (Sem OT×Sem OT))(main:Option Addr)(run:List (Sem OT×Sem OT)),run.length+l.length<17->iK (l++rest) main run=iK rest main (run++l)
 | [],rest,main,run,_=>by simp
 | kv::l,rest,main,run,h=>by
  rw[Py]at h
  show(if (run++[kv]).length=17 then _ else iK (l++rest) main (run++[kv]))=_
  rw[if_neg (by simp;lia),nj l rest main _ (by simp;lia),OY];rfl
theorem nT{c:List (Sem OT×Sem OT)}(h:c.length=17)(rest:List (Sem OT×Sem OT))(main:Option Addr):iK (c++rest) main []=gl c main>>=λm=>iK rest m []:=by
 have e:c=c.take 16++[c[16]]:=by
  conv=>lhs;rw[<- Qm 16 c]
  congr 1
  rw[RA (by omega),List.drop_of_length_le (by omega)]
 rw[e,OY,nj _ _ _ _ (by simp[h])]
 show(if ([]++c.take 16++[c[16]]).length=17 then _ else _)=_
 rw[if_pos (by simp[h]),Te]
 rfl
theorem vN{c:List (Sem OT×Sem OT)}(h:c.length<17)(main:Option Addr):iK c main []=(do match <- gl c main with | some d=>pure (.ref d) | none=>newDict):=by
 have:=nj c [] main [] (by simpa using h)
 rw[O4]at this
 rw[this];rfl
end
end Mine.H1
namespace Mine.H1
noncomputable section
noncomputable abbrev dp:Q6:=⟨5,16,5,8704⟩
noncomputable def n4(st:Stmt):List (Sem OT×Sem OT):=match st with
 | .Assign _ (.Dict ks vs pos) _=>((evalEachOpt ks env).zip ((evalEach vs env).map λv=>do let x <- v;standAt pos;pure x)).filterMap λ(k,v)=>k.map λk=>(k,v)
 | _=>[]
noncomputable def lk(c:Nat):List (Sem OT×Sem OT):=((n4 (ah 3)).drop (17*c)).take 17
noncomputable def ft(c:Nat):List Qj:=(OP c).flatMap fg
noncomputable def yb(c:Nat):Obj:=dO (ft c).toArray (ft c).length
noncomputable def tc(P:Params):Nat->BT
 | 0=>t4 P
 | 1=>(t4 P).ins 33 (az 0)
 | c+1=>((tc P c).ins (33+c) (az c)).set 33 λu=>yb (c+1)
noncomputable abbrev sC(w:Pt)(os:OsState)(c n k:Nat):SharedT:=⟨tc w.params c,n,({}:Life),#[],{},k,os⟩
noncomputable def kk(c:Nat):Nat:=if c<39 then 256+51*c else 2206
noncomputable abbrev Sg(w:Pt)(os:OsState)(c:Nat):SharedT:=sC w os c (33+c) (kk c)
noncomputable def be(c:Nat)(w:Pt):Prop:=∀os,jH pr cd dp w (if c<38 then 223 else 53) (Sg w os c) (subDict (lk c)) (33+c) ⟨(tc w.params c).ins (33+c) (az c),33+c+1,({}:Life),#[],{},kk (c+1),os⟩
theorem N1(w:Pt):be 0 w:=byRow2 "special-get-raises" (P:=be 0)
 (λw os k H g lv=>by
  rw[Mine.q1,Mine.q2,Mine.q3]
  kernel_rfl)
 (λw os k H g lv=>by
  rw[Mine.q1,Mine.q2,Mine.q3]
  kernel_rfl) w
theorem N2(w:Pt):be 1 w:=byRow2 "special-get-raises" (P:=be 1)
 (λw os k H g lv=>by
  rw[Mine.q1,Mine.q2,Mine.q3]
  kernel_rfl)
 (λw os k H g lv=>by
  rw[Mine.q1,Mine.q2,Mine.q3]
  kernel_rfl) w
theorem N3(w:Pt):be 2 w:=byRow2 "special-get-raises" (P:=be 2)
 (λw os k H g lv=>by
  rw[Mine.q1,Mine.q2,Mine.q3]
  kernel_rfl)
 (λw os k H g lv=>by
  rw[Mine.q1,Mine.q2,Mine.q3]
  kernel_rfl) w
theorem N4(w:Pt):be 3 w:=byRow2 "special-get-raises" (P:=be 3)
 (λw os k H g lv=>by
  rw[Mine.q1,Mine.q2,Mine.q3]
  kernel_rfl)
 (λw os k H g lv=>by
  rw[Mine.q1,Mine.q2,Mine.q3]
  kernel_rfl) w
theorem N5(w:Pt):be 4 w:=byRow2 "special-get-raises" (P:=be 4)
 (λw os k H g lv=>by
  rw[Mine.q1,Mine.q2,Mine.q3]
  kernel_rfl)
 (λw os k H g lv=>by
  rw[Mine.q1,Mine.q2,Mine.q3]
  kernel_rfl) w
theorem N6(w:Pt):be 5 w:=byRow2 "special-get-raises" (P:=be 5)
 (λw os k H g lv=>by
  rw[Mine.q1,Mine.q2,Mine.q3]
  kernel_rfl)
 (λw os k H g lv=>by
  rw[Mine.q1,Mine.q2,Mine.q3]
  kernel_rfl) w
theorem N7(w:Pt):be 6 w:=byRow2 "special-get-raises" (P:=be 6)
 (λw os k H g lv=>by
  rw[Mine.q1,Mine.q2,Mine.q3]
  kernel_rfl)
 (λw os k H g lv=>by
  rw[Mine.q1,Mine.q2,Mine.q3]
  kernel_rfl) w
theorem N8(w:Pt):be 7 w:=byRow2 "special-get-raises" (P:=be 7)
 (λw os k H g lv=>by
  rw[Mine.q1,Mine.q2,Mine.q3]
  kernel_rfl)
 (λw os k H g lv=>by
  rw[Mine.q1,Mine.q2,Mine.q3]
  kernel_rfl) w
theorem N9(w:Pt):be 8 w:=byRow2 "special-get-raises" (P:=be 8)
 (λw os k H g lv=>by
  rw[Mine.q1,Mine.q2,Mine.q3]
  kernel_rfl)
 (λw os k H g lv=>by
  rw[Mine.q1,Mine.q2,Mine.q3]
  kernel_rfl) w
theorem Oa(w:Pt):be 9 w:=byRow2 "special-get-raises" (P:=be 9)
 (λw os k H g lv=>by
  rw[Mine.q1,Mine.q2,Mine.q3]
  kernel_rfl)
 (λw os k H g lv=>by
  rw[Mine.q1,Mine.q2,Mine.q3]
  kernel_rfl) w
theorem Ml(w:Pt):be 10 w:=byRow2 "special-get-raises" (P:=be 10)
 (λw os k H g lv=>by
  rw[Mine.q1,Mine.q2,Mine.q3]
  kernel_rfl)
 (λw os k H g lv=>by
  rw[Mine.q1,Mine.q2,Mine.q3]
  kernel_rfl) w
theorem Mm(w:Pt):be 11 w:=byRow2 "special-get-raises" (P:=be 11)
 (λw os k H g lv=>by
  rw[Mine.q1,Mine.q2,Mine.q3]
  kernel_rfl)
 (λw os k H g lv=>by
  rw[Mine.q1,Mine.q2,Mine.q3]
  kernel_rfl) w
theorem Mn(w:Pt):be 12 w:=byRow2 "special-get-raises" (P:=be 12)
 (λw os k H g lv=>by
  rw[Mine.q1,Mine.q2,Mine.q3]
  kernel_rfl)
 (λw os k H g lv=>by
  rw[Mine.q1,Mine.q2,Mine.q3]
  kernel_rfl) w
theorem Mo(w:Pt):be 13 w:=byRow2 "special-get-raises" (P:=be 13)
 (λw os k H g lv=>by
  rw[Mine.q1,Mine.q2,Mine.q3]
  kernel_rfl)
 (λw os k H g lv=>by
  rw[Mine.q1,Mine.q2,Mine.q3]
  kernel_rfl) w
theorem Mp(w:Pt):be 14 w:=byRow2 "special-get-raises" (P:=be 14)
 (λw os k H g lv=>by
  rw[Mine.q1,Mine.q2,Mine.q3]
  kernel_rfl)
 (λw os k H g lv=>by
  rw[Mine.q1,Mine.q2,Mine.q3]
  kernel_rfl) w
theorem Mq(w:Pt):be 15 w:=byRow2 "special-get-raises" (P:=be 15)
 (λw os k H g lv=>by
  rw[Mine.q1,Mine.q2,Mine.q3]
  kernel_rfl)
 (λw os k H g lv=>by
  rw[Mine.q1,Mine.q2,Mine.q3]
  kernel_rfl) w
theorem Mr(w:Pt):be 16 w:=byRow2 "special-get-raises" (P:=be 16)
 (λw os k H g lv=>by
  rw[Mine.q1,Mine.q2,Mine.q3]
  kernel_rfl)
 (λw os k H g lv=>by
  rw[Mine.q1,Mine.q2,Mine.q3]
  kernel_rfl) w
theorem Ms(w:Pt):be 17 w:=byRow2 "special-get-raises" (P:=be 17)
 (λw os k H g lv=>by
  rw[Mine.q1,Mine.q2,Mine.q3]
  kernel_rfl)
 (λw os k H g lv=>by
  rw[Mine.q1,Mine.q2,Mine.q3]
  kernel_rfl) w
theorem Mt(w:Pt):be 18 w:=byRow2 "special-get-raises" (P:=be 18)
 (λw os k H g lv=>by
  rw[Mine.q1,Mine.q2,Mine.q3]
  kernel_rfl)
 (λw os k H g lv=>by
  rw[Mine.q1,Mine.q2,Mine.q3]
  kernel_rfl) w
theorem Mu(w:Pt):be 19 w:=byRow2 "special-get-raises" (P:=be 19)
 (λw os k H g lv=>by
  rw[Mine.q1,Mine.q2,Mine.q3]
  kernel_rfl)
 (λw os k H g lv=>by
  rw[Mine.q1,Mine.q2,Mine.q3]
  kernel_rfl) w
theorem Mv(w:Pt):be 20 w:=byRow2 "special-get-raises" (P:=be 20)
 (λw os k H g lv=>by
  rw[Mine.q1,Mine.q2,Mine.q3]
  kernel_rfl)
 (λw os k H g lv=>by
  rw[Mine.q1,Mine.q2,Mine.q3]
  kernel_rfl) w
theorem Mw(w:Pt):be 21 w:=byRow2 "special-get-raises" (P:=be 21)
 (λw os k H g lv=>by
  rw[Mine.q1,Mine.q2,Mine.q3]
  kernel_rfl)
 (λw os k H g lv=>by
  rw[Mine.q1,Mine.q2,Mine.q3]
  kernel_rfl) w
theorem Mx(w:Pt):be 22 w:=byRow2 "special-get-raises" (P:=be 22)
 (λw os k H g lv=>by
  rw[Mine.q1,Mine.q2,Mine.q3]
  kernel_rfl)
 (λw os k H g lv=>by
  rw[Mine.q1,Mine.q2,Mine.q3]
  kernel_rfl) w
theorem My(w:Pt):be 23 w:=byRow2 "special-get-raises" (P:=be 23)
 (λw os k H g lv=>by
  rw[Mine.q1,Mine.q2,Mine.q3]
  kernel_rfl)
 (λw os k H g lv=>by
  rw[Mine.q1,Mine.q2,Mine.q3]
  kernel_rfl) w
theorem Mz(w:Pt):be 24 w:=byRow2 "special-get-raises" (P:=be 24)
 (λw os k H g lv=>by
  rw[Mine.q1,Mine.q2,Mine.q3]
  kernel_rfl)
 (λw os k H g lv=>by
  rw[Mine.q1,Mine.q2,Mine.q3]
  kernel_rfl) w
theorem MA(w:Pt):be 25 w:=byRow2 "special-get-raises" (P:=be 25)
 (λw os k H g lv=>by
  rw[Mine.q1,Mine.q2,Mine.q3]
  kernel_rfl)
 (λw os k H g lv=>by
  rw[Mine.q1,Mine.q2,Mine.q3]
  kernel_rfl) w
theorem MB(w:Pt):be 26 w:=byRow2 "special-get-raises" (P:=be 26)
 (λw os k H g lv=>by
  rw[Mine.q1,Mine.q2,Mine.q3]
  kernel_rfl)
 (λw os k H g lv=>by
  rw[Mine.q1,Mine.q2,Mine.q3]
  kernel_rfl) w
theorem MC(w:Pt):be 27 w:=byRow2 "special-get-raises" (P:=be 27)
 (λw os k H g lv=>by
  rw[Mine.q1,Mine.q2,Mine.q3]
  kernel_rfl)
 (λw os k H g lv=>by
  rw[Mine.q1,Mine.q2,Mine.q3]
  kernel_rfl) w
theorem MD(w:Pt):be 28 w:=byRow2 "special-get-raises" (P:=be 28)
 (λw os k H g lv=>by
  rw[Mine.q1,Mine.q2,Mine.q3]
  kernel_rfl)
 (λw os k H g lv=>by
  rw[Mine.q1,Mine.q2,Mine.q3]
  kernel_rfl) w
theorem ME(w:Pt):be 29 w:=byRow2 "special-get-raises" (P:=be 29)
 (λw os k H g lv=>by
  rw[Mine.q1,Mine.q2,Mine.q3]
  kernel_rfl)
 (λw os k H g lv=>by
  rw[Mine.q1,Mine.q2,Mine.q3]
  kernel_rfl) w
theorem MF(w:Pt):be 30 w:=byRow2 "special-get-raises" (P:=be 30)
 (λw os k H g lv=>by
  rw[Mine.q1,Mine.q2,Mine.q3]
  kernel_rfl)
 (λw os k H g lv=>by
  rw[Mine.q1,Mine.q2,Mine.q3]
  kernel_rfl) w
theorem MG(w:Pt):be 31 w:=byRow2 "special-get-raises" (P:=be 31)
 (λw os k H g lv=>by
  rw[Mine.q1,Mine.q2,Mine.q3]
  kernel_rfl)
 (λw os k H g lv=>by
  rw[Mine.q1,Mine.q2,Mine.q3]
  kernel_rfl) w
theorem MH(w:Pt):be 32 w:=byRow2 "special-get-raises" (P:=be 32)
 (λw os k H g lv=>by
  rw[Mine.q1,Mine.q2,Mine.q3]
  kernel_rfl)
 (λw os k H g lv=>by
  rw[Mine.q1,Mine.q2,Mine.q3]
  kernel_rfl) w
theorem MI(w:Pt):be 33 w:=byRow2 "special-get-raises" (P:=be 33)
 (λw os k H g lv=>by
  rw[Mine.q1,Mine.q2,Mine.q3]
  kernel_rfl)
 (λw os k H g lv=>by
  rw[Mine.q1,Mine.q2,Mine.q3]
  kernel_rfl) w
theorem MJ(w:Pt):be 34 w:=byRow2 "special-get-raises" (P:=be 34)
 (λw os k H g lv=>by
  rw[Mine.q1,Mine.q2,Mine.q3]
  kernel_rfl)
 (λw os k H g lv=>by
  rw[Mine.q1,Mine.q2,Mine.q3]
  kernel_rfl) w
theorem MK(w:Pt):be 35 w:=byRow2 "special-get-raises" (P:=be 35)
 (λw os k H g lv=>by
  rw[Mine.q1,Mine.q2,Mine.q3]
  kernel_rfl)
 (λw os k H g lv=>by
  rw[Mine.q1,Mine.q2,Mine.q3]
  kernel_rfl) w
theorem ML(w:Pt):be 36 w:=byRow2 "special-get-raises" (P:=be 36)
 (λw os k H g lv=>by
  rw[Mine.q1,Mine.q2,Mine.q3]
  kernel_rfl)
 (λw os k H g lv=>by
  rw[Mine.q1,Mine.q2,Mine.q3]
  kernel_rfl) w
theorem MM(w:Pt):be 37 w:=byRow2 "special-get-raises" (P:=be 37)
 (λw os k H g lv=>by
  rw[Mine.q1,Mine.q2,Mine.q3]
  kernel_rfl)
 (λw os k H g lv=>by
  rw[Mine.q1,Mine.q2,Mine.q3]
  kernel_rfl) w
theorem MN(w:Pt):be 38 w:=byRow2 "special-get-raises" (P:=be 38)
 (λw os k H g lv=>by
  rw[Mine.q1,Mine.q2,Mine.q3]
  kernel_rfl)
 (λw os k H g lv=>by
  rw[Mine.q1,Mine.q2,Mine.q3]
  kernel_rfl) w
end
end Mine.H1
namespace Mine.H1
noncomputable section
theorem dq{P:Nat->Prop}{n:Nat}(h:∀c,c<n->P c)(x:P n):∀c,c<n+1->P c:=λc hc=>if e:c=n then e▸x else h c (SN (Q0 hc) e)
theorem MO(c:Nat)(w:Pt)(hc:c<39):be c w :=
 dq (dq (dq (dq (dq (dq (dq (dq (dq (dq (dq (dq (dq (dq (dq (dq (dq (dq (dq (dq (dq (dq (dq (dq (dq (dq (dq (dq (dq (dq (dq (dq (dq (dq (dq (dq (dq (dq (dq (P:=λc=>be c w) (λu h=>absurd h (Pm _)) (N1 w)) (N2 w)) (N3 w)) (N4 w)) (N5 w)) (N6 w)) (N7 w)) (N8 w)) (N9 w)) (Oa w)) (Ml w)) (Mm w)) (Mn w)) (Mo w)) (Mp w)) (Mq w)) (Mr w)) (Ms w)) (Mt w)) (Mu w)) (Mv w)) (Mw w)) (Mx w)) (My w)) (Mz w)) (MA w)) (MB w)) (MC w)) (MD w)) (ME w)) (MF w)) (MG w)) (MH w)) (MI w)) (MJ w)) (MK w)) (ML w)) (MM w)) (MN w) c hc
theorem fQ(c:Nat):ft (c+1)=ft c++fg c:=by simp[ft,Tf]
theorem NP:((OP 39).all λc=>(fg c).length==if c<38 then 17 else 4)=true:=by kernel_rfl
theorem nt{c:Nat}(h:c<39):(fg c).length=if c<38 then 17 else 4:=by
 have:=O6.mp NP c (O5.mpr h)
 simpa using this
theorem n3(d:Nat):∀(l:List (Option Expr×Expr))(t:Nat),∀e∈mh d l t,∃k t,e.key=.int k t:=by
 intro l
 induction l with
 | nil=>intro t e he;cases he
 | cons x l ih =>
  intro t e he
  rcases PW.mp he with rfl | he
  ·exact⟨_,_,rfl⟩
  ·exact ih _ e he
noncomputable def Jk:Int->List Int->Bool
 | _,[]=>true
 | a,b::l=>decide (a<b)&&Jk b l
theorem xL:∀{l:List Int}{a:Int},Jk a l=true->(∀b∈l,a<b)/\l.Pairwise (· <·)
 | [],_,_=>⟨λu h=>(nomatch h),ST⟩
 | b::l,a,h=>by
  obtain⟨h1,h2⟩:=P0.mp h
  have h1:=of_decide_eq_true h1
  obtain⟨h3,h4⟩:=xL h2
  refine⟨λx hx=>?_,List.Pairwise.cons h3 h4⟩
  rcases PW.mp hx with rfl | hx
  ·exact h1
  ·exact Int.lt_trans h1 (h3 x hx)
theorem Bt:Jk 0 ((ft 39).map (·.hash))=true:=by kernel_rfl
theorem Ac:∀{c d:Nat},c<=d->(ft c)<+: (ft d)
 | c,d,h=>by
  induction h with
  | refl=>exact PK _
  | step h ih=>exact ih.trans (by rw[fQ];exact Pv ..)
theorem IG:(ft 39).Pairwise λx y=>x.hash≠y.hash:=by
 have:=(xL Bt).2
 rw[List.pairwise_map]at this
 exact this.imp λh=>by lia
theorem GI{c:Nat}(h:c<=39):(ft c).Pairwise λx y=>x.hash≠y.hash:=IG.sublist (Ac h).sublist
theorem rG:∀{c:Nat},c<=39->(ft c).length<=17*c
 | 0,_=>O8 _
 | c+1,h=>by
  rw[fQ,O2,nt (by lia)]
  have:=rG (c:=c) (by lia)
  split<;>lia
theorem CT{c:Nat}(h:c<39):ft (c+1)≠[]:=by
 rw[fQ]
 intro e
 have:=congrArg RQ e
 rw[O2,nt h]at this
 simp only[RK]at this
 split at this<;>lia
theorem zw(P:Params)(c:Nat)(h:c≠0):tc P (c+1)=((tc P c).ins (33+c) (az c)).set 33 λu=>yb (c+1):=by
 cases c with
 | zero=>exact absurd rfl h
 | succ c=>rfl
theorem L6(P:Params):((OP 39).all λc=>(((tc P c).ins (33+c) (az c)).get (33+c)).isSome&&(c==0 || (((tc P c).ins (33+c) (az c)).get 33).isSome))=true:=by kernel_rfl
theorem NY(P:Params)(c:Nat)(h:c<39):(((tc P c).ins (33+c) (az c)).get (33+c)).isSome=true/\(c≠0->(tc P c).get 33=some (yb c)):=by
 have q:=λc h=>P0.mp (O6.mp (L6 P) c (O5.mpr h))
 refine⟨(q c h).1,λh0=>?_⟩
 obtain⟨c,rfl⟩:=Nat.exists_eq_succ_of_ne_zero h0
 by_cases e:c=0
 ·subst e;kernel_rfl
 ·have r:=(q c (Sd h)).2
  rw[beq_false_of_ne e,Bool.false_or]at r
  obtain⟨o,ho⟩:=QJ.mp r
  rw[zw P c e,BT.get_set,if_pos rfl,ho]
  rfl
theorem Ja(w:Pt)(os:OsState):jH pr cd dp w 223 (Sg w os 0) (gl (lk 0) none) (some 33) (Sg w os 1) :=
 vV (by kernel_rfl) (MO 0 w (by lia) os)
theorem BI:((OP 39).all λc=> !(lk c).isEmpty)=true:=by kernel_rfl
theorem B3(w:Pt)(os:OsState){c:Nat}(h:c<39)(h0:c≠0):jH pr cd dp w (if c<38 then 330 else 82) (Sg w os c) (gl (lk c) (some 33)) (some 33) (Sg w os (c+1)):=by
 have hr:(lk c).isEmpty=false:=by simpa using O6.mp BI c (O5.mpr h)
 have hs:=MO c w h os
 obtain⟨hroom,hg⟩:=NY w.params c h
 have hg:=hg h0
 have gi:=BT.get_ins (az c) (tc w.params c) (33+c) hroom
 have hno:(ft c++fg c).Pairwise λx y=>x.hash≠y.hash:=by rw[<- fQ];exact GI h
 have hlen:(ft c++fg c).length<10000:=by
  rw[<- fQ]
  have:=rG (c:=c+1) h
  lia
 have hne:ft c≠[]:=by
  cases c with
  | zero=>exact absurd rfl h0
  | succ c=>exact CT (by lia)
 have hm:=z3 (pr:=pr) (pos:=dp) (bd:=bd) (env:=env) (w:=w) (T:=(tc w.params c).ins (33+c) (az c)) (N:=33+c+1) (life:=({}:Life)) (gens := #[]) (drawn:={}) (toks:=kk (c+1)) (os:=os)
  (d:=33) (a:=33+c) (L:=ft c) (M:=fg c) (ep:=(ft c).length) (ep':=(fg c).length) rfl (Nat.ble_eq_true_of_le (by lia)) (Nat.ble_eq_true_of_le (by lia)) (λh:(33+c:Nat)=33=>by lia)
  (beq_false_of_ne λh:(33+c:Nat)=1=>by lia) (by rw[gi,if_neg (λh:(33:Nat)=33+c=>by lia)];exact hg) (by rw[gi,if_pos rfl];rfl) hne (λe he=>n3 _ _ _ e he) hno hlen
 refine dD (k:=(if c<38 then 223 else 53)+(if c<38 then 107 else 29)) (by split<;>rfl) (z2 hr hs ?_)
 ·have e:5+6*(fg c).length=if c<38 then 107 else 29:=by rw[nt h];split<;>rfl
  rw[e]at hm
  have e2:Sg w os (c+1)=vq (33+c+1) ({}:Life) #[] {} (kk (c+1)) os (((tc w.params c).ins (33+c) (az c)).set 33 λu=>dO (ft c++fg c).toArray ((ft c).length+(fg c).length)):=by
   show SharedT.mk (tc w.params (c+1)) _ _ _ _ _ _=_
   rw[zw _ _ h0]
   unfold yb
   rw[fQ,O2]
   rfl
  rw[e2]
  exact hm
theorem oN:(n4 (ah 3)).length=650:=by kernel_rfl
theorem lO(c:Nat):(n4 (ah 3)).drop (17*c)=lk c++(n4 (ah 3)).drop (17*(c+1)):=by
 unfold lk
 conv=>lhs;rw[<- Qm 17 ((n4 (ah 3)).drop (17*c))]
 rw[List.drop_drop,show 17*c+17=17*(c+1) by lia]
theorem md(w:Pt)(os:OsState):∀j,j<=37->jH pr cd dp w (82+330*j) (Sg w os (38 - j)) (iK ((n4 (ah 3)).drop (17*(38 - j))) (some 33) []) (.ref 33) (Sg w os 39)
 | 0,_=>by
  rw[lO,List.drop_of_length_le (by rw[oN];lia),O4,vN (by unfold lk;rw[Rx,Sn,oN];lia)]
  exact a7 (n':=0) (B3 w os (c:=38) (by lia) (by lia)) (c0 _)
 | j+1,h=>by
  rw[lO,nT (by unfold lk;rw[Rx,Sn,oN];lia)]
  have:=B3 w os (c:=38 - (j+1)) (by lia) (by lia)
  rw[if_pos (by lia)]at this
  refine dD (k:=330+(82+330*j)) (by lia) (a7 this ?_)
  rw[show 38 - (j+1)+1=38 - j by lia]
  exact md w os j (by lia)
theorem OD:38 - 37=0+1:=rfl
theorem Fe(w:Pt)(os:OsState):jH pr cd dp w 12515 (Sg w os 0) (iK (n4 (ah 3)) none []) (.ref 33) (Sg w os 39):=by
 have e:=lO 0
 rw[Nat.mul_zero,List.drop_zero]at e
 rw[e,nT (by unfold lk;rw[Rx,Sn,oN];lia)]
 exact dD (k:=223+(82+330*37)) rfl (a7 (Ja w os) (OD▸md w os 37 (O8 _)))
end
end Mine.H1
namespace Mine.H1
noncomputable section
noncomputable def Hq:List Expr:=match ah 3 with | .Assign t _ _=>t | _=>[]
noncomputable def Lb:List (Option Expr):=match ah 3 with | .Assign _ (.Dict ks _ _) _=>ks | _=>[]
noncomputable def Lc:List Expr:=match ah 3 with | .Assign _ (.Dict _ vs _) _=>vs | _=>[]
theorem OH:ah 3=.Assign Hq (.Dict Lb Lc dp) ⟨5,0,5,8704⟩:=by kernel_rfl
theorem JC(w:Pt)(os:OsState):jH pr cd ⟨5,0,5,8704⟩ w 0 (Sg w os 0) (swapsWithSole Hq (.Dict Lb Lc dp) 5 env) false (Sg w os 0):=λk H g lv=>by kernel_rfl
theorem tail(w:Pt)(os:OsState):Cg pr cd dp ⟨5,0,5,13⟩ w 7 (Sg w os 39) (do assignStores env (.ref 33) (<- swappedStores Hq (.Dict Lb Lc dp) env) ((assignEach Hq env).map (·.2))) .next ⟨t5 w.params,72,({}:Life),#[],{},2207,os⟩:=λk H g lv=>by
 rw[Mine.q1,Mine.q2]
 kernel_rfl
theorem Cx:((evalEachOpt Lb env).zip ((evalEach Lc env).map λv=>do let x <- v;standAt dp;pure x))=(n4 (ah 3)).map λkv=>(some kv.1,kv.2):=by
 kernel_rfl
theorem BX(w:Pt)(os:OsState):Cg pr cd ⟨5,0,5,8704⟩ dp w 12516 (Sg w os 0) (eval (.Dict Lb Lc dp) env) (.ref 33) (Sg w os 39):=by
 rw[arm_eval_Dict,Cx,Fd]
 exact rn (k:=1+12515) rfl (ke Ch (Ci (Fe w os)))
theorem BY(w:Pt)(os:OsState)(p:Q6):Cg pr cd p ⟨5,0,5,13⟩ w 12524 (Sg w os 0) (exec (ah 3) env) .next ⟨t5 w.params,72,({}:Life),#[],{},2207,os⟩:=by
 rw[OH,arm_exec_Assign]
 refine rn (k:=1+(0+(12516+7))) rfl (ke Ch (ke (Ci (JC w os)) ?_))
 rw[if_neg PA]
 exact ke (BX w os) (tail w os)
theorem g3(w:Pt):G3 w:=by
 unfold G3
 funext os
 have h:Cg pr cd ⟨3,0,4,30⟩ ⟨5,0,5,13⟩ w (12524+0) (Sg w os 0) (execs Hf env) .next ⟨t5 w.params,72,({}:Life),#[],{},2207,os⟩:=by
  rw[Hf,arm_execs_cons]
  refine ke (BY w os _) ?_
  exact λu u u u=>rfl
 exact lA (h doneF deadEnd id id) rfl
end
end Mine.H1
namespace Mine.H1
noncomputable section
noncomputable abbrev q0:Q6:=⟨0,0,0,0⟩
noncomputable abbrev aS(t:Params->BT)(n k:Nat)(w:Pt)(os:OsState):OX:=⟨absHeap (t w.params) n ({}:Life),#[],{},k,os⟩
theorem pre(w:Pt):(λos=>topGo treeTable pr w 11 (some (.ref 6)) 12 ⟨boot_heap w.params,Tv [],boot_drawn,boot_toks,os⟩ (topStub pr)) =
  λos=>some (aS t1 15 187 w os,⟨denote treeTable cd,cd,q0,[topFrame q0]⟩):=by
 rw[Mine.q1,PySem.W.Fast.te15667345088766844465,PySem.W.Fast.te11892475500146522536]
 kernel_rfl
theorem K7(w:Pt):(λos=>segRun treeTable pr w 11 (some (.ref 6)) 1 1 (aS t1 15 187 w os) (blockOf bd env cd q0 [topFrame q0])) =
  λos=>some (.next,aS t1 15 187 w os,cd,q0):=by kernel_rfl
theorem fin(w:Pt):(λos=>topRun treeTable pr w 11 (some (.ref 6)) 2 (aS Ii 250 2433 w os) ⟨doneF .next,cd,⟨249,0,274,100⟩,[topFrame q0]⟩) =
  λos=>some (aS Ii 250 2433 w os):=by kernel_rfl
theorem K6:bd=Mh++(Mi++(Mj++(Hf++(Mk++[])))):=by kernel_rfl
theorem vi{n k n' k':Nat}{t t':Params->BT}{sts:List Stmt}{N:Nat}{p p':Q6}{w:Pt}(h:(λos=>segRunT treeTable pr w 11 (some (.ref 6)) 1 N ⟨t w.params,n,({}:Life),#[],{},k,os⟩ (piecesOf sts env cd p [topFrame q0]))=λos=>some (.next,⟨t' w.params,n',({}:Life),#[],{},k',os⟩,cd,p'))(os:OsState) :
  segRun treeTable pr w 11 (some (.ref 6)) 1 N (aS t n k w os) (piecesOf sts env cd p [topFrame q0])=some (.next,aS t' n' k' w os,cd,p'):=segRun_of (congrFun h os)
theorem run(w:Pt)(os:OsState):topRun treeTable pr w 11 (some (.ref 6)) (12+(1+(10+(999+(30+(12525+(986+2))))))) ⟨boot_heap w.params,Tv [],boot_drawn,boot_toks,os⟩ (topStub pr)=some (aS Ii 250 2433 w os):=by
 refine go_top (congrFun (pre w) os) (piece_block (congrFun (K7 w) os) ?_)
 rw[K6]
 refine piece_app (vi (g0 w) os) (piece_app (vi (g1 w) os) (piece_app (vi (g2 w) os) (piece_app (vi (g3 w) os) (piece_app (vi (g4 w) os) (piece_nil (congrFun (fin w) os))))))
end
end Mine.H1
namespace Mine.H1
noncomputable section
noncomputable def qv:Program:={ pr with main:={ pr.main with body := [ah 1,ah 2,ah 3,ah 4,ah 6,ah 8,ah 10,ah 11,ah 12,ah 13,ah 14,ah 15,ah 17,ah 18,ah 19,ah 20,ah 21,ah 22,ah 23,ah 24,ah 25,ah 26,ah 27,ah 28,ah 29,ah 30] } }
noncomputable abbrev lz:List Str := ["b1_set","b3_exceptions"]
theorem L0(w:Pt):(fencedOpening treeTable pr w 30000).map (λs=>(s.heap,s.gens,s.drawn,s.toks))=some (boot_heap w.params,Tv [],boot_drawn,boot_toks) :=
 boot_open (by kernel_rfl) (by rfl) (λs=>by kernel_rfl) w
theorem Mf(w:Pt):((boot_heap w.params).isNs Pz&&(Tv []:Array GenState).size==0,(boot_heap w.params).objs.size,(boot_heap w.params).nsMap Pz "__annotations__")=(true,11,some (.ref 6)):=by kernel_rfl
noncomputable abbrev hF(w:Pt):Heap:=absHeap (Ii w.params) 250 ({}:Life)
theorem Jt(w:Pt)(os:OsState):(staticsOk (importedModules pr.main.body) (boot_heap w.params) (hF w)&&namesBound pr (hF w)&&gensDone ⟨hF w,#[],{},2433,os⟩&&laidKept (boot_heap w.params) (hF w))=true:=by kernel_rfl
noncomputable def Of:Int->List (PyData×PyData)->Bool
 | _,[]=>true
 | k,(.int j,_)::D=>decide (k<j)&&Of j D
 | _,_=>false
theorem AW:∀(D:List (PyData×PyData))(k:Int),Of k D=true->keysApartInt D=true/\∀i,i<=k->hasIntKey i D=false:=by
 intro D
 induction D with
 | nil=>exact λk u=>⟨rfl,λu u=>rfl⟩
 | cons p D ih =>
  obtain⟨d,v⟩:=p
  intro k e
  cases d with
  | int j =>
   obtain⟨a,b⟩:=P0.mp (show(decide (k<j)&&Of j D)=true from e)
   have a:=of_decide_eq_true a
   obtain⟨r1,r2⟩:=ih j b
   refine⟨show(!hasIntKey j D&&keysApartInt D)=true by rw[r1,r2 j (Int.le_refl j)];rfl,λi hi=>show(j==i || hasIntKey i D)=false from ?_⟩
   rw[r2 i (Int.le_trans hi (Int.le_of_lt a)),Bool.or_false]
   exact beq_false_of_ne λe=>by subst e;exact absurd a (Int.not_lt.mpr hi)
  | _=>exact nc QH e rfl
theorem E2{f:Str->Bool}(b:Str){l:List Str}(h:(l.all λx=>x==b || f x)=true)(hb:f b=true):l.all f=true :=
 O6.mpr λx hx=>(Bool.or_eq_true_iff.mp (O6.mp h x hx)).elim (λe=>(beq_iff_eq.mp e).symm▸hb) id
noncomputable abbrev D0:List (PyData×PyData):=(PySem.W.Fast.tw10077548348588599076 qv "b3_exceptions").getD []
theorem IH:keysApartInt D0=true:=(AW _ (-1) (by kernel_rfl)).1
theorem Kz(w:Pt):(hF w).tabIntOk "b3_exceptions" D0=true:=by
 rw[PySem.W.Fast.te14927025687674330080]
 delta PySem.W.Fast.tw14927025687674330080
 rw[IH]
 kernel_rfl
theorem KA(w:Pt):RG qv (hF w)=true:=by
 rw[<- PySem.W.Fast.te10994771534591457954]
 refine E2 "b3_exceptions" ?_ ?_
 ·rw[RH,RI,RJ]
  kernel_rfl
 ·rw[RH,RI,RJ]
  show(_&&_&&match (some D0:Option (List (PyData×PyData)))with | some D=>_ | none=>true)=true
  show(_&&(hF w).tabIntOk _ D0)=true
  rw[Kz]
  kernel_rfl
theorem Ju(w:Pt):(λos=>openSeen qv lz (importedModules pr.main.body) (λs=>recOk [] s) true ⟨hF w,#[],{},2433,os⟩)=λu=>openGood qv lz:=by
 rw[PySem.W.Fast.te4187177175401517315]
 funext os
 delta PySem.W.Fast.tw4187177175401517315 openGood
 refine congr (congrArg Prod.mk ?_) (congr (congrArg Prod.mk ?_) (congr (congrArg Prod.mk ?_) ?_))
 ·kernel_rfl
 ·kernel_rfl
 ·show((((((_&&_)&&_)&&_)&&RG qv (hF w))&&_)&&_)=true
  rw[KA w]
  kernel_rfl
 ·kernel_rfl
end
end Mine.H1
namespace Mine.H1
noncomputable section
noncomputable abbrev yF(w:Pt):Heap×Nat:=(hF w,2433)
theorem LE(w:Pt):(λos=>((staticsOk (importedModules pr.main.body) (boot_heap w.params) (hF w)&&namesBound pr (hF w)&&gensDone ⟨hF w,#[],{},2433,os⟩&&laidKept (boot_heap w.params) (hF w)),
  openSeen qv lz (importedModules pr.main.body) (λs=>recOk [] s) true ⟨hF w,#[],{},2433,os⟩,yF w))=λu=>(true,openGood qv lz,yF w):=by
 funext os
 rw[Jt w os,congrFun (Ju w) os]
theorem left:LeftO pr qv lz (λs=>recOk [] s) (λs=>(s.heap,s.toks)) yF 30000 :=
 LeftO.of_pieces (H₀:=boot_heap) (H₁:=λP=>absHeap (Ii P) 250 ({}:Life)) (gs₀:=Tv []) (gs₁ := #[]) (d₀:=boot_drawn) (d₁:={}) (k₀:=boot_toks) (k₁:=2433) (m₀:=11) (ann:=some (.ref 6))
  (M:=12+(1+(10+(999+(30+(12525+(986+2))))))) L0 Mf run (by rfl) LE
end
end Mine.H1
namespace Mine
open Mine.H1
noncomputable section
noncomputable abbrev RW:OpenRow:=PySem.Challenge.rw_tc0058_02.row
structure eI(w:Pt)(mg mb:Str->Option OT)(s:OX)(l:Addr)(js:List Int):Prop where
 top:∃mean,Top qv (looseW qv lz) mean mg mb s.heap
 head:∀b o,(hF w).get? b=some o->s.heap.get? b=some o
 size:s.heap.objs.size=251
 arg:∃vs,s.heap.get? 250=some { cls:=.type "list",data:=.seq vs }/\aL [] (js.map .int) vs.toList
 l:l=250
 gens:s.gens= #[]
 toks:1<=s.toks
 few:js.length<=63
theorem Fs{R:WRecords}{d:WData}(h:SO R d .int=true):∃i,d=.int i:=by
 cases d<;>first | exact⟨_,rfl⟩ | exact absurd (show false=true from h) PA
theorem CM{R:WRecords}{d:WData}(h:SO R d (.list .int)=true):∃xs,d=.list xs/\Tg R xs .int=true:=by
 cases d<;>first | exact⟨_,rfl,(Bool.or_false _).symm.trans h⟩ | exact absurd (show false=true from h) PA
theorem rC{R:WRecords}{cl:Str->Option Addr}{P:Params}{ord:List Qj->List Qj}:∀{ds:List WData}{s:OX}{r:List OT×OX},(∀d∈ds,SO R d .int=true)->layAllW R cl P ord ds s=some r ->
  ∃js:List Int,js.length=ds.length/\aL [] (js.map .int) r.1/\r.2.heap=s.heap/\s.toks<=r.2.toks
 | [],s,r,_,h=>by
  simp only[layAllW,QX]at h
  subst h
  exact⟨[],rfl,trivial,rfl,O8 _⟩
 | d::ds,s,r,hd,h=>by
  obtain⟨a,q,ha,hq,rfl⟩:=layAllW_cons h
  obtain⟨js,h1,h2,h3,h4⟩:=rC (λd' hm=>hd d' (Pa _ hm)) hq
  have:=hd d (Pe ..)
  obtain⟨i,rfl⟩:=Fs this
  simp only[layW,QX]at ha
  subst ha
  exact⟨i::js,by simp[h1],⟨⟨_,rfl⟩,h2⟩,h3,OZ (QK _) h4⟩
theorem my{R:WRecords}{e:WShape}:∀{ds:List WData},Tg R ds e=true->∀d∈ds,SO R d e=true
 | [],_,d,h=>nomatch h
 | x::ds,hx,d,h=>by
  simp only[Tg,PD]at hx
  rcases PW.mp h with rfl | h
  ·exact hx.1
  ·exact my hx.2 d h
structure Left(s s':OX):Prop where
 kept:∀b o,s.heap.get? b=some o->b≠209->b≠221->s'.heap.get? b=some o
 tab:∀b,b=209\/b=221->∃ps,s'.heap.get? b=some { cls:=.none,data:=.fields ps }
 gens:s'.gens= #[]
 os:s'.os=s.os
theorem s7(w:Pt):(hF w).objs.size=250:=absHeap_size _ _ _
theorem ix{w:Pt}{b:Addr}{o o':Obj}(hb:b<250)(e:(Ii w.params).get b=some o)(al:alive o=some o'):(hF w).get? b=some o':=by rw[abs_get hb e];exact al
theorem tV{R:WRecords}{t:WTm}{c:WCtx}{b:Bool}(e:t.value R c=some (.bool b)):t.holds R c=b:=by
 delta WTm.holds
 rw[e]
 cases b<;>rfl
theorem I9{xs:List WData}(h:RW.pre.holds RW.records { args := [.list xs] }=true):xs.length<=63:=by
 have e:RW.pre.value RW.records { args := [.list xs] }=some (.bool ((!decide ((63:Int)<(xs.length:Int)))&&true)) :=
  w_and (w_not (w_lt w_lit (w_len_list (w_arg rfl)))) w_lit
 rw[tV e]at h
 by_cases q:(63:Int)<(xs.length:Int)
 ·rw[decide_eq_true q]at h;exact absurd h PA
 ·clear h e;lia
theorem GH(args:List WData):RW.claim.post args (.bool true) args=true:=by
 have e:RW.post.value RW.records { args:=args,res:=some (.bool true),after:=args }=some (.bool (true==true)):=w_eq_bool (w_res rfl) w_lit
 show(SO RW.records (.bool true) RW.returns&&RW.post.holds RW.records { args:=args,res:=some (.bool true),after:=args })=true
 rw[tV e]
 rfl
theorem FD:PySem.Challenge.rw_tc0058_02.wellSaid=true:=by
 rw[PySem.W.Fast.te9446332074065402090]
 kernel_rfl
theorem head(walk:∀(w:Pt)(mg mb:Str->Option OT)(s:OX)(js:List Int),eI w mg mb s 250 js ->
   Ph (model pr w) callerA (Tt (.ref 249) [.ref 250]) (λv s'=>v=.bool true/\Left s s') (λu u=>False) s):PySem.Challenge.rw_tc0058_02.Holds:=by
 refine holds_law FD λsaid=>?_
 have prom:RW.toRowW.promised:=⟨[.list []],by decide+kernel,by decide+kernel⟩
 have ok:(chainsOk qv&&opensWell pr&&(frees RW.toRowW&&RW.within.isEmpty))=true:=by decide+kernel
 obtain⟨ok,k5⟩:=P0.mp ok
 obtain⟨hch,o1⟩:=P0.mp ok
 obtain⟨k5,k6⟩:=P0.mp k5
 obtain⟨hsame,hu,ha,hap,hm⟩:=frees_parts k5
 have hi:=ident_freeW hu ha hap
 have hwi:RW.claim.within=[]:=List.isEmpty_iff.mp k6
 have hdef:∃d kwd,defOf qv RW.name=some (d,kwd)/\pr.theDef RW.name=some (d.params,d.body,d.scope)/\kwWritten? d.params.kwonlyargs d.params.kw_defaults=some kwd:=⟨_,_,by rfl,by rfl,by rfl⟩
 refine⟨said,prom,⟨⟨rfl,rfl,rfl,rfl,rfl,by decide+kernel⟩,o1,rfl⟩,prom.witness,λw=>⟨(left.behind (XP:=λu u=>True) (λu u=>trivial) hch w).1,λs' hs'=>?_⟩⟩
 obtain⟨s₀,hf,hg0,s,hT,hz,hgens,hg,G,y⟩:=(left.behind (XP:=λu u=>True) (λu u=>trivial) hch w).2 s' hs'
 obtain⟨y1,y2⟩:s.heap=hF w/\s.toks=2433:=Tq .. ▸y
 have hgens:s.gens= #[]:=Array.eq_empty_of_size_eq_zero (beq_iff_eq.mp hgens)
 refine⟨s₀,hf,hg0,s,hT,λn hn=>?_,(λx hx=>nomatch hx),(λx hx=>nomatch hx),?_⟩
 ·obtain⟨d,kwd,h1,h2,h3⟩:=hdef
  obtain rfl:n=RW.name:=by
   have:n∈[RW.name]:=hn
   simpa using this
  exact pinned_of_view hg G h1 h2 h3
 refine ClaimW.callFrom_of_specG (c:=RW.claim) hz hgens λargs hpre hlay ord hord=>?_
 obtain⟨⟨vs,s₁⟩,hlaid⟩:=QJ.mp (layAllW_isSome (P:=w.params) (ord:=ord) G.has args RW.args s (pre_splitW hpre).1)
 have keeps:=layAllW_keeps _ _ _ hlaid
 have hal:=layAllW_rest _ _ _ hlaid
 obtain⟨as,hrd,hin,hold⟩:=reads_layAllW hord _ _ _ hlaid hlay s₁.heap (λu u e=>e)
 have L:Laid RW.records w s s₁ args vs as:=⟨⟨ord,hord,hlaid⟩,hrd,hin,hold,keeps,hal.1.trans hgens,hal.2.2.1⟩
 have G₁:=G.keeps (λu u u u u=>trivial) keeps
 obtain⟨js,hv,hready⟩:∃js,vs=[.ref 250]/\eI w _ _ s₁ 250 js:=by
  obtain⟨h1,h2⟩:=pre_splitW hpre
  obtain⟨d,r,rfl,hd,hr⟩:=hasAllW_cons h1
  obtain rfl:r=[]:=by
   cases r with
   | nil=>rfl
   | cons a b=>exact absurd (show false=true from hr) PA
  obtain⟨a,q,ea,eq,er⟩:=layAllW_cons hlaid
  simp only[layAllW,QX]at eq
  subst eq
  obtain⟨xs,rfl,hd'⟩:=CM (R := []) hd
  obtain⟨q,eq,rfl⟩:=layW_list ea
  have hxs:∀d∈xs,SO [] d .int=true:=my hd'
  obtain⟨js,j1,j2,j3,j4⟩:=rC hxs eq
  have few:js.length<=63:=by
   rw[j1]
   exact I9 h2
  simp only[Tq]at er
  obtain⟨er1,er2⟩:=er
  have hh:s₁.heap=(hF w).push { cls:=.type "list",data:=.seq q.1.toArray }:=by
   rw[er2,<- y1,<- j3]
  refine⟨js,?_,⟨_,G₁.T⟩,?_,?_,?_,rfl,?_,?_,few⟩
  ·rw[er1,j3,y1,s7]
  ·intro b o e;rw[hh];exact Pj _ e
  ·rw[hh,PP,s7]
  ·refine⟨q.1.toArray,?_,by simpa using j2⟩
   have:=Pd (hF w) (o:={ cls:=.type "list",data:=.seq q.1.toArray }) rfl
   rw[s7]at this
   rw[hh]
   exact this
  ·exact hal.1.trans hgens
  ·have:q.2.toks=s₁.toks:=by rw[er2]
   lia
 subst hv
 have hrun:=walk w _ _ s₁ js hready
 have htab:∀b,b=209\/b=221->s₁.heap.get? b=some { cls:=.none,data:=.fields #[] }/\∃c o vs,s₁.heap.get? c=some o/\o.cls=.type "code"/\o.data=.fields vs/\vs[11]?=some (.ref b):=by
  rintro b (rfl | rfl)
  ·exact⟨hready.head _ _ (ix (o:={ cls:=.none,data:=.fields #[] }) (by decide) (by kernel_rfl) rfl),213,kG,_,hready.head _ _ (ix (o:=kG) (by decide) (by kernel_rfl) rfl),rfl,rfl,rfl⟩
  ·exact⟨hready.head _ _ (ix (o:={ cls:=.none,data:=.fields #[] }) (by decide) (by kernel_rfl) rfl),223,kI,_,hready.head _ _ (ix (o:=kI) (by decide) (by kernel_rfl) rfl),rfl,rfl,rfl⟩
 have good:∀v s',v=.bool true/\Left s₁ s'->GoodWG RW.claim (classAt s.heap) (ExcName.means s.heap) args s₁ (.ok (.ret v)) s':=λv s' ⟨hv,X⟩=>by
  subst hv
  refine⟨.inl ⟨_,.bool true,[],rfl,λcls=>rfl,.bool true,GH _,λu=>⟨SK,λa h=>nomatch h⟩⟩,⟨λb o e=>?_,λb o e=>?_⟩,X.os,AllBare.of_eq X.gens⟩
  ·by_cases h:b=209\/b=221
   ·obtain⟨h1,hc⟩:=htab b h
    rw[h1]at e
    obtain rfl:=sj e
    obtain⟨ps,e'⟩:=X.tab b h
    exact .inr (.inl ⟨hc,rfl,#[],ps,rfl,by rw[e'];simp⟩)
   ·exact .inl (X.kept b o e (λq=>h (.inl q)) (λq=>h (.inr q)))
  ·by_cases h:b=209\/b=221
   ·obtain⟨ps,e'⟩:=X.tab b h
    exact⟨_,e'⟩
   ·exact⟨o,X.kept b o e (λq=>h (.inl q)) (λq=>h (.inr q))⟩
 have hmg:s.heap.nsMap Pz RW.name=some (.ref 249):=by
  rw[y1]
  kernel_rfl
 have fin:∀v s',v=.bool true/\Left s₁ s'->(λ(fin:Fin) s'=>∃f,fin=.done f/\RW.claim.Ends s args [.ref 250] s₁ (.ok f) s'/\s'.os=s.os/\AllBare s'.gens/\(RW.writes=true->namesKept pr RW.keeps s.heap s'.heap/\∀x∈RW.records,∀a,classAt s.heap x.1=some a->recordClass s'.heap a x.1 (x.2.map (·.1))=true)) (.done (.ret v)) s':=λv s' g =>
  have z:=(good v s' g).laid (c:=RW.claim) hsame hwi hi L
  ⟨_,rfl,z.1,z.2.1,z.2.2,λq=>Bool.noConfusion (q:false=true)⟩
 refine⟨_,s₁,hlaid,OR (wpAny_nsGet G₁.T.g ?_)⟩
 rw[hmg]
 exact OR (wpAny_mono hrun (λv s' g=>O3 (fin v s' g)) λu u e=>e.elim)
end
end Mine
namespace Mine
open Mine.H1
noncomputable section
theorem NN{α:Type}{l:List α}(h:l.length=0):l=[]:=List.eq_nil_of_length_eq_zero h
theorem k7{α:Type}{l:List α}(h:l.length=1):∃a,l=[a]:=by
 cases l with
 | nil=>exact nc SV h rfl
 | cons a l=>exact⟨a,congrArg (a :: ·) (NN (Qf h))⟩
theorem uh{α:Type}{l:List α}(h:l.length=2):∃a b,l=[a,b]:=by
 cases l with
 | nil=>exact nc SV h rfl
 | cons a l=>exact(k7 (Qf h)).elim λb e=>⟨a,b,congrArg (a :: ·) e⟩
theorem ui{α:Type}{l:List α}(h:l.length=3):∃a b c,l=[a,b,c]:=by
 cases l with
 | nil=>exact nc SV h rfl
 | cons a l=>obtain⟨b,c,e⟩:=uh (Qf h);exact⟨a,b,c,congrArg (a :: ·) e⟩
theorem NO{α:Type}{l:List α}(h:l.length=4):∃a b c d,l=[a,b,c,d]:=by
 cases l with
 | nil=>exact nc SV h rfl
 | cons a l=>obtain⟨b,c,d,e⟩:=ui (Qf h);exact⟨a,b,c,d,congrArg (a :: ·) e⟩
noncomputable def nU(st:Stmt)(qual:String)(mod code:OT):PF:=match st with
 | .FunctionDef name args body _ _ _ scope _ _ _=>{ name:=name,qualname:=OO qual,params:=args,body:=.stmts body,scope:=scope,globals:=3,closure := [],defaults:=.none,kwdefaults:=.none,pyModule:=mod,code:=code }
 | _=>default
noncomputable def aF:Stmt->List Stmt
 | .FunctionDef _ _ body _ _ _ _ _ _ _=>body
 | _=>[]
noncomputable def BP:Stmt->Q6
 | .FunctionDef _ _ _ _ _ _ _ _ _ p=>p
 | _=>default
noncomputable def pO:Stmt:=((aF (ah 23))[2]?).getD (.Pass default)
noncomputable def cn:OQ:=match (aF (ah 25))[4]? with
 | some (Stmt.Return (some (.Call _ _ [⟨_,e,_⟩] _)) _)=>e
 | _=>.Constant .none 0 default
noncomputable def CC:OQ->Q6
 | .Lambda _ _ _ p=>p
 | _=>default
noncomputable abbrev Np:List Addr->Heap->Prop:=d8 213 209 (BP pO) "_law_lexer.<locals>.give"
noncomputable abbrev NI:List Addr->Heap->Prop:=d8 223 221 (CC cn) "_law_row.<locals>.<lambda>"
noncomputable def BB(w:Pt)(s:OX):bc:={ prog:=pr,w:=w,h₀:=di s.heap [209,221],tabs := [209,221],os:=s.os,tab:=λρ h=>Np ρ h/\NI ρ h }
section
variable {w:Pt}{mg mb:Str->Option OT}{s:OX}{js:List Int}
theorem nr{b:Addr}{o:Obj}(hb:b∉([209,221]:List Addr))(e:s.heap.get? b=some o):(BB w s).h₀.get? b=some o:=by
 show(di s.heap [209,221]).get? b=_
 rw[bR,if_neg hb];exact e
theorem Jg{b:Addr}{o:Obj}(e:(BB w s).h₀.get? b=some o):b∉([209,221]:List Addr)/\s.heap.get? b=some o:=jj e
theorem xD{b:Addr}(hb:b∈([209,221]:List Addr)):(BB w s).h₀.get? b=none:=by
 show(di s.heap [209,221]).get? b=_
 rw[bR,if_pos hb]
theorem aN(R:eI w mg mb s 250 js){b:Addr}{o:Obj}(hb:b<250)(h9:b∉([209,221]:List Addr))(e:(Ii w.params).get b=some o)(al:alive o=some o):(BB w s).h₀.get? b=some o :=
 nr h9 (R.head _ _ (ix hb e al))
theorem n0(R:eI w mg mb s 250 js):(BB w s).n₀=251:=by
 show(di s.heap [209,221]).objs.size=251
 rw[<- R.size]
 simp[di,Heap.update]
theorem mE(R:eI w mg mb s 250 js):(BB w s).Ok where
 tab_step:=λρ ρ' h h' T hk hn=>⟨d8.step T.1 hk hn,d8.step T.2 hk hn⟩
 top:=by
  obtain⟨vs,e,_⟩:=R.arg
  have:=n0 R
  refine⟨{ cls:=.type "list",data:=.seq vs },?_⟩
  rw[show(BB w s).h₀.objs.size=251 from this]
  exact nr (by decide) e
 tab_live:=λρ h T a ha=>by
  have ha:a∈([209,221]:List Addr):=ha
  rcases PW.mp ha with rfl | ha
  ·obtain⟨ps,_,ht,_⟩:=T.1.is;exact⟨_,ht.2⟩
  ·cases OS.mp ha
   obtain⟨ps,_,ht,_⟩:=T.2.is;exact⟨_,ht.2⟩
theorem fO(R:eI w mg mb s 250 js):∀a∈(BB w s).tabs,a<(BB w s).n₀:=λa ha=>by
 rw[n0 R]
 exact(by decide:∀a∈([209,221]:List Addr),a<251) a ha
theorem ut{a:Addr}{m:Str->Option OT}(ha:a∉([209,221]:List Addr))(h:s.heap.Ns a m):(BB w s).h₀.Ns a m:=by
 obtain⟨o,es,ep,e,r⟩:=h
 exact⟨o,es,ep,nr ha e,r⟩
theorem fN(R:eI w mg mb s 250 js):(BB w s).h₀.NoLimit:=by
 obtain⟨mean,T⟩:=R.top
 exact Heap.NoLimit.at T.nolimit λo e=>nr (by decide) e
noncomputable def pX(P:Params):Array Qj:=match (uv P).data with | .dict es _=>es | _=> #[]
theorem CW(R:eI w mg mb s 250 js)(n:Str):mg n=nsFind (pX w.params) n:=by
 obtain⟨mean,T⟩:=R.top
 obtain⟨o,es,ep,e,hd,_,hf⟩:=T.g
 have e3:s.heap.get? 3=some (uv w.params):=R.head _ _ (ix (o:=uv w.params) (by decide) (by kernel_rfl) rfl)
 have:Pz=3:=rfl
 rw[this,e3]at e
 obtain rfl:=sj e
 have hm:(uv w.params).data=.dict (pX w.params) 35:=rfl
 rw[hm]at hd
 obtain⟨rfl,rfl⟩:=Data.dict.inj hd
 exact(hf n).symm
theorem dR(R:eI w mg mb s 250 js){n:Str}{v:OT}(h:nsFind (pX w.params) n=some v):cJ (BB w s) n v:=by
 obtain⟨mean,T⟩:=R.top
 exact⟨mg,ut (by decide) T.g,.inl (by rw[CW R];exact h)⟩
theorem om(R:eI w mg mb s 250 js){n:Str}{v:OT}(h:nsFind (pX w.params) n=none)(hn:n≠"__name__")(hb:bootBuiltins n=some v):cJ (BB w s) n v:=by
 obtain⟨mean,T⟩:=R.top
 exact⟨mg,ut (by decide) T.g,.inr ⟨by rw[CW R];exact h,mb,ut (by decide) T.b,by rw[T.builtins n hn];exact hb⟩⟩
theorem Cf(R:eI w mg mb s 250 js):xb (BB w s) 250 js:=by
 obtain⟨vs,e,q⟩:=R.arg
 exact⟨⟨vs,⟨_,nr (by decide) e,rfl,0,rfl⟩,q⟩,OZ R.few (by decide)⟩
theorem Op{Pl:Addr}(hP:Pl∈([209,221]:List Addr))(R:eI w mg mb s 250 js):(BB w s).h₀.BuiltinsAt mg Pl:=by
 obtain⟨mean,T⟩:=R.top
 obtain⟨bm,ob,h1,h2,h3,h4,h5,h6⟩:=T.bmain
 have h7:=h1
 rw[CW R]at h7
 have h8:nsFind (pX w.params) "__builtins__"=some (.ref 4):=by kernel_rfl
 rw[h8]at h7
 obtain rfl:=Qv (sj h7)
 exact⟨4,ob,h1,h2,by decide,(by decide:∀a∈([209,221]:List Addr),4≠a) Pl hP,nr (by decide) h3,h4,h5,h6⟩
end
noncomputable def gN:PF:=nU (ah 2) "in_table_b1" (S "cpy313.stringprep" 187) (.ref 31)
theorem p4:dw gN (aF (ah 2)) ["code"] ["code"]:=⟨rfl,by kernel_rfl,by kernel_rfl,by kernel_rfl,by kernel_rfl,by decide+kernel,⟨_,rfl⟩,by decide+kernel,λu h=>by obtain⟨a0,rfl⟩:=k7 h;kernel_rfl⟩
noncomputable def gk:PF:=nU (ah 4) "map_table_b3" (S "cpy313.stringprep" 187) (.ref 77)
theorem oD:dw gk (aF (ah 4)) ["code"] ["code","r"]:=⟨rfl,by kernel_rfl,by kernel_rfl,by kernel_rfl,by kernel_rfl,by decide+kernel,⟨_,rfl⟩,by decide+kernel,λu h=>by obtain⟨a0,rfl⟩:=k7 h;kernel_rfl⟩
noncomputable def eh:PF:=nU (ah 6) "_parse_varint" (S "cpy313.dis" 2215) (.ref 84)
theorem ny:dw eh (aF (ah 6)) ["iterator"] ["iterator","b","val"]:=⟨rfl,by kernel_rfl,by kernel_rfl,by kernel_rfl,by kernel_rfl,by decide+kernel,⟨_,rfl⟩,by decide+kernel,λu h=>by obtain⟨a0,rfl⟩:=k7 h;kernel_rfl⟩
noncomputable def dJ:PF:=nU (c4 8 0) "_netrclex.__init__" (S "cpy313.netrc" 2226) (.ref 98)
theorem jK:dw dJ (aF (c4 8 0)) ["self","fp"] ["self","fp"]:=⟨rfl,by kernel_rfl,by kernel_rfl,by kernel_rfl,by kernel_rfl,by decide+kernel,⟨_,rfl⟩,by decide+kernel,λu h=>by obtain⟨a0,a1,rfl⟩:=uh h;kernel_rfl⟩
noncomputable def cY:PF:=nU (c4 8 1) "_netrclex._read_char" (S "cpy313.netrc" 2226) (.ref 105)
theorem iS:dw cY (aF (c4 8 1)) ["self"] ["self","ch"]:=⟨rfl,by kernel_rfl,by kernel_rfl,by kernel_rfl,by kernel_rfl,by decide+kernel,⟨_,rfl⟩,by decide+kernel,λu h=>by obtain⟨a0,rfl⟩:=k7 h;kernel_rfl⟩
noncomputable def dg:PF:=nU (c4 8 2) "_netrclex.get_token" (S "cpy313.netrc" 2226) (.ref 112)
theorem jv:dw dg (aF (c4 8 2)) ["self"] ["self","token","fiter","ch"]:=⟨rfl,by kernel_rfl,by kernel_rfl,by kernel_rfl,by kernel_rfl,by decide+kernel,⟨_,rfl⟩,by decide+kernel,λu h=>by obtain⟨a0,rfl⟩:=k7 h;kernel_rfl⟩
noncomputable def cZ:PF:=nU (c4 8 3) "_netrclex.push_token" (S "cpy313.netrc" 2226) (.ref 119)
theorem iT:dw cZ (aF (c4 8 3)) ["self","token"] ["self","token"]:=⟨rfl,by kernel_rfl,by kernel_rfl,by kernel_rfl,by kernel_rfl,by decide+kernel,⟨_,rfl⟩,by decide+kernel,λu h=>by obtain⟨a0,a1,rfl⟩:=uh h;kernel_rfl⟩
noncomputable def fL:PF:=nU (ah 11) "_escape_cdata" (S "cpy313.xml.etree.ElementTree" 2286) (.ref 140)
theorem nw:dw fL (aF (ah 11)) ["text"] ["text"]:=⟨rfl,by kernel_rfl,by kernel_rfl,by kernel_rfl,by kernel_rfl,by decide+kernel,⟨_,rfl⟩,by decide+kernel,λu h=>by obtain⟨a0,rfl⟩:=k7 h;kernel_rfl⟩
noncomputable def fi:PF:=nU (ah 12) "_escape_attrib" (S "cpy313.xml.etree.ElementTree" 2286) (.ref 147)
theorem mF:dw fi (aF (ah 12)) ["text"] ["text"]:=⟨rfl,by kernel_rfl,by kernel_rfl,by kernel_rfl,by kernel_rfl,by decide+kernel,⟨_,rfl⟩,by decide+kernel,λu h=>by obtain⟨a0,rfl⟩:=k7 h;kernel_rfl⟩
noncomputable def df:PF:=nU (ah 13) "_escape_attrib_html" (S "cpy313.xml.etree.ElementTree" 2286) (.ref 154)
theorem ju:dw df (aF (ah 13)) ["text"] ["text"]:=⟨rfl,by kernel_rfl,by kernel_rfl,by kernel_rfl,by kernel_rfl,by decide+kernel,⟨_,rfl⟩,by decide+kernel,λu h=>by obtain⟨a0,rfl⟩:=k7 h;kernel_rfl⟩
noncomputable def dH:PF:=nU (ah 14) "_escape_cdata_c14n" (S "cpy313.xml.etree.ElementTree" 2286) (.ref 161)
theorem jJ:dw dH (aF (ah 14)) ["text"] ["text"]:=⟨rfl,by kernel_rfl,by kernel_rfl,by kernel_rfl,by kernel_rfl,by decide+kernel,⟨_,rfl⟩,by decide+kernel,λu h=>by obtain⟨a0,rfl⟩:=k7 h;kernel_rfl⟩
noncomputable def de:PF:=nU (ah 15) "_escape_attrib_c14n" (S "cpy313.xml.etree.ElementTree" 2286) (.ref 168)
theorem jt:dw de (aF (ah 15)) ["text"] ["text"]:=⟨rfl,by kernel_rfl,by kernel_rfl,by kernel_rfl,by kernel_rfl,by decide+kernel,⟨_,rfl⟩,by decide+kernel,λu h=>by obtain⟨a0,rfl⟩:=k7 h;kernel_rfl⟩
noncomputable def gL:PF:=nU (ah 17) "_law_hidden" (S "law_tc0058_02" 2330) (.ref 175)
theorem p0:dw gL (aF (ah 17)) ["place"] ["place","k"]:=⟨rfl,by kernel_rfl,by kernel_rfl,by kernel_rfl,by kernel_rfl,by decide+kernel,⟨_,rfl⟩,by decide+kernel,λu h=>by obtain⟨a0,rfl⟩:=k7 h;kernel_rfl⟩
noncomputable def jh:PF:=nU (ah 18) "_law_stay" (S "law_tc0058_02" 2330) (.ref 182)
theorem sS:dw jh (aF (ah 18)) ["place"] ["place","signs"]:=⟨rfl,by kernel_rfl,by kernel_rfl,by kernel_rfl,by kernel_rfl,by decide+kernel,⟨_,rfl⟩,by decide+kernel,λu h=>by obtain⟨a0,rfl⟩:=k7 h;kernel_rfl⟩
noncomputable def gM:PF:=nU (ah 19) "_law_letter" (S "law_tc0058_02" 2330) (.ref 189)
theorem p3:dw gM (aF (ah 19)) ["letter","form"] ["letter","form","great"]:=⟨rfl,by kernel_rfl,by kernel_rfl,by kernel_rfl,by kernel_rfl,by decide+kernel,⟨_,rfl⟩,by decide+kernel,λu h=>by obtain⟨a0,a1,rfl⟩:=uh h;kernel_rfl⟩
noncomputable def ir:PF:=nU (ah 20) "_law_typed" (S "law_tc0058_02" 2330) (.ref 194)
theorem qI:dw ir (aF (ah 20)) ["house","stay","x"] ["house","stay","x","typed","hidden"]:=⟨rfl,by kernel_rfl,by kernel_rfl,by kernel_rfl,by kernel_rfl,by decide+kernel,⟨_,rfl⟩,by decide+kernel,λu h=>by obtain⟨a0,a1,a2,rfl⟩:=ui h;kernel_rfl⟩
noncomputable def j6:PF:=nU (ah 21) "_law_raw" (S "law_tc0058_02" 2330) (.ref 199)
theorem uw:dw j6 (aF (ah 21)) ["place","way","word"] ["place","way","word","text","ahead"]:=⟨rfl,by kernel_rfl,by kernel_rfl,by kernel_rfl,by kernel_rfl,by decide+kernel,⟨_,rfl⟩,by decide+kernel,λu h=>by obtain⟨a0,a1,a2,rfl⟩:=ui h;kernel_rfl⟩
noncomputable def jf:PF:=nU (ah 22) "_law_list" (S "law_tc0058_02" 2330) (.ref 206)
theorem sQ:dw jf (aF (ah 22)) ["row","stay","seed"] ["row","stay","seed","pieces","j","x"]:=⟨rfl,by kernel_rfl,by kernel_rfl,by kernel_rfl,by kernel_rfl,by decide+kernel,⟨_,rfl⟩,by decide+kernel,λu h=>by obtain⟨a0,a1,a2,rfl⟩:=ui h;kernel_rfl⟩
noncomputable def ip:PF:=nU (ah 23) "_law_lexer" (S "law_tc0058_02" 2330) (.ref 213)
theorem qG:dw ip (aF (ah 23)) ["signs"] ["signs","stream","give"]:=⟨rfl,by kernel_rfl,by kernel_rfl,by kernel_rfl,by kernel_rfl,by decide+kernel,⟨_,rfl⟩,by decide+kernel,λu h=>by obtain⟨a0,rfl⟩:=k7 h;kernel_rfl⟩
noncomputable def gh:PF:=nU (ah 24) "_law_numbers" (S "law_tc0058_02" 2330) (.ref 218)
theorem oA:dw gh (aF (ah 24)) ["text"] ["text","octets","numbers"]:=⟨rfl,by kernel_rfl,by kernel_rfl,by kernel_rfl,by kernel_rfl,by decide+kernel,⟨_,rfl⟩,by decide+kernel,λu h=>by obtain⟨a0,rfl⟩:=k7 h;kernel_rfl⟩
noncomputable def j7:PF:=nU (ah 25) "_law_row" (S "law_tc0058_02" 2330) (.ref 223)
theorem ux:dw j7 (aF (ah 25)) ["y","plates"] ["y","plates","hands","hand","told","plate","numbers"]:=⟨rfl,by kernel_rfl,by kernel_rfl,by kernel_rfl,by kernel_rfl,by decide+kernel,⟨_,rfl⟩,by decide+kernel,λu h=>by obtain⟨a0,a1,rfl⟩:=uh h;kernel_rfl⟩
noncomputable def gj:PF:=nU (ah 26) "_law_spelled" (S "law_tc0058_02" 2330) (.ref 228)
theorem oB:dw gj (aF (ah 26)) ["plate","hand"] ["plate","hand","tables"]:=⟨rfl,by kernel_rfl,by kernel_rfl,by kernel_rfl,by kernel_rfl,by decide+kernel,⟨_,rfl⟩,by decide+kernel,λu h=>by obtain⟨a0,a1,rfl⟩:=uh h;kernel_rfl⟩
noncomputable def iq:PF:=nU (ah 27) "_law_order" (S "law_tc0058_02" 2330) (.ref 233)
theorem qH:dw iq (aF (ah 27)) ["y","plates"] ["y","plates","worths","plate","text","worth","more","weight","c"]:=⟨rfl,by kernel_rfl,by kernel_rfl,by kernel_rfl,by kernel_rfl,by decide+kernel,⟨_,rfl⟩,by decide+kernel,λu h=>by obtain⟨a0,a1,rfl⟩:=uh h;kernel_rfl⟩
noncomputable def j8:PF:=nU (ah 28) "_law_run" (S "law_tc0058_02" 2330) (.ref 238)
theorem uy:dw j8 (aF (ah 28)) ["plates","houses","lists","turned"] ["plates","houses","lists","turned","texts","lexers","line","plate","here","wish","come","path","last","word","ring"]:=⟨rfl,by kernel_rfl,by kernel_rfl,by kernel_rfl,by kernel_rfl,by decide+kernel,⟨_,rfl⟩,by decide+kernel,λu h=>by obtain⟨a0,a1,a2,a3,rfl⟩:=NO h;kernel_rfl⟩
noncomputable def jg:PF:=nU (ah 29) "_law_rest" (S "law_tc0058_02" 2330) (.ref 243)
theorem sR:dw jg (aF (ah 29)) ["lists","places"] ["lists","places","left"]:=⟨rfl,by kernel_rfl,by kernel_rfl,by kernel_rfl,by kernel_rfl,by decide+kernel,⟨_,rfl⟩,by decide+kernel,λu h=>by obtain⟨a0,a1,rfl⟩:=uh h;kernel_rfl⟩
noncomputable def pE:PF:=nU (ah 30) "law" (S "law_tc0058_02" 2330) (.ref 248)
theorem JS:dw pE (aF (ah 30)) ["script"] ["script","cells","stay","signs","plates","houses","told","orders","lists","run","got","ranks","places","rows","size","row","gains","others"]:=⟨rfl,by kernel_rfl,by kernel_rfl,by kernel_rfl,by kernel_rfl,by decide+kernel,⟨_,rfl⟩,by decide+kernel,λu h=>by obtain⟨a0,rfl⟩:=k7 h;kernel_rfl⟩
section
variable {w:Pt}{mg mb:Str->Option OT}{s:OX}{js:List Int}(R:eI w mg mb s 250 js)
include R
theorem jZ:cB (BB w s) 32 gN :=
 ⟨⟨y9,aN R (by decide) (by decide) (by kernel_rfl) rfl,by kernel_rfl⟩,31,y8,_,_,rfl,aN R (by decide) (by decide) (by kernel_rfl) rfl,rfl,rfl⟩
theorem jB:cB (BB w s) 78 gk :=
 ⟨⟨C4,aN R (by decide) (by decide) (by kernel_rfl) rfl,by kernel_rfl⟩,77,C3,_,_,rfl,aN R (by decide) (by decide) (by kernel_rfl) rfl,rfl,rfl⟩
theorem iI:cB (BB w s) 85 eh :=
 ⟨⟨C6,aN R (by decide) (by decide) (by kernel_rfl) rfl,by kernel_rfl⟩,84,C5,_,_,rfl,aN R (by decide) (by decide) (by kernel_rfl) rfl,rfl,rfl⟩
theorem jE:cB (BB w s) 99 dJ :=
 ⟨⟨wf,aN R (by decide) (by decide) (by kernel_rfl) rfl,by kernel_rfl⟩,98,C7,_,_,rfl,aN R (by decide) (by decide) (by kernel_rfl) rfl,rfl,rfl⟩
theorem ba:cB (BB w s) 106 cY :=
 ⟨⟨sN,aN R (by decide) (by decide) (by kernel_rfl) rfl,by kernel_rfl⟩,105,yg,_,_,rfl,aN R (by decide) (by decide) (by kernel_rfl) rfl,rfl,rfl⟩
theorem ce:cB (BB w s) 113 dg :=
 ⟨⟨sO,aN R (by decide) (by decide) (by kernel_rfl) rfl,by kernel_rfl⟩,112,yh,_,_,rfl,aN R (by decide) (by decide) (by kernel_rfl) rfl,rfl,rfl⟩
theorem bZ:cB (BB w s) 120 cZ :=
 ⟨⟨sP,aN R (by decide) (by decide) (by kernel_rfl) rfl,by kernel_rfl⟩,119,yi,_,_,rfl,aN R (by decide) (by decide) (by kernel_rfl) rfl,rfl,rfl⟩
theorem iH:cB (BB w s) 141 fL :=
 ⟨⟨ym,aN R (by decide) (by decide) (by kernel_rfl) rfl,by kernel_rfl⟩,140,yl,_,_,rfl,aN R (by decide) (by decide) (by kernel_rfl) rfl,rfl,rfl⟩
theorem hO:cB (BB w s) 148 fi :=
 ⟨⟨yo,aN R (by decide) (by decide) (by kernel_rfl) rfl,by kernel_rfl⟩,147,yn,_,_,rfl,aN R (by decide) (by decide) (by kernel_rfl) rfl,rfl,rfl⟩
theorem ff:cB (BB w s) 155 df :=
 ⟨⟨yq,aN R (by decide) (by decide) (by kernel_rfl) rfl,by kernel_rfl⟩,154,yp,_,_,rfl,aN R (by decide) (by decide) (by kernel_rfl) rfl,rfl,rfl⟩
theorem fF:cB (BB w s) 162 dH :=
 ⟨⟨yu,aN R (by decide) (by decide) (by kernel_rfl) rfl,by kernel_rfl⟩,161,yt,_,_,rfl,aN R (by decide) (by decide) (by kernel_rfl) rfl,rfl,rfl⟩
theorem fe:cB (BB w s) 169 de :=
 ⟨⟨yx,aN R (by decide) (by decide) (by kernel_rfl) rfl,by kernel_rfl⟩,168,yw,_,_,rfl,aN R (by decide) (by decide) (by kernel_rfl) rfl,rfl,rfl⟩
theorem jX:cB (BB w s) 176 gL :=
 ⟨⟨yA,aN R (by decide) (by decide) (by kernel_rfl) rfl,by kernel_rfl⟩,175,yz,_,_,rfl,aN R (by decide) (by decide) (by kernel_rfl) rfl,rfl,rfl⟩
theorem l9:cB (BB w s) 183 jh :=
 ⟨⟨yD,aN R (by decide) (by decide) (by kernel_rfl) rfl,by kernel_rfl⟩,182,yC,_,_,rfl,aN R (by decide) (by decide) (by kernel_rfl) rfl,rfl,rfl⟩
theorem gJ:cB (BB w s) 190 gM :=
 ⟨⟨yH,aN R (by decide) (by decide) (by kernel_rfl) rfl,by kernel_rfl⟩,189,yE,_,_,rfl,aN R (by decide) (by decide) (by kernel_rfl) rfl,rfl,rfl⟩
theorem lg:cB (BB w s) 195 ir :=
 ⟨⟨yJ,aN R (by decide) (by decide) (by kernel_rfl) rfl,by kernel_rfl⟩,194,yI,_,_,rfl,aN R (by decide) (by decide) (by kernel_rfl) rfl,rfl,rfl⟩
theorem nM:cB (BB w s) 200 j6 :=
 ⟨⟨yL,aN R (by decide) (by decide) (by kernel_rfl) rfl,by kernel_rfl⟩,199,yK,_,_,rfl,aN R (by decide) (by decide) (by kernel_rfl) rfl,rfl,rfl⟩
theorem jb:cB (BB w s) 207 jf :=
 ⟨⟨yN,aN R (by decide) (by decide) (by kernel_rfl) rfl,by kernel_rfl⟩,206,yM,_,_,rfl,aN R (by decide) (by decide) (by kernel_rfl) rfl,rfl,rfl⟩
theorem im:cB (BB w s) 214 ip :=
 ⟨⟨yP,aN R (by decide) (by decide) (by kernel_rfl) rfl,by kernel_rfl⟩,213,kG,_,_,rfl,aN R (by decide) (by decide) (by kernel_rfl) rfl,rfl,rfl⟩
theorem jz:cB (BB w s) 219 gh :=
 ⟨⟨yR,aN R (by decide) (by decide) (by kernel_rfl) rfl,by kernel_rfl⟩,218,yQ,_,_,rfl,aN R (by decide) (by decide) (by kernel_rfl) rfl,rfl,rfl⟩
theorem nN:cB (BB w s) 224 j7 :=
 ⟨⟨yT,aN R (by decide) (by decide) (by kernel_rfl) rfl,by kernel_rfl⟩,223,kI,_,_,rfl,aN R (by decide) (by decide) (by kernel_rfl) rfl,rfl,rfl⟩
theorem jA:cB (BB w s) 229 gj :=
 ⟨⟨yV,aN R (by decide) (by decide) (by kernel_rfl) rfl,by kernel_rfl⟩,228,yU,_,_,rfl,aN R (by decide) (by decide) (by kernel_rfl) rfl,rfl,rfl⟩
theorem lf:cB (BB w s) 234 iq :=
 ⟨⟨yX,aN R (by decide) (by decide) (by kernel_rfl) rfl,by kernel_rfl⟩,233,yW,_,_,rfl,aN R (by decide) (by decide) (by kernel_rfl) rfl,rfl,rfl⟩
theorem jY:cB (BB w s) 239 j8 :=
 ⟨⟨yZ,aN R (by decide) (by decide) (by kernel_rfl) rfl,by kernel_rfl⟩,238,yY,_,_,rfl,aN R (by decide) (by decide) (by kernel_rfl) rfl,rfl,rfl⟩
theorem jc:cB (BB w s) 244 jg :=
 ⟨⟨y4,aN R (by decide) (by decide) (by kernel_rfl) rfl,by kernel_rfl⟩,243,y3,_,_,rfl,aN R (by decide) (by decide) (by kernel_rfl) rfl,rfl,rfl⟩
theorem IQ:cB (BB w s) 249 pE :=
 ⟨⟨y6,aN R (by decide) (by decide) (by kernel_rfl) rfl,by kernel_rfl⟩,248,y5,_,_,rfl,aN R (by decide) (by decide) (by kernel_rfl) rfl,rfl,rfl⟩
end
end
end Mine
namespace Mine
open Mine.H1
noncomputable section
variable {w:Pt}{mg mb:Str->Option OT}{s:OX}{js:List Int}
noncomputable abbrev KF(P:Params):Frag := [(123,yk),(122,yj P),(99,wf),(106,sN),(113,sO),(120,sP)]
theorem KS(R:eI w mg mb s 250 js):(KF w.params).In (BB w s).h₀:=by
 intro a o e
 simp only[List.lookup]at e
 repeat' split at e
 all_goals first | (exact nO e;done) | skip
 all_goals
  rename_i q
  obtain rfl:=beq_iff_eq.mp q
  obtain rfl:=sj e
  exact aN R (by decide) (by decide) (by kernel_rfl) rfl
theorem f7(R:eI w mg mb s 250 js):gT (BB w s) (KF w.params) 123 where
 inn:=KS R
 get:=⟨by kernel_rfl,by kernel_rfl⟩
 set:=by kernel_rfl
 dict:=by kernel_rfl
 over:=by kernel_rfl
theorem xr(P:Params):findIn (KF P) (.ref 123) "__init__"=some (some (.ref 99)):=by kernel_rfl
theorem gz(P:Params):findIn (KF P) (.ref 123) "_read_char"=some (some (.ref 106)):=by kernel_rfl
theorem ji(P:Params):findIn (KF P) (.ref 123) "get_token"=some (some (.ref 113)):=by kernel_rfl
theorem iu(P:Params):findIn (KF P) (.ref 123) "push_token"=some (some (.ref 120)):=by kernel_rfl
theorem no(P:Params):findIn (KF P) (.ref 123) "lineno"=some none:=by kernel_rfl
theorem nV(P:Params):findIn (KF P) (.ref 123) "instream"=some none:=by kernel_rfl
theorem iw(P:Params):findIn (KF P) (.ref 123) "whitespace"=some none:=by kernel_rfl
theorem hU(P:Params):findIn (KF P) (.ref 123) "pushback"=some none:=by kernel_rfl
theorem xu(P:Params):findIn (KF P) (.ref 123) "read"=some none:=by kernel_rfl
theorem Ft(P:Params):isFn (KF P) (.ref 99)=true/\isFn (KF P) (.ref 106)=true/\isFn (KF P) (.ref 113)=true/\isFn (KF P) (.ref 120)=true:=⟨by kernel_rfl,by kernel_rfl,by kernel_rfl,by kernel_rfl⟩
theorem HZ(P:Params):makesIn (KF P) 123=true:=by kernel_rfl
theorem HV(P:Params):keepIn (KF P) (.ref 123)=true:=by kernel_rfl
theorem M1(P:Params):typeIn (KF P) (.ref 99)=some (.type "function"):=by kernel_rfl
theorem M0(P:Params):typeIn (KF P) (.ref 106)=some (.type "function"):=by kernel_rfl
theorem Lk(P:Params):specialIn (KF P) (.ref 106) "__get__"=some (some (.builtin "function.__get__")):=by kernel_rfl
theorem MY(P:Params):takesIn (KF P) (.ref 106)=some false:=by kernel_rfl
noncomputable def Ie:OT->Option Str
 | .str x _=>some x
 | _=>none
noncomputable def KL(k:Int):Option Str:=(l6.find? λe=>Rs k e.key).bind λe=>Ie e.val
theorem u8(d:Nat):∀(l:List (Option OQ×OQ))(t:Nat),∀e∈mh d l t,∃x t,e.val=.str x t:=by
 intro l
 induction l with
 | nil=>intro t e he;cases he
 | cons x l ih =>
  intro t e he
  rcases PW.mp he with rfl | he
  ·exact⟨_,_,rfl⟩
  ·exact ih _ e he
theorem xe{e:Qj}(h:e∈l6):(∃k t,e.key=.int k t)/\∃x t,e.val=.str x t:=by
 obtain⟨c,_,hc⟩:=Qq.mp h
 exact⟨n3 _ _ _ e hc,u8 _ _ _ e hc⟩
theorem Bs:(l6.all λe=>match e.key with | .int k _=>e.hash==hashInt k | _=>false)=true:=by kernel_rfl
theorem La(R:eI w mg mb s 250 js):r6 (BB w s) 33 KL where
 is:=by
  have ho:(BB w s).h₀.get? 33=some { cls:=.type "dict",data:=.dict l6.toArray l6.length }:=aN R (by decide) (by decide) (by kernel_rfl) rfl
  refine⟨λk=>findBy Rs l6.toArray k,⟨_,l6.toArray,l6.length,ho,⟨rfl,rfl,rfl⟩,rfl,λe he=>?_,λk=>rfl⟩,by decide,λk=>?_⟩
  ·have he:e∈l6:=by simpa using he
   obtain⟨⟨k,t,hk⟩,_⟩:=xe he
   have:=O6.mp Bs e he
   rw[hk]at this
   exact⟨k,by rw[hk];show Rs k (.int k t)=true;simp[Rs],by show e.hash=hashInt k;exact beq_iff_eq.mp this⟩
  ·show match KL k with | none=>findBy Rs l6.toArray k=none | some x=>∃t,findBy Rs l6.toArray k=some (.str x t)
   unfold KL findBy
   rw[List.find?_toArray]
   cases h:l6.find? λe=>Rs k e.key with
   | none=>simp
   | some e =>
    obtain⟨_,x,t,hv⟩:=xe (SR h)
    show(match Ie e.val with | none=>some e.val=none | some x=>∃t,some e.val=some (.str x t))
    rw[hv];exact⟨t,rfl⟩
noncomputable def ED(k:Int):Bool := [173,847,6150,6155,6156,6157,8203,8204,8205,8288,65279].contains k || (decide (65024<=k)&&decide (k<65040))
noncomputable def zn(P:Params):Array (Int×OT):=match (n5 P).data with | .set es _ _=>es | _=> #[]
noncomputable def Md(P:Params):SetTable:=match (n5 P).data with | .set _ _ t=>t | _=>default
theorem J3(P:Params):((zn P).toList.all λe=>match e.2 with | .int k _=>e.1==hashInt k&&ED k&&e.2.scannable | _=>false)=true:=by kernel_rfl
noncomputable def Nl:List Int := [173,847,6150,6155,6156,6157,8203,8204,8205,8288,65279]++(OP 16).map λ(i:Nat)=>65024+(i:Int)
theorem IR{k:Int}(h:ED k=true):k∈Nl:=by
 unfold ED at h
 rw[Bool.or_eq_true]at h
 unfold Nl
 rw[Pk]
 rcases h with h | h
 ·left;simpa using h
 ·right
  rw[PD,decide_eq_true_eq,decide_eq_true_eq]at h
  rw[PY]
  exact⟨(k - 65024).toNat,O5.mpr (by lia),by lia⟩
theorem GP(P:Params):(Nl.all λk=>(zn P).toList.any λe=>Rs k e.2)=true:=by kernel_rfl
theorem zo(P:Params){e:Int×OT}(he:e∈(zn P).toList):∃k t,e.2=.int k t/\e.1=hashInt k/\ED k=true/\e.2.scannable=true:=by
 have:=O6.mp (J3 P) e he
 cases hv:e.2 with
 | int k t =>
  rw[hv]at this
  obtain⟨a,c⟩:=P0.mp this
  obtain⟨a,b⟩:=P0.mp a
  exact⟨k,t,rfl,beq_iff_eq.mp a,b,c⟩
 | _=>rw[hv]at this;exact nc QH this rfl
theorem N0(R:eI w mg mb s 250 js):vx (BB w s) 22 ED where
 is:=by
  have ho:(BB w s).h₀.get? 22=some (n5 w.params):=aN R (by decide) (by decide) (by kernel_rfl) rfl
  refine⟨27,n5 w.params,zn w.params,29,Md w.params,ho,⟨rfl,rfl,rfl⟩,rfl,λe he=>?_,λk=>⟨λh=>List.any_eq_true.mp (O6.mp (GP w.params) k (IR h)),λq=>?_⟩,(show 27<scanBound by decide+kernel),by kernel_rfl,by kernel_rfl⟩
  ·obtain⟨k,t,hk,h1,_,h3⟩:=zo _ he
   exact⟨⟨k,by rw[hk];exact beq_self_eq_true k,h1⟩,h3⟩
  ·obtain⟨e,he,hk⟩:=q
   obtain⟨k',t,hk',_,h2,_⟩:=zo _ he
   rw[hk']at hk
   obtain rfl:k'=k:=beq_iff_eq.mp hk
   exact h2
end
end Mine
end
section
open PySem PySem.Calls PySem.SeqAt PySem.W
set_option maxRecDepth 100000
namespace Mine
open Mine.H1
noncomputable section
theorem M3(p:Str×dc):∀(i j:Nat)(l:dc),([p].map (·.2))[i]?=some l->([p].map (·.2))[j]?=some l->i=j:=λi j l h1 h2=>by
 have hi:=(OW.mp h1).1
 have hj:=(OW.mp h2).1
 have hi:i<1:=hi
 have hj:j<1:=hj
 omega
theorem rl{i:Nat}{st st':St}{y:V}(h:Mine.getL i st=some (y,st')):st'=st :=
 iO h λx u e=>by obtain⟨rfl,rfl⟩:=PZ e;rfl
noncomputable def eN:M Fl :=
 (b8 (pP ED (bO (ab (getL 0) am) mI)))
noncomputable def fX:List V->M V:=λxs=>if xs.length=1 then kV 1 (eN) xs else av
noncomputable def fq:M Fl :=
 (aw (af 1 (mw KL (bO (ab (getL 0) am) mI)))
 (aw (a8 (ao (getL 1) λx=>match x with | .glob _=>av | x=>aa (x != .none)) (b8 (getL 1)) (aa .next))
 (b8 (bn fG (getL 0) am wa))))
noncomputable def eZ:List V->M V:=λxs=>if xs.length=1 then kV 2 (fq) xs else av
noncomputable def gn:M Fl :=
 (aw (a8 (aT iA (aa (.str (OO "&"))) (getL 0)) (af 0 (cR (getL 0) (OO "&") (OO "&amp;"))) (aa .next))
 (aw (a8 (aT iA (aa (.str (OO "<"))) (getL 0)) (af 0 (cR (getL 0) (OO "<") (OO "&lt;"))) (aa .next))
 (aw (a8 (aT iA (aa (.str (OO ">"))) (getL 0)) (af 0 (cR (getL 0) (OO ">") (OO "&gt;"))) (aa .next))
 (b8 (getL 0)))))
noncomputable def ge:List V->M V:=λxs=>if xs.length=1 then kV 1 (gn) xs else av
noncomputable def fP:M Fl :=
 (aw (a8 (aT iA (aa (.str (OO "&"))) (getL 0)) (af 0 (cR (getL 0) (OO "&") (OO "&amp;"))) (aa .next))
 (aw (a8 (aT iA (aa (.str (OO "<"))) (getL 0)) (af 0 (cR (getL 0) (OO "<") (OO "&lt;"))) (aa .next))
 (aw (a8 (aT iA (aa (.str (OO ">"))) (getL 0)) (af 0 (cR (getL 0) (OO ">") (OO "&gt;"))) (aa .next))
 (aw (a8 (aT iA (aa (.str (OO "\""))) (getL 0)) (af 0 (cR (getL 0) (OO "\"") (OO "&quot;"))) (aa .next))
 (aw (a8 (aT iA (aa (.str (OO "\r"))) (getL 0)) (af 0 (cR (getL 0) (OO "\r") (OO "&#13;"))) (aa .next))
 (aw (a8 (aT iA (aa (.str (OO "\n"))) (getL 0)) (af 0 (cR (getL 0) (OO "\n") (OO "&#10;"))) (aa .next))
 (aw (a8 (aT iA (aa (.str (OO "\t"))) (getL 0)) (af 0 (cR (getL 0) (OO "\t") (OO "&#09;"))) (aa .next))
 (b8 (getL 0)))))))))
noncomputable def fI:List V->M V:=λxs=>if xs.length=1 then kV 1 (fP) xs else av
noncomputable def dL:M Fl :=
 (aw (a8 (aT iA (aa (.str (OO "&"))) (getL 0)) (af 0 (cR (getL 0) (OO "&") (OO "&amp;"))) (aa .next))
 (aw (a8 (aT iA (aa (.str (OO ">"))) (getL 0)) (af 0 (cR (getL 0) (OO ">") (OO "&gt;"))) (aa .next))
 (aw (a8 (aT iA (aa (.str (OO "\""))) (getL 0)) (af 0 (cR (getL 0) (OO "\"") (OO "&quot;"))) (aa .next))
 (b8 (getL 0)))))
noncomputable def dG:List V->M V:=λxs=>if xs.length=1 then kV 1 (dL) xs else av
noncomputable def dZ:M Fl :=
 (aw (a8 (aT iA (aa (.str (OO "&"))) (getL 0)) (af 0 (cR (getL 0) (OO "&") (OO "&amp;"))) (aa .next))
 (aw (a8 (aT iA (aa (.str (OO "<"))) (getL 0)) (af 0 (cR (getL 0) (OO "<") (OO "&lt;"))) (aa .next))
 (aw (a8 (aT iA (aa (.str (OO ">"))) (getL 0)) (af 0 (cR (getL 0) (OO ">") (OO "&gt;"))) (aa .next))
 (aw (a8 (aT iA (aa (.str (OO "\r"))) (getL 0)) (af 0 (cR (getL 0) (OO "\r") (OO "&#xD;"))) (aa .next))
 (b8 (getL 0))))))
noncomputable def dU:List V->M V:=λxs=>if xs.length=1 then kV 1 (dZ) xs else av
noncomputable def dK:M Fl :=
 (aw (a8 (aT iA (aa (.str (OO "&"))) (getL 0)) (af 0 (cR (getL 0) (OO "&") (OO "&amp;"))) (aa .next))
 (aw (a8 (aT iA (aa (.str (OO "<"))) (getL 0)) (af 0 (cR (getL 0) (OO "<") (OO "&lt;"))) (aa .next))
 (aw (a8 (aT iA (aa (.str (OO "\""))) (getL 0)) (af 0 (cR (getL 0) (OO "\"") (OO "&quot;"))) (aa .next))
 (aw (a8 (aT iA (aa (.str (OO "\t"))) (getL 0)) (af 0 (cR (getL 0) (OO "\t") (OO "&#x9;"))) (aa .next))
 (aw (a8 (aT iA (aa (.str (OO "\n"))) (getL 0)) (af 0 (cR (getL 0) (OO "\n") (OO "&#xA;"))) (aa .next))
 (aw (a8 (aT iA (aa (.str (OO "\r"))) (getL 0)) (af 0 (cR (getL 0) (OO "\r") (OO "&#xD;"))) (aa .next))
 (b8 (getL 0))))))))
noncomputable def dF:List V->M V:=λxs=>if xs.length=1 then kV 1 (dK) xs else av
noncomputable def f0:M Fl :=
 (aw (af 1 (aj c5 (getL 0) (aa (.int 27))))
 (b8 (bO (ab (a8 (aT EH (getL 1) (aa (.int 11))) (aj aA (aP (ab (aa (.int 173)) (ab (aa (.int 847)) (ab (aa (.int 6150)) (ab (aa (.int 6155)) (ab (aa (.int 6156)) (ab (aa (.int 6157)) (ab (aa (.int 8203)) (ab (aa (.int 8204)) (ab (aa (.int 8205)) (ab (aa (.int 8288)) (ab (aa (.int 65279)) am)))))))))))) (getL 1)) (aj bf (aa (.int 65013)) (getL 1))) am) sv)))
noncomputable def fW:List V->M V:=λxs=>if xs.length=1 then kV 2 (f0) xs else av
noncomputable def ic:M Fl :=
 (aw (af 1 (aP (ab (aa (.int 172)) (ab (aa (.int 174)) (ab (aa (.int 846)) (ab (aa (.int 848)) (ab (aa (.int 6149)) (ab (aa (.int 6151)) (ab (aa (.int 6154)) (ab (aa (.int 6158)) (ab (aa (.int 8202)) (ab (aa (.int 8206)) (ab (aa (.int 8287)) (ab (aa (.int 8289)) (ab (aa (.int 65023)) (ab (aa (.int 65040)) (ab (aa (.int 65278)) (ab (aa (.int 65280)) am))))))))))))))))))
 (b8 (bO (ab (aj aA (aj bf (getL 1) (aP (ab (aa (.int 34)) (ab (aa (.int 92)) (ab (aa (.int 35)) (ab (aa (.int 32)) am)))))) (aj c5 (getL 0) (aa (.int 20)))) am) sv)))
noncomputable def gX:List V->M V:=λxs=>if xs.length=1 then kV 2 (ic) xs else av
noncomputable def f4:M Fl :=
 (aw (af 2 (aP (ab (aa (.int 65)) (ab (aa (.int 119808)) (ab (aa (.int 119860)) (ab (aa (.int 119912)) (ab (aa (.int 120016)) (ab (aa (.int 120172)) (ab (aa (.int 120224)) (ab (aa (.int 120276)) (ab (aa (.int 120328)) (ab (aa (.int 120380)) (ab (aa (.int 120432)) am)))))))))))))
 (aw (a8 (aT iM (getL 1) (aa (.int 0))) (b8 (getL 0)) (aa .next))
 (b8 (bO (ab (aj s9 (aj bf (aj aA (getL 2) (aj s9 (getL 1) (aa (.int 1)))) (bO (ab (getL 0) am) mI)) (aa (.int 97))) am) sv))))
noncomputable def dB:List V->M V:=λxs=>if xs.length=2 then kV 3 (f4) xs else av
noncomputable def gD:M Fl :=
 (aw (af 3 (bO (ab (aj bf (aa (.int 64256)) (getL 0)) am) sv))
 (aw (a8 (aT iM (aj c5 (getL 2) (aa (.int 3))) (aa (.int 1))) (af 3 (bn fG (aa (.str (OO ""))) (ab (dY 5 (fj (aj aA (aP (ab (aa (.str (OO "ff"))) (ab (aa (.str (OO "fi"))) (ab (aa (.str (OO "fl"))) (ab (aa (.str (OO "ffi"))) am))))) (getL 0))) (aa true) (bz (ab (getL 5) (ab (aj c5 (aj ez (getL 2) (aa (.int 3))) (aa (.int 12))) am)) dB) 1000) am) gu)) (aa .next))
 (aw (a8 (aT iM (aj c5 (getL 2) (aa (.int 3))) (aa (.int 2))) (af 3 (aj bf (bz (ab (aa (.str (OO "f"))) (ab (aj c5 (aj ez (getL 2) (aa (.int 3))) (aa (.int 12))) am)) dB) (aj aA (aP (ab (aa (.str (OO "f"))) (ab (aa (.str (OO "i"))) (ab (aa (.str (OO "l"))) (ab (bO (ab (aa (.int 64257)) am) sv) am))))) (getL 0)))) (aa .next))
 (aw (af 4 (bz (ab (aj ez (getL 2) (aa (.int 36))) am) fW))
 (b8 (a8 (aT iM (aj c5 (aj ez (getL 2) (aa (.int 972))) (aa (.int 2))) (aa (.int 0))) (aj bf (aj bf (getL 4) (getL 3)) (getL 1)) (aj bf (aj bf (getL 3) (getL 4)) (getL 1))))))))
noncomputable def i4:List V->M V:=λxs=>if xs.length=3 then kV 5 (gD) xs else av
noncomputable def jn:M Fl :=
 (aw (af 3 (bn fG (aa (.str (OO ""))) (ab (dY 5 (fj (getL 2)) (aa true) (a8 (Ak (aT iM (getL 1) (aa (.int 1))) (Ak (aT iA (getL 5) (aj aA (aP (ab (aa (.str (OO "\"\\"))) (ab (aa (.str (OO ""))) (ab (aa (.str (OO " \\"))) am)))) (getL 1))) (aa false))) (aj bf (aa (.str (OO "\\"))) (getL 5)) (getL 5)) 1000) am) gu))
 (aw (af 4 (aj bf (aa (.str (OO "\n"))) (aj aA (aa (.str (OO "\t \r"))) (aj c5 (getL 0) (aa (.int 3))))))
 (aw (a8 (aT iM (getL 1) (aa (.int 0))) (b8 (aj bf (aj bf (aj bf (getL 4) (aa (.str (OO "\"")))) (getL 3)) (aa (.str (OO "\""))))) (aa .next))
 (b8 (aj bf (aj bf (getL 4) (getL 3)) (oU (aa (.str (OO "\r\t\n"))) (bU (getL 0)) (bU (aj bf (getL 0) (aa (.int 1))))))))))
noncomputable def lE:List V->M V:=λxs=>if xs.length=3 then kV 5 (jn) xs else av
noncomputable def hZ:M Fl :=
 (aw (af 3 (aP am))
 (aw (ao (bq (ab (aa (.int 4)) am)) λit=>b4 d4 4 (aw (af 5 (aj bf (getL 2) (aj jI (aa (.int 101)) (getL 4))))
 (eT (bn bE (getL 3) (ab (bz (ab (getL 4) (ab (aj c5 (aj ez (getL 5) (aa (.int 1944))) (aa (.int 3))) (ab (bz (ab (aj aA (getL 0) (getL 4)) (ab (getL 1) (ab (getL 5) am))) i4) am))) lE) am) cb))) 1000 it)
 (b8 (getL 3))))
noncomputable def f6:List V->M V:=λxs=>if xs.length=3 then kV 6 (hZ) xs else av
noncomputable def cG:M Fl :=
 (aw (gb 123 "lineno" (aa (.int 1)) (getL 0))
 (aw (gb 123 "instream" (getL 1) (getL 0))
 (aw (gb 123 "whitespace" (aa (.str (OO "\n\t\r "))) (getL 0))
 (gb 123 "pushback" (aP am) (getL 0)))))
noncomputable def cA:List V->M V:=λxs=>if xs.length=2 then kV 2 (cG) xs else av
noncomputable def bh:M Fl :=
 (eT (bn bE (cE 123 "pushback" (getL 0)) (ab (getL 1) am) cb))
noncomputable def bg:List V->M V:=λxs=>if xs.length=2 then kV 2 (bh) xs else av
noncomputable def fo:M Fl :=
 (aw (af 2 (aP (ab (nR (db (OO "&") (aa (.str (OO "&amp;"))) (db (OO "<") (aa (.str (OO "&lt;"))) (db (OO ">") (aa (.str (OO "&gt;"))) (aa []))))) (ab (nR (db (OO "&") (aa (.str (OO "&amp;"))) (db (OO "<") (aa (.str (OO "&lt;"))) (db (OO ">") (aa (.str (OO "&gt;"))) (db (OO "\"") (aa (.str (OO "&quot;"))) (db (OO "\r") (aa (.str (OO "&#13;"))) (db (OO "\n") (aa (.str (OO "&#10;"))) (db (OO "\t") (aa (.str (OO "&#09;"))) (aa []))))))))) (ab (nR (db (OO "&") (aa (.str (OO "&amp;"))) (db (OO ">") (aa (.str (OO "&gt;"))) (db (OO "\"") (aa (.str (OO "&quot;"))) (aa []))))) (ab (nR (db (OO "&") (aa (.str (OO "&amp;"))) (db (OO "<") (aa (.str (OO "&lt;"))) (db (OO ">") (aa (.str (OO "&gt;"))) (db (OO "\r") (aa (.str (OO "&#xD;"))) (aa [])))))) (ab (nR (db (OO "&") (aa (.str (OO "&amp;"))) (db (OO "<") (aa (.str (OO "&lt;"))) (db (OO "\"") (aa (.str (OO "&quot;"))) (db (OO "\r") (aa (.str (OO "&#xD;"))) (db (OO "\n") (aa (.str (OO "&#xA;"))) (db (OO "\t") (aa (.str (OO "&#x9;"))) (aa [])))))))) am)))))))
 (b8 (bn fG (aa (.str (OO ""))) (ab (dY 3 (fj (getL 0)) (aa true) (bn pS (aj aA (getL 2) (getL 1)) (ab (getL 3) (ab (getL 3) am)) Cc) 1000) am) gu)))
noncomputable def eY:List V->M V:=λxs=>if xs.length=2 then kV 3 (fo) xs else av
noncomputable def gC:M Fl :=
 (aw (af 2 (aP am))
 (aw (ao (fj (getL 1)) λit=>b4 d4 3 (aw (af 4 (bz (ab (getL 3) (ab (aj c5 (getL 0) (aa (.int 5))) am)) eY))
 (aw (af 5 (aa (.int 0)))
 (aw (af 6 (aa (.int 0)))
 (aw (af 7 (aj bf (aa (.int 1)) (bO (ab (dY 9 (fj (getL 4)) (aT EH (bO (ab (getL 9) am) mI) (aa (.int 64))) (getL 9) 1000) am) ki)))
 (aw (ao (fj (uI (getL 4))) λit=>b4 d4 8 (aw (a8 (aT EH (bO (ab (getL 8) am) mI) (aa (.int 64))) (aw (af 6 (aa (.int 0)))
 (af 7 (aj s9 (getL 7) (aa (.int 1))))) (af 6 (aj bf (getL 6) (aa (.int 1)))))
 (af 5 (aj bf (getL 5) (aj jI (aj jI (getL 7) (aj c5 (bO (ab (getL 8) am) mI) (aa (.int 64)))) (aj An (aa (.int 64)) (getL 6)))))) 1000 it)
 (eT (bn bE (getL 2) (ab (aP (ab (aj c5 (getL 5) (aj bf (aa (.int 2)) (aj c5 (aj ez (getL 0) (aa (.int 5))) (aa (.int 99))))) (ab (bO (ab (getL 2) am) ki) am))) am) cb))))))) 1000 it)
 (b8 (dY 9 (fj (bO (ab (getL 2) am) kK)) (aa true) (aj aA (getL 9) (aa (.int 1))) 1000))))
noncomputable def gx:List V->M V:=λxs=>if xs.length=2 then kV 9 (gC) xs else av
noncomputable def ib:M Fl :=
 (aw (af 2 (dY 3 (bq (ab (aa (.int 4)) am)) (aa true) (bn fG (aa (.str (OO ""))) (ab (eG (aj aA (getL 0) (getL 3)) (bU (aj bf (aj aA (getL 1) (getL 3)) (aa (.int 1)))) cr) am) gu) 1000))
 (b8 (aP (ab (getL 2) (ab (dY 3 (bq (ab (aa (.int 4)) am)) (aa true) (aj bf (aa (.int 1)) (bn fG (bn fG (aa (.str (OO ""))) (ab (eG (aj aA (getL 0) (getL 3)) cr (bU (aj bf (aj aA (getL 1) (getL 3)) (aa (.int 1))))) am) gu) (ab (aa (.str (OO "\n"))) am) nh)) 1000) am)))))
noncomputable def dV:List V->M V:=λxs=>if xs.length=2 then kV 3 (ib) xs else av
set_option maxHeartbeats 4000000
section
variable {w:Pt}{mg mb:Str->Option OT}{s:OX}{js:List Int}(R:eI w mg mb s 250 js)
include R
theorem qE:cJ (BB w s) "in_table_b1" (.ref 32):=dR R (by kernel_rfl)
theorem pK:cJ (BB w s) "map_table_b3" (.ref 78):=dR R (by kernel_rfl)
theorem ow:cJ (BB w s) "_parse_varint" (.ref 85):=dR R (by kernel_rfl)
theorem ou:cJ (BB w s) "_escape_cdata" (.ref 141):=dR R (by kernel_rfl)
theorem nq:cJ (BB w s) "_escape_attrib" (.ref 148):=dR R (by kernel_rfl)
theorem jG:cJ (BB w s) "_escape_attrib_html" (.ref 155):=dR R (by kernel_rfl)
theorem j9:cJ (BB w s) "_escape_cdata_c14n" (.ref 162):=dR R (by kernel_rfl)
theorem jF:cJ (BB w s) "_escape_attrib_c14n" (.ref 169):=dR R (by kernel_rfl)
theorem qD:cJ (BB w s) "_law_hidden" (.ref 176):=dR R (by kernel_rfl)
theorem tS:cJ (BB w s) "_law_stay" (.ref 183):=dR R (by kernel_rfl)
theorem lr:cJ (BB w s) "_law_letter" (.ref 190):=dR R (by kernel_rfl)
theorem sG:cJ (BB w s) "_law_typed" (.ref 195):=dR R (by kernel_rfl)
theorem vR:cJ (BB w s) "_law_raw" (.ref 200):=dR R (by kernel_rfl)
theorem nW:cJ (BB w s) "_law_list" (.ref 207):=dR R (by kernel_rfl)
theorem mq:cJ (BB w s) "_law_lexer" (.ref 214):=dR R (by kernel_rfl)
theorem pG:cJ (BB w s) "_law_numbers" (.ref 219):=dR R (by kernel_rfl)
theorem vS:cJ (BB w s) "_law_row" (.ref 224):=dR R (by kernel_rfl)
theorem pI:cJ (BB w s) "_law_spelled" (.ref 229):=dR R (by kernel_rfl)
theorem sF:cJ (BB w s) "_law_order" (.ref 234):=dR R (by kernel_rfl)
theorem pH:cJ (BB w s) "_law_run" (.ref 239):=dR R (by kernel_rfl)
theorem nX:cJ (BB w s) "_law_rest" (.ref 244):=dR R (by kernel_rfl)
theorem B7:cJ (BB w s) "b1_set" (.ref 22):=dR R (by kernel_rfl)
theorem oy:cJ (BB w s) "b3_exceptions" (.ref 33):=dR R (by kernel_rfl)
theorem nY:cJ (BB w s) "_netrclex" (.ref 123):=dR R (by kernel_rfl)
theorem tT:cJ (BB w s) "chr" (.builtin "chr"):=om R (by kernel_rfl) (by decide) (by kernel_rfl)
theorem pL:cJ (BB w s) "ord" (.builtin "ord"):=om R (by kernel_rfl) (by decide) (by kernel_rfl)
theorem pJ:cJ (BB w s) "len" (.builtin "len"):=om R (by kernel_rfl) (by decide) (by kernel_rfl)
theorem Li:cJ (BB w s) "sum" (.builtin "sum"):=om R (by kernel_rfl) (by decide) (by kernel_rfl)
theorem B8:cJ (BB w s) "iter" (.builtin "iter"):=om R (by kernel_rfl) (by decide) (by kernel_rfl)
theorem B9:cJ (BB w s) "next" (.builtin "next"):=om R (by kernel_rfl) (by decide) (by kernel_rfl)
theorem pM:cJ (BB w s) "sorted" (.builtin "sorted"):=om R (by kernel_rfl) (by decide) (by kernel_rfl)
theorem Lh:cJ (BB w s) "min" (.builtin "min"):=om R (by kernel_rfl) (by decide) (by kernel_rfl)
theorem Lg:cJ (BB w s) "max" (.builtin "max"):=om R (by kernel_rfl) (by decide) (by kernel_rfl)
theorem Je:cJ (BB w s) "list" (.type "list"):=om R (by kernel_rfl) (by decide) (by kernel_rfl)
theorem dQ:cJ (BB w s) "range" (.type "range"):=om R (by kernel_rfl) (by decide) (by kernel_rfl)
theorem ot:cJ (BB w s) "StopIteration" (.type "StopIteration"):=om R (by kernel_rfl) (by decide) (by kernel_rfl)
theorem LF:∀a∈PySem.sysModules::(BB w s).tabs,a<(BB w s).n₀:=λa ha=>by
 rw[n0 R]
 exact(by decide:∀a∈([1,209,221]:List Addr),a<251) a ha
theorem qK:aQ (BB w s) 1 (.ref 32) (fX) :=
 have OK:=mE R;have LOW:=fO R;have LIM:=fN R
 gV OK LOW LIM p4 (jZ R) λL stk hP hN =>
 ((an (a9 (Kv OK (bV (aM hP (pL R) ⟨rfl,rfl⟩ rfl) (ag (ac hP rfl) aI) (lM OK)) (aM hP (B7 R) ⟨rfl,rfl⟩ rfl) (N0 R)))):jO (BB w s) (bC gN L 32 stk ["code"]) 0 (aF (ah 2)) (eN))
theorem qk:aQ (BB w s) 1 (.ref 78) (eZ) :=
 have OK:=mE R;have LOW:=fO R;have LIM:=fN R
 gV OK LOW LIM oD (jB R) λL stk hP hN =>
 ((ap (aq OK hP rfl (Hl OK (aM hP (oy R) ⟨rfl,rfl⟩ rfl) (La R) (bV (aM hP (pL R) ⟨rfl,rfl⟩ rfl) (ag (ac hP rfl) aI) (lM OK))))
 (ap (gS (wN OK (ac hP rfl)) (an (a9 (ac hP rfl))) aB)
 (an (a9 (Kx (ac hP rfl) fZ (Bx OK) Qe F.slot_str_lower F.type_str_lower))))):jO (BB w s) (bC gk L 78 stk ["code","r"]) 0 (aF (ah 4)) (fq))
theorem oF:aQ (BB w s) 1 (.ref 141) (ge) :=
 have OK:=mE R;have LOW:=fO R;have LIM:=fN R
 gV OK LOW LIM nw (iH R) λL stk hP hN =>
 ((an (Ed (ap (gS (ax OK fB (aY OK) (ac hP rfl)) (an (aq OK hP rfl (bt OK (ac hP rfl)))) aB)
 (ap (gS (ax OK fB (aY OK) (ac hP rfl)) (an (aq OK hP rfl (bt OK (ac hP rfl)))) aB)
 (ap (gS (ax OK fB (aY OK) (ac hP rfl)) (an (aq OK hP rfl (bt OK (ac hP rfl)))) aB)
 (an (a9 (ac hP rfl)))))))):jO (BB w s) (bC fL L 141 stk ["text"]) 0 (aF (ah 11)) (gn))
theorem nC:aQ (BB w s) 1 (.ref 148) (fI) :=
 have OK:=mE R;have LOW:=fO R;have LIM:=fN R
 gV OK LOW LIM mF (hO R) λL stk hP hN =>
 ((an (Ed (ap (gS (ax OK fB (aY OK) (ac hP rfl)) (an (aq OK hP rfl (bt OK (ac hP rfl)))) aB)
 (ap (gS (ax OK fB (aY OK) (ac hP rfl)) (an (aq OK hP rfl (bt OK (ac hP rfl)))) aB)
 (ap (gS (ax OK fB (aY OK) (ac hP rfl)) (an (aq OK hP rfl (bt OK (ac hP rfl)))) aB)
 (ap (gS (ax OK fB (aY OK) (ac hP rfl)) (an (aq OK hP rfl (bt OK (ac hP rfl)))) aB)
 (ap (gS (ax OK fB (aY OK) (ac hP rfl)) (an (aq OK hP rfl (bt OK (ac hP rfl)))) aB)
 (ap (gS (ax OK fB (aY OK) (ac hP rfl)) (an (aq OK hP rfl (bt OK (ac hP rfl)))) aB)
 (ap (gS (ax OK fB (aY OK) (ac hP rfl)) (an (aq OK hP rfl (bt OK (ac hP rfl)))) aB)
 (an (a9 (ac hP rfl)))))))))))):jO (BB w s) (bC fi L 148 stk ["text"]) 0 (aF (ah 12)) (fP))
theorem jM:aQ (BB w s) 1 (.ref 155) (dG) :=
 have OK:=mE R;have LOW:=fO R;have LIM:=fN R
 gV OK LOW LIM ju (ff R) λL stk hP hN =>
 ((an (Ed (ap (gS (ax OK fB (aY OK) (ac hP rfl)) (an (aq OK hP rfl (bt OK (ac hP rfl)))) aB)
 (ap (gS (ax OK fB (aY OK) (ac hP rfl)) (an (aq OK hP rfl (bt OK (ac hP rfl)))) aB)
 (ap (gS (ax OK fB (aY OK) (ac hP rfl)) (an (aq OK hP rfl (bt OK (ac hP rfl)))) aB)
 (an (a9 (ac hP rfl)))))))):jO (BB w s) (bC df L 155 stk ["text"]) 0 (aF (ah 13)) (dL))
theorem ku:aQ (BB w s) 1 (.ref 162) (dU) :=
 have OK:=mE R;have LOW:=fO R;have LIM:=fN R
 gV OK LOW LIM jJ (fF R) λL stk hP hN =>
 ((an (Ed (ap (gS (ax OK fB (aY OK) (ac hP rfl)) (an (aq OK hP rfl (bt OK (ac hP rfl)))) aB)
 (ap (gS (ax OK fB (aY OK) (ac hP rfl)) (an (aq OK hP rfl (bt OK (ac hP rfl)))) aB)
 (ap (gS (ax OK fB (aY OK) (ac hP rfl)) (an (aq OK hP rfl (bt OK (ac hP rfl)))) aB)
 (ap (gS (ax OK fB (aY OK) (ac hP rfl)) (an (aq OK hP rfl (bt OK (ac hP rfl)))) aB)
 (an (a9 (ac hP rfl))))))))):jO (BB w s) (bC dH L 162 stk ["text"]) 0 (aF (ah 14)) (dZ))
theorem jL:aQ (BB w s) 1 (.ref 169) (dF) :=
 have OK:=mE R;have LOW:=fO R;have LIM:=fN R
 gV OK LOW LIM jt (fe R) λL stk hP hN =>
 ((an (Ed (ap (gS (ax OK fB (aY OK) (ac hP rfl)) (an (aq OK hP rfl (bt OK (ac hP rfl)))) aB)
 (ap (gS (ax OK fB (aY OK) (ac hP rfl)) (an (aq OK hP rfl (bt OK (ac hP rfl)))) aB)
 (ap (gS (ax OK fB (aY OK) (ac hP rfl)) (an (aq OK hP rfl (bt OK (ac hP rfl)))) aB)
 (ap (gS (ax OK fB (aY OK) (ac hP rfl)) (an (aq OK hP rfl (bt OK (ac hP rfl)))) aB)
 (ap (gS (ax OK fB (aY OK) (ac hP rfl)) (an (aq OK hP rfl (bt OK (ac hP rfl)))) aB)
 (ap (gS (ax OK fB (aY OK) (ac hP rfl)) (an (aq OK hP rfl (bt OK (ac hP rfl)))) aB)
 (an (a9 (ac hP rfl))))))))))):jO (BB w s) (bC de L 169 stk ["text"]) 0 (aF (ah 15)) (dK))
theorem qJ:aQ (BB w s) 1 (.ref 176) (fW) :=
 have OK:=mE R;have LOW:=fO R;have LIM:=fN R
 gV OK LOW LIM p0 (jX R) λL stk hP hN =>
 ((ap (aq OK hP rfl (a6 (eV OK) (ac hP rfl) (ay OK)))
 (an (a9 (bV (aM hP (tT R) ⟨rfl,rfl⟩ rfl) (ag (nI (ax OK GB (ac hP rfl) (ay OK)) (bj OK (bY OK (ag (ay OK) (ag (ay OK) (ag (ay OK) (ag (ay OK) (ag (ay OK) (ag (ay OK) (ag (ay OK) (ag (ay OK) (ag (ay OK) (ag (ay OK) (ag (ay OK) aI)))))))))))) (ac hP rfl)) (a6 (bD OK) (ay OK) (ac hP rfl))) aI) (pe OK))))):jO (BB w s) (bC gL L 176 stk ["place","k"]) 0 (aF (ah 17)) (f0))
theorem uM:aQ (BB w s) 1 (.ref 183) (gX) :=
 have OK:=mE R;have LOW:=fO R;have LIM:=fN R
 gV OK LOW LIM sS (l9 R) λL stk hP hN =>
 ((ap (aq OK hP rfl (bY OK (ag (ay OK) (ag (ay OK) (ag (ay OK) (ag (ay OK) (ag (ay OK) (ag (ay OK) (ag (ay OK) (ag (ay OK) (ag (ay OK) (ag (ay OK) (ag (ay OK) (ag (ay OK) (ag (ay OK) (ag (ay OK) (ag (ay OK) (ag (ay OK) aI))))))))))))))))))
 (an (a9 (bV (aM hP (tT R) ⟨rfl,rfl⟩ rfl) (ag (bj OK (a6 (bD OK) (ac hP rfl) (bY OK (ag (ay OK) (ag (ay OK) (ag (ay OK) (ag (ay OK) aI)))))) (a6 (eV OK) (ac hP rfl) (ay OK))) aI) (pe OK))))):jO (BB w s) (bC jh L 183 stk ["place","signs"]) 0 (aF (ah 18)) (ic))
theorem ly:aQ (BB w s) 1 (.ref 190) (dB) :=
 have OK:=mE R;have LOW:=fO R;have LIM:=fN R
 gV OK LOW LIM p3 (gJ R) λL stk hP hN =>
 ((ap (aq OK hP rfl (bY OK (ag (ay OK) (ag (ay OK) (ag (ay OK) (ag (ay OK) (ag (ay OK) (ag (ay OK) (ag (ay OK) (ag (ay OK) (ag (ay OK) (ag (ay OK) (ag (ay OK) aI)))))))))))))
 (ap (gS (ax OK km (ac hP rfl) (ay OK)) (an (a9 (ac hP rfl))) aB)
 (an (a9 (bV (aM hP (tT R) ⟨rfl,rfl⟩ rfl) (ag (a6 (za OK) (a6 (bD OK) (bj OK (ac hP rfl) (a6 (za OK) (ac hP rfl) (ay OK))) (bV (aM hP (pL R) ⟨rfl,rfl⟩ rfl) (ag (ac hP rfl) aI) (lM OK))) (ay OK)) aI) (pe OK)))))):jO (BB w s) (bC gM L 190 stk ["letter","form","great"]) 0 (aF (ah 19)) (f4))
theorem s0:aQ (BB w s) 2 (.ref 195) (i4) :=
 have OK:=mE R;have LOW:=fO R;have LIM:=fN R
 gV OK LOW LIM qI (lg R) λL stk hP hN =>
 ((ap (aq OK hP rfl (bV (aM hP (tT R) ⟨rfl,rfl⟩ rfl) (ag (a6 (bD OK) (ay OK) (ac hP rfl)) aI) (pe OK)))
 (ap (gS (ax OK km (a6 (eV OK) (ac hP rfl) (ay OK)) (ay OK)) (an (aq OK hP rfl (d6 (aY OK) fZ (ag (dN OK LOW hP 1000 (x:="c") (own:=(fD "c")) [none,none,some "x",none,none] (by rfl) ⟨by rfl,by decide+kernel,oL (by rfl),dS,by rfl,eC.get (.hid (.hid (.see (λC=>by first | exact .inl rfl | exact .inr ⟨rfl,by decide⟩) (λC=>rfl) (.rest rfl)))),by rfl,bl⟩ (.of1 (by rfl)) (bJ OK (bj OK (bY OK (ag (aY OK) (ag (aY OK) (ag (aY OK) (ag (aY OK) aI))))) (ac hP rfl))) (λC hQ hM=>bM) (λC hQ hM=>(c7 hM (aM hQ (lr R) ⟨rfl,rfl⟩ rfl) (ag (ac hQ rfl) (ag (a6 (eV OK) (a6 (iC OK) (ac hQ rfl) (ay OK)) (ay OK)) aI)) (gJ R) (ly R) (by decide)))) aI) (hB OK) Qe QN QO))) aB)
 (ap (gS (ax OK km (a6 (eV OK) (ac hP rfl) (ay OK)) (ay OK)) (an (aq OK hP rfl (a6 (bD OK) (c7 hN (aM hP (lr R) ⟨rfl,rfl⟩ rfl) (ag (aY OK) (ag (a6 (eV OK) (a6 (iC OK) (ac hP rfl) (ay OK)) (ay OK)) aI)) (gJ R) (ly R) (by decide)) (bj OK (bY OK (ag (aY OK) (ag (aY OK) (ag (aY OK) (ag (bV (aM hP (tT R) ⟨rfl,rfl⟩ rfl) (ag (ay OK) aI) (pe OK)) aI))))) (ac hP rfl))))) aB)
 (ap (aq OK hP rfl (c7 hN (aM hP (qD R) ⟨rfl,rfl⟩ rfl) (ag (a6 (iC OK) (ac hP rfl) (ay OK)) aI) (jX R) (qJ R) (by decide)))
 (an (a9 (nI (ax OK km (a6 (eV OK) (a6 (iC OK) (ac hP rfl) (ay OK)) (ay OK)) (ay OK)) (a6 (bD OK) (a6 (bD OK) (ac hP rfl) (ac hP rfl)) (ac hP rfl)) (a6 (bD OK) (a6 (bD OK) (ac hP rfl) (ac hP rfl)) (ac hP rfl))))))))):jO (BB w s) (bC ir L 195 stk ["house","stay","x","typed","hidden"]) 1 (aF (ah 20)) (gD))
theorem wq:aQ (BB w s) 1 (.ref 200) (lE) :=
 have OK:=mE R;have LOW:=fO R;have LIM:=fN R
 gV OK LOW LIM uw (nM R) λL stk hP hN =>
 ((ap (aq OK hP rfl (d6 (aY OK) fZ (ag (dN OK LOW hP 1000 (x:="c") (own:=(fD "c")) [none,some "way",none,none,none] (by rfl) ⟨by rfl,by decide+kernel,oL (by rfl),dS,by rfl,eC.get (.hid (.see (λC=>by first | exact .inl rfl | exact .inr ⟨rfl,by decide⟩) (λC=>rfl) (.rest rfl))),by rfl,bl⟩ (.of1 (by rfl)) (bJ OK (ac hP rfl)) (λC hQ hM=>bM) (λC hQ hM=>(nI (kU (kQ (ax OK km (ac hQ rfl) (ay OK)) (kQ (ax OK fB (ac hQ rfl) (bj OK (bY OK (ag (aY OK) (ag (aY OK) (ag (aY OK) aI)))) (ac hQ rfl))) wO))) (a6 (bD OK) (aY OK) (ac hQ rfl)) (ac hQ rfl)))) aI) (hB OK) Qe QN QO))
 (ap (aq OK hP rfl (a6 (bD OK) (aY OK) (bj OK (aY OK) (a6 (eV OK) (ac hP rfl) (ay OK)))))
 (ap (gS (ax OK km (ac hP rfl) (ay OK)) (an (a9 (a6 (bD OK) (a6 (bD OK) (a6 (bD OK) (ac hP rfl) (aY OK)) (ac hP rfl)) (aY OK)))) aB)
 (an (a9 (a6 (bD OK) (a6 (bD OK) (ac hP rfl) (ac hP rfl)) (Hm OK (aY OK) (fT (ac hP rfl)) (fT (a6 (bD OK) (ac hP rfl) (ay OK)))))))))):jO (BB w s) (bC j6 L 200 stk ["place","way","word","text","ahead"]) 0 (aF (ah 21)) (jn))
theorem n7:aQ (BB w s) 3 (.ref 207) (f6) :=
 have OK:=mE R;have LOW:=fO R;have LIM:=fN R
 gV OK LOW LIM sQ (jb R) λL stk hP hN =>
 ((ap (aq OK hP rfl (bY OK aI))
 (ap (qN OK LOW hP 1000 iB rfl (by rfl) (cI OK (aM hP (dQ R) ⟨rfl,rfl⟩ rfl) (ag (ay OK) aI)) (ap (aq OK hP rfl (a6 (bD OK) (ac hP rfl) (a6 (p9 OK) (ay OK) (ac hP rfl))))
 (an (mQ (d6 (ac hP rfl) cF (ag (c7 hN (aM hP (vR R) ⟨rfl,rfl⟩ rfl) (ag (ac hP rfl) (ag (a6 (eV OK) (a6 (iC OK) (ac hP rfl) (ay OK)) (ay OK)) (ag (c7 hN (aM hP (sG R) ⟨rfl,rfl⟩ rfl) (ag (bj OK (ac hP rfl) (ac hP rfl)) (ag (ac hP rfl) (ag (ac hP rfl) aI))) (lg R) (s0 R) (by decide)) aI))) (nM R) (wq R) (by decide)) aI) (fJ OK) PS Qh QE)))))
 (an (a9 (ac hP rfl))))):jO (BB w s) (bC jf L 207 stk ["row","stay","seed","pieces","j","x"]) 2 (aF (ah 22)) (hZ))
theorem f9:aQ (BB w s) 1 (.ref 99) (cA) :=
 have OK:=mE R;have LOW:=fO R;have LIM:=fN R
 gV OK LOW LIM jK (jE R) λL stk hP hN =>
 ((ap (ky OK (f7 R) (no _) (ay OK) (ac hP rfl))
 (ap (ky OK (f7 R) (nV _) (ac hP rfl) (ac hP rfl))
 (ap (ky OK (f7 R) (iw _) (aY OK) (ac hP rfl))
 (an (ky OK (f7 R) (hU _) (bY OK aI) (ac hP rfl)))))):jO (BB w s) (bC dJ L 99 stk ["self","fp"]) 0 (aF (c4 8 0)) (cG))
theorem dm:aQ (BB w s) 1 (.ref 120) (bg) :=
 have OK:=mE R;have LOW:=fO R;have LIM:=fN R
 gV OK LOW LIM iT (bZ R) λL stk hP hN =>
 ((an (mQ (d6 (qp OK (f7 R) (hU _) (ac hP rfl)) cF (ag (ac hP rfl) aI) (fJ OK) PS Qh QE))):jO (BB w s) (bC cZ L 120 stk ["self","token"]) 0 (aF (c4 8 3)) (bh))
theorem qj:aQ (BB w s) 1 (.ref 229) (eY) :=
 have OK:=mE R;have LOW:=fO R;have LIM:=fN R
 gV OK LOW LIM oB (jA R) λL stk hP hN =>
 ((ap (aq OK hP rfl (bY OK (ag (vg OK LOW (bK OK (aY OK) (bK OK (aY OK) (bK OK (aY OK) mR)))) (ag (vg OK LOW (bK OK (aY OK) (bK OK (aY OK) (bK OK (aY OK) (bK OK (aY OK) (bK OK (aY OK) (bK OK (aY OK) (bK OK (aY OK) mR)))))))) (ag (vg OK LOW (bK OK (aY OK) (bK OK (aY OK) (bK OK (aY OK) mR)))) (ag (vg OK LOW (bK OK (aY OK) (bK OK (aY OK) (bK OK (aY OK) (bK OK (aY OK) mR))))) (ag (vg OK LOW (bK OK (aY OK) (bK OK (aY OK) (bK OK (aY OK) (bK OK (aY OK) (bK OK (aY OK) (bK OK (aY OK) mR))))))) aI)))))))
 (an (a9 (d6 (aY OK) fZ (ag (dN OK LOW hP 1000 (x:="c") (own:=(fD "c")) [none,some "hand",some "tables"] (by rfl) ⟨by rfl,by decide+kernel,oL (by rfl),dS,by rfl,eC.get (.hid (.see (λC=>by first | exact .inl rfl | exact .inr ⟨rfl,by decide⟩) (λC=>rfl) (.see (λC=>by first | exact .inl rfl | exact .inr ⟨rfl,by decide⟩) (λC=>rfl) (.rest rfl)))),by rfl,bl⟩ (.of1 (by rfl)) (bJ OK (ac hP rfl)) (λC hQ hM=>bM) (λC hQ hM=>(d6 (bj OK (ac hQ rfl) (ac hQ rfl)) Cz (ag (ac hQ rfl) (ag (ac hQ rfl) aI)) (E3 OK (LF R)) F.plainAttrs_dict Td F.type_dict_get))) aI) (hB OK) Qe QN QO)))):jO (BB w s) (bC gj L 229 stk ["plate","hand","tables"]) 0 (aF (ah 26)) (fo))
theorem sZ:aQ (BB w s) 2 (.ref 234) (gx) :=
 have OK:=mE R;have LOW:=fO R;have LIM:=fN R
 gV OK LOW LIM qH (lf R) λL stk hP hN =>
 ((ap (aq OK hP rfl (bY OK aI))
 (ap (qN OK LOW hP 1000 iB rfl (by rfl) (bJ OK (ac hP rfl)) (ap (aq OK hP rfl (c7 hN (aM hP (pI R) ⟨rfl,rfl⟩ rfl) (ag (ac hP rfl) (ag (a6 (eV OK) (ac hP rfl) (ay OK)) aI)) (jA R) (qj R) (by decide)))
 (ap (aq OK hP rfl (ay OK))
 (ap (aq OK hP rfl (ay OK))
 (ap (aq OK hP rfl (a6 (bD OK) (ay OK) (bV (aM hP (pJ R) ⟨rfl,rfl⟩ rfl) (ag (dN OK LOW hP 1000 (x:="c") (own:=(fD "c")) [none,none,none,none,none,none,none,none,none] (by rfl) ⟨by rfl,by decide+kernel,oL (by rfl),dS,by rfl,eC.get (.rest rfl),by rfl,bl⟩ (.of1 (by rfl)) (bJ OK (ac hP rfl)) (λC hQ hM=>oV (ax OK GB (bV (aM hQ (pL R) ⟨rfl,rfl⟩ rfl) (ag (ac hQ rfl) aI) (lM OK)) (ay OK))) (λC hQ hM=>(ac hQ rfl))) aI) (lL OK))))
 (ap (qN OK LOW hP 1000 iB rfl (by rfl) (bJ OK (MV OK (ac hP rfl))) (ap (gS (ax OK GB (bV (aM hP (pL R) ⟨rfl,rfl⟩ rfl) (ag (ac hP rfl) aI) (lM OK)) (ay OK)) (ap (aq OK hP rfl (ay OK))
 (an (aq OK hP rfl (a6 (za OK) (ac hP rfl) (ay OK))))) (an (aq OK hP rfl (a6 (bD OK) (ac hP rfl) (ay OK)))))
 (an (aq OK hP rfl (a6 (bD OK) (ac hP rfl) (a6 (p9 OK) (a6 (p9 OK) (ac hP rfl) (a6 (eV OK) (bV (aM hP (pL R) ⟨rfl,rfl⟩ rfl) (ag (ac hP rfl) aI) (lM OK)) (ay OK))) (a6 (LZ OK) (ay OK) (ac hP rfl))))))))
 (an (mQ (d6 (ac hP rfl) cF (ag (bY OK (ag (a6 (eV OK) (ac hP rfl) (a6 (bD OK) (ay OK) (a6 (eV OK) (a6 (iC OK) (ac hP rfl) (ay OK)) (ay OK)))) (ag (bV (aM hP (pJ R) ⟨rfl,rfl⟩ rfl) (ag (ac hP rfl) aI) (lL OK)) aI))) aI) (fJ OK) PS Qh QE)))))))))
 (an (a9 (dN OK LOW hP 1000 (x:="pair") (own:=(fD "pair")) [none,none,none,none,none,none,none,none,none] (by rfl) ⟨by rfl,by decide+kernel,oL (by rfl),dS,by rfl,eC.get (.rest rfl),by rfl,bl⟩ (.of1 (by rfl)) (bJ OK (bV (aM hP (pM R) ⟨rfl,rfl⟩ rfl) (ag (ac hP rfl) aI) (qU OK))) (λC hQ hM=>bM) (λC hQ hM=>(bj OK (ac hQ rfl) (ay OK)))))))):jO (BB w s) (bC iq L 234 stk ["y","plates","worths","plate","text","worth","more","weight","c"]) 1 (aF (ah 27)) (gC))
theorem n8:aQ (BB w s) 1 (.ref 244) (dV) :=
 have OK:=mE R;have LOW:=fO R;have LIM:=fN R
 gV OK LOW LIM sR (jc R) λL stk hP hN =>
 ((ap (gR OK LOW hP 1000 (x:="k") (own:=(fD "k")) [some "lists",some "places",none] (by rfl) rfl (by rfl) (by rfl) ⟨by rfl,by decide+kernel,oL (by rfl),dS,by rfl,eC.get (.see (λC=>by first | exact .inl rfl | exact .inr ⟨rfl,by decide⟩) (λC=>rfl) (.see (λC=>by first | exact .inl rfl | exact .inr ⟨rfl,by decide⟩) (λC=>rfl) (.rest rfl))),by rfl,bl⟩ (.of1 (by rfl)) (cI OK (aM hP (dQ R) ⟨rfl,rfl⟩ rfl) (ag (ay OK) aI)) (λC hQ hM=>bM) (λC hQ hM=>(d6 (aY OK) fZ (ag (qq OK (bj OK (ac hQ rfl) (ac hQ rfl)) (fT (a6 (bD OK) (bj OK (ac hQ rfl) (ac hQ rfl)) (ay OK))) iX) aI) (hB OK) Qe QN QO)))
 (an (a9 (bY OK (ag (ac hP rfl) (ag (dN OK LOW hP 1000 (x:="k") (own:=(fD "k")) [some "lists",some "places",none] (by rfl) ⟨by rfl,by decide+kernel,oL (by rfl),dS,by rfl,eC.get (.see (λC=>by first | exact .inl rfl | exact .inr ⟨rfl,by decide⟩) (λC=>rfl) (.see (λC=>by first | exact .inl rfl | exact .inr ⟨rfl,by decide⟩) (λC=>rfl) (.rest rfl))),by rfl,bl⟩ (.of1 (by rfl)) (cI OK (aM hP (dQ R) ⟨rfl,rfl⟩ rfl) (ag (ay OK) aI)) (λC hQ hM=>bM) (λC hQ hM=>(a6 (bD OK) (ay OK) (d6 (d6 (aY OK) fZ (ag (qq OK (bj OK (ac hQ rfl) (ac hQ rfl)) iX (fT (a6 (bD OK) (bj OK (ac hQ rfl) (ac hQ rfl)) (ay OK)))) aI) (hB OK) Qe QN QO) fZ (ag (aY OK) aI) (tG OK) Qe F.slot_str_count F.type_str_count)))) aI)))))):jO (BB w s) (bC jg L 244 stk ["lists","places","left"]) 0 (aF (ah 29)) (ib))
end
end
end Mine
namespace Mine
open Mine.H1
noncomputable section
noncomputable def cx:M (dC Fl) :=
 (k8 (l8 1 (rI (getL 0)))
 (k8 (Aj (af 2 (aj tF (getL 1) (aa (.int 63)))))
 (k8 (du (ao (aj tF (getL 1) (aa (.int 64))) c8) (k8 (Aj (ol 2 tW (aa (.int 6)))) (k8 (l8 1 (rI (getL 0))) (k8 (Aj (ol 2 Cv (aj tF (getL 1) (aa (.int 63))))) (Aj (aa .next))))) 1000)
 (k8 (Aj (b8 (getL 2)))
 (Aj (aa .next))))))
noncomputable def cw:List V->M (dC V):=λxs=>if xs.length=1 then Jb 3 (cx) xs else av
noncomputable def fk:M Fl :=
 (aw (af 1 (bO (ab (aj bf (dY 3 (fj (getL 0)) (aa true) (aj bf (bO (ab (getL 3) am) mI) (a8 (aT iM (getL 3) (aa (.str (OO "&")))) (aa (.int 128)) (aa (.int 0)))) 1000) (aj jI (aP (ab (aa (.int 65)) am)) (aj c5 (bO (ab (getL 0) am) ki) (aa (.int 2))))) am) ua))
 (aw (af 2 (aP am))
 (th 2 (du (ao (aa (.bool true)) c8) (ao (getL 2) λx st=>if bE st.σ x=true then li (ao (ab (getL 1) am) cw) (λy=>ao (cb [x,y]) λu=>aa (.ok .next)) st else none) 1000))))
noncomputable def eX:List V->M V:=λxs=>if xs.length=1 then kV 3 (fk) xs else av
noncomputable def zS:Stmt->Arguments
 | .FunctionDef _ a _ _ _ _ _ _ _ _=>a
 | _=>default
noncomputable def BQ:Stmt->Scope
 | .FunctionDef _ _ _ _ _ _ sc _ _ _=>sc
 | _=>default
noncomputable def aZ:KI:={ params:=zS pO,body:=aF pO,scope:=BQ pO,qual:="_law_lexer.<locals>.give",pn:="count",nm:="signs" }
noncomputable def gp:M Fl:=(aw (a8 (Ak (aT tA (getL 0) (aa (.int 1))) (Ak (aT iM (getL 1) (aP am)) (aa false))) (b8 (aa (.str (OO "")))) (aa .next))
 (b8 (bn bE (getL 1) (ab (aa (.int 0)) am) GG)))
theorem Gz:qP aZ.params aZ.body aZ.scope aZ.pn aZ.nm where
 kind:=by kernel_rfl
 co:=by kernel_rfl
 gen:=by kernel_rfl
 nocell:=by decide+kernel
 p:=by kernel_rfl
 f:=by kernel_rfl
 cd:=by decide+kernel
 bind:=λfd h1 h2 h3 v=>by
  obtain⟨_,_,_,_,_,_,_,_,_,_,_,_,_,_,_⟩:=fd
  dsimp only at h1 h2 h3
  subst h1;subst h2;subst h3
  rfl
noncomputable def bu:M Fl :=
 (aw (af 1 (mJ 123 "read" (cE 123 "instream" (getL 0)) aZ gp 1))
 (aw (a8 (aT iM (getL 1) (aa (.str (OO "\n")))) (pi 123 "lineno" mz (getL 0) (aa (.int 1))) (aa .next))
 (b8 (getL 1))))
noncomputable def aE:List V->M V:=λxs=>if xs.length=1 then kV 2 (bu) xs else av
noncomputable def bi:CF:=⟨true,106,λself=>aE [self]⟩
noncomputable def bx:M Fl :=
 (aw (a8 (ao (cE 123 "pushback" (getL 0)) c8) (b8 (bn bE (cE 123 "pushback" (getL 0)) (ab (aa (.int 0)) am) GG)) (aa .next))
 (aw (af 1 (aa (.str (OO ""))))
 (aw (af 2 (bO (ab (vJ 123 "_read_char" 106 (getL 0)) (ab (aa (.str (OO ""))) am)) ua))
 (aw (ao (fj (getL 2)) λit=>b4 bi 3 (aw (a8 (aT iA (getL 3) (cE 123 "whitespace" (getL 0))) (aa .cont) (aa .next))
 (a8 (aT iM (getL 3) (aa (.str (OO "\"")))) (ao (fj (getL 2)) λit=>b4 bi 3 (aw (a8 (aT iM (getL 3) (aa (.str (OO "\"")))) (b8 (getL 1)) (a8 (aT iM (getL 3) (aa (.str (OO "\\")))) (af 3 (c9 123 "_read_char" (getL 0) am aE)) (aa .next)))
 (ol 1 mz (getL 3))) 1000 it) (aw (a8 (aT iM (getL 3) (aa (.str (OO "\\")))) (af 3 (c9 123 "_read_char" (getL 0) am aE)) (aa .next))
 (aw (ol 1 mz (getL 3))
 (ao (fj (getL 2)) λit=>b4 bi 3 (aw (a8 (aT iA (getL 3) (cE 123 "whitespace" (getL 0))) (b8 (getL 1)) (a8 (aT iM (getL 3) (aa (.str (OO "\\")))) (af 3 (c9 123 "_read_char" (getL 0) am aE)) (aa .next)))
 (ol 1 mz (getL 3))) 1000 it))))) 1000 it)
 (b8 (getL 1))))))
noncomputable def aC:List V->M V:=λxs=>if xs.length=1 then kV 4 (bx) xs else av
noncomputable def gB:M Fl :=
 (aw (af 1 (bO (ab (aa .none) am) (Af 123 cA)))
 (aw (eT (c9 123 "push_token" (getL 1) (ab (aa (.str (OO "#"))) am) bg))
 (ao (rm 0 2 aZ.params (.stmts aZ.body) aZ.scope aZ.qual "signs") λu=>(aw (gb 123 "read" (getL 2) (getL 1))
 (b8 (bO (ab (getL 1) am) (Af 123 cA)))))))
noncomputable def eW:List V->M V:=λxs=>if xs.length=1 then kV 3 (gB) xs else av
noncomputable def sI:OT->List V->M V:=oI 141 ge (oI 148 fI (oI 155 dG (oI 162 dU (oI 169 dF CY))))
noncomputable def dE:OQ->Arguments
 | .Lambda a _ _ _=>a
 | _=>default
noncomputable def gA:OQ->OQ
 | .Lambda _ b _ _=>b
 | e=>e
noncomputable def eM:OQ->Scope
 | .Lambda _ _ sc _=>sc
 | _=>default
noncomputable def gQ:M V:=(aj aA (getL 1) (getL 0))
theorem wb:∀st y st',gQ st=some (y,st')->st'=st:=λst y st' h =>
 ae h λa st1 e1 e2=>ae e2 λb st2 e3 e4=>by
  have h1:=rl e1
  have h2:=rl e3
  subst h1;subst h2
  exact pR e4 (λu u u u u u u u h=>h) (λu u u u u u u u u u h=>h) (λu u u u u u u u h=>h) (λu u u u u u u h=>h)
theorem JR:mV (dE cn) (eM cn) "house" "told" where
 kind:=by kernel_rfl
 co:=by kernel_rfl
 gen:=by kernel_rfl
 nocell:=by decide+kernel
 p:=by kernel_rfl
 f:=by kernel_rfl
 cd:=by decide+kernel
 bind:=λfd h1 h2 h3 v=>by
  obtain⟨_,_,_,_,_,_,_,_,_,_,_,_,_,_,_⟩:=fd
  dsimp only at h1 h2 h3
  subst h1;subst h2;subst h3
  rfl
noncomputable def jo:M Fl :=
 (aw (af 2 (aP (ab (aa (.glob (.ref 141))) (ab (aa (.glob (.ref 148))) (ab (aa (.glob (.ref 155))) (ab (aa (.glob (.ref 162))) (ab (aa (.glob (.ref 169))) am)))))))
 (aw (af 3 (aj aA (getL 2) (aj c5 (getL 0) (aa (.int 5)))))
 (aw (af 4 (aP am))
 (aw (ao (fj (getL 1)) λit=>b4 d4 5 (aw (af 6 (bz (ab (nQ (getL 3) (ab (getL 5) am) sI) am) eX))
 (eT (bn bE (getL 4) (ab (aj c5 (bO (ab (dY 7 (bq (ab (bO (ab (getL 6) am) ki) am)) (aa true) (aj jI (aj bf (getL 7) (aa (.int 1))) (aj aA (getL 6) (getL 7))) 1000) am) Hg) (aj bf (aa (.int 2)) (aj c5 (aj ez (getL 0) (aa (.int 5))) (aa (.int 99))))) am) cb))) 1000 it)
 (b8 (kx 4 (aP (ab (aa (.int 0)) (ab (aa (.int 1)) (ab (aa (.int 2)) (ab (aa (.int 3)) am))))) (dE cn) (gA cn) (eM cn) "_law_row.<locals>.<lambda>" "told" gQ))))))
noncomputable def i3:List V->M V:=λxs=>if xs.length=2 then kV 7 (jo) xs else av
noncomputable def jp:M Fl :=
 (aw (af 4 (dY 15 (fj (getL 2)) (aa true) (bO (ab (bn fG (aa (.str (OO ""))) (ab (getL 15) am) gu) am) xY) 1000))
 (aw (af 5 (dY 15 (fj (getL 4)) (aa true) (bz (ab (getL 15) am) eW) 1000))
 (aw (af 6 (bz (ab (aP am) am) eW))
 (aw (ao (fj (a8 (ao (getL 3) c8) (uI (getL 0)) (getL 0))) λit=>b4 d4 7 (eT (c9 123 "push_token" (getL 6) (ab (getL 7) am) bg)) 1000 it)
 (aw (af 8 (aP (ab (aa (.int 0)) (ab (aa (.int 1)) (ab (aa (.int 2)) (ab (aa (.int 3)) am))))))
 (aw (af 9 (aP (ab (aa (.int 4)) (ab (aa (.int 4)) (ab (aa (.int 4)) (ab (aa (.int 4)) am))))))
 (aw (af 10 (aP am))
 (aw (af 7 (c9 123 "get_token" (getL 6) am aC))
 (aw (dr (aT tA (getL 7) (aa (.str (OO "")))) (aw (af 11 (aP (ab (bn bE (getL 0) (ab (getL 7) am) fM) am)))
 (aw (af 7 (aa (.str (OO ""))))
 (aw (a8 (aT fv (aj aA (getL 11) (aa (.int 0))) (getL 10)) (eT (bn bE (getL 10) (ab (aj aA (getL 11) (aa (.int 0))) am) cb)) (aa .next))
 (aw (a8 (aT iA (aj aA (getL 11) (aa (.int 0))) (getL 8)) (aw (dr (aT iM (bn bE (getL 11) (ab (aj aA (getL 11) (qF (aa (.int 1)))) am) sw) (aa (.int 1))) (aw (af 12 (aj aA (getL 11) (qF (aa (.int 1)))))
 (aw (dr (aT fv (aj aA (getL 9) (getL 12)) (getL 8)) (aw (af 13 (c9 123 "get_token" (aj aA (getL 5) (getL 12)) am aC))
 (kq (bn bE (getL 1) (ab (bn fG (aa (.str (OO ""))) (ab (dY 15 (fj (getL 13)) (we (ao (bz (ab (getL 15) am) fX) c8)) (bz (ab (getL 15) am) eZ) 1000) am) gu) am) fM) (getL 9) (getL 12))) 1000)
 (eT (bn bE (getL 11) (ab (aj aA (getL 9) (getL 12)) am) cb)))) 1000)
 (aw (af 14 (eG (getL 11) (bU (aj bf (bn bE (getL 11) (ab (aj aA (getL 11) (qF (aa (.int 1)))) am) fM) (aa (.int 1)))) cr))
 (aw (af 8 (dY 15 (fj (getL 8)) (aT fv (getL 15) (getL 14)) (getL 15) 1000))
 (a8 (aT iA (aj aA (getL 11) (aa (.int 0))) (getL 8)) (af 7 (aj aA (getL 0) (aj aA (getL 11) (aa (.int 0))))) (aa .next))))) (aa .next))
 (a8 (Ak (aT iM (getL 7) (aa (.str (OO "")))) (Ak (we (ao (getL 3) c8)) (aa false))) (aw (a8 (aT tA (getL 7) (aa (.str (OO "")))) (eT (c9 123 "push_token" (getL 6) (ab (getL 7) am) bg)) (aa .next))
 (af 7 (c9 123 "get_token" (getL 6) am aC))) (aa .next)))))) 1000)
 (b8 (aP (ab (getL 9) (ab (getL 10) (ab (dY 15 (fj (getL 4)) (aa true) (bn fG (aa (.str (OO ""))) (ab (getL 15) am) gu) 1000) (ab (dY 15 (fj (getL 5)) (aa true) (cE 123 "lineno" (getL 15)) 1000) am)))))))))))))))
noncomputable def eR:List V->M V:=λxs=>if xs.length=4 then kV 15 (jp) xs else av
noncomputable def CS(js:List Int):M Fl :=
 (aw (af 1 (dY 18 (bq (ab (aa (.int 6)) am)) (aa true) (a8 (aT EH (getL 18) (bO (ab (getL 0) am) (CI 250 js))) (aj (tZ 250 js) (getL 0) (getL 18)) (aj aA (aP (ab (aa (.int 1237785)) (ab (aa (.int 2139152)) (ab (aa (.int 495226)) (ab (aa (.int 38402)) (ab (aa (.int 16)) (ab (aa (.int 1)) am))))))) (getL 18))) 1000))
 (aw (af 2 (bz (ab (aj aA (getL 1) (aa (.int 4))) am) gX))
 (aw (af 3 (aa (.str (OO "&<>\"\r\n\t"))))
 (aw (af 4 (dY 18 (bq (ab (aa (.int 4)) am)) (aa true) (aj bf (aj aA (getL 3) (aj c5 (aj bf (aj aA (getL 1) (aa (.int 5))) (aj jI (aa (.int 2)) (getL 18))) (aa (.int 7)))) (aj aA (getL 3) (aj c5 (aj bf (aj ez (aj aA (getL 1) (aa (.int 5))) (aa (.int 7))) (aj jI (aa (.int 3)) (getL 18))) (aa (.int 7))))) 1000))
 (aw (af 5 (aP (ab (aj bf (aa (.str (OO "ff"))) (getL 2)) (ab (aj bf (aa (.str (OO "fi"))) (getL 2)) (ab (aj bf (aa (.str (OO "fl"))) (getL 2)) (ab (aj bf (aa (.str (OO "ffi"))) (getL 2)) am))))))
 (aw (af 6 (dY 18 (fj (eG (getL 1) cr (bU (aa (.int 4))))) (aa true) (bz (ab (getL 18) (ab (getL 4) am)) i3) 1000))
 (aw (af 7 (dY 18 (fj (eG (getL 1) cr (bU (aa (.int 4))))) (aa true) (bz (ab (getL 18) (ab (getL 4) am)) gx) 1000))
 (aw (af 8 (dY 18 (bq (ab (aa (.int 4)) am)) (aa true) (bz (ab (aj aA (getL 6) (getL 18)) (ab (getL 2) (ab (aj ez (aj aA (getL 1) (getL 18)) (aa (.int 495))) am))) f6) 1000))
 (aw (af 9 (bz (ab (getL 4) (ab (getL 5) (ab (getL 8) (ab (aa (.bool false)) am)))) eR))
 (aw (af 10 (aj aA (getL 9) (aa (.int 0))))
 (aw (a8 (aT tA (bO (ab (getL 10) am) kK) (aP (ab (aa (.int 0)) (ab (aa (.int 1)) (ab (aa (.int 2)) (ab (aa (.int 3)) am)))))) (b8 (aa (.bool false))) (aa .next))
 (aw (af 11 (dY 18 (bq (ab (aa (.int 4)) am)) (aa true) (dY 19 (bq (ab (aa (.int 4)) am)) (aa true) (bn bE (aj aA (getL 7) (getL 18)) (ab (getL 19) am) fM) 1000) 1000))
 (aw (af 12 (dY 18 (bq (ab (aa (.int 4)) am)) (aa true) (aj aA (aj aA (getL 11) (getL 18)) (aj aA (getL 10) (getL 18))) 1000))
 (aw (af 13 (aP (ab (aP am) am)))
 (aw (ao (bq (ab (aa (.int 4)) am)) λit=>b4 d4 14 (aw (af 13 (v5 18 (fj (getL 13)) (bq (ab (aa (.int 4)) am)) (aT fv (getL 19) (getL 18)) (aj bf (getL 18) (aP (ab (getL 19) am))) 1000 1000))
 (ao (fj (getL 13)) λit=>b4 d4 15 (aw (af 16 (dY 18 (bq (ab (bO (ab (getL 15) am) ki) am)) (aa true) (aj s9 (aj aA (getL 12) (aj aA (getL 15) (getL 18))) (aj aA (aj aA (getL 11) (aj aA (getL 15) (getL 18))) (aj aA (getL 15) (aj c5 (aj bf (getL 18) (aa (.int 1))) (bO (ab (getL 15) am) ki))))) 1000))
 (a8 (vF (aT Lj (bO (ab (getL 16) am) JA) (aa (.int 0))) (vF (aT Ll (bO (ab (getL 16) am) Jz) (aa (.int 0))) (aa true))) (b8 (aa (.bool false))) (aa .next))) 1000 it)) 1000 it)
 (aw (a8 (aT tA (getL 9) (aj bf (aP (ab (getL 10) (ab (aP (ab (aa (.int 0)) (ab (aa (.int 1)) (ab (aa (.int 2)) (ab (aa (.int 3)) am))))) am))) (bz (ab (getL 8) (ab (getL 12) am)) dV))) (b8 (aa (.bool false))) (aa .next))
 (aw (af 17 (dY 18 (bq (ab (aa (.int 4)) am)) (aa true) (bz (ab (aj aA (getL 6) (getL 18)) (ab (getL 2) (ab (aj bf (aj ez (aj aA (getL 1) (getL 18)) (aa (.int 495))) (aa (.int 2956))) am))) f6) 1000))
 (b8 (aj iM (bz (ab (getL 4) (ab (getL 5) (ab (getL 17) (ab (aa (.bool true)) am)))) eR) (aj bf (aP (ab (getL 10) (ab (aP (ab (aa (.int 3)) (ab (aa (.int 2)) (ab (aa (.int 1)) (ab (aa (.int 0)) am))))) am))) (bz (ab (getL 17) (ab (getL 12) am)) dV)))))))))))))))))))))
set_option maxHeartbeats 4000000
section
variable {w:Pt}{mg mb:Str->Option OT}{s:OX}{js:List Int}(R:eI w mg mb s 250 js)
include R
theorem oG:eJ (BB w s) 1 (.ref 85) (cw) :=
 have OK:=mE R;have LOW:=fO R;have LIM:=fN R
 Od OK LOW LIM ny (iI R) λL stk hP hN =>
 ((zv (tX (vf OK hP rfl (Ea OK (aM hP (B9 R) ⟨rfl,rfl⟩ rfl) (ac hP rfl))))
 (zv (tX (KN (aq OK hP rfl (a6 (p8 OK) (ac hP rfl) (ay OK)))))
 (zv (Hn 1000 (rW OK (a6 (p8 OK) (ac hP rfl) (ay OK))) (wQ (KN (D7 OK hP (JT OK) rfl (ay OK))) (wQ (vf OK hP rfl (Ea OK (aM hP (B9 R) ⟨rfl,rfl⟩ rfl) (ac hP rfl))) (wQ (KN (D7 OK hP (LV OK) rfl (a6 (p8 OK) (ac hP rfl) (ay OK)))) (KN aB)))))
 (zv (tX (KN (a9 (ac hP rfl))))
 (tX (KN aB)))))):TX (BB w s) (bC eh L 85 stk ["iterator","b","val"]) 0 (execs (aF (ah 6)) (bC eh L 85 stk ["iterator","b","val"]).env) dW cx)
theorem qg:aQ (BB w s) 2 (.ref 219) (eX) :=
 have OK:=mE R;have LOW:=fO R;have LIM:=fN R
 gV OK LOW LIM oA (jz R) λL stk hP hN =>
 ((ap (aq OK hP rfl (bV (aM hP (B8 R) ⟨rfl,rfl⟩ rfl) (ag (a6 (bD OK) (dN OK LOW hP 1000 (x:="c") (own:=(fD "c")) [none,none,none] (by rfl) ⟨by rfl,by decide+kernel,oL (by rfl),dS,by rfl,eC.get (.rest rfl),by rfl,bl⟩ (.of1 (by rfl)) (bJ OK (ac hP rfl)) (λC hQ hM=>bM) (λC hQ hM=>(a6 (bD OK) (bV (aM hQ (pL R) ⟨rfl,rfl⟩ rfl) (ag (ac hQ rfl) aI) (lM OK)) (nI (ax OK km (ac hQ rfl) (aY OK)) (ay OK) (ay OK))))) (a6 (p9 OK) (bY OK (ag (ay OK) aI)) (a6 (eV OK) (bV (aM hP (pJ R) ⟨rfl,rfl⟩ rfl) (ag (ac hP rfl) aI) (lL OK)) (ay OK)))) aI) (xf OK)))
 (ap (aq OK hP rfl (bY OK aI))
 (an (MW OK hP rfl rfl 1000 rfl (by decide) (ot R) ⟨rfl,rfl⟩ rfl (rW OK (rV OK)) (D6 OK (ac hP rfl) (Ku hN (aM hP (ow R) ⟨rfl,rfl⟩ rfl) (iI R) (ag (ac hP rfl) aI) ((oG R).mono (by decide)))))))):jO (BB w s) (bC gh L 219 stk ["text","octets","numbers"]) 1 (aF (ah 24)) (fk))
theorem GO:∀fd L a stk k a',fd.params=aZ.params->fd.scope=aZ.scope->fd.globals=Pz->fd.builtins=builtinsNs->(dP fd L a stk aZ.pn aZ.nm k a').Ok ->
  jO (BB w s) (dP fd L a stk aZ.pn aZ.nm k a') 0 aZ.body gp:=λfd L a stk k a' h1 h2 h3 h4 hP=>by
 have OK:=mE R
 obtain⟨_,_,_,_,_,_,_,_,_,_,_,_,_,_,_⟩:=fd
 dsimp only at h1 h2 h3 h4
 subst h1;subst h2;subst h3;subst h4
 exact(ap (gS (kU (kQ (ax OK Da (ac hP rfl) (ay OK)) (kQ (ax OK km (ac hP rfl) (bY OK aI)) wO))) (an (a9 (aY OK))) aB)
 (an (a9 (d6 (ac hP rfl) cF (ag (ay OK) aI) (By OK) PS Tc F.type_list_pop))))
theorem bv:aQ (BB w s) 2 (.ref 106) (aE) :=
 have OK:=mE R;have LOW:=fO R;have LIM:=fN R
 gV OK LOW LIM iS (ba R) λL stk hP hN =>
 ((ap (aq OK hP rfl (Eb OK LOW LIM hN (f7 R) (xu _) Gz (qp OK (f7 R) (nV _) (ac hP rfl)) (GO R)))
 (ap (gS (ax OK km (ac hP rfl) (aY OK)) (an (D8 OK (f7 R) (sU OK) (no _) (ac hP rfl) (ay OK))) aB)
 (an (a9 (ac hP rfl))))):jO (BB w s) (bC cY L 106 stk ["self","ch"]) 1 (aF (c4 8 1)) (bu))
theorem dM:aQ (BB w s) 4 (.ref 113) (aC) :=
 have OK:=mE R;have LOW:=fO R;have LIM:=fN R
 gV OK LOW LIM jv (ce R) λL stk hP hN =>
 ((ap (gS (rW OK (qp OK (f7 R) (hU _) (ac hP rfl))) (an (a9 (d6 (qp OK (f7 R) (hU _) (ac hP rfl)) cF (ag (ay OK) aI) (By OK) PS Tc F.type_list_pop))) aB)
 (ap (aq OK hP rfl (aY OK))
 (ap (aq OK hP rfl (bV (aM hP (B8 R) ⟨rfl,rfl⟩ rfl) (ag (Kr OK (f7 R) (gz _) (M0 _) (Lk _) (MY _) (by decide) (ac hP rfl)) (ag (aY OK) aI)) (xf OK)))
 (ap (qN OK LOW hP 1000 (nu OK hN (ba R) (bv R) (by decide)) rfl (by rfl) (bJ OK (ac hP rfl)) (ap (gS (ax OK fB (ac hP rfl) (qp OK (f7 R) (iw _) (ac hP rfl))) (an AO) aB)
 (an (gS (ax OK km (ac hP rfl) (aY OK)) (an (qN OK LOW hP 1000 (nu OK hN (ba R) (bv R) (by decide)) rfl (by rfl) (bJ OK (ac hP rfl)) (ap (gS (ax OK km (ac hP rfl) (aY OK)) (an (a9 (ac hP rfl))) (an (gS (ax OK km (ac hP rfl) (aY OK)) (an (aq OK hP rfl (nJ OK hN (f7 R) (gz _) (Ft _).2.1 (ba R) ((bv R).mono (by decide)).call (ac hP rfl)))) aB)))
 (an (D7 OK hP (sU OK) rfl (ac hP rfl)))))) (ap (gS (ax OK km (ac hP rfl) (aY OK)) (an (aq OK hP rfl (nJ OK hN (f7 R) (gz _) (Ft _).2.1 (ba R) ((bv R).mono (by decide)).call (ac hP rfl)))) aB)
 (ap (D7 OK hP (sU OK) rfl (ac hP rfl))
 (an (qN OK LOW hP 1000 (nu OK hN (ba R) (bv R) (by decide)) rfl (by rfl) (bJ OK (ac hP rfl)) (ap (gS (ax OK fB (ac hP rfl) (qp OK (f7 R) (iw _) (ac hP rfl))) (an (a9 (ac hP rfl))) (an (gS (ax OK km (ac hP rfl) (aY OK)) (an (aq OK hP rfl (nJ OK hN (f7 R) (gz _) (Ft _).2.1 (ba R) ((bv R).mono (by decide)).call (ac hP rfl)))) aB)))
 (an (D7 OK hP (sU OK) rfl (ac hP rfl))))))))))))
 (an (a9 (ac hP rfl))))))):jO (BB w s) (bC dg L 113 stk ["self","token","fiter","ch"]) 3 (aF (c4 8 2)) (bx))
theorem mL:aQ (BB w s) 3 (.ref 214) (eW) :=
 have OK:=mE R;have LOW:=fO R;have LIM:=fN R
 MS OK LOW LIM qG (im R) λL stk hP hN =>
 ((kN (aq OK hP rfl (MT OK hN (f7 R) (HZ _) (HV _) (xr _) (M1 _) (aM hP (nY R) ⟨rfl,rfl⟩ rfl) (ag (MU OK) aI) ((f9 R).mono (by decide))))
 (kN (mQ (D9 OK hN (f7 R) (iu _) (Ft _).2.2.2 (bZ R) ((dm R).mono (by decide)).call (ac hP rfl) (ag (aY OK) aI)))
 (Hj OK LOW hP (ut (by decide) (by obtain⟨_,T⟩:=R.top;exact T.g)) (Op (Pl:=209) (by decide) R) (xD (by decide)) (i:=0) (j:=2) (nm:="signs") (qual:=aZ.qual) (by decide) (λu=>by rfl) rfl rfl (by rfl) (by rfl) (by rfl) (by rfl) (by rfl) (by rfl) (by decide) (by decide:(209:Addr)∈([209,221]:List Addr)) (by rfl) (λρ h t=>t.1) (λρ h h2 t hk g=>⟨g,d8.other t.1 t.2 (by decide) hk⟩) (λhK hL=>MR (ap (ky OK (f7 R) (xu _) (ac hK rfl) (ac hK rfl))
 (an (a9 (MT OK hL (f7 R) (HZ _) (HV _) (xr _) (M1 _) (aM hK (nY R) ⟨rfl,rfl⟩ rfl) (ag (ac hK rfl) aI) ((f9 R).mono (by decide))))))) hN))):EO (BB w s) (bC ip L 214 stk ["signs","stream","give"]) 2 (aF (ah 23)) gB)
theorem J2(n:Nat):∀fd L a stk k a',fd.params=dE cn->fd.scope=eM cn->fd.globals=Pz->fd.builtins=builtinsNs->(dP fd L a stk "house" "told" k a').Ok ->
  TE (BB w s) (dP fd L a stk "house" "told" k a') n (gA cn) gQ:=λfd L a stk k a' h1 h2 h3 h4 hP=>by
 have OK:=mE R
 obtain⟨_,_,_,_,_,_,_,_,_,_,_,_,_,_,_⟩:=fd
 dsimp only at h1 h2 h3 h4
 subst h1;subst h2;subst h3;subst h4
 exact(bj OK (ac hP rfl) (ac hP rfl))
theorem wu:aQ (BB w s) 3 (.ref 224) (i3) :=
 have OK:=mE R;have LOW:=fO R;have LIM:=fN R
 MS OK LOW LIM ux (nN R) λL stk hP hN =>
 ((kN (aq OK hP rfl (bY OK (ag (aM hP (ou R) ⟨rfl,rfl⟩ rfl) (ag (aM hP (nq R) ⟨rfl,rfl⟩ rfl) (ag (aM hP (jG R) ⟨rfl,rfl⟩ rfl) (ag (aM hP (j9 R) ⟨rfl,rfl⟩ rfl) (ag (aM hP (jF R) ⟨rfl,rfl⟩ rfl) aI)))))))
 (kN (aq OK hP rfl (bj OK (ac hP rfl) (a6 (eV OK) (ac hP rfl) (ay OK))))
 (kN (aq OK hP rfl (bY OK aI))
 (kN (qN OK LOW hP 1000 iB rfl (by rfl) (bJ OK (ac hP rfl)) (ap (aq OK hP rfl (c7 hN (aM hP (pG R) ⟨rfl,rfl⟩ rfl) (ag (Ks hN (ac hP rfl) (ag (ac hP rfl) aI) (vB.cons (iH R) (oF R) (by decide) (vB.cons (hO R) (nC R) (by decide) (vB.cons (ff R) (jM R) (by decide) (vB.cons (fF R) (ku R) (by decide) (vB.cons (fe R) (jL R) (by decide) vB.none)))))) aI) (jz R) (qg R) (by decide)))
 (an (mQ (d6 (ac hP rfl) cF (ag (a6 (eV OK) (bV (aM hP (Li R) ⟨rfl,rfl⟩ rfl) (ag (dN OK LOW hP 1000 (x:="i") (own:=(fD "i")) [none,none,none,none,none,none,some "numbers"] (by rfl) ⟨by rfl,by decide+kernel,oL (by rfl),dS,by rfl,eC.get (.hid (.hid (.hid (.hid (.hid (.hid (.see (λC=>by first | exact .inl rfl | exact .inr ⟨rfl,by decide⟩) (λC=>rfl) (.rest rfl)))))))),by rfl,bl⟩ (.of1 (by rfl)) (cI OK (aM hP (dQ R) ⟨rfl,rfl⟩ rfl) (ag (bV (aM hP (pJ R) ⟨rfl,rfl⟩ rfl) (ag (ac hP rfl) aI) (lL OK)) aI)) (λC hQ hM=>bM) (λC hQ hM=>(a6 (p9 OK) (a6 (bD OK) (ac hQ rfl) (ay OK)) (bj OK (ac hQ rfl) (ac hQ rfl))))) aI) (IK OK)) (a6 (bD OK) (ay OK) (a6 (eV OK) (a6 (iC OK) (ac hP rfl) (ay OK)) (ay OK)))) aI) (fJ OK) PS Qh QE)))))
 (Hk OK LOW LIM hP hN (aM hP (pM R) ⟨rfl,rfl⟩ rfl) (bY OK (ag (ay OK) (ag (ay OK) (ag (ay OK) (ag (ay OK) aI))))) JR (J2 R _) wb (i:=4) (by rfl) (by rfl) (by rfl) (by rfl) (by rfl) (ut (by decide) (by obtain⟨_,T⟩:=R.top;exact T.g)) (by rfl) (Op (Pl:=221) (by decide) R) (by decide) (by decide:(221:Addr)∈([209,221]:List Addr)) (xD (by decide)) (λρ h t=>t.2) (λρ h h' t hk g=>⟨d8.other t.2 t.1 (by decide) hk,g⟩) (by rfl) (by rfl)))))):EO (BB w s) (bC j7 L 224 stk ["y","plates","hands","hand","told","plate","numbers"]) 2 (aF (ah 25)) jo)
theorem qh:aQ (BB w s) 5 (.ref 239) (eR) :=
 have OK:=mE R;have LOW:=fO R;have LIM:=fN R
 gV OK LOW LIM uy (jY R) λL stk hP hN =>
 ((ap (gR OK LOW hP 1000 (x:="pieces") (own:=(fD "pieces")) [none,none,none,none,none,none,none,none,none,none,none,none,none,none,none] (by rfl) rfl (by rfl) (by rfl) ⟨by rfl,by decide+kernel,oL (by rfl),dS,by rfl,eC.get (.rest rfl),by rfl,bl⟩ (.of1 (by rfl)) (bJ OK (ac hP rfl)) (λC hQ hM=>bM) (λC hQ hM=>(Kt (aM hQ (Je R) ⟨rfl,rfl⟩ rfl) (ag (d6 (aY OK) fZ (ag (ac hQ rfl) aI) (hB OK) Qe QN QO) aI) (E5 OK))))
 (ap (gR OK LOW hP 1000 (x:="text") (own:=(fD "text")) [none,none,none,none,none,none,none,none,none,none,none,none,none,none,none] (by rfl) rfl (by rfl) (by rfl) ⟨by rfl,by decide+kernel,oL (by rfl),dS,by rfl,eC.get (.rest rfl),by rfl,bl⟩ (.of1 (by rfl)) (bJ OK (ac hP rfl)) (λC hQ hM=>bM) (λC hQ hM=>(c7 hM (aM hQ (mq R) ⟨rfl,rfl⟩ rfl) (ag (ac hQ rfl) aI) (im R) (mL R) (by decide))))
 (ap (aq OK hP rfl (c7 hN (aM hP (mq R) ⟨rfl,rfl⟩ rfl) (ag (bY OK aI) aI) (im R) (mL R) (by decide)))
 (ap (qN OK LOW hP 1000 iB rfl (by rfl) (bJ OK (nI (rW OK (ac hP rfl)) (MV OK (ac hP rfl)) (ac hP rfl))) (an (mQ (D9 OK hN (f7 R) (iu _) (Ft _).2.2.2 (bZ R) ((dm R).mono (by decide)).call (ac hP rfl) (ag (ac hP rfl) aI)))))
 (ap (aq OK hP rfl (bY OK (ag (ay OK) (ag (ay OK) (ag (ay OK) (ag (ay OK) aI))))))
 (ap (aq OK hP rfl (bY OK (ag (ay OK) (ag (ay OK) (ag (ay OK) (ag (ay OK) aI))))))
 (ap (aq OK hP rfl (bY OK aI))
 (ap (aq OK hP rfl (nJ OK hN (f7 R) (ji _) (Ft _).2.2.1 (ce R) ((dM R).mono (by decide)).call (ac hP rfl)))
 (ap (wR 1000 (ax OK Da (ac hP rfl) (aY OK)) (ap (aq OK hP rfl (bY OK (ag (d6 (ac hP rfl) cF (ag (ac hP rfl) aI) (l7 OK) PS Rj Sf) aI)))
 (ap (aq OK hP rfl (aY OK))
 (ap (gS (ax OK oQ (bj OK (ac hP rfl) (ay OK)) (ac hP rfl)) (an (mQ (d6 (ac hP rfl) cF (ag (bj OK (ac hP rfl) (ay OK)) aI) (fJ OK) PS Qh QE))) aB)
 (ap (gS (ax OK fB (bj OK (ac hP rfl) (ay OK)) (ac hP rfl)) (ap (wR 1000 (ax OK km (d6 (ac hP rfl) cF (ag (bj OK (ac hP rfl) (Ky OK (ay OK))) aI) (Bw OK) PS F.slot_list_count F.type_list_count) (ay OK)) (ap (aq OK hP rfl (bj OK (ac hP rfl) (Ky OK (ay OK))))
 (ap (wR 1000 (ax OK oQ (bj OK (ac hP rfl) (ac hP rfl)) (ac hP rfl)) (ap (aq OK hP rfl (nJ OK hN (f7 R) (ji _) (Ft _).2.2.1 (ce R) ((dM R).mono (by decide)).call (bj OK (ac hP rfl) (ac hP rfl))))
 (an (Ec OK (d6 (ac hP rfl) cF (ag (d6 (aY OK) fZ (ag (dN OK LOW hP 1000 (x:="c") (own:=(fD "c")) [none,none,none,none,none,none,none,none,none,none,none,none,none,none,none] (by rfl) ⟨by rfl,by decide+kernel,oL (by rfl),dS,by rfl,eC.get (.rest rfl),by rfl,bl⟩ (.of1 (by rfl)) (bJ OK (ac hP rfl)) (λC hQ hM=>oV (vh (rW OK (c7 hM (aM hQ (qE R) ⟨rfl,rfl⟩ rfl) (ag (ac hQ rfl) aI) (jZ R) (qK R) (by decide))))) (λC hQ hM=>(c7 hM (aM hQ (pK R) ⟨rfl,rfl⟩ rfl) (ag (ac hQ rfl) aI) (jB R) (qk R) (by decide)))) aI) (hB OK) Qe QN QO) aI) (l7 OK) PS Rj Sf) (ac hP rfl) (ac hP rfl)))))
 (an (mQ (d6 (ac hP rfl) cF (ag (bj OK (ac hP rfl) (ac hP rfl)) aI) (fJ OK) PS Qh QE))))))
 (ap (aq OK hP rfl (qq OK (ac hP rfl) (fT (a6 (bD OK) (d6 (ac hP rfl) cF (ag (bj OK (ac hP rfl) (Ky OK (ay OK))) aI) (l7 OK) PS Rj Sf) (ay OK))) iX))
 (ap (gR OK LOW hP 1000 (x:="k") (own:=(fD "k")) [none,none,none,none,none,none,none,none,none,none,none,none,none,none,some "ring"] (by rfl) rfl (by rfl) (by rfl) ⟨by rfl,by decide+kernel,oL (by rfl),dS,by rfl,eC.get (.hid (.hid (.hid (.hid (.hid (.hid (.hid (.hid (.hid (.hid (.hid (.hid (.hid (.hid (.see (λC=>by first | exact .inl rfl | exact .inr ⟨rfl,by decide⟩) (λC=>rfl) (.rest rfl)))))))))))))))),by rfl,bl⟩ (.of1 (by rfl)) (bJ OK (ac hP rfl)) (λC hQ hM=>oV (ax OK oQ (ac hQ rfl) (ac hQ rfl))) (λC hQ hM=>(ac hQ rfl)))
 (an (gS (ax OK fB (bj OK (ac hP rfl) (ay OK)) (ac hP rfl)) (an (aq OK hP rfl (bj OK (ac hP rfl) (bj OK (ac hP rfl) (ay OK))))) aB))))) aB)
 (an (gS (kU (kQ (ax OK km (ac hP rfl) (aY OK)) (kQ (vh (rW OK (ac hP rfl))) wO))) (ap (gS (ax OK Da (ac hP rfl) (aY OK)) (an (mQ (D9 OK hN (f7 R) (iu _) (Ft _).2.2.2 (bZ R) ((dm R).mono (by decide)).call (ac hP rfl) (ag (ac hP rfl) aI)))) aB)
 (an (aq OK hP rfl (nJ OK hN (f7 R) (ji _) (Ft _).2.2.1 (ce R) ((dM R).mono (by decide)).call (ac hP rfl))))) aB)))))))
 (an (a9 (bY OK (ag (ac hP rfl) (ag (ac hP rfl) (ag (dN OK LOW hP 1000 (x:="text") (own:=(fD "text")) [none,none,none,none,none,none,none,none,none,none,none,none,none,none,none] (by rfl) ⟨by rfl,by decide+kernel,oL (by rfl),dS,by rfl,eC.get (.rest rfl),by rfl,bl⟩ (.of1 (by rfl)) (bJ OK (ac hP rfl)) (λC hQ hM=>bM) (λC hQ hM=>(d6 (aY OK) fZ (ag (ac hQ rfl) aI) (hB OK) Qe QN QO))) (ag (dN OK LOW hP 1000 (x:="lexer") (own:=(fD "lexer")) [none,none,none,none,none,none,none,none,none,none,none,none,none,none,none] (by rfl) ⟨by rfl,by decide+kernel,oL (by rfl),dS,by rfl,eC.get (.rest rfl),by rfl,bl⟩ (.of1 (by rfl)) (bJ OK (ac hP rfl)) (λC hQ hM=>bM) (λC hQ hM=>(qp OK (f7 R) (no _) (ac hQ rfl)))) aI)))))))))))))))):jO (BB w s) (bC j8 L 239 stk ["plates","houses","lists","turned","texts","lexers","line","plate","here","wish","come","path","last","word","ring"]) 4 (aF (ah 28)) (jp))
theorem K5(L:Addr)(stk:List Env)(hP:(bC pE L 249 stk ["script","cells","stay","signs","plates","houses","told","orders","lists","run","got","ranks","places","rows","size","row","gains","others"]).Ok)(hN:(bC pE L 249 stk ["script","cells","stay","signs","plates","houses","told","orders","lists","run","got","ranks","places","rows","size","row","gains","others"]).NoStore):jO (BB w s) (bC pE L 249 stk ["script","cells","stay","signs","plates","houses","told","orders","lists","run","got","ranks","places","rows","size","row","gains","others"]) 5 (aF (ah 30)) (CS js) :=
 have OK:=mE R;have LOW:=fO R;have LIM:=fN R
 (ap (aq OK hP rfl (dN OK LOW hP 1000 (x:="k") (own:=(fD "k")) [some "script",none,none,none,none,none,none,none,none,none,none,none,none,none,none,none,none,none] (by rfl) ⟨by rfl,by decide+kernel,oL (by rfl),dS,by rfl,eC.get (.see (λC=>by first | exact .inl rfl | exact .inr ⟨rfl,by decide⟩) (λC=>rfl) (.rest rfl)),by rfl,bl⟩ (.of1 (by rfl)) (cI OK (aM hP (dQ R) ⟨rfl,rfl⟩ rfl) (ag (ay OK) aI)) (λC hQ hM=>bM) (λC hQ hM=>(nI (ax OK GB (ac hQ rfl) (bV (aM hQ (pJ R) ⟨rfl,rfl⟩ rfl) (ag (ac hQ rfl) aI) (E4 OK (Cf R)))) (Kw OK (Cf R) (ac hQ rfl) (ac hQ rfl)) (bj OK (bY OK (ag (ay OK) (ag (ay OK) (ag (ay OK) (ag (ay OK) (ag (ay OK) (ag (ay OK) aI))))))) (ac hQ rfl))))))
 (ap (aq OK hP rfl (c7 hN (aM hP (tS R) ⟨rfl,rfl⟩ rfl) (ag (bj OK (ac hP rfl) (ay OK)) aI) (l9 R) (uM R) (by decide)))
 (ap (aq OK hP rfl (aY OK))
 (ap (aq OK hP rfl (dN OK LOW hP 1000 (x:="k") (own:=(fD "k")) [none,some "cells",none,some "signs",none,none,none,none,none,none,none,none,none,none,none,none,none,none] (by rfl) ⟨by rfl,by decide+kernel,oL (by rfl),dS,by rfl,eC.get (.hid (.see (λC=>by first | exact .inl rfl | exact .inr ⟨rfl,by decide⟩) (λC=>rfl) (.hid (.see (λC=>by first | exact .inl rfl | exact .inr ⟨rfl,by decide⟩) (λC=>rfl) (.rest rfl))))),by rfl,bl⟩ (.of1 (by rfl)) (cI OK (aM hP (dQ R) ⟨rfl,rfl⟩ rfl) (ag (ay OK) aI)) (λC hQ hM=>bM) (λC hQ hM=>(a6 (bD OK) (bj OK (ac hQ rfl) (a6 (eV OK) (a6 (bD OK) (bj OK (ac hQ rfl) (ay OK)) (a6 (p9 OK) (ay OK) (ac hQ rfl))) (ay OK))) (bj OK (ac hQ rfl) (a6 (eV OK) (a6 (bD OK) (a6 (iC OK) (bj OK (ac hQ rfl) (ay OK)) (ay OK)) (a6 (p9 OK) (ay OK) (ac hQ rfl))) (ay OK)))))))
 (ap (aq OK hP rfl (bY OK (ag (a6 (bD OK) (aY OK) (ac hP rfl)) (ag (a6 (bD OK) (aY OK) (ac hP rfl)) (ag (a6 (bD OK) (aY OK) (ac hP rfl)) (ag (a6 (bD OK) (aY OK) (ac hP rfl)) aI))))))
 (ap (aq OK hP rfl (dN OK LOW hP 1000 (x:="y") (own:=(fD "y")) [none,none,none,none,some "plates",none,none,none,none,none,none,none,none,none,none,none,none,none] (by rfl) ⟨by rfl,by decide+kernel,oL (by rfl),dS,by rfl,eC.get (.hid (.hid (.hid (.hid (.see (λC=>by first | exact .inl rfl | exact .inr ⟨rfl,by decide⟩) (λC=>rfl) (.rest rfl)))))),by rfl,bl⟩ (.of1 (by rfl)) (bJ OK (qq OK (ac hP rfl) iX (fT (ay OK)))) (λC hQ hM=>bM) (λC hQ hM=>(c7 hM (aM hQ (vS R) ⟨rfl,rfl⟩ rfl) (ag (ac hQ rfl) (ag (ac hQ rfl) aI)) (nN R) (wu R) (by decide)))))
 (ap (aq OK hP rfl (dN OK LOW hP 1000 (x:="y") (own:=(fD "y")) [none,none,none,none,some "plates",none,none,none,none,none,none,none,none,none,none,none,none,none] (by rfl) ⟨by rfl,by decide+kernel,oL (by rfl),dS,by rfl,eC.get (.hid (.hid (.hid (.hid (.see (λC=>by first | exact .inl rfl | exact .inr ⟨rfl,by decide⟩) (λC=>rfl) (.rest rfl)))))),by rfl,bl⟩ (.of1 (by rfl)) (bJ OK (qq OK (ac hP rfl) iX (fT (ay OK)))) (λC hQ hM=>bM) (λC hQ hM=>(c7 hM (aM hQ (sF R) ⟨rfl,rfl⟩ rfl) (ag (ac hQ rfl) (ag (ac hQ rfl) aI)) (lf R) (sZ R) (by decide)))))
 (ap (gR OK LOW hP 1000 (x:="k") (own:=(fD "k")) [none,some "cells",some "stay",none,none,none,some "told",none,none,none,none,none,none,none,none,none,none,none] (by rfl) rfl (by rfl) (by rfl) ⟨by rfl,by decide+kernel,oL (by rfl),dS,by rfl,eC.get (.hid (.see (λC=>by first | exact .inl rfl | exact .inr ⟨rfl,by decide⟩) (λC=>rfl) (.see (λC=>by first | exact .inl rfl | exact .inr ⟨rfl,by decide⟩) (λC=>rfl) (.hid (.hid (.hid (.see (λC=>by first | exact .inl rfl | exact .inr ⟨rfl,by decide⟩) (λC=>rfl) (.rest rfl)))))))),by rfl,bl⟩ (.of1 (by rfl)) (cI OK (aM hP (dQ R) ⟨rfl,rfl⟩ rfl) (ag (ay OK) aI)) (λC hQ hM=>bM) (λC hQ hM=>(c7 hM (aM hQ (nW R) ⟨rfl,rfl⟩ rfl) (ag (bj OK (ac hQ rfl) (ac hQ rfl)) (ag (ac hQ rfl) (ag (a6 (iC OK) (bj OK (ac hQ rfl) (ac hQ rfl)) (ay OK)) aI))) (jb R) (n7 R) (by decide))))
 (ap (aq OK hP rfl (c7 hN (aM hP (pH R) ⟨rfl,rfl⟩ rfl) (ag (ac hP rfl) (ag (ac hP rfl) (ag (ac hP rfl) (ag (rV OK) aI)))) (jY R) (qh R) (by decide)))
 (ap (aq OK hP rfl (bj OK (ac hP rfl) (ay OK)))
 (ap (gS (ax OK Da (bV (aM hP (pM R) ⟨rfl,rfl⟩ rfl) (ag (ac hP rfl) aI) (qU OK)) (bY OK (ag (ay OK) (ag (ay OK) (ag (ay OK) (ag (ay OK) aI)))))) (an (a9 (rV OK))) aB)
 (ap (aq OK hP rfl (dN OK LOW hP 1000 (x:="k") (own:=(λC=>[("k",.cell (C+1))])) [none,none,none,none,none,none,none,some "orders",none,none,none,none,none,none,none,none,none,none] (by rfl) ⟨by rfl,by decide+kernel,(λC p hp=>by rw[OS.mp hp];exact⟨⟨.inl rfl,rfl⟩,.inr ⟨C+1,"k",rfl,.head _⟩⟩),(λC=>M3 _),by rfl,eC.get (.hid (.hid (.hid (.hid (.hid (.hid (.hid (.see (λC=>by first | exact .inl rfl | exact .inr ⟨rfl,by decide⟩) (λC=>rfl) (.rest rfl))))))))),by rfl,bl⟩ ⟨λC=>⟨_,rfl⟩,λC=>by rfl⟩ (cI OK (aM hP (dQ R) ⟨rfl,rfl⟩ rfl) (ag (ay OK) aI)) (λC hQ hM=>bM) (λC hQ hM=>(dN OK LOW hQ 1000 (x:="house") (own:=(fD "house")) [none,none,none,none,none,none,none,some "orders",none,none,none,none,none,none,none,none,none,none,some "k"] (by rfl) ⟨by rfl,by decide+kernel,oL (by rfl),dS,by rfl,eC.get (.hid (.hid (.hid (.hid (.hid (.hid (.hid (.see (λC=>by first | exact .inl rfl | exact .inr ⟨rfl,by decide⟩) (λC=>rfl) (.hid (.hid (.hid (.hid (.hid (.hid (.hid (.hid (.hid (.hid (.see (λC=>by first | exact .inl rfl | exact .inr ⟨rfl,by decide⟩) (λC=>rfl) (.rest rfl)))))))))))))))))))),by rfl,hM⟩ (.of1 (by rfl)) (cI OK (aM hQ (dQ R) ⟨rfl,rfl⟩ rfl) (ag (ay OK) aI)) (λC hQ hM=>bM) (λC hQ hM=>(d6 (bj OK (ac hQ rfl) (ac hQ rfl)) cF (ag (ac hQ rfl) aI) (l7 OK) PS Rj Sf))))))
 (ap (aq OK hP rfl (dN OK LOW hP 1000 (x:="k") (own:=(fD "k")) [none,none,none,none,none,none,none,none,none,none,some "got",some "ranks",none,none,none,none,none,none] (by rfl) ⟨by rfl,by decide+kernel,oL (by rfl),dS,by rfl,eC.get (.hid (.hid (.hid (.hid (.hid (.hid (.hid (.hid (.hid (.hid (.see (λC=>by first | exact .inl rfl | exact .inr ⟨rfl,by decide⟩) (λC=>rfl) (.see (λC=>by first | exact .inl rfl | exact .inr ⟨rfl,by decide⟩) (λC=>rfl) (.rest rfl))))))))))))),by rfl,bl⟩ (.of1 (by rfl)) (cI OK (aM hP (dQ R) ⟨rfl,rfl⟩ rfl) (ag (ay OK) aI)) (λC hQ hM=>bM) (λC hQ hM=>(bj OK (bj OK (ac hQ rfl) (ac hQ rfl)) (bj OK (ac hQ rfl) (ac hQ rfl))))))
 (ap (aq OK hP rfl (bY OK (ag (bY OK aI) aI)))
 (ap (qN OK LOW hP 1000 iB rfl (by rfl) (cI OK (aM hP (dQ R) ⟨rfl,rfl⟩ rfl) (ag (ay OK) aI)) (ap (td OK LOW hP 1000 1000 (x:="row") (y:="k") [none,none,none,none,none,none,none,none,none,none,none,none,none,none,none,none,none,none] (by rfl) rfl (by rfl) (by rfl) ⟨by rfl,by decide+kernel,Oz (by rfl) (by rfl),M2 (by decide),by rfl,eC.get (.rest rfl),by rfl,bl⟩ (by rfl) (by rfl) (bJ OK (ac hP rfl)) (λC hQ hM=>(cI OK (aM hQ (dQ R) ⟨rfl,rfl⟩ rfl) (ag (ay OK) aI))) (λC hQ hM=>oV (ax OK oQ (ac hQ rfl) (ac hQ rfl))) (λC hQ hM=>(a6 (bD OK) (ac hQ rfl) (bY OK (ag (ac hQ rfl) aI)))))
 (an (qN OK LOW hP 1000 iB rfl (by rfl) (bJ OK (ac hP rfl)) (ap (gR OK LOW hP 1000 (x:="i") (own:=(fD "i")) [none,none,none,none,none,none,none,none,none,none,none,some "ranks",some "places",none,none,some "row",none,none] (by rfl) rfl (by rfl) (by rfl) ⟨by rfl,by decide+kernel,oL (by rfl),dS,by rfl,eC.get (.hid (.hid (.hid (.hid (.hid (.hid (.hid (.hid (.hid (.hid (.hid (.see (λC=>by first | exact .inl rfl | exact .inr ⟨rfl,by decide⟩) (λC=>rfl) (.see (λC=>by first | exact .inl rfl | exact .inr ⟨rfl,by decide⟩) (λC=>rfl) (.hid (.hid (.see (λC=>by first | exact .inl rfl | exact .inr ⟨rfl,by decide⟩) (λC=>rfl) (.rest rfl))))))))))))))))),by rfl,bl⟩ (.of1 (by rfl)) (cI OK (aM hP (dQ R) ⟨rfl,rfl⟩ rfl) (ag (bV (aM hP (pJ R) ⟨rfl,rfl⟩ rfl) (ag (ac hP rfl) aI) (lL OK)) aI)) (λC hQ hM=>bM) (λC hQ hM=>(a6 (za OK) (bj OK (ac hQ rfl) (bj OK (ac hQ rfl) (ac hQ rfl))) (bj OK (bj OK (ac hQ rfl) (bj OK (ac hQ rfl) (ac hQ rfl))) (bj OK (ac hQ rfl) (a6 (eV OK) (a6 (bD OK) (ac hQ rfl) (ay OK)) (bV (aM hQ (pJ R) ⟨rfl,rfl⟩ rfl) (ag (ac hQ rfl) aI) (lL OK))))))))
 (an (gS (kU (ve (ax OK NV (bV (aM hP (Lh R) ⟨rfl,rfl⟩ rfl) (ag (ac hP rfl) aI) (IJ OK)) (ay OK)) (ve (ax OK NW (bV (aM hP (Lg R) ⟨rfl,rfl⟩ rfl) (ag (ac hP rfl) aI) (II OK)) (ay OK)) Hi))) (an (a9 (rV OK))) aB)))))))
 (ap (gS (ax OK Da (ac hP rfl) (a6 (bD OK) (bY OK (ag (ac hP rfl) (ag (bY OK (ag (ay OK) (ag (ay OK) (ag (ay OK) (ag (ay OK) aI))))) aI))) (c7 hN (aM hP (nX R) ⟨rfl,rfl⟩ rfl) (ag (ac hP rfl) (ag (ac hP rfl) aI)) (jc R) (n8 R) (by decide)))) (an (a9 (rV OK))) aB)
 (ap (gR OK LOW hP 1000 (x:="k") (own:=(fD "k")) [none,some "cells",some "stay",none,none,none,some "told",none,none,none,none,none,none,none,none,none,none,none] (by rfl) rfl (by rfl) (by rfl) ⟨by rfl,by decide+kernel,oL (by rfl),dS,by rfl,eC.get (.hid (.see (λC=>by first | exact .inl rfl | exact .inr ⟨rfl,by decide⟩) (λC=>rfl) (.see (λC=>by first | exact .inl rfl | exact .inr ⟨rfl,by decide⟩) (λC=>rfl) (.hid (.hid (.hid (.see (λC=>by first | exact .inl rfl | exact .inr ⟨rfl,by decide⟩) (λC=>rfl) (.rest rfl)))))))),by rfl,bl⟩ (.of1 (by rfl)) (cI OK (aM hP (dQ R) ⟨rfl,rfl⟩ rfl) (ag (ay OK) aI)) (λC hQ hM=>bM) (λC hQ hM=>(c7 hM (aM hQ (nW R) ⟨rfl,rfl⟩ rfl) (ag (bj OK (ac hQ rfl) (ac hQ rfl)) (ag (ac hQ rfl) (ag (a6 (bD OK) (a6 (iC OK) (bj OK (ac hQ rfl) (ac hQ rfl)) (ay OK)) (ay OK)) aI))) (jb R) (n7 R) (by decide))))
 (an (a9 (Oc km (c7 hN (aM hP (pH R) ⟨rfl,rfl⟩ rfl) (ag (ac hP rfl) (ag (ac hP rfl) (ag (ac hP rfl) (ag (rV OK) aI)))) (jY R) (qh R) (by decide)) (a6 (bD OK) (bY OK (ag (ac hP rfl) (ag (bY OK (ag (ay OK) (ag (ay OK) (ag (ay OK) (ag (ay OK) aI))))) aI))) (c7 hN (aM hP (nX R) ⟨rfl,rfl⟩ rfl) (ag (ac hP rfl) (ag (ac hP rfl) aI)) (jc R) (n8 R) (by decide)))))))))))))))))))))))
end
end
end Mine
namespace Mine
open Mine.H1
theorem Lm{w:Pt}{mg mb:Str->Option OT}{s:OX}{js:List Int}(R:eI w mg mb s 250 js):d8 213 209 (BP pO) "_law_lexer.<locals>.give" [] s.heap:=by
 have h1:s.heap.get? 209=some { cls:=.none,data:=.fields #[] }:=R.head _ _ (ix (o:={ cls:=.none,data:=.fields #[] }) (by decide) (by kernel_rfl) rfl)
 have h2:s.heap.get? 213=some (kG):=R.head _ _ (ix (o:=kG) (by decide) (by kernel_rfl) rfl)
 refine⟨#[],?_,⟨⟨_,_,h2,rfl,rfl,rfl⟩,h1⟩,by simp,by simp,.inl rfl⟩
 exact⟨_,_,_,_,_,_,_,_,_,_,h2,rfl,rfl,rfl,rfl,rfl,rfl,h1,rfl,by exact trivial,by decide⟩
theorem LJ{w:Pt}{mg mb:Str->Option OT}{s:OX}{js:List Int}(R:eI w mg mb s 250 js):d8 223 221 (CC cn) "_law_row.<locals>.<lambda>" [] s.heap:=by
 have h1:s.heap.get? 221=some { cls:=.none,data:=.fields #[] }:=R.head _ _ (ix (o:={ cls:=.none,data:=.fields #[] }) (by decide) (by kernel_rfl) rfl)
 have h2:s.heap.get? 223=some (kI):=R.head _ _ (ix (o:=kI) (by decide) (by kernel_rfl) rfl)
 refine⟨#[],?_,⟨⟨_,_,h2,rfl,rfl,rfl⟩,h1⟩,by simp,by simp,.inl rfl⟩
 exact⟨_,_,_,_,_,_,_,_,_,_,h2,rfl,rfl,rfl,rfl,rfl,rfl,h1,rfl,by exact trivial,by decide⟩
theorem ue(pure_:∀js:List Int,js.length<=63->∃st,CS js ⟨[],fS 18 [.glob (.ref 250)]⟩=some (.ret (.bool true),st)):PySem.Challenge.rw_tc0058_02.Holds:=by
 refine head λw mg mb s js R=>?_
 obtain⟨st,hst⟩:=pure_ js R.few
 have RN:o0 (BB w s) [] [] [] s:={
  len:=rfl,nodup:=SK,obj:=λk a o h=>by simp at h,live:=λa h=>by simp at h
  kept:=λb o e=>(Jg e).2,tab:=⟨Lm R,LJ R⟩,fresh:=λa h=>by simp at h,stk:=λe h=>by simp at h
  gens:=R.gens,os:=rfl,size:=by rw[n0 R];exact Qc R.size.symm }
 refine Dz (mE R) (fO R) (fN R) JS (IQ R) (λL stk hP=>(K5 R L stk hP bl).h) RN (by rw[n0 R];exact R.size) R.toks (xs := [.glob (.ref 250)]) (vs := [.ref 250]) ⟨rfl,trivial⟩ rfl rfl rfl (by decide+kernel) (by decide+kernel) hst λv ρ s' rv hk ht hg ho=>?_
 refine⟨rv,λb o e h1 h2=>hk b o e (by
  intro hm
  have hm:b∈([209,221]:List Addr):=hm
  rcases PW.mp hm with q | q
  ·exact h1 q
  ·exact h2 (OS.mp q)),λb hb=>?_,hg,ho⟩
 rcases hb with rfl | rfl
 ·obtain⟨ps,_,h,_⟩:=ht.1.is
  exact⟨ps,h.2⟩
 ·obtain⟨ps,_,h,_⟩:=ht.2.is
  exact⟨ps,h.2⟩
end Mine
end
section
open PySem PySem.Calls
namespace Mine
noncomputable def W{α:Type}(m:M α)(st:St)(Q:α->St->Prop):Prop:=∃a st',m st=some (a,st')/\Q a st'
section
variable {α β:Type}{st:St}{σ:List O}{L:List (Option V)}
theorem W.mono{m:M α}{Q Q':α->St->Prop}(h:W m st Q)(k:∀a st',Q a st'->Q' a st'):W m st Q':=by
 obtain⟨a,st',e,q⟩:=h;exact⟨a,st',e,k _ _ q⟩
theorem cL{m:M α}{f:α->M β}{Q:β->St->Prop}:W (ao m f) st Q↔W m st λa st'=>W (f a) st' Q:=by
 constructor
 ·rintro ⟨b,st',e,q⟩
  obtain⟨a,st1,e1,e2⟩:=fK e
  exact⟨a,st1,e1,b,st',e2,q⟩
 ·rintro ⟨a,st1,e1,b,st',e2,q⟩
  exact⟨b,st',by unfold ao;rw[e1];exact e2,q⟩
theorem bp{x:α}{Q:α->St->Prop}:W (aa x) st Q↔Q x st:=by
 constructor
 ·rintro ⟨a,st',e,q⟩
  obtain⟨rfl,rfl⟩:=ai e;exact q
 ·exact λq=>⟨x,st,rfl,q⟩
theorem Is{i:Nat}{Q:V->St->Prop}:W (getL i) ⟨σ,L⟩ Q↔∃x,L[i]?=some (some x)/\Q x ⟨σ,L⟩:=by
 constructor
 ·rintro ⟨a,st',e,q⟩
  exact iO e λx hx e=>by obtain⟨rfl,rfl⟩:=PZ e;exact⟨_,hx,q⟩
 ·rintro ⟨x,hx,q⟩
  exact⟨x,_,by unfold getL;rw[show(⟨σ,L⟩:St).L[i]?=_ from hx];rfl,q⟩
theorem ID{i:Nat}{x:V}{Q:Unit->St->Prop}:W (setL i x) ⟨σ,L⟩ Q↔Q () ⟨σ,L.set i (some x)⟩ :=
 ⟨λw9=>by obtain⟨_,_,e,q⟩:=w9;obtain⟨rfl,rfl⟩:=pj e;exact q,λq=>⟨_,_,rfl,q⟩⟩
theorem Iz{o:O}{Q:V->St->Prop}:W (gU o) ⟨σ,L⟩ Q↔Q (.ref σ.length) ⟨σ++[o],L⟩ :=
 ⟨λw9=>by obtain⟨_,_,e,q⟩:=w9;obtain⟨rfl,rfl⟩:=pj e;exact q,λq=>⟨_,_,rfl,q⟩⟩
theorem KX{c:Prop}[Decidable c]{a b:M α}{Q:α->St->Prop}:W (if c then a else b) st Q↔(c->W a st Q)/\(¬c->W b st Q):=by
 by_cases h:c
 ·rw[if_pos h];exact⟨λw=>⟨λu=>w,λn=>absurd h n⟩,λw=>w.1 h⟩
 ·rw[if_neg h];exact⟨λw=>⟨λy=>absurd y h,λu=>w⟩,λw=>w.2 h⟩
theorem KW{m:M α}{Q:α->St->Prop}{a:α}{st':St}(w:W m st Q)(e:m st=some (a,st')):Q a st':=by
 obtain⟨b,st1,e1,q⟩:=w
 rw[e]at e1;obtain⟨rfl,rfl⟩:=pj e1;exact q
theorem sT{k:Nat}{o:O}{f:O->M β}(h:st.σ[k]?=some o):oO k f st=f o st:=by unfold oO;rw[h]
theorem eK{k:Nat}{o:O}{f:O->M β}{Q:β->St->Prop}(h:st.σ[k]?=some o)(w:W (f o) st Q):W (oO k f) st Q:=by unfold W at *;rw[sT h];exact w
theorem br{k:Nat}{xs:List V}{f:List V->M β}{Q:β->St->Prop}(h:st.σ[k]?=some (.list xs))(w:W (f xs) st Q):W (cj k f) st Q:=eK h w
theorem ca{x:Option α}{y:α}{f:α->M β}{Q:β->St->Prop}(h:x=some y)(w:W (f y) st Q):W (dz x f) st Q:=by subst h;exact w
theorem cM{p:Prop}{_d:Decidable p}{m m':M β}{Q:β->St->Prop}(h:p)(w:W m st Q):W (if p then m else m') st Q:=by rw[if_pos h];exact w
theorem add_int{a b:Int}:bf (.int a) (.int b)=aa (.int (a+b)):=rfl
theorem sub_int{a b:Int}:s9 (.int a) (.int b)=aa (.int (a - b)):=rfl
theorem FK{a b:Int}(h:b≠0):c5 (.int a) (.int b)=aa (.int (a.fmod b)):=if_pos h
theorem B0{a b:Int}(h:b≠0)(h':b.natAbs<1000000000):ez (.int a) (.int b)=aa (.int (a.fdiv b)):=if_pos ⟨h,h'⟩
theorem lt_int{a b:Int}:EH (.int a) (.int b)=aa (.bool (decide (a<b))):=rfl
theorem gt_int{a b:Int}:Ll (.int a) (.int b)=aa (.bool (decide (b<a))):=rfl
theorem ge_int{a b:Int}:Lj (.int a) (.int b)=aa (.bool (decide (b<=a))):=rfl
theorem ER{a b:Str}{Q:V->St->Prop}:W (iM (.str a) (.str b)) st Q↔Q (.bool (a==b)) st :=
 ⟨λw9=>by obtain⟨_,_,e,q⟩:=w9;obtain⟨rfl,rfl⟩:=pj e;exact q,λq=>⟨_,_,rfl,q⟩⟩
theorem EX{a b:Str}{Q:V->St->Prop}:W (tA (.str a) (.str b)) st Q↔Q (.bool (!(a==b))) st :=
 ⟨λw9=>by obtain⟨_,_,e,q⟩:=w9;obtain⟨rfl,rfl⟩:=pj e;exact q,λq=>⟨_,_,rfl,q⟩⟩
theorem qt{b:Bool}:c8 (.bool b)=aa b:=rfl
end
noncomputable abbrev tx(l:List Nat):Str:=⟨l.toArray⟩
noncomputable abbrev sx(l:List Nat):V:=.str (tx l)
theorem b0(l:List Nat):(tx l).length=l.length:=by simp[Str.length,tx]
theorem tm(a b:List Nat):tx a++tx b=tx (a++b):=by
 show(⟨a.toArray++b.toArray⟩:Str)=⟨(a++b).toArray⟩
 simp
theorem wZ{a b:List Nat}(h:tx a=tx b):a=b:=by
 have:=congrArg (λx:Str=>x.cps.toList) h
 simpa[tx]using this
theorem lV(a b:List Nat):(tx a==tx b)=(a==b):=by
 by_cases h:a=b
 ·subst h;simp
 ·have:tx a≠tx b:=λe=>h (wZ e)
  rw[beq_eq_false_iff_ne.mpr this,beq_eq_false_iff_ne.mpr h]
theorem rX(x:Str):tx x.cps.toList=x:=by cases x;simp[tx]
theorem Fv(ls:List (List Nat)):Txt.join (tx []) (ls.map tx)=tx ls.flatten:=by
  show Builtin.Str.glued _ _=_
  rw[StrLaws.glued_eq_join]
  induction ls with
  | nil=>rfl
  | cons a r ih =>
   cases r with
   | nil=>simp[S7,tx]
   | cons b r =>
    have e:S7 (tx []) ((a::b::r).map tx)=tx a++tx []++S7 (tx []) ((b::r).map tx):=rfl
    rw[e,ih,tm,tm]
    simp
theorem Lp(c:Nat)(l:List Nat)(σ:List O):Ln σ (sx [c]) (sx l)=some (decide (c∈l)):=by
 show some (!(RP (tx l) ⟨#[c]⟩ 0 (tx l).length 1).isEmpty)=_
 rw[StrLaws.found_one]
noncomputable def sub(c:Nat)(z:List Nat):List Nat->List Nat
 | []=>[]
 | d::r=>if d=c then z++sub c z r else d::sub c z r
theorem ta(c:Nat)(z:List Nat):∀a b,sub c z (a++b)=sub c z a++sub c z b
 | [],b=>rfl
 | d::a,b=>by
  show(if d=c then z++sub c z (a++b)else d::sub c z (a++b))=(if d=c then z++sub c z a else d::sub c z a)++sub c z b
  rw[ta c z a b]
  split<;>simp
theorem mP{c:Nat}{z:List Nat}:∀{l:List Nat},c∉l->sub c z l=l
 | [],_=>rfl
 | d::r,h=>by
  unfold sub
  rw[if_neg (λe=>h (by rw[e];exact Pe ..)),mP λm=>h (Pa _ m)]
theorem u9(c:Nat)(z:List Nat):∀parts:List Str,(∀p∈parts,c∉p.cps.toList)->sub c z (S7 ⟨#[c]⟩ parts).cps.toList=(S7 (tx z) parts).cps.toList
 | [],_=>rfl
 | [p],h=>mP (h p (OS.mpr rfl))
 | p::q::r,h=>by
  have ih:=u9 c z (q::r) λa ha=>h a (Pa _ ha)
  show sub c z (p++⟨#[c]⟩++S7 ⟨#[c]⟩ (q::r)).cps.toList=(p++tx z++S7 (tx z) (q::r)).cps.toList
  simp only[Str.cps_append,Array.toList_append]
  rw[ta,ta,ih,mP (h p (Pe ..))]
  simp[sub,tx]
theorem wl(c:Nat)(z l:List Nat):Txt.replace (tx l) (tx [c]) (tx z)=tx (sub c z l):=by
 have h:(Txt.replace (tx l) ⟨#[c]⟩ (tx z)).cps.toList=sub c z l:=by
  rw[StrLaws.replace_one,<- u9 c z _ (StrLaws.split_free (tx l) c),StrLaws.join_split]
 rw[<- h,rX]
section
variable {α β:Type}{st:St}{σ σ':List O}{L:List (Option V)}
theorem ad{l r:List O}{i:Nat}{o:O}(h:l[i]?=some o):(l++r)[i]?=some o:=by
 rw[O7 (OW.mp h).1];exact h
theorem ar{l r:List O}{o:O}:(l++o::r)[l.length]?=some o:=by simp
end
end Mine
end
section
open PySem PySem.Calls
set_option maxRecDepth 10000
namespace Mine
section
variable {α β:Type}{st:St}{σ σ':List O}{L:List (Option V)}
theorem xB{m:M α}{f:α->M β}{Q:β->St->Prop}(h:W m st λa st'=>W (f a) st' Q):W (ao m f) st Q:=cL.mpr h
theorem xP{x:α}{Q:α->St->Prop}(h:Q x st):W (aa x) st Q:=bp.mpr h
theorem xG{i:Nat}{x:V}{Q:V->St->Prop}(e:L[i]?=some (some x))(h:Q x ⟨σ,L⟩):W (getL i) ⟨σ,L⟩ Q:=Is.mpr ⟨x,e,h⟩
theorem xS{i:Nat}{x:V}{Q:Unit->St->Prop}(h:Q () ⟨σ,L.set i (some x)⟩):W (setL i x) ⟨σ,L⟩ Q:=ID.mpr h
theorem xN{o:O}{Q:V->St->Prop}(h:Q (.ref σ.length) ⟨σ++[o],L⟩):W (gU o) ⟨σ,L⟩ Q:=Iz.mpr h
theorem xA{i:Nat}{m:M V}{Q:Fl->St->Prop}(h:W m st λv st'=>Q .next ⟨st'.σ,st'.L.set i (some v)⟩):W (af i m) st Q :=
 xB (h.mono λu u q=>⟨_,_,rfl,q⟩)
theorem EC{a b:M Fl}{Q:Fl->St->Prop}(h:W a st λf st'=>match f with | .next=>W b st' Q | f=>Q f st'):W (aw a b) st Q :=
 xB (h.mono λf u q=>by cases f<;>first | exact q | exact xP q)
theorem fA{i:Nat}{m:M V}{b:M Fl}{Q:Fl->St->Prop}(h:W m st λv st'=>W b ⟨st'.σ,st'.L.set i (some v)⟩ Q):W (aw (af i m) b) st Q :=
 EC (xA h)
theorem M9{st2:St}{a b:M Fl}{Q:Fl->St->Prop}(h:W a st λf st'=>f=.next/\st'=st2)(q:W b st2 Q):W (aw a b) st Q :=
 EC (h.mono λf u w9=>by obtain⟨rfl,rfl⟩:=w9;exact q)
theorem r5{a b:M Fl}{Q:Fl->St->Prop}(h:W a st λf st'=>f=.next/\W b st' Q):W (aw a b) st Q :=
 EC (h.mono λf u q=>by obtain⟨rfl,q⟩:=q;exact q)
theorem gq{m:M V}{Q:Fl->St->Prop}(h:W m st λv st'=>Q (.ret v) st'):W (b8 m) st Q:=xB (h.mono λu u q=>xP q)
theorem EJ{m:M V}{Q:Fl->St->Prop}(h:W m st λu st'=>Q .next st'):W (eT m) st Q:=xB (h.mono λu u q=>xP q)
theorem bw{f:V->V->M V}{a b:M V}{Q:V->St->Prop}(h:W a st λx s1=>W b s1 λy s2=>W (f x y) s2 Q):W (aj f a b) st Q :=
 xB (h.mono λu u q=>xB q)
theorem fz{ms:M (List V)}{f:List V->M V}{Q:V->St->Prop}(h:W ms st λxs s1=>W (f xs) s1 Q):W (bO ms f) st Q:=xB h
theorem gc{ms:M (List V)}{f:List V->M V}{Q:V->St->Prop}(h:W ms st λxs s1=>W (f xs) s1 Q):W (bz ms f) st Q:=xB h
theorem ak{m:M V}{ms:M (List V)}{Q:List V->St->Prop}(h:W m st λx s1=>W ms s1 λxs s2=>Q (x::xs) s2):W (ab m ms) st Q :=
 xB (h.mono λu u q=>xB (q.mono λu u q=>xP q))
theorem aJ{Q:List V->St->Prop}(h:Q [] st):W am st Q:=xP h
theorem cS{ms:M (List V)}{Q:V->St->Prop}(h:W ms st λxs s1=>xs.length<=1000000/\Q (.ref s1.σ.length) ⟨s1.σ++[.list xs],s1.L⟩):W (aP ms) st Q :=
 xB (h.mono λu u q=>by rw[if_pos q.1];exact xN q.2)
theorem cU{f:V->V->M V}{a b:M V}{Q:Bool->St->Prop}(h:W a st λx s1=>W b s1 λy s2=>W (f x y) s2 λz s3=>W (c8 z) s3 Q):W (aT f a b) st Q:=xB (bw h)
theorem jN{c:M Bool}{a b:M α}{Q:α->St->Prop}(h:W c st λx s1=>if x=true then W a s1 Q else W b s1 Q):W (a8 c a b) st Q :=
 xB (h.mono λx u q=>by split<;>rename_i e<;>simp only[e]at q<;>exact q)
theorem EK{x:Bool}{A B:Prop}(h1:x=true->A)(h2:x=false->B):if x=true then A else B:=by
 cases x
 ·exact h2 rfl
 ·exact h1 rfl
theorem ON{c:Prop}[Decidable c]{a b:M α}{Q:α->St->Prop}(h1:c->W a st Q)(h2:¬c->W b st Q):W (if c then a else b) st Q:=KX.mpr ⟨h1,h2⟩
theorem Ol{x:Bool}{A B:Prop}(e:x=true)(h:A):if x=true then A else B:=by subst e;exact h
theorem Oj{x:Bool}{A B:Prop}(e:x=false)(h:B):if x=true then A else B:=by subst e;exact h
theorem vv{A B:Prop}(h:A):if true=true then A else B:=h
theorem oJ{A B:Prop}(h:B):if false=true then A else B:=h
theorem A3{p:Prop}[Decidable p]{A B:Prop}(h1:p->A)(h2:¬p->B):if decide p=true then A else B :=
 EK (λe=>h1 (of_decide_eq_true e)) λe=>h2 (of_decide_eq_false e)
theorem qz{c:M Bool}{a b r:M Fl}{Q:Fl->St->Prop}(h:W c st λx s1=>if x=true then W (aw a r) s1 Q else W (aw b r) s1 Q):W (aw (a8 c a b) r) st Q :=
 xB (jN (h.mono λx u q=>by
  cases x
  ·exact cL.mp q
  ·exact cL.mp q))
theorem A4{r:M Fl}{Q:Fl->St->Prop}(h:W r st Q):W (aw (aa .next) r) st Q:=xB (xP h)
theorem KO{m:M V}{r:M Fl}{Q:Fl->St->Prop}(h:W m st λv s1=>Q (.ret v) s1):W (aw (b8 m) r) st Q:=xB (gq (h.mono λu u q=>xP q))
theorem OJ{a b r:M Fl}{Q:Fl->St->Prop}(h:W (aw a (aw b r)) st Q):W (aw (aw a b) r) st Q :=
 xB (xB ((cL.mp h).mono λf u q=>by
  cases f with
  | next=>exact cL.mp q
  | _=>exact xP q))
theorem M6{a b:M Bool}{Q:Bool->St->Prop}(h:W a st λx s1=>if x=true then W b s1 Q else Q false s1):W (vF a b) st Q :=
 xB (h.mono λx u q=>by cases x;exact xP q;exact q)
theorem Hz{a b:M Bool}{Q:Bool->St->Prop}(h:W a st λx s1=>if x=true then Q true s1 else W b s1 Q):W (Ak a b) st Q :=
 xB (h.mono λx u q=>by cases x;exact q;exact xP q)
theorem M8{a:M Bool}{Q:Bool->St->Prop}(h:W a st λx s1=>Q (!x) s1):W (we a) st Q:=xB (h.mono λu u q=>xP q)
theorem gW{b:Bool}{Q:Bool->St->Prop}(h:Q b st):W (c8 (.bool b)) st Q:=xP h
theorem OM{i:Int}{Q:Bool->St->Prop}(h:Q (i != 0) st):W (c8 (.int i)) st Q:=xP h
theorem eO{a b:Int}{Q:V->St->Prop}(h:Q (.int (a+b)) st):W (bf (.int a) (.int b)) st Q:=xP h
theorem zD{a b:Int}{Q:V->St->Prop}(h:Q (.int (a - b)) st):W (s9 (.int a) (.int b)) st Q:=xP h
theorem ik{a b:Int}{Q:V->St->Prop}(e:b≠0)(h:Q (.int (a.fmod b)) st):W (c5 (.int a) (.int b)) st Q:=FK e▸xP h
theorem mU{a b:Int}{Q:V->St->Prop}(e:b≠0)(e':b.natAbs<1000000000)(h:Q (.int (a.fdiv b)) st):W (ez (.int a) (.int b)) st Q:=B0 e e'▸xP h
theorem Hy{a b:Int}{Q:V->St->Prop}(h:Q (.bool (decide (a<b))) st):W (EH (.int a) (.int b)) st Q:=xP h
theorem Oi{a b:Int}{Q:V->St->Prop}(h:Q (.bool (decide (b<a))) st):W (Ll (.int a) (.int b)) st Q:=xP h
theorem Oh{a b:Int}{Q:V->St->Prop}(h:Q (.bool (decide (b<=a))) st):W (Lj (.int a) (.int b)) st Q:=xP h
theorem w5{a b:Int}{Q:V->St->Prop}(h:Q (.bool (a==b)) st):W (iM (.int a) (.int b)) st Q:=⟨_,_,rfl,h⟩
theorem M7{a b:Int}{Q:V->St->Prop}(h:Q (.bool (!(a==b))) st):W (tA (.int a) (.int b)) st Q:=⟨_,_,rfl,h⟩
theorem qw{a b:List Nat}{Q:V->St->Prop}(h:Q (.bool (a==b)) st):W (iM (sx a) (sx b)) st Q:=ER.mpr (by rw[lV];exact h)
theorem KH{a b:List Nat}{Q:V->St->Prop}(h:Q (.bool (!(a==b))) st):W (tA (sx a) (sx b)) st Q:=EX.mpr (by rw[lV];exact h)
theorem xK{k:String}{l:List Nat}{Q:V->St->Prop}(e:OO k=tx l)(h:Q (sx l) st):W (aa (.str (OO k))) st Q:=xP (by rw[e];exact h)
theorem d7{k:String}{l:List Nat}{m:M V}{ms:M (List (Str×V))}{Q:List (Str×V)->St->Prop}(e:OO k=tx l)(h:W m st λx s1=>W ms s1 λes s2=>Q ((tx l,x)::es) s2):W (db (OO k) m ms) st Q :=
 xB (h.mono λu u q=>xB (q.mono λu u q=>xP (by rw[e];exact q)))
theorem vp{ms:M (List (Str×V))}{Q:V->St->Prop}(h:W ms st λes s1=>(es.map (·.1)).Nodup/\Q (.ref s1.σ.length) ⟨s1.σ++[.dict es],s1.L⟩):W (nR ms) st Q :=
 xB (h.mono λu u q=>by rw[if_pos q.1];exact xN q.2)
theorem dA{kd:List O->V->Bool}{mo:M V}{ms:M (List V)}{f:List V->M V}{Q:V->St->Prop}(h:W mo st λx st'=>kd st'.σ x=true/\W ms st' λxs st''=>W (f (x::xs)) st'' Q):W (bn kd mo ms f) st Q:=by
 obtain⟨x,st',e,hk,hs⟩:=h
 obtain⟨r,st2,e2,q⟩:=cL.mpr hs
 refine⟨r,st2,?_,q⟩
 unfold bn
 rw[ao,e]
 simp only[if_pos hk]
 exact e2
theorem KM{cf:CF}{k i:Nat}{xs:List V}{st:St}(hk:st.σ[k]?=some (.list xs)):lS cf (.list k i) st=some (xs[i]?.map λx=>(x,.list k (i+1)),st):=sT hk
theorem JE{cf:CF}{l:List Nat}{j:Nat}{st:St}:lS cf (.str (tx l) j) st=some (((l.map λc=>sx [c])[j]?).map λx=>(x,.str (tx l) (j+1)),st):=by
 rw[Pn]
 cases h:l[j]? with
 | none=>rw[lS,show(tx l).cps[j]?=none by simpa[tx]using h];rfl
 | some c=>rw[lS,show(tx l).cps[j]?=some c by simpa[tx]using h];rfl
theorem rJ{j l:Nat}{st:St}:lS d4 (.range j ((l+1:Nat):Int) 1) st=some (some (.int j,.range ((j+1:Nat):Int) ((l:Nat):Int) 1),st):=by
 rw[lS,if_pos (show(0:Int)<((l+1:Nat):Int)from Rb.mpr (Nat.succ_pos l)),show((l+1:Nat):Int) - 1=((l:Nat):Int)from Int.add_sub_cancel (l:Int) 1]
 rfl
theorem uu{j b:Nat}{st:St}(h:j<=b):lS d4 (.range j ((b - j:Nat):Int) 1) st=some ((((OP b).map λ(j:Nat)=>V.int (j:Int))[j]?).map λx=>(x,.range ((j+1:Nat):Int) ((b - (j+1):Nat):Int) 1),st):=by
 rcases Sa j b with q | q
 ·rw[Pn,QR q,show b - j=(b - (j+1))+1 from(Nat.sub_add_cancel (Nat.sub_pos_of_lt q)).symm,rJ];rfl
 ·rw[P6 (by rw[Pc,Qg];exact q),Nat.sub_eq_zero_of_le q];rfl
theorem DE{k:Nat}(hk:L.length=k)(z x:Option V):(L++[z]).set k x=L++[x]:=by rw[QC _ _ (Qc hk),hk,Tb];rfl
theorem vL{k:Nat}{t:M Bool}{e:M V}{vs:List V}{its:Nat->It}{Inv:Nat->List V->List O->Prop}(hk:L.length=k)(hn:vs.length<=1000000)
  (nx:∀j acc σ L',j<=vs.length->Inv j acc σ->lS d4 (its j) ⟨σ,L'⟩=some ((vs[j]?).map λx=>(x,its (j+1)),⟨σ,L'⟩))
  (step:∀j x acc σ,vs[j]?=some x->Inv j acc σ->W t ⟨σ,L++[some x]⟩ λb s1=>s1.L=L++[some x]/\if b=true then W e s1 λv s2=>s2.L=L++[some x]/\Inv (j+1) (acc++[v]) s2.σ else Inv (j+1) acc s1.σ) :
  ∀(l fuel j:Nat)(acc:List V)(σ:List O)(z:Option V),j+l=vs.length->l<fuel->acc.length<=j->Inv j acc σ->W (compLoop d4 k t e fuel (its j) acc) ⟨σ,L++[z]⟩ λacc' st'=>(∃z',st'.L=L++[z'])/\Inv vs.length acc' st'.σ:=by
 intro l
 induction l with
 | zero =>
  intro fuel j acc σ z ej hf _ hi
  cases fuel with
  | zero=>exact absurd hf (Pm _)
  | succ f =>
   have ej:j=vs.length:=ej
   subst ej
   refine xB ⟨_,_,nx _ acc σ _ (O8 _) hi,?_⟩
   rw[P6 (O8 _)]
   exact xP ⟨⟨z,rfl⟩,hi⟩
 | succ l ih =>
  intro fuel j acc σ z ej hf ha hi
  cases fuel with
  | zero=>exact absurd hf (Pm _)
  | succ f =>
   have hj:j<vs.length:=ej▸RT (Nat.succ_pos l)
   have go:=ih f (j+1)
   rw[Nat.add_assoc,Nat.add_comm 1]at go
   have hx:vs[j]?=some vs[j]:=Pf hj
   have st:=step j _ acc σ hx hi
   refine xB ⟨_,_,nx j acc σ _ (Pq hj) hi,?_⟩
   rw[hx]
   generalize vs[j]=x at st
   refine xB (xS ?_)
   rw[DE hk]
   refine xB (st.mono λb s1 h=>?_)
   obtain⟨τ,M⟩:=s1
   obtain⟨rfl,h⟩:=h
   cases b with
   | false=>exact go acc τ _ ej (Pp hf) (RV ha) h
   | true =>
    refine xB (W.mono h λv s2 h=>?_)
    obtain⟨υ,M⟩:=s2
    obtain⟨rfl,h⟩:=h
    refine cM (OZ ha (OZ (Pq hj) hn)) ?_
    exact go (acc++[v]) υ _ ej (Pp hf) (by rw[O2];exact Qt ha) h
theorem Ot{k fuel:Nat}{mi:M It}{t:M Bool}{e:M V}{vs:List V}{its:Nat->It}{Inv:Nat->List V->List O->Prop}{Q:V->St->Prop}(hk:L.length=k)(hf:vs.length<fuel)(hl:fuel<=1000000)
  (hm:W mi ⟨σ,L⟩ λit st'=>it=its 0/\st'.L=L/\Inv 0 [] st'.σ)
  (nx:∀j acc σ L',j<=vs.length->Inv j acc σ->lS d4 (its j) ⟨σ,L'⟩=some ((vs[j]?).map λx=>(x,its (j+1)),⟨σ,L'⟩))
  (step:∀j x acc σ,vs[j]?=some x->Inv j acc σ->W t ⟨σ,L++[some x]⟩ λb s1=>s1.L=L++[some x]/\if b=true then W e s1 λv s2=>s2.L=L++[some x]/\Inv (j+1) (acc++[v]) s2.σ else Inv (j+1) acc s1.σ)
  (h:∀acc σ',Inv vs.length acc σ'->Q (.ref σ'.length) ⟨σ'++[.list acc],L⟩):W (dY k mi t e fuel) ⟨σ,L⟩ Q:=by
 obtain⟨it,st',e1,rfl,e2,h2⟩:=hm
 obtain⟨acc',s2,e4,⟨z',e5⟩,h4⟩:=vL hk (OZ (Pq hf) hl) nx step vs.length fuel 0 [] st'.σ none (Rw _) hf (O8 _) h2
 refine⟨.ref s2.σ.length,⟨s2.σ++[.list acc'],L⟩,?_,h _ _ h4⟩
 unfold dY HL
 simp only[ao,e1,e2]
 rw[e4,Ry,shut,e5,if_pos (show(L++[z']).take k=L/\(L++[z']).length=k+1 by subst hk;simp)]
 rfl
theorem NJ{k fuel:Nat}{mi:M It}{t:M Bool}{e:M V}{l:List Nat}{f:Nat->V}{p:Nat->Bool}{y:Nat->V}{its:Nat->It}{Q:V->St->Prop}(hk:L.length=k)(hf:l.length<fuel)(hl:fuel<=1000000)
  (hm:W mi ⟨σ,L⟩ λit st'=>it=its 0/\∃g,st'=⟨σ++g,L⟩/\∀j g' L',j<=l.length->lS d4 (its j) ⟨σ++g++g',L'⟩=some (((l.map f)[j]?).map λx=>(x,its (j+1)),⟨σ++g++g',L'⟩))
  (ht:∀i∈l,∀g,W t ⟨σ++g,L++[some (f i)]⟩ λv st'=>v=p i/\∃g',st'=⟨σ++g++g',L++[some (f i)]⟩)
  (he:∀i∈l,p i=true->∀g,W e ⟨σ++g,L++[some (f i)]⟩ λv st'=>v=y i/\∃g',st'=⟨σ++g++g',L++[some (f i)]⟩)
  (hq:∀g,Q (.ref (σ++g).length) ⟨σ++g++[.list ((l.filter p).map y)],L⟩):W (dY k mi t e fuel) ⟨σ,L⟩ Q:=by
 obtain⟨it,st1,e1,rfl,g,rfl,nx⟩:=hm
 have hlen:(l.map f).length=l.length:=Pc _
 refine Ot (vs:=l.map f) (its:=its) (Inv:=λj acc τ=>∃g',τ=σ++g++g'/\acc=((l.take j).filter p).map y) hk (by rw[hlen];exact hf) hl ⟨_,_,e1,rfl,rfl,[],(O4 _).symm,rfl⟩ (λj acc τ L' hj h=>?_) (λj x acc τ hx h=>?_) λacc τ h=>?_
 ·obtain⟨g',rfl,_⟩:=h
  exact nx j g' L' (hlen▸hj)
 ·obtain⟨g',rfl,rfl⟩:=h
  obtain⟨hj,rfl⟩:=OW.mp hx
  rw[List.getElem_map]
  rw[hlen]at hj
  have hm:=Rv hj
  have ht:=ht _ hm (g++g')
  have he:=he _ hm
  rw[<- OY]at ht
  rw[QZ hj,List.filter_append,Ri]
  generalize l[j]=i at ht he
  refine ht.mono λb s1 h=>?_
  obtain⟨rfl,g2,rfl⟩:=h
  refine⟨rfl,?_⟩
  cases hp:p i with
  | false=>exact⟨g'++g2,OY ..,by rw[Q7 (by rw[hp];exact PA)];exact(O4 _).symm⟩
  | true =>
   have he:=he hp (g++g'++g2)
   rw[<- OY,<- OY]at he
   refine(show W e _ _ from he.mono λv s2 h=>?_)
   obtain⟨rfl,g3,rfl⟩:=h
   exact⟨rfl,g'++(g2++g3),by simp only[OY],by rw[Q8 hp];rfl⟩
 ·obtain⟨g',rfl,e⟩:=h
  rw[hlen,S6]at e
  subst e
  rw[OY]
  exact hq _
theorem Om(st:St):W (aa true) st λv st'=>v=true/\∃g',st'=⟨st.σ++g',st.L⟩:=xP ⟨rfl,[],by rw[O4]⟩
theorem lJ(l:List Nat):l.filter (λu=>true)=l:=List.filter_eq_self.mpr λu u=>rfl
theorem LD{k fuel:Nat}{m e:M V}{t:M Bool}{l:List Nat}{p:Nat->Bool}{y:Nat->V}{Q:V->St->Prop}(hk:L.length=k)(hf:l.length<fuel)(hl:fuel<=1000000)(hm:W m ⟨σ,L⟩ λx st'=>x=sx l/\∃g,st'=⟨σ++g,L⟩)
  (ht:∀x∈l,∀g,W t ⟨σ++g,L++[some (sx [x])]⟩ λv st'=>v=p x/\∃g',st'=⟨σ++g++g',L++[some (sx [x])]⟩)
  (he:∀x∈l,p x=true->∀g,W e ⟨σ++g,L++[some (sx [x])]⟩ λv st'=>v=y x/\∃g',st'=⟨σ++g++g',L++[some (sx [x])]⟩)
  (h:∀g,Q (.ref (σ++g).length) ⟨σ++g++[.list ((l.filter p).map y)],L⟩):W (dY k (fj m) t e fuel) ⟨σ,L⟩ Q:=by
 refine NJ (f:=λc=>sx [c]) (its:=λj=>.str (tx l) j) hk hf hl (xB (hm.mono λx st' h=>?_)) ht he h
 obtain⟨rfl,g,rfl⟩:=h
 exact⟨_,_,rfl,rfl,g,rfl,λj g' L' u=>JE⟩
theorem Os{k fuel:Nat}{m e:M V}{t:M Bool}{l:List Nat}{p:Nat->Bool}{y:Nat->V}{Q:V->St->Prop}(hk:L.length=k)(hf:l.length<fuel)(hl:fuel<=1000000)(hm:W m ⟨σ,L⟩ λx st'=>x=sx l/\st'=⟨σ,L⟩)
  (ht:∀x∈l,∀g,W t ⟨σ++g,L++[some (sx [x])]⟩ λv st'=>v=p x/\∃g',st'=⟨σ++g++g',L++[some (sx [x])]⟩)
  (he:∀x∈l,p x=true->∀g,W e ⟨σ++g,L++[some (sx [x])]⟩ λv st'=>v=y x/\∃g',st'=⟨σ++g++g',L++[some (sx [x])]⟩)
  (h:∀g,Q (.ref (σ++g).length) ⟨σ++g++[.list ((l.filter p).map y)],L⟩):W (dY k (fj m) t e fuel) ⟨σ,L⟩ Q :=
 LD hk hf hl (hm.mono λu u h=>⟨h.1,[],h.2.trans (by rw[O4])⟩) ht he h
theorem FE{k fuel:Nat}{m e:M V}{l:List Nat}{y:Nat->V}{Q:V->St->Prop}(hk:L.length=k)(hf:l.length<fuel)(hl:fuel<=1000000)(hm:W m ⟨σ,L⟩ λx st'=>x=sx l/\∃g,st'=⟨σ++g,L⟩)
  (he:∀x∈l,∀g,W e ⟨σ++g,L++[some (sx [x])]⟩ λv st'=>v=y x/\∃g',st'=⟨σ++g++g',L++[some (sx [x])]⟩)
  (h:∀g,Q (.ref (σ++g).length) ⟨σ++g++[.list (l.map y)],L⟩):W (dY k (fj m) (aa true) e fuel) ⟨σ,L⟩ Q :=
 LD (p:=λu=>true) hk hf hl hm (λu u u=>Om _) (λx hx u=>he x hx) (by rw[lJ];exact h)
theorem jU{ms:M (List V)}{b:Nat}{Q:It->St->Prop}(h:W ms st λxs st'=>xs=[.int b]/\Q (.range 0 b 1) st')(hb:b<=1000000):W (bq ms) st Q:=by
 obtain⟨x,st',e,rfl,q⟩:=h
 have h1 : -(2^40)<=(b:Int)/\(b:Int)<=2^40:=by lia
 have h2:(if (0:Int)<b then(b:Int)else 0)=b:=by split<;>lia
 refine⟨.range 0 b 1,st',by unfold bq ao;rw[e];exact(congrFun (if_pos h1) _).trans (by rw[h2];rfl),q⟩
theorem ug{k fuel b:Nat}{m:M (List V)}{e:M V}{y:Nat->V}{Q:V->St->Prop}(hk:L.length=k)(hf:b<fuel)(hl:fuel<=1000000)(hm:W m ⟨σ,L⟩ λxs st'=>xs=[.int b]/\st'=⟨σ,L⟩)
  (he:∀x,x<b->∀g,W e ⟨σ++g,L++[some (.int x)]⟩ λv st'=>v=y x/\∃g',st'=⟨σ++g++g',L++[some (.int x)]⟩)
  (h:∀g,Q (.ref (σ++g).length) ⟨σ++g++[.list ((OP b).map y)],L⟩):W (dY k (bq m) (aa true) e fuel) ⟨σ,L⟩ Q:=by
 have hb:(OP b).length=b:=Qg
 refine NJ (l:=OP b) (f:=λ(j:Nat)=>V.int (j:Int)) (p:=λu=>true) (its:=λj=>.range j ((b - j:Nat):Int) 1) hk (by rw[hb];exact hf) hl (jU (hm.mono λx st' h=>?_) (OZ (Pq hf) hl)) (λu u u=>Om _) (λx hx u=>he x (O5.mp hx)) (by rw[lJ];exact h)
 obtain⟨rfl,rfl⟩:=h
 exact⟨rfl,rfl,[],by rw[O4],λj g' L' hj=>uu (hb▸hj)⟩
theorem o5{k:Nat}{xs:List V}{m:M V}{Q:It->St->Prop}(h:W m st λx st'=>x=.ref k/\st'.σ[k]?=some (.list xs)/\Q (.list k 0) st'):W (fj m) st Q:=by
 obtain⟨x,st',e,rfl,hk,q⟩:=h
 refine⟨_,st',?_,q⟩
 unfold fj ao
 rw[e]
 exact sT hk
theorem Oq{k kl:Nat}{l:List Nat}{m e:M V}{t:M Bool}{f y:Nat->V}{p:Nat->Bool}{Q:V->St->Prop}(hk:L.length=k)(hn:l.length<=900)(hm:W m ⟨σ,L⟩ λx st'=>x=.ref kl/\∃g,st'=⟨σ++g,L⟩/\(σ++g)[kl]?=some (.list (l.map f)))
  (ht:∀i∈l,∀g,W t ⟨σ++g,L++[some (f i)]⟩ λv st'=>v=p i/\∃g',st'=⟨σ++g++g',L++[some (f i)]⟩)
  (he:∀j∈l,p j=true->∀g,W e ⟨σ++g,L++[some (f j)]⟩ λv st'=>v=y j/\∃g',st'=⟨σ++g++g',L++[some (f j)]⟩) (q:∀g,Q (.ref (σ++g).length) ⟨σ++g++[.list ((l.filter p).map y)],L⟩):W (dY k (fj m) t e 1000) ⟨σ,L⟩ Q:=by
 refine NJ (f:=f) (its:=λj=>.list kl j) hk (Pr hn (by decide)) (by decide) (o5 (k:=kl) (xs:=l.map f) (hm.mono λx st' h=>?_)) ht he q
 obtain⟨rfl,g,rfl,e⟩:=h
 exact⟨rfl,e,rfl,g,rfl,λj g' L' u=>KM (ad e)⟩
theorem NM{k kl:Nat}{l:List Nat}{m e:M V}{f y:Nat->V}{Q:V->St->Prop}(hk:L.length=k)(hn:l.length<=900)(hm:W m ⟨σ,L⟩ λx st'=>x=.ref kl/\∃g,st'=⟨σ++g,L⟩/\(σ++g)[kl]?=some (.list (l.map f)))
  (he:∀j∈l,∀g,W e ⟨σ++g,L++[some (f j)]⟩ λv st'=>v=y j/\∃g',st'=⟨σ++g++g',L++[some (f j)]⟩) (q:∀g,Q (.ref (σ++g).length) ⟨σ++g++[.list (l.map y)],L⟩):W (dY k (fj m) (aa true) e 1000) ⟨σ,L⟩ Q :=
 Oq (p:=λu=>true) hk hn hm (λu u u=>Om _) (λj hj u=>he j hj) (by rw[lJ];exact q)
theorem qx{k:Nat}{mb:M Fl}{xs:List V}{L₀:List (Option V)}{Q:V->St->Prop}(e:fS k xs=L₀)(h:W mb ⟨σ,L₀⟩ λf st'=>match f with | .ret x=>Q x ⟨st'.σ,L⟩ | .next=>Q .none ⟨st'.σ,L⟩ | _=>False):W (kV k mb xs) ⟨σ,L⟩ Q:=by
 obtain⟨f,st',e1,q⟩:=h
 unfold W kV GN
 rw[e,e1]
 cases f with
 | ret x=>exact⟨_,_,rfl,q⟩
 | next=>exact⟨_,_,rfl,q⟩
 | brk=>exact q.elim
 | cont=>exact q.elim
end
theorem tz:OO ""=tx []:=by kernel_rfl
theorem NH:OO "\\"=tx [92]:=by kernel_rfl
theorem FA:OO "\""=tx [34]:=by kernel_rfl
theorem z7:OO "\n"=tx [10]:=by kernel_rfl
theorem Nr:OO "\t \r"=tx [9,32,13]:=by kernel_rfl
theorem Nt:OO "#"=tx [35]:=by kernel_rfl
theorem Nu:OO "\n\t\r "=tx [10,9,13,32]:=by kernel_rfl
theorem z8:OO "&"=tx [38]:=by kernel_rfl
theorem Fw:OO "<"=tx [60]:=by kernel_rfl
theorem Fx:OO ">"=tx [62]:=by kernel_rfl
theorem Jm:OO "\r"=tx [13]:=by kernel_rfl
theorem Lq:OO "\t"=tx [9]:=by kernel_rfl
theorem Cy:OO "&amp;"=tx [38,97,109,112,59]:=by kernel_rfl
theorem Fy:OO "&lt;"=tx [38,108,116,59]:=by kernel_rfl
theorem Fz:OO "&gt;"=tx [38,103,116,59]:=by kernel_rfl
theorem Jn:OO "&quot;"=tx [38,113,117,111,116,59]:=by kernel_rfl
theorem Nv:OO "&#13;"=tx [38,35,49,51,59]:=by kernel_rfl
theorem Nx:OO "&#10;"=tx [38,35,49,48,59]:=by kernel_rfl
theorem Ny:OO "&#09;"=tx [38,35,48,57,59]:=by kernel_rfl
theorem Lr:OO "&#xD;"=tx [38,35,120,68,59]:=by kernel_rfl
theorem Nz:OO "&#x9;"=tx [38,35,120,57,59]:=by kernel_rfl
theorem NA:OO "&#xA;"=tx [38,35,120,65,59]:=by kernel_rfl
theorem NB:OO "\"\\"=tx [34,92]:=by kernel_rfl
theorem NC:OO " \\"=tx [32,92]:=by kernel_rfl
theorem ND:OO "\r\t\n"=tx [13,9,10]:=by kernel_rfl
theorem Ls:OO "ff"=tx [102,102]:=by kernel_rfl
theorem Lu:OO "fi"=tx [102,105]:=by kernel_rfl
theorem Lv:OO "fl"=tx [102,108]:=by kernel_rfl
theorem Lw:OO "ffi"=tx [102,102,105]:=by kernel_rfl
theorem Ly:OO "f"=tx [102]:=by kernel_rfl
theorem NE:OO "i"=tx [105]:=by kernel_rfl
theorem NF:OO "l"=tx [108]:=by kernel_rfl
theorem NG:OO "&<>\"\r\n\t"=tx [38,60,62,34,13,10,9]:=by kernel_rfl
end Mine
end
section
open PySem PySem.Calls
set_option maxRecDepth 100000
namespace Mine
section
variable {α β:Type}{st:St}{σ σ' σ'':List O}{L:List (Option V)}
theorem m3{l:List Nat}{i:Int}{c:Nat}{Q:V->St->Prop}(h0:0<=i)(h1:i<=1000000)(hc:l[i.toNat]?=some c)(q:Q (sx [c]) st):W (aA (sx l) (.int i)) st Q :=
 cM (p := -1000000<=i/\i<=1000000) (by lia) (ca (StrLaws.at_nonneg h0 (by simpa[tx]using hc)) (bp.mpr q))
theorem bN{k:Nat}{i:Int}{xs:List V}{x:V}{Q:V->St->Prop}(hk:st.σ[k]?=some (.list xs))(h0:0<=i)(h1:i<=1000000)(hl:xs.length<=1000000)(hc:xs[i.toNat]?=some x)(q:Q x st):W (aA (.ref k) (.int i)) st Q :=
 eK hk (cM (p := -1000000<=i/\i<=1000000/\xs.length<=1000000) ⟨by lia,h1,hl⟩ (cM h0 (ca hc (bp.mpr q))))
theorem dX{a b:List Nat}{Q:V->St->Prop}(h:a.length+b.length<=16777216)(q:Q (sx (a++b)) st):W (bf (sx a) (sx b)) st Q :=
 cM (p:=(tx a).length+(tx b).length<=sizeLine) (by rw[b0,b0];exact h) (bp.mpr (by rw[tm];exact q))
theorem KV{i:Int}{Q:V->St->Prop}(h0:0<=i)(h1:i<=0x10FFFF)(q:Q (sx [i.toNat]) st):W (sv [.int i]) st Q :=
 cM (p:=0<=i/\i<=0x10FFFF) ⟨h0,h1⟩ (bp.mpr q)
theorem o7{c:Nat}{Q:V->St->Prop}:W (mI [sx [c]]) st Q↔Q (.int c) st :=
 ⟨λw9=>by obtain⟨_,_,e,q⟩:=w9;obtain⟨rfl,rfl⟩:=pj e;exact q,λq=>⟨_,_,rfl,q⟩⟩
theorem Bj{c:Nat}{l:List Nat}{Q:V->St->Prop}:W (iA (sx [c]) (sx l)) st Q↔Q (.bool (decide (c∈l))) st:=by
 have e:iA (sx [c]) (sx l) st=some (.bool (decide (c∈l)),st):=by rw[iA,Lp];rfl
 exact⟨λw=>KW w e,λq=>⟨_,_,e,q⟩⟩
noncomputable def Cn:List Nat := [173,847,6150,6155,6156,6157,8203,8204,8205,8288,65279]
theorem dh(p:Int){n:Int}(h:0<n):0<=p.fmod n/\p.fmod n<n:=by
 rw[QS _ (Int.le_of_lt h)]
 exact⟨Int.emod_nonneg _ (Int.ne_of_gt h),Int.emod_lt_of_pos _ h⟩
theorem iN(p:Int){m:Int}{n:Nat}(e:m=n)(h:0<n):p.fmod m=((p.fmod m).toNat:Int)/\(p.fmod m).toNat<n:=by
 subst e
 have r:=dh p (n:=n) (Rb.mpr h)
 exact⟨(Sx r.1).symm,(Int.toNat_lt r.1).mpr r.2⟩
theorem qy{a m:Int}{n:Nat}(e:m=n)(h:0<n){Q:V->St->Prop}(q:Q (.int ((a.fmod m).toNat:Nat)) st):W (c5 (.int a) (.int m)) st Q :=
 ik (e▸Int.ne_of_gt (Rb.mpr h)) (by rw[(iN a e h).1];exact q)
theorem jS{k i:Nat}{xs:List V}{x:V}{Q:V->St->Prop}(hk:st.σ[k]?=some (.list xs))(hl:xs.length<=1000000)(hc:xs[i]?=some x)(q:Q x st):W (aA (.ref k) (.int i)) st Q :=
 bN hk (PM _) (SF.mpr (OZ (Pq (OW.mp hc).1) hl)) hl (by rw[PB];exact hc) q
theorem Bk{l:List Nat}{i c:Nat}{Q:V->St->Prop}(hl:l.length<=1000000)(hc:l[i]?=some c)(q:Q (sx [c]) st):W (aA (sx l) (.int i)) st Q :=
 m3 (PM _) (SF.mpr (OZ (Pq (OW.mp hc).1) hl)) (by rw[PB];exact hc) q
theorem m0{c:Nat}{Q:V->St->Prop}(h:c<=0x10FFFF)(q:Q (sx [c]) st):W (sv [.int c]) st Q :=
 KV (PM _) (SF.mpr h) (by rw[PB];exact q)
theorem ph{α β:Type}{l:List α}{i:Nat}{x:α}(f:α->β)(h:l[i]?=some x):(l.map f)[i]?=some (f x):=by rw[Pn,h];rfl
theorem bb{α:Type}{l:List α}{i:Nat}{d:α}(h:i<l.length):l[i]?=some (l.getD i d):=by
 rw[O9,Pf h];rfl
noncomputable def je:List V->M (List V)
 | []=>am
 | x::r=>ab (aa x) (je r)
theorem tD:∀{l:List V}{Q:List V->St->Prop},Q l st->W (je l) st Q
 | [],_,h=>aJ h
 | _::_,_,h=>ak (xP (tD h))
theorem oY{l:List V}{Q:V->St->Prop}(hl:l.length<=1000000)(q:Q (.ref st.σ.length) ⟨st.σ++[.list l],st.L⟩):W (aP (je l)) st Q:=cS (tD ⟨hl,q⟩)
noncomputable def vI(n:Nat):V:=.int (n:Int)
noncomputable def Co(k:Nat):Nat:=if k<11 then Cn.getD k 0 else 65013+k
noncomputable def hid(p:Int):Nat:=Co (p.fmod 27).toNat
theorem Fn:∀n∈Cn,n<=0x10FFFF:=by decide
theorem Cp{p:Int}{Q:V->St->Prop}(h:∀g,Q (sx [hid p]) ⟨σ++g,L⟩):W (fW [.int p]) ⟨σ,L⟩ Q:=by
 refine qx (mb:=f0) (L₀ := [some (.int p),none]) rfl ?_
 have hn:=(iN p (m:=27) (n:=27) rfl (by decide)).2
 unfold hid Co at h
 unfold f0
 refine fA (bw (xG rfl (xP (qy (n:=27) (by rfl) (by decide) ?_))))
 generalize (p.fmod 27).toNat=k at h hn ⊢
 refine gq (fz (ak (jN (cU (xG rfl (xP (Hy (gW (A3 (λhs=>?_) λhs=>?_)))))))))
 ·have hs:k<11:=Rb.mp hs
  have hx:Cn[k]?=some (Cn.getD k 0):=bb hs
  rw[if_pos hs]at h
  refine bw (show W (aP (je (Cn.map vI))) _ _ from oY (by decide) (xG rfl (jS ar (by decide) (ph vI hx) (aJ (m0 (Fn _ (O1 hx)) (h _))))))
 ·have hs:¬k<11:=λq=>hs (Rb.mpr q)
  rw[if_neg hs]at h
  have h0:=h []
  rw[O4]at h0
  refine bw (xP (xG rfl (eO (aJ ?_))))
  exact m0 (c:=65013+k) (OZ (Qz (Pq hn) _) (by decide)) h0
theorem LG{p:Nat->Prop}(h0:p 0)(h1:p 1)(h2:p 2)(h3:p 3):∀i<4,p i:=λi hi=>by
 cases i with
 | zero=>exact h0
 | succ i=>cases i with
  | zero=>exact h1
  | succ i=>cases i with
   | zero=>exact h2
   | succ i=>cases i with
    | zero=>exact h3
    | succ i=>exact absurd (Pp (Pp (Pp (Pp hi)))) (Pm _)
theorem Ov{p:Nat->Prop}(h0:p 0)(h1:p 1)(h2:p 2)(h3:p 3)(h4:p 4):∀i<5,p i:=λi hi=>by
 cases i with
 | zero=>exact h0
 | succ i=>exact LG (p:=λi=>p (i+1)) h1 h2 h3 h4 i (Pp hi)
theorem kM:∀ls:List (List Nat),nH (ls.map sx)=some (ls.map tx)
 | []=>rfl
 | a::r=>by
  show(nH (r.map sx)).map _=_
  rw[kM r];rfl
theorem jT{k:Nat}{ls:List (List Nat)}{Q:V->St->Prop}(hk:st.σ[k]?=some (.list (ls.map sx)))(hl:ls.flatten.length<=1000000)(q:Q (sx ls.flatten) st):W (gu [sx [],.ref k]) st Q:=by
 have hs:((ls.map tx).map (·.length)).sum+(ls.map tx).length*(tx []).length<=1000000:=by
  rw[b0]
  simp only[RK,Nat.mul_zero,SD,PH]
  rw[List.length_flatten]at hl
  have:(ls.map ((λx:Str=>x.length)∘tx))=ls.map RQ:=by
   apply PX
   intro a _
   exact b0 a
  rw[this];exact hl
 exact br hk (ca (kM ls) (cM hs (bp.mpr (by rw[Fv];exact q))))
theorem EV{m:M V}{l:List Nat}{Q:It->St->Prop}(h:W m st λx st'=>x=sx l/\Q (.str (tx l) 0) st'):W (fj m) st Q:=by
 obtain⟨x,st',e,rfl,q⟩:=h
 exact⟨_,st',by unfold fj ao;rw[e];rfl,q⟩
theorem xx(l:List Nat):(l.map λc=>[c]).flatten=l:=by induction l with | nil=>rfl | cons a r ih=>simp_all
theorem HN(f:Nat->Nat)(l:List Nat):(l.map λc=>[f c]).flatten=l.map f:=by
 induction l with
 | nil=>rfl
 | cons a r ih=>exact congrArg (f a :: ·) ih
noncomputable def eE(e:Nat->Bool):List Nat->List Nat
 | []=>[]
 | c::r=>(if e c=true then [92,c]else [c])++eE e r
theorem nn(e:Nat->Bool):∀l,(l.map λc=>if e c=true then [92,c]else [c]).flatten=eE e l
 | []=>rfl
 | c::r=>by rw[Ps,QY,nn e r];rfl
theorem pD(e:Nat->Bool):∀l,(eE e l).length<=2*l.length
 | []=>O8 _
 | c::r=>by
  have:=pD e r
  unfold eE
  rw[O2,Py]
  split
  ·show 2+_<=_;lia
  ·show 1+_<=_;lia
theorem mm(k n:Nat):((k:Int).fmod (n:Int))=((k%n:Nat):Int):=by
 rw[QS _ (by lia)];lia
theorem jr(a b:Nat):((a:Int)==(b:Int))=(a==b):=by
 by_cases h:a=b
 ·subst h;rw[beq_self_eq_true,beq_self_eq_true]
 ·exact(beq_eq_false_iff_ne.mpr λq:(a:Int)=b=>h (Int.ofNat_inj.mp q)).trans (beq_eq_false_iff_ne.mpr h).symm
noncomputable def Jy(c:Nat):Str:=match KL c with | some y=>y | none=>Txt.lower (tx [c])
theorem Nm(a b:Nat):SH (a:Int) (b:Int)=((a &&& b:Nat):Int):=rfl
theorem OA(a b:Nat):SZ (a:Int) (b:Int)=((a ||| b:Nat):Int):=by
 unfold SZ SH Builtin.bitNot
 have h1:decide (0 <= -(a:Int) - 1)=false:=decide_eq_false (by lia)
 have h2:decide (0 <= -(b:Int) - 1)=false:=decide_eq_false (by lia)
 rw[h1,h2]
 dsimp only
 have e1:(-(-(a:Int) - 1) - 1).toNat=a:=by lia
 have e2:(-(-(b:Int) - 1) - 1).toNat=b:=by lia
 rw[e1,e2]
 lia
theorem sb{i j:Nat}{xs ys:List V}{Q:V->St->Prop}(hi:st.σ[i]?=some (.list xs))(hj:st.σ[j]?=some (.list ys))(hl:xs.length+ys.length<=16777216)(q:W (gU (.list (xs++ys))) st Q):W (bf (.ref i) (.ref j)) st Q :=
 br hi (br hj (cM (p:=xs.length+ys.length<=sizeLine) hl q))
theorem Iy{i:Nat}{k:Int}{xs:List V}{Q:V->St->Prop}(hi:st.σ[i]?=some (.list xs))(hl:xs.length*k.toNat<=1000000 /\ -1000<=k/\k<=1000)(q:W (gU (.list (Px k.toNat xs).flatten)) st Q):W (jI (.ref i) (.int k)) st Q :=
 br hi (cM hl q)
noncomputable def iL(l:List Nat):List V:=l.map λ(n:Nat)=>V.int (n:Int)
theorem m4{a b:Int}{Q:V->St->Prop}(h:b.natAbs<2^64):W (jI (.int a) (.int b)) st Q↔Q (.int (a*b)) st:=by
 have:jI (.int a) (.int b)=aa (.int (a*b)):=if_pos h
 rw[this,bp]
theorem IA{a k:Int}{Q:V->St->Prop}(h:0<=k/\k<=1000/\a.natAbs<2^64):W (An (.int a) (.int k)) st Q↔Q (.int (a^k.toNat)) st:=by
 have:An (.int a) (.int k)=aa (.int (a^k.toNat)):=if_pos h
 rw[this,bp]
theorem EU{S:Int->Bool}{m:M V}{Q:V->St->Prop}(h:W m st λv st'=>∃i,v=.int i/\Q (.bool (S i)) st'):W (pP S m) st Q:=by
 obtain⟨v,st',e,i,rfl,q⟩:=h
 exact⟨_,st',by unfold pP ao;rw[e];rfl,q⟩
theorem AP{c:Nat}{Q:V->St->Prop}(h:Q (.bool (ED c)) ⟨σ,L⟩):W (fX [sx [c]]) ⟨σ,L⟩ Q:=by
 show W (kV 1 eN [sx [c]]) ⟨σ,L⟩ Q
 refine qx (mb:=eN) (L₀ := [some (sx [c])]) rfl ?_
 unfold eN
 refine gq (EU ?_)
 refine fz (ak (xG rfl (aJ ?_)))
 exact o7.mpr ⟨c,rfl,h⟩
theorem Bh{f:Int->Option Str}{m:M V}{Q:V->St->Prop}(h:W m st λv st'=>∃i,v=.int i/\Q (match f i with | some y=>.str y | none=>.none) st'):W (mw f m) st Q:=by
 obtain⟨v,st',e,i,rfl,q⟩:=h
 refine⟨_,st',?_,q⟩
 unfold mw ao
 rw[e]
 show aa (JU (f i)) st'=_
 cases f i<;>rfl
theorem FH{x:Str}{Q:V->St->Prop}(hl:x.length<=1000000)(q:Q (.str (Txt.lower x)) st):W (wa [.str x]) st Q:=cM hl (bp.mpr q)
theorem vE{me:M V}{Q:dC V->St->Prop}(h:W me st λx st'=>∃ii lo i xs,x=.ref ii/\st'.σ[ii]?=some (.listIter lo i)/\st'.σ[lo]?=some (.list xs)/\(match xs[i]? with
  | some v=>Q (.ok v) ⟨st'.σ.set ii (.listIter lo (i+1)),st'.L⟩
  | none=>Q .stop ⟨st'.σ.set ii .dead,st'.L⟩)):W (rI me) st Q:=by
 refine xB (h.mono λv st' h=>?_)
 obtain⟨ii,lo,i,xs,rfl,h1,h2,h3⟩:=h
 refine eK h1 (br h2 ?_)
 cases hx:xs[i]? with
 | some v=>rw[hx]at h3;exact⟨_,_,rfl,h3⟩
 | none=>rw[hx]at h3;exact⟨_,_,rfl,h3⟩
theorem g5{m:M (dC α)}{f:α->M (dC β)}{Q:dC β->St->Prop}(h:W m st λr st'=>match r with | .ok y=>W (f y) st' Q | .stop=>Q .stop st'):W (li m f) st Q:=by
 unfold li
 rw[cL]
 refine h.mono λr st' q=>?_
 cases r with
 | ok y=>exact q
 | stop=>exact bp.mpr q
theorem qS{m:M α}{Q:dC α->St->Prop}:W (Aj m) st Q↔W m st λy st'=>Q (.ok y) st':=by
 unfold Aj
 rw[cL]
 simp only[bp]
theorem il{a b:M (dC Fl)}{Q:dC Fl->St->Prop}(h:W a st λr st'=>match r with | .ok .next=>W b st' Q | .ok f=>Q (.ok f) st' | .stop=>Q .stop st'):W (k8 a b) st Q:=by
 unfold k8
 refine g5 (h.mono λr st' q=>?_)
 cases r with
 | ok y=>cases y<;>first | exact q | exact bp.mpr q
 | stop=>exact q
theorem se{a b:Nat}{Q:V->St->Prop}:W (tF (.int a) (.int b)) st Q↔Q (.int ((a &&& b:Nat):Int)) st:=by
 have:tF (.int a) (.int b)=aa (.int ((a &&& b:Nat):Int)):=by show aa (V.int (SH a b))=_;rw[Nm]
 rw[this,bp]
theorem Iv{a b:Nat}{Q:V->St->Prop}:W (Cv (.int a) (.int b)) st Q↔Q (.int ((a ||| b:Nat):Int)) st:=by
 have:Cv (.int a) (.int b)=aa (.int ((a ||| b:Nat):Int)):=by show aa (V.int (SZ a b))=_;rw[OA]
 rw[this,bp]
theorem ET{a:Nat}{Q:V->St->Prop}(ha:a<2^60):W (tW (.int a) (.int 6)) st Q↔Q (.int ((a*64:Nat):Int)) st:=by
 have:tW (.int a) (.int 6)=aa (.int ((a*64:Nat):Int)):=by
  have hc:(0:Int)<=6/\(6:Int)<=64/\(a:Int).natAbs<2^64:=⟨by decide,by decide,by simp;lia⟩
  exact(if_pos hc).trans (by congr 2)
 rw[this,bp]
noncomputable abbrev zA:M Bool:=ao (aj tF (getL 1) (aa (.int 64))) c8
noncomputable abbrev zz:M (dC Fl):=k8 (Aj (ol 2 tW (aa (.int 6)))) (k8 (l8 1 (rI (getL 0))) (k8 (Aj (ol 2 Cv (aj tF (getL 1) (aa (.int 63))))) (Aj (aa .next))))
theorem Eo{ii lo j fuel b v:Nat}{xs:List V}{Q:dC Fl->St->Prop}(hlo:∀o,(σ.set ii o)[lo]?=some (.list xs))(hii:ii<σ.length)(hv:v<2^60)
  (h0:b &&& 64=0->Q (.ok .next) ⟨σ.set ii (.listIter lo j),[some (.ref ii),some (.int b),some (.int v)]⟩)
  (h1:b &&& 64≠0->xs[j]?=none->Q .stop ⟨σ.set ii .dead,[some (.ref ii),some (.int b),some (.int ((v*64:Nat):Int))]⟩)
  (h2:b &&& 64≠0->∀b':Nat,xs[j]?=some (.int b')->W (du zA zz fuel) ⟨σ.set ii (.listIter lo (j+1)),[some (.ref ii),some (.int b'),some (.int (((v*64) ||| (b' &&& 63):Nat):Int))]⟩ Q) (hi:b &&& 64≠0->∀x,xs[j]?=some x->∃b':Nat,x=.int b') :
  W (du zA zz (fuel+1)) ⟨σ.set ii (.listIter lo j),[some (.ref ii),some (.int b),some (.int v)]⟩ Q:=by
 have hget:(σ.set ii (.listIter lo j))[ii]?=some (.listIter lo j):=by rw[Qx hii]
 unfold du
 refine xB (xB (bw (xG rfl (xP (se (b:=64) |>.mpr (OM ?_))))))
 refine ON (λq=>?_) λq=>?_
 ·have q:b &&& 64≠0:=λe=>by rw[e]at q;exact absurd q (by decide)
  have h1:=h1 q
  have h2:=h2 q
  generalize du zA zz fuel=R at h2 ⊢
  refine g5 (il (qS.mpr (xB (xG rfl (xB (xP (xB ((ET hv).mpr (xB (xS (xP ?_)))))))))))
  refine il (g5 (vE (xG rfl ⟨ii,lo,j,xs,rfl,hget,hlo _,?_⟩)))
  cases hx:xs[j]? with
  | none =>
   have:=h1 hx
   show Q .stop ⟨(σ.set ii _).set ii .dead,_⟩
   rw[SG]
   exact this
  | some x =>
   obtain⟨b',rfl⟩:=hi q x hx
   refine xB (xS (xP ?_))
   refine il (qS.mpr (xB (xG rfl (xB (bw (xG rfl (xP (se (b:=63) |>.mpr (xB (Iv.mpr (xB (xS (xP (qS.mpr (xP ?_)))))))))))))))
   have:=h2 b' hx
   rw[SG]
   exact this
 ·refine xP (h0 ?_)
  have:((b &&& 64:Nat):Int)=0:=by simpa using q
  exact Int.ofNat.inj this
theorem HO{k:Nat}{mb:M (dC Fl)}{xs:List V}{Q:dC V->St->Prop}(h:W mb ⟨σ,fS k xs⟩ λf st'=>match f with | .ok (.ret x)=>Q (.ok x) ⟨st'.σ,L⟩ | .stop=>Q .stop ⟨st'.σ,L⟩ | _=>False):W (Jb k mb xs) ⟨σ,L⟩ Q:=by
 obtain⟨f,st',e,q⟩:=h
 cases f with
 | stop=>exact⟨.stop,⟨st'.σ,L⟩,by unfold Jb;rw[e];rfl,q⟩
 | ok f =>
  cases f with
  | ret x=>exact⟨.ok x,⟨st'.σ,L⟩,by unfold Jb;rw[e];rfl,q⟩
  | next=>exact q.elim
  | cont=>exact q.elim
  | brk=>exact q.elim
noncomputable def nb:Nat->List Nat->Prop
 | b,[]=>b &&& 64=0
 | b,c::r=>b &&& 64≠0/\nb c r
noncomputable def vo(v:Nat)(w:List Nat):Nat:=w.foldl (λv b=>v*64 ||| (b &&& 63)) v
theorem Bu(b:Nat):b &&& 63<64:=by
 have:=Nat.and_lt_two_pow b (y:=63) (n:=6) (by decide)
 simpa using this
theorem L1(v b:Nat):(v*64 ||| (b &&& 63))<(v+1)*64:=by
 have e:v*64 ||| (b &&& 63)=v*64+(b &&& 63):=by
  have:=Nat.two_pow_add_eq_or_of_lt (i:=6) (b:=b &&& 63) (by simpa using Bu b) v
  rw[show(2:Nat)^6=64 from rfl,Nat.mul_comm]at this
  exact this.symm
 rw[e]
 have:=Bu b
 lia
theorem nk{xs:List V}{j:Nat}{x:V}{r:List V}(h:xs.drop j=x::r):xs[j]?=some x/\xs.drop (j+1)=r:=by
 constructor
 ·have:=congrArg (·[0]?) h
  simpa using this
 ·have:=congrArg List.tail h
  simpa using this
theorem M4{ii lo:Nat}{xs:List V}{Q:dC Fl->St->Prop}(hlo:∀o,(σ.set ii o)[lo]?=some (.list xs))(hii:ii<σ.length):∀(w:List Nat)(b v j fuel:Nat)(r:List V),w.length<fuel->nb b w->(v+1)*64^w.length<=2^60 ->
  xs.drop j=iL w++r->(∀b':Nat,Q (.ok .next) ⟨σ.set ii (.listIter lo (j+w.length)),[some (.ref ii),some (.int b'),some (.int (vo v w:Nat))]⟩) ->
  W (du zA zz fuel) ⟨σ.set ii (.listIter lo j),[some (.ref ii),some (.int b),some (.int v)]⟩ Q:=by
 intro w
 induction w with
 | nil =>
  intro b v j fuel r hf hc hv hx q
  cases fuel with
  | zero=>exact absurd hf (Pm _)
  | succ f =>
   have hc:b &&& 64=0:=hc
   rw[RK,Nat.pow_zero,Nat.mul_one]at hv
   exact Eo hlo hii hv (λu=>q b) (λn=>absurd hc n) (λn=>absurd hc n) λn=>absurd hc n
 | cons c w ih =>
  intro b v j fuel r hf hc hv hx q
  cases fuel with
  | zero=>exact absurd hf (Pm _)
  | succ f =>
   obtain⟨hb,hc⟩:=hc
   obtain⟨h1,h2⟩:=nk (x:=.int (c:Int)) (r:=iL w++r) hx
   rw[Py]at hf hv q
   refine Eo hlo hii (OZ (Nat.le_mul_of_pos_right _ (Nat.one_le_pow _ _ (by decide))) hv) (λn=>absurd n hb) (λu n=>by rw[h1]at n;exact nS n) (λu b' hb'=>?_) λu x hx'=>?_
   ·rw[h1]at hb'
    obtain rfl:=Int.ofNat.inj (V.int.inj (sj hb'))
    refine ih c _ (j+1) f r (Pp hf) hc ?_ h2 λb''=>?_
    ·refine OZ (Nat.mul_le_mul_right _ (L1 v c)) (OZ (Qc ?_) hv)
     rw[Nat.pow_succ,Nat.mul_assoc,Nat.mul_comm 64]
    ·rw[Nat.add_assoc,Nat.add_comm 1]
     exact q b''
   ·rw[h1]at hx'
    obtain rfl:=sj hx'
    exact⟨c,rfl⟩
theorem uO{ii lo j:Nat}{xs:List V}(hlo:∀o,(σ.set ii o)[lo]?=some (.list xs))(hii:σ[ii]?=some (.listIter lo j)):σ[lo]?=some (.list xs):=by
 have:=hlo (.listIter lo j)
 obtain⟨_,he⟩:=OW.mp hii
 rwa [<- he,List.set_getElem_self]at this
theorem Dl{b n:Nat}(hw:n<=8):((b &&& 63)+1)*64^n<=2^60 :=
 OZ (SP (Bu b) (Nat.pow_le_pow_right (by decide) hw)) (by decide:64*64^8<=2^60)
theorem vn{ii lo j b:Nat}{w:List Nat}{xs r:List V}{Q:dC V->St->Prop}(hlo:∀o,(σ.set ii o)[lo]?=some (.list xs))(hii:σ[ii]?=some (.listIter lo j))(hw:w.length<=8)(hc:nb b w)(hx:xs.drop j=iL (b::w)++r)
  (q:Q (.ok (.int (vo (b &&& 63) w:Nat))) ⟨σ.set ii (.listIter lo (j+1+w.length)),L⟩):W (cw [.ref ii]) ⟨σ,L⟩ Q:=by
 obtain⟨h1,h2⟩:=nk (x:=.int (b:Int)) (r:=iL w++r) hx
 refine HO (mb:=cx) ?_
 unfold cx
 refine il (g5 (vE (xG rfl ⟨ii,lo,j,xs,rfl,hii,uO hlo hii,?_⟩)))
 rw[h1]
 refine xB (xS (xP ?_))
 refine il (qS.mpr (xA (bw (xG rfl (xP ((se (b:=63)).mpr ?_))))))
 exact il (M4 hlo (OW.mp hii).1 w b (b &&& 63) (j+1) 1000 r (Pr hw (by decide)) hc (Dl hw) h2 λb'=>il (qS.mpr (gq (xG rfl q))))
theorem w2{ii lo j:Nat}{xs:List V}{Q:dC V->St->Prop}(hlo:∀o,(σ.set ii o)[lo]?=some (.list xs))(hii:σ[ii]?=some (.listIter lo j))(hx:xs.drop j=[]\/xs.drop j=[.int 65])
  (q:Q .stop ⟨σ.set ii .dead,L⟩):W (cw [.ref ii]) ⟨σ,L⟩ Q:=by
 refine HO (mb:=cx) ?_
 unfold cx
 refine il (g5 (vE (xG rfl ⟨ii,lo,j,xs,rfl,hii,uO hlo hii,?_⟩)))
 rcases hx with hx | hx
 ·rw[P6 (Sp.mp hx)]
  exact q
 ·obtain⟨h1,h2⟩:=nk (x:=.int 65) hx
  have h3:xs[j+1]?=none:=P6 (Sp.mp h2)
  rw[h1]
  refine xB (xS (xP ?_))
  refine il (qS.mpr (xA (bw (xG rfl (xP ((se (a:=65) (b:=63)).mpr ?_))))))
  refine il (Eo (b:=65) (v:=1) hlo (OW.mp hii).1 (by decide) (λn=>absurd n (by decide)) (λu u=>q) (λu b' hb=>by rw[h3]at hb;exact nO hb) λu x hx=>by rw[h3]at hx;exact nO hx)
noncomputable def AX:List Nat->Nat
 | []=>0
 | b::w=>vo (b &&& 63) w
noncomputable def Bp:List Nat->Prop
 | []=>False
 | b::w=>w.length<=8/\nb b w
noncomputable abbrev H0:M (dC Fl):=ao (getL 2) λx st=>if bE st.σ x=true then li (ao (ab (getL 1) am) cw) (λy=>ao (cb [x,y]) λu=>aa (.ok .next)) st else none
theorem gH{k:Nat}{xs:List V}{x:V}{Q:V->St->Prop}(hk:st.σ[k]?=some (.list xs))(hl:xs.length<=1000000)(q:Q .none ⟨st.σ.set k (.list (xs++[x])),st.L⟩):W (cb [.ref k,x]) st Q :=
 br hk (cM hl ⟨_,_,rfl,q⟩)
theorem aH{i j:Nat}{o:O}(h:i≠j):(σ.set i o)[j]?=σ[j]?:=by rw[Qr h]
theorem b5{i:Nat}{o:O}(h:i<σ.length):(σ.set i o)[i]?=some o:=by simp[h]
theorem H3{ii nl lo j:Nat}{w0:Option V}{xs nums:List V}{Q:dC Fl->St->Prop}(h1:σ[ii]?=some (.listIter lo j))(h2:σ[lo]?=some (.list xs))(h3:σ[nl]?=some (.list nums))(d1:ii≠lo)(d2:ii≠nl)(d3:lo≠nl)
  (h:(∃b w r,xs.drop j=iL (b::w)++r/\w.length<=8/\nb b w/\nums.length<=1000000/\Q (.ok .next) ⟨(σ.set ii (.listIter lo (j+1+w.length))).set nl (.list (nums++[.int (vo (b &&& 63) w:Nat)])),[w0,some (.ref ii),some (.ref nl)]⟩) \/
   ((xs.drop j=[]\/xs.drop j=[.int 65])/\Q .stop ⟨σ.set ii .dead,[w0,some (.ref ii),some (.ref nl)]⟩)):W H0 ⟨σ,[w0,some (.ref ii),some (.ref nl)]⟩ Q:=by
 have hlo:∀o,(σ.set ii o)[lo]?=some (.list xs):=λo=>by rw[aH d1];exact h2
 have hk:bE σ (.ref nl)=true:=by show(gm σ[nl]?).isSome=true;rw[h3];rfl
 have key:W (li (ao (ab (getL 1) am) cw) (λy=>ao (cb [.ref nl,y]) λu=>aa (.ok .next))) ⟨σ,[w0,some (.ref ii),some (.ref nl)]⟩ Q:=by
  refine g5 (xB (ak (xG rfl (aJ ?_))))
  rcases h with⟨b,w,r,hx,hw,hc,hn,q⟩ | ⟨hx,q⟩
  ·exact vn hlo h1 hw hc hx (xB (gH (xs:=nums) ((aH d2).trans h3) hn (xP q)))
  ·exact w2 hlo h1 hx q
 obtain⟨r,st',e,q⟩:=key
 exact xB (xG rfl ⟨r,st',(if_pos hk).trans e,q⟩)
theorem HQ{a b:Nat}(h:a<b):∃f,b=f+1:=⟨b - 1,by lia⟩
theorem LM{ii nl lo:Nat}{w0:Option V}{xs:List V}{Q:dC Fl->St->Prop}(d1:ii≠lo)(d2:ii≠nl)(d3:lo≠nl):∀(ws:List (List Nat))(fuel j:Nat)(nums tl:List V)(σ:List O),ws.length<fuel->(∀w∈ws,Bp w) ->
  xs.drop j=iL ws.flatten++tl->(tl=[]\/tl=[.int 65])->nums.length+ws.length<=1000000->σ[ii]?=some (.listIter lo j)->σ[lo]?=some (.list xs)->σ[nl]?=some (.list nums) ->
  (∀σ':List O,σ'.length=σ.length->σ'[nl]?=some (.list (nums++iL (ws.map AX)))->(∀i,i≠ii->i≠nl->σ'[i]?=σ[i]?)->Q .stop ⟨σ',[w0,some (.ref ii),some (.ref nl)]⟩) ->
  W (du (ao (aa (.bool true)) c8) H0 fuel) ⟨σ,[w0,some (.ref ii),some (.ref nl)]⟩ Q
 := λws=>by
 induction ws with
 | nil =>
  intro fuel j nums tl σ hf hw hx ht hn h1 h2 h3 q
  obtain⟨f,rfl⟩:=HQ hf
  unfold du
  rw[cL]
  simp only[cL,bp,qt,if_true]
  refine g5 ?_
  have hl1:=(OW.mp h1).1
  refine H3 h1 h2 h3 d1 d2 d3 (.inr ⟨by simpa[iL]using(by rcases ht with rfl | rfl<;>simp_all [iL]),?_⟩)
  simp only
  refine q _ (by simp) ?_ λi hi hi2=>?_
  ·rw[aH d2,h3];simp[iL]
  ·rw[aH (QA hi)]
 | cons v ws ih =>
  intro fuel j nums tl σ hf hw hx ht hn h1 h2 h3 q
  obtain⟨f,rfl⟩:=HQ hf
  obtain⟨b,w,rfl⟩:∃b w,v=b::w:=by
   cases v with
   | nil=>exact(hw [] (Pe ..)).elim
   | cons b w=>exact⟨b,w,rfl⟩
  obtain⟨hwl,hc⟩:=hw _ (Pe ..)
  rw[Py]at hf hn
  have hl1:=(OW.mp h1).1
  have hl3:=(OW.mp h3).1
  have hx1:xs.drop j=iL (b::w)++(iL ws.flatten++tl):=by
   rw[hx];simp[iL]
  have hx2:xs.drop (j+1+w.length)=iL ws.flatten++tl:=by
   have:xs.drop (j+1+w.length)=(xs.drop j).drop (1+w.length):=by rw[List.drop_drop];congr 1;lia
   rw[this,hx1,List.drop_append]
   have hl:(iL (b::w)).length=1+w.length:=by simp[iL];lia
   rw[<- hl,List.drop_length];simp
  unfold du
  rw[cL]
  simp only[cL,bp,qt,if_true]
  refine g5 ?_
  refine H3 h1 h2 h3 d1 d2 d3 (.inl ⟨b,w,_,hx1,hwl,hc,by lia,?_⟩)
  simp only
  refine ih f (j+1+w.length) (nums++[.int (vo (b &&& 63) w:Nat)]) tl _ (by lia) (λw hm=>hw w (Pa _ hm)) hx2 ht (by simp;lia) ?_ ?_ ?_ λσ' hlen hnum hrest=>?_
  ·rw[aH (QA d2),b5 hl1]
  ·rw[aH (QA d3),aH d1,h2]
  ·rw[b5 (by simpa using hl3)]
  ·refine q σ' (by simpa using hlen) ?_ λi hi hi2=>?_
   ·rw[hnum];simp[iL,AX]
   ·rw[hrest i hi hi2,aH (QA hi2),aH (QA hi)]
theorem iU{σ σ':List O}(h:∀i,i<σ.length->σ'[i]?=σ[i]?):∃g,σ'=σ++g:=by
 refine⟨σ'.drop σ.length,?_⟩
 have e:σ'.take σ.length=σ:=by
  apply List.ext_getElem?
  intro i
  rcases Sa i σ.length with q | q
  ·rw[List.getElem?_take_of_lt q,h i q]
  ·rw[P6 (by simp;lia),P6 q]
 conv=>lhs;rw[<- Qm σ.length σ',e]
theorem KY{l:List Nat}{Q:V->St->Prop}(h:l.length<2^62):W (ki [sx l]) st Q↔Q (.int (l.length:Int)) st:=by
 have e:ki [sx l]=aa (.int (l.length:Int)):=by
  have:(tx l).length<2^62:=by rw[b0];exact h
  show(if (tx l).length<2^62 then aa (V.int ((tx l).length:Int))else av)=_
  rw[if_pos this,b0]
 rw[e,bp]
theorem Iw{k:Nat}{xs:List V}{Q:V->St->Prop}(hk:st.σ[k]?=some (.list xs))(q:Q (.ref st.σ.length) ⟨st.σ++[.listIter k 0],st.L⟩):W (ua [.ref k]) st Q:=cM (p := [V.ref k].length=1) rfl (br hk ⟨_,_,rfl,q⟩)
noncomputable def cg(hs:List (Nat×List Nat))(t:List Nat):List Nat:=hs.foldl (λt cz=>sub cz.1 cz.2 t) t
noncomputable def b3:List (List (Nat×List Nat)) := [[(38,[38,97,109,112,59]),(60,[38,108,116,59]),(62,[38,103,116,59])],[(38,[38,97,109,112,59]),(60,[38,108,116,59]),(62,[38,103,116,59]),(34,[38,113,117,111,116,59]),(13,[38,35,49,51,59]),(10,[38,35,49,48,59]),(9,[38,35,48,57,59])],[(38,[38,97,109,112,59]),(62,[38,103,116,59]),(34,[38,113,117,111,116,59])],[(38,[38,97,109,112,59]),(60,[38,108,116,59]),(62,[38,103,116,59]),(13,[38,35,120,68,59])],[(38,[38,97,109,112,59]),(60,[38,108,116,59]),(34,[38,113,117,111,116,59]),(9,[38,35,120,57,59]),(10,[38,35,120,65,59]),(13,[38,35,120,68,59])]]
theorem zu(c:Nat)(z:List Nat):∀l,(sub c z l).length<=l.length*(z.length+1)
 | []=>by simp[sub]
 | d::r=>by
  have:=zu c z r
  unfold sub
  rw[Py,Nat.add_mul,Nat.one_mul]
  split
  ·rw[O2];lia
  ·rw[Py];lia
theorem IB{m:M V}{x y:Str}{c:Nat}{z t:List Nat}{Q:V->St->Prop}(hx:x=tx [c])(hy:y=tx z)(hz:z.length<=14)(hne:([c]==z)=false)(h:W m st λv st'=>v=sx t/\t.length<=1000000/\Q (sx (sub c z t)) st'):W (cR m x y) st Q:=by
 subst hx;subst hy
 refine xB (h.mono λv st' w9=>?_)
 obtain⟨rfl,hl,q⟩:=w9
 exact cM (p:=(tx t).length<=1000000/\(tx z).length<=14/\(tx [c]==tx z)=false) ⟨by rw[b0];exact hl,by rw[b0];exact hz,by rw[lV];exact hne⟩ (bp.mpr (by rw[wl];exact q))
theorem Fg{c:Nat}{z t:List Nat}(hz:z.length<=14)(hne:([c]==z)=false)(hl:t.length<=1000000) :
  W (a8 (aT iA (aa (.str (tx [c]))) (getL 0)) (af 0 (cR (getL 0) (tx [c]) (tx z))) (aa .next)) ⟨σ,[some (sx t)]⟩ λf st'=>f=.next/\st'=⟨σ,[some (sx (sub c z t))]⟩:=by
 refine jN (cU (xP (xG rfl (Bj.mpr (gW (A3 (λhp=>?_) λhp=>?_))))))
 ·exact xA (IB (t:=t) rfl rfl hz hne (xG rfl ⟨rfl,hl,rfl,rfl⟩))
 ·rw[mP hp]
  exact xP ⟨rfl,rfl⟩
noncomputable def sB:List (Str×Str)->M Fl
 | []=>b8 (getL 0)
 | p::r=>aw (a8 (aT iA (aa (.str p.1)) (getL 0)) (af 0 (cR (getL 0) p.1 p.2)) (aa .next)) (sB r)
theorem zU{Q:Fl->St->Prop}:∀(tab:List (Nat×List Nat)){t:List Nat},(∀p∈tab,p.2.length<=14/\([p.1]==p.2)=false)->(∀pre,pre<+: tab->(cg pre t).length<=1000000)->Q (.ret (sx (cg tab t))) ⟨σ,[some (sx (cg tab t))]⟩->W (sB (tab.map λp=>(tx [p.1],tx p.2))) ⟨σ,[some (sx t)]⟩ Q:=by
 intro tab
 induction tab with
 | nil=>exact λu u q=>gq (xG rfl q)
 | cons p r ih =>
  intro t h hb q
  obtain⟨h1,h2⟩:=h p (Pe ..)
  exact M9 (Fg h1 h2 (hb [] (List.nil_prefix))) (ih (λp hp=>h p (Pa _ hp)) (λpre hp=>hb (p::pre) ((List.prefix_cons_inj p).mpr hp)) q)
theorem zV:∀tab∈b3,∀p∈tab,p.2.length<=14/\([p.1]==p.2)=false:=by decide+kernel
noncomputable def Ig(ps:List (String×String)):List (Str×Str):=ps.map λp=>(OO p.1,OO p.2)
theorem mj{m:M Fl}{t:List Nat}{k:Nat}(ps:List (String×String))(hk:k<5)(hm:m=sB (Ig ps))(e:Ig ps=(b3.getD k []).map λp=>(tx [p.1],tx p.2)){Q:V->St->Prop}(hb:∀pre,pre<+: (b3.getD k [])->(cg pre t).length<=1000000)(q:Q (sx (cg (b3.getD k []) t)) ⟨σ,L⟩):W (kV 1 m [sx t]) ⟨σ,L⟩ Q:=by
 refine qx (mb:=m) (L₀ := [some (sx t)]) rfl ?_
 rw[hm,e]
 exact zU _ (zV _ (O1 (bb (l:=b3) hk))) hb q
theorem IZ{t:List Nat}{Q:V->St->Prop}(hb:∀pre,pre<+: (b3.getD 0 [])->(cg pre t).length<=1000000)(q:Q (sx (cg (b3.getD 0 []) t)) ⟨σ,L⟩):W (ge [sx t]) ⟨σ,L⟩ Q :=
 mj (m:=gn) (k:=0) [("&","&amp;"),("<","&lt;"),(">","&gt;")] (by decide) rfl (by kernel_rfl) hb q
theorem I0{t:List Nat}{Q:V->St->Prop}(hb:∀pre,pre<+: (b3.getD 1 [])->(cg pre t).length<=1000000)(q:Q (sx (cg (b3.getD 1 []) t)) ⟨σ,L⟩):W (fI [sx t]) ⟨σ,L⟩ Q :=
 mj (m:=fP) (k:=1) [("&","&amp;"),("<","&lt;"),(">","&gt;"),("\"","&quot;"),("\r","&#13;"),("\n","&#10;"),("\t","&#09;")] (by decide) rfl (by kernel_rfl) hb q
theorem I1{t:List Nat}{Q:V->St->Prop}(hb:∀pre,pre<+: (b3.getD 2 [])->(cg pre t).length<=1000000)(q:Q (sx (cg (b3.getD 2 []) t)) ⟨σ,L⟩):W (dG [sx t]) ⟨σ,L⟩ Q :=
 mj (m:=dL) (k:=2) [("&","&amp;"),(">","&gt;"),("\"","&quot;")] (by decide) rfl (by kernel_rfl) hb q
theorem I2{t:List Nat}{Q:V->St->Prop}(hb:∀pre,pre<+: (b3.getD 3 [])->(cg pre t).length<=1000000)(q:Q (sx (cg (b3.getD 3 []) t)) ⟨σ,L⟩):W (dU [sx t]) ⟨σ,L⟩ Q :=
 mj (m:=dZ) (k:=3) [("&","&amp;"),("<","&lt;"),(">","&gt;"),("\r","&#xD;")] (by decide) rfl (by kernel_rfl) hb q
theorem I3{t:List Nat}{Q:V->St->Prop}(hb:∀pre,pre<+: (b3.getD 4 [])->(cg pre t).length<=1000000)(q:Q (sx (cg (b3.getD 4 []) t)) ⟨σ,L⟩):W (dF [sx t]) ⟨σ,L⟩ Q :=
 mj (m:=dK) (k:=4) [("&","&amp;"),("<","&lt;"),("\"","&quot;"),("\t","&#x9;"),("\n","&#xA;"),("\r","&#xD;")] (by decide) rfl (by kernel_rfl) hb q
noncomputable def wt:List (Nat×List Nat)->Nat
 | []=>1
 | cz::r=>(cz.2.length+1)*wt r
theorem EA:∀r,1<=wt r
 | []=>O8 _
 | cz::r=>by
  have:=EA r
  show 1<=(cz.2.length+1)*wt r
  exact SP (Qt (PQ _)) this
theorem EB:∀{a b:List (Nat×List Nat)},a<+: b->wt a<=wt b
 | [],b,_=>EA b
 | x::a,b,h=>by
  obtain⟨t,rfl⟩:=h
  exact RC _ (EB (Pv a t))
theorem pC:∀(pre:List (Nat×List Nat))(t:List Nat),(cg pre t).length<=t.length*wt pre
 | [],t=>by simp[cg,wt]
 | cz::r,t=>by
  have h1:=pC r (sub cz.1 cz.2 t)
  have h2:=zu cz.1 cz.2 t
  show(cg r (sub cz.1 cz.2 t)).length<=t.length*((cz.2.length+1)*wt r)
  calc _<=_:=h1
   _<=(t.length*(cz.2.length+1))*wt r:=Nat.mul_le_mul_right _ h2
   _=_:=Nat.mul_assoc ..
theorem zX{k:Nat}{t:List Nat}(hk:k<5)(hl:t.length<=3):∀pre,pre<+: b3.getD k []->(cg pre t).length<=1000000:=by
 intro pre hp
 have hw:∀k<5,wt (b3.getD k [])<=300000:=by decide+kernel
 replace hw:=hw k hk
 have h1:=pC pre t
 have h2:=EB hp
 have h3:t.length*wt pre<=3*300000:=SP hl (by lia)
 lia
noncomputable def nZ:List Nat := [141,148,155,162,169]
theorem Jh{k:Nat}{t:List Nat}{Q:V->St->Prop}(hk:k<5)(hb:∀pre,pre<+: (b3.getD k [])->(cg pre t).length<=1000000)(q:Q (sx (cg (b3.getD k []) t)) ⟨σ,L⟩):W (sI (.ref (nZ.getD k 0)) [sx t]) ⟨σ,L⟩ Q :=
 Ov (p:=λk=>(∀pre,pre<+: (b3.getD k [])->(cg pre t).length<=1000000)->Q (sx (cg (b3.getD k []) t)) ⟨σ,L⟩->W (sI (.ref (nZ.getD k 0)) [sx t]) ⟨σ,L⟩ Q) IZ I0 I1 I2 I3 k hk hb q
theorem o8{t:M Bool}{b:M Fl}{f:Nat}{Q:Fl->St->Prop}(h:W t st λc st'=>c=false/\Q .next st'):W (dr t b (f+1)) st Q:=by
 unfold dr
 rw[cL]
 refine h.mono λc st' w9=>?_
 obtain⟨rfl,q⟩:=w9
 exact bp.mpr q
theorem o9{t:M Bool}{b:M Fl}{f:Nat}{Q:Fl->St->Prop}(h:W t st λc st'=>c=true/\W b st' λr st''=>r=.next/\W (dr t b f) st'' Q):W (dr t b (f+1)) st Q:=by
 unfold dr
 rw[cL]
 refine h.mono λc st' w9=>?_
 obtain⟨rfl,w⟩:=w9
 rw[if_pos rfl,cL]
 refine w.mono λr st'' w9=>?_
 obtain⟨rfl,w⟩:=w9
 exact w
theorem EQ{mf:M V}{ms:M (List V)}{tbl:OT->List V->M V}{Q:V->St->Prop}(h:W mf st λv st'=>∃g,v=.glob g/\W ms st' λxs st''=>W (tbl g xs) st'' Q):W (nQ mf ms tbl) st Q:=by
 unfold nQ
 rw[cL]
 refine h.mono λv st' w9=>?_
 obtain⟨g,rfl,w⟩:=w9
 rw[cL]
 exact w
noncomputable def iz:List V:=nZ.map λa=>.glob (.ref a)
theorem z4:∀kk<5,iz[((kk:Nat):Int).toNat]?=some (.glob (.ref (nZ.getD kk 0))):=by decide+kernel
theorem qZ(h:∀d∈t,d<0x110000):P3 (.str (tx t))=true:=by
 unfold P3 PyData.strOk
 simp[tx]
 exact h
theorem o6{k:Nat}{xs:List V}{Q:V->St->Prop}(hk:st.σ[k]?=some (.list xs))(hl:xs.length<2^62)(q:Q (.int (xs.length:Int)) st):W (ki [.ref k]) st Q:=br hk (cM hl (bp.mpr q))
theorem oK{k:Nat}{a b:Option Int}{xs ys:List V}{m:M V}{lo hi:M (Option Int)}{Q:V->St->Prop}(h:W m ⟨σ,L⟩ λx st'=>x=.ref k/\st'=⟨σ,L⟩)(h1:W lo ⟨σ,L⟩ λx st'=>x=a/\st'=⟨σ,L⟩)(h2:W hi ⟨σ,L⟩ λx st'=>x=b/\st'=⟨σ,L⟩)
  (hk:σ[k]?=some (.list xs)) (hl:xs.length<=1000000) (hs:mM a b xs=some ys) (q:Q (.ref σ.length) ⟨σ++[.list ys],L⟩):W (eG m lo hi) ⟨σ,L⟩ Q:=by
 refine xB (h.mono λx st' w9=>?_)
 obtain⟨e1,e2⟩:=w9
 subst e1;subst e2
 refine xB (h1.mono λx st' w9=>?_)
 obtain⟨e1,e2⟩:=w9
 subst e1;subst e2
 refine xB (h2.mono λx st' w9=>?_)
 obtain⟨e1,e2⟩:=w9
 subst e1;subst e2
 exact br hk (cM hl (ca hs (xN q)))
theorem rS{a:Nat}{xs:List V}(ha:a<=xs.length):mM (some (a:Int)) none xs=some (xs.drop a):=(if_pos ⟨PM a,SF.mpr ha⟩).trans (by rw[PB])
theorem zq{a:Nat}{xs:List V}(ha:a<=xs.length):mM none (some (a:Int)) xs=some (xs.take a):=(if_pos ⟨PM a,SF.mpr ha⟩).trans (by rw[PB])
variable {I:LI}{n:Int}{T:List Nat}{Q₀:List V}{it kb:Nat}
set_option genInjectivity false in
structure LI where
 lx:Nat
 d:Nat
 sd:Nat
 d2:Nat
 cl:Nat
 kc:Nat
 sg:Nat
 pb:Nat
noncomputable def qO:List Nat := [10,9,13,32]
noncomputable def AF(n:Int)(sd pb:Nat):List (Str×V) := [(OO "lineno",.int n),(OO "instream",.ref sd),(OO "whitespace",sx qO),(OO "pushback",.ref pb)]
structure Lx(I:LI)(σ:List O)(n:Int)(T:List Nat)(Q:List V):Prop where
 lx:σ[I.lx]?=some (.inst 123 I.d)
 d:σ[I.d]?=some (.attrs (AF n I.sd I.pb))
 sd:σ[I.sd]?=some (.inst 123 I.d2)
 d2:∃fs,σ[I.d2]?=some (.attrs fs)/\fs.lookup (OO "read")=some (.ref I.cl)
 cl:σ[I.cl]?=some (.clo aZ.params (.stmts aZ.body) aZ.scope aZ.qual [(OO "signs",I.kc)])
 kc:σ[I.kc]?=some (.cell (.ref I.sg))
 sg:σ[I.sg]?=some (.list (T.map λc=>sx [c]))
 pb:σ[I.pb]?=some (.list Q)
 ne1:I.pb≠I.sg
 ne2:I.d≠I.d2
 tl:T.length<=100000
 ql:Q.length<=100000
 ok:∀c∈T,P3 (.str (tx [c]))=true
structure Kp(I:LI)(σ σ':List O):Prop where
 len:σ.length<=σ'.length
 at_:∀i,i≠I.d->i≠I.sg->i≠I.pb->i<σ.length->σ'[i]?=σ[i]?
theorem Kp.refl:Kp I σ σ:=⟨O8 _,λu u u u u=>rfl⟩
theorem Kp.trans(h:Kp I σ σ')(h':Kp I σ' σ''):Kp I σ σ'':=⟨OZ h.len h'.len,λi a b c d=>(h'.at_ i a b c (O0 d h.len)).trans (h.at_ i a b c d)⟩
theorem Kp.app(g:List O):Kp I σ (σ++g):=⟨by simp,λi u u u h=>O7 h⟩
theorem Kp.get(h:Kp I σ σ'){i:Nat}{o:O}(a:i≠I.d)(b:i≠I.sg)(c:i≠I.pb)(e:σ[i]?=some o):σ'[i]?=some o:=by
 rw[h.at_ i a b c (OW.mp e).1];exact e
theorem Lx.app(h:Lx I σ n T Q₀)(g:List O):Lx I (σ++g) n T Q₀ :=
 ⟨ad h.lx,ad h.d,ad h.sd,let ⟨fs,a,b⟩:=h.d2;⟨fs,ad a,b⟩,ad h.cl,ad h.kc,ad h.sg,ad h.pb,h.ne1,h.ne2,h.tl,h.ql,h.ok⟩
theorem cq{i j:Nat}{o o':O}(h:σ[i]?=some o)(h':σ[j]?=some o')(ne:o≠o'):i≠j:=λe=>by
 subst e;rw[h]at h';exact ne (Pw h')
theorem Lx.setPb(h:Lx I σ n T Q₀){Q':List V}(hq:Q'.length<=100000):Lx I (σ.set I.pb (.list Q')) n T Q'/\Kp I σ (σ.set I.pb (.list Q')):=by
 have hl:=(OW.mp h.pb).1
 have ne:∀{i o},σ[i]?=some o->(∀xs,o≠O.list xs)->(σ.set I.pb (.list Q'))[i]?=some o:=λ{i o} e hn=>by
  rw[aH (QA (cq e h.pb (hn _)))];exact e
 refine⟨⟨ne h.lx (by simp),ne h.d (by simp),ne h.sd (by simp),?_,ne h.cl (by simp),ne h.kc (by simp),?_,b5 hl,h.ne1,h.ne2,h.tl,hq,h.ok⟩,by simp,λi a b c u=>aH (QA c)⟩
 ·obtain⟨fs,a,b⟩:=h.d2
  exact⟨fs,ne a (by simp),b⟩
 ·rw[aH h.ne1];exact h.sg
theorem Lx.setSg{c:Nat}(h:Lx I σ n (c::T) Q₀):Lx I (σ.set I.sg (.list (T.map λc=>sx [c]))) n T Q₀/\Kp I σ (σ.set I.sg (.list (T.map λc=>sx [c]))):=by
 have hl:=(OW.mp h.sg).1
 have ne:∀{i o},σ[i]?=some o->(∀xs,o≠O.list xs)->(σ.set I.sg (.list (T.map λc=>sx [c])))[i]?=some o:=λ{i o} e hn=>by
  rw[aH (QA (cq e h.sg (hn _)))];exact e
 refine⟨⟨ne h.lx (by simp),ne h.d (by simp),ne h.sd (by simp),?_,ne h.cl (by simp),ne h.kc (by simp),b5 hl,?_,h.ne1,h.ne2,by have:=h.tl;simp at this;lia,h.ql,λc hc=>h.ok c (Pa _ hc)⟩,by simp,λi a b c u=>aH (QA b)⟩
 ·obtain⟨fs,a,b⟩:=h.d2
  exact⟨fs,ne a (by simp),b⟩
 ·rw[aH (QA h.ne1)];exact h.pb
theorem Lx.setD(h:Lx I σ n T Q₀)(m:Int):Lx I (σ.set I.d (.attrs (AF m I.sd I.pb))) m T Q₀/\Kp I σ (σ.set I.d (.attrs (AF m I.sd I.pb))):=by
 have hl:=(OW.mp h.d).1
 have ne:∀{i o},σ[i]?=some o->(∀xs,o≠O.attrs xs)->(σ.set I.d (.attrs (AF m I.sd I.pb)))[i]?=some o:=λ{i o} e hn=>by
  rw[aH (QA (cq e h.d (hn _)))];exact e
 refine⟨⟨ne h.lx (by simp),b5 hl,ne h.sd (by simp),?_,ne h.cl (by simp),ne h.kc (by simp),ne h.sg (by simp),ne h.pb (by simp),h.ne1,h.ne2,h.tl,h.ql,h.ok⟩,by simp,λi a b c u=>aH (QA a)⟩
 obtain⟨fs,a,b⟩:=h.d2
 exact⟨fs,by rw[aH h.ne2];exact a,b⟩
theorem g7{C:Addr}{k d:Nat}{fs:List (Str×V)}{β:Type}{f:Nat->Nat->List (Str×V)->M β}{st:St}{Q:β->St->Prop}(h1:st.σ[k]?=some (.inst C d))(h2:st.σ[d]?=some (.attrs fs))(w:W (f k d fs) st Q):W (mG C (.ref k) f) st Q :=
 eK h1 (cM rfl (eK h2 w))
theorem d9{C:Addr}{nm:Str}{mo:M V}{Q:V->St->Prop}(h:W mo st λx st'=>∃k d fs v,x=.ref k/\st'.σ[k]?=some (.inst C d)/\st'.σ[d]?=some (.attrs fs)/\fs.lookup nm=some v/\qe v=true/\Q v st'):W (cE C nm mo) st Q :=
 xB (h.mono λx st' w9=>by obtain⟨k,d,fs,v,rfl,h1,h2,h3,h4,q⟩:=w9;exact g7 h1 h2 (ca h3 (cM h4 (bp.mpr q))))
theorem w6(n:Int)(sd pb:Nat):(AF n sd pb).lookup (OO "lineno")=some (.int n):=by kernel_rfl
theorem HA(n:Int)(sd pb:Nat):(AF n sd pb).lookup (OO "instream")=some (.ref sd):=by kernel_rfl
theorem KQ(n:Int)(sd pb:Nat):(AF n sd pb).lookup (OO "whitespace")=some (sx qO):=by kernel_rfl
theorem w7(n:Int)(sd pb:Nat):(AF n sd pb).lookup (OO "pushback")=some (.ref pb):=by kernel_rfl
theorem iY(n:Int)(sd pb:Nat):(AF n sd pb).lookup (OO "get_token")=none/\(AF n sd pb).lookup (OO "push_token")=none/\(AF n sd pb).lookup (OO "_read_char")=none:=⟨by kernel_rfl,by kernel_rfl,by kernel_rfl⟩
theorem Im(n m:Int)(sd pb:Nat):nB (OO "lineno") (.int m) (AF n sd pb)=AF m sd pb:=by kernel_rfl
theorem xU{k:Nat}{xs:List V}(h:σ[k]?=some (.list xs)):bE σ (.ref k)=true:=by show(gm σ[k]?).isSome=true;rw[h];rfl
theorem Dm{v:V}{Q:V->St->Prop}(h:Lx I σ n T Q₀)(hq:Q₀.length<90000)(q:∀σ',Lx I σ' n T (Q₀++[v])->Kp I σ σ'->Q .none ⟨σ',L⟩):W (bg [.ref I.lx,v]) ⟨σ,L⟩ Q:=by
 refine qx (mb:=bh) (L₀ := [some (.ref I.lx),some v]) rfl ?_
 unfold bh
 refine EJ (dA (d9 (xG rfl ⟨_,_,_,_,rfl,h.lx,h.d,w7 ..,rfl,xU h.pb,ak (xG rfl (aJ (gH h.pb (by lia) ?_)))⟩)))
 obtain⟨a,b⟩:=h.setPb (Q':=Q₀++[v]) (by rw[O2];show _+1<=_;lia)
 exact q _ a b
theorem yd(f:Nat):∀l:List Nat,(l.map λc=>sx [c]).mapM (bF f σ)=some (l.map λc=>QF (tx [c]))
 | []=>rfl
 | c::l=>by
  rw[Ps,Qn,yd f l]
  have:bF f σ (sx [c])=some (.str (tx [c])):=by cases f<;>rfl
  rw[this];rfl
theorem xn{k:Nat}{l:List Nat}(h:σ[k]?=some (.list (l.map λc=>sx [c]))):bF mc σ (.ref k)=some (.list (l.map λc=>QF (tx [c]))):=by
 show((gm σ[k]?).bind λxs=>(xs.mapM (bF 7 σ)).map SW)=_
 rw[h]
 show Q3 _ (Tp _ _)=_
 rw[yd]
 rfl
theorem q7:∀{l:List Nat},(∀c∈l,P3 (.str (tx [c]))=true)->PV (l.map λc=>QF (tx [c]))=true
 | [],_=>by simp[PV]
 | c::l,h=>by
  rw[Ps,PV,h c (Pe ..),q7 λc hc=>h c (Pa _ hc)];rfl
theorem tP:∀(l:List Nat),P8 (l.map λc=>QF (tx [c]))=0
 | []=>by simp[P8]
 | c::l=>by rw[Ps,P8,tP l];simp[Rc]
theorem rR{l:List Nat}(h:∀c∈l,P3 (.str (tx [c]))=true):Q1 (.list (l.map λc=>QF (tx [c])))=true:=by
 simp only[Q1,P3,Rc,q7 h,tP]
 decide
theorem BS:∀(a b:List Nat),Qb (a.map λc=>QF (tx [c])) (b.map λc=>QF (tx [c]))=(a==b)
 | [],[]=>by simp[Qb]
 | [],_::_=>by simp[Qb]
 | _::_,[]=>by simp[Qb]
 | x::a,y::b=>by
  rw[Ps,Ps,Qb,BS a b]
  simp only[QD,lV]
  by_cases h:x=y<;>by_cases h2:a=b<;>simp[h,h2]
theorem qR{i j:Nat}{a b:List Nat}{Q:V->St->Prop}(hi:st.σ[i]?=some (.list (a.map λc=>sx [c])))(hj:st.σ[j]?=some (.list (b.map λc=>sx [c])))(ha:∀c∈a,P3 (.str (tx [c]))=true)(hb:∀c∈b,P3 (.str (tx [c]))=true)
  (q:Q (.bool (a==b)) st):W (iM (.ref i) (.ref j)) st Q:=by
 refine⟨_,_,?_,q⟩
 have:IY st.σ (.ref i) (.ref j)=some (a==b):=by
  show EF _ _ _=_
  unfold EF
  rw[xn hi,xn hj]
  exact(if_pos ⟨rR ha,rR hb⟩).trans (by rw[QD,BS])
 unfold iM
 rw[this];rfl
theorem HG{k:Nat}{x:V}{xs:List V}{Q:V->St->Prop}(hk:st.σ[k]?=some (.list (x::xs)))(hl:xs.length<1000000)(q:Q x ⟨st.σ.set k (.list xs),st.L⟩):W (GG [.ref k,.int 0]) st Q :=
 br hk (cM ⟨rfl,hl⟩ ⟨_,_,rfl,q⟩)
theorem Jf{c:Nat}{Q:V->St->Prop}(h:Lx I σ n (c::T) Q₀)(q:∀g,Q (sx [c]) ⟨(σ++g).set I.sg (.list (T.map λc=>sx [c])),L⟩):W (BJ gp I.kc (.int 1)) ⟨σ,L⟩ Q:=by
 have key:W gp ⟨σ,[some (.int 1),some (.ref I.sg)]⟩ λf st'=>f=.ret (sx [c])/\∃g,st'.σ=(σ++g).set I.sg (.list (T.map λc=>sx [c])):=by
  have ht:=h.tl
  rw[Py]at ht
  unfold gp
  refine qz ?_
  refine Hz (cU (xG rfl (xP (M7 (gW ?_)))))
  refine oJ ?_
  refine Hz (cU (xG rfl ?_))
  refine cS (aJ ⟨PQ _,?_⟩)
  refine qR (a:=c::T) (b := []) (ad h.sg) ar h.ok (λu m=>nomatch m) ?_
  refine gW ?_
  refine oJ ?_
  refine xP (oJ (A4 (gq (dA (xG rfl ?_)))))
  refine⟨xU (ad h.sg),?_⟩
  refine ak (xP (aJ ?_))
  exact HG (x:=sx [c]) (xs:=T.map λc=>sx [c]) (ad h.sg) (by rw[Pc];lia) ⟨rfl,[.list []],rfl⟩
 obtain⟨f,st',e,rfl,g,hg⟩:=key
 exact eK h.kc ⟨sx [c],⟨st'.σ,L⟩,by show(gp ⟨σ,[some (.int 1),some (.ref I.sg)]⟩).bind _=_;rw[e];rfl,by rw[hg];exact q g⟩
noncomputable def m9(c:Nat):Int:=if c=10 then 1 else 0
theorem qT{mo:M V}{Q:V->St->Prop}{k d j k1:Nat}{fs:List (Str×V)}(h:W mo st λx st'=>x=.ref k/\st'.σ[k]?=some (.inst 123 d)/\st'.σ[d]?=some (.attrs fs)/\fs.lookup (OO "read")=some (.ref j) /\
  st'.σ[j]?=some (.clo aZ.params (.stmts aZ.body) aZ.scope aZ.qual [(OO "signs",k1)])/\W (BJ gp k1 (.int 1)) st' Q):W (mJ 123 "read" mo aZ gp 1) st Q:=by
 have hc:aZ.params=aZ.params/\FuncBody.stmts aZ.body=FuncBody.stmts aZ.body/\aZ.scope=aZ.scope/\aZ.qual=aZ.qual /\ [(OO "signs",k1)].map (·.1)=[aZ.nm]:=⟨rfl,rfl,rfl,rfl,rfl⟩
 exact xB (h.mono λx st' w9=>by obtain⟨rfl,h1,h2,h3,h4,w⟩:=w9;exact g7 h1 h2 (ca h3 (eK h4 (cM hc (ca rfl w)))))
theorem Ds{c:Nat}{Q:V->St->Prop}(h:Lx I σ n (c::T) Q₀)(q:∀σ',Lx I σ' (n+m9 c) T Q₀->Kp I σ σ'->Q (sx [c]) ⟨σ',L⟩):W (aE [.ref I.lx]) ⟨σ,L⟩ Q:=by
 refine qx (mb:=bu) (L₀ := [some (.ref I.lx),none]) rfl ?_
 unfold bu
 obtain⟨fs,hf1,hf2⟩:=h.d2
 refine fA (qT (k:=I.sd) (d:=I.d2) (j:=I.cl) (k1:=I.kc) (fs:=fs) (d9 (xG rfl ⟨_,_,_,_,rfl,h.lx,h.d,HA ..,rfl,rfl,h.sd,hf1,hf2,h.cl,Jf h λg=>?_⟩)))
 obtain⟨hx,b⟩:=(h.app g).setSg
 have hk:=(Kp.app g).trans b
 refine qz ?_
 refine cU (xG rfl (xK z7 (qw (gW ?_))))
 refine EK (λe=>?_) λe=>?_
 ·have e:c=10:=RU (eq_of_beq e)
  subst e
  obtain⟨a,b⟩:=hx.setD (n+1)
  refine M9 (st2:=⟨((σ++g).set I.sg (.list (T.map λc=>sx [c]))).set I.d (.attrs (AF (n+1) I.sd I.pb)),[some (.ref I.lx),some (sx [10])]⟩) ?_ ?_
  ·have hl:(AF n I.sd I.pb).length<=100:=(by decide:4<=100)
   exact xB (xG rfl (g7 hx.lx hx.d (ca (w6 ..) (cM rfl (xB (xB (xP (show W (aa (V.int (n+1))) _ _ from xP (g7 hx.lx hx.d (cM hl ⟨_,_,rfl,rfl,by rw[Im];rfl⟩))))))))))
  ·refine gq (xG rfl ?_)
   exact q _ a (hk.trans b)
 ·refine A4 (gq (xG rfl ?_))
  have hc:c≠10:=λq=>by subst q;exact absurd e (by decide)
  exact q _ (by unfold m9;rw[if_neg hc,Re];exact hx) hk
theorem sh{nm:Str}{mo:M V}{f:List V->M V}{Q:V->St->Prop}(h:W mo st λx st'=>∃k d fs,x=.ref k/\st'.σ[k]?=some (.inst 123 d)/\st'.σ[d]?=some (.attrs fs)/\fs.lookup nm=none/\W (f [.ref k]) st' Q):W (c9 123 nm mo am f) st Q:=by
 exact xB (h.mono λx st' w9=>by obtain⟨k,d,fs,rfl,h1,h2,h3,w⟩:=w9;exact g7 h1 h2 (cM h3 (xB (aJ w))))
theorem si{nm:Str}{mo ma:M V}{f:List V->M V}{Q:V->St->Prop}(h:W mo st λx st'=>∃k d fs,x=.ref k/\st'.σ[k]?=some (.inst 123 d)/\st'.σ[d]?=some (.attrs fs)/\fs.lookup nm=none/\W ma st' λv st2=>W (f [.ref k,v]) st2 Q):W (c9 123 nm mo (ab ma am) f) st Q:=by
 exact xB (h.mono λx st' w9=>by obtain⟨k,d,fs,rfl,h1,h2,h3,w⟩:=w9;exact g7 h1 h2 (cM h3 (xB (ak (w.mono λu u w=>aJ w)))))
theorem nL{k:Nat}{xs:List V}{Q:Bool->St->Prop}(hk:st.σ[k]?=some (.list xs))(hl:xs.length<2^62)(q:Q (!xs.isEmpty) st):W (c8 (.ref k)) st Q:=br hk (cM hl (bp.mpr q))
theorem tf{v:V}{Q:V->St->Prop}(h:Lx I σ n T (v::Q₀))(q:∀σ',Lx I σ' n T Q₀->Kp I σ σ'->Q v ⟨σ',L⟩):W (aC [.ref I.lx]) ⟨σ,L⟩ Q:=by
 refine qx (mb:=bx) (L₀ := [some (.ref I.lx),none,none,none]) rfl ?_
 unfold bx
 have hql:=h.ql
 rw[Py]at hql
 refine qz (xB (d9 (xG rfl ⟨_,_,_,_,rfl,h.lx,h.d,w7 ..,rfl,nL h.pb (by rw[Py];lia) ?_⟩)))
 refine vv (KO (dA (d9 (xG rfl ⟨_,_,_,_,rfl,h.lx,h.d,w7 ..,rfl,xU h.pb,?_⟩))))
 refine ak (xP (aJ ?_))
 refine HG h.pb (by lia) ?_
 obtain⟨a,b⟩:=h.setPb (Q':=Q₀) (by lia)
 exact q _ a b
theorem iE{cf:CF}{i f:Nat}{body:M Fl}{it:It}{Q:Fl->St->Prop}(h:W (lS cf it) st λr st'=>match r with
  | none=>Q .next st'
  | some (x,it')=>W (setL i x) st' λu st2=>W body st2 λfl st3=>match fl with
   | .next=>W (b4 cf i body f it') st3 Q
   | .cont=>W (b4 cf i body f it') st3 Q
   | .brk=>Q .next st3
   | .ret x=>Q (.ret x) st3):W (b4 cf i body (f+1) it) st Q:=by
 unfold b4
 rw[cL]
 refine h.mono λr st' q=>?_
 cases r with
 | none=>exact bp.mpr q
 | some xi =>
  obtain⟨x,it'⟩:=xi
  simp only at q ⊢
  rw[cL]
  refine q.mono λu st2 q=>?_
  rw[cL]
  refine q.mono λfl st3 q=>?_
  cases fl with
  | next=>exact q
  | cont=>exact q
  | brk=>exact bp.mpr q
  | ret x=>exact bp.mpr q
theorem po{c:Nat}(h:c≠10):m9 c=0:=by unfold m9;rw[if_neg h]
structure LC(I:LI)(σ:List O)(n:Int)(T:List Nat)(it kb:Nat):Prop where
 lex:Lx I σ n T []
 it:σ[it]?=some (.callIter (.ref kb) (.str (tx [])) false)
 kb:σ[kb]?=some (.bound (.ref I.lx) 106)
theorem LC.next{n':Int}{T':List Nat}(h:LC I σ n T it kb)(hx:Lx I σ' n' T' [])(hk:Kp I σ σ'):LC I σ' n' T' it kb :=
 ⟨hx,hk.get (cq h.it h.lex.d (by simp)) (cq h.it h.lex.sg (by simp)) (cq h.it h.lex.pb (by simp)) h.it,
  hk.get (cq h.kb h.lex.d (by simp)) (cq h.kb h.lex.sg (by simp)) (cq h.kb h.lex.pb (by simp)) h.kb⟩
theorem C0{c:Nat}{Q:Option (V×It)->St->Prop}(h:LC I σ n (c::T) it kb)(q:∀σ',LC I σ' (n+m9 c) T it kb->Kp I σ σ'->Q (some (sx [c],.call it)) ⟨σ',L⟩):W (lS bi (.call it)) ⟨σ,L⟩ Q:=by
 show W (BA bi it) _ _
 refine eK h.it ?_
 show W (oO kb (i8 (IO bi it kb (tx [])))) _ _
 refine eK h.kb ?_
 show W (ao (aE [.ref I.lx]) (IP bi it kb (tx []))) _ _
 refine xB (Ds h.lex λσ' hx hk=>?_)
 have hc:=h.next hx hk
 refine eK hc.it (eK hc.kb ?_)
 have ha:tB bi kb (tx []) (.ref kb) (.str (tx [])) false 106:=⟨rfl,rfl,rfl,rfl⟩
 show W (if tB bi kb (tx []) (.ref kb) (.str (tx [])) false 106 then tI it kb (tx []) (tx [c])else av) _ _
 rw[if_pos ha,tI,lV]
 exact xP (q σ' hc hk)
noncomputable abbrev WB(τ:M Bool):M Fl:=(aw (a8 τ (b8 (getL 1)) (a8 (aT iM (getL 3) (aa (.str (OO "\\")))) (af 3 (c9 123 "_read_char" (getL 0) am aE)) (aa .next)))
 (ol 1 mz (getL 3)))
noncomputable abbrev QB:M Fl:=WB (aT iM (getL 3) (aa (.str (OO "\""))))
noncomputable abbrev Nc:M Fl:=WB (aT iA (getL 3) (cE 123 "whitespace" (getL 0)))
noncomputable abbrev Lt(I:LI)(it:Nat)(tok:List Nat)(x3:Option V):List (Option V) := [some (.ref I.lx),some (sx tok),some (.ref it),x3]
theorem Iu{a b:List Nat}{Q:V->St->Prop}(h:a.length+b.length<=1000000)(q:Q (sx (a++b)) st):W (mz (sx a) (sx b)) st Q:=by
 have:(tx a).length+(tx b).length<=1000000:=by rw[b0,b0];exact h
 exact cM this (bp.mpr (by rw[tm];exact q))
theorem xh{tok:List Nat}{c:Nat}{Q:Fl->St->Prop}(hl:tok.length<=90000)(q:Q .next ⟨σ,Lt I it (tok++[c]) (some (sx [c]))⟩):W (ol 1 mz (getL 3)) ⟨σ,Lt I it tok (some (sx [c]))⟩ Q :=
 xB (xG rfl (xB (xG rfl (xB (Iu (OZ (Sq hl 1) (by decide)) (xB (xS (xP q))))))))
theorem E9{a c:Nat}:([c]==[a])=(c==a):=by
 by_cases h:c=a
 ·subst h;rw[beq_self_eq_true,beq_self_eq_true]
 ·rw[beq_eq_false_iff_ne.mpr h,beq_eq_false_iff_ne.mpr λq=>h (RU q)]
theorem ri{tok:List Nat}{c:Nat}{r:M Fl}{Q:Fl->St->Prop}(h:LC I σ n (c::T) it kb)(q:∀σ',LC I σ' (n+m9 c) T it kb->Kp I σ σ'->W r ⟨σ',Lt I it tok (some (sx [c]))⟩ Q) :
  W (aw (a8 (aT iM (getL 3) (aa (.str (OO "\\")))) (af 3 (c9 123 "_read_char" (getL 0) am aE)) (aa .next)) r) ⟨σ,Lt I it tok (some (sx [92]))⟩ Q:=by
 refine qz ?_
 refine cU (xG rfl (xK NH (qw (gW ?_))))
 refine vv (fA (sh (xG rfl ⟨_,_,_,rfl,h.lex.lx,h.lex.d,(iY ..).2.2,Ds h.lex λσ' hx hk=>?_⟩)))
 exact q σ' (h.next hx hk) hk
theorem ur{tok:List Nat}{c:Nat}{r:M Fl}{Q:Fl->St->Prop}(hc:c≠92)(q:W r ⟨σ,Lt I it tok (some (sx [c]))⟩ Q):W (aw (a8 (aT iM (getL 3) (aa (.str (OO "\\")))) (af 3 (c9 123 "_read_char" (getL 0) am aE)) (aa .next)) r) ⟨σ,Lt I it tok (some (sx [c]))⟩ Q:=by
 refine qz ?_
 refine cU (xG rfl (xK NH (qw (gW ?_))))
 rw[E9,beq_eq_false_iff_ne.mpr hc]
 exact oJ (A4 q)
noncomputable def Na(I:LI)(it kb:Nat)(τ:M Bool)(p:Nat->Bool):Prop:=∀(σ:List O)(n:Int)(T:List Nat)(c:Nat)(tok:List Nat)(Q:Bool->St->Prop),LC I σ n T it kb->Q (p c) ⟨σ,Lt I it tok (some (sx [c]))⟩->W τ ⟨σ,Lt I it tok (some (sx [c]))⟩ Q
theorem MZ:Na I it kb (aT iM (getL 3) (aa (.str (OO "\"")))) λc=>c==34:=λσ n T c tok Q h q=>by
 refine cU (xG rfl (xK FA (qw (gW ?_))))
 rw[E9];exact q
theorem Ef:Na I it kb (aT iA (getL 3) (cE 123 "whitespace" (getL 0))) λc=>decide (c∈qO):=λσ n T c tok Q h q=>by
 refine cU (xG rfl (d9 (xG rfl ⟨_,_,_,_,rfl,h.lex.lx,h.lex.d,KQ ..,rfl,Bj.mpr (gW q)⟩)))
theorem zi{τ:M Bool}{p e:Nat->Bool}(hτ:Na I it kb τ p)(p92:p 92=false){Q:Fl->St->Prop}:∀(w tok:List Nat)(fuel:Nat)(σ:List O)(x3:Option V),tok.length+w.length<=80000->(∀c∈w,c≠10/\(e c=false->c≠92/\p c=false)) ->
  LC I σ n (eE e w++T) it kb->(∀σ' x3',LC I σ' n T it kb->Kp I σ σ'->W (b4 bi 3 (WB τ) fuel (.call it)) ⟨σ',Lt I it (tok++w) x3'⟩ Q) ->
  W (b4 bi 3 (WB τ) (fuel+w.length) (.call it)) ⟨σ,Lt I it tok x3⟩ Q
 | [],tok,f,σ,x3,hl,hw,h,q=>by
  have:=q σ x3 h Kp.refl
  rw[O4]at this
  exact this
 | c::w,tok,f,σ,x3,hl,hw,h,q=>by
  obtain⟨h10,hne⟩:=hw c (Pe ..)
  rw[Py]at hl
  have fin:∀σ1 x,LC I σ1 n (eE e w++T) it kb->Kp I σ σ1->W (b4 bi 3 (WB τ) (f+w.length) (.call it)) ⟨σ1,Lt I it (tok++[c]) x⟩ Q:=λσ1 x hc hk =>
   zi hτ p92 w (tok++[c]) f σ1 x (by rw[O2];show _+1+_<=_;lia) (λd hd=>hw d (Pa _ hd)) hc λσ2 x3' hc2 hk2=>by
    have:=q σ2 x3' hc2 (hk.trans hk2)
    rw[OY]
    exact this
  have htl:tok.length<=90000:=by lia
  show W (b4 bi 3 (WB τ) (f+w.length+1) (.call it)) ⟨σ,Lt I it tok x3⟩ Q
  by_cases he:e c=true
  ·have h':LC I σ n (92::c::(eE e w++T)) it kb:=by
    have e1:eE e (c::w)++T=92::c::(eE e w++T):=by
     show(if e c=true then [92,c]else [c])++eE e w++T=_
     rw[if_pos he];rfl
    rw[e1]at h;exact h
   refine iE (C0 (c:=92) h' λσ1 hc1 hk1=>xS ?_)
   rw[show n+m9 92=n by rw[po (by decide),Re]]at hc1
   refine qz (hτ σ1 n _ 92 tok _ hc1 ?_)
   rw[p92]
   refine oJ (ri (tok:=tok) hc1 λσ2 hc2 hk2=>?_)
   rw[po h10,Re]at hc2
   exact xh htl (fin σ2 _ hc2 (hk1.trans hk2))
  ·obtain⟨h92,hp⟩:=hne (P4.mpr he)
   have h':LC I σ n (c::(eE e w++T)) it kb:=by
    have e1:eE e (c::w)++T=c::(eE e w++T):=by
     show(if e c=true then [92,c]else [c])++eE e w++T=_
     rw[if_neg he];rfl
    rw[e1]at h;exact h
   refine iE (C0 (c:=c) h' λσ1 hc1 hk1=>xS ?_)
   rw[po h10,Re]at hc1
   refine qz (hτ σ1 n _ c tok _ hc1 ?_)
   rw[hp]
   exact oJ (ur (tok:=tok) h92 (xh htl (fin σ1 _ hc1 hk1)))
theorem Lf{τ:M Bool}{p:Nat->Bool}{t f:Nat}{tok:List Nat}{x3:Option V}{Q:Fl->St->Prop}(hτ:Na I it kb τ p)(ht:p t=true)(h:LC I σ n (t::T) it kb)
  (q:∀σ',LC I σ' (n+m9 t) T it kb->Kp I σ σ'->Q (.ret (sx tok)) ⟨σ',Lt I it tok (some (sx [t]))⟩):W (b4 bi 3 (WB τ) (f+1) (.call it)) ⟨σ,Lt I it tok x3⟩ Q:=by
 refine iE (C0 (c:=t) h λσ' hc hk=>xS ?_)
 refine qz (hτ σ' _ _ t tok _ hc ?_)
 rw[ht]
 exact vv (KO (xG rfl (q σ' hc hk)))
theorem JZ{e:Nat->Bool}{w tok:List Nat}{f:Nat}{x3:Option V}{Q:Fl->St->Prop}(hf:w.length<f)(hl:tok.length+w.length<=80000)(hw:∀c∈w,c≠10/\(e c=false->c≠92/\c≠34))
  (h:LC I σ n (eE e w++34::T) it kb) (q:∀σ' x3',LC I σ' n T it kb->Kp I σ σ'->Q (.ret (sx (tok++w))) ⟨σ',Lt I it (tok++w) x3'⟩):W (b4 bi 3 QB f (.call it)) ⟨σ,Lt I it tok x3⟩ Q:=by
 obtain⟨g,rfl⟩:∃g,f=(g+1)+w.length:=⟨f - w.length - 1,by omega⟩
 refine zi (e:=e) MZ rfl w tok (g+1) σ x3 hl (λc hc=>⟨(hw c hc).1,λhe=>⟨((hw c hc).2 he).1,beq_eq_false_iff_ne.mpr ((hw c hc).2 he).2⟩⟩) h λσ1 x1 hc1 hk1=>?_
 refine Lf MZ rfl hc1 λσ2 hc2 hk2=>?_
 rw[po (by decide),Re]at hc2
 exact q σ2 _ hc2 (hk1.trans hk2)
theorem IS{e:Nat->Bool}{t:Nat}{w tok:List Nat}{f:Nat}{x3:Option V}{Q:Fl->St->Prop}(ht:t∈qO)(hf:w.length<f)(hl:tok.length+w.length<=80000)(hw:∀c∈w,c≠10/\(e c=false->c≠92/\c∉qO))
  (h:LC I σ n (eE e w++t::T) it kb) (q:∀σ' x3',LC I σ' (n+m9 t) T it kb->Kp I σ σ'->Q (.ret (sx (tok++w))) ⟨σ',Lt I it (tok++w) x3'⟩):W (b4 bi 3 Nc f (.call it)) ⟨σ,Lt I it tok x3⟩ Q:=by
 obtain⟨g,rfl⟩:∃g,f=(g+1)+w.length:=⟨f - w.length - 1,by lia⟩
 refine zi (e:=e) Ef rfl w tok (g+1) σ x3 hl (λc hc=>⟨(hw c hc).1,λhe=>⟨((hw c hc).2 he).1,decide_eq_false ((hw c hc).2 he).2⟩⟩) h λσ1 x1 hc1 hk1=>?_
 exact Lf Ef (decide_eq_true ht) hc1 λσ2 hc2 hk2=>q σ2 _ hc2 (hk1.trans hk2)
variable {t:List Nat}
noncomputable abbrev OB:M Fl:=(a8 (aT iM (getL 3) (aa (.str (OO "\"")))) (ao (fj (getL 2)) λit=>b4 bi 3 QB 1000 it) (aw (a8 (aT iM (getL 3) (aa (.str (OO "\\")))) (af 3 (c9 123 "_read_char" (getL 0) am aE)) (aa .next))
 (aw (ol 1 mz (getL 3))
 (ao (fj (getL 2)) λit=>b4 bi 3 Nc 1000 it))))
noncomputable abbrev OL:M Fl:=aw (a8 (aT iA (getL 3) (cE 123 "whitespace" (getL 0))) (aa .cont) (aa .next)) OB
theorem D1{t f:Nat}{Q:Fl->St->Prop}{x3:Option V}(ht:t∈qO)(h:LC I σ n (t::T) it kb)
  (q:∀σ' x3',LC I σ' (n+m9 t) T it kb->Kp I σ σ'->W (b4 bi 3 OL f (.call it)) ⟨σ',Lt I it [] x3'⟩ Q) :
  W (b4 bi 3 OL (f+1) (.call it)) ⟨σ,Lt I it [] x3⟩ Q:=by
 refine iE (C0 (c:=t) h λσ' hc hk=>xS (qz (Ef σ' _ _ t [] _ hc ?_)))
 exact Ol (decide_eq_true ht) (xB (xP (xP (q σ' _ hc hk))))
theorem xR{L:List (Option V)}{Q:It->St->Prop}(h:LC I σ n T it kb)(hL:L[2]?=some (some (.ref it)))(q:Q (.call it) ⟨σ,L⟩):W (fj (getL 2)) ⟨σ,L⟩ Q :=
 xB (xG hL (eK h.it (xP q)))
theorem sD{c f:Nat}{Q:Fl->St->Prop}{x3:Option V}(hc:c∉qO)(h:LC I σ n (c::T) it kb)
  (q:∀σ',LC I σ' n T it kb->Kp I σ σ'->W OB ⟨σ',Lt I it [] (some (sx [c]))⟩ λfl st3=>match fl with
   | .next=>W (b4 bi 3 OL f (.call it)) st3 Q
   | .cont=>W (b4 bi 3 OL f (.call it)) st3 Q
   | .brk=>Q .next st3
   | .ret x=>Q (.ret x) st3):W (b4 bi 3 OL (f+1) (.call it)) ⟨σ,Lt I it [] x3⟩ Q:=by
 refine iE (C0 (c:=c) h λσ' hx hk=>xS (qz (Ef σ' _ _ c [] _ hx ?_)))
 rw[po λe=>hc (by subst e;decide),Re]at hx
 exact Oj (decide_eq_false hc) (A4 (q σ' hx hk))
theorem Dp{e:Nat->Bool}{w:List Nat}{f:Nat}{Q:Fl->St->Prop}{x3:Option V}(hl:w.length<=900)(hw:∀c∈w,c≠10/\(e c=false->c≠92/\c≠34))(h:LC I σ n (34::(eE e w++34::T)) it kb)
  (q:∀σ' x3',LC I σ' n T it kb->Kp I σ σ'->Q (.ret (sx w)) ⟨σ',Lt I it w x3'⟩):W (b4 bi 3 OL (f+1) (.call it)) ⟨σ,Lt I it [] x3⟩ Q:=by
 refine sD (by decide) h λσ1 hc hk=>?_
 refine jN (cU (xG rfl (xK FA (qw (gW (vv (xB (xR hc rfl ?_))))))))
 exact JZ (e:=e) (Pr hl (by decide)) (by show 0+_<=_;lia) hw hc λσ2 x2 hc2 hk2=>q σ2 x2 hc2 (hk.trans hk2)
theorem E7{e:Nat->Bool}{c:Nat}{r:List Nat}{f:Nat}{Q:Fl->St->Prop}{x3:Option V}(hw:c≠10/\(e c=false->c≠92/\c∉qO/\c≠34))(h:LC I σ n (eE e (c::r)++T) it kb)
  (q:∀σ' x3',LC I σ' n (eE e r++T) it kb->Kp I σ σ'->W (b4 bi 3 Nc 1000 (.call it)) ⟨σ',Lt I it [c] x3'⟩ λfl st3=>match fl with
   | .next=>W (b4 bi 3 OL f (.call it)) st3 Q
   | .cont=>W (b4 bi 3 OL f (.call it)) st3 Q
   | .brk=>Q .next st3
   | .ret x=>Q (.ret x) st3):W (b4 bi 3 OL (f+1) (.call it)) ⟨σ,Lt I it [] x3⟩ Q:=by
 obtain⟨h10,hne⟩:=hw
 by_cases he:e c=true
 ·have e1:eE e (c::r)++T=92::c::(eE e r++T):=by
   show(if e c=true then [92,c]else [c])++eE e r++T=_
   rw[if_pos he];rfl
  rw[e1]at h
  refine sD (by decide) h λσ1 hc hk=>?_
  refine jN (cU (xG rfl (xK FA (qw (gW (oJ (ri (tok := []) hc λσ2 hc2 hk2=>?_)))))))
  rw[po h10,Re]at hc2
  exact r5 (xh (by decide) ⟨rfl,xB (xR hc2 rfl (q σ2 _ hc2 (hk.trans hk2)))⟩)
 ·obtain⟨h92,hws,h34⟩:=hne (P4.mpr he)
  have e1:eE e (c::r)++T=c::(eE e r++T):=by
   show(if e c=true then [92,c]else [c])++eE e r++T=_
   rw[if_neg he];rfl
  rw[e1]at h
  refine sD hws h λσ1 hc hk=>?_
  refine jN (cU (xG rfl (xK FA (qw (gW ?_)))))
  rw[E9,beq_eq_false_iff_ne.mpr h34]
  exact oJ (ur (tok := []) h92 (r5 (xh (by decide) ⟨rfl,xB (xR hc rfl (q σ1 _ hc hk))⟩)))
theorem Bm{C:Addr}{F:List V->M V}{xs:List V}{Q:V->St->Prop}(h:W (F (.ref (σ.length+1)::xs)) ⟨σ++[O.attrs [],O.inst C σ.length],L⟩ λx st'=>x=.none/\Q (.ref (σ.length+1)) st'):W (Af C F xs) ⟨σ,L⟩ Q:=by
 obtain⟨x,st',e,rfl,q⟩:=h
 refine⟨_,st',?_,q⟩
 unfold Af
 dsimp only
 rw[OY]
 rw[show F (.ref (σ.length+1)::xs) ⟨σ++([O.attrs []]++[O.inst C σ.length]),L⟩=_ from e]
 rfl
theorem iF{C:Addr}{nm:Str}{mv mo:M V}{Q:Fl->St->Prop}(h:W mv st λv st1=>W mo st1 λx st2=>∃k d fs,x=.ref k/\st2.σ[k]?=some (O.inst C d)/\st2.σ[d]?=some (O.attrs fs)/\fs.length<=100/\Q .next ⟨st2.σ.set d (O.attrs (nB nm v fs)),st2.L⟩):W (gb C nm mv mo) st Q:=by
 exact xB (h.mono λv st1 h=>xB (h.mono λx st2 w9=>by obtain⟨k,d,fs,rfl,h1,h2,h3,q⟩:=w9;exact g7 h1 h2 (cM h3 ⟨_,_,rfl,q⟩)))
theorem KP(v:V)(pb:Nat):nB (OO "pushback") (.ref pb) (nB (OO "whitespace") (sx qO) (nB (OO "instream") v (nB (OO "lineno") (.int 1) [])))=[(OO "lineno",.int 1),(OO "instream",v),(OO "whitespace",sx qO),(OO "pushback",.ref pb)]:=by kernel_rfl
theorem Cu{o d:Nat}{v:V}{Q:V->St->Prop}(ho:σ[o]?=some (O.inst 123 d))(hd:σ[d]?=some (O.attrs []))
  (q:Q .none ⟨(σ++[O.list []]).set d (O.attrs [(OO "lineno",.int 1),(OO "instream",v),(OO "whitespace",sx qO),(OO "pushback",.ref σ.length)]),L⟩):W (cA [.ref o,v]) ⟨σ,L⟩ Q:=by
 refine qx (mb:=cG) (L₀ := [some (.ref o),some v]) rfl ?_
 unfold cG
 have hl:=(OW.mp hd).1
 have g1:∀{x:O},(σ.set d x)[o]?=some (O.inst 123 d):=λ{x}=>(aH (cq ho hd (by simp)).symm).trans ho
 refine r5 (iF (xP (xG rfl ⟨_,_,_,rfl,ho,hd,PQ _,rfl,?_⟩)))
 refine r5 (iF (xG rfl (xG rfl ⟨_,_,_,rfl,g1,b5 hl,Sk (by kernel_rfl),rfl,?_⟩)))
 rw[SG]
 refine r5 (iF (xK (l:=qO) Nu (xG rfl ⟨_,_,_,rfl,g1,b5 hl,Sk (by kernel_rfl),rfl,?_⟩)))
 rw[SG]
 refine iF (cS (aJ ⟨PQ _,xG rfl ⟨_,_,_,rfl,ad g1,ad (b5 hl),Sk (by kernel_rfl),?_⟩⟩))
 rw[<- List.set_append_left _ _ hl,SG,Su,KP]
 exact q
theorem Do(x:V)(a b c d:V):(nB (OO "read") x [(OO "lineno",a),(OO "instream",b),(OO "whitespace",c),(OO "pushback",d)]).lookup (OO "read")=some x:=by kernel_rfl
theorem xW{k:Nat}{Q:V->St->Prop}(hk:σ[k]?=some (O.list (T.map λc=>sx [c])))(tl:T.length<=100000)(ok:∀c∈T,P3 (.str (tx [c]))=true)
  (q:∀I σ',Lx I σ' 1 T []->I.sg=k->σ.length<=I.lx->σ.length<=I.d->σ.length<=I.d2->σ.length<=I.pb->(∀i,i<σ.length->σ'[i]?=σ[i]?)->σ.length<=σ'.length->Q (.ref I.lx) ⟨σ',L⟩):W (eW [.ref k]) ⟨σ,L⟩ Q:=by
 refine qx (mb:=gB) (L₀ := [some (.ref k),none,none]) rfl ?_
 unfold gB
 have hkl:=(OW.mp hk).1
 let A1:List (Str×V) := [(OO "lineno",.int 1),(OO "instream",.none),(OO "whitespace",sx qO),(OO "pushback",.ref (σ.length+2))]
 have ig:∀{g:List O}(j:Nat){o:O},g[j]?=some o->(σ++g)[σ.length+j]?=some o:=λ{g} j {o} e=>by rw[Pi (PT _ _),Qs];exact e
 have i0:∀{r:List O}{x:O},(σ++x::r)[σ.length]?=some x:=λ{r x}=>ig 0 rfl
 have i1:∀{r:List O}{x y:O},(σ++x::y::r)[σ.length+1]?=some y:=λ{r x y}=>ig 1 rfl
 have i2:∀{r:List O}{x y z:O},(σ++x::y::z::r)[σ.length+2]?=some z:=λ{r x y z}=>ig 2 rfl
 have st0:∀{r:List O}{x y:O},(σ++x::r).set σ.length y=σ++y::r:=λ{r x y}=>by rw[QC _ _ (O8 _),Tb];rfl
 refine M9 (st2:=⟨σ++[O.attrs A1,O.inst 123 σ.length,O.list []],[some (.ref k),some (.ref (σ.length+1)),none]⟩) ?_ ?_
 ·refine xA (fz (ak (xP (aJ (Bm (Cu (d:=σ.length) i1 i0 ⟨rfl,⟨rfl,?_⟩⟩))))))
  rw[OY]
  show St.mk ((σ++_::_).set _ _) _=_
  rw[st0]
  simp[A1]
 refine M9 (st2:=⟨σ++[O.attrs A1,O.inst 123 σ.length,O.list [sx [35]]],[some (.ref k),some (.ref (σ.length+1)),none]⟩) ?_ ?_
 ·refine EJ (si (xG rfl ⟨σ.length+1,σ.length,A1,rfl,i1,i0,by kernel_rfl,xK Nt ?_⟩))
  show W (kV 2 bh [_,_]) _ _
  refine qx (mb:=bh) (L₀ := [some (.ref (σ.length+1)),some (sx [35])]) rfl ?_
  unfold bh
  refine EJ (dA (d9 (xG rfl ⟨σ.length+1,σ.length,A1,.ref (σ.length+2),rfl,i1,i0,by kernel_rfl,rfl,xU i2,ak (xG rfl (aJ (gH (xs := []) i2 (by decide) ⟨rfl,?_⟩)))⟩)))
  show St.mk ((σ++_).set _ _) _=_
  rw[QC _ _ (PT _ _),Qs]
  rfl
 let σ3:List O:=σ++[O.attrs A1,O.inst 123 σ.length,O.list [sx [35]],O.cell (.ref k),O.clo aZ.params (.stmts aZ.body) aZ.scope aZ.qual [(OO "signs",σ.length+3)]]
 have s3:W (rm 0 2 aZ.params (.stmts aZ.body) aZ.scope aZ.qual "signs") ⟨σ++[O.attrs A1,O.inst 123 σ.length,O.list [sx [35]]],[some (.ref k),some (.ref (σ.length+1)),none]⟩ λu st'=>st'=⟨σ3,[some (.ref k),some (.ref (σ.length+1)),some (.ref (σ.length+4))]⟩:=by
  refine⟨(),_,rfl,?_⟩
  simp[σ3]
 refine xB (s3.mono λf st' e2=>?_)
 subst e2
 let A2:=nB (OO "read") (.ref (σ.length+4)) A1
 let I:LI:=⟨σ.length+6,σ.length+5,σ.length+1,σ.length,σ.length+4,σ.length+3,k,σ.length+7⟩
 let g:List O := [O.attrs A2,O.inst 123 σ.length,O.list [sx [35]],O.cell (.ref k),O.clo aZ.params (.stmts aZ.body) aZ.scope aZ.qual [(OO "signs",σ.length+3)],O.attrs (AF 1 (σ.length+1) (σ.length+7)),O.inst 123 (σ.length+5),O.list []]
 refine r5 (iF (xG rfl (xG rfl ⟨σ.length+1,σ.length,A1,rfl,i1,i0,(by decide:4<=100),rfl,?_⟩)))
 show W _ ⟨(σ++_::_).set _ _,_⟩ _
 rw[st0]
 have l5:(σ++[O.attrs A2,O.inst 123 σ.length,O.list [sx [35]],O.cell (.ref k),O.clo aZ.params (.stmts aZ.body) aZ.scope aZ.qual [(OO "signs",σ.length+3)]]).length=σ.length+5:=by rw[O2];rfl
 refine gq (fz (ak (xG rfl (aJ (Bm (Cu (d:=σ.length+5) ?_ ?_ ⟨rfl,?_⟩))))))<;>rw[l5]
 ·rw[OY];exact ig 6 rfl
 ·rw[OY];exact ig 5 rfl
 have hx:Lx I (σ++g) 1 T [] :=
  ⟨ig 6 rfl,ig 5 rfl,ig 1 rfl,⟨A2,i0,Do ..⟩,ig 4 rfl,ig 3 rfl,ad hk,ig 7 rfl,(Pg (O0 hkl (PT _ _))).symm,(Pg (RT (by decide))).symm,tl,PQ _,ok⟩
 have:=q I _ hx rfl (PT _ _) (PT _ _) (O8 _) (PT _ _) (λi hi=>O7 hi) (by rw[O2];exact PT _ _)
 have e:((σ++[O.attrs A2,O.inst 123 σ.length,O.list [sx [35]],O.cell (.ref k),O.clo aZ.params (.stmts aZ.body) aZ.scope aZ.qual [(OO "signs",σ.length+3)]]++[O.attrs [],O.inst 123 (σ.length+5)]++[O.list []]).set (σ.length+5) (O.attrs [(OO "lineno",.int 1),(OO "instream",.ref (σ.length+1)),(OO "whitespace",sx qO),(OO "pushback",.ref (σ++[O.attrs A2,O.inst 123 σ.length,O.list [sx [35]],O.cell (.ref k),O.clo aZ.params (.stmts aZ.body) aZ.scope aZ.qual [(OO "signs",σ.length+3)]]++[O.attrs [],O.inst 123 (σ.length+5)]).length)]))=σ++g:=by
  rw[O2,l5,OY,OY,QC _ _ (PT _ _),Qs];rfl
 show Q _ ⟨_,L⟩
 rw[e]
 exact this
theorem ye(f:Nat):∀l:List (List Nat),(l.map sx).mapM (bF f σ)=some (l.map λc=>QF (tx c))
 | []=>rfl
 | c::l=>by
  rw[Ps,Qn,ye f l]
  have:bF f σ (sx c)=some (.str (tx c)):=by cases f<;>rfl
  rw[this];rfl
noncomputable abbrev Nf(l:List (List Nat)):Prop:=∀t∈l,∀d∈t,d<0x110000
theorem q8:∀{l:List (List Nat)},Nf l->PV (l.map λc=>QF (tx c))=true
 | [],_=>by simp[PV]
 | c::l,h=>by
  rw[Ps,PV,qZ (h c (Pe ..)),q8 λc hc=>h c (Pa _ hc)];rfl
theorem tQ:∀(l:List (List Nat)),P8 (l.map λc=>QF (tx c))=0
 | []=>by simp[P8]
 | c::l=>by rw[Ps,P8,tQ l];simp[Rc]
theorem BU:∀(l:List (List Nat)),Qb (l.map λc=>QF (tx c)) (l.map λc=>QF (tx c))=true
 | []=>by simp[Qb]
 | x::a=>by
  rw[Ps,Qb,BU a]
  simp[QD]
theorem yc(f:Nat):∀l:List Nat,(iL l).mapM (bF f σ)=some (l.map λ(c:Nat)=>Qp c)
 | []=>rfl
 | c::l=>by
  show(V.int c::iL l).mapM _=_
  rw[Qn,yc f l]
  have:bF f σ (.int c)=some (.int c):=by cases f<;>rfl
  rw[this];rfl
theorem sA{k:Nat}{l:List Nat}(h:σ[k]?=some (.list (iL l))):bF mc σ (.ref k)=some (.list (l.map λ(c:Nat)=>Qp c)):=by
 show((gm σ[k]?).bind λxs=>(xs.mapM (bF 7 σ)).map SW)=_
 rw[h]
 show Q3 _ (Tp _ _)=_
 rw[yc]
 rfl
theorem nE(l:List Nat):Q1 (.list (l.map λ(c:Nat)=>Qp c))=true:=by
 have h1:PV (l.map λ(c:Nat)=>Qp c)=true:=by
  induction l with
  | nil=>simp[PV]
  | cons a r ih=>rw[Ps,PV,ih];simp[P3]
 have h2:P8 (l.map λ(c:Nat)=>Qp c)=0:=by
  induction l with
  | nil=>simp[P8]
  | cons a r ih=>rw[Ps,P8,ih (by rw[Ps,PV,PD]at h1;exact h1.2)];simp[Rc]
 simp only[Q1,P3,Rc,h1,h2]
 decide
theorem BR:∀(l:List Nat),Qb (l.map λ(c:Nat)=>Qp c) (l.map λ(c:Nat)=>Qp c)=true
 | []=>by simp[Qb]
 | x::a=>by
  rw[Ps,Qb,BR a]
  simp[QD]
theorem Bl{i j:Nat}{l:List Nat}{Q:V->St->Prop}(hi:st.σ[i]?=some (.list (iL l)))(hj:st.σ[j]?=some (.list (iL l)))(q:Q (.bool false) st):W (tA (.ref i) (.ref j)) st Q:=by
 refine⟨_,_,?_,q⟩
 have:IY st.σ (.ref i) (.ref j)=some true:=by
  show EF _ _ _=_
  unfold EF
  rw[sA hi,sA hj]
  exact(if_pos ⟨nE l,nE l⟩).trans (by rw[QD,BR])
 unfold tA
 rw[this];rfl
theorem HH{Inv:Nat->St->Prop}{i:Nat}{body:M Fl}{N:Nat}(step:∀j st,j<N->Inv j st->W (setL i (.int j)) st λu st2=>W body st2 λfl st3=>fl=.next/\Inv (j+1) st3) :
  ∀(l fuel x:Nat)(st:St),x+l=N->l<fuel->Inv x st->W (b4 d4 i body fuel (.range x l 1)) st λf st'=>f=.next/\Inv N st'
 | _,0,_,_,_,h,_=>absurd h (Pm _)
 | 0,f+1,x,st,e,_,h=>by
  refine iE ?_
  have:lS d4 (.range x (0:Nat) 1) st=some (none,st):=rfl
  refine⟨_,_,this,rfl,?_⟩
  rw[<- e];exact h
 | l+1,f+1,x,st,e,hf,h=>by
  refine iE ?_
  have:lS d4 (.range x (l+1:Nat) 1) st=some (some (.int x,.range (x+1) ((l+1:Nat) - 1) 1),st):=by
   unfold lS
   simp only
   rw[if_pos (by lia)];rfl
  refine⟨_,_,this,?_⟩
  simp only
  refine(step x st (by lia) h).mono λu st2 w=>w.mono λfl st3 w9=>?_
  obtain⟨rfl,h1⟩:=w9
  have:=HH step l f (x+1) st3 (by lia) (by lia) h1
  simp only
  rw[show((x:Int)+1)=((x+1:Nat):Int) by lia,show(((l+1:Nat):Int) - 1)=((l:Nat):Int) by lia]
  exact this
theorem HF{Inv:Nat->St->Prop}{i k:Nat}{body:M Fl}{xs:List V}(step:∀j x st,xs[j]?=some x->Inv j st->W (setL i x) st λu st2=>W body st2 λfl st3=>fl=.next/\Inv (j+1) st3)(keep:∀j st,Inv j st->st.σ[k]?=some (.list xs)) :
  ∀(l fuel x:Nat)(st:St),x+l=xs.length->l<fuel->Inv x st->W (b4 d4 i body fuel (.list k x)) st λf st'=>f=.next/\Inv xs.length st'
 | _,0,_,_,_,h,_=>absurd h (Pm _)
 | 0,f+1,x,st,e,_,h=>by
  refine iE ?_
  have:lS d4 (.list k x) st=some (none,st):=by
   have hn:xs[x]?=none:=P6 (by lia)
   rw[KM (keep x st h),hn];rfl
  refine⟨_,_,this,rfl,?_⟩
  rw[<- e];exact h
 | l+1,f+1,x,st,e,hf,h=>by
  refine iE ?_
  have hx:xs[x]?=some xs[x]:=Pf (by lia)
  have:lS d4 (.list k x) st=some (some (xs[x],.list k (x+1)),st):=by
   rw[KM (keep x st h),hx];rfl
  refine⟨_,_,this,?_⟩
  simp only
  refine(step x _ st hx h).mono λu st2 w=>w.mono λfl st3 w9=>?_
  obtain⟨rfl,h1⟩:=w9
  exact HF step keep l f (x+1) st3 (by lia) (by lia) h1
theorem Kp.list{I:LI}{k:Nat}{xs:List V}{d:List (Str×V)}(hk:Kp I σ σ')(hd:σ[I.d]?=some (.attrs d))(a:k≠I.sg)(b:k≠I.pb)(h:σ[k]?=some (.list xs)):σ'[k]?=some (.list xs):=hk.get (cq h hd (by simp)) a b h
theorem HX{k fuel:Nat}{mi:M It}{e:M V}{vs:List V}{its:Nat->It}{Inv:Nat->List V->List O->Prop}{Q:V->St->Prop}(hk:L.length=k)(hn:vs.length<=900)(hf:fuel=1000)
  (hm:W mi ⟨σ,L⟩ λit st'=>it=its 0/\st'.L=L/\Inv 0 [] st'.σ)
  (nx:∀j acc σ L',j<=vs.length->Inv j acc σ->lS d4 (its j) ⟨σ,L'⟩=some ((vs[j]?).map λx=>(x,its (j+1)),⟨σ,L'⟩))
  (step:∀j x acc σ,vs[j]?=some x->Inv j acc σ->W e ⟨σ,L++[some x]⟩ λv st'=>st'.L=L++[some x]/\Inv (j+1) (acc++[v]) st'.σ)
  (h:∀acc σ',Inv vs.length acc σ'->Q (.ref σ'.length) ⟨σ'++[.list acc],L⟩):W (dY k mi (aa true) e fuel) ⟨σ,L⟩ Q :=
 Ot hk (hf▸Pr hn (by decide)) (hf▸by decide) hm nx (λj x acc σ hx hi=>xP ⟨rfl,step j x acc σ hx hi⟩) h
theorem Jq{k b:Nat}{ms:M (List V)}{e:M V}{Inv:Nat->List V->List O->Prop}{Q:V->St->Prop}(hk:L.length=k)(hb:b<=900)
  (hm:W ms ⟨σ,L⟩ λxs st'=>xs=[.int b]/\st'.L=L/\Inv 0 [] st'.σ)
  (step:∀j acc σ,j<b->Inv j acc σ->W e ⟨σ,L++[some (.int j)]⟩ λv st'=>st'.L=L++[some (.int j)]/\Inv (j+1) (acc++[v]) st'.σ)
  (h:∀acc σ',Inv b acc σ'->Q (.ref σ'.length) ⟨σ'++[.list acc],L⟩):W (dY k (bq ms) (aa true) e 1000) ⟨σ,L⟩ Q:=by
 have hlen:((OP b).map λ(j:Nat)=>V.int (j:Int)).length=b:=by simp
 refine HX (vs:=(OP b).map λ(j:Nat)=>V.int (j:Int)) (its:=λj=>.range j ((b - j:Nat):Int) 1) (Inv:=Inv) hk (by rw[hlen];exact hb) rfl (jU (hm.mono λxs st' w=>⟨w.1,rfl,w.2⟩) (by lia)) (λj acc σ L' hj u=>uu (by rw[hlen]at hj;exact hj)) (λj x acc σ hx hi=>?_) λacc σ' hi=>h acc σ' (by rw[hlen]at hi;exact hi)
 have hj:j<b:=by have:=(OW.mp hx).1;rw[hlen]at this;exact this
 have:x=.int j:=by simp[hj]at hx;exact hx.symm
 subst this
 exact step j acc σ hj hi
theorem Jp{k kl:Nat}{m:M V}{e:M V}{vs:List V}{Inv:Nat->List V->List O->Prop}{Q:V->St->Prop}(hk:L.length=k)(hn:vs.length<=900)
  (hm:W m ⟨σ,L⟩ λx st'=>x=.ref kl/\st'.L=L/\Inv 0 [] st'.σ) (keep:∀j acc σ,Inv j acc σ->σ[kl]?=some (.list vs))
  (step:∀j x acc σ,vs[j]?=some x->Inv j acc σ->W e ⟨σ,L++[some x]⟩ λv st'=>st'.L=L++[some x]/\Inv (j+1) (acc++[v]) st'.σ)
  (h:∀acc σ',Inv vs.length acc σ'->Q (.ref σ'.length) ⟨σ'++[.list acc],L⟩):W (dY k (fj m) (aa true) e 1000) ⟨σ,L⟩ Q :=
 HX (vs:=vs) (its:=λj=>.list kl j) (Inv:=Inv) hk hn rfl (o5 (xs:=vs) (hm.mono λx st' w=>⟨w.1,keep _ _ _ w.2.2,rfl,w.2⟩)) (λj acc σ L' u hi=>KM (keep _ _ _ hi)) step h
theorem sm{γ:Type}(F:γ->St)(I:Nat->γ->Prop){i k fuel:Nat}{body:M Fl}{xs:List V}(keep:∀j u,I j u->(F u).σ[k]?=some (.list xs))
  (step:∀j x u,xs[j]?=some x->I j u->∀Q:Fl->St->Prop,(∀v,I (j+1) v->Q .next (F v))->W body ⟨(F u).σ,(F u).L.set i (some x)⟩ Q) (hf:xs.length<fuel) {u:γ} (h:I 0 u) {Q:Fl->St->Prop} (q:∀v,I xs.length v->Q .next (F v)) :
  W (b4 d4 i body fuel (.list k 0)) (F u) Q :=
 (HF (k:=k) (xs:=xs) (Inv:=λj st=>∃u,st=F u/\I j u) (λj x st hx h=>by
  obtain⟨u,rfl,h⟩:=h
  exact xS (step j x u hx h _ λv hv=>⟨rfl,v,rfl,hv⟩)) (λj st h=>by
  obtain⟨u,rfl,h⟩:=h
  exact keep j u h) xs.length fuel 0 _ (Rw _) hf ⟨u,rfl,h⟩).mono λf st' h=>by
  obtain⟨rfl,v,rfl,h⟩:=h
  exact q v h
theorem Bn{γ:Type}(F:γ->St)(I:Nat->γ->Prop){i N fuel:Nat}{body:M Fl}
  (step:∀j u,j<N->I j u->∀Q:Fl->St->Prop,(∀v,I (j+1) v->Q .next (F v))->W body ⟨(F u).σ,(F u).L.set i (some (.int j))⟩ Q) (hf:N<fuel) {u:γ} (h:I 0 u) {Q:Fl->St->Prop} (q:∀v,I N v->Q .next (F v)) :
  W (b4 d4 i body fuel (.range 0 N 1)) (F u) Q :=
 (HH (Inv:=λj st=>∃u,st=F u/\I j u) (N:=N) (λj st hj h=>by
  obtain⟨u,rfl,h⟩:=h
  exact xS (step j u hj h _ λv hv=>⟨rfl,v,rfl,hv⟩)) N fuel 0 _ (Rw _) hf ⟨u,rfl,h⟩).mono λf st' h=>by
  obtain⟨rfl,v,rfl,h⟩:=h
  exact q v h
theorem aO{k:Nat}{o:O}(h:σ[k]?=some o):k<σ.length:=(OW.mp h).1
structure Xt(σ τ:List O):Prop where
 len:σ.length<=τ.length
 at_:∀i<σ.length,τ[i]?=σ[i]?
theorem Xt.refl(σ:List O):Xt σ σ:=⟨O8 _,λu u=>rfl⟩
theorem Xt.trans{τ υ:List O}(h:Xt σ τ)(h':Xt τ υ):Xt σ υ:=⟨OZ h.len h'.len,λi hi=>(h'.at_ i (O0 hi h.len)).trans (h.at_ i hi)⟩
theorem Xt.app(g:List O):Xt σ (σ++g):=⟨by rw[O2];exact PT _ _,λu h=>O7 h⟩
theorem Xt.on{τ:List O}(h:Xt σ τ)(g:List O):Xt σ (τ++g):=⟨OZ h.len (Xt.app g).len,λi hi=>(O7 (O0 hi h.len)).trans (h.at_ i hi)⟩
theorem Xt.set{τ:List O}(h:Xt σ τ){k:Nat}(hk:σ.length<=k)(o:O):Xt σ (τ.set k o):=⟨by rw[Su];exact h.len,λi hi=>(Qr (PE (O0 hi hk))).trans (h.at_ i hi)⟩
theorem Xt.get{τ:List O}(h:Xt σ τ){i:Nat}{o:O}(e:σ[i]?=some o):τ[i]?=some o:=(h.at_ i (OW.mp e).1).trans e
theorem Xt.ex{τ:List O}(h:Xt σ τ):∃g,τ=σ++g:=iU h.at_
theorem wj(j:Nat)(f:Nat->V):(OP j).map f++[f j]=(OP (j+1)).map f:=by rw[Tf,Ri];rfl
theorem Bf{k j:Nat}{f:Nat->V}{Q:V->St->Prop}(hk:st.σ[k]?=some (.list ((OP j).map f)))(hj:j<=1000)(q:Q .none ⟨st.σ.set k (.list ((OP (j+1)).map f)),st.L⟩):W (cb [.ref k,f j]) st Q :=
 gH hk (by rw[Pc,Qg];lia) (by rw[wj];exact q)
noncomputable def w1(f:Nat->α)(k:Nat)(v:α):Nat->α:=λj=>if j=k then v else f j
theorem kz(f:Nat->α)(k:Nat)(v:α):w1 f k v k=v:=if_pos rfl
theorem nK{f:Nat->α}{k j:Nat}{v:α}(h:j≠k):w1 f k v j=f j:=if_neg h
theorem jy{p:Nat->α->Prop}{f:Nat->α}{j:Nat}{v:α}(h:∀k<j,p k (f k))(hv:p j v):∀k<j+1,p k (w1 f j v k):=λk hk=>by
 by_cases e:k=j
 ·subst e;rw[kz];exact hv
 ·rw[nK e];exact h k (SN (Q0 hk) e)
theorem En{p:α->α->Prop}{f:Nat->α}{j:Nat}{v:α}(h:∀i k,i<k->k<j->p (f i) (f k))(hv:∀i<j,p (f i) v):∀i k,i<k->k<j+1->p (w1 f j v i) (w1 f j v k):=λi k hik hk=>by
 rw[nK (Pg (O0 hik (Q0 hk)))]
 by_cases e:k=j
 ·subst e;rw[kz];exact hv i hik
 ·rw[nK e];exact h i k hik (SN (Q0 hk) e)
theorem sL{j:Nat}(f:Nat->α)(v:α)(c:α->V):(OP j).map (λk=>c (f k))++[c v]=(OP (j+1)).map λk=>c (w1 f j v k):=by
 rw[Tf,Ri,List.map_singleton,kz]
 congr 1
 exact PX λk hk=>by rw[nK (Pg (O5.mp hk))]
structure oj(σ:List O)(j:Nat)(t:Nat->Nat)(f:Nat->List V):Prop where
 at_:∀k<j,σ[t k]?=some (.list (f k))
theorem oj.app{j:Nat}{t:Nat->Nat}{f:Nat->List V}(h:oj σ j t f)(g:List O):oj (σ++g) j t f:=⟨λk hk=>ad (h.at_ k hk)⟩
theorem oj.snoc{j a:Nat}{t:Nat->Nat}{f:Nat->List V}(h:oj σ j t f)(ha:σ[a]?=some (.list (f j))):oj σ (j+1) (w1 t j a) f:=⟨jy (p:=λ(k a:Nat)=>σ[a]?=some (O.list (f k))) h.at_ ha⟩
theorem mA{α β:Type}[BEq α][LawfulBEq α][BEq β][LawfulBEq β]{f:α->β}{x:α}:∀{l:List α},(∀y∈l,f y=f x->y=x)->(l.map f).idxOf (f x)=l.idxOf x
 | [],_=>rfl
 | a::l,h=>by
  rw[Ps,QV,QV,mA λy hy=>h y (Pa _ hy)]
  by_cases e:a=x
  ·subst e;rw[beq_self_eq_true,beq_self_eq_true]
  ·rw[beq_eq_false_iff_ne.mpr e,beq_eq_false_iff_ne.mpr λq=>e (h a (Pe ..) q)]
theorem oj.zero{t:Nat->Nat}{f:Nat->List V}:oj σ 0 t f:=⟨λk hk=>absurd hk (Pm _)⟩
theorem vO{p:Nat->Prop}{i:Nat}(hi:i<4)(h0:p 0)(h1:p 1)(h2:p 2)(h3:p 3):p i:=LG h0 h1 h2 h3 i hi
theorem NK{k kl n:Nat}{m e:M V}{f:Nat->V}{c:α->V}{P:Nat->(Nat->α)->List O->Prop}{Q:V->St->Prop}(hk:L.length=k)(hn:n<=900)(hm:W m ⟨σ,L⟩ λx st'=>x=.ref kl/\∃g,st'=⟨σ++g,L⟩/\(σ++g)[kl]?=some (.list ((OP n).map f)))
  (t0:Nat->α) (h0:∀τ,P 0 t0 τ) (he:∀j,j<n->∀t τ,Xt σ τ->P j t τ->∀Q:V->St->Prop,(∀τ' a,Xt τ τ'->P (j+1) (w1 t j a) τ'->Q (c a) ⟨τ',L++[some (f j)]⟩)->W e ⟨τ,L++[some (f j)]⟩ Q)
  (q:∀g t,P n t (σ++g)->Q (.ref (σ++g).length) ⟨σ++g++[.list ((OP n).map λk=>c (t k))],L⟩):W (dY k (fj m) (aa true) e 1000) ⟨σ,L⟩ Q:=by
 have hlen:((OP n).map f).length=n:=by rw[Pc,Qg]
 refine Jp (kl:=kl) (vs:=(OP n).map f) (Inv:=λj acc τ=>∃t,Xt σ τ/\τ[kl]?=some (.list ((OP n).map f))/\acc=(OP j).map (λk=>c (t k))/\P j t τ) hk (by rw[hlen];exact hn) (hm.mono λx st' h=>by
  obtain⟨rfl,g,rfl,e⟩:=h
  exact⟨rfl,rfl,t0,Xt.app g,e,rfl,h0 _⟩) (λj acc τ h=>by
  obtain⟨t,_,e,_⟩:=h
  exact e) (λj x acc τ hx h=>?_) λacc τ h=>?_
 ·obtain⟨t,x,e,rfl,p⟩:=h
  have hj:j<n:=by have:=(OW.mp hx).1;rwa [hlen]at this
  rw[Pn,QR hj]at hx
  obtain rfl:=sj hx
  exact he j hj t τ x p _ λτ' a x' p'=>⟨rfl,_,x.trans x',x'.get e,sL t a c,p'⟩
 ·obtain⟨t,x,_,rfl,p⟩:=h
  rw[hlen]at p ⊢
  obtain⟨g,rfl⟩:=x.ex
  exact q g t p
theorem NL{k n:Nat}{ms:M (List V)}{e:M V}{c:α->V}{P:Nat->(Nat->α)->List O->Prop}{Q:V->St->Prop}(hk:L.length=k)(hn:n<=900)(hm:W ms ⟨σ,L⟩ λxs st'=>xs=[.int n]/\st'=⟨σ,L⟩)
  (t0:Nat->α) (h0:∀τ,P 0 t0 τ) (he:∀j,j<n->∀t τ,Xt σ τ->P j t τ->∀Q:V->St->Prop,(∀τ' a,Xt τ τ'->P (j+1) (w1 t j a) τ'->Q (c a) ⟨τ',L++[some (.int j)]⟩)->W e ⟨τ,L++[some (.int j)]⟩ Q)
  (q:∀g t,P n t (σ++g)->Q (.ref (σ++g).length) ⟨σ++g++[.list ((OP n).map λk=>c (t k))],L⟩):W (dY k (bq ms) (aa true) e 1000) ⟨σ,L⟩ Q:=by
 refine Jq (b:=n) (Inv:=λj acc τ=>∃t,Xt σ τ/\acc=(OP j).map (λk=>c (t k))/\P j t τ) hk hn (hm.mono λx st' h=>by
  obtain⟨rfl,rfl⟩:=h
  exact⟨rfl,rfl,t0,Xt.refl σ,rfl,h0 _⟩) (λj acc τ hj h=>?_) λacc τ h=>?_
 ·obtain⟨t,x,rfl,p⟩:=h
  exact he j hj t τ x p _ λτ' a x' p'=>⟨rfl,_,x.trans x',sL t a c,p'⟩
 ·obtain⟨t,x,rfl,p⟩:=h
  obtain⟨g,rfl⟩:=x.ex
  exact q g t p
theorem oj.xt{τ:List O}{j:Nat}{t:Nat->Nat}{f:Nat->List V}(h:oj σ j t f)(x:Xt σ τ):oj τ j t f:=⟨λk hk=>x.get (h.at_ k hk)⟩
theorem K4{L:List (Option V)}{n:Nat}(h:L.length=n)(x:Option V):(L++[x])[n]?=some x:=by rw[<- h];exact Rl
noncomputable def qM:List Nat := [172,174,846,848,6149,6151,6154,6158,8202,8206,8287,8289,65023,65040,65278,65280,34,92,35,32]
noncomputable def stay(p:Int):Nat:=qM.getD (p.fmod 20).toNat 0
theorem mO(p:Int):stay p∈qM:=O1 (bb (l:=qM) (i:=(p.fmod 20).toNat) (iN p (m:=20) (n:=20) rfl (by decide)).2)
theorem D3:∀n∈qM,n<=0x10FFFF:=by decide
theorem Kk{p:Int}{Q:V->St->Prop}(h:∀g,Q (sx [stay p]) ⟨σ++g,L⟩):W (gX [.int p]) ⟨σ,L⟩ Q:=by
 refine qx (mb:=ic) (L₀ := [some (.int p),none]) rfl ?_
 have hx:qM[(p.fmod 20).toNat]?=some (stay p):=bb (iN p (m:=20) (n:=20) rfl (by decide)).2
 have hm:=D3 _ (mO p)
 unfold ic
 refine fA (show W (aP (je ((qM.take 16).map vI))) _ _ from oY (by decide) ?_)
 refine gq (fz (ak (bw (bw (xG rfl (show W (aP (je ((qM.drop 16).map vI))) _ _ from oY (by decide) (sb (ad ar) ar (by decide) (xN (bw (xG rfl (xP (qy (n:=20) (by rfl) (by decide) (jS (xs:=qM.map vI) ar (by decide) (ph vI hx) (aJ (m0 hm ?_)))))))))))))))
 show Q _ ⟨σ++_++_++_,L⟩
 rw[OY,OY]
 exact h _
noncomputable def rz:List Nat := [65,119808,119860,119912,120016,120172,120224,120276,120328,120380,120432]
noncomputable def Fh(form c:Nat):Nat:=if form=0 then c else rz.getD (form - 1) 0+c - 97
theorem Cl:∀n∈rz,n<=120432:=by decide
theorem I7{gr c:Nat}(h:97<=c):(gr:Int)+c - 97=((gr+c - 97:Nat):Int):=by lia
theorem I8{gr c:Nat}(h:c<=122)(hg:gr<=120432):gr+c - 97<=0x10FFFF:=by omega
theorem uj{c form:Nat}{Q:V->St->Prop}(hf:form<12)(hc:97<=c/\c<=122)(h:∀g,Q (sx [Fh form c]) ⟨σ++g,L⟩):W (dB [sx [c],.int form]) ⟨σ,L⟩ Q:=by
 refine qx (mb:=f4) (L₀ := [some (sx [c]),some (.int form),none]) rfl ?_
 unfold f4
 refine fA (show W (aP (je (rz.map vI))) _ _ from oY (by decide) ?_)
 refine qz (cU (xG rfl (xP (w5 (gW ?_)))))
 cases form with
 | zero=>exact vv (KO (xG rfl (h _)))
 | succ f =>
  have hx:rz[f]?=some (rz.getD f 0):=bb (Pp hf)
  have hb:=Cl _ (O1 hx)
  have hfan:Fh (f+1) c=rz.getD f 0+c - 97:=rfl
  rw[hfan]at h
  refine oJ (A4 (gq (fz (ak (bw (bw (bw (xG rfl (bw (xG rfl (xP (zD ?_))))))))))))
  rw[show((f+1:Nat):Int) - 1=(f:Int)from Int.add_sub_cancel (f:Int) 1]
  refine jS ar (by decide) (ph vI hx) (fz (ak (xG rfl (aJ (o7.mpr (eO (xP (zD (aJ ?_)))))))))
  rw[I7 hc.1]
  exact m0 (I8 hc.2 hb) (h _)
noncomputable def ty:List (List Nat) := [[102,102],[102,105],[102,108],[102,102,105]]
noncomputable def ud:List Nat := [102,105,108,64257]
noncomputable def lq(x:Int):Nat:=((x.fdiv 3).fmod 12).toNat
noncomputable def lW(hs f m:Nat):List Nat:=if m=1 then(ty.getD hs []).map (Fh f)else if m=2 then [Fh f 102,ud.getD hs 0]else [64256+hs]
noncomputable def fy(hs:Nat)(x:Int):List Nat:=lW hs (lq x) (x.fmod 3).toNat
noncomputable def eH(hs s:Nat)(x:Int):List Nat:=if ((x.fdiv 972).fmod 2).toNat=0 then hid (x.fdiv 36)::fy hs x++[s]else fy hs x++[hid (x.fdiv 36)]++[s]
theorem sJ:∀l∈ty,(∀c∈l,97<=c/\c<=122)/\l.length<=3:=by decide
theorem kE{hs:Nat}(h:hs<4):ty[hs]?=some (ty.getD hs []):=bb h
theorem qu{hs:Nat}(h:hs<4)(x:Int):(fy hs x).length<=3:=by
 unfold fy lW
 split
 ·rw[Pc];exact(sJ _ (O1 (kE h))).2
 ·split
  ·exact(by decide:2<=3)
  ·exact(by decide:1<=3)
theorem oM(x:Int):lq x<12:=(iN _ (m:=12) (n:=12) rfl (by decide)).2
noncomputable abbrev LY(hs s:Nat)(x:Int)(x3 x4:Option V):List (Option V) := [some (.int hs),some (sx [s]),some (.int x),x3,x4]
noncomputable abbrev Hs:M Fl:=(a8 (aT iM (aj c5 (getL 2) (aa (.int 3))) (aa (.int 1))) (af 3 (bn fG (aa (.str (OO ""))) (ab (dY 5 (fj (aj aA (aP (ab (aa (.str (OO "ff"))) (ab (aa (.str (OO "fi"))) (ab (aa (.str (OO "fl"))) (ab (aa (.str (OO "ffi"))) am))))) (getL 0))) (aa true) (bz (ab (getL 5) (ab (aj c5 (aj ez (getL 2) (aa (.int 3))) (aa (.int 12))) am)) dB) 1000) am) gu)) (aa .next))
noncomputable abbrev Ht:M Fl:=(a8 (aT iM (aj c5 (getL 2) (aa (.int 3))) (aa (.int 2))) (af 3 (aj bf (bz (ab (aa (.str (OO "f"))) (ab (aj c5 (aj ez (getL 2) (aa (.int 3))) (aa (.int 12))) am)) dB) (aj aA (aP (ab (aa (.str (OO "f"))) (ab (aa (.str (OO "i"))) (ab (aa (.str (OO "l"))) (ab (bO (ab (aa (.int 64257)) am) sv) am))))) (getL 0)))) (aa .next))
noncomputable abbrev Hu:M Fl:=(aw (af 4 (bz (ab (aj ez (getL 2) (aa (.int 36))) am) fW))
 (b8 (a8 (aT iM (aj c5 (aj ez (getL 2) (aa (.int 972))) (aa (.int 2))) (aa (.int 0))) (aj bf (aj bf (getL 4) (getL 3)) (getL 1)) (aj bf (aj bf (getL 3) (getL 4)) (getL 1)))))
noncomputable def tq(hs f m:Nat)(t:List Nat):List Nat:=if m=1 then(ty.getD hs []).map (Fh f)else t
theorem Ej{hs s:Nat}{x:Int}{t:List Nat}{x4:Option V}{Q:Fl->St->Prop}(hh:hs<4)(q:∀g,Q .next ⟨σ++g,LY hs s x (some (sx (tq hs (lq x) (x.fmod 3).toNat t))) x4⟩):W Hs ⟨σ,LY hs s x (some (sx t)) x4⟩ Q:=by
 unfold tq at q
 refine jN (cU (bw (xG rfl (xP (qy (n:=3) (by rfl) (by decide) (xP (w5 (gW ?_))))))))
 rw[show((((x.fmod 3).toNat:Nat):Int)==1)=((x.fmod 3).toNat==1)from jr _ 1]
 refine EK (λe=>?_) λe=>?_
 ·rw[if_pos (beq_iff_eq.mp e)]at q
  have hm:=sJ _ (O1 (kE hh))
  have hx:=ph sx (kE hh)
  generalize ty.getD hs []=w at q hm hx
  refine xA (dA (xK tz ⟨rfl,ak (FE (l:=w) (y:=λc=>sx [Fh (lq x) c]) rfl (by omega) (by decide) (bw (cS (ak (xK Ls (ak (xK Lu (ak (xK Lv (ak (xK Lw (aJ ⟨show 4<=1000000 by decide,xG rfl (jS (xs:=ty.map sx) ar (by decide) hx ⟨rfl,_,rfl⟩)⟩))))))))))) (λc hc g=>?_) λg=>aJ ?_)⟩))
  ·exact gc (ak (xG rfl (ak (bw (bw (xG rfl (xP (mU (by decide) (by decide) (xP (qy (n:=12) (by rfl) (by decide) (aJ (uj (oM x) (hm.1 c hc) λg2=>⟨rfl,g2,rfl⟩))))))))))))
  ·refine jT (ls:=w.map λc=>[Fh (lq x) c]) (by rw[PH];exact ar) (by rw[HN,Pc];omega) ?_
   rw[HN,OY]
   exact q _
 ·rw[if_neg (beq_eq_false_iff_ne.mp e)]at q
  have q0:=q []
  rw[O4]at q0
  exact xP q0
theorem Ek{hs s:Nat}{x:Int}{t:List Nat}{x4:Option V}{Q:Fl->St->Prop}(hh:hs<4)(q:∀g,Q .next ⟨σ++g,LY hs s x (some (sx (if (x.fmod 3).toNat=2 then [Fh (lq x) 102,ud.getD hs 0]else t))) x4⟩):W Ht ⟨σ,LY hs s x (some (sx t)) x4⟩ Q:=by
 refine jN (cU (bw (xG rfl (xP (qy (n:=3) (by rfl) (by decide) (xP (w5 (gW ?_))))))))
 rw[show((((x.fmod 3).toNat:Nat):Int)==2)=((x.fmod 3).toNat==2)from jr _ 2]
 refine EK (λe=>?_) λe=>?_
 ·rw[if_pos (beq_iff_eq.mp e)]at q
  have hx:=ph (λc=>sx [c]) (bb (d:=0) (show hs<ud.length from hh))
  refine xA (bw (gc (ak (xK Ly (ak (bw (bw (xG rfl (xP (mU (by decide) (by decide) (xP (qy (n:=12) (by rfl) (by decide) (aJ (uj (oM x) (by decide) λg2=>?_))))))))))))))
  refine bw (cS (ak (xK Ly (ak (xK NE (ak (xK NF (ak (fz (ak (xP (aJ (m0 (c:=64257) (by decide) (aJ ⟨show 4<=1000000 by decide,xG rfl (jS (xs:=ud.map λc=>sx [c]) ar (by decide) hx (dX (show 2<=16777216 by decide) ?_))⟩))))))))))))))
  rw[OY]
  exact q _
 ·rw[if_neg (beq_eq_false_iff_ne.mp e)]at q
  have q0:=q []
  rw[O4]at q0
  exact xP q0
theorem El{hs s:Nat}{x:Int}{t:List Nat}{x4:Option V}{Q:Fl->St->Prop}(hl:t.length<=3)(q:∀g x4,Q (.ret (sx (if ((x.fdiv 972).fmod 2).toNat=0 then hid (x.fdiv 36)::t++[s]else t++[hid (x.fdiv 36)]++[s]))) ⟨σ++g,LY hs s x (some (sx t)) x4⟩):W Hu ⟨σ,LY hs s x (some (sx t)) x4⟩ Q:=by
 have h1:(hid (x.fdiv 36)::t).length<=4:=Qt hl
 have h2:(t++[hid (x.fdiv 36)]).length<=4:=by rw[O2];exact Qt hl
 refine fA (gc (ak (bw (xG rfl (xP (mU (by decide) (by decide) (aJ (Cp λg2=>?_))))))))
 refine gq (jN (cU (bw (bw (xG rfl (xP (mU (by decide) (by decide) (xP (qy (n:=2) (by rfl) (by decide) (xP (w5 (gW ?_))))))))))))
 rw[show(((((x.fdiv 972).fmod 2).toNat:Nat):Int)==0)=(((x.fdiv 972).fmod 2).toNat==0)from jr _ 0]
 refine EK (λe=>?_) λe=>?_
 ·rw[if_pos (beq_iff_eq.mp e)]at q
  exact bw (bw (xG rfl (xG rfl (dX (show 1+t.length<=16777216 from OZ (Qz hl 1) (by decide)) (xG rfl (dX (show(hid (x.fdiv 36)::t).length+1<=16777216 from OZ (Qt h1) (by decide)) (q _ _)))))))
 ·rw[if_neg (beq_eq_false_iff_ne.mp e)]at q
  exact bw (bw (xG rfl (xG rfl (dX (show t.length+1<=16777216 from OZ (Qt hl) (by decide)) (xG rfl (dX (show(t++[hid (x.fdiv 36)]).length+1<=16777216 from OZ (Qt h2) (by decide)) (q _ _)))))))
theorem Hv{hs s:Nat}{x:Int}{Q:V->St->Prop}(hh:hs<4)(h:∀g,Q (sx (eH hs s x)) ⟨σ++g,L⟩):W (i4 [.int hs,sx [s],.int x]) ⟨σ,L⟩ Q:=by
 refine qx (mb:=gD) (L₀:=LY hs s x none none) rfl ?_
 unfold gD
 refine fA (fz (ak (bw (xP (xG rfl (eO (aJ ?_)))))))
 refine m0 (c:=64256+hs) (OZ (Qz (Pq hh) _) (by decide)) ?_
 refine r5 (Ej hh λg1=>⟨rfl,r5 (Ek hh λg2=>⟨rfl,?_⟩)⟩)
 have et:(if (x.fmod 3).toNat=2 then [Fh (lq x) 102,ud.getD hs 0]else tq hs (lq x) (x.fmod 3).toNat [64256+hs])=fy hs x:=by
  unfold fy lW tq
  split
  ·rename_i e;rw[e];rfl
  ·rfl
 rw[et]
 refine El (qu hh x) λg3 x4=>?_
 show Q (sx (eH hs s x)) ⟨σ++g1++g2++g3,L⟩
 rw[OY,OY]
 exact h _
noncomputable def BW:List (List Nat) := [[34,92],[],[32,92]]
noncomputable def rh(way c:Nat):Bool:=way==1 || decide (c∈BW.getD way [])
noncomputable def EI:List Nat := [9,32,13]
noncomputable def Ey:List Nat := [13,9,10]
noncomputable def oE(k way:Nat)(w:List Nat):List Nat := [10,EI.getD (k%3) 0]++(if way=0 then 34::eE (rh way) w++[34]else eE (rh way) w++(Ey.drop k).take 1)
theorem I4{k way c:Nat}{x2 x3 x4:Option V}(hw:way<3):W (Ak (aT iM (getL 1) (aa (.int 1))) (Ak (aT iA (getL 5) (aj aA (aP (ab (aa (.str (OO "\"\\"))) (ab (aa (.str (OO ""))) (ab (aa (.str (OO " \\"))) am)))) (getL 1))) (aa false)))
  ⟨σ,[some (.int k),some (.int way),x2,x3,x4,some (sx [c])]⟩ λb st'=>b=rh way c/\∃g,st'=⟨σ++g,[some (.int k),some (.int way),x2,x3,x4,some (sx [c])]⟩:=by
 unfold rh
 refine Hz (cU (xG rfl (xP (w5 (gW ?_)))))
 rw[show((way:Int)==1)=(way==1)from jr way 1]
 refine EK (λh=>?_) λh=>?_<;>rw[h]
 ·exact⟨rfl,[],by rw[O4]⟩
 ·refine Hz (cU (xG rfl (bw ?_)))
  refine cS ?_
  refine ak (xK NB (ak (xK tz (ak (xK NC (aJ ?_))))))
  refine⟨show 3<=1000000 by decide,?_⟩
  refine xG rfl ?_
  refine bN (xs:=BW.map sx) (x:=sx (BW.getD way [])) ar (PM _) (by lia) (by decide) (by rw[PB,Pn,bb (show way<BW.length from hw)];rfl) ?_
  refine Bj.mpr ?_
  refine gW ?_
  refine EK (λh=>?_) λh=>?_<;>rw[h]
  ·exact⟨rfl,_,rfl⟩
  ·refine xP ?_
   exact⟨rfl,_,rfl⟩
theorem Bo{m:M V}{lo hi:M (Option Int)}{l r:List Nat}{a b:Option Int}{Q:V->St->Prop}(h:W m st λx st'=>x=sx l/\W lo st' λx st'=>x=a/\W hi st' λx st'=>x=b/\Q (sx r) st')
  (hr:(PC a b 1 l.length).length<l.length/\l.length<=1000000/\pick (PC a b 1 l.length) l=r):W (oU m lo hi) st Q:=by
 obtain⟨hl,hm,hr⟩:=hr
 refine xB (h.mono λx s1 h1=>xB (h1.2.mono λy s2 h2=>xB (h2.2.mono λz s3 w9=>?_)))
 obtain⟨e3,q⟩:=w9
 obtain rfl:=h1.1;obtain rfl:=h2.1;subst e3
 have ht:(tx l).length=l.length:=b0 l
 show W (if (PC y z 1 (tx l).length).length<(tx l).length/\(tx l).length<=1000000 then _ else _) _ _
 rw[ht]
 exact cM ⟨hl,hm⟩ (bp.mpr (by
  have:pick (PC y z 1 l.length) (tx l).cps.toList=r:=by rw[<- hr]
  rw[this];exact q))
theorem Kj:∀k:Nat,k<4->(PC (some (k:Int)) (some ((k:Int)+1)) 1 3).length<3/\(3:Nat)<=1000000/\pick (PC (some (k:Int)) (some ((k:Int)+1)) 1 3) Ey=(Ey.drop k).take 1:=by decide+kernel
theorem L5{k way:Nat}{w:List Nat}{Q:V->St->Prop}(hk:k<4)(hw:way<3)(hl:w.length<=900)(h:∀g,Q (sx (oE k way w)) ⟨σ++g,L⟩):W (lE [.int k,.int way,sx w]) ⟨σ,L⟩ Q:=by
 refine qx (mb:=jn) (L₀ := [some (.int k),some (.int way),some (sx w),none,none]) rfl ?_
 unfold jn
 have hel:=pD (rh way) w
 have hel:(eE (rh way) w).length<=1800:=OZ hel (RC 2 hl)
 have ha:EI[k%3]?=some (EI.getD (k%3) 0):=bb (show k%3<3 from SQ _ (by decide))
 have f3:(k:Int).fmod 3=((k%3:Nat):Int):=mm k 3
 refine fA (dA (xK tz ?_))
 refine⟨rfl,?_⟩
 refine ak ?_
 refine FE (y:=λc=>sx (if rh way c=true then [92,c]else [c])) rfl (Pr hl (by decide)) (by decide) (xG rfl ⟨rfl,[],by rw[O4]⟩) (λc u g=>?_) λg=>?_
 ·refine jN ((I4 hw).mono λb st' q=>?_)
  obtain⟨e1,g2,e2⟩:=q
  rw[e2,e1]
  refine EK (λe=>?_) λe=>?_<;>rw[e]
  ·refine bw (xK NH (xG rfl ?_))
   exact dX (show 2<=_ by decide) ⟨rfl,g2,rfl⟩
  ·refine xG rfl ?_
   exact⟨rfl,g2,rfl⟩
 refine aJ ?_
 refine jT (ls:=w.map λc=>if rh way c=true then [92,c]else [c]) (by rw[PH];exact ar) ?_ ?_
 ·rw[nn];exact OZ hel (by decide)
 rw[nn]
 refine fA (bw (xK z7 (bw (xK Nr (bw (xG rfl (xP (ik (by decide) ?_))))))))
 rw[f3]
 refine Bk (by decide) ha ?_
 refine dX (show 2<=_ by decide) ?_
 skip
 refine qz ?_
 refine cU (xG rfl (xP (w5 (gW ?_))))
 rw[show((way:Int)==0)=(way==0)from jr way 0]
 have hq:=h (g++[.list ((w.map λc=>sx (if rh way c=true then [92,c]else [c])))])
 unfold oE at hq
 rw[<- OY]at hq
 refine EK (λe=>?_) λe=>?_
 ·rw[if_pos (beq_iff_eq.mp e)]at hq
  refine KO (bw (bw (bw (xG rfl (xK FA ?_)))))
  refine dX (show 3<=_ by decide) ?_
  refine xG rfl ?_
  refine dX (OZ (Qz hel 3) (by decide)) ?_
  refine xK FA ?_
  refine dX ?_ ?_
  ·rw[O2];exact OZ (Sq (Qz hel 3) 1) (by decide)
  ·rw[OY];exact hq
 ·rw[if_neg (beq_eq_false_iff_ne.mp e)]at hq
  refine A4 (gq (bw (bw (xG rfl (xG rfl ?_)))))
  refine dX (OZ (Qz hel 2) (by decide)) ?_
  refine Bo (l:=Ey) (r:=(Ey.drop k).take 1) (a:=some (k:Int)) (b:=some ((k:Int)+1)) ?_ (Kj k hk)
  refine xK ND ?_
  refine⟨rfl,xB ?_⟩
  refine xG rfl ?_
  refine xP ⟨rfl,xB ?_⟩
  refine bw (xG rfl (xP (eO ?_)))
  refine xP ⟨rfl,?_⟩
  refine dX ?_ ?_
  ·rw[O2]
   exact OZ (Nat.add_le_add (Qz hel 2) (List.length_take_le ..)) (by decide)
  ·rw[OY];exact hq
noncomputable def KE(x:Int):Nat:=((x.fdiv 1944).fmod 3).toNat
noncomputable def qc(ord:List Nat)(s:Nat)(seed:Int)(j:Nat):List Nat:=oE j (KE (seed+101*j)) (eH (ord.getD j 0) s (seed+101*j))
theorem Ev(x:Int):KE x<3/\(x.fdiv 1944).fmod 3=(KE x:Int):=⟨(iN _ (m:=3) (n:=3) rfl (by decide)).2,(iN _ (m:=3) (n:=3) rfl (by decide)).1⟩
theorem jx{hs:Nat}(h:hs<4)(s:Nat)(x:Int):(eH hs s x).length<=5:=by
 have:=qu h x
 unfold eH
 split
 ·rw[O2,Py];show _+1+1<=5;lia
 ·rw[O2,O2];show _+1+1<=5;lia
noncomputable abbrev LT(r s:V)(seed:Int)(k:Nat)(x4 x5:Option V):List (Option V) := [some r,some s,some (.int seed),some (.ref k),x4,x5]
theorem Js{r s:Nat}{ord:List Nat}{seed:Int}{Q:V->St->Prop}(hr:σ[r]?=some (.list (iL ord)))(ho:ord.length=4)(hlt:∀o∈ord,o<4)
  (h:∀g k,(σ++g)[k]?=some (.list ((OP 4).map λj=>sx (qc ord s seed j)))->σ.length<=k->Q (.ref k) ⟨σ++g,L⟩):W (f6 [.ref r,sx [s],.int seed]) ⟨σ,L⟩ Q:=by
 have hil:(iL ord).length=4:=(Pc _).trans ho
 refine qx (mb:=hZ) (L₀ := [some (.ref r),some (sx [s]),some (.int seed),none,none,none]) rfl ?_
 unfold hZ
 refine fA (cS (aJ ⟨PQ _,?_⟩))
 refine r5 (xB (jU (b:=4) (ak (xP (aJ ⟨rfl,?_⟩))) (by decide)))
 refine Bn (N:=4) (fuel:=1000) (γ:=List O×Option V×Option V) (λu=>⟨u.1,LT (.ref r) (sx [s]) seed σ.length u.2.1 u.2.2⟩) (λj u=>Xt σ u.1/\u.1[σ.length]?=some (.list ((OP j).map λj=>sx (qc ord s seed j)))) (λj u hj hu Q q=>?_) (by decide) (u:=(σ++[O.list []],none,none)) ⟨Xt.app _,ar⟩ λv hv=>⟨rfl,gq (xG rfl ?_)⟩
 ·obtain⟨hx,hk⟩:=hu
  have hoj:ord.getD j 0<4:=hlt _ (O1 (bb (l:=ord) (i:=j) (by rw[ho];exact hj)))
  obtain⟨hw,ew⟩:=Ev (seed+101*j)
  have hel:=jx hoj s (seed+101*j)
  have hx2:=hx.get hr
  refine fA (bw (xG rfl (bw (xP (xG rfl ?_)))))
  refine(m4 (by lia)).mpr ?_
  refine eO (EJ (dA (xG rfl ?_)))
  refine⟨xU hk,?_⟩
  refine ak (gc (ak (xG rfl (ak (bw (bw (xG rfl (xP (mU (by decide) (by decide) (xP (ik (by decide) (ak (gc (ak (bw (xG rfl (xG rfl ?_)))))))))))))))))
  refine bN (xs:=iL ord) (x:=.int (ord.getD j 0:Nat)) hx2 (PM _) (by lia) (by rw[hil];decide) (by rw[PB,iL,Pn,bb (l:=ord) (i:=j) (d:=0) (by rw[ho];exact hj)];rfl) ?_
  refine ak (xG rfl (ak (xG rfl (aJ ?_))))
  refine Hv hoj λg2=>?_
  refine aJ ?_
  rw[ew]
  refine L5 hj hw (by lia) λg3=>?_
  refine aJ ?_
  refine Bf (f:=λj=>sx (qc ord s seed j)) (ad (ad hk)) (by lia) ?_
  exact q (_,_,_) ⟨((hx.on g2).on g3).set (O8 _) _,Qx (aO (ad (ad hk)))⟩
 ·obtain⟨g,e⟩:=hv.1.ex
  have hk:=hv.2
  rw[e]at hk
  show Q _ ⟨v.1,L⟩
  rw[e]
  exact h g _ hk (O8 _)
theorem Ce{Q:V->St->Prop}(h:Lx I σ n [] Q₀)(q:∀g,Q (sx []) ⟨σ++g,L⟩):W (BJ gp I.kc (.int 1)) ⟨σ,L⟩ Q:=by
 have key:W gp ⟨σ,[some (.int 1),some (.ref I.sg)]⟩ λf st'=>f=.ret (sx [])/\∃g,st'.σ=σ++g:=by
  unfold gp
  refine qz ?_
  refine Hz (cU (xG rfl (xP (M7 (gW ?_)))))
  refine oJ ?_
  refine Hz (cU (xG rfl ?_))
  refine cS (aJ ⟨PQ _,?_⟩)
  refine qR (a := []) (b := []) (ad h.sg) ar (λu m=>nomatch m) (λu m=>nomatch m) ?_
  refine gW ?_
  exact vv (KO (xK tz ⟨rfl,_,rfl⟩))
 obtain⟨f,st',e,rfl,g,hg⟩:=key
 exact eK h.kc ⟨sx [],⟨st'.σ,L⟩,by show(gp ⟨σ,[some (.int 1),some (.ref I.sg)]⟩).bind _=_;rw[e];rfl,by rw[hg];exact q g⟩
theorem Dt{Q:V->St->Prop}(h:Lx I σ n [] Q₀)(q:∀g,Q (sx []) ⟨σ++g,L⟩):W (aE [.ref I.lx]) ⟨σ,L⟩ Q:=by
 refine qx (mb:=bu) (L₀ := [some (.ref I.lx),none]) rfl ?_
 unfold bu
 obtain⟨fs,hf1,hf2⟩:=h.d2
 refine fA (qT (k:=I.sd) (d:=I.d2) (j:=I.cl) (k1:=I.kc) (fs:=fs) (d9 (xG rfl ⟨_,_,_,_,rfl,h.lx,h.d,HA ..,rfl,rfl,h.sd,hf1,hf2,h.cl,Ce h λg=>?_⟩)))
 refine qz ?_
 refine cU (xG rfl (xK z7 (qw (gW ?_))))
 refine oJ ?_
 refine A4 (gq (xG rfl ?_))
 exact q g
noncomputable abbrev q9(kb:Nat):O:=.callIter (.ref kb) (.str (tx [])) true
theorem JD{Q:Option (V×It)->St->Prop}(h:LC I σ n [] it kb)(q:∀g,Q none ⟨(σ++g).set it (q9 kb),L⟩):W (lS bi (.call it)) ⟨σ,L⟩ Q:=by
 show W (BA bi it) _ _
 refine eK h.it ?_
 show W (oO kb (i8 (IO bi it kb (tx [])))) _ _
 refine eK h.kb ?_
 show W (ao (aE [.ref I.lx]) (IP bi it kb (tx []))) _ _
 refine xB (Dt h.lex λg=>?_)
 refine eK (ad h.it) (eK (ad h.kb) ?_)
 have ha:tB bi kb (tx []) (.ref kb) (.str (tx [])) false 106:=⟨rfl,rfl,rfl,rfl⟩
 show W (if tB bi kb (tx []) (.ref kb) (.str (tx [])) false 106 then tI it kb (tx []) (tx [])else av) _ _
 rw[if_pos ha,tI,if_pos (by rw[lV];rfl)]
 exact⟨_,_,rfl,q g⟩
theorem FM{Q:Option (V×It)->St->Prop}{f z:V}(h:σ[it]?=some (.callIter f z true))(q:Q none ⟨σ,L⟩):W (lS bi (.call it)) ⟨σ,L⟩ Q:=by
 show W (BA bi it) _ _
 exact eK h (xP q)
theorem xy{b:M Fl}{i f:Nat}{Q:Fl->St->Prop}(h:LC I σ n [] it kb)(q:∀g,Q .next ⟨(σ++g).set it (q9 kb),L⟩):W (b4 bi i b (f+1) (.call it)) ⟨σ,L⟩ Q:=iE (JD h q)
theorem B6{b:M Fl}{i fu:Nat}{Q:Fl->St->Prop}{f z:V}(h:σ[it]?=some (.callIter f z true))(q:Q .next ⟨σ,L⟩):W (b4 bi i b (fu+1) (.call it)) ⟨σ,L⟩ Q:=iE (FM h q)
theorem LC.shut(h:LC I σ n T it kb)(g:List O):Lx I ((σ++g).set it (q9 kb)) n T []/\((σ++g).set it (q9 kb))[it]?=some (q9 kb):=by
 have a:=h.lex.app g
 have b:=ad (r:=g) h.it
 have hl:=(OW.mp b).1
 have ne:∀{i o},(σ++g)[i]?=some o->(∀f z e,o≠O.callIter f z e)->((σ++g).set it (q9 kb))[i]?=some o:=λ{i o} e hn=>by
  rw[aH (QA (cq e b (hn _ _ _)))];exact e
 refine⟨⟨ne a.lx (by simp),ne a.d (by simp),ne a.sd (by simp),?_,ne a.cl (by simp),ne a.kc (by simp),ne a.sg (by simp),ne a.pb (by simp),a.ne1,a.ne2,a.tl,a.ql,a.ok⟩,b5 hl⟩
 obtain⟨fs,x,y⟩:=a.d2
 exact⟨fs,ne x (by simp),y⟩
theorem Kp.setNew{o:O}{i:Nat}(h:Kp I σ σ')(hi:σ.length<=i):Kp I σ (σ'.set i o):=⟨by rw[Su];exact h.len,λj a b c d=>by
 exact(aH (PE (O0 d hi))).trans (h.at_ j a b c d)⟩
theorem mS{Q:V->St->Prop}(h:Lx I σ n T [])(q:∀g it kb,σ.length<=it->LC I (σ++g) n T it kb->W (aw (b4 bi 3 OL 1000 (.call it)) (b8 (getL 1))) ⟨σ++g,Lt I it [] none⟩ λf st'=>match f with | .ret x=>Q x ⟨st'.σ,L⟩ | .next=>Q .none ⟨st'.σ,L⟩ | _=>False) :
  W (aC [.ref I.lx]) ⟨σ,L⟩ Q:=by
 refine qx (mb:=bx) (L₀ := [some (.ref I.lx),none,none,none]) rfl ?_
 unfold bx
 refine qz (xB (d9 (xG rfl ⟨_,_,_,_,rfl,h.lx,h.d,w7 ..,rfl,nL h.pb (by decide) ?_⟩)))
 refine oJ (A4 (fA (xK tz ?_)))
 let g:List O := [.bound (.ref I.lx) 106,.callIter (.ref σ.length) (.str (tx [])) false]
 refine M9 (st2:=⟨σ++g,[some (.ref I.lx),some (sx []),some (.ref (σ.length+1)),none]⟩) ?_ ?_
 ·refine xA (fz (ak (xB (xG rfl (g7 h.lx h.d (cM (iY ..).2.2 (xN (ak (xK tz (aJ ?_))))))))))
  show W (oO σ.length (i8 λu u=>gU (.callIter (.ref σ.length) (.str (tx [])) false))) _ _
  refine eK ar (xN ⟨rfl,?_⟩)
  simp[g]
 ·have hlc:LC I (σ++g) n T (σ.length+1) σ.length:=⟨h.app g,by rw[Pi (QK _),Nat.succ_sub (O8 _),Tb];rfl,by rw[Pi (O8 _),Tb];rfl⟩
  obtain⟨f,st',e,w⟩:=cL.mp (q g _ _ (QK _) hlc)
  refine xB (xB (xR hlc rfl ⟨f,st',e,w⟩))
theorem wV{Q:V->St->Prop}(h:Lx I σ n [] [])(q:∀σ',Lx I σ' n [] []->Kp I σ σ'->Q (sx []) ⟨σ',L⟩):W (aC [.ref I.lx]) ⟨σ,L⟩ Q :=
 mS h λg it kb hi hlc=>EC (xy hlc λg2=>gq (xG rfl (q _ (hlc.shut g2).1 (((Kp.app g).trans (Kp.app g2)).setNew hi))))
theorem pu{e:Nat->Bool}:∀{w:List Nat},(∀c∈w,c≠10)->(eE e w).count 10=0
 | [],_=>rfl
 | c::w,h=>by
  have ih:=pu (e:=e) (w:=w) λd hd=>h d (Pa _ hd)
  have hc:=h c (Pe ..)
  unfold eE
  rw[Rm,ih]
  split<;>simp[hc]
theorem tw(k:Nat):EI.getD (k%3) 0∈qO/\EI.getD (k%3) 0≠10:=by
 have:∀i:Fin 3,EI.getD i 0∈qO/\EI.getD i 0≠10:=by decide
 exact this ⟨k%3,SQ _ (by decide)⟩
structure Wd(w:List Nat):Prop where
 len:w.length<=900
 chr:∀c∈w,c∉[10,9,13]
 hd:∃c r,w=c::r/\c≠34
theorem LN{c:Nat}(h:c∉[10,9,13]):c≠10:=λe=>h (e▸Pe ..)
theorem LU{c:Nat}(h:c∉[10,9,13])(h2:c≠32):c∉qO:=λm=>(Pk.mp (show c∈[10,9,13]++[32]from m)).elim h λm=>h2 (OS.mp m)
theorem Jd{n:Nat}(h:n+1<=900):1000=(999 - n+1)+n:=by lia
theorem Og{way:Nat}(hw:way<3)(h0:way≠0)(h1:way≠1):way=2:=by lia
theorem BV{way c:Nat}(hw:way<3)(h0:way≠0)(h:rh way c=false):c≠92/\c≠32:=by
 unfold rh at h
 rw[Bool.or_eq_false_iff,beq_eq_false_iff_ne]at h
 obtain rfl:=Og hw h0 h.1
 have:=of_decide_eq_false h.2
 exact⟨λe=>this (by subst e;decide),λe=>this (by subst e;decide)⟩
theorem zW{c:Nat}(h:rh 0 c=false):c≠92/\c≠34:=by
 have:=of_decide_eq_false (show decide (c∈BW.getD 0 [])=false from h)
 exact⟨λe=>this (by subst e;decide),λe=>this (by subst e;decide)⟩
theorem wk{k way:Nat}{w:List Nat}(hw:Wd w):((oE k way w).count 10:Int)=if way=0 then 1 else 1+((Ey.drop k).take 1).count 10:=by
 have hc:=pu (e:=rh way) (w:=w) λc hc=>LN (hw.chr c hc)
 have ha:=(tw k).2
 have h2 : [10,EI.getD (k%3) 0].count 10=1:=by
  generalize EI.getD (k%3) 0=a at ha
  simp[ha]
 unfold oE
 rw[Rm,h2]
 split
 ·rename_i e
  subst e
  rw[Rm,Sv,hc];rfl
 ·rw[Rm,hc];lia
theorem GF{k way:Nat}{w:List Nat}{Q:V->St->Prop}(hk:k<4)(hway:way<3)(hw:Wd w)(hT:k=3->T=[])(h:Lx I σ n (oE k way w++T) [])
  (q:∀σ',Lx I σ' (n+(oE k way w).count 10) T []->Kp I σ σ'->Q (sx w) ⟨σ',L⟩):W (aC [.ref I.lx]) ⟨σ,L⟩ Q:=by
 rw[wk hw]at q
 refine mS h λg it kb hi hlc=>EC ?_
 have h10:∀c∈w,c≠10:=λc hc=>LN (hw.chr c hc)
 have hl:=hw.len
 unfold oE at hlc
 rw[OY]at hlc
 refine D1 (f:=999) (t:=10) (by decide) hlc λσ1 x1 hc1 hk1=>?_
 refine D1 (f:=998) (tw k).1 hc1 λσ2 x2 hc2 hk2=>?_
 rw[po (tw k).2,show m9 10=1 from rfl,Re]at hc2
 have hkk:=(Kp.app (I:=I) (σ:=σ) g).trans (hk1.trans hk2)
 by_cases h0:way=0
 ·subst h0
  rw[show ∀l:List Nat,[].append l=l from λu=>rfl,if_pos rfl,List.cons_append,List.cons_append,OY]at hc2
  rw[if_pos rfl]at q
  exact Dp (e:=rh 0) (f:=997) hl (λc hcw=>⟨h10 c hcw,λhe=>zW he⟩) hc2 λσ3 x3 hc3 hk3=>q σ3 hc3.lex (hkk.trans hk3)
 ·rw[show ∀l:List Nat,[].append l=l from λu=>rfl,if_neg h0,OY]at hc2
  rw[if_neg h0]at q
  obtain⟨c,r,rfl,h34⟩:=hw.hd
  rw[Py]at hl
  have bare:∀d∈c::r,d≠10/\(rh way d=false->d≠92/\d∉qO):=λd hd=>⟨h10 d hd,λhe=>by
   obtain⟨e1,e2⟩:=BV hway h0 he
   exact⟨e1,LU (hw.chr d hd) e2⟩⟩
  obtain⟨b1,b2⟩:=bare c (Pe ..)
  refine E7 (e:=rh way) (f:=997) ⟨b1,λhe=>⟨(b2 he).1,(b2 he).2,h34⟩⟩ hc2 λσ3 x3 hc3 hk3=>?_
  have hk3':=hkk.trans hk3
  by_cases h3:k=3
  ·obtain rfl:T=[]:=hT h3
   subst h3
   rw[Jd hl]
   refine zi (e:=rh way) Ef rfl r [c] (999 - r.length+1) σ3 x3 (by show 1+_<=_;lia) (λd hd=>⟨(bare d (Pa _ hd)).1,λhe=>⟨((bare d (Pa _ hd)).2 he).1,decide_eq_false ((bare d (Pa _ hd)).2 he).2⟩⟩) hc3 λσ4 x4 hc4 hk4=>?_
   refine xy hc4 λg2=>?_
   obtain⟨s1,s2⟩:=hc4.shut g2
   refine B6 s2 (gq (xG rfl ?_))
   exact q _ s1 ((hk3'.trans (hk4.trans (Kp.app g2))).setNew hi)
  ·obtain⟨t,ht,htw,hb⟩:∃t,(Ey.drop k).take 1=[t]/\t∈qO/\m9 t=(([t]:List Nat).count 10:Nat):=by
    exact vO (p:=λk=>k≠3->∃t,(Ey.drop k).take 1=[t]/\t∈qO/\m9 t=(([t]:List Nat).count 10:Nat)) hk (λu=>⟨13,by decide⟩) (λu=>⟨9,by decide⟩) (λu=>⟨10,by decide⟩) (λh=>absurd rfl h) h3
   rw[ht]at hc3 q
   refine IS (e:=rh way) (tok := [c]) htw (by lia) (by show 1+_<=_;lia) (λd hd=>bare d (Pa _ hd)) hc3 λσ4 x4 hc4 hk4=>?_
   rw[hb,Int.add_assoc]at hc4
   exact q σ4 hc4.lex (hk3'.trans hk4)
noncomputable def A6(c:Nat):Nat:=c+if c=38 then 128 else 0
noncomputable def dv:List Nat->List (List Nat)
 | []=>[]
 | c::r=>if A6 c &&& 64=0 then [A6 c]::dv r else match dv r with
  | []=>[[A6 c]]
  | w::ws=>(A6 c::w)::ws
noncomputable def kA:List Nat->Bool
 | []=>false
 | b::w=>decide (w.length<=8)&&go b w
where go:Nat->List Nat->Bool
 | b,[]=>b &&& 64==0
 | b,c::r=>b &&& 64 != 0&&go c r
theorem HT:∀{w:List Nat}{b:Nat},kA.go b w=true->nb b w
 | [],b,h=>by unfold kA.go at h;exact beq_iff_eq.mp h
 | c::r,b,h=>by
  unfold kA.go at h
  rw[PD,bne_iff_ne]at h
  exact⟨h.1,HT h.2⟩
theorem AZ{w:List Nat}(h:kA w=true):Bp w:=by
 cases w with
 | nil=>exact nc QH h rfl
 | cons b w =>
  unfold kA at h
  rw[PD,decide_eq_true_eq]at h
  exact⟨h.1,HT h.2⟩
theorem mT:∀l,(dv l).flatten=l.map A6
 | []=>rfl
 | c::r=>by
  have ih:=mT r
  unfold dv
  split
  ·rw[QY,ih];rfl
  ·split
   ·rename_i e
    rw[e]at ih
    rw[Ps,<- ih];rfl
   ·rename_i w ws e
    rw[e]at ih
    rw[Ps,<- ih];rfl
theorem Ai{l:List Nat}{Q:V->St->Prop}(hl:l.length<=900)(hws:∀w∈dv l,kA w=true)(hn:(dv l).length<=900)
  (h:∀g k,(σ++g)[k]?=some (.list (iL ((dv l).map AX)))->Q (.ref k) ⟨σ++g,L⟩):W (eX [sx l]) ⟨σ,L⟩ Q:=by
 refine qx (mb:=fk) (L₀ := [some (sx l),none,none]) rfl ?_
 unfold fk
 have hfl:(l.map A6).length<=900:=by rw[Pc];exact hl
 have ho:=mT l
 generalize dv l=ws at *
 obtain⟨r,hr,hr01⟩:∃r:Nat,(l.length:Int).fmod 2=(r:Int)/\(r=0\/r=1):=⟨l.length%2,mm l.length 2,Nat.mod_two_eq_zero_or_one _⟩
 have hrr:(Px r [V.int 65]).flatten=Px r (V.int 65):=by rcases hr01 with e | e<;>rw[e]<;>rfl
 have ht:Px r (V.int 65)=[]\/Px r (V.int 65)=[.int 65]:=by rcases hr01 with e | e<;>rw[e]<;>simp
 have hil:(iL ws.flatten).length<=900:=by rw[iL,Pc,ho];exact hfl
 have octs:∀{x1 x2:Option V}{Q:V->St->Prop},(∀g,Q (.ref (σ++g).length) ⟨σ++g++[.list (iL (l.map A6))],[some (sx l),x1,x2]⟩) ->
   W (dY 3 (fj (getL 0)) (aa true) (aj bf (bO (ab (getL 3) am) mI) (a8 (aT iM (getL 3) (aa (.str (OO "&")))) (aa (.int 128)) (aa (.int 0)))) 1000) ⟨σ,[some (sx l),x1,x2]⟩ Q:=by
  intro x1 x2 Q h
  refine FE (y:=λc=>V.int ((A6 c:Nat):Int)) rfl (Pr hl (by decide)) (by decide) (xG rfl ⟨rfl,[],by rw[O4]⟩) (λc u g=>?_) λg=>?_
  ·show W _ ⟨σ++g,[some (sx l),x1,x2,some (sx [c])]⟩ _
   refine bw (fz (ak (xG rfl (aJ ?_))))
   refine o7.mpr ?_
   refine jN (cU (xG rfl (xK z8 (qw (gW ?_)))))
   refine EK (λq=>?_) λq=>?_
   ·refine xP (eO ?_)
    have q:c=38:=RU (eq_of_beq q)
    exact⟨by rw[A6,if_pos q];rfl,[],by rw[O4];rfl⟩
   ·refine xP (eO ?_)
    exact⟨by rw[A6,if_neg λe=>by subst e;exact absurd q (by decide)];rfl,[],by rw[O4];rfl⟩
  ·have e:l.map (λc=>V.int ((A6 c:Nat):Int))=iL (l.map A6):=by
    unfold iL
    rw[PH];rfl
   rw[e]
   exact h g
 refine fA (fz (ak (bw (octs λg=>?_))))
 rw[<- ho]
 refine bw ?_
 refine cS ?_
 refine ak (xP (aJ ?_))
 refine⟨show 1<=1000000 by decide,?_⟩
 refine bw (fz (ak (xG rfl (aJ ?_))))
 refine(KY (Pr hl (by decide))).mpr ?_
 refine xP (ik (by decide) ?_)
 rw[hr]
 refine Iy (xs := [.int 65]) ar ⟨by show 1*r<=_;lia,by lia,by lia⟩ (xN ?_)
 rw[PB,hrr]
 refine sb (xs:=iL ws.flatten) (ys:=Px r (.int 65)) (ad (ad ar)) ar (by rw[List.length_replicate];lia) (xN ?_)
 refine aJ ?_
 refine Iw ar ?_
 generalize hg2:g++([O.list (iL ws.flatten)]++([O.list [.int 65]]++([O.list (Px r (.int 65))]++([O.list (iL ws.flatten++Px r (.int 65))]))))=g2
 have hg2':σ++g++[O.list (iL ws.flatten)]++[O.list [.int 65]]++[O.list (Px r (.int 65))]++[O.list (iL ws.flatten++Px r (.int 65))]=σ++g2:=by rw[<- hg2];simp only[OY]
 have hlo:(σ++g2)[(σ++g++[O.list (iL ws.flatten)]++[O.list [.int 65]]++[O.list (Px r (.int 65))]).length]?=some (.list (iL ws.flatten++Px r (.int 65))):=by rw[<- hg2'];exact ar
 have hl1:σ.length<=(σ++g++[O.list (iL ws.flatten)]++[O.list [.int 65]]++[O.list (Px r (.int 65))]).length:=by simp only[O2];lia
 dsimp only[PI,PJ]
 rw[hg2']
 generalize (σ++g++[O.list (iL ws.flatten)]++[O.list [.int 65]]++[O.list (Px r (.int 65))]).length=lo at hlo hl1 ⊢
 generalize Px r (V.int 65)=tl at hlo ht
 refine fA (cS (aJ ⟨PQ _,?_⟩))
 dsimp only[PI,PJ]
 have hlo2:=(OW.mp hlo).1
 have h9:((σ++g2)++[O.listIter lo 0]).length=(σ++g2).length+1:=by rw[O2];rfl
 have hlen:σ.length<=(σ++g2).length:=by rw[O2];exact PT _ _
 refine xB (LM (xs:=iL ws.flatten++tl) (ii:=(σ++g2).length) (lo:=lo) (nl:=(σ++g2++[O.listIter lo 0]).length) (PE hlo2) (by rw[h9];exact Pg (PR _)) (by rw[h9];exact Pg (Ql hlo2))
  ws 1000 0 [] tl _ (Pr hn (by decide)) (λw hw=>AZ (hws w hw)) rfl ht (by rw[RK,Rw];exact OZ hn (by decide)) (ad ar) (ad (ad hlo)) ar λσ' hlen' hnum hrest=>?_)
 refine gq (xG rfl ?_)
 obtain⟨g3,hg3⟩:=iU (σ:=σ) (σ':=σ') λi hi=>by
  rw[hrest i (Pg (O0 hi hlen)) (by rw[h9];exact Pg (Ql (O0 hi hlen))),OY,OY,O7 hi]
 subst hg3
 exact h _ _ hnum
noncomputable def A8:List Nat := [38,60,62,34,13,10,9]
noncomputable def sg(i:Nat):Nat:=A8.getD i 0
noncomputable def fU(k i j:Nat):List Nat:=cg (b3.getD k []) [sg i,sg j]
noncomputable def spell(k i j:Nat):List Nat := [sg i,sg j].flatMap λc=>((b3.getD k []).lookup c).getD [c]
noncomputable def Ez:Nat->List Nat->Nat
 | _,[]=>0
 | i,x::r=>(i+1)*x+Ez (i+1) r
noncomputable def lD:List Nat->Nat×Nat×Nat->Nat×Nat×Nat
 | [],s=>s
 | c::r,(worth,more,weight)=>if c<64 then lD r (worth+(weight - 1)*(c%64),0,weight - 1)else lD r (worth+weight*(c%64)*64^(more+1),more+1,weight)
noncomputable def w4(k i j:Nat):Nat:=Ez 0 ((dv (fU k i j)).map AX)
noncomputable def zg(k i j:Nat):Bool:=decide ((fU k i j).length<=14)&&((dv (fU k i j)).all kA&&(decide ((dv (fU k i j)).length<=14)&&(((dv (fU k i j)).map AX).all (λx=>decide (x<2^40))&&(spell k i j==fU k i j &&
  ((lD (fU k i j).reverse (0,0,1+((fU k i j).filter λc=>decide (c<64)).length)).1==w4 k i j)))))
theorem wi:((OP 5).all λk=>(OP 7).all λi=>(OP 7).all λj=>zg k i j)=true:=by decide+kernel
structure EM(k i j:Nat):Prop where
 len:(fU k i j).length<=14
 words:∀w∈dv (fU k i j),kA w=true
 wlen:(dv (fU k i j)).length<=14
 small:∀x∈(dv (fU k i j)).map AX,x<2^40
 spell:spell k i j=fU k i j
 worth:(lD (fU k i j).reverse (0,0,1+((fU k i j).filter λc=>decide (c<64)).length)).1=w4 k i j
theorem uG{k i j:Nat}(hk:k<5)(hi:i<7)(hj:j<7):EM k i j:=by
 have h:=O6.mp (O6.mp (O6.mp wi k (O5.mpr hk)) i (O5.mpr hi)) j (O5.mpr hj)
 unfold zg at h
 simp only[PD,decide_eq_true_eq,O6,beq_iff_eq]at h
 obtain⟨h1,h2,h3,h4,h5,h6⟩:=h
 exact⟨h1,h2,h3,h4,h5,h6⟩
end
end Mine
end
section
open PySem PySem.Calls PySem.W
set_option maxRecDepth 100000
namespace Mine
theorem fc{α:Type}{c c' p:Nat->Nat->Bool}(h:∀i j,p i j=true->c i j=c' i j):∀t:KasT α,iG c p t=true->lK c t=lK c' t/\iG c' p t=true
 | .ret a,_=>⟨rfl,rfl⟩
 | .ask i j k,ha=>by
  obtain⟨h1,h2⟩:=P0.mp ha
  have e:=h i j h1
  obtain⟨a,b⟩:=fc h (k (c i j)) h2
  rw[e]at a b
  exact⟨by show lK c (k (c i j))=lK c' (k (c' i j));rw[e];exact a,by show(p i j&&iG c' p (k (c' i j)))=true;rw[h1,b];rfl⟩
noncomputable def Ou(c:Nat->Nat->Bool):Bool:=iG c (within 4) (kas_sort 4)
noncomputable def jm(l:List Nat):Bool:=l.length==4&&l.all (λx=>decide (x<4))&&(l.contains 0&&l.contains 1&&l.contains 2&&l.contains 3)
noncomputable abbrev cK(K:Nat->Int):Nat->Nat->Bool:=λi j=>decide (K i<K j)
noncomputable abbrev cP(K:Nat->Int):Nat->Nat->Bool:=λi j=>EG (K i,(i:Int)) (K j,(j:Int))
noncomputable def k4(a b c d:Nat)(i:Nat):Int:=if i=0 then a else if i=1 then b else if i=2 then c else d
theorem AH:((OP 4).all λa=>(OP 4).all λb=>(OP 4).all λc=>(OP 4).all λd =>
  Ou (cK (k4 a b c d))&&(Ou (cP (k4 a b c d))&&(bA (cK (k4 a b c d)) 4==bA (cP (k4 a b c d)) 4&&jm (bA (cK (k4 a b c d)) 4))))=true:=by decide+kernel
noncomputable def rk(K:Nat->Int)(x:Int):Nat:=((OP 4).filter λi=>decide (K i<x)).length
theorem Ic(K:Nat->Int){i:Nat}(hi:i<4){y:Int}(h:K i<y):rk K (K i)<rk K y:=by
 have e:((OP 4).filter λj=>decide (K j<K i))=((OP 4).filter λj=>decide (K j<y)).filter λj=>decide (K j<K i):=by
  rw[List.filter_filter]
  refine List.filter_congr λj u=>?_
  by_cases q:K j<K i
  ·rw[decide_eq_true q,decide_eq_true (Int.lt_trans q h)];rfl
  ·rw[decide_eq_false q];rfl
 unfold rk
 rw[e]
 exact QG.mpr ⟨i,Th.mpr ⟨O5.mpr hi,decide_eq_true h⟩,by rw[decide_eq_false (Int.lt_irrefl _)];exact PA⟩
theorem Dy(K:Nat->Int){i:Nat}(hi:i<4):rk K (K i)<4 :=
 QG.mpr ⟨i,O5.mpr hi,by rw[decide_eq_false (Int.lt_irrefl _)];exact PA⟩
theorem Dx(K:Nat->Int){i j:Nat}(hi:i<4)(hj:j<4):(K i<K j↔(rk K (K i):Int)<(rk K (K j):Int))/\((rk K (K i):Int)=(rk K (K j):Int)↔K i=K j):=by
 have a:K i<K j->rk K (K i)<rk K (K j):=Ic K hi
 have b:K j<K i->rk K (K j)<rk K (K i):=Ic K hj
 rcases Int.lt_trichotomy (K i) (K j)with q | q | q
 ·have:=a q;clear a b;lia
 ·rw[q];lia
 ·have:=b q;clear a b;lia
structure KT(K:Nat->Int):Prop where
 k:iG (cK K) (within 4) (kas_sort 4)=true
 p:iG (cP K) (within 4) (kas_sort 4)=true
 eq:bA (cP K) 4=bA (cK K) 4
 perm:jm (bA (cK K) 4)=true
theorem zr(K:Nat->Int):KT K:=by
 have r:∀i,i<4->rk K (K i)<4:=λi hi=>Dy K hi
 have h:=O6.mp (O6.mp (O6.mp (O6.mp AH _ (O5.mpr (r 0 (by decide)))) _ (O5.mpr (r 1 (by decide)))) _ (O5.mpr (r 2 (by decide)))) _ (O5.mpr (r 3 (by decide)))
 simp only[PD,beq_iff_eq]at h
 obtain⟨h1,h2,h3,h4⟩:=h
 have ek:∀i,i<4->k4 (rk K (K 0)) (rk K (K 1)) (rk K (K 2)) (rk K (K 3)) i=(rk K (K i):Int):=LG rfl rfl rfl rfl
 generalize k4 (rk K (K 0)) (rk K (K 1)) (rk K (K 2)) (rk K (K 3))=R at *
 clear r
 have c1:∀i j,within 4 i j=true->cK R i j=cK K i j:=λi j h=>by
  obtain⟨hi,hj,_⟩:=fV h
  show decide (R i<R j)=decide (K i<K j)
  rw[ek i hi,ek j hj]
  exact decide_eq_decide.mpr (Dx K hi hj).1.symm
 have c2:∀i j,within 4 i j=true->cP R i j=cP K i j:=λi j h=>by
  obtain⟨hi,hj,_⟩:=fV h
  obtain⟨e1,q1⟩:=Dx K hi hj
  show EG _ _=EG _ _
  unfold EG
  simp only
  rw[ek i hi,ek j hj,decide_eq_decide.mpr e1.symm]
  by_cases q:K i=K j
  ·rw[if_pos q,if_pos (q1.mpr q)]
  ·rw[if_neg q,if_neg λx=>q (q1.mp x)]
 obtain⟨a1,a2⟩:=fc c1 _ h1
 obtain⟨b1,b2⟩:=fc c2 _ h2
 have o1:bA (cK R) 4=bA (cK K) 4:=by unfold bA;rw[a1]
 have o2:bA (cP R) 4=bA (cP K) 4:=by unfold bA;rw[b1]
 exact⟨a2,b2,by rw[<- o1,<- o2];exact h3.symm,by rw[<- o1];exact h4⟩
structure cC(l:List Nat):Prop where
 len:l.length=4
 lt:∀x∈l,x<4
 mem:∀x,x<4->x∈l
theorem mK{l:List Nat}(h:jm l=true):cC l:=by
 unfold jm at h
 simp only[PD,beq_iff_eq,O6,decide_eq_true_eq,Po]at h
 obtain⟨⟨h1,h2⟩,⟨⟨h3,h4⟩,h5⟩,h6⟩:=h
 refine⟨h1,h2,λx hx=>?_⟩
 exact vO (p:=(· ∈l)) hx h3 h4 h5 h6
end Mine
end
section
open PySem PySem.Calls
set_option maxRecDepth 100000
namespace Mine
section
variable {α β:Type}{st:St}{σ σ':List O}{L:List (Option V)}{pa pb:Nat->Nat}{y:Int}
noncomputable def Ae(y:Int):Int:=2+(y.fdiv 5).fmod 99
noncomputable def kf(y:Int):Nat:=(y.fmod 5).toNat
noncomputable def tv(y:Int)(pa pb:Nat->Nat)(k:Nat):Int:=((w4 (kf y) (pa k) (pb k):Nat):Int).fmod (Ae y)
noncomputable def DB(y:Int)(pa pb:Nat->Nat):List Nat:=bA (cK (tv y pa pb)) 4
noncomputable def sW(pa pb:Nat->Nat):List V:=(OP 4).map λk=>sx [sg (pa k),sg (pb k)]
theorem sH(y:Int):kf y<5/\y.fmod 5=(kf y:Int):=⟨(iN _ (m:=5) (n:=5) rfl (by decide)).2,(iN _ (m:=5) (n:=5) rfl (by decide)).1⟩
theorem uq(y:Int):Ae y≠0:=by
 obtain⟨h0,h1⟩:=dh (y.fdiv 5) (n:=99) (by decide)
 unfold Ae
 omega
theorem IE{k:Nat}{l:List Int}{Q:V->St->Prop}(hk:st.σ[k]?=some (.list (l.map V.int)))(hl:l.length<=1000)(hb:∀x∈l,-(2^50)<=x/\x<=2^50)(q:Q (.int l.sum) st):W (Hg [.ref k]) st Q:=by
 have e1:∀l:List Int,dj (l.map V.int)=some l:=by
  intro l
  induction l with
  | nil=>rfl
  | cons a r ih =>
   show(dj (r.map V.int)).map _=_
   rw[ih];rfl
 exact br hk (ca (e1 l) (cM ⟨hl,hb⟩ (bp.mpr q)))
theorem gP(l:List Int):dj (l.map V.int)=some l:=by
 induction l with
 | nil=>rfl
 | cons a r ih =>
  show(dj (r.map V.int)).map _=_
  rw[ih];rfl
theorem zC:∀(l:List Nat)(i:Nat),((OP l.length).map λj=>(((i+j+1)*l.getD j 0:Nat):Int)).sum=(Ez i l:Int)
 | [],i=>rfl
 | x::r,i=>by
  have ih:=zC r (i+1)
  rw[Py,List.range_succ_eq_map,Ps,List.sum_cons,PH]
  have e:((λj=>(((i+j+1)*(x::r).getD j 0:Nat):Int))∘Nat.succ)=λj=>(((i+1+j+1)*r.getD j 0:Nat):Int):=by
   funext j
   show(((i+(j+1)+1)*(x::r).getD (j+1) 0:Nat):Int)=_
   rw[List.getD_cons_succ,show i+(j+1)+1=i+1+j+1 by lia]
  rw[e,ih]
  show(((i+0+1)*x:Nat):Int)+_=((i+1)*x+Ez (i+1) r:Nat)
  rw[SD,Ti]
theorem Jo{c kt i:Nat}{ks:List Int}(hc:σ[c]?=some (.cell (.ref kt)))(hk:σ[kt]?=some (.list (ks.map V.int)))(hi:i<ks.length)(hl:ks.length<=100):pt gQ c (.int i) ⟨σ,L⟩=some (.int (ks.getD i 0),⟨σ,L⟩):=by
 have key:W gQ ⟨σ,[some (.int i),some (.ref kt)]⟩ λv st'=>v=.int (ks.getD i 0)/\st'=⟨σ,[some (.int i),some (.ref kt)]⟩:=by
  unfold gQ
  refine bw (xG rfl (xG rfl ?_))
  exact bN hk (PM _) (by lia) (by rw[Pc];lia) (by rw[PB,Pn,bb hi];rfl) ⟨rfl,rfl⟩
 obtain⟨v,st',e,rfl,rfl⟩:=key
 refine(sT (st:=⟨σ,L⟩) hc).trans ?_
 show(gQ ⟨σ,[some (.int i),some (.ref kt)]⟩).map _=_
 rw[e];rfl
theorem Lz{c kt:Nat}{ks:List Int}(hc:σ[c]?=some (.cell (.ref kt)))(hk:σ[kt]?=some (.list (ks.map V.int)))(hl:ks.length=4):pT (pt gQ c) ⟨σ,L⟩ (iL [0,1,2,3])=some (ks.map V.int):=by
 have a:∀i:Nat,i<4->pt gQ c (.int i) ⟨σ,L⟩=some (.int (ks.getD i 0),⟨σ,L⟩):=λi hi=>Jo hc hk (by lia) (by lia)
 have h0:=a 0 (by decide)
 have h1:=a 1 (by decide)
 have h2:=a 2 (by decide)
 have h3:=a 3 (by decide)
 show(pt gQ c (.int (0:Nat)) ⟨σ,L⟩).bind _=_
 rw[h0]
 show Q3 _ ((pt gQ c (.int (1:Nat)) ⟨σ,L⟩).bind _)=_
 rw[h1]
 show Q3 _ (Q3 _ ((pt gQ c (.int (2:Nat)) ⟨σ,L⟩).bind _))=_
 rw[h2]
 show Q3 _ (Q3 _ (Q3 _ ((pt gQ c (.int (3:Nat)) ⟨σ,L⟩).bind _)))=_
 rw[h3]
 clear h0 h1 h2 h3 a hk
 obtain⟨a,ks,rfl⟩:=Qk hl
 obtain⟨b,ks,rfl⟩:=Qk (Qf hl)
 obtain⟨c,ks,rfl⟩:=Qk (Qf (Qf hl))
 obtain⟨d,ks,rfl⟩:=Qk (Qf (Qf (Qf hl)))
 rw[RM.mp (Qf (Qf (Qf (Qf hl))))]
 rfl
theorem AK{kt i:Nat}{ks:List Int}{K:Nat->Int}{Q:V->St->Prop}(hL:L[i]?=some (some (.ref kt)))(hk:σ[kt]?=some (.list (ks.map V.int)))(hl:ks=(OP 4).map K)
  (q:∀g k,(σ++g)[k]?=some (.list (iL (bA (cK K) 4)))->σ.length<=k->Q (.ref k) ⟨σ++g,L⟩) :
  W (kx i (aP (ab (aa (.int 0)) (ab (aa (.int 1)) (ab (aa (.int 2)) (ab (aa (.int 3)) am))))) (dE cn) (gA cn) (eM cn) "_law_row.<locals>.<lambda>" "told" gQ) ⟨σ,L⟩ Q:=by
 unfold kx
 refine xB (cS (ak (xP (ak (xP (ak (xP (ak (xP (aJ ⟨show 4<=1000000 by decide,?_⟩))))))))))
 refine xB ?_
 have el:CB i (dE cn) (.expr (gA cn)) (eM cn) "_law_row.<locals>.<lambda>" "told" ⟨σ++[O.list (iL [0,1,2,3])],L⟩=some ((σ++[O.list (iL [0,1,2,3])]).length,⟨σ++[O.list (iL [0,1,2,3])]++[O.cell (.ref kt)]++[O.clo (dE cn) (.expr (gA cn)) (eM cn) "_law_row.<locals>.<lambda>" [("told",(σ++[O.list (iL [0,1,2,3])]).length)]],L⟩):=by
  unfold CB
  dsimp only
  rw[hL]
 refine⟨_,_,el,?_⟩
 refine br (xs:=iL [0,1,2,3]) (ad (ad ar)) ?_
 have hlen:ks.length=4:=by rw[hl];simp
 have hkeys:pT (pt gQ (σ++[O.list (iL [0,1,2,3])]).length) ⟨σ++[O.list (iL [0,1,2,3])]++[O.cell (.ref kt)]++[O.clo (dE cn) (.expr (gA cn)) (eM cn) "_law_row.<locals>.<lambda>" [("told",(σ++[O.list (iL [0,1,2,3])]).length)]],L⟩ (iL [0,1,2,3])=some (ks.map V.int) :=
  Lz (ad ar) (ad (ad (ad hk))) hlen
 obtain⟨s1,_,_,s4⟩:=zr K
 have ck:∀i j,within 4 i j=true->cK K i j=decide (ks.getD i 0<ks.getD j 0):=λi j h=>by
  obtain⟨hi,hj,_⟩:=fV h
  have e:∀i<4,ks.getD i 0=K i:=λi hi=>by
   rw[hl,O9,Pn,QR hi];rfl
  rw[e i hi,e j hj]
 obtain⟨a1,a2⟩:=fc ck _ s1
 have eo:bA (λi j=>decide (ks.getD i 0<ks.getD j 0)) 4=bA (cK K) 4:=by unfold bA;rw[<- a1]
 have hp:=mK s4
 have em:((bA (cK K) 4).map λi=>(iL [0,1,2,3]).getD i .none)=iL (bA (cK K) 4):=by
  unfold iL
  refine PX λx hx=>?_
  have hx:=hp.lt x hx
  have:x=0\/x=1\/x=2\/x=3:=by lia
  rcases this with rfl | rfl | rfl | rfl<;>rfl
 generalize hσ:σ++[O.list (iL [0,1,2,3])]++[O.cell (.ref kt)]++[O.clo (dE cn) (.expr (gA cn)) (eM cn) "_law_row.<locals>.<lambda>" [("told",(σ++[O.list (iL [0,1,2,3])]).length)]]=τ at hkeys ⊢
 refine⟨.ref τ.length,⟨τ++[O.list (iL (bA (cK K) 4))],L⟩,?_,?_⟩
 ·unfold s8
  rw[hkeys,Ry,gP,Ry]
  have hc:2<=(iL [0,1,2,3]).length/\(iL [0,1,2,3]).length<64/\ks.length=(iL [0,1,2,3]).length/\iG (λi j=>decide (ks.getD i 0<ks.getD j 0)) (within (iL [0,1,2,3]).length) (PySem.W.kas_sort (iL [0,1,2,3]).length)=true:=⟨by decide,by decide,hlen,a2⟩
  refine(if_pos hc).trans ?_
  show gU (.list ((bA (λi j=>decide (ks.getD i 0<ks.getD j 0)) 4).map λi=>(iL [0,1,2,3]).getD i .none)) _=_
  rw[eo,em];rfl
 ·subst hσ
  have:=q ([O.list (iL [0,1,2,3])]++([O.cell (.ref kt)]++([O.clo (dE cn) (.expr (gA cn)) (eM cn) "_law_row.<locals>.<lambda>" [("told",(σ++[O.list (iL [0,1,2,3])]).length)]]++[O.list (iL (bA (cK K) 4))]))) (σ.length+3)
  simp only[OY]at this ⊢
  have e:(σ++([O.list (iL [0,1,2,3])]++([O.cell (V.ref kt)]++[O.clo (dE cn) (.expr (gA cn)) (eM cn) "_law_row.<locals>.<lambda>" [("told",(σ++[O.list (iL [0,1,2,3])]).length)]]))).length=σ.length+3:=by simp
  rw[e]
  exact this (by rw[Pi (PT _ _),Qs];rfl) (PT _ _)
theorem Fm(y:Int):iz[(y.fmod 5).toNat]?=some (.glob (.ref (nZ.getD (kf y) 0))):=by
 obtain⟨h1,h2⟩:=sH y
 have:=z4 _ h1
 rw[PB]at this
 exact this
noncomputable abbrev LR(y:Int)(kp kh:Nat)(hand:V)(kt:Nat)(x5 x6:Option V):List (Option V) := [some (.int y),some (.ref kp),some (.ref kh),some hand,some (.ref kt),x5,x6]
theorem uF{x:V}{j:Nat}(h:(sW pa pb)[j]?=some x):j<4/\x=sx [sg (pa j),sg (pb j)]:=by
 have hj:j<4:=(OW.mp h).1
 unfold sW at h
 rw[Pn,QR hj]at h
 exact⟨hj,(Pw h).symm⟩
noncomputable abbrev Ij:M V:=(aj c5 (bO (ab (dY 7 (bq (ab (bO (ab (getL 6) am) ki) am)) (aa true) (aj jI (aj bf (getL 7) (aa (.int 1))) (aj aA (getL 6) (getL 7))) 1000) am) Hg) (aj bf (aa (.int 2)) (aj c5 (aj ez (getL 0) (aa (.int 5))) (aa (.int 99)))))
theorem KB{kn kp kh kt:Nat}{hand:V}{x5:Option V}{vals:List Nat}(hn:σ[kn]?=some (.list (iL vals)))(hvl:vals.length<=14)(hvs:∀x∈vals,x<2^40){Q:V->St->Prop}
  (q:∀g,Q (.int (((Ez 0 vals:Nat):Int).fmod (Ae y))) ⟨σ++g,LR y kp kh hand kt x5 (some (.ref kn))⟩):W Ij ⟨σ,LR y kp kh hand kt x5 (some (.ref kn))⟩ Q:=by
 have hil:(iL vals).length=vals.length:=Pc _
 have hgs:∀i<vals.length,vals.getD i 0<2^40:=λi hi=>hvs _ (O1 (bb hi))
 refine bw (fz (ak (ug (b:=vals.length) (y:=λi=>V.int (((0+i+1)*vals.getD i 0:Nat):Int)) rfl (by lia) (by decide) (ak (fz (ak (xG rfl (aJ (o6 hn (by lia) (aJ ⟨by rw[hil],rfl⟩))))))) (λi hi g=>?_) λg=>aJ ?_)))
 ·have hv:=hgs i hi
  refine bw (bw (xG rfl (xP (eO (bw (xG rfl (xG rfl (bN (x:=.int (vals.getD i 0:Nat)) (ad hn) (PM _) (by lia) (by lia) (by rw[PB,iL,Pn,bb (d:=0) hi];rfl) ((m4 (by lia)).mpr ⟨?_,[],by rw[O4]⟩)))))))))
  rw[Rw]
  simp only[Tj,Ti]
  rfl
 ·refine IE (l:=(OP vals.length).map λi=>(((0+i+1)*vals.getD i 0:Nat):Int)) (by rw[PH];exact ar) (by rw[Pc,Qg];lia) (λx hx=>?_) ?_
  ·obtain⟨i,hi,rfl⟩:=PY.mp hx
   have hi:=O5.mp hi
   have h1:=hgs i hi
   have h2:(0+i+1)*vals.getD i 0<=15*2^40:=SP (by lia) (by lia)
   clear hvs hgs hn hil
   lia
  ·rw[zC,OY]
   refine bw (xP (bw (bw (xG rfl (xP (mU (by decide) (by decide) (xP (ik (by decide) (eO ?_)))))))))
   exact ik (uq y) (q _)
noncomputable abbrev GM:M Fl:=(aw (af 6 (bz (ab (nQ (getL 3) (ab (getL 5) am) sI) am) eX))
 (eT (bn bE (getL 4) (ab Ij am) cb)))
theorem wn{kp kh kt j:Nat}{x6:Option V}(hj:j<4)(hab:pa j<7/\pb j<7)(hk:σ[kt]?=some (.list ((OP j).map λk=>V.int (tv y pa pb k)))){Q:Fl->St->Prop}
  (q:∀g x6,Q .next ⟨(σ++g).set kt (.list ((OP (j+1)).map λk=>V.int (tv y pa pb k))),LR y kp kh (.glob (.ref (nZ.getD (kf y) 0))) kt (some (sx [sg (pa j),sg (pb j)])) x6⟩) :
  W GM ⟨σ,LR y kp kh (.glob (.ref (nZ.getD (kf y) 0))) kt (some (sx [sg (pa j),sg (pb j)])) x6⟩ Q:=by
 obtain⟨hy,ey⟩:=sH y
 have P:=uG hy hab.1 hab.2
 refine fA (gc (ak ?_))
 refine EQ (xG rfl ⟨_,rfl,?_⟩)
 refine ak (xG rfl (aJ ?_))
 refine Jh hy (zX hy (by decide:2<=3)) ?_
 refine aJ ?_
 refine Ai (l:=fU (kf y) (pa j) (pb j)) (OZ P.len (by decide)) P.words (OZ P.wlen (by decide)) λg2 kn hn=>?_
 refine EJ (dA (xG rfl ⟨xU (ad hk),ak (KB hn (by rw[Pc];exact P.wlen) P.small λg3=>aJ ?_)⟩))
 refine Bf (f:=λk=>V.int (tv y pa pb k)) (ad (ad hk)) (by lia) ?_
 rw[OY]
 exact q _ _
theorem L7{kp:Nat}{Q:V->St->Prop}(hp:σ[kp]?=some (.list (sW pa pb)))(hab:∀k<4,pa k<7/\pb k<7)
  (q:∀g k,(σ++g)[k]?=some (.list (iL (DB y pa pb)))->σ.length<=k->Q (.ref k) ⟨σ++g,L⟩):W (i3 [.int y,.ref kp]) ⟨σ,L⟩ Q:=by
 refine qx (mb:=jo) (L₀ := [some (.int y),some (.ref kp),none,none,none,none,none]) rfl ?_
 unfold jo
 obtain⟨r0,r1⟩:=dh y (n:=5) (by decide)
 refine fA ?_
 refine cS ?_
 refine ak (xP (ak (xP (ak (xP (ak (xP (ak (xP (aJ ?_))))))))))
 refine⟨show 5<=1000000 by decide,?_⟩
 refine fA (bw (xG rfl (bw (xG rfl (xP (ik (by decide) ?_))))))
 refine bN (xs:=iz) ar r0 (by lia) (by decide) (Fm y) ?_
 refine fA (cS (aJ ⟨PQ _,?_⟩))
 have hx:=(Xt.app (σ:=σ) [O.list iz]).on [.list []]
 have hkt:=(Xt.app (σ:=σ) [O.list iz]).len
 have hk2:(σ++[O.list iz]++[O.list []])[(σ++[O.list iz]).length]?=some (.list ((OP 0).map λk=>V.int (tv y pa pb k))):=ar
 refine r5 (xB (o5 (k:=kp) (xs:=sW pa pb) (xG rfl ⟨rfl,hx.get hp,?_⟩)))
 refine sm (γ:=List O×Option V×Option V) (λu=>⟨u.1,LR y kp σ.length (.glob (.ref (nZ.getD (kf y) 0))) (σ++[O.list iz]).length u.2.1 u.2.2⟩) (λj u=>Xt σ u.1/\u.1[(σ++[O.list iz]).length]?=some (.list ((OP j).map λk=>V.int (tv y pa pb k))))
  (λj u hu=>hu.1.get hp) (λj x u hx hu Q q=>?_) (fuel:=1000) (show 4<1000 by decide) (u:=(σ++[O.list iz]++[O.list []],none,none)) ⟨hx,hk2⟩ λv hv=>⟨rfl,?_⟩
 ·obtain⟨hj,rfl⟩:=uF hx
  exact wn hj (hab j hj) hu.2 λg x6=>q (_,_,_) ⟨(hu.1.on g).set hkt _,Qx (aO (ad hu.2))⟩
 ·obtain⟨g,e⟩:=hv.1.ex
  have hk:=hv.2
  refine gq (AK (K:=tv y pa pb) rfl (by rw[PH];exact hk) rfl λg2 k hk2 hle=>?_)
  rw[e]at hk2 ⊢
  rw[OY]at hk2 ⊢
  exact q _ _ hk2 (OZ hv.1.len hle)
noncomputable def vM:List (List (Nat×List Nat)) := [[(38,[38,97,109,112,59]),(60,[38,108,116,59]),(62,[38,103,116,59])],
 [(38,[38,97,109,112,59]),(60,[38,108,116,59]),(62,[38,103,116,59]),(34,[38,113,117,111,116,59]),(13,[38,35,49,51,59]),(10,[38,35,49,48,59]),(9,[38,35,48,57,59])],
 [(38,[38,97,109,112,59]),(62,[38,103,116,59]),(34,[38,113,117,111,116,59])],
 [(38,[38,97,109,112,59]),(60,[38,108,116,59]),(62,[38,103,116,59]),(13,[38,35,120,68,59])],
 [(38,[38,97,109,112,59]),(60,[38,108,116,59]),(34,[38,113,117,111,116,59]),(13,[38,35,120,68,59]),(10,[38,35,120,65,59]),(9,[38,35,120,57,59])]]
noncomputable def iD(k c:Nat):List Nat:=((vM.getD k []).lookup c).getD [c]
theorem wL:((OP 5).all λk=>A8.all λc=>iD k c==((b3.getD k []).lookup c).getD [c]&&decide ((iD k c).length<=6))=true:=by decide+kernel
theorem DF{i:Nat}(h:i<7):sg i∈A8:=O1 (bb (l:=A8) h)
theorem nG{k c:Nat}(hk:k<5)(hc:c∈A8):iD k c=((b3.getD k []).lookup c).getD [c]/\(iD k c).length<=6:=by
 have:=O6.mp (O6.mp wL k (O5.mpr hk)) c hc
 simpa only[PD,beq_iff_eq,decide_eq_true_eq]using this
noncomputable def ee(k:Nat):List (Str×V):=(vM.getD k []).map λp=>(tx [p.1],sx p.2)
theorem pz:∀(l:List (Nat×List Nat))(c:Nat),((l.map λp=>(tx [p.1],sx p.2)).lookup (tx [c]))=(l.lookup c).map sx
 | [],_=>rfl
 | (d,z)::r,c=>by
  rw[Ps,Ru,Ru,lV,E9,pz r c]
  cases c==d<;>rfl
theorem OF{k:Nat}{es:List (Str×V)}(h:σ[k]?=some (.dict es)):pS σ (.ref k)=true:=by unfold pS;rw[show(qd (V.ref k)).bind (λk=>σ[k]?)=some (O.dict es)from h]
theorem Ir{kd:Nat}{es:List (Str×V)}{x:Str}{d:V}{Q:V->St->Prop}(hk:st.σ[kd]?=some (.dict es))(q:Q ((es.lookup x).getD d) st):W (Cc [.ref kd,.str x,d]) st Q:=eK hk (xP q)
theorem AM{k i j:Nat}{Q:V->St->Prop}(hk:k<5)(hi:i<7)(hj:j<7)(h:∀g,Q (sx (spell k i j)) ⟨σ++g,L⟩):W (eY [sx [sg i,sg j],.int k]) ⟨σ,L⟩ Q:=by
 refine qx (mb:=fo) (L₀ := [some (sx [sg i,sg j]),some (.int k),none]) rfl ?_
 unfold fo
 refine fA ?_
 refine cS ?_
 refine ak ?_
 refine vp ?_
 refine d7 z8 (xK Cy (d7 Fw (xK Fy (d7 Fx (xK Fz (xP ?_))))))
 refine⟨by decide,?_⟩
 refine ak ?_
 refine vp ?_
 refine d7 z8 (xK Cy (d7 Fw (xK Fy (d7 Fx (xK Fz (d7 FA (xK Jn (d7 Jm (xK Nv (d7 z7 (xK Nx (d7 Lq (xK Ny (xP ?_))))))))))))))
 refine⟨by decide,?_⟩
 refine ak ?_
 refine vp ?_
 refine d7 z8 (xK Cy (d7 Fx (xK Fz (d7 FA (xK Jn (xP ?_))))))
 refine⟨by decide,?_⟩
 refine ak ?_
 refine vp ?_
 refine d7 z8 (xK Cy (d7 Fw (xK Fy (d7 Fx (xK Fz (d7 Jm (xK Lr (xP ?_))))))))
 refine⟨by decide,?_⟩
 refine ak ?_
 refine vp ?_
 refine d7 z8 (xK Cy (d7 Fw (xK Fy (d7 FA (xK Jn (d7 Jm (xK Lr (d7 z7 (xK NA (d7 Lq (xK Nz (xP ?_))))))))))))
 refine⟨by decide,?_⟩
 refine aJ ?_
 refine⟨show 5<=1000000 by decide,?_⟩
 refine gq (dA (xK tz ?_))
 refine⟨rfl,?_⟩
 refine ak ?_
 have h1:∀k<5,∃a,[V.ref σ.length,V.ref (σ++[O.dict (ee 0)]).length,V.ref (σ++[O.dict (ee 0)]++[O.dict (ee 1)]).length,V.ref (σ++[O.dict (ee 0)]++[O.dict (ee 1)]++[O.dict (ee 2)]).length,V.ref (σ++[O.dict (ee 0)]++[O.dict (ee 1)]++[O.dict (ee 2)]++[O.dict (ee 3)]).length][k]?=some (.ref a) /\
   (σ++[O.dict (ee 0)]++[O.dict (ee 1)]++[O.dict (ee 2)]++[O.dict (ee 3)]++[O.dict (ee 4)])[a]?=some (.dict (ee k)) :=
  Ov (p:=λk=>∃a,[V.ref σ.length,V.ref (σ++[O.dict (ee 0)]).length,V.ref (σ++[O.dict (ee 0)]++[O.dict (ee 1)]).length,V.ref (σ++[O.dict (ee 0)]++[O.dict (ee 1)]++[O.dict (ee 2)]).length,V.ref (σ++[O.dict (ee 0)]++[O.dict (ee 1)]++[O.dict (ee 2)]++[O.dict (ee 3)]).length][k]?=some (.ref a) /\
   (σ++[O.dict (ee 0)]++[O.dict (ee 1)]++[O.dict (ee 2)]++[O.dict (ee 3)]++[O.dict (ee 4)])[a]?=some (.dict (ee k)))
   ⟨_,rfl,ad (ad (ad (ad ar)))⟩ ⟨_,rfl,ad (ad (ad ar))⟩ ⟨_,rfl,ad (ad ar)⟩ ⟨_,rfl,ad ar⟩ ⟨_,rfl,ar⟩
 obtain⟨a,ha,hd⟩:=h1 k hk
 have hmem:∀c∈[sg i,sg j],c∈A8:=λc hc=>by
  rcases PW.mp hc with rfl | hc
  ·exact DF hi
  ·rw[OS.mp hc];exact DF hj
 refine FE (l := [sg i,sg j]) (y:=λc=>sx (iD k c)) rfl (show 2<1000 by decide) (by decide) (xG rfl ⟨rfl,[],by rw[O4]⟩) (λc hc g=>?_) λg=>?_
 ·refine dA (bw (xG rfl (xG rfl (bN (ad ar) (PM _) (by lia) (show 5<=1000000 by decide) (by rw[PB];exact ha) ⟨OF (ad (ad hd)),ak (xG rfl (ak (xG rfl (aJ (Ir (es:=ee k) (ad (ad hd)) ⟨?_,[],?_⟩)))))⟩))))
  ·unfold ee iD
   rw[pz]
   cases(vM.getD k []).lookup c<;>rfl
  ·rw[O4]
 ·refine aJ ?_
  have l1:=(nG hk (hmem _ (Pe ..))).2
  have l2:=(nG hk (hmem (sg j) (Pa _ (Pe ..)))).2
  have e:([sg i,sg j].map λc=>iD k c).flatten=spell k i j:=by
   unfold spell
   rw[List.flatMap_def]
   congr 1
   exact PX λc hc=>(nG hk (hmem c hc)).1
  refine jT (ls := [sg i,sg j].map λc=>iD k c) (by rw[PH];exact ar) ?_ ?_
  ·show(iD k (sg i)++(iD k (sg j)++[])).length<=_
   rw[O2,O2]
   show _+(_+0)<=_
   lia
  ·rw[e]
   simp only[OY]
   exact h _
noncomputable def uL:List Nat->Nat->Bool
 | [],_=>true
 | c::r,m=>if c<64 then uL r 0 else decide (m+1<=9)&&uL r (m+1)
noncomputable def fH(c:Nat):Bool:=decide (c<64)
theorem AR:((OP 5).all λk=>(OP 7).all λi=>(OP 7).all λj=>uL (fU k i j).reverse 0&&pick (eF (fU k i j).length) (fU k i j)==(fU k i j).reverse)=true:=by decide+kernel
theorem Ho{k i j:Nat}(hk:k<5)(hi:i<7)(hj:j<7):uL (fU k i j).reverse 0=true/\pick (eF (fU k i j).length) (fU k i j)=(fU k i j).reverse:=by
 have:=O6.mp (O6.mp (O6.mp AR k (O5.mpr hk)) i (O5.mpr hi)) j (O5.mpr hj)
 simpa only[PD,beq_iff_eq]using this
noncomputable abbrev Es:M Fl:=(aw (a8 (aT EH (bO (ab (getL 8) am) mI) (aa (.int 64))) (aw (af 6 (aa (.int 0)))
 (af 7 (aj s9 (getL 7) (aa (.int 1))))) (af 6 (aj bf (getL 6) (aa (.int 1)))))
 (af 5 (aj bf (getL 5) (aj jI (aj jI (getL 7) (aj c5 (bO (ab (getL 8) am) mI) (aa (.int 64)))) (aj An (aa (.int 64)) (getL 6))))))
theorem L2{m:Nat}(h:m<=9):((64:Int)^m).natAbs<2^64/\(64:Int)^m=((64^m:Nat):Int):=by
 have e:(64:Int)^m=((64^m:Nat):Int):=by rw[Int.natCast_pow];rfl
 refine⟨?_,e⟩
 rw[e,Int.natAbs_natCast]
 have:64^m<=64^9:=Nat.pow_le_pow_right (by decide) h
 lia
noncomputable abbrev LO(x0 x1 x2 x3 x4 x5 x6 x7 x8:Option V):List (Option V) := [x0,x1,x2,x3,x4,x5,x6,x7,x8]
theorem zB{x0 x1 x2 x3 x4:Option V}{c worth more weight:Nat}{Q:Fl->St->Prop}(hm:more<=9)(q:Q .next ⟨σ,LO x0 x1 x2 x3 x4 (some (.int ((worth+weight*(c%64)*64^more:Nat):Int))) (some (.int more)) (some (.int weight)) (some (sx [c]))⟩) :
  W (af 5 (aj bf (getL 5) (aj jI (aj jI (getL 7) (aj c5 (bO (ab (getL 8) am) mI) (aa (.int 64)))) (aj An (aa (.int 64)) (getL 6))))) ⟨σ,LO x0 x1 x2 x3 x4 (some (.int worth)) (some (.int more)) (some (.int weight)) (some (sx [c]))⟩ Q:=by
 refine xA (bw (xG rfl (bw (bw (xG rfl (bw (fz (ak (xG rfl (aJ ?_))))))))))
 refine o7.mpr ?_
 refine xP (ik (by decide) ?_)
 rw[show(c:Int).fmod 64=((c%64:Nat):Int)from mm c 64]
 refine(m4 (by have:=SQ c (show 64>0 by decide);lia)).mpr ?_
 refine bw (xP (xG rfl ?_))
 refine(IA ⟨PM _,by lia,by decide⟩).mpr ?_
 obtain⟨p1,p2⟩:=L2 hm
 rw[PB]
 refine(m4 p1).mpr ?_
 refine eO ?_
 rw[p2,show(worth:Int)+(weight:Int)*((c%64:Nat):Int)*((64^more:Nat):Int)=((worth+weight*(c%64)*64^more:Nat):Int) by rw[Ti,Tj,Tj]]
 exact q
theorem AY{x0 x1 x2 x3 x4:Option V}{c worth more weight:Nat}{r:List Nat}(hr:uL (c::r) more=true)(hw:weight=1+((c::r).filter fH).length){Q:Fl->St->Prop}
  (q:∀worth' more' weight',uL r more'=true->weight'=1+(r.filter fH).length->(lD (c::r) (worth,more,weight)).1=(lD r (worth',more',weight')).1->Q .next ⟨σ,LO x0 x1 x2 x3 x4 (some (.int (worth':Nat))) (some (.int (more':Nat))) (some (.int (weight':Nat))) (some (sx [c]))⟩) :
  W Es ⟨σ,LO x0 x1 x2 x3 x4 (some (.int worth)) (some (.int more)) (some (.int weight)) (some (sx [c]))⟩ Q:=by
 unfold uL at hr
 refine qz (cU (fz (ak (xG rfl (aJ (o7.mpr (xP (Hy (gW (A3 (λhc=>?_) λhc=>?_))))))))))
 ·have hc:c<64:=Rb.mp hc
  rw[if_pos hc]at hr
  rw[Q8 (show fH c=true from decide_eq_true hc),Py]at hw
  refine OJ (fA (xP (fA (bw (xG rfl (xP (zD ?_)))))))
  rw[show((weight:Nat):Int) - 1=((1+(r.filter fH).length:Nat):Int) by lia]
  refine zB (more:=0) (by decide) (q _ 0 _ hr rfl ?_)
  rw[lD,if_pos hc,Nat.pow_zero,Nat.mul_one,show weight - 1=1+(r.filter fH).length by lia]
 ·have hc:¬c<64:=λh=>hc (Rb.mpr h)
  rw[if_neg hc,PD,decide_eq_true_eq]at hr
  rw[Q7 (by unfold fH;rw[decide_eq_false hc];exact PA)]at hw
  refine fA (bw (xG rfl (xP (eO ?_))))
  rw[show((more:Nat):Int)+1=((more+1:Nat):Int)from rfl]
  refine zB hr.1 (q _ _ _ hr.2 hw ?_)
  rw[lD,if_neg hc]
theorem w3{x0 x1 x2 x3 x4:Option V}{l:List Nat}{n:Nat}{Q:Fl->St->Prop}(q:∀x6 x7 x8,Q .next ⟨σ,LO x0 x1 x2 x3 x4 (some (.int (n:Nat))) x6 x7 x8⟩):∀(rest:List Nat)(pos fuel worth more weight:Nat)(x8:Option V),l.drop pos=rest->rest.length<fuel->uL rest more=true->weight=1+(rest.filter fH).length->(lD rest (worth,more,weight)).1=n ->
  W (b4 d4 8 Es fuel (.str (tx l) pos)) ⟨σ,LO x0 x1 x2 x3 x4 (some (.int worth)) (some (.int more)) (some (.int weight)) x8⟩ Q:=by
 intro rest
 induction rest with
 | nil =>
  intro pos fuel worth more weight x8 hd hf _ _ hn
  cases fuel with
  | zero=>exact absurd hf (Pm _)
  | succ f =>
   have hx:(tx l).cps[pos]?=none:=by
    have:l.length<=pos:=Sp.mp hd
    simp[tx];omega
   refine iE ⟨none,_,by rw[lS,hx];rfl,?_⟩
   subst hn
   exact q _ _ _
 | cons c r ih =>
  intro pos fuel worth more weight x8 hd hf hr hw hn
  cases fuel with
  | zero=>exact absurd hf (Pm _)
  | succ f =>
   have hx:(tx l).cps[pos]?=some c:=by
    have:l[pos]?=some c:=by rw[<- SD pos,<- List.getElem?_drop,hd];rfl
    simpa[tx]using this
   have hd2:l.drop (pos+1)=r:=by rw[<- List.tail_drop,hd];rfl
   refine iE ⟨some (sx [c],.str (tx l) (pos+1)),_,by rw[lS,hx];rfl,?_⟩
   exact xS (AY hr hw λworth' more' weight' r1 r2 r3=>ih _ _ _ _ _ _ hd2 (Pp hf) r1 r2 (r3.symm.trans hn))
theorem IC{m:M V}{l r:List Nat}{Q:V->St->Prop}(h:W m st λx st'=>x=sx l/\Q (sx r) st')(hl:l.length<=1000000)(hr:pick (eF l.length) l=r):W (uI m) st Q:=by
 refine xB (h.mono λx s1 ⟨e,q⟩=>?_)
 subst e
 have ht:(tx l).length=l.length:=b0 l
 show W (if (tx l).length<=1000000 then _ else _) _ _
 rw[ht]
 exact cM hl (bp.mpr (by
  have:pick (eF l.length) (tx l).cps.toList=r:=by rw[<- hr]
  rw[this];exact q))
noncomputable def L3(K:Nat->Int)(j:Nat):List V := [.int (K j),.int j]
theorem GE{K:Nat->Int}{i r:Nat}(h:σ[r]?=some (.list (L3 K i))):ko σ (.ref r)=some (K i,(i:Int)):=by
 unfold ko
 show(gm σ[r]?).bind _=_
 rw[h];rfl
theorem pY{K:Nat->Int}{t:Nat->Nat}:∀l:List Nat,(∀k∈l,σ[t k]?=some (.list (L3 K k)))->(l.map λk=>V.ref (t k)).mapM (ko σ)=some (l.map λ(k:Nat)=>(K k,(k:Int)))
 | [],_=>rfl
 | k::l,h=>by
  rw[Ps,Qn,pY l λj hj=>h j (Pa _ hj),GE (h k (Pe ..))]
  rfl
theorem Cd{α:Type}{f:Nat->α}{i:Nat}(hi:i<4)(d:α):((OP 4).map f).getD i d=f i:=vO (p:=λi=>((OP 4).map f).getD i d=f i) hi rfl rfl rfl rfl
theorem EZ{k:Nat}{t:Nat->Nat}{K:Nat->Int}{Q:V->St->Prop}(hk:σ[k]?=some (.list ((OP 4).map λk=>V.ref (t k))))(h:oj σ 4 t (L3 K))
  (q:Q (.ref σ.length) ⟨σ++[.list ((bA (cK K) 4).map λi=>V.ref (t i))],L⟩):W (kK [.ref k]) ⟨σ,L⟩ Q:=by
 refine br hk ?_
 obtain⟨_,s2,s3,s4⟩:=zr K
 have hp:=mK s4
 have hm:((OP 4).map λk=>V.ref (t k)).mapM (ko σ)=some ((OP 4).map λ(k:Nat)=>(K k,(k:Int))):=pY (OP 4) λk hk=>h.at_ k (O5.mp hk)
 have hnd:(((OP 4).map λ(k:Nat)=>(K k,(k:Int))).map (·.2)).Nodup:=by rw[PH];exact(by decide:([0,1,2,3]:List Int).Nodup)
 obtain⟨a1,a2⟩:=fc (c':=zO ((OP 4).map λ(k:Nat)=>(K k,(k:Int)))) (λi j h=>by
  obtain⟨hi,hj,_⟩:=fV h
  show EG _ _=EG _ _
  rw[Cd hi,Cd hj]) _ s2
 have eo:bA (zO ((OP 4).map λ(k:Nat)=>(K k,(k:Int)))) 4=bA (cK K) 4:=by rw[<- s3];unfold bA;rw[<- a1]
 have em:((bA (cK K) 4).map λi=>((OP 4).map λk=>V.ref (t k)).getD i .none)=(bA (cK K) 4).map λi=>V.ref (t i):=PX λx hx=>Cd (hp.lt x hx) _
 refine⟨_,_,?_,q⟩
 show((((OP 4).map λk=>V.ref (t k)).mapM (ko σ)).bind λps=>nF _ ps ⟨σ,L⟩)=_
 rw[hm,Ry]
 unfold nF
 have hlen:((OP 4).map λ(k:Nat)=>(K k,(k:Int))).length=4:=rfl
 rw[hlen,if_pos ⟨by decide,by decide,hnd,a2⟩,eo,em]
 rfl
set_option genInjectivity false in
structure OU where
 σ:List O
 t:Nat->Nat
 x3:Option V
 x4:Option V
 x5:Option V
 x6:Option V
 x7:Option V
 x8:Option V
structure OV(K:Nat->Int)(σ:List O)(j:Nat)(u:OU):Prop where
 x:Xt σ u.σ
 w:u.σ[σ.length]?=some (.list ((OP j).map λk=>V.ref (u.t k)))
 p:oj u.σ j u.t (L3 K)
 n:∀k<j,σ.length≠u.t k
noncomputable abbrev OU.fr(y:Int)(kp kw:Nat)(u:OU):List (Option V):=LO (some (.int y)) (some (.ref kp)) (some (.ref kw)) u.x3 u.x4 u.x5 u.x6 u.x7 u.x8
theorem oj.set{j a:Nat}{t:Nat->Nat}{f:Nat->List V}{o:O}(h:oj σ j t f)(n:∀k<j,a≠t k):oj (σ.set a o) j t f:=⟨λk hk=>(Qr (n k hk)).trans (h.at_ k hk)⟩
theorem Ik{j a b:Nat}{t:Nat->Nat}(n:∀k<j,a≠t k)(h:a≠b):∀k<j+1,a≠w1 t j b k:=jy (p:=λu b=>a≠b) n h
theorem FB{j:Nat}{K:Nat->Int}{u:OU}{x:Int}{τ:List O}(hu:OV K σ j u)(hτ:∃g,τ=u.σ++g)(hj:j<=4)(hx:x.fmod (Ae y)=K j){kp:Nat}{x3 x4 x6 x7 x8:Option V}{Q:Fl->St->Prop}(q:∀v,OV K σ (j+1) v->Q .next ⟨v.σ,v.fr y kp σ.length⟩) :
  W (eT (bn bE (getL 2) (ab (aP (ab (aj c5 (getL 5) (aj bf (aa (.int 2)) (aj c5 (aj ez (getL 0) (aa (.int 5))) (aa (.int 99))))) (ab (bO (ab (getL 2) am) ki) am))) am) cb)) ⟨τ,LO (some (.int y)) (some (.ref kp)) (some (.ref σ.length)) x3 x4 (some (.int x)) x6 x7 x8⟩ Q:=by
 obtain⟨g,rfl⟩:=hτ
 have hk:=ad (r:=g) hu.w
 have hl:((OP j).map λk=>V.ref (u.t k)).length=j:=by rw[Pc,Qg]
 refine EJ (dA (xG rfl ?_))
 refine⟨xU hk,?_⟩
 refine ak ?_
 refine cS ?_
 refine ak (bw (xG rfl (bw (xP (bw (bw (xG rfl (xP (mU (by decide) (by decide) (xP (ik (by decide) (eO ?_))))))))))))
 refine ik (uq y) ?_
 refine ak (fz (ak (xG rfl (aJ ?_))))
 refine o6 hk (by lia) ?_
 rw[hl,show x.fmod (2+(y.fdiv 5).fmod 99)=K j from hx]
 refine aJ ?_
 refine⟨show 2<=1000000 by decide,?_⟩
 refine aJ ?_
 refine gH (ad hk) (by lia) ?_
 rw[sL u.t (u.σ++g).length V.ref]
 have lt:=aO hk
 have hn:σ.length≠(u.σ++g).length:=Pg lt
 exact q ⟨_,w1 u.t j (u.σ++g).length,x3,x4,_,x6,x7,x8⟩ ⟨((hu.x.on g).on _).set (O8 _) _,Qx (aO (ad hk)),(((hu.p.app g).app _).snoc ar).set (Ik hu.n hn),Ik hu.n hn⟩
theorem uA{j kp:Nat}{u:OU}(hu:OV (tv y pa pb) σ j u)(hj:j<4)(hab:pa j<7/\pb j<7){Q:Fl->St->Prop}(q:∀v,OV (tv y pa pb) σ (j+1) v->Q .next ⟨v.σ,v.fr y kp σ.length⟩) :
  W (aw (af 4 (bz (ab (getL 3) (ab (aj c5 (getL 0) (aa (.int 5))) am)) eY))
 (aw (af 5 (aa (.int 0)))
 (aw (af 6 (aa (.int 0)))
 (aw (af 7 (aj bf (aa (.int 1)) (bO (ab (dY 9 (fj (getL 4)) (aT EH (bO (ab (getL 9) am) mI) (aa (.int 64))) (getL 9) 1000) am) ki)))
 (aw (ao (fj (uI (getL 4))) λit=>b4 d4 8 Es 1000 it)
 (eT (bn bE (getL 2) (ab (aP (ab (aj c5 (getL 5) (aj bf (aa (.int 2)) (aj c5 (aj ez (getL 0) (aa (.int 5))) (aa (.int 99))))) (ab (bO (ab (getL 2) am) ki) am))) am) cb)))))))
  ⟨u.σ,LO (some (.int y)) (some (.ref kp)) (some (.ref σ.length)) (some (sx [sg (pa j),sg (pb j)])) u.x4 u.x5 u.x6 u.x7 u.x8⟩ Q:=by
 obtain⟨hy,ey⟩:=sH y
 have P:=uG hy hab.1 hab.2
 obtain⟨t1,t2⟩:=Ho hy hab.1 hab.2
 have hlen:=P.len
 have hwp:((lD (fU (kf y) (pa j) (pb j)).reverse (0,0,1+((fU (kf y) (pa j) (pb j)).filter λc=>decide (c<64)).length)).1:Int).fmod (Ae y)=tv y pa pb j:=by rw[P.worth];rfl
 refine fA (gc (ak (xG rfl (ak (bw (xG rfl (xP (ik (by decide) (aJ ?_)))))))))
 rw[ey]
 refine AM hy hab.1 hab.2 λg1=>?_
 rw[P.spell]
 generalize fU (kf y) (pa j) (pb j)=t at t1 t2 hlen hwp ⊢
 clear P ey hy hab
 refine fA (xP (fA (xP (fA (bw (xP (fz (ak ?_))))))))
 refine Os (p:=fH) (y:=λc=>sx [c]) rfl (Pr hlen (by decide)) (by decide) (xG rfl ⟨rfl,rfl⟩) (λc hc g=>cU (fz (ak (xG rfl (aJ (o7.mpr (xP (Hy (gW ⟨decide_eq_decide.mpr Rb,[],by rw[O4]⟩)))))))) ) (λc hc hp g=>xG rfl ⟨rfl,[],by rw[O4]⟩) λg2=>?_
 have hfl:((t.filter fH).map λc=>sx [c]).length=(t.filter fH).length:=Pc _
 have hfle:=List.length_filter_le fH t
 refine aJ ?_
 refine o6 (xs:=(t.filter fH).map λc=>sx [c]) ar (by lia) ?_
 rw[hfl]
 refine eO ?_
 rw[show(1:Int)+((t.filter fH).length:Int)=((1+(t.filter fH).length:Nat):Int) by lia]
 have hfr:(t.reverse.filter fH).length=(t.filter fH).length:=by rw[List.filter_reverse,List.length_reverse]
 refine r5 (xB (EV (l:=t.reverse) (IC (xG rfl ⟨rfl,⟨rfl,?_⟩⟩) (by lia) t2)))
 exact w3 (λx6 x7 x8=>⟨rfl,FB hu ⟨g1++(g2++[.list ((t.filter fH).map λc=>sx [c])]),by simp only[OY]⟩ (Pq hj) hwp q⟩) t.reverse 0 1000 0 0 (1+(t.filter fH).length) u.x8 rfl (by rw[List.length_reverse];lia) t1 (by rw[hfr]) rfl
theorem GC{kp:Nat}{Q:V->St->Prop}(hp:σ[kp]?=some (.list (sW pa pb)))(hab:∀k<4,pa k<7/\pb k<7)
  (q:∀g k,(σ++g)[k]?=some (.list (iL (DB y pa pb)))->σ.length<=k->Q (.ref k) ⟨σ++g,L⟩):W (gx [.int y,.ref kp]) ⟨σ,L⟩ Q:=by
 refine qx (mb:=gC) (L₀:=LO (some (.int y)) (some (.ref kp)) none none none none none none none) rfl ?_
 unfold gC
 refine fA (cS (aJ ⟨PQ _,?_⟩))
 refine r5 (xB (o5 (k:=kp) (xs:=sW pa pb) (xG rfl ⟨rfl,ad hp,?_⟩)))
 refine sm (γ:=OU) (λu=>⟨u.σ,u.fr y kp σ.length⟩) (OV (tv y pa pb) σ) (λj u hu=>hu.x.get hp) (λj x u hx hu Q q=>?_) (fuel:=1000) (show 4<1000 by decide) (u:=OU.mk (σ++[O.list []]) (λm=>0) none none none none none none) (OV.mk (Xt.app _) ar .zero λk hk=>absurd hk (Pm _)) λv hv=>⟨rfl,?_⟩
 ·obtain⟨hj,rfl⟩:=uF hx
  exact uA hu hj (hab j hj) q
 ·have hperm:=mK (zr (tv y pa pb)).perm
  refine gq (NM (kl:=v.σ.length) (l:=bA (cK (tv y pa pb)) 4) (f:=λi=>V.ref (v.t i)) (y:=λi=>V.int ((i:Nat):Int)) rfl (by rw[hperm.len];decide) (fz (ak (xG rfl (aJ (EZ hv.w hv.p ⟨rfl,_,rfl,ar⟩))))) (λi hi g2=>bw (xG rfl (xP (bN (xs:=L3 (tv y pa pb) i) (x:=.int i) (ad (hv.p.at_ i (hperm.lt i hi))) (by decide) (by decide) (show 2<=1000000 by decide) rfl ⟨rfl,[],by rw[O4]⟩)))) λg2=>?_)
  obtain⟨g,e⟩:=hv.x.ex
  have fin:=q (g++(g2++[.list (iL (DB y pa pb))])) (v.σ++g2).length
  rw[<- OY,<- OY,<- e]at fin
  exact fin ar (hv.x.on g2).len
end
end Mine
end
section
set_option maxRecDepth 100000
namespace Mine
structure oa(pf:Nat->List Nat)(mu r:Nat->Nat):Prop where
 lt:∀k<4,mu k<4
 st:∀k<4,r (mu k)=r k
 best:∀k<4,∀h<4,r k<=r h->(pf k).idxOf (mu k)<=(pf k).idxOf h
 inj:∀k<4,∀k'<4,mu k=mu k'->k=k'
theorem xH{l:List Nat}{x y:Nat}(hx:x∈l)(h:l.idxOf x=l.idxOf y)(hy:y∈l):x=y:=by
 have h1:l[l.idxOf x]'(Qu hx)=x:=Q9 _
 have h2:l[l.idxOf y]'(Qu hy)=y:=Q9 _
 rw[<- h1,<- h2]
 simp only[h]
noncomputable def pV:Nat->List (List Nat)
 | 0=>[[]]
 | n+1=>(pV n).flatMap λl=>(OP 4).map λx=>x::l
theorem jq:∀{l:List Nat},(∀x∈l,x<4)->l∈pV l.length
 | [],_=>OS.mpr rfl
 | x::l,h=>Qq.mpr ⟨l,jq λy hy=>h y (Pa _ hy),PY.mpr ⟨x,O5.mpr (h x (Pe ..)),rfl⟩⟩
noncomputable def c6:List Nat->Bool
 | []=>true
 | x::l=> !l.contains x&&c6 l
theorem lR:∀{l:List Nat},c6 l=true↔l.Nodup
 | []=>⟨λu=>SK,λu=>rfl⟩
 | x::l=>by
  unfold c6
  rw[PD,lR,Rg,Q2,<- Q5,Po]
theorem Dh:((pV 4).all λl=> !c6 l || l.isPerm (OP 4))=true:=by decide+kernel
theorem qb{mu:Nat->Nat}(lt:∀k<4,mu k<4)(inj:∀k<4,∀k'<4,mu k=mu k'->k=k'):((OP 4).map mu).Perm (OP 4):=by
 have hl:∀x∈(OP 4).map mu,x<4:=λx hx=>by
  obtain⟨k,hk,e⟩:=PY.mp hx
  exact e▸lt k (O5.mp hk)
 have hn:((OP 4).map mu).Nodup:=List.pairwise_map.mpr ((List.nodup_range (n:=4)).imp_of_mem λha hb n e=>n (inj _ (O5.mp ha) _ (O5.mp hb) e))
 have h:=O6.mp Dh _ (jq hl)
 rw[lR.mpr hn]at h
 exact List.isPerm_iff.mp h
theorem Ob{mu g:Nat->Nat}(lt:∀k<4,mu k<4)(inj:∀k<4,∀k'<4,mu k=mu k'->k=k'):g (mu 0)+(g (mu 1)+(g (mu 2)+(g (mu 3)+0)))=g 0+(g 1+(g 2+(g 3+0))) :=
 ((qb lt inj).map g).sum_nat
theorem Ff{f g:Nat->Nat}(h:f 0+(f 1+(f 2+(f 3+0)))=g 0+(g 1+(g 2+(g 3+0))))(le:∀k<4,f k<=g k):∀k<4,f k=g k:=by
 have t0:=le 0 (by decide)
 have t1:=le 1 (by decide)
 have t2:=le 2 (by decide)
 have t3:=le 3 (by decide)
 clear le
 refine LG ?_ ?_ ?_ ?_<;>lia
theorem MP{mu:Nat->Nat}(lt:∀k<4,mu k<4)(inj:∀k<4,∀k'<4,mu k=mu k'->k=k'){x:Nat}(hx:x<4):∃j,j<4/\mu j=x:=by
 obtain⟨j,hj,e⟩:=PY.mp ((qb lt inj).mem_iff.mpr (O5.mpr hx))
 exact⟨j,O5.mp hj,e⟩
theorem tM{pf:Nat->List Nat}{mu r mu' r':Nat->Nat}(hp:∀k<4,cC (pf k))(C:oa pf mu r)(C':oa pf mu' r'):∀t k,k<4->r k=t->mu k=mu' k:=by
 intro t
 induction t using Nat.strongRecOn with
 | _ t ih =>
  have up:∀k<4,r k=t->r k<=r (mu' k):=λk hk e=>by
   apply Nat.le_of_not_lt
   intro n
   obtain⟨j,hj,ej⟩:=MP C.lt C.inj (C'.lt k hk)
   have hrj:=C.st j hj
   rw[ej]at hrj
   rw[hrj]at n
   have:=ih (r j) (e▸n) j hj rfl
   rw[ej]at this
   have:=C'.inj k hk j hj this
   subst this
   exact RF _ n
  have eq:∀k<4,r k=t->r' k<=r' (mu k)->mu k=mu' k:=λk hk e h =>
   xH ((hp k hk).mem _ (C.lt k hk)) (Sw (C.best k hk (mu' k) (C'.lt k hk) (up k hk e)) (C'.best k hk (mu k) (C.lt k hk) h)) ((hp k hk).mem _ (C'.lt k hk))
  have le:∀k<4,r k=t->r' (mu k)<=r' k:=λk hk e=>by
   rcases Nat.le_total (r' k) (r' (mu k))with h | h
   ·rw[eq k hk e h,C'.st k hk];exact O8 _
   ·exact h
  have key:=Ff (f:=λk=>if r (mu k)=t then r' (mu k)else 0) (g:=λz=>if r z=t then r' z else 0) (Ob (g:=λz=>if r z=t then r' z else 0) C.lt C.inj) λk hk=>by
   rw[C.st k hk]
   by_cases h:r k=t
   ·rw[if_pos h,if_pos h];exact le k hk h
   ·rw[if_neg h,if_neg h];exact O8 _
  intro k hk e
  have:=key k hk
  rw[C.st k hk,if_pos e,if_pos e]at this
  exact eq k hk e (Qc this.symm)
noncomputable def z0(pf:Nat->List Nat)(mu:Nat->Nat)(k h:Nat):Int:=((pf k).idxOf (mu k):Int) - ((pf k).idxOf h:Int)
theorem vT{pf:Nat->List Nat}{mu r:Nat->Nat}(hp:∀k<4,cC (pf k))(C:oa pf mu r){k h:Nat}(hk:k<4)(hh:h<4)(g:0<=z0 pf mu k h):r h<=r k/\(r h=r k->z0 pf mu k h=0):=by
 unfold z0 at *
 have key:r k<=r h->(pf k).idxOf (mu k)=(pf k).idxOf h:=λe=>by
  have:=C.best k hk h hh e
  lia
 refine⟨?_,λe=>by rw[key (by lia)];lia⟩
 by_cases e:r k<=r h
 ·have:=xH ((hp k hk).mem _ (C.lt k hk)) (key e) ((hp k hk).mem _ hh)
  have h2:=C.st k hk
  rw[this]at h2
  lia
 ·lia
theorem DA{f:Nat->Nat}{n:Nat}(h:∀i<n,f ((i+1)%n)<=f i):∀i<n,f ((i+1)%n)=f i:=by
 have down:∀j,j<n->∀i,i<=j->f j<=f i:=by
  intro j
  induction j with
  | zero=>exact λu i hi=>Qc (congrArg f (Nat.le_zero.mp hi).symm)
  | succ j ih =>
   intro hj i hi
   have:=h j (Sd hj)
   rw[Nat.mod_eq_of_lt hj]at this
   rcases Sa j i with q | q
   ·rw[show i=j+1 from Sw hi q];exact O8 _
   ·exact OZ this (ih (Sd hj) i q)
 intro i hi
 have hn:0<n:=Pr (PQ _) hi
 have hm:=SQ (i+1) hn
 have hz:=h (n - 1) (Nat.sub_lt hn Nat.one_pos)
 rw[Nat.sub_add_cancel hn,Nat.mod_self]at hz
 refine Sw (h i hi) (OZ (down i hi 0 (PQ _)) (OZ hz (down _ (Nat.sub_lt hn Nat.one_pos) _ (Nat.le_sub_one_of_lt hm))))
theorem FL{pf:Nat->List Nat}{mu r:Nat->Nat}(hp:∀k<4,cC (pf k))(C:oa pf mu r){row:List Nat}(h4:∀x∈row,x<4)
  (h:∀i<row.length,0<=z0 pf mu (row.getD i 0) (row.getD ((i+1)%row.length) 0)):∀i<row.length,z0 pf mu (row.getD i 0) (row.getD ((i+1)%row.length) 0)=0:=by
 have lt:∀i,i<row.length->row.getD i 0<4:=λi hi=>h4 _ (O1 (bb (l:=row) hi))
 have f:∀i,i<row.length->_:=λi hi=>vT hp C (lt i hi) (lt _ (SQ _ (Pr (PQ _) hi))) (h i hi)
 exact λi hi=>(f i hi).2 (DA (f:=λi=>r (row.getD i 0)) (λi hi=>(f i hi).1) i hi)
noncomputable abbrev da(l:List Nat):Nat:=l.getD (l.length - 1) 0
noncomputable def lQ(l:List Nat)(x:Nat):Nat:=l.getD (l.idxOf x+1) 0
noncomputable def dl(l:List Nat):List Nat:=l.drop (l.idxOf (da l)+1)
noncomputable def zc(l:List Nat):Bool := !c6 l.dropLast || ((l.count (da l)==1)==c6 l&&(c6 l&&decide (l.length<=4) || !c6 l&&(!(dl l).isEmpty &&
 ((dl l).all λx=>decide (l.idxOf x+1<l.length)&&(dl l).contains (lQ l x)&&(dl l).all λz=>lQ l x != lQ l z || x==z))))
theorem Df:([1,2,3,4,5].all λn=>(pV n).all zc)=true:=by decide+kernel
structure Ip(l:List Nat):Prop where
 cnt:(l.count (da l)==1)=c6 l
 short:c6 l=true->l.length<=4
 ring:c6 l=false->dl l≠[]/\∀x∈dl l,l.idxOf x+1<l.length/\lQ l x∈dl l/\∀z∈dl l,lQ l x=lQ l z->x=z
theorem zd{l:List Nat}(h4:∀x∈l,x<4)(hl:1<=l.length/\l.length<=5)(hn:c6 l.dropLast=true):Ip l:=by
 have hm:l.length∈[1,2,3,4,5]:=by
  have:l.length=1\/l.length=2\/l.length=3\/l.length=4\/l.length=5:=by lia
  rcases this with e | e | e | e | e<;>rw[e]<;>decide
 have h:=O6.mp (O6.mp Df _ hm) l (jq h4)
 unfold zc at h
 rw[hn]at h
 simp only[Bool.not_true,Bool.false_or,PD,beq_iff_eq,Bool.or_eq_true,decide_eq_true_eq,Q2,O6,Po,bne_iff_ne,List.isEmpty_eq_false_iff]at h
 obtain⟨h1,h2⟩:=h
 refine⟨h1,λe=>?_,λe=>?_⟩
 ·rcases h2 with⟨_,h⟩ | ⟨h,_⟩
  ·exact h
  ·rw[h]at e;exact nc QH e rfl
 ·rcases h2 with⟨h,_⟩ | ⟨_,h,h'⟩
  ·rw[h]at e;exact nc QH e rfl
  ·refine⟨h,λx hx=>?_⟩
   obtain⟨⟨a,b⟩,c⟩:=h' x hx
   exact⟨a,b,λz hz e=>(c z hz).resolve_left λn=>n e⟩
structure oh(pf:Nat->List Nat)(here:List Nat)(mu r:Nat->Nat)(t:Nat):Prop where
 old:∀k<4,k∉here->mu k<4/\mu k∉here/\r k<t/\r (mu k)=r k
 best:∀k<4,k∉here->∀h<4,(h∈here\/r k<=r h)->(pf k).idxOf (mu k)<=(pf k).idxOf h
 inj:∀k<4,k∉here->∀k'<4,k'∉here->mu k=mu k'->k=k'
theorem oh.start{pf:Nat->List Nat}{mu r:Nat->Nat}:oh pf [0,1,2,3] mu r 0:=by
 have n:∀k<4,¬k∉[0,1,2,3]:=λk hk h=>h (by simp;lia)
 exact⟨λk hk h=>absurd h (n k hk),λk hk h=>absurd h (n k hk),λk hk h=>absurd h (n k hk)⟩
theorem oh.core{pf:Nat->List Nat}{mu r:Nat->Nat}{t:Nat}(D:oh pf [] mu r t):oa pf mu r:=by
 have n:∀k:Nat,k∉([]:List Nat):=λk h=>nomatch h
 exact⟨λk hk=>(D.old k hk (n k)).1,λk hk=>(D.old k hk (n k)).2.2.2,λk hk h hh e=>D.best k hk (n k) h hh (.inr e),λk hk k' hk' e=>D.inj k hk (n k) k' hk' (n k') e⟩
theorem oh.congr{pf:Nat->List Nat}{here:List Nat}{mu mu' r:Nat->Nat}{t:Nat}(D:oh pf here mu r t)(h:∀k<4,k∉here->mu' k=mu k):oh pf here mu' r t :=
 ⟨λk hk n=>by rw[h k hk n];exact D.old k hk n,λk hk n=>by rw[h k hk n];exact D.best k hk n,λk hk n k' hk' n'=>by rw[h k hk n,h k' hk' n'];exact D.inj k hk n k' hk' n'⟩
noncomputable def less(here R:List Nat):List Nat:=here.filter λk=> !R.contains k
theorem f8{here R:List Nat}{k:Nat}:k∈less here R↔k∈here/\k∉R:=by
 unfold less
 rw[Th,Q2,<- Q5,Po]
theorem oh.ring{pf:Nat->List Nat}{here R:List Nat}{mu r:Nat->Nat}{t:Nat}(D:oh pf here mu r t)(h4:∀k∈here,k<4)(sub:∀x∈R,x∈here)(cl:∀x∈R,mu x∈R)(inj:∀x∈R,∀z∈R,mu x=mu z->x=z)
  (best:∀x∈R,∀h∈here,(pf x).idxOf (mu x)<=(pf x).idxOf h):oh pf (less here R) mu (λk=>if k∈R then t else r k) (t+1):=by
 have cs:∀k,k∉less here R->(k∉here/\k∉R)\/k∈R:=λk h=>by
  by_cases q:k∈R
  ·exact .inr q
  ·exact .inl ⟨λe=>h (f8.mpr ⟨e,q⟩),q⟩
 have out:∀k<4,k∉here->mu k∉R:=λk hk h m=>(D.old k hk h).2.1 (sub _ m)
 refine⟨λk hk h=>?_,λk hk h g hg q=>?_,λk hk h k' hk' h' e=>?_⟩
 ·rcases cs k h with⟨a,b⟩ | a
  ·obtain⟨o1,o2,o3,o4⟩:=D.old k hk a
   refine⟨o1,λm=>o2 (f8.mp m).1,?_,?_⟩
   ·rw[if_neg b];lia
   ·rw[if_neg b,if_neg (out k hk a)];exact o4
  ·refine⟨h4 _ (sub _ (cl k a)),λm=>(f8.mp m).2 (cl k a),?_,?_⟩
   ·rw[if_pos a];lia
   ·rw[if_pos a,if_pos (cl k a)]
 ·rcases cs k h with⟨a,b⟩ | a
  ·refine D.best k hk a g hg ?_
   rcases q with q | q
   ·exact .inl (f8.mp q).1
   ·rw[if_neg b]at q
    by_cases c:g∈R
    ·exact .inl (sub _ c)
    ·rw[if_neg c]at q;exact .inr q
  ·refine best k a g ?_
   rcases q with q | q
   ·exact(f8.mp q).1
   ·rw[if_pos a]at q
    by_cases c:g∈R
    ·exact sub _ c
    ·rw[if_neg c]at q
     by_cases d:g∈here
     ·exact d
     ·have:=(D.old g hg d).2.2.1;lia
 ·rcases cs k h with⟨a,b⟩ | a<;>rcases cs k' h' with⟨a',b'⟩ | a'
  ·exact D.inj k hk a k' hk' a' e
  ·exact absurd (e▸cl k' a') (out k hk a)
  ·exact absurd (e.symm▸cl k a) (out k' hk' a')
  ·exact inj k a k' a' e
structure Rd(pf:Nat->List Nat)(here:List Nat)(wish c:Nat->Nat):Prop where
 le:∀k<4,c k<=4
 zero:∀k<4,c k=0->wish k=4
 last:∀k<4,1<=c k->wish k=(pf k).getD (c k - 1) 0
 gone:∀k<4,∀i,i+1<c k->(pf k).getD i 0∉here
theorem Rd.less{pf:Nat->List Nat}{here R:List Nat}{wish c:Nat->Nat}(h:Rd pf here wish c):Rd pf (less here R) wish c :=
 ⟨h.le,h.zero,h.last,λk hk i hi m=>h.gone k hk i hi (f8.mp m).1⟩
theorem qa{l:List Nat}(hp:cC l){x:Nat}(hx:x<4):l.idxOf x<4/\l.getD (l.idxOf x) 0=x:=by
 have h:=Qu (hp.mem x hx)
 refine⟨by rw[<- hp.len];exact h,?_⟩
 rw[O9,Pf h]
 exact Q9 h
noncomputable def Cs(l:List Nat):Bool := !jm l || [0,1,2,3].all λi=>l.idxOf (l.getD i 0)==i
theorem Fp:((pV 4).all Cs)=true:=by decide+kernel
theorem ze{l:List Nat}(hp:cC l){i:Nat}(hi:i<4):l.idxOf (l.getD i 0)=i:=by
 have h:=O6.mp Fp l (by have:=jq hp.lt;rw[hp.len]at this;exact this)
 have hb:jm l=true:=by
  unfold jm
  simp only[PD,beq_iff_eq,O6,decide_eq_true_eq,Po]
  exact⟨⟨hp.len,hp.lt⟩,⟨⟨hp.mem 0 (by decide),hp.mem 1 (by decide)⟩,hp.mem 2 (by decide)⟩,hp.mem 3 (by decide)⟩
 unfold Cs at h
 rw[hb]at h
 simp only[Bool.not_true,Bool.false_or,O6,beq_iff_eq]at h
 exact h i (by simp;lia)
theorem Rd.more{pf:Nat->List Nat}{here:List Nat}{wish c:Nat->Nat}{k:Nat}(h:Rd pf here wish c)(hp:cC (pf k))(hk:k<4)(h4:∀k∈here,k<4)(hne:here≠[])(hw:wish k∉here):c k<4:=by
 have:=h.le k hk
 apply RB
 intro n
 have hc:c k=4:=by lia
 obtain⟨x,hx⟩:=SS _ hne
 obtain⟨i1,i2⟩:=qa hp (h4 x hx)
 by_cases q:(pf k).idxOf x=3
 ·have:=h.last k hk (by lia)
  rw[hc,show(4 - 1:Nat)=3 from rfl,<- q,i2]at this
  exact hw (this▸hx)
 ·exact h.gone k hk _ (by lia) (i2▸hx)
theorem Rd.step{pf:Nat->List Nat}{here:List Nat}{wish c:Nat->Nat}{k:Nat}(h:Rd pf here wish c)(hk:k<4)(hw:wish k∉here)(hc:c k<4) :
  Rd pf here (λj=>if j=k then(pf k).getD (c k) 0 else wish j) (λj=>if j=k then c k+1 else c j):=by
 refine⟨λj hj=>?_,λj hj e=>?_,λj hj e=>?_,λj hj i hi=>?_⟩
 ·by_cases q:j=k
  ·simp only[if_pos q];lia
  ·simp only[if_neg q];exact h.le j hj
 ·by_cases q:j=k
  ·simp only[if_pos q]at e;lia
  ·simp only[if_neg q]at e ⊢;exact h.zero j hj e
 ·by_cases q:j=k
  ·subst q;simp only[if_true];rw[Nat.add_sub_cancel]
  ·simp only[if_neg q]at e ⊢;exact h.last j hj e
 ·by_cases q:j=k
  ·subst q
   simp only[if_true]at hi
   by_cases z:i+1=c j
   ·have:=h.last j hj (by lia)
    rw[show c j - 1=i by lia]at this
    rw[<- this];exact hw
   ·exact h.gone j hj i (by lia)
  ·simp only[if_neg q]at hi;exact h.gone j hj i hi
theorem Rd.best{pf:Nat->List Nat}{here:List Nat}{wish c:Nat->Nat}{k:Nat}(h:Rd pf here wish c)(hp:cC (pf k))(hk:k<4)(h4:∀k∈here,k<4)(hw:wish k∈here):1<=c k/\(pf k).idxOf (wish k)=c k - 1/\∀x∈here,(pf k).idxOf (wish k)<=(pf k).idxOf x:=by
 have hc:1<=c k:=by
  apply RB
  intro n
  have:=h.zero k hk (by lia)
  have:=h4 _ hw
  lia
 have hl:=h.last k hk hc
 have hle:=h.le k hk
 have e:(pf k).idxOf (wish k)=c k - 1:=by rw[hl];exact ze hp (by lia)
 refine⟨hc,e,λx hx=>?_⟩
 rw[e]
 obtain⟨i1,i2⟩:=qa hp (h4 x hx)
 apply RB
 intro n
 exact h.gone k hk _ (by lia) (i2▸hx)
structure qA(here:List Nat)(wish:Nat->Nat)(path:List Nat):Prop where
 mem:∀x∈path,x∈here
 len:1<=path.length/\path.length<=5
 nd:c6 path.dropLast=true
 nx:∀i,i+1<path.length->path.getD (i+1) 0=wish (path.getD i 0)
theorem qA.one{here:List Nat}{wish:Nat->Nat}{p:Nat}(hp:p∈here):qA here wish [p] :=
 ⟨λx hx=>by rw[OS.mp hx];exact hp,⟨O8 _,by show 1<=5;decide⟩,rfl,λi hi=>absurd hi (by show ¬i+1<1;lia)⟩
theorem rE{l:List Nat}(h:1<=l.length):da l∈l:=O1 (l:=l) (i:=l.length - 1) (by
 unfold da
 rw[O9,Pf (by omega)];rfl)
theorem qA.snoc{here:List Nat}{wish wish':Nat->Nat}{path:List Nat}(P:qA here wish path)(hn:c6 path=true)(hs:path.length<=4)(same:∀x∈path.dropLast,wish' x=wish x)(hw:wish' (da path)∈here):qA here wish' (path++[wish' (da path)]):=by
 have hl:=P.len
 refine⟨λx hx=>?_,?_,?_,λi hi=>?_⟩
 ·rcases Pk.mp hx with h | h
  ·exact P.mem x h
  ·rw[OS.mp h];exact hw
 ·rw[O2];exact⟨by lia,by show _+1<=5;lia⟩
 ·rw[List.dropLast_concat];exact hn
 ·rw[O2]at hi
  have hi:i+1<path.length+1:=hi
  by_cases q:i+1<path.length
  ·have e1:(path++[wish' (da path)]).getD (i+1) 0=path.getD (i+1) 0:=by rw[O9,O9,O7 q]
   have e2:(path++[wish' (da path)]).getD i 0=path.getD i 0:=by rw[O9,O9,O7 (by lia)]
   rw[e1,e2,P.nx i q]
   refine(same _ ?_).symm
   refine O1 (i:=i) ?_
   rw[List.getElem?_dropLast,if_pos (by lia),O9,Pf (by lia)];rfl
  ·have e0:i=path.length - 1:=by lia
   have e1:(path++[wish' (da path)]).getD (i+1) 0=wish' (da path):=by rw[O9,Pi (by lia),show i+1 - path.length=0 by lia];rfl
   have e2:(path++[wish' (da path)]).getD i 0=da path:=by rw[O9,O7 (by lia),e0,<- O9]
   rw[e1,e2]
structure Nh(here:List Nat)(wish:Nat->Nat)(R:List Nat):Prop where
 ne:R≠[]
 sub:∀x∈R,x∈here
 cl:∀x∈R,wish x∈R
 inj:∀x∈R,∀z∈R,wish x=wish z->x=z
theorem qA.ring{here:List Nat}{wish:Nat->Nat}{path:List Nat}(P:qA here wish path)(h4:∀k∈here,k<4)(hn:c6 path=false):Nh here wish (dl path):=by
 have ok:=zd (λx hx=>h4 x (P.mem x hx)) P.len P.nd
 obtain⟨h1,h2⟩:=ok.ring hn
 have sub:∀x∈dl path,x∈path:=λx hx=>Sr hx
 have nx:∀x∈dl path,wish x=lQ path x:=λx hx=>by
  have hi:=(h2 x hx).1
  have e:path.getD (path.idxOf x) 0=x:=by
   have h:=Qu (sub x hx)
   rw[O9,Pf h]
   exact Q9 h
  have:=P.nx (path.idxOf x) hi
  rw[e]at this
  exact this.symm
 refine⟨h1,λx hx=>P.mem x (sub x hx),λx hx=>?_,λx hx z hz e=>?_⟩
 ·rw[nx x hx];exact(h2 x hx).2.1
 ·rw[nx x hx,nx z hz]at e;exact(h2 x hx).2.2 z hz e
end Mine
end
section
open PySem PySem.Calls
set_option maxRecDepth 100000
namespace Mine
section
variable {α β:Type}{st:St}{σ σ':List O}{L:List (Option V)}
noncomputable def Ad(c:Nat):List Nat:=(Jy c).cps.toList
noncomputable def kY(w:List Nat):List Nat:=((w.filter λc:Nat=> !ED (c:Int)).map Ad).flatten
theorem mn(a b:List Nat):kY (a++b)=kY a++kY b:=by unfold kY;rw[List.filter_append,Ri,Sy]
theorem AV:((OP 4).all λhs=>(OP 12).all λf=>(OP 3).all λm=>kY (lW hs f m)==ty.getD hs []&&(lW hs f m).all λc=> !([10,9,13,34,92].contains c))=true:=by decide+kernel
theorem D4:(qM.all λs=>kY [s]==[s]&& !([10,9,13].contains s))=true:=by decide+kernel
theorem Fo:((OP 27).all λc=> !([10,9,13,34,92].contains (Co c))&&kY [Co c]==[])=true:=by decide+kernel
theorem xE(p:Int):hid p∉[10,9,13,34,92]/\kY [hid p]=[]:=by
 unfold hid
 have h:=O6.mp Fo (p.fmod 27).toNat (O5.mpr (iN p (m:=27) (n:=27) rfl (by decide)).2)
 simpa only[PD,beq_iff_eq,Q2,<- Q5,Po]using h
theorem rY{hs:Nat}(hh:hs<4)(x:Int):kY (fy hs x)=ty.getD hs []/\∀c∈fy hs x,c∉[10,9,13,34,92]:=by
 have h:=O6.mp (O6.mp (O6.mp AV hs (O5.mpr hh)) (lq x) (O5.mpr (oM x))) (x.fmod 3).toNat (O5.mpr (iN x (m:=3) (n:=3) rfl (by decide)).2)
 unfold fy
 simpa only[PD,beq_iff_eq,O6,Q2,<- Q5,Po]using h
theorem u7{s:Nat}(hs:s∈qM):kY [s]=[s]/\s∉[10,9,13]:=by
 have h:=O6.mp D4 s hs
 simpa only[PD,beq_iff_eq,Q2,<- Q5,Po]using h
theorem A0{hs s:Nat}(hh:hs<4)(hst:s∈qM)(x:Int):kY (eH hs s x)=ty.getD hs []++[s]:=by
 have h1:=(xE (x.fdiv 36)).2
 have h2:=(rY hh x).1
 have h3:=(u7 hst).1
 unfold eH
 split
 ·rw[show hid (x.fdiv 36)::fy hs x++[s]=[hid (x.fdiv 36)]++fy hs x++[s]from rfl,mn,mn,h1,h2,h3];rfl
 ·rw[mn,mn,h1,h2,h3,O4]
theorem Jj:∀l∈ty,l≠[]:=by decide
theorem AS{hs:Nat}(hh:hs<4)(x:Int):∃c r,fy hs x=c::r:=by
 refine List.exists_cons_of_ne_nil ?_
 unfold fy lW
 split
 ·exact λe=>Jj _ (O1 (kE hh)) (RE.mp e)
 ·split<;>exact λe=>nomatch e
theorem LQ{c:Nat}(h:c∉[10,9,13,34,92]):c∉[10,9,13]:=λm=>h (List.mem_append_left [34,92] m)
theorem H4{c:Nat}(h:c∉[10,9,13,34,92]):c≠34:=λe=>absurd (show 34∈[10,9,13,34,92] by decide) (e▸h)
theorem um{hs s:Nat}{x:Int}{c:Nat}(h:c∈eH hs s x):c=hid (x.fdiv 36)\/c∈fy hs x\/c=s:=by
 unfold eH at h
 split at h
 ·rcases Pk.mp h with h | h
  ·rcases PW.mp h with h | h
   ·exact .inl h
   ·exact .inr (.inl h)
  ·exact .inr (.inr (OS.mp h))
 ·rcases Pk.mp h with h | h
  ·rcases Pk.mp h with h | h
   ·exact .inr (.inl h)
   ·exact .inl (OS.mp h)
  ·exact .inr (.inr (OS.mp h))
theorem Hx{hs s:Nat}(hh:hs<4)(hst:s∈qM)(x:Int):Wd (eH hs s x):=by
 have h1:=(xE (x.fdiv 36)).1
 have h2:=(rY hh x).2
 refine⟨OZ (jx hh s x) (by decide),λc hc=>?_,?_⟩
 ·rcases um hc with rfl | h | rfl
  ·exact LQ h1
  ·exact LQ (h2 c h)
  ·exact(u7 hst).2
 ·unfold eH
  split
  ·exact⟨_,_,rfl,H4 h1⟩
  ·obtain⟨c,r,e⟩:=AS hh x
   exact⟨c,r++[hid (x.fdiv 36)]++[s],by rw[e];rfl,H4 (h2 c (by rw[e];exact Pe ..))⟩
theorem FJ{c:Nat}{Q:V->St->Prop}(h:Q (sx (Ad c)) ⟨σ,L⟩):W (eZ [sx [c]]) ⟨σ,L⟩ Q:=by
 refine qx (mb:=fq) (L₀ := [some (sx [c]),none]) rfl ?_
 unfold fq
 have hm:Jy c=tx (Ad c):=(rX _).symm
 generalize Ad c=d at *
 unfold Jy at hm
 refine fA (Bh ?_)
 refine fz (ak (xG rfl (aJ ?_)))
 refine o7.mpr ⟨c,rfl,?_⟩
 cases hb:KL c with
 | some y =>
  rw[hb]at hm
  refine qz (xB (xG rfl ?_))
  refine xP (vv (KO (xG rfl ?_)))
  rw[show y=tx d from hm]
  exact h
 | none =>
  rw[hb]at hm
  refine qz (xB (xG rfl ?_))
  refine xP (oJ (A4 ?_))
  refine gq (dA (xG rfl ?_))
  refine⟨rfl,?_⟩
  refine aJ ?_
  refine FH (by rw[b0];show 1<=1000000;decide) ?_
  rw[show Txt.lower (tx [c])=tx d from hm];exact h
noncomputable abbrev HP:M V:=(bn fG (aa (.str (OO ""))) (ab (dY 15 (fj (getL 13)) (we (ao (bz (ab (getL 15) am) fX) c8)) (bz (ab (getL 15) am) eZ) 1000) am) gu)
theorem Jc{w:List Nat}{Q:V->St->Prop}(h13:L[13]?=some (some (sx w)))(hL:L.length=15)(hl:w.length<=900)(hf:(kY w).length<=1000)(q:∀g,Q (sx (kY w)) ⟨σ++g,L⟩):W HP ⟨σ,L⟩ Q:=by
 have h15:∀x:V,(L++[some x])[15]?=some (some x):=λx=>by rw[Pi (by lia),hL];rfl
 refine dA (xK tz ⟨rfl,?_⟩)
 refine ak (Os (p:=λc=> !ED c) (y:=λc=>sx (Ad c)) hL (Pr hl (by decide)) (by decide) (xG h13 ⟨rfl,rfl⟩) (λc u g=>?_) (λc u u g=>?_) λg=>aJ ?_)
 ·exact M8 (xB (gc (ak (xG (h15 _) (aJ (AP (gW ⟨rfl,[],by rw[O4]⟩)))))))
 ·exact gc (ak (xG (h15 _) (aJ (FJ ⟨rfl,[],by rw[O4]⟩))))
 ·refine jT (ls:=(w.filter λc:Nat=> !ED (c:Int)).map Ad) (by rw[PH];exact ar) (show(kY w).length<=_ by lia) ?_
  rw[OY]
  exact q _
noncomputable def eS(s:Nat):List (List Nat):=ty.map (· ++[s])
theorem z5(s:Nat):∀i<4,tx (ty.getD i []++[s])∈(eS s).map tx/\((eS s).map tx).idxOf (tx (ty.getD i []++[s]))=i:=λi hi=>by
 refine⟨PY.mpr ⟨_,PY.mpr ⟨_,O1 (kE hi),rfl⟩,rfl⟩,?_⟩
 unfold eS
 rw[mA λy u e=>wZ e,mA (f:=(· ++[s])) λy u e=>List.append_cancel_right e]
 exact vO (p:=λi=>ty.idxOf (ty.getD i [])=i) hi (by decide) (by decide) (by decide) (by decide)
theorem vC{kH i s:Nat}{Q:V->St->Prop}(hk:st.σ[kH]?=some (.list ((eS s).map sx)))(hi:i<4)(q:Q (.int i) st):W (fM [.ref kH,sx (ty.getD i []++[s])]) st Q:=by
 obtain⟨h1,h2⟩:=z5 s i hi
 refine br hk (ca (kM (eS s)) (cM ⟨by rw[Pc];exact(by decide:4<=1000),h1⟩ (bp.mpr ?_)))
 rw[h2]
 exact q
theorem Bv(i:Nat):∀l:List Nat,((l.map λ(c:Nat)=>Qp c).any λy=>QD y (.int i))=l.contains i
 | []=>rfl
 | x::l=>by
  rw[Ps,List.any_cons,Bv i l,List.contains_cons]
  congr 1
  simp only[QD]
  rw[jr]
  exact Bool.beq_comm
theorem Ct{k i:Nat}{l:List Nat}(h:σ[k]?=some (.list (iL l))):Ln σ (.int i) (.ref k)=some (l.contains i):=by
 show Lo _ _ _=_
 unfold Lo
 rw[sA h,show bF mc σ (.int i)=some (.int i)from rfl]
 have hs:Q1 (Qp (i:Int))=true:=by simp only[Q1,P3,Rc];rfl
 exact(if_pos ⟨hs,nE l⟩).trans (by rw[Bv])
theorem HE{k i:Nat}{l:List Nat}{Q:V->St->Prop}(h:st.σ[k]?=some (.list (iL l)))(q:Q (.bool (l.contains i)) st):W (iA (.int i) (.ref k)) st Q:=⟨_,_,by unfold iA;rw[Ct h];rfl,q⟩
theorem l0{k i:Nat}{l:List Nat}{Q:V->St->Prop}(h:st.σ[k]?=some (.list (iL l)))(q:Q (.bool (!l.contains i)) st):W (fv (.int i) (.ref k)) st Q:=⟨_,_,by unfold fv;rw[Ct h];rfl,q⟩
theorem rB(l:List Nat):dj (iL l)=some (l.map λ(n:Nat)=>(n:Int)):=by
 have:=gP (l.map λ(n:Nat)=>(n:Int))
 rw[PH]at this
 exact this
theorem rc(i:Nat):∀l:List Nat,(l.map λ(n:Nat)=>(n:Int)).count (i:Int)=l.count i
 | []=>rfl
 | x::l=>by rw[Ps,Sv,Sv,rc i l,jr]
theorem xI(i:Nat):∀l:List Nat,(l.map λ(n:Nat)=>(n:Int)).idxOf (i:Int)=l.idxOf i
 | []=>rfl
 | x::l=>by rw[Ps,QV,QV,xI i l,jr]
theorem Bg{k i:Nat}{l:List Nat}{Q:V->St->Prop}(h:st.σ[k]?=some (.list (iL l)))(q:Q (.int (l.count i:Nat)) st):W (sw [.ref k,.int i]) st Q :=
 br h (ca (rB l) (bp.mpr (by rw[rc];exact q)))
theorem Bi{k i:Nat}{l:List Nat}{Q:V->St->Prop}(h:st.σ[k]?=some (.list (iL l)))(hl:l.length<=1000)(hi:i∈l)(q:Q (.int (l.idxOf i:Nat)) st):W (fM [.ref k,.int i]) st Q :=
 br h (ca (rB l) (cM ⟨by rw[Pc];exact hl,PY.mpr ⟨i,hi,rfl⟩⟩ (bp.mpr (by rw[xI];exact q))))
theorem ES{k i:Nat}{l:List (List Nat)}{z:List Nat}{Q:V->St->Prop}(h:st.σ[k]?=some (.list (l.map sx)))(hl:l.length<=1000)(hi:tx z∈l.map tx)(e:(l.map tx).idxOf (tx z)=i)(q:Q (.int i) st):W (fM [.ref k,sx z]) st Q :=
 br h (ca (kM l) (cM ⟨by rw[Pc];exact hl,hi⟩ (bp.mpr (by rw[e];exact q))))
theorem Ix{k:Nat}{xs:List V}{x:V}{Q:V->St->Prop}(hk:st.σ[k]?=some (.list xs))(hl:1<=xs.length/\xs.length<=1000000)(hx:xs[xs.length - 1]?=some x)(q:Q x st):W (aA (.ref k) (.int (-1))) st Q:=by
 refine eK hk (cM ⟨by decide,by decide,hl.2⟩ ?_)
 have h2:¬(0:Int) <= -1:=by decide
 rw[if_neg h2]
 refine cM (by lia) (ca (x:=xs[(-1+(xs.length:Int)).toNat]?) ?_ (xP q))
 rw[show(-1+(xs.length:Int)).toNat=xs.length - 1 by lia]
 exact hx
theorem Cr{l:List Nat}{i:Nat}(h:i<l.length):(iL l)[i]?=some (.int (l.getD i 0:Nat)):=by
 rw[iL,Pn,bb (d:=0) h];rfl
theorem sk{k:Nat}{l:List Nat}{Q:V->St->Prop}(hk:st.σ[k]?=some (.list (iL l)))(hl:1<=l.length/\l.length<=1000)(q:Q (.int (da l:Nat)) st):W (aA (.ref k) (.int (-1))) st Q:=by
 have e:(iL l).length=l.length:=Pc _
 exact Ix hk (by rw[e];lia) (by rw[e];exact Cr (by lia)) q
theorem vD{i:Int}{Q:V->St->Prop}(q:Q (.int (-i)) st):W (qF (aa (.int i))) st Q:=xB (xP (xP q))
theorem g6{k i:Nat}{l:List Nat}{Q:V->St->Prop}(hk:st.σ[k]?=some (.list (iL l)))(hi:i<l.length)(hl:l.length<=1000)(q:Q (.int (l.getD i 0:Nat)) st):W (aA (.ref k) (.int i)) st Q :=
 bN hk (PM _) (by lia) (by rw[iL,Pc];lia) (by rw[PB];exact Cr hi) q
theorem KZ{mv mo mi:M V}{Q:Fl->St->Prop}(h:W mv st λv s1=>W mo s1 λo s2=>W mi s2 λi s3=>∃k j xs,o=.ref k/\i=.int ((j:Nat):Int)/\s3.σ[k]?=some (.list xs)/\j<xs.length/\xs.length<=1000000/\Q .next ⟨s3.σ.set k (.list (xs.set j v)),s3.L⟩):W (kq mv mo mi) st Q :=
 xB (h.mono λv s1 h=>xB (h.mono λo s2 h=>xB (h.mono λi s3 h=>by
  obtain⟨k,j,xs,rfl,rfl,hk,hj,hl,q⟩:=h
  exact br hk (cM ⟨PM _,by lia,hl⟩ ⟨_,_,rfl,by rw[PB];exact q⟩))))
structure KJ(I J:LI):Prop where
 d:I.d≠J.d
 d2:I.d2≠J.d
 ss:I.sg≠J.sg
 sp:I.sg≠J.pb
 ps:I.pb≠J.sg
 pp:I.pb≠J.pb
theorem Lx.keep{I J:LI}{n m:Int}{T U:List Nat}{Q R:List V}(h:Lx I σ n T Q)(hJ:Lx J σ m U R)(hk:Kp J σ σ')(s:KJ I J):Lx I σ' n T Q:=by
 refine⟨hk.get (cq h.lx hJ.d (by simp)) (cq h.lx hJ.sg (by simp)) (cq h.lx hJ.pb (by simp)) h.lx,hk.get s.d (cq h.d hJ.sg (by simp)) (cq h.d hJ.pb (by simp)) h.d,hk.get (cq h.sd hJ.d (by simp)) (cq h.sd hJ.sg (by simp)) (cq h.sd hJ.pb (by simp)) h.sd,?_,
  hk.get (cq h.cl hJ.d (by simp)) (cq h.cl hJ.sg (by simp)) (cq h.cl hJ.pb (by simp)) h.cl,hk.get (cq h.kc hJ.d (by simp)) (cq h.kc hJ.sg (by simp)) (cq h.kc hJ.pb (by simp)) h.kc,hk.get (cq h.sg hJ.d (by simp)) s.ss s.sp h.sg,hk.get (cq h.pb hJ.d (by simp)) s.ps s.pp h.pb,h.ne1,h.ne2,h.tl,h.ql,h.ok⟩
 obtain⟨fs,a,b⟩:=h.d2
 exact⟨fs,hk.get s.d2 (cq a hJ.sg (by simp)) (cq a hJ.pb (by simp)) a,b⟩
theorem Lx.setL{I:LI}{n:Int}{T:List Nat}{Q xs ys:List V}{a:Nat}(h:Lx I σ n T Q)(ha:σ[a]?=some (.list xs))(n1:a≠I.sg)(n2:a≠I.pb):Lx I (σ.set a (.list ys)) n T Q:=by
 have ne:∀{i o},σ[i]?=some o->(∀xs,o≠O.list xs)->(σ.set a (.list ys))[i]?=some o:=λ{i o} e hn=>by
  rw[aH (QA (cq e ha (hn _)))];exact e
 refine⟨ne h.lx (by simp),ne h.d (by simp),ne h.sd (by simp),?_,ne h.cl (by simp),ne h.kc (by simp),by rw[aH n1];exact h.sg,by rw[aH n2];exact h.pb,h.ne1,h.ne2,h.tl,h.ql,h.ok⟩
 obtain⟨fs,x,y⟩:=h.d2
 exact⟨fs,ne x (by simp),y⟩
end
set_option genInjectivity false in
structure RX where
 pa:Nat->Nat
 pb:Nat->Nat
 s:Nat
 ord:Nat->List Nat
 seed:Nat->Int
 I:Nat->LI
 Il:LI
 kP:Nat
 kH:Nat
 kW:Nat
 kC:Nat
 kT:Nat
 kX:Nat
 base:List O
noncomputable def RX.pl(X:RX)(k:Nat):List Nat := [sg (X.pa k),sg (X.pb k)]
noncomputable def RX.pc(X:RX)(k j:Nat):List Nat:=qc (X.ord k) X.s (X.seed k) j
noncomputable def RX.rest(X:RX)(k c:Nat):List Nat:=(((OP 4).drop c).map (X.pc k)).flatten
noncomputable def RX.done(X:RX)(k c:Nat):List Nat:=(((OP 4).take c).map (X.pc k)).flatten
noncomputable def RX.ln(X:RX)(k c:Nat):Int:=1+((X.done k c).count 10:Nat)
structure Bc(I:LI)(a:Nat):Prop where
 sg:a≠I.sg
 pb:a≠I.pb
structure Nd(N:Nat)(I:LI):Prop where
 d:N<=I.d
 sg:N<=I.sg
 pb:N<=I.pb
structure HB(X:RX)(a:Nat):Prop where
 j:∀j<4,Bc (X.I j) a
 l:Bc X.Il a
set_option genInjectivity false in
structure RX.Ok(X:RX):Prop where
 st:X.s∈qM
 perm:∀k<4,cC (X.ord k)
 sLL:∀j<4,∀k<4,j≠k->KJ (X.I j) (X.I k)
 sl1:∀j<4,KJ (X.I j) X.Il
 sl2:∀j<4,KJ X.Il (X.I j)
 oP:HB X X.kP
 oH:HB X X.kH
 oW:HB X X.kW
 oC:HB X X.kC
 oT:HB X X.kT
 oX:HB X X.kX
 wP:X.kW≠X.kP
 wH:X.kW≠X.kH
 wC:X.kW≠X.kC
 wT:X.kW≠X.kT
 wX:X.kW≠X.kX
 cP:X.kC≠X.kP
 cH:X.kC≠X.kH
 cT:X.kC≠X.kT
 cX:X.kC≠X.kX
 pd:∀i<4,∀j<4,X.pl i=X.pl j->i=j
 pab:∀k<4,X.pa k<7/\X.pb k<7
 lo:∀j<4,Nd X.base.length (X.I j)
 lol:Nd X.base.length X.Il
 low:X.base.length<=X.kW
 loc:X.base.length<=X.kC
structure vw(X:RX)(a:Nat):Prop where
 j:∀j<4,Bc (X.I j) a
 l:Bc X.Il a
 w:a≠X.kW
 c:a≠X.kC
 lo:X.base.length<=a
structure Nw(X:RX)(a:Nat):Prop where
 p:a≠X.kP
 h:a≠X.kH
 t:a≠X.kT
 x:a≠X.kX
structure vy(X:RX)(σ:List O):Prop where
 len:X.base.length<=σ.length
 at_:∀i<X.base.length,σ[i]?=X.base[i]?
structure RS(X:RX)(σ:List O)(c wish:Nat->Nat)(come q:List Nat):Prop where
 lex:∀k<4,Lx (X.I k) σ (X.ln k (c k)) (X.rest k (c k)) []
 line:Lx X.Il σ 1 [] (q.map λi=>sx (X.pl i))
 p:σ[X.kP]?=some (.list (sW X.pa X.pb))
 h:σ[X.kH]?=some (.list ((eS X.s).map sx))
 t:σ[X.kT]?=some (.list ((OP 4).map λk=>V.ref (X.I k).sg))
 x:σ[X.kX]?=some (.list ((OP 4).map λk=>V.ref (X.I k).lx))
 w:σ[X.kW]?=some (.list ((OP 4).map λk=>V.int (wish k:Nat)))
 c:σ[X.kC]?=some (.list (iL come))
 o:vy X σ
section
variable {α β:Type}{st:St}{σ σ':List O}{L:List (Option V)}{X:RX}{c wish wish':Nat->Nat}{come come' q q':List Nat}
theorem Kp.out{I:LI}{a:Nat}{xs:List V}{n:Int}{T:List Nat}{Q:List V}(hk:Kp I σ σ')(h:Lx I σ n T Q)(o:Bc I a)(e:σ[a]?=some (.list xs)):σ'[a]?=some (.list xs):=hk.list h.d o.sg o.pb e
theorem vy.app(h:vy X σ)(g:List O):vy X (σ++g):=⟨by rw[O2];exact OZ h.len (PT _ _),λi hi=>by rw[O7 (O0 hi h.len)];exact h.at_ i hi⟩
theorem vy.kp{I:LI}(h:vy X σ)(hk:Kp I σ σ')(lo:Nd X.base.length I):vy X σ':=⟨OZ h.len hk.len,λi hi=>by
 rw[hk.at_ i (Pg (O0 hi lo.d)) (Pg (O0 hi lo.sg)) (Pg (O0 hi lo.pb)) (O0 hi h.len)];exact h.at_ i hi⟩
theorem vy.set{a:Nat}{o:O}(h:vy X σ)(ha:X.base.length<=a):vy X (σ.set a o):=⟨by rw[Su];exact h.len,λi hi=>by rw[aH (PE (O0 hi ha))];exact h.at_ i hi⟩
theorem RS.app(h:RS X σ c wish come q)(g:List O):RS X (σ++g) c wish come q :=
 ⟨λk hk=>(h.lex k hk).app g,h.line.app g,ad h.p,ad h.h,ad h.t,ad h.x,ad h.w,ad h.c,h.o.app g⟩
theorem RS.kp(ok:X.Ok)(h:RS X σ c wish come q){j c':Nat}(hj:j<4)(hk:Kp (X.I j) σ σ')(hx:Lx (X.I j) σ' (X.ln j c') (X.rest j c') []):RS X σ' (w1 c j c') wish come q:=by
 have hJ:=h.lex j hj
 refine⟨λk hk4=>?_,h.line.keep hJ hk (ok.sl2 j hj),hk.out hJ (ok.oP.j j hj) h.p,hk.out hJ (ok.oH.j j hj) h.h,hk.out hJ (ok.oT.j j hj) h.t,hk.out hJ (ok.oX.j j hj) h.x,hk.out hJ (ok.oW.j j hj) h.w,hk.out hJ (ok.oC.j j hj) h.c,h.o.kp hk (ok.lo j hj)⟩
 by_cases e:k=j
 ·subst e;rw[kz];exact hx
 ·rw[nK e];exact(h.lex k hk4).keep hJ hk (ok.sLL k hk4 j hj e)
theorem RS.kpl(ok:X.Ok)(h:RS X σ c wish come q)(hk:Kp X.Il σ σ')(hx:Lx X.Il σ' 1 [] (q'.map λi=>sx (X.pl i))):RS X σ' c wish come q' :=
 have hJ:=h.line
 ⟨λk hk4=>(h.lex k hk4).keep hJ hk (ok.sl1 k hk4),hx,hk.out hJ ok.oP.l h.p,hk.out hJ ok.oH.l h.h,hk.out hJ ok.oT.l h.t,hk.out hJ ok.oX.l h.x,hk.out hJ ok.oW.l h.w,hk.out hJ ok.oC.l h.c,h.o.kp hk ok.lol⟩
theorem b9{a b:Nat}{o o':O}(n:a≠b)(h:σ[b]?=some o):(σ.set a o')[b]?=some o:=(aH n).trans h
theorem RS.setW(ok:X.Ok)(h:RS X σ c wish come q):RS X (σ.set X.kW (.list ((OP 4).map λk=>V.int (wish' k:Nat)))) c wish' come q :=
 ⟨λk hk4=>(h.lex k hk4).setL h.w (ok.oW.j k hk4).sg (ok.oW.j k hk4).pb,h.line.setL h.w ok.oW.l.sg ok.oW.l.pb,b9 ok.wP h.p,b9 ok.wH h.h,b9 ok.wT h.t,b9 ok.wX h.x,b5 (aO h.w),b9 ok.wC h.c,h.o.set ok.low⟩
theorem RS.setC(ok:X.Ok)(h:RS X σ c wish come q):RS X (σ.set X.kC (.list (iL come'))) c wish come' q :=
 ⟨λk hk4=>(h.lex k hk4).setL h.c (ok.oC.j k hk4).sg (ok.oC.j k hk4).pb,h.line.setL h.c ok.oC.l.sg ok.oC.l.pb,b9 ok.cP h.p,b9 ok.cH h.h,b9 ok.cT h.t,b9 ok.cX h.x,b9 (QA ok.wC) h.w,b5 (aO h.c),h.o.set ok.loc⟩
theorem iy{a b:Nat}{o:O}(h:σ[b]?=some o)(ha:σ.length<=a):a≠b:=PE (O0 (aO h) ha)
theorem RS.new(h:RS X σ c wish come q){a:Nat}(ha:σ.length<=a):Nw X a:=⟨iy h.p ha,iy h.h ha,iy h.t ha,iy h.x ha⟩
theorem RS.fre(h:RS X σ c wish come q){a:Nat}(ha:σ.length<=a):vw X a :=
 ⟨λj hj=>⟨iy (h.lex j hj).sg ha,iy (h.lex j hj).pb ha⟩,⟨iy h.line.sg ha,iy h.line.pb ha⟩,iy h.w ha,iy h.c ha,OZ h.o.len ha⟩
theorem RS.setF(h:RS X σ c wish come q){a:Nat}{xs ys:List V}(f:vw X a)(ha:σ[a]?=some (.list xs))(n:Nw X a):RS X (σ.set a (.list ys)) c wish come q :=
 ⟨λk hk4=>(h.lex k hk4).setL ha (f.j k hk4).sg (f.j k hk4).pb,h.line.setL ha f.l.sg f.l.pb,b9 n.p h.p,b9 n.h h.h,b9 n.t h.t,b9 n.x h.x,b9 f.w h.w,b9 f.c h.c,h.o.set f.lo⟩
theorem pB{j:Nat}(hj:j<4):(OP 4).drop j=j::(OP 4).drop (j+1):=vO (p:=λj=>(OP 4).drop j=j::(OP 4).drop (j+1)) hj rfl rfl rfl rfl
theorem wU{j:Nat}(hj:j<4):(OP 4).take (j+1)=(OP 4).take j++[j]:=vO (p:=λj=>(OP 4).take (j+1)=(OP 4).take j++[j]) hj rfl rfl rfl rfl
theorem RX.rest_cons(X:RX)(k:Nat){j:Nat}(hj:j<4):X.rest k j=X.pc k j++X.rest k (j+1):=by
 unfold RX.rest
 rw[pB hj,Ps,QY]
theorem RX.ln_succ(X:RX)(k:Nat){j:Nat}(hj:j<4):X.ln k (j+1)=X.ln k j+((X.pc k j).count 10:Nat):=by
 unfold RX.ln RX.done
 rw[wU hj,Ri,Sy,Rm]
 show 1+(((_+List.count 10 ([X.pc k j].flatten):Nat)):Int)=_
 rw[QY,List.flatten_nil,O4]
 omega
theorem Db(ok:X.Ok){k j:Nat}(hk:k<4)(hj:j<4):(X.ord k).getD j 0<4:=(ok.perm k hk).lt _ (O1 (bb (l:=X.ord k) (by rw[(ok.perm k hk).len];exact hj)))
theorem RS.read{Q:V->St->Prop}(ok:X.Ok)(h:RS X σ c wish come q){k:Nat}(hk:k<4)(hc:c k<4)
  (r:∀σ',RS X σ' (w1 c k (c k+1)) wish come q->Kp (X.I k) σ σ'->Q (sx (eH ((X.ord k).getD (c k) 0) X.s (X.seed k+101*(c k)))) ⟨σ',L⟩):W (aC [.ref (X.I k).lx]) ⟨σ,L⟩ Q:=by
 have hl:=h.lex k hk
 rw[X.rest_cons k hc]at hl
 refine GF hc (Ev _).1 (Hx (Db ok hk hc) ok.st _) (λe=>?_) hl λσ' hx hkp=>r σ' (h.kp ok hk hkp ?_) hkp
 ·rw[e];rfl
 ·rw[X.ln_succ k hc];exact hx
end
noncomputable abbrev RL(X:RX)(x2 x3 x7:Option V)(kh:Nat)(x11 x12 x13 x14:Option V):List (Option V) :=
 [some (.ref X.kP),some (.ref X.kH),x2,x3,some (.ref X.kT),some (.ref X.kX),some (.ref X.Il.lx),x7,some (.ref kh),some (.ref X.kW),some (.ref X.kC),x11,x12,x13,x14]
section
variable {α β:Type}{st:St}{σ σ':List O}{L:List (Option V)}{X:RX}{c wish wish':Nat->Nat}{come come' q q' here path:List Nat}{x2 x3 x7 x11 x12 x13 x14:Option V}{kh kp k:Nat}
theorem NZ{k:Nat}(hk:k<4)(wish:Nat->Nat)(v:Nat):((OP 4).map λk=>V.int (wish k:Nat)).set k (.int (v:Nat))=(OP 4).map λj=>V.int (w1 wish k v j:Nat) :=
 LG (p:=λk=>((OP 4).map λk=>V.int (wish k:Nat)).set k (.int (v:Nat))=(OP 4).map λj=>V.int (w1 wish k v j:Nat)) rfl rfl rfl rfl k hk
theorem Nq{k:Nat}(hk:k<4)(f:Nat->V):((OP 4).map f)[((k:Nat):Int).toNat]?=some (f k):=by
 rw[PB,Pn,QR hk];rfl
theorem cV{f:Nat->V}{a:Nat}{Q:V->St->Prop}(h:st.σ[a]?=some (.list ((OP 4).map f)))(hk:k<4)(r:Q (f k) st):W (aA (.ref a) (.int k)) st Q :=
 bN h (PM _) (by lia) (show 4<=1000000 by decide) (Nq hk f) r
noncomputable abbrev Bq:M Fl:=(aw (af 13 (c9 123 "get_token" (aj aA (getL 5) (getL 12)) am aC))
 (kq (bn bE (getL 1) (ab HP am) fM) (getL 9) (getL 12)))
noncomputable abbrev Br:M Bool:=aT fv (aj aA (getL 9) (getL 12)) (getL 8)
structure Ni(X:RX)(here:List Nat)(kh kp:Nat)(path:List Nat)(σ:List O):Prop where
 h:σ[kh]?=some (.list (iL here))
 p:σ[kp]?=some (.list (iL path))
set_option genInjectivity false in
structure AU where
 σ:List O
 c:Nat->Nat
 w:Nat->Nat
 p:List Nat
 y:Option V
 z:Option V
structure AI(X:RX)(come q here:List Nat)(kh kp:Nat)(w0:Nat->Nat)(ex:Nat->Prop)(u:AU):Prop where
 rs:RS X u.σ u.c u.w come q
 rd:Rd X.ord here u.w u.c
 sy:Ni X here kh kp u.p u.σ
 same:∀j,¬ex j->u.w j=w0 j
noncomputable abbrev AU.go(X:RX)(x2 x3 x7 x11 x14:Option V)(kh:Nat)(u:AU):St:=⟨u.σ,RL X x2 x3 x7 kh x11 u.y u.z x14⟩
theorem Ex{o s:Nat}(ho:o<4){x:Int}(h:kY (eH o s x)=ty.getD o []++[s]):(eH o s x).length<=900/\(kY (eH o s x)).length<=1000:=by
 have h1:=jx ho s x
 have h2:=(sJ _ (O1 (kE ho))).2
 rw[h,O2]
 exact⟨OZ h1 (by decide),OZ (Sq h2 1) (by decide)⟩
theorem KG(ok:X.Ok){w0:Nat->Nat}{ex:Nat->Prop}(hx:ex k)(hk:k<4)(fh:vw X kh)(fp:vw X kp){u:AU}(A:AI X come q here kh kp w0 ex u)(hw:u.w k∉here)(hc:u.c k<4)(hy:u.y=some (.int k)){Q:Fl->St->Prop}
  (r:∀v:AU,AI X come q here kh kp w0 ex v->v.c k=u.c k+1->v.p=u.p->v.y=u.y->Q .next (v.go X x2 x3 x7 x11 x14 kh)):W Bq (u.go X x2 x3 x7 x11 x14 kh) Q:=by
 obtain⟨σ,c,wish,path,y,z⟩:=u
 obtain⟨h,rd,sy,same⟩:=A
 obtain rfl:y=some (.int k):=hy
 have hlx:=h.lex k hk
 have ho:=Db ok hk hc
 have hfo:=A0 ho ok.st (X.seed k+101*(c k))
 obtain⟨l1,l2⟩:=Ex ho hfo
 have rd3:=rd.step hk hw hc
 refine fA (sh (bw (xG rfl (xG rfl (cV (f:=λk=>V.ref (X.I k).lx) h.x hk ⟨_,_,_,rfl,hlx.lx,hlx.d,(iY ..).1,h.read ok hk hc λσ1 h1 hkp=>?_⟩)))))
 refine KZ (dA (xG rfl ⟨xU h1.h,ak (Jc rfl rfl l1 l2 λg=>aJ ?_)⟩))
 rw[hfo]
 refine vC (h1.app g).h ho (xG rfl (xG rfl ⟨X.kW,k,_,rfl,rfl,(h1.app g).w,hk,show 4<=1000000 by decide,?_⟩))
 rw[NZ hk]
 refine r ⟨_,_,_,path,_,_⟩ ⟨(h1.app g).setW ok,rd3,⟨?_,?_⟩,λj hj=>?_⟩ (kz ..) rfl rfl
 ·exact(aH (QA fh.w)).trans (ad (hkp.out hlx (fh.j k hk) sy.h))
 ·exact(aH (QA fp.w)).trans (ad (hkp.out hlx (fp.j k hk) sy.p))
 ·exact(nK (k:=k) (j:=j) λe=>hj (e▸hx)).trans (same j hj)
theorem E0(ok:X.Ok){w0:Nat->Nat}{ex:Nat->Prop}(hx:ex k)(hk:k<4)(h4:∀x∈here,x<4)(hne:here≠[])(fh:vw X kh)(fp:vw X kp){Q:Fl->St->Prop}
  (r:∀v:AU,AI X come q here kh kp w0 ex v->v.p=path->v.y=some (.int k)->v.w k∈here->Q .next (v.go X x2 x3 x7 x11 x14 kh)):∀(fuel:Nat)(u:AU),4<fuel+u.c k->AI X come q here kh kp w0 ex u->u.p=path->u.y=some (.int k)->W (dr Br Bq fuel) (u.go X x2 x3 x7 x11 x14 kh) Q:=by
 intro fuel
 induction fuel with
 | zero=>exact λu hf A=>absurd (A.rd.le k hk) (by lia)
 | succ f ih =>
  intro u hf A hp hy
  have test:∀{Q:Bool->St->Prop},Q (!here.contains (u.w k)) (u.go X x2 x3 x7 x11 x14 kh)->W Br (u.go X x2 x3 x7 x11 x14 kh) Q:=λ{Q} hq =>
   cU (bw (xG rfl (xG (congrArg some hy) (cV (f:=λk=>V.int (u.w k:Nat)) A.rs.w hk (xG rfl (l0 A.sy.h (gW hq)))))))
  by_cases hw:u.w k∈here
  ·exact o8 (test ⟨by rw[Po.mpr hw];rfl,r u A hp hy hw⟩)
  ·have hc:=A.rd.more (ok.perm k hk) hk h4 hne hw
   refine o9 (test ⟨by rw[P4.mpr λe=>hw (Po.mp e)];rfl,KG ok hx hk fh fp A hw hc hy λv A' e1 e2 e3=>⟨rfl,ih v (by lia) A' (e2.trans hp) (e3.trans hy)⟩⟩)
noncomputable abbrev BE:M Bool:=aT iM (bn bE (getL 11) (ab (aj aA (getL 11) (qF (aa (.int 1)))) am) sw) (aa (.int 1))
noncomputable abbrev HJ:M Fl:=(aw (af 12 (aj aA (getL 11) (qF (aa (.int 1)))))
 (aw (dr Br Bq 1000)
 (eT (bn bE (getL 11) (ab (aj aA (getL 9) (getL 12)) am) cb))))
theorem CG{l:List Nat}(h:c6 l=true)(hl:1<=l.length){x:Nat}(hx:x∈l.dropLast):x≠da l:=by
 have hne:l≠[]:=λe=>by rw[e]at hl;exact absurd hl (by decide)
 have hc:=List.dropLast_concat_getLast hne
 have e2:l.getLast hne=da l:=by
  unfold da
  rw[O9,Pf (by omega),List.getLast_eq_getElem];rfl
 have hnd:=lR.mp h
 rw[<- hc]at hnd
 rw[<- e2]
 exact(RY.mp hnd).2.2 x hx _ (OS.mpr rfl)
theorem Cm{l m:List Nat}(h:1<=l.length):(l++m).getD 0 0=l.getD 0 0:=by
 rw[O9,O7 h,<- O9]
theorem K9(ok:X.Ok){w0:Nat->Nat}{p:Nat}(h4:∀x∈here,x<4)(fh:vw X kh)(fp:vw X kp)(hne:kh≠kp)(np:Nw X kp){Q:Fl->St->Prop}
  (r:∀v:AU,AI X come q here kh kp w0 (· ∈here) v->qA here v.w v.p->c6 v.p=false->v.p.getD 0 0=p->Q .next (v.go X x2 x3 x7 (some (.ref kp)) x14 kh)):∀(fuel:Nat)(u:AU),6<fuel+u.p.length->AI X come q here kh kp w0 (· ∈here) u->qA here u.w u.p->u.p.getD 0 0=p->W (dr BE HJ fuel) (u.go X x2 x3 x7 (some (.ref kp)) x14 kh) Q:=by
 intro fuel
 induction fuel with
 | zero=>exact λu hf A P=>absurd P.len.2 (by lia)
 | succ f ih =>
  intro u hf A P hp
  have hpl:=P.len
  have PO:=zd (λx hx=>h4 x (P.mem x hx)) hpl P.nd
  have test:∀{Q:Bool->St->Prop},Q (c6 u.p) (u.go X x2 x3 x7 (some (.ref kp)) x14 kh)->W BE (u.go X x2 x3 x7 (some (.ref kp)) x14 kh) Q:=λ{Q} hq=>by
   refine cU (dA (xG rfl ⟨xU A.sy.p,ak (bw (xG rfl (vD (sk A.sy.p (by lia) (aJ (Bg A.sy.p (xP (w5 (gW ?_)))))))))⟩))
   rw[show(((u.p.count (da u.p):Nat):Int)==1)=(u.p.count (da u.p)==1)from jr _ 1,PO.cnt]
   exact hq
  by_cases hn:c6 u.p=true
  ·have hs:=PO.short hn
   have hlh:=P.mem _ (rE hpl.1)
   have hl4:=h4 _ hlh
   refine o9 (test ⟨hn,fA (bw (xG rfl (vD (sk A.sy.p (by lia) ?_))))⟩)
   refine r5 (E0 (k:=da u.p) (w0:=u.w) (ex:=λj=>j=da u.p) (path:=u.p) ok rfl hl4 h4 (List.ne_nil_of_mem hlh) fh fp (λv A' e1 e2 hm=>⟨rfl,?_⟩) 1000 ⟨u.σ,u.c,u.w,u.p,some (.int (da u.p:Nat)),u.z⟩ (by lia) ⟨A.rs,A.rd,A.sy,λm m=>rfl⟩ rfl rfl)
   have hvp:=A'.sy.p
   rw[e1]at hvp
   refine EJ (dA (xG rfl ⟨xU hvp,ak (bw (xG rfl (xG (congrArg some e2) (cV (f:=λk=>V.int (v.w k:Nat)) A'.rs.w hl4 (aJ (gH hvp (by rw[iL,Pc];lia) ⟨rfl,?_⟩))))))⟩))
   have e:iL u.p++[V.int (v.w (da u.p):Nat)]=iL (u.p++[v.w (da u.p)]):=by simp[iL]
   rw[e]
   exact ih ⟨_,v.c,v.w,u.p++[v.w (da u.p)],v.y,v.z⟩ (by rw[O2];show 6<f+(_+1);lia) ⟨A'.rs.setF fp hvp np,A'.rd,⟨(aH (QA hne)).trans A'.sy.h,b5 (aO hvp)⟩,λj hj=>(A'.same j λe=>hj (e▸hlh)).trans (A.same j hj)⟩
    (P.snoc hn hs (λx hx=>A'.same x (CG hn hpl.1 hx)) hm) ((Cm hpl.1).trans hp)
  ·have hn:c6 u.p=false:=P4.mpr hn
   exact o8 (test ⟨hn,r u A P hn hp⟩)
variable {r:Nat->Nat}{p t:Nat}
theorem vP{come q order:List Nat}{p:Nat}(h:come++(p::q).filter (λx=> !come.contains x)=order)(nd:order.Nodup) :
  (if come.contains p then come else come++[p])++q.filter (λx=> !(if come.contains p then come else come++[p]).contains x)=order:=by
 by_cases hp:come.contains p=true
 ·rw[if_pos hp]
  rw[Q7 (by rw[hp];simp)]at h
  exact h
 ·rw[if_neg hp]
  have hp':come.contains p=false:=P4.mpr hp
  rw[Q8 (by rw[hp'];rfl)]at h
  have hn:p∉q.filter (λx=> !come.contains x):=by
   rw[<- h]at nd
   exact(Rg.mp (RY.mp nd).2.1).1
  have e:q.filter (λx=> !(come++[p]).contains x)=q.filter (λx=> !come.contains x):=by
   refine List.filter_congr λx hx=>?_
   by_cases hx2:come.contains x=true
   ·rw[hx2,Po.mpr (List.mem_append_left _ (Po.mp hx2))]
   ·have hx3:come.contains x=false:=P4.mpr hx2
    have:x≠p:=λe=>hn (by rw[<- e];exact Th.mpr ⟨hx,by rw[hx3];rfl⟩)
    have hx4:(come++[p]).contains x=false:=P4.mpr λm=>by
     rcases Pk.mp (Po.mp m)with m | m
     ·exact hx2 (Po.mpr m)
     ·exact this (OS.mp m)
    rw[hx3,hx4]
  rw[e,OY]
  exact h
noncomputable def nA(X:RX)(cur:Option Nat):V:=match cur with | none=>sx [] | some i=>sx (X.pl i)
theorem H9{Q:V->St->Prop}(ok:X.Ok)(h:RS X σ c wish come q)(w:∀σ',RS X σ' c wish come q.tail->(∀a xs,Bc X.Il a->σ[a]?=some (.list xs)->σ'[a]?=some (.list xs))->Q (nA X q.head?) ⟨σ',L⟩):W (aC [.ref X.Il.lx]) ⟨σ,L⟩ Q:=by
 have hl:=h.line
 match q,h,hl,w with
 | [],h,hl,w=>exact wV hl λσ' hx hk=>w σ' (h.kpl ok hk hx) λa xs o e=>hk.out hl o e
 | p::q,h,hl,w=>exact tf (v:=sx (X.pl p)) hl λσ' hx hk=>w σ' (h.kpl ok hk hx) λa xs o e=>hk.out hl o e
theorem JV(ok:X.Ok){p:Nat}(hp:p<4):tx (X.pl p)∈((OP 4).map X.pl).map tx/\(((OP 4).map X.pl).map tx).idxOf (tx (X.pl p))=p:=by
 refine⟨PY.mpr ⟨_,PY.mpr ⟨p,O5.mpr hp,rfl⟩,rfl⟩,?_⟩
 rw[mA λy u e=>wZ e,mA λy hy e=>ok.pd y (O5.mp hy) p hp e]
 exact vO (p:=λp=>(OP 4).idxOf p=p) hp (by decide) (by decide) (by decide) (by decide)
structure QI(order here come l:List Nat):Prop where
 hq:∀x∈here,x∈l
 q4:∀x∈l,x<4
 od:come++l.filter (λx=> !come.contains x)=order
set_option genInjectivity false in
structure PU where
 σ:List O
 kh:Nat
 c:Nat->Nat
 w:Nat->Nat
 r:Nat->Nat
 t:Nat
 here:List Nat
 come:List Nat
 cur:Option Nat
 q:List Nat
 x:Option V
 y:Option V
 z:Option V
 a:Option V
structure RO(X:RX)(come q:List Nat)(u:PU):Prop where
 rs:RS X u.σ u.c u.w come q
 rd:Rd X.ord u.here u.w u.c
 dn:oh X.ord u.here u.w u.r u.t
 h4:∀x∈u.here,x<4
 ht:u.σ[u.kh]?=some (.list (iL u.here))
 fh:vw X u.kh
noncomputable abbrev PU.fr(X:RX)(x2 x3:Option V)(u:PU):List (Option V):=RL X x2 x3 (some (nA X u.cur)) u.kh u.x u.y u.z u.a
noncomputable abbrev Ib:M Fl:=(aw (dr BE HJ 1000)
 (aw (af 14 (eG (getL 11) (bU (aj bf (bn bE (getL 11) (ab (aj aA (getL 11) (qF (aa (.int 1)))) am) fM) (aa (.int 1)))) cr))
 (aw (af 8 (dY 15 (fj (getL 8)) (aT fv (getL 15) (getL 14)) (getL 15) 1000))
 (a8 (aT iA (aj aA (getL 11) (aa (.int 0))) (getL 8)) (af 7 (aj aA (getL 0) (aj aA (getL 11) (aa (.int 0))))) (aa .next)))))
theorem CJ{here R:List Nat}(hR:R≠[])(sub:∀x∈R,x∈here):(less here R).length<here.length:=by
 obtain⟨x,hx⟩:=SS _ hR
 unfold less
 refine QG.mpr ⟨x,sub x hx,?_⟩
 rw[Po.mpr hx];simp
theorem Dw{path:List Nat}{R:M Fl}(hk:σ[kp]?=some (.list (iL path)))(hpl:1<=path.length/\path.length<=5){Q:Fl->St->Prop}(w:W R ⟨σ++[.list (iL (dl path))],RL X x2 x3 x7 kh (some (.ref kp)) x12 x13 (some (.ref σ.length))⟩ Q) :
  W (aw (af 14 (eG (getL 11) (bU (aj bf (bn bE (getL 11) (ab (aj aA (getL 11) (qF (aa (.int 1)))) am) fM) (aa (.int 1)))) cr)) R) ⟨σ,RL X x2 x3 x7 kh (some (.ref kp)) x12 x13 x14⟩ Q:=by
 have hlm:=rE hpl.1
 have hi:=Qu hlm
 have hl:(iL path).length=path.length:=Pc _
 refine fA (oK (k:=kp) (a:=some ((path.idxOf (da path)+1:Nat):Int)) (b:=none) (xs:=iL path) (ys:=iL (dl path)) (xG rfl ⟨rfl,rfl⟩) (xB (bw (dA (xG rfl ⟨xU hk,ak (bw (xG rfl (vD (sk hk (by lia) (aJ (Bi hk (by lia) hlm (xP (eO (xP ⟨rfl,rfl⟩)))))))))⟩)))) (xP ⟨rfl,rfl⟩) hk (by lia) ?_ w)
 rw[rS (by lia)]
 show some (List.drop _ (List.map _ path))=_
 rw[<- List.map_drop];rfl
theorem Hd{here R:List Nat}{kr:Nat}(hh:σ[kh]?=some (.list (iL here)))(hr:σ[kr]?=some (.list (iL R)))(hs:here.length<=100){Q:V->St->Prop}
  (w:∀g,Q (.ref (σ++g).length) ⟨σ++g++[.list (iL (less here R))],RL X x2 x3 x7 kh x11 x12 x13 (some (.ref kr))⟩) :
  W (dY 15 (fj (getL 8)) (aT fv (getL 15) (getL 14)) (getL 15) 1000) ⟨σ,RL X x2 x3 x7 kh x11 x12 x13 (some (.ref kr))⟩ Q:=by
 exact Oq (kl:=kh) (l:=here) (f:=λi=>V.int (i:Nat)) (p:=λi=> !R.contains i) (y:=λi=>V.int (i:Nat)) rfl (OZ hs (by decide)) (xG rfl ⟨rfl,[],by rw[O4],by rw[O4];exact hh⟩) (λi u g=>cU (xG rfl (xG rfl (l0 (l:=R) (ad hr) (gW ⟨rfl,[],by rw[O4]⟩))))) (λi u u g=>xG rfl ⟨rfl,[],by rw[O4]⟩) w
noncomputable abbrev IF:M Fl:=(a8 (aT iA (aj aA (getL 11) (aa (.int 0))) (getL 8)) (af 7 (aj aA (getL 0) (aj aA (getL 11) (aa (.int 0))))) (aa .next))
theorem E1{path here:List Nat}(hP:σ[X.kP]?=some (.list (sW X.pa X.pb)))(hp4:p<4)(e:path.getD 0 0=p)(hpl:1<=path.length/\path.length<=5)(hk:σ[kp]?=some (.list (iL path)))(hh:σ[kh]?=some (.list (iL here))){Q:Fl->St->Prop}
  (w:Q .next ⟨σ,RL X x2 x3 (some (nA X (if p∈here then some p else none))) kh (some (.ref kp)) x12 x13 x14⟩):W IF ⟨σ,RL X x2 x3 (some (sx [])) kh (some (.ref kp)) x12 x13 x14⟩ Q:=by
 subst e
 refine jN (cU (bw (xG rfl (xP (g6 (i:=0) hk hpl.1 (by lia) (xG rfl (HE (i:=path.getD 0 0) hh (gW ?_))))))))
 by_cases hm:path.getD 0 0∈here
 ·rw[Po.mpr hm]
  rw[if_pos hm]at w
  exact vv (xA (bw (xG rfl (bw (xG rfl (xP (g6 (i:=0) hk hpl.1 (by lia) (cV (f:=λk=>sx (X.pl k)) hP hp4 w))))))))
 ·rw[P4.mpr λe=>hm (Po.mp e)]
  rw[if_neg hm]at w
  exact oJ (xP w)
theorem J1(ok:X.Ok)(fp:vw X kp)(np:Nw X kp){u:PU}(h:RO X come q u)(hne:u.kh≠kp)(hp:p∈u.here)(hs:u.here.length<=100)(hk:u.σ[kp]?=some (.list (iL [p])))(hx:u.x=some (.ref kp))(hc:u.cur=none)
  {Q:Fl->St->Prop} (w:∀v:PU,RO X come q v->v.here.length<u.here.length->(∀x∈v.here,x∈u.here)->v.cur=(if p∈v.here then some p else none)->Q .next ⟨v.σ,v.fr X x2 x3⟩):W Ib ⟨u.σ,u.fr X x2 x3⟩ Q:=by
 have hp4:=h.h4 p hp
 unfold PU.fr
 rw[hx,hc]
 refine r5 (K9 (w0:=u.w) (p:=p) (x14:=u.a) ok h.h4 h.fh fp hne np (λv A P hn e0=>⟨rfl,?_⟩) 1000 ⟨u.σ,u.c,u.w,[p],u.y,u.z⟩ (by show 6<1000+1;decide) ⟨h.rs,h.rd,⟨h.ht,hk⟩,λm m=>rfl⟩ (qA.one hp) rfl)
 have G:=P.ring h.h4 hn
 have best:∀x∈dl v.p,∀h'∈u.here,(X.ord x).idxOf (v.w x)<=(X.ord x).idxOf h':=λx hx=>(A.rd.best (ok.perm x (h.h4 x (G.sub x hx))) (h.h4 x (G.sub x hx)) h.h4 (G.sub _ (G.cl x hx))).2.2
 have dn':=(h.dn.congr (mu':=v.w) λk m hk=>A.same k hk).ring h.h4 G.sub G.cl G.inj best
 refine Dw A.sy.p P.len (fA (Hd (here:=u.here) (R:=dl v.p) (ad A.sy.h) ar hs λg=>?_))
 have r4:=((A.rs.app [.list (iL (dl v.p))]).app g).app [.list (iL (less u.here (dl v.p)))]
 refine E1 r4.p hp4 e0 P.len (ad (ad (ad A.sy.p))) ar ?_
 exact w ⟨_,_,v.c,v.w,_,_,less u.here (dl v.p),come,if p∈less u.here (dl v.p)then some p else none,q,_,_,_,_⟩ ⟨r4,A.rd.less,dn',λx hx=>h.h4 x (f8.mp hx).1,ar,((A.rs.app _).app g).fre (O8 _)⟩ (CJ G.ne G.sub) (λx hx=>(f8.mp hx).1) rfl
variable {order:List Nat}
noncomputable abbrev HW:M Fl:=(a8 (Ak (aT iM (getL 7) (aa (.str (OO "")))) (Ak (we (ao (getL 3) c8)) (aa false))) (aw (a8 (aT tA (getL 7) (aa (.str (OO "")))) (eT (c9 123 "push_token" (getL 6) (ab (getL 7) am) bg)) (aa .next))
 (af 7 (c9 123 "get_token" (getL 6) am aC))) (aa .next))
noncomputable abbrev C8:M Fl:=(aw (af 11 (aP (ab (bn bE (getL 0) (ab (getL 7) am) fM) am)))
 (aw (af 7 (aa (.str (OO ""))))
 (aw (a8 (aT fv (aj aA (getL 11) (aa (.int 0))) (getL 10)) (eT (bn bE (getL 10) (ab (aj aA (getL 11) (aa (.int 0))) am) cb)) (aa .next))
 (aw (a8 (aT iA (aj aA (getL 11) (aa (.int 0))) (getL 8)) Ib (aa .next))
 HW))))
noncomputable def lw(again:Option Nat)(b:Bool)(q:List Nat):List Nat:=match again with
 | none=>q
 | some p=>if b then p::q else q++[p]
theorem xO{nm:Str}{f:List V->M V}{I:LI}{n:Int}{T:List Nat}{Q₀:List V}{Q:V->St->Prop}{i:Nat}(hL:L[i]?=some (some (.ref I.lx)))(h:Lx I σ n T Q₀)(hn:(AF n I.sd I.pb).lookup nm=none)(w:W (f [.ref I.lx]) ⟨σ,L⟩ Q):W (c9 123 nm (getL i) am f) ⟨σ,L⟩ Q :=
 sh (xG hL ⟨_,_,_,rfl,h.lx,h.d,hn,w⟩)
theorem CE(ok:X.Ok){again:Option Nat}{b:Bool}(h:RS X σ c wish come q)(hq:q.length<=1000){Q:Fl->St->Prop}
  (w:∀σ' cur q',RS X σ' c wish come q'->(∀a xs,Bc X.Il a->σ[a]?=some (.list xs)->σ'[a]?=some (.list xs))->cur.toList++q'=lw again b q->(cur=none->q'=[])->Q .next ⟨σ',RL X x2 (some (.bool b)) (some (nA X cur)) kh x11 x12 x13 x14⟩) :
  W HW ⟨σ,RL X x2 (some (.bool b)) (some (nA X again)) kh x11 x12 x13 x14⟩ Q:=by
 have pop:∀{σ1:List O}{q1:List Nat}{x:Option V},RS X σ1 c wish come q1->(∀a xs,Bc X.Il a->σ[a]?=some (.list xs)->σ1[a]?=some (.list xs))->q1=lw again b q->W (af 7 (c9 123 "get_token" (getL 6) am aC)) ⟨σ1,RL X x2 (some (.bool b)) x kh x11 x12 x13 x14⟩ Q:=λ{σ1 q1 x} h1 k1 e =>
  xA (xO rfl h1.line (iY ..).1 (H9 ok h1 λσ2 h2 k2=>w σ2 q1.head? q1.tail h2 (λa xs o e=>k2 a xs o (k1 a xs o e)) (by rw[<- e];cases q1<;>rfl) (λe=>by cases q1 with | nil=>rfl | cons=>exact nS e)))
 match again with
 | none =>
  refine jN (Hz (cU (xG rfl (xK tz (show W (iM (sx []) (sx [])) _ _ from qw (gW (vv (vv (qz (cU (xG rfl (xK tz (show W (tA (sx []) (sx [])) _ _ from KH (gW ?_))))))))))))))
  exact oJ (A4 (pop h (λu u u e=>e) rfl))
 | some p =>
  have hne:(X.pl p==[])=false:=rfl
  refine jN (Hz (cU (xG rfl (xK tz (show W (iM (sx (X.pl p)) (sx [])) _ _ from qw (gW ?_))))))
  rw[hne]
  refine oJ (Hz (M8 (xB (xG rfl (gW ?_)))))
  cases b with
  | true=>exact oJ (xP (oJ (xP (w σ (some p) q h (λu u u e=>e) rfl (λe=>nomatch e)))))
  | false =>
   refine vv (vv (qz (cU (xG rfl (xK tz (show W (tA (sx (X.pl p)) (sx [])) _ _ from KH (gW ?_)))))))
   rw[hne]
   refine vv (r5 (EJ (si (xG rfl ⟨_,_,_,rfl,h.line.lx,h.line.d,(iY ..).2.1,xG rfl (Dm h.line (by rw[Pc];lia) λσ1 hx hk=>⟨rfl,?_⟩)⟩))))
   have h1:RS X σ1 c wish come (q++[p]):=h.kpl ok hk (by rw[Ri];exact hx)
   exact pop h1 (λa xs o e=>hk.out h.line o e) rfl
theorem Dj(X:RX)(cur:Option Nat):∃l,nA X cur=sx l/\(l==[])=cur.isNone:=by
 cases cur with
 | none=>exact⟨[],rfl,rfl⟩
 | some i=>exact⟨X.pl i,rfl,rfl⟩
noncomputable def lj(come:List Nat)(p:Nat):List Nat:=if come.contains p then come else come++[p]
theorem zN(come:List Nat)(p:Nat):(lj come p).contains p=true:=by
 unfold lj
 by_cases hc:come.contains p=true
 ·rw[if_pos hc];exact hc
 ·rw[if_neg hc];simp
theorem rH{again:Option Nat}{b:Bool}{q:List Nat}{x:Nat}:x∈lw again b q↔x∈q\/again=some x:=by
 cases again<;>cases b<;>simp[lw,eq_comm,or_comm]
theorem sX{again:Option Nat}{b:Bool}{q:List Nat}{f:Nat->Bool}(h:∀a,again=some a->f a=false):(lw again b q).filter f=q.filter f:=by
 cases again with
 | none=>rfl
 | some a=>cases b<;>simp[lw,List.filter_cons,h a rfl]
theorem rN(again:Option Nat)(b:Bool)(q:List Nat):(lw again b q).length<=q.length+1/\(again=none->(lw again b q).length=q.length):=by
 cases again<;>cases b<;>simp[lw]
theorem QI.next{here':List Nat}{b:Bool}{again:Option Nat}(J:QI order here come (p::q))(nd:order.Nodup)(sub:∀x∈here',x∈here)(e:again=if p∈here' then some p else none):QI order here' (lj come p) (lw again b q):=by
 subst e
 refine⟨λx hx=>rH.mpr ?_,λx hx=>?_,?_⟩
 ·rcases PW.mp (J.hq x (sub x hx))with e | h
  ·subst e;exact .inr (if_pos hx)
  ·exact .inl h
 ·rcases rH.mp hx with h | h
  ·exact J.q4 x (Pa _ h)
  ·split at h
   ·exact J.q4 x (Pw h▸Pe ..)
   ·exact nO h
 ·rw[sX λa ha=>?_]
  ·exact vP J.od nd
  ·split at ha
   ·rw[<- Pw ha,zN];rfl
   ·exact nO ha
theorem Jw{a a' q l:Nat}(h:a'<a)(hl:l<=q+1):2*a'+l<2*a+(q+1):=by lia
theorem Jx{a q l:Nat}(hl:l=q):2*a+l<2*a+(q+1):=by lia
theorem NQ{a q:Nat}(h:2*a+(q+1)<=90):a<=100/\q<=1000:=by lia
structure OI(X:RX)(order:List Nat)(u:PU):Prop where
 ro:RO X u.come u.q u
 qi:QI order u.here u.come (u.cur.toList++u.q)
 en:u.cur=none->u.q=[]
noncomputable def PU.m(u:PU):Nat:=2*u.here.length+(u.cur.toList++u.q).length
noncomputable abbrev K8:M Fl:=(a8 (aT fv (aj aA (getL 11) (aa (.int 0))) (getL 10)) (eT (bn bE (getL 10) (ab (aj aA (getL 11) (aa (.int 0))) am) cb)) (aa .next))
theorem IU(ok:X.Ok)(h:RS X σ c wish come q)(hk:σ[kp]?=some (.list (iL [p])))(hh:σ[kh]?=some (.list (iL here)))(fh:vw X kh)(fp:vw X kp)(hcl:come.length<=1000){Q:Fl->St->Prop}
  (w:∀τ,RS X τ c wish (lj come p) q->τ[kp]?=some (.list (iL [p]))->τ[kh]?=some (.list (iL here))->Q .next ⟨τ,RL X x2 x3 x7 kh (some (.ref kp)) x12 x13 x14⟩):W K8 ⟨σ,RL X x2 x3 x7 kh (some (.ref kp)) x12 x13 x14⟩ Q:=by
 have hl:(iL come).length=come.length:=Pc _
 refine jN (cU (bw (xG rfl (xP (g6 (i:=0) hk (show 0<1 by decide) (show 1<=1000 by decide) (xG rfl (l0 (i:=p) h.c (gW ?_))))))))
 by_cases hc:come.contains p=true
 ·rw[hc]
  refine oJ (xP (w σ ?_ hk hh))
  rw[lj,if_pos hc];exact h
 ·rw[P4.mpr hc]
  refine vv (EJ (dA (xG rfl ⟨xU h.c,ak (bw (xG rfl (xP (g6 (i:=0) hk (show 0<1 by decide) (show 1<=1000 by decide) (aJ (gH h.c (by lia) ?_))))))⟩)))
  have e:iL come++[V.int (([p].getD 0 0:Nat):Int)]=iL (lj come p):=by rw[lj,if_neg hc];simp[iL]
  rw[e]
  exact w _ (h.setC ok) ((aH (QA fp.c)).trans hk) ((aH (QA fh.c)).trans hh)
theorem Kl(ok:X.Ok){b:Bool}(nd:order.Nodup)(ho:order.length<=100){u:PU}(J:OI X order u)(hcur:u.cur=some p)(hm:u.m<=90){Q:Fl->St->Prop}(w:∀v:PU,OI X order v->v.m<u.m->Q .next ⟨v.σ,v.fr X x2 (some (.bool b))⟩) :
  W C8 ⟨u.σ,u.fr X x2 (some (.bool b))⟩ Q:=by
 obtain⟨h,qi,_⟩:=J
 unfold PU.m at hm w
 rw[hcur]at qi hm w
 have hp4:p<4:=qi.q4 p (Pe ..)
 obtain⟨hs,hql⟩:=NQ hm
 obtain⟨i1,i2⟩:=JV ok hp4
 have hcl:u.come.length<=1000:=by
  have:=congrArg RQ qi.od
  rw[O2]at this
  lia
 have fp:=h.rs.fre (O8 u.σ.length)
 have np:=h.rs.new (O8 u.σ.length)
 have hne:u.kh≠u.σ.length:=Pg (aO h.ht)
 have h0:=h.rs.app [.list (iL [p])]
 have hh0:=ad (r := [O.list (iL [p])]) h.ht
 have hk0:(u.σ++[O.list (iL [p])])[u.σ.length]?=some (.list (iL [p])):=ar
 unfold PU.fr
 rw[hcur]
 refine fA (cS (ak (dA (xG rfl ⟨xU h.rs.p,ak (xG rfl (aJ (ES (l:=(OP 4).map X.pl) (z:=X.pl p) h.rs.p (show 4<=1000 by decide) i1 i2 (aJ ⟨show 1<=1000000 by decide,?_⟩))))⟩))))
 generalize u.σ.length=kp at fp np hne hk0 ⊢
 refine fA (xK tz (r5 (IU ok h0 hk0 hh0 h.fh fp hcl λτ h2 hk2 hh2=>⟨rfl,?_⟩)))
 refine qz (cU (bw (xG rfl (xP (g6 (i:=0) hk2 (show 0<1 by decide) (show 1<=1000 by decide) (xG rfl (HE (i:=p) hh2 (gW ?_))))))))
 by_cases hin:p∈u.here
 ·rw[Po.mpr hin]
  refine vv (r5 (J1 (p:=p) ok fp np (u:=⟨τ,u.kh,u.c,u.w,u.r,u.t,u.here,lj u.come p,none,u.q,some (.ref kp),u.y,u.z,u.a⟩) ⟨h2,h.rd,h.dn,h.h4,hh2,h.fh⟩ hne hin hs hk2 rfl rfl λv r1 r2 r3 r4=>⟨rfl,?_⟩))
  have ql:=(rN v.cur b u.q).1
  refine CE (again:=v.cur) ok r1.rs hql λσ2 cur q2 g1 g2 g3 g4=>w ⟨σ2,v.kh,v.c,v.w,v.r,v.t,v.here,lj u.come p,cur,q2,_,_,_,_⟩ ⟨⟨g1,r1.rd,r1.dn,r1.h4,g2 _ _ r1.fh.l r1.ht,r1.fh⟩,g3▸qi.next nd r3 r4,g4⟩ ?_
  show 2*v.here.length+(cur.toList++q2).length<_
  rw[g3]
  exact Jw r2 ql
 ·rw[P4.mpr λe=>hin (Po.mp e)]
  have ql:=(rN none b u.q).2 rfl
  refine oJ (A4 (CE (again:=none) ok h2 hql λσ2 cur q2 g1 g2 g3 g4=>w ⟨σ2,u.kh,u.c,u.w,u.r,u.t,u.here,lj u.come p,cur,q2,_,_,_,_⟩ ⟨⟨g1,h.rd,h.dn,h.h4,g2 _ _ h.fh.l hh2,h.fh⟩,g3▸qi.next nd (λg h=>h) (if_neg hin).symm,g4⟩ ?_))
  show 2*u.here.length+(cur.toList++q2).length<_
  rw[g3]
  exact Jx ql
noncomputable abbrev C9:M Bool:=aT tA (getL 7) (aa (.str (OO "")))
theorem OI.out{u:PU}(O:OI X order u)(h:u.cur=none):u.here=[]:=by
 refine List.eq_nil_iff_forall_not_mem.mpr λx hx=>?_
 have:=O.qi.hq x hx
 rw[h,O.en h]at this
 cases this
theorem Jv(ok:X.Ok){b:Bool}(nd:order.Nodup)(ho:order.length<=100){Q:Fl->St->Prop}(w:∀v:PU,OI X order v->v.here=[]->v.cur=none->Q .next ⟨v.σ,v.fr X x2 (some (.bool b))⟩):∀(fuel:Nat)(u:PU),u.m<fuel->u.m<=90->OI X order u ->
  W (dr C9 C8 fuel) ⟨u.σ,u.fr X x2 (some (.bool b))⟩ Q:=by
 intro fuel
 induction fuel with
 | zero=>exact λu hf=>absurd hf (Pm _)
 | succ f ih =>
  intro u hf hm O
  obtain⟨l,e1,e2⟩:=Dj X u.cur
  have test:∀{Q:Bool->St->Prop},Q (!u.cur.isNone) ⟨u.σ,u.fr X x2 (some (.bool b))⟩->W C9 ⟨u.σ,u.fr X x2 (some (.bool b))⟩ Q:=λ{Q} hq =>
   cU (xG (congrArg (λz=>some (some z)) e1) (xK tz (KH (gW (by rw[e2];exact hq)))))
  cases hc:u.cur with
  | none=>exact o8 (test ⟨by rw[hc];rfl,w u O (O.out hc) hc⟩)
  | some p=>exact o9 (test ⟨by rw[hc];rfl,Kl ok nd ho O hc hm λv O' l=>⟨rfl,ih v (O0 l (Q0 hf)) (OZ (Pq l) hm) O'⟩⟩)
variable {ord:Nat->List Nat}{s:Nat}{seed:Nat->Int}{kL kT:Nat}{la ts:Nat->Nat}
noncomputable def sgs(l:List Nat):List V:=l.map λc=>sx [c]
theorem EW{l:List Nat}{Q:V->St->Prop}(hl:l.length<=1000000)(q:Q (.ref σ.length) ⟨σ++[.list (sgs l)],L⟩):W (xY [sx l]) ⟨σ,L⟩ Q:=by
 have h:(tx l).length<=1000000:=by rw[b0];exact hl
 exact cM h (xN q)
noncomputable def oR(ord:Nat->List Nat)(s:Nat)(seed:Nat->Int)(k j:Nat):List Nat:=qc (ord k) s (seed k) j
noncomputable def Eh(ord:Nat->List Nat)(s:Nat)(seed:Nat->Int)(k:Nat):List Nat:=((OP 4).map (oR ord s seed k)).flatten
theorem Dr{k way:Nat}{w:List Nat}(hw:w.length<=5):(oE k way w).length<=20:=by
 have h:=pD (rh way) w
 unfold oE
 rw[O2]
 show 2+_<=20
 split
 ·rw[O2,Py];show 2+(_+1+1)<=20;lia
 ·have:((Ey.drop k).take 1).length<=1:=List.length_take_le ..
  rw[O2];lia
theorem oS(hp:∀k<4,cC (ord k)){k j:Nat}(hk:k<4)(hj:j<4):(oR ord s seed k j).length<=20 :=
 Dr (jx ((hp k hk).lt _ (O1 (bb (l:=ord k) (by rw[(hp k hk).len];exact hj)))) _ _)
theorem KC(k:Nat):Eh ord s seed k=oR ord s seed k 0++(oR ord s seed k 1++(oR ord s seed k 2++(oR ord s seed k 3++[]))):=rfl
theorem tn(hp:∀k<4,cC (ord k)){k:Nat}(hk:k<4):(Eh ord s seed k).length<=80:=by
 have h0:=oS (s:=s) (seed:=seed) hp hk (j:=0) (by decide)
 have h1:=oS (s:=s) (seed:=seed) hp hk (j:=1) (by decide)
 have h2:=oS (s:=s) (seed:=seed) hp hk (j:=2) (by decide)
 have h3:=oS (s:=s) (seed:=seed) hp hk (j:=3) (by decide)
 rw[KC]
 simp only[O2,RK]
 lia
structure Nb(ord:Nat->List Nat)(s:Nat)(seed:Nat->Int)(n0 j:Nat)(σ:List O)(ts:Nat->Nat):Prop where
 at_:∀k<j,σ[ts k]?=some (.list (sgs (Eh ord s seed k)))
 lo:∀k<j,n0<=ts k
 lt:∀i k,i<k->k<j->ts i<ts k
theorem Hp(hp:∀k<4,cC (ord k))(hL:L.length=15)(h2:L[2]?=some (some (.ref kL)))(hk:σ[kL]?=some (.list ((OP 4).map λk=>V.ref (la k))))(hl:∀k<4,σ[la k]?=some (.list ((OP 4).map λj=>sx (oR ord s seed k j)))){Q:V->St->Prop}
  (q:∀g ts,Nb ord s seed σ.length 4 (σ++g) ts->Q (.ref (σ++g).length) ⟨σ++g++[.list ((OP 4).map λk=>V.ref (ts k))],L⟩) :
  W (dY 15 (fj (getL 2)) (aa true) (bO (ab (bn fG (aa (.str (OO ""))) (ab (getL 15) am) gu) am) xY) 1000) ⟨σ,L⟩ Q:=by
 refine NK (c:=V.ref) (f:=λk=>V.ref (la k)) (P:=λj t τ=>Xt σ τ->Nb ord s seed σ.length j τ t) hL (by decide) (xG h2 ⟨rfl,[],by rw[O4],by rw[O4];exact hk⟩) (λu=>0) (λτ u=>⟨λk hk=>absurd hk (Pm _),λk hk=>absurd hk (Pm _),λi k u hk=>absurd hk (Pm _)⟩) (λj hj t τ x P Q q=>?_) λg t P=>q g t (P (Xt.app g))
 have T:=P x
 have htl:=tn (s:=s) (seed:=seed) hp hj
 refine fz (ak (dA (xK tz ⟨rfl,ak (xG (K4 hL _) (aJ (jT (ls:=(OP 4).map λi=>oR ord s seed j i) (by rw[PH];exact x.get (hl j hj)) (OZ htl (by decide)) (aJ (EW (l:=Eh ord s seed j) (OZ htl (by decide)) (q _ _ (Xt.app _) λu=>⟨?_,?_,?_⟩))))))⟩)))
 ·exact jy (p:=λ(k a:Nat)=>(τ++[O.list (sgs (Eh ord s seed j))])[a]?=some (.list (sgs (Eh ord s seed k)))) (λk hk=>ad (T.at_ k hk)) ar
 ·exact jy (p:=λu a=>σ.length<=a) T.lo x.len
 ·exact En (p:=(· <·)) T.lt λi hi=>aO (T.at_ i hi)
structure Ng(ord:Nat->List Nat)(s:Nat)(seed:Nat->Int)(ts:Nat->Nat)(n0 j:Nat)(σ:List O)(I:Nat->LI):Prop where
 at_:∀k<j,Lx (I k) σ 1 (Eh ord s seed k) []
 sg:∀k<j,(I k).sg=ts k
 lo:∀k<j,n0<=(I k).d/\n0<=(I k).d2/\n0<=(I k).pb
 lt:∀i k,i<k->k<j->(I i).d<(I k).d/\(I i).d<(I k).d2/\(I i).d2<(I k).d/\(I i).pb<(I k).pb
theorem Em:((OP 4).all λhs=>(OP 12).all λf=>(OP 3).all λm=>(lW hs f m).all λc=>decide (c<0x110000))=true:=by decide+kernel
theorem Ji:((OP 27).all λc=>decide (Co c<0x110000))=true:=by decide+kernel
theorem AT{hs s:Nat}(hh:hs<4)(hst:s∈qM)(x:Int):∀c∈eH hs s x,c<0x110000:=λc hc=>by
 rcases um hc with rfl | h | rfl
 ·exact of_decide_eq_true (O6.mp Ji _ (O5.mpr (iN _ (m:=27) (n:=27) rfl (by decide)).2))
 ·exact of_decide_eq_true (O6.mp (O6.mp (O6.mp (O6.mp Em hs (O5.mpr hh)) (lq x) (O5.mpr (oM x))) (x.fmod 3).toNat (O5.mpr (iN x (m:=3) (n:=3) rfl (by decide)).2)) c h)
 ·exact Nat.lt_succ_of_le (D3 _ hst)
theorem ul{e:Nat->Bool}{c:Nat}:∀{w:List Nat},c∈eE e w->c=92\/c∈w
 | [],h=>nomatch h
 | d::w,h=>by
  unfold eE at h
  rcases Pk.mp h with h | h
  ·split at h
   ·simp at h
    rcases h with h | h
    ·exact .inl h
    ·exact .inr (h▸Pe ..)
   ·exact .inr ((OS.mp h)▸Pe ..)
  ·exact(ul h).imp id (Pa _)
theorem GK{k way:Nat}{w:List Nat}(h:∀c∈w,c<0x110000):∀c∈oE k way w,c<0x110000:=by
 have e:∀c∈eE (rh way) w,c<0x110000:=λc hc=>(ul hc).elim (λe=>by lia) (h c)
 have a:EI.getD (k%3) 0<0x110000:=by
  have:=(tw k).1
  have h2:∀c∈qO,c<0x110000:=by decide
  exact h2 _ this
 have b:∀c∈(Ey.drop k).take 1,c<0x110000:=λc hc=>by
  have h2:∀c∈Ey,c<0x110000:=by decide
  exact h2 c (Sr (List.mem_of_mem_take hc))
 intro c hc
 unfold oE at hc
 rcases Pk.mp hc with hc | hc
 ·simp only[PW,PL,or_false]at hc
  rcases hc with rfl | rfl
  ·decide
  ·exact a
 ·split at hc
  ·simp only[Pk,PW,PL,or_false]at hc
   rcases hc with(rfl | hc) | rfl
   ·decide
   ·exact e c hc
   ·decide
  ·rcases Pk.mp hc with hc | hc
   ·exact e c hc
   ·exact b c hc
theorem Dg(hp:∀k<4,cC (ord k))(hs:s∈qM){k:Nat}(hk:k<4){j:Nat}(hj:j<4):∀c∈oR ord s seed k j,c<0x110000 :=
 GK (AT ((hp k hk).lt _ (O1 (bb (l:=ord k) (by rw[(hp k hk).len];exact hj)))) hs _)
theorem IV(hp:∀k<4,cC (ord k))(hs:s∈qM){k:Nat}(hk:k<4):∀c∈Eh ord s seed k,P3 (.str (tx [c]))=true:=λc hc=>by
 obtain⟨l,hl,hc⟩:=List.mem_flatten.mp hc
 obtain⟨j,hj,rfl⟩:=PY.mp hl
 exact qZ λd hd=>(OS.mp hd)▸Dg hp hs hk (O5.mp hj) c hc
theorem CK(hp:∀k<4,cC (ord k))(hs:s∈qM)(hL:L.length=15)(h4:L[4]?=some (some (.ref kT)))(hk:σ[kT]?=some (.list ((OP 4).map λk=>V.ref (ts k)))){n0:Nat}(T:Nb ord s seed n0 4 σ ts){Q:V->St->Prop}
  (q:∀g I,Ng ord s seed ts σ.length 4 (σ++g) I->Q (.ref (σ++g).length) ⟨σ++g++[.list ((OP 4).map λk=>V.ref (I k).lx)],L⟩) :
  W (dY 15 (fj (getL 4)) (aa true) (bz (ab (getL 15) am) eW) 1000) ⟨σ,L⟩ Q:=by
 refine NK (c:=λI:LI=>V.ref I.lx) (f:=λk=>V.ref (ts k)) (P:=λj I τ=>Xt σ τ->Ng ord s seed ts σ.length j τ I) hL (by decide) (xG h4 ⟨rfl,[],by rw[O4],by rw[O4];exact hk⟩) (λu=>⟨0,0,0,0,0,0,0,0⟩) (λτ u=>⟨λk hk=>absurd hk (Pm _),λk hk=>absurd hk (Pm _),λk hk=>absurd hk (Pm _),λi k u hk=>absurd hk (Pm _)⟩) (λj hj I τ x P Q q=>?_) λg I P=>q g I (P (Xt.app g))
 have X:=P x
 have htl:=tn (s:=s) (seed:=seed) hp hj
 refine gc (ak (xG (K4 hL _) (aJ (xW (T:=Eh ord s seed j) (x.get (T.at_ j hj)) (OZ htl (by decide)) (IV hp hs hj) λJ τ' lx esg l1 l2 l3 l4 same len=>?_))))
 refine q τ' J ⟨len,same⟩ λu=>⟨?_,?_,?_,?_⟩
 ·obtain⟨g,rfl⟩:=iU same
  exact jy (p:=λk (I:LI)=>Lx I (τ++g) 1 (Eh ord s seed k) []) (λk hk=>(X.at_ k hk).app g) lx
 ·exact jy (p:=λk (I:LI)=>I.sg=ts k) X.sg esg
 ·exact jy (p:=λ_ (I:LI)=>σ.length<=I.d/\σ.length<=I.d2/\σ.length<=I.pb) X.lo ⟨OZ x.len l2,OZ x.len l3,OZ x.len l4⟩
 ·refine En (p:=λA B:LI=>A.d<B.d/\A.d<B.d2/\A.d2<B.d/\A.pb<B.pb) X.lt λi hi=>?_
  have a:=X.at_ i hi
  obtain⟨fs,hd2,_⟩:=a.d2
  exact⟨O0 (aO a.d) l2,O0 (aO a.d) l3,O0 (aO hd2) l2,O0 (aO a.pb) l4⟩
variable {pa pb:Nat->Nat}{kP kH:Nat}
noncomputable abbrev Ia:M Fl:=(eT (c9 123 "push_token" (getL 6) (ab (getL 7) am) bg))
theorem NX:eF 4=[3,2,1,0]:=by decide+kernel
theorem EY{k:Nat}{a b c d:V}{m:M V}{Q:V->St->Prop}(h:W m ⟨σ,L⟩ λx st'=>x=.ref k/\st'=⟨σ,L⟩)(hk:σ[k]?=some (.list [a,b,c,d]))(q:Q (.ref σ.length) ⟨σ++[.list [d,c,b,a]],L⟩):W (uI m) ⟨σ,L⟩ Q:=by
 refine xB (h.mono λx s1 ⟨e1,e2⟩=>?_)
 subst e1;subst e2
 refine br hk (cM (show 4<=1000000 by decide) ?_)
 show W (gU (.list (pick (eF 4) [a,b,c,d]))) _ _
 rw[NX]
 exact xN q
noncomputable abbrev LP(x0 x1 x2 x3 x4 x5 x6 x7 x8 x9 x10 x11 x12 x13 x14:Option V):List (Option V) := [x0,x1,x2,x3,x4,x5,x6,x7,x8,x9,x10,x11,x12,x13,x14]
theorem Dn{I:LI}{kl:Nat}{xs:List V}{x0 x1 x2 x3 x4 x5 x7 x8 x9 x10 x11 x12 x13 x14:Option V}(h:Lx I σ 1 [] [])(hk:σ[kl]?=some (.list xs))(o:Bc I kl)(hl:xs.length<=900){Q:Fl->St->Prop}
  (w:∀σ' x7',Lx I σ' 1 [] xs->Kp I σ σ'->Q .next ⟨σ',LP x0 x1 x2 x3 x4 x5 (some (.ref I.lx)) x7' x8 x9 x10 x11 x12 x13 x14⟩) :
  W (b4 d4 7 Ia 1000 (.list kl 0)) ⟨σ,LP x0 x1 x2 x3 x4 x5 (some (.ref I.lx)) x7 x8 x9 x10 x11 x12 x13 x14⟩ Q:=by
 refine sm (γ:=List O×Option V) (λu=>⟨u.1,LP x0 x1 x2 x3 x4 x5 (some (.ref I.lx)) u.2 x8 x9 x10 x11 x12 x13 x14⟩) (λj u=>Lx I u.1 1 [] (xs.take j)/\Kp I σ u.1) (λj u hu=>hu.2.out h o hk) (λj x u hx hu Q q=>?_) (Pr hl (by decide)) (u:=(σ,x7)) ⟨h,Kp.refl⟩ λv hv=>w v.1 v.2 (by have:=hv.1;rwa [S6]at this) hv.2
 refine EJ (si (xG rfl ⟨_,_,_,rfl,hu.1.lx,hu.1.d,(iY ..).2.1,xG rfl (Dm hu.1 (by rw[Rx];omega) λτ2 h2 k2=>q (τ2,some x) ⟨?_,hu.2.trans k2⟩)⟩))
 obtain⟨hj,e⟩:=OW.mp hx
 rw[QZ hj,e]
 exact h2
noncomputable def dk(b:Bool):List Nat:=if b then [3,2,1,0]else [0,1,2,3]
noncomputable abbrev FG:M Fl:=(ao (fj (a8 (ao (getL 3) c8) (uI (getL 0)) (getL 0))) λit=>b4 d4 7 Ia 1000 it)
theorem JY{I:LI}{b:Bool}{x1 x2 x4 x5 x7 x8 x9 x10 x11 x12 x13 x14:Option V}(h:Lx I σ 1 [] [])(hk:σ[kP]?=some (.list (sW pa pb)))(o:Bc I kP){Q:Fl->St->Prop}
  (w:∀g σ' x7',Lx I σ' 1 [] ((dk b).map λi=>sx [sg (pa i),sg (pb i)])->Kp I (σ++g) σ'->Q .next ⟨σ',LP (some (.ref kP)) x1 x2 (some (.bool b)) x4 x5 (some (.ref I.lx)) x7' x8 x9 x10 x11 x12 x13 x14⟩) :
  W FG ⟨σ,LP (some (.ref kP)) x1 x2 (some (.bool b)) x4 x5 (some (.ref I.lx)) x7 x8 x9 x10 x11 x12 x13 x14⟩ Q:=by
 refine xB (o5 (k:=if b then σ.length else kP) (xs:=(dk b).map λi=>sx [sg (pa i),sg (pb i)]) (jN (xB (xG rfl (gW ?_)))))
 cases b with
 | true =>
  refine vv (EY (k:=kP) (xG rfl ⟨rfl,rfl⟩) hk ⟨rfl,ar,?_⟩)
  exact Dn (kl:=σ.length) (xs:=(dk true).map λi=>sx [sg (pa i),sg (pb i)]) (h.app _) ar ⟨PE (aO h.sg),PE (aO h.pb)⟩ (show 4<=900 by decide) (w _)
 | false =>
  refine oJ (xG rfl ⟨rfl,hk,?_⟩)
  exact Dn (kl:=kP) (xs:=(dk false).map λi=>sx [sg (pa i),sg (pb i)]) h hk o (show 4<=900 by decide) λσ' x7' h1 h2=>w [] σ' x7' h1 (by rw[O4];exact h2)
noncomputable def ij(ord:Nat->List Nat)(s:Nat)(seed:Nat->Int)(k c:Nat):List Nat:=(((OP 4).drop c).map (oR ord s seed k)).flatten
noncomputable def CP(ord:Nat->List Nat)(s:Nat)(seed:Nat->Int)(k c:Nat):Int:=1+(((((OP 4).take c).map (oR ord s seed k)).flatten.count 10:Nat))
noncomputable def cnt(ord:Nat->List Nat)(mu:Nat->Nat)(k:Nat):Nat:=(ord k).idxOf (mu k)+1
noncomputable abbrev zx:M V:=(dY 15 (fj (getL 4)) (aa true) (bn fG (aa (.str (OO ""))) (ab (getL 15) am) gu) 1000)
noncomputable abbrev xX:M V:=(dY 15 (fj (getL 5)) (aa true) (cE 123 "lineno" (getL 15)) 1000)
variable {X:RX}{c wish:Nat->Nat}{come q:List Nat}
theorem AQ(h:RS X σ c wish come q)(hL:L.length=15)(h4:L[4]?=some (some (.ref X.kT))){Q:V->St->Prop}(w:∀g,Q (.ref (σ++g).length) ⟨σ++g++[.list ((OP 4).map λk=>sx (X.rest k (c k)))],L⟩):W zx ⟨σ,L⟩ Q:=by
 refine NM (l:=OP 4) (f:=λk=>V.ref (X.I k).sg) (y:=λk=>sx (X.rest k (c k))) hL (show 4<=900 by decide) (xG h4 ⟨rfl,[],by rw[O4],by rw[O4];exact h.t⟩) (λj hj g=>?_) w
 replace hj:=O5.mp hj
 have ht:=(h.lex j hj).tl
 refine dA (xK tz ⟨rfl,ak (xG (by rw[Pi (by lia),hL];rfl) (aJ (jT (ls:=(X.rest j (c j)).map λc=>[c]) (by rw[PH];exact ad (h.lex j hj).sg) (by rw[xx];lia) ⟨by rw[xx],[],by rw[O4]⟩)))⟩)
theorem Ab(h:RS X σ c wish come q)(hL:L.length=15)(h5:L[5]?=some (some (.ref X.kX))){Q:V->St->Prop}(w:∀g,Q (.ref (σ++g).length) ⟨σ++g++[.list ((OP 4).map λk=>V.int (X.ln k (c k)))],L⟩):W xX ⟨σ,L⟩ Q:=by
 refine NM (l:=OP 4) (f:=λk=>V.ref (X.I k).lx) (y:=λk=>V.int (X.ln k (c k))) hL (show 4<=900 by decide) (xG h5 ⟨rfl,[],by rw[O4],by rw[O4];exact h.x⟩) (λj hj g=>?_) w
 have hl:=(h.lex j (O5.mp hj)).app g
 exact d9 (xG (by rw[Pi (by lia),hL];rfl) ⟨_,_,_,_,rfl,hl.lx,hl.d,w6 ..,rfl,rfl,[],by rw[O4]⟩)
end
structure Laid(X:RX):Prop where
 p:X.kP<X.base.length
 h:X.kH<X.base.length
 sg:∀k<4,X.base.length<=(X.I k).sg/\(X.I k).sg<X.kT
 sgs:∀i k,i<k->k<4->(X.I i).sg<(X.I k).sg
 lo:∀k<4,X.kT<(X.I k).d/\X.kT<(X.I k).d2/\X.kT<(X.I k).pb
 hi:∀k<4,(X.I k).d<X.kX/\(X.I k).d2<X.kX/\(X.I k).pb<X.kX
 lt:∀i k,i<k->k<4->(X.I i).d<(X.I k).d/\(X.I i).d<(X.I k).d2/\(X.I i).d2<(X.I k).d/\(X.I i).pb<(X.I k).pb
 ls:X.kX<X.Il.sg
 ll:X.Il.sg<X.Il.d/\X.Il.sg<X.Il.d2/\X.Il.sg<X.Il.pb
 lh:X.Il.d<X.kW/\X.Il.d2<X.kW/\X.Il.pb<X.kW
 wc:X.kW<X.kC
section
variable {α β:Type}{st:St}{σ σ':List O}{L:List (Option V)}{pa pb:Nat->Nat}{ord:Nat->List Nat}{s:Nat}{seed:Nat->Int}{kL kT kP kH:Nat}{la ts:Nat->Nat}
theorem iR{a b c:Nat}(h:a<c)(h':c<b):a≠b:=Pg (Qd h h')
theorem gv{a b c:Nat}(h:b<c)(h':c<a):a≠b:=PE (Qd h h')
theorem Laid.tx{X:RX}(A:Laid X):X.base.length<=X.kT/\X.kT<X.kX:=⟨Pq (Pr (A.sg 0 (by decide)).1 (A.sg 0 (by decide)).2),Qd (A.lo 0 (by decide)).1 (A.hi 0 (by decide)).1⟩
theorem Laid.sl{X:RX}(A:Laid X):X.kX<X.Il.d/\X.kX<X.Il.d2/\X.kX<X.Il.pb:=⟨Qd A.ls A.ll.1,Qd A.ls A.ll.2.1,Qd A.ls A.ll.2.2⟩
theorem Laid.sx{X:RX}(A:Laid X){j:Nat}(hj:j<4):(X.I j).sg<X.kX:=Qd (A.sg j hj).2 A.tx.2
theorem Laid.xw{X:RX}(A:Laid X):X.kX<X.kW:=Qd A.sl.1 A.lh.1
theorem Laid.low{X:RX}(A:Laid X){a:Nat}(ha:a<X.base.length):HB X a:=by
 have h:=O0 ha A.tx.1
 have h':=Qd h A.tx.2
 exact⟨λj hj=>⟨Pg (O0 ha (A.sg j hj).1),iR h (A.lo j hj).2.2⟩,⟨iR h' A.ls,iR h' A.sl.2.2⟩⟩
theorem Laid.high{X:RX}(A:Laid X){a:Nat}(ha:X.kW<=a):HB X a:=by
 have h:=O0 A.xw ha
 exact⟨λj hj=>⟨gv (A.sx hj) h,gv (A.hi j hj).2.2 h⟩,⟨gv A.ll.2.2 (O0 A.lh.2.2 ha),PE (O0 A.lh.2.2 ha)⟩⟩
theorem Laid.sep{X:RX}(A:Laid X){j k:Nat}(hj:j<4)(hk:k<4)(e:j<k):KJ (X.I j) (X.I k)/\KJ (X.I k) (X.I j):=by
 have l:=A.lt j k e hk
 have a:=(A.sg j hj).2
 have b:=(A.sg k hk).2
 have p:=(A.lo j hj).2.2
 have r:=(A.lo k hk).2.2
 exact⟨⟨Pg l.1,Pg l.2.2.1,Pg (A.sgs j k e hk),iR a r,gv b p,Pg l.2.2.2⟩,⟨PE l.1,PE l.2.1,PE (A.sgs j k e hk),iR b p,gv a r,PE l.2.2.2⟩⟩
theorem Laid.ok{X:RX}(A:Laid X)(st:X.s∈qM)(perm:∀k<4,cC (X.ord k))(pd:∀i<4,∀j<4,X.pl i=X.pl j->i=j)(pab:∀k<4,X.pa k<7/\X.pb k<7):X.Ok:=by
 have bT:=A.tx.1
 have TX:=A.tx.2
 have XW:=A.xw
 have bW:=Pq (Pr bT (Qd TX XW))
 have bX:=Pq (Pr bT TX)
 have WC:=A.wc
 refine⟨st,perm,λj hj k hk e=>?_,λj hj=>⟨iR (A.hi j hj).1 A.sl.1,iR (A.hi j hj).2.1 A.sl.1,iR (A.sx hj) A.ls,iR (A.sx hj) A.sl.2.2,iR (A.hi j hj).2.2 A.ls,iR (A.hi j hj).2.2 A.sl.2.2⟩,λj hj=>⟨gv (A.hi j hj).1 A.sl.1,gv (A.hi j hj).1 A.sl.2.1,gv (A.sx hj) A.ls,gv (A.hi j hj).2.2 A.ls,gv (A.sx hj) A.sl.2.2,gv (A.hi j hj).2.2 A.sl.2.2⟩,
  A.low A.p,A.low A.h,A.high (O8 _),A.high (Pq WC),⟨λj hj=>⟨PE (A.sg j hj).2,Pg (A.lo j hj).2.2⟩,⟨iR TX A.ls,iR TX A.sl.2.2⟩⟩,⟨λj hj=>⟨PE (A.sx hj),PE (A.hi j hj).2.2⟩,⟨Pg A.ls,Pg A.sl.2.2⟩⟩,
  PE (O0 A.p bW),PE (O0 A.h bW),Pg WC,gv TX XW,PE XW,gv (O0 A.p bW) WC,gv (O0 A.h bW) WC,gv TX (Qd XW WC),gv XW WC,pd,pab,
  λj hj=>⟨OZ bT (Pq (A.lo j hj).1),(A.sg j hj).1,OZ bT (Pq (A.lo j hj).2.2)⟩,⟨OZ bX (Pq A.sl.1),OZ bX (Pq A.ls),OZ bX (Pq A.sl.2.2)⟩,bW,OZ bW (Pq WC)⟩
 rcases Nat.lt_or_gt_of_ne e with e | e
 ·exact(A.sep hj hk e).1
 ·exact(A.sep hk hj e).2
theorem IW{ord:Nat->List Nat}(hp:∀k<4,cC (ord k)){wish c:Nat->Nat}(R:Rd ord [] wish c)(lt:∀k<4,wish k<4){k:Nat}(hk:k<4):c k=cnt ord wish k:=by
 have h0:c k≠0:=λe=>by
  have:=R.zero k hk e
  have:=lt k hk
  lia
 have h1:=R.last k hk (by lia)
 have h2:=R.le k hk
 unfold cnt
 rw[h1,ze (hp k hk) (by lia)]
 lia
theorem mH(b:Bool):∀x,x∈dk b↔x<4:=by
 intro x
 cases b
 ·exact O5 (n:=4)
 ·exact(List.mem_reverse (as := [3,2,1,0])).symm.trans (O5 (n:=4))
theorem xd{xs:List V}{ms:M (List V)}{Q:V->St->Prop}(h:W ms ⟨σ,L⟩ λys s1=>ys=xs/\s1=⟨σ,L⟩)(hl:xs.length<=1000000)(q:Q (.ref σ.length) ⟨σ++[.list xs],L⟩):W (aP ms) ⟨σ,L⟩ Q :=
 cS (h.mono λys s1 ⟨e1,e2⟩=>by subst e1;subst e2;exact⟨hl,q⟩)
structure Be(ord:Nat->List Nat)(s:Nat)(seed:Nat->Int)(b:Bool)(mu r:Nat->Nat)(σ:List O)(kr kW kC kt kl:Nat):Prop where
 core:oa ord mu r
 at_:σ[kr]?=some (.list [.ref kW,.ref kC,.ref kt,.ref kl])
 w:σ[kW]?=some (.list ((OP 4).map λk=>V.int (mu k:Nat)))
 c:σ[kC]?=some (.list (iL (dk b)))
 t:σ[kt]?=some (.list ((OP 4).map λk=>sx (ij ord s seed k (cnt ord mu k))))
 l:σ[kl]?=some (.list ((OP 4).map λk=>V.int (CP ord s seed k (cnt ord mu k))))
noncomputable abbrev Eu:M Fl:=(aw (af 7 (c9 123 "get_token" (getL 6) am aC))
 (aw (dr C9 C8 1000)
 (b8 (aP (ab (getL 9) (ab (getL 10) (ab zx (ab xX am))))))))
theorem OI.first{X:RX}{b:Bool}{σ:List O}{kh:Nat}{x y z a:Option V}(h:RS X σ (λu=>0) (λu=>4) [] (dk b).tail)(ht:σ[kh]?=some (.list (iL [0,1,2,3])))(fh:vw X kh) :
  OI X (dk b) ⟨σ,kh,λu=>0,λu=>4,λu=>0,0,[0,1,2,3],[],(dk b).head?,(dk b).tail,x,y,z,a⟩:=by
 have e:(dk b).head?.toList++(dk b).tail=dk b:=by cases b<;>rfl
 refine⟨⟨h,⟨λu u=>PQ _,λu u u=>rfl,λu u h=>absurd h (show ¬1<=0 by decide),λu u u h=>absurd h (Pm _)⟩,oh.start,λx hx=>(mH false x).mp hx,ht,fh⟩,?_,λe=>by cases b<;>exact nS e⟩
 show QI _ _ _ ((dk b).head?.toList++(dk b).tail)
 rw[e]
 exact⟨λx hx=>(mH b x).mpr ((mH false x).mp hx),λx hx=>(mH b x).mp hx,by cases b<;>rfl⟩
theorem OI.end_{X:RX}{b:Bool}{u:PU}(O:OI X (dk b) u)(h1:u.here=[])(h2:u.cur=none):u.come=dk b/\oa X.ord u.w u.r:=by
 have od:=O.qi.od
 rw[h2,O.en h2]at od
 have D:=O.ro.dn
 rw[h1]at D
 exact⟨(O4 _).symm.trans od,D.core⟩
theorem KD{X:RX}{b:Bool}(ok:X.Ok){kh:Nat}{x2 x7:Option V}(h:RS X σ (λu=>0) (λu=>4) [] (dk b))(ht:σ[kh]?=some (.list (iL [0,1,2,3])))(fh:vw X kh){Q:V->St->Prop}
  (q:∀σ' mu r kr kt kl,Be X.ord X.s X.seed b mu r σ' kr X.kW X.kC kt kl->vy X σ'->Q (.ref kr) ⟨σ',L⟩):W Eu ⟨σ,RL X x2 (some (.bool b)) x7 kh none none none none⟩ λf st'=>match f with | .ret x=>Q x ⟨st'.σ,L⟩ | .next=>Q .none ⟨st'.σ,L⟩ | _=>False:=by
 refine fA (xO (I:=X.Il) rfl h.line (iY ..).1 (H9 ok h λσ6 rs6 k6=>?_))
 refine r5 (Jv (X:=X) (x2:=x2) ok (b:=b) (by cases b<;>decide) (by cases b<;>decide) (λv J h1 h2=>⟨rfl,?_⟩) 1000 ⟨σ6,kh,λu=>0,λu=>4,λu=>0,0,[0,1,2,3],[],(dk b).head?,(dk b).tail,none,none,none,none⟩ (show 2*4+((dk b).head?.toList++(dk b).tail).length<1000 by cases b<;>decide) (show 2*4+((dk b).head?.toList++(dk b).tail).length<=90 by cases b<;>decide) (OI.first rs6 (k6 _ _ fh.l ht) fh))
 obtain⟨hc,core⟩:=J.end_ h1 h2
 have rd:=J.ro.rd
 rw[h1]at rd
 have hcnt:∀k<4,v.c k=cnt X.ord v.w k:=λk hk=>IW ok.perm rd core.lt hk
 have rs:=J.ro.rs
 refine gq (cS (ak (xG rfl (ak (xG rfl (ak (AQ rs rfl rfl λg8=>ak (Ab ((rs.app g8).app _) rfl rfl λg9=>aJ ⟨show 4<=1000000 by decide,?_⟩))))))))
 have R:=((((rs.app g8).app [.list ((OP 4).map λk=>sx (X.rest k (v.c k)))]).app g9).app [.list ((OP 4).map λk=>V.int (X.ln k (v.c k)))]).app [.list [V.ref X.kW,.ref X.kC,.ref (v.σ++g8).length,.ref (v.σ++g8++[O.list ((OP 4).map λk=>sx (X.rest k (v.c k)))]++g9).length]]
 refine q _ v.w v.r _ _ _ ⟨core,ar,R.w,hc▸R.c,(ad (ad (ad ar))).trans (congrArg (λz=>some (O.list z)) (PX λk hk=>?_)),(ad ar).trans (congrArg (λz=>some (O.list z)) (PX λk hk=>?_))⟩ R.o
 ·rw[hcnt k (O5.mp hk)];rfl
 ·rw[hcnt k (O5.mp hk)];rfl
theorem sK(σ g:List O):σ.length<=(σ++g).length:=by rw[O2];exact PT _ _
theorem mD(σ:List O)(o:O):(σ++[o]).length=σ.length+1:=by rw[O2];rfl
noncomputable abbrev IT:M Fl:=(aw (af 8 (aP (ab (aa (.int 0)) (ab (aa (.int 1)) (ab (aa (.int 2)) (ab (aa (.int 3)) am))))))
 (aw (af 9 (aP (ab (aa (.int 4)) (ab (aa (.int 4)) (ab (aa (.int 4)) (ab (aa (.int 4)) am))))))
 (aw (af 10 (aP am)) Eu)))
theorem E8{X:RX}{b:Bool}(ok:X.Ok){x2 x7:Option V}(hW:X.kW=σ.length+1)(hC:X.kC=σ.length+2)(lex:∀k<4,Lx (X.I k) σ (X.ln k 0) (X.rest k 0) [])(line:Lx X.Il σ 1 [] ((dk b).map λi=>sx (X.pl i)))
  (p:σ[X.kP]?=some (.list (sW X.pa X.pb))) (h:σ[X.kH]?=some (.list ((eS X.s).map sx))) (t:σ[X.kT]?=some (.list ((OP 4).map λk=>V.ref (X.I k).sg))) (x:σ[X.kX]?=some (.list ((OP 4).map λk=>V.ref (X.I k).lx))) (o:vy X σ) {Q:V->St->Prop}
  (q:∀σ' mu r kr kt kl,Be X.ord X.s X.seed b mu r σ' kr X.kW X.kC kt kl->vy X σ'->Q (.ref kr) ⟨σ',L⟩):W IT ⟨σ,LP (some (.ref X.kP)) (some (.ref X.kH)) x2 (some (.bool b)) (some (.ref X.kT)) (some (.ref X.kX)) (some (.ref X.Il.lx)) x7 none none none none none none none⟩ λf st'=>match f with | .ret x=>Q x ⟨st'.σ,L⟩ | .next=>Q .none ⟨st'.σ,L⟩ | _=>False:=by
 refine fA (xd (xs:=iL [0,1,2,3]) (ak (xP (ak (xP (ak (xP (ak (xP (aJ ⟨rfl,rfl⟩)))))))) ) (show 4<=1000000 by decide) ?_)
 refine fA (xd (xs:=(OP 4).map λu=>V.int ((4:Nat):Int)) (ak (xP (ak (xP (ak (xP (ak (xP (aJ ⟨rfl,rfl⟩)))))))) ) (show 4<=1000000 by decide) ?_)
 refine fA (xd (xs := []) (aJ ⟨rfl,rfl⟩) (PQ _) ?_)
 have m1:=mD σ (O.list (iL [0,1,2,3]))
 have m2:=(mD (σ++[O.list (iL [0,1,2,3])]) (O.list ((OP 4).map λu=>V.int ((4:Nat):Int)))).trans (congrArg (· +1) m1)
 have kw:(σ++[O.list (iL [0,1,2,3])]++[O.list ((OP 4).map λu=>V.int ((4:Nat):Int))]++[O.list []])[X.kW]?=some (.list ((OP 4).map λu=>V.int ((4:Nat):Int))):=by
  rw[hW,<- m1];exact ad ar
 have kc:(σ++[O.list (iL [0,1,2,3])]++[O.list ((OP 4).map λu=>V.int ((4:Nat):Int))]++[O.list []])[X.kC]?=some (.list []):=by
  rw[hC,<- m2];exact ar
 have rs:RS X (σ++[O.list (iL [0,1,2,3])]++[O.list ((OP 4).map λu=>V.int ((4:Nat):Int))]++[O.list []]) (λu=>0) (λu=>4) [] (dk b) :=
  ⟨λk hk=>(((lex k hk).app _).app _).app _,((line.app _).app _).app _,ad (ad (ad p)),ad (ad (ad h)),ad (ad (ad t)),ad (ad (ad x)),kw,kc,((o.app _).app _).app _⟩
 have fh:vw X σ.length:=⟨λj hj=>⟨PE (aO (lex j hj).sg),PE (aO (lex j hj).pb)⟩,⟨PE (aO line.sg),PE (aO line.pb)⟩,by rw[hW];exact Pg (PR _),by rw[hC];exact Pg (RT (by decide)),o.len⟩
 have key:∀w c,X.kW=w->X.kC=c->W Eu ⟨_,LP (some (.ref X.kP)) (some (.ref X.kH)) x2 (some (.bool b)) (some (.ref X.kT)) (some (.ref X.kX)) (some (.ref X.Il.lx)) x7 (some (.ref σ.length)) (some (.ref w)) (some (.ref c)) none none none none⟩ _:=λw c e1 e2=>by
  subst e1;subst e2;exact KD ok rs (ad (ad ar)) fh q
 exact key _ _ (hW.trans m1.symm) (hC.trans m2.symm)
theorem L9{b:Bool}(hst:s∈qM)(hp:∀k<4,cC (ord k))(pd:∀i<4,∀j<4,[sg (pa i),sg (pb i)]=[sg (pa j),sg (pb j)]->i=j)(pab:∀k<4,pa k<7/\pb k<7)
  (hkP:σ[kP]?=some (.list (sW pa pb))) (hkH:σ[kH]?=some (.list ((eS s).map sx))) (hkL:σ[kL]?=some (.list ((OP 4).map λk=>V.ref (la k)))) (hl:∀k<4,σ[la k]?=some (.list ((OP 4).map λj=>sx (oR ord s seed k j)))) {Q:V->St->Prop}
  (q:∀g mu r kr kW kC kt kl,Be ord s seed b mu r (σ++g) kr kW kC kt kl->Q (.ref kr) ⟨σ++g,L⟩):W (eR [.ref kP,.ref kH,.ref kL,.bool b]) ⟨σ,L⟩ Q:=by
 refine qx (mb:=jp) (L₀:=LP (some (.ref kP)) (some (.ref kH)) (some (.ref kL)) (some (.bool b)) none none none none none none none none none none none) rfl ?_
 unfold jp
 refine fA (Hp (ord:=ord) (s:=s) (seed:=seed) hp rfl rfl hkL hl λg1 ts T=>?_)
 have tl:∀k<4,ts k<(σ++g1).length:=λk hk=>aO (T.at_ k hk)
 have tlo:=T.lo
 have tlt:=T.lt
 have T':Nb ord s seed σ.length 4 (σ++g1++[.list ((OP 4).map λk=>V.ref (ts k))]) ts:=⟨λk hk=>ad (T.at_ k hk),T.lo,T.lt⟩
 have hkT:(σ++g1++[O.list ((OP 4).map λk=>V.ref (ts k))])[(σ++g1).length]?=some (.list ((OP 4).map λk=>V.ref (ts k))):=ar
 have le1:=mD (σ++g1) (O.list ((OP 4).map λk=>V.ref (ts k)))
 clear T
 generalize (σ++g1).length=kT at tl hkT le1 ⊢
 rw[OY]at T' hkT le1 ⊢
 generalize g1++[O.list ((OP 4).map λk=>V.ref (ts k))]=h1 at T' hkT le1 ⊢
 refine fA (CK (ord:=ord) (s:=s) (seed:=seed) hp hst rfl rfl hkT T' λg2 I X=>?_)
 have xl:∀k<4,(I k).d<(σ++h1++g2).length/\(I k).d2<(σ++h1++g2).length/\(I k).pb<(σ++h1++g2).length:=λk hk=>⟨aO (X.at_ k hk).d,let ⟨_,a,_⟩:=(X.at_ k hk).d2;aO a,aO (X.at_ k hk).pb⟩
 have X':Ng ord s seed ts (σ++h1).length 4 (σ++h1++g2++[.list ((OP 4).map λk=>V.ref (I k).lx)]) I:=⟨λk hk=>(X.at_ k hk).app _,X.sg,X.lo,X.lt⟩
 have hkX:(σ++h1++g2++[O.list ((OP 4).map λk=>V.ref (I k).lx)])[(σ++h1++g2).length]?=some (.list ((OP 4).map λk=>V.ref (I k).lx)):=ar
 have hkT2:=ad (r := [O.list ((OP 4).map λk=>V.ref (I k).lx)]) (ad (r:=g2) hkT)
 have le2:=mD (σ++h1++g2) (O.list ((OP 4).map λk=>V.ref (I k).lx))
 clear X hkT T'
 generalize (σ++h1++g2).length=kX at xl hkX le2 ⊢
 rw[OY,OY,<- OY h1]at X' hkX hkT2 le2 ⊢
 generalize h1++g2++[O.list ((OP 4).map λk=>V.ref (I k).lx)]=h2 at X' hkX hkT2 le2 ⊢
 refine fA (gc (ak (xd (xs := []) (aJ ⟨rfl,rfl⟩) (PQ _) (aJ (xW (T := []) ar (PQ _) (λc hc=>nomatch hc) λIl τ hx esg l1 l2 l3 l4 same len=>?_)))))
 obtain⟨g3,rfl⟩:=iU same
 clear same len l1
 rw[mD]at l2 l3 l4
 have at3:∀{i:Nat}{o:O},(σ++h2)[i]?=some o->(σ++h2++[O.list []]++g3)[i]?=some o:=λe=>ad (ad e)
 have lx3:∀k<4,Lx (I k) (σ++h2++[O.list []]++g3) 1 (Eh ord s seed k) []:=λk hk=>((X'.at_ k hk).app _).app _
 replace hkT2:=at3 hkT2
 replace hkX:=at3 hkX
 have hkP3:=at3 (ad hkP)
 have hkH3:=at3 (ad hkH)
 have old3:∀i<σ.length,(σ++h2++[O.list []]++g3)[i]?=σ[i]?:=λi hi=>by
  rw[OY,OY,O7 hi]
 have ui:σ.length<=(σ++h2++[O.list []]++g3).length:=OZ (OZ (sK σ h2) (sK _ _)) (sK _ g3)
 clear at3
 generalize σ++h2++[O.list []]++g3=σ3 at hx hkT2 hkX hkP3 hkH3 lx3 old3 ui ⊢
 have xs:kX<Il.sg:=by rw[esg,le2];exact PR _
 rw[<- esg]at l2 l3 l4
 have xT:kT<kX:=Qd (O0 (by rw[le1];exact PR _) (X'.lo 0 (by decide)).1) (xl 0 (by decide)).1
 have bT:σ.length<=kT:=Pq (Pr (tlo 0 (by decide)) (tl 0 (by decide)))
 have off:∀{a:Nat},a<=kX->Bc Il a:=λha=>⟨Pg (Pr ha xs),Pg (Qd (Pr ha xs) l4)⟩
 have hPl:=aO hkP
 have hHl:=aO hkH
 have bX:∀{a:Nat},a<σ.length->a<=kX:=λha=>Pq (Qd (O0 ha bT) xT)
 refine r5 (JY (kP:=kP) (pa:=pa) (pb:=pb) (b:=b) hx hkP3 (off (bX hPl)) λg4 σ4 x7 lx4 kp4=>⟨rfl,?_⟩)
 have dx:=hx.app g4
 have at4:∀{a:Nat}{xs:List V},a<=kX->σ3[a]?=some (.list xs)->σ4[a]?=some (.list xs):=λha e=>kp4.out dx (off ha) (ad e)
 let Z:RX:=⟨pa,pb,s,ord,seed,I,Il,kP,kH,σ4.length+1,σ4.length+2,kT,kX,σ⟩
 have A:Laid Z:=⟨hPl,hHl,λk hk=>⟨(X'.sg k hk).symm▸tlo k hk,(X'.sg k hk).symm▸tl k hk⟩,λi k e hk=>(X'.sg k hk).symm▸(X'.sg i (Qd e hk)).symm▸tlt i k e hk,
  λk hk=>⟨O0 (by rw[le1];exact PR _) (X'.lo k hk).1,O0 (by rw[le1];exact PR _) (X'.lo k hk).2.1,O0 (by rw[le1];exact PR _) (X'.lo k hk).2.2⟩,
  xl,X'.lt,xs,⟨l2,l3,l4⟩,⟨Ql (aO lx4.d),let ⟨_,a,_⟩:=lx4.d2;Ql (aO a),Ql (aO lx4.pb)⟩,PR _⟩
 have ok:Z.Ok:=A.ok hst hp pd pab
 have old:vy Z σ4:=vy.kp (X:=Z) (σ:=σ3++g4) ⟨OZ ui (sK _ _),λi hi=>(O7 (O0 hi ui)).trans (old3 i hi)⟩ kp4 ok.lol
 refine E8 (X:=Z) ok rfl rfl (λk hk=>((lx3 k hk).app g4).keep dx kp4 (ok.sl1 k hk)) lx4 (at4 (bX hPl) hkP3) (at4 (bX hHl) hkH3) (at4 (Pq xT) (hkT2.trans ?_)) (at4 (O8 _) hkX) old λσ' mu r kr kt kl R o=>?_
 ·exact congrArg (λz=>some (O.list z)) (PX λk hk=>congrArg V.ref (X'.sg k (O5.mp hk)).symm)
 ·obtain⟨g,rfl⟩:=iU (σ:=σ) (σ':=σ') o.at_
  exact q g mu r kr _ _ kt kl R
end
structure A5(ord:Nat->List Nat)(s:Nat)(seed:Nat->Int)(σ:List O)(kL:Nat)(la:Nat->Nat):Prop where
 at_:σ[kL]?=some (.list ((OP 4).map λk=>V.ref (la k)))
 each:∀k<4,σ[la k]?=some (.list ((OP 4).map λj=>sx (oR ord s seed k j)))
structure Oy(ord:Nat->List Nat)(s:Nat)(seed:Nat->Int)(c:Nat->Nat)(σ:List O)(kr kt kl:Nat):Prop where
 at_:σ[kr]?=some (.list [.ref kt,.ref kl])
 t:σ[kt]?=some (.list ((OP 4).map λk=>sx (ij ord s seed k (c k))))
 l:σ[kl]?=some (.list ((OP 4).map λk=>V.int (CP ord s seed k (c k))))
section
variable {α β:Type}{st:St}{σ σ':List O}{L:List (Option V)}{pa pb:Nat->Nat}{ord:Nat->List Nat}{s:Nat}{seed:Nat->Int}{kL kT kP kH kp:Nat}{la ts pl:Nat->Nat}
theorem BN(l:List Nat)(c:Nat):Txt.count (tx l) (tx [c])=((l.count c:Nat):Int):=by
 have h1:Txt.count (tx l) (tx [c])=PyProof.Rows.cnt c l:=Tl (tx l) c
 rw[h1]
 induction l with
 | nil=>rfl
 | cons a r ih =>
  have hr:PyProof.Rows.cnt c r=((r.count c:Nat):Int):=ih (Tl (tx r) c)
  rw[PyProof.Rows.cnt_cons,hr,Sv]
  by_cases q:a=c
  ·rw[if_pos q,if_pos (by simpa using q)];push_cast;lia
  ·rw[if_neg q,if_neg (by simpa using q)];push_cast;lia
theorem A5.app(h:A5 ord s seed σ kL la)(g:List O):A5 ord s seed (σ++g) kL la:=⟨ad h.at_,λk hk=>ad (h.each k hk)⟩
theorem zY(l:List (List Nat))(c:Nat):(l.take c).flatten.length<=l.flatten.length/\(l.drop c).flatten.length<=l.flatten.length:=by
 have h:=congrArg (λz=>z.flatten.length) (Qm c l)
 simp only[Sy,O2]at h
 lia
theorem rP(hp:∀k<4,cC (ord k)){k:Nat}(hk:k<4)(c:Nat):((((OP 4).take c).map (oR ord s seed k)).flatten.length<=80)/\((((OP 4).drop c).map (oR ord s seed k)).flatten.length<=80):=by
 have h:=tn (s:=s) (seed:=seed) hp hk
 have h2:=zY ((OP 4).map (oR ord s seed k)) c
 rw[<- List.map_take,<- List.map_drop]at h2
 have e:((OP 4).map (oR ord s seed k)).flatten.length<=80:=h
 lia
theorem FF(hp:∀k<4,cC (ord k))(hl:A5 ord s seed σ kL la)(hP:σ[kp]?=some (.list ((OP 4).map λk=>V.int (pl k:Nat))))(h4:∀k<4,pl k<4){x2:Option V}{Q:V->St->Prop}
  (q:∀g,Q (.ref (σ++g).length) ⟨σ++g++[.list ((OP 4).map λk=>sx (ij ord s seed k (pl k+1)))],[some (.ref kL),some (.ref kp),x2]⟩) :
  W (dY 3 (bq (ab (aa (.int 4)) am)) (aa true) (bn fG (aa (.str (OO ""))) (ab (eG (aj aA (getL 0) (getL 3)) (bU (aj bf (aj aA (getL 1) (getL 3)) (aa (.int 1)))) cr) am) gu) 1000) ⟨σ,[some (.ref kL),some (.ref kp),x2]⟩ Q:=by
 refine ug (b:=4) (y:=λk=>sx (ij ord s seed k (pl k+1))) rfl (by decide) (by decide) (ak (xP (aJ ⟨rfl,rfl⟩))) (λx hx g=>?_) q
 have hn:=h4 x hx
 refine dA (xK tz ⟨rfl,ak (oK (k:=la x) (a:=some ((pl x+1:Nat):Int)) (b:=none) (xs:=(OP 4).map λj=>sx (oR ord s seed x j)) (ys:=(((OP 4).drop (pl x+1)).map (oR ord s seed x)).map sx) (bw (xG rfl (xG rfl (cV (f:=λk=>V.ref (la k)) (ad hl.at_) hx ⟨rfl,rfl⟩))))
  (xB (bw (bw (xG rfl (xG rfl (cV (f:=λk=>V.int (pl k:Nat)) (ad hP) hx (xP (eO (xP ⟨rfl,rfl⟩))))))))) (xP ⟨rfl,rfl⟩) (ad (hl.each x hx)) (show 4<=1000000 by decide) ?_ (aJ (jT (ls:=((OP 4).drop (pl x+1)).map (oR ord s seed x)) ar ?_ ⟨rfl,_,rfl⟩)))⟩)
 ·rw[rS (show pl x+1<=4 by lia),<- List.map_drop,PH];rfl
 ·have:=(rP (s:=s) (seed:=seed) hp hx (pl x+1)).2
  lia
theorem CL(hp:∀k<4,cC (ord k))(hl:A5 ord s seed σ kL la)(hP:σ[kp]?=some (.list ((OP 4).map λk=>V.int (pl k:Nat))))(h4:∀k<4,pl k<4){x2:Option V}{Q:V->St->Prop}
  (q:∀g,Q (.ref (σ++g).length) ⟨σ++g++[.list ((OP 4).map λk=>V.int (CP ord s seed k (pl k+1)))],[some (.ref kL),some (.ref kp),x2]⟩) :
  W (dY 3 (bq (ab (aa (.int 4)) am)) (aa true) (aj bf (aa (.int 1)) (bn fG (bn fG (aa (.str (OO ""))) (ab (eG (aj aA (getL 0) (getL 3)) cr (bU (aj bf (aj aA (getL 1) (getL 3)) (aa (.int 1))))) am) gu) (ab (aa (.str (OO "\n"))) am) nh)) 1000) ⟨σ,[some (.ref kL),some (.ref kp),x2]⟩ Q:=by
 refine ug (b:=4) (y:=λk=>V.int (CP ord s seed k (pl k+1))) rfl (by decide) (by decide) (ak (xP (aJ ⟨rfl,rfl⟩))) (λx hx g=>?_) q
 have hn:=h4 x hx
 refine bw (xP (dA (dA (xK tz ⟨rfl,ak (oK (k:=la x) (a:=none) (b:=some ((pl x+1:Nat):Int)) (xs:=(OP 4).map λj=>sx (oR ord s seed x j)) (ys:=(((OP 4).take (pl x+1)).map (oR ord s seed x)).map sx) (bw (xG rfl (xG rfl (cV (f:=λk=>V.ref (la k)) (ad hl.at_) hx ⟨rfl,rfl⟩))))
  (xP ⟨rfl,rfl⟩) (xB (bw (bw (xG rfl (xG rfl (cV (f:=λk=>V.int (pl k:Nat)) (ad hP) hx (xP (eO (xP ⟨rfl,rfl⟩))))))))) (ad (hl.each x hx)) (show 4<=1000000 by decide) ?_ (aJ (jT (ls:=((OP 4).take (pl x+1)).map (oR ord s seed x)) ar ?_ ⟨rfl,ak (xK z7 (aJ ?_))⟩)))⟩))))
 ·rw[zq (show pl x+1<=4 by lia),<- List.map_take,PH];rfl
 ·have:=(rP (s:=s) (seed:=seed) hp hx (pl x+1)).1
  lia
 ·show W (aa (V.int (Txt.count (tx _) (tx [10])))) _ _
  rw[BN]
  exact xP (eO ⟨rfl,_,rfl⟩)
theorem J0(hp:∀k<4,cC (ord k))(hl:A5 ord s seed σ kL la)(hP:σ[kp]?=some (.list ((OP 4).map λk=>V.int (pl k:Nat))))(h4:∀k<4,pl k<4){Q:V->St->Prop}
  (q:∀g kr kt kl,Oy ord s seed (λk=>pl k+1) (σ++g) kr kt kl->Q (.ref kr) ⟨σ++g,L⟩):W (dV [.ref kL,.ref kp]) ⟨σ,L⟩ Q:=by
 refine qx (mb:=ib) (L₀ := [some (.ref kL),some (.ref kp),none]) rfl ?_
 unfold ib
 refine fA (FF hp hl hP h4 λg=>?_)
 refine gq (cS (ak (xG rfl (ak (CL hp ((hl.app g).app _) (ad (ad hP)) h4 λg2=>aJ ⟨show 2<=1000000 by decide,?_⟩)))))
 have ht:(σ++g++[O.list ((OP 4).map λk=>sx (ij ord s seed k (pl k+1)))]++g2++[O.list ((OP 4).map λk=>V.int (CP ord s seed k (pl k+1)))])[(σ++g).length]?=some (.list ((OP 4).map λk=>sx (ij ord s seed k (pl k+1)))):=ad (ad ar)
 have hn:(σ++g++[O.list ((OP 4).map λk=>sx (ij ord s seed k (pl k+1)))]++g2++[O.list ((OP 4).map λk=>V.int (CP ord s seed k (pl k+1)))])[(σ++g++[O.list ((OP 4).map λk=>sx (ij ord s seed k (pl k+1)))]++g2).length]?=some (.list ((OP 4).map λk=>V.int (CP ord s seed k (pl k+1)))):=ar
 generalize (σ++g).length=kt at ht ⊢
 generalize (σ++g++[O.list ((OP 4).map λk=>sx (ij ord s seed k (pl k+1)))]++g2).length=kl at hn ⊢
 obtain⟨h,e⟩:∃h,σ++g++[O.list ((OP 4).map λk=>sx (ij ord s seed k (pl k+1)))]++g2++[O.list ((OP 4).map λk=>V.int (CP ord s seed k (pl k+1)))]=σ++h:=⟨_,by simp only[OY];rfl⟩
 rw[e]at ht hn ⊢
 have fin:=q (h++[O.list [V.ref kt,.ref kl]]) (σ++h).length kt kl
 rw[<- OY]at fin
 exact fin ⟨ar,ad ht,ad hn⟩
theorem uk(f:Nat):∀l:List Int,(l.map V.int).mapM (bF f σ)=some (l.map Qp)
 | []=>rfl
 | c::l=>by
  rw[Ps,Qn,uk f l]
  have:bF f σ (.int c)=some (.int c):=by cases f<;>rfl
  rw[this];rfl
theorem ni{k:Nat}{l:List Int}(h:σ[k]?=some (.list (l.map V.int))):bF 7 σ (.ref k)=some (.list (l.map Qp)):=by
 show((gm σ[k]?).bind λxs=>(xs.mapM (bF 6 σ)).map SW)=_
 rw[h]
 show Q3 _ (Tp _ _)=_
 rw[uk]
 rfl
theorem BO{k:Nat}{l:List (List Nat)}(h:σ[k]?=some (.list (l.map sx))):bF 7 σ (.ref k)=some (.list (l.map λc=>QF (tx c))):=by
 show((gm σ[k]?).bind λxs=>(xs.mapM (bF 6 σ)).map SW)=_
 rw[h]
 show Q3 _ (Tp _ _)=_
 rw[ye]
 rfl
noncomputable def dI(l:List Int):PyData:=.list (l.map Qp)
noncomputable def dT(l:List (List Nat)):PyData:=.list (l.map λc=>QF (tx c))
theorem pq:∀l:List Int,PV (l.map Qp)=true
 | []=>by simp[PV]
 | a::r=>by rw[Ps,PV,pq r];simp[P3]
theorem re:∀l:List Int,P8 (l.map Qp)=0
 | []=>by simp[P8]
 | a::r=>by rw[Ps,P8,re r];simp[Rc]
theorem xq:∀l:List Int,Qb (l.map Qp) (l.map Qp)=true
 | []=>by simp[Qb]
 | a::r=>by rw[Ps,Qb,xq r];simp[QD]
theorem HM{k k1 k2 k3 k4:Nat}{a b d:List Int}{c:List (List Nat)}(h:σ[k]?=some (.list [.ref k1,.ref k2,.ref k3,.ref k4]))(h1:σ[k1]?=some (.list (a.map V.int)))(h2:σ[k2]?=some (.list (b.map V.int)))(h3:σ[k3]?=some (.list (c.map sx)))(h4:σ[k4]?=some (.list (d.map V.int))) :
  bF mc σ (.ref k)=some (.list [dI a,dI b,dT c,dI d]):=by
 show((gm σ[k]?).bind λxs=>(xs.mapM (bF 7 σ)).map SW)=_
 rw[h]
 show Q3 _ (Tp _ _)=_
 rw[Qn,Qn,Qn,Qn,ni h1,ni h2,BO h3,ni h4]
 rfl
theorem GQ(a b d:List Int){c:List (List Nat)}(h:Nf c):Q1 (.list [dI a,dI b,dT c,dI d])=true:=by
 simp only[Q1,dI,dT,P3,PV,Rc,P8,q8 h,pq,tQ,re]
 decide
theorem No(a b d:List Int)(c:List (List Nat)):QD (.list [dI a,dI b,dT c,dI d]) (.list [dI a,dI b,dT c,dI d])=true:=by
 simp only[dI,dT,QD,Qb,BU,xq]
 decide
theorem OC{k k':Nat}{d:PyData}(h:bF mc σ (.ref k)=some d)(h':bF mc σ (.ref k')=some d)(s:Q1 d=true)(e:QD d d=true):IY σ (.ref k) (.ref k')=some true:=by
 show EF _ _ _=_
 unfold EF
 rw[h,h']
 exact(if_pos ⟨s,s⟩).trans (by rw[e])
noncomputable def pw(ord:Nat->List Nat)(s:Nat)(seed:Nat->Int)(b:Bool)(mu c:Nat->Nat):PyData :=
 .list [dI ((OP 4).map λk=>((mu k:Nat):Int)),dI ((dk b).map λk=>((k:Nat):Int)),dT ((OP 4).map λk=>ij ord s seed k (c k)),dI ((OP 4).map λk=>CP ord s seed k (c k))]
theorem Dv(hst:s∈qM)(hp:∀k<4,cC (ord k))(c:Nat->Nat):Nf ((OP 4).map λk=>ij ord s seed k (c k)):=by
 intro t ht d hd
 obtain⟨k,hk,rfl⟩:=PY.mp ht
 obtain⟨l,hl,hd⟩:=List.mem_flatten.mp hd
 obtain⟨j,hj,rfl⟩:=PY.mp hl
 exact Dg hp hst (O5.mp hk) (O5.mp (Sr hj)) d hd
theorem Be.data{b:Bool}{mu r:Nat->Nat}{kr kW kC kt kl:Nat}(R:Be ord s seed b mu r σ kr kW kC kt kl):bF mc σ (.ref kr)=some (pw ord s seed b mu (cnt ord mu)) :=
 HM R.at_ (by rw[R.w,PH];rfl) (by rw[R.c,PH];rfl) (by rw[R.t,PH];rfl) (by rw[R.l,PH];rfl)
theorem tO(hst:s∈qM)(hp:∀k<4,cC (ord k)){b:Bool}{mu c:Nat->Nat}{k k':Nat}(h:bF mc σ (.ref k)=some (pw ord s seed b mu c))(h':bF mc σ (.ref k')=some (pw ord s seed b mu c)):IY σ (.ref k) (.ref k')=some true :=
 OC h h' (GQ _ _ _ (Dv hst hp c)) (No ..)
structure r9(σ:List O)(vs:List V)(rows:List (List Nat)):Prop where
 len:vs.length=rows.length
 at_:∀(i:Nat)(row:List Nat),rows[i]?=some row->∃a,vs[i]?=some (.ref a)/\σ[a]?=some (.list (iL row))
theorem r9.app{vs:List V}{rows:List (List Nat)}(h:r9 σ vs rows)(g:List O):r9 (σ++g) vs rows:=⟨h.len,λi row e=>by
 obtain⟨a,e1,e2⟩:=h.at_ i row e
 exact⟨a,e1,ad e2⟩⟩
theorem r9.snoc{vs:List V}{rows:List (List Nat)}{a:Nat}{row:List Nat}(h:r9 σ vs rows)(ha:σ[a]?=some (.list (iL row))):r9 σ (vs++[.ref a]) (rows++[row]):=by
 have hl:=h.len
 refine⟨by rw[O2,O2,hl];rfl,λi r e=>?_⟩
 rcases Sa i rows.length with q | q
 ·rw[O7 q]at e
  obtain⟨b,e1,e2⟩:=h.at_ i r e
  exact⟨b,by rw[O7 (hl▸q)];exact e1,e2⟩
 ·obtain rfl:i=rows.length:=Sw (by have:=(OW.mp e).1;rw[O2]at this;exact Q0 this) q
  rw[Rl]at e
  obtain rfl:=sj e
  exact⟨a,by rw[<- hl,Rl],ha⟩
noncomputable def ext(row:List Nat)(l:List Nat):List (List Nat):=(l.filter λk=> !row.contains k).map λk=>row++[k]
theorem BZ(row:List Nat)(k:Nat)(l:List Nat):ext row (k::l)=(if row.contains k then []else [row++[k]])++ext row l:=by
 unfold ext
 by_cases q:row.contains k=true
 ·rw[Q7 (by rw[q];simp),if_pos q];rfl
 ·rw[Q8 (by rw[P4.mpr q];rfl),if_neg q];rfl
noncomputable abbrev I6:M Bool:=(aT fv (getL 19) (getL 18))
noncomputable abbrev I5:M V:=(aj bf (getL 18) (aP (ab (getL 19) am)))
theorem Mc{x y:Option V}(hL:L.length=18)(z:Option V):(L++[x,y]).set 19 z=L++[x,z]:=by
 rw[QC _ _ (by lia),hL];rfl
theorem Mb{x y:Option V}(hL:L.length=18)(z:Option V):(L++[x,y]).set 18 z=L++[z,y]:=by
 rw[QC _ _ (by lia),hL];rfl
theorem HR{x y:Option V}(hL:L.length=18):(L++[x,y])[18]?=some x:=by rw[Pi (by lia),hL];rfl
theorem HS{x y:Option V}(hL:L.length=18):(L++[x,y])[19]?=some y:=by rw[Pi (by lia),hL];rfl
theorem r9.xt{τ:List O}{vs:List V}{rows:List (List Nat)}(h:r9 σ vs rows)(x:Xt σ τ):r9 τ vs rows:=⟨h.len,λi row e=>by
 obtain⟨a,e1,e2⟩:=h.at_ i row e
 exact⟨a,e1,x.get e2⟩⟩
theorem Fq{row:List Nat}{a n:Nat}{all:List (List Nat)}(hL:L.length=18)(hr:row.length<=100)(hn:n<=1000)(ha:σ[a]?=some (.list (iL row))){Q:List V->St->Prop}(q:∀acc τ z,Xt σ τ->acc.length<=n->r9 τ acc all->Q acc ⟨τ,L++[some (.ref a),z]⟩) :
  ∀(l fuel j:Nat)(acc:List V)(rows:List (List Nat))(τ:List O)(z:Option V),j+l=4->l<fuel->acc.length+l<=n->Xt σ τ->r9 τ acc rows->rows++ext row ((OP 4).drop j)=all ->
  W (compLoop d4 19 I6 I5 fuel (.range j ((l:Nat):Int) 1) acc) ⟨τ,L++[some (.ref a),z]⟩ Q:=by
 intro l
 induction l with
 | zero =>
  intro fuel j acc rows τ z e hf hl x R ea
  cases fuel with
  | zero=>exact absurd hf (Pm _)
  | succ f =>
   obtain rfl:j=4:=e
   rw[show rows++ext row ((OP 4).drop 4)=rows from O4 _]at ea
   subst ea
   exact xB ⟨none,_,rfl,xP (q acc τ z x hl R)⟩
 | succ l ih =>
  intro fuel j acc rows τ z e hf hl x R ea
  cases fuel with
  | zero=>exact absurd hf (Pm _)
  | succ f =>
   rw[pB (show j<4 by lia),BZ]at ea
   have hk:=x.get ha
   refine xB ⟨_,_,rJ,xB (xS ?_)⟩
   rw[Mc hL]
   refine xB (cU (xG (HS hL) (xG (HR hL) (l0 hk (gW ?_)))))
   by_cases p:row.contains j=true
   ·rw[if_pos p]at ea
    rw[p]
    exact ih f (j+1) acc rows τ _ (by lia) (Pp hf) (by lia) x R ea
   ·rw[if_neg p,<- OY]at ea
    rw[P4.mpr p]
    have e2:iL row++[V.int (j:Int)]=iL (row++[j]):=by simp[iL]
    refine xB (bw (xG (HR hL) (cS (ak (xG (HS hL) (aJ ⟨show 1<=1000000 by decide,sb (ad hk) ar ?_ (xN ?_)⟩))))))
    ·rw[iL,Pc];show _+1<=_;lia
    refine cM (show acc.length<=1000000 by lia) ?_
    rw[e2]
    exact ih f (j+1) _ _ _ _ (by lia) (Pp hf) (by rw[O2];show _+1+l<=n;lia) ((x.on _).on _) (((R.app _).app _).snoc ar) ea
theorem GD{kR:Nat}{vs:List V}{rows all:List (List Nat)}(hL:L.length=18)(hr:∀row∈rows,row.length<=100)(hn:rows.length<=100)(hk:σ[kR]?=some (.list vs))(R:r9 σ vs rows){Q:List V->St->Prop}(q:∀acc τ y z,Xt σ τ->r9 τ acc all->Q acc ⟨τ,L++[y,z]⟩) :
  ∀(l fuel j:Nat)(acc:List V)(out:List (List Nat))(τ:List O)(y z:Option V),j+l=rows.length->l<fuel->acc.length<=4*j->Xt σ τ->r9 τ acc out->(out++(rows.drop j).flatMap λrow=>ext row (OP 4))=all ->
  W (gF 18 (bq (ab (aa (.int 4)) am)) I6 I5 1000 fuel (.list kR j) acc) ⟨τ,L++[y,z]⟩ Q:=by
 have hl:=R.len
 intro l
 induction l with
 | zero =>
  intro fuel j acc out τ y z e hf ha x R2 ea
  cases fuel with
  | zero=>exact absurd hf (Pm _)
  | succ f =>
   have hv:vs[j]?=none:=P6 (by lia)
   rw[List.drop_eq_nil_of_le (by lia),List.flatMap_nil,O4]at ea
   subst ea
   refine xB ⟨_,_,KM (x.get hk),?_⟩
   rw[hv]
   exact xP (q acc τ y z x R2)
 | succ l ih =>
  intro fuel j acc out τ y z e hf ha x R2 ea
  cases fuel with
  | zero=>exact absurd hf (Pm _)
  | succ f =>
   have hj:j<rows.length:=by lia
   obtain⟨a,e1,e2⟩:=R.at_ j _ (Pf hj)
   rw[RA hj,List.flatMap_cons,<- OY]at ea
   refine xB ⟨_,_,KM (x.get hk),?_⟩
   rw[e1]
   refine xB (xS ?_)
   rw[Mb hL]
   refine xB (jU (b:=4) (ak (xP (aJ ⟨rfl,?_⟩))) (by decide))
   refine xB (Fq (n:=4*(j+1)) hL (hr _ (Rv hj)) (by lia) (x.get e2) (λacc' τ' z' x' h' R'=>?_) 4 1000 0 acc out τ z rfl (by decide) (by lia) (Xt.refl τ) R2 rfl)
   refine cM (show acc'.length<=1000000 by lia) ?_
   exact ih f (j+1) acc' _ τ' _ z' (by lia) (Pp hf) h' (x.trans x') R' ea
theorem LB{kR i:Nat}{vs:List V}{rows:List (List Nat)}(hL:L.length=18)(hi:L[i]?=some (some (.ref kR)))(hr:∀row∈rows,row.length<=100)(hn:rows.length<=100)(hk:σ[kR]?=some (.list vs))(R:r9 σ vs rows){Q:V->St->Prop}
  (q:∀g vs',r9 (σ++g) vs' (rows.flatMap λrow=>ext row (OP 4))->Q (.ref (σ++g).length) ⟨σ++g++[.list vs'],L⟩):W (v5 18 (fj (getL i)) (bq (ab (aa (.int 4)) am)) I6 I5 1000 1000) ⟨σ,L⟩ Q:=by
 obtain⟨acc,st2,e2,τ,y',z',rfl,x,R2⟩:=GD (Q:=λacc st2=>∃τ y z,st2=⟨τ,L++[y,z]⟩/\Xt σ τ/\r9 τ acc (rows.flatMap λrow=>ext row (OP 4))) hL hr hn hk R (λacc τ y z x R=>⟨τ,y,z,rfl,x,R⟩) rows.length 1000 0 [] [] σ none none (Rw _) (by lia) (O8 _) (Xt.refl σ) ⟨rfl,λi row e=>nomatch e⟩ rfl
 obtain⟨g,rfl⟩:=x.ex
 obtain⟨it,st1,e1,rfl,rfl⟩:W (fj (getL i)) ⟨σ,L⟩ λit st'=>it=.list kR 0/\st'=⟨σ,L⟩:=o5 (xs:=vs) (xG hi ⟨rfl,hk,rfl,rfl⟩)
 refine⟨.ref (σ++g).length,⟨σ++g++[.list acc],L⟩,?_,q g acc R2⟩
 unfold v5 BK
 simp only[ao,e1]
 rw[e2,Ry,Id,if_pos (show(L++[y',z']).take 18=L by rw[<- hL];simp)]
 rfl
noncomputable def n6:Nat->List (List Nat)
 | 0=>[[]]
 | n+1=>(n6 n).flatMap λrow=>ext row (OP 4)
noncomputable def zk(n:Nat):Bool:=decide ((n6 n).length<=24)&&(n6 n).all λrow=>row.length==n&&row.all λx=>decide (x<4)
theorem DC:((OP 5).all zk)=true:=by decide+kernel
theorem zl{n:Nat}(hn:n<5):(n6 n).length<=24/\∀row∈n6 n,row.length=n/\∀x∈row,x<4:=by
 have h:=O6.mp DC n (O5.mpr hn)
 unfold zk at h
 simpa only[PD,decide_eq_true_eq,O6,beq_iff_eq]using h
end
structure Rk(ord:Nat->List Nat)(mu:Nat->Nat)(σ:List O)(kR kp:Nat)(rk:Nat->Nat):Prop where
 at_:σ[kR]?=some (.list ((OP 4).map λk=>V.ref (rk k)))
 each:∀k<4,σ[rk k]?=some (.list ((OP 4).map λh=>V.int ((ord k).idxOf h:Nat)))
 p:σ[kp]?=some (.list ((OP 4).map λk=>V.int ((ord k).idxOf (mu k):Nat)))
noncomputable abbrev LW(x0 x1 x2 x3 x4 x5 x6 x7 x8 x9 x10 x11 x12 x13 x14 x15 x16 x17:Option V):List (Option V) :=
 [x0,x1,x2,x3,x4,x5,x6,x7,x8,x9,x10,x11,x12,x13,x14,x15,x16,x17]
set_option genInjectivity false in
structure FR where
 x0:Option V
 x1:Option V
 x2:Option V
 x3:Option V
 x4:Option V
 x5:Option V
 x6:Option V
 x7:Option V
 x8:Option V
 x9:Option V
 x10:Option V
 x17:Option V
 kR:Nat
 kp:Nat
noncomputable abbrev FR.fr(F:FR)(x13 x14 x15 x16:Option V):List (Option V) :=
 [F.x0,F.x1,F.x2,F.x3,F.x4,F.x5,F.x6,F.x7,F.x8,F.x9,F.x10,some (.ref F.kR),some (.ref F.kp),x13,x14,x15,x16,F.x17]
section
variable {α β:Type}{st:St}{σ σ':List O}{L:List (Option V)}{F:FR}{x13 x14 x15 x16:Option V}{ord:Nat->List Nat}{mu r:Nat->Nat}{rk:Nat->Nat}{kR kp:Nat}
theorem Rk.app(h:Rk ord mu σ kR kp rk)(g:List O):Rk ord mu (σ++g) kR kp rk:=⟨ad h.at_,λk hk=>ad (h.each k hk),ad h.p⟩
noncomputable def Ca(ord:Nat->List Nat)(mu:Nat->Nat)(row:List Nat)(i:Nat):Int:=z0 ord mu (row.getD i 0) (row.getD ((i+1)%row.length) 0)
noncomputable def pN(ord:Nat->List Nat)(mu:Nat->Nat)(row:List Nat):List Int:=(OP row.length).map (Ca ord mu row)
noncomputable abbrev Cb:M V:=(dY 18 (bq (ab (bO (ab (getL 15) am) ki) am)) (aa true) (aj s9 (aj aA (getL 12) (aj aA (getL 15) (getL 18))) (aj aA (aj aA (getL 11) (aj aA (getL 15) (getL 18))) (aj aA (getL 15) (aj c5 (aj bf (getL 18) (aa (.int 1))) (bO (ab (getL 15) am) ki))))) 1000)
theorem xC{row:List Nat}(h4:∀x∈row,x<4){i:Nat}(hi:i<row.length):row.getD i 0<4:=h4 _ (O1 (bb (l:=row) hi))
theorem Fj{a:Nat}{row:List Nat}(K:Rk ord mu σ F.kR F.kp rk)(hrow:σ[a]?=some (.list (iL row)))(hl:1<=row.length/\row.length<=4)(h4:∀x∈row,x<4){Q:V->St->Prop}
  (q:∀g,Q (.ref (σ++g).length) ⟨σ++g++[.list ((pN ord mu row).map V.int)],F.fr x13 x14 (some (.ref a)) x16⟩) :
  W Cb ⟨σ,F.fr x13 x14 (some (.ref a)) x16⟩ Q:=by
 have hlen:(iL row).length=row.length:=Pc _
 refine ug (b:=row.length) (y:=λi=>V.int (Ca ord mu row i)) rfl (by lia) (by decide) (ak (fz (ak (xG rfl (aJ (o6 hrow (by rw[hlen];lia) (aJ ⟨by rw[hlen],rfl⟩)))))) ) (λi hi g=>?_) λg=>?_
 ·have K':=K.app g
  have hr:=ad (r:=g) hrow
  have e1:=xC h4 hi
  have hm:(i+1)%row.length<row.length:=SQ _ (by lia)
  have e2:=xC h4 hm
  refine bw (bw (xG rfl (bw (xG rfl (xG rfl (g6 hr hi (by lia) (cV (f:=λk=>V.int ((ord k).idxOf (mu k):Nat)) K'.p e1 ?_)))))))
  refine bw (bw (xG rfl (bw (xG rfl (xG rfl (g6 hr hi (by lia) (cV (f:=λk=>V.ref (rk k)) K'.at_ e1 ?_)))))))
  refine bw (xG rfl (bw (bw (xG rfl (xP (eO (fz (ak (xG rfl (aJ (o6 hr (by rw[hlen];lia) ?_)))))))))))
  rw[hlen]
  refine ik (by lia) ?_
  rw[show((i:Int)+1)=((i+1:Nat):Int) by lia,mm]
  refine g6 hr hm (by lia) (cV (f:=λh=>V.int ((ord (row.getD i 0)).idxOf h:Nat)) (K'.each _ e1) e2 (zD ⟨rfl,[],by rw[O4]⟩))
 ·have e:(OP row.length).map (λi=>V.int (Ca ord mu row i))=(pN ord mu row).map V.int:=by
   unfold pN;rw[PH];rfl
  rw[e]
  exact q g
noncomputable abbrev xk:M Fl:=(a8 (vF (aT Lj (bO (ab (getL 16) am) JA) (aa (.int 0))) (vF (aT Ll (bO (ab (getL 16) am) Jz) (aa (.int 0))) (aa true))) (b8 (aa (.bool false))) (aa .next))
theorem BC{k:Nat}{G:List Int}(hk:σ[k]?=some (.list (G.map V.int)))(hne:G≠[])(hz:(∀x∈G,0<=x)->∀x∈G,x=0){Q:Fl->St->Prop}(q:Q .next ⟨σ,F.fr x13 x14 x15 (some (.ref k))⟩) :
  W xk ⟨σ,F.fr x13 x14 x15 (some (.ref k))⟩ Q:=by
 obtain⟨m,hm⟩:∃m,G.min?=some m:=by
  cases h:G.min? with
  | none=>exact absurd (List.min?_eq_none_iff.mp h) hne
  | some m=>exact⟨m,rfl⟩
 obtain⟨M,hM⟩:∃m,G.max?=some m:=by
  cases h:G.max? with
  | none=>exact absurd (List.max?_eq_none_iff.mp h) hne
  | some m=>exact⟨m,rfl⟩
 have h1:=(List.min?_eq_some_iff.mp hm).2
 have h2:=(List.max?_eq_some_iff.mp hM).1
 refine jN (M6 (cU (fz (ak (xG rfl (aJ (br hk (ca (gP G) (ca hm (xP (xP (Oh (gW (A3 (λh=>?_) λh=>oJ (xP q)))))))))))))))
 refine M6 (cU (fz (ak (xG rfl (aJ (br hk (ca (gP G) (ca hM (xP (xP (Oi (gW (A3 (λh'=>?_) λh'=>oJ (xP q))))))))))))))
 have:=hz (λx hx=>by have:=h1 x hx;lia) M h2
 lia
noncomputable abbrev zj:M Fl:=(aw (af 16 Cb) xk)
theorem Ar{a:Nat}{row:List Nat}(hp:∀k<4,cC (ord k))(C:oa ord mu r)(K:Rk ord mu σ F.kR F.kp rk)(hrow:σ[a]?=some (.list (iL row)))(hl:1<=row.length/\row.length<=4)(h4:∀x∈row,x<4){Q:Fl->St->Prop}
  (q:∀g y,Q .next ⟨σ++g,F.fr x13 x14 (some (.ref a)) y⟩) :
  W zj ⟨σ,F.fr x13 x14 (some (.ref a)) x16⟩ Q:=by
 refine fA (Fj K hrow hl h4 λg=>?_)
 dsimp only[PI,PJ]
 refine BC (G:=pN ord mu row) ar (λe=>?_) (λh x hx=>?_) ?_
 ·have:=congrArg RQ e
  unfold pN at this
  rw[Pc,Qg]at this
  have:row.length=0:=this
  lia
 ·obtain⟨i,hi,rfl⟩:=PY.mp hx
  exact FL hp C h4 (λj hj=>h _ (PY.mpr ⟨j,O5.mpr hj,rfl⟩)) i (O5.mp hi)
 ·rw[OY]
  exact q _ _
noncomputable abbrev uY:M Fl:=(aw (af 13 (v5 18 (fj (getL 13)) (bq (ab (aa (.int 4)) am)) (aT fv (getL 19) (getL 18)) (aj bf (getL 18) (aP (ab (getL 19) am))) 1000 1000))
 (ao (fj (getL 13)) λit=>b4 d4 15 zj 1000 it))
set_option genInjectivity false in
structure SU where
 σ:List O
 vs:List V
 kW:Nat
 y14:Option V
 y15:Option V
 y16:Option V
structure SI(σ:List O)(n:Nat)(u:SU):Prop where
 x:Xt σ u.σ
 at_:u.σ[u.kW]?=some (.list u.vs)
 rows:r9 u.σ u.vs (n6 n)
noncomputable abbrev SU.fr(F:FR)(u:SU):List (Option V):=F.fr (some (.ref u.kW)) u.y14 u.y15 u.y16
theorem Rk.xt{τ:List O}(h:Rk ord mu σ kR kp rk)(x:Xt σ τ):Rk ord mu τ kR kp rk:=⟨x.get h.at_,λk hk=>x.get (h.each k hk),x.get h.p⟩
theorem wK{n:Nat}(hn:n<4)(hp:∀k<4,cC (ord k))(C:oa ord mu r)(K:Rk ord mu σ F.kR F.kp rk){u:SU}(U:SI σ n u){Q:Fl->St->Prop}(q:∀v,SI σ (n+1) v->Q .next ⟨v.σ,v.fr F⟩):W uY ⟨u.σ,u.fr F⟩ Q:=by
 obtain⟨c1,c2⟩:=zl (n:=n) (by lia)
 obtain⟨d1,d2⟩:=zl (n:=n+1) (by lia)
 refine fA (LB (kR:=u.kW) rfl rfl (λrow h=>by rw[(c2 row h).1];lia) (by lia) U.at_ U.rows λg vs' R'=>?_)
 have x2:=(U.x.on g).on [.list vs']
 have K2:=K.xt x2
 have R2:r9 _ vs' (n6 (n+1)):=R'.app [.list vs']
 have hk2:(u.σ++g++[O.list vs'])[(u.σ++g).length]?=some (.list vs'):=ar
 have hvl:=R2.len
 generalize (u.σ++g).length=kW at hk2 ⊢
 generalize u.σ++g++[O.list vs']=τ at x2 K2 R2 hk2 ⊢
 clear R'
 refine xB (o5 (k:=kW) (xs:=vs') (xG rfl ⟨rfl,hk2,?_⟩))
 refine sm (γ:=List O×Option V×Option V) (λw=>⟨w.1,F.fr (some (.ref kW)) u.y14 w.2.1 w.2.2⟩) (λm w=>Xt τ w.1) (λj w hw=>hw.get hk2) (λj x w hx hw Q q=>?_) (fuel:=1000) (by lia) (u:=(τ,u.y15,u.y16)) (Xt.refl τ) λw hw=>q ⟨w.1,vs',kW,u.y14,w.2.1,w.2.2⟩ ⟨x2.trans hw,hw.get hk2,R2.xt hw⟩
 have hj:j<(n6 (n+1)).length:=by rw[<- hvl];exact(OW.mp hx).1
 obtain⟨a,e1,e2⟩:=(R2.xt hw).at_ j _ (Pf hj)
 obtain rfl:x=.ref a:=by rw[hx]at e1;exact Pw e1
 obtain⟨f1,f2⟩:=d2 _ (Rv hj)
 exact Ar hp C (K2.xt hw) e2 (by rw[f1];lia) f2 λg2 y=>q (_,_,_) (hw.on g2)
noncomputable abbrev uJ:M Fl:=(ao (bq (ab (aa (.int 4)) am)) λit=>b4 d4 14 uY 1000 it)
theorem wo{kW kZ:Nat}(hp:∀k<4,cC (ord k))(C:oa ord mu r)(K:Rk ord mu σ F.kR F.kp rk)(hk:σ[kW]?=some (.list [.ref kZ]))(hz:σ[kZ]?=some (.list [])){Q:Fl->St->Prop}(q:∀g y13 y14 y15 y16,Q .next ⟨σ++g,F.fr y13 y14 y15 y16⟩) :
  W uJ ⟨σ,F.fr (some (.ref kW)) x14 x15 x16⟩ Q:=by
 refine xB (jU (b:=4) (ak (xP (aJ ⟨rfl,?_⟩))) (by decide))
 refine Bn (N:=4) (fuel:=1000) (γ:=SU) (λu=>⟨u.σ,u.fr F⟩) (SI σ) (λj u hj hu Q q=>wK (u:=⟨u.σ,u.vs,u.kW,some (.int j),u.y15,u.y16⟩) hj hp C K ⟨hu.x,hu.at_,hu.rows⟩ q) (by decide) (u:=SU.mk σ [.ref kZ] kW x14 x15 x16) ⟨Xt.refl σ,hk,rfl,λi row e=>?_⟩ λv hv=>?_
 ·cases i with
  | zero=>obtain rfl:=sj e;exact⟨kZ,rfl,hz⟩
  | succ i=>exact nO e
 ·obtain⟨g,e⟩:=hv.x.ex
  show Q _ ⟨v.σ,_⟩
  rw[e]
  exact q g _ _ _ _
variable {pa pb:Nat->Nat}{s:Nat}{seed:Nat->Int}{mu' r':Nat->Nat}
theorem Oe{k kl n:Nat}{m e:M V}{a:Nat->V}{f:Nat->List V}{Q:V->St->Prop}(hk:L.length=k)(hn:n<=900)
  (hm:W m ⟨σ,L⟩ λx st'=>x=.ref kl/\∃g,st'=⟨σ++g,L⟩/\(σ++g)[kl]?=some (.list ((OP n).map a)))
  (he:∀j,j<n->∀τ,Xt σ τ->∀Q:V->St->Prop,(∀g k,(τ++g)[k]?=some (.list (f j))->Q (.ref k) ⟨τ++g,L++[some (a j)]⟩)->W e ⟨τ,L++[some (a j)]⟩ Q)
  (q:∀g t,oj (σ++g) n t f->Q (.ref (σ++g).length) ⟨σ++g++[.list ((OP n).map λk=>V.ref (t k))],L⟩):W (dY k (fj m) (aa true) e 1000) ⟨σ,L⟩ Q :=
 NK (c:=V.ref) (P:=λj t τ=>oj τ j t f) hk hn hm (λu=>0) (λu=>.zero) (λj hj t τ x T Q q=>he j hj τ x Q λg k hk=>q _ k (Xt.app g) ((T.app g).snoc hk)) q
theorem MX{k n:Nat}{ms:M (List V)}{e:M V}{f:Nat->List V}{Q:V->St->Prop}(hk:L.length=k)(hn:n<=900)
  (hm:W ms ⟨σ,L⟩ λxs st'=>xs=[.int n]/\st'=⟨σ,L⟩)
  (he:∀j,j<n->∀τ,Xt σ τ->∀Q:V->St->Prop,(∀g k,(τ++g)[k]?=some (.list (f j))->Q (.ref k) ⟨τ++g,L++[some (.int j)]⟩)->W e ⟨τ,L++[some (.int j)]⟩ Q)
  (q:∀g t,oj (σ++g) n t f->Q (.ref (σ++g).length) ⟨σ++g++[.list ((OP n).map λk=>V.ref (t k))],L⟩):W (dY k (bq ms) (aa true) e 1000) ⟨σ,L⟩ Q :=
 NL (c:=V.ref) (P:=λj t τ=>oj τ j t f) hk hn hm (λu=>0) (λu=>.zero) (λj hj t τ x T Q q=>he j hj τ x Q λg k hk=>q _ k (Xt.app g) ((T.app g).snoc hk)) q
theorem Be.app{b:Bool}{kr kW kC kt kl:Nat}(R:Be ord s seed b mu r σ kr kW kC kt kl)(g:List O):Be ord s seed b mu r (σ++g) kr kW kC kt kl:=⟨R.core,ad R.at_,ad R.w,ad R.c,ad R.t,ad R.l⟩
theorem tN{b:Bool}(h:∀k<4,mu k=mu' k):pw ord s seed b mu (cnt ord mu)=pw ord s seed b mu' (cnt ord mu'):=by
 have e1:(OP 4).map (λk=>((mu k:Nat):Int))=(OP 4).map λk=>((mu' k:Nat):Int):=PX λk hk=>by rw[h k (O5.mp hk)]
 have c:∀k<4,cnt ord mu k=cnt ord mu' k:=λk hk=>by unfold cnt;rw[h k hk]
 have e2:(OP 4).map (λk=>ij ord s seed k (cnt ord mu k))=(OP 4).map λk=>ij ord s seed k (cnt ord mu' k):=PX λk hk=>by rw[c k (O5.mp hk)]
 have e3:(OP 4).map (λk=>CP ord s seed k (cnt ord mu k))=(OP 4).map λk=>CP ord s seed k (cnt ord mu' k):=PX λk hk=>by rw[c k (O5.mp hk)]
 unfold pw
 rw[e1,e2,e3]
theorem Ih{b:Bool}{ms:M (List V)}{i kW kp kS:Nat}{la:Nat->Nat}{Q:V->St->Prop}(hp:∀k<4,cC (ord k))(hms:∀σ,W ms ⟨σ,L⟩ λxs st'=>xs=iL (dk b)/\st'=⟨σ,L⟩)
  (h10:L[10]?=some (some (.ref kW))) (h12:L[12]?=some (some (.ref kp))) (hi:L[i]?=some (some (.ref kS))) (hW:σ[kW]?=some (.list ((OP 4).map λk=>V.int (mu k:Nat)))) (hP:σ[kp]?=some (.list ((OP 4).map λk=>V.int ((ord k).idxOf (mu k):Nat))))
  (hl:A5 ord s seed σ kS la) (lt:∀k<4,mu k<4) (q:∀g a,bF mc (σ++g) (.ref a)=some (pw ord s seed b mu (cnt ord mu))->Q (.ref a) ⟨σ++g,L⟩) :
  W (aj bf (aP (ab (getL 10) (ab (aP ms) am))) (bz (ab (getL i) (ab (getL 12) am)) dV)) ⟨σ,L⟩ Q:=by
 have hob:(iL (dk b)).length=4:=by cases b<;>rfl
 refine bw (cS (ak (xG h10 (ak (cS ((hms σ).mono λxs s1 ⟨e1,e2⟩=>?_))))))
 subst e1;subst e2
 refine⟨by rw[hob];decide,aJ ⟨show 2<=1000000 by decide,?_⟩⟩
 have h2:=((hl.app [.list (iL (dk b))]).app [.list [V.ref kW,.ref σ.length]])
 have hP2:=ad (r := [O.list [V.ref kW,.ref σ.length]]) (ad (r := [O.list (iL (dk b))]) hP)
 have hb2:(σ++[O.list (iL (dk b))]++[O.list [V.ref kW,.ref σ.length]])[σ.length]?=some (.list (iL (dk b))):=ad ar
 have hc2:(σ++[O.list (iL (dk b))]++[O.list [V.ref kW,.ref σ.length]])[(σ++[O.list (iL (dk b))]).length]?=some (.list [V.ref kW,.ref σ.length]):=ar
 have hW2:=ad (r := [O.list [V.ref kW,.ref σ.length]]) (ad (r := [O.list (iL (dk b))]) hW)
 show W _ ⟨σ++[O.list (iL (dk b))]++[O.list [V.ref kW,.ref σ.length]],L⟩ _
 generalize (σ++[O.list (iL (dk b))]).length=k2 at hc2 ⊢
 generalize σ.length=k1 at hb2 hc2 h2 hP2 hW2 ⊢
 rw[OY]at h2 hP2 hb2 hc2 hW2 ⊢
 generalize [O.list (iL (dk b))]++[O.list [V.ref kW,.ref k1]]=g0 at h2 hP2 hb2 hc2 hW2 ⊢
 refine gc (ak (xG hi (ak (xG h12 (aJ (J0 (pl:=λk=>(ord k).idxOf (mu k)) hp h2 hP2 (λk hk=>(qa (hp k hk) (lt k hk)).1) λg kr kt kl R=>?_))))))
 refine sb (ad hc2) R.at_ (show 2+2<=_ by decide) (xN ?_)
 have fin:=q (g0++(g++[.list [V.ref kW,.ref k1,.ref kt,.ref kl]])) (σ++g0++g).length
 rw[<- OY,<- OY]at fin
 refine fin (HM ar (ad (ad ?_)) (ad (ad ?_)) (ad ?_) (ad ?_))
 ·rw[hW2,PH];rfl
 ·rw[hb2,PH];rfl
 ·rw[R.t,PH];rfl
 ·rw[R.l,PH];rfl
theorem D2{k:Nat}(lt:∀k<4,mu k<4)(inj:∀k<4,∀k'<4,mu k=mu k'->k=k')(hk:st.σ[k]?=some (.list ((OP 4).map λk=>V.int (mu k:Nat)))){Q:V->St->Prop}(q:Q (.ref st.σ.length) ⟨st.σ++[.list (iL [0,1,2,3])],st.L⟩):W (kK [.ref k]) st Q:=by
 have hi:dj ((OP 4).map λk=>V.int (mu k:Nat))=some ((OP 4).map λk=>((mu k:Nat):Int)):=by
  have:=gP ((OP 4).map λk=>((mu k:Nat):Int))
  rw[PH]at this
  exact this
 have hp:((OP 4).map λk=>((mu k:Nat):Int)).Perm [0,1,2,3]:=by
  have:=(qb lt inj).map λn:Nat=>(n:Int)
  rw[PH]at this
  exact this
 have hs:((OP 4).map λk=>((mu k:Nat):Int)).mergeSort (λa b=>decide (a<=b))=[0,1,2,3]:=PySem.W.ksm_same ((List.mergeSort_perm _ _).trans hp) (by
  have:=List.pairwise_mergeSort (le:=λ(a b:Int)=>decide (a<=b)) (λa b c h1 h2=>by simp at h1 h2 ⊢;lia) (λa b=>by simp;lia) ((OP 4).map λk=>((mu k:Nat):Int))
  exact this.imp λh=>by simpa using h) (by decide)
 refine br hk ?_
 show W (zt _) _ _
 have:W (u5 ((OP 4).map λk=>((mu k:Nat):Int))) st Q:=cM (show 4<64 by decide) (by rw[hs];exact xN q)
 obtain⟨a,st',e,q'⟩:=this
 refine⟨a,st',?_,q'⟩
 unfold zt
 rw[hi]
 exact e
variable {c:Nat->Int}{js:List Int}{x0 x1 x2 x3 x4 x5 x6 x7 x8 x9 x10 x11 x12 x17:Option V}
noncomputable def LA:List Int := [1237785,2139152,495226,38402,16,1]
noncomputable def io(js:List Int)(k:Nat):Int:=if k<js.length then js.getD k 0 else LA.getD k 0
theorem Jr{Q:V->St->Prop}(q:Q (.int js.length) st):W (CI 250 js [.glob (.ref 250)]) st Q:=cM rfl (bp.mpr q)
theorem Fu{k:Nat}{Q:V->St->Prop}(hk:k<js.length)(h6:k<=1000000)(q:Q (.int (js.getD k 0)) st):W (tZ 250 js (.glob (.ref 250)) (.int k)) st Q:=by
 have hx:js[((k:Int)).toNat]?=some (js.getD k 0):=by
  rw[PB,O9,Pf hk];rfl
 exact cM ⟨rfl,by lia,by lia⟩ (ca hx (bp.mpr q))
theorem Nn:∀x<6,([.int 1237785,.int 2139152,.int 495226,.int 38402,.int 16,.int 1]:List V)[((x:Nat):Int).toNat]?=some (.int (LA.getD x 0)):=by decide
noncomputable abbrev BG(js:List Int):M V:=(dY 18 (bq (ab (aa (.int 6)) am)) (aa true) (a8 (aT EH (getL 18) (bO (ab (getL 0) am) (CI 250 js))) (aj (tZ 250 js) (getL 0) (getL 18)) (aj aA (aP (ab (aa (.int 1237785)) (ab (aa (.int 2139152)) (ab (aa (.int 495226)) (ab (aa (.int 38402)) (ab (aa (.int 16)) (ab (aa (.int 1)) am))))))) (getL 18))) 1000)
theorem Fa{Q:V->St->Prop}(q:∀g,Q (.ref (σ++g).length) ⟨σ++g++[.list ((OP 6).map λx=>V.int (io js x))],LW (some (.glob (.ref 250))) x1 x2 x3 x4 x5 x6 x7 x8 x9 x10 x11 x12 x13 x14 x15 x16 x17⟩) :
  W (BG js) ⟨σ,LW (some (.glob (.ref 250))) x1 x2 x3 x4 x5 x6 x7 x8 x9 x10 x11 x12 x13 x14 x15 x16 x17⟩ Q:=by
 refine ug (b:=6) (y:=λx=>.int (io js x)) rfl (by decide) (by decide) (ak (xP (aJ ⟨rfl,rfl⟩))) (λx hx g=>?_) λg=>q g
 refine jN (cU (xG rfl (fz (ak (xG rfl (aJ (Jr (Hy (gW (A3 (λhp=>?_) λhp=>?_))))))))))
 ·have hp:x<js.length:=by lia
  refine bw (xG rfl (xG rfl (Fu hp (by lia) ⟨?_,[],by rw[O4]⟩)))
  unfold io
  rw[if_pos hp]
 ·have hp:¬x<js.length:=by lia
  refine bw (cS (ak (xP (ak (xP (ak (xP (ak (xP (ak (xP (ak (xP (aJ ⟨show 6<=1000000 by decide,xG rfl (bN ar (by lia) (by lia) (show 6<=1000000 by decide) (Nn x hx) ⟨?_,_,rfl⟩)⟩))))))))))))))
  unfold io
  rw[if_neg hp]
theorem su{kC k:Nat}(hC:st.σ[kC]?=some (.list ((OP 6).map λx=>V.int (c x))))(hk:k<6){Q:V->St->Prop}(q:Q (.int (c k)) st):W (aA (.ref kC) (.int k)) st Q :=
 bN hC (PM _) (by lia) (show 6<=1000000 by decide) (by rw[PB,Pn,QR hk];rfl) q
noncomputable def vr(c:Nat->Int)(k:Nat):Nat:=((c 5+2*k).fmod 7).toNat
noncomputable def vt(c:Nat->Int)(k:Nat):Nat:=(((c 5).fdiv 7+3*k).fmod 7).toNat
theorem nz(c:Nat->Int):∀k<4,vr c k<7/\vt c k<7:=λk u=>by
 have h1:=dh (c 5+2*k) (n:=7) (by decide)
 have h2:=dh ((c 5).fdiv 7+3*k) (n:=7) (by decide)
 unfold vr vt
 omega
theorem J4:∀a<7,∀b<7,sg a=sg b->a=b:=by decide
theorem JW(c:Nat->Int):∀i<4,∀j<4,[sg (vr c i),sg (vt c i)]=[sg (vr c j),sg (vt c j)]->i=j:=λi hi j hj e=>by
 have e1:=J4 _ (nz c i hi).1 _ (nz c j hj).1 (SY e).1
 have h1:=dh (c 5+2*i) (n:=7) (by decide)
 have h2:=dh (c 5+2*j) (n:=7) (by decide)
 have e2:(Int.fmod (c 5+2*i) 7).toNat=(Int.fmod (c 5+2*j) 7).toNat:=e1
 have e3:Int.fmod (c 5+2*i) 7=Int.fmod (c 5+2*j) 7:=by rw[<- Sx h1.1,<- Sx h2.1,e2]
 rw[QS _ (by decide),QS _ (by decide),Int.emod_eq_emod_iff_emod_sub_eq_zero,Int.add_sub_add_left]at e3
 exact(by decide:∀i<(4:Nat),∀j<(4:Nat),(2*((i:Nat):Int) - 2*((j:Nat):Int))%7=0->i=j) i hi j hj e3
noncomputable abbrev zh:M V:=(dY 18 (bq (ab (aa (.int 4)) am)) (aa true) (aj bf (aj aA (getL 3) (aj c5 (aj bf (aj aA (getL 1) (aa (.int 5))) (aj jI (aa (.int 2)) (getL 18))) (aa (.int 7)))) (aj aA (getL 3) (aj c5 (aj bf (aj ez (aj aA (getL 1) (aa (.int 5))) (aa (.int 7))) (aj jI (aa (.int 3)) (getL 18))) (aa (.int 7))))) 1000)
theorem Dk{kC:Nat}(hC:σ[kC]?=some (.list ((OP 6).map λx=>V.int (c x)))){Q:V->St->Prop}(q:∀g,Q (.ref (σ++g).length) ⟨σ++g++[.list (sW (vr c) (vt c))],LW x0 (some (.ref kC)) x2 (some (sx A8)) x4 x5 x6 x7 x8 x9 x10 x11 x12 x13 x14 x15 x16 x17⟩) :
  W zh ⟨σ,LW x0 (some (.ref kC)) x2 (some (sx A8)) x4 x5 x6 x7 x8 x9 x10 x11 x12 x13 x14 x15 x16 x17⟩ Q:=by
 refine ug (b:=4) (y:=λk=>sx [sg (vr c k),sg (vt c k)]) rfl (by decide) (by decide) (ak (xP (aJ ⟨rfl,rfl⟩))) (λx hx g=>?_) λg=>q g
 have hC':=ad (r:=g) hC
 obtain⟨h1,h2⟩:=nz c x hx
 have r1:=dh (c 5+2*x) (n:=7) (by decide)
 have r2:=dh ((c 5).fdiv 7+3*x) (n:=7) (by decide)
 refine bw (bw (xG rfl (bw (bw (bw (xG rfl (xP (su (k:=5) hC' (by decide) (bw (xP (xG rfl ((m4 (by omega)).mpr (eO (xP (ik (by decide) (m3 (c:=sg (vr c x)) r1.1 (by omega) (bb (l:=A8) h1) ?_))))))))))))))))
 refine bw (xG rfl (bw (bw (bw (bw (xG rfl (xP (su (k:=5) hC' (by decide) (xP (mU (by decide) (by decide) (bw (xP (xG rfl ((m4 (by omega)).mpr (eO (xP (ik (by decide) (m3 (c:=sg (vt c x)) r2.1 (by omega) (bb (l:=A8) h2) (dX (show 1+1<=_ by decide) ⟨rfl,[],by rw[O4]⟩)))))))))))))))))))
noncomputable abbrev xF:M V:=(aP (ab (aj bf (aa (.str (OO "ff"))) (getL 2)) (ab (aj bf (aa (.str (OO "fi"))) (getL 2)) (ab (aj bf (aa (.str (OO "fl"))) (getL 2)) (ab (aj bf (aa (.str (OO "ffi"))) (getL 2)) am)))))
theorem Cq{s:Nat}{Q:V->St->Prop}(q:Q (.ref σ.length) ⟨σ++[.list ((eS s).map sx)],LW x0 x1 (some (sx [s])) x3 x4 x5 x6 x7 x8 x9 x10 x11 x12 x13 x14 x15 x16 x17⟩) :
  W xF ⟨σ,LW x0 x1 (some (sx [s])) x3 x4 x5 x6 x7 x8 x9 x10 x11 x12 x13 x14 x15 x16 x17⟩ Q:=by
 refine cS (ak (bw (xK Ls (xG rfl (dX (show 2+1<=_ by decide) (ak (bw (xK Lu (xG rfl (dX (show 2+1<=_ by decide) (ak (bw (xK Lv (xG rfl (dX (show 2+1<=_ by decide) (ak (bw (xK Lw (xG rfl (dX (show 3+1<=_ by decide) (aJ ⟨show 4<=1000000 by decide,?_⟩)))))))))))))))))))))
 exact q
noncomputable def fC(c:Nat->Int)(k:Nat):List Nat:=DB (c k) (vr c) (vt c)
theorem fw(c:Nat->Int):∀k<4,cC (fC c k):=λk u=>mK (zr _).perm
theorem BF{kC:Nat}(hC:σ[kC]?=some (.list ((OP 6).map λx=>V.int (c x))))(h1:L[1]?=some (some (.ref kC))):W (eG (getL 1) cr (bU (aa (.int 4)))) ⟨σ,L⟩ λx st'=>x=.ref σ.length/\∃g,st'=⟨σ++g,L⟩/\(σ++g)[σ.length]?=some (.list ((OP 4).map λx=>V.int (c x))):=by
 refine oK (k:=kC) (a:=none) (b:=some ((4:Nat):Int)) (xs:=(OP 6).map λx=>V.int (c x)) (ys:=(OP 4).map λx=>V.int (c x)) (xG h1 ⟨rfl,rfl⟩) (xP ⟨rfl,rfl⟩) (xB (xP (xP ⟨rfl,rfl⟩))) hC (show 6<=1000000 by decide) ?_ ⟨rfl,_,rfl,ar⟩
 rw[zq (show 4<=6 by decide)]
 rfl
theorem uK{kC kP:Nat}{F:List V->M V}(hF:∀{σ:List O}{L:List (Option V)}{y:Int}{Q:V->St->Prop},σ[kP]?=some (.list (sW (vr c) (vt c)))->(∀g k,(σ++g)[k]?=some (.list (iL (DB y (vr c) (vt c))))->σ.length<=k->Q (.ref k) ⟨σ++g,L⟩)->W (F [.int y,.ref kP]) ⟨σ,L⟩ Q)
  (hC:σ[kC]?=some (.list ((OP 6).map λx=>V.int (c x)))) (hP:σ[kP]?=some (.list (sW (vr c) (vt c)))) {Q:V->St->Prop}
  (q:∀g t,oj (σ++g) 4 t (λk=>iL (fC c k))->Q (.ref (σ++g).length) ⟨σ++g++[.list ((OP 4).map λk=>V.ref (t k))],LW x0 (some (.ref kC)) x2 x3 (some (.ref kP)) x5 x6 x7 x8 x9 x10 x11 x12 x13 x14 x15 x16 x17⟩) :
  W (dY 18 (fj (eG (getL 1) cr (bU (aa (.int 4))))) (aa true) (bz (ab (getL 18) (ab (getL 4) am)) F) 1000) ⟨σ,LW x0 (some (.ref kC)) x2 x3 (some (.ref kP)) x5 x6 x7 x8 x9 x10 x11 x12 x13 x14 x15 x16 x17⟩ Q:=by
 exact Oe (kl:=σ.length) (a:=λx=>V.int (c x)) (f:=λk=>iL (fC c k)) rfl (by decide) (BF hC rfl) (λj hj τ x Q q=>gc (ak (xG rfl (ak (xG rfl (aJ (hF (x.get hP) λg' k hk u=>q g' k hk))))))) q
end
structure LS(c:Nat->Int)(σ:List O)(kC kP kH kT kO:Nat)(t o:Nat->Nat):Prop where
 cc:σ[kC]?=some (.list ((OP 6).map λx=>V.int (c x)))
 pp:σ[kP]?=some (.list (sW (vr c) (vt c)))
 hh:σ[kH]?=some (.list ((eS (stay (c 4))).map sx))
 tt:σ[kT]?=some (.list ((OP 4).map λk=>V.ref (t k)))
 te:oj σ 4 t (λk=>iL (fC c k))
 oo:σ[kO]?=some (.list ((OP 4).map λk=>V.ref (o k)))
 oe:oj σ 4 o (λk=>iL (fC c k))
noncomputable abbrev LX(c:Nat->Int)(kC kP kH kT kO:Nat)(x8 x9 x10 x11 x12 x13 x14 x15 x16 x17:Option V):List (Option V) :=
 LW (some (.glob (.ref 250))) (some (.ref kC)) (some (sx [stay (c 4)])) (some (sx A8)) (some (.ref kP)) (some (.ref kH)) (some (.ref kT)) (some (.ref kO)) x8 x9 x10 x11 x12 x13 x14 x15 x16 x17
section
variable {α β:Type}{st:St}{σ σ':List O}{L:List (Option V)}{c:Nat->Int}{js:List Int}{x8 x9 x10 x11 x12 x13 x14 x15 x16 x17:Option V}{kC kP kH kT kO kS kR kW kp:Nat}{t o la:Nat->Nat}{seed:Nat->Int}{mu r:Nat->Nat}
theorem LS.app(S:LS c σ kC kP kH kT kO t o)(g:List O):LS c (σ++g) kC kP kH kT kO t o:=⟨ad S.cc,ad S.pp,ad S.hh,ad S.tt,S.te.app g,ad S.oo,S.oe.app g⟩
noncomputable abbrev vQ(js:List Int)(K:M Fl):M Fl:=(aw (af 1 (BG js))
 (aw (af 2 (bz (ab (aj aA (getL 1) (aa (.int 4))) am) gX))
 (aw (af 3 (aa (.str (OO "&<>\"\r\n\t"))))
 (aw (af 4 zh)
 (aw (af 5 xF)
 (aw (af 6 (dY 18 (fj (eG (getL 1) cr (bU (aa (.int 4))))) (aa true) (bz (ab (getL 18) (ab (getL 4) am)) i3) 1000))
 (aw (af 7 (dY 18 (fj (eG (getL 1) cr (bU (aa (.int 4))))) (aa true) (bz (ab (getL 18) (ab (getL 4) am)) gx) 1000)) K)))))))
theorem Fi{K:M Fl}{Q:Fl->St->Prop}(q:∀σ kC kP kH kT kO t o,LS (io js) σ kC kP kH kT kO t o->W K ⟨σ,LX (io js) kC kP kH kT kO none none none none none none none none none none⟩ Q):W (vQ js K) ⟨[],fS 18 [.glob (.ref 250)]⟩ Q:=by
 show W (vQ js K) ⟨[],LW (some (.glob (.ref 250))) none none none none none none none none none none none none none none none none none⟩ Q
 refine fA (Fa λg=>?_)
 dsimp only[PI,PJ]
 have hC:([]++g++[O.list ((OP 6).map λx=>V.int (io js x))])[([]++g).length]?=some (.list ((OP 6).map λx=>V.int (io js x))):=ar
 generalize ([]++g).length=kC at hC ⊢
 generalize []++g++[O.list ((OP 6).map λx=>V.int (io js x))]=σ at hC ⊢
 generalize io js=c at hC q ⊢
 refine fA (gc (ak (bw (xG rfl (xP (su (k:=4) hC (by decide) (aJ (Kk λg=>?_))))))))
 dsimp only[PI,PJ]
 replace hC:=ad (r:=g) hC
 generalize σ++g=σ at hC ⊢
 refine fA (xK NG ?_)
 dsimp only[PI,PJ]
 refine fA (Dk hC λg=>?_)
 dsimp only[PI,PJ]
 replace hC:=ad (r := [O.list (sW (vr c) (vt c))]) (ad (r:=g) hC)
 have hP:(σ++g++[O.list (sW (vr c) (vt c))])[(σ++g).length]?=some (.list (sW (vr c) (vt c))):=ar
 generalize (σ++g).length=kP at hP ⊢
 generalize σ++g++[O.list (sW (vr c) (vt c))]=σ at hC hP ⊢
 refine fA (Cq (s:=stay (c 4)) ?_)
 dsimp only[PI,PJ]
 replace hC:=ad (r := [O.list ((eS (stay (c 4))).map sx)]) hC
 replace hP:=ad (r := [O.list ((eS (stay (c 4))).map sx)]) hP
 have hH:(σ++[O.list ((eS (stay (c 4))).map sx)])[σ.length]?=some (.list ((eS (stay (c 4))).map sx)):=ar
 generalize σ.length=kH at hH ⊢
 generalize σ++[O.list ((eS (stay (c 4))).map sx)]=σ at hC hP hH ⊢
 refine fA (uK (λh q=>L7 h (nz c) q) hC hP λg t T=>?_)
 dsimp only[PI,PJ]
 replace hC:=ad (r := [O.list ((OP 4).map λk=>V.ref (t k))]) (ad (r:=g) hC)
 replace hP:=ad (r := [O.list ((OP 4).map λk=>V.ref (t k))]) (ad (r:=g) hP)
 replace hH:=ad (r := [O.list ((OP 4).map λk=>V.ref (t k))]) (ad (r:=g) hH)
 replace T:=T.app [O.list ((OP 4).map λk=>V.ref (t k))]
 have hT:(σ++g++[O.list ((OP 4).map λk=>V.ref (t k))])[(σ++g).length]?=some (.list ((OP 4).map λk=>V.ref (t k))):=ar
 generalize (σ++g).length=kT at hT ⊢
 generalize σ++g++[O.list ((OP 4).map λk=>V.ref (t k))]=σ at hC hP hH hT T ⊢
 refine fA (uK (λh q=>GC h (nz c) q) hC hP λg o U=>?_)
 dsimp only[PI,PJ]
 exact q _ kC kP kH kT _ t o ⟨ad (ad hC),ad (ad hP),ad (ad hH),ad (ad hT),(T.app g).app _,ar,U.app _⟩
noncomputable abbrev v7(e:M V):M V:=(dY 18 (bq (ab (aa (.int 4)) am)) (aa true) (bz (ab (aj aA (getL 6) (getL 18)) (ab (getL 2) (ab e am))) f6) 1000)
theorem xZ{e:M V}(S:LS c σ kC kP kH kT kO t o)(he:∀(j:Nat)(σ:List O)(Q:V->St->Prop),j<4->σ[kC]?=some (.list ((OP 6).map λx=>V.int (c x)))->Q (.int (seed j)) ⟨σ,LX c kC kP kH kT kO x8 x9 x10 x11 x12 x13 x14 x15 x16 x17++[some (.int j)]⟩->W e ⟨σ,LX c kC kP kH kT kO x8 x9 x10 x11 x12 x13 x14 x15 x16 x17++[some (.int j)]⟩ Q){Q:V->St->Prop}
  (q:∀g k la,A5 (fC c) (stay (c 4)) seed (σ++g) k la->Q (.ref k) ⟨σ++g,LX c kC kP kH kT kO x8 x9 x10 x11 x12 x13 x14 x15 x16 x17⟩):W (v7 e) ⟨σ,LX c kC kP kH kT kO x8 x9 x10 x11 x12 x13 x14 x15 x16 x17⟩ Q:=by
 refine MX (n:=4) (f:=λk=>(OP 4).map λj=>sx (oR (fC c) (stay (c 4)) seed k j)) rfl (by decide) (ak (xP (aJ ⟨rfl,rfl⟩))) (λj hj τ x Q q=>?_) λg la T=>?_
 ·have hp:=fw c j hj
  refine gc (ak (bw (xG rfl (xG rfl (cV (f:=λk=>V.ref (t k)) (x.get S.tt) hj (ak (xG rfl (ak (he j _ _ hj (x.get S.cc) (aJ (Js (ord:=fC c j) (x.get (S.te.at_ j hj)) hp.len hp.lt λg' k hk u=>q g' k hk)))))))))))
 ·rw[OY]
  refine q _ _ la ⟨?_,λk hk=>?_⟩
  ·rw[<- OY];exact ar
  ·rw[<- OY];exact ad (T.at_ k hk)
theorem L8(S:LS c σ kC kP kH kT kO t o)(l:A5 (fC c) (stay (c 4)) seed σ kS la){b:Bool}{Q:V->St->Prop}(q:∀g mu r kr kW kC kt kl,Be (fC c) (stay (c 4)) seed b mu r (σ++g) kr kW kC kt kl->Q (.ref kr) ⟨σ++g,L⟩):W (eR [.ref kP,.ref kH,.ref kS,.bool b]) ⟨σ,L⟩ Q :=
 L9 (mO _) (fw c) (JW c) (nz c) S.pp S.hh l.at_ l.each q
noncomputable abbrev Ld:M Fl:=(b8 (aj iM (bz (ab (getL 4) (ab (getL 5) (ab (getL 17) (ab (aa (.bool true)) am)))) eR) (aj bf (aP (ab (getL 10) (ab (aP (ab (aa (.int 3)) (ab (aa (.int 2)) (ab (aa (.int 1)) (ab (aa (.int 0)) am))))) am))) (bz (ab (getL 17) (ab (getL 12) am)) dV))))
theorem Le(S:LS c σ kC kP kH kT kO t o)(l:A5 (fC c) (stay (c 4)) seed σ kS la)(C:oa (fC c) mu r)(hW:σ[kW]?=some (.list ((OP 4).map λk=>V.int (mu k:Nat))))(hP:σ[kp]?=some (.list ((OP 4).map λk=>V.int ((fC c k).idxOf (mu k):Nat)))) :
  W Ld ⟨σ,LX c kC kP kH kT kO x8 x9 (some (.ref kW)) x11 (some (.ref kp)) x13 x14 x15 x16 (some (.ref kS))⟩ λf u=>f=.ret (.bool true):=by
 refine gq (bw (gc (ak (xG rfl (ak (xG rfl (ak (xG rfl (ak (xP (aJ (L8 S l λg mu' r' kr kW' kC' kt kl R=>?_))))))))))))
 refine Ih (b:=true) (fw c) (λσ=>ak (xP (ak (xP (ak (xP (ak (xP (aJ ⟨rfl,rfl⟩))))))))) rfl rfl rfl (ad hW) (ad hP) (l.app g) C.lt λg2 a hd=>?_
 rw[tN λk hk=>tM (fw c) C R.core _ k hk rfl]at hd
 have e:=tO (mO _) (fw c) (R.app g2).data hd
 exact⟨.bool true,_,by unfold iM;rw[e];rfl,rfl⟩
noncomputable abbrev BH(K:M Fl):M Fl:=(aw (a8 (aT tA (getL 9) (aj bf (aP (ab (getL 10) (ab (aP (ab (aa (.int 0)) (ab (aa (.int 1)) (ab (aa (.int 2)) (ab (aa (.int 3)) am))))) am))) (bz (ab (getL 8) (ab (getL 12) am)) dV))) (b8 (aa (.bool false))) (aa .next)) K)
theorem Fb{kr kC' kt kl:Nat}{K:M Fl}(l:A5 (fC c) (stay (c 4)) seed σ kS la)(R:Be (fC c) (stay (c 4)) seed false mu r σ kr kW kC' kt kl)(hP:σ[kp]?=some (.list ((OP 4).map λk=>V.int ((fC c k).idxOf (mu k):Nat)))){Q:Fl->St->Prop}
  (q:∀g,W K ⟨σ++g,LX c kC kP kH kT kO (some (.ref kS)) (some (.ref kr)) (some (.ref kW)) x11 (some (.ref kp)) x13 x14 x15 x16 x17⟩ Q) :
  W (BH K) ⟨σ,LX c kC kP kH kT kO (some (.ref kS)) (some (.ref kr)) (some (.ref kW)) x11 (some (.ref kp)) x13 x14 x15 x16 x17⟩ Q:=by
 refine qz (cU (xG rfl (Ih (b:=false) (fw c) (λσ=>ak (xP (ak (xP (ak (xP (ak (xP (aJ ⟨rfl,rfl⟩))))))))) rfl rfl rfl R.w hP l R.core.lt λg a hd=>?_)))
 have e:=tO (mO _) (fw c) (R.app g).data hd
 exact⟨.bool false,_,by unfold tA;rw[e];rfl,gW (oJ (A4 (q g)))⟩
noncomputable abbrev Dq:M V:=(dY 18 (bq (ab (aa (.int 4)) am)) (aa true) (dY 19 (bq (ab (aa (.int 4)) am)) (aa true) (bn bE (aj aA (getL 7) (getL 18)) (ab (getL 19) am) fM) 1000) 1000)
theorem GJ(S:LS c σ kC kP kH kT kO t o){Q:V->St->Prop}(q:∀g rk,oj (σ++g) 4 rk (λk=>(OP 4).map λh=>V.int ((fC c k).idxOf h:Nat))->Q (.ref (σ++g).length) ⟨σ++g++[.list ((OP 4).map λk=>V.ref (rk k))],LX c kC kP kH kT kO x8 x9 x10 x11 x12 x13 x14 x15 x16 x17⟩) :
  W Dq ⟨σ,LX c kC kP kH kT kO x8 x9 x10 x11 x12 x13 x14 x15 x16 x17⟩ Q:=by
 refine MX (n:=4) (f:=λk=>(OP 4).map λh=>V.int ((fC c k).idxOf h:Nat)) rfl (by decide) (ak (xP (aJ ⟨rfl,rfl⟩))) (λj hj τ x Q q=>?_) q
 have hp:=fw c j hj
 refine ug (b:=4) (y:=λh=>V.int ((fC c j).idxOf h:Nat)) rfl (by decide) (by decide) (ak (xP (aJ ⟨rfl,rfl⟩))) (λh hh g2=>?_) λg2=>?_
 ·have he:=ad (r:=g2) (x.get (S.oe.at_ j hj))
  exact dA (bw (xG rfl (xG rfl (cV (f:=λk=>V.ref (o k)) (ad (x.get S.oo)) hj ⟨xU he,ak (xG rfl (aJ (Bi (i:=h) he (by rw[hp.len];decide) (hp.mem h hh) ⟨rfl,[],by rw[O4]⟩)))⟩))))
 ·rw[OY]
  exact q _ _ (by rw[<- OY];exact ar)
noncomputable abbrev zf:M V:=(dY 18 (bq (ab (aa (.int 4)) am)) (aa true) (aj aA (aj aA (getL 11) (getL 18)) (aj aA (getL 10) (getL 18))) 1000)
theorem Di{rk:Nat->Nat}(T:oj σ 4 rk (λk=>(OP 4).map λh=>V.int ((fC c k).idxOf h:Nat)))(hR:σ[kR]?=some (.list ((OP 4).map λk=>V.ref (rk k))))(hW:σ[kW]?=some (.list ((OP 4).map λk=>V.int (mu k:Nat))))(lt:∀k<4,mu k<4){Q:V->St->Prop}
  (q:∀g,Q (.ref (σ++g).length) ⟨σ++g++[.list ((OP 4).map λk=>V.int ((fC c k).idxOf (mu k):Nat))],LX c kC kP kH kT kO x8 x9 (some (.ref kW)) (some (.ref kR)) x12 x13 x14 x15 x16 x17⟩) :
  W zf ⟨σ,LX c kC kP kH kT kO x8 x9 (some (.ref kW)) (some (.ref kR)) x12 x13 x14 x15 x16 x17⟩ Q:=by
 refine ug (b:=4) (y:=λk=>V.int ((fC c k).idxOf (mu k):Nat)) rfl (by decide) (by decide) (ak (xP (aJ ⟨rfl,rfl⟩))) (λj hj g=>?_) q
 refine bw (bw (xG rfl (xG rfl (cV (f:=λk=>V.ref (rk k)) (ad hR) hj (bw (xG rfl (xG rfl (cV (f:=λk=>V.int (mu k:Nat)) (ad hW) hj (cV (f:=λh=>V.int ((fC c j).idxOf h:Nat)) (ad (T.at_ j hj)) (lt j hj) ⟨rfl,[],by rw[O4]⟩)))))))))
variable {kr:Nat}
noncomputable abbrev DD:M V:=(aj ez (aj aA (getL 1) (getL 18)) (aa (.int 495)))
noncomputable abbrev Ma:M V:=(aj bf DD (aa (.int 2956)))
theorem zm{k j:Nat}{L:List (Option V)}{Q:V->St->Prop}(h1:L[1]?=some (some (.ref kC)))(h18:L[18]?=some (some (.int j)))(hj:j<4)(hC:σ[kC]?=some (.list ((OP 6).map λx=>V.int (c x))))(q:Q (.int ((c j).fdiv 495)) ⟨σ,L⟩):W DD ⟨σ,L⟩ Q :=
 bw (bw (xG h1 (xG h18 (su hC (by omega) (xP (mU (by decide) (by decide) q))))))
noncomputable abbrev CD:M Fl:=(aw (af 17 (v7 Ma)) Ld)
theorem FC(S:LS c σ kC kP kH kT kO t o)(C:oa (fC c) mu r)(hW:σ[kW]?=some (.list ((OP 4).map λk=>V.int (mu k:Nat))))(hP:σ[kp]?=some (.list ((OP 4).map λk=>V.int ((fC c k).idxOf (mu k):Nat)))) :
  W CD ⟨σ,LX c kC kP kH kT kO x8 x9 (some (.ref kW)) x11 (some (.ref kp)) x13 x14 x15 x16 x17⟩ λf u=>f=.ret (.bool true):=by
 refine fA (xZ (seed:=λj=>(c j).fdiv 495+2956) S (λj σ Q hj hC q=>bw (zm (k:=0) rfl rfl hj hC (xP (eO q)))) λg k la l=>?_)
 exact Le (S.app g) l C (ad hW) (ad hP)
noncomputable abbrev LK:M Fl:=(aw (af 13 (aP (ab (aP am) am))) (aw uJ (BH CD)))
theorem LL{kC' kt kl:Nat}{rk:Nat->Nat}(S:LS c σ kC kP kH kT kO t o)(l:A5 (fC c) (stay (c 4)) seed σ kS la)(R:Be (fC c) (stay (c 4)) seed false mu r σ kr kW kC' kt kl)(K:Rk (fC c) mu σ kR kp rk) :
  W LK ⟨σ,LX c kC kP kH kT kO (some (.ref kS)) (some (.ref kr)) (some (.ref kW)) (some (.ref kR)) (some (.ref kp)) x13 x14 x15 x16 x17⟩ λf u=>f=.ret (.bool true):=by
 refine fA (cS (ak (cS (aJ ⟨PQ _,aJ ⟨show 1<=1000000 by decide,?_⟩⟩))))
 dsimp only[PI,PJ]
 have hz:(σ++[O.list []]++[O.list [V.ref σ.length]])[σ.length]?=some (.list []):=ad ar
 have hk:(σ++[O.list []]++[O.list [V.ref σ.length]])[(σ++[O.list []]).length]?=some (.list [V.ref σ.length]):=ar
 have S2:=(S.app [O.list []]).app [O.list [V.ref σ.length]]
 have l2:=(l.app [O.list []]).app [O.list [V.ref σ.length]]
 have R2:=(R.app [O.list []]).app [O.list [V.ref σ.length]]
 have K2:=(K.app [O.list []]).app [O.list [V.ref σ.length]]
 generalize (σ++[O.list []]).length=kZ at hk ⊢
 generalize σ++[O.list []]++[O.list [V.ref σ.length]]=τ at hz hk S2 l2 R2 K2 ⊢
 refine r5 (wo (F:=⟨some (.glob (.ref 250)),some (.ref kC),some (sx [stay (c 4)]),some (sx A8),some (.ref kP),some (.ref kH),some (.ref kT),some (.ref kO),some (.ref kS),some (.ref kr),some (.ref kW),x17,kR,kp⟩) (fw c) R.core K2 hk hz λg y13 y14 y15 y16=>⟨rfl,?_⟩)
 refine Fb (l2.app g) (R2.app g) (K2.app g).p λg2=>?_
 exact FC ((S2.app g).app g2) R.core (ad (ad R2.w)) (ad (ad K2.p))
noncomputable abbrev Ew:M Fl:=(aw (af 8 (v7 DD))
 (aw (af 9 (bz (ab (getL 4) (ab (getL 5) (ab (getL 8) (ab (aa (.bool false)) am)))) eR))
 (aw (af 10 (aj aA (getL 9) (aa (.int 0))))
 (aw (a8 (aT tA (bO (ab (getL 10) am) kK) (aP (ab (aa (.int 0)) (ab (aa (.int 1)) (ab (aa (.int 2)) (ab (aa (.int 3)) am)))))) (b8 (aa (.bool false))) (aa .next))
 (aw (af 11 Dq)
 (aw (af 12 zf) LK))))))
theorem Hw(S:LS c σ kC kP kH kT kO t o):W Ew ⟨σ,LX c kC kP kH kT kO x8 x9 x10 x11 x12 x13 x14 x15 x16 x17⟩ λf u=>f=.ret (.bool true):=by
 refine fA (xZ (seed:=λj=>(c j).fdiv 495) S (λj σ Q hj hC q=>zm (k:=0) rfl rfl hj hC q) λg kS la l=>?_)
 dsimp only[PI,PJ]
 replace S:=S.app g
 generalize σ++g=σ at S l ⊢
 refine fA (gc (ak (xG rfl (ak (xG rfl (ak (xG rfl (ak (xP (aJ (L8 S l λg mu r kr kW kC' kt kl R=>?_)))))))))))
 dsimp only[PI,PJ]
 replace S:=S.app g
 replace l:=l.app g
 generalize σ++g=σ at S l R ⊢
 refine fA (bw (xG rfl (xP (bN (i:=0) R.at_ (by decide) (by decide) (show 4<=1000000 by decide) rfl ?_))))
 dsimp only[PI,PJ]
 refine qz (cU (fz (ak (xG rfl (aJ (D2 R.core.lt R.core.inj R.w (cS (ak (xP (ak (xP (ak (xP (ak (xP (aJ ⟨show 4<=1000000 by decide,Bl (l := [0,1,2,3]) (ad ar) ar (gW (oJ (A4 ?_)))⟩))))))))))))))))
 replace S:=(S.app [O.list (iL [0,1,2,3])]).app [O.list [V.int 0,.int 1,.int 2,.int 3]]
 replace l:=(l.app [O.list (iL [0,1,2,3])]).app [O.list [V.int 0,.int 1,.int 2,.int 3]]
 replace R:=(R.app [O.list (iL [0,1,2,3])]).app [O.list [V.int 0,.int 1,.int 2,.int 3]]
 show W _ ⟨σ++[O.list (iL [0,1,2,3])]++[O.list [V.int 0,.int 1,.int 2,.int 3]],LX c kC kP kH kT kO (some (.ref kS)) (some (.ref kr)) (some (.ref kW)) x11 x12 x13 x14 x15 x16 x17⟩ _
 generalize σ++[O.list (iL [0,1,2,3])]++[O.list [V.int 0,.int 1,.int 2,.int 3]]=σ at S l R ⊢
 refine fA (GJ S λg rk T=>?_)
 dsimp only[PI,PJ]
 replace S:=(S.app g).app [O.list ((OP 4).map λk=>V.ref (rk k))]
 replace l:=(l.app g).app [O.list ((OP 4).map λk=>V.ref (rk k))]
 replace R:=(R.app g).app [O.list ((OP 4).map λk=>V.ref (rk k))]
 replace T:=T.app [O.list ((OP 4).map λk=>V.ref (rk k))]
 have hR:(σ++g++[O.list ((OP 4).map λk=>V.ref (rk k))])[(σ++g).length]?=some (.list ((OP 4).map λk=>V.ref (rk k))):=ar
 generalize (σ++g).length=kR at hR ⊢
 generalize σ++g++[O.list ((OP 4).map λk=>V.ref (rk k))]=σ at S l R T hR ⊢
 refine fA (Di T hR R.w R.core.lt λg=>?_)
 dsimp only[PI,PJ]
 exact LL ((S.app g).app _) ((l.app g).app _) ((R.app g).app _) ⟨ad (ad hR),((T.app g).app _).at_,ar⟩
theorem CH(js:List Int)(_:js.length<=63):∃st,CS js ⟨[],fS 18 [.glob (.ref 250)]⟩=some (.ret (.bool true),st):=by
 have h:W (vQ js Ew) ⟨[],fS 18 [.glob (.ref 250)]⟩ λf u=>f=.ret (.bool true):=Fi λσ kC kP kH kT kO t o S=>Hw S
 obtain⟨f,st,e,rfl⟩:=h
 exact⟨st,e⟩
theorem OG:PySem.Challenge.rw_tc0058_02.Holds:=ue CH
end
end Mine
end
theorem PySem.Challenge.cw_tc0058_02_holds : PySem.Challenge.rw_tc0058_02.Holds :=
  Mine.OG
